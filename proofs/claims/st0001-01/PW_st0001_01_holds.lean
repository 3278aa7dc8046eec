import PyProof.Rows.All
import Wide.All
import OpenK.AllK
import Wide.FinOn
import PySem.Challenge.RW_st0001_01
set_option Elab.async false
section
open PySem PySem.W PyProof.Rows
namespace Mine
set_option maxRecDepth 100000 in
set_option maxHeartbeats 8000000 in
open_top hd for PySem.Challenge.rw_st0001_01
end Mine
end
section
open PySem PySem.W PySem.Calls PyProof.Rows
namespace Mine

/-- pure values: what the law's names may hold -/
inductive PV where
  | undef | none
  | bool (b : Bool)
  | int (i : Int)
  | str (s : Str)
  | list (xs : List Int)
  | olist (xs : List Int)
  | blist (xs : List Int)
  | tup (xs : List Int)

noncomputable def PV.get? (m : List PV) (i : Nat) : Option PV := match m[i]? with
  | some .undef => Option.none
  | some p => some p
  | Option.none => Option.none

/-- a value stands for a pure value in a heap -/
noncomputable def VR (h : Heap) (v : Value) : PV → Prop
  | .undef => False
  | .none => v = .none
  | .bool b => v = .bool b
  | .int i => ∃ t, v = .int i t
  | .str s => ∃ t, v = .str s t
  | .list xs => ∃ a vs, v = .ref a ∧ h.IsList a vs ∧ IntsAre vs.toList xs
  | .olist xs => ∃ a vs, v = .ref a ∧ h.PlainList a vs ∧ IntsAre vs.toList xs
  | .blist xs => ∃ a vs, v = .ref a ∧ h.IsList a vs ∧ IntsAre vs.toList xs
  | .tup xs => ∃ a vs, v = .ref a ∧ IsTup h a vs ∧ IntsAre vs.toList xs

/-- what is kept of the objects that are sequences -/
noncomputable def KeptSeq (h h' : Heap) : Prop := ∀ b o vs n, h.get? b = some o → o.data = .seq vs n → h'.get? b = some o
theorem KeptSeq.of {h h' : Heap} (k : ∀ b o, h.get? b = some o → h'.get? b = some o) : KeptSeq h h' := fun b o _ _ e _ => k b o e

theorem isList_seq {h h' : Heap} {a : Addr} {vs : Array Value} (x : h.IsList a vs) (k : KeptSeq h h') : h'.IsList a vs :=
  let ⟨o, ho, hc, n, hd⟩ := x; ⟨o, k a o vs n ho hd, hc, n, hd⟩
theorem isTup_seq {h h' : Heap} {a : Addr} {vs : Array Value} (x : IsTup h a vs) (k : KeptSeq h h') : IsTup h' a vs :=
  let ⟨o, ho, hc, n, hd⟩ := x; ⟨o, k a o vs n ho hd, hc, n, hd⟩

theorem VR.seq {h h' : Heap} {v : Value} {p : PV} (x : VR h v p) (k : KeptSeq h h') : VR h' v p := by
  cases p with
  | undef => exact x
  | none => exact x
  | bool b => exact x
  | int i => exact x
  | str s => exact x
  | list xs => obtain ⟨a, vs, e, hl, hi⟩ := x; exact ⟨a, vs, e, isList_seq hl k, hi⟩
  | olist xs => obtain ⟨a, vs, e, hl, hi⟩ := x; exact ⟨a, vs, e, hl.at fun o e => by obtain ⟨n, e'⟩ := hl; rw [e'] at e; cases e; exact k a _ _ _ e' rfl, hi⟩
  | blist xs => obtain ⟨a, vs, e, hl, hi⟩ := x; exact ⟨a, vs, e, isList_seq hl k, hi⟩
  | tup xs => obtain ⟨a, vs, e, hl, hi⟩ := x; exact ⟨a, vs, e, isTup_seq hl k, hi⟩
theorem VR.keeps {h h' : Heap} {v : Value} {p : PV} (x : VR h v p) (k : ∀ b o, h.get? b = some o → h'.get? b = some o) : VR h' v p := x.seq (.of k)

/-- a value that is a reference is new -/
noncomputable def Fresh (h : Heap) (v : Value) : Prop := ∀ a, v = .ref a → h.get? a = none
theorem Fresh.int {h : Heap} {i : Int} {t : Tok} : Fresh h (.int i t) := nofun
theorem Fresh.bool {h : Heap} {b : Bool} : Fresh h (.bool b) := nofun
theorem Fresh.back {h h' : Heap} {v : Value} (f : Fresh h' v) (k : ∀ b o, h.get? b = some o → h'.get? b = some o) : Fresh h v := fun a e => by
  cases q : h.get? a with
  | none => rfl
  | some o => have := k a o q; rw [f a e] at this; cases this

/-- how a name of the frame is read -/
noncomputable def Ld (env : Env) (h : Heap) (x : Str) (v : Value) : Prop :=
  (env.kindOf x = some .local ∧ ∃ ml, h.Ns env.locals ml ∧ ml x = some v) ∨
  ((env.kindOf x = some .cell ∨ env.kindOf x = some .free) ∧ ∃ c, env.cells.lookup x = some c ∧ h.IsCell c (some v))
theorem Ld.keeps {env : Env} {h h' : Heap} {x : Str} {v : Value} (l : Ld env h x v) (k : ∀ b o, h.get? b = some o → h'.get? b = some o) : Ld env h' x v := by
  rcases l with ⟨hk, ml, hn, hm⟩ | ⟨hk, c, hc, hx⟩
  · exact .inl ⟨hk, ml, hn.keeps k, hm⟩
  · exact .inr ⟨hk, c, hc, hx.keeps k⟩

/-- names that are the language's own -/
noncomputable def plainName (x : Str) : Bool := !(x == ("__debug__" : Str)) && !(x == ("__classdict__" : Str))

noncomputable def Rd (env : Env) (ns : List Str) (m : List PV) (h : Heap) : Prop :=
  ∀ (i : Nat) (p : PV), m[i]? = some p → p ≠ .undef → ∃ x v, ns[i]? = some x ∧ Ld env h x v ∧ VR h v p
theorem Rd.keeps {env : Env} {ns : List Str} {m : List PV} {h h' : Heap} (r : Rd env ns m h) (k : ∀ b o, h.get? b = some o → h'.get? b = some o) : Rd env ns m h' := fun i p e n =>
  let ⟨x, v, h1, h2, h3⟩ := r i p e n; ⟨x, v, h1, h2.keeps k, h3.keeps k⟩

structure AOk (k : Nat) (A : Around) : Prop where
  handled : A.handled = none
  depth : A.depth + k < recursionLimit
  units : A.units + 4 * k + 100 < cLine
  frames : ∃ l, A.frames = some l
theorem AOk.deeper {k : Nat} {A : Around} {env : Env} (a : AOk (k + 1) A) : AOk k (A.deeper env) :=
  ⟨a.handled, (by have := a.depth; show A.depth + 1 + k < _; omega), (by have := a.units; show A.units + 3 + 4 * k + 100 < _; omega), (by obtain ⟨l, h⟩ := a.frames; exact ⟨env :: l, by show A.frames.map _ = _; rw [h]; rfl⟩)⟩
theorem AOk.room {k : Nat} {A : Around} (a : AOk k A) : A.depth < recursionLimit := by have := a.depth; omega
theorem AOk.cunits {k : Nat} {A : Around} (a : AOk k A) : A.units < cLine := by have := a.units; omega

/-- the ground: what holds of the text's globals in the heap where the law is called -/
structure Gd (hB : Heap) (mg mb : Str → Option Value) (defs : List DefItem) (names : List Str) : Prop where
  g : hB.Ns mainGlobals mg
  b : hB.Ns builtinsNs mb
  builtins : ∀ x : Str, x ≠ "__name__" → mb x = bootBuiltins x
  lim : hB.NoLimit
  miss : ∀ x ∈ names, mg x = none
  at_ : ∀ e ∈ defs, e.At mg hB

structure EnvOk (sc : Scope) (env : Env) : Prop where
  scope : env.scope = sc
  kind : sc.kind = .function
  globals : env.globals = mainGlobals
  builtins : env.builtins = builtinsNs
  cells : ∀ n, (sc.names.lookup n = some .cell ∨ sc.names.lookup n = some .free) → (env.cells.lookup n).isSome = true

/-- what a step may do: nothing that stood is turned -/
noncomputable def Kp (s s' : Shared) : Prop := ∃ h' tk, s' = { s with heap := h', toks := tk } ∧ ∀ b o, s.heap.get? b = some o → h'.get? b = some o
theorem Kp.lib {s s' : Shared} (k : Kp s s') : Keeps s s' := k
theorem Kp.ofLib {s s' : Shared} (k : Keeps s s') : Kp s s' := k

noncomputable abbrev Up (hB h : Heap) : Prop := ∀ b o, hB.get? b = some o → h.get? b = some o

section
variable (prog : Program) (w : World) (hB : Heap) (k : Nat) (sc : Scope) (ns : List Str)

/-- the expression e gives F of the frame's values -/
noncomputable def EOk (e : Expr) (F : List PV → Option PV) : Prop :=
  ∀ (A : Around) (env : Env) (s : Shared) (m : List PV) (p : PV) (Q : Value → Shared → Prop) (E : Value → Shared → Prop),
    AOk k A → EnvOk sc env → Up hB s.heap → Rd env ns m s.heap → F m = some p →
    (∀ v s', Kp s s' → VR s'.heap v p → Q v s') → wpAny (model prog w) A (eval e env) Q E s
/-- .. and what it gives is new where it is a reference -/
noncomputable def EOkF (e : Expr) (F : List PV → Option PV) : Prop :=
  ∀ (A : Around) (env : Env) (s : Shared) (m : List PV) (p : PV) (Q : Value → Shared → Prop) (E : Value → Shared → Prop),
    AOk k A → EnvOk sc env → Up hB s.heap → Rd env ns m s.heap → F m = some p →
    (∀ v s', Kp s s' → VR s'.heap v p → Fresh s.heap v → Q v s') → wpAny (model prog w) A (eval e env) Q E s
/-- the test e says F -/
noncomputable def TOk (e : Expr) (F : List PV → Option Bool) : Prop :=
  ∀ (A : Around) (env : Env) (s : Shared) (m : List PV) (p : Bool) (Q : Bool → Shared → Prop) (E : Value → Shared → Prop),
    AOk k A → EnvOk sc env → Up hB s.heap → Rd env ns m s.heap → F m = some p →
    (∀ s', Kp s s' → Q p s') → wpAny (model prog w) A (isTrue e env (eval e env)) Q E s
end

theorem Kp.refl (s : Shared) : Kp s s := ⟨s.heap, s.toks, rfl, fun _ _ e => e⟩
theorem Kp.trans {s₁ s₂ s₃ : Shared} (a : Kp s₁ s₂) (b : Kp s₂ s₃) : Kp s₁ s₃ := by
  obtain ⟨h, tk, rfl, k⟩ := a
  obtain ⟨h', tk', rfl, k'⟩ := b
  exact ⟨h', tk', rfl, fun b o e => k' b o (k b o e)⟩
theorem Kp.up {s s' : Shared} (a : Kp s s') : ∀ b o, s.heap.get? b = some o → s'.heap.get? b = some o := by
  obtain ⟨h, tk, rfl, k⟩ := a; exact k
theorem Kp.tok {s : Shared} {t : Nat} : Kp s { s with toks := t } := ⟨s.heap, t, rfl, fun _ _ e => e⟩
theorem Kp.heap {s : Shared} {h : Heap} {t : Nat} (k : ∀ b o, s.heap.get? b = some o → h.get? b = some o) : Kp s { s with heap := h, toks := t } := ⟨h, t, rfl, k⟩

noncomputable def PV.scalar : PV → Bool
  | .list _ | .olist _ | .blist _ | .tup _ => false
  | _ => true
theorem VR.fresh {h h₀ : Heap} {v : Value} {p : PV} (x : VR h v p) (hp : p.scalar = true) : Fresh h₀ v := by
  cases p with
  | undef => exact x.elim
  | none => cases x; nofun
  | bool b => cases x; nofun
  | int i => obtain ⟨t, rfl⟩ := x; nofun
  | str s => obtain ⟨t, rfl⟩ := x; nofun
  | list xs => cases hp
  | olist xs => cases hp
  | blist xs => cases hp
  | tup xs => cases hp

section
variable {prog : Program} {w : World} {hB : Heap} {k : Nat} {sc : Scope} {ns : List Str}

theorem EOkF.e {e : Expr} {F : List PV → Option PV} (x : EOkF prog w hB k sc ns e F) : EOk prog w hB k sc ns e F :=
  fun A env s m p Q E a b c d f h => x A env s m p Q E a b c d f fun v s' h1 h2 _ => h v s' h1 h2
theorem EOk.f {e : Expr} {F : List PV → Option PV} (x : EOk prog w hB k sc ns e F) (hs : ∀ m p, F m = some p → p.scalar = true) : EOkF prog w hB k sc ns e F :=
  fun A env s m p Q E a b c d f h => x A env s m p Q E a b c d f fun v s' h1 h2 => h v s' h1 h2 (h2.fresh (hs m p f))

theorem EOk.congr {e : Expr} {F G : List PV → Option PV} (x : EOk prog w hB k sc ns e F) (h : ∀ m p, G m = some p → F m = some p) : EOk prog w hB k sc ns e G :=
  fun A env s m p Q E a b c d f => x A env s m p Q E a b c d (h m p f)

theorem load_ok {A : Around} {env : Env} {s : Shared} {x : Str} {v : Value} {Q : Value → Shared → Prop} {E : Value → Shared → Prop} (hk : env.scope.kind = .function)
    (hp : plainName x = true) (l : Ld env s.heap x v) (h : Q v s) : wpAny (model prog w) A (loadName env x) Q E s := by
  rcases l with ⟨hl, ml, hn, hm⟩ | ⟨hl | hl, c, hc, hx⟩
  · exact wpAny_loadName_local hk hl hn hm h
  · exact wpAny_loadName_cell hk hl hc hx h
  · refine wpAny_loadName_free hk hl hc hx h ?_
    unfold plainName at hp
    simp only [Bool.and_eq_true, Bool.not_eq_true'] at hp
    exact hp.2

theorem get_some {m : List PV} {i : Nat} {p : PV} (h : PV.get? m i = some p) : m[i]? = some p ∧ p ≠ .undef := by
  unfold PV.get? at h
  split at h
  · cases h
  · rename_i q hq hn; cases h; exact ⟨by assumption, fun e => by subst e; contradiction⟩
  · cases h
theorem E_name {x : Str} {pos : Pos} (i : Nat) (hi : ns[i]? = some x) (hp : plainName x = true) : EOk prog w hB k sc ns (.Name x pos) (fun m => PV.get? m i) := by
  intro A env s m p Q E a eo up r hF h
  have hq : m[i]? = some p ∧ p ≠ .undef := get_some hF
  obtain ⟨x', v, h1, h2, h3⟩ := r i p hq.1 hq.2
  have : x' = x := Option.some.inj (h1.symm.trans hi)
  subst this
  refine wpAny_Name (load_ok (by rw [eo.scope]; exact eo.kind) hp h2 (h v s (Kp.refl s) h3)) ?_
  unfold plainName at hp
  simp only [Bool.and_eq_true, Bool.not_eq_true'] at hp
  exact hp.1

theorem E_int {i : Int} {kk pos} : EOk prog w hB k sc ns (.Constant (.int i) kk pos) (fun _ => some (.int i)) := by
  intro A env s m p Q E a eo up r hF h
  cases hF
  exact wpAny_Constant_int (h _ _ Kp.tok ⟨_, rfl⟩)
theorem E_str {x : Str} {kk pos} : EOk prog w hB k sc ns (.Constant (.str x) kk pos) (fun _ => some (.str x)) := by
  intro A env s m p Q E a eo up r hF h
  cases hF
  exact Constant_str (h _ _ Kp.tok ⟨_, rfl⟩)
theorem E_bool {x : Bool} {kk pos} : EOk prog w hB k sc ns (.Constant (.bool x) kk pos) (fun _ => some (.bool x)) := by
  intro A env s m p Q E a eo up r hF h
  cases hF
  exact Constant_bool (h _ _ (Kp.refl s) rfl)

/-- two ints put together -/
noncomputable def bin (G : Int → Int → Option PV) (F₁ F₂ : List PV → Option PV) : List PV → Option PV := fun m =>
  match F₁ m, F₂ m with
  | some (.int a), some (.int b) => G a b
  | _, _ => none

theorem bin_some {G : Int → Int → Option PV} {F₁ F₂ : List PV → Option PV} {m : List PV} {p : PV} (h : bin G F₁ F₂ m = some p) : ∃ a b, F₁ m = some (.int a) ∧ F₂ m = some (.int b) ∧ G a b = some p := by
  unfold bin at h
  split at h
  · rename_i a b e1 e2; exact ⟨a, b, e1, e2, h⟩
  · cases h

theorem E_binop {l r : Expr} {op : Operator} {pos : Pos} {F₁ F₂ : List PV → Option PV} {G : Int → Int → Option PV}
    (hl : EOk prog w hB k sc ns l F₁) (hr : EOk prog w hB k sc ns r F₂)
    (hop : ∀ (A : Around) (s : Shared) (a b : Int) (t u : Tok) (p : PV) (Q : Value → Shared → Prop) (E : Value → Shared → Prop), G a b = some p → (∀ v s', Kp s s' → VR s'.heap v p → Q v s') → wpAny (model prog w) A (binaryOp op (.int a t) (.int b u)) Q E s) :
    EOk prog w hB k sc ns (.BinOp l op r pos) (bin G F₁ F₂) := by
  intro A env s m p Q E a eo up rd hF h
  obtain ⟨x, y, h1, h2, h3⟩ := bin_some hF
  refine wpAny_BinOp (hl A env s m _ _ E a eo up rd h1 fun v s₁ k₁ v₁ => ?_)
  refine hr A env s₁ m _ _ E a eo (fun b o e => k₁.up b o (up b o e)) (rd.keeps k₁.up) h2 fun v' s₂ k₂ v₂ => ?_
  obtain ⟨t, rfl⟩ := v₁
  obtain ⟨u, rfl⟩ := v₂
  exact @hop A s₂ x y t u p Q E h3 fun v s' k₃ v₃ => h v s' (k₁.trans (k₂.trans k₃)) v₃

theorem E_add {l r : Expr} {pos : Pos} {F₁ F₂ : List PV → Option PV} (hl : EOk prog w hB k sc ns l F₁) (hr : EOk prog w hB k sc ns r F₂) :
    EOk prog w hB k sc ns (.BinOp l .Add r pos) (bin (fun a b => some (.int (a + b))) F₁ F₂) :=
  E_binop hl hr fun A s a b t u p Q E e h => by cases e; exact add_int (h _ _ Kp.tok ⟨_, rfl⟩)
theorem E_sub {l r : Expr} {pos : Pos} {F₁ F₂ : List PV → Option PV} (hl : EOk prog w hB k sc ns l F₁) (hr : EOk prog w hB k sc ns r F₂) :
    EOk prog w hB k sc ns (.BinOp l .Sub r pos) (bin (fun a b => some (.int (a - b))) F₁ F₂) :=
  E_binop hl hr fun A s a b t u p Q E e h => by cases e; exact sub_int (h _ _ Kp.tok ⟨_, rfl⟩)
theorem E_xor {l r : Expr} {pos : Pos} {F₁ F₂ : List PV → Option PV} (hl : EOk prog w hB k sc ns l F₁) (hr : EOk prog w hB k sc ns r F₂) :
    EOk prog w hB k sc ns (.BinOp l .BitXor r pos) (bin (fun a b => some (.int (Builtin.bitXor a b))) F₁ F₂) :=
  E_binop hl hr fun A s a b t u p Q E e h => by cases e; exact xor_int (h _ _ Kp.tok ⟨_, rfl⟩)
theorem E_div {l r : Expr} {pos : Pos} {F₁ F₂ : List PV → Option PV} (hl : EOk prog w hB k sc ns l F₁) (hr : EOk prog w hB k sc ns r F₂) :
    EOk prog w hB k sc ns (.BinOp l .FloorDiv r pos) (bin (fun a b => if 0 < b ∧ b < 2 ^ 30 then some (.int (a.fdiv b)) else none) F₁ F₂) :=
  E_binop hl hr fun A s a b t u p Q E e h => by
    by_cases hb : 0 < b ∧ b < 2 ^ 30
    · rw [if_pos hb] at e; cases e
      exact floordiv_int (by omega) (h _ _ Kp.tok ⟨_, rfl⟩) (.inl (PyProof.noPylong_small (by omega)))
    · rw [if_neg hb] at e; cases e
theorem E_mod {l r : Expr} {pos : Pos} {F₁ F₂ : List PV → Option PV} (hl : EOk prog w hB k sc ns l F₁) (hr : EOk prog w hB k sc ns r F₂) :
    EOk prog w hB k sc ns (.BinOp l .Mod r pos) (bin (fun a b => if 0 < b ∧ b < 2 ^ 30 then some (.int (a.fmod b)) else none) F₁ F₂) :=
  E_binop hl hr fun A s a b t u p Q E e h => by
    by_cases hb : 0 < b ∧ b < 2 ^ 30
    · rw [if_pos hb] at e; cases e
      exact mod_int' (by omega) (h _ _ Kp.tok ⟨_, rfl⟩)
    · rw [if_neg hb] at e; cases e
theorem E_mul {l r : Expr} {pos : Pos} {F₁ F₂ : List PV → Option PV} (hl : EOk prog w hB k sc ns l F₁) (hr : EOk prog w hB k sc ns r F₂) :
    EOk prog w hB k sc ns (.BinOp l .Mult r pos) (bin (fun a b => if a.natAbs < 2 ^ 60 ∧ b.natAbs < 2 ^ 60 then some (.int (a * b)) else none) F₁ F₂) :=
  E_binop hl hr fun A s a b t u p Q E e h => by
    by_cases hb : a.natAbs < 2 ^ 60 ∧ b.natAbs < 2 ^ 60
    · rw [if_pos hb] at e; cases e
      exact PyProof.Rows.mul_int (h _ _ Kp.tok ⟨_, rfl⟩) (by obtain ⟨h1, h2⟩ := hb; mul_fits)
    · rw [if_neg hb] at e; cases e
theorem E_pow {l r : Expr} {pos : Pos} {F₁ F₂ : List PV → Option PV} (hl : EOk prog w hB k sc ns l F₁) (hr : EOk prog w hB k sc ns r F₂) :
    EOk prog w hB k sc ns (.BinOp l .Pow r pos) (bin (fun a b => if a = 2 ∧ 0 ≤ b ∧ b < 1000 then some (.int (2 ^ b.toNat)) else none) F₁ F₂) :=
  E_binop hl hr fun A s a b t u p Q E e h => by
    by_cases hb : a = 2 ∧ 0 ≤ b ∧ b < 1000
    · rw [if_pos hb] at e; cases e
      obtain ⟨rfl, h1, h2⟩ := hb
      exact pow_int_small h1 (by omega) (by decide) (h _ _ Kp.tok ⟨_, rfl⟩)
    · rw [if_neg hb] at e; cases e
end
end Mine
end
section
open PySem PySem.W PySem.Calls PyProof.Rows
namespace Mine

section
variable {prog : Program} {w : World} {hB : Heap} {k : Nat} {sc : Scope} {ns : List Str}
variable {mg mb : Str → Option Value} {defs : List DefItem} {names : List Str}

theorem Gd.lookB (g : Gd hB mg mb defs names) {A : Around} {env : Env} {s : Shared} {x : Str} {pos : Pos} {v : Value} {Q : Value → Shared → Prop} {E : Value → Shared → Prop}
    (eo : EnvOk sc env) (up : Up hB s.heap) (hx : sc.names.lookup x = some .globalImplicit) (hm : x ∈ names) (hv : bootBuiltins x = some v) (hn : x ≠ "__name__") (hp : plainName x = true) (h : Q v s) :
    wpAny (model prog w) A (eval (.Name x pos) env) Q E s := by
  refine Name_function_global (by rw [eo.scope]; exact eo.kind) (by unfold Env.kindOf; rw [eo.scope]; exact hx)
    (loadGlobal_builtin (env := env) (by rw [eo.globals]; exact g.g.keeps up) (g.miss x hm) (by rw [eo.builtins]; exact g.b.keeps up) ((g.builtins x hn).trans hv) h) ?_
  unfold plainName at hp
  simp only [Bool.and_eq_true, Bool.not_eq_true'] at hp
  exact hp.1
theorem Gd.lookG (g : Gd hB mg mb defs names) {A : Around} {env : Env} {s : Shared} {x : Str} {pos : Pos} {v : Value} {Q : Value → Shared → Prop} {E : Value → Shared → Prop}
    (eo : EnvOk sc env) (up : Up hB s.heap) (hx : sc.names.lookup x = some .globalImplicit) (hm : mg x = some v) (hp : plainName x = true) (h : Q v s) :
    wpAny (model prog w) A (eval (.Name x pos) env) Q E s := by
  refine Name_function_global (by rw [eo.scope]; exact eo.kind) (by unfold Env.kindOf; rw [eo.scope]; exact hx)
    (loadGlobal_global (env := env) (by rw [eo.globals]; exact g.g.keeps up) hm h) ?_
  unfold plainName at hp
  simp only [Bool.and_eq_true, Bool.not_eq_true'] at hp
  exact hp.1

/-- what a built-in needs of its name -/
structure IsB (mgx : List Str) (sc : Scope) (x : Str) (v : Value) : Prop where
  glob : sc.names.lookup x = some .globalImplicit
  mem : x ∈ mgx
  boot : bootBuiltins x = some v
  nn : x ≠ "__name__"
  plain : plainName x = true

noncomputable abbrev star1 (e : Expr) : Prop := ∀ (env : Env) (rest : List Expr), starEach (e :: rest) env = (false, eval e env) :: starEach rest env

variable (prog w hB k) in
/-- a call of f on values that stand for ps gives G ps -/
noncomputable def COk (f : Value) (G : List PV → Option PV) : Prop :=
  ∀ (A : Around) (s : Shared) (vs : List Value) (ps : List PV) (p : PV) (Q : Value → Shared → Prop) (E : Value → Shared → Prop),
    AOk k A → Up hB s.heap → vs.length = ps.length → (∀ (i : Nat) (v : Value) (q : PV), vs[i]? = some v → ps[i]? = some q → VR s.heap v q) → G ps = some p →
    (∀ v s', Kp s s' → VR s'.heap v p → Fresh s.heap v → Q v s') → wpAny (model prog w) A (call f vs) Q E s

theorem E_bi1 (g : Gd hB mg mb defs names) {x : Str} {id : String} {e : Expr} {p pos : Pos} {F : List PV → Option PV} {G : List PV → Option PV} (b : IsB names sc x (.builtin id)) (he : EOk prog w hB k sc ns e F)
    (hc : COk prog w hB k (.builtin id) G) (hs : star1 e) :
    EOkF prog w hB k sc ns (.Call (.Name x p) [e] [] pos) (fun m => (F m).bind fun q => G [q]) := by
  intro A env s m p Q E a eo up r hF h
  obtain ⟨q, hq, hG⟩ := Option.bind_eq_some_iff.mp hF
  refine Call_ (g.lookB eo up b.glob b.mem b.boot b.nn b.plain ?_)
  refine callWith_builtin1 (args_cons (he A env s m q _ E a eo up r hq fun v s₁ k₁ v₁ => args_nil ?_) (hs env [])) (hs env [])
  exact hc A s₁ [v] [q] p Q E a (fun b o e => k₁.up b o (up b o e)) rfl (fun i u r h1 h2 => by
    cases i with
    | zero => simp at h1 h2; subst h1 h2; exact v₁
    | succ i => simp at h1) hG fun v' s' k₂ v₂ f₂ => h v' s' (k₁.trans k₂) v₂ (f₂.back k₁.up)
theorem E_bi2 (g : Gd hB mg mb defs names) {x : Str} {id : String} {e₁ e₂ : Expr} {p pos : Pos} {F₁ F₂ : List PV → Option PV} {G : List PV → Option PV} (b : IsB names sc x (.builtin id)) (he : EOk prog w hB k sc ns e₁ F₁)
    (he₂ : EOk prog w hB k sc ns e₂ F₂) (hc : COk prog w hB k (.builtin id) G) (hs : star1 e₁) (hs₂ : star1 e₂) :
    EOkF prog w hB k sc ns (.Call (.Name x p) [e₁, e₂] [] pos) (fun m => (F₁ m).bind fun q => (F₂ m).bind fun r => G [q, r]) := by
  intro A env s m p Q E a eo up r hF h
  obtain ⟨q, hq, hF⟩ := Option.bind_eq_some_iff.mp hF
  obtain ⟨q₂, hq₂, hG⟩ := Option.bind_eq_some_iff.mp hF
  refine Call_ (g.lookB eo up b.glob b.mem b.boot b.nn b.plain ?_)
  refine callWith_builtin1 (args_cons (he A env s m q _ E a eo up r hq fun v s₁ k₁ v₁ => args_cons (he₂ A env s₁ m q₂ _ E a eo (fun b o e => k₁.up b o (up b o e)) (r.keeps k₁.up) hq₂ fun v' s₂ k₂ v₂ => args_nil ?_) (hs₂ env [])) (hs env [e₂])) (hs env [e₂]) (by rw [hs₂ env []]; rfl)
  exact hc A s₂ [v, v'] [q, q₂] p Q E a (fun b o e => (k₁.trans k₂).up b o (up b o e)) rfl (fun i u r h1 h2 => by
    cases i with
    | zero => simp at h1 h2; subst h1 h2; exact v₁.keeps k₂.up
    | succ i => cases i with
      | zero => simp at h1 h2; subst h1 h2; exact v₂
      | succ i => simp at h1) hG fun v' s' k₃ v₃ f₃ => h v' s' (k₁.trans (k₂.trans k₃)) v₃ (f₃.back (k₁.trans k₂).up)

theorem vr1 {h : Heap} {vs : List Value} {q : PV} (hl : vs.length = [q].length) (hv : ∀ (i : Nat) (v : Value) (q' : PV), vs[i]? = some v → [q][i]? = some q' → VR h v q') : ∃ v, vs = [v] ∧ VR h v q := by
  match vs, hl with
  | [v], _ => exact ⟨v, rfl, hv 0 v q rfl rfl⟩
theorem vr2 {h : Heap} {vs : List Value} {q r : PV} (hl : vs.length = [q, r].length) (hv : ∀ (i : Nat) (v : Value) (q' : PV), vs[i]? = some v → [q, r][i]? = some q' → VR h v q') : ∃ v u, vs = [v, u] ∧ VR h v q ∧ VR h u r := by
  match vs, hl with
  | [v, u], _ => exact ⟨v, u, rfl, hv 0 v q rfl rfl, hv 1 u r rfl rfl⟩

/-- a list's ints, whichever way it is held -/
noncomputable def PV.ints? : PV → Option (List Int)
  | .list xs => some xs
  | .olist xs => some xs
  | .blist xs => some xs
  | _ => Option.none
theorem VR.ints {h : Heap} {v : Value} {p : PV} {xs : List Int} (x : VR h v p) (e : p.ints? = some xs) : ∃ a vs, v = .ref a ∧ h.IsList a vs ∧ IntsAre vs.toList xs := by
  cases p with
  | list ys => cases e; exact x
  | blist ys => cases e; exact x
  | olist ys => cases e; obtain ⟨a, vs, e, hl, hi⟩ := x; exact ⟨a, vs, e, hl.isList, hi⟩
  | _ => cases e

noncomputable def lenG : List PV → Option PV
  | [p] => p.ints?.bind fun xs => if xs.length < 100000 then some (.int xs.length) else none
  | _ => none
theorem C_len : COk prog w hB k (.builtin "len") lenG := by
  intro A s vs ps p Q E a up hl hv hG h
  match ps, hG with
  | [q], hG =>
    obtain ⟨xs, hx, hG⟩ := Option.bind_eq_some_iff.mp hG
    obtain ⟨v, rfl, hvr⟩ := vr1 hl hv
    obtain ⟨l, us, rfl, hL, hI⟩ := hvr.ints hx
    have hlen : us.size = xs.length := by have := hI.length; simpa using this
    by_cases hb : xs.length < 100000
    · rw [if_pos hb] at hG; cases hG
      refine len_list hL (by omega) (h _ _ Kp.tok ?_ Fresh.int)
      rw [hlen]
      exact ⟨_, rfl⟩
    · rw [if_neg hb] at hG; cases hG

theorem preSum_take : ∀ (xs : List Int) (n : Nat), n ≤ xs.length → preSum (fun i => xs.getD i 0) n = (xs.take n).sum
  | xs, 0, _ => by simp [preSum]
  | xs, n + 1, h => by
    have hn : n < xs.length := h
    rw [preSum, preSum_take xs n (by omega), List.take_succ_eq_append_getElem hn, List.sum_append]
    simp [List.getD, hn]

theorem Kp.over {s s' : Shared} (a : Kp s s') {I : Addr} (h0 : s.heap.get? I = none) {h' : Heap} {tk : Nat} (hk : ∀ b o, b ∉ [I] → s'.heap.get? b = some o → h'.get? b = some o) : Kp s { s' with heap := h', toks := tk } := by
  obtain ⟨h₁, tk₁, rfl, k⟩ := a
  refine ⟨h', tk, rfl, fun b o e => hk b o (fun hm => ?_) (k b o e)⟩
  simp at hm
  subst hm
  rw [h0] at e; cases e

/-- a list read item by item -/
theorem iter_list {A : Around} {s : Shared} {l : Addr} {us : Array Value} {Q : Value → Shared → Prop} {E : Value → Shared → Prop} (hh : A.handled = none) (hL : s.heap.IsList l us)
    (h : ∀ I s', Kp s s' → s.heap.get? I = none → Walks prog w A I [I, l] [I] us.size (fun i v => us[i]? = some v) (fun i h => h.IsListIter I l i ∧ h.IsList l us) → (s'.heap.IsListIter I l 0 ∧ s'.heap.IsList l us) →
      (∀ b ∈ [I, l], b < s'.heap.objs.size) → (∃ o, s'.heap.get? I = some o ∧ o.cls = .type "list_iterator") → Q (.ref I) s') : wpAny (model prog w) A (pyIter (.ref l)) Q E s := by
  have hlt : l < s.heap.objs.size := let ⟨o, ho, _⟩ := hL; Heap.lt_size ho
  refine wpAny_pyIter_list hL (h _ _ ⟨_, _, rfl, fun b o e => Heap.get?_push_of_some _ e⟩ ?_ (Walks.list hh _ l (Nat.ne_of_lt hlt) us) ⟨⟨_, Heap.get?_push_size _ rfl, rfl, rfl⟩, hL.push _⟩ ?_ ⟨_, Heap.get?_push_size _ rfl, rfl⟩)
  · cases q : s.heap.get? s.heap.objs.size with
    | none => rfl
    | some o => exact absurd (Heap.lt_size q) (Nat.lt_irrefl _)
  · intro b hb
    show b < (s.heap.push _).objs.size
    rw [Heap.size_push]
    simp at hb
    rcases hb with rfl | rfl
    · exact Nat.lt_succ_self _
    · exact Nat.lt_succ_of_lt hlt

noncomputable def sumG : List PV → Option PV
  | [p] => p.ints?.bind fun xs => some (.int xs.sum)
  | _ => none
theorem at_int {us : Array Value} {xs : List Int} (hI : IntsAre us.toList xs) {i : Nat} {v : Value} (h : us[i]? = some v) : ∃ t, v = .int (xs.getD i 0) t := by
  obtain ⟨n, t, e, hn⟩ := hI.at i v (by simpa using h)
  exact ⟨t, by rw [e]; simp [List.getD, hn]⟩
theorem C_sum : COk prog w hB k (.builtin "sum") sumG := by
  intro A s vs ps p Q E a up hl hv hG h
  match ps, hG with
  | [q], hG =>
    obtain ⟨xs, hx, hG⟩ := Option.bind_eq_some_iff.mp hG
    cases hG
    obtain ⟨v, rfl, hvr⟩ := vr1 hl hv
    obtain ⟨l, us, rfl, hL, hI⟩ := hvr.ints hx
    have hlen : us.size = xs.length := by have := hI.length; simpa using this
    refine call_sum_walkG (iter_list (A := A.in1) a.handled hL fun I s' k₁ hI0 W st hfp _ => ?_)
    refine ⟨I, _, _, _, _, _, fun i => xs.getD i 0, rfl, W, st, hfp, fun i v hv => at_int hI hv, fun h' tk t' hk => ?_⟩
    rw [hlen, preSum_take xs _ (Nat.le_refl _), List.take_length]
    exact h _ _ (k₁.over hI0 hk) ⟨_, rfl⟩ Fresh.int
end
end Mine
end
section
open PySem PySem.W PySem.Calls PyProof.Rows
namespace Mine

section
variable {prog : Program} {w : World} {hB : Heap} {k : Nat} {sc : Scope} {ns : List Str}
variable {mg mb : Str → Option Value} {defs : List DefItem} {names : List Str}

noncomputable def maxL : List Int → Int
  | [] => 0
  | x :: r => r.foldl (fun a b => if b > a then b else a) x
theorem maxF_ge : ∀ (r : List Int) (x : Int), x ≤ r.foldl (fun a b => if b > a then b else a) x ∧ (∀ a ∈ r, a ≤ r.foldl (fun a b => if b > a then b else a) x) ∧ (r.foldl (fun a b => if b > a then b else a) x = x ∨ r.foldl (fun a b => if b > a then b else a) x ∈ r)
  | [], x => ⟨Int.le_refl _, nofun, .inl rfl⟩
  | y :: r, x => by
    obtain ⟨h1, h2, h3⟩ := maxF_ge r (if y > x then y else x)
    rw [List.foldl_cons]
    have hx : x ≤ (if y > x then y else x) := by split <;> omega
    have hy : y ≤ (if y > x then y else x) := by split <;> omega
    have hz : (if y > x then y else x) = x ∨ (if y > x then y else x) = y := by split <;> simp
    refine ⟨Int.le_trans hx h1, fun a ha => ?_, ?_⟩
    · rcases List.mem_cons.mp ha with rfl | ha
      · exact Int.le_trans hy h1
      · exact h2 a ha
    · rcases h3 with h3 | h3
      · rw [h3]
        rcases hz with hz | hz
        · exact .inl hz
        · rw [hz]; exact .inr (List.mem_cons_self)
      · exact .inr (List.mem_cons_of_mem _ h3)
theorem maxL_is {xs : List Int} {M : Int} (h1 : M ∈ xs) (h2 : ∀ a ∈ xs, a ≤ M) : maxL xs = M := by
  cases xs with
  | nil => cases h1
  | cons x r =>
    obtain ⟨g1, g2, g3⟩ := maxF_ge r x
    have a1 : M ≤ r.foldl (fun a b => if b > a then b else a) x := by
      rcases List.mem_cons.mp h1 with rfl | h
      · exact g1
      · exact g2 M h
    have a2 : r.foldl (fun a b => if b > a then b else a) x ≤ M := by
      rcases g3 with g3 | g3
      · rw [g3]; exact h2 x List.mem_cons_self
      · exact h2 _ (List.mem_cons_of_mem _ g3)
    show r.foldl (fun a b => if b > a then b else a) x = M
    omega

noncomputable def maxG : List PV → Option PV
  | [p] => p.ints?.bind fun xs => if xs = [] then none else some (.int (maxL xs))
  | [.int a, .int b] => some (.int (if b > a then b else a))
  | _ => none
theorem maxG_inv {ps : List PV} {p : PV} (h : maxG ps = some p) : (∃ q, ps = [q]) ∨ ∃ x y, ps = [.int x, .int y] := by
  rcases ps with _ | ⟨q, _ | ⟨r, _ | ⟨r2, rest⟩⟩⟩
  · cases h
  · exact .inl ⟨q, rfl⟩
  · refine .inr ?_
    revert h
    cases q <;> cases r <;> first | exact fun _ => ⟨_, _, rfl⟩ | exact nofun
  · simp [maxG] at h
theorem C_max : COk prog w hB k (.builtin "max") maxG := by
  intro A s vs ps p Q E a up hl hv hG h
  rcases maxG_inv hG with ⟨q, rfl⟩ | ⟨x, y, rfl⟩
  · obtain ⟨xs, hx, hG⟩ := Option.bind_eq_some_iff.mp hG
    obtain ⟨v, rfl, hvr⟩ := vr1 hl hv
    obtain ⟨l, us, rfl, hL, hI⟩ := hvr.ints hx
    by_cases he : xs = []
    · rw [if_pos he] at hG; cases hG
    · rw [if_neg he] at hG; cases hG
      obtain ⟨zs, e⟩ := hI.allInts.items
      have hzs : xs = zs.toList.map (·.1) := by
        rw [← hI.numsOf, ← nums_intItems, ← e]
      have hsz : 0 < zs.size := by
        have h3 : 0 < xs.length := by
          cases xs with
          | nil => exact absurd rfl he
          | cons => simp
        rw [hzs, List.length_map, Array.length_toList] at h3; exact h3
      have hL' : s.heap.IsList l (intItems zs) := by rw [← e]; exact hL
      refine max_intList a.handled hL' hsz fun v h' tk hv hk => ?_
      obtain ⟨t, rfl⟩ := intItems_at hv
      obtain ⟨h1, h2⟩ := argBest_gt (numAt zs) (zs.size - 1)
      refine h _ _ ⟨h', tk, rfl, hk⟩ ⟨t, ?_⟩ Fresh.int
      have : maxL xs = numAt zs (argBest (fun i j => decide (numAt zs i > numAt zs j)) (zs.size - 1)) := by
        refine maxL_is ?_ fun x hx => ?_
        · rw [hzs, numAt_eq]
          have hlt : argBest (fun i j => decide (numAt zs i > numAt zs j)) (zs.size - 1) < (zs.toList.map (·.1)).length := by rw [List.length_map, Array.length_toList]; omega
          rw [List.getD, List.getElem?_eq_getElem hlt]
          exact List.getElem_mem hlt
        · rw [hzs] at hx
          obtain ⟨j, hj, rfl⟩ := List.getElem_of_mem hx
          have hj' : j < zs.size := by rw [List.length_map, Array.length_toList] at hj; exact hj
          have := h2 j (by omega)
          rw [numAt_eq zs j, List.getD, List.getElem?_eq_getElem hj] at this
          exact this
      rw [this]
  · cases hG
    obtain ⟨v, u, rfl, h1, h2⟩ := vr2 hl hv
    obtain ⟨t, rfl⟩ := h1
    obtain ⟨t', rfl⟩ := h2
    refine max_two_ints a.handled fun h' tk hk => ?_
    by_cases hxy : y > x
    · rw [if_pos hxy] at h ⊢; exact h _ _ ⟨h', tk, rfl, hk⟩ ⟨_, rfl⟩ Fresh.int
    · rw [if_neg hxy] at h ⊢; exact h _ _ ⟨h', tk, rfl, hk⟩ ⟨_, rfl⟩ Fresh.int

/-- the item of a list of ints -/
noncomputable def item (xs : List Int) (i : Int) : Option Int :=
  if xs.length < 100000 then (if 0 ≤ i then xs[i.toNat]? else if -(xs.length : Int) ≤ i then xs[(i + xs.length).toNat]? else none) else none

theorem E_idx {value slice : Expr} {pos : Pos} {F₁ F₂ : List PV → Option PV} (hv : EOk prog w hB k sc ns value F₁) (hi : EOk prog w hB k sc ns slice F₂)
    (hs : ∀ (o i : Value), subscripted slice false o i = operate [o, i] (getItem o i)) (ht : ∀ (o r : Value), letTemporaryGo value o r = pure ()) :
    EOk prog w hB k sc ns (.Subscript value slice pos) (fun m => (F₁ m).bind fun p => p.ints?.bind fun xs => match F₂ m with | some (.int i) => (item xs i).map PV.int | _ => none) := by
  intro A env s m p Q E a eo up r hF h
  obtain ⟨q, hq, hF⟩ := Option.bind_eq_some_iff.mp hF
  obtain ⟨xs, hx, hF⟩ := Option.bind_eq_some_iff.mp hF
  split at hF
  · rename_i i hi2
    obtain ⟨n, hn, rfl⟩ := Option.map_eq_some_iff.mp hF
    refine Subscript_ (hv A env s m q _ E a eo up r hq fun v s₁ k₁ v₁ => hi A env s₁ m _ _ E a eo (fun b o e => k₁.up b o (up b o e)) (r.keeps k₁.up) hi2 fun u s₂ k₂ v₂ => ?_)
    obtain ⟨l, us, rfl, hL, hI⟩ := (v₁.keeps k₂.up).ints hx
    obtain ⟨t, rfl⟩ := v₂
    have hlen : us.size = xs.length := by have := hI.length; simpa using this
    refine subscriptTail_builtin hL.typeIs slot_list_getitem.lookup ?_ (hs _ _) (ht _)
    unfold item at hn
    by_cases hb : xs.length < 100000
    · rw [if_pos hb] at hn
      by_cases h0 : 0 ≤ i
      · rw [if_pos h0] at hn
        obtain ⟨t', e'⟩ := hI.get i.toNat n hn
        have hlt : i.toNat < xs.length := (List.getElem?_eq_some_iff.mp hn).1
        exact wpAny_getItem_list hL h0 (by omega) (by simpa using e') (h _ _ (k₁.trans k₂) ⟨t', rfl⟩)
      · rw [if_neg h0] at hn
        by_cases h1 : -(xs.length : Int) ≤ i
        · rw [if_pos h1] at hn
          obtain ⟨t', e'⟩ := hI.get _ n hn
          exact wpAny_getItem_list_neg hL (by omega) (by rw [hlen]; exact h1) (by omega) (by rw [hlen]; simpa using e') (h _ _ (k₁.trans k₂) ⟨t', rfl⟩)
        · rw [if_neg h1] at hn; cases hn
    · rw [if_neg hb] at hn; cases hn
  · cases hF

variable (prog w hB k sc ns) in
/-- expressions one behind the other, all ints -/
noncomputable def EsOk (es : List Expr) (F : List PV → Option (List Int)) : Prop :=
  ∀ (A : Around) (env : Env) (s : Shared) (m : List PV) (xs : List Int) (pos : Pos) (Q : List Value → Shared → Prop) (E : Value → Shared → Prop),
    AOk k A → EnvOk sc env → Up hB s.heap → Rd env ns m s.heap → F m = some xs →
    (∀ vs s', Kp s s' → IntsAre vs xs → Q vs s') → wpAny (model prog w) A (spliced (backTo pos (starEach es env))) Q E s
theorem Es_nil : EsOk prog w hB k sc ns [] (fun _ => some []) := by
  intro A env s m xs pos Q E a eo up r hF h
  cases hF
  exact args_nil (h _ _ (Kp.refl s) .nil)
theorem Es_cons {e : Expr} {es : List Expr} {F : List PV → Option PV} {G : List PV → Option (List Int)} (he : EOk prog w hB k sc ns e F) (hes : EsOk prog w hB k sc ns es G) (hs : star1 e) :
    EsOk prog w hB k sc ns (e :: es) (fun m => match F m, G m with | some (.int i), some xs => some (i :: xs) | _, _ => none) := by
  intro A env s m xs pos Q E a eo up r hF h
  dsimp only at hF
  split at hF
  · rename_i i ys h1 h2
    cases hF
    refine args_cons (he A env s m _ _ E a eo up r h1 fun v s₁ k₁ v₁ => hes A env s₁ m ys pos _ E a eo (fun b o e => k₁.up b o (up b o e)) (r.keeps k₁.up) h2 fun vs s₂ k₂ v₂ => ?_) (hs env es)
    obtain ⟨t, rfl⟩ := v₁
    exact h _ _ (k₁.trans k₂) (.cons _ _ v₂)
  · cases hF

theorem E_list {es : List Expr} {pos : Pos} {F : List PV → Option (List Int)} (h : EsOk prog w hB k sc ns es F) :
    EOkF prog w hB k sc ns (.List es pos) (fun m => (F m).bind fun xs => if xs.length < 1000 then some (.list xs) else none) := by
  intro A env s m p Q E a eo up r hF hQ
  obtain ⟨xs, hx, hF⟩ := Option.bind_eq_some_iff.mp hF
  by_cases hb : xs.length < 1000
  · rw [if_pos hb] at hF; cases hF
    refine List_ (h A env s m xs pos _ E a eo up r hx fun vs s₁ k₁ v₁ => wpAny_newObj_type ?_ ?_)
    · refine hQ _ _ (k₁.trans ⟨_, _, rfl, fun b o e => Heap.get?_push_of_some _ e⟩) ⟨_, _, rfl, ⟨_, Heap.get?_push_size _ rfl, rfl, 0, rfl⟩, by simpa using v₁⟩ ?_
      intro b e
      cases e
      cases q : s.heap.get? s₁.heap.objs.size with
      | none => rfl
      | some o => exact absurd (Heap.lt_size (k₁.up _ _ q)) (Nat.lt_irrefl _)
    · show vs.toArray.size ≤ sizeLine
      rw [List.size_toArray, v₁.length, sizeLine_eq]; omega
  · rw [if_neg hb] at hF; cases hF

/-- an item of a written tuple of ints -/
theorem E_menu {es : List Expr} {slice : Expr} {n : Nat} {pos pos' : Pos} {F₁ : List PV → Option (List Int)} {F₂ : List PV → Option PV} (h₁ : EsOk prog w hB k sc ns es F₁) (h₂ : EOk prog w hB k sc ns slice F₂)
    (hs : ∀ (o i : Value), subscripted slice false o i = operate [o, i] (getItem o i)) :
    EOk prog w hB k sc ns (.Subscript (.Tuple es n pos) slice pos') (fun m => (F₁ m).bind fun xs => match F₂ m with | some (.int i) => if 0 ≤ i ∧ xs.length < 1000 then xs[i.toNat]?.map PV.int else none | _ => none) := by
  intro A env s m p Q E a eo up r hF h
  obtain ⟨xs, hx, hF⟩ := Option.bind_eq_some_iff.mp hF
  split at hF
  · rename_i i hi2
    by_cases hb : 0 ≤ i ∧ xs.length < 1000
    · rw [if_pos hb] at hF
      obtain ⟨y, hy, rfl⟩ := Option.map_eq_some_iff.mp hF
      refine Subscript_ (Tuple_ (h₁ A env s m xs pos _ E a eo up r hx fun vs s₁ k₁ v₁ => wpAny_newObj_type ?_ ?_))
      · have k₁' : Kp s { s₁ with heap := s₁.heap.push { cls := .type "tuple", data := .seq vs.toArray } } := k₁.trans ⟨_, _, rfl, fun b o e => Heap.get?_push_of_some _ e⟩
        have hT : IsTup (s₁.heap.push { cls := .type "tuple", data := .seq vs.toArray }) s₁.heap.objs.size vs.toArray := ⟨_, Heap.get?_push_size _ rfl, rfl, 0, rfl⟩
        refine h₂ A env _ m _ _ E a eo (fun b o e => k₁'.up b o (up b o e)) (r.keeps k₁'.up) hi2 fun u s₂ k₂ v₂ => ?_
        obtain ⟨t, rfl⟩ := v₂
        have hT₂ := isTup_seq hT (.of k₂.up)
        obtain ⟨t', e'⟩ := v₁.get i.toNat y hy
        have hlt : i.toNat < xs.length := (List.getElem?_eq_some_iff.mp hy).1
        have b1 : -(2 ^ 63) ≤ i := by omega
        have b2 : i < 2 ^ 63 := by omega
        have hg : wpAny (model prog w) A (getItem (.ref s₁.heap.objs.size) (.int i t)) Q E s₂ :=
          PyProof.Rows.getItem_tuple hT₂ b1 b2 (j := i.toNat) (by
            rw [List.size_toArray, v₁.length]
            exact seqIndex_of hb.1 (by omega)) (by simpa using e') (h _ _ (k₁'.trans k₂) ⟨t', rfl⟩)
        unfold subscriptTail
        refine wpAny_bind ?_
        rw [getitemInPython_of_ne hT₂.typeIs.not_modules]
        refine wpAny_bind (wpAny_specialOf hT₂.typeIs slot_tuple_getitem.lookup (wpAny_pure ?_))
        rw [hs]
        exact wpAny_bind (wpAny_operating (wpAny_mono hg (fun v s₃ h₃ => wpAny_bind (wpAny_letTemporaryGo (wpAny_pure h₃))) fun _ _ e => e))
      · show vs.toArray.size ≤ sizeLine
        rw [List.size_toArray, v₁.length, sizeLine_eq]; omega
    · rw [if_neg hb] at hF; cases hF
  · cases hF
end
end Mine
end
section
open PySem PySem.W PySem.Calls PyProof.Rows
namespace Mine

section
variable {prog : Program} {w : World} {hB : Heap} {k : Nat} {sc : Scope} {ns : List Str}
variable {mg mb : Str → Option Value} {defs : List DefItem} {names : List Str}

theorem E_bitlen {o : Expr} {apos pos : Pos} {F₁ : List PV → Option PV} (ho : EOk prog w hB k sc ns o F₁) (hbase : ∀ env, attributeBase o "bit_length" env (eval o env) = eval o env) (hline : (apos.endLine == pos.line) = true) :
    EOk prog w hB k sc ns (.Call (.Attribute o "bit_length" apos) [] [] pos) (fun m => match F₁ m with | some (.int i) => some (.int (Builtin.Int.intBits i)) | _ => none) := by
  intro A env s m p Q E a eo up r hF h
  dsimp only at hF
  split at hF
  · rename_i i hi
    cases hF
    refine Call_method0 (hbase env) hline (ho A env s m _ _ E a eo up r hi fun v s₁ k₁ v₁ => ?_)
    obtain ⟨t, rfl⟩ := v₁
    refine ⟨"int", "int.bit_length", F.plainAttrs_int, slot_int_bit_length, type_int_bit_length, typeIs_int _ _ _, (fun _ e => nomatch e), ?_⟩
    exact callWith_method0 (env := env) (call_int_bit_length (h _ _ (k₁.trans Kp.tok) ⟨_, rfl⟩))
  · cases hF

theorem E_neg {o : Expr} {pos : Pos} {F₁ : List PV → Option PV} (ho : EOk prog w hB k sc ns o F₁) : EOk prog w hB k sc ns (.UnaryOp .USub o pos) (fun m => match F₁ m with | some (.int i) => some (.int (-i)) | _ => none) := by
  intro A env s m p Q E a eo up r hF h
  dsimp only at hF
  split at hF
  · rename_i i hi
    cases hF
    refine UnaryOp_ (ho A env s m _ _ E a eo up r hi fun v s₁ k₁ v₁ => ?_)
    obtain ⟨t, rfl⟩ := v₁
    exact PyProof.Rows.neg_int (h _ _ (k₁.trans Kp.tok) ⟨_, rfl⟩)
  · cases hF

theorem new_none {s s₁ : Shared} (k₁ : Kp s s₁) {b : Addr} (h : s₁.heap.objs.size ≤ b) : s.heap.get? b = none := by
  cases q : s.heap.get? b with
  | none => rfl
  | some o => exact absurd (Heap.lt_size (k₁.up _ _ q)) (Nat.not_lt.mpr h)

/-- a cut of a list -/
theorem E_sliceTo {value hi : Expr} {sp pos : Pos} {F₁ F₂ : List PV → Option PV} (hv : EOk prog w hB k sc ns value F₁) (hh : EOk prog w hB k sc ns hi F₂)
    (ht : ∀ (o r : Value), letTemporaryGo value o r = pure ()) :
    EOkF prog w hB k sc ns (.Subscript value (.Slice none (some hi) none sp) pos) (fun m => (F₁ m).bind fun p => p.ints?.bind fun xs => match F₂ m with | some (.int i) => if 0 ≤ i ∧ xs.length < 100000 then some (.list (xs.take i.toNat)) else none | _ => none) := by
  intro A env s m p Q E a eo up r hF h
  obtain ⟨q, hq, hF⟩ := Option.bind_eq_some_iff.mp hF
  obtain ⟨xs, hx, hF⟩ := Option.bind_eq_some_iff.mp hF
  split at hF
  · rename_i i hi2
    by_cases hb : 0 ≤ i ∧ xs.length < 100000
    · rw [if_pos hb] at hF; cases hF
      refine Subscript_ (hv A env s m q _ E a eo up r hq fun v s₁ k₁ v₁ => ?_)
      show wpAny (model prog w) A (pure Value.none >>= fun l => holding [l] (eval hi env) >>= fun u => holding [l, u] (pure Value.none) >>= fun st => newFields "slice" [l, u, st]) _ E s₁
      refine wpAny_bind (wpAny_pure (wpAny_bind (wpAny_holding (hh A env s₁ m _ _ E a eo (fun b o e => k₁.up b o (up b o e)) (r.keeps k₁.up) hi2 fun u s₂ k₂ v₂ => ?_))))
      refine wpAny_bind (wpAny_holding (wpAny_pure (wpAny_newObj_type ?_)))
      obtain ⟨t, rfl⟩ := v₂
      obtain ⟨l, us, rfl, hL, hI⟩ := (v₁.keeps k₂.up).ints hx
      have hlen : us.size = xs.length := by have := hI.length; simpa using this
      have hg : wpAny (model prog w) A (getItem (.ref l) (.ref s₂.heap.objs.size)) Q E { s₂ with heap := s₂.heap.push { cls := .type "slice", data := .fields #[.none, .int i t, .none] } } := by
        refine wpAny_getItem_list_slice (hL.push _) (Heap.IsSliceOf.new ..) .none (.int i t) .none (by simp) ?_ (by rw [hlen, sizeLine_eq]; omega)
        have k₃ : Kp s { s₂ with heap := s₂.heap.push { cls := .type "slice", data := .fields #[.none, .int i t, .none] } } := (k₁.trans k₂).trans ⟨_, _, rfl, fun b o e => Heap.get?_push_of_some _ e⟩
        refine h _ _ (k₃.trans ⟨_, _, rfl, fun b o e => Heap.get?_push_of_some _ e⟩) ⟨_, _, rfl, ⟨_, Heap.get?_push_size _ rfl, rfl, 0, rfl⟩, ?_⟩ fun b e => ?_
        · have := slice_ints_uptoW hI hb.1
          simpa using this
        · cases e; exact new_none k₃ (Nat.le_refl _)
      have hT : ({ s₂ with heap := s₂.heap.push { cls := .type "slice", data := .fields #[.none, .int i t, .none] } } : Shared).TypeIs (.ref l) "list" := (hL.push _).typeIs
      exact subscriptTail_ops hT slot_list_getitem.lookup hg rfl (ht _)
    · rw [if_neg hb] at hF; cases hF
  · cases hF
theorem E_sliceFrom {value lo : Expr} {sp pos : Pos} {F₁ F₂ : List PV → Option PV} (hv : EOk prog w hB k sc ns value F₁) (hh : EOk prog w hB k sc ns lo F₂)
    (ht : ∀ (o r : Value), letTemporaryGo value o r = pure ()) :
    EOkF prog w hB k sc ns (.Subscript value (.Slice (some lo) none none sp) pos) (fun m => (F₁ m).bind fun p => p.ints?.bind fun xs => match F₂ m with | some (.int i) => if 0 ≤ i ∧ xs.length < 100000 then some (.list (xs.drop i.toNat)) else none | _ => none) := by
  intro A env s m p Q E a eo up r hF h
  obtain ⟨q, hq, hF⟩ := Option.bind_eq_some_iff.mp hF
  obtain ⟨xs, hx, hF⟩ := Option.bind_eq_some_iff.mp hF
  split at hF
  · rename_i i hi2
    by_cases hb : 0 ≤ i ∧ xs.length < 100000
    · rw [if_pos hb] at hF; cases hF
      refine Subscript_ (hv A env s m q _ E a eo up r hq fun v s₁ k₁ v₁ => ?_)
      show wpAny (model prog w) A (eval lo env >>= fun l => holding [l] (pure Value.none) >>= fun u => holding [l, u] (pure Value.none) >>= fun st => newFields "slice" [l, u, st]) _ E s₁
      refine wpAny_bind (hh A env s₁ m _ _ E a eo (fun b o e => k₁.up b o (up b o e)) (r.keeps k₁.up) hi2 fun u s₂ k₂ v₂ => ?_)
      refine wpAny_bind (wpAny_holding (wpAny_pure (wpAny_bind (wpAny_holding (wpAny_pure (wpAny_newObj_type ?_))))))
      obtain ⟨t, rfl⟩ := v₂
      obtain ⟨l, us, rfl, hL, hI⟩ := (v₁.keeps k₂.up).ints hx
      have hlen : us.size = xs.length := by have := hI.length; simpa using this
      have hg : wpAny (model prog w) A (getItem (.ref l) (.ref s₂.heap.objs.size)) Q E { s₂ with heap := s₂.heap.push { cls := .type "slice", data := .fields #[.int i t, .none, .none] } } := by
        refine wpAny_getItem_list_slice (hL.push _) (Heap.IsSliceOf.new ..) (.int i t) .none .none (by simp) ?_ (by rw [hlen, sizeLine_eq]; omega)
        have k₃ : Kp s { s₂ with heap := s₂.heap.push { cls := .type "slice", data := .fields #[.int i t, .none, .none] } } := (k₁.trans k₂).trans ⟨_, _, rfl, fun b o e => Heap.get?_push_of_some _ e⟩
        refine h _ _ (k₃.trans ⟨_, _, rfl, fun b o e => Heap.get?_push_of_some _ e⟩) ⟨_, _, rfl, ⟨_, Heap.get?_push_size _ rfl, rfl, 0, rfl⟩, ?_⟩ fun b e => ?_
        · have := slice_ints_fromW hI hb.1
          simpa using this
        · cases e; exact new_none k₃ (Nat.le_refl _)
      have hT : ({ s₂ with heap := s₂.heap.push { cls := .type "slice", data := .fields #[.int i t, .none, .none] } } : Shared).TypeIs (.ref l) "list" := (hL.push _).typeIs
      exact subscriptTail_ops hT slot_list_getitem.lookup hg rfl (ht _)
    · rw [if_neg hb] at hF; cases hF
  · cases hF

/-- two lists one behind the other -/
theorem E_addl {l r : Expr} {pos : Pos} {F₁ F₂ : List PV → Option PV} (hl : EOk prog w hB k sc ns l F₁) (hr : EOk prog w hB k sc ns r F₂) :
    EOkF prog w hB k sc ns (.BinOp l .Add r pos) (fun m => (F₁ m).bind fun p => p.ints?.bind fun xs => (F₂ m).bind fun q => q.ints?.bind fun ys => if xs.length + ys.length < 100000 then some (.list (xs ++ ys)) else none) := by
  intro A env s m p Q E a eo up rd hF h
  obtain ⟨q, hq, hF⟩ := Option.bind_eq_some_iff.mp hF
  obtain ⟨xs, hx, hF⟩ := Option.bind_eq_some_iff.mp hF
  obtain ⟨q', hq', hF⟩ := Option.bind_eq_some_iff.mp hF
  obtain ⟨ys, hy, hF⟩ := Option.bind_eq_some_iff.mp hF
  by_cases hb : xs.length + ys.length < 100000
  · rw [if_pos hb] at hF; cases hF
    refine wpAny_BinOp (hl A env s m _ _ E a eo up rd hq fun v s₁ k₁ v₁ => ?_)
    refine hr A env s₁ m _ _ E a eo (fun b o e => k₁.up b o (up b o e)) (rd.keeps k₁.up) hq' fun v' s₂ k₂ v₂ => ?_
    obtain ⟨l, us, rfl, hL, hI⟩ := (v₁.keeps k₂.up).ints hx
    obtain ⟨l', us', rfl, hL', hI'⟩ := v₂.ints hy
    have hlen : us.size = xs.length := by have := hI.length; simpa using this
    have hlen' : us'.size = ys.length := by have := hI'.length; simpa using this
    obtain ⟨⟨cls, dd, data, sl⟩, ho, hc, n, hd⟩ := id hL
    obtain ⟨⟨cls2, dd2, data2, sl2⟩, ho2, hc2, n2, hd2⟩ := id hL'
    simp only at hc hd hc2 hd2
    subst hc hd hc2 hd2
    refine concat_meets ⟨_, ho, rfl⟩ ⟨_, ho2, rfl⟩ noFill_list_add seq_list_add PySem.F.slot_list_add PySem.F.entry_list_add (PySem.F.args_list_add_2 _ _)
      (list_addW l l' us us' n n2 dd dd2 sl sl2 (by rw [hlen, hlen', sizeLine_eq]; omega)) ⟨ho, ho2, ?_⟩
    refine h _ _ ((k₁.trans k₂).trans ⟨_, _, rfl, fun b o e => Heap.get?_push_of_some _ e⟩) ⟨_, _, rfl, ⟨_, Heap.get?_push_size _ rfl, rfl, 0, rfl⟩, ?_⟩ fun b e => ?_
    · have := hI.append hI'
      simpa using this
    · cases e; exact new_none (k₁.trans k₂) (Nat.le_refl _)
  · rw [if_neg hb] at hF; cases hF

/-- a written list so many times -/
theorem E_mull {es : List Expr} {r : Expr} {lp pos : Pos} {F₁ : List PV → Option (List Int)} {F₂ : List PV → Option PV} (hl : EsOk prog w hB k sc ns es F₁) (hr : EOk prog w hB k sc ns r F₂) :
    EOkF prog w hB k sc ns (.BinOp (.List es lp) .Mult r pos) (fun m => match F₁ m, F₂ m with | some [x], some (.int i) => if 0 ≤ i ∧ i < 1000 then some (.list (List.replicate i.toNat x)) else none | _, _ => none) := by
  intro A env s m p Q E a eo up rd hF h
  dsimp only at hF
  split at hF
  · rename_i x i h1 h2
    by_cases hb : 0 ≤ i ∧ i < 1000
    · rw [if_pos hb] at hF; cases hF
      refine wpAny_BinOp (List_ (hl A env s m [x] lp _ E a eo up rd h1 fun vs s₁ k₁ v₁ => wpAny_newObj_type ?_ (by show vs.toArray.size ≤ sizeLine; rw [List.size_toArray, v₁.length, sizeLine_eq]; simp)))
      have k₁' : Kp s { s₁ with heap := s₁.heap.push { cls := .type "list", data := .seq vs.toArray } } := k₁.trans ⟨_, _, rfl, fun b o e => Heap.get?_push_of_some _ e⟩
      refine hr A env _ m _ _ E a eo (fun b o e => k₁'.up b o (up b o e)) (rd.keeps k₁'.up) h2 fun v' s₂ k₂ v₂ => ?_
      obtain ⟨u, rfl⟩ := v₂
      have hL : s₂.heap.get? s₁.heap.objs.size = some { cls := .type "list", dict := none, data := .seq vs.toArray 0, slots := #[] } := k₂.up _ _ (Heap.get?_push_size _ rfl)
      have hvs : ∃ t, vs = [.int x t] := by
        cases v₁ with
        | cons n t hr => cases hr; exact ⟨t, rfl⟩
      obtain ⟨t, rfl⟩ := hvs
      refine wpAny_binaryOp_repeat_ref (T := "list") (U := "int") (by decide) ⟨_, hL, rfl⟩ (fun s' => typeIs_int s' i u) noFill_list_mul F.fills_int_mul F.slot_int_rmul repeat_list F.slot_int_index.lookup
        (call_meets F.slot_int_rmul (typeIs_int _ i u) F.entry_int_rmul (F.args_int_rmul_2 _ _) (int___rmul___int_list i u s₁.heap.objs.size _ 0)
          ⟨hL, rfl, ⟨_, hL, rfl⟩, call_meets F.slot_list_mul ⟨_, hL, rfl⟩ F.entry_list_mul (F.args_list_mul_2 _ _)
            (AutoListH.list___mul___list_int_3 _ _ 0 i u (by simp [Builtin.List.listFitsIndex]; omega) (by simp; omega) (by simp [Builtin.List.listTooLong, sizeLine]; omega))
            ⟨hL, ?_⟩⟩)
      refine h _ _ ((k₁'.trans k₂).trans ⟨_, _, rfl, fun b o e => Heap.get?_push_of_some _ e⟩) ⟨_, _, rfl, ⟨_, Heap.get?_push_size _ rfl, rfl, 0, rfl⟩, ?_⟩ fun b e => ?_
      · have hrep : ∀ (n : Nat) (acc : Array Value) (ns : List Int), IntsAre acc.toList ns → IntsAre (List.foldl (fun x1 x2 => x1 ++ x2) acc (List.replicate n #[Value.int x t])).toList (ns ++ List.replicate n x) := by
          intro n
          induction n with
          | zero => intro acc ns hi; simpa using hi
          | succ n ih =>
            intro acc ns hi
            have e : ns ++ List.replicate (n + 1) x = (ns ++ [x]) ++ List.replicate n x := by rw [List.replicate_succ, List.append_assoc]; rfl
            rw [e, List.replicate_succ, List.foldl_cons]
            refine ih _ _ ?_
            rw [Array.toList_append]
            exact hi.append (.cons x t .nil)
        have := hrep i.toNat #[] [] .nil
        simpa using this
      · cases e; exact new_none (k₁'.trans k₂) (Nat.le_refl _)
    · rw [if_neg hb] at hF; cases hF
  · cases hF
end
end Mine
end
section
open PySem PySem.W PySem.Calls PyProof.Rows
namespace Mine

section
variable {prog : Program} {w : World} {A : Around} {E : Value → Shared → Prop}

/-- the frame of a comprehension is made -/
theorem newFE_comp {env : Env} {scope : Scope} {cl : List (Str × Addr)} {s : Shared} {Q : Env → Shared → Prop}
    (h : Q (newEnv scope s.heap.objs.size env.globals (cellsFrom (s.heap.objs.size + 1) scope.names cl) env.qual none .none (some env) builtinsNs)
      { s with heap := pushCells (s.heap.push { cls := .type "dict", data := .dict #[] }) scope.names }) :
    wpAny (model prog w) A (newFunctionEnv scope env.globals cl [] env.qual none .none (some env)) Q E s := by
  simp only [newFunctionEnv, Option.isSome_some, if_true]
  refine wpAny_bind (wpAny_alloc ?_)
  refine wpAny_bind (wpAny_layCells _ (fun name kind cells => by cases kind == NameKind.cell <;> simp) _ _ _ _ ?_)
  rw [show ({ s with heap := s.heap.push { cls := .type "dict", data := .dict #[] } } : Shared).heap.objs.size = s.heap.objs.size + 1 from Heap.size_push ..]
  rw [List.forIn_nil]
  exact wpAny_bind (wpAny_pure (wpAny_pure h))

/-- the loop's own name, in a frame or in a cell -/
noncomputable def ownCells (cv : Bool) (x : Str) (cx : Addr) (cl : List (Str × Addr)) : List (Str × Addr) := if cv then (x, cx) :: cl else cl

theorem comp_loop {elt iter : Expr} {x : Str} {px : Pos} {ifs : List Expr} {scope : Scope} {pos : Pos} {I D cx : Addr} {fp wr : List Addr} {n : Nat} {P : Nat → Value → Prop} {St : Nat → Heap → Prop}
    {cenv : Env} {cv : Bool} {s : Shared} {R : Result → Shared → Prop} (W : Walks prog w A I fp wr n P St) (p : Value → Bool) (F : Value → Value → Prop)
    (hkind : cenv.scope.kind = .function) (hx : cenv.kindOf x = some (if cv then .cell else .local)) (hcx : cv = true → cenv.cells.lookup x = some cx)
    (hDC : D ≠ cenv.locals) (hDf : D ∉ fp) (hCf : cenv.locals ∉ fp) (hXf : cx ∉ fp) (hXC : cx ≠ cenv.locals) (hXD : cx ≠ D)
    (hst : St 0 s.heap) (hacc : s.heap.PlainList D #[]) (hn : ∃ m, s.heap.Ns cenv.locals m) (hc : cv = true → ∃ ov, s.heap.IsCell cx ov)
    (htests : ∀ i v s₂ E', i < n → P i v → Ld cenv s₂.heap x v → (∀ b o, b ≠ cenv.locals → b ∉ wr → b ≠ D → b ≠ cx → s.heap.get? b = some o → s₂.heap.get? b = some o) →
      wpAny (model prog w) A (forIn ifs true fun c r => if r = true then do let ok ← isTrue c cenv (eval c cenv); pure (ForInStep.yield ok) else pure (ForInStep.yield r))
        (fun ok s₃ => ok = p v ∧ Kp s₂ s₃) E' s₂)
    (helt : ∀ i v s₂ E', i < n → P i v → p v = true → Ld cenv s₂.heap x v → (∀ b o, b ≠ cenv.locals → b ∉ wr → b ≠ D → b ≠ cx → s.heap.get? b = some o → s₂.heap.get? b = some o) →
      wpAny (model prog w) A (eval elt cenv) (fun y s₃ => F v y ∧ Kp s₂ s₃) E' s₂)
    (hR : ∀ h' tk m' ys (vs : List Value), h'.Ns cenv.locals m' → h'.PlainList D ys → vs.length = n → (∀ j v, vs[j]? = some v → P j v) → Paired F (vs.filter p) ys.toList →
      (∀ b o, b ≠ cenv.locals → b ∉ wr → b ≠ D → b ≠ cx → s.heap.get? b = some o → h'.get? b = some o) → R (.ok .next) { s with heap := h', toks := tk })
    (hsz : n ≤ sizeLine) :
    codeAny (model prog w) A (.compLoop (.ListComp elt [⟨.Name x px, iter, ifs, 0⟩] scope pos) 0 (.ref I) (.ref D) cenv) R s := by
  refine codeAny_compLoop_tests
    (fun k s' => ∃ h' tk m' ys, ∃ vs : List Value, s' = { s with heap := h', toks := tk } ∧ St vs.length h' ∧ h'.PlainList D ys ∧ h'.Ns cenv.locals m' ∧ (cv = true → ∃ ov, h'.IsCell cx ov) ∧ (∀ j v, vs[j]? = some v → P j v) ∧
      Paired F (vs.filter p) ys.toList ∧ vs.length ≤ n ∧ k = n + 1 - vs.length ∧
      (∀ b o, b ≠ cenv.locals → b ∉ wr → b ≠ D → b ≠ cx → s.heap.get? b = some o → h'.get? b = some o)) ?_ (n + 1)
    (let ⟨m, hm⟩ := hn; ⟨s.heap, s.toks, m, #[], [], rfl, hst, hacc, hm, hc, by simp, by simpa using Paired.nil, Nat.zero_le _, rfl, fun _ _ _ _ _ _ e => e⟩)
  rintro k s' ⟨H, tk, m', ys, vs, rfl, hst', hacc', hn', hc', hP, hF, hi, rfl, hk⟩
  have hCw : cenv.locals ∉ wr := fun h => hCf (W.sub _ h)
  have hDw : D ∉ wr := fun h => hDf (W.sub _ h)
  have hXw : cx ∉ wr := fun h => hXf (W.sub _ h)
  by_cases hlt : vs.length < n
  · refine W.item vs.length _ _ _ hlt hst' fun v h₁ tk₁ hPv hst₁ hk₁ => ?_
    have hP' : ∀ (j : Nat) u, (vs ++ [v])[j]? = some u → P j u := fun j u hj => by
      rcases Nat.lt_trichotomy j vs.length with h | h | h
      · exact hP j u (by rwa [List.getElem?_append_left h] at hj)
      · subst h; simp at hj; subst hj; exact hPv
      · have hnone : (vs ++ [v])[j]? = none := List.getElem?_eq_none (by rw [List.length_append, List.length_singleton]; omega)
        rw [hnone] at hj; cases hj
    -- what follows the store of the name, whichever way it is stored
    have next : ∀ (h₂ : Heap) (tk₂ : Nat) (m₂ : Str → Option Value), h₂.Ns cenv.locals m₂ → (cv = true → ∃ ov, h₂.IsCell cx ov) → Ld cenv h₂ x v →
        (∀ b o, b ≠ cenv.locals → b ≠ cx → h₁.get? b = some o → h₂.get? b = some o) →
        wpAny (model prog w) A (forIn ifs true fun c r => if r = true then do let ok ← isTrue c cenv (eval c cenv); pure (ForInStep.yield ok) else pure (ForInStep.yield r)) (fun ok s₃ =>
            if ok = true then wpAny (model prog w) A (eval elt cenv) (fun x s₄ =>
              wpAny (model prog w) A (call (.builtin "list.append") [.ref D, x]) (fun _ s₅ => ∃ m, m < n + 1 - vs.length ∧ (∃ h' tk m' ys, ∃ vs : List Value, s₅ = { s with heap := h', toks := tk } ∧ St vs.length h' ∧ h'.PlainList D ys ∧ h'.Ns cenv.locals m' ∧ (cv = true → ∃ ov, h'.IsCell cx ov) ∧ (∀ j v, vs[j]? = some v → P j v) ∧
      Paired F (vs.filter p) ys.toList ∧ vs.length ≤ n ∧ m = n + 1 - vs.length ∧
      (∀ b o, b ≠ cenv.locals → b ∉ wr → b ≠ D → b ≠ cx → s.heap.get? b = some o → h'.get? b = some o))) (notedBy (model prog w) A cenv fun e s' => R (.error e) s') s₄) (notedBy (model prog w) A cenv fun e s' => R (.error e) s') s₃
            else ∃ m, m < n + 1 - vs.length ∧ (∃ h' tk m' ys, ∃ vs : List Value, s₃ = { s with heap := h', toks := tk } ∧ St vs.length h' ∧ h'.PlainList D ys ∧ h'.Ns cenv.locals m' ∧ (cv = true → ∃ ov, h'.IsCell cx ov) ∧ (∀ j v, vs[j]? = some v → P j v) ∧
      Paired F (vs.filter p) ys.toList ∧ vs.length ≤ n ∧ m = n + 1 - vs.length ∧
      (∀ b o, b ≠ cenv.locals → b ∉ wr → b ≠ D → b ≠ cx → s.heap.get? b = some o → h'.get? b = some o))) (notedBy (model prog w) A cenv fun e s' => R (.error e) s') { s with heap := h₂, toks := tk₂ } := by
      intro h₂ tk₂ m₂ hn₂ hc₂ hld hk₂
      have up₂ : ∀ b o, b ≠ cenv.locals → b ∉ wr → b ≠ cx → H.get? b = some o → h₂.get? b = some o := fun b o hbC hbf hbX e => hk₂ b o hbC hbX (hk₁ b o hbf e)
      have hst₂ : St (vs.length + 1) h₂ := W.frame _ _ _ hst₁ fun b hb o e => hk₂ b o (fun h => hCf (h ▸ hb)) (fun h => hXf (h ▸ hb)) e
      have hacc₂ : h₂.PlainList D ys := hacc'.at fun o e => up₂ D o hDC hDw (Ne.symm hXD) e
      have hks₂ : ∀ b o, b ≠ cenv.locals → b ∉ wr → b ≠ D → b ≠ cx → s.heap.get? b = some o → h₂.get? b = some o := fun b o a1 a2 a3 a4 e => up₂ b o a1 a2 a4 (hk b o a1 a2 a3 a4 e)
      refine wpAny_mono (htests vs.length v { s with heap := h₂, toks := tk₂ } _ hlt hPv hld hks₂) (fun ok s₃ h₃ => ?_) fun _ _ e => e
      obtain ⟨rfl, h₃, tk₃, rfl, hk₃⟩ := h₃
      have hst₃ : St (vs.length + 1) h₃ := W.frame _ _ _ hst₂ fun b _ o e => hk₃ b o e
      have hacc₃ : h₃.PlainList D ys := hacc₂.at fun o e => hk₃ _ o e
      have hn₃ := hn₂.keeps hk₃
      have hc₃ : cv = true → ∃ ov, h₃.IsCell cx ov := fun q => let ⟨ov, ho⟩ := hc₂ q; ⟨ov, ho.keeps hk₃⟩
      cases hpv : p v with
      | false =>
        simp only [Bool.false_eq_true, if_false]
        refine ⟨n + 1 - (vs.length + 1), by omega, h₃, tk₃, _, ys, vs ++ [v], rfl, by simpa using hst₃, hacc₃, hn₃, hc₃, hP', ?_, (by rw [List.length_append, List.length_singleton]; exact hlt), (by rw [List.length_append, List.length_singleton]),
          fun b o a1 a2 a3 a4 e => hk₃ b o (hks₂ b o a1 a2 a3 a4 e)⟩
        rw [List.filter_append]; simpa [hpv] using hF
      | true =>
        simp only [if_true]
        refine wpAny_mono (helt vs.length v { s with heap := h₃, toks := tk₃ } _ hlt hPv hpv (hld.keeps hk₃) (fun b o a1 a2 a3 a4 e => hk₃ b o (hks₂ b o a1 a2 a3 a4 e))) (fun y s₄ h₄ => ?_) fun _ _ e => e
        obtain ⟨hFy, h₄, tk₄, rfl, hk₄⟩ := h₄
        have hys : ys.size ≤ sizeLine := by
          have e1 := hF.length
          have e2 : (vs.filter p).length ≤ vs.length := List.length_filter_le _ _
          have e4 : ys.toList.length = ys.size := by simp
          omega
        refine wpAny_list_append_plain (hsz := hys) (hacc₃.at fun o e => hk₄ _ o e) fun h₅ hl₅ hs₅ => ?_
        refine ⟨n + 1 - (vs.length + 1), by omega, h₅, tk₄, _, ys.push y, vs ++ [v], rfl, ?_, hl₅, (hn₃.keeps hk₄).sameBut hs₅ (Ne.symm hDC), fun q => (let ⟨ov, ho⟩ := hc₃ q; ⟨ov, (ho.keeps hk₄).sameBut hs₅ hXD⟩), hP', ?_, (by rw [List.length_append, List.length_singleton]; exact hlt), (by rw [List.length_append, List.length_singleton]),
          fun b o a1 a2 a3 a4 e => hs₅.extBut b o a3 (hk₄ b o (hk₃ b o (hks₂ b o a1 a2 a3 a4 e)))⟩
        · have := W.frame _ _ h₅ hst₃ fun b hb o e => hs₅.extBut b o (fun h => hDf (h ▸ hb)) (hk₄ b o e)
          simpa using this
        · rw [List.filter_append]; simpa [hpv] using Paired.snoc hF hFy
    refine wpAny_assign_Name ?_
    cases cv with
    | false =>
      refine wpAny_storeName_local hx (hn'.at' fun o e => hk₁ _ o hCw e) (fun h₂ hn₂ hs₂ => ?_) (by rw [hkind]; rfl)
      exact next h₂ _ _ hn₂ nofun (.inl ⟨hx, _, hn₂, by simp⟩) fun b o hb _ e => hs₂.extBut b o hb e
    | true =>
      obtain ⟨ov, hov⟩ := hc' rfl
      have hov₁ : h₁.IsCell cx ov := let ⟨o, ho, hd⟩ := hov; ⟨o, hk₁ cx o hXw ho, hd⟩
      refine wpAny_storeName_cell hkind hx (hcx rfl) hov₁ fun h₂ hc₂ hs₂ => ?_
      exact next h₂ _ _ ((hn'.at' fun o e => hk₁ _ o hCw e).sameBut hs₂ (Ne.symm hXC)) (fun _ => ⟨_, hc₂⟩) (.inr ⟨.inl hx, cx, hcx rfl, hc₂⟩) fun b o _ hb e => hs₂.extBut b o hb e
  · have hin : vs.length = n := by omega
    refine W.done _ _ _ (hin ▸ hst') fun h₁ tk₁ hk₁ => ?_
    exact hR h₁ tk₁ m' ys vs (hn'.at' fun o e => hk₁ _ o hCw e) (hacc'.at fun o e => hk₁ _ o hDw e) hin hP hF fun b o a1 a2 a3 a4 e => hk₁ b o a2 (hk b o a1 a2 a3 a4 e)
end
end Mine
end
section
open PySem PySem.W PySem.Calls PyProof.Rows
namespace Mine

section
variable {prog : Program} {w : World} {hB : Heap} {k : Nat} {sc : Scope} {ns : List Str}

/-- what a comparison says -/
noncomputable def cmpV (op : CmpOp) (p q : PV) : Option Bool :=
  match p, q with
  | .int a, .int b => match op with
    | .Eq => some (a == b) | .NotEq => some (a != b) | .Lt => some (decide (a < b)) | .LtE => some (decide (a ≤ b)) | .Gt => some (decide (b < a)) | .GtE => some (decide (b ≤ a))
    | _ => none
  | .bool a, .bool b => match op with
    | .IsNot => some (!(a == b))
    | _ => none
  | .str a, .str b => match op with
    | .NotEq => some (a != b)
    | _ => none
  | p, q => match p.ints?, q.ints? with
    | some xs, some ys => match op with
      | .Eq => some (decide (xs = ys))
      | .NotEq => some (!decide (xs = ys))
      | _ => none
    | _, _ => none

theorem bool_beq (a b : Bool) : (Value.bool a == Value.bool b) = (a == b) := by cases a <;> cases b <;> decide
theorem cmpV_ok {A : Around} (a : AOk k A) {op : CmpOp} {p q : PV} {b : Bool} (h : cmpV op p q = some b) {s : Shared} {v u : Value} (hv : VR s.heap v p) (hu : VR s.heap u q) {Q : Value → Shared → Prop} {E : Value → Shared → Prop}
    (hQ : Q (.bool b) s) : wpAny (model prog w) A (compareOp op v u) Q E s := by
  unfold cmpV at h
  split at h
  · obtain ⟨t, rfl⟩ := hv
    obtain ⟨t', rfl⟩ := hu
    split at h <;> first | (cases h; done) | skip
    · cases h; exact PyProof.Rows.eq_int hQ
    · cases h; exact PyProof.Rows.ne_int hQ
    · cases h; exact PyProof.Rows.lt_int hQ
    · cases h; exact PyProof.Rows.le_int hQ
    · cases h; exact PyProof.Rows.gt_int hQ
    · cases h; exact PyProof.Rows.ge_int hQ
  · cases hv
    cases hu
    split at h
    · cases h
      refine wpAny_isNot_plain rfl ?_
      rw [bool_beq]; exact hQ
    · cases h
  · obtain ⟨t, rfl⟩ := hv
    obtain ⟨t', rfl⟩ := hu
    split at h
    · cases h; exact PyProof.Rows.ne_str hQ
    · cases h
  · split at h
    · rename_i xs ys hx hy
      obtain ⟨l, us, rfl, hL, hI⟩ := hv.ints hx
      obtain ⟨l', us', rfl, hL', hI'⟩ := hu.ints hy
      have hun : A.units + 64 < cLine := by have := a.units; omega
      split at h
      · cases h; exact eq_intsK (vs := us.toList) (us := us'.toList) (by simpa using hL) hI (by simpa using hL') hI' hun hQ
      · cases h; exact ne_intsK (vs := us.toList) (us := us'.toList) (by simpa using hL) hI (by simpa using hL') hI' hun hQ
      · cases h
    · cases h

noncomputable def cmpF (op : CmpOp) (F₁ F₂ : List PV → Option PV) (m : List PV) : Option Bool := match F₁ m, F₂ m with
  | some p, some q => cmpV op p q
  | _, _ => none
theorem cmpF_some {op : CmpOp} {F₁ F₂ : List PV → Option PV} {m : List PV} {b : Bool} (h : cmpF op F₁ F₂ m = some b) : ∃ p q, F₁ m = some p ∧ F₂ m = some q ∧ cmpV op p q = some b := by
  unfold cmpF at h
  split at h
  · rename_i p q h1 h2; exact ⟨p, q, h1, h2, h⟩
  · cases h

theorem E_cmp {l r : Expr} {op : CmpOp} {pos : Pos} {F₁ F₂ : List PV → Option PV} (hl : EOk prog w hB k sc ns l F₁) (hr : EOk prog w hB k sc ns r F₂) (hm : behindInMarks op r = false) :
    EOk prog w hB k sc ns (.Compare l [op] [r] pos) (fun m => (cmpF op F₁ F₂ m).map PV.bool) := by
  intro A env s m p Q E a eo up rd hF h
  obtain ⟨b, hb, rfl⟩ := Option.map_eq_some_iff.mp hF
  obtain ⟨x, y, h1, h2, h3⟩ := cmpF_some hb
  refine wpAny_Compare1 (hl A env s m _ _ E a eo up rd h1 fun v s₁ k₁ v₁ => ?_) hm
  refine hr A env s₁ m _ _ E a eo (fun b o e => k₁.up b o (up b o e)) (rd.keeps k₁.up) h2 fun v' s₂ k₂ v₂ => ?_
  exact cmpV_ok a h3 (v₁.keeps k₂.up) v₂ (h _ _ (k₁.trans k₂) rfl)
theorem T_cmp {l r : Expr} {op : CmpOp} {pos : Pos} {F₁ F₂ : List PV → Option PV} (hl : EOk prog w hB k sc ns l F₁) (hr : EOk prog w hB k sc ns r F₂) (hm : behindInMarks op r = false) :
    TOk prog w hB k sc ns (.Compare l [op] [r] pos) (cmpF op F₁ F₂) := by
  intro A env s m b Q E a eo up rd hF h
  obtain ⟨x, y, h1, h2, h3⟩ := cmpF_some hF
  refine wpAny_isTrue_Compare1 (hl A env s m _ _ E a eo up rd h1 fun v s₁ k₁ v₁ => ?_) hm
  refine hr A env s₁ m _ _ E a eo (fun b o e => k₁.up b o (up b o e)) (rd.keeps k₁.up) h2 fun v' s₂ k₂ v₂ => ?_
  exact cmpV_ok a h3 (v₁.keeps k₂.up) v₂ (wpAny_truthy_bool (h _ (k₁.trans k₂)))

variable (prog w hB k sc ns) in
noncomputable def AllOk (op : BoolOp) (es : List Expr) (F : List PV → Option Bool) : Prop :=
  ∀ (A : Around) (env : Env) (s : Shared) (m : List PV) (p : Bool) (Q : Bool → Shared → Prop) (E : Value → Shared → Prop),
    AOk k A → EnvOk sc env → Up hB s.heap → Rd env ns m s.heap → F m = some p →
    (∀ s', Kp s s' → Q p s') → wpAny (model prog w) A (allTrue op es env) Q E s
theorem All_and_nil : AllOk prog w hB k sc ns .And [] (fun _ => some true) := by
  intro A env s m b Q E a eo up rd hF h
  cases hF
  exact wpAny_pure (a := true) (h _ (Kp.refl s))
theorem All_or_nil : AllOk prog w hB k sc ns .Or [] (fun _ => some false) := by
  intro A env s m b Q E a eo up rd hF h
  cases hF
  exact wpAny_pure (a := false) (h _ (Kp.refl s))
theorem All_and {e : Expr} {es : List Expr} {F G : List PV → Option Bool} (he : TOk prog w hB k sc ns e F) (hes : AllOk prog w hB k sc ns .And es G) :
    AllOk prog w hB k sc ns .And (e :: es) (fun m => match F m with | some true => G m | some false => some false | none => none) := by
  intro A env s m b Q E a eo up rd hF h
  show wpAny (model prog w) A (isTrue (.BoolOp .And (e :: es) default) env (pure .none)) Q E s
  dsimp only at hF
  split at hF
  · rename_i h1
    refine isTrue_and (he A env s m _ _ E a eo up rd h1 fun s₁ k₁ => ?_)
    simp only [if_true]
    exact hes A env s₁ m b _ E a eo (fun b o e => k₁.up b o (up b o e)) (rd.keeps k₁.up) hF fun s₂ k₂ => h s₂ (k₁.trans k₂)
  · rename_i h1
    cases hF
    refine isTrue_and (he A env s m _ _ E a eo up rd h1 fun s₁ k₁ => ?_)
    simp only [Bool.false_eq_true, if_false]
    exact h _ k₁
  · cases hF
theorem All_or {e : Expr} {es : List Expr} {F G : List PV → Option Bool} (he : TOk prog w hB k sc ns e F) (hes : AllOk prog w hB k sc ns .Or es G) :
    AllOk prog w hB k sc ns .Or (e :: es) (fun m => match F m with | some true => some true | some false => G m | none => none) := by
  intro A env s m b Q E a eo up rd hF h
  show wpAny (model prog w) A (isTrue (.BoolOp .Or (e :: es) default) env (pure .none)) Q E s
  dsimp only at hF
  split at hF
  · rename_i h1
    cases hF
    refine isTrue_or (he A env s m _ _ E a eo up rd h1 fun s₁ k₁ => ?_)
    simp only [if_true]
    exact h _ k₁
  · rename_i h1
    refine isTrue_or (he A env s m _ _ E a eo up rd h1 fun s₁ k₁ => ?_)
    simp only [Bool.false_eq_true, if_false]
    exact hes A env s₁ m b _ E a eo (fun b o e => k₁.up b o (up b o e)) (rd.keeps k₁.up) hF fun s₂ k₂ => h s₂ (k₁.trans k₂)
  · cases hF
theorem T_bool {op : BoolOp} {es : List Expr} {pos : Pos} {F : List PV → Option Bool} (h : AllOk prog w hB k sc ns op es F) : TOk prog w hB k sc ns (.BoolOp op es pos) F := h

/-- tests behind a comprehension's for -/
noncomputable abbrev testsT (cenv : Env) (ifs : List Expr) : Sem Bool := forIn ifs true fun c r => if r = true then do let ok ← isTrue c cenv (eval c cenv); pure (ForInStep.yield ok) else pure (ForInStep.yield r)
variable (prog w hB k sc ns) in
noncomputable def TsOk (ifs : List Expr) (F : List PV → Option Bool) : Prop :=
  ∀ (A : Around) (env : Env) (s : Shared) (m : List PV) (p : Bool) (Q : Bool → Shared → Prop) (E : Value → Shared → Prop),
    AOk k A → EnvOk sc env → Up hB s.heap → Rd env ns m s.heap → F m = some p →
    (∀ s', Kp s s' → Q p s') → wpAny (model prog w) A (testsT env ifs) Q E s
theorem Ts_nil : TsOk prog w hB k sc ns [] (fun _ => some true) := by
  intro A env s m b Q E a eo up rd hF h
  cases hF
  unfold testsT
  rw [List.forIn_nil]
  exact wpAny_pure (h _ (Kp.refl s))
theorem Ts_one {e : Expr} {F : List PV → Option Bool} (he : TOk prog w hB k sc ns e F) : TsOk prog w hB k sc ns [e] F := by
  intro A env s m b Q E a eo up rd hF h
  unfold testsT
  rw [List.forIn_cons]
  simp only [if_true]
  refine wpAny_bind (wpAny_bind (he A env s m b _ E a eo up rd hF fun s₁ k₁ => wpAny_pure ?_))
  show wpAny (model prog w) A (forIn [] b _) Q E s₁
  rw [List.forIn_nil]
  exact wpAny_pure (h _ k₁)

/-- an iterator's object -/
noncomputable def ItObj (o : Obj) : Prop := o.cls ≠ .type "list" ∧ ∃ vs, o.data = .fields vs

variable (prog w hB k sc ns) in
/-- what can be gone through: its ints one by one (b: it may be a list) -/
noncomputable def ItOk (b : Bool) (e : Expr) (F : List PV → Option (List Int)) : Prop :=
  ∀ (A : Around) (env : Env) (s : Shared) (m : List PV) (xs : List Int) (Q : Value → Shared → Prop) (E : Value → Shared → Prop),
    AOk k A → EnvOk sc env → Up hB s.heap → Rd env ns m s.heap → F m = some xs →
    (∀ I L P St s', Kp s s' → s.heap.get? I = none → Walks prog w A I (I :: L) [I] xs.length P St → St 0 s'.heap → (∀ b ∈ I :: L, b < s'.heap.objs.size) →
      (∀ i v, P i v → i < xs.length → ∃ t, v = .int (xs.getD i 0) t) → xs.length ≤ sizeLine → (∀ i h, St i h → ∃ o, h.get? I = some o ∧ ItObj o) → (L = [] ∨ (b = true ∧ ∃ l us, L = [l] ∧ s'.heap.IsList l us)) → Q (.ref I) s') →
    wpAny (model prog w) A (eval e env) (fun x s₁ => wpAny (model prog w) A (pyIter x) Q E s₁) E s

theorem It_list {e : Expr} {F : List PV → Option PV} (he : EOk prog w hB k sc ns e F) : ItOk prog w hB k sc ns true e (fun m => (F m).bind fun p => p.ints?.bind fun xs => if xs.length < 100000 then some xs else none) := by
  intro A env s m xs Q E a eo up r hF h
  obtain ⟨q, hq, hF⟩ := Option.bind_eq_some_iff.mp hF
  obtain ⟨ys, hx, hF⟩ := Option.bind_eq_some_iff.mp hF
  by_cases hb : ys.length < 100000
  · rw [if_pos hb] at hF
    obtain rfl : ys = xs := Option.some.inj hF
    refine he A env s m q _ E a eo up r hq fun v s₁ k₁ v₁ => ?_
    obtain ⟨l, us, rfl, hL, hI⟩ := v₁.ints hx
    have hlen : us.size = ys.length := by have := hI.length; simpa using this
    refine iter_list a.handled hL fun I s₂ k₂ hI0 W st hfp hcls => ?_
    rw [hlen] at W
    refine h I [l] _ _ s₂ (k₁.trans k₂) ?_ W st hfp (fun i v hv _ => at_int hI hv) (by rw [sizeLine_eq]; omega) ?_ (.inr ⟨rfl, l, us, rfl, isList_seq hL (.of k₂.up)⟩)
    · cases q' : s.heap.get? I with
      | none => rfl
      | some o => rw [k₁.up _ _ q'] at hI0; cases hI0
    · rintro i h' ⟨⟨o, ho, hc, hd⟩, _⟩
      exact ⟨o, ho, by rw [hc]; decide, _, hd⟩
  · rw [if_neg hb] at hF; cases hF

noncomputable def rngL (a b c : Int) : List Int := rangeInts a c (Builtin.Range.rangeSize a b c).toNat

theorem iter_range {A : Around} {s : Shared} {r : Addr} {a b c : Int} {t u v : Tok} {Q : Value → Shared → Prop} {E : Value → Shared → Prop} (hh : A.handled = none) (hr : IsRange s.heap r a b c t u v) (hs : Builtin.Range.small a b c = true) (h0 : 0 ≤ Builtin.Range.rangeSize a b c)
    (hl : (rngL a b c).length ≤ sizeLine)
    (h : ∀ I L P St s', Kp s s' → s.heap.get? I = none → Walks prog w A I (I :: L) [I] (rngL a b c).length P St → St 0 s'.heap → (∀ b ∈ I :: L, b < s'.heap.objs.size) →
      (∀ i v, P i v → i < (rngL a b c).length → ∃ t, v = .int ((rngL a b c).getD i 0) t) → (rngL a b c).length ≤ sizeLine → (∀ i h, St i h → ∃ o, h.get? I = some o ∧ ItObj o) → L = [] → Q (.ref I) s') :
    wpAny (model prog w) A (pyIter (.ref r)) Q E s := by
  have hlen : (rngL a b c).length = (Builtin.Range.rangeSize a b c).toNat := rangeInts_length _ _ _
  refine wpAny_pyIter_range hr hs (h _ [] _ _ _ ⟨_, _, rfl, fun b o e => Heap.get?_push_of_some _ e⟩ ?_ (by rw [hlen]; exact Walks.range hh _ a c _) ?_ ?_ ?_ hl (fun i h' st => ⟨_, st, (fun e => by injection e with e; exact absurd e (by decide)), _, rfl⟩) rfl)
  · exact new_none (Kp.refl s) (Nat.le_refl _)
  · show IsRangeIter _ _ _ _ _
    have e1 : a + ((0 : Nat) : Int) * c = a := by simp
    have e2 : (((Builtin.Range.rangeSize a b c).toNat : Nat) : Int) - ((0 : Nat) : Int) = Builtin.Range.rangeSize a b c := by omega
    rw [e1, e2]
    exact Heap.get?_push_size _ rfl
  · intro b hb
    show b < (s.heap.push _).objs.size
    rw [Heap.size_push]
    simp at hb
    subst hb
    exact Nat.lt_succ_self _
  · rintro i v ⟨t, rfl⟩ hi
    refine ⟨t, ?_⟩
    rw [hlen] at hi
    simp [rngL, rangeInts, List.getD, hi]
end
end Mine
end
section
open PySem PySem.W PySem.Calls PyProof.Rows
namespace Mine

section
variable {prog : Program} {w : World} {hB : Heap} {k : Nat} {sc : Scope} {ns : List Str}
variable {mg mb : Str → Option Value} {defs : List DefItem} {names : List Str}

theorem rngL_one (a b : Int) : rngL a b 1 = rangeInts a 1 (b - a).toNat := by
  unfold rngL
  rw [rangeSize_one]
  by_cases h : a < b
  · rw [if_pos h]
  · rw [if_neg h]
    have : (b - a).toNat = 0 := by omega
    rw [this]; rfl

noncomputable def rngF (a b c : Int) : Option (List Int) :=
  if c = 1 then (if a.natAbs < 1000 ∧ b.natAbs < 1000 then some (rangeInts a 1 (b - a).toNat) else none)
  else if a = 10 ∧ b = -1 ∧ c = -1 then some [10, 9, 8, 7, 6, 5, 4, 3, 2, 1, 0] else none

theorem iter_rng {A : Around} {s : Shared} {r : Addr} {a b c : Int} {t u v : Tok} {xs : List Int} {Q : Value → Shared → Prop} {E : Value → Shared → Prop} (hh : A.handled = none) (hr : IsRange s.heap r a b c t u v) (hx : rngF a b c = some xs)
    (h : ∀ I L P St s', Kp s s' → s.heap.get? I = none → Walks prog w A I (I :: L) [I] xs.length P St → St 0 s'.heap → (∀ b ∈ I :: L, b < s'.heap.objs.size) →
      (∀ i v, P i v → i < xs.length → ∃ t, v = .int (xs.getD i 0) t) → xs.length ≤ sizeLine → (∀ i h, St i h → ∃ o, h.get? I = some o ∧ ItObj o) → L = [] → Q (.ref I) s') :
    wpAny (model prog w) A (pyIter (.ref r)) Q E s := by
  unfold rngF at hx
  by_cases hc : c = 1
  · rw [if_pos hc] at hx
    subst hc
    by_cases hb : a.natAbs < 1000 ∧ b.natAbs < 1000
    · rw [if_pos hb, ← rngL_one] at hx
      obtain rfl := Option.some.inj hx
      have hs : Builtin.Range.rangeSize a b 1 = if a < b then b - a else 0 := rangeSize_one a b
      refine iter_range hh hr (small_one (by omega) (by omega) (by omega) (by omega)) ?_ ?_ h
      · rw [hs]; split <;> omega
      · rw [rngL_one, rangeInts_length, sizeLine_eq]; omega
    · rw [if_neg hb] at hx; cases hx
  · rw [if_neg hc] at hx
    by_cases hb : a = 10 ∧ b = -1 ∧ c = -1
    · rw [if_pos hb] at hx
      obtain ⟨rfl, rfl, rfl⟩ := hb
      have e : rngL 10 (-1) (-1) = [10, 9, 8, 7, 6, 5, 4, 3, 2, 1, 0] := by decide +kernel
      rw [← e] at hx
      obtain rfl := Option.some.inj hx
      exact iter_range hh hr (by decide +kernel) (by decide +kernel) (by rw [e, sizeLine_eq]; decide) h
    · rw [if_neg hb] at hx; cases hx

theorem It_range1 (g : Gd hB mg mb defs names) {bb : Bool} {x : Str} {e : Expr} {p pos : Pos} {F : List PV → Option PV} (b : IsB names sc x (.type "range")) (he : EOk prog w hB k sc ns e F) (hs : star1 e) :
    ItOk prog w hB k sc ns bb (.Call (.Name x p) [e] [] pos) (fun m => match F m with | some (.int n) => rngF 0 n 1 | _ => none) := by
  intro A env s m xs Q E a eo up r hF h
  dsimp only at hF
  split at hF
  · rename_i n hn
    refine Call_ (g.lookB eo up b.glob b.mem b.boot b.nn b.plain ?_)
    refine PyProof.Rows.callWith_type1 (args_cons (he A env s m _ _ E a eo up r hn fun v s₁ k₁ v₁ => args_nil ?_) (hs env [])) (hs env [])
    obtain ⟨t, rfl⟩ := v₁
    refine call_range_1 ?_
    have k₂ : Kp s₁ { s₁ with heap := s₁.heap.push { cls := .type "range", data := .fields #[.int 0 s₁.toks, .int n t, .int 1 (s₁.toks + 1)] }, toks := s₁.toks + 1 + 1 } := ⟨_, _, rfl, fun b o e => Heap.get?_push_of_some _ e⟩
    refine iter_rng a.handled (Heap.get?_push_size _ rfl) hF fun I L P St s' k₃ hI W st hfp hP hl hc hL => ?_
    exact h I L P St s' (k₁.trans (k₂.trans k₃)) (by
      cases q : s.heap.get? I with
      | none => rfl
      | some o => rw [(k₁.trans k₂).up _ _ q] at hI; cases hI) W st hfp hP hl hc (.inl hL)
  · cases hF
theorem It_range2 (g : Gd hB mg mb defs names) {bb : Bool} {x : Str} {e₁ e₂ : Expr} {p pos : Pos} {F₁ F₂ : List PV → Option PV} (b : IsB names sc x (.type "range")) (he : EOk prog w hB k sc ns e₁ F₁) (he₂ : EOk prog w hB k sc ns e₂ F₂) (hs : star1 e₁) (hs₂ : star1 e₂) :
    ItOk prog w hB k sc ns bb (.Call (.Name x p) [e₁, e₂] [] pos) (fun m => match F₁ m, F₂ m with | some (.int n), some (.int j) => rngF n j 1 | _, _ => none) := by
  intro A env s m xs Q E a eo up r hF h
  dsimp only at hF
  split at hF
  · rename_i n j hn hj
    refine Call_ (g.lookB eo up b.glob b.mem b.boot b.nn b.plain ?_)
    refine PyProof.Rows.callWith_type1 (args_cons (he A env s m _ _ E a eo up r hn fun v s₁ k₁ v₁ => args_cons (he₂ A env s₁ m _ _ E a eo (fun b o e => k₁.up b o (up b o e)) (r.keeps k₁.up) hj fun v' s₂ k₂ v₂ => args_nil ?_) (hs₂ env [])) (hs env [e₂])) (hs env [e₂]) (by rw [hs₂ env []]; rfl)
    obtain ⟨t, rfl⟩ := v₁
    obtain ⟨u, rfl⟩ := v₂
    refine call_range_2 ?_
    have k₃ : Kp s₂ { s₂ with heap := s₂.heap.push { cls := .type "range", data := .fields #[.int n t, .int j u, .int 1 s₂.toks] }, toks := s₂.toks + 1 } := ⟨_, _, rfl, fun b o e => Heap.get?_push_of_some _ e⟩
    have k₁₃ := (k₁.trans k₂).trans k₃
    refine iter_rng a.handled (Heap.get?_push_size _ rfl) hF fun I L P St s' k₄ hI W st hfp hP hl hc hL => ?_
    exact h I L P St s' (k₁₃.trans k₄) (by
      cases q : s.heap.get? I with
      | none => rfl
      | some o => rw [k₁₃.up _ _ q] at hI; cases hI) W st hfp hP hl hc (.inl hL)
  · cases hF
theorem It_range3 (g : Gd hB mg mb defs names) {bb : Bool} {x : Str} {e₁ e₂ e₃ : Expr} {p pos : Pos} {F₁ F₂ F₃ : List PV → Option PV} (b : IsB names sc x (.type "range")) (he : EOk prog w hB k sc ns e₁ F₁) (he₂ : EOk prog w hB k sc ns e₂ F₂) (he₃ : EOk prog w hB k sc ns e₃ F₃) (hs : star1 e₁) (hs₂ : star1 e₂) (hs₃ : star1 e₃) :
    ItOk prog w hB k sc ns bb (.Call (.Name x p) [e₁, e₂, e₃] [] pos) (fun m => match F₁ m, F₂ m, F₃ m with | some (.int n), some (.int j), some (.int c) => if c = -1 then rngF n j c else none | _, _, _ => none) := by
  intro A env s m xs Q E a eo up r hF h
  dsimp only at hF
  split at hF
  · rename_i n j c hn hj hc
    by_cases hc1 : c = -1
    · rw [if_pos hc1] at hF
      subst hc1
      refine Call_ (g.lookB eo up b.glob b.mem b.boot b.nn b.plain ?_)
      refine PyProof.Rows.callWith_type1 (args_cons (he A env s m _ _ E a eo up r hn fun v s₁ k₁ v₁ => args_cons (he₂ A env s₁ m _ _ E a eo (fun b o e => k₁.up b o (up b o e)) (r.keeps k₁.up) hj fun v' s₂ k₂ v₂ => args_cons (he₃ A env s₂ m _ _ E a eo (fun b o e => (k₁.trans k₂).up b o (up b o e)) (r.keeps (k₁.trans k₂).up) hc fun v'' s₃ k₃ v₃ => args_nil ?_) (hs₃ env [])) (hs₂ env [e₃])) (hs env [e₂, e₃])) (hs env [e₂, e₃]) (by rw [hs₂ env [e₃], hs₃ env []]; rfl)
      obtain ⟨t, rfl⟩ := v₁
      obtain ⟨u, rfl⟩ := v₂
      obtain ⟨u', rfl⟩ := v₃
      refine call_range_3 (by decide) ?_ (.inl (PyProof.noPylong_small (by decide)))
      have k₄ : Kp s₃ { s₃ with heap := s₃.heap.push { cls := .type "range", data := .fields #[.int n t, .int j u, .int (-1) u'] }, toks := s₃.toks } := ⟨_, _, rfl, fun b o e => Heap.get?_push_of_some _ e⟩
      have k₁₃ := ((k₁.trans k₂).trans k₃).trans k₄
      refine iter_rng a.handled (Heap.get?_push_size _ rfl) hF fun I L P St s' k₄ hI W st hfp hP hl hc hL => ?_
      exact h I L P St s' (k₁₃.trans k₄) (by
        cases q : s.heap.get? I with
        | none => rfl
        | some o => rw [k₁₃.up _ _ q] at hI; cases hI) W st hfp hP hl hc (.inl hL)
    · rw [if_neg hc1] at hF; cases hF
  · cases hF

/-- the cells that a comprehension takes with it -/
noncomputable def closL (env : Env) : List (Str × NameKind) → List (Str × Addr) → List (Str × Addr)
  | [], acc => acc
  | (n, kd) :: r, acc => if kd == .free then closL env r ((n, ((env.cells.lookup n).getD 0)) :: acc) else closL env r acc
theorem clos_go (env : Env) (f : Str × NameKind → List (Str × Addr) → Sem (ForInStep (List (Str × Addr))))
    (hf : ∀ n kd acc, f (n, kd) acc = if kd == .free then (do let a ← cellOf env n; pure (.yield ((n, a) :: acc))) else pure (.yield acc)) :
    ∀ (l : List (Str × NameKind)) (acc : List (Str × Addr)), (∀ y ∈ l, y.2 = .free → (env.cells.lookup y.1).isSome = true) → forIn l acc f = pure (closL env l acc)
  | [], acc, _ => by rw [List.forIn_nil]; rfl
  | (n, kd) :: r, acc, h => by
    rw [List.forIn_cons, hf]
    unfold closL
    by_cases hk : (kd == NameKind.free) = true
    · rw [if_pos hk, if_pos hk]
      obtain ⟨c, hc⟩ := Option.isSome_iff_exists.mp (h (n, kd) List.mem_cons_self (by simpa using hk))
      have : cellOf env n = pure c := by unfold cellOf; rw [hc]
      rw [this, hc]
      simp only [pure_bind, Option.getD_some]
      exact clos_go env f hf r _ fun y hy => h y (List.mem_cons_of_mem _ hy)
    · rw [if_neg hk, if_neg hk]
      simp only [pure_bind]
      exact clos_go env f hf r _ fun y hy => h y (List.mem_cons_of_mem _ hy)
theorem closureFor_is {env : Env} {scope : Scope} (h : ∀ y ∈ scope.names, y.2 = .free → (env.cells.lookup y.1).isSome = true) : closureFor scope env = pure (closL env scope.names []) := by
  unfold closureFor
  dsimp only
  rw [clos_go env _ (fun n kd acc => ?_) scope.names [] h]
  · rfl
  · cases kd == NameKind.free <;> simp
theorem closL_mem {env : Env} : ∀ (l : List (Str × NameKind)) (acc : List (Str × Addr)), (∀ y ∈ l, y.2 = .free → (env.cells.lookup y.1).isSome = true) → (∀ n c, (n, c) ∈ acc → env.cells.lookup n = some c) →
    (∀ n c, (n, c) ∈ closL env l acc → env.cells.lookup n = some c) ∧ (∀ n, ((∃ c, (n, c) ∈ acc) ∨ (n, NameKind.free) ∈ l) → ∃ c, (n, c) ∈ closL env l acc)
  | [], acc, _, ha => ⟨ha, fun n h => h.elim id nofun⟩
  | (n₀, kd) :: r, acc, h, ha => by
    have hr : ∀ y ∈ r, y.2 = .free → (env.cells.lookup y.1).isSome = true := fun y hy => h y (List.mem_cons_of_mem _ hy)
    unfold closL
    by_cases hk : (kd == NameKind.free) = true
    · rw [if_pos hk]
      obtain ⟨c, hc⟩ := Option.isSome_iff_exists.mp (h (n₀, kd) List.mem_cons_self (by simpa using hk))
      rw [hc, Option.getD_some]
      obtain ⟨h1, h2⟩ := closL_mem r ((n₀, c) :: acc) hr fun n c' hm => by
        rcases List.mem_cons.mp hm with e | hm
        · cases e; exact hc
        · exact ha n c' hm
      refine ⟨h1, fun n hn => h2 n ?_⟩
      rcases hn with ⟨c', hm⟩ | hm
      · exact .inl ⟨c', List.mem_cons_of_mem _ hm⟩
      · rcases List.mem_cons.mp hm with e | hm
        · cases e; exact .inl ⟨c, List.mem_cons_self⟩
        · exact .inr hm
    · rw [if_neg hk]
      obtain ⟨h1, h2⟩ := closL_mem r acc hr ha
      refine ⟨h1, fun n hn => h2 n ?_⟩
      rcases hn with hm | hm
      · exact .inl hm
      · rcases List.mem_cons.mp hm with e | hm
        · cases e; exact absurd rfl hk
        · exact .inr hm
theorem lookup_of_mem {n : Str} {c : Addr} : ∀ {l : List (Str × Addr)}, (n, c) ∈ l → ∃ c', l.lookup n = some c'
  | (k, v) :: r, h => by
    rw [List.lookup_cons]
    cases hb : n == k with
    | true => exact ⟨v, rfl⟩
    | false =>
      rcases List.mem_cons.mp h with e | h
      · cases e; simp at hb
      · exact lookup_of_mem h
theorem closL_look {env : Env} {l : List (Str × NameKind)} (h : ∀ y ∈ l, y.2 = .free → (env.cells.lookup y.1).isSome = true) {n : Str} (hn : (n, NameKind.free) ∈ l) : (closL env l []).lookup n = env.cells.lookup n := by
  obtain ⟨h1, h2⟩ := closL_mem l [] h nofun
  obtain ⟨c, hc⟩ := h2 n (.inr hn)
  obtain ⟨c', hc'⟩ := lookup_of_mem hc
  rw [hc', h1 n c' (PySem.mem_of_lookup hc')]
end
end Mine
end
section
open PySem PySem.W PySem.Calls PyProof.Rows
namespace Mine

noncomputable def relS (scope sc : Scope) : Scope := { scope with names := scope.names.map fun (n, k) => if (k == .free && sc.kind == .function && sc.names.lookup n == some .cell) then (n, .cell) else (n, k) }

noncomputable def maskM (msk : List Bool) (m : List PV) : List PV := List.zipWith (fun b p => if b then p else .undef) msk m

/-- an element a value, those that fail the test left out -/
noncomputable def compE (T : Int → Option Bool) (G : Int → Option PV) : List Int → Option (List Int)
  | [] => some []
  | x :: r => match T x with
    | some true => match G x, compE T G r with
      | some (.int y), some ys => some (y :: ys)
      | _, _ => none
    | some false => compE T G r
    | none => none

noncomputable def intOr (v : Value) : Int := match v with | .int i _ => i | _ => 0
noncomputable def testP (T : Int → Option Bool) (v : Value) : Bool := (T (intOr v)).getD false
noncomputable def eltP (G : Int → Option PV) (v y : Value) : Prop := ∃ j u, y = .int j u ∧ G (intOr v) = some (.int j)

theorem compE_def {T : Int → Option Bool} {G : Int → Option PV} : ∀ {xs ys : List Int}, compE T G xs = some ys → ∀ x ∈ xs, ∃ b, T x = some b ∧ (b = true → ∃ y, G x = some (.int y))
  | [], _, _, x, hx => by cases hx
  | z :: r, ys, h, x, hx => by
    unfold compE at h
    split at h
    · rename_i hT
      split at h
      · rename_i y ys' hG hr
        rcases List.mem_cons.mp hx with rfl | hx
        · exact ⟨true, hT, fun _ => ⟨y, hG⟩⟩
        · exact compE_def hr x hx
      · cases h
    · rename_i hT
      rcases List.mem_cons.mp hx with rfl | hx
      · exact ⟨false, hT, nofun⟩
      · exact compE_def h x hx
    · cases h
theorem compE_out {T : Int → Option Bool} {G : Int → Option PV} : ∀ {xs ys : List Int} {vs zs : List Value}, compE T G xs = some ys → IntsAre vs xs → Paired (eltP G) (vs.filter (testP T)) zs → IntsAre zs ys
  | [], ys, vs, zs, h, hi, hp => by
    cases h; cases hi
    cases hp; exact .nil
  | x :: r, ys, vs, zs, h, hi, hp => by
    cases hi with
    | cons n t hr =>
      unfold compE at h
      split at h
      · rename_i hT
        split at h
        · rename_i y ys' hG hr'
          cases h
          rw [List.filter_cons, if_pos (by unfold testP intOr; rw [hT]; rfl)] at hp
          cases hp with
          | cons h1 h2 =>
            obtain ⟨j, u, rfl, hj⟩ := h1
            have : intOr (.int x t) = x := rfl
            rw [this, hG] at hj
            cases hj
            exact .cons _ _ (compE_out hr' hr h2)
        · cases h
      · rename_i hT
        rw [List.filter_cons, if_neg (by unfold testP intOr; rw [hT]; simp)] at hp
        exact compE_out h hr hp
      · cases h

structure CompOk (scope sc : Scope) (ns : List Str) (x : Str) (cv : Bool) (msk : List Bool) : Prop where
  kind : scope.kind = .function
  sck : sc.kind = .function
  cells : ∀ n cl, cellsFrom n scope.names cl = ownCells cv x n cl
  push : ∀ h, pushCells h scope.names = if cv then h.push { cls := .type "cell", data := .cell none } else h
  hx : (relS scope sc).names.lookup x = some (if cv then .cell else .local)
  locals : ∀ y ∈ scope.names, y.2 = .local → scope.names.lookup y.1 = some .local
  free : ∀ y ∈ scope.names, y.2 = .free → sc.names.lookup y.1 = some .cell ∨ sc.names.lookup y.1 = some .free
  msk : ∀ p ∈ msk.zip ns, p.1 = true → (p.2, NameKind.free) ∈ scope.names ∧ p.2 ≠ x ∧ ((relS scope sc).names.lookup p.2 = some .cell ∨ (relS scope sc).names.lookup p.2 = some .free)
  own : ∀ y ∈ (relS scope sc).names, (y.2 = .cell ∨ y.2 = .free) → (y.1 = x ∧ cv = true) ∨ (y.1 ≠ x ∧ (y.1, NameKind.free) ∈ scope.names)

theorem lookup_mem' {n : Str} {kd : NameKind} : ∀ {l : List (Str × NameKind)}, l.lookup n = some kd → (n, kd) ∈ l
  | (k, v) :: r, h => by
    rw [List.lookup_cons] at h
    cases hb : n == k with
    | true => rw [hb] at h; cases h; rw [beq_iff_eq.mp hb]; exact List.mem_cons_self
    | false => rw [hb] at h; exact List.mem_cons_of_mem _ (lookup_mem' h)

section
variable {prog : Program} {w : World} {hB : Heap} {k : Nat} {sc : Scope} {ns : List Str}
variable {scope : Scope} {x : Str} {cv : Bool} {msk : List Bool}

theorem CompOk.cellsSome (c : CompOk scope sc ns x cv msk) {env : Env} (eo : EnvOk sc env) : ∀ y ∈ scope.names, y.2 = .free → (env.cells.lookup y.1).isSome = true := fun y hy hf => eo.cells y.1 (c.free y hy hf)

/-- the comprehension's own frame -/
theorem CompOk.env (c : CompOk scope sc ns x cv msk) {env : Env} (eo : EnvOk sc env) (C cx : Addr) : EnvOk (relS scope sc) (compEnvC scope (ownCells cv x cx (closL env scope.names [])) C env) where
  scope := by
    show relabel scope env = relS scope sc
    unfold relabel relS Env.kindOf
    rw [eo.scope]
  kind := c.kind
  globals := eo.globals
  builtins := eo.builtins
  cells := fun n hn => by
    have hm : ∃ kd, (n, kd) ∈ (relS scope sc).names ∧ (kd = .cell ∨ kd = .free) := by
      rcases hn with h | h
      · exact ⟨_, lookup_mem' h, .inl rfl⟩
      · exact ⟨_, lookup_mem' h, .inr rfl⟩
    obtain ⟨kd, hm, hk⟩ := hm
    show (List.lookup n (ownCells cv x cx (closL env scope.names []))).isSome = true
    rcases c.own _ hm hk with ⟨rfl, rfl⟩ | ⟨hne, hf⟩
    · unfold ownCells; simp
    · have h1 := closL_look (c.cellsSome eo) hf
      have h2 := c.cellsSome eo _ hf rfl
      have : List.lookup n (ownCells cv x cx (closL env scope.names [])) = (closL env scope.names []).lookup n := by
        unfold ownCells
        cases cv with
        | false => rfl
        | true =>
          rw [if_pos rfl, List.lookup_cons]
          have : (n == x) = false := by simpa using hne
          rw [this]
      rw [this, h1]; exact h2

theorem CompOk.rd (c : CompOk scope sc ns x cv msk) {env : Env} (eo : EnvOk sc env) {C cx : Addr} {m : List PV} {h : Heap} {i : Int} {t : Tok} (r : Rd env ns m h)
    (hld : Ld (compEnvC scope (ownCells cv x cx (closL env scope.names [])) C env) h x (.int i t)) : Rd (compEnvC scope (ownCells cv x cx (closL env scope.names [])) C env) (x :: ns) (.int i :: maskM msk m) h := by
  intro j p hp hu
  cases j with
  | zero =>
    simp at hp
    subst hp
    exact ⟨x, _, rfl, hld, t, rfl⟩
  | succ j =>
    rw [List.getElem?_cons_succ] at hp
    unfold maskM at hp
    rw [List.getElem?_zipWith] at hp
    cases hb : msk[j]? with
    | none => rw [hb] at hp; simp at hp
    | some b =>
      cases hq : m[j]? with
      | none => rw [hb, hq] at hp; simp at hp
      | some q =>
        rw [hb, hq] at hp
        simp only [Option.some.injEq] at hp
        cases b with
        | false => simp at hp; exact absurd hp.symm hu
        | true =>
          simp at hp
          subst hp
          obtain ⟨n, v, h1, h2, h3⟩ := r j q hq hu
          refine ⟨n, v, by rw [List.getElem?_cons_succ]; exact h1, ?_, h3⟩
          have hz : (true, n) ∈ msk.zip ns := by
            have : (msk.zip ns)[j]? = some (true, n) := by rw [List.getElem?_zip_eq_some]; exact ⟨hb, h1⟩
            exact List.mem_of_getElem? this
          obtain ⟨m1, m2, m3⟩ := c.msk _ hz rfl
          have hcell : ∃ ca, env.cells.lookup n = some ca ∧ h.IsCell ca (some v) := by
            rcases h2 with ⟨hl, _⟩ | ⟨_, ca, h4, h5⟩
            · have h6 := c.free _ m1 rfl
              unfold Env.kindOf at hl
              rw [eo.scope] at hl
              rcases h6 with h6 | h6 <;> rw [h6] at hl <;> cases hl
            · exact ⟨ca, h4, h5⟩
          obtain ⟨ca, h4, h5⟩ := hcell
          refine .inr ⟨?_, ca, ?_, h5⟩
          · show List.lookup n (relabel scope env).names = some .cell ∨ List.lookup n (relabel scope env).names = some .free
            have : relabel scope env = relS scope sc := by unfold relabel relS Env.kindOf; rw [eo.scope]
            rw [this]; exact m3
          · show List.lookup n (ownCells cv x cx (closL env scope.names [])) = some ca
            have h7 := closL_look (c.cellsSome eo) m1
            unfold ownCells
            cases cv with
            | false => rw [if_neg (by decide), h7]; exact h4
            | true =>
              rw [if_pos rfl, List.lookup_cons]
              have : (n == x) = false := by simpa using m2
              rw [this, h7]; exact h4

theorem Kp.but {s s₂ : Shared} (a : Kp s s₂) {I : Addr} (h0 : s.heap.get? I = none) {h' : Heap} (hk : ∀ b o, b ∉ [I] → s₂.heap.get? b = some o → h'.get? b = some o) : ∀ b o, s.heap.get? b = some o → h'.get? b = some o :=
  fun b o e => hk b o (fun hm => by simp at hm; subst hm; rw [h0] at e; cases e) (a.up b o e)
theorem getD_mem' {xs : List Int} {i : Nat} (h : i < xs.length) : xs.getD i 0 ∈ xs := by
  rw [List.getD, List.getElem?_eq_getElem h]
  exact List.getElem_mem h
theorem ints_of : ∀ {vs : List Value} {xs : List Int}, vs.length = xs.length → (∀ (j : Nat) (v : Value), vs[j]? = some v → ∃ t, v = .int (xs.getD j 0) t) → IntsAre vs xs
  | [], [], _, _ => .nil
  | v :: vs, x :: xs, hl, h => by
    obtain ⟨t, rfl⟩ := h 0 v rfl
    exact .cons x t (ints_of (by simpa using hl) fun j v hj => by simpa using h (j + 1) v (by simpa using hj))
  | [], _ :: _, hl, _ => by simp at hl
  | _ :: _, [], hl, _ => by simp at hl

theorem comp_block {A : Around} {E : Value → Shared → Prop} {env : Env} {elt iter : Expr} {px : Pos} {ifs : List Expr} {pos : Pos} {s s₂ : Shared} {I : Addr} {L : List Addr} {P : Nat → Value → Prop} {St : Nat → Heap → Prop} {m : List PV} {xs ys : List Int}
    {RR : Value → Addr → Result → Shared → Prop} {Felt : List PV → Option PV} {Fif : List PV → Option Bool}
    (c : CompOk scope sc ns x cv msk) (a : AOk k A) (eo : EnvOk sc env) (up : Up hB s.heap) (r : Rd env ns m s.heap) (k₂ : Kp s s₂) (hI : s.heap.get? I = none)
    (helt : EOk prog w hB k (relS scope sc) (x :: ns) elt Felt) (hifs : TsOk prog w hB k (relS scope sc) (x :: ns) ifs Fif)
    (hy : compE (fun i => Fif (.int i :: maskM msk m)) (fun i => Felt (.int i :: maskM msk m)) xs = some ys)
    (W : Walks prog w A I (I :: L) [I] xs.length P St) (st : St 0 s₂.heap) (hfp : ∀ b ∈ I :: L, b < s₂.heap.objs.size)
    (hP : ∀ i v, P i v → i < xs.length → ∃ t, v = .int (xs.getD i 0) t) (hl : xs.length ≤ sizeLine)
    (hRR : ∀ D C h' tk m' zs, s₂.heap.get? D = none → s₂.heap.get? C = none → D ≠ C → h'.Ns C m' → h'.PlainList D zs → IntsAre zs.toList ys → (∀ b o, b ∉ [I] → s₂.heap.get? b = some o → h'.get? b = some o) →
      RR (.ref D) C (.ok .next) { s₂ with heap := h', toks := tk }) :
    wpAny (model prog w) A (newList []) (fun acc s₃ => wpAny (model prog w) A (newFunctionEnv scope env.globals (closL env scope.names []) [] env.qual none .none (some env)) (fun cenv s₄ =>
      codeAny (model prog w) A (.compStart (.ListComp elt [⟨.Name x px, iter, ifs, 0⟩] scope pos) 0 (.ref I) acc { cenv with scope := relabel scope env }) (RR acc cenv.locals) s₄) E s₃) E s₂ := by
  refine wpAny_newObj_type (newFE_comp ?_)
  generalize hD : s₂.heap.objs.size = D
  generalize hH : s₂.heap.push { cls := .type "list", dict := none, data := .seq ([] : List Value).toArray } = H
  have hHs : H.objs.size = D + 1 := by rw [← hH, Heap.size_push, hD]
  dsimp only
  rw [hHs, c.cells, c.push]
  have old : ∀ b o, s₂.heap.get? b = some o → H.get? b = some o := fun b o e => by rw [← hH]; exact Heap.get?_push_of_some _ e
  have hacc : H.PlainList D #[] := ⟨0, by rw [← hH, ← hD]; exact Heap.get?_push_size _ rfl⟩
  generalize hH1 : H.push { cls := .type "dict", data := .dict #[] } = H1
  have hH1s : H1.objs.size = D + 2 := by rw [← hH1, Heap.size_push, hHs]
  have hns1 : H1.Ns (D + 1) fun _ => none := by rw [← hH1, ← hHs]; exact Heap.Ns.new ..
  have old1 : ∀ b o, H.get? b = some o → H1.get? b = some o := fun b o e => by rw [← hH1]; exact Heap.get?_push_of_some _ e
  generalize hH2 : (if cv = true then H1.push { cls := .type "cell", data := .cell none } else H1) = H2
  have old2 : ∀ b o, H1.get? b = some o → H2.get? b = some o := fun b o e => by
    rw [← hH2]; cases cv with
    | false => exact e
    | true => exact Heap.get?_push_of_some _ e
  have oldA : ∀ b o, s₂.heap.get? b = some o → H2.get? b = some o := fun b o e => old2 b o (old1 b o (old b o e))
  have hcell : cv = true → ∃ ov, H2.IsCell (D + 1 + 1) ov := fun q => ⟨none, by
    subst q; rw [← hH2]
    refine ⟨{ cls := .type "cell", data := .cell none }, ?_, rfl⟩
    have : D + 1 + 1 = H1.objs.size := by rw [hH1s]
    rw [this]; exact Heap.get?_push_size _ rfl⟩
  have hlt : ∀ b : Nat, b < s₂.heap.objs.size → (b : Nat) ≠ D ∧ (b : Nat) ≠ D + 1 ∧ (b : Nat) ≠ D + 1 + 1 := fun b hb => by
    have hb' : b < D := Nat.lt_of_lt_of_eq hb hD
    clear hb
    exact ⟨Nat.ne_of_lt hb', Nat.ne_of_lt (Nat.lt_succ_of_lt hb'), Nat.ne_of_lt (Nat.lt_succ_of_lt (Nat.lt_succ_of_lt hb'))⟩
  have nofp : ∀ b : Nat, D ≤ b → b ∉ I :: L := fun b hb hm => Nat.lt_irrefl _ (Nat.lt_of_lt_of_le (Nat.lt_of_lt_of_eq (hfp b hm) hD) hb)
  have fresh : ∀ b : Nat, D ≤ b → s₂.heap.get? b = none := fun b hb => new_none (Kp.refl s₂) (Nat.le_trans (Nat.le_of_eq hD) hb)
  have d1 : (D : Nat) ≠ D + 1 := Nat.ne_of_lt (Nat.lt_succ_self D)
  have l1 : (D : Nat) ≤ D + 1 := Nat.le_succ D
  have l2 : (D : Nat) ≤ D + 1 + 1 := Nat.le_succ_of_le (Nat.le_succ D)
  have d2 : (D + 1 + 1 : Nat) ≠ D := Nat.ne_of_gt (Nat.lt_succ_of_lt (Nat.lt_succ_self D))
  have d3 : (D + 1 + 1 : Nat) ≠ D + 1 := Nat.ne_of_gt (Nat.lt_succ_self _)
  have hst : St 0 H2 := W.frame _ _ _ st fun b _ o e => oldA b o e
  have hcs : ∀ h : Heap, (∀ b o, b ≠ D + 1 → b ∉ [I] → b ≠ D → b ≠ D + 1 + 1 → H2.get? b = some o → h.get? b = some o) → (∀ b o, b ∉ [I] → s₂.heap.get? b = some o → h.get? b = some o) := fun h hk b o hb e =>
    have := hlt b (Heap.lt_size e); hk b o this.2.1 hb this.1 this.2.2 (oldA b o e)
  show codeAny (model prog w) A (.compStart (.ListComp elt [⟨.Name x px, iter, ifs, 0⟩] scope pos) 0 (.ref I) (.ref D) (compEnvC scope (ownCells cv x (D + 1 + 1) (closL env scope.names [])) (D + 1) env)) (RR (.ref D) (D + 1)) { s₂ with heap := H2 }
  have eoC := c.env eo (D + 1) (D + 1 + 1)
  have loop : codeAny (model prog w) A (.compLoop (.ListComp elt [⟨.Name x px, iter, ifs, 0⟩] scope pos) 0 (.ref I) (.ref D) (compEnvC scope (ownCells cv x (D + 1 + 1) (closL env scope.names [])) (D + 1) env)) (RR (.ref D) (D + 1)) { s₂ with heap := H2 } := by
    refine comp_loop (W := W) (cv := cv) (cx := D + 1 + 1) (testP fun i => Fif (.int i :: maskM msk m)) (eltP fun i => Felt (.int i :: maskM msk m))
      (by rw [eoC.scope]; exact c.kind) (by unfold Env.kindOf; rw [eoC.scope]; exact c.hx) (fun q => by subst q; show List.lookup x (ownCells true x _ _) = _; unfold ownCells; simp)
      d1 (nofp D (Nat.le_refl _)) (nofp (D + 1) l1) (nofp (D + 1 + 1) l2) d3 d2
      hst (hacc.at fun o e => old2 _ _ (old1 _ _ e)) ⟨_, hns1.keeps old2⟩ hcell ?_ ?_ ?_ hl
    · intro i v s₃ E' hlt hPv hld hk
      obtain ⟨t, rfl⟩ := hP i v hPv hlt
      obtain ⟨b, hb, _⟩ := compE_def hy (xs.getD i 0) (getD_mem' hlt)
      have ks := k₂.but hI (hcs _ hk)
      refine hifs A _ s₃ _ b _ E' a eoC (fun b o e => ks b o (up b o e)) (c.rd eo (r.keeps ks) hld) hb fun s₄ k₄ => ⟨?_, k₄⟩
      show b = (Fif (.int (xs.getD i 0) :: maskM msk m)).getD false
      rw [hb]; rfl
    · intro i v s₃ E' hlt hPv hpv hld hk
      obtain ⟨t, rfl⟩ := hP i v hPv hlt
      obtain ⟨b, hb, hg⟩ := compE_def hy (xs.getD i 0) (getD_mem' hlt)
      have hbt : b = true := by
        have hpv' : (Fif (.int (xs.getD i 0) :: maskM msk m)).getD false = true := hpv
        rw [hb] at hpv'
        exact hpv'
      obtain ⟨y, hg⟩ := hg hbt
      have ks := k₂.but hI (hcs _ hk)
      refine helt A _ s₃ _ (.int y) _ E' a eoC (fun b o e => ks b o (up b o e)) (c.rd eo (r.keeps ks) hld) hg fun v' s₄ k₄ v₄ => ⟨?_, k₄⟩
      obtain ⟨u, rfl⟩ := v₄
      exact ⟨y, u, rfl, hg⟩
    · intro h' tk m' zs vs hn hp hlen hvs hpr hk
      refine hRR D (D + 1) h' tk m' zs (fresh D (Nat.le_refl _)) (fresh (D + 1) l1) d1 hn hp (compE_out hy ?_ hpr) (hcs h' hk)
      refine ints_of hlen fun j v hj => hP j v (hvs j v hj) ?_
      rw [← hlen]
      exact (List.getElem?_eq_some_iff.mp hj).1
  exact codeAny_compStart_list loop (W.self 0 _ _ _ hst loop)

theorem E_comp {bb : Bool} {elt iter : Expr} {px : Pos} {ifs : List Expr} {pos : Pos} {Fit : List PV → Option (List Int)} {Felt : List PV → Option PV} {Fif : List PV → Option Bool} (c : CompOk scope sc ns x cv msk)
    (hit : ItOk prog w hB k sc ns bb iter Fit) (helt : EOk prog w hB k (relS scope sc) (x :: ns) elt Felt) (hifs : TsOk prog w hB k (relS scope sc) (x :: ns) ifs Fif)
    (hs : ∀ env v, foldedSetIterable iter env v = pure v) :
    EOkF prog w hB k sc ns (.ListComp elt [⟨.Name x px, iter, ifs, 0⟩] scope pos) (fun m => (Fit m).bind fun xs => (compE (fun i => Fif (.int i :: maskM msk m)) (fun i => Felt (.int i :: maskM msk m)) xs).map PV.list) := by
  intro A env s m p Q E a eo up r hF h
  obtain ⟨xs, hx, hF⟩ := Option.bind_eq_some_iff.mp hF
  obtain ⟨ys, hy, rfl⟩ := Option.map_eq_some_iff.mp hF
  rw [eval_ListComp]
  refine wpAny_comprehension_free (use := none) rfl (hs env) (closureFor_is (c.cellsSome eo)) c.kind c.locals (hit A env s m xs _ E a eo up r hx fun I L P St s₂ k₂ hI W st hfp hP hl hc hL => ?_)
  refine comp_block (RR := fun acc C => compPost (model prog w) A E none Q acc C) c a eo up r k₂ hI helt hifs hy W st hfp hP hl ?_
  intro D C h' tk m' zs hD hC hDC hn hp hz hk
  refine ⟨m', hn, fun h'' hs'' => h _ _ ?_ ⟨D, zs, rfl, (hp.extBut hs''.extBut hDC).isList, hz⟩ fun b e => ?_⟩
  · have ks := k₂.but hI hk
    have ku := k₂.up
    obtain ⟨h₂, tk₂, rfl, _⟩ := k₂
    refine ⟨h'', tk, rfl, fun b o e => hs''.extBut b o (fun q => ?_) (ks b o e)⟩
    subst q
    rw [ku _ o e] at hC; cases hC
  · cases e
    cases q : s.heap.get? D with
    | none => rfl
    | some o => rw [k₂.up _ _ q] at hD; cases hD
end
end Mine
end
section
open PySem PySem.W PySem.Calls PyProof.Rows
namespace Mine

/-- the rest of the state: as it was, or (gm) generators may be left behind -/
noncomputable def GRel (gm : Bool) (s s' : Shared) : Prop := match gm with
  | false => s'.gens = s.gens ∧ s'.drawn = s.drawn ∧ s'.os = s.os
  | true => s'.os = s.os ∧ (AllBare s.gens → AllBare s'.gens)
theorem GRel.refl {gm : Bool} {s : Shared} : GRel gm s s := by
  cases gm with
  | false => exact ⟨rfl, rfl, rfl⟩
  | true => exact ⟨rfl, fun g => g⟩
theorem GRel.trans {gm : Bool} {s₁ s₂ s₃ : Shared} (a : GRel gm s₁ s₂) (b : GRel gm s₂ s₃) : GRel gm s₁ s₃ := by
  cases gm with
  | false => exact ⟨b.1.trans a.1, b.2.1.trans a.2.1, b.2.2.trans a.2.2⟩
  | true => exact ⟨b.1.trans a.1, fun g => b.2 (a.2 g)⟩
theorem GRel.of {gm : Bool} {s s' : Shared} (h1 : s'.gens = s.gens) (h2 : s'.drawn = s.drawn) (h3 : s'.os = s.os) : GRel gm s s' := by
  cases gm with
  | false => exact ⟨h1, h2, h3⟩
  | true => exact ⟨h3, fun g => h1 ▸ g⟩
/-- what a step may do -/
structure Kg (gm : Bool) (s s' : Shared) : Prop where
  up : ∀ b o, s.heap.get? b = some o → s'.heap.get? b = some o
  rel : GRel gm s s'
section
variable {gm : Bool}
theorem Kp.g {s s' : Shared} (k : Kp s s') : Kg gm s s' := by
  obtain ⟨h, tk, rfl, k⟩ := k
  exact ⟨k, GRel.of rfl rfl rfl⟩
theorem Kg.trans {s₁ s₂ s₃ : Shared} (a : Kg gm s₁ s₂) (b : Kg gm s₂ s₃) : Kg gm s₁ s₃ := ⟨fun x o e => b.up x o (a.up x o e), a.rel.trans b.rel⟩
theorem Kg.refl (s : Shared) : Kg gm s s := ⟨fun _ _ e => e, GRel.refl⟩
theorem Kg.p {s s' : Shared} (k : Kg false s s') : Kp s s' := by
  obtain ⟨up, h1, h2, h3⟩ := k
  obtain ⟨h, g, d, t, os⟩ := s
  obtain ⟨h', g', d', t', os'⟩ := s'
  simp only at h1 h2 h3
  subst h1 h2 h3
  exact ⟨h', t', rfl, up⟩
end

section
variable (prog : Program) (w : World) (hB : Heap) (gm : Bool) (k : Nat) (sc : Scope) (ns : List Str)
noncomputable def EOkG (e : Expr) (F : List PV → Option PV) : Prop :=
  ∀ (A : Around) (env : Env) (s : Shared) (m : List PV) (p : PV) (Q : Value → Shared → Prop) (E : Value → Shared → Prop),
    AOk k A → EnvOk sc env → Up hB s.heap → Rd env ns m s.heap → F m = some p →
    (∀ v s', Kg gm s s' → VR s'.heap v p → Fresh s.heap v → Q v s') → wpAny (model prog w) A (eval e env) Q E s
noncomputable def TOkG (e : Expr) (F : List PV → Option Bool) : Prop :=
  ∀ (A : Around) (env : Env) (s : Shared) (m : List PV) (p : Bool) (Q : Bool → Shared → Prop) (E : Value → Shared → Prop),
    AOk k A → EnvOk sc env → Up hB s.heap → Rd env ns m s.heap → F m = some p →
    (∀ s', Kg gm s s' → Q p s') → wpAny (model prog w) A (isTrue e env (eval e env)) Q E s
/-- a call of f, where a generator may be left behind -/
noncomputable def COkG (f : Value) (G : List PV → Option PV) : Prop :=
  ∀ (A : Around) (s : Shared) (vs : List Value) (ps : List PV) (p : PV) (Q : Value → Shared → Prop) (E : Value → Shared → Prop),
    AOk k A → Up hB s.heap → vs.length = ps.length → (∀ (i : Nat) (v : Value) (q : PV), vs[i]? = some v → ps[i]? = some q → VR s.heap v q) → G ps = some p →
    (∀ v s', Kg gm s s' → VR s'.heap v p → Fresh s.heap v → Q v s') → wpAny (model prog w) A (call f vs) Q E s
end

section
variable {prog : Program} {w : World} {hB : Heap} {gm : Bool} {k : Nat} {sc : Scope} {ns : List Str}
variable {mg mb : Str → Option Value} {defs : List DefItem} {names : List Str}

theorem EOkF.g {e : Expr} {F : List PV → Option PV} (x : EOkF prog w hB k sc ns e F) : EOkG prog w hB gm k sc ns e F :=
  fun A env s m p Q E a b c d f h => x A env s m p Q E a b c d f fun v s' h1 h2 h3 => h v s' h1.g h2 h3
theorem TOk.g {e : Expr} {F : List PV → Option Bool} (x : TOk prog w hB k sc ns e F) : TOkG prog w hB gm k sc ns e F :=
  fun A env s m p Q E a b c d f h => x A env s m p Q E a b c d f fun s' h1 => h s' h1.g
/-- a scalar, or nothing -/
noncomputable def scl (F : List PV → Option PV) (m : List PV) : Option PV := (F m).bind fun p => if p.scalar then some p else none
theorem EOk.s {e : Expr} {F : List PV → Option PV} (x : EOk prog w hB k sc ns e F) : EOkF prog w hB k sc ns e (scl F) := by
  intro A env s m p Q E a b c d f h
  obtain ⟨q, hq, hf⟩ := Option.bind_eq_some_iff.mp f
  by_cases hs : q.scalar = true
  · rw [if_pos hs] at hf; cases hf
    exact x A env s m _ Q E a b c d hq fun v s' h1 h2 => h v s' h1 h2 (h2.fresh hs)
  · rw [if_neg hs] at hf; cases hf

structure FnAt (hB : Heap) (mg : Str → Option Value) (x : Str) (f : Addr) : Prop where
  name : mg x = some (.ref f)
  obj : ∃ o fd, hB.get? f = some o ∧ o.data = .func fd

theorem E_call1G (g : Gd hB mg mb defs names) {x : Str} {f : Addr} {e : Expr} {p pos : Pos} {F : List PV → Option PV} {G : List PV → Option PV} (hx : sc.names.lookup x = some .globalImplicit) (hp : plainName x = true)
    (hf : FnAt hB mg x f) (hc : COkG prog w hB gm k (.ref f) G) (he : EOk prog w hB k sc ns e F) (hs : star1 e) :
    EOkG prog w hB gm k sc ns (.Call (.Name x p) [e] [] pos) (fun m => (F m).bind fun q => G [q]) := by
  intro A env s m p Q E a eo up r hF h
  obtain ⟨q, hq, hG⟩ := Option.bind_eq_some_iff.mp hF
  obtain ⟨o, fd, ho, hd⟩ := hf.obj
  refine Call_ (g.lookG eo up hx hf.name hp ?_)
  refine callWith_def hd (args_cons (he A env s m q _ E a eo up r hq fun v s₁ k₁ v₁ => args_nil ⟨k₁.up _ _ (up _ _ ho), ?_⟩) (hs env [])) (hs env [])
  exact hc A s₁ [v] [q] p Q E a (fun b o e => k₁.up b o (up b o e)) rfl (fun i u r h1 h2 => by
    cases i with
    | zero => simp at h1 h2; subst h1 h2; exact v₁
    | succ i => simp at h1) hG fun v' s' k₂ v₂ f₂ => h v' s' (k₁.g.trans k₂) v₂ (f₂.back k₁.up)
theorem E_call1 (g : Gd hB mg mb defs names) {x : Str} {f : Addr} {e : Expr} {p pos : Pos} {F : List PV → Option PV} {G : List PV → Option PV} (hx : sc.names.lookup x = some .globalImplicit) (hp : plainName x = true)
    (hf : FnAt hB mg x f) (hc : COk prog w hB k (.ref f) G) (he : EOk prog w hB k sc ns e F) (hs : star1 e) :
    EOkF prog w hB k sc ns (.Call (.Name x p) [e] [] pos) (fun m => (F m).bind fun q => G [q]) := by
  intro A env s m p Q E a eo up r hF h
  obtain ⟨q, hq, hG⟩ := Option.bind_eq_some_iff.mp hF
  obtain ⟨o, fd, ho, hd⟩ := hf.obj
  refine Call_ (g.lookG eo up hx hf.name hp ?_)
  refine callWith_def hd (args_cons (he A env s m q _ E a eo up r hq fun v s₁ k₁ v₁ => args_nil ⟨k₁.up _ _ (up _ _ ho), ?_⟩) (hs env [])) (hs env [])
  exact hc A s₁ [v] [q] p Q E a (fun b o e => k₁.up b o (up b o e)) rfl (fun i u r h1 h2 => by
    cases i with
    | zero => simp at h1 h2; subst h1 h2; exact v₁
    | succ i => simp at h1) hG fun v' s' k₂ v₂ f₂ => h v' s' (k₁.trans k₂) v₂ (f₂.back k₁.up)
theorem E_call2 (g : Gd hB mg mb defs names) {x : Str} {f : Addr} {e₁ e₂ : Expr} {p pos : Pos} {F₁ F₂ : List PV → Option PV} {G : List PV → Option PV} (hx : sc.names.lookup x = some .globalImplicit) (hp : plainName x = true)
    (hf : FnAt hB mg x f) (hc : COk prog w hB k (.ref f) G) (he : EOk prog w hB k sc ns e₁ F₁) (he₂ : EOk prog w hB k sc ns e₂ F₂) (hs : star1 e₁) (hs₂ : star1 e₂) :
    EOkF prog w hB k sc ns (.Call (.Name x p) [e₁, e₂] [] pos) (fun m => (F₁ m).bind fun q => (F₂ m).bind fun r => G [q, r]) := by
  intro A env s m p Q E a eo up r hF h
  obtain ⟨q, hq, hF⟩ := Option.bind_eq_some_iff.mp hF
  obtain ⟨q₂, hq₂, hG⟩ := Option.bind_eq_some_iff.mp hF
  obtain ⟨o, fd, ho, hd⟩ := hf.obj
  refine Call_ (g.lookG eo up hx hf.name hp ?_)
  refine callWith_def hd (args_cons (he A env s m q _ E a eo up r hq fun v s₁ k₁ v₁ => args_cons (he₂ A env s₁ m q₂ _ E a eo (fun b o e => k₁.up b o (up b o e)) (r.keeps k₁.up) hq₂ fun v' s₂ k₂ v₂ => args_nil ⟨(k₁.trans k₂).up _ _ (up _ _ ho), ?_⟩) (hs₂ env [])) (hs env [e₂])) (hs env [e₂])
  exact hc A s₂ [v, v'] [q, q₂] p Q E a (fun b o e => (k₁.trans k₂).up b o (up b o e)) rfl (fun i u r h1 h2 => by
    cases i with
    | zero => simp at h1 h2; subst h1 h2; exact v₁.keeps k₂.up
    | succ i => cases i with
      | zero => simp at h1 h2; subst h1 h2; exact v₂
      | succ i => simp at h1) hG fun v' s' k₃ v₃ f₃ => h v' s' (k₁.trans (k₂.trans k₃)) v₃ (f₃.back (k₁.trans k₂).up)

theorem T_cmpG {l r : Expr} {op : CmpOp} {pos : Pos} {F₁ F₂ : List PV → Option PV} (hl : EOkG prog w hB gm k sc ns l F₁) (hr : EOk prog w hB k sc ns r F₂) (hm : behindInMarks op r = false) :
    TOkG prog w hB gm k sc ns (.Compare l [op] [r] pos) (cmpF op F₁ F₂) := by
  intro A env s m b Q E a eo up rd hF h
  obtain ⟨x, y, h1, h2, h3⟩ := cmpF_some hF
  refine wpAny_isTrue_Compare1 (hl A env s m _ _ E a eo up rd h1 fun v s₁ k₁ v₁ _ => ?_) hm
  refine hr A env s₁ m _ _ E a eo (fun b o e => k₁.up b o (up b o e)) (rd.keeps k₁.up) h2 fun v' s₂ k₂ v₂ => ?_
  exact cmpV_ok a h3 (v₁.keeps k₂.up) v₂ (wpAny_truthy_bool (h _ (k₁.trans k₂.g)))
end

/-- what may not be turned -/
noncomputable def Stable (o : Obj) : Prop := o.cls ≠ .type "list" ∧ (∀ es ep, o.data ≠ .dict es ep) ∧ ∀ c, o.data ≠ .cell c
noncomputable def KB (s s' : Shared) : Prop := ∀ b o, s.heap.get? b = some o → Stable o → s'.heap.get? b = some o
theorem KB.refl (s : Shared) : KB s s := fun _ _ e _ => e
theorem KB.trans {s₁ s₂ s₃ : Shared} (a : KB s₁ s₂) (b : KB s₂ s₃) : KB s₁ s₃ := fun x o e h => b x o (a x o e h) h
theorem Kp.kb {s s' : Shared} (k : Kp s s') : KB s s' := fun b o e _ => k.up b o e
theorem Kg.kb {gm : Bool} {s s' : Shared} (k : Kg gm s s') : KB s s' := fun b o e _ => k.up b o e

structure EnvS (s₀ : Shared) (ns : List Str) (env : Env) : Prop where
  nodup : ns.Nodup
  kind : ∀ x ∈ ns, env.kindOf x = some .local ∨ env.kindOf x = some .cell
  newL : s₀.heap.objs.size ≤ env.locals
  newC : ∀ n c, (n, c) ∈ env.cells → env.locals < c
  apart : env.cells.Pairwise fun x y => x.2 ≠ y.2

structure StR (gm : Bool) (s₀ : Shared) (env : Env) (ns : List Str) (vals : List Value) (m : List PV) (s : Shared) : Prop where
  lenV : vals.length = ns.length
  lenM : m.length = ns.length
  keep : Up s₀.heap s.heap
  rel : GRel gm s₀ s
  loc : ∃ ml, s.heap.Ns env.locals ml ∧ ∀ (i : Nat) x, ns[i]? = some x → env.kindOf x = some .local → m[i]? ≠ some .undef → ml x = vals[i]?
  cell : ∀ (i : Nat) x, ns[i]? = some x → env.kindOf x = some .cell → ∃ c ov, env.cells.lookup x = some c ∧ s.heap.IsCell c ov ∧ (m[i]? ≠ some .undef → ov = vals[i]?)
  vr : ∀ (i : Nat) p v, m[i]? = some p → vals[i]? = some v → p ≠ .undef → VR s.heap v p
  own : ∀ (i : Nat) xs a, m[i]? = some (.olist xs) → vals[i]? = some (.ref a) → s₀.heap.get? a = none ∧ ∀ j, j ≠ i → vals[j]? ≠ some (.ref a)
  bor : ∀ (i : Nat) xs a, m[i]? = some (.blist xs) → vals[i]? = some (.ref a) → ∃ o, s₀.heap.get? a = some o
  und : ∀ (i : Nat), m[i]? = some .undef → vals[i]? = some .none

section
variable {gm : Bool} {s₀ s s' : Shared} {env : Env} {ns : List Str} {vals : List Value} {m : List PV}

theorem StR.rd (x : StR gm s₀ env ns vals m s) (es : EnvS s₀ ns env) : Rd env ns m s.heap := by
  intro i p hp hu
  have hi : i < ns.length := by rw [← x.lenM]; exact (List.getElem?_eq_some_iff.mp hp).1
  obtain ⟨y, hy⟩ : ∃ y, ns[i]? = some y := ⟨_, List.getElem?_eq_getElem hi⟩
  obtain ⟨v, hv⟩ : ∃ v, vals[i]? = some v := ⟨_, List.getElem?_eq_getElem (by rw [x.lenV]; exact hi)⟩
  have hne : m[i]? ≠ some .undef := by rw [hp]; simpa using hu
  refine ⟨y, v, hy, ?_, x.vr i p v hp hv hu⟩
  rcases es.kind y (List.mem_of_getElem? hy) with hk | hk
  · obtain ⟨ml, hn, hm⟩ := x.loc
    exact .inl ⟨hk, ml, hn, (hm i y hy hk hne).trans hv⟩
  · obtain ⟨c, ov, hc, hx, ho⟩ := x.cell i y hy hk
    exact .inr ⟨.inl hk, c, hc, by rw [← hv, ← ho hne]; exact hx⟩

theorem VR.ex {h : Heap} {v : Value} {p : PV} (x : VR h v p) {a : Addr} (e : v = .ref a) : ∃ o, h.get? a = some o := by
  subst e
  cases p with
  | undef => exact x.elim
  | none => cases x
  | bool b => cases x
  | int i => obtain ⟨t, e⟩ := x; cases e
  | str t => obtain ⟨t, e⟩ := x; cases e
  | list xs => obtain ⟨a, vs, e, ⟨o, ho, _⟩, _⟩ := x; cases e; exact ⟨o, ho⟩
  | olist xs => obtain ⟨a, vs, e, ⟨n, ho⟩, _⟩ := x; cases e; exact ⟨_, ho⟩
  | blist xs => obtain ⟨a, vs, e, ⟨o, ho, _⟩, _⟩ := x; cases e; exact ⟨o, ho⟩
  | tup xs => obtain ⟨a, vs, e, ⟨o, ho, _⟩, _⟩ := x; cases e; exact ⟨o, ho⟩
theorem StR.ex (x : StR gm s₀ env ns vals m s) (j : Nat) (a : Addr) (h : vals[j]? = some (Value.ref a)) : ∃ o, s.heap.get? a = some o := by
  have hj : j < vals.length := (List.getElem?_eq_some_iff.mp h).1
  obtain ⟨p, hp⟩ : ∃ p, m[j]? = some p := ⟨_, List.getElem?_eq_getElem (by rw [x.lenM, ← x.lenV]; exact hj)⟩
  by_cases hu : p = .undef
  · subst hu
    rw [x.und j hp] at h; cases h
  · exact (x.vr j p _ hp h hu).ex rfl
theorem StR.free (x : StR gm s₀ env ns vals m s) {v : Value} (f : Fresh s.heap v) : ∀ a, v = .ref a → ∀ j : Nat, vals[j]? ≠ some (Value.ref a) := fun a e j hj => by
  obtain ⟨o, ho⟩ := x.ex j a hj
  rw [f a e] at ho; cases ho

theorem StR.step (x : StR gm s₀ env ns vals m s) (k : Kg gm s s') : StR gm s₀ env ns vals m s' where
  lenV := x.lenV
  lenM := x.lenM
  keep := fun b o e => k.up b o (x.keep b o e)
  rel := x.rel.trans k.rel
  loc := let ⟨ml, hn, h⟩ := x.loc; ⟨ml, hn.keeps k.up, h⟩
  cell := fun i n hn hk => let ⟨c, ov, h1, h2, h3⟩ := x.cell i n hn hk; ⟨c, ov, h1, h2.keeps k.up, h3⟩
  vr := fun i p v h1 h2 h3 => (x.vr i p v h1 h2 h3).keeps k.up
  own := x.own
  bor := x.bor
  und := x.und

theorem ns_notSeq {h : Heap} {a : Addr} {ml : Str → Option Value} (hn : h.Ns a ml) {o : Obj} (ho : h.get? a = some o) : ∃ es ep, o.data = .dict es ep := by
  obtain ⟨o', es, ep, ho', hd, _⟩ := hn
  rw [ho] at ho'; cases ho'
  exact ⟨es, ep, hd⟩

/-- names are told apart by their places -/
theorem nodup_at {ns : List Str} (hn : ns.Nodup) {i j : Nat} {x : Str} (h1 : ns[i]? = some x) (h2 : ns[j]? = some x) : i = j := by
  obtain ⟨a1, a2⟩ := List.getElem?_eq_some_iff.mp h1
  obtain ⟨b1, b2⟩ := List.getElem?_eq_some_iff.mp h2
  exact (List.getElem_inj hn).mp (a2.trans b2.symm)

/-- what a store makes of the frame's state: the heap is turned at the name's own place alone -/
theorem StR.store (x : StR gm s₀ env ns vals m s) {i : Nat} {n : Str} (hi : ns[i]? = some n) {v : Value} {p : PV} {s' : Shared} {z : Addr}
    (hs : Heap.SameBut z s.heap s'.heap) (hz : ∀ o, s.heap.get? z = some o → (∃ es ep, o.data = .dict es ep) ∨ ∃ c, o.data = .cell c) (hz0 : s₀.heap.get? z = none)
    (hr : GRel gm s s')
    (hloc : ∃ ml, s'.heap.Ns env.locals ml ∧ ∀ (j : Nat) y, ns[j]? = some y → env.kindOf y = some .local → (m.set i p)[j]? ≠ some .undef → ml y = (vals.set i v)[j]?)
    (hcell : ∀ (j : Nat) y, ns[j]? = some y → env.kindOf y = some .cell → ∃ c ov, env.cells.lookup y = some c ∧ s'.heap.IsCell c ov ∧ ((m.set i p)[j]? ≠ some .undef → ov = (vals.set i v)[j]?))
    (hv : VR s.heap v p) (hf : ∀ a, v = .ref a → ∀ j : Nat, vals[j]? ≠ some (Value.ref a)) (ho : ∀ xs, p = .olist xs → ∀ a, v = .ref a → s₀.heap.get? a = none) (hb : ∀ xs, p ≠ .blist xs) :
    StR gm s₀ env ns (vals.set i v) (m.set i p) s' ∧ KB s s' := by
  have hseq : KeptSeq s.heap s'.heap := fun b o vs n' e hd => (hs.2 b (fun q => by
    subst q
    rcases hz o e with ⟨_, _, h⟩ | ⟨_, h⟩ <;> rw [hd] at h <;> cases h)).trans e
  have hiv : i < vals.length := by rw [x.lenV]; exact (List.getElem?_eq_some_iff.mp hi).1
  have him : i < m.length := by rw [x.lenM]; exact (List.getElem?_eq_some_iff.mp hi).1
  have vset : ∀ j, (vals.set i v)[j]? = if i = j then some v else vals[j]? := fun j => by
    rw [List.getElem?_set]
    by_cases h : i = j
    · subst h; simp [hiv]
    · simp [h]
  have mset : ∀ j, (m.set i p)[j]? = if i = j then some p else m[j]? := fun j => by
    rw [List.getElem?_set]
    by_cases h : i = j
    · subst h; simp [him]
    · simp [h]
  refine ⟨⟨by rw [List.length_set]; exact x.lenV, by rw [List.length_set]; exact x.lenM, fun b o e => (hs.2 b (fun q => by subst q; rw [hz0] at e; cases e)).trans (x.keep b o e), x.rel.trans hr, hloc, hcell, ?_, ?_, ?_, ?_⟩, ?_⟩
  · intro j q u hq hu hne
    rw [mset] at hq
    rw [vset] at hu
    by_cases h : i = j
    · rw [if_pos h] at hq hu
      cases hq; cases hu
      exact hv.seq hseq
    · rw [if_neg h] at hq hu
      exact (x.vr j q u hq hu hne).seq hseq
  · intro j xs a hq hu
    rw [mset] at hq
    rw [vset] at hu
    by_cases h : i = j
    · rw [if_pos h] at hq hu
      cases hu
      refine ⟨ho xs (Option.some.inj hq) a rfl, fun j' hj' => ?_⟩
      rw [vset, if_neg (fun q => hj' (q.symm.trans h))]
      exact hf a rfl j'
    · rw [if_neg h] at hq hu
      obtain ⟨h1, h2⟩ := x.own j xs a hq hu
      refine ⟨h1, fun j' hj' => ?_⟩
      rw [vset]
      by_cases h' : i = j'
      · rw [if_pos h']
        intro e
        exact hf a (Option.some.inj e) j hu
      · rw [if_neg h']; exact h2 j' hj'
  · intro j xs a hq hu
    rw [mset] at hq
    rw [vset] at hu
    by_cases h : i = j
    · rw [if_pos h] at hq
      exact absurd (Option.some.inj hq) (hb xs)
    · rw [if_neg h] at hq hu
      exact x.bor j xs a hq hu
  · intro j hq
    rw [mset] at hq
    rw [vset]
    by_cases h : i = j
    · rw [if_pos h] at hq
      cases hq
      exact hv.elim
    · rw [if_neg h] at hq ⊢
      exact x.und j hq
  · intro b o e st
    refine (hs.2 b (fun q => ?_)).trans e
    subst q
    rcases hz o e with ⟨es, ep, h⟩ | ⟨c, h⟩
    · exact st.2.1 es ep h
    · exact st.2.2 c h
end
end Mine
end
section
open PySem PySem.W PySem.Calls PyProof.Rows
namespace Mine

section
variable {prog : Program} {w : World} {gm : Bool} {s₀ s s' : Shared} {env : Env} {ns : List Str} {vals : List Value} {m : List PV} {A : Around} {E : Value → Shared → Prop}

theorem lookup_inj {cs : List (Str × Addr)} (hp : cs.Pairwise fun x y => x.2 ≠ y.2) {a b : Str} {c : Addr} (h1 : cs.lookup a = some c) (h2 : cs.lookup b = some c) : a = b :=
  name_of_addr hp (PySem.mem_of_lookup h1) (PySem.mem_of_lookup h2)

/-- a store of a name -/
theorem store_ok' (x : StR gm s₀ env ns vals m s) (es : EnvS s₀ ns env) (hk : env.scope.kind = .function) {i : Nat} {n : Str} (hi : ns[i]? = some n) {v : Value} {p : PV}
    (hv : VR s.heap v p) (hf : ∀ a, v = .ref a → ∀ j : Nat, vals[j]? ≠ some (Value.ref a)) (ho : ∀ xs, p = .olist xs → ∀ a, v = .ref a → s₀.heap.get? a = none) (hb : ∀ xs, p ≠ .blist xs) {Q : Unit → Shared → Prop}
    (h : ∀ s', StR gm s₀ env ns (vals.set i v) (m.set i p) s' → KB s s' → (∃ z, Heap.SameBut z s.heap s'.heap ∧ (z = env.locals ∨ ∃ ov, s.heap.IsCell z ov)) → Q () s') : wpAny (model prog w) A (storeName env n v) Q E s := by
  have hiv : i < vals.length := by rw [x.lenV]; exact (List.getElem?_eq_some_iff.mp hi).1
  have him : i < m.length := by rw [x.lenM]; exact (List.getElem?_eq_some_iff.mp hi).1
  have vset : ∀ j, (vals.set i v)[j]? = if i = j then some v else vals[j]? := fun j => by
    rw [List.getElem?_set]
    by_cases h : i = j
    · subst h; simp [hiv]
    · simp [h]
  have mset : ∀ j, (m.set i p)[j]? = if i = j then some p else m[j]? := fun j => by
    rw [List.getElem?_set]
    by_cases h : i = j
    · subst h; simp [him]
    · simp [h]
  obtain ⟨ml, hn, hml⟩ := x.loc
  rcases es.kind n (List.mem_of_getElem? hi) with hl | hl
  · refine wpAny_storeName_local hl hn (fun h' hn' hs' => ?_) (by rw [hk]; rfl)
    obtain ⟨y, kb⟩ := x.store hi (s' := { s with heap := h', toks := s.toks + 1 }) (z := env.locals) hs' (fun o e => .inl (ns_notSeq hn e)) (by
        cases q : s₀.heap.get? env.locals with
        | none => rfl
        | some o => exact absurd (Heap.lt_size q) (Nat.not_lt.mpr es.newL)) (GRel.of rfl rfl rfl)
      ⟨_, hn', fun j y hj hyk hne => by
        rw [vset]
        by_cases q : i = j
        · subst q
          rw [hi] at hj; cases hj
          rw [if_pos rfl, if_pos rfl]
        · rw [if_neg (fun e => q (by subst e; exact nodup_at es.nodup hi hj)), if_neg q]
          refine hml j y hj hyk ?_
          rw [mset, if_neg q] at hne
          exact hne⟩
      (fun j y hj hyk => by
        obtain ⟨c, ov, h1, h2, h3⟩ := x.cell j y hj hyk
        refine ⟨c, ov, h1, h2.sameBut hs' (Nat.ne_of_gt (es.newC y c (PySem.mem_of_lookup h1))), fun hne => ?_⟩
        have q : i ≠ j := fun q => by subst q; rw [hi] at hj; cases hj; rw [hl] at hyk; cases hyk
        rw [vset, if_neg q]
        rw [mset, if_neg q] at hne
        exact h3 hne) hv hf ho hb
    exact h _ y kb ⟨_, hs', .inl rfl⟩
  · obtain ⟨c, ov, h1, h2, h3⟩ := x.cell i n hi hl
    have hcl : env.locals < c := es.newC n c (PySem.mem_of_lookup h1)
    refine wpAny_storeName_cell hk hl h1 h2 fun h' hc' hs' => ?_
    obtain ⟨y, kb⟩ := x.store hi (s' := { s with heap := h' }) (z := c) hs' (fun o e => by
        obtain ⟨o', ho', hd'⟩ := h2
        rw [e] at ho'; cases ho'
        exact .inr ⟨_, hd'⟩) (by
        cases q : s₀.heap.get? c with
        | none => rfl
        | some o => exact absurd (Heap.lt_size q) (Nat.not_lt.mpr (Nat.le_trans es.newL (Nat.le_of_lt hcl)))) (GRel.of rfl rfl rfl)
      ⟨ml, hn.sameBut hs' (Nat.ne_of_lt hcl), fun j y hj hyk hne => by
        have q : i ≠ j := fun q => by subst q; rw [hi] at hj; cases hj; rw [hl] at hyk; cases hyk
        rw [vset, if_neg q]
        rw [mset, if_neg q] at hne
        exact hml j y hj hyk hne⟩
      (fun j y hj hyk => by
        obtain ⟨c', ov', g1, g2, g3⟩ := x.cell j y hj hyk
        by_cases q : i = j
        · subst q
          rw [hi] at hj; cases hj
          rw [h1] at g1; cases g1
          exact ⟨c, some v, h1, hc', fun _ => by rw [vset, if_pos rfl]⟩
        · have hcc : c' ≠ c := fun e => q (by
            subst e
            have := lookup_inj es.apart g1 h1
            subst this
            exact nodup_at es.nodup hi hj)
          refine ⟨c', ov', g1, g2.sameBut hs' hcc, fun hne => ?_⟩
          rw [vset, if_neg q]
          rw [mset, if_neg q] at hne
          exact g3 hne) hv hf ho hb
    exact h _ y kb ⟨_, hs', .inr ⟨_, h2⟩⟩

theorem store_ok (x : StR gm s₀ env ns vals m s) (es : EnvS s₀ ns env) (hk : env.scope.kind = .function) {i : Nat} {n : Str} (hi : ns[i]? = some n) {v : Value} {p : PV}
    (hv : VR s.heap v p) (hf : ∀ a, v = .ref a → ∀ j : Nat, vals[j]? ≠ some (Value.ref a)) (ho : ∀ xs, p = .olist xs → ∀ a, v = .ref a → s₀.heap.get? a = none) (hb : ∀ xs, p ≠ .blist xs) {Q : Unit → Shared → Prop}
    (h : ∀ s', StR gm s₀ env ns (vals.set i v) (m.set i p) s' → KB s s' → Q () s') : wpAny (model prog w) A (storeName env n v) Q E s :=
  store_ok' x es hk hi hv hf ho hb fun s' a b _ => h s' a b
end
end Mine
end
section
open PySem PySem.W PySem.Calls PyProof.Rows
namespace Mine

inductive PF where
  | next | brk
  | ret (p : PV)
noncomputable def FlR (s₀ s' : Shared) : PF → Flow → Prop
  | .next, .next => True
  | .brk, .brk => True
  | .ret p, .ret v => VR s'.heap v p ∧ Fresh s₀.heap v
  | _, _ => False

section
variable (prog : Program) (w : World) (hB : Heap) (gm : Bool) (k : Nat) (sc : Scope) (ns : List Str)
noncomputable def S1Ok (st : Stmt) (F : List PV → Option (PF × List PV)) : Prop :=
  ∀ (A : Around) (env : Env) (s₀ s : Shared) (vals : List Value) (m : List PV) (f : PF) (m' : List PV) (Q : Flow → Shared → Prop) (E : Value → Shared → Prop),
    AOk k A → EnvOk sc env → EnvS s₀ ns env → Up hB s₀.heap → StR gm s₀ env ns vals m s → F m = some (f, m') →
    (∀ fl s' vals', StR gm s₀ env ns vals' m' s' → KB s s' → FlR s₀ s' f fl → Q fl s') → wpAny (model prog w) A (exec st env) Q E s
noncomputable def SOk (st : List Stmt) (F : List PV → Option (PF × List PV)) : Prop :=
  ∀ (A : Around) (env : Env) (s₀ s : Shared) (vals : List Value) (m : List PV) (f : PF) (m' : List PV) (Q : Flow → Shared → Prop) (E : Value → Shared → Prop),
    AOk k A → EnvOk sc env → EnvS s₀ ns env → Up hB s₀.heap → StR gm s₀ env ns vals m s → F m = some (f, m') →
    (∀ fl s' vals', StR gm s₀ env ns vals' m' s' → KB s s' → FlR s₀ s' f fl → Q fl s') → wpAny (model prog w) A (execs st env) Q E s
end

noncomputable def seqF (F G : List PV → Option (PF × List PV)) (m : List PV) : Option (PF × List PV) := match F m with
  | some (.next, m') => G m'
  | r => r

section
variable {prog : Program} {w : World} {hB : Heap} {gm : Bool} {k : Nat} {sc : Scope} {ns : List Str}
variable {mg mb : Str → Option Value} {defs : List DefItem} {names : List Str}

theorem Up.of {s₀ s : Shared} {env : Env} {vals : List Value} {m : List PV} (u : Up hB s₀.heap) (x : StR gm s₀ env ns vals m s) : Up hB s.heap := fun b o e => x.keep b o (u b o e)

theorem S_nil : SOk prog w hB gm k sc ns [] (fun m => some (.next, m)) := by
  intro A env s₀ s vals m f m' Q E a eo es u x hF h
  cases hF
  exact wpAny_execs_nil (h _ _ _ x (KB.refl s) trivial)
theorem S_cons {st : Stmt} {rest : List Stmt} {F G : List PV → Option (PF × List PV)} (h1 : S1Ok prog w hB gm k sc ns st F) (h2 : SOk prog w hB gm k sc ns rest G) : SOk prog w hB gm k sc ns (st :: rest) (seqF F G) := by
  intro A env s₀ s vals m f m' Q E a eo es u x hF h
  unfold seqF at hF
  split at hF
  · rename_i m₁ hm
    refine wpAny_execs_cons (h1 A env s₀ s vals m _ _ _ E a eo es u x hm fun fl s₁ vals₁ x₁ k₁ hfl => ?_)
    cases fl with
    | next => exact h2 A env s₀ s₁ vals₁ m₁ f m' Q E a eo es u x₁ hF fun fl s₂ vals₂ x₂ k₂ hfl₂ => h fl s₂ vals₂ x₂ (k₁.trans k₂) hfl₂
    | brk => exact hfl.elim
    | cont => exact hfl.elim
    | ret v => exact hfl.elim
  · rename_i r hr
    refine wpAny_execs_cons (h1 A env s₀ s vals m f m' _ E a eo es u x hF fun fl s₁ vals₁ x₁ k₁ hfl => ?_)
    cases f with
    | next => exact absurd hF (hr m')
    | brk =>
      cases fl with
      | brk => exact h _ _ _ x₁ k₁ hfl
      | next => exact hfl.elim
      | cont => exact hfl.elim
      | ret v => exact hfl.elim
    | ret p =>
      cases fl with
      | ret v => exact h _ _ _ x₁ k₁ hfl
      | next => exact hfl.elim
      | cont => exact hfl.elim
      | brk => exact hfl.elim

/-- what a plain name may take -/
noncomputable def PV.plain : PV → Bool
  | .undef | .olist _ | .blist _ | .tup _ => false
  | _ => true
theorem PV.plain_ne {p : PV} (h : p.plain = true) : (∀ xs, p ≠ .olist xs) ∧ ∀ xs, p ≠ .blist xs := by
  constructor <;> intro xs e <;> subst e <;> cases h

noncomputable def setF (i : Nat) (F : List PV → Option PV) (m : List PV) : Option (PF × List PV) := (F m).bind fun p => if p.plain then some (.next, m.set i p) else none

theorem S_assign {x : Str} {px pos : Pos} {e : Expr} {F : List PV → Option PV} (i : Nat) (hi : ns[i]? = some x) (he : EOkG prog w hB gm k sc ns e F) (hsw : ∀ env, env.scope = sc → swapsWith e (some (.Name x px)) pos.line env = pure false) :
    S1Ok prog w hB gm k sc ns (.Assign [.Name x px] e pos) (setF i F) := by
  intro A env s₀ s vals m f m' Q E a eo es u x₀ hF h
  obtain ⟨p, hp, hF⟩ := Option.bind_eq_some_iff.mp hF
  by_cases hpl : p.plain = true
  · rw [if_pos hpl] at hF
    obtain ⟨rfl, rfl⟩ := Prod.mk.inj (Option.some.inj hF)
    refine wpAny_Assign_Name (he A env s m p _ E a eo (u.of x₀) (x₀.rd es) hp fun v s₁ k₁ v₁ f₁ => ?_) (hsw env eo.scope)
    have x₁ := x₀.step k₁
    refine store_ok x₁ es (by rw [eo.scope]; exact eo.kind) hi v₁ (x₀.free f₁) (fun xs e => absurd e ((PV.plain_ne hpl).1 xs)) (PV.plain_ne hpl).2 fun s' x' k' => ?_
    exact h _ s' _ x' (k₁.kb.trans k') trivial
  · rw [if_neg hpl] at hF; cases hF

/-- a new list of the def's own -/
theorem S_newlist {x : Str} {px lp pos : Pos} (i : Nat) (hi : ns[i]? = some x) (hsw : ∀ env, env.scope = sc → swapsWith (.List [] lp) (some (.Name x px)) pos.line env = pure false) :
    S1Ok prog w hB gm k sc ns (.Assign [.Name x px] (.List [] lp) pos) (fun m => some (.next, m.set i (.olist []))) := by
  intro A env s₀ s vals m f m' Q E a eo es u x₀ hF h
  obtain ⟨rfl, rfl⟩ := Prod.mk.inj (Option.some.inj hF)
  refine wpAny_Assign_Name (List_ (args_nil (wpAny_newObj_type ?_ (by show (#[] : Array Value).size ≤ sizeLine; simp)))) (hsw env eo.scope)
  have k₁ : Kg gm s { s with heap := s.heap.push { cls := .type "list", data := .seq ([] : List Value).toArray } } := ⟨fun b o e => Heap.get?_push_of_some _ e, GRel.of rfl rfl rfl⟩
  have fr : Fresh s.heap (.ref s.heap.objs.size) := fun b e => by cases e; exact new_none (Kp.refl s) (Nat.le_refl _)
  refine store_ok (x₀.step k₁) es (by rw [eo.scope]; exact eo.kind) hi (p := .olist []) ⟨_, #[], rfl, ⟨0, Heap.get?_push_size _ rfl⟩, .nil⟩ (x₀.free fr) (fun xs _ => (fr.back x₀.keep)) (fun xs => nofun) fun s' x' k' => ?_
  exact h _ s' _ x' (k₁.kb.trans k') trivial

theorem VR.other {h h' : Heap} {v : Value} {p : PV} {D : Addr} (x : VR h v p) (hs : Heap.SameBut D h h') (hv : v ≠ .ref D) : VR h' v p := by
  have key : ∀ (a : Addr) (vs : Array Value), v = .ref a → h.IsList a vs → h'.IsList a vs := fun a vs e hl => hl.extBut hs.extBut (fun q => hv (by rw [e, q]))
  cases p with
  | undef => exact x
  | none => exact x
  | bool b => exact x
  | int i => exact x
  | str s => exact x
  | list xs => obtain ⟨a, vs, e, hl, hi⟩ := x; exact ⟨a, vs, e, key a vs e hl, hi⟩
  | olist xs => obtain ⟨a, vs, e, hl, hi⟩ := x; exact ⟨a, vs, e, hl.extBut hs.extBut (fun q => hv (by rw [e, q])), hi⟩
  | blist xs => obtain ⟨a, vs, e, hl, hi⟩ := x; exact ⟨a, vs, e, key a vs e hl, hi⟩
  | tup xs =>
    obtain ⟨a, vs, e, ⟨o, ho, r⟩, hi⟩ := x
    exact ⟨a, vs, e, ⟨o, (hs.2 a (fun q => hv (by rw [e, q]))).trans ho, r⟩, hi⟩

theorem StR.append {s₀ s s' : Shared} {env : Env} {vals : List Value} {m : List PV} (x : StR gm s₀ env ns vals m s) {i : Nat} {D : Addr} {xs ys : List Int} {us us' : Array Value} (hm : m[i]? = some (.olist xs)) (hv : vals[i]? = some (.ref D))
    (hp : s.heap.PlainList D us) (hs : Heap.SameBut D s.heap s'.heap) (hp' : s'.heap.PlainList D us') (hy : IntsAre us'.toList ys) (hr : GRel gm s s') :
    StR gm s₀ env ns vals (m.set i (.olist ys)) s' ∧ KB s s' := by
  obtain ⟨hD0, hDo⟩ := x.own i xs D hm hv
  obtain ⟨nD, hDg⟩ := hp
  have him : i < m.length := (List.getElem?_eq_some_iff.mp hm).1
  have mset : ∀ j, (m.set i (.olist ys))[j]? = if i = j then some (.olist ys) else m[j]? := fun j => by
    rw [List.getElem?_set]
    by_cases h : i = j
    · subst h; simp [him]
    · simp [h]
  have und : ∀ j : Nat, (m.set i (.olist ys))[j]? ≠ some .undef → m[j]? ≠ some .undef := fun j h e => by
    rw [mset] at h
    by_cases q : i = j
    · subst q; rw [hm] at e; cases e
    · rw [if_neg q] at h; exact h e
  refine ⟨⟨x.lenV, by rw [List.length_set]; exact x.lenM, fun b o e => (hs.2 b (fun q => by subst q; rw [hD0] at e; cases e)).trans (x.keep b o e), x.rel.trans hr, ?_, ?_, ?_, ?_, ?_, ?_⟩, ?_⟩
  · obtain ⟨ml, hn, hml⟩ := x.loc
    refine ⟨ml, hn.sameBut hs (fun q => ?_), fun j y hj hk hne => hml j y hj hk (und j hne)⟩
    obtain ⟨es, ep, hd⟩ := ns_notSeq hn (q ▸ hDg)
    cases hd
  · intro j y hj hk
    obtain ⟨c, ov, h1, h2, h3⟩ := x.cell j y hj hk
    refine ⟨c, ov, h1, h2.sameBut hs (fun q => ?_), fun hne => h3 (und j hne)⟩
    obtain ⟨o, ho, hd⟩ := h2
    rw [q, hDg] at ho
    cases ho; cases hd
  · intro j p v hq hu hne
    rw [mset] at hq
    by_cases h : i = j
    · rw [if_pos h] at hq
      cases hq
      subst h
      rw [hv] at hu; cases hu
      exact ⟨D, us', rfl, hp', hy⟩
    · rw [if_neg h] at hq
      exact (x.vr j p v hq hu hne).other hs (fun e => hDo j (Ne.symm h) (by rw [hu, e]))
  · intro j zs a hq hu
    rw [mset] at hq
    by_cases h : i = j
    · subst h
      exact x.own i xs a hm hu
    · rw [if_neg h] at hq
      exact x.own j zs a hq hu
  · intro j zs a hq hu
    rw [mset] at hq
    by_cases h : i = j
    · rw [if_pos h] at hq; cases hq
    · rw [if_neg h] at hq; exact x.bor j zs a hq hu
  · intro j hq
    rw [mset] at hq
    by_cases h : i = j
    · rw [if_pos h] at hq; cases hq
    · rw [if_neg h] at hq; exact x.und j hq
  · intro b o e st
    refine (hs.2 b (fun q => ?_)).trans e
    subst q
    rw [hDg] at e; cases e
    exact st.1 rfl

noncomputable def appF (i : Nat) (F : List PV → Option PV) (m : List PV) : Option (PF × List PV) := match m[i]?, F m with
  | some (.olist xs), some (.int v) => if xs.length < 100000 then some (.next, m.set i (.olist (xs ++ [v]))) else none
  | _, _ => none

theorem S_append {x : Str} {p1 apos cpos epos : Pos} {e : Expr} {F : List PV → Option PV} (i : Nat) (hi : ns[i]? = some x) (hp : plainName x = true) (he : EOk prog w hB k sc ns e F) (hs : star1 e) (hline : (apos.endLine == cpos.line) = true) :
    S1Ok prog w hB gm k sc ns (.Expr (.Call (.Attribute (.Name x p1) "append" apos) [e] [] cpos) epos) (appF i F) := by
  intro A env s₀ s vals m f m' Q E a eo es u x₀ hF h
  unfold appF at hF
  split at hF
  · rename_i xs v hm hv
    by_cases hb : xs.length < 100000
    · rw [if_pos hb] at hF
      obtain ⟨rfl, rfl⟩ := Prod.mk.inj (Option.some.inj hF)
      have hi' : i < vals.length := by rw [x₀.lenV]; exact (List.getElem?_eq_some_iff.mp hi).1
      obtain ⟨v₀, hv₀⟩ : ∃ v₀, vals[i]? = some v₀ := ⟨_, List.getElem?_eq_getElem hi'⟩
      obtain ⟨D, us, hvD, hpl, hI⟩ := x₀.vr i _ v₀ hm hv₀ nofun
      subst hvD
      have hld : Ld env s.heap x (.ref D) := by
        obtain ⟨y, v', h1, h2, h3⟩ := x₀.rd es i _ hm nofun
        rw [hi] at h1; cases h1
        have hne : m[i]? ≠ some .undef := by rw [hm]; nofun
        rcases es.kind x (List.mem_of_getElem? hi) with hk | hk
        · obtain ⟨ml, hn, hml⟩ := x₀.loc
          exact .inl ⟨hk, ml, hn, (hml i x hi hk hne).trans hv₀⟩
        · obtain ⟨c, ov, hc, hx, ho⟩ := x₀.cell i x hi hk
          exact .inr ⟨.inl hk, c, hc, by rw [← hv₀, ← ho hne]; exact hx⟩
      have hint : interactive env = false := by unfold interactive; rw [eo.scope, eo.kind]; rfl
      have hdbg : (x == ("__debug__" : Str)) = false := by
        unfold plainName at hp
        simp only [Bool.and_eq_true, Bool.not_eq_true'] at hp
        exact hp.1
      refine wpAny_Expr_any (wpAny_Call_append (by rfl) (by rw [hs env []]; rfl) hline (by rw [hs env []]; rfl) (wpAny_Name (load_ok (by rw [eo.scope]; exact eo.kind) hp hld ?_) hdbg)) hint rfl
      refine ⟨D, us, rfl, (let ⟨n, e⟩ := hpl; ⟨_, n, e, rfl, rfl, rfl⟩), ?_⟩
      refine he A env s m _ _ E a eo (u.of x₀) (x₀.rd es) hv fun y s₁ k₁ v₁ => ?_
      obtain ⟨t, rfl⟩ := v₁
      have hlen : us.size = xs.length := by have := hI.length; simpa using this
      have hpl₁ : s₁.heap.PlainList D us := hpl.at fun o e => k₁.up D o e
      refine wpAny_list_append_plain hpl₁ (fun h' hp' hs' => ?_) (by rw [hlen, sizeLine_eq]; omega)
      have hy : IntsAre (us.push (.int v t)).toList (xs ++ [v]) := by
        rw [Array.toList_push]
        exact hI.append (.cons v t .nil)
      obtain ⟨x', kb⟩ := (x₀.step k₁.g).append (s' := { s₁ with heap := h' }) hm hv₀ hpl₁ hs' hp' hy (GRel.of rfl rfl rfl)
      exact h _ _ _ x' (k₁.kb.trans kb) trivial
    · rw [if_neg hb] at hF; cases hF
  · cases hF

noncomputable def retF (F : List PV → Option PV) (m : List PV) : Option (PF × List PV) := (F m).map fun p => (.ret p, m)
theorem S_ret {e : Expr} {pos : Pos} {F : List PV → Option PV} (he : EOkG prog w hB gm k sc ns e F) : S1Ok prog w hB gm k sc ns (.Return (some e) pos) (retF F) := by
  intro A env s₀ s vals m f m' Q E a eo es u x₀ hF h
  obtain ⟨p, hp, hF⟩ := Option.map_eq_some_iff.mp hF
  obtain ⟨rfl, rfl⟩ := Prod.mk.inj hF
  refine wpAny_Return_some (he A env s m p _ E a eo (u.of x₀) (x₀.rd es) hp fun v s₁ k₁ v₁ f₁ => ?_)
  exact h _ s₁ vals (x₀.step k₁) k₁.kb ⟨v₁, f₁.back x₀.keep⟩
noncomputable def retOwnF (i : Nat) (m : List PV) : Option (PF × List PV) := match m[i]? with
  | some (.olist xs) => some (.ret (.list xs), m)
  | _ => none
theorem S_retOwn {x : Str} {p1 pos : Pos} (i : Nat) (hi : ns[i]? = some x) (hp : plainName x = true) : S1Ok prog w hB gm k sc ns (.Return (some (.Name x p1)) pos) (retOwnF i) := by
  intro A env s₀ s vals m f m' Q E a eo es u x₀ hF h
  unfold retOwnF at hF
  split at hF
  · rename_i xs hm
    obtain ⟨rfl, rfl⟩ := Prod.mk.inj (Option.some.inj hF)
    have hi' : i < vals.length := by rw [x₀.lenV]; exact (List.getElem?_eq_some_iff.mp hi).1
    obtain ⟨v₀, hv₀⟩ : ∃ v₀, vals[i]? = some v₀ := ⟨_, List.getElem?_eq_getElem hi'⟩
    obtain ⟨D, us, hvD, hpl, hI⟩ := x₀.vr i _ v₀ hm hv₀ nofun
    subst hvD
    have hne : m[i]? ≠ some .undef := by rw [hm]; nofun
    have hld : Ld env s.heap x (.ref D) := by
      rcases es.kind x (List.mem_of_getElem? hi) with hk | hk
      · obtain ⟨ml, hn, hml⟩ := x₀.loc
        exact .inl ⟨hk, ml, hn, (hml i x hi hk hne).trans hv₀⟩
      · obtain ⟨c, ov, hc, hx, ho⟩ := x₀.cell i x hi hk
        exact .inr ⟨.inl hk, c, hc, by rw [← hv₀, ← ho hne]; exact hx⟩
    have hdbg : (x == ("__debug__" : Str)) = false := by
      unfold plainName at hp
      simp only [Bool.and_eq_true, Bool.not_eq_true'] at hp
      exact hp.1
    refine wpAny_Return_some (wpAny_Name (load_ok (by rw [eo.scope]; exact eo.kind) hp hld ?_) hdbg)
    exact h _ s vals x₀ (KB.refl s) ⟨⟨D, us, rfl, hpl.isList, hI⟩, fun b e => by cases e; exact (x₀.own i xs D hm hv₀).1⟩
  · cases hF

noncomputable def iteF (T : List PV → Option Bool) (F G : List PV → Option (PF × List PV)) (m : List PV) : Option (PF × List PV) := match T m with
  | some true => F m
  | some false => G m
  | none => none
theorem S_if {t : Expr} {b o : List Stmt} {pos : Pos} {T : List PV → Option Bool} {F G : List PV → Option (PF × List PV)} (ht : TOkG prog w hB gm k sc ns t T) (hb : SOk prog w hB gm k sc ns b F) (ho : SOk prog w hB gm k sc ns o G) :
    S1Ok prog w hB gm k sc ns (.If t b o pos) (iteF T F G) := by
  intro A env s₀ s vals m f m' Q E a eo es u x₀ hF h
  unfold iteF at hF
  split at hF
  · rename_i hT
    refine wpAny_If (ht A env s m _ _ E a eo (u.of x₀) (x₀.rd es) hT fun s₁ k₁ => ?_)
    simp only [if_true]
    exact hb A env s₀ s₁ vals m f m' Q E a eo es u (x₀.step k₁) hF fun fl s₂ vals₂ x₂ k₂ hfl => h fl s₂ vals₂ x₂ (k₁.kb.trans k₂) hfl
  · rename_i hT
    refine wpAny_If (ht A env s m _ _ E a eo (u.of x₀) (x₀.rd es) hT fun s₁ k₁ => ?_)
    simp only [Bool.false_eq_true, if_false]
    exact ho A env s₀ s₁ vals m f m' Q E a eo es u (x₀.step k₁) hF fun fl s₂ vals₂ x₂ k₂ hfl => h fl s₂ vals₂ x₂ (k₁.kb.trans k₂) hfl
  · cases hF
theorem S_break {pos : Pos} : S1Ok prog w hB gm k sc ns (.Break pos) (fun m => some (.brk, m)) := by
  intro A env s₀ s vals m f m' Q E a eo es u x₀ hF h
  obtain ⟨rfl, rfl⟩ := Prod.mk.inj (Option.some.inj hF)
  show wpAny (model prog w) A (do standAt pos; pure Flow.brk) Q E s
  exact wpAny_bind (wpAny_standAt (wpAny_pure (h _ s vals x₀ (KB.refl s) trivial)))

noncomputable def augF (i : Nat) (F : List PV → Option PV) (m : List PV) : Option (PF × List PV) := match m[i]?, F m with
  | some (.int a), some (.int b) => some (.next, m.set i (.int (Builtin.bitAnd a b)))
  | _, _ => none
theorem S_aug {x : Str} {px pos : Pos} {e : Expr} {F : List PV → Option PV} (i : Nat) (hi : ns[i]? = some x) (hp : plainName x = true) (he : EOk prog w hB k sc ns e F) :
    S1Ok prog w hB gm k sc ns (.AugAssign (.Name x px) .BitAnd e pos) (augF i F) := by
  intro A env s₀ s vals m f m' Q E a eo es u x₀ hF h
  unfold augF at hF
  split at hF
  · rename_i p q hm hv
    obtain ⟨rfl, rfl⟩ := Prod.mk.inj (Option.some.inj hF)
    obtain ⟨y, v', h1, h2, h3⟩ := x₀.rd es i _ hm nofun
    rw [hi] at h1; cases h1
    obtain ⟨t, rfl⟩ := h3
    refine wpAny_AugAssign_Name (load_ok (by rw [eo.scope]; exact eo.kind) hp h2 (he A env s m _ _ E a eo (u.of x₀) (x₀.rd es) hv fun v s₁ k₁ v₁ => ?_))
    obtain ⟨t', rfl⟩ := v₁
    refine iand_int ?_
    have k₂ : Kp s { s₁ with toks := s₁.toks + 1 } := k₁.trans Kp.tok
    refine store_ok (x₀.step k₂.g) es (by rw [eo.scope]; exact eo.kind) hi (p := .int (Builtin.bitAnd p q)) ⟨_, rfl⟩ nofun (fun xs => nofun) (fun xs => nofun) fun s' x' k' => ?_
    exact h _ s' _ x' (k₂.kb.trans k') trivial
  · cases hF
end
end Mine
end
section
open PySem PySem.W PySem.Calls PyProof.Rows
namespace Mine

section
variable {prog : Program} {w : World} {hB : Heap} {gm : Bool} {k : Nat} {sc : Scope} {ns : List Str}
variable {mg mb : Str → Option Value} {defs : List DefItem} {names : List Str}

noncomputable def whileF (T : List PV → Option Bool) (B : List PV → Option (PF × List PV)) : Nat → List PV → Option (PF × List PV)
  | 0, _ => none
  | n + 1, m => match T m with
    | some false => some (.next, m)
    | some true => match B m with
      | some (.next, m') => whileF T B n m'
      | some (.brk, m') => some (.next, m')
      | some (.ret p, m') => some (.ret p, m')
      | none => none
    | none => none

theorem S_while {t : Expr} {b : List Stmt} {pos : Pos} {T : List PV → Option Bool} {B : List PV → Option (PF × List PV)} (N : Nat) (ht : TOkG prog w hB gm k sc ns t T) (hb : SOk prog w hB gm k sc ns b B) :
    S1Ok prog w hB gm k sc ns (.While t b [] pos) (whileF T B N) := by
  intro A env s₀ s vals m f m' Q E a eo es u x₀ hF h
  refine wpAny_While (codeAny_whileLoop (fun n s' => ∃ vals m, StR gm s₀ env ns vals m s' ∧ whileF T B n m = some (f, m') ∧ KB s s') ?_ N ⟨vals, m, x₀, hF, KB.refl s⟩)
  rintro n s₁ ⟨vals₁, m₁, x₁, hF₁, k₁⟩
  cases n with
  | zero => cases hF₁
  | succ n =>
    unfold whileF at hF₁
    split at hF₁
    · rename_i hT
      obtain ⟨rfl, rfl⟩ := Prod.mk.inj (Option.some.inj hF₁)
      refine ht A env s₁ m₁ _ _ _ a eo (u.of x₁) (x₁.rd es) hT fun s₂ k₂ => ?_
      simp only [Bool.false_eq_true, if_false]
      exact wpAny_execs_nil (h _ s₂ vals₁ (x₁.step k₂) (k₁.trans k₂.kb) trivial)
    · rename_i hT
      refine ht A env s₁ m₁ _ _ _ a eo (u.of x₁) (x₁.rd es) hT fun s₂ k₂ => ?_
      simp only [if_true]
      have x₂ := x₁.step k₂
      split at hF₁
      · rename_i m₂ hB₂
        refine hb A env s₀ s₂ vals₁ m₁ _ _ _ _ a eo es u x₂ hB₂ fun fl s₃ vals₃ x₃ k₃ hfl => ?_
        cases fl with
        | next => exact ⟨n, Nat.lt_succ_self _, vals₃, m₂, x₃, hF₁, (k₁.trans k₂.kb).trans k₃⟩
        | brk => exact hfl.elim
        | cont => exact hfl.elim
        | ret v => exact hfl.elim
      · rename_i m₂ hB₂
        obtain ⟨rfl, rfl⟩ := Prod.mk.inj (Option.some.inj hF₁)
        refine hb A env s₀ s₂ vals₁ m₁ _ _ _ _ a eo es u x₂ hB₂ fun fl s₃ vals₃ x₃ k₃ hfl => ?_
        cases fl with
        | brk => exact h _ s₃ vals₃ x₃ ((k₁.trans k₂.kb).trans k₃) trivial
        | next => exact hfl.elim
        | cont => exact hfl.elim
        | ret v => exact hfl.elim
      · rename_i p m₂ hB₂
        obtain ⟨rfl, rfl⟩ := Prod.mk.inj (Option.some.inj hF₁)
        refine hb A env s₀ s₂ vals₁ m₁ _ _ _ _ a eo es u x₂ hB₂ fun fl s₃ vals₃ x₃ k₃ hfl => ?_
        cases fl with
        | ret v => exact h _ s₃ vals₃ x₃ ((k₁.trans k₂.kb).trans k₃) hfl
        | next => exact hfl.elim
        | cont => exact hfl.elim
        | brk => exact hfl.elim
      · cases hF₁
    · cases hF₁

noncomputable def forF (i : Nat) (B : List PV → Option (PF × List PV)) : List Int → List PV → Option (PF × List PV)
  | [], m => some (.next, m)
  | v :: r, m => match B (m.set i (.int v)) with
    | some (.next, m') => forF i B r m'
    | some (.brk, m') => some (.next, m')
    | some (.ret p, m') => some (.ret p, m')
    | none => none

theorem StR.turn {s₀ s : Shared} {env : Env} {vals : List Value} {m : List PV} (x : StR gm s₀ env ns vals m s) {I : Addr} {oI : Obj} (hI : s.heap.get? I = some oI) (hd : ItObj oI) (h0 : s₀.heap.get? I = none) {h' : Heap} {tk : Nat}
    (hk : ∀ b o, b ∉ [I] → s.heap.get? b = some o → h'.get? b = some o) : StR gm s₀ env ns vals m { s with heap := h', toks := tk } := by
  obtain ⟨vsI, hd⟩ := hd.2
  have hne : ∀ b o, s.heap.get? b = some o → (∀ vs, o.data ≠ .fields vs) → b ∉ [I] := fun b o e hf hm => by
    simp at hm
    subst hm
    rw [hI] at e; cases e
    exact hf _ hd
  have hseq : KeptSeq s.heap h' := fun b o vs n e q => hk b o (hne b o e (fun vs' q' => by rw [q] at q'; cases q')) e
  refine ⟨x.lenV, x.lenM, fun b o e => hk b o (fun hm => by simp at hm; subst hm; rw [h0] at e; cases e) (x.keep b o e), x.rel.trans (GRel.of rfl rfl rfl), ?_, ?_, fun i p v h1 h2 h3 => (x.vr i p v h1 h2 h3).seq hseq, x.own, x.bor, x.und⟩
  · obtain ⟨ml, hn, hml⟩ := x.loc
    refine ⟨ml, hn.at' fun o e => hk _ o (hne _ o e fun vs q => ?_) e, hml⟩
    obtain ⟨es, ep, h⟩ := ns_notSeq hn e
    rw [h] at q; cases q
  · intro i y hy hyk
    obtain ⟨c, ov, h1, ⟨o, ho, hdd⟩, h3⟩ := x.cell i y hy hyk
    exact ⟨c, ov, h1, ⟨o, hk c o (hne c o ho fun vs q => by rw [hdd] at q; cases q) ho, hdd⟩, h3⟩

/-- a loop over what gives ints -/
theorem for_core {x : Str} {px : Pos} {b : List Stmt} {B : List PV → Option (PF × List PV)} (i : Nat) (hi : ns[i]? = some x) (hb : SOk prog w hB gm k sc ns b B)
    {A : Around} {env : Env} {s₀ s s' : Shared} {vals : List Value} {m : List PV} {f : PF} {m' : List PV} {Q : Flow → Shared → Prop} {E : Value → Shared → Prop} {I : Addr} {L : List Addr} {P : Nat → Value → Prop} {St : Nat → Heap → Prop} {xs : List Int}
    (a : AOk k A) (eo : EnvOk sc env) (es : EnvS s₀ ns env) (u : Up hB s₀.heap) (x₀ : StR gm s₀ env ns vals m s) (hF : forF i B xs m = some (f, m'))
    (h : ∀ fl s' vals', StR gm s₀ env ns vals' m' s' → KB s s' → FlR s₀ s' f fl → Q fl s')
    (k₁ : Kp s s') (hI : s.heap.get? I = none) (W : Walks prog w A I (I :: L) [I] xs.length P St) (st : St 0 s'.heap)
    (hP : ∀ i v, P i v → i < xs.length → ∃ t, v = .int (xs.getD i 0) t) (hc : ∀ i h, St i h → ∃ o, h.get? I = some o ∧ ItObj o) (hL : ∀ l ∈ L, ∃ o, s₀.heap.get? l = some o) :
    codeAny (model prog w) A (.forLoop (.Name x px) (.ref I) b [] env) (fun r s' => match r with | .ok f => Q f s' | .error e => cameBackBy (model prog w) A env E e s') s' := by
  have hI0 : s₀.heap.get? I = none := by
    cases q : s₀.heap.get? I with
    | none => rfl
    | some o => rw [x₀.keep _ _ q] at hI; cases hI
  have hIL : ∀ s₂ s₃ : Shared, StR gm s₀ env ns vals m s → Up s₀.heap s₂.heap → Up s₀.heap s₃.heap → (∀ b ∈ L, ∀ o, s₂.heap.get? b = some o → s₃.heap.get? b = some o) := fun s₂ s₃ _ u₂ u₃ b hb o e => by
    obtain ⟨o', ho'⟩ := hL b hb
    have := u₂ b o' ho'
    rw [e] at this; cases this
    exact u₃ b o ho'
  have kbI : ∀ {s₂ s₃ : Shared} {h₁ : Heap} {tk}, KB s s₂ → (∀ b o, b ∉ [I] → s₂.heap.get? b = some o → h₁.get? b = some o) → KB s { s₃ with heap := h₁, toks := tk } := fun kb hk b o e st => hk b o (fun hm => by simp at hm; subst hm; rw [hI] at e; cases e) (kb b o e st)
  refine codeAny_forLoop (fun n s₁ => ∃ j vals m, n = xs.length + 1 - j ∧ j ≤ xs.length ∧ St j s₁.heap ∧ StR gm s₀ env ns vals m s₁ ∧ forF i B (xs.drop j) m = some (f, m') ∧ KB s s₁) ?_ (xs.length + 1)
    ⟨0, vals, m, by omega, Nat.zero_le _, st, x₀.step k₁.g, by simpa using hF, k₁.kb⟩
  rintro n s₁ ⟨j, vals₁, m₁, rfl, hj, st₁, x₁, hF₁, kb₁⟩
  obtain ⟨oI, hoI, hIt⟩ := hc j _ st₁
  by_cases hlt : j < xs.length
  · refine W.item j s₁ _ _ hlt st₁ fun v h₁ tk₁ hPv st₂ hk => ?_
    obtain ⟨t, rfl⟩ := hP j v hPv hlt
    have x₂ : StR gm s₀ env ns vals₁ m₁ { s₁ with heap := h₁, toks := tk₁ } := x₁.turn hoI hIt hI0 hk
    have hd : xs.drop j = xs.getD j 0 :: xs.drop (j + 1) := by
      rw [List.drop_eq_getElem_cons hlt, List.getD, List.getElem?_eq_getElem hlt]; rfl
    rw [hd] at hF₁
    refine wpAny_assign_Name (store_ok x₂ es (by rw [eo.scope]; exact eo.kind) hi (p := .int (xs.getD j 0)) ⟨t, rfl⟩ nofun (fun xs => nofun) (fun xs => nofun) fun s₃ x₃ k₃ => ?_)
    have kb₃ : KB s s₃ := (kbI (s₃ := s₁) (tk := tk₁) kb₁ hk).trans k₃
    obtain ⟨o₂, ho₂, hIt₂⟩ := hc _ _ st₂
    have st₃ : St (j + 1) s₃.heap := W.frame _ _ _ st₂ fun b hb o e => by
      rcases List.mem_cons.mp hb with rfl | hb
      · rw [ho₂] at e; cases e
        exact k₃ _ _ ho₂ ⟨hIt₂.1, (fun es ep q => by obtain ⟨_, vs, h⟩ := hIt₂; rw [h] at q; cases q), fun c q => by obtain ⟨_, vs, h⟩ := hIt₂; rw [h] at q; cases q⟩
      · exact hIL { s₁ with heap := h₁, toks := tk₁ } s₃ x₀ x₂.keep x₃.keep b hb o e
    have next : ∀ s₄ vals₄ m₄, StR gm s₀ env ns vals₄ m₄ s₄ → KB s₃ s₄ → forF i B (xs.drop (j + 1)) m₄ = some (f, m') → ∃ n', n' < xs.length + 1 - j ∧ ∃ j vals m, n' = xs.length + 1 - j ∧ j ≤ xs.length ∧ St j s₄.heap ∧ StR gm s₀ env ns vals m s₄ ∧ forF i B (xs.drop j) m = some (f, m') ∧ KB s s₄ := by
      intro s₄ vals₄ m₄ x₄ k₄ hF₄
      obtain ⟨o₃, ho₃, hIt₃⟩ := hc _ _ st₃
      refine ⟨xs.length + 1 - (j + 1), by omega, j + 1, vals₄, m₄, rfl, hlt, W.frame _ _ _ st₃ fun b hb o e => ?_, x₄, hF₄, kb₃.trans k₄⟩
      rcases List.mem_cons.mp hb with rfl | hb
      · rw [ho₃] at e; cases e
        exact k₄ _ _ ho₃ ⟨hIt₃.1, (fun es ep q => by obtain ⟨_, vs, h⟩ := hIt₃; rw [h] at q; cases q), fun c q => by obtain ⟨_, vs, h⟩ := hIt₃; rw [h] at q; cases q⟩
      · exact hIL s₃ s₄ x₀ x₃.keep x₄.keep b hb o e
    unfold forF at hF₁
    split at hF₁
    · rename_i m₂ hB₂
      refine hb A env s₀ s₃ _ _ _ _ _ _ a eo es u x₃ hB₂ fun fl s₄ vals₄ x₄ k₄ hfl => ?_
      cases fl with
      | next => exact next s₄ vals₄ m₂ x₄ k₄ hF₁
      | brk => exact hfl.elim
      | cont => exact hfl.elim
      | ret v => exact hfl.elim
    · rename_i m₂ hB₂
      obtain ⟨rfl, rfl⟩ := Prod.mk.inj (Option.some.inj hF₁)
      refine hb A env s₀ s₃ _ _ _ _ _ _ a eo es u x₃ hB₂ fun fl s₄ vals₄ x₄ k₄ hfl => ?_
      cases fl with
      | brk => exact h _ s₄ vals₄ x₄ (kb₃.trans k₄) trivial
      | next => exact hfl.elim
      | cont => exact hfl.elim
      | ret v => exact hfl.elim
    · rename_i p m₂ hB₂
      obtain ⟨rfl, rfl⟩ := Prod.mk.inj (Option.some.inj hF₁)
      refine hb A env s₀ s₃ _ _ _ _ _ _ a eo es u x₃ hB₂ fun fl s₄ vals₄ x₄ k₄ hfl => ?_
      cases fl with
      | ret v => exact h _ s₄ vals₄ x₄ (kb₃.trans k₄) hfl
      | next => exact hfl.elim
      | cont => exact hfl.elim
      | brk => exact hfl.elim
    · cases hF₁
  · have hjn : j = xs.length := by omega
    subst hjn
    refine W.done s₁ _ _ st₁ fun h₁ tk₁ hk => ?_
    rw [List.drop_length] at hF₁
    obtain ⟨rfl, rfl⟩ := Prod.mk.inj (Option.some.inj hF₁)
    exact wpAny_execs_nil (h _ _ vals₁ (x₁.turn hoI hIt hI0 hk) (kbI (s₃ := s₁) (tk := tk₁) kb₁ hk) trivial)

noncomputable def forItF (i : Nat) (F : List PV → Option (List Int)) (B : List PV → Option (PF × List PV)) (m : List PV) : Option (PF × List PV) := (F m).bind fun xs => forF i B xs m
theorem S_forR {x : Str} {px pos : Pos} {e : Expr} {b : List Stmt} {F : List PV → Option (List Int)} {B : List PV → Option (PF × List PV)} (i : Nat) (hi : ns[i]? = some x) (he : ItOk prog w hB k sc ns false e F) (hb : SOk prog w hB gm k sc ns b B)
    (hs : ∀ env v, foldedSetIterable e env v = pure v) :
    S1Ok prog w hB gm k sc ns (.For (.Name x px) e b [] pos) (forItF i F B) := by
  intro A env s₀ s vals m f m' Q E a eo es u x₀ hF h
  obtain ⟨xs, hx, hF⟩ := Option.bind_eq_some_iff.mp hF
  refine wpAny_For (he A env s m xs _ E a eo (u.of x₀) (x₀.rd es) hx fun I L P St s' k₁ hI W st hfp hP hl hc hL => ?_) (hs env)
  exact for_core i hi hb a eo es u x₀ hF h k₁ hI W st hP hc (by
    rcases hL with rfl | ⟨h, _⟩
    · nofun
    · cases h)
/-- a loop over a list that the def was handed -/
noncomputable def forBF (i j : Nat) (B : List PV → Option (PF × List PV)) (m : List PV) : Option (PF × List PV) := match m[j]? with
  | some (.blist xs) => forF i B xs m
  | _ => none
theorem S_forB {x y : Str} {px py pos : Pos} {b : List Stmt} {B : List PV → Option (PF × List PV)} (i j : Nat) (hi : ns[i]? = some x) (hj : ns[j]? = some y) (hp : plainName y = true) (hb : SOk prog w hB gm k sc ns b B) :
    S1Ok prog w hB gm k sc ns (.For (.Name x px) (.Name y py) b [] pos) (forBF i j B) := by
  intro A env s₀ s vals m f m' Q E a eo es u x₀ hF h
  unfold forBF at hF
  split at hF
  · rename_i xs hm
    have hj' : j < vals.length := by rw [x₀.lenV]; exact (List.getElem?_eq_some_iff.mp hj).1
    obtain ⟨v₀, hv₀⟩ : ∃ v₀, vals[j]? = some v₀ := ⟨_, List.getElem?_eq_getElem hj'⟩
    obtain ⟨l, us, hvD, hL, hI⟩ := x₀.vr j _ v₀ hm hv₀ nofun
    subst hvD
    have hne : m[j]? ≠ some .undef := by rw [hm]; nofun
    have hld : Ld env s.heap y (.ref l) := by
      rcases es.kind y (List.mem_of_getElem? hj) with hk | hk
      · obtain ⟨ml, hn, hml⟩ := x₀.loc
        exact .inl ⟨hk, ml, hn, (hml j y hj hk hne).trans hv₀⟩
      · obtain ⟨c, ov, hc, hx, ho⟩ := x₀.cell j y hj hk
        exact .inr ⟨.inl hk, c, hc, by rw [← hv₀, ← ho hne]; exact hx⟩
    have hdbg : (y == ("__debug__" : Str)) = false := by
      unfold plainName at hp
      simp only [Bool.and_eq_true, Bool.not_eq_true'] at hp
      exact hp.1
    have hlen : us.size = xs.length := by have := hI.length; simpa using this
    refine wpAny_For (wpAny_Name (load_ok (by rw [eo.scope]; exact eo.kind) hp hld ?_) hdbg) (fun v => rfl)
    refine iter_list a.handled hL fun I s' k₁ hI0 W st hfp hcls => ?_
    rw [hlen] at W
    refine for_core i hi hb a eo es u x₀ hF h k₁ hI0 W st (fun i v hv _ => at_int hI hv) ?_ ?_
    · rintro i h' ⟨⟨o, ho, hc, hd⟩, _⟩
      exact ⟨o, ho, by rw [hc]; decide, _, hd⟩
    · intro b hb
      simp at hb
      subst hb
      exact x₀.bor j xs _ hm hv₀
  · cases hF
end
end Mine
end
section
open PySem PySem.W PySem.Calls PyProof.Rows
namespace Mine

section
variable {prog : Program} {w : World} {hB : Heap} {gm : Bool} {k : Nat} {sc : Scope} {ns : List Str}
variable {mg mb : Str → Option Value} {defs : List DefItem} {names : List Str}

noncomputable def set2F (i j : Nat) (F₁ F₂ : List PV → Option PV) (m : List PV) : Option (PF × List PV) := match F₁ m, F₂ m with
  | some (.int a), some (.int b) => some (.next, (m.set j (.int b)).set i (.int a))
  | _, _ => none
/-- two names at once -/
theorem S_assign2 {x y : Str} {px py tpos vpos pos : Pos} {n₁ n₂ : Nat} {e₁ e₂ : Expr} {F₁ F₂ : List PV → Option PV} (i j : Nat) (hi : ns[i]? = some x) (hj : ns[j]? = some y) (h₁ : EOk prog w hB k sc ns e₁ F₁) (h₂ : EOk prog w hB k sc ns e₂ F₂)
    (hs₁ : star1 e₁) (hs₂ : star1 e₂) (hsw : ∀ env, env.scope = sc → swapsWithSole [.Tuple [.Name x px, .Name y py] n₁ tpos] (.Tuple [e₁, e₂] n₂ vpos) pos.line env = pure false)
    (hw : ∀ env, env.scope = sc → swappedStores [.Tuple [.Name x px, .Name y py] n₁ tpos] (.Tuple [e₁, e₂] n₂ vpos) env = pure (some [x, y])) :
    S1Ok prog w hB gm k sc ns (.Assign [.Tuple [.Name x px, .Name y py] n₁ tpos] (.Tuple [e₁, e₂] n₂ vpos) pos) (set2F i j F₁ F₂) := by
  intro A env s₀ s vals m f m' Q E a eo es u x₀ hF h
  unfold set2F at hF
  split at hF
  · rename_i p q hp hq
    obtain ⟨rfl, rfl⟩ := Prod.mk.inj (Option.some.inj hF)
    refine Assign_Tuple_swapped (names := [x, y]) (Tuple_ (args_cons (h₁ A env s m _ _ E a eo (u.of x₀) (x₀.rd es) hp fun v s₁ k₁ v₁ => args_cons (h₂ A env s₁ m _ _ E a eo (fun b o e => k₁.up b o (u.of x₀ b o e)) ((x₀.rd es).keeps k₁.up) hq fun v' s₂ k₂ v₂ => args_nil (wpAny_newObj_type ?_ ?_)) (hs₂ env [])) (hs₁ env [e₂]))) (hsw env eo.scope) (hw env eo.scope)
    · obtain ⟨t, rfl⟩ := v₁
      obtain ⟨t', rfl⟩ := v₂
      have k₃ : Kp s { s₂ with heap := s₂.heap.push { cls := .type "tuple", data := .seq [Value.int p t, Value.int q t'].toArray } } := (k₁.trans k₂).trans ⟨_, _, rfl, fun b o e => Heap.get?_push_of_some _ e⟩
      have hT : IsTup (s₂.heap.push { cls := .type "tuple", data := .seq [Value.int p t, Value.int q t'].toArray }) s₂.heap.objs.size [Value.int p t, Value.int q t'].toArray := ⟨_, Heap.get?_push_size _ rfl, rfl, 0, rfl⟩
      refine unpackItems_tuple (items := [Value.int p t, Value.int q t'].toArray) a.handled hT fun h' he => ?_
      have hk : env.scope.kind = .function := by rw [eo.scope]; exact eo.kind
      have k₄ : Kp s { s₂ with heap := h' } := k₃.trans ⟨h', s₂.toks, rfl, fun b o e => he b o (fun q => by subst q; exact absurd (Heap.lt_size e) (Nat.lt_irrefl _)) e⟩
      show wpAny (model prog w) A (assignInOrder [bindName env y, bindName env x] [Value.int q t', Value.int p t]) _ E _
      refine assignInOrder_cons (wpAny_bindName (store_ok (x₀.step (k₄.g (gm := gm))) es hk hj (p := .int q) ⟨t', rfl⟩ nofun (fun xs => nofun) (fun xs => nofun) fun s₅ x₅ k₅ => ?_))
      refine assignInOrder_cons (wpAny_bindName (store_ok x₅ es hk hi (p := .int p) ⟨t, rfl⟩ nofun (fun xs => nofun) (fun xs => nofun) fun s₆ x₆ k₆ => ?_))
      exact assignInOrder_nil (h _ s₆ _ x₆ ((k₄.kb.trans k₅).trans k₆) trivial)
    · show [v, v'].toArray.size ≤ sizeLine
      rw [sizeLine_eq]; simp
  · cases hF

theorem bindL_other {kindOf : Str → Option NameKind} : ∀ (binds : List (Str × Value)) (m : Str → Option Value) (n : Str), n ∉ binds.map (·.1) → bindL kindOf binds m n = m n
  | [], _, _, _ => rfl
  | (n₀, v₀) :: r, m, n, h => by
    unfold bindL
    rw [bindL_other r _ n fun q => h (List.mem_cons_of_mem _ q)]
    split
    · exact if_neg fun q => h (by subst q; exact List.mem_cons_self)
    · rfl
theorem bindC_other {kindOf : Str → Option NameKind} : ∀ (binds : List (Str × Value)) (m : Str → Option Value) (n : Str), n ∉ binds.map (·.1) → bindC kindOf binds m n = m n
  | [], _, _, _ => rfl
  | (n₀, v₀) :: r, m, n, h => by
    unfold bindC
    rw [bindC_other r _ n fun q => h (List.mem_cons_of_mem _ q)]
    split
    · rfl
    · exact if_neg fun q => h (by subst q; exact List.mem_cons_self)
theorem bindL_at {kindOf : Str → Option NameKind} : ∀ (binds : List (Str × Value)) (m : Str → Option Value), (binds.map (·.1)).Nodup → ∀ (i : Nat) n v, binds[i]? = some (n, v) → kindOf n = some .local → bindL kindOf binds m n = some v
  | [], _, _, i, n, v, h, _ => by simp at h
  | (n₀, v₀) :: r, m, hn, i, n, v, h, hk => by
    rw [List.map_cons, List.nodup_cons] at hn
    unfold bindL
    cases i with
    | zero =>
      simp at h
      obtain ⟨rfl, rfl⟩ := h
      rw [bindL_other r _ n₀ hn.1, if_pos hk, if_pos rfl]
    | succ i => exact bindL_at r _ hn.2 i n v (by simpa using h) hk
theorem bindC_at {kindOf : Str → Option NameKind} : ∀ (binds : List (Str × Value)) (m : Str → Option Value), (binds.map (·.1)).Nodup → ∀ (i : Nat) n v, binds[i]? = some (n, v) → kindOf n ≠ some .local → bindC kindOf binds m n = some v
  | [], _, _, i, n, v, h, _ => by simp at h
  | (n₀, v₀) :: r, m, hn, i, n, v, h, hk => by
    rw [List.map_cons, List.nodup_cons] at hn
    unfold bindC
    cases i with
    | zero =>
      simp at h
      obtain ⟨rfl, rfl⟩ := h
      rw [bindC_other r _ n₀ hn.1, if_neg hk, if_pos rfl]
    | succ i => exact bindC_at r _ hn.2 i n v (by simpa using h) hk

theorem cellsFrom_has : ∀ (names : List (Str × NameKind)) (n : Nat) (acc : List (Str × Addr)) (x : Str), ((x, NameKind.cell) ∈ names ∨ ∃ c, (x, c) ∈ acc) → ∃ c, (x, c) ∈ cellsFrom n names acc
  | [], _, _, _, h => h.elim nofun id
  | (y, kd) :: r, n, acc, x, h => by
    unfold cellsFrom
    split
    · rename_i hk
      refine cellsFrom_has r _ _ x ?_
      rcases h with h | ⟨c, h⟩
      · rcases List.mem_cons.mp h with e | h
        · cases e; exact .inr ⟨n, List.mem_cons_self⟩
        · exact .inl h
      · exact .inr ⟨c, List.mem_cons_of_mem _ h⟩
    · rename_i hk
      refine cellsFrom_has r _ _ x ?_
      rcases h with h | h
      · rcases List.mem_cons.mp h with e | h
        · cases e; simp at hk
        · exact .inl h
      · exact .inr h

/-- an argument as the def holds it -/
noncomputable def PV.arg : PV → PV
  | .list xs | .olist xs | .blist xs => .blist xs
  | p => p
theorem VR.arg {h : Heap} {v : Value} {p : PV} (x : VR h v p) : VR h v p.arg := by
  cases p with
  | olist xs => obtain ⟨a, vs, e, hl, hi⟩ := x; exact ⟨a, vs, e, hl.isList, hi⟩
  | _ => exact x

noncomputable def resF (n : Nat) (F : List PV → Option (PF × List PV)) (ps : List PV) : Option PV := match F (ps.map PV.arg ++ List.replicate n .undef) with
  | some (.ret p, _) => some p
  | _ => none

/-- what is asked of a def's names -/
structure DefOk (d : DefItem) (pn rest : List Str) : Prop where
  kind : d.scope.kind = .function
  co : d.scope.isCoroutine = false
  gen : d.scope.isGenerator = false
  nodup : (pn ++ rest).Nodup
  kinds : ∀ x ∈ pn ++ rest, d.scope.names.lookup x = some .local ∨ d.scope.names.lookup x = some .cell
  nofree : ∀ y ∈ d.scope.names, y.2 ≠ .free
  bind : ∀ (pm cd doc : Value) (vals : List Value), vals.length = pn.length → bindArgs (docDef d.name d.params d.body d.scope pm cd doc) ⟨vals, []⟩ = pure (pn.zip vals)

theorem C_def (g : Gd hB mg mb defs names) {d : DefItem} {pn rest : List Str} {f : Addr} {F : List PV → Option (PF × List PV)} (hat : d.At mg hB) (hf : mg d.name = some (.ref f)) (ok : DefOk d pn rest)
    (hb : SOk prog w hB gm k d.scope (pn ++ rest) d.body F) :
    COkG prog w hB gm (k + 1) (.ref f) (fun ps => if ps.length = pn.length then resF rest.length F ps else none) := by
  intro A s vs ps p Q E a up hl hv hG h
  dsimp only at hG
  by_cases hlen : ps.length = pn.length
  · rw [if_pos hlen] at hG
    unfold resF at hG
    split at hG
    · rename_i q m' hF
      obtain rfl := Option.some.inj hG
      obtain ⟨f', c, P, o, pm, doc, h1, h2, h3, h4, h5⟩ := hat
      rw [hf] at h1; cases h1
      have hvl : vs.length = pn.length := hl.trans hlen
      have hbn : (pn.zip vs).map (·.1) = pn := by rw [List.map_fst_zip (by omega)]
      refine wpAny_call (codeAny_call_cells (fd := docDef d.name d.params d.body d.scope pm (.ref c) doc) (body := d.body) a.room (up _ _ h2) h3 (g.lim.keeps up) (h4.keeps up) rfl (ok.bind pm (.ref c) doc vs hvl) rfl ?_ (fun s₁ x => ?_) ok.co ok.gen ok.kind)
      · intro x hx
        have hm : x.1 ∈ pn := (List.of_mem_zip hx).1
        rcases ok.kinds x.1 (List.mem_append_left _ hm) with h | h
        · exact .inl h
        · refine .inr ⟨h, ?_⟩
          obtain ⟨c', hc'⟩ := cellsFrom_has d.scope.names (s.heap.objs.size + 1) [] x.1 (.inl (lookup_mem' h))
          obtain ⟨c'', e⟩ := lookup_of_mem hc'
          show (List.lookup x.1 (cellsFrom (s.heap.objs.size + 1) d.scope.names [])).isSome = true
          rw [e]; rfl
      · generalize henv : callEnvC (docDef d.name d.params d.body d.scope pm (.ref c) doc) s.heap.objs.size f = env at x
        have e1 : env.scope = d.scope := by rw [← henv]; rfl
        have e2 : env.locals = s.heap.objs.size := by rw [← henv]; rfl
        have e3 : env.cells = cellsFrom (s.heap.objs.size + 1) d.scope.names [] := by rw [← henv]; rfl
        have e4 : env.globals = mainGlobals := by rw [← henv]; rfl
        have e5 : env.builtins = builtinsNs := by rw [← henv]; rfl
        have hcs : ∀ n, d.scope.names.lookup n = some .cell → ∃ c, env.cells.lookup n = some c := fun n hn => by
          obtain ⟨c', hc'⟩ := cellsFrom_has d.scope.names (s.heap.objs.size + 1) [] n (.inl (lookup_mem' hn))
          rw [e3]; exact lookup_of_mem hc'
        have eo : EnvOk d.scope env := ⟨e1, ok.kind, e4, e5, fun n hn => by
          rcases hn with hn | hn
          · obtain ⟨c', e⟩ := hcs n hn; rw [e]; rfl
          · exact absurd rfl (ok.nofree _ (lookup_mem' hn))⟩
        have ek : ∀ n, env.kindOf n = d.scope.names.lookup n := fun n => by unfold Env.kindOf; rw [e1]
        have es : EnvS s (pn ++ rest) env := ⟨ok.nodup, fun n hn => by rw [ek]; exact ok.kinds n hn, by rw [e2]; exact Nat.le_refl _, x.above, x.apart⟩
        have hpnd : pn.Nodup := (List.nodup_append.mp ok.nodup).1
        have hzip : ∀ (i : Nat) n, (pn ++ rest)[i]? = some n → (ps.map PV.arg ++ List.replicate rest.length PV.undef)[i]? ≠ some .undef → ∃ v, (pn.zip vs)[i]? = some (n, v) ∧ (vs ++ List.replicate rest.length Value.none)[i]? = some v := by
          intro i n hn hu
          by_cases hi : i < pn.length
          · rw [List.getElem?_append_left hi] at hn
            obtain ⟨v, hv'⟩ : ∃ v, vs[i]? = some v := ⟨_, List.getElem?_eq_getElem (by omega)⟩
            exact ⟨v, by rw [List.getElem?_zip_eq_some]; exact ⟨hn, hv'⟩, by rw [List.getElem?_append_left (by omega)]; exact hv'⟩
          · exfalso
            apply hu
            have hi2 : i < pn.length + rest.length := by have := (List.getElem?_eq_some_iff.mp hn).1; simpa using this
            rw [List.getElem?_append_right (by simp; omega), List.getElem?_replicate]
            simp; omega
        have x₀ : StR gm s env (pn ++ rest) (vs ++ List.replicate rest.length .none) (ps.map PV.arg ++ List.replicate rest.length .undef) s₁ := by
          refine ⟨by simp [hvl], by simp [hlen], x.toInCall.keep, ?_, ⟨_, x.toInCall.ns, ?_⟩, ?_, ?_, ?_, ?_, ?_⟩
          · obtain ⟨h', tk, rfl⟩ := x.toInCall.same
            exact GRel.of rfl rfl rfl
          · intro i n hn hkn hu
            obtain ⟨v, hz, hv'⟩ := hzip i n hn hu
            rw [hv']
            exact bindL_at _ _ (by rw [hbn]; exact hpnd) i n v hz hkn
          · intro i n hn hkn
            rw [ek] at hkn
            obtain ⟨c', hc'⟩ := hcs n hkn
            refine ⟨c', _, hc', x.cell n c' hc', fun hu => ?_⟩
            obtain ⟨v, hz, hv'⟩ := hzip i n hn hu
            rw [hv']
            exact bindC_at _ _ (by rw [hbn]; exact hpnd) i n v hz (by rw [ek, hkn]; nofun)
          · intro i q' v hq hv' hne
            by_cases hi : i < ps.length
            · rw [List.getElem?_append_left (by simpa using hi), List.getElem?_map] at hq
              obtain ⟨q₀, hq₀, rfl⟩ := Option.map_eq_some_iff.mp hq
              rw [List.getElem?_append_left (by omega)] at hv'
              exact (hv i v q₀ hv' hq₀).arg.keeps x.toInCall.keep
            · rw [List.getElem?_append_right (by simpa using hi), List.getElem?_replicate] at hq
              split at hq
              · cases hq; exact absurd rfl hne
              · cases hq
          · intro i xs b hq
            by_cases hi : i < ps.length
            · rw [List.getElem?_append_left (by simpa using hi), List.getElem?_map] at hq
              obtain ⟨q₀, hq₀, e⟩ := Option.map_eq_some_iff.mp hq
              cases q₀ <;> cases e
            · rw [List.getElem?_append_right (by simpa using hi), List.getElem?_replicate] at hq
              split at hq <;> cases hq
          · intro i xs b hq hvb
            by_cases hi : i < ps.length
            · rw [List.getElem?_append_left (by simpa using hi), List.getElem?_map] at hq
              obtain ⟨q₀, hq₀, e⟩ := Option.map_eq_some_iff.mp hq
              rw [List.getElem?_append_left (by omega)] at hvb
              exact (hv i _ q₀ hvb hq₀).ex rfl
            · rw [List.getElem?_append_right (by simpa using hi), List.getElem?_replicate] at hq
              split at hq <;> cases hq
          · intro i hq
            by_cases hi : i < ps.length
            · rw [List.getElem?_append_left (by simpa using hi), List.getElem?_map] at hq
              obtain ⟨q₀, hq₀, e⟩ := Option.map_eq_some_iff.mp hq
              have hvi : i < vs.length := by omega
              have := hv i vs[i] q₀ (List.getElem?_eq_getElem hvi) hq₀
              cases q₀ <;> first | cases e | skip
              exact this.elim
            · have hi2 := (List.getElem?_eq_some_iff.mp hq).1
              rw [List.getElem?_append_right (by omega), List.getElem?_replicate, if_pos (by simp at hi2; omega)]
        refine hb _ env s s₁ _ _ _ _ _ _ a.deeper eo es up x₀ hF fun fl s' vals' x' kb hfl => ?_
        cases fl with
        | ret v => exact h v s' ⟨x'.keep, x'.rel⟩ hfl.1 hfl.2
        | next => exact hfl.elim
        | brk => exact hfl.elim
        | cont => exact hfl.elim
    · cases hG
  · rw [if_neg hlen] at hG; cases hG

theorem COkG.p {f : Value} {G : List PV → Option PV} (c : COkG prog w hB false k f G) : COk prog w hB k f G :=
  fun A s vs ps p Q E a up hl hv hG h => c A s vs ps p Q E a up hl hv hG fun v s' k₁ v₁ f₁ => h v s' k₁.p v₁ f₁
end
end Mine
end
section
open PySem PySem.W PySem.Calls PyProof.Rows
namespace Mine

section
variable {prog : Program} {w : World} {hB : Heap} {gm : Bool} {k : Nat} {sc : Scope} {ns : List Str}
variable {scope : Scope} {x : Str} {cv : Bool} {msk : List Bool}

theorem cell_ne_ns {h : Heap} {C c : Addr} {mC : Str → Option Value} {ov : Option Value} (hn : h.Ns C mC) (hc : h.IsCell c ov) : c ≠ C := fun q => by
  obtain ⟨o, ho, hd⟩ := hc
  obtain ⟨es, ep, h⟩ := ns_notSeq hn (q ▸ ho)
  rw [hd] at h; cases h
theorem StR.drop {s₀ s : Shared} {env : Env} {vals : List Value} {m : List PV} (x : StR gm s₀ env ns vals m s) {C : Addr} {mC : Str → Option Value} (hn : s.heap.Ns C mC) (hL : C ≠ env.locals) (h0 : s₀.heap.get? C = none)
    {h' : Heap} (hs : Heap.SameBut C s.heap h') : StR gm s₀ env ns vals m { s with heap := h' } := by
  have hseq : KeptSeq s.heap h' := fun b o vs n e hd => (hs.2 b (fun q => by
    subst q
    obtain ⟨es, ep, h⟩ := ns_notSeq hn e
    rw [hd] at h; cases h)).trans e
  refine ⟨x.lenV, x.lenM, fun b o e => (hs.2 b (fun q => by subst q; rw [h0] at e; cases e)).trans (x.keep b o e), x.rel.trans (GRel.of rfl rfl rfl), ?_, ?_, fun i p v h1 h2 h3 => (x.vr i p v h1 h2 h3).seq hseq, x.own, x.bor, x.und⟩
  · obtain ⟨ml, hn', hml⟩ := x.loc
    exact ⟨ml, hn'.sameBut hs (Ne.symm hL), hml⟩
  · intro i y hy hyk
    obtain ⟨c, ov, h1, h2, h3⟩ := x.cell i y hy hyk
    exact ⟨c, ov, h1, h2.sameBut hs (cell_ne_ns hn h2), h3⟩

/-- a comprehension's list is put under the name before the comprehension's own names go -/
theorem S_assignComp {bb : Bool} {elt iter : Expr} {y : Str} {px py : Pos} {ifs : List Expr} {pos spos : Pos} {Fit : List PV → Option (List Int)} {Felt : List PV → Option PV} {Fif : List PV → Option Bool} (c : CompOk scope sc ns x cv msk) (i : Nat) (hi : ns[i]? = some y) (hyl : sc.names.lookup y = some .local)
    (hit : ItOk prog w hB k sc ns bb iter Fit) (helt : EOk prog w hB k (relS scope sc) (x :: ns) elt Felt) (hifs : TsOk prog w hB k (relS scope sc) (x :: ns) ifs Fif)
    (hs : ∀ env v, foldedSetIterable iter env v = pure v)
    (hsw : ∀ env, env.scope = sc → swapsWith (.ListComp elt [⟨.Name x px, iter, ifs, 0⟩] scope pos) (some (.Name y py)) spos.line env = pure true) :
    S1Ok prog w hB gm k sc ns (.Assign [.Name y py] (.ListComp elt [⟨.Name x px, iter, ifs, 0⟩] scope pos) spos)
      (setF i fun m => (Fit m).bind fun xs => (compE (fun i => Fif (.int i :: maskM msk m)) (fun i => Felt (.int i :: maskM msk m)) xs).map PV.list) := by
  intro A env s₀ s vals m f m' Q E a eo es u x₀ hF h
  obtain ⟨p, hp, hF⟩ := Option.bind_eq_some_iff.mp hF
  obtain ⟨xs, hx, hp⟩ := Option.bind_eq_some_iff.mp hp
  obtain ⟨ys, hy, rfl⟩ := Option.map_eq_some_iff.mp hp
  rw [if_pos (show (PV.list ys).plain = true from rfl)] at hF
  obtain ⟨rfl, rfl⟩ := Prod.mk.inj (Option.some.inj hF)
  rw [exec_Assign_Name_used _ _ _ _ (hsw env eo.scope)]
  refine wpAny_bind (wpAny_standAt (wpAny_bind ?_))
  show wpAny (model prog w) A (do let _ ← comprehension (.ListComp elt [⟨.Name x px, iter, ifs, 0⟩] scope pos) scope env _ (newList []) false (eval iter env) (some (assign (.Name y py) env))) _ _ s
  refine wpAny_bind (wpAny_mono (wpAny_comprehension_free (use := some (assign (.Name y py) env)) (Q := fun _ s' => Q .next s') (E := E) rfl (hs env) (closureFor_is (c.cellsSome eo)) c.kind c.locals
    (hit A env s m xs _ E a eo (u.of x₀) (x₀.rd es) hx fun I L P St s₂ k₂ hI W st hfp hP hl hc hL => ?_)) (fun _ s' hq => wpAny_pure (wpAny_pure hq)) fun _ _ e => e)
  refine comp_block (RR := fun acc C => compPost (model prog w) A E (some (assign (.Name y py) env)) (fun _ s' => Q .next s') acc C) c a eo (u.of x₀) (x₀.rd es) k₂ hI helt hifs hy W st hfp hP hl ?_
  intro D C h' tk m' zs hD hC hDC hn hpl hz hk
  have hkk : env.scope.kind = .function := by rw [eo.scope]; exact eo.kind
  have ks := k₂.but hI hk
  have hg : Kg gm s { s₂ with heap := h', toks := tk } := by
    obtain ⟨h₂, tk₂, rfl, _⟩ := k₂
    exact ⟨ks, GRel.of rfl rfl rfl⟩
  have x₁ := x₀.step hg
  have hCs : s.heap.get? C = none := by
    cases q : s.heap.get? C with
    | none => rfl
    | some o => rw [k₂.up _ _ q] at hC; cases hC
  have hC0 : s₀.heap.get? C = none := by
    cases q : s₀.heap.get? C with
    | none => rfl
    | some o => rw [x₀.keep _ _ q] at hCs; cases hCs
  have hDs : s.heap.get? D = none := by
    cases q : s.heap.get? D with
    | none => rfl
    | some o => rw [k₂.up _ _ q] at hD; cases hD
  obtain ⟨ml, hnl, hml⟩ := x₀.loc
  have hCL : C ≠ env.locals := fun q => by
    obtain ⟨o, es, ep, ho, _⟩ := hnl
    rw [q] at hCs; rw [hCs] at ho; cases ho
  show wpAny (model prog w) A (assign (.Name y py) env (.ref D)) _ _ _
  have fr : Fresh s.heap (.ref D) := fun b e => by cases e; exact hDs
  refine wpAny_assign_Name (store_ok' x₁ es hkk hi (p := .list ys) ⟨D, zs, rfl, hpl.isList, hz⟩ (x₀.free fr) (fun xs => nofun) (fun xs => nofun) fun s₃ x₃ k₃ hz₃ => ?_)
  obtain ⟨z, hsz, hzk⟩ := hz₃
  have hn₃ : s₃.heap.Ns C m' := hn.sameBut hsz (by
    rcases hzk with rfl | ⟨ov, hov⟩
    · exact hCL
    · exact Ne.symm (cell_ne_ns hn hov))
  refine ⟨m', hn₃, fun h'' hs'' => h _ _ _ (x₃.drop hn₃ hCL hC0 hs'') (fun b o e st => ?_) trivial⟩
  exact (hs''.2 b (fun q => by subst q; rw [hCs] at e; cases e)).trans (k₃ b o (ks b o e) st)
end
end Mine
end
section
open PySem PySem.W PySem.Calls PyProof.Rows
namespace Mine

noncomputable def itmOf : Stmt → DefItem
  | .FunctionDef name args body _ _ _ scope _ _ pos => ⟨name, args, body, scope, pos⟩
  | s => ⟨"", { posonlyargs := [], args := [], vararg := none, kwonlyargs := [], kw_defaults := [], kwarg := none, defaults := [] }, [s], { kind := .function, names := [], isGenerator := false, isCoroutine := false }, default⟩
noncomputable def itm (i : Nat) : DefItem := itmOf ((PySem.Challenge.pw_st0001_01.main.body[i]?).getD (.Pass default))
/-- the built-in names that the law calls -/
noncomputable def usedB : List Str := ["len", "sum", "range", "max", "str", "ValueError"]

end Mine
end
section
open PySem PySem.W PySem.Calls PyProof.Rows
namespace Mine

section
variable {prog : Program} {w : World} {A : Around} {R : GenEnd} {Y : Protocol} {n : Nat} {s₀ : Shared} {c : Code} {fs : List Frame} {s : Shared} {env : Env}
  {K : Flow → Sem Fin} {H : Value → Sem Fin} {gd : Bool → Bool} {lv : List Value → List Value}

/-- a statement that does not yield -/
theorem seg_st {st : Stmt} {rest : List Stmt}
    (h : wpAny (model prog w) (A.over c fs) (exec st env) (fun f s' => Seg (model prog w) A R Y n s₀ c (match f with | .next => (execs rest env).wrap K H gd lv | f => K f) fs s') (fun x s' => Seg (model prog w) A R Y n s₀ c (H x) fs s') s) :
    Seg (model prog w) A R Y n s₀ c ((execs (st :: rest) env).wrap K H gd lv) fs s := by
  rw [execs_cons_wrap]
  exact seg_wrap h

theorem seg_If {t : Expr} {b o : List Stmt} {pos : Pos}
    (h : wpAny (model prog w) (A.over c fs) (isTrue t env (eval t env)) (fun bb s' => Seg (model prog w) A R Y n s₀ c (if bb then (execs b env).wrap K H gd lv else (execs o env).wrap K H gd lv) fs s') (fun x s' => Seg (model prog w) A R Y n s₀ c (H x) fs s') s) :
    Seg (model prog w) A R Y n s₀ c ((exec (.If t b o pos) env).wrap K H gd lv) fs s := by
  rw [exec_If]
  refine seg_bind_wrap (wpAny_standAt ?_)
  refine seg_bind_wrap (wpAny_mono h (fun bb s' hb => ?_) fun _ _ e => e)
  cases bb <;> exact hb

/-- what a loop's end is to the statement -/
noncomputable abbrev backK (env : Env) (K : Flow → Sem Fin) (H : Value → Sem Fin) (gd : Bool → Bool) (lv : List Value → List Value) (r : Result) : Sem Fin :=
  ((match r with | .ok f => (.pure f : Sem Flow) | .error e => .raise e).onRaise fun (x : Value) => do
    if (← field x 1) == Value.none then unsupported "frame.own-activation:exception-without-traceback"
    setFlight x env.frame).wrap K H gd lv

theorem seg_For {target iter : Expr} {body orelse : List Stmt} {pos : Pos}
    (h : wpAny (model prog w) (A.over c fs) (eval iter env) (fun x s₁ => wpAny (model prog w) (A.over c fs) (pyIter x) (fun it s₂ =>
        ∀ p, Seg (model prog w) A R Y n s₀ (.forLoop target it body orelse env) ((model prog w).den (.forLoop target it body orelse env)) (.ret (backK env K H gd lv) none (gd false) (lv []) c p [] :: fs) s₂)
        (fun x s' => Seg (model prog w) A R Y n s₀ c (H x) fs s') s₁) (fun x s' => Seg (model prog w) A R Y n s₀ c (H x) fs s') s)
    (hs : ∀ x, foldedSetIterable iter env x = pure x) :
    Seg (model prog w) A R Y n s₀ c ((exec (.For target iter body orelse pos) env).wrap K H gd lv) fs s := by
  rw [exec_For]
  refine seg_bind_wrap (wpAny_standAt ?_)
  refine seg_bind_wrap (wpAny_mono h (fun x s₁ h₁ => ?_) fun _ _ e => e)
  refine seg_bind_wrap (wpAny_of_eq (hs x) ?_)
  refine seg_bind_wrap (wpAny_standAt ?_)
  refine seg_bind_wrap (wpAny_holding (wpAny_mono h₁ (fun it s₂ h₂ => ?_) fun _ _ e => e))
  exact seg_call h₂

/-- the exception is noted in the loop's frame -/
noncomputable abbrev noteH (env : Env) (e : Value) : Sem Fin := (do noteFrame e env; theTreesLotGoes e : Sem Unit).wrap (fun _ => .raise e) .raise id id
noncomputable abbrev loopK (target : Expr) (it : Value) (body orelse : List Stmt) (env : Env) (f : Flow) : Sem Fin := match f with
  | .next | .cont => .pure (.again (.forLoop target it body orelse env))
  | .brk => .pure (.done .next)
  | .ret v => .pure (.done (.ret v))

theorem seg_forLoop {target : Expr} {it : Value} {body orelse : List Stmt}
    (h : wpAny (model prog w) (A.over (.forLoop target it body orelse env) fs) (pyNext it) (fun r s₁ => match r with
      | none => Seg (model prog w) A R Y n s₀ (.forLoop target it body orelse env) (.pure (.again (.block orelse env))) fs s₁
      | some v => wpAny (model prog w) (A.over (.forLoop target it body orelse env) fs) (assign target env v) (fun _ s₂ =>
          Seg (model prog w) A R Y n s₀ (.forLoop target it body orelse env) ((execs body env).wrap (loopK target it body orelse env) (noteH env) id id) fs s₂)
          (fun x s' => Seg (model prog w) A R Y n s₀ (.forLoop target it body orelse env) (noteH env x) fs s') s₁)
      (fun x s' => Seg (model prog w) A R Y n s₀ (.forLoop target it body orelse env) (noteH env x) fs s') s)
    (ht : ∀ v, letOwnedTupleGo target it v = pure () := by intro _; rfl) :
    Seg (model prog w) A R Y n s₀ (.forLoop target it body orelse env) ((model prog w).den (.forLoop target it body orelse env)) fs s := by
  show Seg (model prog w) A R Y n s₀ _ ((forTurn target it body orelse env).onRaise (fun x => do noteFrame x env; theTreesLotGoes x)) fs s
  unfold forTurn
  rw [Sem.onRaise_eq_wrap]
  rw [show (fun e => ((do noteFrame e env; theTreesLotGoes e : Sem Unit).bind fun _ => (.raise e : Sem Fin))) = noteH env from funext fun e => Sem.bind_eq_wrap _ _]
  refine seg_bind_wrap (wpAny_standAt ?_)
  refine seg_bind_wrap (wpAny_onRaise (wpAny_mono h (fun r s₁ h₁ => ?_) fun x s₁ h₁ => wpAny_standAt h₁))
  cases r with
  | none => exact h₁
  | some v =>
    refine seg_bind_wrap (wpAny_of_eq (ht v) ?_)
    refine seg_bind_wrap (wpAny_mono h₁ (fun _ s₂ h₂ => ?_) fun _ _ e => e)
    rw [Sem.bind_eq_wrap', Sem.wrap_wrap]
    refine cast ?_ h₂
    congr 1
    refine Sem.wrap_congr _ _ _ (fun f => ?_) (fun e => rfl)
    cases f <;> rfl

theorem seg_block_nil (h : Seg (model prog w) A R Y n s₀ (.block [] env) (.pure (.done .next)) fs s) :
    Seg (model prog w) A R Y n s₀ c (.pure (.again (.block [] env))) fs s := by
  refine seg_again rfl ?_
  show Seg (model prog w) A R Y n s₀ _ (((execs [] env).onRaise _) >>= _) fs s
  exact h
end
end Mine
end
section
open PySem PySem.W PySem.Calls PyProof.Rows
namespace Mine

section
variable {A : Around} {env : Env} {k : Nat}

theorem pushEnvs_ok {l l' : List Env} : pushEnvs l (some l') = some (l ++ l') := by
  cases l <;> rfl

/-- the generator's own body -/
theorem aok_func (a : AOk (k + 1) A) {body : List Stmt} : AOk k (A.over (.func body env) []) := by
  obtain ⟨l, hl⟩ := a.frames
  refine ⟨a.handled, ?_, ?_, ⟨env :: l, ?_⟩⟩
  · have := a.depth; show A.depth + 0 + 1 + k < _; omega
  · have := a.units; show A.units + 0 + 3 + 4 * k + 100 < _; omega
  · show pushEnvs [env] (pushEnvs [] A.frames) = _
    rw [hl]; rfl
theorem aok_for (a : AOk (k + 1) A) {body : List Stmt} {t : Expr} {it : Value} {b o : List Stmt} {K : Result → Sem Fin} {g : Bool} {l : List Value} {p : Pos} : AOk k (A.over (.forLoop t it b o env) [.ret K none g l (.func body env) p []]) := by
  obtain ⟨l, hl⟩ := a.frames
  refine ⟨a.handled, ?_, ?_, ⟨env :: l, ?_⟩⟩
  · have := a.depth; show A.depth + 1 + 0 + k < _; omega
  · have := a.units; show A.units + 3 + 0 + 4 * k + 100 < _; omega
  · show pushEnvs [] (pushEnvs [env] A.frames) = _
    rw [hl]; rfl
theorem aok_while (a : AOk (k + 1) A) {body : List Stmt} {t t' : Expr} {it : Value} {b o b' o' : List Stmt} {K K' : Result → Sem Fin} {g g' : Bool} {l l' : List Value} {p p' : Pos} :
    AOk k (A.over (.whileLoop t' b' o' env) [.ret K' none g' l' (.forLoop t it b o env) p' [], .ret K none g l (.func body env) p []]) := by
  obtain ⟨l, hl⟩ := a.frames
  refine ⟨a.handled, ?_, ?_, ⟨env :: l, ?_⟩⟩
  · have := a.depth; show A.depth + 1 + 0 + k < _; omega
  · have := a.units; show A.units + 3 + 0 + 4 * k + 100 < _; omega
  · show pushEnvs [] (pushEnvs [env] A.frames) = _
    rw [hl]; rfl
end
end Mine
end
section
open PySem PySem.W PySem.Calls PyProof.Rows
namespace Mine

/-- what is told: at most n further sizes -/
noncomputable def toldL : Nat → Int → List Int → List Int
  | 0, _, _ => []
  | _ + 1, _, [] => []
  | n + 1, last, x :: xs => if x = 127 then [] else if x = 0 then List.replicate (n + 1) last else x :: toldL n x xs

theorem toldL_len : ∀ (n : Nat) (last : Int) (xs : List Int), (toldL n last xs).length ≤ n
  | 0, _, _ => Nat.le_refl _
  | _ + 1, _, [] => Nat.zero_le _
  | n + 1, last, x :: xs => by
    unfold toldL
    split
    · exact Nat.zero_le _
    · split
      · simp
      · have := toldL_len n x xs
        simp; omega

/-- what the generator turns: its own frame, and what is new -/
noncomputable def GenRel (B₀ C : Addr) (s₀ s : Shared) : Prop := ∃ h tk, s = { s₀ with heap := h, toks := tk } ∧ ∀ b o, b < B₀ → b ≠ C → s₀.heap.get? b = some o → h.get? b = some o
theorem GenRel.refl {B₀ C : Addr} (s : Shared) : GenRel B₀ C s s := ⟨s.heap, s.toks, rfl, fun _ _ _ _ e => e⟩
theorem GenRel.step {B₀ C : Addr} {s₀ s s' : Shared} (x : GenRel B₀ C s₀ s) (h : ∃ h tk, s' = { s with heap := h, toks := tk }) (k : ∀ b o, b < B₀ → b ≠ C → s.heap.get? b = some o → s'.heap.get? b = some o) : GenRel B₀ C s₀ s' := by
  obtain ⟨h₁, tk₁, rfl, k₁⟩ := x
  obtain ⟨h₂, tk₂, rfl⟩ := h
  exact ⟨h₂, tk₂, rfl, fun b o hb hc e => k b o hb hc (k₁ b o hb hc e)⟩
theorem GenRel.kp {B₀ C : Addr} {s₀ s s' : Shared} (x : GenRel B₀ C s₀ s) (k : Kp s s') : GenRel B₀ C s₀ s' := by
  obtain ⟨h₂, tk₂, rfl, k⟩ := k
  exact x.step ⟨h₂, tk₂, rfl⟩ fun b o _ _ e => k b o e

/-- how the generator speaks with who calls it: D and L are the caller's own -/
noncomputable def gY (B₀ C D L : Addr) (out : List Int) : Protocol := fun j s₀ v s kap =>
  (∃ t, v = .int (out.getD (out.length - 1 - j) 0) t) ∧ GenRel B₀ C s₀ s ∧
    ((out.length < 6 ∨ j ≠ 0) → ∀ s'' : Shared, (∀ b o, b ≠ D → b ≠ L → s.heap.get? b = some o → s''.heap.get? b = some o) → kap (.send .none) s'')
noncomputable def gR (B₀ C : Addr) : GenEnd := fun n s₀ r s => r = .ok (.ret .none) ∧ n = 0 ∧ GenRel B₀ C s₀ s

noncomputable def optV : Option Int → PV
  | none => .none
  | some i => .int i

structure GS (hB : Heap) (C I l : Addr) (vals : Array Value) (i : Nat) (last : Option Int) (s : Shared) : Prop where
  up : Up hB s.heap
  ns : ∃ ml, s.heap.Ns C ml ∧ ml "grouping" = some (.ref l) ∧ ∃ v, ml "last_interval" = some v ∧ VR s.heap v (optV last)
  it : s.heap.IsListIter I l i ∧ s.heap.IsList l vals

theorem VR.optV {h h' : Heap} {v : Value} {o : Option Int} (x : VR h v (Mine.optV o)) : VR h' v (Mine.optV o) := by
  cases o <;> exact x

theorem GS.kp {hB : Heap} {C I l : Addr} {vals : Array Value} {i : Nat} {last : Option Int} {s s' : Shared} (x : GS hB C I l vals i last s) (k : ∀ b o, s.heap.get? b = some o → s'.heap.get? b = some o) : GS hB C I l vals i last s' := by
  obtain ⟨ml, hn, h1, v, h2, h3⟩ := x.ns
  exact ⟨fun b o e => k b o (x.up b o e), ⟨ml, hn.keeps k, h1, v, h2, h3.optV⟩, x.it.1.at fun o e => k _ o e, isList_seq x.it.2 (.of k)⟩
theorem GS.but {hB : Heap} {C I l D L : Addr} {vals : Array Value} {i : Nat} {last : Option Int} {s s' : Shared} (x : GS hB C I l vals i last s) (hD : hB.get? D = none) (hL : hB.get? L = none)
    (hC : C ≠ D ∧ C ≠ L) (hI : I ≠ D ∧ I ≠ L) (hl : l ≠ D ∧ l ≠ L) (k : ∀ b o, b ≠ D → b ≠ L → s.heap.get? b = some o → s'.heap.get? b = some o) : GS hB C I l vals i last s' := by
  obtain ⟨ml, hn, h1, v, h2, h3⟩ := x.ns
  refine ⟨fun b o e => k b o (fun q => by subst q; rw [hD] at e; cases e) (fun q => by subst q; rw [hL] at e; cases e) (x.up b o e), ⟨ml, hn.at' fun o e => k _ o hC.1 hC.2 e, h1, v, h2, h3.optV⟩, x.it.1.at fun o e => k _ o hI.1 hI.2 e, x.it.2.at fun o e => k _ o hl.1 hl.2 e⟩

section
variable {prog : Program} {w : World} {hB : Heap} {k : Nat} {sc : Scope} {ns : List Str}
variable {mg mb : Str → Option Value} {defs : List DefItem} {names : List Str}

theorem E_glob (g : Gd hB mg mb defs names) {x : Str} {i : Int} {p : Pos} (hx : sc.names.lookup x = some .globalImplicit) (hp : plainName x = true) (hm : ∃ t, mg x = some (.int i t)) :
    EOk prog w hB k sc ns (.Name x p) (fun _ => some (.int i)) := by
  intro A env s m p Q E a eo up r hF h
  cases hF
  obtain ⟨t, hm⟩ := hm
  exact g.lookG eo up hx hm hp (h _ s (Kp.refl s) ⟨t, rfl⟩)

noncomputable abbrev yS (x : Str) (p1 p2 p3 : Pos) : Stmt := .Expr (.Yield (some (.Name x p1)) p2) p3
noncomputable abbrev gWhile (p1 p2 p3 p4 p5 : Pos) (c1 : Nat) : Stmt := .While (.Constant (.bool true) c1 p1) [yS "last_interval" p2 p3 p4] [] p5
noncomputable abbrev gRaise (p1 p2 p3 p4 p5 p6 p7 p8 : Pos) (c1 c2 : Nat) : Stmt :=
  .If (.Compare (.Name "last_interval" p1) [.Is] [.Constant .none c1 p2] p3) [.Raise (some (.Call (.Name "ValueError" p4) [.Constant (.str "invalid grouping") c2 p5] [] p6)) none p7] [] p8
end
end Mine
end
section
open PySem PySem.W PySem.Calls PyProof.Rows
namespace Mine

section
variable {prog : Program} {w : World} {hB : Heap} {k : Nat} {sc : Scope} {ns : List Str}
variable {mg mb : Str → Option Value} {defs : List DefItem} {names : List Str}

/-- the generator's names -/
noncomputable abbrev gNs : List Str := ["grouping", "last_interval", "interval"]
structure GenOk (sc : Scope) (env : Env) : Prop where
  eo : EnvOk sc env
  kg : env.kindOf "grouping" = some .local
  kl : env.kindOf "last_interval" = some .local
  ki : env.kindOf "interval" = some .local
  co : env.scope.isCoroutine = false
  gcm : sc.names.lookup ("CHAR_MAX" : Str) = some .globalImplicit
  gve : sc.names.lookup ("ValueError" : Str) = some .globalImplicit

theorem GenOk.int_ {sc : Scope} {env : Env} (o : GenOk sc env) : interactive env = false := by
  unfold interactive
  rw [o.eo.scope, o.eo.kind]
  rfl
theorem GenOk.plain {sc : Scope} {env : Env} (o : GenOk sc env) : (env.scope.kind == .class || (env.scope.kind == .module && env.locals != env.globals)) = false := by
  rw [o.eo.scope, o.eo.kind]; rfl

theorem getD_drop {out : List Int} {r : Nat} {y : Int} {ys : List Int} (h : out.drop (out.length - (r + 1)) = y :: ys) (hr : r + 1 ≤ out.length) : out.getD (out.length - 1 - r) 0 = y ∧ out.drop (out.length - r) = ys := by
  have e1 : out.length - 1 - r = out.length - (r + 1) := by omega
  have hlt : out.length - (r + 1) < out.length := by omega
  rw [List.drop_eq_getElem_cons hlt] at h
  obtain ⟨h1, h2⟩ := List.cons.inj h
  refine ⟨?_, ?_⟩
  · rw [e1, List.getD, List.getElem?_eq_getElem hlt]; exact h1
  · rw [← h2]; congr 1; omega

theorem gen_while {A : Around} {env : Env} {B₀ I l D L : Addr} {vals : Array Value} {out : List Int} {i : Nat} {x : Int} {p1 p2 p3 p4 : Pos} {c1 : Nat} {K' K : Result → Sem Fin} {g g' : Bool} {l₁ l₂ : List Value} {t : Expr} {it : Value} {b : List Stmt} {body : List Stmt} {q q' : Pos}
    (a : AOk (k + 1) A) (o : GenOk sc env) (hg : g = false) (hg' : g' = false)
    (hD : hB.get? D = none) (hL : hB.get? L = none) (hC : env.locals ≠ D ∧ env.locals ≠ L) (hI : I ≠ D ∧ I ≠ L) (hl : l ≠ D ∧ l ≠ L) (h6 : out.length = 6) :
    ∀ (r : Nat) (s₀ s : Shared), 1 ≤ r → GS hB env.locals I l vals i (some x) s → GenRel B₀ env.locals s₀ s → out.drop (out.length - r) = List.replicate r x → r ≤ out.length →
    Seg (model prog w) A (gR B₀ env.locals) (gY B₀ env.locals D L out) r s₀ (.whileLoop (.Constant (.bool true) c1 p1) [yS "last_interval" p2 p3 p4] [] env)
      ((model prog w).den (.whileLoop (.Constant (.bool true) c1 p1) [yS "last_interval" p2 p3 p4] [] env)) [.ret K' none g' l₂ (.forLoop t it b [] env) q' [], .ret K none g l₁ (.func body env) q []] s := by
  intro r
  induction r with
  | zero => intro s₀ s h; omega
  | succ r ih =>
    intro s₀ s _ G rel hout hr
    have a' : AOk k (A.over (.whileLoop (.Constant (.bool true) c1 p1) [yS "last_interval" p2 p3 p4] [] env) [.ret K' none g' l₂ (.forLoop t it b [] env) q' [], .ret K none g l₁ (.func body env) q []]) := aok_while a
    subst hg hg'
    refine seg_whileLoop (wpAny_isTrue_value (Constant_bool (wpAny_truthy_bool ?_)) rfl)
    rw [if_pos rfl]
    rw [execs_cons_wrap]
    obtain ⟨ml, hn, hgr, v, hv, vr⟩ := G.ns
    obtain ⟨tv, rfl⟩ := vr
    refine seg_Expr_Yield rfl rfl rfl ?_ o.co o.int_
    refine wpAny_Name (wpAny_loadName_local (by rw [o.eo.scope]; exact o.eo.kind) o.kl hn hv ?_) (by decide)
    intro kap hk
    rw [List.replicate_succ] at hout
    obtain ⟨e1, e2⟩ := getD_drop hout hr
    refine ⟨⟨tv, by rw [e1]⟩, rel, fun hd s'' hs => hk _ _ ?_⟩
    have hr1 : 1 ≤ r := by
      rcases hd with hd | hd <;> omega
    show Seg (model prog w) A _ _ r s'' _ ((execs [] env).wrap _ _ id id) _ s''
    exact seg_again rfl (ih s'' s'' hr1 (G.but hD hL hC hI hl hs) (GenRel.refl _) e2 (by omega))
end
end Mine
end
section
open PySem PySem.W PySem.Calls PyProof.Rows
namespace Mine

structure GP where
  (a1 a2 a3 a4 a5 : Pos)
  (b1 b2 b3 b4 : Pos)
  (d1 d2 d3 e1 e2 e3 : Pos)
  (r1 r2 r3 r4 r5 r6 r7 r8 : Pos)
  (w1 w2 w3 w4 w5 : Pos)
  (c1 c2 c3 c4 : Nat)
noncomputable abbrev gZero (P : GP) : List Stmt := [gRaise P.r1 P.r2 P.r3 P.r4 P.r5 P.r6 P.r7 P.r8 P.c1 P.c2, gWhile P.w1 P.w2 P.w3 P.w4 P.w5 P.c3]
noncomputable abbrev gBody (P : GP) : List Stmt :=
  [.If (.Compare (.Name "interval" P.a1) [.Eq] [.Name "CHAR_MAX" P.a2] P.a3) [.Return none P.a4] [] P.a5,
   .If (.Compare (.Name "interval" P.b1) [.Eq] [.Constant (.int 0) P.c4 P.b2] P.b3) (gZero P) [] P.b4,
   yS "interval" P.d1 P.d2 P.d3,
   .Assign [.Name "last_interval" P.e1] (.Name "interval" P.e2) P.e3]

section
variable {prog : Program} {w : World} {hB : Heap} {k : Nat} {sc : Scope} {ns : List Str}
variable {mg mb : Str → Option Value} {defs : List DefItem} {names : List Str}

theorem T_same {a b : Str} (P : a = b) : a = b := P

theorem gen_for (gd : Gd hB mg mb defs names) {A : Around} {env : Env} {B₀ I l D L : Addr} {vals : Array Value} {zs out : List Int} {P : GP} {K : Result → Sem Fin} {g : Bool} {l₁ : List Value} {px : Pos} {body : List Stmt} {q : Pos}
    (a : AOk (k + 1) A) (o : GenOk sc env) (hg : g = false) (hcm : ∃ t, mg "CHAR_MAX" = some (.int 127 t))
    (hD : hB.get? D = none) (hL : hB.get? L = none) (hC : env.locals ≠ D ∧ env.locals ≠ L) (hI : I ≠ D ∧ I ≠ L) (hl : l ≠ D ∧ l ≠ L) (hlI : l ≠ I) (hCI : env.locals ≠ I) (hIB : B₀ ≤ I) (hBI : hB.get? I = none) (hBC : hB.get? env.locals = none)
    (hv : IntsAre vals.toList zs) (hKn : K (.ok .next) = .pure (.done (.ret .none))) (hKr : K (.ok (.ret .none)) = .pure (.done (.ret .none))) :
    ∀ (r i n : Nat) (last : Option Int) (s₀ s : Shared), 1 ≤ r → r ≤ 6 → i ≤ zs.length → GS hB env.locals I l vals i last s → GenRel B₀ env.locals s₀ s → (last = none → zs.getD i 1 ≠ 0) →
      toldL r (last.getD 0) (zs.drop i) = out.drop (out.length - n) → n = (toldL r (last.getD 0) (zs.drop i)).length → out.length = 6 - r + n →
    Seg (model prog w) A (gR B₀ env.locals) (gY B₀ env.locals D L out) n s₀ (.forLoop (.Name "interval" px) (.ref I) (gBody P) [] env)
      ((model prog w).den (.forLoop (.Name "interval" px) (.ref I) (gBody P) [] env)) [.ret K none g l₁ (.func body env) q []] s := by
  intro r
  induction r with
  | zero => intro i n last s₀ s h; omega
  | succ r ih =>
    intro i n last s₀ s _ hr6 hil G rel hlast hout hn hN
    have a' : AOk k (A.over (.forLoop (.Name "interval" px) (.ref I) (gBody P) [] env) [.ret K none g l₁ (.func body env) q []]) := aok_for a
    generalize hA' : A.over (.forLoop (.Name "interval" px) (.ref I) (gBody P) [] env) [.ret K none g l₁ (.func body env) q []] = A' at a'
    have hlen : vals.size = zs.length := by have := hv.length; simpa using this
    have W := Walks.list (prog := prog) (w := w) (A := A') a'.handled I l hlI vals
    have hkind : env.scope.kind = .function := by rw [o.eo.scope]; exact o.eo.kind
    refine seg_forLoop ?_
    rw [hA']
    by_cases hi : i < vals.size
    · refine W.item i s _ _ hi G.it fun v h₁ tk₁ hPv st₁ hk₁ => ?_
      obtain ⟨t, rfl⟩ := at_int hv hPv
      have hdi : zs.drop i = zs.getD i 0 :: zs.drop (i + 1) := by
        rw [List.drop_eq_getElem_cons (by omega), List.getD, List.getElem?_eq_getElem (by omega)]; rfl
      have hx0 : zs.getD i 1 = zs.getD i 0 := by
        rw [List.getD, List.getD, List.getElem?_eq_getElem (by omega)]; rfl
      rw [hx0] at hlast
      generalize zs.getD i 0 = x at hdi hlast
      rw [hdi] at hout hn
      obtain ⟨ml, hns, hgr, v, hvl, vr⟩ := G.ns
      refine wpAny_assign_Name (wpAny_storeName_local o.ki (hns.at' fun b e => hk₁ _ _ (by simpa using hCI) e) (fun h₂ hn₂ hs₂ => ?_) o.plain)
      have up₂ : ∀ b ob, b ≠ env.locals → b ≠ I → s.heap.get? b = some ob → h₂.get? b = some ob := fun b ob h1 h2 e => hs₂.extBut b ob h1 (hk₁ b ob (by simpa using h2) e)
      have hup₂ : Up hB h₂ := fun b ob e => up₂ b ob (fun q => by subst q; rw [hBC] at e; cases e) (fun q => by subst q; rw [hBI] at e; cases e) (G.up b ob e)
      have hlC : l ≠ env.locals := fun q => by
        obtain ⟨oL, hoL, _, nn, hdL⟩ := G.it.2
        obtain ⟨es, ep, hd⟩ := ns_notSeq hns (show s.heap.get? env.locals = some oL from q ▸ hoL)
        rw [hd] at hdL; cases hdL
      have hit₂ : h₂.IsListIter I l (i + 1) ∧ h₂.IsList l vals := ⟨st₁.1.at fun ob e => hs₂.extBut _ ob (Ne.symm hCI) e, st₁.2.at fun ob e => hs₂.extBut _ ob hlC e⟩
      have rel₂ : GenRel B₀ env.locals s₀ { s with heap := h₂, toks := tk₁ + 1 } := rel.step ⟨_, _, rfl⟩ fun b ob hb hc e => up₂ b ob hc (fun q => absurd hb (by rw [q]; exact Nat.not_lt.mpr hIB)) e
      have hrdi : ∀ s' : Shared, (∀ b ob, h₂.get? b = some ob → s'.heap.get? b = some ob) → Rd env gNs [.undef, .undef, .int x] s'.heap := by
        intro s' ku j p hp hpu
        match j, hp with
        | 0, hp => cases hp; exact absurd rfl hpu
        | 1, hp => cases hp; exact absurd rfl hpu
        | 2, hp =>
          cases hp
          exact ⟨"interval", .int x t, rfl, .inl ⟨o.ki, _, hn₂.keeps ku, by simp⟩, ⟨t, rfl⟩⟩
        | j + 3, hp => cases hp
      have Tcm : TOk prog w hB k sc gNs (.Compare (.Name "interval" P.a1) [.Eq] [.Name "CHAR_MAX" P.a2] P.a3) (cmpF .Eq (fun m => PV.get? m 2) (fun _ => some (.int 127))) :=
        T_cmp (E_name 2 rfl rfl) (E_glob gd o.gcm rfl hcm) rfl
      have T0 : TOk prog w hB k sc gNs (.Compare (.Name "interval" P.b1) [.Eq] [.Constant (.int 0) P.c4 P.b2] P.b3) (cmpF .Eq (fun m => PV.get? m 2) (fun _ => some (.int 0))) :=
        T_cmp (E_name 2 rfl rfl) E_int rfl
      refine seg_st (wpAny_If ?_)
      rw [hA']
      refine Tcm A' env _ _ (x == 127) _ _ a' o.eo hup₂ (hrdi _ fun _ _ e => e) rfl fun s₃ k₃ => ?_
      by_cases h127 : x = 127
      · have : (x == 127) = true := by simp [h127]
        rw [this, if_pos rfl]
        refine wpAny_execs_cons (wpAny_Return_none ?_)
        show Seg (model prog w) A _ _ n s₀ _ (.pure (.done (.ret .none))) _ s₃
        refine seg_leaf (.ok (.ret .none)) ?_
        rw [hKr]
        refine seg_end (.ok (.ret .none)) ⟨rfl, ?_, rel₂.kp k₃⟩
        rw [hn]; unfold toldL; rw [if_pos h127]; rfl
      · have : (x == 127) = false := by simp [h127]
        rw [this, if_neg (by decide)]
        refine wpAny_execs_nil ?_
        dsimp only
        rw [execs_cons_wrap]
        refine seg_If ?_
        rw [hA']
        have ku₃ : ∀ b ob, h₂.get? b = some ob → s₃.heap.get? b = some ob := k₃.up
        refine T0 A' env s₃ _ (x == 0) _ _ a' o.eo (fun b ob e => ku₃ b ob (hup₂ b ob e)) (hrdi s₃ ku₃) rfl fun s₄ k₄ => ?_
        have ku₄ : ∀ b ob, h₂.get? b = some ob → s₄.heap.get? b = some ob := fun b ob e => k₄.up b ob (ku₃ b ob e)
        have rel₄ := (rel₂.kp k₃).kp k₄
        have hn₄ := hn₂.keeps ku₄
        have hgr' : (if ("grouping" : Str) = "interval" then some (Value.int x t) else ml "grouping") = some (.ref l) := by rw [if_neg (by decide)]; exact hgr
        have hvl' : (if ("last_interval" : Str) = "interval" then some (Value.int x t) else ml "last_interval") = some v := by rw [if_neg (by decide)]; exact hvl
        have G₄ : GS hB env.locals I l vals (i + 1) last s₄ := ⟨fun b ob e => ku₄ b ob (hup₂ b ob e), ⟨_, hn₄, hgr', v, hvl', vr.optV⟩, hit₂.1.at fun ob e => ku₄ _ ob e, isList_seq hit₂.2 (.of ku₄)⟩
        by_cases h0 : x = 0
        · have : (x == 0) = true := by simp [h0]
          rw [this, if_pos rfl]
          cases last with
          | none => exact absurd h0 (hlast rfl)
          | some y =>
            obtain ⟨ty, rfl⟩ := vr
            have hT : toldL (r + 1) ((some y : Option Int).getD 0) (x :: zs.drop (i + 1)) = List.replicate (r + 1) y := by
              show toldL (r + 1) y _ = _
              unfold toldL
              rw [if_neg h127, if_pos h0]
            rw [hT] at hout hn
            rw [List.length_replicate] at hn
            subst hn
            refine seg_st (wpAny_If ?_)
            rw [hA']
            refine wpAny_isTrue_Compare1 (wpAny_Name (wpAny_loadName_local hkind o.kl hn₄ hvl' (Constant_none (wpAny_is_other rfl nofun (wpAny_truthy_bool ?_)))) (by decide)) rfl
            rw [if_neg (by decide)]
            refine wpAny_execs_nil ?_
            dsimp only
            rw [execs_cons_wrap]
            refine seg_While fun p => ?_
            exact gen_while a o hg rfl hD hL hC hI hl (by omega) (r + 1) s₀ s₄ (by omega) G₄ rel₄ hout.symm (by omega)
        · have : (x == 0) = false := by simp [h0]
          rw [this, if_neg (by decide)]
          have hT : toldL (r + 1) (last.getD 0) (x :: zs.drop (i + 1)) = x :: toldL r x (zs.drop (i + 1)) := by
            rw [toldL, if_neg h127, if_neg h0]
          rw [hT] at hout hn
          rw [List.length_cons] at hn
          subst hn
          obtain ⟨e1, e2⟩ := getD_drop hout.symm (by omega)
          show Seg (model prog w) A _ _ _ s₀ _ ((execs (yS "interval" P.d1 P.d2 P.d3 :: [.Assign [.Name "last_interval" P.e1] (.Name "interval" P.e2) P.e3]) env).wrap _ _ id id) _ s₄
          rw [execs_cons_wrap]
          refine seg_Expr_Yield (by rw [hg]; rfl) rfl (by rw [hg]; rfl) ?_ o.co o.int_
          refine wpAny_Name (wpAny_loadName_local hkind o.ki hn₄ (v := .int x t) (by simp) ?_) (by decide)
          intro kap hk
          refine ⟨⟨t, by rw [e1]⟩, rel₄, fun hd s'' hs => hk _ _ ?_⟩
          have G₅ := G₄.but hD hL hC hI hl hs
          have hn₅ := hn₄.at' fun ob e => hs _ ob hC.1 hC.2 e
          refine seg_st (wpAny_Assign_Name (wpAny_Name (wpAny_loadName_local hkind o.ki hn₅ (v := .int x t) (by simp) ?_) (by decide)))
          refine wpAny_storeName_local o.kl hn₅ (fun h₆ hn₆ hs₆ => ?_) o.plain
          dsimp only
          have up₆ : ∀ b ob, b ≠ env.locals → s''.heap.get? b = some ob → h₆.get? b = some ob := fun b ob hb e => hs₆.extBut b ob hb e
          have hr1 : 1 ≤ r := by
            cases r with
            | zero =>
              have := toldL_len 0 x (zs.drop (i + 1))
              rcases hd with hd | hd <;> omega
            | succ r => omega
          refine seg_again rfl (ih (i + 1) _ (some x) s'' _ hr1 (by omega) (by omega) ⟨fun b ob e => up₆ b ob (fun q => by subst q; rw [hBC] at e; cases e) (G₅.up b ob e), ⟨_, hn₆, (by rw [if_neg (by decide), if_neg (by decide)]; exact hgr), .int x t, by simp, t, rfl⟩, G₅.it.1.at fun ob e => up₆ _ ob (Ne.symm hCI) e, G₅.it.2.at fun ob e => up₆ _ ob hlC e⟩ ⟨_, _, rfl, fun b ob _ hb e => up₆ b ob hb e⟩ nofun e2.symm rfl (by omega))
    · refine W.done s _ _ (by rw [show vals.size = i by omega]; exact G.it) fun h' tk hk' => ?_
      have hde : zs.drop i = [] := List.drop_eq_nil_of_le (by omega)
      rw [hde] at hn
      refine seg_block_nil (seg_leaf (.ok .next) ?_)
      rw [hKn]
      exact seg_end (.ok (.ret .none)) ⟨rfl, hn, rel.step ⟨_, _, rfl⟩ fun b ob hb hc e => hk' b ob (by simp; exact fun q => absurd hb (by rw [q]; exact Nat.not_lt.mpr hIB)) e⟩
end
end Mine
end
section
open PySem PySem.W PySem.Calls PyProof.Rows
namespace Mine

section
variable {prog : Program} {w : World} {A : Around} {E : Value → Shared → Prop} {s : Shared}

theorem sub_VE_stop : isSubtype (.type "ValueError") (.type "StopIteration") = pure false := by kernel_rfl

/-- the next item of a generator of the text's own -/
theorem next_gen {a : Addr} {g n : Nat} {gs : GenState} {P : Nat → Shared → Shared → Prop} {Y : Protocol} {Q : Option Value → Shared → Prop} (hh : A.handled = none)
    (hl : s.heap.NoLimit) (hroom : A.depth < recursionLimit)
    (hg : s.heap.IsGen a g) (hgs : s.gens[g]? = some gs)
    (hgo : gs.Goes (model prog w) A.in1 (fun n s₀ r s₁ => r = .ok (.ret .none) ∧ P n s₀ s₁) Y n (.send .none) (s.setGen g .running))
    (hY : ∀ v s₁ gs', gs'.bare = true → Y (n - 1) (s.setGen g .running) v s₁ (fun r' s'' => match n with
        | 0 => False
        | m + 1 => gs'.Goes (model prog w) A.in1 (fun n s₀ r s₁ => r = .ok (.ret .none) ∧ P n s₀ s₁) Y m r' s'') → Q (some v) (s₁.setGen g gs'))
    (hP : ∀ s₁, P n (s.setGen g .running) s₁ → ∀ h', (∀ b o, s₁.heap.get? b = some o → h'.get? b = some o) → Q none { s₁.setGen g .finished with heap := h' }) :
    wpAny (model prog w) A (pyNext (.ref a)) Q E s := by
  unfold pyNext
  refine wpAny_bind (wpAny_attempt (wpAny_callSpecial?_slot (name := Str.ofString "__next__") hg.typeIs slot_gen_next
    (wpAny_call_entry slot_gen_next hg.typeIs entry_gen_next ?_ (args_gen_next _))))
  show wpAny _ A.in1 (Builtin.Generator.genWake (.ref a) (.send .none)) _ _ s
  unfold Builtin.Generator.genWake
  refine wpAny_bind (wpAny_holding (wpAny_genNumber hg (wpAny_bind (wpAny_genState hgs ?_))))
  cases gs with
  | running => exact hgo.elim
  | finished => exact hgo.elim
  | _ =>
    refine wpAny_bind (wpAny_roomToWake hl hroom ?_)
    show wpAny _ A.in1 (.resume g (.send .none) [] _) _ _ s
    refine wpAny_resumeQ hgs hgo (fun x s₁ hx => ?_) (fun v s₁ gs' hb hv => ?_)
    · obtain ⟨rfl, hp⟩ := hx
      show wpAny _ A.in1 (newExc (.type "StopIteration") [] >>= _) _ _ _
      refine wpAny_bind ?_
      simp only [newExc, newTuple]
      refine wpAny_bind (wpAny_newObj_type ?_ (by size_fits))
      refine wpAny_bind (m := firstArgMember _ _) (wpAny_of_eq (a := Value.none) (by first | rfl | (simp only [firstArgMember]; rfl)) ?_)
      refine wpAny_newObj_type ?_ (by size_fits)
      simp only [raiseNew]
      refine wpAny_bind (wpAny_bind (wpAny_handled ?_))
      rw [show A.in1.handled = none from hh]
      refine wpAny_throw ?_
      refine wpAny_bind (wpAny_isInstance (T := "StopIteration") (b := true) ⟨_, Heap.get?_push_size _ rfl, rfl⟩ isSubtype_stop ?_)
      exact wpAny_pure (hP s₁ hp _ fun b o hb => Heap.get?_push_of_some _ (Heap.get?_push_of_some _ hb))
    · exact wpAny_pure ⟨v, rfl, wpAny_pure (hY v s₁ gs' hb hv)⟩

/-- a generator that raises at its first turn -/
theorem next_raise {a : Addr} {g : Nat} {gs : GenState} {P : Addr → Shared → Shared → Prop} {Q : Option Value → Shared → Prop}
    (hl : s.heap.NoLimit) (hroom : A.depth < recursionLimit)
    (hg : s.heap.IsGen a g) (hgs : s.gens[g]? = some gs)
    (hgo : gs.Goes (model prog w) A.in1 (fun _ s₀ r s₁ => ∃ e, r = .error (.ref e) ∧ s₁.TypeIs (.ref e) "ValueError" ∧ s₁.heap.IsGen a g ∧ P e s₀ s₁) (fun _ _ _ _ _ => False) 0 (.send .none) (s.setGen g .running))
    (hP : ∀ e s₁, P e (s.setGen g .running) s₁ → E (.ref e) (s₁.setGen g .finished)) :
    wpAny (model prog w) A (pyNext (.ref a)) Q E s := by
  unfold pyNext
  refine wpAny_bind (wpAny_attempt (wpAny_callSpecial?_slot (name := Str.ofString "__next__") hg.typeIs slot_gen_next
    (wpAny_call_entry slot_gen_next hg.typeIs entry_gen_next ?_ (args_gen_next _))))
  show wpAny _ A.in1 (Builtin.Generator.genWake (.ref a) (.send .none)) _ _ s
  unfold Builtin.Generator.genWake
  refine wpAny_bind (wpAny_holding (wpAny_genNumber hg (wpAny_bind (wpAny_genState hgs ?_))))
  cases gs with
  | running => exact hgo.elim
  | finished => exact hgo.elim
  | _ =>
    refine wpAny_bind (wpAny_roomToWake hl hroom ?_)
    show wpAny _ A.in1 (.resume g (.send .none) [] _) _ _ s
    refine wpAny_resumeQ hgs hgo (fun x s₁ hx => ?_) (fun v s₁ gs' hb hv => hv.elim)
    obtain ⟨e, rfl, hT, hG, hp⟩ := hx
    obtain ⟨oT, hoT, hcT⟩ := hT
    obtain ⟨oG, nm, qn, hoG, hcG, hdG, hsG⟩ := hG
    have hT' : (s₁.setGen g .finished).TypeIs (.ref e) "ValueError" := ⟨oT, hoT, hcT⟩
    show wpAny _ A.in1 (Builtin.Generator.genLeft (.ref a) (.ref e)) _ _ _
    unfold Builtin.Generator.genLeft Builtin.Generator.madeByALambda
    refine wpAny_bind (wpAny_bind (wpAny_load hoG (wpAny_pure ?_)))
    refine wpAny_bind (wpAny_isInstance hT' sub_VE_stop ?_)
    rw [hdG]
    rw [if_neg (by simp)]
    unfold Builtin.Generator.genEscaped
    refine wpAny_bind (wpAny_isInstance hT' sub_VE_stop ?_)
    rw [if_pos (by decide)]
    refine wpAny_bind (wpAny_throw ?_)
    refine wpAny_bind (wpAny_isInstance hT' sub_VE_stop ?_)
    rw [if_neg (by decide)]
    exact wpAny_throw (hP e s₁ hp)
end
end Mine
end
section
open PySem PySem.W PySem.Calls PyProof.Rows
namespace Mine

noncomputable abbrev gStart (P : GP) (s1 s2 s3 f1 f2 f3 : Pos) (c5 : Nat) : List Stmt :=
  [.Assign [.Name "last_interval" s1] (.Constant .none c5 s2) s3, .For (.Name "interval" f1) (.Name "grouping" f2) (gBody P) [] f3]

section
variable {prog : Program} {w : World} {hB : Heap} {k : Nat} {sc : Scope} {ns : List Str}
variable {mg mb : Str → Option Value} {defs : List DefItem} {names : List Str}

theorem gen_start (gd : Gd hB mg mb defs names) {A : Around} {env : Env} {B₀ l D L : Addr} {vals : Array Value} {zs out : List Int} {P : GP} {s1 s2 s3 f1 f2 f3 : Pos} {c5 : Nat} {ml : Str → Option Value} {s : Shared}
    (a : AOk (k + 1) A) (o : GenOk sc env) (hcm : ∃ t, mg "CHAR_MAX" = some (.int 127 t))
    (hD : hB.get? D = none) (hL : hB.get? L = none) (hC : env.locals ≠ D ∧ env.locals ≠ L) (hl : l ≠ D ∧ l ≠ L) (hBC : hB.get? env.locals = none)
    (hv : IntsAre vals.toList zs) (hout : out = toldL 6 0 zs) (h0 : zs.getD 0 1 ≠ 0) (hB₀ : B₀ ≤ s.heap.objs.size) (hDs : D < s.heap.objs.size) (hLs : L < s.heap.objs.size)
    (up : Up hB s.heap) (hn : s.heap.Ns env.locals ml) (hml : ml "grouping" = some (.ref l)) (hLl : s.heap.IsList l vals) :
    Seg (model prog w) A (gR B₀ env.locals) (gY B₀ env.locals D L out) out.length s (.func (gStart P s1 s2 s3 f1 f2 f3 c5) env) ((model prog w).den (.func (gStart P s1 s2 s3 f1 f2 f3 c5) env)) [] s := by
  have hkind : env.scope.kind = .function := by rw [o.eo.scope]; exact o.eo.kind
  refine seg_func ?_
  refine seg_st (wpAny_Assign_Name (Constant_none (wpAny_storeName_local o.kl hn (fun h₁ hn₁ hs₁ => ?_) o.plain)))
  dsimp only
  rw [execs_cons_wrap]
  have hgr : (if ("grouping" : Str) = "last_interval" then some Value.none else ml "grouping") = some (.ref l) := by rw [if_neg (by decide)]; exact hml
  have hlC : l ≠ env.locals := fun q => by
    obtain ⟨oL, hoL, _, nn, hdL⟩ := hLl
    obtain ⟨es, ep, hd⟩ := ns_notSeq hn (show s.heap.get? env.locals = some oL from q ▸ hoL)
    rw [hd] at hdL; cases hdL
  have hL₁ : h₁.IsList l vals := hLl.at fun ob e => hs₁.extBut _ ob hlC e
  have hlt : ∀ {b : Addr} {ob}, h₁.get? b = some ob → b < h₁.objs.size := fun e => Heap.lt_size e
  have hlI : l ≠ h₁.objs.size := Nat.ne_of_lt (let ⟨_, e, _⟩ := hL₁; hlt e)
  have hCI : env.locals ≠ h₁.objs.size := Nat.ne_of_lt (let ⟨_, _, _, e, _⟩ := hn₁; hlt e)
  have hup₁ : Up hB h₁ := fun b ob e => hs₁.extBut b ob (fun q => by subst q; rw [hBC] at e; cases e) (up b ob e)
  refine seg_For (wpAny_Name (wpAny_loadName_local hkind o.kg hn₁ hgr (wpAny_pyIter_list hL₁ fun p => ?_)) (by decide)) (fun x => rfl)
  have hBI : hB.get? h₁.objs.size = none := by
    cases q : hB.get? h₁.objs.size with
    | none => rfl
    | some ob => exact absurd (hlt (hup₁ _ _ q)) (Nat.lt_irrefl _)
  have kI : ∀ b ob, h₁.get? b = some ob → (h₁.push { cls := .type "list_iterator", data := .fields #[.ref l, .int 0 0] }).get? b = some ob := fun b ob e => Heap.get?_push_of_some _ e
  refine gen_for (K := backK env _ _ id id) gd a o rfl hcm hD hL hC ⟨?_, ?_⟩ hl hlI hCI ?_ hBI hBC hv rfl rfl 6 0 _ none s _ (by omega) (Nat.le_refl _) (Nat.zero_le _) ⟨fun b ob e => kI b ob (hup₁ b ob e), ⟨_, hn₁.keeps kI, hgr, .none, by simp, rfl⟩, ⟨_, Heap.get?_push_size _ rfl, rfl, rfl⟩, hL₁.push _⟩ ⟨_, _, rfl, fun b ob _ hb e => kI b ob (hs₁.extBut b ob hb e)⟩ (fun _ => h0) ?_ ?_ ?_
  · rw [hs₁.1]; exact Nat.ne_of_gt hDs
  · rw [hs₁.1]; exact Nat.ne_of_gt hLs
  · rw [hs₁.1]; exact hB₀
  · rw [Nat.sub_self, List.drop_zero, List.drop_zero, hout]; rfl
  · rw [List.drop_zero, hout]; rfl
  · omega
end
end Mine
end
section
open PySem PySem.W PySem.Calls PyProof.Rows
namespace Mine

section
variable {prog : Program} {w : World} {hB : Heap} {k : Nat} {sc : Scope} {ns : List Str}
variable {mg mb : Str → Option Value} {defs : List DefItem} {names : List Str}

/-- a generator is made -/
theorem call_gen (g : Gd hB mg mb defs names) {d : DefItem} {x : Str} {f : Addr} (hat : d.At mg hB) (hf : mg d.name = some (.ref f)) (hg : d.scope.isGenerator = true) (hco : d.scope.isCoroutine = false)
    (hk : d.scope.kind = .function) (hnc : ∀ y ∈ d.scope.names, y.2 ≠ .cell) (hx : d.scope.names.lookup x = some .local)
    (bind : ∀ pm cd doc v, bindArgs (docDef d.name d.params d.body d.scope pm cd doc) ⟨[v], []⟩ = pure [(x, v)])
    {A : Around} {s : Shared} {v : Value} {Q : Value → Shared → Prop} {E : Value → Shared → Prop} (a : AOk (k + 1) A) (up : Up hB s.heap)
    (h : ∀ env h' tk, env.scope = d.scope → env.locals = s.heap.objs.size → env.globals = mainGlobals → env.builtins = builtinsNs → env.frame = some env.locals →
      h'.Ns env.locals (fun y => if y = x then some v else none) → (∀ b o, s.heap.get? b = some o → h'.get? b = some o) → h'.objs.size = s.heap.objs.size + 2 → h'.IsGen (s.heap.objs.size + 1) s.gens.size →
      Q (.ref (s.heap.objs.size + 1)) { s with gens := s.gens.push (.fresh (.func d.body env)), toks := tk, heap := h' }) :
    wpAny (model prog w) A (call (.ref f) [v]) Q E s := by
  obtain ⟨f', c, P, o, pm, doc, h1, h2, h3, h4, h5⟩ := hat
  rw [hf] at h1; cases h1
  refine wpAny_call (codeAny_call_generator (fd := docDef d.name d.params d.body d.scope pm (.ref c) doc) (body := d.body) a.room (up _ _ h2) h3 hco hg rfl (h4.keeps up) ?_)
  rw [bind]
  refine wpAny_pure (wpAny_newFunctionEnv hnc (fun y hy => by simp at hy; subst hy; exact hx) (fun h' hn hs => ?_) hk)
  have ku : ∀ b o, s.heap.get? b = some o → h'.get? b = some o := fun b o e => hs.extBut b o (Nat.ne_of_lt (Heap.lt_size e)) (Heap.get?_push_of_some _ e)
  refine ⟨g.lim.keeps fun b o e => ku b o (up b o e), ?_⟩
  have hsz : h'.objs.size = s.heap.objs.size + 1 := by rw [hs.1, Heap.size_push]
  have e : (fun y : Str => ([(x, v)] : List (Str × Value)).reverse.lookup y) = fun y : Str => if y = x then some v else none := by
    funext y
    by_cases hy : y = x
    · subst hy; simp
    · have : (y == x) = false := by simpa using hy
      simp [List.lookup, this, hy]
  rw [e] at hn
  have ku' : ∀ b o, h'.get? b = some o → (h'.push { cls := .type "generator", data := .fields #[.int s.gens.size 0, .str d.name (s.toks + 1), .str d.name (s.toks + 1 + 1)] }).get? b = some o := fun b o e => Heap.get?_push_of_some _ e
  have key := h (newEnv d.scope s.heap.objs.size mainGlobals [] (d.name ++ ".<locals>.") (some f) (.ref c) none builtinsNs) (h'.push { cls := .type "generator", data := .fields #[.int s.gens.size 0, .str d.name (s.toks + 1), .str d.name (s.toks + 1 + 1)] }) (s.toks + 1 + 1 + 1)
    rfl rfl rfl rfl rfl (hn.keeps ku') (fun b o e => ku' b o (ku b o e)) (by rw [Heap.size_push, hsz]) ⟨_, _, _, (by rw [← hsz]; exact Heap.get?_push_size _ rfl), rfl, rfl, rfl⟩
  show Q (.ref h'.objs.size) _
  rw [hsz]
  exact key
end
end Mine
end
section
open PySem PySem.W PySem.Calls PyProof.Rows
namespace Mine

section
variable {prog : Program} {w : World} {hB : Heap} {gm : Bool} {k : Nat} {sc : Scope} {ns : List Str}
variable {mg mb : Str → Option Value} {defs : List DefItem} {names : List Str}

/-- a def is called: what its body does is left open -/
theorem call_rawC (g : Gd hB mg mb defs names) {d : DefItem} {pn rest : List Str} {f : Addr} (hat : d.At mg hB) (hf : mg d.name = some (.ref f)) (ok : DefOk d pn rest)
    {A : Around} {s : Shared} {vs : List Value} {ps : List PV} {Q : Value → Shared → Prop} {E : Value → Shared → Prop} (a : AOk (k + 1) A) (up : Up hB s.heap) (hl : vs.length = ps.length)
    (hv : ∀ (i : Nat) (v : Value) (q : PV), vs[i]? = some v → ps[i]? = some q → VR s.heap v q) (hlen : ps.length = pn.length)
    (hb : ∀ env s₁, EnvOk d.scope env → EnvS s (pn ++ rest) env → env.frame = some env.locals → env.locals = s.heap.objs.size →
      StR gm s env (pn ++ rest) (vs ++ List.replicate rest.length .none) (ps.map PV.arg ++ List.replicate rest.length .undef) s₁ →
      ∃ E', wpAny (model prog w) (A.deeper env) (execs d.body env) (fun fl s' => ∃ v, fl = .ret v ∧ Q v s') E' s₁ ∧ (∀ e s', ¬ E' e s')) :
    codeAny (model prog w) A (.call (.ref f) ⟨vs, []⟩) (fun r s' => match r with | .ok (.ret v) => Q v s' | .ok _ => False | .error e => E e s') s := by
  obtain ⟨f', c, P, o, pm, doc, h1, h2, h3, h4, h5⟩ := hat
  rw [hf] at h1; cases h1
  have hvl : vs.length = pn.length := hl.trans hlen
  have hbn : (pn.zip vs).map (·.1) = pn := by rw [List.map_fst_zip (by omega)]
  refine (codeAny_call_cells (fd := docDef d.name d.params d.body d.scope pm (.ref c) doc) (body := d.body) a.room (up _ _ h2) h3 (g.lim.keeps up) (h4.keeps up) rfl (ok.bind pm (.ref c) doc vs hvl) rfl ?_ (fun s₁ x => ?_) ok.co ok.gen ok.kind)
  · intro x hx
    have hm : x.1 ∈ pn := (List.of_mem_zip hx).1
    rcases ok.kinds x.1 (List.mem_append_left _ hm) with h | h
    · exact .inl h
    · refine .inr ⟨h, ?_⟩
      obtain ⟨c', hc'⟩ := cellsFrom_has d.scope.names (s.heap.objs.size + 1) [] x.1 (.inl (lookup_mem' h))
      obtain ⟨c'', e⟩ := lookup_of_mem hc'
      show (List.lookup x.1 (cellsFrom (s.heap.objs.size + 1) d.scope.names [])).isSome = true
      rw [e]; rfl
  · generalize henv : callEnvC (docDef d.name d.params d.body d.scope pm (.ref c) doc) s.heap.objs.size f = env at x
    have e1 : env.scope = d.scope := by rw [← henv]; rfl
    have e2 : env.locals = s.heap.objs.size := by rw [← henv]; rfl
    have e3 : env.cells = cellsFrom (s.heap.objs.size + 1) d.scope.names [] := by rw [← henv]; rfl
    have e4 : env.globals = mainGlobals := by rw [← henv]; rfl
    have e5 : env.builtins = builtinsNs := by rw [← henv]; rfl
    have hfr : env.frame = some env.locals := by rw [← henv]; rfl
    have hcs : ∀ n, d.scope.names.lookup n = some .cell → ∃ c, env.cells.lookup n = some c := fun n hn => by
      obtain ⟨c', hc'⟩ := cellsFrom_has d.scope.names (s.heap.objs.size + 1) [] n (.inl (lookup_mem' hn))
      rw [e3]; exact lookup_of_mem hc'
    have eo : EnvOk d.scope env := ⟨e1, ok.kind, e4, e5, fun n hn => by
      rcases hn with hn | hn
      · obtain ⟨c', e⟩ := hcs n hn; rw [e]; rfl
      · exact absurd rfl (ok.nofree _ (lookup_mem' hn))⟩
    have ek : ∀ n, env.kindOf n = d.scope.names.lookup n := fun n => by unfold Env.kindOf; rw [e1]
    have es : EnvS s (pn ++ rest) env := ⟨ok.nodup, fun n hn => by rw [ek]; exact ok.kinds n hn, by rw [e2]; exact Nat.le_refl _, x.above, x.apart⟩
    have hpnd : pn.Nodup := (List.nodup_append.mp ok.nodup).1
    have hzip : ∀ (i : Nat) n, (pn ++ rest)[i]? = some n → (ps.map PV.arg ++ List.replicate rest.length PV.undef)[i]? ≠ some .undef → ∃ v, (pn.zip vs)[i]? = some (n, v) ∧ (vs ++ List.replicate rest.length Value.none)[i]? = some v := by
      intro i n hn hu
      by_cases hi : i < pn.length
      · rw [List.getElem?_append_left hi] at hn
        obtain ⟨v, hv'⟩ : ∃ v, vs[i]? = some v := ⟨_, List.getElem?_eq_getElem (by omega)⟩
        exact ⟨v, by rw [List.getElem?_zip_eq_some]; exact ⟨hn, hv'⟩, by rw [List.getElem?_append_left (by omega)]; exact hv'⟩
      · exfalso
        apply hu
        have hi2 : i < pn.length + rest.length := by have := (List.getElem?_eq_some_iff.mp hn).1; simpa using this
        rw [List.getElem?_append_right (by simp; omega), List.getElem?_replicate]
        simp; omega
    have x₀ : StR gm s env (pn ++ rest) (vs ++ List.replicate rest.length .none) (ps.map PV.arg ++ List.replicate rest.length .undef) s₁ := by
      refine ⟨by simp [hvl], by simp [hlen], x.toInCall.keep, ?_, ⟨_, x.toInCall.ns, ?_⟩, ?_, ?_, ?_, ?_, ?_⟩
      · obtain ⟨h', tk, rfl⟩ := x.toInCall.same
        exact GRel.of rfl rfl rfl
      · intro i n hn hkn hu
        obtain ⟨v, hz, hv'⟩ := hzip i n hn hu
        rw [hv']
        exact bindL_at _ _ (by rw [hbn]; exact hpnd) i n v hz hkn
      · intro i n hn hkn
        rw [ek] at hkn
        obtain ⟨c', hc'⟩ := hcs n hkn
        refine ⟨c', _, hc', x.cell n c' hc', fun hu => ?_⟩
        obtain ⟨v, hz, hv'⟩ := hzip i n hn hu
        rw [hv']
        exact bindC_at _ _ (by rw [hbn]; exact hpnd) i n v hz (by rw [ek, hkn]; nofun)
      · intro i q' v hq hv' hne
        by_cases hi : i < ps.length
        · rw [List.getElem?_append_left (by simpa using hi), List.getElem?_map] at hq
          obtain ⟨q₀, hq₀, rfl⟩ := Option.map_eq_some_iff.mp hq
          rw [List.getElem?_append_left (by omega)] at hv'
          exact (hv i v q₀ hv' hq₀).arg.keeps x.toInCall.keep
        · rw [List.getElem?_append_right (by simpa using hi), List.getElem?_replicate] at hq
          split at hq
          · cases hq; exact absurd rfl hne
          · cases hq
      · intro i xs b hq
        by_cases hi : i < ps.length
        · rw [List.getElem?_append_left (by simpa using hi), List.getElem?_map] at hq
          obtain ⟨q₀, hq₀, e⟩ := Option.map_eq_some_iff.mp hq
          cases q₀ <;> cases e
        · rw [List.getElem?_append_right (by simpa using hi), List.getElem?_replicate] at hq
          split at hq <;> cases hq
      · intro i xs b hq hvb
        by_cases hi : i < ps.length
        · rw [List.getElem?_append_left (by simpa using hi), List.getElem?_map] at hq
          obtain ⟨q₀, hq₀, e⟩ := Option.map_eq_some_iff.mp hq
          rw [List.getElem?_append_left (by omega)] at hvb
          exact (hv i _ q₀ hvb hq₀).ex rfl
        · rw [List.getElem?_append_right (by simpa using hi), List.getElem?_replicate] at hq
          split at hq <;> cases hq
      · intro i hq
        by_cases hi : i < ps.length
        · rw [List.getElem?_append_left (by simpa using hi), List.getElem?_map] at hq
          obtain ⟨q₀, hq₀, e⟩ := Option.map_eq_some_iff.mp hq
          have hvi : i < vs.length := by omega
          have := hv i vs[i] q₀ (List.getElem?_eq_getElem hvi) hq₀
          cases q₀ <;> first | cases e | skip
          exact this.elim
        · have hi2 := (List.getElem?_eq_some_iff.mp hq).1
          rw [List.getElem?_append_right (by omega), List.getElem?_replicate, if_pos (by simp at hi2; omega)]
    obtain ⟨E', hw, hE'⟩ := hb env s₁ eo es hfr e2 x₀
    refine wpAny_mono hw (fun fl s' hq => ?_) fun e s' he => (hE' e s' he).elim
    obtain ⟨v, rfl, hq⟩ := hq
    exact hq
theorem call_raw (g : Gd hB mg mb defs names) {d : DefItem} {pn rest : List Str} {f : Addr} (hat : d.At mg hB) (hf : mg d.name = some (.ref f)) (ok : DefOk d pn rest)
    {A : Around} {s : Shared} {vs : List Value} {ps : List PV} {Q : Value → Shared → Prop} {E : Value → Shared → Prop} (a : AOk (k + 1) A) (up : Up hB s.heap) (hl : vs.length = ps.length)
    (hv : ∀ (i : Nat) (v : Value) (q : PV), vs[i]? = some v → ps[i]? = some q → VR s.heap v q) (hlen : ps.length = pn.length)
    (hb : ∀ env s₁, EnvOk d.scope env → EnvS s (pn ++ rest) env → env.frame = some env.locals → env.locals = s.heap.objs.size →
      StR gm s env (pn ++ rest) (vs ++ List.replicate rest.length .none) (ps.map PV.arg ++ List.replicate rest.length .undef) s₁ →
      ∃ E', wpAny (model prog w) (A.deeper env) (execs d.body env) (fun fl s' => ∃ v, fl = .ret v ∧ Q v s') E' s₁ ∧ (∀ e s', ¬ E' e s')) :
    wpAny (model prog w) A (call (.ref f) vs) Q E s :=
  wpAny_call (call_rawC g hat hf ok a up hl hv hlen hb)
end
end Mine
end
section
open PySem PySem.W PySem.Calls PyProof.Rows
namespace Mine

theorem AOk.in1 {k : Nat} {A : Around} (a : AOk (k + 1) A) : AOk k A.in1 :=
  ⟨a.handled, (by have := a.depth; show A.depth + 0 + k < _; omega), (by have := a.units; show A.units + 1 + 4 * k + 100 < _; omega), (by obtain ⟨l, h⟩ := a.frames; exact ⟨l, by show pushEnvs [] A.frames = _; rw [h]; rfl⟩)⟩
theorem AOk.less {k j : Nat} {A : Around} (a : AOk k A) (h : j ≤ k) : AOk j A :=
  ⟨a.handled, (by have := a.depth; omega), (by have := a.units; omega), a.frames⟩

theorem AllBare.set {s : Shared} {g : Nat} {x : GenState} (a : AllBare s.gens) (hx : x.bare = true) : AllBare (s.setGen g x).gens := by
  intro y hy
  show y.bare = true
  have hy' : y ∈ s.gens.setIfInBounds g x := hy
  obtain ⟨i, hi, rfl⟩ := Array.mem_iff_getElem.mp hy'
  rw [Array.getElem_setIfInBounds]
  split
  · exact hx
  · exact a _ (Array.getElem_mem (by simpa using hi))
  · simpa using hi

theorem cmpF_eq {op : CmpOp} {F₁ F₂ : List PV → Option PV} {m : List PV} {p q : PV} (h1 : F₁ m = some p) (h2 : F₂ m = some q) : cmpF op F₁ F₂ m = cmpV op p q := by unfold cmpF; rw [h1, h2]

noncomputable abbrev toldNs : List Str := ["row", "told", "size", "refusal"]

section
variable {prog : Program} {w : World} {hB : Heap} {k : Nat} {sc : Scope}
variable {mg mb : Str → Option Value} {defs : List DefItem} {names : List Str}

/-- told's state amid its loop -/
structure TI (prog : Program) (w : World) (A : Around) (s₀ : Shared) (hT : Heap) (L D l a g C B₀ : Addr) (out : List Int) (j : Nat) (s : Shared) : Prop where
  keep : Up s₀.heap s.heap
  kt : ∀ b o, b ≠ D → b ≠ L → hT.get? b = some o → s.heap.get? b = some o
  rel : GRel true s₀ s
  ns : ∃ ml, s.heap.Ns L ml ∧ ml "row" = some (.ref l) ∧ ml "told" = some (.ref D)
  pl : ∃ us, s.heap.PlainList D us ∧ IntsAre us.toList (out.take j)
  gen : s.heap.IsGen a g
  gs : ∃ gs, s.gens[g]? = some gs ∧ ∀ s'' : Shared, (∀ b o, b ≠ D → b ≠ L → s.heap.get? b = some o → s''.heap.get? b = some o) →
    gs.Goes (model prog w) A.in1 (gR B₀ C) (gY B₀ C D L out) (out.length - j) (.send .none) s''

noncomputable abbrev tBody (p1 p2 p3 p4 p5 p6 p7 p8 p9 p10 p11 p12 : Pos) (c1 : Nat) : List Stmt :=
  [.Expr (.Call (.Attribute (.Name "told" p1) "append" p2) [.Name "size" p3] [] p4) p5,
   .If (.Compare (.Call (.Name "len" p6) [.Name "told" p7] [] p8) [.Eq] [.Constant (.int 6) c1 p9] p10) [.Break p11] [] p12]

theorem told_loop (gd : Gd hB mg mb defs names) (hlen : ("len" : Str) ∈ names) {A : Around} {env : Env} {s₀ s : Shared} {D l a g C B₀ : Addr} {out : List Int} {px p1 p2 p3 p4 p5 p6 p7 p8 p9 p10 p11 p12 : Pos} {c1 : Nat} {Q : Flow → Shared → Prop} {E : Value → Shared → Prop}
    (ao : AOk (k + 1) A) (eo : EnvOk sc env) (hll : sc.names.lookup ("len" : Str) = some .globalImplicit) (hloc : ∀ x ∈ toldNs, env.kindOf x = some .local) (hline : (p2.endLine == p4.line) = true)
    (u : Up hB s₀.heap) (hout : out.length ≤ 6) (hD0 : s₀.heap.get? D = none) (hL0 : s₀.heap.get? env.locals = none) (hC0 : s₀.heap.get? C = none) (hDL : D ≠ env.locals)
    (hDB : D < B₀) (hLB : env.locals < B₀) (haB : a < B₀) (haD : a ≠ D) (haL : a ≠ env.locals) (hDC : D ≠ C) (hLC : env.locals ≠ C) (haC : a ≠ C) (hs₀B : ∀ b o, s₀.heap.get? b = some o → b < B₀) {hT : Heap} (hTB : ∀ b o, hT.get? b = some o → b < B₀ ∧ b ≠ C)
    (x : TI prog w A s₀ hT env.locals D l a g C B₀ out 0 s)
    (h : ∀ s', (∃ ml us, (∀ b o, b ≠ D → b ≠ env.locals → hT.get? b = some o → s'.heap.get? b = some o) ∧ Up s₀.heap s'.heap ∧ GRel true s₀ s' ∧ s'.heap.Ns env.locals ml ∧ ml "row" = some (.ref l) ∧ ml "told" = some (.ref D) ∧ s'.heap.PlainList D us ∧ IntsAre us.toList out) → Q .next s') :
    codeAny (model prog w) A (.forLoop (.Name "size" px) (.ref a) (tBody p1 p2 p3 p4 p5 p6 p7 p8 p9 p10 p11 p12 c1) [] env) (fun r s' => match r with | .ok f => Q f s' | .error e => cameBackBy (model prog w) A env E e s') s := by
  have hkind : env.scope.kind = .function := by rw [eo.scope]; exact eo.kind
  have hplain : (env.scope.kind == .class || (env.scope.kind == .module && env.locals != env.globals)) = false := by rw [hkind]; rfl
  have hint : interactive env = false := by unfold interactive; rw [eo.scope, eo.kind]; rfl
  refine codeAny_forLoop (fun n s₁ => ∃ j, n = out.length + 1 - j ∧ j ≤ out.length ∧ j ≠ 6 ∧ TI prog w A s₀ hT env.locals D l a g C B₀ out j s₁) ?_ (out.length + 1) ⟨0, rfl, Nat.zero_le _, by decide, x⟩
  rintro n s₁ ⟨j, rfl, hj, hj6, x₁⟩
  obtain ⟨gs, hgs, hgo⟩ := x₁.gs
  have hgl : g < s₁.gens.size := (Array.getElem?_eq_some_iff.mp hgs).1
  have hro : ∀ {s₂ : Shared} {gs' : GenState}, (∃ hh tk, s₂ = { (s₁.setGen g .running) with heap := hh, toks := tk }) → gs'.bare = true → GRel true s₀ (s₂.setGen g gs') := by
    rintro s₂ gs' ⟨hh, tk, rfl⟩ hb
    refine ⟨x₁.rel.1, fun ab => ?_⟩
    exact AllBare.set (s := { (s₁.setGen g .running) with heap := hh, toks := tk }) (AllBare.set (s := s₁) (x₁.rel.2 ab) rfl) hb
  refine next_gen (P := fun n s₀ s => n = 0 ∧ GenRel B₀ C s₀ s) ao.handled (gd.lim.keeps fun b o e => x₁.keep b o (u b o e)) ao.room x₁.gen hgs (hgo _ fun b o _ _ e => e) (fun v s₂ gs' hb hv => ?_) (fun s₂ hp h' hk => ?_)
  · obtain ⟨⟨t, rfl⟩, hrel, hkap⟩ := hv
    obtain ⟨h₂, tk₂, rfl, k₂⟩ := hrel
    have hjl : j < out.length := by
      rcases Nat.lt_or_ge j out.length with q | q
      · exact q
      · exfalso
        have e0 : out.length - j = 0 := by omega
        rw [e0] at hkap
        exact hkap (Or.inl (show out.length < 6 by omega)) _ fun b o _ _ e => e
    obtain ⟨m, hm⟩ : ∃ m, out.length - j = m + 1 := ⟨out.length - j - 1, by omega⟩
    rw [hm] at hkap ⊢
    have hidx : out.length - 1 - (m + 1 - 1) = j := by omega
    rw [hidx]
    have hmj : m = out.length - (j + 1) := by omega
    replace k₂ : ∀ b o, b < B₀ → b ≠ C → s₁.heap.get? b = some o → h₂.get? b = some o := k₂
    obtain ⟨ml, hn, hml1, hml2⟩ := x₁.ns
    obtain ⟨us, hpl, hI⟩ := x₁.pl
    have hn₂ : h₂.Ns env.locals ml := hn.at' fun o e => k₂ _ o hLB hLC e
    have hpl₂ : h₂.PlainList D us := hpl.at fun o e => k₂ D o hDB hDC e
    have hG₂ : h₂.IsGen a g := let ⟨o, nm, qn, ho, r⟩ := x₁.gen; ⟨o, nm, qn, k₂ a o haB haC ho, r⟩
    have hup₂ : Up s₀.heap h₂ := fun b o e => k₂ b o (hs₀B b o e) (fun q => by subst q; rw [hC0] at e; cases e) (x₁.keep b o e)
    refine wpAny_assign_Name (wpAny_storeName_local (hloc "size" (by simp)) hn₂ (fun h₃ hn₃ hs₃ => ?_) hplain)
    have hml1' : (if ("row" : Str) = "size" then some (Value.int (out.getD j 0) t) else ml "row") = some (.ref l) := by rw [if_neg (by decide)]; exact hml1
    have hml2' : (if ("told" : Str) = "size" then some (Value.int (out.getD j 0) t) else ml "told") = some (.ref D) := by rw [if_neg (by decide)]; exact hml2
    have hpl₃ : h₃.PlainList D us := hpl₂.at fun o e => hs₃.extBut D o hDL e
    have hus : us.size = (out.take j).length := by have := hI.length; simpa using this
    refine wpAny_execs_cons (wpAny_Expr_any (wpAny_Call_append (by rfl) (by rfl) hline (by rfl) (wpAny_Name (wpAny_loadName_local hkind (hloc "told" (by simp)) hn₃ hml2' ?_) (by decide))) hint rfl)
    refine ⟨D, us, rfl, (let ⟨n, e⟩ := hpl₃; ⟨_, n, e, rfl, rfl, rfl⟩), ?_⟩
    refine wpAny_Name (wpAny_loadName_local hkind (hloc "size" (by simp)) hn₃ (v := .int (out.getD j 0) t) (by simp) ?_) (by decide)
    refine wpAny_list_append_plain hpl₃ (fun h₄ hpl₄ hs₄ => ?_) (by rw [hus, List.length_take, sizeLine_eq]; omega)
    dsimp only
    have hn₄ := hn₃.sameBut hs₄ (Ne.symm hDL)
    have htk : out.take (j + 1) = out.take j ++ [out.getD j 0] := by
      rw [List.take_succ_eq_append_getElem hjl, List.getD, List.getElem?_eq_getElem hjl]; rfl
    have hI₄ : IntsAre (us.push (.int (out.getD j 0) t)).toList (out.take (j + 1)) := by
      rw [Array.toList_push, htk]
      exact hI.append (.cons _ t .nil)
    have kDL : ∀ b o, b ≠ D → b ≠ env.locals → h₂.get? b = some o → h₄.get? b = some o := fun b o h1 h2 e => hs₄.extBut b o h1 (hs₃.extBut b o h2 e)
    have hup₄ : Up s₀.heap h₄ := fun b o e => kDL b o (fun q => by subst q; rw [hD0] at e; cases e) (fun q => by subst q; rw [hL0] at e; cases e) (hup₂ b o e)
    have rd₄ : Rd env toldNs [.undef, .olist (out.take (j + 1)), .undef, .undef] h₄ := by
      intro i p hp hpu
      match i, hp with
      | 0, hp => cases hp; exact absurd rfl hpu
      | 1, hp =>
        cases hp
        exact ⟨"told", .ref D, rfl, .inl ⟨hloc "told" (by simp), _, hn₄, hml2'⟩, D, _, rfl, hpl₄, hI₄⟩
      | 2, hp => cases hp; exact absurd rfl hpu
      | 3, hp => cases hp; exact absurd rfl hpu
      | i + 4, hp => cases hp
    have T6 : TOk prog w hB (k + 1) sc toldNs (.Compare (.Call (.Name "len" p6) [.Name "told" p7] [] p8) [.Eq] [.Constant (.int 6) c1 p9] p10) _ :=
      T_cmp (E_bi1 gd ⟨hll, hlen, by decide +kernel, by decide +kernel, rfl⟩ (E_name 1 rfl rfl) C_len (fun _ _ => rfl)).e E_int rfl
    have hlj : (out.take (j + 1)).length = j + 1 := by rw [List.length_take]; omega
    refine wpAny_execs_cons (wpAny_If (T6 A env _ [.undef, .olist (out.take (j + 1)), .undef, .undef] (j + 1 == 6) _ _ ao eo (fun b o e => hup₄ b o (u b o e)) rd₄ ?_ fun s₅ k₅ => ?_))
    · have e1 : ((PV.get? [PV.undef, PV.olist (out.take (j + 1)), PV.undef, PV.undef] 1).bind fun q => lenG [q]) = some (.int ((j + 1 : Nat) : Int)) := by
        show (if (out.take (j + 1)).length < 100000 then some (PV.int ((out.take (j + 1)).length : Int)) else none) = _
        rw [if_pos (by omega), hlj]
      refine (cmpF_eq (p := .int ((j + 1 : Nat) : Int)) (q := .int 6) e1 rfl).trans ?_
      show some ((((j + 1 : Nat) : Int)) == 6) = some (j + 1 == 6)
      by_cases q : j + 1 = 6
      · rw [q]; rfl
      · rw [beq_eq_false_iff_ne.mpr q, beq_eq_false_iff_ne.mpr (by omega)]
    obtain ⟨h₅, tk₅, rfl, ku₅⟩ := k₅
    replace ku₅ : ∀ b o, h₄.get? b = some o → h₅.get? b = some o := ku₅
    by_cases h6 : j + 1 = 6
    · have : (j + 1 == 6) = true := by simp [h6]
      rw [this, if_pos rfl]
      refine wpAny_execs_cons (wpAny_Break ?_)
      dsimp only
      refine h _ (⟨_, _, fun b o h1 h2 e => ku₅ b o (kDL b o h1 h2 (k₂ b o (hTB b o e).1 (hTB b o e).2 (x₁.kt b o h1 h2 e))), fun b o e => ku₅ b o (hup₄ b o e), hro (gs' := gs') ⟨h₂, tk₂, rfl⟩ hb, hn₄.keeps ku₅, hml1', hml2', hpl₄.at fun o e => ku₅ D o e, ?_⟩)
      rw [List.take_of_length_le (by omega)] at hI₄
      exact hI₄
    · have : (j + 1 == 6) = false := beq_eq_false_iff_ne.mpr h6
      rw [this, if_neg (by decide)]
      refine wpAny_execs_nil ?_
      dsimp only
      refine wpAny_execs_nil ?_
      dsimp only
      refine ⟨out.length + 1 - (j + 1), by omega, j + 1, rfl, hjl, h6, fun b o e => ku₅ b o (hup₄ b o e), fun b o h1 h2 e => ku₅ b o (kDL b o h1 h2 (k₂ b o (hTB b o e).1 (hTB b o e).2 (x₁.kt b o h1 h2 e))), ?_, ⟨_, hn₄.keeps ku₅, hml1', hml2'⟩, ⟨_, hpl₄.at fun o e => ku₅ D o e, hI₄⟩, ?_, gs', ?_, ?_⟩
      · exact hro (gs' := gs') ⟨h₂, tk₂, rfl⟩ hb
      · exact let ⟨o, nm, qn, ho, r⟩ := hG₂; ⟨o, nm, qn, ku₅ a o (kDL a o haD haL ho), r⟩
      · exact setGen_self (gs := .running) (setGen_self hgs)
      · intro s'' hs
        rw [← hmj]
        exact hkap (by omega) s'' fun b o h1 h2 e => hs b o h1 h2 (ku₅ b o (kDL b o h1 h2 e))
  · obtain ⟨h0, hrel⟩ := hp
    obtain ⟨h₂, tk₂, rfl, k₂⟩ := hrel
    have hjl : j = out.length := by omega
    subst hjl
    replace k₂ : ∀ b o, b < B₀ → b ≠ C → s₁.heap.get? b = some o → h₂.get? b = some o := k₂
    replace hk : ∀ b o, h₂.get? b = some o → h'.get? b = some o := hk
    refine wpAny_execs_nil (h _ ?_)
    obtain ⟨ml, hn, hml1, hml2⟩ := x₁.ns
    obtain ⟨us, hpl, hI⟩ := x₁.pl
    rw [List.take_length] at hI
    refine ⟨ml, us, fun b o h1 h2 e => hk b o (k₂ b o (hTB b o e).1 (hTB b o e).2 (x₁.kt b o h1 h2 e)), fun b o e => hk b o (k₂ b o (hs₀B b o e) (fun q => by subst q; rw [hC0] at e; cases e) (x₁.keep b o e)), ?_, hn.at' fun o e => hk _ o (k₂ _ o hLB hLC e), hml1, hml2, hpl.at fun o e => hk _ o (k₂ D o hDB hDC e), hI⟩
    exact hro (gs' := .finished) ⟨h₂, tk₂, rfl⟩ rfl
end
end Mine
end
section
open PySem PySem.W PySem.Calls PyProof.Rows
namespace Mine

/-- what is asked of the generator's def -/
structure GenDef (d : DefItem) (P : GP) : Prop where
  gen : d.scope.isGenerator = true
  co : d.scope.isCoroutine = false
  kind : d.scope.kind = .function
  ncell : ∀ y ∈ d.scope.names, y.2 ≠ .cell
  nfree : ∀ y ∈ d.scope.names, y.2 ≠ .free
  gr : d.scope.names.lookup ("grouping" : Str) = some .local
  li : d.scope.names.lookup ("last_interval" : Str) = some .local
  iv : d.scope.names.lookup ("interval" : Str) = some .local
  cm : d.scope.names.lookup ("CHAR_MAX" : Str) = some .globalImplicit
  ve : d.scope.names.lookup ("ValueError" : Str) = some .globalImplicit
  bind : ∀ pm cd doc v, bindArgs (docDef d.name d.params d.body d.scope pm cd doc) ⟨[v], []⟩ = pure [(("grouping" : Str), v)]
  body : ∃ s1 s2 s3 f1 f2 f3 c5, d.body = gStart P s1 s2 s3 f1 f2 f3 c5

theorem GenDef.ok {d : DefItem} {P : GP} (x : GenDef d P) {env : Env} (h1 : env.scope = d.scope) (h2 : env.globals = mainGlobals) (h3 : env.builtins = builtinsNs) : GenOk d.scope env := by
  have ek : ∀ n, env.kindOf n = d.scope.names.lookup n := fun n => by unfold Env.kindOf; rw [h1]
  refine ⟨⟨h1, x.kind, h2, h3, fun n hn => ?_⟩, by rw [ek]; exact x.gr, by rw [ek]; exact x.li, by rw [ek]; exact x.iv, by rw [h1]; exact x.co, x.cm, x.ve⟩
  rcases hn with hn | hn
  · exact absurd rfl (x.ncell _ (lookup_mem' hn))
  · exact absurd rfl (x.nfree _ (lookup_mem' hn))

noncomputable def tryF : List PV → Option (PF × List PV)
  | [.blist zs, .olist [], .undef, .undef] => if zs.getD 0 1 ≠ 0 then some (.next, [.blist zs, .olist (toldL 6 0 zs), .undef, .undef]) else none
  | _ => none
theorem tryF_some {m : List PV} {r : PF × List PV} (h : tryF m = some r) : ∃ zs, m = [.blist zs, .olist [], .undef, .undef] ∧ zs.getD 0 1 ≠ 0 ∧ r = (.next, [.blist zs, .olist (toldL 6 0 zs), .undef, .undef]) := by
  unfold tryF at h
  split at h
  · rename_i zs
    split at h
    · exact ⟨zs, rfl, by assumption, (Option.some.inj h).symm⟩
    · cases h
  · cases h

section
variable {prog : Program} {w : World} {hB : Heap} {k : Nat} {sc : Scope}
variable {mg mb : Str → Option Value} {defs : List DefItem} {names : List Str}

theorem S_toldTry (gd : Gd hB mg mb defs names) (hlen : ("len" : Str) ∈ names) {d : DefItem} {P : GP} (dg : GenDef d P) (hat : d.At mg hB) {f : Addr} (hdn : d.name = "_grouping_intervals") (hf : mg "_grouping_intervals" = some (.ref f))
    (hcm : ∃ t, mg "CHAR_MAX" = some (.int 127 t)) (hgi : sc.names.lookup ("_grouping_intervals" : Str) = some .globalImplicit)
    (hll : sc.names.lookup ("len" : Str) = some .globalImplicit) (hloc : ∀ x ∈ toldNs, sc.names.lookup x = some .local)
    {px p1 p2 p3 p4 p5 p6 p7 p8 p9 p10 p11 p12 q1 q2 q3 pf pt : Pos} {c1 : Nat} {h₀ : ExceptHandler} {hr : List ExceptHandler} (hline : (p2.endLine == p4.line) = true) :
    S1Ok prog w hB true (k + 3) sc toldNs (.Try [.For (.Name "size" px) (.Call (.Name "_grouping_intervals" q1) [.Name "row" q2] [] q3) (tBody p1 p2 p3 p4 p5 p6 p7 p8 p9 p10 p11 p12 c1) [] pf] (h₀ :: hr) [] [] pt) tryF := by
  intro A env s₀ s vals m fl m' Q E a eo es u x₀ hF h
  obtain ⟨zs, rfl, hz, hr'⟩ := tryF_some hF
  obtain ⟨rfl, rfl⟩ := Prod.mk.inj hr'
  have ek : ∀ n, env.kindOf n = sc.names.lookup n := fun n => by unfold Env.kindOf; rw [eo.scope]
  have hloc' : ∀ x ∈ toldNs, env.kindOf x = some .local := fun x hx => by rw [ek]; exact hloc x hx
  have hkind : env.scope.kind = .function := by rw [eo.scope]; exact eo.kind
  obtain ⟨v0, v1, v2, v3, rfl⟩ : ∃ v0 v1 v2 v3, vals = [v0, v1, v2, v3] := by
    have := x₀.lenV
    match vals, this with
    | [v0, v1, v2, v3], _ => exact ⟨v0, v1, v2, v3, rfl⟩
  obtain ⟨l, us, rfl, hLl, hIl⟩ := x₀.vr 0 _ _ rfl rfl nofun
  obtain ⟨D, us1, rfl, hpl, hI1⟩ := x₀.vr 1 _ _ rfl rfl nofun
  obtain rfl : v2 = .none := Option.some.inj (x₀.und 2 rfl)
  obtain rfl : v3 = .none := Option.some.inj (x₀.und 3 rfl)
  obtain ⟨hD0, hDo⟩ := x₀.own 1 [] D rfl rfl
  obtain ⟨ol, hol⟩ := x₀.bor 0 zs l rfl rfl
  have hlD : l ≠ D := fun q => hDo 0 (by decide) (by rw [q]; rfl)
  obtain ⟨ml, hn, hml⟩ := x₀.loc
  have hml0 : ml "row" = some (.ref l) := hml 0 "row" rfl (hloc' "row" (by simp)) nofun
  have hml1 : ml "told" = some (.ref D) := hml 1 "told" rfl (hloc' "told" (by simp)) nofun
  have hL0 : s₀.heap.get? env.locals = none := by
    cases q : s₀.heap.get? env.locals with
    | none => rfl
    | some o => exact absurd (Heap.lt_size q) (Nat.not_lt.mpr es.newL)
  have hDL : D ≠ env.locals := fun q => by
    obtain ⟨n, hDg⟩ := hpl
    obtain ⟨es', ep, hd⟩ := ns_notSeq hn (q ▸ hDg)
    cases hd
  have hDs : D < s.heap.objs.size := let ⟨n, e⟩ := hpl; Heap.lt_size e
  have hLs : env.locals < s.heap.objs.size := let ⟨_, _, _, e, _⟩ := hn; Heap.lt_size e
  have hls : l < s.heap.objs.size := let ⟨_, e, _⟩ := hLl; Heap.lt_size e
  have upS : Up hB s.heap := u.of x₀
  have hfo : ∃ o fd, hB.get? f = some o ∧ o.data = .func fd := by
    obtain ⟨f', c, Pt, o, pm, doc, h1, h2, h3, _⟩ := hat
    rw [hdn, hf] at h1; cases h1
    exact ⟨o, _, h2, h3⟩
  obtain ⟨of, fd, hof, hfd⟩ := hfo
  rw [arm_exec_Try]
  refine wpAny_bind (wpAny_standAt (wpAny_tryStmt_except ?_))
  refine wpAny_execs_cons (wpAny_For (Call_ (gd.lookG eo upS hgi hf (by rfl) (callWith_def hfd (args_cons (wpAny_Name (wpAny_loadName_local hkind (hloc' "row" (by simp)) hn hml0 (args_nil ⟨upS _ _ hof, ?_⟩)) (by decide)) rfl) rfl)) (by rfl)) (fun x => rfl))
  refine call_gen gd hat (by rw [hdn]; exact hf) dg.gen dg.co dg.kind dg.ncell dg.gr dg.bind (a.less (Nat.le_refl _)) upS fun genv h' tk e1 e2 e3 e4 e5 hnC ku hsz hG => ?_
  refine wpAny_pyIter_gen hG ?_
  obtain ⟨s1, s2, s3, f1, f2, f3, c5, hbody⟩ := dg.body
  have hC0 : ∀ b o, s.heap.get? b = some o → b ≠ s.heap.objs.size := fun b o e q => by subst q; exact absurd (Heap.lt_size e) (Nat.lt_irrefl _)
  have hLl' : h'.IsList l us := isList_seq hLl (.of ku)
  have ho := dg.ok e1 e3 e4
  refine told_loop (B₀ := s.heap.objs.size + 2) (C := s.heap.objs.size) (a := s.heap.objs.size + 1) (g := s.gens.size) (D := D) (l := l) (out := toldL 6 0 zs) (s₀ := s₀) gd hlen (a.less (by omega : k + 1 ≤ k + 3)) eo hll hloc' hline u (toldL_len 6 0 zs) hD0 hL0 ?_ hDL ?_ ?_ ?_ ?_ ?_ ?_ ?_ ?_ ?_ (hT := s.heap) (fun b o e => ⟨Nat.lt_of_lt_of_le (Heap.lt_size e) (Nat.le_add_right _ 2), hC0 b o e⟩) ⟨fun b o e => ku b o (x₀.keep b o e), fun b o _ _ e => ku b o e, ?_, ⟨ml, hn.keeps ku, hml0, hml1⟩, ⟨us1, hpl.at fun o e => ku D o e, by simpa using hI1⟩, hG, .fresh (.func d.body genv), Array.getElem?_push_size .., fun s'' hs => ⟨rfl, ?_⟩⟩ fun s' hs' => ?_
  · cases q : s₀.heap.get? s.heap.objs.size with
    | none => rfl
    | some o => exact absurd (Heap.lt_size (x₀.keep _ _ q)) (Nat.lt_irrefl _)
  · exact Nat.lt_of_lt_of_le hDs (Nat.le_add_right _ 2)
  · exact Nat.lt_of_lt_of_le hLs (Nat.le_add_right _ 2)
  · exact Nat.lt_succ_self _
  · exact Nat.ne_of_gt (Nat.lt_succ_of_lt hDs)
  · exact Nat.ne_of_gt (Nat.lt_succ_of_lt hLs)
  · exact Nat.ne_of_lt hDs
  · exact Nat.ne_of_lt hLs
  · exact Nat.ne_of_gt (Nat.lt_succ_self _)
  · intro b o e
    exact Nat.lt_of_lt_of_le (Heap.lt_size (x₀.keep b o e)) (Nat.le_add_right _ 2)
  · exact ⟨x₀.rel.1, fun ab => AllBare.push (x₀.rel.2 ab) rfl⟩
  · rw [Nat.sub_zero, hbody]
    have kC : ∀ b o, b ≠ D → b ≠ env.locals → h'.get? b = some o → s''.heap.get? b = some o := hs
    obtain ⟨oG, _, _, hoG, _⟩ := id hG
    have hsz'' : s.heap.objs.size + 1 < s''.heap.objs.size := Heap.lt_size (kC _ _ (Nat.ne_of_gt (Nat.lt_succ_of_lt hDs)) (Nat.ne_of_gt (Nat.lt_succ_of_lt hLs)) hoG)
    have hnone : ∀ b, s₀.heap.get? b = none → hB.get? b = none := fun b e => by
      cases q : hB.get? b with
      | none => rfl
      | some o => rw [u b o q] at e; cases e
    have hDn := hnone D hD0
    have hLn := hnone _ hL0
    have hCn : hB.get? genv.locals = none := by
      cases q : hB.get? genv.locals with
      | none => rfl
      | some o => exact absurd (Heap.lt_size (upS _ _ q)) (by rw [e2]; exact Nat.lt_irrefl _)
    rw [← e2]
    refine gen_start gd (ml := fun y => if y = ("grouping" : Str) then some (.ref l) else none) (k := k + 1) (a.less (Nat.le_refl _)).in1 ho hcm hDn hLn ?_ ⟨hlD, ?_⟩ hCn hIl rfl hz ?_ ?_ ?_ ?_ ?_ (by simp) ?_
    · rw [e2]; exact ⟨Nat.ne_of_gt hDs, Nat.ne_of_gt hLs⟩
    · exact fun q => by
        obtain ⟨oL, hoL, _, nn, hdL⟩ := hLl
        obtain ⟨es', ep, hd⟩ := ns_notSeq hn (show s.heap.get? env.locals = some oL from q ▸ hoL)
        rw [hd] at hdL; cases hdL
    · rw [e2]; exact hsz''
    · exact Nat.lt_trans hDs (Nat.lt_trans (Nat.lt_succ_self _) hsz'')
    · exact Nat.lt_trans hLs (Nat.lt_trans (Nat.lt_succ_self _) hsz'')
    · intro b o e
      exact kC b o (fun q => by subst q; rw [hDn] at e; cases e) (fun q => by subst q; rw [hLn] at e; cases e) (ku b o (upS b o e))
    · exact hnC.at' fun o e => kC _ o (by rw [e2]; exact Nat.ne_of_gt hDs) (by rw [e2]; exact Nat.ne_of_gt hLs) e
    · exact hLl'.at fun o e => kC _ o hlD (fun q => by
        obtain ⟨oL, hoL, _, nn, hdL⟩ := hLl
        obtain ⟨es', ep, hd⟩ := ns_notSeq hn (show s.heap.get? env.locals = some oL from q ▸ hoL)
        rw [hd] at hdL; cases hdL) e
  · obtain ⟨ml', us', hkt, hu', hr', hn', hm0, hm1, hp', hi'⟩ := hs'
    refine wpAny_execs_nil (wpAny_execs_nil ?_)
    have hl0 : s₀.heap.get? l = some ol := hol
    have hlL : l ≠ env.locals := fun q => by rw [q, hL0] at hl0; cases hl0
    refine h .next s' [.ref l, .ref D, .none, .none] ⟨rfl, rfl, hu', hr', ⟨ml', hn', ?_⟩, ?_, ?_, ?_, ?_, ?_⟩ ?_ trivial
    · intro i y hy hk hne
      match i, hy with
      | 0, hy => cases hy; exact hm0
      | 1, hy => cases hy; exact hm1
      | 2, hy => exact absurd rfl hne
      | 3, hy => exact absurd rfl hne
      | i + 4, hy => cases hy
    · intro i y hy hk
      rw [hloc' y (List.mem_of_getElem? hy)] at hk; cases hk
    · intro i p v hp hv hne
      match i, hp, hv with
      | 0, hp, hv => cases hp; cases hv; exact ⟨l, us, rfl, hLl.at fun o e => hkt _ o hlD hlL e, hIl⟩
      | 1, hp, hv => cases hp; cases hv; exact ⟨D, us', rfl, hp', hi'⟩
      | 2, hp, hv => cases hp; exact absurd rfl hne
      | 3, hp, hv => cases hp; exact absurd rfl hne
      | i + 4, hp, hv => cases hp
    · intro i xs b hp hv
      match i, hp, hv with
      | 0, hp, hv => cases hp
      | 1, hp, hv =>
        cases hv
        refine ⟨hD0, fun j hj q => ?_⟩
        match j, q with
        | 0, q => cases q; exact hlD rfl
        | 1, q => exact hj rfl
        | 2, q => cases q
        | 3, q => cases q
        | j + 4, q => cases q
      | 2, hp, hv => cases hp
      | 3, hp, hv => cases hp
      | i + 4, hp, hv => cases hp
    · intro i xs b hp hv
      match i, hp, hv with
      | 0, hp, hv => cases hv; exact ⟨_, hol⟩
      | 1, hp, hv => cases hp
      | 2, hp, hv => cases hp
      | 3, hp, hv => cases hp
      | i + 4, hp, hv => cases hp
    · intro i hp
      match i, hp with
      | 0, hp => cases hp
      | 1, hp => cases hp
      | 2, hp => rfl
      | 3, hp => rfl
      | i + 4, hp => cases hp
    · intro b o e st
      refine hkt b o (fun q => ?_) (fun q => ?_) e
      · obtain ⟨n, hDg⟩ := hpl
        rw [q, hDg] at e; cases e
        exact st.1 rfl
      · obtain ⟨es', ep, hd⟩ := ns_notSeq hn (q ▸ e)
        exact st.2.1 _ _ hd
end
end Mine
end
section
open PySem PySem.W PySem.Calls PyProof.Rows
namespace Mine

section
variable {M : Model} {A : Around} {E : Value → Shared → Prop} {s : Shared}

/-- the first note of an exception, in the frame where it was raised -/
theorem note_first {base h : Heap} {env : Env} {outer : List Env} {L e : Addr} {cls : String} {args : List Value} {Q : Unit → Shared → Prop}
    (hfr : A.frames = some (env :: outer)) (hf : env.frame = some L) (hkb : base.StaysIn h) (hl : h.FunFrames base (env :: outer)) (hx : Heap.MadeExc h s.heap e cls args)
    (hQ : ∀ h' t, Heap.HeldW base (env :: outer) e (.type cls) (.ref t) L h' → h'.TupAt t args → base.get? t = none → s.heap.UpToSlots h' → Q () { s with heap := h' }) : wpAny M A (noteFrame (.ref e) env) Q E s := by
  obtain ⟨t, he, htn, ht⟩ := hx.there
  have fresh : ∀ b, h.get? b = none → base.get? b = none := fun b hb => by
    cases hq : base.get? b with
    | none => rfl
    | some o' => have := hkb b o' hq; rw [hb] at this; cases this
  unfold noteFrame
  simp only [hf]
  refine wpAny_bind (wpAny_field he rfl (x := .none) rfl ?_)
  rw [if_neg (by decide)]
  refine wpAny_entryW (a0 := .ref t) hfr (hl.of_keeps fun b o hb _ => ⟨o, hx.keeps b o hb, rfl⟩) hf he (fun b o hb => hx.keeps b o (hkb b o hb)) (fresh e hx.new) rfl (by show 1 < 6; omega) rfl fun h' hN => ?_
  obtain ⟨k1, k2, k3, k4⟩ := hN
  exact hQ h' t ⟨k1, fresh e hx.new, k2, k3⟩ (Heap.TupAt.of_slots ⟨_, _, ht, rfl, rfl⟩ k4) (fresh t htn) k4

/-- the flight is set anew -/
theorem setFlight_any {base : Heap} {l : List Env} {e L L' : Addr} {cls a0 : Value} {Q : Unit → Shared → Prop} (R : Heap.HeldW base l e cls a0 L s.heap)
    (h : ∀ h', Heap.HeldW base l e cls a0 L' h' → s.heap.UpToSlots h' → Q () { s with heap := h' }) : wpAny M A (setFlight (.ref e) (some L')) Q E s := by
  obtain ⟨hkb, hen, hl, oe, vs, T, oT, ts, he, hcls, hd, h1, hnT, hTe, hT, hdT, h3⟩ := R
  have hsz3 : 3 < ts.size := (Array.getElem?_eq_some_iff.mp h3).1
  have other : ∀ b, b ≠ T → (s.heap.update T (Obj.mapFields (·.setIfInBounds 3 ((some L').elim Value.none fun f => rawInt f)))).get? b = s.heap.get? b :=
    fun b hb => Heap.get?_update_other _ _ (Ne.symm hb)
  have noRecord : ∀ b o, s.heap.get? b = some o → (∀ vs, o.data ≠ .fields vs) → b ≠ T := fun b o hb hnf q => by
    rw [q, hT] at hb; injection hb with hb; subst hb; exact hnf ts hdT
  unfold setFlight
  refine wpAny_bind (wpAny_field he hd h1 ?_)
  rw [if_pos (show (Value.ref T != Value.none) = true from by simp)]
  refine wpAny_setField hT hdT hsz3 (h _ ⟨fun b o hbo => (other b fun q => by rw [q, hnT] at hbo; cases hbo).trans (hkb b o hbo), hen,
    hl.of_keeps fun b o hb hnf => ⟨o, (other b (noRecord b o hb hnf)).trans hb, rfl⟩, ?_⟩ fun b o hb hnf => ⟨o.slots, (other b (noRecord b o hb hnf)).trans hb⟩)
  exact ⟨oe, vs, T, _, _, (other e (Ne.symm hTe)).trans he, hcls, hd, h1, hnT, hTe, Heap.get?_update_self _ hT (Obj.isFreed_of_fields (Obj.data_mapFields hdT _)), Obj.data_mapFields hdT _, by simp [hsz3]⟩

/-- the exception comes back from a loop's code -/
theorem cameBack_held {base : Heap} {env : Env} {l : List Env} {e L : Addr} {cls a0 : Value} (hf : env.frame = some L) {E' : Value → Shared → Prop} (R : Heap.HeldW base l e cls a0 L s.heap)
    (h : ∀ h', Heap.HeldW base l e cls a0 L h' → s.heap.UpToSlots h' → E' (.ref e) { s with heap := h' }) : cameBackBy M A env E' (.ref e) s := by
  obtain ⟨_, _, _, oe, vs, T, oT, ts, he, hcls, hd, h1, _⟩ := id R
  unfold cameBackBy
  refine wpAny_bind (wpAny_field he hd h1 ?_)
  rw [if_neg (show ¬ ((Value.ref T == Value.none) = true) from by simp)]
  rw [hf]
  exact setFlight_any R h
end

section
variable {prog : Program} {w : World} {A : Around} {R : GenEnd} {Y : Protocol} {n : Nat} {s₀ : Shared} {c : Code} {fs : List Frame} {s : Shared} {env : Env}
  {K : Flow → Sem Fin} {H : Value → Sem Fin} {gd : Bool → Bool} {lv : List Value → List Value}

theorem seg_noteH {e : Value} (h : wpAny (model prog w) (A.over c fs) (noteFrame e env) (fun _ s' => Seg (model prog w) A R Y n s₀ c (.raise e) fs s') (fun x s' => Seg (model prog w) A R Y n s₀ c (.raise x) fs s') s) :
    Seg (model prog w) A R Y n s₀ c (noteH env e) fs s := by
  refine seg_wrap ?_
  exact wpAny_bind (wpAny_mono h (fun _ _ q => wpAny_theTreesLotGoes q) fun _ _ e => e)

theorem seg_backK {e : Value} (h : cameBackBy (model prog w) (A.over c fs) env (fun x s' => Seg (model prog w) A R Y n s₀ c (H x) fs s') e s) :
    Seg (model prog w) A R Y n s₀ c (backK env K H gd lv (.error e)) fs s := by
  unfold backK
  rw [Sem.onRaise_eq_wrap, Sem.wrap_wrap]
  show Seg (model prog w) A R Y n s₀ c (Sem.wrap K H _ _ (Sem.bind _ fun _ => Sem.raise e)) fs s
  rw [Sem.bind_eq_wrap, Sem.wrap_wrap]
  exact seg_wrap h
end
end Mine
end
section
open PySem PySem.W PySem.Calls PyProof.Rows
namespace Mine

section
variable {prog : Program} {w : World} {hB : Heap} {k : Nat} {sc : Scope}
variable {mg mb : Str → Option Value} {defs : List DefItem} {names : List Str}

theorem FunFrames.at {base : Heap} {h h' : Heap} : ∀ {l : List Env}, h.FunFrames base l → (∀ b ∈ l.filterMap (·.frame), ∀ o, h.get? b = some o → h'.get? b = some o) → h'.FunFrames base l
  | [], _, _ => trivial
  | env :: rest, ⟨hk, ⟨L, o, hf, hn, ho, hd⟩, hr⟩, k => by
    rw [List.filterMap_cons, hf] at k
    exact ⟨hk, ⟨L, o, hf, hn, k L (List.mem_cons_self ..) o ho, hd⟩, FunFrames.at hr fun b hb => k b (List.mem_cons_of_mem _ hb)⟩

set_option maxHeartbeats 4000000 in
theorem gen_raise (gd : Gd hB mg mb defs names) (hve : ("ValueError" : Str) ∈ names) {A : Around} {env : Env} {l a g : Addr} {vals : Array Value} {zs : List Int} {P : GP} {s1 s2 s3 f1 f2 f3 : Pos} {c5 : Nat} {ml : Str → Option Value} {s : Shared} {outer : List Env} {hX : Heap}
    (ao : AOk (k + 1) A) (o : GenOk sc env) (hframe : env.frame = some env.locals) (hcm : ∃ t, mg "CHAR_MAX" = some (.int 127 t)) (hBC : hB.get? env.locals = none)
    (hv : IntsAre vals.toList (0 :: zs)) (up : Up hB s.heap) (hn : s.heap.Ns env.locals ml) (hml : ml "grouping" = some (.ref l)) (hLl : s.heap.IsList l vals)
    (hfr : A.frames = some outer) (hof : s.heap.FunFrames hX outer) (hCo : env.locals ∉ outer.filterMap (·.frame)) (hG : s.heap.IsGen a g) {PP : Addr → Shared → Shared → Prop}
    (hP : ∀ e t tk B h tk', Heap.FlyingW B outer e (.type "ValueError") (.ref t) h → h.TupAt t [.str "invalid grouping" tk] → B.get? t = none →
      (∀ b o, s.heap.get? b = some o → b ≠ env.locals → b ∉ outer.filterMap (·.frame) → B.get? b = some o) →
      (∀ b o, s.heap.get? b = some o → b ≠ env.locals → (∀ vs, o.data ≠ .fields vs) → ∃ sl, h.get? b = some { o with slots := sl }) → PP e s { s with heap := h, toks := tk' }) :
    Seg (model prog w) A (fun _ s₀ r s₁ => ∃ e, r = .error (.ref e) ∧ s₁.TypeIs (.ref e) "ValueError" ∧ s₁.heap.IsGen a g ∧ PP e s₀ s₁) (fun _ _ _ _ _ => False) 0 s
      (.func (gStart P s1 s2 s3 f1 f2 f3 c5) env) ((model prog w).den (.func (gStart P s1 s2 s3 f1 f2 f3 c5) env)) [] s := by
  have hkind : env.scope.kind = .function := by rw [o.eo.scope]; exact o.eo.kind
  obtain ⟨oG, nm, qn, hoG, hcG, hdG, hsG⟩ := hG
  refine seg_func ?_
  refine seg_st (wpAny_Assign_Name (Constant_none (wpAny_storeName_local o.kl hn (fun h₁ hn₁ hs₁ => ?_) o.plain)))
  dsimp only
  rw [execs_cons_wrap]
  have hgr : (if ("grouping" : Str) = "last_interval" then some Value.none else ml "grouping") = some (.ref l) := by rw [if_neg (by decide)]; exact hml
  have hlC : l ≠ env.locals := fun q => by
    obtain ⟨oL, hoL, _, nn, hdL⟩ := hLl
    obtain ⟨es, ep, hd⟩ := ns_notSeq hn (show s.heap.get? env.locals = some oL from q ▸ hoL)
    rw [hd] at hdL; cases hdL
  have hL₁ : h₁.IsList l vals := hLl.at fun ob e => hs₁.extBut _ ob hlC e
  have hlt : ∀ {b : Addr} {ob}, h₁.get? b = some ob → b < h₁.objs.size := fun e => Heap.lt_size e
  have hlI : l ≠ h₁.objs.size := Nat.ne_of_lt (let ⟨_, e, _⟩ := hL₁; hlt e)
  have hCI : env.locals ≠ h₁.objs.size := Nat.ne_of_lt (let ⟨_, _, _, e, _⟩ := hn₁; hlt e)
  have hup₁ : Up hB h₁ := fun b ob e => hs₁.extBut b ob (fun q => by subst q; rw [hBC] at e; cases e) (up b ob e)
  refine seg_For (wpAny_Name (wpAny_loadName_local hkind o.kg hn₁ hgr (wpAny_pyIter_list hL₁ fun p => ?_)) (by decide)) (fun x => rfl)
  have hBI : hB.get? h₁.objs.size = none := by
    cases q : hB.get? h₁.objs.size with
    | none => rfl
    | some ob => exact absurd (hlt (hup₁ _ _ q)) (Nat.lt_irrefl _)
  have kI : ∀ b ob, h₁.get? b = some ob → (h₁.push { cls := .type "list_iterator", data := .fields #[.ref l, .int 0 0] }).get? b = some ob := fun b ob e => Heap.get?_push_of_some _ e
  have hit₁ : (h₁.push { cls := .type "list_iterator", data := .fields #[.ref l, .int 0 0] }).IsListIter h₁.objs.size l 0 ∧ (h₁.push { cls := .type "list_iterator", data := .fields #[.ref l, .int 0 0] }).IsList l vals :=
    ⟨⟨_, Heap.get?_push_size _ rfl, rfl, rfl⟩, hL₁.push _⟩
  have hns₁ := hn₁.keeps kI
  have hsI : s.heap.get? h₁.objs.size = none := by
    cases q : s.heap.get? h₁.objs.size with
    | none => rfl
    | some ob => exact absurd (Heap.lt_size q) (by rw [hs₁.1]; exact Nat.lt_irrefl _)
  have kS : ∀ b ob, b ≠ env.locals → s.heap.get? b = some ob → (h₁.push { cls := .type "list_iterator", data := .fields #[.ref l, .int 0 0] }).get? b = some ob := fun b ob hb e => kI b ob (hs₁.extBut b ob hb e)
  have hupI : Up hB (h₁.push { cls := .type "list_iterator", data := .fields #[.ref l, .int 0 0] }) := fun b ob e => kI b ob (hup₁ b ob e)
  clear hL₁ hup₁
  -- the loop's first turn
  generalize hK : backK env _ _ _ _ = K
  generalize hfsd : [Frame.ret K none (id false) (id []) (Code.func (gStart P s1 s2 s3 f1 f2 f3 c5) env) p []] = fs
  have a' : AOk k (A.over (.forLoop (.Name "interval" f1) (.ref h₁.objs.size) (gBody P) [] env) fs) := by rw [← hfsd]; exact aok_for ao
  have hfr' : (A.over (.forLoop (.Name "interval" f1) (.ref h₁.objs.size) (gBody P) [] env) fs).frames = some (env :: outer) := by
    rw [← hfsd]
    show pushEnvs [] (pushEnvs [env] A.frames) = _
    rw [hfr]; rfl
  generalize hA' : A.over (.forLoop (.Name "interval" f1) (.ref h₁.objs.size) (gBody P) [] env) fs = A' at a' hfr'
  have W := Walks.list (prog := prog) (w := w) (A := A') a'.handled h₁.objs.size l hlI vals
  have hlen : vals.size = zs.length + 1 := by have := hv.length; simpa using this
  refine seg_forLoop ?_
  rw [hA']
  refine W.item 0 _ _ _ (by omega) hit₁ fun v h₂ tk₂ hPv st₂ hk₂ => ?_
  obtain ⟨t, rfl⟩ := at_int hv hPv
  refine wpAny_assign_Name (wpAny_storeName_local o.ki (hns₁.at' fun b e => hk₂ _ _ (by simpa using hCI) e) (fun h₃ hn₃ hs₃ => ?_) o.plain)
  have kS₃ : ∀ b ob, b ≠ env.locals → s.heap.get? b = some ob → h₃.get? b = some ob := fun b ob hb e => hs₃.extBut b ob hb (hk₂ b ob (fun q => by simp at q; rw [q, hsI] at e; cases e) (kS b ob hb e))
  have hup₃ : Up hB h₃ := fun b ob e => kS₃ b ob (fun q => by subst q; rw [hBC] at e; cases e) (up b ob e)
  have hrdi : ∀ s' : Shared, (∀ b ob, h₃.get? b = some ob → s'.heap.get? b = some ob) → Rd env gNs [.undef, .undef, .int 0] s'.heap := by
    intro s' ku j p hp hpu
    match j, hp with
    | 0, hp => cases hp; exact absurd rfl hpu
    | 1, hp => cases hp; exact absurd rfl hpu
    | 2, hp =>
      cases hp
      exact ⟨"interval", .int 0 t, rfl, .inl ⟨o.ki, _, hn₃.keeps ku, by simp⟩, ⟨t, rfl⟩⟩
    | j + 3, hp => cases hp
  have Tcm : TOk prog w hB k sc gNs (.Compare (.Name "interval" P.a1) [.Eq] [.Name "CHAR_MAX" P.a2] P.a3) (cmpF .Eq (fun m => PV.get? m 2) (fun _ => some (.int 127))) :=
    T_cmp (E_name 2 rfl rfl) (E_glob gd o.gcm rfl hcm) rfl
  have T0 : TOk prog w hB k sc gNs (.Compare (.Name "interval" P.b1) [.Eq] [.Constant (.int 0) P.c4 P.b2] P.b3) (cmpF .Eq (fun m => PV.get? m 2) (fun _ => some (.int 0))) :=
    T_cmp (E_name 2 rfl rfl) E_int rfl
  refine seg_st (wpAny_If ?_)
  rw [hA']
  refine Tcm A' env _ _ false _ _ a' o.eo hup₃ (hrdi _ fun _ _ e => e) rfl fun s₄ k₄ => ?_
  rw [if_neg (by decide)]
  refine wpAny_execs_nil ?_
  dsimp only
  rw [execs_cons_wrap]
  refine seg_If ?_
  rw [hA']
  have ku₄ : ∀ b ob, h₃.get? b = some ob → s₄.heap.get? b = some ob := k₄.up
  refine T0 A' env s₄ _ true _ _ a' o.eo (fun b ob e => ku₄ b ob (hup₃ b ob e)) (hrdi s₄ ku₄) rfl fun s₅ k₅ => ?_
  have ku₅ : ∀ b ob, h₃.get? b = some ob → s₅.heap.get? b = some ob := fun b ob e => k₅.up b ob (ku₄ b ob e)
  rw [if_pos rfl]
  have hvl' : (if ("last_interval" : Str) = "interval" then some (Value.int 0 t) else if ("last_interval" : Str) = "last_interval" then some Value.none else ml "last_interval") = some .none := by rw [if_neg (by decide), if_pos rfl]
  have hn₅ := hn₃.keeps ku₅
  refine seg_st (wpAny_If ?_)
  rw [hA']
  refine wpAny_isTrue_Compare1 (wpAny_Name (wpAny_loadName_local hkind o.kl hn₅ hvl' (Constant_none (wpAny_is_self rfl (wpAny_truthy_bool ?_)))) (by decide)) rfl
  rw [if_pos rfl]
  refine wpAny_execs_cons (Raise_madeB PySem.F.excCall_ValueError PySem.F.excRaise_ValueError a'.handled (gd.lookB o.eo (fun b ob e => ku₅ b ob (hup₃ b ob e)) o.gve hve (by decide +kernel) (by decide +kernel) (by rfl) ⟨rfl, args_cons (Constant_str (args_nil ⟨by rw [sizeLine_eq]; show 1 ≤ _; omega, fun h₆ e hM => ?_⟩))⟩))
  obtain ⟨h₄, tk₄, rfl, _⟩ := k₄
  obtain ⟨h₅, tk₅, rfl, _⟩ := k₅
  replace ku₅ : ∀ b ob, h₃.get? b = some ob → h₅.get? b = some ob := ku₅
  replace hM : Heap.MadeExc h₅ h₆ e "ValueError" _ := hM
  have hmem : ∀ b, b ∈ (env :: outer).filterMap (·.frame) → b = env.locals ∨ b ∈ outer.filterMap (·.frame) := fun b hb => by
    rw [List.filterMap_cons, hframe] at hb
    exact List.mem_cons.mp hb
  have kS₅ : ∀ b ob, b ≠ env.locals → s.heap.get? b = some ob → h₅.get? b = some ob := fun b ob hb e => ku₅ b ob (kS₃ b ob hb e)
  have hin : ∀ env' ∈ (env :: outer), ∀ b, env'.frame = some b → b ∈ (env :: outer).filterMap (·.frame) := fun env' he b hb => List.mem_filterMap.mpr ⟨env', he, hb⟩
  have hFF : h₅.FunFrames (hideAll h₅ ((env :: outer).filterMap (·.frame))) (env :: outer) := by
    refine Heap.FunFrames.cons (by rw [hkind]; nofun) hframe hn₅ (hideAll_none _ (hin env (List.mem_cons_self ..) _ hframe)) ?_
    exact funFrames_hide (FunFrames.at hof fun b hb ob e => kS₅ b ob (fun q => hCo (q ▸ hb)) e) fun env' he b hb => hin env' (List.mem_cons_of_mem _ he) b hb
  generalize hBe : hideAll h₅ ((env :: outer).filterMap (·.frame)) = B at hFF
  have hBs : B.StaysIn h₅ := fun b ob e => of_hideAll _ (hBe ▸ e)
  have hBk : ∀ b ob, s.heap.get? b = some ob → b ≠ env.locals → b ∉ outer.filterMap (·.frame) → B.get? b = some ob := fun b ob e hb hm => by
    rw [← hBe]
    exact hideAll_get _ (kS₅ b ob hb e) fun q => (hmem b q).elim hb hm
  refine seg_noteH ?_
  rw [hA']
  refine note_first hfr' hframe hBs hFF hM fun h₇ t' R₇ T₇ n₇ u₇ => ?_
  subst hfsd
  refine seg_leaf (.error (.ref e)) ?_
  rw [← hK]
  refine seg_backK (cameBack_held hframe R₇ fun h₈ R₈ u₈ => ?_)
  refine seg_wrap ?_
  unfold leaving
  refine wpAny_bind (wpAny_noteFrame_againW hframe R₈.2.2.2 (wpAny_landsW R₈ fun h₉ F₉ u₉ => ?_))
  have u₆₉ : h₆.UpToSlots h₉ := (u₇.trans u₈).trans u₉
  have F₉' : Heap.FlyingW B outer e (.type "ValueError") (.ref t') h₉ := by
    obtain ⟨k1, k2, ⟨_, _, k3⟩, k4⟩ := F₉
    exact ⟨k1, k2, k3, k4⟩
  refine seg_end (.error (.ref e)) ⟨e, rfl, F₉'.there, ⟨oG, nm, qn, F₉'.1 _ _ (hBk a oG hoG ?_ ?_), hcG, hdG, hsG⟩, hP e t' _ B h₉ _ F₉' (T₇.of_slots (u₈.trans u₉)) n₇ hBk fun b ob e' hb hd => u₆₉ b ob (hM.keeps b ob (kS₅ b ob hb e')) hd⟩
  · intro q
    obtain ⟨es, ep, hd⟩ := ns_notSeq hn (q ▸ hoG)
    rw [hdG] at hd; cases hd
  · intro q
    obtain ⟨_, o', ho', hd⟩ := hof.mem q
    rw [hoG] at ho'; cases ho'
    exact hd _ hdG
end
end Mine
end
section
open PySem PySem.W PySem.Calls PyProof.Rows
namespace Mine

section
variable {prog : Program} {w : World} {hB : Heap} {k : Nat} {sc : Scope}
variable {mg mb : Str → Option Value} {defs : List DefItem} {names : List Str}

set_option maxHeartbeats 4000000 in
theorem told_tryRaise (gd : Gd hB mg mb defs names) (hve : ("ValueError" : Str) ∈ names) (hst : ("str" : Str) ∈ names) {d : DefItem} {P : GP} (dg : GenDef d P) (hat : d.At mg hB) {f : Addr} (hdn : d.name = "_grouping_intervals") (hf : mg "_grouping_intervals" = some (.ref f))
    (hcm : ∃ t, mg "CHAR_MAX" = some (.int 127 t)) (hgi : sc.names.lookup ("_grouping_intervals" : Str) = some .globalImplicit) (hgv : sc.names.lookup ("ValueError" : Str) = some .globalImplicit)
    (hgs : sc.names.lookup ("str" : Str) = some .globalImplicit) (hloc : ∀ x ∈ toldNs, sc.names.lookup x = some .local)
    {px q1 q2 q3 pf pt y1 y2 y3 y4 y5 y6 : Pos} {body : List Stmt}
    {A : Around} {env : Env} {s₀ s : Shared} {vals : List Value} {zs : List Int} {outer : List Env} {hX : Heap} {Q : Flow → Shared → Prop} {E : Value → Shared → Prop}
    (a : AOk (k + 3) A) (eo : EnvOk sc env) (es : EnvS s₀ toldNs env) (u : Up hB s₀.heap) (x₀ : StR true s₀ env toldNs vals [.blist (0 :: zs), .olist [], .undef, .undef] s)
    (hfr : A.frames = some (env :: outer)) (hframe : env.frame = some env.locals) (hof : s₀.heap.FunFrames hX outer) (hXB : ∀ b, hX.get? b = none → hB.get? b = none)
    (h : ∀ s' t, (∀ b o, s₀.heap.get? b = some o → b ∉ outer.filterMap (·.frame) → s'.heap.get? b = some o) →
      (∀ b o, s₀.heap.get? b = some o → (∀ vs, o.data ≠ .fields vs) → ∃ sl, s'.heap.get? b = some { o with slots := sl }) → GRel true s₀ s' → Q (.ret (.str "invalid grouping" t)) s') :
    wpAny (model prog w) A (exec (.Try [.For (.Name "size" px) (.Call (.Name "_grouping_intervals" q1) [.Name "row" q2] [] q3) body [] pf]
      [.ExceptHandler (some (.Name "ValueError" y1)) (some "refusal") [.Return (some (.Call (.Name "str" y2) [.Name "refusal" y3] [] y4)) y5] y6] [] [] pt) env) Q E s := by
  have ek : ∀ n, env.kindOf n = sc.names.lookup n := fun n => by unfold Env.kindOf; rw [eo.scope]
  have hloc' : ∀ x ∈ toldNs, env.kindOf x = some .local := fun x hx => by rw [ek]; exact hloc x hx
  have hkind : env.scope.kind = .function := by rw [eo.scope]; exact eo.kind
  have hplain : (env.scope.kind == .class || (env.scope.kind == .module && env.locals != env.globals)) = false := by rw [hkind]; rfl
  obtain ⟨v0, v1, v2, v3, rfl⟩ : ∃ v0 v1 v2 v3, vals = [v0, v1, v2, v3] := by
    have := x₀.lenV
    match vals, this with
    | [v0, v1, v2, v3], _ => exact ⟨v0, v1, v2, v3, rfl⟩
  obtain ⟨l, us, rfl, hLl, hIl⟩ := x₀.vr 0 _ _ rfl rfl nofun
  obtain ⟨ml, hn, hml⟩ := x₀.loc
  have hml0 : ml "row" = some (.ref l) := hml 0 "row" rfl (hloc' "row" (by simp)) nofun
  have hL0 : s₀.heap.get? env.locals = none := by
    cases q : s₀.heap.get? env.locals with
    | none => rfl
    | some o => exact absurd (Heap.lt_size q) (Nat.not_lt.mpr es.newL)
  have hLs : env.locals < s.heap.objs.size := let ⟨_, _, _, e, _⟩ := hn; Heap.lt_size e
  have upS : Up hB s.heap := u.of x₀
  have hfo : ∃ o fd, hB.get? f = some o ∧ o.data = .func fd := by
    obtain ⟨f', c, Pt, o, pm, doc, h1, h2, h3, _⟩ := hat
    rw [hdn, hf] at h1; cases h1
    exact ⟨o, _, h2, h3⟩
  obtain ⟨of, fd, hof', hfd⟩ := hfo
  have hLo : env.locals ∉ outer.filterMap (·.frame) := fun q => by
    obtain ⟨_, o', ho', _⟩ := hof.mem q
    rw [hL0] at ho'; cases ho'
  rw [arm_exec_Try]
  refine wpAny_bind (wpAny_standAt (wpAny_tryStmt_except ?_))
  refine wpAny_execs_cons (wpAny_For (Call_ (gd.lookG eo upS hgi hf (by rfl) (callWith_def hfd (args_cons (wpAny_Name (wpAny_loadName_local hkind (hloc' "row" (by simp)) hn hml0 (args_nil ⟨upS _ _ hof', ?_⟩)) (by decide)) rfl) rfl)) (by rfl)) (fun x => rfl))
  refine call_gen gd hat (by rw [hdn]; exact hf) dg.gen dg.co dg.kind dg.ncell dg.gr dg.bind (a.less (Nat.le_refl _)) upS fun genv h' tk e1 e2 e3 e4 e5 hnC ku hsz hG => ?_
  refine wpAny_pyIter_gen hG ?_
  obtain ⟨s1, s2, s3, f1, f2, f3, c5, hbody⟩ := dg.body
  have ho := dg.ok e1 e3 e4
  have hCn : hB.get? genv.locals = none := by
    cases q : hB.get? genv.locals with
    | none => rfl
    | some o => exact absurd (Heap.lt_size (upS _ _ q)) (by rw [e2]; exact Nat.lt_irrefl _)
  have hCs : s.heap.get? genv.locals = none := by
    cases q : s.heap.get? genv.locals with
    | none => rfl
    | some o => exact absurd (Heap.lt_size q) (by rw [e2]; exact Nat.lt_irrefl _)
  have hofs : s.heap.FunFrames hX outer := FunFrames.at hof fun b _ o e => x₀.keep b o e
  have hLX : (hideAll hX [env.locals]).get? env.locals = none := hideAll_none _ (by simp)
  have hofh : h'.FunFrames (hideAll h' ((env :: outer).filterMap (·.frame))) (env :: outer) := by
    have hin : ∀ env' ∈ (env :: outer), ∀ b, env'.frame = some b → b ∈ (env :: outer).filterMap (·.frame) := fun env' he b hb => List.mem_filterMap.mpr ⟨env', he, hb⟩
    refine Heap.FunFrames.cons (by rw [hkind]; nofun) hframe (hn.keeps ku) (hideAll_none _ (hin env (List.mem_cons_self ..) _ hframe)) ?_
    exact funFrames_hide (FunFrames.at hofs fun b hb ob e => ku b ob e) fun env' he b hb => hin env' (List.mem_cons_of_mem _ he) b hb
  have hCo : genv.locals ∉ (env :: outer).filterMap (·.frame) := fun q => by
    rw [List.filterMap_cons, hframe] at q
    rcases List.mem_cons.mp q with q | q
    · exact absurd q (by rw [e2]; exact Nat.ne_of_gt hLs)
    · obtain ⟨_, o', ho', _⟩ := hofs.mem q
      rw [hCs] at ho'; cases ho'
  refine codeAny_forLoop (fun n s₁ => s₁ = { s with gens := s.gens.push (.fresh (.func d.body genv)), toks := tk, heap := h' }) ?_ 0 rfl
  rintro n s₁ rfl
  refine next_raise (gs := .fresh (.func d.body genv)) (P := fun e s₀' s₁ => ∃ t tkk B hh tk', s₁ = { s₀' with heap := hh, toks := tk' } ∧ Heap.FlyingW B (env :: outer) e (.type "ValueError") (.ref t) hh ∧ hh.TupAt t [.str "invalid grouping" tkk] ∧ B.get? t = none ∧
      (∀ b o, h'.get? b = some o → b ≠ genv.locals → b ∉ (env :: outer).filterMap (·.frame) → B.get? b = some o) ∧
      (∀ b o, h'.get? b = some o → b ≠ genv.locals → (∀ vs, o.data ≠ .fields vs) → ∃ sl, hh.get? b = some { o with slots := sl }))
    (gd.lim.keeps fun b o e => ku b o (upS b o e)) a.room hG (Array.getElem?_push_size ..) ⟨rfl, ?_⟩ ?_
  · rw [hbody]
    exact gen_raise gd hve (ml := fun y => if y = ("grouping" : Str) then some (.ref l) else none) (k := k + 1) (a.less (Nat.le_refl _)).in1 ho e5 hcm hCn hIl (fun b o e => ku b o (upS b o e)) hnC (by simp) (isList_seq hLl (.of ku))
      (outer := env :: outer) (by show pushEnvs [] A.frames = _; rw [hfr]; rfl) hofh hCo hG fun e t tkk B hh tk' F1 T1 n1 k1 sl1 => ⟨t, tkk, B, hh, tk', rfl, F1, T1, n1, k1, sl1⟩
  · rintro e s₁ ⟨t, tkk, B, hh, tk', rfl, F1, T1, n1, k1, sl1⟩
    refine wpAny_looks_onW hfr hframe F1 fun h₂ R₂ u₂ => ?_
    refine cameBack_held hframe R₂ fun h₃ R₃ u₃ => ?_
    refine wpAny_noteFrame_againW hframe R₃.2.2.2 (wpAny_landsW R₃ fun h₄ F₄ u₄ => ?_)
    have u₄' : hh.UpToSlots h₄ := (u₂.trans u₃).trans u₄
    have hb₄ : ∀ b o, s₀.heap.get? b = some o → b ∉ outer.filterMap (·.frame) → B.get? b = some o := fun b o e' hb => by
      have es' := x₀.keep b o e'
      refine k1 b o (ku b o es') (fun q => by rw [q, hCs] at es'; cases es') fun q => ?_
      rw [List.filterMap_cons, hframe] at q
      rcases List.mem_cons.mp q with q | q
      · rw [q, hL0] at e'; cases e'
      · exact hb q
    have hBup : ∀ b o, hB.get? b = some o → b ∉ outer.filterMap (·.frame) := fun b o e' q => by
      rw [hXB b (hof.mem q).1] at e'; cases e'
    have up₄ : Up hB h₄ := fun b o e' => F₄.1 b o (hb₄ b o (u b o e') (hBup b o e'))
    refine wpAny_handleBy_builtin_as (X := "ValueError") (T := "ValueError") (b := true) PySem.F.excRaise_ValueError.isExc (by rw [isSubtype_type]; kernel_rfl) (by rw [isSubtype_type]; kernel_rfl)
      (gd.lookB eo up₄ hgv hve (by decide +kernel) (by decide +kernel) (by rfl) ⟨rfl, F₄.there, ?_⟩)
    rw [if_pos rfl]
    refine lands_againW F₄ fun h₅ F₅ u₅ => ?_
    have u₅' : hh.UpToSlots h₅ := u₄'.trans u₅
    have hLC : env.locals ≠ genv.locals := by rw [e2]; exact Nat.ne_of_lt hLs
    have hn₅ : h₅.Ns env.locals ml := by
      obtain ⟨o, es', ep, ho', hd, r⟩ := hn.keeps ku
      obtain ⟨sl, hs⟩ := sl1 _ o ho' hLC (fun vs q => by rw [hd] at q; cases q)
      exact u₅'.ns ⟨_, es', ep, hs, hd, r⟩
    have up₅ : Up hB h₅ := fun b o e' => F₅.1 b o (hb₄ b o (u b o e') (hBup b o e'))
    refine wpAny_storeName_local (hloc' "refusal" (by simp)) hn₅ (fun h₆ hn₆ hs₆ => ?_) hplain
    have up₆ : Up hB h₆ := fun b o e' => hs₆.extBut b o (fun q => by
      have := u b o e'
      rw [q, hL0] at this; cases this) (up₅ b o e')
    obtain ⟨oe, vs, hoe, hoc, hod, hov⟩ := F₅.first
    have heL : e ≠ env.locals := fun q => by
      obtain ⟨es', ep, hd⟩ := ns_notSeq hn₅ (q ▸ hoe)
      rw [hod] at hd; cases hd
    have T₅ : h₅.TupAt t [.str "invalid grouping" tkk] := T1.of_slots u₅'
    obtain ⟨ot, nt, hot, hotc, hotd⟩ := T₅
    have htL : t ≠ env.locals := fun q => by
      obtain ⟨es', ep, hd⟩ := ns_notSeq hn₅ (q ▸ hot)
      rw [hotd] at hd; cases hd
    have hEx : h₆.ExcAt e "ValueError" (.ref t) := ⟨oe, vs, hs₆.extBut _ _ heL hoe, hoc, hod, hov⟩
    have hTu : h₆.TupAt t [.str "invalid grouping" tkk] := ⟨ot, nt, hs₆.extBut _ _ htL hot, hotc, hotd⟩
    refine wpAny_execs_cons (wpAny_Return_some (Call_ (gd.lookB eo up₆ hgs hst (v := .type "str") (by decide +kernel) (by decide +kernel) (by rfl) (callWith_excType rfl (Calls.evalArgs_plain (args_cons (wpAny_Name (wpAny_loadName_local hkind (hloc' "refusal" (by simp)) hn₆ (v := .ref e) (by simp) (args_nil ?_)) (by decide))))))))
    refine PySem.P.str_of_exc_one PySem.F.excStr_ValueError ?_ hEx hTu ?_
    · have := a.units
      show A.units + 2 < cLine
      omega
    · refine wpAny_nameGoes (hloc' "refusal" (by simp)) hn₆ hplain fun h₇ m' hn₇ hs₇ => ?_
      have kL : ∀ b o, b ≠ env.locals → h₅.get? b = some o → h₇.get? b = some o := fun b o hb e' => hs₇.extBut b o hb (hs₆.extBut b o hb e')
      refine h _ tkk (fun b o e' hb => ?_) (fun b o e' hd => ?_) ?_
      · exact kL b o (fun q => by rw [q, hL0] at e'; cases e') (F₅.1 b o (hb₄ b o e' hb))
      · have es' := x₀.keep b o e'
        obtain ⟨sl, hs⟩ := sl1 b o (ku b o es') (fun q => by rw [q, hCs] at es'; cases es') hd
        obtain ⟨sl', hs'⟩ := u₅' b _ hs hd
        exact ⟨sl', kL b _ (fun q => by rw [q, hL0] at e'; cases e') hs'⟩
      · refine ⟨x₀.rel.1, fun ab => ?_⟩
        have b1 : AllBare (s.gens.push (.fresh (.func d.body genv))) := AllBare.push (x₀.rel.2 ab) rfl
        have b2 := AllBare.set (s := { s with gens := s.gens.push (.fresh (.func d.body genv)) }) (g := s.gens.size) (x := .running) b1 rfl
        exact AllBare.set (s := ({ s with gens := s.gens.push (.fresh (.func d.body genv)) } : Shared).setGen s.gens.size .running) (g := s.gens.size) (x := .finished) b2 rfl
end
end Mine
end
section
open PySem PySem.W PySem.Calls PyProof.Rows
namespace Mine

theorem genDef : ∃ P, GenDef (itm 2) P := ⟨⟨_, _, _, _, _, _, _, _, _, _, _, _, _, _, _, _, _, _, _, _, _, _, _, _, _, _, _, _, _, _, _, _⟩, {
  gen := rfl, co := rfl, kind := rfl, ncell := (by decide +kernel), nfree := (by decide +kernel), gr := rfl, li := rfl, iv := rfl, cm := rfl, ve := rfl
  bind := fun _ _ _ _ => rfl
  body := ⟨_, _, _, _, _, _, _, rfl⟩ }⟩

noncomputable def toldG : List PV → Option PV
  | [p] => match p.arg with
    | .blist zs => if zs.getD 0 1 ≠ 0 then some (.list (toldL 6 0 zs)) else none
    | _ => none
  | _ => none

theorem toldLoc : ∀ x ∈ toldNs, (itm 7).scope.names.lookup x = some .local := by decide +kernel
theorem toldOk : DefOk (itm 7) ["row"] ["told", "size", "refusal"] where
  kind := rfl
  co := rfl
  gen := rfl
  nodup := by decide +kernel
  kinds := by decide +kernel
  nofree := by decide +kernel
  bind := by
    intro pm cd doc vals hl
    match vals, hl with
    | [v], _ => rfl

section
variable {prog : Program} {w : World} {hB : Heap} {k : Nat}
variable {mg mb : Str → Option Value} {defs : List DefItem}

theorem seqF_eq {F G : List PV → Option (PF × List PV)} {m m' : List PV} (h : F m = some (.next, m')) : seqF F G m = G m' := by unfold seqF; rw [h]

theorem C_told (g : Gd hB mg mb defs usedB) (h2 : (itm 2).At mg hB) (h7 : (itm 7).At mg hB) {f2 f7 : Addr} (hf2 : mg "_grouping_intervals" = some (.ref f2)) (hf7 : mg "_law_told" = some (.ref f7)) (hcm : ∃ t, mg "CHAR_MAX" = some (.int 127 t)) :
    COkG prog w hB true (k + 4) (.ref f7) toldG := by
  obtain ⟨P, dg⟩ := genDef
  have W : SOk prog w hB true (k + 3) (itm 7).scope (([("row" : Str)] : List Str) ++ [("told" : Str), "size", "refusal"]) (itm 7).body _ :=
    S_cons (S_newlist 1 rfl (by rintro ⟨⟩ rfl; rfl)) (S_cons (S_toldTry g (by decide +kernel) dg h2 rfl hf2 hcm rfl rfl toldLoc rfl) (S_cons (S_retOwn 1 rfl rfl) S_nil))
  intro A s vs ps p Q E a up hl hv hG h
  refine C_def g h7 hf7 toldOk W A s vs ps p Q E a up hl hv ?_ h
  unfold toldG at hG
  split at hG
  · rename_i q
    split at hG
    · rename_i zs hq
      by_cases hz : zs.getD 0 1 ≠ 0
      · rw [if_pos hz] at hG
        obtain rfl := Option.some.inj hG
        show resF 3 _ [q] = _
        have e1 : ([q].map PV.arg ++ List.replicate 3 .undef) = [.blist zs, .undef, .undef, .undef] := by
          show [q.arg, .undef, .undef, .undef] = _
          rw [hq]
        unfold resF
        rw [e1]
        have e2 : tryF [.blist zs, .olist [], .undef, .undef] = some (.next, [.blist zs, .olist (toldL 6 0 zs), .undef, .undef]) := by
          unfold tryF
          dsimp only
          rw [if_pos hz]
        rw [seqF_eq (m' := [.blist zs, .olist [], .undef, .undef]) rfl, seqF_eq e2]
        rfl
      · rw [if_neg hz] at hG; cases hG
    · cases hG
  · cases hG

/-- told of a row that starts with 0 -/
theorem told_raises (g : Gd hB mg mb defs usedB) (h2 : (itm 2).At mg hB) (h7 : (itm 7).At mg hB) {f2 f7 : Addr} (hf2 : mg "_grouping_intervals" = some (.ref f2)) (hf7 : mg "_law_told" = some (.ref f7)) (hcm : ∃ t, mg "CHAR_MAX" = some (.int 127 t))
    {A : Around} {s : Shared} {v : Value} {p : PV} {zs : List Int} {outer : List Env} {Q : Value → Shared → Prop} {E : Value → Shared → Prop}
    (a : AOk (k + 4) A) (up : Up hB s.heap) (hv : VR s.heap v p) (hp : p.arg = .blist (0 :: zs)) (hfr : A.frames = some outer) (hof : s.heap.FunFrames hB outer)
    (h : ∀ s' t, (∀ b o, s.heap.get? b = some o → b ∉ outer.filterMap (·.frame) → s'.heap.get? b = some o) →
      (∀ b o, s.heap.get? b = some o → (∀ vs, o.data ≠ .fields vs) → ∃ sl, s'.heap.get? b = some { o with slots := sl }) → GRel true s s' → Q (.str "invalid grouping" t) s') :
    wpAny (model prog w) A (call (.ref f7) [v]) Q E s := by
  obtain ⟨P, dg⟩ := genDef
  refine call_raw (gm := true) (ps := [p]) g h7 hf7 toldOk a up rfl (fun i v' q h1 h2 => ?_) rfl fun env s₁ eo es hframe _ x₀ => ⟨fun _ _ => False, ?_, fun _ _ e => e⟩
  · match i, h1, h2 with
    | 0, h1, h2 => cases h1; cases h2; exact hv
    | i + 1, h1, h2 => cases h1
  · have e1 : ([p].map PV.arg ++ List.replicate 3 .undef) = [.blist (0 :: zs), .undef, .undef, .undef] := by
      show [p.arg, .undef, .undef, .undef] = _
      rw [hp]
    rw [show [("told" : Str), "size", "refusal"].length = 3 from rfl, e1] at x₀
    have a' : AOk (k + 3) (A.deeper env) := a.deeper
    show wpAny (model prog w) (A.deeper env) (execs (_ :: _) env) _ _ s₁
    refine wpAny_execs_cons (S_newlist (prog := prog) (w := w) (hB := hB) (gm := true) (k := k + 3) (sc := (itm 7).scope) (ns := toldNs) 1 rfl (by rintro ⟨⟩ rfl; rfl) (A.deeper env) env s s₁ _ _ _ _ _ _ a' eo es up x₀ rfl fun fl s₂ vals₂ x₂ k₂ hfl => ?_)
    cases fl with
    | next =>
      refine wpAny_execs_cons (told_tryRaise g (by decide +kernel) (by decide +kernel) dg h2 rfl hf2 hcm rfl rfl rfl toldLoc a' eo es up x₂ (Around.frames_deeper hfr) hframe hof (fun _ e => e) fun s' t k1 k2 k3 => ?_)
      exact ⟨_, rfl, h s' t k1 k2 k3⟩
    | brk => exact hfl.elim
    | cont => exact hfl.elim
    | ret v => exact hfl.elim
end
end Mine
end
section
open PySem PySem.W PySem.Calls PyProof.Rows
namespace Mine

noncomputable def bits (n : Nat) : Nat := if n = 0 then 0 else n.log2 + 1
theorem intBits_nat (n : Nat) : Builtin.Int.intBits (n : Int) = bits n := by
  unfold Builtin.Int.intBits bits
  by_cases h : n = 0
  · subst h; rfl
  · have : ((n : Int) == 0) = false := by simp [h]
    rw [this, if_neg h]
    simp
theorem cast_beq0 (x : Nat) : (((x : Nat) : Int) == 0) = (x == 0) := by rw [Bool.eq_iff_iff]; simp
noncomputable def single (n : Nat) : Bool := n != 0 && (n &&& (n - 1)) == 0
noncomputable def highG : List PV → Option PV
  | [.int (.ofNat n)] => some (.int ((bits n : Int) - 1))
  | _ => none

section
variable {prog : Program} {w : World} {hB : Heap} {k : Nat}
variable {mg mb : Str → Option Value} {defs : List DefItem}

theorem C_of {gm : Bool} (g : Gd hB mg mb defs usedB) {d : DefItem} {pn rest : List Str} {f : Addr} {F : List PV → Option (PF × List PV)} {G : List PV → Option PV} (hat : d.At mg hB) (hf : mg d.name = some (.ref f)) (ok : DefOk d pn rest)
    (W : SOk prog w hB gm k d.scope (pn ++ rest) d.body F) (hG : ∀ ps p, G ps = some p → ps.length = pn.length ∧ resF rest.length F ps = some p) : COkG prog w hB gm (k + 1) (.ref f) G := by
  intro A s vs ps p Q E a up hl hv hg h
  obtain ⟨h1, h2⟩ := hG ps p hg
  exact C_def g hat hf ok W A s vs ps p Q E a up hl hv ((if_pos h1).trans h2) h

theorem highOk : DefOk (itm 5) ["value"] [] where
  kind := rfl
  co := rfl
  gen := rfl
  nodup := by decide +kernel
  kinds := by decide +kernel
  nofree := by decide +kernel
  bind := by
    intro pm cd doc vals hl
    match vals, hl with
    | [v], _ => rfl

theorem C_high (g : Gd hB mg mb defs usedB) (hat : (itm 5).At mg hB) {f : Addr} (hf : mg "_high_bit" = some (.ref f)) : COk prog w hB (k + 1) (.ref f) highG := by
  have W : SOk prog w hB false k (itm 5).scope (([("value" : Str)] : List Str) ++ []) (itm 5).body _ :=
    (S_cons (S_ret ((E_sub (E_bitlen (E_name 0 rfl rfl) (fun _ => rfl) rfl) E_int)).s.g) S_nil)
  refine (C_of g hat hf highOk W fun ps p hG => ?_).p
  unfold highG at hG
  split at hG
  · rename_i n
    obtain rfl := Option.some.inj hG
    refine ⟨rfl, ?_⟩
    rw [← intBits_nat]
    rfl
  · cases hG

noncomputable def singleG : List PV → Option PV
  | [.int (.ofNat n)] => some (.bool (single n))
  | _ => none
theorem singleOk : DefOk (itm 4) ["num"] [] where
  kind := rfl
  co := rfl
  gen := rfl
  nodup := by decide +kernel
  kinds := by decide +kernel
  nofree := by decide +kernel
  bind := by
    intro pm cd doc vals hl
    match vals, hl with
    | [v], _ => rfl
theorem C_single (g : Gd hB mg mb defs usedB) (hat : (itm 4).At mg hB) {f : Addr} (hf : mg "_is_single_bit" = some (.ref f)) : COk prog w hB (k + 1) (.ref f) singleG := by
  have W : SOk prog w hB false k (itm 4).scope (([("num" : Str)] : List Str) ++ []) (itm 4).body _ :=
    (S_cons (S_if (T_cmp (E_name 0 rfl rfl) E_int rfl).g (S_cons (S_ret (E_bool).s.g) S_nil) S_nil) (S_cons (S_aug 0 rfl rfl (E_sub (E_name 0 rfl rfl) E_int)) (S_cons (S_ret ((E_cmp (E_name 0 rfl rfl) E_int rfl)).s.g) S_nil)))
  refine (C_of g hat hf singleOk W fun ps p hG => ?_).p
  unfold singleG at hG
  split at hG
  · rename_i n
    obtain rfl := Option.some.inj hG
    refine ⟨rfl, ?_⟩
    cases n with
    | zero => rfl
    | succ n =>
      show some (PV.bool (Builtin.bitAnd ((n + 1 : Nat) : Int) (((n + 1 : Nat) : Int) - 1) == 0)) = _
      have e : (((n + 1 : Nat) : Int) - 1) = ((n : Nat) : Int) := by omega
      rw [e]
      show some (PV.bool ((((n + 1 &&& n : Nat) : Int)) == 0)) = _
      rw [cast_beq0]
      rfl
  · cases hG

/-- a loop whose body's work is a step -/
theorem forF_run {σ : Type} {i : Nat} {B : List PV → Option (PF × List PV)} (enc : PV → σ → List PV) (step : σ → Int → σ) (Inv : σ → Prop) (hset : ∀ kv st v, (enc kv st).set i (.int v) = enc (.int v) st) :
    ∀ (xs : List Int) (_ : ∀ st v, v ∈ xs → Inv st → B (enc (.int v) st) = some (.next, enc (.int v) (step st v)) ∧ Inv (step st v)) (kv : PV) (st : σ), Inv st →
      ∃ kv', forF i B xs (enc kv st) = some (.next, enc kv' (xs.foldl step st)) ∧ Inv (xs.foldl step st)
  | [], _, kv, st, hi => ⟨kv, rfl, hi⟩
  | v :: r, hB, kv, st, hi => by
    obtain ⟨h1, h2⟩ := hB st v (List.mem_cons_self ..) hi
    obtain ⟨kv', h3, h4⟩ := forF_run enc step Inv hset r (fun st v hv => hB st v (List.mem_cons_of_mem _ hv)) (.int v) (step st v) h2
    refine ⟨kv', ?_, h4⟩
    show (match B ((enc kv st).set i (.int v)) with | some (.next, m') => forF i B r m' | some (.brk, m') => some (.next, m') | some (.ret p, m') => some (.ret p, m') | none => none) = _
    rw [hset, h1]
    exact h3
end
end Mine
end
section
open PySem PySem.W PySem.Calls PyProof.Rows
namespace Mine

theorem add_xor_and : ∀ (a b : Nat), a + b = (a ^^^ b) + 2 * (a &&& b) := by
  intro a
  induction a using Nat.strongRecOn with
  | ind a ih =>
    intro b
    by_cases h : a = 0
    · subst h; simp
    · have := ih (a / 2) (by omega) (b / 2)
      have h1 : (a ^^^ b) / 2 = (a / 2) ^^^ (b / 2) := Nat.xor_div_two
      have h2 : (a &&& b) / 2 = (a / 2) &&& (b / 2) := Nat.and_div_two
      have h3 : (a ^^^ b) % 2 = (a + b) % 2 := by
        rcases Nat.mod_two_eq_zero_or_one a with p | p <;> rcases Nat.mod_two_eq_zero_or_one b with q | q
        all_goals (have := @Nat.xor_mod_two_pow a b 1; simp only [Nat.pow_one] at this; rw [this, p, q]; first | omega | (show 0 = _; omega) | (show 1 = _; omega))
      have h4 : (a &&& b) % 2 = (a % 2) * (b % 2) := by
        rcases Nat.mod_two_eq_zero_or_one a with p | p <;> rcases Nat.mod_two_eq_zero_or_one b with q | q
        all_goals (have := @Nat.and_mod_two_pow a b 1; simp at this; rw [this, p, q]; first | rfl | decide)
      rcases Nat.mod_two_eq_zero_or_one a with p | p <;> rcases Nat.mod_two_eq_zero_or_one b with q | q <;> rw [p, q] at h4 <;> omega
theorem xor_nat (a b : Nat) : Builtin.bitXor (a : Int) (b : Int) = ((a ^^^ b : Nat) : Int) := by
  rw [PyProof.Rows.bitXor_and]
  show (a : Int) + b - 2 * ((a &&& b : Nat) : Int) = _
  have := add_xor_and a b
  omega

/-- the def gives p -/
noncomputable def Ret (F : List PV → Option (PF × List PV)) (m : List PV) (p : PV) : Prop := ∃ m', F m = some (.ret p, m')
section
variable {F G : List PV → Option (PF × List PV)} {m m' : List PV} {p : PV}
theorem Ret.seq (h : F m = some (.next, m')) (r : Ret G m' p) : Ret (seqF F G) m p := by
  obtain ⟨m₂, h₂⟩ := r
  exact ⟨m₂, (seqF_eq h).trans h₂⟩
theorem Ret.ex {α : Type} {e : α → List PV} (h : ∃ a, F m = some (.next, e a)) (r : ∀ a, Ret G (e a) p) : Ret (seqF F G) m p := by
  obtain ⟨a, h⟩ := h
  exact Ret.seq h (r a)
theorem Nx.seq {r : Option (PF × List PV)} (h : F m = some (.next, m')) (h2 : G m' = r) : seqF F G m = r := (seqF_eq h).trans h2
theorem iteF_of {T : List PV → Option Bool} {b : Bool} {r : Option (PF × List PV)} (h : T m = some b) (h2 : (if b then F m else G m) = r) : iteF T F G m = r := by
  unfold iteF
  rw [h, ← h2]
  cases b <;> rfl
theorem bin_eq {op : Int → Int → Option PV} {F₁ F₂ : List PV → Option PV} {a b : Int} {r : Option PV} (h1 : F₁ m = some (.int a)) (h2 : F₂ m = some (.int b)) (h : op a b = r) : bin op F₁ F₂ m = r := by
  unfold bin
  rw [h1, h2]; exact h
noncomputable abbrev Ev (F : List PV → Option PV) (m : List PV) (n : Nat) : Prop := F m = some (.int (n : Int))
section
variable {F₁ F₂ : List PV → Option PV} {a b : Nat}
theorem Ev.xor (h1 : Ev F₁ m a) (h2 : Ev F₂ m b) : Ev (bin (fun a b => some (.int (Builtin.bitXor a b))) F₁ F₂) m (a ^^^ b) := bin_eq h1 h2 (by rw [xor_nat])
theorem Ev.add (h1 : Ev F₁ m a) (h2 : Ev F₂ m b) : Ev (bin (fun a b => some (.int (a + b))) F₁ F₂) m (a + b) := bin_eq h1 h2 rfl
theorem Ev.sub (h1 : Ev F₁ m a) (h2 : Ev F₂ m b) (h : b ≤ a) : Ev (bin (fun a b => some (.int (a - b))) F₁ F₂) m (a - b) := bin_eq h1 h2 (by rw [Int.ofNat_sub h])
theorem Ev.mul (h1 : Ev F₁ m a) (h2 : Ev F₂ m b) (ha : a < 2 ^ 60) (hb : b < 2 ^ 60) : Ev (bin (fun a b => if a.natAbs < 2 ^ 60 ∧ b.natAbs < 2 ^ 60 then some (.int (a * b)) else none) F₁ F₂) m (a * b) := bin_eq h1 h2 (by rw [if_pos ⟨ha, hb⟩]; rfl)
theorem Ev.pow (h1 : Ev F₁ m 2) (h2 : Ev F₂ m b) (hb : b < 1000) : Ev (bin (fun a b => if a = 2 ∧ 0 ≤ b ∧ b < 1000 then some (.int (2 ^ b.toNat)) else none) F₁ F₂) m (2 ^ b) := bin_eq h1 h2 (by
  rw [if_pos ⟨rfl, by omega, by omega⟩, Int.toNat_natCast, Int.natCast_pow]; rfl)
theorem Ev.div (h1 : Ev F₁ m a) (h2 : Ev F₂ m b) (hb : 0 < b) (hb' : b < 2 ^ 30) : Ev (bin (fun a b => if 0 < b ∧ b < 2 ^ 30 then some (.int (a.fdiv b)) else none) F₁ F₂) m (a / b) := bin_eq h1 h2 (by
  rw [if_pos ⟨by omega, by omega⟩, Int.fdiv_eq_ediv_of_nonneg _ (by omega)]; rfl)
theorem Ev.mod (h1 : Ev F₁ m a) (h2 : Ev F₂ m b) (hb : 0 < b) (hb' : b < 2 ^ 30) : Ev (bin (fun a b => if 0 < b ∧ b < 2 ^ 30 then some (.int (a.fmod b)) else none) F₁ F₂) m (a % b) := bin_eq h1 h2 (by
  rw [if_pos ⟨by omega, by omega⟩, Int.fmod_eq_emod_of_nonneg _ (by omega)]; rfl)
theorem Ev.eq (h1 : Ev F₁ m a) (h2 : Ev F₂ m b) : cmpF .Eq F₁ F₂ m = some (a == b) := (cmpF_eq h1 h2).trans (by
  show some ((a : Int) == (b : Int)) = _
  congr 1; rw [Bool.eq_iff_iff]; simp; omega)
theorem Ev.lt (h1 : Ev F₁ m a) (h2 : Ev F₂ m b) : cmpF .Lt F₁ F₂ m = some (decide (a < b)) := (cmpF_eq h1 h2).trans (by
  show some (decide ((a : Int) < (b : Int))) = _
  congr 1; simp)
theorem Ev.gt (h1 : Ev F₁ m a) (h2 : Ev F₂ m b) : cmpF .Gt F₁ F₂ m = some (decide (b < a)) := (cmpF_eq h1 h2).trans (by
  show some (decide ((b : Int) < (a : Int))) = _
  congr 1; simp)
theorem Ev.scl (h : Ev F₁ m a) : Ev (scl F₁) m a := by
  show (F₁ m).bind _ = _
  rw [h]; rfl
theorem Ev.set {i : Nat} (h : Ev F₁ m a) : setF i (Mine.scl F₁) m = some (.next, m.set i (.int (a : Int))) := by
  unfold setF
  rw [Ev.scl h]; rfl
end
theorem forF_runI {σ : Type} {i : Nat} {B : List PV → Option (PF × List PV)} (enc : PV → σ → List PV) (step : σ → Int → σ) (Inv : Nat → σ → Prop) (hset : ∀ kv st v, (enc kv st).set i (.int v) = enc (.int v) st) :
    ∀ (xs : List Int) (n : Nat) (_ : ∀ j st v, xs[j]? = some v → Inv (n + j) st → B (enc (.int v) st) = some (.next, enc (.int v) (step st v)) ∧ Inv (n + j + 1) (step st v)) (kv : PV) (st : σ), Inv n st →
      ∃ kv', forF i B xs (enc kv st) = some (.next, enc kv' (xs.foldl step st)) ∧ Inv (n + xs.length) (xs.foldl step st)
  | [], n, _, kv, st, hi => ⟨kv, rfl, hi⟩
  | v :: r, n, hB, kv, st, hi => by
    obtain ⟨h1, h2⟩ := hB 0 st v rfl hi
    obtain ⟨kv', h3, h4⟩ := forF_runI enc step Inv hset r (n + 1) (fun j st v hv hi => by
      have := hB (j + 1) st v (by simpa using hv) (by rw [show n + (j + 1) = n + 1 + j by omega]; exact hi)
      rw [show n + (j + 1) + 1 = n + 1 + j + 1 by omega] at this
      exact this) (.int v) (step st v) h2
    refine ⟨kv', ?_, by rw [List.length_cons, show n + (r.length + 1) = n + 1 + r.length by omega]; exact h4⟩
    show (match B ((enc kv st).set i (.int v)) with | some (.next, m') => forF i B r m' | some (.brk, m') => some (.next, m') | some (.ret p, m') => some (.ret p, m') | none => none) = _
    rw [hset, h1]
    exact h3
theorem for_exI {σ : Type} {i : Nat} {Fit : List PV → Option (List Int)} {B : List PV → Option (PF × List PV)} {m₀ : List PV} (xs : List Int) (enc : PV → σ → List PV) (step : σ → Int → σ) (Inv : Nat → σ → Prop) (kv : PV) (st : σ) (hm : m₀ = enc kv st)
    (hx : Fit m₀ = some xs) (hset : ∀ kv st v, (enc kv st).set i (.int v) = enc (.int v) st) (hi : Inv 0 st) (hB : ∀ j st v, xs[j]? = some v → Inv j st → B (enc (.int v) st) = some (.next, enc (.int v) (step st v)) ∧ Inv (j + 1) (step st v)) :
    ∃ kv', forItF i Fit B m₀ = some (.next, enc kv' (xs.foldl step st)) := by
  obtain ⟨kv', h1, _⟩ := forF_runI enc step Inv hset xs 0 (fun j st v h1 h2 => by rw [Nat.zero_add] at h2 ⊢; exact hB j st v h1 h2) kv st hi
  refine ⟨kv', ?_⟩
  unfold forItF
  rw [hx, hm]
  exact h1
theorem forB_exI {σ : Type} {i : Nat} {l : Nat} {B : List PV → Option (PF × List PV)} {m₀ : List PV} (xs : List Int) (enc : PV → σ → List PV) (step : σ → Int → σ) (Inv : Nat → σ → Prop) (kv : PV) (st : σ) (hm : m₀ = enc kv st)
    (hx : m₀[l]? = some (.blist xs)) (hset : ∀ kv st v, (enc kv st).set i (.int v) = enc (.int v) st) (hi : Inv 0 st) (hB : ∀ j st v, xs[j]? = some v → Inv j st → B (enc (.int v) st) = some (.next, enc (.int v) (step st v)) ∧ Inv (j + 1) (step st v)) :
    ∃ kv', forBF i l B m₀ = some (.next, enc kv' (xs.foldl step st)) := by
  obtain ⟨kv', h1, _⟩ := forF_runI enc step Inv hset xs 0 (fun j st v h1 h2 => by rw [Nat.zero_add] at h2 ⊢; exact hB j st v h1 h2) kv st hi
  refine ⟨kv', ?_⟩
  unfold forBF
  rw [hx, hm]
  exact h1
theorem for_ex {σ : Type} {i : Nat} {Fit : List PV → Option (List Int)} {B : List PV → Option (PF × List PV)} {m₀ : List PV} (xs : List Int) (enc : PV → σ → List PV) (step : σ → Int → σ) (Inv : σ → Prop) (kv : PV) (st : σ) (hm : m₀ = enc kv st)
    (hx : Fit m₀ = some xs) (hset : ∀ kv st v, (enc kv st).set i (.int v) = enc (.int v) st) (hi : Inv st) (hB : ∀ st v, v ∈ xs → Inv st → B (enc (.int v) st) = some (.next, enc (.int v) (step st v)) ∧ Inv (step st v)) :
    ∃ kv', forItF i Fit B m₀ = some (.next, enc kv' (xs.foldl step st)) := by
  obtain ⟨kv', h1, _⟩ := forF_run enc step Inv hset xs hB kv st hi
  refine ⟨kv', ?_⟩
  unfold forItF
  rw [hx, hm]
  exact h1
theorem Ret.ret {F₀ : List PV → Option PV} (h : F₀ m = some p) : Ret (seqF (retF F₀) G) m p := by
  refine ⟨m, ?_⟩
  unfold seqF retF
  rw [h]; rfl
theorem Ret.retOwn {i : Nat} {xs : List Int} (h : m[i]? = some (.olist xs)) : Ret (seqF (retOwnF i) G) m (.list xs) := by
  refine ⟨m, ?_⟩
  unfold seqF retOwnF
  rw [h]
theorem Ret.res {n : Nat} {ps : List PV} (r : Ret F (ps.map PV.arg ++ List.replicate n .undef) p) : resF n F ps = some p := by
  obtain ⟨m', h⟩ := r
  unfold resF
  rw [h]
end

noncomputable def tstep (p w : Nat) (prod : Nat) (k : Int) : Nat := if p / 2 ^ k.toNat % 2 = 1 then prod ^^^ w * 2 ^ k.toNat else prod
noncomputable def times (p w : Nat) : Nat := ([0, 1, 2, 3] : List Int).foldl (tstep p w) 0
noncomputable def timesG : List PV → Option PV
  | [.int (.ofNat p), .int (.ofNat w)] => if w < 2 ^ 60 then some (.int (times p w)) else none
  | _ => none

section
variable {prog : Program} {w : World} {hB : Heap} {k : Nat}
variable {mg mb : Str → Option Value} {defs : List DefItem}
theorem timesOk : DefOk (itm 9) ["part", "whole"] ["product", "k"] where
  kind := rfl
  co := rfl
  gen := rfl
  nodup := by decide +kernel
  kinds := by decide +kernel
  nofree := by decide +kernel
  bind := by
    intro pm cd doc vals hl
    match vals, hl with
    | [v, u], _ => rfl
theorem C_times (g : Gd hB mg mb defs usedB) (hat : (itm 9).At mg hB) {f : Addr} (hf : mg "_law_times" = some (.ref f)) : COk prog w hB (k + 1) (.ref f) timesG := by
  have W : SOk prog w hB false k (itm 9).scope (([("part" : Str), "whole"] : List Str) ++ [("product" : Str), "k"]) (itm 9).body _ :=
    (S_cons (S_assign 2 rfl (E_int).s.g (by rintro ⟨⟩ rfl; rfl)) (S_cons (S_forR 3 rfl (It_range1 g ⟨rfl, by decide +kernel, by decide +kernel, by decide +kernel, rfl⟩ E_int (fun _ _ => rfl)) (S_cons (S_if (T_cmp (E_mod (E_div (E_name 0 rfl rfl) (E_pow E_int (E_name 3 rfl rfl))) E_int) E_int rfl).g (S_cons (S_assign 2 rfl ((E_xor (E_name 2 rfl rfl) (E_mul (E_name 1 rfl rfl) (E_pow E_int (E_name 3 rfl rfl))))).s.g (by rintro ⟨⟩ rfl; rfl)) S_nil) S_nil) S_nil) (fun _ _ => rfl)) (S_cons (S_ret ((E_name 2 rfl rfl)).s.g) S_nil)))
  refine (C_of g hat hf timesOk W fun ps p hG => ?_).p
  unfold timesG at hG
  split at hG
  · rename_i a b
    split at hG
    · obtain rfl := Option.some.inj hG
      refine ⟨rfl, ?_⟩
      refine Ret.res (Ret.seq (m' := [.int (.ofNat a), .int (.ofNat b), .int ((0 : Nat) : Int), .undef]) rfl (Ret.ex (e := fun kv => [.int (.ofNat a), .int (.ofNat b), .int (times a b : Nat), kv]) ?_ fun kv => Ret.ret rfl))
      refine for_ex [0, 1, 2, 3] (fun kv (st : Nat) => [PV.int (.ofNat a), .int (.ofNat b), .int (st : Int), kv]) (tstep a b) (fun _ => True) .undef 0 rfl rfl (fun _ _ _ => rfl) trivial ?_
      intro st v hv _
      refine ⟨?_, trivial⟩
      obtain ⟨k, hk, rfl⟩ : ∃ k : Nat, k < 4 ∧ v = (k : Int) := by
        simp at hv
        rcases hv with rfl | rfl | rfl | rfl
        · exact ⟨0, by omega, rfl⟩
        · exact ⟨1, by omega, rfl⟩
        · exact ⟨2, by omega, rfl⟩
        · exact ⟨3, by omega, rfl⟩
      have hpk : 2 ^ k ≤ 8 ∧ 0 < 2 ^ k := by
        match k, hk with
        | 0, _ => decide
        | 1, _ => decide
        | 2, _ => decide
        | 3, _ => decide
      have h3 : Ev (bin (fun a b => if a = 2 ∧ 0 ≤ b ∧ b < 1000 then some (PV.int (2 ^ b.toNat)) else none) (fun x => some (PV.int 2)) (fun m => PV.get? m 3)) [PV.int (Int.ofNat a), PV.int (Int.ofNat b), PV.int (st : Int), PV.int (k : Int)] (2 ^ k) := Ev.pow rfl rfl (by omega)
      refine Nx.seq (m' := [PV.int (Int.ofNat a), PV.int (Int.ofNat b), PV.int ((tstep a b st (k : Int) : Nat) : Int), PV.int (k : Int)]) (iteF_of (b := a / 2 ^ k % 2 == 1) (Ev.eq (Ev.mod (Ev.div rfl h3 hpk.2 (by omega)) rfl (by omega) (by omega)) rfl) ?_) rfl
      unfold tstep
      rw [Int.toNat_natCast]
      by_cases hb : a / 2 ^ k % 2 = 1
      · rw [if_pos hb, hb]
        refine (if_pos rfl).trans (Nx.seq (Ev.set (Ev.xor (a := st) (b := b * 2 ^ k) rfl (Ev.mul (a := b) rfl h3 ?_ ?_))) rfl)
        · assumption
        · omega
      · rw [if_neg hb, beq_eq_false_iff_ne.mpr hb]
        rfl
    · cases hG
  · cases hG
end
end Mine
end
section
open PySem PySem.W PySem.Calls PyProof.Rows
namespace Mine

noncomputable abbrev VF := List PV → Option PV
noncomputable def bitlenF (F : VF) : VF := fun m => match F m with | some (.int i) => some (.int (Builtin.Int.intBits i)) | _ => none
noncomputable def negF (F : VF) : VF := fun m => match F m with | some (.int i) => some (.int (-i)) | _ => none
noncomputable def idxF (F₁ F₂ : VF) : VF := fun m => (F₁ m).bind fun p => p.ints?.bind fun xs => match F₂ m with | some (.int i) => (item xs i).map PV.int | _ => none
noncomputable def toF (F₁ F₂ : VF) : VF := fun m => (F₁ m).bind fun p => p.ints?.bind fun xs => match F₂ m with | some (.int i) => if 0 ≤ i ∧ xs.length < 100000 then some (.list (xs.take i.toNat)) else none | _ => none
noncomputable def fromF (F₁ F₂ : VF) : VF := fun m => (F₁ m).bind fun p => p.ints?.bind fun xs => match F₂ m with | some (.int i) => if 0 ≤ i ∧ xs.length < 100000 then some (.list (xs.drop i.toNat)) else none | _ => none
noncomputable def addlF (F₁ F₂ : VF) : VF := fun m => (F₁ m).bind fun p => p.ints?.bind fun xs => (F₂ m).bind fun q => q.ints?.bind fun ys => if xs.length + ys.length < 100000 then some (.list (xs ++ ys)) else none
noncomputable def mullF (F₁ : List PV → Option (List Int)) (F₂ : VF) : VF := fun m => match F₁ m, F₂ m with | some [x], some (.int i) => if 0 ≤ i ∧ i < 1000 then some (.list (List.replicate i.toNat x)) else none | _, _ => none
noncomputable def listF (F : List PV → Option (List Int)) : VF := fun m => (F m).bind fun xs => if xs.length < 1000 then some (.list xs) else none
noncomputable def menuF (F₁ : List PV → Option (List Int)) (F₂ : VF) : VF := fun m => (F₁ m).bind fun xs => match F₂ m with | some (.int i) => if 0 ≤ i ∧ xs.length < 1000 then xs[i.toNat]?.map PV.int else none | _ => none
noncomputable def callF (F : VF) (G : List PV → Option PV) : VF := fun m => (F m).bind fun q => G [q]
noncomputable def call2F (F₁ F₂ : VF) (G : List PV → Option PV) : VF := fun m => (F₁ m).bind fun q => (F₂ m).bind fun r => G [q, r]
noncomputable def cmpBF (op : CmpOp) (F₁ F₂ : VF) : VF := fun m => (cmpF op F₁ F₂ m).map PV.bool
noncomputable def andF (F G : List PV → Option Bool) : List PV → Option Bool := fun m => match F m with | some true => G m | some false => some false | none => none
noncomputable def orF (F G : List PV → Option Bool) : List PV → Option Bool := fun m => match F m with | some true => some true | some false => G m | none => none
noncomputable def rng1F (F : VF) : List PV → Option (List Int) := fun m => match F m with | some (.int n) => rngF 0 n 1 | _ => none
noncomputable def rng2F (F₁ F₂ : VF) : List PV → Option (List Int) := fun m => match F₁ m, F₂ m with | some (.int n), some (.int j) => rngF n j 1 | _, _ => none
noncomputable def rng3F (F₁ F₂ F₃ : VF) : List PV → Option (List Int) := fun m => match F₁ m, F₂ m, F₃ m with | some (.int n), some (.int j), some (.int c) => if c = -1 then rngF n j c else none | _, _, _ => none
noncomputable def itlF (F : VF) : List PV → Option (List Int) := fun m => (F m).bind fun p => p.ints?.bind fun xs => if xs.length < 100000 then some xs else none
noncomputable def compF (msk : List Bool) (Fit : List PV → Option (List Int)) (Fif : List PV → Option Bool) (Felt : VF) : VF := fun m => (Fit m).bind fun xs => (compE (fun i => Fif (.int i :: maskM msk m)) (fun i => Felt (.int i :: maskM msk m)) xs).map PV.list

section
variable {prog : Program} {w : World} {hB : Heap} {gm bb : Bool} {k : Nat} {sc : Scope} {ns : List Str} {e : Expr} {es : List Expr} {st : Stmt} {F F₁ F₂ F₃ : VF} {L Fit : List PV → Option (List Int)} {B C : List PV → Option Bool} {G : List PV → Option PV} {op : CmpOp} {msk : List Bool} {i : Nat}
theorem nBitlen (x : EOk prog w hB k sc ns e (fun m => match F m with | some (.int i) => some (.int (Builtin.Int.intBits i)) | _ => none)) : EOk prog w hB k sc ns e (bitlenF F) := x
theorem nNeg (x : EOk prog w hB k sc ns e (fun m => match F m with | some (.int i) => some (.int (-i)) | _ => none)) : EOk prog w hB k sc ns e (negF F) := x
theorem nIdx (x : EOk prog w hB k sc ns e (fun m => (F₁ m).bind fun p => p.ints?.bind fun xs => match F₂ m with | some (.int i) => (item xs i).map PV.int | _ => none)) : EOk prog w hB k sc ns e (idxF F₁ F₂) := x
theorem nTo (x : EOkF prog w hB k sc ns e (fun m => (F₁ m).bind fun p => p.ints?.bind fun xs => match F₂ m with | some (.int i) => if 0 ≤ i ∧ xs.length < 100000 then some (.list (xs.take i.toNat)) else none | _ => none)) : EOkF prog w hB k sc ns e (toF F₁ F₂) := x
theorem nFrom (x : EOkF prog w hB k sc ns e (fun m => (F₁ m).bind fun p => p.ints?.bind fun xs => match F₂ m with | some (.int i) => if 0 ≤ i ∧ xs.length < 100000 then some (.list (xs.drop i.toNat)) else none | _ => none)) : EOkF prog w hB k sc ns e (fromF F₁ F₂) := x
theorem nAddl (x : EOkF prog w hB k sc ns e (fun m => (F₁ m).bind fun p => p.ints?.bind fun xs => (F₂ m).bind fun q => q.ints?.bind fun ys => if xs.length + ys.length < 100000 then some (.list (xs ++ ys)) else none)) : EOkF prog w hB k sc ns e (addlF F₁ F₂) := x
theorem nMull (x : EOkF prog w hB k sc ns e (fun m => match L m, F₂ m with | some [x], some (.int i) => if 0 ≤ i ∧ i < 1000 then some (.list (List.replicate i.toNat x)) else none | _, _ => none)) : EOkF prog w hB k sc ns e (mullF L F₂) := x
theorem nList (x : EOkF prog w hB k sc ns e (fun m => (L m).bind fun xs => if xs.length < 1000 then some (.list xs) else none)) : EOkF prog w hB k sc ns e (listF L) := x
theorem nMenu (x : EOk prog w hB k sc ns e (fun m => (L m).bind fun xs => match F₂ m with | some (.int i) => if 0 ≤ i ∧ xs.length < 1000 then xs[i.toNat]?.map PV.int else none | _ => none)) : EOk prog w hB k sc ns e (menuF L F₂) := x
theorem nCall (x : EOkF prog w hB k sc ns e (fun m => (F m).bind fun q => G [q])) : EOkF prog w hB k sc ns e (callF F G) := x
theorem nCallG (x : EOkG prog w hB gm k sc ns e (fun m => (F m).bind fun q => G [q])) : EOkG prog w hB gm k sc ns e (callF F G) := x
theorem nCall2 (x : EOkF prog w hB k sc ns e (fun m => (F₁ m).bind fun q => (F₂ m).bind fun r => G [q, r])) : EOkF prog w hB k sc ns e (call2F F₁ F₂ G) := x
theorem nCmp (x : EOk prog w hB k sc ns e (fun m => (cmpF op F₁ F₂ m).map PV.bool)) : EOk prog w hB k sc ns e (cmpBF op F₁ F₂) := x
theorem nAnd (x : AllOk prog w hB k sc ns .And es (fun m => match B m with | some true => C m | some false => some false | none => none)) : AllOk prog w hB k sc ns .And es (andF B C) := x
theorem nOr (x : AllOk prog w hB k sc ns .Or es (fun m => match B m with | some true => some true | some false => C m | none => none)) : AllOk prog w hB k sc ns .Or es (orF B C) := x
theorem nRng1 (x : ItOk prog w hB k sc ns bb e (fun m => match F m with | some (.int n) => rngF 0 n 1 | _ => none)) : ItOk prog w hB k sc ns bb e (rng1F F) := x
theorem nRng2 (x : ItOk prog w hB k sc ns bb e (fun m => match F₁ m, F₂ m with | some (.int n), some (.int j) => rngF n j 1 | _, _ => none)) : ItOk prog w hB k sc ns bb e (rng2F F₁ F₂) := x
theorem nRng3 (x : ItOk prog w hB k sc ns bb e (fun m => match F₁ m, F₂ m, F₃ m with | some (.int n), some (.int j), some (.int c) => if c = -1 then rngF n j c else none | _, _, _ => none)) : ItOk prog w hB k sc ns bb e (rng3F F₁ F₂ F₃) := x
theorem nItl (x : ItOk prog w hB k sc ns bb e (fun m => (F m).bind fun p => p.ints?.bind fun xs => if xs.length < 100000 then some xs else none)) : ItOk prog w hB k sc ns bb e (itlF F) := x
theorem nComp (x : EOkF prog w hB k sc ns e (fun m => (Fit m).bind fun xs => (compE (fun i => B (.int i :: maskM msk m)) (fun i => F (.int i :: maskM msk m)) xs).map PV.list)) : EOkF prog w hB k sc ns e (compF msk Fit B F) := x
theorem nAsgComp (x : S1Ok prog w hB gm k sc ns st (setF i fun m => (Fit m).bind fun xs => (compE (fun i => B (.int i :: maskM msk m)) (fun i => F (.int i :: maskM msk m)) xs).map PV.list)) : S1Ok prog w hB gm k sc ns st (setF i (compF msk Fit B F)) := x
end
end Mine
end
section
open PySem PySem.W PySem.Calls PyProof.Rows
namespace Mine
section
variable {m : List PV}
theorem andF_eq {F G : List PV → Option Bool} {b c : Bool} (h1 : F m = some b) (h2 : b = true → G m = some c) : andF F G m = some (b && c) := by
  unfold andF
  rw [h1]
  cases b with
  | true => exact h2 rfl
  | false => rfl
theorem orF_eq {F G : List PV → Option Bool} {b c : Bool} (h1 : F m = some b) (h2 : b = false → G m = some c) : orF F G m = some (b || c) := by
  unfold orF
  rw [h1]
  cases b with
  | false => exact h2 rfl
  | true => rfl
theorem callF_eq {F : VF} {G : List PV → Option PV} {q : PV} {r : Option PV} (h : F m = some q) (h2 : G [q] = r) : callF F G m = r := by
  unfold callF; rw [h]; exact h2
theorem call2F_eq {F₁ F₂ : VF} {G : List PV → Option PV} {q q' : PV} {r : Option PV} (h : F₁ m = some q) (h' : F₂ m = some q') (h2 : G [q, q'] = r) : call2F F₁ F₂ G m = r := by
  unfold call2F; rw [h]; show (F₂ m).bind _ = _; rw [h']; exact h2
theorem Ev.len {F : VF} {q : PV} {xs : List Int} (h : F m = some q) (hq : q.ints? = some xs) (hl : xs.length < 100000) : Ev (callF F lenG) m xs.length := by
  refine callF_eq h ?_
  show q.ints?.bind _ = _
  rw [hq]
  show (if xs.length < 100000 then _ else _) = _
  rw [if_pos hl]
theorem sum_eq {F : VF} {q : PV} {xs : List Int} (h : F m = some q) (hq : q.ints? = some xs) : callF F sumG m = some (.int xs.sum) := by
  refine callF_eq h ?_
  show q.ints?.bind _ = _
  rw [hq]; rfl
theorem idx_eq {F₁ F₂ : VF} {q : PV} {xs : List Int} {i v : Int} (h1 : F₁ m = some q) (hx : q.ints? = some xs) (h2 : F₂ m = some (.int i)) (hv : item xs i = some v) : idxF F₁ F₂ m = some (.int v) := by
  unfold idxF
  rw [h1]
  show q.ints?.bind _ = _
  rw [hx]
  show (match F₂ m with | some (.int i) => (item xs i).map PV.int | _ => none) = _
  rw [h2]
  show (item xs i).map PV.int = _
  rw [hv]; rfl
theorem idx_nat {F₁ F₂ : VF} {q : PV} {xs : List Int} {n : Nat} {v : Int} (h1 : F₁ m = some q) (hx : q.ints? = some xs) (h2 : F₂ m = some (.int (n : Int))) (hl : xs.length < 100000) (hv : xs[n]? = some v) : idxF F₁ F₂ m = some (.int v) :=
  idx_eq h1 hx h2 (by unfold item; rw [if_pos hl, if_pos (by omega), Int.toNat_natCast, hv])
theorem idx_last {F₁ F₂ : VF} {q : PV} {xs : List Int} {v : Int} (h1 : F₁ m = some q) (hx : q.ints? = some (xs ++ [v])) (h2 : F₂ m = some (.int (-1))) (hl : xs.length + 1 < 100000) : idxF F₁ F₂ m = some (.int v) := by
  refine idx_eq h1 hx h2 ?_
  unfold item
  have e : (xs ++ [v]).length = xs.length + 1 := by simp
  rw [e, if_pos hl, if_neg (by omega), if_pos (by omega), show ((-1 : Int) + ((xs.length + 1 : Nat) : Int)).toNat = xs.length by omega]
  simp
theorem app_eq {i : Nat} {F : VF} {xs : List Int} {v : Int} (h1 : m[i]? = some (.olist xs)) (h2 : F m = some (.int v)) (hl : xs.length < 100000) : appF i F m = some (.next, m.set i (.olist (xs ++ [v]))) := by
  unfold appF
  rw [h1, h2]
  show (if xs.length < 100000 then _ else _) = _
  rw [if_pos hl]
theorem rng1_eq {F : VF} {n : Nat} (h : Ev F m n) (hn : n < 1000) : rng1F F m = some ((List.range n).map fun i : Nat => (i : Int)) := by
  unfold rng1F
  rw [h]
  show rngF 0 n 1 = _
  unfold rngF
  rw [if_pos rfl, if_pos ⟨by decide, by omega⟩]
  unfold rangeInts
  rw [show ((n : Int) - 0).toNat = n by omega]
  simp
theorem rng2_eq {F₁ F₂ : VF} {a b : Nat} (h1 : Ev F₁ m a) (h2 : Ev F₂ m b) (ha : a < 1000) (hb : b < 1000) : rng2F F₁ F₂ m = some ((List.range (b - a)).map fun i : Nat => ((a + i : Nat) : Int)) := by
  unfold rng2F
  rw [h1, h2]
  show rngF a b 1 = _
  unfold rngF
  rw [if_pos rfl, if_pos ⟨by omega, by omega⟩]
  unfold rangeInts
  rw [show ((b : Int) - (a : Int)).toNat = b - a by omega]
  simp
theorem itl_eq {F : VF} {q : PV} {xs : List Int} (h : F m = some q) (hq : q.ints? = some xs) (hl : xs.length < 100000) : itlF F m = some xs := by
  unfold itlF
  rw [h]
  show q.ints?.bind _ = _
  rw [hq]
  show (if xs.length < 100000 then some xs else none) = _
  rw [if_pos hl]
theorem compE_eq {T : Int → Option Bool} {G : Int → Option PV} (c : Int → Bool) (g : Int → Int) : ∀ (xs : List Int), (∀ x ∈ xs, T x = some (c x)) → (∀ x ∈ xs, c x = true → G x = some (.int (g x))) → compE T G xs = some ((xs.filter c).map g)
  | [], _, _ => rfl
  | x :: r, h1, h2 => by
    have ih := compE_eq c g r (fun y hy => h1 y (List.mem_cons_of_mem _ hy)) (fun y hy => h2 y (List.mem_cons_of_mem _ hy))
    unfold compE
    rw [h1 x (List.mem_cons_self ..)]
    cases hc : c x with
    | true =>
      show (match G x, compE T G r with | some (.int y), some ys => some (y :: ys) | _, _ => none) = _
      rw [h2 x (List.mem_cons_self ..) hc, ih, List.filter_cons, if_pos hc]; rfl
    | false =>
      show compE T G r = _
      rw [ih, List.filter_cons, if_neg (by rw [hc]; decide)]
theorem comp_eq {msk : List Bool} {Fit : List PV → Option (List Int)} {Fif : List PV → Option Bool} {Felt : VF} {xs : List Int} (c : Int → Bool) (g : Int → Int) (h : Fit m = some xs) (h1 : ∀ x ∈ xs, Fif (.int x :: maskM msk m) = some (c x)) (h2 : ∀ x ∈ xs, c x = true → Felt (.int x :: maskM msk m) = some (.int (g x))) :
    compF msk Fit Fif Felt m = some (.list ((xs.filter c).map g)) := by
  unfold compF
  rw [h]
  show (compE _ _ xs).map PV.list = _
  rw [compE_eq c g xs h1 h2]; rfl
theorem comp_all {msk : List Bool} {Fit : List PV → Option (List Int)} {Fif : List PV → Option Bool} {Felt : VF} {xs : List Int} (g : Int → Int) (h : Fit m = some xs) (h1 : ∀ x ∈ xs, Fif (.int x :: maskM msk m) = some true) (h2 : ∀ x ∈ xs, Felt (.int x :: maskM msk m) = some (.int (g x))) :
    compF msk Fit Fif Felt m = some (.list (xs.map g)) := by
  rw [comp_eq (fun _ => true) g h h1 fun x hx _ => h2 x hx]
  rw [List.filter_eq_self.mpr fun _ _ => rfl]
theorem neg_eq {F : VF} {i : Int} (h : F m = some (.int i)) : negF F m = some (.int (-i)) := by unfold negF; rw [h]
theorem to_eq {F₁ F₂ : VF} {q : PV} {xs : List Int} {n : Nat} (h1 : F₁ m = some q) (hx : q.ints? = some xs) (h2 : Ev F₂ m n) (hl : xs.length < 100000) : toF F₁ F₂ m = some (.list (xs.take n)) := by
  unfold toF
  rw [h1]
  show q.ints?.bind _ = _
  rw [hx]
  show (match F₂ m with | some (.int i) => if 0 ≤ i ∧ xs.length < 100000 then some (PV.list (xs.take i.toNat)) else none | _ => none) = _
  rw [h2]
  show (if 0 ≤ (n : Int) ∧ xs.length < 100000 then some (PV.list (xs.take (n : Int).toNat)) else none) = _
  rw [if_pos ⟨by omega, hl⟩, Int.toNat_natCast]
theorem from_eq {F₁ F₂ : VF} {q : PV} {xs : List Int} {n : Nat} (h1 : F₁ m = some q) (hx : q.ints? = some xs) (h2 : Ev F₂ m n) (hl : xs.length < 100000) : fromF F₁ F₂ m = some (.list (xs.drop n)) := by
  unfold fromF
  rw [h1]
  show q.ints?.bind _ = _
  rw [hx]
  show (match F₂ m with | some (.int i) => if 0 ≤ i ∧ xs.length < 100000 then some (PV.list (xs.drop i.toNat)) else none | _ => none) = _
  rw [h2]
  show (if 0 ≤ (n : Int) ∧ xs.length < 100000 then some (PV.list (xs.drop (n : Int).toNat)) else none) = _
  rw [if_pos ⟨by omega, hl⟩, Int.toNat_natCast]
theorem addl_eq {F₁ F₂ : VF} {q q' : PV} {xs ys : List Int} (h1 : F₁ m = some q) (hx : q.ints? = some xs) (h2 : F₂ m = some q') (hy : q'.ints? = some ys) (hl : xs.length + ys.length < 100000) : addlF F₁ F₂ m = some (.list (xs ++ ys)) := by
  unfold addlF
  rw [h1]
  show q.ints?.bind _ = _
  rw [hx]
  show (F₂ m).bind _ = _
  rw [h2]
  show q'.ints?.bind _ = _
  rw [hy]
  show (if xs.length + ys.length < 100000 then _ else _) = _
  rw [if_pos hl]
theorem while_stop {T : List PV → Option Bool} {B : List PV → Option (PF × List PV)} {n : Nat} (h : T m = some false) : whileF T B (n + 1) m = some (.next, m) := by
  unfold whileF
  rw [h]
theorem while_go {T : List PV → Option Bool} {B : List PV → Option (PF × List PV)} {n : Nat} {m' : List PV} {r : Option (PF × List PV)} (h : T m = some true) (h1 : B m = some (.next, m')) (h2 : whileF T B n m' = r) : whileF T B (n + 1) m = r := by
  unfold whileF
  rw [h, h1]
  exact h2
theorem setI {F : VF} {i : Nat} {v : Int} (h : F m = some (.int v)) : setF i (scl F) m = some (.next, m.set i (.int v)) := by
  unfold setF scl
  rw [h]; rfl
theorem setJ {F : VF} {i : Nat} {v : Int} (h : F m = some (.int v)) : setF i F m = some (.next, m.set i (.int v)) := by
  unfold setF
  rw [h]; rfl
theorem setL {F : VF} {i : Nat} {xs : List Int} (h : F m = some (.list xs)) : setF i F m = some (.next, m.set i (.list xs)) := by
  unfold setF
  rw [h]; rfl
end
end Mine
end
section
open PySem PySem.W PySem.Calls PyProof.Rows
namespace Mine

theorem while_sizes {T : List PV → Option Bool} {B : List PV → Option (PF × List PV)} {zs : List Int}
    (hT : ∀ (acc : List Int) (pl : Nat), acc.length ≤ 6 → T [.blist zs, .olist acc, .int (pl : Int)] = some (decide (acc.length < 6) && (decide (pl < zs.length) && (zs.getD pl 0 != 127))))
    (hB0 : ∀ (acc : List Int) (v : Int) (pl : Nat), acc.length < 6 → pl < zs.length → zs.getD pl 1 = 0 → B [.blist zs, .olist (acc ++ [v]), .int (pl : Int)] = some (.next, [.blist zs, .olist (acc ++ [v] ++ [v]), .int (pl : Int)]))
    (hB1 : ∀ (acc : List Int) (pl : Nat), acc.length < 6 → pl < zs.length → zs.getD pl 1 ≠ 0 → B [.blist zs, .olist acc, .int (pl : Int)] = some (.next, [.blist zs, .olist (acc ++ [zs.getD pl 1]), .int ((pl + 1 : Nat) : Int)])) :
    ∀ (r N pl : Nat) (acc : List Int) (last : Int), r + acc.length = 6 → r < N → (acc = [] → zs.getD pl 1 ≠ 0) → (∀ a v, acc = a ++ [v] → v = last) →
      ∃ pl' : Nat, whileF T B N [.blist zs, .olist acc, .int (pl : Int)] = some (.next, [.blist zs, .olist (acc ++ toldL r last (zs.drop pl)), .int (pl' : Int)])
  | 0, N + 1, pl, acc, last, hr, hN, h0, hl => ⟨pl, by
      rw [while_stop (by rw [hT acc pl (by omega), show decide (acc.length < 6) = false by simp; omega]; rfl)]
      simp [toldL]⟩
  | r + 1, N + 1, pl, acc, last, hr, hN, h0, hl => by
    have hT' := hT acc pl (by omega)
    rw [show decide (acc.length < 6) = true by simp; omega, Bool.true_and] at hT'
    by_cases hp : pl < zs.length
    · rw [show decide (pl < zs.length) = true by simp [hp], Bool.true_and] at hT'
      have hd : zs.drop pl = zs.getD pl 1 :: zs.drop (pl + 1) := by
        rw [List.drop_eq_getElem_cons hp, List.getD, List.getElem?_eq_getElem hp]; rfl
      have h01 : zs.getD pl 0 = zs.getD pl 1 := by rw [List.getD, List.getD, List.getElem?_eq_getElem hp]; rfl
      rw [h01] at hT'
      by_cases h7 : zs.getD pl 1 = 127
      · rw [h7] at hT'
        exact ⟨pl, by rw [while_stop (by rw [hT']; rfl), hd, toldL, if_pos h7, List.append_nil]⟩
      · rw [show (zs.getD pl 1 != 127) = true from bne_iff_ne.mpr h7] at hT'
        by_cases hz : zs.getD pl 1 = 0
        · have hne : acc ≠ [] := fun q => h0 q hz
          obtain ⟨a, v, rfl⟩ : ∃ a v, acc = a ++ [v] := ⟨acc.dropLast, acc.getLast hne, (List.dropLast_concat_getLast hne).symm⟩
          obtain rfl := hl a v rfl
          simp only [List.length_append, List.length_singleton] at hr
          obtain ⟨pl', h⟩ := while_sizes hT hB0 hB1 r N pl (a ++ [v] ++ [v]) v (by simp; omega) (by omega) (fun q => by simp at q) (fun a' v' q => by
            have := (List.append_inj' q rfl).2
            simpa using this.symm)
          refine ⟨pl', (while_go hT' (hB0 a v pl (by omega) hp hz) h).trans ?_⟩
          have e1 : toldL (r + 1) v (zs.drop pl) = v :: toldL r v (zs.drop pl) := by
            rw [hd, toldL, if_neg h7, if_pos hz, List.replicate_succ]
            congr 1
            cases r with
            | zero => rfl
            | succ r => rw [toldL, if_neg h7, if_pos hz]
          rw [e1]
          simp
        · obtain ⟨pl', h⟩ := while_sizes hT hB0 hB1 r N (pl + 1) (acc ++ [zs.getD pl 1]) (zs.getD pl 1) (by simp; omega) (by omega) (fun q => by simp at q) (fun a' v' q => by
            have := (List.append_inj' q rfl).2
            simpa using this.symm)
          refine ⟨pl', (while_go hT' (hB1 acc pl (by omega) hp hz) h).trans ?_⟩
          rw [hd, toldL, if_neg h7, if_neg hz]
          simp
    · rw [show decide (pl < zs.length) = false by simp [hp]] at hT'
      refine ⟨pl, ?_⟩
      rw [while_stop (by rw [hT']; rfl), List.drop_eq_nil_of_le (by omega)]
      simp [toldL]

theorem while_sizes0 {T : List PV → Option Bool} {B : List PV → Option (PF × List PV)} {zs : List Int}
    (hT : ∀ (acc : List Int) (pl : Nat), acc.length ≤ 6 → T [.blist zs, .olist acc, .int (pl : Int)] = some (decide (acc.length < 6) && (decide (pl < zs.length) && (zs.getD pl 0 != 127))))
    (hB0 : ∀ (acc : List Int) (v : Int) (pl : Nat), acc.length < 6 → pl < zs.length → zs.getD pl 1 = 0 → B [.blist zs, .olist (acc ++ [v]), .int (pl : Int)] = some (.next, [.blist zs, .olist (acc ++ [v] ++ [v]), .int (pl : Int)]))
    (hB1 : ∀ (acc : List Int) (pl : Nat), acc.length < 6 → pl < zs.length → zs.getD pl 1 ≠ 0 → B [.blist zs, .olist acc, .int (pl : Int)] = some (.next, [.blist zs, .olist (acc ++ [zs.getD pl 1]), .int ((pl + 1 : Nat) : Int)]))
    (h0 : zs.getD 0 1 ≠ 0) :
    ∃ pl' : Nat, whileF T B 40 [.blist zs, .olist [], .int ((0 : Nat) : Int)] = some (.next, [.blist zs, .olist (toldL 6 0 zs), .int (pl' : Int)]) := by
  have := while_sizes hT hB0 hB1 6 40 0 [] 0 rfl (by omega) (fun _ => h0) (fun a v q => by simp at q)
  simpa using this

noncomputable def sizesG : List PV → Option PV
  | [p] => match p.arg with
    | .blist zs => if zs.getD 0 1 ≠ 0 ∧ zs.length < 100000 then some (.list (toldL 6 0 zs)) else none
    | _ => none
  | _ => none

section
variable {prog : Program} {w : World} {hB : Heap} {k : Nat}
variable {mg mb : Str → Option Value} {defs : List DefItem}
theorem sizesOk : DefOk (itm 8) ["row"] ["sizes", "place"] where
  kind := rfl
  co := rfl
  gen := rfl
  nodup := by decide +kernel
  kinds := by decide +kernel
  nofree := by decide +kernel
  bind := by
    intro pm cd doc vals hl
    match vals, hl with
    | [v], _ => rfl
theorem C_sizes (g : Gd hB mg mb defs usedB) (hat : (itm 8).At mg hB) {f : Addr} (hf : mg "_law_sizes" = some (.ref f)) : COk prog w hB (k + 1) (.ref f) sizesG := by
  have W : SOk prog w hB false k (itm 8).scope (([("row" : Str)] : List Str) ++ [("sizes" : Str), "place"]) (itm 8).body _ :=
    (S_cons (S_newlist 1 rfl (by rintro ⟨⟩ rfl; rfl)) (S_cons (S_assign 2 rfl (E_int).s.g (by rintro ⟨⟩ rfl; rfl)) (S_cons (S_while 40 (T_bool (nAnd <| All_and (T_cmp ((nCall <| E_bi1 g ⟨rfl, by decide +kernel, by decide +kernel, by decide +kernel, rfl⟩ (E_name 1 rfl rfl) C_len (fun _ _ => rfl))).e E_int rfl) (nAnd <| All_and (T_cmp (E_name 2 rfl rfl) ((nCall <| E_bi1 g ⟨rfl, by decide +kernel, by decide +kernel, by decide +kernel, rfl⟩ (E_name 0 rfl rfl) C_len (fun _ _ => rfl))).e rfl) (nAnd <| All_and (T_cmp (nIdx <| E_idx (E_name 0 rfl rfl) (E_name 2 rfl rfl) (fun _ _ => rfl) (fun _ _ => rfl)) E_int rfl) All_and_nil)))).g (S_cons (S_if (T_cmp (nIdx <| E_idx (E_name 0 rfl rfl) (E_name 2 rfl rfl) (fun _ _ => rfl) (fun _ _ => rfl)) E_int rfl).g (S_cons (S_append 1 rfl rfl (nIdx <| E_idx (E_name 1 rfl rfl) (nNeg <| E_neg E_int) (fun _ _ => rfl) (fun _ _ => rfl)) (fun _ _ => rfl) rfl) S_nil) (S_cons (S_append 1 rfl rfl (nIdx <| E_idx (E_name 0 rfl rfl) (E_name 2 rfl rfl) (fun _ _ => rfl) (fun _ _ => rfl)) (fun _ _ => rfl) rfl) (S_cons (S_assign 2 rfl ((E_add (E_name 2 rfl rfl) E_int)).s.g (by rintro ⟨⟩ rfl; rfl)) S_nil))) S_nil)) (S_cons (S_retOwn 1 rfl rfl) S_nil))))
  refine (C_of g hat hf sizesOk W fun ps p hG => ?_).p
  unfold sizesG at hG
  split at hG
  · rename_i q
    split at hG
    · rename_i zs hq
      split at hG
      · rename_i hz
        obtain rfl := Option.some.inj hG
        refine ⟨rfl, Ret.res ?_⟩
        show Ret _ [q.arg, .undef, .undef] _
        rw [hq]
        refine Ret.seq rfl (Ret.seq (Ev.set rfl) (Ret.ex (α := Nat) (e := fun pl => [.blist zs, .olist (toldL 6 0 zs), .int (pl : Int)]) ?_ fun kv => Ret.retOwn rfl))
        have hlen := hz.2
        have h0 := hz.1
        refine while_sizes0 (zs := zs) (fun acc pl ha => ?_) (fun acc v pl ha hp hv => ?_) (fun acc pl ha hp hv => ?_) h0
        · refine andF_eq (Ev.lt (Ev.len rfl rfl (by omega)) rfl) fun _ => andF_eq (Ev.lt rfl (Ev.len rfl rfl hlen)) fun hp => ?_
          have hp' : pl < zs.length := of_decide_eq_true hp
          refine (andF_eq (b := zs.getD pl 0 != 127) (c := true) ((cmpF_eq (p := .int (zs.getD pl 0)) (q := .int 127) (idx_nat rfl rfl rfl hlen ?_) rfl).trans rfl) fun _ => rfl).trans (by rw [Bool.and_true])
          rw [List.getD, List.getElem?_eq_getElem hp']; rfl
        · have hv' : zs[pl]? = some 0 := by
            rw [← hv, List.getD, List.getElem?_eq_getElem hp]; rfl
          refine Nx.seq (m' := [.blist zs, .olist (acc ++ [v] ++ [v]), .int (pl : Int)]) (iteF_of (b := true) ((cmpF_eq (p := .int 0) (q := .int 0) (idx_nat rfl rfl rfl hlen hv') rfl).trans rfl) ((if_pos rfl).trans ?_)) rfl
          exact Nx.seq (app_eq rfl (idx_last rfl rfl rfl (by omega)) (by simp; omega)) rfl
        · have hv' : zs[pl]? = some (zs.getD pl 1) := by
            rw [List.getD, List.getElem?_eq_getElem hp]; rfl
          refine Nx.seq (m' := [.blist zs, .olist (acc ++ [zs.getD pl 1]), .int ((pl + 1 : Nat) : Int)]) (iteF_of (b := false) ((cmpF_eq (p := .int (zs.getD pl 1)) (q := .int 0) (idx_nat rfl rfl rfl hlen hv') rfl).trans ?_) ((if_neg (by decide)).trans ?_)) rfl
          · show some (zs.getD pl 1 == 0) = _
            rw [beq_eq_false_iff_ne.mpr hv]
          · exact Nx.seq (app_eq rfl (idx_nat rfl rfl rfl hlen hv') (by omega)) (Nx.seq (Ev.set (Ev.add (a := pl) (b := 1) rfl rfl)) rfl)
      · cases hG
    · cases hG
  · cases hG
end
end Mine
end
section
open PySem PySem.W PySem.Calls PyProof.Rows
namespace Mine

theorem xor_lt {a b n : Nat} (ha : a < 2 ^ n) (hb : b < 2 ^ n) : a ^^^ b < 2 ^ n := Nat.xor_lt_two_pow ha hb
theorem tstep_lt {p w prod n : Nat} {k : Int} (hk : k.toNat ≤ 3) (hp : prod < 2 ^ (n + 3)) (hw : w < 2 ^ n) : tstep p w prod k < 2 ^ (n + 3) := by
  unfold tstep
  split
  · refine xor_lt hp ?_
    calc w * 2 ^ k.toNat ≤ w * 2 ^ 3 := Nat.mul_le_mul_left _ (Nat.pow_le_pow_right (by decide) hk)
      _ < 2 ^ n * 2 ^ 3 := Nat.mul_lt_mul_of_pos_right hw (by decide)
      _ = 2 ^ (n + 3) := (Nat.pow_add ..).symm
  · exact hp
theorem times_lt {p w n : Nat} (hw : w < 2 ^ n) : times p w < 2 ^ (n + 3) := by
  have h0 : (0 : Nat) < 2 ^ (n + 3) := Nat.pow_pos (by decide)
  show tstep p w (tstep p w (tstep p w (tstep p w 0 0) 1) 2) 3 < _
  exact tstep_lt (by decide) (tstep_lt (by decide) (tstep_lt (by decide) (tstep_lt (by decide) h0 hw) hw) hw) hw

structure CF where
  (b bo a t : Nat)
noncomputable def cfStep (c : CF) (v : Int) : CF := ⟨c.bo, times v.toNat c.bo ^^^ c.b, c.t, times v.toNat c.t ^^^ c.a⟩
noncomputable def cf (ps : List Int) : CF := ps.foldl cfStep ⟨0, 1, 1, 0⟩
structure TS where
  (top : Nat)
  (out : List Int)
  (bit : PV)
noncomputable def tsStep (bo deg : Nat) (s : TS) (_ : Int) : TS :=
  ⟨2 * s.top ^^^ 2 * s.top / 2 ^ deg % 2 * bo, s.out ++ [((2 * s.top / 2 ^ deg % 2 : Nat) : Int)], .int ((2 * s.top / 2 ^ deg % 2 : Nat) : Int)⟩
noncomputable def textL (ps : List Int) (deg : Nat) : List Int := (((List.range 10).map fun i : Nat => (i : Int)).foldl (tsStep (cf ps).bo deg) ⟨(cf ps).t, [], .undef⟩).out
noncomputable def textG : List PV → Option PV
  | [p, .int (.ofNat d)] => match p.arg with
    | .blist zs => if zs.length ≤ 6 ∧ (∀ z ∈ zs, 0 ≤ z) ∧ d < 30 then some (.list (textL zs d)) else none
    | _ => none
  | _ => none

theorem foldl_inv {σ : Type} {step : σ → Int → σ} (Inv : Nat → σ → Prop) : ∀ (xs : List Int) (n : Nat) (st : σ), Inv n st → (∀ j st v, Inv j st → Inv (j + 1) (step st v)) → Inv (n + xs.length) (xs.foldl step st)
  | [], _, _, h, _ => h
  | v :: r, n, st, h, hs => by
    rw [List.length_cons, show n + (r.length + 1) = n + 1 + r.length by omega]
    exact foldl_inv Inv r (n + 1) (step st v) (hs n st v h) hs
noncomputable def CFI (j : Nat) (c : CF) : Prop := c.b < 2 ^ (3 * j + 1) ∧ c.bo < 2 ^ (3 * j + 1) ∧ c.a < 2 ^ (3 * j + 1) ∧ c.t < 2 ^ (3 * j + 1)
theorem CFI.step {j : Nat} {c : CF} {v : Int} (h : CFI j c) : CFI (j + 1) (cfStep c v) := by
  obtain ⟨i1, i2, i3, i4⟩ := h
  have hm : 2 ^ (3 * j + 1) ≤ 2 ^ (3 * (j + 1) + 1) := Nat.pow_le_pow_right (by decide) (by omega)
  have e3 : 3 * j + 1 + 3 = 3 * (j + 1) + 1 := by omega
  have t1 := times_lt (p := v.toNat) i2
  have t2 := times_lt (p := v.toNat) i4
  rw [e3] at t1 t2
  exact ⟨Nat.lt_of_lt_of_le i2 hm, xor_lt t1 (Nat.lt_of_lt_of_le i1 hm), Nat.lt_of_lt_of_le i4 hm, xor_lt t2 (Nat.lt_of_lt_of_le i3 hm)⟩
theorem cf_lt (zs : List Int) (h : zs.length ≤ 6) : (cf zs).b < 2 ^ 19 ∧ (cf zs).bo < 2 ^ 19 ∧ (cf zs).a < 2 ^ 19 ∧ (cf zs).t < 2 ^ 19 := by
  have := foldl_inv (step := cfStep) CFI zs 0 ⟨0, 1, 1, 0⟩ (by unfold CFI; decide) (fun j st v h => CFI.step (v := v) h)
  obtain ⟨h1, h2, h3, h4⟩ := this
  have hm : 2 ^ (3 * (0 + zs.length) + 1) ≤ 2 ^ 19 := Nat.pow_le_pow_right (by decide) (by omega)
  exact ⟨Nat.lt_of_lt_of_le h1 hm, Nat.lt_of_lt_of_le h2 hm, Nat.lt_of_lt_of_le h3 hm, Nat.lt_of_lt_of_le h4 hm⟩
theorem timesG_eq {p w : Nat} (h : w < 2 ^ 60) : timesG [.int (p : Int), .int (w : Int)] = some (.int (times p w : Nat)) := by
  show (if w < 2 ^ 60 then some (PV.int (times p w : Nat)) else none) = _
  rw [if_pos h]
theorem pow_le60 {n : Nat} (h : n ≤ 60) : 2 ^ n ≤ 2 ^ 60 := Nat.pow_le_pow_right (by decide) h
section
variable {m : List PV}
theorem set2_eq {i j : Nat} {F₁ F₂ : VF} {a b : Int} (h1 : F₁ m = some (.int a)) (h2 : F₂ m = some (.int b)) : set2F i j F₁ F₂ m = some (.next, (m.set j (.int b)).set i (.int a)) := by
  unfold set2F
  rw [h1, h2]
end

section
variable {prog : Program} {w : World} {hB : Heap} {k : Nat}
variable {mg mb : Str → Option Value} {defs : List DefItem}
theorem textOk : DefOk (itm 10) ["parts", "degree"] ["below", "bottom", "above", "top", "part", "text", "k", "bit"] where
  kind := rfl
  co := rfl
  gen := rfl
  nodup := by decide +kernel
  kinds := by decide +kernel
  nofree := by decide +kernel
  bind := by
    intro pm cd doc vals hl
    match vals, hl with
    | [v, u], _ => rfl
theorem C_text (g : Gd hB mg mb defs usedB) (hat : (itm 10).At mg hB) {f : Addr} (hf : mg "_law_text" = some (.ref f)) (ht : (itm 9).At mg hB) {f9 : Addr} (hf9 : mg "_law_times" = some (.ref f9)) (hft : FnAt hB mg "_law_times" f9) : COk prog w hB (k + 2) (.ref f) textG := by
  have W : SOk prog w hB false (k + 1) (itm 10).scope (([("parts" : Str), "degree"] : List Str) ++ [("below" : Str), "bottom", "above", "top", "part", "text", "k", "bit"]) (itm 10).body _ :=
    (S_cons (S_assign 2 rfl (E_int).s.g (by rintro ⟨⟩ rfl; rfl)) (S_cons (S_assign 3 rfl (E_int).s.g (by rintro ⟨⟩ rfl; rfl)) (S_cons (S_assign 4 rfl (E_int).s.g (by rintro ⟨⟩ rfl; rfl)) (S_cons (S_assign 5 rfl (E_int).s.g (by rintro ⟨⟩ rfl; rfl)) (S_cons (S_forB 6 0 rfl rfl rfl (S_cons (S_assign2 2 3 rfl rfl (E_name 3 rfl rfl) (E_xor ((nCall2 <| E_call2 g rfl rfl hft (C_times g ht hf9) (E_name 6 rfl rfl) (E_name 3 rfl rfl) (fun _ _ => rfl) (fun _ _ => rfl))).e (E_name 2 rfl rfl)) (fun _ _ => rfl) (fun _ _ => rfl) (by rintro ⟨⟩ rfl; rfl) (by rintro ⟨⟩ rfl; rfl)) (S_cons (S_assign2 4 5 rfl rfl (E_name 5 rfl rfl) (E_xor ((nCall2 <| E_call2 g rfl rfl hft (C_times g ht hf9) (E_name 6 rfl rfl) (E_name 5 rfl rfl) (fun _ _ => rfl) (fun _ _ => rfl))).e (E_name 4 rfl rfl)) (fun _ _ => rfl) (fun _ _ => rfl) (by rintro ⟨⟩ rfl; rfl) (by rintro ⟨⟩ rfl; rfl)) S_nil))) (S_cons (S_newlist 7 rfl (by rintro ⟨⟩ rfl; rfl)) (S_cons (S_forR 8 rfl (nRng1 <| It_range1 g ⟨rfl, by decide +kernel, by decide +kernel, by decide +kernel, rfl⟩ E_int (fun _ _ => rfl)) (S_cons (S_assign 5 rfl ((E_mul E_int (E_name 5 rfl rfl))).s.g (by rintro ⟨⟩ rfl; rfl)) (S_cons (S_assign 9 rfl ((E_mod (E_div (E_name 5 rfl rfl) (E_pow E_int (E_name 1 rfl rfl))) E_int)).s.g (by rintro ⟨⟩ rfl; rfl)) (S_cons (S_append 7 rfl rfl (E_name 9 rfl rfl) (fun _ _ => rfl) rfl) (S_cons (S_assign 5 rfl ((E_xor (E_name 5 rfl rfl) (E_mul (E_name 9 rfl rfl) (E_name 3 rfl rfl)))).s.g (by rintro ⟨⟩ rfl; rfl)) S_nil)))) (fun _ _ => rfl)) (S_cons (S_retOwn 7 rfl rfl) S_nil))))))))
  refine (C_of g hat hf textOk W fun ps p hG => ?_).p
  unfold textG at hG
  split at hG
  · rename_i q d
    split at hG
    · rename_i zs hq
      split at hG
      · rename_i hz
        obtain rfl := Option.some.inj hG
        obtain ⟨h6, hn, hd⟩ := hz
        refine ⟨rfl, Ret.res ?_⟩
        show Ret _ [q.arg, .int (.ofNat d), .undef, .undef, .undef, .undef, .undef, .undef, .undef, .undef] _
        rw [hq]
        refine Ret.seq (Ev.set (a := 0) rfl) (Ret.seq (Ev.set (a := 1) rfl) (Ret.seq (Ev.set (a := 1) rfl) (Ret.seq (Ev.set (a := 0) rfl) ?_)))
        refine Ret.ex (e := fun kv => [.blist zs, .int (.ofNat d), .int ((cf zs).b : Int), .int ((cf zs).bo : Int), .int ((cf zs).a : Int), .int ((cf zs).t : Int), kv, .undef, .undef, .undef])
          (forB_exI zs (fun kv (c : CF) => [.blist zs, .int (.ofNat d), .int (c.b : Int), .int (c.bo : Int), .int (c.a : Int), .int (c.t : Int), kv, .undef, .undef, .undef]) cfStep
            CFI .undef ⟨0, 1, 1, 0⟩ rfl rfl (fun _ _ _ => rfl) (by unfold CFI; decide) ?_) fun kv => ?_
        · intro j c v hj hi
          have hi' := CFI.step (v := v) hi
          obtain ⟨b, bo, a, t⟩ := c
          obtain ⟨i1, i2, i3, i4⟩ := hi
          have hjl : j < zs.length := (List.getElem?_eq_some_iff.mp hj).1
          obtain ⟨p, rfl⟩ := Int.eq_ofNat_of_zero_le (hn v (List.mem_of_getElem? hj))
          have h60 := pow_le60 (n := 3 * j + 1) (by omega)
          exact ⟨Nx.seq (set2_eq (a := (bo : Int)) (b := ((times p bo ^^^ b : Nat) : Int)) rfl (Ev.xor (call2F_eq rfl rfl (timesG_eq (Nat.lt_of_lt_of_le i2 h60))) rfl)) (Nx.seq (set2_eq (a := (t : Int)) (b := ((times p t ^^^ a : Nat) : Int)) rfl (Ev.xor (call2F_eq rfl rfl (timesG_eq (Nat.lt_of_lt_of_le i4 h60))) rfl)) rfl), hi'⟩
        · obtain ⟨c1, c2, c3, c4⟩ := cf_lt zs h6
          have hpd : 0 < 2 ^ d ∧ 2 ^ d < 2 ^ 30 := ⟨Nat.pow_pos (by decide), Nat.pow_lt_pow_right (by decide) hd⟩
          refine Ret.seq rfl (Ret.ex (e := fun kv' => [.blist zs, .int (.ofNat d), .int ((cf zs).b : Int), .int ((cf zs).bo : Int), .int ((cf zs).a : Int), .int ((((List.range 10).map fun i : Nat => (i : Int)).foldl (tsStep (cf zs).bo d) ⟨(cf zs).t, [], .undef⟩).top : Int), kv, .olist (textL zs d), kv', (((List.range 10).map fun i : Nat => (i : Int)).foldl (tsStep (cf zs).bo d) ⟨(cf zs).t, [], .undef⟩).bit])
            (for_exI ((List.range 10).map fun i : Nat => (i : Int)) (fun kv' (s : TS) => [.blist zs, .int (.ofNat d), .int ((cf zs).b : Int), .int ((cf zs).bo : Int), .int ((cf zs).a : Int), .int (s.top : Int), kv, .olist s.out, kv', s.bit]) (tsStep (cf zs).bo d)
              (fun j s => s.top < 2 ^ (20 + j) ∧ s.out.length = j) .undef ⟨(cf zs).t, [], .undef⟩ rfl (rng1_eq rfl (by decide)) (fun _ _ _ => rfl) ⟨Nat.lt_of_lt_of_le c4 (by decide), rfl⟩ ?_) fun kv' => Ret.retOwn rfl)
          intro j s v hj hi
          obtain ⟨top, out, bit⟩ := s
          obtain ⟨i1, i2⟩ := hi
          replace i1 : top < 2 ^ (20 + j) := i1
          replace i2 : out.length = j := i2
          have hj10 : j < 10 := by have := (List.getElem?_eq_some_iff.mp hj).1; simpa using this
          have h60 := pow_le60 (n := 20 + j) (by omega)
          have h3 : ∀ (x1 x2 x3 x4 x5 x6 x7 x8 : PV), Ev (bin (fun a b => if a = 2 ∧ 0 ≤ b ∧ b < 1000 then some (PV.int (2 ^ b.toNat)) else none) (fun x => some (PV.int 2)) (fun m => PV.get? m 1)) [x1, .int (.ofNat d), x2, x3, x4, x5, x6, x7, x8, bit] (2 ^ d) := fun _ _ _ _ _ _ _ _ => Ev.pow rfl rfl (by omega)
          have hb2 : 2 * top / 2 ^ d % 2 < 2 := Nat.mod_lt _ (by decide)
          have hstep : 2 * top < 2 ^ (20 + (j + 1)) := by
            rw [show 20 + (j + 1) = (20 + j) + 1 by omega, Nat.pow_succ]; omega
          refine ⟨?_, ?_, ?_⟩
          · refine Nx.seq (Ev.set (Ev.mul (a := 2) (b := top) rfl rfl (by decide) (Nat.lt_of_lt_of_le i1 h60))) ?_
            refine Nx.seq (Ev.set (Ev.mod (Ev.div (a := 2 * top) rfl (h3 ..) hpd.1 hpd.2) rfl (by decide) (by decide))) ?_
            refine Nx.seq (app_eq (xs := out) rfl rfl (by omega)) ?_
            refine Nx.seq (Ev.set (Ev.xor (a := 2 * top) rfl (Ev.mul (a := 2 * top / 2 ^ d % 2) (b := (cf zs).bo) rfl rfl (by omega) (by omega)))) rfl
          · show 2 * top ^^^ 2 * top / 2 ^ d % 2 * (cf zs).bo < _
            refine xor_lt hstep (Nat.lt_of_le_of_lt (Nat.mul_le_mul_right _ (Nat.le_of_lt_succ hb2)) ?_)
            rw [Nat.one_mul]
            exact Nat.lt_of_lt_of_le c2 (Nat.pow_le_pow_right (by decide) (by omega))
          · show (out ++ [_]).length = j + 1
            simp [i2]
      · cases hG
    · cases hG
  · cases hG
end
end Mine
end
section
open PySem PySem.W PySem.Calls PyProof.Rows
namespace Mine

noncomputable def dotL (tp ts : List Int) (pl : Nat) : Int := ((List.range tp.length).map fun k : Nat => tp.getD k 0 * ts.getD (pl - 1 - k) 0).sum
noncomputable def reachL (tp ts : List Int) : Nat → Nat → Nat
  | 0, pl => pl
  | n + 1, pl => if pl < 10 ∧ dotL tp ts pl % 2 = ts.getD pl 0 then reachL tp ts n (pl + 1) else pl
noncomputable abbrev bits01 (xs : List Int) : Prop := ∀ x ∈ xs, 0 ≤ x ∧ x ≤ 1
noncomputable def reachG : List PV → Option PV
  | [p, q] => match p.arg, q.arg with
    | .blist ts, .blist tp => if ts.length = 10 ∧ tp.length ≤ 5 ∧ bits01 ts ∧ bits01 tp then some (.int (reachL tp ts 11 tp.length : Nat)) else none
    | _, _ => none
  | _ => none

theorem while_reach {T : List PV → Option Bool} {B : List PV → Option (PF × List PV)} {ts tp : List Int}
    (hT : ∀ pl : Nat, tp.length ≤ pl → T [.blist ts, .blist tp, .int (pl : Int)] = some (decide (pl < 10 ∧ dotL tp ts pl % 2 = ts.getD pl 0)))
    (hB : ∀ pl : Nat, B [.blist ts, .blist tp, .int (pl : Int)] = some (.next, [.blist ts, .blist tp, .int ((pl + 1 : Nat) : Int)])) :
    ∀ (n N pl : Nat), tp.length ≤ pl → pl + n ≥ 10 → n < N → whileF T B N [.blist ts, .blist tp, .int (pl : Int)] = some (.next, [.blist ts, .blist tp, .int (reachL tp ts n pl : Nat)])
  | 0, N + 1, pl, h1, h2, h3 => by
    rw [while_stop (by rw [hT pl h1, decide_eq_false (by omega)])]
    rfl
  | n + 1, N + 1, pl, h1, h2, h3 => by
    unfold reachL
    by_cases hc : pl < 10 ∧ dotL tp ts pl % 2 = ts.getD pl 0
    · rw [if_pos hc]
      exact while_go (by rw [hT pl h1, decide_eq_true hc]) (hB pl) (while_reach hT hB n N (pl + 1) (by omega) (by omega) (by omega))
    · rw [if_neg hc, while_stop (by rw [hT pl h1, decide_eq_false hc])]

section
variable {prog : Program} {w : World} {hB : Heap} {k : Nat}
variable {mg mb : Str → Option Value} {defs : List DefItem}
theorem reachOk : DefOk (itm 11) ["text", "taps"] ["place"] where
  kind := rfl
  co := rfl
  gen := rfl
  nodup := by decide +kernel
  kinds := by decide +kernel
  nofree := by decide +kernel
  bind := by
    intro pm cd doc vals hl
    match vals, hl with
    | [v, u], _ => rfl
theorem C_reach (g : Gd hB mg mb defs usedB) (hat : (itm 11).At mg hB) {f : Addr} (hf : mg "_law_reach" = some (.ref f)) : COk prog w hB (k + 1) (.ref f) reachG := by
  have W : SOk prog w hB false k (itm 11).scope (([("text" : Str), "taps"] : List Str) ++ [("place" : Str)]) (itm 11).body _ :=
    (S_cons (S_assign 2 rfl ((nCall <| E_bi1 g ⟨rfl, by decide +kernel, by decide +kernel, by decide +kernel, rfl⟩ (E_name 1 rfl rfl) C_len (fun _ _ => rfl))).g (by rintro ⟨⟩ rfl; rfl)) (S_cons (S_while 40 (T_bool (nAnd <| All_and (T_cmp (E_name 2 rfl rfl) E_int rfl) (nAnd <| All_and (T_cmp (E_mod ((nCall <| E_bi1 g ⟨rfl, by decide +kernel, by decide +kernel, by decide +kernel, rfl⟩ ((nComp <| E_comp (CompOk.mk (cv := false) (msk := [true, true, true]) rfl rfl (fun _ _ => rfl) (fun _ => rfl) (by decide +kernel) (by decide +kernel) (by decide +kernel) (by decide +kernel) (by decide +kernel)) (nRng1 <| It_range1 (bb := true) g ⟨rfl, by decide +kernel, by decide +kernel, by decide +kernel, rfl⟩ ((nCall <| E_bi1 g ⟨rfl, by decide +kernel, by decide +kernel, by decide +kernel, rfl⟩ (E_name 1 rfl rfl) C_len (fun _ _ => rfl))).e (fun _ _ => rfl)) (E_mul (nIdx <| E_idx (E_name 2 rfl rfl) (E_name 0 rfl rfl) (fun _ _ => rfl) (fun _ _ => rfl)) (nIdx <| E_idx (E_name 1 rfl rfl) (E_sub (E_sub (E_name 3 rfl rfl) E_int) (E_name 0 rfl rfl)) (fun _ _ => rfl) (fun _ _ => rfl))) Ts_nil (fun _ _ => rfl))).e C_sum (fun _ _ => rfl))).e E_int) (nIdx <| E_idx (E_name 0 rfl rfl) (E_name 2 rfl rfl) (fun _ _ => rfl) (fun _ _ => rfl)) rfl) All_and_nil))).g (S_cons (S_assign 2 rfl ((E_add (E_name 2 rfl rfl) E_int)).s.g (by rintro ⟨⟩ rfl; rfl)) S_nil)) (S_cons (S_ret ((E_name 2 rfl rfl)).s.g) S_nil)))
  refine (C_of g hat hf reachOk W fun ps p hG => ?_).p
  unfold reachG at hG
  split at hG
  · rename_i q q'
    split at hG
    · rename_i ts tp hq hq'
      split at hG
      · rename_i hz
        obtain rfl := Option.some.inj hG
        obtain ⟨h10, h5, hb, hb'⟩ := hz
        refine ⟨rfl, Ret.res ?_⟩
        show Ret _ [q.arg, q'.arg, .undef] _
        rw [hq, hq']
        refine Ret.seq (setJ (Ev.len (xs := tp) rfl rfl (by omega))) (Ret.seq (while_reach (ts := ts) (tp := tp) (fun pl hpl => ?_) (fun pl => ?_) 11 40 tp.length (Nat.le_refl _) (by omega) (by omega)) (Ret.ret (Ev.scl rfl)))
        · refine (andF_eq (b := decide (pl < 10)) (c := decide (dotL tp ts pl % 2 = ts.getD pl 0)) (Ev.lt (a := pl) (b := 10) rfl rfl) fun h => ?_).trans (by rw [Bool.decide_and])
          have hp : pl < 10 := of_decide_eq_true h
          have hi : ∀ i, i < 10 → ts[i]? = some (ts.getD i 0) := fun i h => by rw [List.getD, List.getElem?_eq_getElem (by omega)]; rfl
          have hi' : ∀ i, i < tp.length → tp[i]? = some (tp.getD i 0) := fun i h => by rw [List.getD, List.getElem?_eq_getElem (by omega)]; rfl
          have hs : ∀ i, (ts.getD i 0).natAbs ≤ 1 := fun i => by
            by_cases h : i < ts.length
            · have := hb _ (List.mem_of_getElem? (hi i (by omega))); omega
            · rw [List.getD, List.getElem?_eq_none (by omega)]; decide
          have hs' : ∀ i, (tp.getD i 0).natAbs ≤ 1 := fun i => by
            by_cases h : i < tp.length
            · have := hb' _ (List.mem_of_getElem? (hi' i h)); omega
            · rw [List.getD, List.getElem?_eq_none (by omega)]; decide
          refine (andF_eq (b := decide (dotL tp ts pl % 2 = ts.getD pl 0)) (c := true) ((cmpF_eq (p := .int (dotL tp ts pl % 2)) (q := .int (ts.getD pl 0)) (bin_eq (a := dotL tp ts pl) (b := 2) (sum_eq (comp_all (fun x => tp.getD x.toNat 0 * ts.getD (pl - 1 - x.toNat) 0) (rng1_eq (Ev.len (xs := tp) rfl rfl (by omega)) (by omega)) (fun x hx => rfl) (fun x hx => ?_)) ?_) rfl ?_) (idx_nat rfl rfl rfl (by omega) (hi pl hp))).trans ?_) fun _ => rfl).trans (by rw [Bool.and_true])
          · obtain ⟨i, hi2, rfl⟩ := List.mem_map.mp hx
            have hi3 : i < tp.length := List.mem_range.mp hi2
            refine bin_eq (a := tp.getD i 0) (b := ts.getD (pl - 1 - i) 0) (idx_nat rfl rfl rfl (by omega) (hi' i hi3)) (idx_nat rfl rfl (Ev.sub (Ev.sub (a := pl) (b := 1) rfl rfl (by omega)) rfl (by omega)) (by omega) (hi _ (by omega))) ?_
            have := hs (pl - 1 - i)
            have := hs' i
            rw [if_pos ⟨by omega, by omega⟩, Int.toNat_natCast]
          · show some _ = some _
            rw [List.map_map]; rfl
          · rw [if_pos (by decide), Int.fmod_eq_emod_of_nonneg _ (by decide)]
          · show some (dotL tp ts pl % 2 == ts.getD pl 0) = _
            congr 1
        · exact Nx.seq (Ev.set (Ev.add (a := pl) (b := 1) rfl rfl)) rfl
      · cases hG
    · cases hG
  · cases hG
end
end Mine
end
section
open PySem PySem.W PySem.Calls PyProof.Rows
namespace Mine

noncomputable def lastKv : PV → List Int → PV
  | kv, [] => kv
  | _, v :: r => lastKv (.int v) r
theorem forF_runD {σ : Type} {i : Nat} {B : List PV → Option (PF × List PV)} (enc : PV → σ → List PV) (step : σ → Int → σ) (Inv : Nat → σ → Prop) (hset : ∀ kv st v, (enc kv st).set i (.int v) = enc (.int v) st) :
    ∀ (xs : List Int) (n : Nat) (_ : ∀ j st v, xs[j]? = some v → Inv (n + j) st → B (enc (.int v) st) = some (.next, enc (.int v) (step st v)) ∧ Inv (n + j + 1) (step st v)) (kv : PV) (st : σ), Inv n st →
      forF i B xs (enc kv st) = some (.next, enc (lastKv kv xs) (xs.foldl step st)) ∧ Inv (n + xs.length) (xs.foldl step st)
  | [], n, _, kv, st, hi => ⟨rfl, hi⟩
  | v :: r, n, hB, kv, st, hi => by
    obtain ⟨h1, h2⟩ := hB 0 st v rfl hi
    obtain ⟨h3, h4⟩ := forF_runD enc step Inv hset r (n + 1) (fun j st v hv hi => by
      have := hB (j + 1) st v (by simpa using hv) (by rw [show n + (j + 1) = n + 1 + j by omega]; exact hi)
      rw [show n + (j + 1) + 1 = n + 1 + j + 1 by omega] at this
      exact this) (.int v) (step st v) h2
    refine ⟨?_, by rw [List.length_cons, show n + (r.length + 1) = n + 1 + r.length by omega]; exact h4⟩
    show (match B ((enc kv st).set i (.int v)) with | some (.next, m') => forF i B r m' | some (.brk, m') => some (.next, m') | some (.ret p, m') => some (.ret p, m') | none => none) = _
    rw [hset, h1]
    exact h3
theorem for_D {σ : Type} {i : Nat} {Fit : List PV → Option (List Int)} {B : List PV → Option (PF × List PV)} {m₀ : List PV} (xs : List Int) (enc : PV → σ → List PV) (step : σ → Int → σ) (Inv : Nat → σ → Prop) (kv : PV) (st : σ) (hm : m₀ = enc kv st)
    (hx : Fit m₀ = some xs) (hset : ∀ kv st v, (enc kv st).set i (.int v) = enc (.int v) st) (hi : Inv 0 st) (hB : ∀ j st v, xs[j]? = some v → Inv j st → B (enc (.int v) st) = some (.next, enc (.int v) (step st v)) ∧ Inv (j + 1) (step st v)) :
    forItF i Fit B m₀ = some (.next, enc (lastKv kv xs) (xs.foldl step st)) := by
  obtain ⟨h1, _⟩ := forF_runD enc step Inv hset xs 0 (fun j st v h1 h2 => by rw [Nat.zero_add] at h2 ⊢; exact hB j st v h1 h2) kv st hi
  unfold forItF
  rw [hx, hm]
  exact h1

theorem bits_lt (n : Nat) : n < 2 ^ bits n := by
  unfold bits
  by_cases h : n = 0
  · rw [if_pos h, h]; decide
  · rw [if_neg h]; exact Nat.lt_log2_self
theorem bits_le {n j : Nat} (h : n < 2 ^ j) : bits n ≤ j := by
  unfold bits
  by_cases h0 : n = 0
  · rw [if_pos h0]; omega
  · rw [if_neg h0]; exact (Nat.log2_lt h0).mpr h

noncomputable def lowL (ts : List Int) : Nat := ts.foldl (fun l v => 2 * l + v.toNat) 0
noncomputable def divI : List Int := [10, 9, 8, 7, 6, 5, 4, 3, 2, 1, 0]
noncomputable def divStep (lower : Nat) (qu : Nat × Nat) (sh : Int) : Nat × Nat :=
  if bits qu.2 = bits lower + sh.toNat then (qu.1 + 2 ^ sh.toNat, qu.2 ^^^ lower * 2 ^ sh.toNat) else qu
noncomputable def divQ (upper lower : Nat) : Nat × Nat := divI.foldl (divStep lower) (0, upper)
structure QS where
  (lower upper : Nat)
  (qs : List Int)
  (q sh : PV)
noncomputable def qStep (s : QS) (_ : Int) : QS :=
  if 0 < s.lower then ⟨(divQ s.upper s.lower).2, s.lower, s.qs ++ [((divQ s.upper s.lower).1 : Int)], .int ((divQ s.upper s.lower).1 : Int), .int 0⟩ else s
noncomputable def quotL (ts : List Int) : List Int := (((List.range 10).map fun i : Nat => (i : Int)).foldl qStep ⟨lowL ts, 1024, [], .undef, .undef⟩).qs
noncomputable def quotG : List PV → Option PV
  | [p] => match p.arg with
    | .blist ts => if ts.length = 10 ∧ bits01 ts then some (.list (quotL ts)) else none
    | _ => none
  | _ => none

theorem divStep_lt {l : Nat} {qu : Nat × Nat} {sh : Int} (hu : qu.2 < 2 ^ 11) : (divStep l qu sh).2 < 2 ^ 11 := by
  unfold divStep
  split
  · rename_i h
    refine xor_lt hu ?_
    have h1 := bits_lt l
    have h2 := bits_le hu
    calc l * 2 ^ sh.toNat < 2 ^ bits l * 2 ^ sh.toNat := Nat.mul_lt_mul_of_pos_right h1 (Nat.pow_pos (by decide))
      _ = 2 ^ bits qu.2 := by rw [← Nat.pow_add, h]
      _ ≤ 2 ^ 11 := Nat.pow_le_pow_right (by decide) h2
  · exact hu
theorem divFold_lt {l : Nat} : ∀ (xs : List Int) (qu : Nat × Nat), qu.2 < 2 ^ 11 → (xs.foldl (divStep l) qu).2 < 2 ^ 11
  | [], _, h => h
  | _ :: r, _, h => divFold_lt r _ (divStep_lt h)
theorem lowL_lt (ts : List Int) (h : ts.length = 10) (hb : bits01 ts) : lowL ts < 2 ^ 11 := by
  have : ∀ (xs : List Int) (l n : Nat), l < 2 ^ n → (∀ x ∈ xs, 0 ≤ x ∧ x ≤ 1) → xs.foldl (fun l v => 2 * l + v.toNat) l < 2 ^ (n + xs.length) := by
    intro xs
    induction xs with
    | nil => intro l n h _; exact h
    | cons v r ih =>
      intro l n h hb
      rw [List.length_cons, show n + (r.length + 1) = n + 1 + r.length by omega]
      refine ih _ _ ?_ fun x hx => hb x (List.mem_cons_of_mem _ hx)
      have := hb v (List.mem_cons_self ..)
      show 2 * l + v.toNat < 2 ^ (n + 1)
      rw [Nat.pow_succ]; omega
  have h' := this ts 0 0 (by decide) hb
  rw [h] at h'
  exact Nat.lt_of_lt_of_le h' (by decide)
theorem highG_eq (n : Nat) : highG [.int (n : Int)] = some (.int ((bits n : Int) - 1)) := rfl

section
variable {prog : Program} {w : World} {hB : Heap} {k : Nat}
variable {mg mb : Str → Option Value} {defs : List DefItem}
theorem quotOk : DefOk (itm 12) ["text"] ["lower", "bit", "upper", "quotients", "k", "quotient", "shift"] where
  kind := rfl
  co := rfl
  gen := rfl
  nodup := by decide +kernel
  kinds := by decide +kernel
  nofree := by decide +kernel
  bind := by
    intro pm cd doc vals hl
    match vals, hl with
    | [v], _ => rfl
set_option maxHeartbeats 4000000 in
theorem C_quot (g : Gd hB mg mb defs usedB) (hat : (itm 12).At mg hB) {f : Addr} (hf : mg "_law_quotients" = some (.ref f)) (hh : (itm 5).At mg hB) {f5 : Addr} (hf5 : mg "_high_bit" = some (.ref f5)) (hfh : FnAt hB mg "_high_bit" f5) : COk prog w hB (k + 2) (.ref f) quotG := by
  have W : SOk prog w hB false (k + 1) (itm 12).scope (([("text" : Str)] : List Str) ++ [("lower" : Str), "bit", "upper", "quotients", "k", "quotient", "shift"]) (itm 12).body _ :=
    (S_cons (S_assign 1 rfl (E_int).s.g (by rintro ⟨⟩ rfl; rfl)) (S_cons (S_forB 2 0 rfl rfl rfl (S_cons (S_assign 1 rfl ((E_add (E_mul E_int (E_name 1 rfl rfl)) (E_name 2 rfl rfl))).s.g (by rintro ⟨⟩ rfl; rfl)) S_nil)) (S_cons (S_assign 3 rfl ((E_pow E_int E_int)).s.g (by rintro ⟨⟩ rfl; rfl)) (S_cons (S_newlist 4 rfl (by rintro ⟨⟩ rfl; rfl)) (S_cons (S_forR 5 rfl (nRng1 <| It_range1 g ⟨rfl, by decide +kernel, by decide +kernel, by decide +kernel, rfl⟩ E_int (fun _ _ => rfl)) (S_cons (S_if (T_cmp (E_name 1 rfl rfl) E_int rfl).g (S_cons (S_assign 6 rfl (E_int).s.g (by rintro ⟨⟩ rfl; rfl)) (S_cons (S_forR 7 rfl (nRng3 <| It_range3 g ⟨rfl, by decide +kernel, by decide +kernel, by decide +kernel, rfl⟩ E_int (nNeg <| E_neg E_int) (nNeg <| E_neg E_int) (fun _ _ => rfl) (fun _ _ => rfl) (fun _ _ => rfl)) (S_cons (S_if (T_cmp ((nCall <| E_call1 g rfl rfl hfh (C_high g hh hf5) (E_name 3 rfl rfl) (fun _ _ => rfl))).e (E_add ((nCall <| E_call1 g rfl rfl hfh (C_high g hh hf5) (E_name 1 rfl rfl) (fun _ _ => rfl))).e (E_name 7 rfl rfl)) rfl).g (S_cons (S_assign 6 rfl ((E_add (E_name 6 rfl rfl) (E_pow E_int (E_name 7 rfl rfl)))).s.g (by rintro ⟨⟩ rfl; rfl)) (S_cons (S_assign 3 rfl ((E_xor (E_name 3 rfl rfl) (E_mul (E_name 1 rfl rfl) (E_pow E_int (E_name 7 rfl rfl))))).s.g (by rintro ⟨⟩ rfl; rfl)) S_nil)) S_nil) S_nil) (fun _ _ => rfl)) (S_cons (S_append 4 rfl rfl (E_name 6 rfl rfl) (fun _ _ => rfl) rfl) (S_cons (S_assign2 3 1 rfl rfl (E_name 1 rfl rfl) (E_name 3 rfl rfl) (fun _ _ => rfl) (fun _ _ => rfl) (by rintro ⟨⟩ rfl; rfl) (by rintro ⟨⟩ rfl; rfl)) S_nil)))) S_nil) S_nil) (fun _ _ => rfl)) (S_cons (S_retOwn 4 rfl rfl) S_nil))))))
  refine (C_of g hat hf quotOk W fun ps p hG => ?_).p
  unfold quotG at hG
  split at hG
  · rename_i q
    split at hG
    · rename_i ts hq
      split at hG
      · rename_i hz
        obtain rfl := Option.some.inj hG
        obtain ⟨h10, hb⟩ := hz
        refine ⟨rfl, Ret.res ?_⟩
        show Ret _ [q.arg, .undef, .undef, .undef, .undef, .undef, .undef, .undef] _
        rw [hq]
        refine Ret.seq (Ev.set (a := 0) rfl) (Ret.ex (e := fun kv => [.blist ts, .int (lowL ts : Nat), kv, .undef, .undef, .undef, .undef, .undef])
          (forB_exI ts (fun kv (l : Nat) => [.blist ts, .int (l : Int), kv, .undef, .undef, .undef, .undef, .undef]) (fun l v => 2 * l + v.toNat) (fun j l => l < 2 ^ j) .undef 0 rfl rfl (fun _ _ _ => rfl) (by decide) ?_) fun kv => ?_)
        · intro j l v hj hl
          have hjl : j < ts.length := (List.getElem?_eq_some_iff.mp hj).1
          obtain ⟨hv0, hv1⟩ := hb v (List.mem_of_getElem? hj)
          obtain ⟨b, rfl⟩ := Int.eq_ofNat_of_zero_le hv0
          have h60 := pow_le60 (n := j) (by omega)
          refine ⟨Nx.seq (Ev.set (Ev.add (a := 2 * l) (b := b) (Ev.mul (a := 2) (b := l) rfl rfl (by decide) (Nat.lt_of_lt_of_le hl h60)) rfl)) rfl, ?_⟩
          show 2 * l + b < 2 ^ (j + 1)
          rw [Nat.pow_succ]; omega
        · refine Ret.seq (Ev.set (a := 1024) (Ev.pow (b := 10) rfl rfl (by decide))) (Ret.seq rfl ?_)
          refine Ret.seq (m' := [.blist ts, .int ((((List.range 10).map fun i : Nat => (i : Int)).foldl qStep ⟨lowL ts, 1024, [], .undef, .undef⟩).lower : Int), kv, .int ((((List.range 10).map fun i : Nat => (i : Int)).foldl qStep ⟨lowL ts, 1024, [], .undef, .undef⟩).upper : Int), .olist (quotL ts), lastKv .undef ((List.range 10).map fun i : Nat => (i : Int)), (((List.range 10).map fun i : Nat => (i : Int)).foldl qStep ⟨lowL ts, 1024, [], .undef, .undef⟩).q, (((List.range 10).map fun i : Nat => (i : Int)).foldl qStep ⟨lowL ts, 1024, [], .undef, .undef⟩).sh])
            (for_D ((List.range 10).map fun i : Nat => (i : Int)) (fun kv' (s : QS) => [.blist ts, .int (s.lower : Int), kv, .int (s.upper : Int), .olist s.qs, kv', s.q, s.sh]) qStep (fun j s => s.lower < 2 ^ 11 ∧ s.upper < 2 ^ 11 ∧ s.qs.length ≤ j) .undef ⟨lowL ts, 1024, [], .undef, .undef⟩ rfl (rng1_eq rfl (by decide)) (fun _ _ _ => rfl) ⟨lowL_lt ts h10 hb, by show 1024 < 2 ^ 11; decide, Nat.zero_le _⟩ ?_) (Ret.retOwn rfl)
          intro j s v hj hi
          obtain ⟨l, u, qs, qq, sh⟩ := s
          obtain ⟨i1, i2, i3⟩ := hi
          replace i1 : l < 2 ^ 11 := i1
          replace i2 : u < 2 ^ 11 := i2
          replace i3 : qs.length ≤ j := i3
          have hj10 : j < 10 := by have := (List.getElem?_eq_some_iff.mp hj).1; simpa using this
          by_cases h0 : 0 < l
          · have hq : qStep ⟨l, u, qs, qq, sh⟩ v = ⟨(divQ u l).2, l, qs ++ [((divQ u l).1 : Int)], .int ((divQ u l).1 : Int), .int 0⟩ := if_pos h0
            have hu' : (divI.foldl (divStep l) (0, u)).2 < 2 ^ 11 := divFold_lt _ _ i2
            have hr : divI.foldl (divStep l) (0, u) = divQ u l := rfl
            rw [hr] at hu'
            generalize divQ u l = QR at hq hu' hr
            rw [hq]
            refine ⟨?_, hu', i1, by simp; omega⟩
            refine Nx.seq (m' := [.blist ts, .int (QR.2 : Int), kv, .int (l : Int), .olist (qs ++ [(QR.1 : Int)]), .int v, .int (QR.1 : Int), .int 0]) (iteF_of (b := true) ((Ev.gt (a := l) (b := 0) rfl rfl).trans (by rw [decide_eq_true h0])) ((if_pos rfl).trans ?_)) rfl
            refine Nx.seq (Ev.set (a := 0) rfl) ?_
            have hlk : lastKv sh divI = .int 0 := rfl
            have key : ∀ B, (∀ (j' : Nat) (x : Nat × Nat) (shv : Int), divI[j']? = some shv → x.2 < 2 ^ 11 → B [.blist ts, .int (l : Int), kv, .int (x.2 : Int), .olist qs, .int v, .int (x.1 : Int), .int shv] = some (.next, [.blist ts, .int (l : Int), kv, .int ((divStep l x shv).2 : Int), .olist qs, .int v, .int ((divStep l x shv).1 : Int), .int shv]) ∧ (divStep l x shv).2 < 2 ^ 11) →
                ∀ Fit, Fit [.blist ts, .int (l : Int), kv, .int (u : Int), .olist qs, .int v, .int ((0 : Nat) : Int), sh] = some divI →
                forItF 7 Fit B [.blist ts, .int (l : Int), kv, .int (u : Int), .olist qs, .int v, .int ((0 : Nat) : Int), sh] = some (.next, [.blist ts, .int (l : Int), kv, .int (QR.2 : Int), .olist qs, .int v, .int (QR.1 : Int), .int 0]) := by
              intro B hB Fit hF
              have := for_D (i := 7) (Fit := Fit) (B := B) divI (fun kv' (x : Nat × Nat) => [.blist ts, .int (l : Int), kv, .int (x.2 : Int), .olist qs, .int v, .int (x.1 : Int), kv']) (divStep l) (fun _ x => x.2 < 2 ^ 11) sh (0, u) rfl hF (fun _ _ _ => rfl) i2 (fun j' x shv h1 h2 => hB j' x shv h1 h2)
              rw [hr, hlk] at this
              exact this
            refine Nx.seq (key _ ?_ _ rfl) ?_
            · intro j' x shv hs hx
              obtain ⟨q₀, u₀⟩ := x
              replace hx : u₀ < 2 ^ 11 := hx
              refine ⟨?_, divStep_lt hx⟩
              obtain ⟨sn, hsn, rfl⟩ : ∃ sn : Nat, sn ≤ 10 ∧ shv = (sn : Int) := by
                have hm := List.mem_of_getElem? hs
                simp [divI] at hm
                exact ⟨shv.toNat, by omega, by omega⟩
              have h3 : Ev (bin (fun a b => if a = 2 ∧ 0 ≤ b ∧ b < 1000 then some (PV.int (2 ^ b.toNat)) else none) (fun x => some (PV.int 2)) (fun m => PV.get? m 7)) [.blist ts, .int (l : Int), kv, .int (u₀ : Int), .olist qs, .int v, .int (q₀ : Int), .int (sn : Int)] (2 ^ sn) := Ev.pow rfl rfl (by omega)
              have h3' : Ev (bin (fun a b => if a = 2 ∧ 0 ≤ b ∧ b < 1000 then some (PV.int (2 ^ b.toNat)) else none) (fun x => some (PV.int 2)) (fun m => PV.get? m 7)) [.blist ts, .int (l : Int), kv, .int (u₀ : Int), .olist qs, .int v, .int ((q₀ + 2 ^ sn : Nat) : Int), .int (sn : Int)] (2 ^ sn) := Ev.pow rfl rfl (by omega)
              refine Nx.seq (m' := [.blist ts, .int (l : Int), kv, .int ((divStep l (q₀, u₀) (sn : Int)).2 : Int), .olist qs, .int v, .int ((divStep l (q₀, u₀) (sn : Int)).1 : Int), .int (sn : Int)])
                (iteF_of (b := decide (bits u₀ = bits l + sn)) ((cmpF_eq (p := .int ((bits u₀ : Int) - 1)) (q := .int ((bits l : Int) - 1 + (sn : Int))) (callF_eq rfl (highG_eq u₀)) (bin_eq (a := (bits l : Int) - 1) (b := (sn : Int)) (callF_eq rfl (highG_eq l)) rfl rfl)).trans ?_) ?_) rfl
              · show some (((bits u₀ : Int) - 1) == ((bits l : Int) - 1 + (sn : Int))) = _
                by_cases hc : bits u₀ = bits l + sn
                · rw [decide_eq_true hc, beq_iff_eq.mpr (by omega)]
                · rw [decide_eq_false hc, beq_eq_false_iff_ne.mpr (by omega)]
              · have hst : divStep l (q₀, u₀) (sn : Int) = if bits u₀ = bits l + sn then (q₀ + 2 ^ sn, u₀ ^^^ l * 2 ^ sn) else (q₀, u₀) := by
                  unfold divStep; rw [Int.toNat_natCast]
                rw [hst]
                by_cases hc : bits u₀ = bits l + sn
                · rw [if_pos hc, decide_eq_true hc]
                  refine (if_pos rfl).trans (Nx.seq (Ev.set (Ev.add (a := q₀) rfl h3)) (Nx.seq (Ev.set (Ev.xor (a := u₀) rfl (Ev.mul (a := l) (b := 2 ^ sn) rfl h3' (Nat.lt_of_lt_of_le i1 (pow_le60 (by omega))) (Nat.lt_of_lt_of_le (Nat.pow_lt_pow_right (by decide) (by omega : sn < 11)) (pow_le60 (by omega)))))) rfl))
                · rw [if_neg hc, decide_eq_false hc]
                  rfl
            · refine Nx.seq (app_eq (xs := qs) rfl rfl (by omega)) (Nx.seq (set2_eq (a := (l : Int)) (b := (QR.2 : Int)) rfl rfl) rfl)
          · have hq : qStep ⟨l, u, qs, qq, sh⟩ v = ⟨l, u, qs, qq, sh⟩ := if_neg h0
            rw [hq]
            refine ⟨Nx.seq (m' := [.blist ts, .int (l : Int), kv, .int (u : Int), .olist qs, .int v, qq, sh]) (iteF_of (b := false) ((Ev.gt (a := l) (b := 0) rfl rfl).trans (by rw [decide_eq_false h0])) rfl) rfl, i1, i2, by show qs.length ≤ _; omega⟩
      · cases hG
    · cases hG
  · cases hG
end
end Mine
end
section
open PySem PySem.W PySem.Calls PyProof.Rows
namespace Mine

noncomputable abbrev lawNs : List Str := ["script", "row", "told", "sizes", "seed", "parts", "text", "marks", "size", "reaches", "mark", "later", "seen", "count", "due", "quotients", "near", "sure"]
noncomputable def lawSt (i : Nat) : Stmt := ((itm 13).body[i]?).getD (.Pass default)
noncomputable def lawRest : List Stmt := (itm 13).body.drop 2
noncomputable def menuL : List Int := [0, 1, 2, 3, 1, 2, 1, 127]
noncomputable def rowL (script : List Int) : List Int := (script.take 6).map (fun x => menuL.getD (x % 8).toNat 0) ++ [1, 2] ++ List.replicate (1 - script.sum % 2).toNat 0

section
variable {m : List PV}
theorem mull_eq {F₁ : List PV → Option (List Int)} {F₂ : VF} {x : Int} {i : Int} (h1 : F₁ m = some [x]) (h2 : F₂ m = some (.int i)) (h : 0 ≤ i ∧ i < 1000) : mullF F₁ F₂ m = some (.list (List.replicate i.toNat x)) := by
  unfold mullF
  rw [h1, h2]
  show (if 0 ≤ i ∧ i < 1000 then _ else _) = _
  rw [if_pos h]
theorem menu_eq {F₁ : List PV → Option (List Int)} {F₂ : VF} {xs : List Int} {i v : Int} (h1 : F₁ m = some xs) (h2 : F₂ m = some (.int i)) (h : 0 ≤ i ∧ xs.length < 1000) (hv : xs[i.toNat]? = some v) : menuF F₁ F₂ m = some (.int v) := by
  unfold menuF
  rw [h1]
  show (match F₂ m with | some (.int i) => if 0 ≤ i ∧ xs.length < 1000 then xs[i.toNat]?.map PV.int else none | _ => none) = _
  rw [h2]
  show (if 0 ≤ i ∧ xs.length < 1000 then xs[i.toNat]?.map PV.int else none) = _
  rw [if_pos h, hv]; rfl
theorem mod_eq {F₁ F₂ : VF} {a b : Int} (h1 : F₁ m = some (.int a)) (h2 : F₂ m = some (.int b)) (h : 0 < b ∧ b < 2 ^ 30) : bin (fun a b => if 0 < b ∧ b < 2 ^ 30 then some (.int (a.fmod b)) else none) F₁ F₂ m = some (.int (a % b)) :=
  bin_eq h1 h2 (by rw [if_pos h, Int.fmod_eq_emod_of_nonneg _ (by omega)])
theorem list_eq {F : List PV → Option (List Int)} {xs : List Int} (h : F m = some xs) (hl : xs.length < 1000) : listF F m = some (.list xs) := by
  unfold listF
  rw [h]
  show (if xs.length < 1000 then _ else _) = _
  rw [if_pos hl]
end

section
variable {prog : Program} {w : World} {hB : Heap} {k : Nat}
variable {mg mb : Str → Option Value} {defs : List DefItem}

set_option maxHeartbeats 4000000 in
theorem law_row (g : Gd hB mg mb defs usedB) : ∃ F, S1Ok prog w hB true k (itm 13).scope lawNs (lawSt 0) F ∧ ∀ script : List Int, script.length ≤ 63 → F (.blist script :: List.replicate 17 .undef) = some (.next, .blist script :: .list (rowL script) :: List.replicate 16 .undef) := by
  refine ⟨_, (@S_assign _ _ _ _ _ _ _ _ _ _ _ _ 1 rfl (@EOkF.g _ _ _ _ _ _ _ _ _ (@nAddl _ _ _ _ _ _ _ _ _ (@E_addl _ _ _ _ _ _ _ _ _ _ _ (@EOkF.e _ _ _ _ _ _ _ _ (@nAddl _ _ _ _ _ _ _ _ _ (@E_addl _ _ _ _ _ _ _ _ _ _ _ (@EOkF.e _ _ _ _ _ _ _ _ (@nComp _ _ _ _ _ _ _ _ _ _ _ (@E_comp _ _ _ _ _ _ _ _ _ _ _ _ _ _ _ _ _ _ _ (CompOk.mk (cv := false) (msk := [false, false, false, false, false, false, false, false, false, false, false, false, false, false, false, false, false, false]) rfl rfl (fun _ _ => rfl) (fun _ => rfl) (by decide +kernel) (by decide +kernel) (by decide +kernel) (by decide +kernel) (by decide +kernel)) (@nItl _ _ _ _ _ _ _ _ _ (@It_list _ _ _ _ _ _ _ _ (@EOkF.e _ _ _ _ _ _ _ _ (@nTo _ _ _ _ _ _ _ _ _ (@E_sliceTo _ _ _ _ _ _ _ _ _ _ _ _ (@E_name _ _ _ _ _ _ _ _ 0 rfl rfl) (@E_int _ _ _ _ _ _ _ _ _ ) (fun _ _ => rfl)))))) (@nMenu _ _ _ _ _ _ _ _ _ (@E_menu _ _ _ _ _ _ _ _ _ _ _ _ _ (@Es_cons _ _ _ _ _ _ _ _ _ _ (@E_int _ _ _ _ _ _ _ _ _ ) (@Es_cons _ _ _ _ _ _ _ _ _ _ (@E_int _ _ _ _ _ _ _ _ _ ) (@Es_cons _ _ _ _ _ _ _ _ _ _ (@E_int _ _ _ _ _ _ _ _ _ ) (@Es_cons _ _ _ _ _ _ _ _ _ _ (@E_int _ _ _ _ _ _ _ _ _ ) (@Es_cons _ _ _ _ _ _ _ _ _ _ (@E_int _ _ _ _ _ _ _ _ _ ) (@Es_cons _ _ _ _ _ _ _ _ _ _ (@E_int _ _ _ _ _ _ _ _ _ ) (@Es_cons _ _ _ _ _ _ _ _ _ _ (@E_int _ _ _ _ _ _ _ _ _ ) (@Es_cons _ _ _ _ _ _ _ _ _ _ (@E_int _ _ _ _ _ _ _ _ _ ) (@Es_nil _ _ _ _ _ _ ) (fun _ _ => rfl)) (fun _ _ => rfl)) (fun _ _ => rfl)) (fun _ _ => rfl)) (fun _ _ => rfl)) (fun _ _ => rfl)) (fun _ _ => rfl)) (fun _ _ => rfl)) (@E_mod _ _ _ _ _ _ _ _ _ _ _ (@E_name _ _ _ _ _ _ _ _ 0 rfl rfl) (@E_int _ _ _ _ _ _ _ _ _ )) (fun _ _ => rfl))) (@Ts_nil _ _ _ _ _ _ ) (fun _ _ => rfl)))) (@EOkF.e _ _ _ _ _ _ _ _ (@nList _ _ _ _ _ _ _ _ (@E_list _ _ _ _ _ _ _ _ _ (@Es_cons _ _ _ _ _ _ _ _ _ _ (@E_int _ _ _ _ _ _ _ _ _ ) (@Es_cons _ _ _ _ _ _ _ _ _ _ (@E_int _ _ _ _ _ _ _ _ _ ) (@Es_nil _ _ _ _ _ _ ) (fun _ _ => rfl)) (fun _ _ => rfl)))))))) (@EOkF.e _ _ _ _ _ _ _ _ (@nMull _ _ _ _ _ _ _ _ _ (@E_mull _ _ _ _ _ _ _ _ _ _ _ _ (@Es_cons _ _ _ _ _ _ _ _ _ _ (@E_int _ _ _ _ _ _ _ _ _ ) (@Es_nil _ _ _ _ _ _ ) (fun _ _ => rfl)) (@E_sub _ _ _ _ _ _ _ _ _ _ _ (@E_int _ _ _ _ _ _ _ _ _ ) (@E_mod _ _ _ _ _ _ _ _ _ _ _ (@EOkF.e _ _ _ _ _ _ _ _ (@nCall _ _ _ _ _ _ _ _ _ (@E_bi1 _ _ _ _ _ _ _ _ _ _ g _ _ _ _ _ _ _ ⟨rfl, by decide +kernel, by decide +kernel, by decide +kernel, rfl⟩ (@E_name _ _ _ _ _ _ _ _ 0 rfl rfl) (@C_sum _ _ _ _ ) (fun _ _ => rfl)))) (@E_int _ _ _ _ _ _ _ _ _ ))))))))) (by rintro ⟨⟩ rfl; rfl)), fun script hs => ?_⟩
  refine setL (addl_eq (addl_eq (comp_all (fun x => menuL.getD (x % 8).toNat 0) (itl_eq (to_eq (n := 6) rfl rfl rfl (by omega)) rfl (by simp; omega)) (fun x hx => rfl) fun x hx => ?_) rfl (list_eq rfl (by decide)) rfl ?_) rfl (mull_eq rfl (bin_eq (a := 1) (b := script.sum % 2) rfl (mod_eq (sum_eq (xs := script) rfl rfl) rfl (by decide)) rfl) ?_) rfl ?_)
  · refine menu_eq (xs := menuL) (i := x % 8) rfl (mod_eq rfl rfl (by decide)) ⟨by omega, by decide⟩ ?_
    have : (x % 8).toNat < menuL.length := by show _ < 8; omega
    rw [List.getD, List.getElem?_eq_getElem this]; rfl
  · simp; omega
  · omega
  · simp; omega
end
end Mine
end
section
open PySem PySem.W PySem.Calls PyProof.Rows
namespace Mine

noncomputable def partsL (T : List Int) (seed : Nat) : List Int := (List.range T.length).map fun k : Nat => ((2 ^ (T.getD k 0).toNat + seed / 2 ^ k % 2 ^ (T.getD k 0).toNat : Nat) : Int)
noncomputable def marksL (T : List Int) : List Int := (List.range (T.length + 1)).map fun k : Nat => (T.take k).sum
noncomputable def tapsL (s t : Nat) : List Int := (List.range s).map fun k : Nat => ((t / 2 ^ k % 2 : Nat) : Int)
noncomputable def reachesL (X : List Int) (s : Nat) : List Int := (List.range (2 ^ s)).map fun t : Nat => ((reachL (tapsL s t) X 11 s : Nat) : Int)
noncomputable def countL (X : List Int) (s n : Nat) : Nat := ((reachesL X s).filter fun r => decide ((n : Int) ≤ r)).length
noncomputable def markL (M : List Int) (s : Nat) : Int := maxL (M.filter fun o => decide (o ≤ (s : Int)))
noncomputable def laterL (M : List Int) (s : Nat) : List Int := M.filter fun o => decide ((s : Int) < o)
noncomputable def due0 (M : List Int) (s n : Nat) : Int := (s : Int) - markL M s + (if markL M s + s - n > 0 then markL M s + s - n else 0)
noncomputable def dueL (M : List Int) (s n : Nat) : Int := if laterL M s ≠ [] ∧ markL M s + (laterL M s).headD 0 ≤ (n : Int) then -1 else due0 M s n
noncomputable def chk (X M : List Int) (s n : Nat) : Bool := decide ((bits (countL X s n) : Int) - 1 = dueL M s n) && (single (countL X s n) == decide (0 ≤ dueL M s n))
noncomputable def nearL (T : List Int) : Nat := ((List.range T.length).filter fun k : Nat => decide ((marksL T).getD k 0 + (marksL T).getD (k + 1) 0 ≤ 10)).length
noncomputable def sureL (T : List Int) : Nat := ((List.range T.length).filter fun k : Nat => decide (2 * (marksL T).getD (k + 1) 0 ≤ 10)).length
structure LawOK (T : List Int) (seed : Nat) : Prop where
  chk : ∀ s n : Nat, s < 6 → s ≤ n → n < 11 → Mine.chk (textL (partsL T seed) T.sum.toNat) (marksL T) s n = true
  near : ((quotL (textL (partsL T seed) T.sum.toNat)).take (nearL T)).map (fun q => (bits q.toNat : Int) - 1) = T.take (nearL T)
  sure : (quotL (textL (partsL T seed) T.sum.toNat)).take (sureL T) = (partsL T seed).take (sureL T)
  last : ∀ k : Nat, k < sureL T → single ((quotL (textL (partsL T seed) T.sum.toNat)).getD k 0).toNat = decide ((partsL T seed).getD k 0 = 2 ^ (T.getD k 0).toNat)

theorem textL_ok (P : List Int) (d : Nat) : (textL P d).length = 10 ∧ bits01 (textL P d) := by
  have := foldl_inv (step := tsStep (cf P).bo d) (fun j s => s.out.length = j ∧ bits01 s.out) ((List.range 10).map fun i : Nat => (i : Int)) 0 ⟨(cf P).t, [], .undef⟩ ⟨rfl, nofun⟩ (fun j st v h => by
    refine ⟨by show (st.out ++ [_]).length = _; simp; exact h.1, fun x hx => ?_⟩
    rcases List.mem_append.mp hx with hx | hx
    · exact h.2 x hx
    · rw [List.mem_singleton.mp hx]
      have := Nat.mod_lt (2 * st.top / 2 ^ d) (by decide : 0 < 2)
      omega)
  have e : 0 + ((List.range 10).map fun i : Nat => (i : Int)).length = 10 := by simp
  rw [e] at this
  exact this
theorem quotL_ok (X : List Int) : (quotL X).length ≤ 10 ∧ ∀ x ∈ quotL X, 0 ≤ x := by
  have := foldl_inv (step := qStep) (fun j s => s.qs.length ≤ j ∧ ∀ x ∈ s.qs, 0 ≤ x) ((List.range 10).map fun i : Nat => (i : Int)) 0 ⟨lowL X, 1024, [], .undef, .undef⟩ ⟨Nat.le_refl _, nofun⟩ (fun j st v h => by
    unfold qStep
    split
    · refine ⟨by simp; exact h.1, fun x hx => ?_⟩
      rcases List.mem_append.mp hx with hx | hx
      · exact h.2 x hx
      · rw [List.mem_singleton.mp hx]; exact Int.natCast_nonneg _
    · exact ⟨Nat.le_succ_of_le h.1, h.2⟩)
  have e : 0 + ((List.range 10).map fun i : Nat => (i : Int)).length = 10 := by simp
  rw [e] at this
  exact this
theorem quotG_eq {X : List Int} (h1 : X.length = 10) (h2 : bits01 X) : quotG [.list X] = some (.list (quotL X)) := by
  show (if X.length = 10 ∧ bits01 X then some (PV.list (quotL X)) else none) = _
  rw [if_pos ⟨h1, h2⟩]
structure J where
  (a b c d e f : PV)
noncomputable def jStep (X M : List Int) (_ : J) (v : Int) : J :=
  ⟨.list (reachesL X v.toNat), .int (markL M v.toNat), .list (laterL M v.toNat), .int 10, .int (countL X v.toNat 10 : Nat), .int (dueL M v.toNat 10)⟩
noncomputable def seenL (s : Nat) : List Int := (List.range (11 - s)).map fun i : Nat => ((s + i : Nat) : Int)
noncomputable def kStep (X M : List Int) (s : Nat) (_ : PV × PV) (v : Int) : PV × PV := (.int (countL X s v.toNat : Nat), .int (dueL M s v.toNat))
theorem seen_last (s : Nat) (hs : s < 6) (X M : List Int) (x : PV × PV) (kv : PV) : lastKv kv (seenL s) = .int 10 ∧ (seenL s).foldl (kStep X M s) x = (.int (countL X s 10 : Nat), .int (dueL M s 10)) := by
  match s, hs with
  | 0, _ => exact ⟨rfl, rfl⟩
  | 1, _ => exact ⟨rfl, rfl⟩
  | 2, _ => exact ⟨rfl, rfl⟩
  | 3, _ => exact ⟨rfl, rfl⟩
  | 4, _ => exact ⟨rfl, rfl⟩
  | 5, _ => exact ⟨rfl, rfl⟩
theorem reachG_eq {X tp : List Int} (h1 : X.length = 10) (h2 : bits01 X) (h3 : tp.length ≤ 5) (h4 : bits01 tp) : reachG [.list X, .list tp] = some (.int (reachL tp X 11 tp.length : Nat)) := by
  show (if X.length = 10 ∧ tp.length ≤ 5 ∧ bits01 X ∧ bits01 tp then some (PV.int (reachL tp X 11 tp.length : Nat)) else none) = _
  rw [if_pos ⟨h1, h3, h2, h4⟩]
theorem maxG_eq {xs : List Int} (h : xs ≠ []) : maxG [.list xs] = some (.int (maxL xs)) := by
  show (if xs = [] then none else some (PV.int (maxL xs))) = _
  rw [if_neg h]

section
variable {m : List PV}
theorem cmp_le {F₁ F₂ : VF} {a b : Int} (h1 : F₁ m = some (.int a)) (h2 : F₂ m = some (.int b)) : cmpF .LtE F₁ F₂ m = some (decide (a ≤ b)) := cmpF_eq h1 h2
theorem cmp_ge {F₁ F₂ : VF} {a b : Int} (h1 : F₁ m = some (.int a)) (h2 : F₂ m = some (.int b)) : cmpF .GtE F₁ F₂ m = some (decide (b ≤ a)) := cmpF_eq h1 h2
theorem cmp_gt {F₁ F₂ : VF} {a b : Int} (h1 : F₁ m = some (.int a)) (h2 : F₂ m = some (.int b)) : cmpF .Gt F₁ F₂ m = some (decide (b < a)) := cmpF_eq h1 h2
theorem cmp_ne {F₁ F₂ : VF} {a b : Int} (h1 : F₁ m = some (.int a)) (h2 : F₂ m = some (.int b)) : cmpF .NotEq F₁ F₂ m = some (a != b) := cmpF_eq h1 h2
theorem cmp_isnot {F₁ F₂ : VF} {a b : Bool} (h1 : F₁ m = some (.bool a)) (h2 : F₂ m = some (.bool b)) : cmpF .IsNot F₁ F₂ m = some (!(a == b)) := cmpF_eq h1 h2
theorem cmp_nel {F₁ F₂ : VF} {xs ys : List Int} (h1 : F₁ m = some (.list xs)) (h2 : F₂ m = some (.list ys)) : cmpF .NotEq F₁ F₂ m = some (!decide (xs = ys)) := cmpF_eq h1 h2
theorem cmpB {op : CmpOp} {F₁ F₂ : VF} {b : Bool} (h : cmpF op F₁ F₂ m = some b) : cmpBF op F₁ F₂ m = some (.bool b) := by unfold cmpBF; rw [h]; rfl
theorem scl_bool {F : VF} {b : Bool} (h : F m = some (.bool b)) : scl F m = some (.bool b) := by unfold scl; rw [h]; rfl
theorem iteF_false {T : List PV → Option Bool} {F G : List PV → Option (PF × List PV)} {r : Option (PF × List PV)} (h : T m = some false) (h2 : G m = r) : iteF T F G m = r := iteF_of h ((if_neg (by decide)).trans h2)
theorem iteF_true {T : List PV → Option Bool} {F G : List PV → Option (PF × List PV)} {r : Option (PF × List PV)} (h : T m = some true) (h2 : F m = r) : iteF T F G m = r := iteF_of h ((if_pos rfl).trans h2)
end

section
variable {prog : Program} {w : World} {hB : Heap} {k : Nat}
variable {mg mb : Str → Option Value} {defs : List DefItem}

set_option maxHeartbeats 8000000 in
theorem law_rest (g : Gd hB mg mb defs usedB) {f_high_bit f_is_single_bit f_law_quotients f_law_reach f_law_sizes f_law_text f_law_told : Addr}
    (hf_high_bit : FnAt hB mg "_high_bit" f_high_bit) (hc_high_bit : COk prog w hB k (.ref f_high_bit) highG) (hf_is_single_bit : FnAt hB mg "_is_single_bit" f_is_single_bit) (hc_is_single_bit : COk prog w hB k (.ref f_is_single_bit) singleG)
    (hf_law_quotients : FnAt hB mg "_law_quotients" f_law_quotients) (hc_law_quotients : COk prog w hB k (.ref f_law_quotients) quotG) (hf_law_reach : FnAt hB mg "_law_reach" f_law_reach) (hc_law_reach : COk prog w hB k (.ref f_law_reach) reachG)
    (hf_law_sizes : FnAt hB mg "_law_sizes" f_law_sizes) (hc_law_sizes : COk prog w hB k (.ref f_law_sizes) sizesG) (hf_law_text : FnAt hB mg "_law_text" f_law_text) (hc_law_text : COk prog w hB k (.ref f_law_text) textG)
    (hf_law_told : FnAt hB mg "_law_told" f_law_told) (hc_law_told : COkG prog w hB true k (.ref f_law_told) toldG) :
    ∃ F, SOk prog w hB true k (itm 13).scope lawNs lawRest F ∧ ∀ (script row T : List Int) (seed : Nat), script.length ≤ 63 → row.length ≤ 100 → row.getD 0 1 ≠ 0 → T = toldL 6 0 row → (∀ x ∈ T, 1 ≤ x ∧ x ≤ 3) → seed = ((script.sum + 617) % 4096).toNat → LawOK T seed →
      Ret F (.blist script :: .list row :: List.replicate 16 .undef) (.bool true) := by
  refine ⟨_, (@S_cons _ _ _ _ _ _ _ _ _ _ _ (@S_assign _ _ _ _ _ _ _ _ _ _ _ _ 2 rfl (@nCallG _ _ _ _ _ _ _ _ _ _ (@E_call1G _ _ _ _ _ _ _ _ _ _ _ g _ _ _ _ _ _ _ rfl rfl hf_law_told hc_law_told (@E_name _ _ _ _ _ _ _ _ 1 rfl rfl) (fun _ _ => rfl))) (by rintro ⟨⟩ rfl; rfl)) (@S_cons _ _ _ _ _ _ _ _ _ _ _ (@S_assign _ _ _ _ _ _ _ _ _ _ _ _ 3 rfl (@EOkF.g _ _ _ _ _ _ _ _ _ (@nCall _ _ _ _ _ _ _ _ _ (@E_call1 _ _ _ _ _ _ _ _ _ _ g _ _ _ _ _ _ _ rfl rfl hf_law_sizes hc_law_sizes (@E_name _ _ _ _ _ _ _ _ 1 rfl rfl) (fun _ _ => rfl)))) (by rintro ⟨⟩ rfl; rfl)) (@S_cons _ _ _ _ _ _ _ _ _ _ _ (@S_if _ _ _ _ _ _ _ _ _ _ _ _ _ _ (@TOk.g _ _ _ _ _ _ _ _ _ (@T_cmp _ _ _ _ _ _ _ _ _ _ _ _ (@E_name _ _ _ _ _ _ _ _ 2 rfl rfl) (@E_name _ _ _ _ _ _ _ _ 3 rfl rfl) rfl)) (@S_cons _ _ _ _ _ _ _ _ _ _ _ (@S_ret _ _ _ _ _ _ _ _ _ _ (@EOkF.g _ _ _ _ _ _ _ _ _ (@EOk.s _ _ _ _ _ _ _ _ (@E_bool _ _ _ _ _ _ _ _ _)))) (@S_nil _ _ _ _ _ _ _ )) (@S_nil _ _ _ _ _ _ _ )) (@S_cons _ _ _ _ _ _ _ _ _ _ _ (@S_assign _ _ _ _ _ _ _ _ _ _ _ _ 4 rfl (@EOkF.g _ _ _ _ _ _ _ _ _ (@EOk.s _ _ _ _ _ _ _ _ (@E_mod _ _ _ _ _ _ _ _ _ _ _ (@E_add _ _ _ _ _ _ _ _ _ _ _ (@EOkF.e _ _ _ _ _ _ _ _ (@nCall _ _ _ _ _ _ _ _ _ (@E_bi1 _ _ _ _ _ _ _ _ _ _ g _ _ _ _ _ _ _ ⟨rfl, by decide +kernel, by decide +kernel, by decide +kernel, rfl⟩ (@E_name _ _ _ _ _ _ _ _ 0 rfl rfl) (@C_sum _ _ _ _ ) (fun _ _ => rfl)))) (@E_int _ _ _ _ _ _ _ _ _ )) (@E_int _ _ _ _ _ _ _ _ _ )))) (by rintro ⟨⟩ rfl; rfl)) (@S_cons _ _ _ _ _ _ _ _ _ _ _ (@S_assign _ _ _ _ _ _ _ _ _ _ _ _ 5 rfl (@EOkF.g _ _ _ _ _ _ _ _ _ (@nComp _ _ _ _ _ _ _ _ _ _ _ (@E_comp _ _ _ _ _ _ _ _ _ _ _ _ _ _ _ _ _ _ _ (CompOk.mk (cv := false) (msk := [false, false, false, true, true, false, false, false, false, false, false, false, false, false, false, false, false, false]) rfl rfl (fun _ _ => rfl) (fun _ => rfl) (by decide +kernel) (by decide +kernel) (by decide +kernel) (by decide +kernel) (by decide +kernel)) (@nRng1 _ _ _ _ _ _ _ _ _ (It_range1 (bb := true) g ⟨rfl, by decide +kernel, by decide +kernel, by decide +kernel, rfl⟩ (@EOkF.e _ _ _ _ _ _ _ _ (@nCall _ _ _ _ _ _ _ _ _ (@E_bi1 _ _ _ _ _ _ _ _ _ _ g _ _ _ _ _ _ _ ⟨rfl, by decide +kernel, by decide +kernel, by decide +kernel, rfl⟩ (@E_name _ _ _ _ _ _ _ _ 3 rfl rfl) (@C_len _ _ _ _ ) (fun _ _ => rfl)))) (fun _ _ => rfl))) (@E_add _ _ _ _ _ _ _ _ _ _ _ (@E_pow _ _ _ _ _ _ _ _ _ _ _ (@E_int _ _ _ _ _ _ _ _ _ ) (@nIdx _ _ _ _ _ _ _ _ _ (@E_idx _ _ _ _ _ _ _ _ _ _ _ (@E_name _ _ _ _ _ _ _ _ 4 rfl rfl) (@E_name _ _ _ _ _ _ _ _ 0 rfl rfl) (fun _ _ => rfl) (fun _ _ => rfl)))) (@E_mod _ _ _ _ _ _ _ _ _ _ _ (@E_div _ _ _ _ _ _ _ _ _ _ _ (@E_name _ _ _ _ _ _ _ _ 5 rfl rfl) (@E_pow _ _ _ _ _ _ _ _ _ _ _ (@E_int _ _ _ _ _ _ _ _ _ ) (@E_name _ _ _ _ _ _ _ _ 0 rfl rfl))) (@E_pow _ _ _ _ _ _ _ _ _ _ _ (@E_int _ _ _ _ _ _ _ _ _ ) (@nIdx _ _ _ _ _ _ _ _ _ (@E_idx _ _ _ _ _ _ _ _ _ _ _ (@E_name _ _ _ _ _ _ _ _ 4 rfl rfl) (@E_name _ _ _ _ _ _ _ _ 0 rfl rfl) (fun _ _ => rfl) (fun _ _ => rfl)))))) (@Ts_nil _ _ _ _ _ _ ) (fun _ _ => rfl)))) (by rintro ⟨⟩ rfl; rfl)) (@S_cons _ _ _ _ _ _ _ _ _ _ _ (@S_assign _ _ _ _ _ _ _ _ _ _ _ _ 6 rfl (@EOkF.g _ _ _ _ _ _ _ _ _ (@nCall2 _ _ _ _ _ _ _ _ _ _ (@E_call2 _ _ _ _ _ _ _ _ _ _ g _ _ _ _ _ _ _ _ _ rfl rfl hf_law_text hc_law_text (@E_name _ _ _ _ _ _ _ _ 5 rfl rfl) (@EOkF.e _ _ _ _ _ _ _ _ (@nCall _ _ _ _ _ _ _ _ _ (@E_bi1 _ _ _ _ _ _ _ _ _ _ g _ _ _ _ _ _ _ ⟨rfl, by decide +kernel, by decide +kernel, by decide +kernel, rfl⟩ (@E_name _ _ _ _ _ _ _ _ 3 rfl rfl) (@C_sum _ _ _ _ ) (fun _ _ => rfl)))) (fun _ _ => rfl) (fun _ _ => rfl)))) (by rintro ⟨⟩ rfl; rfl)) (@S_cons _ _ _ _ _ _ _ _ _ _ _ (@S_assign _ _ _ _ _ _ _ _ _ _ _ _ 7 rfl (@EOkF.g _ _ _ _ _ _ _ _ _ (@nComp _ _ _ _ _ _ _ _ _ _ _ (@E_comp _ _ _ _ _ _ _ _ _ _ _ _ _ _ _ _ _ _ _ (CompOk.mk (cv := false) (msk := [false, false, true, false, false, false, false, false, false, false, false, false, false, false, false, false, false, false]) rfl rfl (fun _ _ => rfl) (fun _ => rfl) (by decide +kernel) (by decide +kernel) (by decide +kernel) (by decide +kernel) (by decide +kernel)) (@nRng1 _ _ _ _ _ _ _ _ _ (It_range1 (bb := true) g ⟨rfl, by decide +kernel, by decide +kernel, by decide +kernel, rfl⟩ (@E_add _ _ _ _ _ _ _ _ _ _ _ (@EOkF.e _ _ _ _ _ _ _ _ (@nCall _ _ _ _ _ _ _ _ _ (@E_bi1 _ _ _ _ _ _ _ _ _ _ g _ _ _ _ _ _ _ ⟨rfl, by decide +kernel, by decide +kernel, by decide +kernel, rfl⟩ (@E_name _ _ _ _ _ _ _ _ 2 rfl rfl) (@C_len _ _ _ _ ) (fun _ _ => rfl)))) (@E_int _ _ _ _ _ _ _ _ _ )) (fun _ _ => rfl))) (@EOkF.e _ _ _ _ _ _ _ _ (@nCall _ _ _ _ _ _ _ _ _ (@E_bi1 _ _ _ _ _ _ _ _ _ _ g _ _ _ _ _ _ _ ⟨rfl, by decide +kernel, by decide +kernel, by decide +kernel, rfl⟩ (@EOkF.e _ _ _ _ _ _ _ _ (@nTo _ _ _ _ _ _ _ _ _ (@E_sliceTo _ _ _ _ _ _ _ _ _ _ _ _ (@E_name _ _ _ _ _ _ _ _ 3 rfl rfl) (@E_name _ _ _ _ _ _ _ _ 0 rfl rfl) (fun _ _ => rfl)))) (@C_sum _ _ _ _ ) (fun _ _ => rfl)))) (@Ts_nil _ _ _ _ _ _ ) (fun _ _ => rfl)))) (by rintro ⟨⟩ rfl; rfl)) (@S_cons _ _ _ _ _ _ _ _ _ _ _ (@S_forR _ _ _ _ _ _ _ _ _ _ _ _ _ _ 8 rfl (@nRng1 _ _ _ _ _ _ _ _ _ (@It_range1 _ _ _ _ _ _ _ _ _ _ g _ _ _ _ _ _ ⟨rfl, by decide +kernel, by decide +kernel, by decide +kernel, rfl⟩ (@E_int _ _ _ _ _ _ _ _ _ ) (fun _ _ => rfl))) (@S_cons _ _ _ _ _ _ _ _ _ _ _ (@nAsgComp _ _ _ _ _ _ _ _ _ _ _ _ _ (@S_assignComp _ _ _ _ _ _ _ _ _ _ _ _ _ _ _ _ _ _ _ _ _ _ _ (CompOk.mk (cv := true) (msk := [false, false, false, false, false, false, true, false, true, false, false, false, false, false, false, false, false, false]) rfl rfl (fun _ _ => rfl) (fun _ => rfl) (by decide +kernel) (by decide +kernel) (by decide +kernel) (by decide +kernel) (by decide +kernel)) 9 rfl rfl (@nRng1 _ _ _ _ _ _ _ _ _ (It_range1 (bb := true) g ⟨rfl, by decide +kernel, by decide +kernel, by decide +kernel, rfl⟩ (@E_pow _ _ _ _ _ _ _ _ _ _ _ (@E_int _ _ _ _ _ _ _ _ _ ) (@E_name _ _ _ _ _ _ _ _ 8 rfl rfl)) (fun _ _ => rfl))) (@EOkF.e _ _ _ _ _ _ _ _ (@nCall2 _ _ _ _ _ _ _ _ _ _ (@E_call2 _ _ _ _ _ _ _ _ _ _ g _ _ _ _ _ _ _ _ _ rfl rfl hf_law_reach hc_law_reach (@E_name _ _ _ _ _ _ _ _ 7 rfl rfl) (@EOkF.e _ _ _ _ _ _ _ _ (@nComp _ _ _ _ _ _ _ _ _ _ _ (@E_comp _ _ _ _ _ _ _ _ _ _ _ _ _ _ _ _ _ _ _ (CompOk.mk (cv := false) (msk := [true, false, false, false, false, false, false, false, false, false, false, false, false, false, false, false, false, false, false]) rfl rfl (fun _ _ => rfl) (fun _ => rfl) (by decide +kernel) (by decide +kernel) (by decide +kernel) (by decide +kernel) (by decide +kernel)) (@nRng1 _ _ _ _ _ _ _ _ _ (It_range1 (bb := true) g ⟨rfl, by decide +kernel, by decide +kernel, by decide +kernel, rfl⟩ (@E_name _ _ _ _ _ _ _ _ 9 rfl rfl) (fun _ _ => rfl))) (@E_mod _ _ _ _ _ _ _ _ _ _ _ (@E_div _ _ _ _ _ _ _ _ _ _ _ (@E_name _ _ _ _ _ _ _ _ 1 rfl rfl) (@E_pow _ _ _ _ _ _ _ _ _ _ _ (@E_int _ _ _ _ _ _ _ _ _ ) (@E_name _ _ _ _ _ _ _ _ 0 rfl rfl))) (@E_int _ _ _ _ _ _ _ _ _ )) (@Ts_nil _ _ _ _ _ _ ) (fun _ _ => rfl)))) (fun _ _ => rfl) (fun _ _ => rfl)))) (@Ts_nil _ _ _ _ _ _ ) (fun _ _ => rfl) (by rintro ⟨⟩ rfl; rfl))) (@S_cons _ _ _ _ _ _ _ _ _ _ _ (@S_assign _ _ _ _ _ _ _ _ _ _ _ _ 10 rfl (@EOkF.g _ _ _ _ _ _ _ _ _ (@nCall _ _ _ _ _ _ _ _ _ (@E_bi1 _ _ _ _ _ _ _ _ _ _ g _ _ _ _ _ _ _ ⟨rfl, by decide +kernel, by decide +kernel, by decide +kernel, rfl⟩ (@EOkF.e _ _ _ _ _ _ _ _ (@nComp _ _ _ _ _ _ _ _ _ _ _ (@E_comp _ _ _ _ _ _ _ _ _ _ _ _ _ _ _ _ _ _ _ (CompOk.mk (cv := false) (msk := [false, false, false, false, false, false, false, false, true, false, false, false, false, false, false, false, false, false]) rfl rfl (fun _ _ => rfl) (fun _ => rfl) (by decide +kernel) (by decide +kernel) (by decide +kernel) (by decide +kernel) (by decide +kernel)) (@nItl _ _ _ _ _ _ _ _ _ (@It_list _ _ _ _ _ _ _ _ (@E_name _ _ _ _ _ _ _ _ 7 rfl rfl))) (@E_name _ _ _ _ _ _ _ _ 0 rfl rfl) (@Ts_one _ _ _ _ _ _ _ _ (@T_cmp _ _ _ _ _ _ _ _ _ _ _ _ (@E_name _ _ _ _ _ _ _ _ 0 rfl rfl) (@E_name _ _ _ _ _ _ _ _ 9 rfl rfl) rfl)) (fun _ _ => rfl)))) (@C_max _ _ _ _ ) (fun _ _ => rfl)))) (by rintro ⟨⟩ rfl; rfl)) (@S_cons _ _ _ _ _ _ _ _ _ _ _ (@nAsgComp _ _ _ _ _ _ _ _ _ _ _ _ _ (@S_assignComp _ _ _ _ _ _ _ _ _ _ _ _ _ _ _ _ _ _ _ _ _ _ _ (CompOk.mk (cv := false) (msk := [false, false, false, false, false, false, false, false, true, false, false, false, false, false, false, false, false, false]) rfl rfl (fun _ _ => rfl) (fun _ => rfl) (by decide +kernel) (by decide +kernel) (by decide +kernel) (by decide +kernel) (by decide +kernel)) 11 rfl rfl (@nItl _ _ _ _ _ _ _ _ _ (@It_list _ _ _ _ _ _ _ _ (@E_name _ _ _ _ _ _ _ _ 7 rfl rfl))) (@E_name _ _ _ _ _ _ _ _ 0 rfl rfl) (@Ts_one _ _ _ _ _ _ _ _ (@T_cmp _ _ _ _ _ _ _ _ _ _ _ _ (@E_name _ _ _ _ _ _ _ _ 0 rfl rfl) (@E_name _ _ _ _ _ _ _ _ 9 rfl rfl) rfl)) (fun _ _ => rfl) (by rintro ⟨⟩ rfl; rfl))) (@S_cons _ _ _ _ _ _ _ _ _ _ _ (@S_forR _ _ _ _ _ _ _ _ _ _ _ _ _ _ 12 rfl (@nRng2 _ _ _ _ _ _ _ _ _ _ (@It_range2 _ _ _ _ _ _ _ _ _ _ g _ _ _ _ _ _ _ _ ⟨rfl, by decide +kernel, by decide +kernel, by decide +kernel, rfl⟩ (@E_name _ _ _ _ _ _ _ _ 8 rfl rfl) (@E_int _ _ _ _ _ _ _ _ _ ) (fun _ _ => rfl) (fun _ _ => rfl))) (@S_cons _ _ _ _ _ _ _ _ _ _ _ (@S_assign _ _ _ _ _ _ _ _ _ _ _ _ 13 rfl (@EOkF.g _ _ _ _ _ _ _ _ _ (@nCall _ _ _ _ _ _ _ _ _ (@E_bi1 _ _ _ _ _ _ _ _ _ _ g _ _ _ _ _ _ _ ⟨rfl, by decide +kernel, by decide +kernel, by decide +kernel, rfl⟩ (@EOkF.e _ _ _ _ _ _ _ _ (@nComp _ _ _ _ _ _ _ _ _ _ _ (@E_comp _ _ _ _ _ _ _ _ _ _ _ _ _ _ _ _ _ _ _ (CompOk.mk (cv := false) (msk := [false, false, false, false, false, false, false, false, false, false, false, false, true, false, false, false, false, false]) rfl rfl (fun _ _ => rfl) (fun _ => rfl) (by decide +kernel) (by decide +kernel) (by decide +kernel) (by decide +kernel) (by decide +kernel)) (@nItl _ _ _ _ _ _ _ _ _ (@It_list _ _ _ _ _ _ _ _ (@E_name _ _ _ _ _ _ _ _ 9 rfl rfl))) (@E_name _ _ _ _ _ _ _ _ 0 rfl rfl) (@Ts_one _ _ _ _ _ _ _ _ (@T_cmp _ _ _ _ _ _ _ _ _ _ _ _ (@E_name _ _ _ _ _ _ _ _ 0 rfl rfl) (@E_name _ _ _ _ _ _ _ _ 13 rfl rfl) rfl)) (fun _ _ => rfl)))) (@C_len _ _ _ _ ) (fun _ _ => rfl)))) (by rintro ⟨⟩ rfl; rfl)) (@S_cons _ _ _ _ _ _ _ _ _ _ _ (@S_assign _ _ _ _ _ _ _ _ _ _ _ _ 14 rfl (@EOkF.g _ _ _ _ _ _ _ _ _ (@EOk.s _ _ _ _ _ _ _ _ (@E_add _ _ _ _ _ _ _ _ _ _ _ (@E_sub _ _ _ _ _ _ _ _ _ _ _ (@E_name _ _ _ _ _ _ _ _ 8 rfl rfl) (@E_name _ _ _ _ _ _ _ _ 10 rfl rfl)) (@EOkF.e _ _ _ _ _ _ _ _ (@nCall2 _ _ _ _ _ _ _ _ _ _ (@E_bi2 _ _ _ _ _ _ _ _ _ _ g _ _ _ _ _ _ _ _ _ ⟨rfl, by decide +kernel, by decide +kernel, by decide +kernel, rfl⟩ (@E_int _ _ _ _ _ _ _ _ _ ) (@E_sub _ _ _ _ _ _ _ _ _ _ _ (@E_add _ _ _ _ _ _ _ _ _ _ _ (@E_name _ _ _ _ _ _ _ _ 10 rfl rfl) (@E_name _ _ _ _ _ _ _ _ 8 rfl rfl)) (@E_name _ _ _ _ _ _ _ _ 12 rfl rfl)) (@C_max _ _ _ _ ) (fun _ _ => rfl) (fun _ _ => rfl))))))) (by rintro ⟨⟩ rfl; rfl)) (@S_cons _ _ _ _ _ _ _ _ _ _ _ (@S_if _ _ _ _ _ _ _ _ _ _ _ _ _ _ (@TOk.g _ _ _ _ _ _ _ _ _ (@T_bool _ _ _ _ _ _ _ _ _ _ (@nAnd _ _ _ _ _ _ _ _ _ (@All_and _ _ _ _ _ _ _ _ _ _ (@T_cmp _ _ _ _ _ _ _ _ _ _ _ _ (@E_name _ _ _ _ _ _ _ _ 11 rfl rfl) (@EOkF.e _ _ _ _ _ _ _ _ (@nList _ _ _ _ _ _ _ _ (@E_list _ _ _ _ _ _ _ _ _ (@Es_nil _ _ _ _ _ _ )))) rfl) (@nAnd _ _ _ _ _ _ _ _ _ (@All_and _ _ _ _ _ _ _ _ _ _ (@T_cmp _ _ _ _ _ _ _ _ _ _ _ _ (@E_name _ _ _ _ _ _ _ _ 12 rfl rfl) (@E_add _ _ _ _ _ _ _ _ _ _ _ (@E_name _ _ _ _ _ _ _ _ 10 rfl rfl) (@nIdx _ _ _ _ _ _ _ _ _ (@E_idx _ _ _ _ _ _ _ _ _ _ _ (@E_name _ _ _ _ _ _ _ _ 11 rfl rfl) (@E_int _ _ _ _ _ _ _ _ _ ) (fun _ _ => rfl) (fun _ _ => rfl)))) rfl) (@All_and_nil _ _ _ _ _ _ ))))))) (@S_cons _ _ _ _ _ _ _ _ _ _ _ (@S_assign _ _ _ _ _ _ _ _ _ _ _ _ 14 rfl (@EOkF.g _ _ _ _ _ _ _ _ _ (@EOk.s _ _ _ _ _ _ _ _ (@nNeg _ _ _ _ _ _ _ _ (@E_neg _ _ _ _ _ _ _ _ _ (@E_int _ _ _ _ _ _ _ _ _ ))))) (by rintro ⟨⟩ rfl; rfl)) (@S_nil _ _ _ _ _ _ _ )) (@S_nil _ _ _ _ _ _ _ )) (@S_cons _ _ _ _ _ _ _ _ _ _ _ (@S_if _ _ _ _ _ _ _ _ _ _ _ _ _ _ (@TOk.g _ _ _ _ _ _ _ _ _ (@T_bool _ _ _ _ _ _ _ _ _ _ (@nOr _ _ _ _ _ _ _ _ _ (@All_or _ _ _ _ _ _ _ _ _ _ (@T_cmp _ _ _ _ _ _ _ _ _ _ _ _ (@EOkF.e _ _ _ _ _ _ _ _ (@nCall _ _ _ _ _ _ _ _ _ (@E_call1 _ _ _ _ _ _ _ _ _ _ g _ _ _ _ _ _ _ rfl rfl hf_high_bit hc_high_bit (@E_name _ _ _ _ _ _ _ _ 13 rfl rfl) (fun _ _ => rfl)))) (@E_name _ _ _ _ _ _ _ _ 14 rfl rfl) rfl) (@nOr _ _ _ _ _ _ _ _ _ (@All_or _ _ _ _ _ _ _ _ _ _ (@T_cmp _ _ _ _ _ _ _ _ _ _ _ _ (@EOkF.e _ _ _ _ _ _ _ _ (@nCall _ _ _ _ _ _ _ _ _ (@E_call1 _ _ _ _ _ _ _ _ _ _ g _ _ _ _ _ _ _ rfl rfl hf_is_single_bit hc_is_single_bit (@E_name _ _ _ _ _ _ _ _ 13 rfl rfl) (fun _ _ => rfl)))) (@nCmp _ _ _ _ _ _ _ _ _ _ (@E_cmp _ _ _ _ _ _ _ _ _ _ _ _ (@E_name _ _ _ _ _ _ _ _ 14 rfl rfl) (@E_int _ _ _ _ _ _ _ _ _ ) rfl)) rfl) (@All_or_nil _ _ _ _ _ _ ))))))) (@S_cons _ _ _ _ _ _ _ _ _ _ _ (@S_ret _ _ _ _ _ _ _ _ _ _ (@EOkF.g _ _ _ _ _ _ _ _ _ (@EOk.s _ _ _ _ _ _ _ _ (@E_bool _ _ _ _ _ _ _ _ _)))) (@S_nil _ _ _ _ _ _ _ )) (@S_nil _ _ _ _ _ _ _ )) (@S_nil _ _ _ _ _ _ _ ))))) (fun _ _ => rfl)) (@S_nil _ _ _ _ _ _ _ ))))) (fun _ _ => rfl)) (@S_cons _ _ _ _ _ _ _ _ _ _ _ (@S_assign _ _ _ _ _ _ _ _ _ _ _ _ 15 rfl (@EOkF.g _ _ _ _ _ _ _ _ _ (@nCall _ _ _ _ _ _ _ _ _ (@E_call1 _ _ _ _ _ _ _ _ _ _ g _ _ _ _ _ _ _ rfl rfl hf_law_quotients hc_law_quotients (@E_name _ _ _ _ _ _ _ _ 6 rfl rfl) (fun _ _ => rfl)))) (by rintro ⟨⟩ rfl; rfl)) (@S_cons _ _ _ _ _ _ _ _ _ _ _ (@S_assign _ _ _ _ _ _ _ _ _ _ _ _ 16 rfl (@EOkF.g _ _ _ _ _ _ _ _ _ (@nCall _ _ _ _ _ _ _ _ _ (@E_bi1 _ _ _ _ _ _ _ _ _ _ g _ _ _ _ _ _ _ ⟨rfl, by decide +kernel, by decide +kernel, by decide +kernel, rfl⟩ (@EOkF.e _ _ _ _ _ _ _ _ (@nComp _ _ _ _ _ _ _ _ _ _ _ (@E_comp _ _ _ _ _ _ _ _ _ _ _ _ _ _ _ _ _ _ _ (CompOk.mk (cv := false) (msk := [false, false, false, false, false, false, false, true, false, false, false, false, false, false, false, false, false, false]) rfl rfl (fun _ _ => rfl) (fun _ => rfl) (by decide +kernel) (by decide +kernel) (by decide +kernel) (by decide +kernel) (by decide +kernel)) (@nRng1 _ _ _ _ _ _ _ _ _ (It_range1 (bb := true) g ⟨rfl, by decide +kernel, by decide +kernel, by decide +kernel, rfl⟩ (@EOkF.e _ _ _ _ _ _ _ _ (@nCall _ _ _ _ _ _ _ _ _ (@E_bi1 _ _ _ _ _ _ _ _ _ _ g _ _ _ _ _ _ _ ⟨rfl, by decide +kernel, by decide +kernel, by decide +kernel, rfl⟩ (@E_name _ _ _ _ _ _ _ _ 2 rfl rfl) (@C_len _ _ _ _ ) (fun _ _ => rfl)))) (fun _ _ => rfl))) (@E_name _ _ _ _ _ _ _ _ 0 rfl rfl) (@Ts_one _ _ _ _ _ _ _ _ (@T_cmp _ _ _ _ _ _ _ _ _ _ _ _ (@E_add _ _ _ _ _ _ _ _ _ _ _ (@nIdx _ _ _ _ _ _ _ _ _ (@E_idx _ _ _ _ _ _ _ _ _ _ _ (@E_name _ _ _ _ _ _ _ _ 8 rfl rfl) (@E_name _ _ _ _ _ _ _ _ 0 rfl rfl) (fun _ _ => rfl) (fun _ _ => rfl))) (@nIdx _ _ _ _ _ _ _ _ _ (@E_idx _ _ _ _ _ _ _ _ _ _ _ (@E_name _ _ _ _ _ _ _ _ 8 rfl rfl) (@E_add _ _ _ _ _ _ _ _ _ _ _ (@E_name _ _ _ _ _ _ _ _ 0 rfl rfl) (@E_int _ _ _ _ _ _ _ _ _ )) (fun _ _ => rfl) (fun _ _ => rfl)))) (@E_int _ _ _ _ _ _ _ _ _ ) rfl)) (fun _ _ => rfl)))) (@C_len _ _ _ _ ) (fun _ _ => rfl)))) (by rintro ⟨⟩ rfl; rfl)) (@S_cons _ _ _ _ _ _ _ _ _ _ _ (@S_assign _ _ _ _ _ _ _ _ _ _ _ _ 17 rfl (@EOkF.g _ _ _ _ _ _ _ _ _ (@nCall _ _ _ _ _ _ _ _ _ (@E_bi1 _ _ _ _ _ _ _ _ _ _ g _ _ _ _ _ _ _ ⟨rfl, by decide +kernel, by decide +kernel, by decide +kernel, rfl⟩ (@EOkF.e _ _ _ _ _ _ _ _ (@nComp _ _ _ _ _ _ _ _ _ _ _ (@E_comp _ _ _ _ _ _ _ _ _ _ _ _ _ _ _ _ _ _ _ (CompOk.mk (cv := false) (msk := [false, false, false, false, false, false, false, true, false, false, false, false, false, false, false, false, false, false]) rfl rfl (fun _ _ => rfl) (fun _ => rfl) (by decide +kernel) (by decide +kernel) (by decide +kernel) (by decide +kernel) (by decide +kernel)) (@nRng1 _ _ _ _ _ _ _ _ _ (It_range1 (bb := true) g ⟨rfl, by decide +kernel, by decide +kernel, by decide +kernel, rfl⟩ (@EOkF.e _ _ _ _ _ _ _ _ (@nCall _ _ _ _ _ _ _ _ _ (@E_bi1 _ _ _ _ _ _ _ _ _ _ g _ _ _ _ _ _ _ ⟨rfl, by decide +kernel, by decide +kernel, by decide +kernel, rfl⟩ (@E_name _ _ _ _ _ _ _ _ 2 rfl rfl) (@C_len _ _ _ _ ) (fun _ _ => rfl)))) (fun _ _ => rfl))) (@E_name _ _ _ _ _ _ _ _ 0 rfl rfl) (@Ts_one _ _ _ _ _ _ _ _ (@T_cmp _ _ _ _ _ _ _ _ _ _ _ _ (@E_mul _ _ _ _ _ _ _ _ _ _ _ (@E_int _ _ _ _ _ _ _ _ _ ) (@nIdx _ _ _ _ _ _ _ _ _ (@E_idx _ _ _ _ _ _ _ _ _ _ _ (@E_name _ _ _ _ _ _ _ _ 8 rfl rfl) (@E_add _ _ _ _ _ _ _ _ _ _ _ (@E_name _ _ _ _ _ _ _ _ 0 rfl rfl) (@E_int _ _ _ _ _ _ _ _ _ )) (fun _ _ => rfl) (fun _ _ => rfl)))) (@E_int _ _ _ _ _ _ _ _ _ ) rfl)) (fun _ _ => rfl)))) (@C_len _ _ _ _ ) (fun _ _ => rfl)))) (by rintro ⟨⟩ rfl; rfl)) (@S_cons _ _ _ _ _ _ _ _ _ _ _ (@S_if _ _ _ _ _ _ _ _ _ _ _ _ _ _ (@TOk.g _ _ _ _ _ _ _ _ _ (@T_bool _ _ _ _ _ _ _ _ _ _ (@nOr _ _ _ _ _ _ _ _ _ (@All_or _ _ _ _ _ _ _ _ _ _ (@T_cmp _ _ _ _ _ _ _ _ _ _ _ _ (@EOkF.e _ _ _ _ _ _ _ _ (@nComp _ _ _ _ _ _ _ _ _ _ _ (@E_comp _ _ _ _ _ _ _ _ _ _ _ _ _ _ _ _ _ _ _ (CompOk.mk (cv := false) (msk := [false, false, false, false, false, false, false, false, false, false, false, false, false, false, false, false, false, false]) rfl rfl (fun _ _ => rfl) (fun _ => rfl) (by decide +kernel) (by decide +kernel) (by decide +kernel) (by decide +kernel) (by decide +kernel)) (@nItl _ _ _ _ _ _ _ _ _ (@It_list _ _ _ _ _ _ _ _ (@EOkF.e _ _ _ _ _ _ _ _ (@nTo _ _ _ _ _ _ _ _ _ (@E_sliceTo _ _ _ _ _ _ _ _ _ _ _ _ (@E_name _ _ _ _ _ _ _ _ 15 rfl rfl) (@E_name _ _ _ _ _ _ _ _ 16 rfl rfl) (fun _ _ => rfl)))))) (@EOkF.e _ _ _ _ _ _ _ _ (@nCall _ _ _ _ _ _ _ _ _ (@E_call1 _ _ _ _ _ _ _ _ _ _ g _ _ _ _ _ _ _ rfl rfl hf_high_bit hc_high_bit (@E_name _ _ _ _ _ _ _ _ 0 rfl rfl) (fun _ _ => rfl)))) (@Ts_nil _ _ _ _ _ _ ) (fun _ _ => rfl)))) (@EOkF.e _ _ _ _ _ _ _ _ (@nTo _ _ _ _ _ _ _ _ _ (@E_sliceTo _ _ _ _ _ _ _ _ _ _ _ _ (@E_name _ _ _ _ _ _ _ _ 2 rfl rfl) (@E_name _ _ _ _ _ _ _ _ 16 rfl rfl) (fun _ _ => rfl)))) rfl) (@nOr _ _ _ _ _ _ _ _ _ (@All_or _ _ _ _ _ _ _ _ _ _ (@T_cmp _ _ _ _ _ _ _ _ _ _ _ _ (@EOkF.e _ _ _ _ _ _ _ _ (@nTo _ _ _ _ _ _ _ _ _ (@E_sliceTo _ _ _ _ _ _ _ _ _ _ _ _ (@E_name _ _ _ _ _ _ _ _ 15 rfl rfl) (@E_name _ _ _ _ _ _ _ _ 17 rfl rfl) (fun _ _ => rfl)))) (@EOkF.e _ _ _ _ _ _ _ _ (@nTo _ _ _ _ _ _ _ _ _ (@E_sliceTo _ _ _ _ _ _ _ _ _ _ _ _ (@E_name _ _ _ _ _ _ _ _ 5 rfl rfl) (@E_name _ _ _ _ _ _ _ _ 17 rfl rfl) (fun _ _ => rfl)))) rfl) (@All_or_nil _ _ _ _ _ _ ))))))) (@S_cons _ _ _ _ _ _ _ _ _ _ _ (@S_ret _ _ _ _ _ _ _ _ _ _ (@EOkF.g _ _ _ _ _ _ _ _ _ (@EOk.s _ _ _ _ _ _ _ _ (@E_bool _ _ _ _ _ _ _ _ _)))) (@S_nil _ _ _ _ _ _ _ )) (@S_nil _ _ _ _ _ _ _ )) (@S_cons _ _ _ _ _ _ _ _ _ _ _ (@S_ret _ _ _ _ _ _ _ _ _ _ (@EOkF.g _ _ _ _ _ _ _ _ _ (@EOk.s _ _ _ _ _ _ _ _ (@nCmp _ _ _ _ _ _ _ _ _ _ (@E_cmp _ _ _ _ _ _ _ _ _ _ _ _ (@EOkF.e _ _ _ _ _ _ _ _ (@nComp _ _ _ _ _ _ _ _ _ _ _ (@E_comp _ _ _ _ _ _ _ _ _ _ _ _ _ _ _ _ _ _ _ (CompOk.mk (cv := false) (msk := [false, false, false, true, false, true, false, false, false, false, false, false, false, false, false, true, false, false]) rfl rfl (fun _ _ => rfl) (fun _ => rfl) (by decide +kernel) (by decide +kernel) (by decide +kernel) (by decide +kernel) (by decide +kernel)) (@nRng1 _ _ _ _ _ _ _ _ _ (It_range1 (bb := true) g ⟨rfl, by decide +kernel, by decide +kernel, by decide +kernel, rfl⟩ (@E_name _ _ _ _ _ _ _ _ 17 rfl rfl) (fun _ _ => rfl))) (@E_name _ _ _ _ _ _ _ _ 0 rfl rfl) (@Ts_one _ _ _ _ _ _ _ _ (@T_cmp _ _ _ _ _ _ _ _ _ _ _ _ (@EOkF.e _ _ _ _ _ _ _ _ (@nCall _ _ _ _ _ _ _ _ _ (@E_call1 _ _ _ _ _ _ _ _ _ _ g _ _ _ _ _ _ _ rfl rfl hf_is_single_bit hc_is_single_bit (@nIdx _ _ _ _ _ _ _ _ _ (@E_idx _ _ _ _ _ _ _ _ _ _ _ (@E_name _ _ _ _ _ _ _ _ 16 rfl rfl) (@E_name _ _ _ _ _ _ _ _ 0 rfl rfl) (fun _ _ => rfl) (fun _ _ => rfl))) (fun _ _ => rfl)))) (@nCmp _ _ _ _ _ _ _ _ _ _ (@E_cmp _ _ _ _ _ _ _ _ _ _ _ _ (@nIdx _ _ _ _ _ _ _ _ _ (@E_idx _ _ _ _ _ _ _ _ _ _ _ (@E_name _ _ _ _ _ _ _ _ 6 rfl rfl) (@E_name _ _ _ _ _ _ _ _ 0 rfl rfl) (fun _ _ => rfl) (fun _ _ => rfl))) (@E_pow _ _ _ _ _ _ _ _ _ _ _ (@E_int _ _ _ _ _ _ _ _ _ ) (@nIdx _ _ _ _ _ _ _ _ _ (@E_idx _ _ _ _ _ _ _ _ _ _ _ (@E_name _ _ _ _ _ _ _ _ 4 rfl rfl) (@E_name _ _ _ _ _ _ _ _ 0 rfl rfl) (fun _ _ => rfl) (fun _ _ => rfl)))) rfl)) rfl)) (fun _ _ => rfl)))) (@EOkF.e _ _ _ _ _ _ _ _ (@nList _ _ _ _ _ _ _ _ (@E_list _ _ _ _ _ _ _ _ _ (@Es_nil _ _ _ _ _ _ )))) rfl))))) (@S_nil _ _ _ _ _ _ _ )))))))))))))), fun script row T seed hs hr h0 hT hT3 hseed ok => ?_⟩
  have hT6 : T.length ≤ 6 := by rw [hT]; exact toldL_len 6 0 row
  have hgT : toldG [.list row] = some (.list T) := by
    show (if row.getD 0 1 ≠ 0 then some (PV.list (toldL 6 0 row)) else none) = _
    rw [if_pos h0, hT]
  have hgS : sizesG [.list row] = some (.list T) := by
    show (if row.getD 0 1 ≠ 0 ∧ row.length < 100000 then some (PV.list (toldL 6 0 row)) else none) = _
    rw [if_pos ⟨h0, by omega⟩, hT]
  refine Ret.seq (setL (callF_eq (q := .list row) rfl hgT)) (Ret.seq (setL (callF_eq (q := .list row) rfl hgS)) ?_)
  refine Ret.seq (iteF_false ((cmpF_eq (p := .list T) (q := .list T) rfl rfl).trans (by show some (!decide (T = T)) = _; rw [decide_eq_true rfl]; rfl)) rfl) ?_
  have hsd : (script.sum + 617) % 4096 = (seed : Int) := by rw [hseed, Int.toNat_of_nonneg (by omega)]
  have hsl : seed < 4096 := by omega
  have hTi : ∀ i, i < T.length → ∃ t : Nat, 1 ≤ t ∧ t ≤ 3 ∧ T[i]? = some (t : Int) ∧ T.getD i 0 = (t : Int) := fun i hi => by
    have h1 := hT3 T[i] (List.getElem_mem hi)
    refine ⟨T[i].toNat, by omega, by omega, ?_, ?_⟩
    · rw [List.getElem?_eq_getElem hi, Int.toNat_of_nonneg (by omega)]
    · rw [List.getD, List.getElem?_eq_getElem hi, Int.toNat_of_nonneg (by omega)]; rfl
  have p2 : ∀ t : Nat, t ≤ 12 → 0 < 2 ^ t ∧ 2 ^ t < 2 ^ 30 := fun t ht => ⟨Nat.pow_pos (by decide), Nat.pow_lt_pow_right (by decide) (by omega)⟩
  refine Ret.seq (setI (v := (seed : Int)) ((mod_eq (bin_eq (a := script.sum) (b := 617) (sum_eq (xs := script) rfl rfl) rfl rfl) rfl (by decide)).trans (by rw [hsd]))) ?_
  refine Ret.seq (setL (xs := partsL T seed) ((comp_all (fun x => ((2 ^ (T.getD x.toNat 0).toNat + seed / 2 ^ x.toNat % 2 ^ (T.getD x.toNat 0).toNat : Nat) : Int)) (rng1_eq (Ev.len (xs := T) rfl rfl (by omega)) (by omega)) (fun x hx => rfl) (fun x hx => ?_)).trans (by rw [List.map_map]; rfl))) ?_
  · obtain ⟨i, hi2, rfl⟩ := List.mem_map.mp hx
    have hi3 : i < T.length := List.mem_range.mp hi2
    obtain ⟨t, h1, h3, ht, ht'⟩ := hTi i hi3
    have e : (T.getD ((i : Int)).toNat 0).toNat = t := by rw [Int.toNat_natCast, ht', Int.toNat_natCast]
    rw [e, Int.toNat_natCast]
    exact Ev.add (Ev.pow (b := t) rfl (idx_nat rfl rfl rfl (by omega) ht) (by omega)) (Ev.mod (Ev.div (a := seed) rfl (Ev.pow (b := i) rfl rfl (by omega)) (p2 i (by omega)).1 (p2 i (by omega)).2) (Ev.pow (b := t) rfl (idx_nat rfl rfl rfl (by omega) ht) (by omega)) (p2 t (by omega)).1 (p2 t (by omega)).2)
  have hsum : ∀ xs : List Int, (∀ x ∈ xs, 1 ≤ x ∧ x ≤ 3) → 0 ≤ xs.sum ∧ xs.sum ≤ 3 * xs.length := by
    intro xs
    induction xs with
    | nil => intro _; simp
    | cons a r ih =>
      intro h
      have := h a (List.mem_cons_self ..)
      have := ih fun x hx => h x (List.mem_cons_of_mem _ hx)
      simp only [List.sum_cons, List.length_cons]; omega
  obtain ⟨sm0, sm1⟩ := hsum T hT3
  have hPl : (partsL T seed).length = T.length := by simp [partsL]
  have hP0 : ∀ z ∈ partsL T seed, 0 ≤ z := fun z hz => by
    obtain ⟨i, _, rfl⟩ := List.mem_map.mp hz
    exact Int.natCast_nonneg _
  generalize hP : partsL T seed = P at *
  obtain ⟨dg, hdg⟩ := Int.eq_ofNat_of_zero_le sm0
  have hX : textL P T.sum.toNat = textL P dg := by rw [hdg]; rfl
  have ok' := ok
  refine Ret.seq (setL (xs := textL P T.sum.toNat) (call2F_eq (q := .list P) (q' := .int (dg : Int)) rfl ((sum_eq (xs := T) rfl rfl).trans (by rw [hdg])) ?_)) ?_
  · rw [hX]
    show (if P.length ≤ 6 ∧ (∀ z ∈ P, 0 ≤ z) ∧ dg < 30 then some (PV.list (textL P dg)) else none) = _
    rw [if_pos ⟨by omega, hP0, by omega⟩]
  have hXf : (textL P T.sum.toNat).length = 10 ∧ bits01 (textL P T.sum.toNat) := textL_ok ..
  obtain ⟨hX10, hXb⟩ := hXf
  have okc := ok.chk
  have okn := ok.near
  have oks := ok.sure
  have okl := ok.last
  rw [hP] at okc okn oks okl
  clear ok ok' hX
  generalize textL P T.sum.toNat = X at *
  refine Ret.seq (setL (xs := marksL T) ((comp_all (fun x => (T.take x.toNat).sum) (rng1_eq (Ev.add (a := T.length) (b := 1) (Ev.len (xs := T) rfl rfl (by omega)) rfl) (by omega)) (fun x hx => rfl) (fun x hx => ?_)).trans (by rw [List.map_map]; rfl))) ?_
  · obtain ⟨i, hi2, rfl⟩ := List.mem_map.mp hx
    exact sum_eq (xs := T.take i) (to_eq (xs := T) rfl rfl rfl (by omega)) rfl
  have hM0 : ∀ sz : Nat, (marksL T).filter (fun o => decide (o ≤ (sz : Int))) ≠ [] := fun sz q => by
    have h0 : (0 : Int) ∈ marksL T := List.mem_map.mpr ⟨0, List.mem_range.mpr (by omega), by simp⟩
    have : (0 : Int) ∈ (marksL T).filter (fun o => decide (o ≤ (sz : Int))) := List.mem_filter.mpr ⟨h0, by simp⟩
    rw [q] at this; cases this
  have hMl : (marksL T).length = T.length + 1 := by simp [marksL]
  have hML : (marksL T).length < 100000 := by omega
  refine Ret.ex (α := PV × J) (e := fun x => [.blist script, .list row, .list T, .list T, .int (seed : Int), .list P, .list X, .list (marksL T), x.1, x.2.a, x.2.b, x.2.c, x.2.d, x.2.e, x.2.f, .undef, .undef, .undef])
    ⟨(_, _), for_D ((List.range 6).map fun i : Nat => (i : Int)) (fun kv (j : J) => [.blist script, .list row, .list T, .list T, .int (seed : Int), .list P, .list X, .list (marksL T), kv, j.a, j.b, j.c, j.d, j.e, j.f, .undef, .undef, .undef]) (jStep X (marksL T)) (fun _ _ => True) .undef ⟨.undef, .undef, .undef, .undef, .undef, .undef⟩ rfl (rng1_eq rfl (by decide)) (fun _ _ _ => rfl) trivial ?_⟩ fun x => ?_
  · intro idx st v hv _
    refine ⟨?_, trivial⟩
    obtain ⟨sz, hsz, rfl⟩ := List.mem_map.mp (List.mem_of_getElem? hv)
    have hs6 : sz < 6 := List.mem_range.mp hsz
    clear hv hsz idx
    obtain ⟨ja, jb, jc, jd, je, jf⟩ := st
    unfold jStep
    rw [Int.toNat_natCast]
    dsimp only
    have hp2 : 2 ^ sz ≤ 32 := Nat.le_trans (Nat.pow_le_pow_right (by decide) (by omega : sz ≤ 5)) (by decide)
    refine Nx.seq (setL (xs := reachesL X sz) ((comp_all (fun x => ((reachL (tapsL sz x.toNat) X 11 sz : Nat) : Int)) (rng1_eq (Ev.pow (b := sz) rfl rfl (by omega)) (by omega)) (fun x hx => rfl) (fun x hx => ?_)).trans (by rw [List.map_map]; rfl))) ?_
    · obtain ⟨t, ht, rfl⟩ := List.mem_map.mp hx
      have htl : (tapsL sz t).length = sz := by simp [tapsL]
      have htb : bits01 (tapsL sz t) := fun y hy => by
        obtain ⟨i, _, rfl⟩ := List.mem_map.mp hy
        have := Nat.mod_lt (t / 2 ^ i) (by decide : 0 < 2)
        omega
      refine call2F_eq (q := .list X) (q' := .list (tapsL sz t)) rfl ((comp_all (fun y => ((t / 2 ^ y.toNat % 2 : Nat) : Int)) (rng1_eq (n := sz) rfl (by omega)) (fun y hy => rfl) (fun y hy => ?_)).trans (by rw [List.map_map]; rfl)) ?_
      · obtain ⟨i, hi, rfl⟩ := List.mem_map.mp hy
        have hi' : i < sz := List.mem_range.mp hi
        rw [Int.toNat_natCast]
        exact Ev.mod (Ev.div (a := t) rfl (Ev.pow (b := i) rfl rfl (by omega)) (p2 i (by omega)).1 (p2 i (by omega)).2) rfl (by decide) (by decide)
      · rw [reachG_eq hX10 hXb (by omega) htb, htl, Int.toNat_natCast]
    have hRl : (reachesL X sz).length = 2 ^ sz := by simp [reachesL]
    refine Nx.seq (setJ (v := markL (marksL T) sz) (callF_eq (q := .list ((marksL T).filter fun o => decide (o ≤ (sz : Int)))) ((comp_eq (fun o => decide (o ≤ (sz : Int))) (fun o => o) (itl_eq (xs := marksL T) rfl rfl hML) (fun x hx => cmp_le rfl rfl) (fun x hx _ => rfl)).trans (by rw [List.map_id'])) (maxG_eq (hM0 sz)))) ?_
    refine Nx.seq (setL (xs := laterL (marksL T) sz) ((comp_eq (fun o => decide ((sz : Int) < o)) (fun o => o) (itl_eq (xs := marksL T) rfl rfl hML) (fun x hx => cmp_gt rfl rfl) (fun x hx _ => rfl)).trans (by rw [List.map_id']; rfl))) ?_
    have hcs : ∀ n : Nat, sz ≤ n → n < 11 → chk X (marksL T) sz n = true := fun n h1 h2 => okc sz n hs6 h1 h2
    have hlt : (laterL (marksL T) sz).length < 100000 := Nat.lt_of_le_of_lt (List.length_filter_le ..) hML
    obtain ⟨hl1, hl2⟩ := seen_last sz hs6 X (marksL T) (je, jf) jd
    refine Nx.seq ((for_D (seenL sz) (fun kv2 (x : PV × PV) => [.blist script, .list row, .list T, .list T, .int (seed : Int), .list P, .list X, .list (marksL T), .int (sz : Int), .list (reachesL X sz), .int (markL (marksL T) sz), .list (laterL (marksL T) sz), kv2, x.1, x.2, .undef, .undef, .undef]) (kStep X (marksL T) sz) (fun _ _ => True) jd (je, jf) rfl (rng2_eq (a := sz) (b := 11) rfl rfl (by omega) (by omega)) (fun _ _ _ => rfl) trivial ?_).trans (by rw [hl1, hl2])) rfl
    intro idx y v hv _
    refine ⟨?_, trivial⟩
    obtain ⟨i, hi, rfl⟩ := List.mem_map.mp (List.mem_of_getElem? hv)
    have hi' : i < 11 - sz := List.mem_range.mp hi
    have hc := hcs (sz + i) (by omega) (by omega)
    unfold kStep
    rw [Int.toNat_natCast]
    generalize sz + i = n at *
    obtain ⟨y1, y2⟩ := y
    dsimp only
    unfold chk at hc
    rw [Bool.and_eq_true, decide_eq_true_eq, beq_iff_eq] at hc
    obtain ⟨hc1, hc2⟩ := hc
    refine Nx.seq (setJ (v := (countL X sz n : Nat)) (Ev.len (xs := (reachesL X sz).filter fun r => decide ((n : Int) ≤ r)) ((comp_eq (fun r => decide ((n : Int) ≤ r)) (fun o => o) (itl_eq (xs := reachesL X sz) rfl rfl (by omega)) (fun x hx => cmp_ge rfl rfl) (fun x hx _ => rfl)).trans (by rw [List.map_id'])) rfl (Nat.lt_of_le_of_lt (List.length_filter_le ..) (by omega)))) ?_
    refine Nx.seq (setI (v := due0 (marksL T) sz n) (bin_eq (a := (sz : Int) - markL (marksL T) sz) (b := if markL (marksL T) sz + sz - n > 0 then markL (marksL T) sz + sz - n else 0) (bin_eq (a := (sz : Int)) (b := markL (marksL T) sz) rfl rfl rfl) (call2F_eq (q := .int 0) (q' := .int (markL (marksL T) sz + sz - n)) rfl (bin_eq (a := markL (marksL T) sz + sz) (b := (n : Int)) (bin_eq (a := markL (marksL T) sz) (b := (sz : Int)) rfl rfl rfl) rfl rfl) rfl) rfl)) ?_
    generalize hcnt : countL X sz n = cnt at *
    generalize hlat : laterL (marksL T) sz = lat at *
    generalize hmk : markL (marksL T) sz = mk at *
    have hdue : dueL (marksL T) sz n = if lat ≠ [] ∧ mk + lat.headD 0 ≤ (n : Int) then -1 else due0 (marksL T) sz n := by
      unfold dueL; rw [hlat, hmk]
    refine Nx.seq (m' := [.blist script, .list row, .list T, .list T, .int (seed : Int), .list P, .list X, .list (marksL T), .int (sz : Int), .list (reachesL X sz), .int mk, .list lat, .int (n : Int), .int (cnt : Int), .int (dueL (marksL T) sz n), .undef, .undef, .undef])
      (iteF_of (b := decide (lat ≠ [] ∧ mk + lat.headD 0 ≤ (n : Int))) ((andF_eq (b := !decide (lat = [])) (c := decide (mk + lat.headD 0 ≤ (n : Int))) (cmp_nel rfl (list_eq rfl (by decide))) fun h => (andF_eq (c := true) (cmp_ge rfl (bin_eq (a := mk) (b := lat.headD 0) rfl (idx_nat (n := 0) rfl rfl rfl hlt ?_) rfl)) fun _ => rfl).trans (by rw [Bool.and_true])).trans ?_) ?_) ?_
    · cases lat with
      | nil => simp at h
      | cons a r => rfl
    · rw [Bool.decide_and]; simp
    · rw [hdue]
      by_cases hq : lat ≠ [] ∧ mk + lat.headD 0 ≤ (n : Int)
      · rw [decide_eq_true hq, if_pos hq]
        exact (if_pos rfl).trans (Nx.seq (setI (v := -1) (neg_eq rfl)) rfl)
      · rw [decide_eq_false hq, if_neg hq]
        rfl
    · refine Nx.seq (iteF_false ((orF_eq (b := false) (c := false) ((cmp_ne (callF_eq rfl (highG_eq cnt)) rfl).trans ?_) fun _ => (orF_eq (b := false) (c := false) ((cmp_isnot (a := single cnt) (b := decide (0 ≤ dueL (marksL T) sz n)) (callF_eq (q := .int (cnt : Int)) rfl rfl) (cmpB (cmp_ge rfl rfl))).trans ?_) fun _ => rfl).trans rfl).trans rfl) rfl) rfl
      · rw [hc1]; simp
      · rw [hc2]; simp
  · obtain ⟨kv, j⟩ := x
    obtain ⟨hQl, hQ0⟩ := quotL_ok X
    refine Ret.seq (setL (callF_eq (q := .list X) rfl (quotG_eq hX10 hXb))) ?_
    generalize quotL X = Q at *
    have hMi : ∀ i, i < T.length + 1 → (marksL T)[i]? = some ((marksL T).getD i 0) := fun i hi => by rw [List.getD, List.getElem?_eq_getElem (by omega)]; rfl
    have hMb : ∀ i, ((marksL T).getD i 0).natAbs ≤ 18 := fun i => by
      by_cases hi : i < T.length + 1
      · have e : (marksL T).getD i 0 = (T.take i).sum := by
          rw [List.getD, List.getElem?_eq_getElem (by omega)]; simp [marksL]
        have hb := hsum (T.take i) fun x hx => hT3 x (List.mem_of_mem_take hx)
        have : (T.take i).length ≤ 6 := Nat.le_trans (List.length_take_le' ..) hT6
        rw [e]; omega
      · rw [List.getD, List.getElem?_eq_none (by omega)]; decide
    have hfm : ∀ (c : Int → Bool), ((((List.range T.length).map fun i : Nat => (i : Int)).filter c).map fun o => o).length = ((List.range T.length).filter fun i : Nat => c (i : Int)).length := fun c => by
      rw [List.map_id', List.filter_map, List.length_map]; rfl
    have hlf : ∀ (c : Int → Bool), ((((List.range T.length).map fun i : Nat => (i : Int)).filter c).map fun o => o).length < 100000 := fun c => by
      rw [hfm]; exact Nat.lt_of_le_of_lt (List.length_filter_le ..) (by simp; omega)
    refine Ret.seq (setJ (v := (nearL T : Nat)) ((Ev.len (xs := (((List.range T.length).map fun i : Nat => (i : Int)).filter fun k : Int => decide ((marksL T).getD k.toNat 0 + (marksL T).getD (k.toNat + 1) 0 ≤ 10)).map fun o => o)
      (comp_eq (fun k : Int => decide ((marksL T).getD k.toNat 0 + (marksL T).getD (k.toNat + 1) 0 ≤ 10)) (fun o => o) (rng1_eq (Ev.len (xs := T) rfl rfl (by omega)) (by omega)) (fun x hx => ?_) (fun x hx _ => rfl)) rfl (hlf _)).trans (by rw [hfm]; rfl))) ?_
    · obtain ⟨i, hi2, rfl⟩ := List.mem_map.mp hx
      have hi3 : i < T.length := List.mem_range.mp hi2
      rw [Int.toNat_natCast]
      exact cmp_le (bin_eq (a := (marksL T).getD i 0) (b := (marksL T).getD (i + 1) 0) (idx_nat rfl rfl rfl hML (hMi i (by omega))) (idx_nat rfl rfl (Ev.add (a := i) (b := 1) rfl rfl) hML (hMi (i + 1) (by omega))) rfl) rfl
    refine Ret.seq (setJ (v := (sureL T : Nat)) ((Ev.len (xs := (((List.range T.length).map fun i : Nat => (i : Int)).filter fun k : Int => decide (2 * (marksL T).getD (k.toNat + 1) 0 ≤ 10)).map fun o => o)
      (comp_eq (fun k : Int => decide (2 * (marksL T).getD (k.toNat + 1) 0 ≤ 10)) (fun o => o) (rng1_eq (Ev.len (xs := T) rfl rfl (by omega)) (by omega)) (fun x hx => ?_) (fun x hx _ => rfl)) rfl (hlf _)).trans (by rw [hfm]; rfl))) ?_
    · obtain ⟨i, hi2, rfl⟩ := List.mem_map.mp hx
      have hi3 : i < T.length := List.mem_range.mp hi2
      rw [Int.toNat_natCast]
      have hb := hMb (i + 1)
      refine cmp_le (bin_eq (a := 2) (b := (marksL T).getD (i + 1) 0) rfl (idx_nat rfl rfl (Ev.add (a := i) (b := 1) rfl rfl) hML (hMi (i + 1) (by omega))) ?_) rfl
      rw [if_pos ⟨by decide, Nat.lt_of_le_of_lt hb (by decide)⟩]
    have hnl : nearL T ≤ T.length := Nat.le_trans (List.length_filter_le ..) (by simp)
    have hsl' : sureL T ≤ T.length := Nat.le_trans (List.length_filter_le ..) (by simp)
    have hsQ : sureL T ≤ Q.length := by
      have := congrArg List.length oks
      rw [List.length_take, List.length_take] at this
      omega
    generalize nearL T = nr at *
    generalize sureL T = sr at *
    refine Ret.seq (iteF_false ((orF_eq (b := false) (c := false) ((cmp_nel (comp_all (fun q => (bits q.toNat : Int) - 1) (itl_eq (to_eq (xs := Q) (n := nr) rfl rfl rfl (by omega)) rfl (Nat.lt_of_le_of_lt (List.length_take_le' ..) (by omega))) (fun x hx => rfl) (fun x hx => ?_)) (to_eq (xs := T) (n := nr) rfl rfl rfl (by omega))).trans ?_) fun _ => (orF_eq (b := false) (c := false) ((cmp_nel (to_eq (xs := Q) (n := sr) rfl rfl rfl (by omega)) (to_eq (xs := P) (n := sr) rfl rfl rfl (by omega))).trans ?_) fun _ => rfl).trans rfl).trans rfl) rfl) ?_
    · obtain ⟨n, rfl⟩ := Int.eq_ofNat_of_zero_le (hQ0 x (List.mem_of_mem_take hx))
      exact callF_eq (q := .int (n : Int)) rfl (highG_eq n)
    · rw [okn, decide_eq_true rfl]; rfl
    · rw [oks, decide_eq_true rfl]; rfl
    refine Ret.ret (scl_bool (cmpB (b := true) ((cmpF_eq (p := .list []) (q := .list []) ((comp_eq (fun k => !(single (Q.getD k.toNat 0).toNat == decide (P.getD k.toNat 0 = 2 ^ (T.getD k.toNat 0).toNat))) (fun o => o) (rng1_eq (n := sr) rfl (by omega)) (fun x hx => ?_) (fun x hx _ => rfl)).trans ?_) (list_eq rfl (by decide))).trans rfl)))
    · obtain ⟨i, hi2, rfl⟩ := List.mem_map.mp hx
      have hi3 : i < sr := List.mem_range.mp hi2
      obtain ⟨t, h1, h3, ht, ht'⟩ := hTi i (by omega)
      rw [Int.toNat_natCast]
      have hQi : Q[i]? = some (((Q.getD i 0).toNat : Nat) : Int) := by
        have e : Q.getD i 0 = Q[i] := by rw [List.getD, List.getElem?_eq_getElem (by omega)]; rfl
        rw [e, Int.toNat_of_nonneg (hQ0 _ (List.getElem_mem _)), List.getElem?_eq_getElem (by omega)]
      have hPi : P[i]? = some (P.getD i 0) := by rw [List.getD, List.getElem?_eq_getElem (by omega)]; rfl
      refine (cmp_isnot (a := single (Q.getD i 0).toNat) (b := (P.getD i 0 == ((2 ^ t : Nat) : Int))) (callF_eq (q := .int (((Q.getD i 0).toNat : Nat) : Int)) (idx_nat rfl rfl rfl (by omega) hQi) rfl) (cmpB (cmpF_eq (idx_nat rfl rfl rfl (by omega) hPi) (Ev.pow (b := t) rfl (idx_nat rfl rfl rfl (by omega) ht) (by omega))))).trans ?_
      rw [ht', Int.toNat_natCast]
      have e2 : (P.getD i 0 == ((2 ^ t : Nat) : Int)) = decide (P.getD i 0 = 2 ^ t) := by
        rw [Bool.eq_iff_iff]; simp
      rw [e2]
    · have : (((List.range sr).map fun i : Nat => (i : Int)).filter fun k => !(single (Q.getD k.toNat 0).toNat == decide (P.getD k.toNat 0 = 2 ^ (T.getD k.toNat 0).toNat))) = [] := by
        rw [List.filter_eq_nil_iff]
        intro x hx
        obtain ⟨i, hi2, rfl⟩ := List.mem_map.mp hx
        have hi3 : i < sr := List.mem_range.mp hi2
        rw [Int.toNat_natCast, okl i hi3]
        simp
      rw [this]; rfl
end
end Mine
end
section
open PySem PySem.W PySem.Calls PyProof.Rows
namespace Mine

section
variable {prog : Program} {w : World} {hB : Heap} {k : Nat}
variable {mg mb : Str → Option Value} {defs : List DefItem}

theorem StR.slots {s₀ s s' : Shared} {env : Env} {ns : List Str} {vals : List Value} {m : List PV} (x : StR true s₀ env ns vals m s) (h0 : s₀.heap.get? env.locals = none)
    (k1 : ∀ b o, s.heap.get? b = some o → b ≠ env.locals → s'.heap.get? b = some o) (k2 : ∀ b o, s.heap.get? b = some o → (∀ vs, o.data ≠ .fields vs) → ∃ sl, s'.heap.get? b = some { o with slots := sl }) (k3 : GRel true s s') :
    StR true s₀ env ns vals m s' := by
  obtain ⟨ml, hn, hml⟩ := x.loc
  have hseq : KeptSeq s.heap s'.heap := fun b o vs n e hd => k1 b o e fun q => by
    obtain ⟨es, ep, h⟩ := ns_notSeq hn (show s.heap.get? env.locals = some o from q ▸ e)
    rw [hd] at h; cases h
  refine ⟨x.lenV, x.lenM, fun b o e => k1 b o (x.keep b o e) (fun q => by rw [q, h0] at e; cases e), x.rel.trans k3, ⟨ml, ?_, hml⟩, ?_, fun i p v h1 h2 h3 => (x.vr i p v h1 h2 h3).seq hseq, x.own, x.bor, x.und⟩
  · obtain ⟨o, es, ep, ho, hd, r⟩ := hn
    obtain ⟨sl, hs⟩ := k2 _ o ho (fun vs q => by rw [hd] at q; cases q)
    exact ⟨_, es, ep, hs, hd, r⟩
  · intro i y hy hyk
    obtain ⟨c, ov, h1, ⟨o, ho, hd⟩, h3⟩ := x.cell i y hy hyk
    refine ⟨c, ov, h1, ⟨o, k1 c o ho fun q => ?_, hd⟩, h3⟩
    obtain ⟨es, ep, h⟩ := ns_notSeq hn (show s.heap.get? env.locals = some o from q ▸ ho)
    rw [hd] at h; cases h

theorem lawWhile : ∃ t asg rb p1 p2 p3 p4 p5 p6 p7 c, lawSt 1 = .While t [.If (.Compare (.Call (.Name "_law_told" p1) [.Name "row" p2] [] p3) [.NotEq] [.Constant (.str "invalid grouping") c p4] p5) [rb] [] p6, asg] [] p7 ∧
    TOk prog w hB k (itm 13).scope lawNs t (cmpF .Eq (idxF (fun m => PV.get? m 1) (fun _ => some (.int 0))) (fun _ => some (.int 0))) ∧
    S1Ok prog w hB true k (itm 13).scope lawNs asg (setF 1 (fromF (fun m => PV.get? m 1) (fun _ => some (.int 1)))) := by
  refine ⟨_, _, _, _, _, _, _, _, _, _, _, rfl, ?_, ?_⟩
  · exact (T_cmp (nIdx <| E_idx (E_name 1 rfl rfl) E_int (fun _ _ => rfl) (fun _ _ => rfl)) E_int rfl)
  · exact (S_assign 1 rfl ((nFrom <| E_sliceFrom (E_name 1 rfl rfl) E_int (fun _ _ => rfl))).g (by rintro ⟨⟩ rfl; rfl))

/-- a row that has an end -/
noncomputable def RowOk (row : List Int) : Prop := ∃ pre x post, row = pre ++ x :: post ∧ x ≠ 0 ∧ ∀ y ∈ pre, y = 0

theorem law_while (g : Gd hB mg mb defs usedB) (h2 : (itm 2).At mg hB) (h7 : (itm 7).At mg hB) {f2 f7 : Addr} (hf2 : mg "_grouping_intervals" = some (.ref f2)) (hf7 : mg "_law_told" = some (.ref f7)) (hcm : ∃ t, mg "CHAR_MAX" = some (.int 127 t))
    {A : Around} {env : Env} {s₀ s : Shared} {vals : List Value} {script row : List Int} {Q : Flow → Shared → Prop} {E : Value → Shared → Prop}
    (a : AOk (k + 4) A) (eo : EnvOk (itm 13).scope env) (es : EnvS s₀ lawNs env) (u : Up hB s₀.heap) (hfr : A.frames = some [env]) (hframe : env.frame = some env.locals) (hrl : row.length ≤ 100)
    (x₀ : StR true s₀ env lawNs vals (.blist script :: .list row :: List.replicate 16 .undef) s) (hrow : RowOk row)
    (h : ∀ s' vals' row', StR true s₀ env lawNs vals' (.blist script :: .list row' :: List.replicate 16 .undef) s' → row' = row.dropWhile (· == 0) → Q .next s') :
    wpAny (model prog w) A (exec (lawSt 1) env) Q E s := by
  obtain ⟨t, asg, rb, p1, p2, p3, p4, p5, p6, p7, c, hst, hT, hA⟩ := lawWhile (prog := prog) (w := w) (hB := hB) (k := k + 4)
  rw [hst]
  have hL0 : s₀.heap.get? env.locals = none := by
    cases q : s₀.heap.get? env.locals with
    | none => rfl
    | some o => exact absurd (Heap.lt_size q) (Nat.not_lt.mpr es.newL)
  have hBL : hB.get? env.locals = none := by
    cases q : hB.get? env.locals with
    | none => rfl
    | some o => rw [u _ _ q] at hL0; cases hL0
  have hfo : ∃ o fd, hB.get? f7 = some o ∧ o.data = .func fd := by
    obtain ⟨f', c, Pt, o, pm, doc, h1, h2, h3, _⟩ := h7
    rw [show mg (itm 7).name = some (.ref f7) from hf7] at h1; cases h1
    exact ⟨o, _, h2, h3⟩
  obtain ⟨of, fd, hof, hfd⟩ := hfo
  refine wpAny_While (codeAny_whileLoop (fun n s' => ∃ vals r, StR true s₀ env lawNs vals (.blist script :: .list r :: List.replicate 16 .undef) s' ∧ n = r.length ∧ RowOk r ∧ r.dropWhile (· == 0) = row.dropWhile (· == 0) ∧ r.length ≤ 100) ?_ row.length ⟨vals, row, x₀, rfl, hrow, rfl, hrl⟩)
  rintro n s₁ ⟨vals₁, r, x₁, rfl, hr, hd, hr100⟩
  obtain ⟨y, r', rfl⟩ : ∃ y r', r = y :: r' := by
    cases r with
    | nil => obtain ⟨pre, x, post, q, _⟩ := hr; cases pre <;> cases q
    | cons y r' => exact ⟨y, r', rfl⟩
  refine hT A env s₁ _ (y == 0) _ _ a eo (u.of x₁) (x₁.rd es) ((cmpF_eq (p := .int y) (q := .int 0) (idx_nat (n := 0) rfl rfl rfl (by omega) rfl) rfl).trans rfl) fun s₂ k₂ => ?_
  have x₂ := x₁.step (k₂.g (gm := true))
  by_cases hy : y = 0
  · subst hy
    rw [show ((0 : Int) == 0) = true from rfl, if_pos rfl]
    have hr' : RowOk r' := by
      obtain ⟨pre, x, post, q, hx, hp⟩ := hr
      cases pre with
      | nil => cases q; exact absurd rfl hx
      | cons p pre => cases q; exact ⟨pre, x, post, rfl, hx, fun y hy => hp y (List.mem_cons_of_mem _ hy)⟩
    have hd' : r'.dropWhile (· == 0) = row.dropWhile (· == 0) := hd
    refine wpAny_execs_cons (wpAny_If ?_)
    have upS : Up hB s₂.heap := u.of x₂
    refine wpAny_isTrue_Compare1 (Call_ (g.lookG (v := .ref f7) eo upS (by rfl) hf7 (by rfl) (callWith_def hfd (args_cons (E_name (prog := prog) (w := w) (hB := hB) (k := k + 4) (sc := (itm 13).scope) (ns := lawNs) 1 rfl rfl A env s₂ _ (.list (0 :: r')) _ _ a eo upS (x₂.rd es) rfl fun v s₃ k₃ v₃ => args_nil ⟨k₃.up _ _ (upS _ _ hof), ?_⟩) rfl) rfl)) (by rfl)) (by rfl)
    have x₃ := x₂.step (k₃.g (gm := true))
    have hff : s₃.heap.FunFrames hB [env] := by
      obtain ⟨ml, hn, _⟩ := x₃.loc
      exact Heap.FunFrames.cons (by rw [eo.scope]; nofun) hframe hn hBL trivial
    refine told_raises g h2 h7 hf2 hf7 hcm a (u.of x₃) v₃ rfl hfr hff fun s₄ tk k1 k2 k3 => ?_
    have hfm : [env].filterMap (·.frame) = [env.locals] := by simp [hframe]
    have x₄ := x₃.slots hL0 (fun b o e hb => k1 b o e (by rw [hfm]; simpa using hb)) k2 k3
    refine Constant_str ?_
    refine PyProof.Rows.ne_str ?_
    refine wpAny_truthy_bool ?_
    rw [if_neg (by decide)]
    refine wpAny_execs_nil ?_
    dsimp only
    refine wpAny_execs_cons (hA A env s₀ _ vals₁ _ _ _ _ _ a eo es u (x₄.step (s' := { s₄ with toks := s₄.toks + 1 }) (Kp.tok.g (gm := true))) (setL (from_eq (xs := 0 :: r') (n := 1) rfl rfl rfl (by omega))) fun fl s₅ vals₅ x₅ k₅ hfl => ?_)
    cases fl with
    | next =>
      refine wpAny_execs_nil ?_
      exact ⟨r'.length, Nat.lt_succ_self _, vals₅, r', x₅, rfl, hr', hd', by simp at hr100; omega⟩
    | brk => exact hfl.elim
    | cont => exact hfl.elim
    | ret v => exact hfl.elim
  · rw [beq_eq_false_iff_ne.mpr hy, if_neg (by decide)]
    refine wpAny_execs_nil (h s₂ vals₁ (y :: r') x₂ ?_)
    rw [← hd, List.dropWhile_cons, if_neg (by simpa using hy)]
end
end Mine
end
section
open PySem PySem.W PySem.Calls PyProof.Rows
namespace Mine

section
variable {prog : Program} {w : World} {hB : Heap} {k k' : Nat} {gm : Bool}
variable {mg mb : Str → Option Value} {defs : List DefItem}

theorem COk.up {f : Value} {G : List PV → Option PV} (c : COk prog w hB k f G) (h : k ≤ k') : COk prog w hB k' f G :=
  fun A s vs ps p Q E a => c A s vs ps p Q E (a.less h)
theorem COkG.up {f : Value} {G : List PV → Option PV} (c : COkG prog w hB gm k f G) (h : k ≤ k') : COkG prog w hB gm k' f G :=
  fun A s vs ps p Q E a => c A s vs ps p Q E (a.less h)
theorem fnAt {d : DefItem} (h : d.At mg hB) : ∃ f, mg d.name = some (.ref f) ∧ FnAt hB mg d.name f := by
  obtain ⟨f', c, Pt, o, pm, doc, h1, h2, h3, _⟩ := h
  exact ⟨f', h1, h1, o, _, h2, h3⟩

theorem lawOk : DefOk (itm 13) ["script"] ["row", "told", "sizes", "seed", "parts", "text", "marks", "size", "reaches", "mark", "later", "seen", "count", "due", "quotients", "near", "sure"] where
  kind := rfl
  co := rfl
  gen := rfl
  nodup := by decide +kernel
  kinds := by decide +kernel
  nofree := by decide +kernel
  bind := by
    intro pm cd doc vals hl
    match vals, hl with
    | [v], _ => rfl

theorem law_callC (g : Gd hB mg mb defs usedB) (hat : ∀ i ∈ [2, 4, 5, 7, 8, 9, 10, 11, 12, 13], (itm i).At mg hB) (hcm : ∃ t, mg "CHAR_MAX" = some (.int 127 t))
    {A : Around} {s : Shared} {v : Value} {f : Addr} {script row T : List Int} {Q : Value → Shared → Prop} {E : Value → Shared → Prop} (hf : mg "law" = some (.ref f)) (a : AOk 5 A) (hfr : A.frames = some []) (up : Up hB s.heap) (hv : VR s.heap v (.list script))
    (hs : script.length ≤ 63) (hrow : RowOk (rowL script)) (hrw : row = (rowL script).dropWhile (· == 0)) (h0 : row.getD 0 1 ≠ 0) (hT : T = toldL 6 0 row) (hT3 : ∀ x ∈ T, 1 ≤ x ∧ x ≤ 3) (ok : LawOK T ((script.sum + 617) % 4096).toNat)
    (h : ∀ s', Up s.heap s'.heap → GRel true s s' → Q (.bool true) s') : codeAny (model prog w) A (.call (.ref f) ⟨[v], []⟩) (fun r s' => match r with | .ok (.ret v) => Q v s' | .ok _ => False | .error e => E e s') s := by
  have a2 := hat 2 (by simp)
  have a7 := hat 7 (by simp)
  obtain ⟨f2, hf2, _⟩ := fnAt a2
  obtain ⟨f4, hf4, F4⟩ := fnAt (hat 4 (by simp))
  obtain ⟨f5, hf5, F5⟩ := fnAt (hat 5 (by simp))
  obtain ⟨f7, hf7, F7⟩ := fnAt a7
  obtain ⟨f8, hf8, F8⟩ := fnAt (hat 8 (by simp))
  obtain ⟨f9, hf9, F9⟩ := fnAt (hat 9 (by simp))
  obtain ⟨f10, hf10, F10⟩ := fnAt (hat 10 (by simp))
  obtain ⟨f11, hf11, F11⟩ := fnAt (hat 11 (by simp))
  obtain ⟨f12, hf12, F12⟩ := fnAt (hat 12 (by simp))
  have a13 := hat 13 (by simp)
  have c5 := C_high (prog := prog) (w := w) (k := 0) g (hat 5 (by simp)) hf5
  have c4 := C_single (prog := prog) (w := w) (k := 0) g (hat 4 (by simp)) hf4
  have c8 := C_sizes (prog := prog) (w := w) (k := 0) g (hat 8 (by simp)) hf8
  have c10 := C_text (prog := prog) (w := w) (k := 0) g (hat 10 (by simp)) hf10 (hat 9 (by simp)) hf9 F9
  have c11 := C_reach (prog := prog) (w := w) (k := 0) g (hat 11 (by simp)) hf11
  have c12 := C_quot (prog := prog) (w := w) (k := 0) g (hat 12 (by simp)) hf12 (hat 5 (by simp)) hf5 F5
  have c7 := C_told (prog := prog) (w := w) (k := 0) g a2 a7 hf2 hf7 hcm
  obtain ⟨FR, W0, hFR⟩ := law_row (prog := prog) (w := w) (hB := hB) (k := 4) g
  obtain ⟨FT, W2, hFT⟩ := law_rest (prog := prog) (w := w) (k := 4) g F5 (c5.up (by omega)) F4 (c4.up (by omega)) F12 (c12.up (by omega)) F11 (c11.up (by omega)) F8 (c8.up (by omega)) F10 (c10.up (by omega)) F7 (c7.up (by omega))
  refine call_rawC (gm := true) (ps := [.list script]) g a13 hf lawOk a up rfl (fun i v' q h1 h2 => ?_) rfl fun env s₁ eo es hframe _ x₀ => ⟨fun _ _ => False, ?_, fun _ _ e => e⟩
  · match i, h1, h2 with
    | 0, h1, h2 => cases h1; cases h2; exact hv
    | i + 1, h1, h2 => cases h1
  · have a' : AOk 4 (A.deeper env) := a.deeper
    have hbody : (itm 13).body = lawSt 0 :: lawSt 1 :: lawRest := rfl
    rw [hbody]
    refine wpAny_execs_cons (W0 (A.deeper env) env s s₁ _ _ _ _ _ _ a' eo es up x₀ (hFR script hs) fun fl s₂ vals₂ x₂ k₂ hfl => ?_)
    cases fl with
    | next =>
      have hlen : (rowL script).length ≤ 100 := by simp [rowL]; omega
      refine wpAny_execs_cons (law_while g a2 a7 hf2 hf7 hcm a' eo es up (Around.frames_deeper hfr) hframe hlen x₂ hrow fun s₃ vals₃ row' x₃ hr' => ?_)
      obtain rfl : row' = row := hr'.trans hrw.symm
      have hrl : row'.length ≤ 100 := by
        rw [hr']
        exact Nat.le_trans (List.dropWhile_sublist _).length_le hlen
      obtain ⟨m', hF⟩ := hFT script row' T _ hs hrl h0 hT hT3 rfl ok
      refine W2 (A.deeper env) env s s₃ _ _ _ _ _ _ a' eo es up x₃ hF fun fl s₄ vals₄ x₄ k₄ hfl => ?_
      cases fl with
      | ret u =>
        obtain ⟨rfl, _⟩ := hfl
        exact ⟨_, rfl, h s₄ x₄.keep x₄.rel⟩
      | next => exact hfl.elim
      | brk => exact hfl.elim
      | cont => exact hfl.elim
    | ret u => exact hfl.elim
    | brk => exact hfl.elim
    | cont => exact hfl.elim
end
end Mine
end
section
open PySem
namespace Mine

theorem rowOk_of : ∀ (xs : List Int), (∃ x ∈ xs, x ≠ 0) → RowOk xs
  | [], h => by obtain ⟨x, hx, _⟩ := h; cases hx
  | y :: r, h => by
    by_cases hy : y = 0
    · subst hy
      obtain ⟨x, hx, hx0⟩ := h
      rcases List.mem_cons.mp hx with rfl | hx
      · exact absurd rfl hx0
      · obtain ⟨pre, z, post, e, hz, hp⟩ := rowOk_of r ⟨x, hx, hx0⟩
        refine ⟨0 :: pre, z, post, by rw [e]; rfl, hz, fun a ha => ?_⟩
        rcases List.mem_cons.mp ha with rfl | ha
        · rfl
        · exact hp a ha
    · exact ⟨[], y, r, rfl, hy, nofun⟩
theorem drop_head : ∀ (xs : List Int), (xs.dropWhile (· == 0)).getD 0 1 ≠ 0
  | [] => by decide
  | y :: r => by
    rw [List.dropWhile_cons]
    by_cases hy : y = 0
    · subst hy; exact drop_head r
    · rw [if_neg (by simpa using hy)]; exact hy
theorem toldL_in : ∀ (n : Nat) (last : Int) (xs : List Int), 1 ≤ last ∧ last ≤ 3 → (∀ y ∈ xs, y = 0 ∨ y = 127 ∨ (1 ≤ y ∧ y ≤ 3)) → ∀ x ∈ toldL n last xs, 1 ≤ x ∧ x ≤ 3
  | 0, _, _, _, _, x, hx => by cases hx
  | _ + 1, _, [], _, _, x, hx => by cases hx
  | n + 1, last, y :: r, hl, hy, x, hx => by
    unfold toldL at hx
    split at hx
    · cases hx
    · split at hx
      · rw [List.eq_of_mem_replicate hx]; exact hl
      · rename_i h1 h2
        have hy' : 1 ≤ y ∧ y ≤ 3 := by
          rcases hy y (List.mem_cons_self ..) with h | h | h
          · exact absurd h h2
          · exact absurd h h1
          · exact h
        rcases List.mem_cons.mp hx with rfl | hx
        · exact hy'
        · exact toldL_in n y r hy' (fun z hz => hy z (List.mem_cons_of_mem _ hz)) x hx
theorem toldL_first (n : Nat) (l l' y : Int) (r : List Int) (h : y ≠ 0) : toldL n l (y :: r) = toldL n l' (y :: r) := by
  cases n with
  | zero => rfl
  | succ n => unfold toldL; rw [if_neg h, if_neg h]
theorem told_in (xs : List Int) (h0 : xs.getD 0 1 ≠ 0) (hy : ∀ y ∈ xs, y = 0 ∨ y = 127 ∨ (1 ≤ y ∧ y ≤ 3)) : ∀ x ∈ toldL 6 0 xs, 1 ≤ x ∧ x ≤ 3 := by
  cases xs with
  | nil => nofun
  | cons y r =>
    rw [toldL_first 6 0 1 y r h0]
    exact toldL_in 6 1 (y :: r) (by decide) hy
theorem menu_in : ∀ i : Nat, menuL.getD i 0 = 0 ∨ menuL.getD i 0 = 127 ∨ (1 ≤ menuL.getD i 0 ∧ menuL.getD i 0 ≤ 3) := by
  intro i
  by_cases h : i < 8
  · have : ∀ i < 8, menuL.getD i 0 = 0 ∨ menuL.getD i 0 = 127 ∨ (1 ≤ menuL.getD i 0 ∧ menuL.getD i 0 ≤ 3) := by decide
    exact this i h
  · rw [List.getD, List.getElem?_eq_none (by show 8 ≤ i; omega)]; exact .inl rfl
theorem row_in (script : List Int) : ∀ y ∈ rowL script, y = 0 ∨ y = 127 ∨ (1 ≤ y ∧ y ≤ 3) := by
  intro y hy
  unfold rowL at hy
  rcases List.mem_append.mp hy with hy | hy
  · rcases List.mem_append.mp hy with hy | hy
    · obtain ⟨x, _, rfl⟩ := List.mem_map.mp hy
      exact menu_in _
    · simp at hy; omega
  · exact .inl (List.eq_of_mem_replicate hy)
theorem plain_row (script : List Int) : RowOk (rowL script) ∧ ((rowL script).dropWhile (· == 0)).getD 0 1 ≠ 0 ∧ ∀ x ∈ toldL 6 0 ((rowL script).dropWhile (· == 0)), 1 ≤ x ∧ x ≤ 3 := by
  refine ⟨rowOk_of _ ⟨1, ?_, by decide⟩, drop_head _, told_in _ (drop_head _) fun y hy => row_in script y ((List.dropWhile_sublist _).subset hy)⟩
  unfold rowL
  simp
end Mine
end
section
namespace Mine

theorem two_xor (x y : Nat) : 2 * (x ^^^ y) = 2 * x ^^^ 2 * y := by
  have h := @Nat.shiftLeft_xor_distrib 1 x y
  simp only [Nat.shiftLeft_eq, Nat.pow_one] at h
  rw [Nat.mul_comm 2, Nat.mul_comm 2, Nat.mul_comm 2]; exact h
theorem xor_self_left (a b : Nat) : a ^^^ (a ^^^ b) = b := by rw [← Nat.xor_assoc, Nat.xor_self, Nat.zero_xor]
theorem xor4 (a b c d : Nat) : (a ^^^ b) ^^^ (c ^^^ d) = (a ^^^ c) ^^^ (b ^^^ d) := by
  rw [Nat.xor_assoc, ← Nat.xor_assoc b, Nat.xor_comm b c, Nat.xor_assoc c, ← Nat.xor_assoc]

/-- carry-less product -/
noncomputable def cm (a b : Nat) : Nat := if h : a = 0 then 0 else (if a % 2 = 1 then b else 0) ^^^ 2 * cm (a / 2) b
termination_by a
decreasing_by omega
theorem cm_zero (b : Nat) : cm 0 b = 0 := by rw [cm]; rfl
theorem cm_rec (a b : Nat) : cm a b = (if a % 2 = 1 then b else 0) ^^^ 2 * cm (a / 2) b := by
  by_cases h : a = 0
  · subst h
    rw [cm_zero]; simp [cm_zero]
  · conv => lhs; rw [cm]
    rw [dif_neg h]
theorem half_ind {P : Nat → Prop} (h0 : P 0) (h : ∀ a, a ≠ 0 → P (a / 2) → P a) : ∀ a, P a := by
  intro a
  induction a using Nat.strongRecOn with
  | ind a ih =>
    by_cases h' : a = 0
    · subst h'; exact h0
    · exact h a h' (ih _ (by omega))
theorem if_xor (c : Prop) [Decidable c] (x y : Nat) : (if c then x ^^^ y else 0) = (if c then x else 0) ^^^ (if c then y else 0) := by
  by_cases h : c <;> simp [h]
theorem if_two (c : Prop) [Decidable c] (x : Nat) : (if c then 2 * x else 0) = 2 * (if c then x else 0) := by
  by_cases h : c <;> simp [h]
theorem cm_r0 : ∀ a : Nat, cm a 0 = 0 := half_ind (cm_zero 0) fun a _ ih => by rw [cm_rec, ih]; simp
theorem cm_rx (x y : Nat) : ∀ a : Nat, cm a (x ^^^ y) = cm a x ^^^ cm a y := half_ind (by simp [cm_zero]) fun a _ ih => by
  rw [cm_rec a (x ^^^ y), cm_rec a x, cm_rec a y, ih, two_xor, if_xor, xor4]
theorem cm_rd (x : Nat) : ∀ a : Nat, cm a (2 * x) = 2 * cm a x := half_ind (by simp [cm_zero]) fun a _ ih => by
  rw [cm_rec a (2 * x), cm_rec a x, ih, if_two, two_xor]
theorem cm_ld (a b : Nat) : cm (2 * a) b = 2 * cm a b := by
  rw [cm_rec, if_neg (by omega), show 2 * a / 2 = a by omega, Nat.zero_xor]
theorem xor_mod2 (a b : Nat) : (a ^^^ b) % 2 = (a % 2 + b % 2) % 2 := by
  have h := add_xor_and a b
  omega
theorem xor_half (a b : Nat) : (a ^^^ b) / 2 = a / 2 ^^^ b / 2 := Nat.xor_div_two
theorem cm_lx (b : Nat) : ∀ x y : Nat, cm (x ^^^ y) b = cm x b ^^^ cm y b := half_ind (fun y => by rw [Nat.zero_xor, cm_zero, Nat.zero_xor]) fun x _ ih y => by
  rw [cm_rec (x ^^^ y), cm_rec x, cm_rec y, xor_half, ih, two_xor, xor4]
  congr 1
  rw [xor_mod2]
  rcases Nat.mod_two_eq_zero_or_one x with p | p <;> rcases Nat.mod_two_eq_zero_or_one y with q | q <;> rw [p, q] <;> simp
theorem cm_one (b : Nat) : cm 1 b = b := by rw [cm_rec]; simp [cm_zero]
theorem cm_r1 : ∀ a : Nat, cm a 1 = a := half_ind (cm_zero 1) fun a _ ih => by
  rw [cm_rec, ih]
  have h := add_xor_and (if a % 2 = 1 then 1 else 0) (2 * (a / 2))
  have : (if a % 2 = 1 then 1 else 0) &&& (2 * (a / 2)) = 0 := by
    rcases Nat.mod_two_eq_zero_or_one a with p | p
    · rw [p]; simp
    · rw [if_pos p, Nat.and_comm, Nat.and_one_is_mod]; omega
  rw [this] at h
  rcases Nat.mod_two_eq_zero_or_one a with p | p
  · rw [if_neg (by omega)] at h ⊢; omega
  · rw [if_pos p] at h ⊢; omega
theorem half_xor (a : Nat) : a = (if a % 2 = 1 then 1 else 0) ^^^ 2 * (a / 2) := by
  have := cm_rec a 1
  rw [cm_r1, cm_r1] at this
  exact this
theorem cm_comm : ∀ a b : Nat, cm a b = cm b a := half_ind (fun b => by rw [cm_zero, cm_r0]) fun a _ ih b => by
  rw [cm_rec a b, ih b]
  conv => rhs; rw [half_xor a]
  rw [cm_rx, cm_rd]
  congr 1
  by_cases p : a % 2 = 1
  · rw [if_pos p, if_pos p, cm_r1]
  · rw [if_neg p, if_neg p, cm_r0]
theorem cm_mid (x y : Nat) : ∀ p : Nat, cm (cm p x) y = cm x (cm p y) := half_ind (by rw [cm_zero, cm_zero, cm_r0]) fun p _ ih => by
  rw [cm_rec p x, cm_rec p y, cm_lx, cm_rx, cm_ld, cm_rd, ih]
  congr 1
  by_cases h : p % 2 = 1
  · rw [if_pos h, if_pos h]
  · rw [if_neg h, if_neg h, cm_zero, cm_r0]

theorem xor_top {x y k : Nat} (h1 : 2 ^ k ≤ x) (h2 : x < 2 ^ (k + 1)) (hy : y < 2 ^ k) : 2 ^ k ≤ x ^^^ y ∧ x ^^^ y < 2 ^ (k + 1) := by
  have hlt : x ^^^ y < 2 ^ (k + 1) := Nat.xor_lt_two_pow h2 (Nat.lt_trans hy (by rw [Nat.pow_succ]; omega))
  refine ⟨?_, hlt⟩
  rcases Nat.lt_or_ge (x ^^^ y) (2 ^ k) with h | h
  · have : (x ^^^ y) ^^^ y < 2 ^ k := Nat.xor_lt_two_pow h hy
    rw [Nat.xor_assoc, Nat.xor_self, Nat.xor_zero] at this
    omega
  · exact h
theorem xor_low {x y k : Nat} (h1 : 2 ^ k ≤ x) (h2 : x < 2 ^ (k + 1)) (h3 : 2 ^ k ≤ y) (h4 : y < 2 ^ (k + 1)) : x ^^^ y < 2 ^ k := by
  have hlt : x ^^^ y < 2 ^ (k + 1) := Nat.xor_lt_two_pow h2 h4
  rcases Nat.lt_or_ge (x ^^^ y) (2 ^ k) with h | h
  · exact h
  · exfalso
    have hx : x.testBit k = true := by
      rw [Nat.testBit_eq_decide_div_mod_eq]
      have : x / 2 ^ k = 1 := by
        rw [Nat.div_eq_iff (Nat.pow_pos (by decide))]; rw [Nat.pow_succ] at h2; omega
      rw [this]; rfl
    have hy : y.testBit k = true := by
      rw [Nat.testBit_eq_decide_div_mod_eq]
      have : y / 2 ^ k = 1 := by
        rw [Nat.div_eq_iff (Nat.pow_pos (by decide))]; rw [Nat.pow_succ] at h4; omega
      rw [this]; rfl
    have hz : (x ^^^ y).testBit k = true := by
      rw [Nat.testBit_eq_decide_div_mod_eq]
      have : (x ^^^ y) / 2 ^ k = 1 := by
        rw [Nat.div_eq_iff (Nat.pow_pos (by decide))]; rw [Nat.pow_succ] at hlt; omega
      rw [this]; rfl
    rw [Nat.testBit_xor, hx, hy] at hz
    cases hz
theorem cm_lt {b n : Nat} (hb : b < 2 ^ (n + 1)) : ∀ (m a : Nat), a < 2 ^ m → cm a b < 2 ^ (m + n)
  | 0, a, ha => by
    have : a = 0 := by simpa using ha
    subst this
    rw [cm_zero]; exact Nat.pow_pos (by decide)
  | m + 1, a, ha => by
    rw [cm_rec]
    have ih := cm_lt hb m (a / 2) (by rw [Nat.pow_succ] at ha; omega)
    refine Nat.xor_lt_two_pow ?_ ?_
    · have h2 : 2 ^ (n + 1) ≤ 2 ^ (m + 1 + n) := Nat.pow_le_pow_right (by decide) (by omega)
      have h3 : 0 < 2 ^ (m + 1 + n) := Nat.pow_pos (by decide)
      split <;> omega
    · rw [show m + 1 + n = (m + n) + 1 by omega, Nat.pow_succ]; omega
theorem cm_deg {b n : Nat} (hb : 2 ^ n ≤ b) (hb' : b < 2 ^ (n + 1)) : ∀ (m a : Nat), 2 ^ m ≤ a → a < 2 ^ (m + 1) → 2 ^ (m + n) ≤ cm a b ∧ cm a b < 2 ^ (m + n + 1)
  | 0, a, h1, h2 => by
    have : a = 1 := by simp at h1 h2; omega
    subst this
    rw [cm_one, Nat.zero_add]; exact ⟨hb, hb'⟩
  | m + 1, a, h1, h2 => by
    rw [cm_rec, Nat.xor_comm]
    obtain ⟨i1, i2⟩ := cm_deg hb hb' m (a / 2) (by rw [Nat.pow_succ] at h1; omega) (by rw [Nat.pow_succ] at h2; omega)
    refine xor_top (k := m + 1 + n) ?_ ?_ ?_
    · rw [show m + 1 + n = (m + n) + 1 by omega, Nat.pow_succ]; omega
    · rw [show m + 1 + n + 1 = (m + n + 1) + 1 by omega, Nat.pow_succ]; omega
    · have h2 : 2 ^ (n + 1) ≤ 2 ^ (m + 1 + n) := Nat.pow_le_pow_right (by decide) (by omega)
      have h3 : 0 < 2 ^ (m + 1 + n) := Nat.pow_pos (by decide)
      split <;> omega
end Mine
end
section
namespace Mine

theorem times_cm {p w : Nat} (hp : p < 16) : times p w = cm p w := by
  show tstep p w (tstep p w (tstep p w (tstep p w 0 0) 1) 2) 3 = _
  rw [cm_rec p, cm_rec (p / 2), cm_rec (p / 2 / 2), cm_rec (p / 2 / 2 / 2), show p / 2 / 2 / 2 / 2 = 0 by omega, cm_zero]
  unfold tstep
  have e1 : p / 2 ^ (0 : Int).toNat % 2 = p % 2 := by show p / 1 % 2 = _; omega
  have e2 : p / 2 ^ (1 : Int).toNat % 2 = p / 2 % 2 := rfl
  have e3 : p / 2 ^ (2 : Int).toNat % 2 = p / 2 / 2 % 2 := by show p / 4 % 2 = _; omega
  have e4 : p / 2 ^ (3 : Int).toNat % 2 = p / 2 / 2 / 2 % 2 := by show p / 8 % 2 = _; omega
  rw [e1, e2, e3, e4]
  have w1 : w * 2 ^ (0 : Int).toNat = w := by show w * 1 = w; omega
  have w2 : w * 2 ^ (1 : Int).toNat = 2 * w := by show w * 2 = _; omega
  have w3 : w * 2 ^ (2 : Int).toNat = 2 * (2 * w) := by show w * 4 = _; omega
  have w4 : w * 2 ^ (3 : Int).toNat = 2 * (2 * (2 * w)) := by show w * 8 = _; omega
  rw [w1, w2, w3, w4]
  by_cases h1 : p % 2 = 1 <;> by_cases h2 : p / 2 % 2 = 1 <;> by_cases h3 : p / 2 / 2 % 2 = 1 <;> by_cases h4 : p / 2 / 2 / 2 % 2 = 1 <;> simp [h1, h2, h3, h4, two_xor, Nat.xor_assoc]

structure CFOk (m : Nat) (c : CF) : Prop where
  q1 : 2 ^ m ≤ c.bo
  q2 : c.bo < 2 ^ (m + 1)
  b : c.b < 2 ^ m
  t : c.t < 2 ^ m
  a : c.a < 2 ^ (m + 1)
  det : cm c.t c.b ^^^ cm c.a c.bo = 1
theorem CFOk.zero : CFOk 0 ⟨0, 1, 1, 0⟩ := ⟨by decide, by decide, by decide, by decide, by decide, by rw [cm_zero, cm_one]; rfl⟩

theorem pow_up {a b : Nat} (h : a ≤ b) : 2 ^ a ≤ 2 ^ b := Nat.pow_le_pow_right (by decide) h

theorem CFOk.step {m t p : Nat} {c : CF} (x : CFOk m c) (h1 : 1 ≤ t) (h2 : 2 ^ t ≤ p) (h3 : p < 2 ^ (t + 1)) (hp : p < 16) : CFOk (m + t) (cfStep c (p : Int)) := by
  obtain ⟨b, bo, a, tt⟩ := c
  obtain ⟨q1, q2, xb, xt, xa, det⟩ := x
  dsimp only at q1 q2 xb xt xa det
  have e : cfStep ⟨b, bo, a, tt⟩ (p : Int) = ⟨bo, cm p bo ^^^ b, tt, cm p tt ^^^ a⟩ := by
    unfold cfStep
    rw [Int.toNat_natCast, times_cm hp, times_cm hp]
  rw [e]
  obtain ⟨d1, d2⟩ := cm_deg q1 q2 t p h2 h3
  have hbm : b < 2 ^ (t + m) := Nat.lt_of_lt_of_le xb (pow_up (by omega))
  obtain ⟨x1, x2⟩ := xor_top d1 d2 hbm
  have hup : 2 ^ (m + 1) ≤ 2 ^ (m + t) := pow_up (by omega)
  refine ⟨?_, ?_, ?_, ?_, ?_, ?_⟩
  · rw [Nat.add_comm m t]; exact x1
  · rw [Nat.add_comm m t]; exact x2
  · exact Nat.lt_of_lt_of_le q2 hup
  · refine Nat.xor_lt_two_pow ?_ (Nat.lt_of_lt_of_le xa hup)
    rw [cm_comm]
    exact cm_lt h3 m tt xt
  · exact Nat.lt_of_lt_of_le xt (pow_up (by omega))
  · show cm (cm p tt ^^^ a) bo ^^^ cm tt (cm p bo ^^^ b) = 1
    rw [cm_lx, cm_rx, cm_mid, xor4, Nat.xor_self, Nat.zero_xor, Nat.xor_comm]
    exact det

theorem bit_of {T m : Nat} (h : T < 2 ^ m) : (2 * T / 2 ^ m % 2 = 1 ∧ 2 ^ m ≤ 2 * T ∧ 2 * T < 2 ^ (m + 1)) ∨ (2 * T / 2 ^ m % 2 = 0 ∧ 2 * T < 2 ^ m) := by
  have hp : 0 < 2 ^ m := Nat.pow_pos (by decide)
  have h2 : 2 * T < 2 ^ (m + 1) := by rw [Nat.pow_succ]; omega
  rcases Nat.lt_or_ge (2 * T) (2 ^ m) with h' | h'
  · exact .inr ⟨by rw [Nat.div_eq_of_lt h'], h'⟩
  · refine .inl ⟨?_, h', h2⟩
    have : 2 * T / 2 ^ m = 1 := by
      rw [Nat.div_eq_iff hp]; rw [Nat.pow_succ] at h2; omega
    rw [this]

theorem text_ext {m t Q Q' : Nat} (q1 : 2 ^ m ≤ Q) (q2 : Q < 2 ^ (m + 1)) (r1 : 2 ^ (m + t) ≤ Q') (r2 : Q' < 2 ^ (m + t + 1)) (hd : 10 < m + (m + t)) :
    ∀ (l : List Int) (i T1 T2 : Nat) (out : List Int) (b1 b2 : PV), i + l.length ≤ 10 → T1 < 2 ^ m → T2 < 2 ^ (m + t) → cm T2 Q ^^^ cm T1 Q' = 2 ^ i →
      (l.foldl (tsStep Q m) ⟨T1, out, b1⟩).out = (l.foldl (tsStep Q' (m + t)) ⟨T2, out, b2⟩).out
  | [], _, _, _, _, _, _, _, _, _, _ => rfl
  | v :: l, i, T1, T2, out, b1, b2, hi, h1, h2, hD => by
    rw [List.length_cons] at hi
    have hD2 : cm (2 * T2) Q ^^^ cm (2 * T1) Q' = 2 ^ (i + 1) := by
      rw [cm_ld, cm_ld, ← two_xor, hD, Nat.pow_succ]; omega
    have hpi : 2 ^ (i + 1) < 2 ^ (m + (m + t)) := Nat.pow_lt_pow_right (by decide) (by omega)
    show (l.foldl (tsStep Q m) ⟨2 * T1 ^^^ 2 * T1 / 2 ^ m % 2 * Q, out ++ [((2 * T1 / 2 ^ m % 2 : Nat) : Int)], _⟩).out = (l.foldl (tsStep Q' (m + t)) ⟨2 * T2 ^^^ 2 * T2 / 2 ^ (m + t) % 2 * Q', out ++ [((2 * T2 / 2 ^ (m + t) % 2 : Nat) : Int)], _⟩).out
    rcases bit_of h1 with ⟨e1, a1, a2⟩ | ⟨e1, a1⟩ <;> rcases bit_of h2 with ⟨e2, c1, c2⟩ | ⟨e2, c1⟩
    · rw [e1, e2, Nat.one_mul, Nat.one_mul]
      refine text_ext q1 q2 r1 r2 hd l (i + 1) _ _ _ _ _ (by omega) (xor_low a1 a2 q1 q2) (xor_low c1 c2 r1 r2) ?_
      rw [cm_lx, cm_lx, xor4, cm_comm Q Q', Nat.xor_self, Nat.xor_zero, hD2]
    · exfalso
      have k1 := cm_deg r1 r2 m (2 * T1) a1 a2
      have k2 := cm_lt q2 (m + t) (2 * T2) c1
      rw [show m + t + m = m + (m + t) by omega] at k2
      have := (xor_top k1.1 k1.2 k2).1
      rw [Nat.xor_comm, hD2] at this
      omega
    · exfalso
      have k1 := cm_deg q1 q2 (m + t) (2 * T2) c1 c2
      have k2 := cm_lt r2 m (2 * T1) a1
      rw [show m + t + m = m + (m + t) by omega] at k1
      have := (xor_top k1.1 k1.2 k2).1
      rw [hD2] at this
      omega
    · rw [e1, e2, Nat.zero_mul, Nat.zero_mul, Nat.xor_zero, Nat.xor_zero]
      exact text_ext q1 q2 r1 r2 hd l (i + 1) _ _ _ _ _ (by omega) a1 c1 hD2
end Mine
end
section
namespace Mine

noncomputable abbrev cI (xs : List Nat) : List Int := xs.map fun n : Nat => (n : Int)
noncomputable def PartOk (t p : Nat) : Prop := 1 ≤ t ∧ t ≤ 3 ∧ 2 ^ t ≤ p ∧ p < 2 ^ (t + 1)
noncomputable def RelL : List Nat → List Nat → Prop
  | [], [] => True
  | t :: ts, p :: ps => PartOk t p ∧ RelL ts ps
  | _, _ => False
theorem PartOk.lt {t p : Nat} (h : PartOk t p) : p < 16 := by
  obtain ⟨h1, h2, h3, h4⟩ := h
  exact Nat.lt_of_lt_of_le h4 (pow_up (by omega : t + 1 ≤ 4))
theorem RelL.snoc : ∀ {ts ps : List Nat} {t p : Nat}, RelL ts ps → PartOk t p → RelL (ts ++ [t]) (ps ++ [p])
  | [], [], _, _, _, h => ⟨h, trivial⟩
  | _ :: _, _ :: _, _, _, h, h' => ⟨h.1, h.2.snoc h'⟩
theorem RelL.len : ∀ {ts ps : List Nat}, RelL ts ps → ts.length = ps.length
  | [], [], _ => rfl
  | _ :: _, _ :: _, h => by simp [h.2.len]
theorem CFOk.fold : ∀ {ts ps : List Nat} {m : Nat} {c : CF}, RelL ts ps → CFOk m c → CFOk (m + ts.sum) ((cI ps).foldl cfStep c)
  | [], [], _, _, _, x => x
  | t :: ts, p :: ps, m, c, h, x => by
    have := CFOk.fold h.2 (x.step h.1.1 h.1.2.2.1 h.1.2.2.2 h.1.lt)
    rw [List.sum_cons, ← Nat.add_assoc]
    exact this
theorem cf_ok {ts ps : List Nat} (h : RelL ts ps) : CFOk ts.sum (cf (cI ps)) := by
  have := CFOk.fold h CFOk.zero
  rw [Nat.zero_add] at this
  exact this
theorem text_snoc {ts ps : List Nat} {t p : Nat} (h : RelL ts ps) (hp : PartOk t p) (h10 : 10 < ts.sum + (ts.sum + t)) : textL (cI (ps ++ [p])) (ts.sum + t) = textL (cI ps) ts.sum := by
  have x := cf_ok h
  have e : cf (cI (ps ++ [p])) = cfStep (cf (cI ps)) (p : Int) := by
    unfold cf cI
    rw [List.map_append, List.foldl_append]; rfl
  have y := x.step hp.1 hp.2.2.1 hp.2.2.2 hp.lt
  unfold textL
  rw [e]
  generalize cf (cI ps) = c at *
  generalize hc : cfStep c (p : Int) = c' at *
  have e1 : c'.b = c.bo := by rw [← hc]; rfl
  have e2 : c'.a = c.t := by rw [← hc]; rfl
  have hd := y.det
  rw [e1, e2] at hd
  exact (text_ext x.q1 x.q2 y.q1 y.q2 h10 _ 0 c.t c'.t [] .undef .undef (by simp) x.t y.t hd).symm
theorem text_cut : ∀ {us qs ts ps : List Nat}, RelL us qs → RelL ts ps → (∀ t ∈ us.head?, 10 < ts.sum + (ts.sum + t)) → textL (cI (ps ++ qs)) (ts ++ us).sum = textL (cI ps) ts.sum
  | [], [], ts, ps, _, _, _ => by simp
  | t :: us, p :: qs, ts, ps, h, h', hh => by
    have h0 : 10 < ts.sum + (ts.sum + t) := hh t rfl
    have e1 : ps ++ p :: qs = (ps ++ [p]) ++ qs := by simp
    have e2 : ts ++ t :: us = (ts ++ [t]) ++ us := by simp
    have e3 : (ts ++ [t]).sum = ts.sum + t := by simp
    rw [e1, e2, text_cut h.2 (h'.snoc h.1) (fun t' ht' => by rw [e3]; omega), e3]
    exact text_snoc h' h.1 h0
end Mine
end
section
namespace Mine
noncomputable section
/-- the counts of ones of the numbers below 256, four bits each -/
noncomputable def P8 : Nat := 95125173855764218123276304889944061997689682402263585766959741291920687686033329201817409157123347502415384089435969498586180241031507595463600295898153685276653211633572815512294064538494957912327413386667662218713394765509704508661031522276467630197481635010039778342554499416459730172574551513689147646224
noncomputable def tb0 : Nat := 1
noncomputable def tb1 : Nat := 147
noncomputable def tb2 : Nat := 1774429455
noncomputable def tb3 : Nat := 199930622960005704514545713337897124095
noncomputable def tb4 : Nat := 5530104463523238345099366391341920294458672496450790080577924504552878391140025464685126063394859144545839878492744270952573285523260898828485886759469055
noncomputable def tb5 : Nat := 18987726562026935618078643369007390945239826497995915173829590809002694958024007661499429723260139552772843733713135595165555701004968312310551040565343810339628860215023961682844362679680832766091839484470678849367184624646298620545008678855198340174786080842275544165971246985441275065101993623462998402095640328579139153973590468950326756487472592678102643384108091307111394352996935134877071137428542432994344664669922782175593647475856504731266983772685630437494943368843952351042722910551921211831817043726810097581970222090057631374336652693137286270928514221191033070708166133676417296483748095305280542212095
noncomputable def tmN (p w : Nat) : Nat := Nat.xor (Nat.xor (Nat.mul w (Nat.land p 1)) (Nat.mul w (Nat.land p 2))) (Nat.xor (Nat.mul w (Nat.land p 4)) (Nat.mul w (Nat.land p 8)))
noncomputable def bitN (deg top : Nat) : Nat := Nat.land (Nat.shiftRight (Nat.add top top) deg) 1
noncomputable def txN (bo deg : Nat) (f : Nat) : Nat → Nat → Nat :=
  Nat.rec (fun _ V => V) (fun _ ih top V => ih (Nat.xor (Nat.add top top) (Nat.mul (bitN deg top) bo)) (Nat.add (Nat.add V V) (bitN deg top))) f
noncomputable def popN (j : Nat) : Nat → Nat := Nat.rec (fun _ => 0) (fun _ ih S => Nat.add (Nat.land (Nat.shiftRight P8 (Nat.mul 4 (Nat.land S 255))) 15) (ih (Nat.shiftRight S 8))) j
noncomputable def dueN (m nx s n : Nat) : Nat := cond (Nat.ble (Nat.add m nx) n) 0 (Nat.pow 2 (Nat.add (Nat.sub s m) (Nat.sub (Nat.add m s) n)))
noncomputable def exN (s all wm tab W : Nat) : Nat := Nat.land (Nat.shiftRight tab (Nat.shiftLeft (Nat.land W wm) s)) all
noncomputable def chN (s j all wm tab m nx V : Nat) (f : Nat) : Nat → Bool :=
  Nat.rec (fun S => Nat.beq (popN j S) (dueN m nx s 10))
    (fun f ih S => cond (Nat.beq (popN j S) (dueN m nx s (Nat.sub 9 f))) (ih (Nat.land S (exN s all wm tab (Nat.shiftRight V f)))) false) f
noncomputable def spN (k : Nat → Nat → Bool) (s : Nat) (ts : List Nat) : Nat → Bool :=
  List.rec (fun a => k a 99) (fun t _ ih a => cond (Nat.ble (Nat.add a t) s) (ih (Nat.add a t)) (k a (Nat.add a t))) ts
noncomputable def bN (n : Nat) : Nat := Nat.log2 (Nat.add n n)
noncomputable def dvN (lower : Nat) (k : Nat → Nat → Bool) (f : Nat) : Nat → Nat → Bool :=
  Nat.rec (fun q r => k q r) (fun sh ih q r => cond (Nat.beq (bN r) (Nat.add (bN lower) sh)) (ih (Nat.add q (Nat.pow 2 sh)) (Nat.xor r (Nat.mul lower (Nat.pow 2 sh)))) (ih q r)) f
noncomputable def quN (ts : List Nat) : List Nat → Nat → Nat → Nat → Bool :=
  List.rec (fun _ _ _ _ => true) (fun t _ ih ps m up lo => List.rec true (fun p ps _ => cond (Nat.ble 1 lo)
    (dvN lo (fun q r => cond (cond (Nat.ble (Nat.add (Nat.add m t) (Nat.add m t)) 10) (Nat.beq q p) (Nat.beq (bN q) (Nat.succ t))) (ih ps (Nat.add m t) lo r) false) 11 0 up) false) ps) ts
noncomputable def regN (ts : List Nat) (V : Nat) : Bool :=
  cond (spN (fun m nx => chN 0 1 1 1 tb0 m nx V 10 1) 0 ts 0) (cond (spN (fun m nx => chN 1 1 3 3 tb1 m nx V 9 3) 1 ts 0) (cond (spN (fun m nx => chN 2 1 15 7 tb2 m nx V 8 15) 2 ts 0) (cond (spN (fun m nx => chN 3 1 255 15 tb3 m nx V 7 255) 3 ts 0) (cond (spN (fun m nx => chN 4 2 65535 31 tb4 m nx V 6 65535) 4 ts 0) (spN (fun m nx => chN 5 4 4294967295 63 tb5 m nx V 5 4294967295) 5 ts 0) false) false) false) false) false
noncomputable def lawN (ts ps : List Nat) (V : Nat) : Bool := cond (regN ts V) (quN ts ps 0 1024 V) false
noncomputable def snN (l : List Nat) (x : Nat) : List Nat := List.rec [x] (fun h _ ih => h :: ih) l
noncomputable def rgN (k : Nat → Bool) (n : Nat) : Bool := Nat.rec true (fun r ih => cond (k r) ih false) n
noncomputable def treeN (n : Nat) : List Nat → List Nat → Nat → Nat → Nat → Nat → Nat → Bool :=
  Nat.rec (fun ts ps m _ bo _ t => lawN ts ps (txN bo m 10 t 0))
    (fun _ ih ts ps m b bo a t => cond (lawN ts ps (txN bo m 10 t 0))
      (rgN (fun d => cond (Nat.ble (Nat.add m (Nat.add m (Nat.succ d))) 10)
        (rgN (fun r => ih (snN ts (Nat.succ d)) (snN ps (Nat.add (Nat.pow 2 (Nat.succ d)) r)) (Nat.add m (Nat.succ d))
          bo (Nat.xor (tmN (Nat.add (Nat.pow 2 (Nat.succ d)) r) bo) b) t (Nat.xor (tmN (Nat.add (Nat.pow 2 (Nat.succ d)) r) t) a)) (Nat.pow 2 (Nat.succ d))) true) 3) false) n
end
end Mine
end
section
namespace Mine

theorem low_top : ∀ (xs : List Int) (l : Nat), (∀ x ∈ xs, 0 ≤ x ∧ x ≤ 1) → (xs.foldl (fun l v => 2 * l + v.toNat) l) / 2 ^ xs.length = l
  | [], l, _ => by simp
  | v :: r, l, h => by
    have ih := low_top r (2 * l + v.toNat) fun x hx => h x (List.mem_cons_of_mem _ hx)
    have hv := h v (List.mem_cons_self ..)
    rw [List.length_cons, Nat.pow_succ, ← Nat.div_div_eq_div_mul]
    show ((r.foldl (fun l v => 2 * l + v.toNat) (2 * l + v.toNat)) / 2 ^ r.length) / 2 = l
    rw [ih]; omega
theorem low_bit : ∀ (xs : List Int) (l i : Nat), (∀ x ∈ xs, 0 ≤ x ∧ x ≤ 1) → i < xs.length → xs.getD i 0 = (((xs.foldl (fun l v => 2 * l + v.toNat) l) / 2 ^ (xs.length - 1 - i) % 2 : Nat) : Int)
  | [], _, _, _, h => by simp at h
  | v :: r, l, i, h, hi => by
    have hr : ∀ x ∈ r, 0 ≤ x ∧ x ≤ 1 := fun x hx => h x (List.mem_cons_of_mem _ hx)
    have hv := h v (List.mem_cons_self ..)
    show _ = (((r.foldl (fun l v => 2 * l + v.toNat) (2 * l + v.toNat)) / 2 ^ (r.length + 1 - 1 - i) % 2 : Nat) : Int)
    cases i with
    | zero =>
      rw [show r.length + 1 - 1 - 0 = r.length by omega, low_top r _ hr]
      show v = _
      omega
    | succ i =>
      rw [show r.length + 1 - 1 - (i + 1) = r.length - 1 - i by omega]
      show r.getD i 0 = _
      exact low_bit r _ i hr (by simpa using hi)
theorem bit_low {X : List Int} (h10 : X.length = 10) (hb : bits01 X) {i : Nat} (hi : i < 10) : X.getD i 0 = ((lowL X / 2 ^ (9 - i) % 2 : Nat) : Int) := by
  have := low_bit X 0 i hb (by omega)
  rw [this, h10]; rfl

theorem mod_bit {W n m : Nat} (h : m < n) : W % 2 ^ n / 2 ^ m % 2 = W / 2 ^ m % 2 := by
  have e : W = W % 2 ^ n + 2 ^ m * (2 * (2 ^ (n - m - 1) * (W / 2 ^ n))) := by
    have h1 := (Nat.mod_add_div W (2 ^ n)).symm
    have h2 : 2 ^ n = 2 ^ m * (2 * 2 ^ (n - m - 1)) := by
      rw [← Nat.pow_succ', ← Nat.pow_add]; congr 1; omega
    calc W = W % 2 ^ n + 2 ^ n * (W / 2 ^ n) := h1
      _ = W % 2 ^ n + 2 ^ m * (2 * 2 ^ (n - m - 1)) * (W / 2 ^ n) := by rw [← h2]
      _ = _ := by rw [Nat.mul_assoc, Nat.mul_assoc]
  conv => rhs; rw [e]
  rw [Nat.add_mul_div_left _ _ (Nat.pow_pos (by decide))]
  omega
theorem sum_cast (f : Nat → Nat) : ∀ l : List Nat, (l.map fun k => ((f k : Nat) : Int)).sum = (((l.map f).sum : Nat) : Int)
  | [] => rfl
  | k :: l => by
    rw [List.map_cons, List.sum_cons, List.map_cons, List.sum_cons, sum_cast f l]; omega
theorem reach_ge (tp X : List Int) : ∀ m pl, pl ≤ reachL tp X m pl
  | 0, pl => Nat.le_refl _
  | m + 1, pl => by
    unfold reachL
    split
    · exact Nat.le_trans (Nat.le_succ _) (reach_ge tp X m (pl + 1))
    · exact Nat.le_refl _
theorem reach_iff (tp X : List Int) {n : Nat} (hn : n ≤ 10) : ∀ m pl, pl ≤ n → n ≤ pl + m → (n ≤ reachL tp X m pl ↔ ∀ q, pl ≤ q → q < n → dotL tp X q % 2 = X.getD q 0)
  | 0, pl, h1, h2 => ⟨fun _ q h3 h4 => by omega, fun _ => by show n ≤ pl; omega⟩
  | m + 1, pl, h1, h2 => by
    rcases Nat.lt_or_ge pl n with h | h
    · unfold reachL
      by_cases hc : pl < 10 ∧ dotL tp X pl % 2 = X.getD pl 0
      · rw [if_pos hc, reach_iff tp X hn m (pl + 1) h (by omega)]
        refine ⟨fun hh q h3 h4 => ?_, fun hh q h3 h4 => hh q (by omega) h4⟩
        rcases Nat.lt_or_ge pl q with h5 | h5
        · exact hh q h5 h4
        · obtain rfl : q = pl := by omega
          exact hc.2
      · rw [if_neg hc]
        refine ⟨fun hh => by omega, fun hh => ?_⟩
        exact absurd ⟨by omega, hh pl (Nat.le_refl _) h⟩ hc
    · exact ⟨fun _ q h3 h4 => by omega, fun _ => Nat.le_trans h (reach_ge tp X _ pl)⟩

noncomputable def regs (X : List Int) (s n : Nat) : List Nat := (List.range (2 ^ s)).filter fun t => decide (n ≤ reachL (tapsL s t) X 11 s)
theorem count_regs (X : List Int) (s n : Nat) : countL X s n = (regs X s n).length := by
  unfold countL reachesL regs
  rw [List.filter_map, List.length_map]
  congr 1
  refine List.filter_congr fun t _ => ?_
  show decide ((n : Int) ≤ ((reachL (tapsL s t) X 11 s : Nat) : Int)) = _
  rw [decide_eq_decide]; omega
theorem regs_start (X : List Int) (s : Nat) : regs X s s = List.range (2 ^ s) := by
  unfold regs
  rw [List.filter_eq_self]
  intro t _
  exact decide_eq_true (reach_ge ..)

/-- the taps and the bits ahead, told one by one -/
noncomputable def dpN (t W : Nat) (s : Nat) : Nat := Nat.rec 0 (fun k ih => Nat.add ih (Nat.land (Nat.land (Nat.shiftRight t k) (Nat.shiftRight W (Nat.succ k))) 1)) s
noncomputable def exOk (s all wm tab : Nat) : Bool := rgN (fun W => rgN (fun t => Nat.beq (Nat.land (Nat.shiftRight (exN s all wm tab W) t) 1) (Nat.land (Nat.succ (Nat.add (dpN t W s) W)) 1)) (Nat.pow 2 s)) (Nat.pow 2 (Nat.succ s))
theorem ex0 : exOk 0 1 1 tb0 = true := by decide +kernel
theorem ex1 : exOk 1 3 3 tb1 = true := by decide +kernel
theorem ex2 : exOk 2 15 7 tb2 = true := by decide +kernel
theorem ex3 : exOk 3 255 15 tb3 = true := by decide +kernel
theorem ex4 : exOk 4 65535 31 tb4 = true := by decide +kernel
theorem ex5 : exOk 5 4294967295 63 tb5 = true := by decide +kernel
theorem rg_all {k : Nat → Bool} : ∀ {n : Nat}, rgN k n = true → ∀ i < n, k i = true
  | 0, _, i, hi => by omega
  | n + 1, h, i, hi => by
    have h' : cond (k n) (rgN k n) false = true := h
    rw [Bool.cond_false_right, Bool.and_eq_true] at h'
    rcases Nat.lt_or_ge i n with h1 | h1
    · exact rg_all h'.2 i h1
    · obtain rfl : i = n := by omega
      exact h'.1
theorem land1 (x : Nat) : Nat.land x 1 = x % 2 := Nat.and_one_is_mod x
theorem shr (x k : Nat) : Nat.shiftRight x k = x / 2 ^ k := Nat.shiftRight_eq_div_pow x k
theorem and_mod2 (a b : Nat) : Nat.land a b % 2 = a % 2 * (b % 2) := by
  have h : Nat.land a b % 2 = a % 2 &&& b % 2 := by
    have := @Nat.and_mod_two_pow a b 1
    simpa using this
  rw [h]
  rcases Nat.mod_two_eq_zero_or_one a with p | p <;> rcases Nat.mod_two_eq_zero_or_one b with q | q <;> rw [p, q] <;> rfl
theorem dp_sum (t W : Nat) : ∀ s, dpN t W s = ((List.range s).map fun k => t / 2 ^ k % 2 * (W / 2 ^ (k + 1) % 2)).sum
  | 0 => rfl
  | s + 1 => by
    show Nat.add (dpN t W s) (Nat.land (Nat.land (Nat.shiftRight t s) (Nat.shiftRight W (Nat.succ s))) 1) = _
    rw [dp_sum t W s, land1, and_mod2, shr, shr, List.range_succ, List.map_append, List.sum_append]
    simp
structure ExOk (s all wm tab : Nat) : Prop where
  ex : exOk s all wm tab = true
  al : all = 2 ^ 2 ^ s - 1
  wm : wm = 2 ^ (s + 1) - 1
theorem ex_bit {s all wm tab : Nat} (h : ExOk s all wm tab) (W t : Nat) : (exN s all wm tab W).testBit t = (decide (t < 2 ^ s) && decide (((List.range s).map fun k => t / 2 ^ k % 2 * (W / 2 ^ (k + 1) % 2)).sum % 2 = W % 2)) := by
  have hw : ∀ V, Nat.land V wm = V % 2 ^ (s + 1) := fun V => by rw [h.wm]; exact Nat.and_two_pow_sub_one_eq_mod V (s + 1)
  have he : exN s all wm tab W = exN s all wm tab (W % 2 ^ (s + 1)) := by
    unfold exN
    rw [hw, hw, Nat.mod_mod]
  rcases Nat.lt_or_ge t (2 ^ s) with ht | ht
  · have h2 : ((List.range s).map fun k => t / 2 ^ k % 2 * (W / 2 ^ (k + 1) % 2)) = (List.range s).map fun k => t / 2 ^ k % 2 * (W % 2 ^ (s + 1) / 2 ^ (k + 1) % 2) := by
      refine List.map_congr_left fun k hk => ?_
      rw [mod_bit (by have := List.mem_range.mp hk; omega)]
    have h1 : W % 2 = W % 2 ^ (s + 1) % 2 := by
      have := mod_bit (W := W) (n := s + 1) (m := 0) (by omega)
      simpa using this.symm
    rw [he, h2, h1]
    have hlt : W % 2 ^ (s + 1) < 2 ^ (s + 1) := Nat.mod_lt _ (Nat.pow_pos (by decide))
    generalize W % 2 ^ (s + 1) = U at *
    have := rg_all (rg_all h.ex U hlt) t ht
    have := Nat.eq_of_beq_eq_true this
    rw [land1, land1, shr, dp_sum] at this
    generalize ((List.range s).map fun k => t / 2 ^ k % 2 * (U / 2 ^ (k + 1) % 2)).sum = a at *
    rw [Nat.testBit_eq_decide_div_mod_eq, this, decide_eq_true ht, Bool.true_and, decide_eq_decide]
    show (a + U + 1) % 2 = 1 ↔ _
    omega
  · rw [decide_eq_false (by omega), Bool.false_and]
    refine Nat.testBit_lt_two_pow ?_
    refine Nat.lt_of_lt_of_le (m := 2 ^ 2 ^ s) ?_ (Nat.pow_le_pow_right (by decide) ht)
    have : exN s all wm tab W ≤ all := Nat.and_le_right
    have := Nat.pow_pos (n := 2 ^ s) (show 0 < 2 by decide)
    have := h.al
    omega
end Mine
end
section
namespace Mine

theorem bit_dot {X : List Int} (h10 : X.length = 10) (hb : bits01 X) {s t pl : Nat} (h1 : s ≤ pl) (h2 : pl < 10) :
    (((List.range s).map fun k => t / 2 ^ k % 2 * (Nat.shiftRight (lowL X) (9 - pl) / 2 ^ (k + 1) % 2)).sum % 2 = Nat.shiftRight (lowL X) (9 - pl) % 2) ↔ dotL (tapsL s t) X pl % 2 = X.getD pl 0 := by
  rw [shr, bit_low h10 hb h2]
  have hl : (tapsL s t).length = s := by simp [tapsL]
  have hd : dotL (tapsL s t) X pl = ((((List.range s).map fun k => t / 2 ^ k % 2 * (lowL X / 2 ^ (9 - pl) / 2 ^ (k + 1) % 2)).sum : Nat) : Int) := by
    unfold dotL
    rw [hl, ← sum_cast]
    congr 1
    refine List.map_congr_left fun k hk => ?_
    have hk' := List.mem_range.mp hk
    rw [bit_low h10 hb (by omega : pl - 1 - k < 10), Nat.div_div_eq_div_mul, ← Nat.pow_add, show 9 - pl + (k + 1) = 9 - (pl - 1 - k) by omega]
    have : (tapsL s t).getD k 0 = ((t / 2 ^ k % 2 : Nat) : Int) := by
      rw [List.getD, List.getElem?_eq_getElem (by omega)]; simp [tapsL]
    rw [this]; simp
  rw [hd]
  generalize ((List.range s).map fun k => t / 2 ^ k % 2 * (lowL X / 2 ^ (9 - pl) / 2 ^ (k + 1) % 2)).sum = a
  generalize lowL X / 2 ^ (9 - pl) = b
  omega
/-- the registers of `s` places that say the first `n` bits, as bits of a number -/
noncomputable def Msk (X : List Int) (s n S : Nat) : Prop := ∀ t, S.testBit t = (decide (t < 2 ^ s) && decide (n ≤ reachL (tapsL s t) X 11 s))
theorem msk_start (X : List Int) (s : Nat) : Msk X s s (2 ^ 2 ^ s - 1) := by
  intro t
  rw [Nat.testBit_two_pow_sub_one, decide_eq_true (reach_ge _ X 11 s), Bool.and_true]
theorem msk_step {X : List Int} (h10 : X.length = 10) (hb : bits01 X) {s n S all wm tab : Nat} (he : ExOk s all wm tab) (h1 : s ≤ n) (h2 : n < 10) (h : Msk X s n S) :
    Msk X s (n + 1) (Nat.land S (exN s all wm tab (Nat.shiftRight (lowL X) (9 - n)))) := by
  intro t
  show (S &&& exN s all wm tab (Nat.shiftRight (lowL X) (9 - n))).testBit t = _
  rw [Nat.testBit_and, h t, ex_bit he, Bool.eq_iff_iff]
  simp only [Bool.and_eq_true, decide_eq_true_eq]
  rw [bit_dot h10 hb h1 h2, reach_iff _ X (n := n) (by omega) 11 s h1 (by omega), reach_iff _ X (n := n + 1) (by omega) 11 s (by omega) (by omega)]
  constructor
  · rintro ⟨⟨ht, ha⟩, _, hb⟩
    refine ⟨ht, fun q h3 h4 => ?_⟩
    rcases Nat.lt_or_ge q n with h5 | h5
    · exact ha q h3 h5
    · obtain rfl : q = n := by omega
      exact hb
  · rintro ⟨ht, hh⟩
    exact ⟨⟨ht, fun q h3 h4 => hh q h3 (by omega)⟩, ht, hh n h1 (by omega)⟩
theorem P8_ok : ∀ x < 256, Nat.land (Nat.shiftRight P8 (Nat.mul 4 x)) 15 = ((List.range 8).filter fun t => x.testBit t).length := by decide +kernel
theorem pop_ok : ∀ (j S : Nat), popN j S = ((List.range (8 * j)).filter fun t => S.testBit t).length
  | 0, _ => rfl
  | j + 1, S => by
    show Nat.add (Nat.land (Nat.shiftRight P8 (Nat.mul 4 (Nat.land S 255))) 15) (popN j (Nat.shiftRight S 8)) = _
    have hl : Nat.land S 255 = S % 2 ^ 8 := Nat.and_two_pow_sub_one_eq_mod S 8
    rw [hl, P8_ok _ (Nat.mod_lt _ (by decide)), pop_ok j, show 8 * (j + 1) = 8 + 8 * j by omega, List.range_add, List.filter_append, List.length_append, List.filter_map, List.length_map]
    refine congr (congrArg Nat.add ?_) ?_
    · congr 1
      refine List.filter_congr fun t ht => ?_
      show (S % 2 ^ 8).testBit t = _
      rw [Nat.testBit_mod_two_pow, decide_eq_true (List.mem_range.mp ht), Bool.true_and]
    · congr 1
      refine List.filter_congr fun t _ => ?_
      exact Nat.testBit_shiftRight ..
theorem pop_regs {X : List Int} {s n S j : Nat} (h : Msk X s n S) (hj : 2 ^ s ≤ 8 * j) : popN j S = countL X s n := by
  rw [count_regs, pop_ok, show 8 * j = 2 ^ s + (8 * j - 2 ^ s) by omega, List.range_add, List.filter_append, List.length_append]
  have h1 : (List.range (2 ^ s)).filter (fun t => S.testBit t) = regs X s n := by
    unfold regs
    refine List.filter_congr fun t ht => ?_
    rw [h t, decide_eq_true (List.mem_range.mp ht), Bool.true_and]
  have h2 : (((List.range (8 * j - 2 ^ s)).map fun i => 2 ^ s + i).filter fun t => S.testBit t) = [] := by
    rw [List.filter_eq_nil_iff]
    intro t ht
    obtain ⟨i, _, rfl⟩ := List.mem_map.mp ht
    rw [h, decide_eq_false (by omega)]; simp
  rw [h1, h2]; rfl
/-- `m` is the last mark not above `s`, `nx` the next one -/
structure DueOk (M : List Int) (s m nx : Nat) : Prop where
  mark : markL M s = m
  le : m ≤ s
  later : (laterL M s = [] ∧ nx = 99) ∨ (laterL M s ≠ [] ∧ (laterL M s).headD 0 = nx)
theorem single_pow (d : Nat) : single (2 ^ d) = true := by
  unfold single
  have hp : 0 < 2 ^ d := Nat.pow_pos (by decide)
  have : 2 ^ d &&& (2 ^ d - 1) = 0 := by rw [Nat.and_two_pow_sub_one_eq_mod, Nat.mod_self]
  rw [this]
  simp
theorem bits_pow (d : Nat) : bits (2 ^ d) = d + 1 := by
  unfold bits
  rw [if_neg (by have : 0 < 2 ^ d := Nat.pow_pos (by decide); omega), Nat.log2_two_pow]
theorem chk_due {X M : List Int} {s m nx n : Nat} (h : DueOk M s m nx) (hn : n < 11) (hc : countL X s n = dueN m nx s n) : chk X M s n = true := by
  unfold chk
  rw [hc]
  unfold dueN
  have hle := h.le
  cases hb : Nat.ble (Nat.add m nx) n with
  | true =>
    have hb' : m + nx ≤ n := Nat.le_of_ble_eq_true hb
    rcases h.later with ⟨h1, h2⟩ | ⟨h1, h2⟩
    · omega
    · have : dueL M s n = -1 := by
        unfold dueL
        rw [if_pos ⟨h1, by rw [h.mark, h2]; omega⟩]
      rw [this]; rfl
  | false =>
    have hb' : ¬ m + nx ≤ n := fun q => by
      have := (Nat.ble_eq_true_of_le (n := Nat.add m nx) (m := n) q).symm.trans hb
      cases this
    have : dueL M s n = ((s - m + (m + s - n) : Nat) : Int) := by
      unfold dueL
      rw [if_neg]
      · unfold due0
        rw [h.mark]
        split <;> omega
      · rintro ⟨h1, h2⟩
        rcases h.later with ⟨h3, _⟩ | ⟨_, h3⟩
        · exact h1 h3
        · rw [h.mark, h3] at h2; omega
    rw [this]
    show (decide ((bits (2 ^ (s - m + (m + s - n))) : Int) - 1 = _) && (single (2 ^ (s - m + (m + s - n))) == _)) = true
    rw [bits_pow, single_pow, decide_eq_true (by omega), decide_eq_true (by omega)]; rfl
theorem chN_ok {X M : List Int} (h10 : X.length = 10) (hb : bits01 X) {s j all wm tab m nx : Nat} (he : ExOk s all wm tab) (hj : 2 ^ s ≤ 8 * j) (hd : DueOk M s m nx) :
    ∀ f S, f ≤ 10 - s → s ≤ 10 → Msk X s (10 - f) S → chN s j all wm tab m nx (lowL X) f S = true → ∀ n, 10 - f ≤ n → n < 11 → chk X M s n = true
  | 0, S, _, _, hm, h, n, h1, h2 => by
    obtain rfl : n = 10 := by omega
    refine chk_due hd h2 ?_
    rw [← pop_regs hm hj]
    exact Nat.eq_of_beq_eq_true h
  | f + 1, S, hf, hs, hm, h, n, h1, h2 => by
    have h' : cond (Nat.beq (popN j S) (dueN m nx s (Nat.sub 9 f))) (chN s j all wm tab m nx (lowL X) f (Nat.land S (exN s all wm tab (Nat.shiftRight (lowL X) f)))) false = true := h
    rw [Bool.cond_false_right, Bool.and_eq_true] at h'
    obtain ⟨ha, hc⟩ := h'
    rcases Nat.lt_or_ge (10 - (f + 1)) n with h3 | h3
    · refine chN_ok h10 hb he hj hd f _ (by omega) hs ?_ hc n (by omega) h2
      have := msk_step h10 hb he (n := 10 - (f + 1)) (by omega) (by omega) hm
      rw [show 9 - (10 - (f + 1)) = f by omega, show 10 - (f + 1) + 1 = 10 - f by omega] at this
      exact this
    · obtain rfl : n = 10 - (f + 1) := by omega
      refine chk_due hd h2 ?_
      rw [← pop_regs hm hj, show 10 - (f + 1) = 9 - f by omega]
      exact Nat.eq_of_beq_eq_true ha
end Mine
end
section
namespace Mine

theorem maxL_ge {xs : List Int} {x : Int} (h : x ∈ xs) : x ≤ maxL xs := by
  cases xs with
  | nil => cases h
  | cons y r =>
    obtain ⟨h1, h2, _⟩ := maxF_ge r y
    rcases List.mem_cons.mp h with rfl | h
    · exact h1
    · exact h2 x h
theorem maxL_mem {xs : List Int} (h : xs ≠ []) : maxL xs ∈ xs := by
  cases xs with
  | nil => exact absurd rfl h
  | cons y r =>
    obtain ⟨_, _, h3⟩ := maxF_ge r y
    rcases h3 with h3 | h3
    · exact List.mem_cons.mpr (.inl h3)
    · exact List.mem_cons.mpr (.inr h3)
theorem maxL_cons {x : Int} {xs : List Int} (h : xs ≠ []) (hx : ∀ y ∈ xs, x ≤ y) : maxL (x :: xs) = maxL xs := by
  have h1 : maxL xs ≤ maxL (x :: xs) := maxL_ge (List.mem_cons_of_mem _ (maxL_mem h))
  have h2 : maxL (x :: xs) ≤ maxL xs := by
    rcases List.mem_cons.mp (maxL_mem (xs := x :: xs) nofun) with h3 | h3
    · rw [h3]; exact hx _ (maxL_mem h)
    · exact maxL_ge h3
  omega
/-- the marks from `a` on -/
noncomputable def mkF : Nat → List Nat → List Int
  | a, [] => [(a : Int)]
  | a, t :: us => (a : Int) :: mkF (a + t) us
theorem mkF_ge : ∀ (ts : List Nat) (a : Nat), ∀ x ∈ mkF a ts, (a : Int) ≤ x
  | [], a, x, h => by
    rcases List.mem_cons.mp h with rfl | h
    · exact Int.le_refl _
    · cases h
  | t :: us, a, x, h => by
    rcases List.mem_cons.mp h with rfl | h
    · exact Int.le_refl _
    · have := mkF_ge us (a + t) x h
      omega
theorem mkF_head (ts : List Nat) (a : Nat) : mkF a ts ≠ [] ∧ (mkF a ts).headD 0 = a ∧ (a : Int) ∈ mkF a ts := by
  cases ts <;> exact ⟨nofun, rfl, List.mem_cons_self ..⟩
theorem mkF_marks : ∀ (ts : List Nat) (a : Nat), ((List.range ((cI ts).length + 1)).map fun k : Nat => (a : Int) + ((cI ts).take k).sum) = mkF a ts
  | [], a => by simp [mkF]
  | t :: us, a => by
    have ih := mkF_marks us (a + t)
    show _ = (a : Int) :: mkF (a + t) us
    rw [← ih, show (cI (t :: us)).length + 1 = ((cI us).length + 1) + 1 from rfl, List.range_succ_eq_map, List.map_cons, List.map_map]
    refine congr (congrArg List.cons (by show (a : Int) + 0 = a; omega)) (List.map_congr_left fun k _ => ?_)
    show (a : Int) + (((t : Int) :: cI us).take (k + 1)).sum = _
    rw [List.take_succ_cons, List.sum_cons]; omega
theorem marks_eq (ts : List Nat) : marksL (cI ts) = mkF 0 ts := by
  rw [← mkF_marks]
  unfold marksL
  refine List.map_congr_left fun k _ => ?_
  omega
theorem sp_ok {k : Nat → Nat → Bool} {s : Nat} : ∀ (ts : List Nat) (a : Nat), a ≤ s → (∀ t ∈ ts, 1 ≤ t) → spN k s ts a = true → ∃ m nx, k m nx = true ∧ DueOk (mkF a ts) s m nx
  | [], a, ha, _, h => by
    refine ⟨a, 99, h, ?_, ha, .inl ⟨?_, rfl⟩⟩
    · show maxL ([(a : Int)].filter _) = _
      rw [List.filter_cons_of_pos (by simp; omega)]; rfl
    · show [(a : Int)].filter _ = _
      rw [List.filter_cons_of_neg (by simp; omega)]; rfl
  | t :: us, a, ha, ht, h => by
    have h' : cond (Nat.ble (Nat.add a t) s) (spN k s us (Nat.add a t)) (k a (Nat.add a t)) = true := h
    have ht1 := ht t (List.mem_cons_self ..)
    obtain ⟨g1, g2, g3⟩ := mkF_head us (a + t)
    have g4 := mkF_ge us (a + t)
    cases hb : Nat.ble (Nat.add a t) s with
    | true =>
      have hb' : a + t ≤ s := Nat.le_of_ble_eq_true hb
      rw [hb] at h'
      obtain ⟨m, nx, hk, hd⟩ := sp_ok us (a + t) hb' (fun t' h => ht t' (List.mem_cons_of_mem _ h)) h'
      refine ⟨m, nx, hk, ?_, hd.le, ?_⟩
      · rw [← hd.mark]
        show maxL (((a : Int) :: mkF (a + t) us).filter _) = maxL ((mkF (a + t) us).filter _)
        rw [List.filter_cons_of_pos (by simp; omega)]
        refine maxL_cons (fun q => ?_) fun y hy => ?_
        · have : ((a + t : Nat) : Int) ∈ (mkF (a + t) us).filter fun o => decide (o ≤ (s : Int)) := List.mem_filter.mpr ⟨g3, by simp; omega⟩
          rw [q] at this; cases this
        · have := g4 y (List.mem_filter.mp hy).1
          omega
      · have : laterL ((a : Int) :: mkF (a + t) us) s = laterL (mkF (a + t) us) s := by
          unfold laterL
          rw [List.filter_cons_of_neg (by simp; omega)]
        show (laterL ((a : Int) :: mkF (a + t) us) s = [] ∧ _) ∨ (laterL ((a : Int) :: mkF (a + t) us) s ≠ [] ∧ (laterL ((a : Int) :: mkF (a + t) us) s).headD 0 = _)
        rw [this]
        exact hd.later
    | false =>
      have hb' : ¬ a + t ≤ s := fun q => by
        have := (Nat.ble_eq_true_of_le (n := Nat.add a t) (m := s) q).symm.trans hb
        cases this
      rw [hb] at h'
      have e1 : (mkF (a + t) us).filter (fun o => decide (o ≤ (s : Int))) = [] := List.filter_eq_nil_iff.mpr fun x hx => by
        have := g4 x hx
        simp; omega
      have e2 : laterL ((a : Int) :: mkF (a + t) us) s = mkF (a + t) us := by
        unfold laterL
        rw [List.filter_cons_of_neg (by simp; omega), List.filter_eq_self]
        intro x hx
        have := g4 x hx
        simp; omega
      refine ⟨a, a + t, h', ?_, ha, .inr ⟨?_, ?_⟩⟩
      · show maxL (((a : Int) :: mkF (a + t) us).filter _) = _
        rw [List.filter_cons_of_pos (by simp; omega), e1]; rfl
      · show laterL ((a : Int) :: mkF (a + t) us) s ≠ []
        rw [e2]; exact g1
      · show (laterL ((a : Int) :: mkF (a + t) us) s).headD 0 = _
        rw [e2]; exact g2
theorem reg_one {X : List Int} (h10 : X.length = 10) (hb : bits01 X) {ts : List Nat} (ht : ∀ t ∈ ts, 1 ≤ t) {s j all wm tab f : Nat} (he : ExOk s all wm tab) (hj : 2 ^ s ≤ 8 * j) (hf : f = 10 - s) (hs : s ≤ 10)
    (h : spN (fun m nx => chN s j all wm tab m nx (lowL X) f all) s ts 0 = true) (n : Nat) (h1 : s ≤ n) (h2 : n < 11) : chk X (marksL (cI ts)) s n = true := by
  obtain ⟨m, nx, hk, hd⟩ := sp_ok ts 0 (Nat.zero_le _) ht h
  rw [marks_eq]
  subst hf
  refine chN_ok h10 hb he hj hd (10 - s) all (Nat.le_refl _) hs ?_ hk n (by omega) h2
  rw [show 10 - (10 - s) = s by omega, he.al]
  exact msk_start X s
theorem reg_ok {X : List Int} (h10 : X.length = 10) (hb : bits01 X) {ts : List Nat} (ht : ∀ t ∈ ts, 1 ≤ t) (h : regN ts (lowL X) = true) : ∀ s n : Nat, s < 6 → s ≤ n → n < 11 → chk X (marksL (cI ts)) s n = true := by
  unfold regN at h
  simp only [Bool.cond_false_right, Bool.and_eq_true] at h
  obtain ⟨h0, h1, h2, h3, h4, h5⟩ := h
  intro s n hs
  have : s = 0 ∨ s = 1 ∨ s = 2 ∨ s = 3 ∨ s = 4 ∨ s = 5 := by omega
  rcases this with rfl | rfl | rfl | rfl | rfl | rfl
  · exact reg_one h10 hb ht ⟨ex0, rfl, rfl⟩ (by decide) rfl (by decide) h0 n
  · exact reg_one h10 hb ht ⟨ex1, rfl, rfl⟩ (by decide) rfl (by decide) h1 n
  · exact reg_one h10 hb ht ⟨ex2, rfl, rfl⟩ (by decide) rfl (by decide) h2 n
  · exact reg_one h10 hb ht ⟨ex3, rfl, rfl⟩ (by decide) rfl (by decide) h3 n
  · exact reg_one h10 hb ht ⟨ex4, rfl, rfl⟩ (by decide) rfl (by decide) h4 n
  · exact reg_one h10 hb ht ⟨ex5, rfl, rfl⟩ (by decide) rfl (by decide) h5 n
end Mine
end
section
namespace Mine

theorem low_snoc (out : List Int) (b : Nat) : lowL (out ++ [(b : Int)]) = 2 * lowL out + b := by
  unfold lowL
  rw [List.foldl_append]; rfl
theorem bitN_eq (deg top : Nat) : bitN deg top = 2 * top / 2 ^ deg % 2 := by
  unfold bitN
  rw [land1, shr, show Nat.add top top = 2 * top from (Nat.two_mul top).symm]
theorem tx_ok (bo deg : Nat) : ∀ (l : List Int) (top : Nat) (out : List Int) (bit : PV), lowL ((l.foldl (tsStep bo deg) ⟨top, out, bit⟩).out) = txN bo deg l.length top (lowL out)
  | [], _, _, _ => rfl
  | v :: l, top, out, bit => by
    have ih := tx_ok bo deg l (2 * top ^^^ 2 * top / 2 ^ deg % 2 * bo) (out ++ [((2 * top / 2 ^ deg % 2 : Nat) : Int)]) (.int ((2 * top / 2 ^ deg % 2 : Nat) : Int))
    rw [low_snoc] at ih
    refine ih.trans ?_
    show _ = txN bo deg l.length (Nat.xor (Nat.add top top) (Nat.mul (bitN deg top) bo)) (Nat.add (Nat.add (lowL out) (lowL out)) (bitN deg top))
    rw [bitN_eq, show Nat.add top top = 2 * top from (Nat.two_mul top).symm, show Nat.add (lowL out) (lowL out) = 2 * lowL out from (Nat.two_mul _).symm]; rfl
theorem text_low (P : List Int) (deg : Nat) : lowL (textL P deg) = txN (cf P).bo deg 10 (cf P).t 0 := by
  unfold textL
  rw [tx_ok]; rfl
theorem bN_eq (n : Nat) : bN n = bits n := by
  unfold bN bits
  by_cases h : n = 0
  · subst h; rfl
  · rw [if_neg h, show Nat.add n n = 2 * n from (Nat.two_mul n).symm, Nat.log2_two_mul h]
theorem dv_step (lo : Nat) (k : Nat → Nat → Bool) (f : Nat) (x : Nat × Nat) : dvN lo k (f + 1) x.1 x.2 = dvN lo k f (divStep lo x (f : Int)).1 (divStep lo x (f : Int)).2 := by
  show cond (Nat.beq (bN x.2) (Nat.add (bN lo) f)) (dvN lo k f (Nat.add x.1 (Nat.pow 2 f)) (Nat.xor x.2 (Nat.mul lo (Nat.pow 2 f)))) (dvN lo k f x.1 x.2) = _
  unfold divStep
  rw [bN_eq, bN_eq, Int.toNat_natCast]
  by_cases h : bits x.2 = bits lo + f
  · have : Nat.beq (bits x.2) (Nat.add (bits lo) f) = true := by rw [h]; exact Nat.beq_refl _
    rw [if_pos h, this]; rfl
  · rw [if_neg h]
    have : Nat.beq (bits x.2) (Nat.add (bits lo) f) = false := by
      cases hb : Nat.beq (bits x.2) (Nat.add (bits lo) f) with
      | false => rfl
      | true => exact absurd (Nat.eq_of_beq_eq_true hb) h
    rw [this]; rfl
noncomputable def down : Nat → List Int
  | 0 => []
  | n + 1 => (n : Int) :: down n
theorem dv_fold (lo : Nat) (k : Nat → Nat → Bool) : ∀ (n : Nat) (x : Nat × Nat), dvN lo k n x.1 x.2 = k ((down n).foldl (divStep lo) x).1 ((down n).foldl (divStep lo) x).2
  | 0, _ => rfl
  | n + 1, x => by rw [dv_step, dv_fold lo k n]; rfl
theorem dv_ok (lo up : Nat) (k : Nat → Nat → Bool) : dvN lo k 11 0 up = k (divQ up lo).1 (divQ up lo).2 := by
  have e : divI = down 11 := by decide
  unfold divQ
  rw [e]
  exact dv_fold lo k 11 (0, up)
noncomputable def RelQ : Nat → List Nat → List Nat → List Nat → Prop
  | _, [], [], [] => True
  | m, t :: ts, p :: ps, q :: qs => (if (m + t) + (m + t) ≤ 10 then q = p else bits q = t + 1) ∧ RelQ (m + t) ts ps qs
  | _, _, _, _ => False
theorem qfold_app : ∀ (l : List Int) (s : QS), ∃ rest, (l.foldl qStep s).qs = s.qs ++ rest
  | [], s => ⟨[], by simp⟩
  | v :: l, s => by
    obtain ⟨rest, h⟩ := qfold_app l (qStep s v)
    rw [List.foldl_cons, h]
    unfold qStep
    split
    · exact ⟨_ :: rest, by simp only [List.append_assoc, List.singleton_append]; rfl⟩
    · exact ⟨rest, rfl⟩
theorem qu_ok : ∀ (ts ps : List Nat) (m up lo : Nat) (l : List Int) (qs : List Int) (x y : PV), ts.length = ps.length → ts.length ≤ l.length → quN ts ps m up lo = true →
    ∃ rs rest, (l.foldl qStep ⟨lo, up, qs, x, y⟩).qs = qs ++ (cI rs ++ rest) ∧ RelQ m ts ps rs
  | [], [], _, up, lo, l, qs, x, y, _, _, _ => by
    obtain ⟨rest, h⟩ := qfold_app l ⟨lo, up, qs, x, y⟩
    exact ⟨[], rest, h, trivial⟩
  | t :: ts, p :: ps, m, up, lo, [], qs, x, y, _, h2, _ => by simp at h2
  | t :: ts, p :: ps, m, up, lo, v :: l, qs, x, y, h1, h2, h => by
    have h' : cond (Nat.ble 1 lo) (dvN lo (fun q r => cond (cond (Nat.ble (Nat.add (Nat.add m t) (Nat.add m t)) 10) (Nat.beq q p) (Nat.beq (bN q) (Nat.succ t))) (quN ts ps (Nat.add m t) lo r) false) 11 0 up) false = true := h
    rw [Bool.cond_false_right, Bool.and_eq_true, dv_ok, Bool.cond_false_right, Bool.and_eq_true] at h'
    obtain ⟨hl, hq, hr⟩ := h'
    obtain ⟨rs, rest, he, hR⟩ := qu_ok ts ps (m + t) lo (divQ up lo).2 l (qs ++ [((divQ up lo).1 : Int)]) (.int ((divQ up lo).1 : Int)) (.int 0) (by simpa using h1) (by simpa using h2) hr
    refine ⟨(divQ up lo).1 :: rs, rest, ?_, ?_, hR⟩
    · rw [List.foldl_cons]
      have : qStep ⟨lo, up, qs, x, y⟩ v = ⟨(divQ up lo).2, lo, qs ++ [((divQ up lo).1 : Int)], .int ((divQ up lo).1 : Int), .int 0⟩ := by
        unfold qStep
        exact if_pos (Nat.le_of_ble_eq_true hl)
      rw [this, he, List.append_assoc]; rfl
    · show if m + t + (m + t) ≤ 10 then (divQ up lo).1 = p else bits (divQ up lo).1 = t + 1
      clear he hR hr h
      generalize (divQ up lo).1 = q at *
      cases hb : Nat.ble (Nat.add (Nat.add m t) (Nat.add m t)) 10 with
      | true =>
        rw [hb, cond_true] at hq
        have hb' : m + t + (m + t) ≤ 10 := Nat.le_of_ble_eq_true hb
        rw [if_pos hb']
        exact Nat.eq_of_beq_eq_true hq
      | false =>
        rw [hb, cond_false] at hq
        have hb' : ¬ m + t + (m + t) ≤ 10 := fun q => by
          have := (Nat.ble_eq_true_of_le (n := Nat.add (Nat.add m t) (Nat.add m t)) (m := 10) q).symm.trans hb
          exact Bool.noConfusion this
        rw [if_neg hb', ← bN_eq]
        exact Nat.eq_of_beq_eq_true hq
theorem RelQ.at : ∀ {ts ps qs : List Nat} {m : Nat}, RelQ m ts ps qs → ∀ k, k < ts.length → 2 * (m + (ts.take (k + 1)).sum) ≤ 10 → qs[k]? = ps[k]?
  | [], _, _, _, _, _, h, _ => by simp at h
  | t :: ts, p :: ps, q :: qs, m, h, 0, _, hm => by
    have := h.1
    rw [if_pos (by simp at hm; omega)] at this
    rw [this]; rfl
  | t :: ts, p :: ps, q :: qs, m, h, k + 1, hk, hm => by
    have := RelQ.at h.2 k (by simpa using hk) (by rw [List.take_succ_cons, List.sum_cons] at hm; omega)
    simpa using this
theorem bits_part {t p : Nat} (h : PartOk t p) : bits p = t + 1 := by
  obtain ⟨h1, h2, h3, h4⟩ := h
  unfold bits
  have hp : 0 < 2 ^ t := Nat.pow_pos (by decide)
  rw [if_neg (by omega), (Nat.log2_eq_iff (by omega)).mpr ⟨h3, h4⟩]
theorem RelQ.bits : ∀ {ts ps qs : List Nat} {m : Nat}, RelQ m ts ps qs → RelL ts ps → (cI qs).map (fun q => (Mine.bits q.toNat : Int) - 1) = cI ts
  | [], [], [], _, _, _ => rfl
  | t :: ts, p :: ps, q :: qs, m, h, hr => by
    have ih := RelQ.bits h.2 hr.2
    have hb : Mine.bits q = t + 1 := by
      have := h.1
      split at this
      · rw [this]; exact bits_part hr.1
      · exact this
    show ((Mine.bits q : Int) - 1) :: (cI qs).map _ = (t : Int) :: cI ts
    rw [ih, hb]
    refine congr (congrArg List.cons ?_) rfl
    omega
theorem RelQ.len : ∀ {ts ps qs : List Nat} {m : Nat}, RelQ m ts ps qs → qs.length = ts.length
  | [], [], [], _, _ => rfl
  | _ :: _, _ :: _, _ :: _, _, h => by simp [h.2.len]
end Mine
end
section
namespace Mine

noncomputable def Fits : Nat → List Nat → Prop
  | _, [] => True
  | m, t :: us => m + (m + t) ≤ 10 ∧ Fits (m + t) us
theorem fits_len : ∀ (us : List Nat) (m : Nat), 1 ≤ m → (∀ t ∈ us, 1 ≤ t) → Fits m us → us.length ≤ 5 - m
  | [], _, _, _, _ => Nat.zero_le _
  | t :: us, m, hm, h, hf => by
    have ht := h t (List.mem_cons_self ..)
    have ih := fits_len us (m + t) (by omega) (fun t' h' => h t' (List.mem_cons_of_mem _ h')) hf.2
    have := hf.1
    rw [List.length_cons]; omega
theorem rel_pos : ∀ {us qs : List Nat}, RelL us qs → ∀ t ∈ us, 1 ≤ t ∧ t ≤ 3
  | [], [], _, t, ht => by cases ht
  | _ :: _, _ :: _, h, t, ht => by
    rcases List.mem_cons.mp ht with rfl | ht
    · exact ⟨h.1.1, h.1.2.1⟩
    · exact rel_pos h.2 t ht

theorem land_bit : ∀ p < 16, Nat.land p 1 = (if p / 1 % 2 = 1 then 1 else 0) ∧ Nat.land p 2 = (if p / 2 % 2 = 1 then 2 else 0) ∧ Nat.land p 4 = (if p / 4 % 2 = 1 then 4 else 0) ∧ Nat.land p 8 = (if p / 8 % 2 = 1 then 8 else 0) := by decide +kernel
theorem mul_if (w c : Nat) (P : Prop) [Decidable P] : Nat.mul w (if P then c else 0) = if P then w * c else 0 := by
  split
  · rfl
  · exact Nat.mul_zero w
theorem tm_ok {p : Nat} (hp : p < 16) (w : Nat) : tmN p w = times p w := by
  show _ = tstep p w (tstep p w (tstep p w (tstep p w 0 0) 1) 2) 3
  obtain ⟨h1, h2, h3, h4⟩ := land_bit p hp
  unfold tmN tstep
  rw [h1, h2, h3, h4, mul_if, mul_if, mul_if, mul_if]
  show ((if p / 1 % 2 = 1 then w * 1 else 0) ^^^ (if p / 2 % 2 = 1 then w * 2 else 0)) ^^^ ((if p / 4 % 2 = 1 then w * 4 else 0) ^^^ (if p / 8 % 2 = 1 then w * 8 else 0)) = (if p / 8 % 2 = 1 then (if p / 4 % 2 = 1 then (if p / 2 % 2 = 1 then (if p / 1 % 2 = 1 then 0 ^^^ w * 1 else 0) ^^^ w * 2 else (if p / 1 % 2 = 1 then 0 ^^^ w * 1 else 0)) ^^^ w * 4 else (if p / 2 % 2 = 1 then (if p / 1 % 2 = 1 then 0 ^^^ w * 1 else 0) ^^^ w * 2 else (if p / 1 % 2 = 1 then 0 ^^^ w * 1 else 0))) ^^^ w * 8 else (if p / 4 % 2 = 1 then (if p / 2 % 2 = 1 then (if p / 1 % 2 = 1 then 0 ^^^ w * 1 else 0) ^^^ w * 2 else (if p / 1 % 2 = 1 then 0 ^^^ w * 1 else 0)) ^^^ w * 4 else (if p / 2 % 2 = 1 then (if p / 1 % 2 = 1 then 0 ^^^ w * 1 else 0) ^^^ w * 2 else (if p / 1 % 2 = 1 then 0 ^^^ w * 1 else 0))))
  generalize w * 1 = a
  generalize w * 2 = b
  generalize w * 4 = c
  generalize w * 8 = d
  split <;> split <;> split <;> split <;> simp [Nat.xor_assoc]
theorem sn_ok (l : List Nat) (x : Nat) : snN l x = l ++ [x] := by
  induction l with
  | nil => rfl
  | cons h l ih => exact congrArg (List.cons h) ih
theorem cf_snoc (ps : List Nat) (p : Nat) : cf (cI (ps ++ [p])) = cfStep (cf (cI ps)) (p : Int) := by
  unfold cf cI
  rw [List.map_append, List.foldl_append]; rfl
theorem node_ok {ts ps : List Nat} {m : Nat} {c : CF} (hm : m = ts.sum) (hc : cf (cI ps) = c) (h : lawN ts ps (txN c.bo m 10 c.t 0) = true) : lawN ts ps (lowL (textL (cI ps) ts.sum)) = true := by
  rw [text_low, hc, ← hm]; exact h
theorem tree_ok : ∀ (us qs : List Nat) (n : Nat) (ts ps : List Nat) (m : Nat) (c : CF), m = ts.sum → cf (cI ps) = c → RelL us qs → us.length ≤ n → Fits m us → treeN n ts ps m c.b c.bo c.a c.t = true →
    lawN (ts ++ us) (ps ++ qs) (lowL (textL (cI (ps ++ qs)) (ts ++ us).sum)) = true
  | [], [], n, ts, ps, m, c, hm, hc, _, _, _, h => by
    rw [List.append_nil, List.append_nil]
    refine node_ok hm hc ?_
    cases n with
    | zero => exact h
    | succ n =>
      have h' : cond (lawN ts ps (txN c.bo m 10 c.t 0)) _ false = true := h
      rw [Bool.cond_false_right, Bool.and_eq_true] at h'
      exact h'.1
  | t :: us, p :: qs, n, ts, ps, m, c, hm, hc, hr, hn, hf, h => by
    cases n with
    | zero => simp at hn
    | succ n =>
      have h' : cond (lawN ts ps (txN c.bo m 10 c.t 0))
          (rgN (fun d => cond (Nat.ble (Nat.add m (Nat.add m (Nat.succ d))) 10)
            (rgN (fun r => treeN n (snN ts (Nat.succ d)) (snN ps (Nat.add (Nat.pow 2 (Nat.succ d)) r)) (Nat.add m (Nat.succ d))
              c.bo (Nat.xor (tmN (Nat.add (Nat.pow 2 (Nat.succ d)) r) c.bo) c.b) c.t (Nat.xor (tmN (Nat.add (Nat.pow 2 (Nat.succ d)) r) c.t) c.a)) (Nat.pow 2 (Nat.succ d))) true) 3) false = true := h
      rw [Bool.cond_false_right, Bool.and_eq_true] at h'
      have hp16 := hr.1.lt
      obtain ⟨h1, h2, h3, h4⟩ := hr.1
      obtain ⟨d, rfl⟩ : ∃ d, t = d + 1 := ⟨t - 1, by omega⟩
      obtain ⟨r, rfl⟩ : ∃ r, p = 2 ^ (d + 1) + r := ⟨p - 2 ^ (d + 1), by omega⟩
      have hd := rg_all h'.2 d (by omega)
      have hb : Nat.ble (Nat.add m (Nat.add m (Nat.succ d))) 10 = true := Nat.ble_eq_true_of_le (n := Nat.add m (Nat.add m (Nat.succ d))) (m := 10) hf.1
      rw [hb, cond_true] at hd
      have hk := rg_all hd r (show r < 2 ^ (d + 1) by rw [Nat.pow_succ 2 (d + 1)] at h4; omega)
      rw [sn_ok, sn_ok] at hk
      have hk' : treeN n (ts ++ [d + 1]) (ps ++ [2 ^ (d + 1) + r]) (m + (d + 1)) c.bo (tmN (2 ^ (d + 1) + r) c.bo ^^^ c.b) c.t (tmN (2 ^ (d + 1) + r) c.t ^^^ c.a) = true := hk
      rw [tm_ok hp16, tm_ok hp16] at hk'
      have e1 : ts ++ (d + 1) :: us = (ts ++ [d + 1]) ++ us := by simp
      have e2 : ps ++ (2 ^ (d + 1) + r) :: qs = (ps ++ [2 ^ (d + 1) + r]) ++ qs := by simp
      rw [e1, e2]
      refine tree_ok us qs n _ _ (m + (d + 1)) (cfStep c ((2 ^ (d + 1) + r : Nat) : Int)) ?_ ?_ hr.2 (by simpa using hn) hf.2 hk'
      · rw [hm]; simp
      · rw [cf_snoc, hc]
theorem root_ok (p : Nat) (hp : p < 16) : cf (cI [p]) = ⟨1, p, 0, 1⟩ := by
  show (⟨1, times (p : Int).toNat 1 ^^^ 0, 0, times (p : Int).toNat 0 ^^^ 1⟩ : CF) = _
  rw [Int.toNat_natCast, times_cm hp, times_cm hp, cm_r1, cm_r0]
  simp
theorem law_V (ck0 : lawN [] [] (txN 1 0 10 0 0) = true) (ck : ∀ t p, PartOk t p → treeN 5 [t] [p] t 1 p 0 1 = true) {us qs : List Nat} (h : RelL us qs) (hf : Fits 0 us) : lawN us qs (lowL (textL (cI qs) us.sum)) = true := by
  match us, qs, h, hf with
  | [], [], _, _ => exact node_ok (m := 0) (c := ⟨0, 1, 1, 0⟩) rfl rfl ck0
  | t :: us, p :: qs, h, hf =>
    have ht := h.1.1
    have hf' : Fits t us := by have := hf.2; rwa [Nat.zero_add] at this
    have hl := fits_len us t ht (fun t' h' => (rel_pos h.2 t' h').1) hf'
    exact tree_ok us qs 5 [t] [p] t ⟨1, p, 0, 1⟩ (by simp) (root_ok p h.1.lt) h.2 (by omega) hf' (ck t p h.1)
end Mine
end
section
namespace Mine

theorem split_fits : ∀ (ts : List Nat) (m : Nat), ∃ a b, ts = a ++ b ∧ Fits m a ∧ ∀ t ∈ b.head?, 10 < (m + a.sum) + (m + a.sum + t)
  | [], m => ⟨[], [], rfl, trivial, nofun⟩
  | t :: us, m => by
    by_cases h : m + (m + t) ≤ 10
    · obtain ⟨a, b, e, hf, hb⟩ := split_fits us (m + t)
      exact ⟨t :: a, b, by rw [e]; rfl, ⟨h, hf⟩, fun t' ht' => by have := hb t' ht'; rw [List.sum_cons]; omega⟩
    · exact ⟨[], t :: us, rfl, trivial, fun t' ht' => by simp at ht'; subst ht'; simp; omega⟩
theorem rel_split : ∀ {a b ps : List Nat}, RelL (a ++ b) ps → ∃ p1 p2, ps = p1 ++ p2 ∧ RelL a p1 ∧ RelL b p2
  | [], b, ps, h => ⟨[], ps, rfl, trivial, h⟩
  | t :: a, b, p :: ps, h => by
    obtain ⟨p1, p2, e, h1, h2⟩ := rel_split (a := a) h.2
    exact ⟨p :: p1, p2, by rw [e]; rfl, ⟨h.1, h1⟩, h2⟩

theorem sum_cI : ∀ xs : List Nat, (cI xs).sum = ((xs.sum : Nat) : Int)
  | [] => rfl
  | x :: xs => by
    show (x : Int) + (cI xs).sum = _
    rw [sum_cI xs, List.sum_cons]; omega
noncomputable def restL (a b : List Nat) : List Int := (List.range b.length).map fun i : Nat => ((a.sum + (b.take (i + 1)).sum : Nat) : Int)
theorem marks_app (a b : List Nat) : marksL (cI (a ++ b)) = marksL (cI a) ++ restL a b := by
  unfold marksL restL
  have hl : (cI (a ++ b)).length + 1 = (a.length + 1) + b.length := by simp; omega
  rw [hl, List.range_add, List.map_append, List.map_map]
  have hl' : (cI a).length + 1 = a.length + 1 := by simp
  rw [hl']
  congr 1
  · refine List.map_congr_left fun k hk => ?_
    have hk' := List.mem_range.mp hk
    have : (cI (a ++ b)).take k = (cI a).take k := by
      unfold cI
      rw [List.map_append, List.take_append_of_le_length (by simp; omega)]
    rw [this]
  · refine List.map_congr_left fun i hi => ?_
    show ((cI (a ++ b)).take (a.length + 1 + i)).sum = _
    have : (cI (a ++ b)).take (a.length + 1 + i) = cI (a ++ b.take (i + 1)) := by
      unfold cI
      rw [← List.map_take, List.take_append, List.take_of_length_le (by omega), show a.length + 1 + i - a.length = i + 1 by omega]
    rw [this, sum_cI, List.sum_append]
theorem marks_mem {a : List Nat} {x : Int} (h : x ∈ marksL (cI a)) : x ≤ (a.sum : Int) := by
  obtain ⟨k, hk, rfl⟩ := List.mem_map.mp h
  have : (cI a).take k = cI (a.take k) := by unfold cI; rw [List.map_take]
  rw [this, sum_cI]
  have h1 : (a.take k).sum + (a.drop k).sum = a.sum := by rw [← List.sum_append, List.take_append_drop]
  omega
theorem marks_top (a : List Nat) : (a.sum : Int) ∈ marksL (cI a) := by
  refine List.mem_map.mpr ⟨a.length, List.mem_range.mpr (by simp), ?_⟩
  rw [List.take_of_length_le (by simp), sum_cI]
theorem rest_mem {a b : List Nat} {t : Nat} {b' : List Nat} (hb : b = t :: b') {x : Int} (h : x ∈ restL a b) : (a.sum : Int) + t ≤ x := by
  subst hb
  obtain ⟨i, hi, rfl⟩ := List.mem_map.mp h
  rw [List.take_succ_cons, List.sum_cons]; omega
theorem due_app {a b : List Nat} (hb : ∀ t ∈ b.head?, 10 < a.sum + (a.sum + t)) {s n : Nat} (hs : s < 6) (hn : n < 11) : dueL (marksL (cI (a ++ b))) s n = dueL (marksL (cI a)) s n := by
  rw [marks_app]
  cases hbe : b with
  | nil => simp [restL]
  | cons t b' =>
    have h10 : 10 < a.sum + (a.sum + t) := hb t (by rw [hbe]; rfl)
    have hR : ∀ x ∈ restL a (t :: b'), (a.sum : Int) + t ≤ x := fun x hx => rest_mem rfl hx
    have hM := @marks_mem a
    have hT := marks_top a
    generalize restL a (t :: b') = R at *
    generalize marksL (cI a) = M at *
    have hmk : markL (M ++ R) s = markL M s := by
      have hz : R.filter (fun o => decide (o ≤ (s : Int))) = [] := List.filter_eq_nil_iff.mpr fun x hx => by
        have := hR x hx
        rw [decide_eq_true_eq]; omega
      unfold markL
      rw [List.filter_append, hz, List.append_nil]
    have hdue0 : due0 (M ++ R) s n = due0 M s n := by unfold due0; rw [hmk]
    unfold dueL
    rw [hdue0, hmk]
    rcases Nat.lt_or_ge s a.sum with h | h
    · have hne : laterL M s ≠ [] := fun q => by
        have : (a.sum : Int) ∈ laterL M s := List.mem_filter.mpr ⟨hT, by simp; omega⟩
        rw [q] at this; cases this
      have e : laterL (M ++ R) s = laterL M s ++ R.filter fun o => decide ((s : Int) < o) := by unfold laterL; rw [List.filter_append]
      rw [e]
      cases hL : laterL M s with
      | nil => exact absurd hL hne
      | cons x l => simp
    · have e1 : laterL M s = [] := List.filter_eq_nil_iff.mpr fun x hx => by have := hM hx; simp; omega
      have e2 : laterL (M ++ R) s = R.filter fun o => decide ((s : Int) < o) := by unfold laterL at e1 ⊢; rw [List.filter_append, e1, List.nil_append]
      rw [e1, e2]
      have hmg : (a.sum : Int) ≤ markL M s := maxL_ge (List.mem_filter.mpr ⟨hT, by simp; omega⟩)
      rw [if_neg, if_neg (by simp)]
      rintro ⟨h1, h2⟩
      cases hF : R.filter fun o => decide ((s : Int) < o) with
      | nil => exact h1 hF
      | cons x l =>
        have hx : x ∈ R := (List.mem_filter.mp (show x ∈ R.filter fun o => decide ((s : Int) < o) by rw [hF]; exact List.mem_cons_self ..)).1
        have := hR x hx
        rw [hF] at h2
        simp at h2
        omega
end Mine
end
section
namespace Mine

theorem marks_getD {ts : List Nat} {k : Nat} (h : k ≤ ts.length) : (marksL (cI ts)).getD k 0 = (((ts.take k).sum : Nat) : Int) := by
  have hl : k < (marksL (cI ts)).length := by simp [marksL]; omega
  rw [List.getD, List.getElem?_eq_getElem hl]
  have : (cI ts).take k = cI (ts.take k) := by unfold cI; rw [List.map_take]
  simp only [marksL, List.getElem_map, List.getElem_range, Option.getD_some]
  rw [this, sum_cI]
theorem fits_at : ∀ (a : List Nat) (m k : Nat), Fits m a → k < a.length → (m + (a.take k).sum) + (m + (a.take (k + 1)).sum) ≤ 10
  | [], _, _, _, h => by simp at h
  | t :: a, m, 0, hf, _ => by have := hf.1; simp; omega
  | t :: a, m, k + 1, hf, h => by
    have := fits_at a (m + t) k hf.2 (by simpa using h)
    rw [List.take_succ_cons, List.take_succ_cons, List.sum_cons, List.sum_cons]; omega
theorem head_le {t : Nat} {b' : List Nat} (i : Nat) : t ≤ ((t :: b').take (i + 1)).sum := by
  rw [List.take_succ_cons, List.sum_cons]; omega
theorem take_app {a b : List Nat} {i : Nat} : (a ++ b).take (a.length + i) = a ++ b.take i := by
  rw [List.take_append, List.take_of_length_le (by omega), Nat.add_sub_cancel_left]
theorem near_app {a b : List Nat} (hf : Fits 0 a) (hb : ∀ t ∈ b.head?, 10 < a.sum + (a.sum + t)) : nearL (cI (a ++ b)) = a.length := by
  unfold nearL
  have hl : (cI (a ++ b)).length = a.length + b.length := by simp
  rw [hl, List.range_add, List.filter_append, List.length_append]
  have h1 : ((List.range a.length).filter fun k : Nat => decide ((marksL (cI (a ++ b))).getD k 0 + (marksL (cI (a ++ b))).getD (k + 1) 0 ≤ 10)) = List.range a.length := by
    rw [List.filter_eq_self]
    intro k hk
    have hk' := List.mem_range.mp hk
    rw [marks_getD (by simp; omega), marks_getD (by simp; omega), List.take_append_of_le_length (by omega), List.take_append_of_le_length (by omega), decide_eq_true_eq]
    have := fits_at a 0 k hf hk'
    omega
  have h2 : (((List.range b.length).map fun i => a.length + i).filter fun k : Nat => decide ((marksL (cI (a ++ b))).getD k 0 + (marksL (cI (a ++ b))).getD (k + 1) 0 ≤ 10)) = [] := by
    rw [List.filter_eq_nil_iff]
    intro k hk
    obtain ⟨i, hi, rfl⟩ := List.mem_map.mp hk
    have hi' := List.mem_range.mp hi
    rw [marks_getD (by simp; omega), marks_getD (by simp; omega), take_app, show a.length + i + 1 = a.length + (i + 1) by omega, take_app, decide_eq_true_eq, List.sum_append, List.sum_append]
    cases b with
    | nil => simp at hi'
    | cons t b' =>
      have := hb t rfl
      have := head_le (t := t) (b' := b') i
      omega
  rw [h1, h2, List.length_range]; rfl
theorem sure_app {a b : List Nat} (hb : ∀ t ∈ b.head?, 10 < a.sum + (a.sum + t)) : sureL (cI (a ++ b)) = sureL (cI a) ∧ sureL (cI a) ≤ a.length := by
  refine ⟨?_, Nat.le_trans (List.length_filter_le ..) (by simp)⟩
  unfold sureL
  have hl : (cI (a ++ b)).length = a.length + b.length := by simp
  have hl' : (cI a).length = a.length := by simp
  rw [hl, hl', List.range_add, List.filter_append, List.length_append]
  have h2 : (((List.range b.length).map fun i => a.length + i).filter fun k : Nat => decide (2 * (marksL (cI (a ++ b))).getD (k + 1) 0 ≤ 10)) = [] := by
    rw [List.filter_eq_nil_iff]
    intro k hk
    obtain ⟨i, hi, rfl⟩ := List.mem_map.mp hk
    have hi' := List.mem_range.mp hi
    rw [marks_getD (by simp; omega), show a.length + i + 1 = a.length + (i + 1) by omega, take_app, decide_eq_true_eq, List.sum_append]
    cases b with
    | nil => simp at hi'
    | cons t b' =>
      have := hb t rfl
      have := head_le (t := t) (b' := b') i
      omega
  have h1 : ((List.range a.length).filter fun k : Nat => decide (2 * (marksL (cI (a ++ b))).getD (k + 1) 0 ≤ 10)) = (List.range a.length).filter fun k : Nat => decide (2 * (marksL (cI a)).getD (k + 1) 0 ≤ 10) := by
    refine List.filter_congr fun k hk => ?_
    have hk' := List.mem_range.mp hk
    rw [marks_getD (by simp; omega), marks_getD (by omega), List.take_append_of_le_length (by omega)]
  rw [h2, h1]; rfl
end Mine
end
section
namespace Mine

structure LawP (ts ps : List Nat) : Prop where
  chk : ∀ s n : Nat, s < 6 → s ≤ n → n < 11 → Mine.chk (textL (cI ps) ts.sum) (marksL (cI ts)) s n = true
  near : ((quotL (textL (cI ps) ts.sum)).take ts.length).map (fun q => (bits q.toNat : Int) - 1) = cI ts
  sure : (quotL (textL (cI ps) ts.sum)).take (sureL (cI ts)) = (cI ps).take (sureL (cI ts))
  last : ∀ k : Nat, k < sureL (cI ts) → single ((quotL (textL (cI ps) ts.sum)).getD k 0).toNat = decide ((cI ps).getD k 0 = 2 ^ ((cI ts).getD k 0).toNat)
theorem count_front {P : Nat → Bool} (hP : ∀ i j, i ≤ j → P j = true → P i = true) : ∀ n k, k < ((List.range n).filter P).length → P k = true
  | 0, k, h => by simp at h
  | n + 1, k, h => by
    rw [List.range_succ, List.filter_append, List.length_append] at h
    cases hn : P n with
    | false =>
      rw [List.filter_cons_of_neg (by simp [hn])] at h
      exact count_front hP n k (by simpa using h)
    | true =>
      have h1 : ((List.range n).filter P).length ≤ (List.range n).length := List.length_filter_le ..
      rw [List.filter_cons_of_pos hn] at h
      simp at h1 h
      exact hP k n (by omega) hn
theorem sum_take_mono (ts : List Nat) {i j : Nat} (h : i ≤ j) : (ts.take i).sum ≤ (ts.take j).sum := by
  have : ts.take j = ts.take i ++ (ts.drop i).take (j - i) := by
    rw [← List.take_add]; congr 1; omega
  rw [this, List.sum_append]; omega
theorem sure_at {ts : List Nat} {k : Nat} (h : k < sureL (cI ts)) : k < ts.length ∧ 2 * (ts.take (k + 1)).sum ≤ 10 := by
  have hk : k < ts.length := Nat.lt_of_lt_of_le h (Nat.le_trans (List.length_filter_le ..) (by simp))
  refine ⟨hk, ?_⟩
  have e : sureL (cI ts) = ((List.range ts.length).filter fun k => decide (2 * (ts.take (k + 1)).sum ≤ 10)).length := by
    unfold sureL
    rw [show (cI ts).length = ts.length by simp]
    congr 1
    refine List.filter_congr fun j hj => ?_
    have := List.mem_range.mp hj
    rw [marks_getD (by omega), decide_eq_decide]
    omega
  rw [e] at h
  have := count_front (P := fun k => decide (2 * (ts.take (k + 1)).sum ≤ 10)) (fun i j hij hj => by
    simp only [decide_eq_true_eq] at hj ⊢
    have := sum_take_mono ts (show i + 1 ≤ j + 1 by omega)
    omega) _ _ h
  simpa using this
theorem single_fin : ∀ t < 4, ∀ p < 16, 1 ≤ t → 2 ^ t ≤ p → p < 2 ^ (t + 1) → single p = decide (p = 2 ^ t) := by decide +kernel
theorem part_at : ∀ {ts ps : List Nat}, RelL ts ps → ∀ k (h : k < ts.length), ∃ h' : k < ps.length, PartOk ts[k] ps[k]
  | _ :: _, _ :: _, hr, 0, _ => ⟨by simp, hr.1⟩
  | _ :: ts, _ :: ps, hr, k + 1, h => by
    obtain ⟨h', hp⟩ := part_at hr.2 k (by simpa using h)
    exact ⟨by simpa using h', hp⟩
theorem law_P {ts ps : List Nat} (hr : RelL ts ps) (hl : ts.length ≤ 10) (h : lawN ts ps (lowL (textL (cI ps) ts.sum)) = true) : LawP ts ps := by
  unfold lawN at h
  rw [Bool.cond_false_right, Bool.and_eq_true] at h
  obtain ⟨h1, h2⟩ := h
  have hok := textL_ok (cI ps) ts.sum
  have hpos : ∀ t ∈ ts, 1 ≤ t := fun t ht => (rel_pos hr t ht).1
  obtain ⟨rs, rest, he, hQ⟩ := qu_ok ts ps 0 1024 (lowL (textL (cI ps) ts.sum)) ((List.range 10).map fun i : Nat => (i : Int)) [] .undef .undef hr.len (by simpa using hl) h2
  have hq : quotL (textL (cI ps) ts.sum) = cI rs ++ rest := he
  have hlen : (cI rs).length = ts.length := by simpa using hQ.len
  have hps : ps.length = ts.length := hr.len.symm
  have hat : ∀ k, k < sureL (cI ts) → k < ts.length ∧ rs[k]? = ps[k]? := fun k hk => by
    obtain ⟨a, b⟩ := sure_at hk
    exact ⟨a, hQ.at k a (by omega)⟩
  refine ⟨reg_ok hok.1 hok.2 hpos h1, ?_, ?_, ?_⟩
  · rw [hq, ← hlen, List.take_left']
    · exact hQ.bits hr
    · rfl
  · rw [hq]
    have hs : sureL (cI ts) ≤ (cI rs).length := by
      rw [hlen]; exact Nat.le_trans (List.length_filter_le ..) (by simp)
    rw [List.take_append_of_le_length hs]
    refine List.ext_getElem? fun k => ?_
    rw [List.getElem?_take, List.getElem?_take]
    split
    · rename_i hk
      rw [List.getElem?_map, List.getElem?_map, (hat k hk).2]
    · rfl
  · intro k hk
    obtain ⟨ha, hb⟩ := hat k hk
    obtain ⟨hp', hpk⟩ := part_at hr k ha
    have e1 : (quotL (textL (cI ps) ts.sum)).getD k 0 = ((ps[k] : Nat) : Int) := by
      rw [hq, List.getD, List.getElem?_append_left (by omega), List.getElem?_map, hb, List.getElem?_eq_getElem hp']; rfl
    have e2 : (cI ps).getD k 0 = ((ps[k] : Nat) : Int) := by
      rw [List.getD, List.getElem?_map, List.getElem?_eq_getElem hp']; rfl
    have e3 : (cI ts).getD k 0 = ((ts[k] : Nat) : Int) := by
      rw [List.getD, List.getElem?_map, List.getElem?_eq_getElem ha]; rfl
    rw [e1, e2, e3, Int.toNat_natCast, Int.toNat_natCast]
    have := single_fin ts[k] (by have := hpk.2.1; omega) ps[k] hpk.lt hpk.1 hpk.2.2.1 hpk.2.2.2
    rw [this, decide_eq_decide]
    constructor
    · intro h; rw [h]; simp
    · intro h; exact_mod_cast h
end Mine
end
section
namespace Mine

noncomputable def psOf (ts : List Nat) (seed : Nat) : List Nat := (List.range ts.length).map fun k => 2 ^ ts.getD k 0 + seed / 2 ^ k % 2 ^ ts.getD k 0
theorem getD_cI (ts : List Nat) (k : Nat) : (cI ts).getD k 0 = ((ts.getD k 0 : Nat) : Int) := by
  rw [List.getD, List.getD, List.getElem?_map]
  cases ts[k]? <;> rfl
theorem parts_cI (ts : List Nat) (seed : Nat) : partsL (cI ts) seed = cI (psOf ts seed) := by
  unfold partsL psOf
  show (List.range (cI ts).length).map _ = ((List.range ts.length).map _).map _
  rw [List.map_map, show (cI ts).length = ts.length by simp]
  refine List.map_congr_left fun k _ => ?_
  rw [getD_cI]; rfl
theorem rel_of : ∀ (ts ps : List Nat), ts.length = ps.length → (∀ i, i < ts.length → PartOk (ts.getD i 0) (ps.getD i 0)) → RelL ts ps
  | [], [], _, _ => trivial
  | t :: ts, p :: ps, h, hp => ⟨hp 0 (by simp), rel_of ts ps (by simpa using h) fun i hi => hp (i + 1) (by simpa using hi)⟩
theorem psOf_rel {ts : List Nat} (h : ∀ t ∈ ts, 1 ≤ t ∧ t ≤ 3) (seed : Nat) : RelL ts (psOf ts seed) := by
  refine rel_of _ _ (by simp [psOf]) fun i hi => ?_
  have e : (psOf ts seed).getD i 0 = 2 ^ ts.getD i 0 + seed / 2 ^ i % 2 ^ ts.getD i 0 := by
    rw [List.getD, List.getElem?_eq_getElem (by simpa [psOf] using hi)]; simp [psOf]
  rw [e]
  have hm : ts.getD i 0 ∈ ts := by
    rw [List.getD, List.getElem?_eq_getElem hi]; exact List.getElem_mem _
  obtain ⟨h1, h2⟩ := h _ hm
  generalize ts.getD i 0 = t at *
  have := Nat.mod_lt (seed / 2 ^ i) (Nat.pow_pos (by decide) : 0 < 2 ^ t)
  exact ⟨h1, h2, by omega, by rw [Nat.pow_succ]; omega⟩

theorem law_ok (ck0 : lawN [] [] (txN 1 0 10 0 0) = true) (ck : ∀ t p, PartOk t p → treeN 5 [t] [p] t 1 p 0 1 = true) {T : List Int} (hT : ∀ x ∈ T, 1 ≤ x ∧ x ≤ 3) (seed : Nat) : LawOK T seed := by
  obtain ⟨ts, rfl⟩ : ∃ ts : List Nat, T = cI ts := ⟨T.map Int.toNat, by
    unfold cI
    rw [List.map_map]
    refine (List.map_id T).symm.trans (List.map_congr_left fun x hx => ?_)
    have := hT x hx
    show x = ((x.toNat : Nat) : Int)
    omega⟩
  have hts : ∀ t ∈ ts, 1 ≤ t ∧ t ≤ 3 := fun t ht => by
    have := hT (t : Int) (List.mem_map.mpr ⟨t, ht, rfl⟩)
    omega
  have hrel := psOf_rel hts seed
  have hpl : (psOf ts seed).length = ts.length := by simp [psOf]
  obtain ⟨a, b, hab, hf, hb⟩ := split_fits ts 0
  simp only [Nat.zero_add] at hb
  rw [hab] at hrel
  obtain ⟨p1, p2, hp, hr1, hr2⟩ := rel_split hrel
  have hlen : a.length ≤ 10 := by
    have := rel_pos hr1
    cases a with
    | nil => exact Nat.zero_le _
    | cons t a' =>
      have h1 := this t (List.mem_cons_self ..)
      have := fits_len a' t h1.1 (fun t' h' => (this t' (List.mem_cons_of_mem _ h')).1) (by have := hf.2; rwa [Nat.zero_add] at this)
      rw [List.length_cons]; omega
  have hB := law_P hr1 hlen (law_V ck0 ck hr1 hf)
  have htext : textL (partsL (cI ts) seed) (cI ts).sum.toNat = textL (cI p1) a.sum := by
    rw [parts_cI, sum_cI, Int.toNat_natCast, hab, hp]
    exact text_cut hr2 hr1 hb
  have hnear : nearL (cI ts) = a.length := by rw [hab]; exact near_app hf hb
  obtain ⟨hs1, hs2⟩ := sure_app hb
  rw [← hab] at hs1
  have hpa : p1.length = a.length := hr1.len.symm
  have hP : partsL (cI ts) seed = cI p1 ++ cI p2 := by
    rw [parts_cI, hab, hp]; unfold cI; rw [List.map_append]
  have hTT : cI ts = cI a ++ cI b := by rw [hab]; unfold cI; rw [List.map_append]
  refine ⟨?_, ?_, ?_, ?_⟩
  · intro s n h1 h2 h3
    rw [htext]
    have := hB.chk s n h1 h2 h3
    unfold chk at this ⊢
    rw [hab, due_app hb h1 h3]
    exact this
  · rw [htext, hnear, hB.near, hTT, List.take_append_of_le_length (by simp)]
    exact (List.take_of_length_le (by simp)).symm
  · rw [htext, hs1, hB.sure, hP, List.take_append_of_le_length (by simp; omega)]
  · intro k hk
    rw [hs1] at hk
    rw [htext]
    rw [hB.last k hk, hP, hTT]
    have e1 : (cI p1 ++ cI p2).getD k 0 = (cI p1).getD k 0 := by
      rw [List.getD, List.getD, List.getElem?_append_left (by simp; omega)]
    have e2 : (cI a ++ cI b).getD k 0 = (cI a).getD k 0 := by
      rw [List.getD, List.getD, List.getElem?_append_left (by simp; omega)]
    rw [e1, e2]
end Mine
end
section
namespace Mine

theorem ck_0 : lawN [] [] (txN 1 0 10 0 0) = true := by decide +kernel
theorem ck_1_2 : treeN 5 [1] [2] 1 1 2 0 1 = true := by decide +kernel
theorem ck_1_3 : treeN 5 [1] [3] 1 1 3 0 1 = true := by decide +kernel
theorem ck_2_4 : treeN 5 [2] [4] 2 1 4 0 1 = true := by decide +kernel
theorem ck_2_5 : treeN 5 [2] [5] 2 1 5 0 1 = true := by decide +kernel
theorem ck_2_6 : treeN 5 [2] [6] 2 1 6 0 1 = true := by decide +kernel
theorem ck_2_7 : treeN 5 [2] [7] 2 1 7 0 1 = true := by decide +kernel
theorem ck_3_8 : treeN 5 [3] [8] 3 1 8 0 1 = true := by decide +kernel
theorem ck_3_9 : treeN 5 [3] [9] 3 1 9 0 1 = true := by decide +kernel
theorem ck_3_10 : treeN 5 [3] [10] 3 1 10 0 1 = true := by decide +kernel
theorem ck_3_11 : treeN 5 [3] [11] 3 1 11 0 1 = true := by decide +kernel
theorem ck_3_12 : treeN 5 [3] [12] 3 1 12 0 1 = true := by decide +kernel
theorem ck_3_13 : treeN 5 [3] [13] 3 1 13 0 1 = true := by decide +kernel
theorem ck_3_14 : treeN 5 [3] [14] 3 1 14 0 1 = true := by decide +kernel
theorem ck_3_15 : treeN 5 [3] [15] 3 1 15 0 1 = true := by decide +kernel
theorem ck_all : ∀ t p, PartOk t p → treeN 5 [t] [p] t 1 p 0 1 = true := by
  intro t p h
  obtain ⟨h1, h2, h3, h4⟩ := h
  have ht : t = 1 ∨ t = 2 ∨ t = 3 := by omega
  rcases ht with rfl | rfl | rfl
  · have hp : p = 2 ∨ p = 3 := by omega
    rcases hp with rfl | rfl
    · exact ck_1_2
    · exact ck_1_3
  · have hp : p = 4 ∨ p = 5 ∨ p = 6 ∨ p = 7 := by omega
    rcases hp with rfl | rfl | rfl | rfl
    · exact ck_2_4
    · exact ck_2_5
    · exact ck_2_6
    · exact ck_2_7
  · have hp : p = 8 ∨ p = 9 ∨ p = 10 ∨ p = 11 ∨ p = 12 ∨ p = 13 ∨ p = 14 ∨ p = 15 := by omega
    rcases hp with rfl | rfl | rfl | rfl | rfl | rfl | rfl | rfl
    · exact ck_3_8
    · exact ck_3_9
    · exact ck_3_10
    · exact ck_3_11
    · exact ck_3_12
    · exact ck_3_13
    · exact ck_3_14
    · exact ck_3_15
end Mine
end
section
open PySem PySem.W PyProof.Rows
namespace Mine
theorem plain (script : List Int) (_ : script.length ≤ 63) : ∃ row T, RowOk (rowL script) ∧ row = (rowL script).dropWhile (· == 0) ∧ row.getD 0 1 ≠ 0 ∧ T = toldL 6 0 row ∧ (∀ x ∈ T, 1 ≤ x ∧ x ≤ 3) ∧ LawOK T ((script.sum + 617) % 4096).toNat := by
  obtain ⟨h1, h2, h3⟩ := plain_row script
  exact ⟨_, _, h1, rfl, h2, rfl, h3, law_ok ck_0 ck_all h3 _⟩

section
variable {prog : Program} {w : World}
theorem finish {s₁ : Shared} {mg mb : Str → Option Value} {fa l : Addr} {vals : List Value} {xs : List Int} {R : Result → Shared → Prop} (g : Gd s₁.heap mg mb [] usedB) (hat : ∀ i ∈ [2, 4, 5, 7, 8, 9, 10, 11, 12, 13], (itm i).At mg s₁.heap) (hcm : ∃ t, mg "CHAR_MAX" = some (.int 127 t))
    (hf : mg "law" = some (.ref fa)) (hL : s₁.heap.IsList l vals.toArray) (hI : IntsAre vals xs) (hc : ¬ (63 : Int) < (xs.length : Int))
    (hR : ∀ s', Up s₁.heap s'.heap → GRel true s₁ s' → R (.ok (.ret (.bool true))) s') : codeAny (model prog w) callerA (.call (.ref fa) { pos := [.ref l] }) R s₁ := by
  have hl : xs.length ≤ 63 := by omega
  obtain ⟨row, T, h1, h2, h3, h4, h5, h6⟩ := plain xs hl
  refine codeAny_mono (law_callC (E := fun _ _ => False) (Q := fun v s' => R (.ok (.ret v)) s') g hat hcm hf ⟨rfl, by decide +kernel, by decide +kernel, ⟨[], rfl⟩⟩ rfl (fun b o e => e) ⟨l, vals.toArray, rfl, hL, by simpa using hI⟩ hl h1 h2 h3 h4 h5 h6 hR) fun r s' h => ?_
  cases r with
  | ok fl =>
    cases fl with
    | ret v => exact h
    | next => exact h.elim
    | brk => exact h.elim
    | cont => exact h.elim
  | error e => exact h.elim
end

set_option maxRecDepth 100000 in
set_option maxHeartbeats 8000000 in
theorem joined : PySem.Challenge.rw_st0001_01.Holds := hd (by
  k_fill
  intro w s₀ s₁ mg mb G Y fa o pm cd doc dV kV ho hd hcd hD hmg hg args vals as hpre hlay hrd hwl hlo
  have KX := kIn_of Y
  have X := (Ground.X G).1
  have V := (Ground.X G).2
  have GL := glob_more (Ground.glob G (by first | k_qdec | decide +kernel) (by first | k_qdec | decide +kernel)) V
  refine Ground.open G ?_
  intro T B D TE TW
  try (refine guard_noD D (by decide +kernel) ?_; clear D)
  obtain ⟨_, _, M⟩ := bmod_of_top T
  have TA := at_of_top T
  try (obtain ⟨_, _, he, B0⟩ := based_of_top T rfl hmg ho hd; have he' : cd = _ := he; subst he'; clear he)
  wrow_args hpre hlay hrd hwl hlo
  all_goals (
    first | refine callC_kw (enter_call ?_) | refine enter_call ?_ | refine callC_kw (enter_callW ?_) | refine enter_callW ?_ | w_how)
  have g : Gd s₁.heap mg mb [] usedB := ⟨T.g, T.b, T.builtins, T.nolimit, by
    intro x hx
    exact T.free x (by revert x; decide +kernel) (by revert x; decide +kernel) (by revert x; decide +kernel) (by revert x; decide +kernel) (by revert x; decide +kernel), nofun⟩
  have hat : ∀ i ∈ [2, 4, 5, 7, 8, 9, 10, 11, 12, 13], (itm i).At mg s₁.heap := by
    intro i hi
    simp only [List.mem_cons, List.not_mem_nil, or_false] at hi
    rcases hi with rfl | rfl | rfl | rfl | rfl | rfl | rfl | rfl | rfl | rfl
    · exact TA _ (List.mem_of_getElem? (i := 0) rfl) rfl
    · exact TA _ (List.mem_of_getElem? (i := 1) rfl) rfl
    · exact TA _ (List.mem_of_getElem? (i := 2) rfl) rfl
    · exact TA _ (List.mem_of_getElem? (i := 3) rfl) rfl
    · exact TA _ (List.mem_of_getElem? (i := 4) rfl) rfl
    · exact TA _ (List.mem_of_getElem? (i := 5) rfl) rfl
    · exact TA _ (List.mem_of_getElem? (i := 6) rfl) rfl
    · exact TA _ (List.mem_of_getElem? (i := 7) rfl) rfl
    · exact TA _ (List.mem_of_getElem? (i := 8) rfl) rfl
    · exact TA _ (List.mem_of_getElem? (i := 9) rfl) rfl
  have hcm : ∃ t, mg "CHAR_MAX" = some (.int 127 t) := by
    obtain ⟨v, hv, hr⟩ := T.const "CHAR_MAX" (.int 127) (by rfl)
    have := hr s₁.heap
    cases this
    exact ⟨_, hv⟩
  refine finish g hat hcm hmg (by assumption) (by assumption) (by assumption) fun s' hu hr => ?_
  refine ⟨.inl ⟨.bool true, .bool true, [], rfl, ?_, ?_, ?_, ?_⟩, .of_keep hu, hr.1, hr.2 (.of_eq hg)⟩
  · intro cls; rfl
  · constructor
  · show WTm.holds _ (WTm.eq .res (.lit (.bool true))) _ = true
    unfold WTm.holds
    rw [w_eq_bool (w_res rfl) w_lit]
    rfl
  · exact fun _ => ⟨.nil, nofun⟩)
end Mine
end
theorem PySem.Challenge.cw_st0001_01_holds : PySem.Challenge.rw_st0001_01.Holds :=
  Mine.joined
