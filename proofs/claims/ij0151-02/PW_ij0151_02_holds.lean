import PyProof.Rows.All
import Wide.All
import OpenK.AllK
import Wide.FinOn
import PySem.Challenge.RW_ij0151_02
open PySem PySem.W PyProof.Rows
set_option Elab.async false
set_option maxRecDepth 100000
set_option linter.unusedVariables false
namespace Mine

/-- what a value is, as data -/
inductive D where
  | val (v : Value)
  | str (x : Str)
  | int (i : Int)
  | lstr (xs : List Str)
  | lint (ns : List Int)
  | tstr (xs : List Str)
  | pl (T : String) (xs : List Str)

def D.At : D → Value → Heap → Prop
  | .val w, v, _ => v = w
  | .str x, v, _ => ∃ t, v = .str x t
  | .int i, v, _ => ∃ t, v = .int i t
  | .lstr xs, v, h => ∃ l vs, v = .ref l ∧ h.IsList l (List.toArray vs) ∧ StrsAre vs xs
  | .lint ns, v, h => ∃ l vs, v = .ref l ∧ h.IsList l (List.toArray vs) ∧ IntsAre vs ns
  | .tstr xs, v, h => ∃ l vs, v = .ref l ∧ IsTup h l (List.toArray vs) ∧ StrsAre vs xs
  | .pl T xs, v, h => ∃ l vs k sl, v = .ref l ∧ h.get? l = some { cls := .type T, dict := none, data := .seq (List.toArray vs) k, slots := sl } ∧ StrsAre vs xs

theorem isList_up {h h' : Heap} {l : Addr} {it : Array Value} (k : h.UpToSlots h') (x : h.IsList l it) : h'.IsList l it := by
  obtain ⟨o, ho, hc, n, hd⟩ := x
  obtain ⟨sl, e⟩ := k l o ho (fun vs q => by rw [hd] at q; cases q)
  exact ⟨_, e, hc, n, hd⟩
theorem isTup_up {h h' : Heap} {l : Addr} {it : Array Value} (k : h.UpToSlots h') (x : IsTup h l it) : IsTup h' l it := by
  obtain ⟨o, ho, hc, n, hd⟩ := x
  obtain ⟨sl, e⟩ := k l o ho (fun vs q => by rw [hd] at q; cases q)
  exact ⟨_, e, hc, n, hd⟩
theorem D.At.up {h h' : Heap} (k : h.UpToSlots h') {d : D} {v : Value} (x : d.At v h) : d.At v h' := by
  cases d with
  | val w => exact x
  | str y => exact x
  | int i => exact x
  | lstr xs => obtain ⟨l, vs, e, a, b⟩ := x; exact ⟨l, vs, e, isList_up k a, b⟩
  | lint xs => obtain ⟨l, vs, e, a, b⟩ := x; exact ⟨l, vs, e, isList_up k a, b⟩
  | tstr xs => obtain ⟨l, vs, e, a, b⟩ := x; exact ⟨l, vs, e, isTup_up k a, b⟩
  | pl T xs => obtain ⟨l, vs, n, sl, e, a, b⟩ := x; obtain ⟨sl', e'⟩ := k l _ a (fun vs q => by cases q); exact ⟨l, vs, n, sl', e, e', b⟩
theorem D.At.keep {h h' : Heap} (k : h.StaysIn h') {d : D} {v : Value} (x : d.At v h) : d.At v h' := x.up (Heap.UpToSlots.of_keeps k)

/-- an object's store that is no list, no tuple -/
theorem isList_but {h h' : Heap} {L l : Addr} {it : Array Value} {m : Str → Option Value} (hL : h.Ns L m) (hs : Heap.SameBut L h h') (x : h.IsList l it) : h'.IsList l it := by
  obtain ⟨o, ho, hc, n, hd⟩ := x
  refine ⟨o, (hs.2 l fun e => ?_).trans ho, hc, n, hd⟩
  obtain ⟨o', es, ep, ho', hd', _⟩ := hL
  rw [e, ho'] at ho; cases ho; rw [hd'] at hd; cases hd
theorem isTup_but {h h' : Heap} {L l : Addr} {it : Array Value} {m : Str → Option Value} (hL : h.Ns L m) (hs : Heap.SameBut L h h') (x : IsTup h l it) : IsTup h' l it := by
  obtain ⟨o, ho, hc, n, hd⟩ := x
  refine ⟨o, (hs.2 l fun e => ?_).trans ho, hc, n, hd⟩
  obtain ⟨o', es, ep, ho', hd', _⟩ := hL
  rw [e, ho'] at ho; cases ho; rw [hd'] at hd; cases hd
theorem D.At.but {h h' : Heap} {L : Addr} {m : Str → Option Value} (hL : h.Ns L m) (hs : Heap.SameBut L h h') {d : D} {v : Value} (x : d.At v h) : d.At v h' := by
  cases d with
  | val w => exact x
  | str y => exact x
  | int i => exact x
  | lstr xs => obtain ⟨l, vs, e, a, b⟩ := x; exact ⟨l, vs, e, isList_but hL hs a, b⟩
  | lint xs => obtain ⟨l, vs, e, a, b⟩ := x; exact ⟨l, vs, e, isList_but hL hs a, b⟩
  | tstr xs => obtain ⟨l, vs, e, a, b⟩ := x; exact ⟨l, vs, e, isTup_but hL hs a, b⟩
  | pl T xs =>
    obtain ⟨l, vs, n, sl, e, a, b⟩ := x
    refine ⟨l, vs, n, sl, e, (hs.2 l fun q => ?_).trans a, b⟩
    obtain ⟨o', es, ep, ho', hd', _⟩ := hL
    rw [q, ho'] at a; cases a; cases hd'

/-- the heap has only grown -/
structure Kp (s s' : Shared) : Prop where
  of ::
  ex : Keeps s s'
theorem Kp.refl (s : Shared) : Kp s s := ⟨s.heap, s.toks, rfl, fun _ _ e => e⟩
theorem Kp.trans {s s' s'' : Shared} (a : Kp s s') (b : Kp s' s'') : Kp s s'' := by
  obtain ⟨h1, t1, rfl, k1⟩ := a
  obtain ⟨h2, t2, rfl, k2⟩ := b
  exact ⟨h2, t2, rfl, fun x o e => k2 x o (k1 x o e)⟩
theorem Kp.stays {s s' : Shared} (a : Kp s s') : s.heap.StaysIn s'.heap := by
  obtain ⟨h1, t1, rfl, k1⟩ := a
  exact k1
theorem Kp.toks {s : Shared} (t : Nat) : Kp s { s with toks := t } := ⟨s.heap, t, rfl, fun _ _ e => e⟩
theorem Kp.mk {s : Shared} {h : Heap} {t : Nat} (k : s.heap.StaysIn h) : Kp s { s with heap := h, toks := t } := ⟨h, t, rfl, k⟩
theorem Kp.mk0 {s : Shared} {h : Heap} (k : s.heap.StaysIn h) : Kp s { s with heap := h } := ⟨h, s.toks, rfl, k⟩
theorem stays_push {h : Heap} (o : Obj) : h.StaysIn (h.push o) := fun _ _ e => Heap.get?_push_of_some _ e
theorem stays_refl (h : Heap) : h.StaysIn h := fun _ _ e => e
theorem stays_trans {a b c : Heap} (x : a.StaysIn b) (y : b.StaysIn c) : a.StaysIn c := fun q o e => y q o (x q o e)

theorem D.At.list {xs : List Str} {v : Value} {h : Heap} (x : (D.pl "list" xs).At v h) : (D.lstr xs).At v h := by
  obtain ⟨l, vs, k, sl, e, a, b⟩ := x
  exact ⟨l, vs, e, ⟨_, a, rfl, k, rfl⟩, b⟩
theorem D.At.tup {xs : List Str} {v : Value} {h : Heap} (x : (D.pl "tuple" xs).At v h) : (D.tstr xs).At v h := by
  obtain ⟨l, vs, k, sl, e, a, b⟩ := x
  exact ⟨l, vs, e, ⟨_, a, rfl, k, rfl⟩, b⟩

def Ev {α : Type} (M : Model) (A : Around) (t : Sem α) (P : α → Heap → Prop) (s : Shared) : Prop :=
  wpAny M A t (fun a s' => Kp s s' ∧ P a s'.heap) (fun _ _ => False) s

theorem Ev.go {α : Type} {M : Model} {A : Around} {t : Sem α} {P : α → Heap → Prop} {s : Shared} {Q : α → Shared → Prop} {E : Value → Shared → Prop} (x : Ev M A t P s)
    (k : ∀ a s', Kp s s' → P a s'.heap → Q a s') : wpAny M A t Q E s :=
  wpAny_mono x (fun a s' h => k a s' h.1 h.2) (fun _ _ f => f.elim)
/-- from a rule in the library's shape -/
theorem Ev.pre {α : Type} {M : Model} {A : Around} {t : Sem α} {P : α → Heap → Prop} {s s₁ : Shared} (k : Kp s s₁)
    (x : wpAny M A t (fun a s' => Kp s₁ s' ∧ P a s'.heap) (fun _ _ => False) s₁) : wpAny M A t (fun a s' => Kp s s' ∧ P a s'.heap) (fun _ _ => False) s₁ :=
  wpAny_mono x (fun _ _ h => ⟨k.trans h.1, h.2⟩) (fun _ _ f => f)

def EvE (M : Model) (A : Around) (env : Env) (e : Expr) (d : D) (h : Heap) : Prop := ∀ s, h.StaysIn s.heap → Ev M A (eval e env) d.At s
def EvT (M : Model) (A : Around) (env : Env) (e : Expr) (b : Bool) (h : Heap) : Prop := ∀ s, h.StaysIn s.heap → Ev M A (isTrue e env (eval e env)) (fun b' _ => b' = b) s
def Nm (M : Model) (A : Around) (env : Env) (x : Str) (d : D) (h : Heap) : Prop := ∀ s, h.StaysIn s.heap → wpAny M A (loadName env x) (fun v s' => s' = s ∧ d.At v s.heap) (fun _ _ => False) s

theorem EvE.mono {M : Model} {A : Around} {env : Env} {e : Expr} {d : D} {h h' : Heap} (x : EvE M A env e d h) (k : h.StaysIn h') : EvE M A env e d h' := fun s q => x s (stays_trans k q)
theorem EvT.mono {M : Model} {A : Around} {env : Env} {e : Expr} {d : Bool} {h h' : Heap} (x : EvT M A env e d h) (k : h.StaysIn h') : EvT M A env e d h' := fun s q => x s (stays_trans k q)
theorem Nm.mono {M : Model} {A : Around} {env : Env} {e : Str} {d : D} {h h' : Heap} (x : Nm M A env e d h) (k : h.StaysIn h') : Nm M A env e d h' := fun s q => x s (stays_trans k q)

theorem EvE.as {M : Model} {A : Around} {env : Env} {e : Expr} {d d' : D} {h : Heap} (x : EvE M A env e d h) (k : ∀ v h, d.At v h → d'.At v h) : EvE M A env e d' h := fun s q =>
  (x s q).go fun v s' a b => ⟨a, k v _ b⟩
theorem EvE.list {M : Model} {A : Around} {env : Env} {e : Expr} {xs : List Str} {h : Heap} (x : EvE M A env e (.pl "list" xs) h) : EvE M A env e (.lstr xs) h := x.as fun _ _ => D.At.list

section
variable {prog : Program} {w : World} {A : Around} {env : Env} {h : Heap}

theorem EvE.name {x : Str} {pos : Pos} {d : D} (n : Nm (model prog w) A env x d h) (hd : (x == ("__debug__" : Str)) = false := by decide) : EvE (model prog w) A env (.Name x pos) d h := fun s k =>
  wpAny_Name (wpAny_mono (n s k) (fun v s' z => by obtain ⟨rfl, z⟩ := z; exact ⟨Kp.refl _, z⟩) fun _ _ f => f) hd
theorem EvE.cint {i : Int} {k : Nat} {pos : Pos} : EvE (model prog w) A env (.Constant (.int i) k pos) (.int i) h := fun _ _ => wpAny_Constant_int ⟨Kp.toks _, _, rfl⟩
theorem EvE.ctext {x : Str} {k : Nat} {pos : Pos} : EvE (model prog w) A env (.Constant (.str x) k pos) (.str x) h := fun _ _ => wpAny_Constant_str ⟨Kp.toks _, _, rfl⟩
theorem EvE.cnone {k : Nat} {pos : Pos} : EvE (model prog w) A env (.Constant .none k pos) (.val .none) h := fun _ _ => wpAny_Constant_none ⟨Kp.refl _, rfl⟩
theorem EvE.cbool {b : Bool} {k : Nat} {pos : Pos} : EvE (model prog w) A env (.Constant (.bool b) k pos) (.val (.bool b)) h := fun _ _ => wpAny_Constant_bool ⟨Kp.refl _, rfl⟩

/-- a binary operation, from its rule on values -/
theorem EvE.bin {l r : Expr} {op : Operator} {pos : Pos} {d₁ d₂ d : D} (hl : EvE (model prog w) A env l d₁ h) (hr : EvE (model prog w) A env r d₂ h)
    (ho : ∀ s a b, h.StaysIn s.heap → d₁.At a s.heap → d₂.At b s.heap → Ev (model prog w) A (binaryOp op a b) d.At s) : EvE (model prog w) A env (.BinOp l op r pos) d h := fun s k =>
  wpAny_BinOp ((hl s k).go fun a s₁ k₁ ha => (hr s₁ (stays_trans k k₁.stays)).go fun b s₂ k₂ hb =>
    Ev.pre (k₁.trans k₂) (ho s₂ a b (stays_trans k (k₁.trans k₂).stays) (ha.keep k₂.stays) hb))

theorem EvE.cmp {l r : Expr} {op : CmpOp} {pos : Pos} {d₁ d₂ d : D} (hl : EvE (model prog w) A env l d₁ h) (hr : EvE (model prog w) A env r d₂ h)
    (ho : ∀ s a b, h.StaysIn s.heap → d₁.At a s.heap → d₂.At b s.heap → Ev (model prog w) A (compareOp op a b) d.At s) (hm : behindInMarks op r = false := by with_unfolding_all rfl) : EvE (model prog w) A env (.Compare l [op] [r] pos) d h := fun s k =>
  wpAny_Compare1 (hm := hm) ((hl s k).go fun a s₁ k₁ ha => (hr s₁ (stays_trans k k₁.stays)).go fun b s₂ k₂ hb =>
    Ev.pre (k₁.trans k₂) (ho s₂ a b (stays_trans k (k₁.trans k₂).stays) (ha.keep k₂.stays) hb))
theorem EvT.cmp {l r : Expr} {op : CmpOp} {pos : Pos} {d₁ d₂ : D} {c : Bool} (hl : EvE (model prog w) A env l d₁ h) (hr : EvE (model prog w) A env r d₂ h)
    (ho : ∀ s a b, h.StaysIn s.heap → d₁.At a s.heap → d₂.At b s.heap → Ev (model prog w) A (compareOp op a b) (D.val (.bool c)).At s) (hm : behindInMarks op r = false := by with_unfolding_all rfl) : EvT (model prog w) A env (.Compare l [op] [r] pos) c h := fun s k =>
  wpAny_isTrue_Compare1 (hm := hm) ((hl s k).go fun a s₁ k₁ ha => (hr s₁ (stays_trans k k₁.stays)).go fun b s₂ k₂ hb =>
    (ho s₂ a b (stays_trans k (k₁.trans k₂).stays) (ha.keep k₂.stays) hb).go fun v s₃ k₃ hv => by
      obtain rfl : v = .bool c := hv
      exact wpAny_truthy_bool ⟨(k₁.trans k₂).trans k₃, rfl⟩)

-- operations on values, as Ev
theorem op_eq_str {x y : Str} {a b : Value} {s : Shared} (ha : (D.str x).At a s.heap) (hb : (D.str y).At b s.heap) : Ev (model prog w) A (compareOp .Eq a b) (D.val (.bool (x == y))).At s := by
  obtain ⟨t, rfl⟩ := ha; obtain ⟨u, rfl⟩ := hb
  exact eq_str ⟨Kp.refl _, rfl⟩
theorem op_ne_str {x y : Str} {a b : Value} {s : Shared} (ha : (D.str x).At a s.heap) (hb : (D.str y).At b s.heap) : Ev (model prog w) A (compareOp .NotEq a b) (D.val (.bool (x != y))).At s := by
  obtain ⟨t, rfl⟩ := ha; obtain ⟨u, rfl⟩ := hb
  exact ne_str ⟨Kp.refl _, rfl⟩
theorem op_add_str {x y : Str} {a b : Value} {s : Shared} (hz : x.length + y.length ≤ sizeLine) (ha : (D.str x).At a s.heap) (hb : (D.str y).At b s.heap) : Ev (model prog w) A (binaryOp .Add a b) (D.str (x ++ y)).At s := by
  obtain ⟨t, rfl⟩ := ha; obtain ⟨u, rfl⟩ := hb
  exact add_str (fun t' tk => ⟨Kp.toks _, _, rfl⟩) hz
theorem op_in_str {x y : Str} {a b : Value} {s : Shared} (ha : (D.str y).At a s.heap) (hb : (D.str x).At b s.heap) : Ev (model prog w) A (compareOp .In a b) (D.val (.bool !(Builtin.Str.occurrences x y 0 x.length 1).isEmpty)).At s := by
  obtain ⟨t, rfl⟩ := ha; obtain ⟨u, rfl⟩ := hb
  exact in_str ⟨Kp.refl _, rfl⟩
theorem op_in_strs {x : Str} {ys : List Str} {a b : Value} {s : Shared} (ha : (D.str x).At a s.heap) (hb : (D.lstr ys).At b s.heap) : Ev (model prog w) A (compareOp .In a b) (D.val (.bool (ys.any (· == x)))).At s := by
  obtain ⟨t, rfl⟩ := ha; obtain ⟨l, vs, rfl, hl, hi⟩ := hb
  exact in_list_strs hl hi ⟨Kp.refl _, rfl⟩
theorem op_notin_strs {x : Str} {ys : List Str} {a b : Value} {s : Shared} (ha : (D.str x).At a s.heap) (hb : (D.lstr ys).At b s.heap) : Ev (model prog w) A (compareOp .NotIn a b) (D.val (.bool (!ys.any (· == x)))).At s := by
  obtain ⟨t, rfl⟩ := ha; obtain ⟨l, vs, rfl, hl, hi⟩ := hb
  exact notin_list_strs hl hi ⟨Kp.refl _, rfl⟩
end
end Mine
namespace Mine

/-- scalars: what they are hangs on no heap -/
def D.sc : D → Bool
  | .val _ | .str _ | .int _ => true
  | _ => false
/-- texts and ints -/
def D.si : D → Bool
  | .str _ | .int _ => true
  | _ => false
theorem D.si_sc {d : D} (h : d.si = true) : d.sc = true := by cases d <;> first | rfl | cases h
theorem D.At.any {d : D} (h : d.sc = true) {v : Value} {h₁ h₂ : Heap} (x : d.At v h₁) : d.At v h₂ := by
  cases d <;> first | exact x | cases h

/-- within a frame: typed local names; all that the anchor has, but the frame, stands -/
structure Loc (s₀ : Shared) (L : Addr) (Γ : List (Str × D)) (s : Shared) : Prop where
  ns : ∃ m, s.heap.Ns L m ∧ ∀ x d, Γ.lookup x = some d → ∃ v, m x = some v ∧ d.At v s.heap
  keep : ∀ b o, b ≠ L → s₀.heap.get? b = some o → s.heap.get? b = some o
  same : ∃ h t, s = { s₀ with heap := h, toks := t }

section
variable {s₀ s s' : Shared} {L : Addr} {Γ Γ' : List (Str × D)}
theorem Loc.kp (X : Loc s₀ L Γ s) (k : Kp s s') : Loc s₀ L Γ s' := by
  obtain ⟨⟨m, n, T⟩, K, h, t, rfl⟩ := X
  obtain ⟨h', t', rfl, k⟩ := k
  exact ⟨⟨m, n.keeps k, fun x d e => let ⟨v, a, b⟩ := T x d e; ⟨v, a, b.keep k⟩⟩, fun b o q e => k b o (K b o q e), h', t', rfl⟩
theorem Loc.out (X : Loc s₀ L Γ s) (hL : s₀.heap.get? L = none) : Kp s₀ s := by
  obtain ⟨_, K, h, t, rfl⟩ := X
  exact ⟨h, t, rfl, fun b o e => K b o (fun q => by rw [q, hL] at e; cases e) e⟩
theorem Loc.here (X : Loc s₀ L Γ s) : Loc s L Γ s := ⟨X.ns, fun _ _ _ e => e, s.heap, s.toks, rfl⟩
theorem Loc.trans (X : Loc s₀ L Γ s) (Y : Loc s L Γ' s') : Loc s₀ L Γ' s' := by
  obtain ⟨_, K, h, t, rfl⟩ := X
  obtain ⟨n, K', h', t', rfl⟩ := Y
  exact ⟨n, fun b o q e => K' b o q (K b o q e), h', t', rfl⟩
theorem Loc.less (X : Loc s₀ L Γ s) (k : ∀ x d, Γ'.lookup x = some d → Γ.lookup x = some d) : Loc s₀ L Γ' s := by
  obtain ⟨⟨m, F, T⟩, q, z⟩ := X
  exact ⟨⟨m, F, fun x d e => T x d (k x d e)⟩, q, z⟩
theorem Loc.other {b : Addr} (X : Loc s₀ L Γ s) (hsc : ∀ p ∈ Γ, p.2.sc = true) (hL : b ≠ L) (h0 : s₀.heap.get? b = none) {h : Heap} {t : Nat} (k : ∀ a o, a ≠ b → s.heap.get? a = some o → h.get? a = some o) : Loc s₀ L Γ { s with heap := h, toks := t } := by
  obtain ⟨⟨m, n, T⟩, K, h1, t1, rfl⟩ := X
  refine ⟨⟨m, n.at' fun o e => k L o (Ne.symm hL) e, fun x d e => ?_⟩, fun a o q e => k a o (fun q => by rw [q, h0] at e; cases e) (K a o q e), h, t, rfl⟩
  obtain ⟨v, a, z⟩ := T x d e
  exact ⟨v, a, z.any (hsc (x, d) (mem_of_lookup e))⟩
theorem Loc.ne (X : Loc s₀ L Γ s) {b : Addr} (hb : s.heap.get? b = none) : b ≠ L ∧ s₀.heap.get? b = none := by
  obtain ⟨⟨m, n, T⟩, K, _⟩ := X
  obtain ⟨o, _, _, ho, _⟩ := n
  have hbL : b ≠ L := fun q => by rw [q, ho] at hb; cases hb
  refine ⟨hbL, ?_⟩
  cases q : s₀.heap.get? b with
  | none => rfl
  | some o' => rw [K b o' hbL q] at hb; cases hb

variable {prog : Program} {w : World} {A : Around} {env : Env}
theorem Loc.nm (X : Loc s₀ L Γ s) {x : Str} {d : D} (hx : Γ.lookup x = some d) (hL : env.locals = L) (hk : env.scope.kind = .function) (hl : env.kindOf x = some .local) : Nm (model prog w) A env x d s.heap := by
  intro s₁ k
  obtain ⟨⟨m, n, T⟩, _⟩ := X
  obtain ⟨v, a, z⟩ := T x d hx
  subst hL
  exact wpAny_loadName_local hk hl (n.keeps k) a ⟨rfl, z.keep k⟩

theorem Loc.set {E : Value → Shared → Prop} {Q : Unit → Shared → Prop} (X : Loc s₀ L Γ s) {x : Str} {d : D} {v : Value} (hv : d.At v s.heap) (hL : env.locals = L) (hk : env.scope.kind = .function) (hl : env.kindOf x = some .local)
    (h : ∀ s', Loc s₀ L ((x, d) :: Γ) s' → Heap.SameBut L s.heap s'.heap → Q () s') : wpAny (model prog w) A (storeName env x v) Q E s := by
  obtain ⟨⟨m, n, T⟩, K, h1, t1, rfl⟩ := X
  subst hL
  refine wpAny_storeName_local hl n (fun h' hn hs => h _ ⟨⟨_, hn, fun y d' e => ?_⟩, fun b o q e => (hs.2 b q).trans (K b o q e), h', _, rfl⟩ hs) (by rw [hk]; rfl)
  by_cases q : y = x
  · subst q
    simp only [List.lookup, BEq.rfl, Option.some.injEq] at e
    subst e
    exact ⟨v, by simp, hv.but n hs⟩
  · have q' : (y == x) = false := by simpa using q
    simp only [List.lookup, q'] at e
    obtain ⟨u, a, z⟩ := T y d' e
    exact ⟨u, by simp [q, a], z.but n hs⟩

theorem Loc.assign {E : Value → Shared → Prop} {Q : Flow → Shared → Prop} (X : Loc s₀ L Γ s) {x : Str} {px pos : Pos} {e : Expr} {d : D} (he : EvE (model prog w) A env e d s.heap)
    (hL : env.locals = L) (hk : env.scope.kind = .function) (hl : env.kindOf x = some .local)
    (h : ∀ s', Loc s₀ L ((x, d) :: Γ) s' → Q .next s') (hs : swapsWith e (some (.Name x px)) pos.line env = pure false := by rfl) : wpAny (model prog w) A (exec (.Assign [.Name x px] e pos) env) Q E s :=
  wpAny_Assign_Name ((he s (stays_refl _)).go fun _ _ k hv => (X.kp k).set hv hL hk hl fun s' X' _ => h s' X') hs
end

section
variable {prog : Program} {w : World} {A : Around} {env : Env} {s : Shared} {E : Value → Shared → Prop} {Q : Flow → Shared → Prop}
theorem exec_ret {e : Expr} {pos : Pos} {d : D} (he : EvE (model prog w) A env e d s.heap) (h : ∀ v s', Kp s s' → d.At v s'.heap → Q (.ret v) s') : wpAny (model prog w) A (exec (.Return (some e) pos) env) Q E s :=
  wpAny_Return_some ((he s (stays_refl _)).go h)
theorem exec_if {e : Expr} {a b : List Stmt} {pos : Pos} {c : Bool} (he : EvT (model prog w) A env e c s.heap) (h : ∀ s', Kp s s' → wpAny (model prog w) A (execs (if c then a else b) env) Q E s') : wpAny (model prog w) A (exec (.If e a b pos) env) Q E s := by
  refine wpAny_If ((he s (stays_refl _)).go fun c' s' k hc => ?_)
  subst hc
  have := h s' k
  cases c' <;> exact this
theorem execs_cons' {st : Stmt} {rest : List Stmt}
    (h : wpAny (model prog w) A (exec st env) (fun f s' => match f with | .next => wpAny (model prog w) A (execs rest env) Q E s' | f => Q f s') E s) :
    wpAny (model prog w) A (execs (st :: rest) env) Q E s := wpAny_execs_cons h

/-- a while whose turns raise nothing -/
theorem exec_while {test : Expr} {body : List Stmt} {pos : Pos} (I : Nat → Shared → Prop)
    (turn : ∀ n s, I n s → ∃ c : Bool, EvT (model prog w) A env test c s.heap ∧ ∀ s', Kp s s' → match c with
      | true => wpAny (model prog w) A (execs body env) (fun f s'' => match f with
        | .next | .cont => ∃ m, m < n ∧ I m s''
        | .brk => Q .next s''
        | .ret v => Q (.ret v) s'') (fun _ _ => False) s'
      | false => Q .next s')
    (n : Nat) (h : I n s) : wpAny (model prog w) A (exec (.While test body [] pos) env) Q E s := by
  refine wpAny_While (codeAny_whileLoop I (fun n s hI => ?_) n h)
  obtain ⟨c, ht, hb⟩ := turn n s hI
  refine (ht s (stays_refl _)).go fun c' s' k hc => ?_
  subst hc
  have := hb s' k
  cases c' with
  | false => exact wpAny_execs_nil this
  | true =>
    refine wpAny_mono this (fun f s'' hf => ?_) (fun _ _ f => f.elim)
    cases f <;> exact hf
end

/-- what an iteration gives, in order -/
structure Src (prog : Program) (w : World) (items : List D) (v : Value) (h : Heap) : Prop where
  it : ∀ (A : Around) (s : Shared) (Q : Value → Shared → Prop) (E : Value → Shared → Prop), A.handled = none → h.StaysIn s.heap →
    (∀ I fp P St s₂, Kp s s₂ → s.heap.get? I = none → Walks prog w A I fp [I] items.length P St → St 0 s₂.heap → (∀ b ∈ fp, b < s₂.heap.objs.size) → (∀ b ∈ fp, b = I ∨ ∃ o, s.heap.get? b = some o ∧ ∀ es n, o.data ≠ .dict es n) → (∀ i u, P i u → ∃ d, items[i]? = some d ∧ d.si = true ∧ d.At u h) → Q (.ref I) s₂) →
    wpAny (model prog w) A (pyIter v) Q E s

theorem src_strs {prog : Program} {w : World} {xs : List Str} {v : Value} {h : Heap} (x : (D.lstr xs).At v h) : Src prog w (xs.map .str) v h := by
  obtain ⟨l, vs, rfl, hl, hi⟩ := x
  refine ⟨fun A s Q E hh k q => wpAny_pyIter_list (isList_up (Heap.UpToSlots.of_keeps k) hl) ?_⟩
  have hl' := isList_up (Heap.UpToSlots.of_keeps k) hl
  have hne : l ≠ s.heap.objs.size := by obtain ⟨o, ho, _⟩ := hl'; exact Nat.ne_of_lt (Heap.lt_size ho)
  have W := Walks.list (prog := prog) (w := w) hh s.heap.objs.size l hne vs.toArray
  have e : vs.toArray.size = (xs.map D.str).length := by rw [List.size_toArray, List.length_map]; exact hi.len_eq
  rw [e] at W
  refine q _ _ _ _ _ (Kp.mk0 (stays_push _)) (Heap.get?_none_of_le (Nat.le_refl _)) W ⟨⟨_, Heap.get?_push_size _ rfl, rfl, rfl⟩, isList_up (Heap.UpToSlots.of_keeps (stays_push _)) hl'⟩ (fun b hb => ?_) (fun b hb => ?_) fun i u hu => ?_
  · rw [Heap.size_push]
    simp only [List.mem_cons, List.mem_nil_iff, or_false] at hb
    rcases hb with rfl | rfl
    · exact Nat.lt_succ_self _
    · obtain ⟨o, ho, _⟩ := hl'; exact Nat.lt_succ_of_lt (Heap.lt_size ho)
  · simp only [List.mem_cons, List.mem_nil_iff, or_false] at hb
    rcases hb with rfl | rfl
    · exact .inl rfl
    · obtain ⟨o, ho, _, n, hd⟩ := hl'; exact .inr ⟨o, ho, fun es n q => by rw [hd] at q; cases q⟩
  · have hu' : vs[i]? = some u := by simpa using hu
    obtain ⟨y, t, rfl, hy⟩ := hi.item i u hu'
    exact ⟨.str y, by simp [hy], rfl, t, rfl⟩
theorem src_ints {prog : Program} {w : World} {xs : List Int} {v : Value} {h : Heap} (x : (D.lint xs).At v h) : Src prog w (xs.map .int) v h := by
  obtain ⟨l, vs, rfl, hl, hi⟩ := x
  refine ⟨fun A s Q E hh k q => wpAny_pyIter_list (isList_up (Heap.UpToSlots.of_keeps k) hl) ?_⟩
  have hl' := isList_up (Heap.UpToSlots.of_keeps k) hl
  have hne : l ≠ s.heap.objs.size := by obtain ⟨o, ho, _⟩ := hl'; exact Nat.ne_of_lt (Heap.lt_size ho)
  have W := Walks.list (prog := prog) (w := w) hh s.heap.objs.size l hne vs.toArray
  have e : vs.toArray.size = (xs.map D.int).length := by rw [List.size_toArray, List.length_map]; exact hi.length
  rw [e] at W
  refine q _ _ _ _ _ (Kp.mk0 (stays_push _)) (Heap.get?_none_of_le (Nat.le_refl _)) W ⟨⟨_, Heap.get?_push_size _ rfl, rfl, rfl⟩, isList_up (Heap.UpToSlots.of_keeps (stays_push _)) hl'⟩ (fun b hb => ?_) (fun b hb => ?_) fun i u hu => ?_
  · rw [Heap.size_push]
    simp only [List.mem_cons, List.mem_nil_iff, or_false] at hb
    rcases hb with rfl | rfl
    · exact Nat.lt_succ_self _
    · obtain ⟨o, ho, _⟩ := hl'; exact Nat.lt_succ_of_lt (Heap.lt_size ho)
  · simp only [List.mem_cons, List.mem_nil_iff, or_false] at hb
    rcases hb with rfl | rfl
    · exact .inl rfl
    · obtain ⟨o, ho, _, n, hd⟩ := hl'; exact .inr ⟨o, ho, fun es n q => by rw [hd] at q; cases q⟩
  · have hu' : vs[i]? = some u := by simpa using hu
    obtain ⟨y, t, rfl, hy⟩ := hi.at i u hu'
    exact ⟨.int y, by simp [hy], rfl, t, rfl⟩
/-- a text's signs -/
def sgn (x : Str) : List D := x.cps.toList.map fun c => .str ⟨#[c]⟩
theorem src_text {prog : Program} {w : World} {x : Str} {v : Value} {h : Heap} (y : (D.str x).At v h) : Src prog w (sgn x) v h := by
  obtain ⟨t, rfl⟩ := y
  refine ⟨fun A s Q E hh k q => wpAny_pyIter_str fun o St hW hSt => ?_⟩
  have W := hW A hh
  have e : x.cps.size = (sgn x).length := by simp [sgn]
  rw [e] at W
  refine q _ _ _ _ _ (Kp.mk0 (stays_push _)) (Heap.get?_none_of_le (Nat.le_refl _)) W hSt (fun b hb => ?_) (fun b hb => ?_) fun i u hu => ?_
  · simp only [List.mem_cons, List.mem_nil_iff, or_false] at hb
    subst hb; rw [Heap.size_push]; exact Nat.lt_succ_self _
  · simp only [List.mem_cons, List.mem_nil_iff, or_false] at hb
    exact .inl hb
  · obtain ⟨c, u', hc, rfl⟩ := hu
    exact ⟨.str ⟨#[c]⟩, by simp [sgn, hc], rfl, u', rfl⟩

section
variable {prog : Program} {w : World} {A : Around} {env : Env} {s₀ s : Shared} {L : Addr} {E : Value → Shared → Prop} {Q : Flow → Shared → Prop}
/-- a for over scalars whose turns raise nothing; C: what is known besides -/
theorem exec_for {x : Str} {px pos : Pos} {iter : Expr} {body : List Stmt} {items : List D} {d : D} (Γ : Nat → List (Str × D)) (C : Nat → Prop) (hsc : ∀ i, ∀ p ∈ Γ i, p.2.sc = true)
    (hh : A.handled = none) (hL : env.locals = L) (hk : env.scope.kind = .function) (hl : env.kindOf x = some .local)
    (X : Loc s₀ L (Γ 0) s) (hC : C 0) (he : EvE (model prog w) A env iter d s.heap) (hsrc : ∀ v h, d.At v h → Src prog w items v h)
    (step : ∀ i a s, items[i]? = some a → C i → Loc s₀ L ((x, a) :: Γ i) s → wpAny (model prog w) A (execs body env) (fun f s' => match f with
        | .next | .cont => C (i + 1) ∧ Loc s L (Γ (i + 1)) s'
        | .brk => Q .next s'
        | .ret v => Q (.ret v) s') (fun _ _ => False) s)
    (fin : ∀ s', C items.length → Loc s₀ L (Γ items.length) s' → Q .next s')
    (hs : ∀ x, foldedSetIterable iter env x = pure x := by intro _; rfl) : wpAny (model prog w) A (exec (.For (.Name x px) iter body [] pos) env) Q E s := by
  refine wpAny_For ((he s (stays_refl _)).go fun v s₁ k₁ hv => (hsrc v s₁.heap hv).it A s₁ _ _ hh (stays_refl _) fun I fp P St s₂ k₂ hI W hSt hfp hfd hP => ?_) hs
  have X₂ := X.kp (k₁.trans k₂)
  have hLf : L ∉ fp := fun hm => by
    rcases hfd L hm with q | ⟨o, ho, hd⟩
    · exact ((X.kp k₁).ne hI).1 q.symm
    · obtain ⟨m, ⟨o', es, n, ho', hd', _⟩, _⟩ := (X.kp k₁).ns
      rw [ho] at ho'; cases ho'; exact hd es n hd'
  obtain ⟨hIL, hI0⟩ := (X.kp k₁).ne hI
  refine codeAny_forLoop (fun n s' => ∃ i, i ≤ items.length ∧ n = items.length - i ∧ C i ∧ Loc s₀ L (Γ i) s' ∧ St i s'.heap) ?_ (items.length) ⟨0, Nat.zero_le _, rfl, hC, X₂, hSt⟩
  rintro n s' ⟨i, hi, rfl, hCi, Xi, hSti⟩
  by_cases hlt : i < items.length
  · refine W.item i s' _ _ hlt hSti fun u h' tk hu hSt' hk' => ?_
    obtain ⟨a, ha, hasc, hua⟩ := hP i u hu
    have X' := Xi.other (hsc i) hIL hI0 (h := h') (t := tk) fun b o hb e => hk' b o (by simpa using hb) e
    refine wpAny_assign_Name (X'.set (hua.any (D.si_sc hasc)) hL hk hl fun s₃ X₃ hs₃ => ?_)
    have hSt₃ : St (i + 1) s₃.heap := W.frame _ _ _ hSt' fun b hb o e => (hs₃.2 b fun q => hLf (q ▸ hb)).trans e
    refine wpAny_mono (step i a s₃ ha hCi X₃) (fun f s₄ hf => ?_) (fun _ _ f => f.elim)
    have nx : (C (i + 1) ∧ Loc s₃ L (Γ (i + 1)) s₄) → ∃ m, m < items.length - i ∧ ∃ i, i ≤ items.length ∧ m = items.length - i ∧ C i ∧ Loc s₀ L (Γ i) s₄ ∧ St i s₄.heap := fun z =>
      ⟨items.length - (i + 1), by omega, i + 1, hlt, rfl, z.1, X₃.trans z.2, W.frame _ _ _ hSt₃ fun b hb o e => z.2.keep b o (fun q => hLf (q ▸ hb)) e⟩
    cases f with
    | next => exact nx hf
    | cont => exact nx hf
    | brk => exact hf
    | ret v => exact hf
  · have e : i = items.length := by omega
    subst e
    exact W.done s' _ _ hSti fun h' tk hk' => wpAny_execs_nil (fin _ hCi (Xi.other (hsc _) hIL hI0 fun b o hb e => hk' b o (by simpa using hb) e))
end
end Mine
namespace Mine

def cut (xs : List α) (l u : Option Int) : List α := (xs.drop (l.elim 0 (clipAt xs.length))).take (u.elim xs.length (clipAt xs.length) - l.elim 0 (clipAt xs.length))

theorem strIdx_plain (lo hi : Option Int) (n : Nat) : Builtin.Str.strSliceIndices lo hi 1 n = sliceRange ((lo.elim 0 (clipAt n) : Nat) : Int) ((hi.elim n (clipAt n) : Nat) : Int) 1 := by
  cases lo <;> cases hi <;> simp [Builtin.Str.strSliceIndices, clipAt_cast]
theorem slice_cut (x : Str) (l u : Option Int) : Txt.slice x l u = ⟨(cut x.cps.toList l u).toArray⟩ := by
  have e : ((Builtin.Str.strSliceIndices l u 1 x.length).filterMap (x.cps[·]?)) = cut x.cps.toList l u := by
    rw [strIdx_plain, sliceRange_one, pick_run]
    simp [cut, Str.length]
  unfold Txt.slice
  split
  · rename_i q
    simp only [BEq.rfl, Bool.true_and, beq_iff_eq] at q
    have hb : u.elim x.length (clipAt x.length) ≤ x.cps.size := by
      cases u with
      | none => exact Nat.le_refl _
      | some j => have := clipAt_cast x.length j; simp only [Option.elim, Str.length] at *; omega
    rw [strIdx_plain, sliceRange_one] at q
    simp only [List.length_map, List.length_range] at q
    have hlen : (cut x.cps.toList l u).length = x.length := by
      unfold cut
      rw [List.length_take, List.length_drop]
      simp only [Str.length, Array.length_toList] at *
      omega
    have hfull : cut x.cps.toList l u = x.cps.toList := by
      unfold cut at hlen ⊢
      have hl : (List.drop (l.elim 0 (clipAt x.cps.toList.length)) x.cps.toList).length ≥ x.length := by
        rw [List.length_take] at hlen; omega
      rw [List.length_drop] at hl
      have h0 : l.elim 0 (clipAt x.cps.toList.length) = 0 ∨ x.cps.toList.length = 0 := by
        simp only [Str.length, Array.length_toList] at *; omega
      rcases h0 with h0 | h0
      · rw [h0] at hlen ⊢
        rw [List.length_take] at hlen
        simp only [List.drop_zero] at *
        exact List.take_of_length_le (by simp only [Str.length, Array.length_toList] at *; omega)
      · have : x.cps.toList = [] := List.eq_nil_of_length_eq_zero h0
        rw [this]; simp
    rw [hfull]
  · rw [e]

/-- the parts of a slice -/
def EvP (M : Model) (A : Around) (env : Env) (e : Option Expr) (i : Option Int) (h : Heap) : Prop := ∀ s, h.StaysIn s.heap → Ev M A (evalPart e env) (fun v _ => ∃ t : Tok, v = partValue (i.map (·, t))) s

section
variable {prog : Program} {w : World} {A : Around} {env : Env} {h : Heap}
theorem EvP.no : EvP (model prog w) A env .none .none h := fun s _ => by
  show wpAny _ _ (evalPart .none env) _ _ _
  rw [evalPart_none]; exact wpAny_pure ⟨Kp.refl _, 0, rfl⟩
theorem EvP.yes {e : Expr} {i : Int} (he : EvE (model prog w) A env e (.int i) h) : EvP (model prog w) A env (.some e) (.some i) h := fun s k => by
  show wpAny _ _ (evalPart (.some e) env) _ _ _
  rw [evalPart_some]
  exact (he s k).go fun v s' k' hv => ⟨k', hv⟩

theorem EvE.strslice {v : Expr} {lo hi : Option Expr} {p pos : Pos} {x : Str} {l u : Option Int} (hv : EvE (model prog w) A env v (.str x) h) (hl : EvP (model prog w) A env lo l h) (hu : EvP (model prog w) A env hi u h)
    (hz : x.length ≤ sizeLine) (ht : ∀ o r, letTemporaryGo v o r = pure () := by intro o r; cases o <;> rfl) : EvE (model prog w) A env (.Subscript v (.Slice lo hi .none p) pos) (.str ⟨(cut x.cps.toList l u).toArray⟩) h := fun s k =>
  wpAny_Subscript_str_slice ((hv s k).go fun o s₁ k₁ ho => (hl s₁ (stays_trans k k₁.stays)).go fun a s₂ k₂ ha => (hu s₂ (stays_trans k (k₁.trans k₂).stays)).go fun b s₃ k₃ hb => by
    obtain ⟨t, rfl⟩ := ho; obtain ⟨t₁, rfl⟩ := ha; obtain ⟨t₂, rfl⟩ := hb
    refine ⟨x, t, l.map (·, t₁), u.map (·, t₂), rfl, rfl, rfl, ?_⟩
    have K := ((k₁.trans k₂).trans k₃).trans (Kp.mk0 (s := s₃) (stays_push (h := s₃.heap) { cls := .type "slice", data := .fields #[partValue (l.map (·, t₁)), partValue (u.map (·, t₂)), .none] }))
    have e := slice_cut x l u
    unfold Txt.slice at e
    unfold sliceMade slicePicked
    simp only [Option.map_none, Option.getD_none, Option.map_map]
    have i1 : (Option.map ((fun x => x.fst) ∘ fun x => (x, t₁)) l) = l := by cases l <;> rfl
    have i2 : (Option.map ((fun x => x.fst) ∘ fun x => (x, t₂)) u) = u := by cases u <;> rfl
    rw [i1, i2]
    split
    · rename_i q
      rw [if_pos q] at e
      exact ⟨K, t, by rw [← e]⟩
    · rename_i q
      rw [if_neg q] at e
      refine ⟨?_, K.trans (Kp.toks _), _, by rw [← e]⟩
      have := Txt.slice_le x l u
      unfold Txt.slice at this
      rw [if_neg q] at this
      omega) ht

/-- an item of a text -/
theorem EvE.stritem {v e : Expr} {pos : Pos} {x : Str} {i : Int} {c : Nat} (hv : EvE (model prog w) A env v (.str x) h) (he : EvE (model prog w) A env e (.int i) h)
    (hi : 0 ≤ i) (hc : x.cps.toList[i.toNat]? = some c) (hz : x.length ≤ sizeLine)
    (hs : ∀ o k, subscripted e false o k = operate [o, k] (getItem o k) := by intro _ _; with_unfolding_all rfl) : EvE (model prog w) A env (.Subscript v e pos) (.str ⟨#[c]⟩) h := fun s k =>
  Subscript_ ((hv s k).go fun o s₁ k₁ ho => (he s₁ (stays_trans k k₁.stays)).go fun a s₂ k₂ ha => by
    obtain ⟨t, rfl⟩ := ho; obtain ⟨u, rfl⟩ := ha
    have hlt : i.toNat < x.cps.size := by
      have := List.getElem?_eq_some_iff.mp hc
      obtain ⟨h1, _⟩ := this; simpa using h1
    have hz' : (x.cps.size : Nat) ≤ 16777216 := by rw [sizeLine_eq] at hz; exact hz
    refine tail_any (typeIs_str _ _ _) F.slot_str_getitem.lookup (getItem_str ?_ ?_ ⟨(k₁.trans k₂).trans (Kp.toks _), _, rfl⟩) (hs _ _)
    · have h1 : ¬ i < -(2 ^ 63 : Int) := by omega
      have h2 : ¬ i ≥ (2 ^ 63 : Int) := by omega
      simp only [Bool.or_eq_false_iff, decide_eq_false_iff_not]; exact ⟨h1, h2⟩
    · have e : seqIndex? i x.length = some i.toNat := by
        unfold seqIndex?
        simp only [Str.length]
        (repeat' split) <;> first | rfl | (exfalso; omega) | omega | (simp_all; try omega)
      rw [e, Option.bind_some]
      simpa using hc)

theorem isList_keep {h h' : Heap} {l : Addr} {it : Array Value} (k : h.StaysIn h') (x : h.IsList l it) : h'.IsList l it := isList_up (Heap.UpToSlots.of_keeps k) x

/-- an item of a list of texts -/
theorem EvE.lstritem {v e : Expr} {pos : Pos} {xs : List Str} {i : Int} {x : Str} (hv : EvE (model prog w) A env v (.lstr xs) h) (he : EvE (model prog w) A env e (.int i) h)
    (hi : 0 ≤ i) (hfit : i < 2 ^ 63) (hc : xs[i.toNat]? = some x)
    (hs : ∀ o k, subscripted e false o k = operate [o, k] (getItem o k) := by intro _ _; with_unfolding_all rfl) : EvE (model prog w) A env (.Subscript v e pos) (.str x) h := fun s k =>
  Subscript_ ((hv s k).go fun o s₁ k₁ ho => (he s₁ (stays_trans k k₁.stays)).go fun a s₂ k₂ ha => by
    obtain ⟨l, vs, rfl, hl, ht⟩ := ho; obtain ⟨u, rfl⟩ := ha
    obtain ⟨t, hx⟩ := ht.at hc
    exact item_listR (isList_keep k₂.stays hl) hi hfit (by simpa using hx) ⟨k₁.trans k₂, t, rfl⟩ (hs _ _))
theorem EvE.lintitem {v e : Expr} {pos : Pos} {xs : List Int} {i : Int} {x : Int} (hv : EvE (model prog w) A env v (.lint xs) h) (he : EvE (model prog w) A env e (.int i) h)
    (hi : 0 ≤ i) (hfit : i < 2 ^ 63) (hc : xs[i.toNat]? = some x)
    (hs : ∀ o k, subscripted e false o k = operate [o, k] (getItem o k) := by intro _ _; with_unfolding_all rfl) : EvE (model prog w) A env (.Subscript v e pos) (.int x) h := fun s k =>
  Subscript_ ((hv s k).go fun o s₁ k₁ ho => (he s₁ (stays_trans k k₁.stays)).go fun a s₂ k₂ ha => by
    obtain ⟨l, vs, rfl, hl, ht⟩ := ho; obtain ⟨u, rfl⟩ := ha
    obtain ⟨t, hx⟩ := ht.get _ _ hc
    exact item_listR (isList_keep k₂.stays hl) hi hfit (by simpa using hx) ⟨k₁.trans k₂, t, rfl⟩ (hs _ _))

theorem isPart_of {i : Option Int} {t : Tok} : IsPart (partValue (i.map (·, t))) i := by
  cases i with
  | none => exact .none
  | some j => exact .int j t
theorem StrsAre.cut {vs : List Value} {xs : List Str} (hi : StrsAre vs xs) (l u : Option Int) : StrsAre (slicePick vs.toArray l u none).toList (Mine.cut xs l u) := by
  rw [slicePick_plain]
  unfold Mine.cut
  simp only [List.size_toArray, hi.len_eq]
  exact (hi.drop' _).take' _
theorem IntsAre.cut {vs : List Value} {xs : List Int} (hi : IntsAre vs xs) (l u : Option Int) : IntsAre (slicePick vs.toArray l u none).toList (Mine.cut xs l u) := by
  rw [slicePick_plain]
  unfold Mine.cut
  simp only [List.size_toArray, hi.length]
  exact (hi.drop _).take _

theorem EvE.lstrslice {v : Expr} {lo hi : Option Expr} {p pos : Pos} {xs : List Str} {l u : Option Int} (hv : EvE (model prog w) A env v (.lstr xs) h) (hl : EvP (model prog w) A env lo l h) (hu : EvP (model prog w) A env hi u h)
    (hz : xs.length ≤ sizeLine) (ht : ∀ o r, letTemporaryGo v o r = pure () := by intro o r; cases o <;> rfl) : EvE (model prog w) A env (.Subscript v (.Slice lo hi .none p) pos) (.pl "list" (cut xs l u)) h := fun s k =>
  wpAny_Subscript_list_slice ((hv s k).go fun o s₁ k₁ ho => (hl s₁ (stays_trans k k₁.stays)).go fun a s₂ k₂ ha => (hu s₂ (stays_trans k (k₁.trans k₂).stays)).go fun b s₃ k₃ hb => by
    obtain ⟨D, vs, rfl, hD, hi⟩ := ho; obtain ⟨t₁, rfl⟩ := ha; obtain ⟨t₂, rfl⟩ := hb
    refine ⟨D, vs.toArray, l, u, rfl, isList_keep (k₂.trans k₃).stays hD, by rw [List.size_toArray, hi.len_eq]; exact hz, isPart_of, isPart_of, ((k₁.trans k₂).trans k₃).trans (Kp.mk0 (stays_trans (stays_push _) (stays_push _))), ?_⟩
    refine ⟨_, (slicePick vs.toArray l u none).toList, 0, #[], rfl, ?_, StrsAre.cut hi l u⟩
    rw [← Heap.size_push s₃.heap { cls := .type "slice", data := .fields #[partValue (l.map (·, t₁)), partValue (u.map (·, t₂)), .none] }]
    exact Heap.get?_push_size _ rfl) ht
theorem EvE.lintslice {v : Expr} {lo hi : Option Expr} {p pos : Pos} {xs : List Int} {l u : Option Int} (hv : EvE (model prog w) A env v (.lint xs) h) (hl : EvP (model prog w) A env lo l h) (hu : EvP (model prog w) A env hi u h)
    (hz : xs.length ≤ sizeLine) (ht : ∀ o r, letTemporaryGo v o r = pure () := by intro o r; cases o <;> rfl) : EvE (model prog w) A env (.Subscript v (.Slice lo hi .none p) pos) (.lint (cut xs l u)) h := fun s k =>
  wpAny_Subscript_list_slice ((hv s k).go fun o s₁ k₁ ho => (hl s₁ (stays_trans k k₁.stays)).go fun a s₂ k₂ ha => (hu s₂ (stays_trans k (k₁.trans k₂).stays)).go fun b s₃ k₃ hb => by
    obtain ⟨D, vs, rfl, hD, hi⟩ := ho; obtain ⟨t₁, rfl⟩ := ha; obtain ⟨t₂, rfl⟩ := hb
    refine ⟨D, vs.toArray, l, u, rfl, isList_keep (k₂.trans k₃).stays hD, by rw [List.size_toArray, hi.length]; exact hz, isPart_of, isPart_of, ((k₁.trans k₂).trans k₃).trans (Kp.mk0 (stays_trans (stays_push _) (stays_push _))), ?_⟩
    exact ⟨_, (slicePick vs.toArray l u none).toList, rfl, ⟨_, by rw [← Heap.size_push s₃.heap { cls := .type "slice", data := .fields #[partValue (l.map (·, t₁)), partValue (u.map (·, t₂)), .none] }]; exact Heap.get?_push_size _ rfl, rfl, 0, by simp⟩, IntsAre.cut hi l u⟩) ht

-- operations on values
theorem op_add_strs {xs ys : List Str} {a b : Value} {s : Shared} (hz : xs.length + ys.length ≤ sizeLine) (ha : (D.lstr xs).At a s.heap) (hb : (D.lstr ys).At b s.heap) : Ev (model prog w) A (binaryOp .Add a b) (D.pl "list" (xs ++ ys)).At s := by
  obtain ⟨l, vs, rfl, hl, hi⟩ := ha; obtain ⟨l', ws, rfl, hl', hi'⟩ := hb
  obtain ⟨⟨cls, dd, data, sl⟩, ho, hc, n, hd⟩ := id hl
  obtain ⟨⟨cls2, dd2, data2, sl2⟩, ho2, hc2, n2, hd2⟩ := id hl'
  simp only at hc hd hc2 hd2
  subst hc hd hc2 hd2
  have e : vs.toArray ++ ws.toArray = (vs ++ ws).toArray := by simp
  refine concat_meets ⟨_, ho, rfl⟩ ⟨_, ho2, rfl⟩ noFill_list_add seq_list_add PySem.F.slot_list_add PySem.F.entry_list_add (PySem.F.args_list_add_2 _ _) (list_addW l l' vs.toArray ws.toArray n n2 dd dd2 sl sl2 (by simpa [hi.len_eq, hi'.len_eq] using hz)) ⟨ho, ho2, ?_⟩
  rw [e]
  exact ⟨Kp.mk0 (stays_push _), _, vs ++ ws, 0, #[], rfl, Heap.get?_push_size _ rfl, hi.append' hi'⟩
theorem op_ne_strs {xs ys : List Str} {a b : Value} {s : Shared} (hu : A.units < cLine) (ha : (D.lstr xs).At a s.heap) (hb : (D.lstr ys).At b s.heap) : Ev (model prog w) A (compareOp .NotEq a b) (D.val (.bool (xs != ys))).At s := by
  obtain ⟨l, vs, rfl, hl, hi⟩ := ha; obtain ⟨l', ws, rfl, hl', hi'⟩ := hb
  by_cases hsz : vs.length = ws.length
  · have e : (xs != ys) = !(List.range vs.toArray.size).all (fun j => xs[j]? == ys[j]?) := by
      rw [List.size_toArray]
      have h1 := hi.len_eq
      have h2 := hi'.len_eq
      by_cases q : xs = ys
      · subst q; simp
      · have : (xs != ys) = true := by simpa using q
        rw [this]
        symm
        simp only [Bool.not_eq_true', List.all_eq_false]
        apply Classical.byContradiction
        intro hn
        apply q
        apply List.ext_getElem?
        intro i
        by_cases hlt : i < vs.length
        · apply Classical.byContradiction
          intro hne
          exact hn ⟨i, List.mem_range.mpr hlt, by simpa using hne⟩
        · rw [List.getElem?_eq_none (by omega), List.getElem?_eq_none (by omega)]
    have := SeqAt.RcNeAt.lists (A := A) (e := fun j => xs[j]? == ys[j]?) hl hl' (by simpa using hsz) hu fun j h1 h2 => by
      have h1' : j < vs.length := by simpa using h1
      have h2' : j < ws.length := by simpa using h2
      obtain ⟨y, t, e1, e2⟩ := hi.item j vs[j] (by simp)
      obtain ⟨z, u, e3, e4⟩ := hi'.item j ws[j] (by simp)
      have := SeqAt.EqAt.str_str (A := A.in1) (s := s) y t z u
      simp only [List.getElem_toArray, e1, e2, e3, e4]
      simpa using this
    exact cmp_ofNotEq (this prog w _ _ ⟨Kp.refl _, by rw [e]; rfl⟩)
  · have := SeqAt.RcNeAt.lists_lengths (A := A) hl hl' (by simpa using hsz) hu
    refine cmp_ofNotEq (this prog w _ _ ⟨Kp.refl _, ?_⟩)
    have : (xs != ys) = true := by
      have h1 := hi.len_eq
      have h2 := hi'.len_eq
      simp only [bne_iff_ne, ne_eq]
      rintro rfl
      omega
    rw [this]; rfl
end
end Mine
namespace Mine

section
variable {prog : Program} {w : World} {A : Around} {env : Env} {h : Heap}

theorem EvT.and2 {x y : Expr} {pos : Pos} {a b : Bool} (hx : EvT (model prog w) A env x a h) (hy : a = true → EvT (model prog w) A env y b h) : EvT (model prog w) A env (.BoolOp .And [x, y] pos) (a && b) h := fun s k =>
  isTrue_and ((hx s k).go fun a' s₁ k₁ e => by
    subst e
    cases a' with
    | false => exact ⟨k₁, rfl⟩
    | true => exact isTrue_and ((hy rfl s₁ (stays_trans k k₁.stays)).go fun b' s₂ k₂ e => by
        subst e
        cases b' with
        | false => exact ⟨k₁.trans k₂, rfl⟩
        | true => exact isTrue_and_nil ⟨k₁.trans k₂, rfl⟩))
theorem EvT.or2 {x y : Expr} {pos : Pos} {a b : Bool} (hx : EvT (model prog w) A env x a h) (hy : a = false → EvT (model prog w) A env y b h) : EvT (model prog w) A env (.BoolOp .Or [x, y] pos) (a || b) h := fun s k =>
  isTrue_or ((hx s k).go fun a' s₁ k₁ e => by
    subst e
    cases a' with
    | true => exact ⟨k₁, rfl⟩
    | false => exact isTrue_or ((hy rfl s₁ (stays_trans k k₁.stays)).go fun b' s₂ k₂ e => by
        subst e
        cases b' with
        | true => exact ⟨k₁.trans k₂, rfl⟩
        | false => exact isTrue_or_nil ⟨k₁.trans k₂, rfl⟩))
theorem EvT.plain {e : Expr} {b : Bool} (he : EvE (model prog w) A env e (.val (.bool b)) h) (hp : ∀ whole, isTrue e env whole = (do let v ← whole; standAt e.pos; holding [v] (truthy v)) := by intro _; rfl) : EvT (model prog w) A env e b h := fun s k =>
  isTrue_plain ((he s k).go fun v s₁ k₁ e => by
    obtain rfl : v = .bool b := e
    exact wpAny_truthy_bool ⟨k₁, rfl⟩) (hp _)
theorem EvE.ifexp {t a b : Expr} {pos : Pos} {c : Bool} {d : D} (ht : EvT (model prog w) A env t c h) (ha : c = true → EvE (model prog w) A env a d h) (hb : c = false → EvE (model prog w) A env b d h) : EvE (model prog w) A env (.IfExp t a b pos) d h := fun s k =>
  IfExp_ ((ht s k).go fun c' s₁ k₁ e => by
    subst e
    cases c' with
    | true => exact (ha rfl s₁ (stays_trans k k₁.stays)).go fun v s₂ k₂ hv => ⟨k₁.trans k₂, hv⟩
    | false => exact (hb rfl s₁ (stays_trans k k₁.stays)).go fun v s₂ k₂ hv => ⟨k₁.trans k₂, hv⟩)

-- more operations on values
theorem op_add_int {i j : Int} {a b : Value} {s : Shared} (ha : (D.int i).At a s.heap) (hb : (D.int j).At b s.heap) : Ev (model prog w) A (binaryOp .Add a b) (D.int (i + j)).At s := by
  obtain ⟨t, rfl⟩ := ha; obtain ⟨u, rfl⟩ := hb
  exact add_int ⟨Kp.toks _, _, rfl⟩
theorem op_sub_int {i j : Int} {a b : Value} {s : Shared} (ha : (D.int i).At a s.heap) (hb : (D.int j).At b s.heap) : Ev (model prog w) A (binaryOp .Sub a b) (D.int (i - j)).At s := by
  obtain ⟨t, rfl⟩ := ha; obtain ⟨u, rfl⟩ := hb
  exact sub_int ⟨Kp.toks _, _, rfl⟩
theorem op_mod_int {i j : Int} {a b : Value} {s : Shared} (hj : j ≠ 0) (ha : (D.int i).At a s.heap) (hb : (D.int j).At b s.heap) : Ev (model prog w) A (binaryOp .Mod a b) (D.int (i.fmod j)).At s := by
  obtain ⟨t, rfl⟩ := ha; obtain ⟨u, rfl⟩ := hb
  exact mod_int hj ⟨Kp.toks _, _, rfl⟩
theorem op_div_int {i j : Int} {a b : Value} {s : Shared} (hj : j ≠ 0) (hp : Builtin.divisionGoesByPylong i j = false) (ha : (D.int i).At a s.heap) (hb : (D.int j).At b s.heap) : Ev (model prog w) A (binaryOp .FloorDiv a b) (D.int (i.fdiv j)).At s := by
  obtain ⟨t, rfl⟩ := ha; obtain ⟨u, rfl⟩ := hb
  exact floordiv_int hj ⟨Kp.toks _, _, rfl⟩ (.inl hp)
theorem op_lt_int {i j : Int} {a b : Value} {s : Shared} (ha : (D.int i).At a s.heap) (hb : (D.int j).At b s.heap) : Ev (model prog w) A (compareOp .Lt a b) (D.val (.bool (decide (i < j)))).At s := by
  obtain ⟨t, rfl⟩ := ha; obtain ⟨u, rfl⟩ := hb
  exact lt_int ⟨Kp.refl _, rfl⟩
theorem op_gt_int {i j : Int} {a b : Value} {s : Shared} (ha : (D.int i).At a s.heap) (hb : (D.int j).At b s.heap) : Ev (model prog w) A (compareOp .Gt a b) (D.val (.bool (decide (j < i)))).At s := by
  obtain ⟨t, rfl⟩ := ha; obtain ⟨u, rfl⟩ := hb
  exact gt_int ⟨Kp.refl _, rfl⟩
theorem op_is_none_str {x : Str} {a b : Value} {s : Shared} (ha : (D.str x).At a s.heap) (hb : (D.val .none).At b s.heap) : Ev (model prog w) A (compareOp .Is a b) (D.val (.bool false)).At s := by
  obtain ⟨t, rfl⟩ := ha; obtain rfl : b = .none := hb
  exact is_str_none ⟨Kp.refl _, rfl⟩
theorem op_is_none_none {a b : Value} {s : Shared} (ha : (D.val .none).At a s.heap) (hb : (D.val .none).At b s.heap) : Ev (model prog w) A (compareOp .Is a b) (D.val (.bool true)).At s := by
  obtain rfl : a = .none := ha; obtain rfl : b = .none := hb
  exact is_none_none ⟨Kp.refl _, rfl⟩

/-- a name that is a global, or a built-in -/
def GN (h : Heap) (x : Str) (v : Value) : Prop := ∃ mg, h.Ns mainGlobals mg ∧ (mg x = some v ∨ (mg x = none ∧ ∃ mb, h.Ns builtinsNs mb ∧ mb x = some v))
theorem GN.mono {h h' : Heap} {x : Str} {v : Value} (g : GN h x v) (k : h.StaysIn h') : GN h' x v := by
  obtain ⟨mg, n, z⟩ := g
  refine ⟨mg, n.keeps k, z.imp id fun ⟨a, mb, b, c⟩ => ⟨a, mb, b.keeps k, c⟩⟩
theorem GN.nm {x : Str} {v : Value} (g : GN h x v) (hg : env.globals = mainGlobals) (hb : env.builtins = builtinsNs) (hk : env.scope.kind = .function) (hx : env.kindOf x = some .globalImplicit) : Nm (model prog w) A env x (.val v) h := by
  intro s k
  obtain ⟨mg, n, z⟩ := g.mono k
  have step : wpAny (model prog w) A (loadGlobal env x) (fun v_1 s' => s' = s ∧ (D.val v).At v_1 s.heap) (fun _ _ => False) s := by
    rcases z with z | ⟨z, mb, nb, zb⟩
    · exact Calls.loadGlobal_global (hg ▸ n) z ⟨rfl, rfl⟩
    · exact Calls.loadGlobal_builtin (hg ▸ n) z (hb ▸ nb) zb ⟨rfl, rfl⟩
  unfold loadName
  simp only [Env.blockKind, hk, hx, ScopeKind.isAnnotationScope, Bool.false_and, Bool.false_eq_true, if_false]
  exact step
end

section
variable {prog : Program} {w : World} {A : Around} {env : Env} {h : Heap}
theorem args1 {a : Expr} {d : D} {pos : Pos} (ha : EvE (model prog w) A env a d h) (he : starEach [a] env = (false, eval a env) :: starEach [] env := by rfl) :
    ∀ s, h.StaysIn s.heap → Ev (model prog w) A (spliced (backTo pos (starEach [a] env))) (fun vs h' => ∃ v, vs = [v] ∧ d.At v h') s := fun s k =>
  args_cons ((ha s k).go fun v s₁ k₁ hv => args_nil ⟨k₁, v, rfl, hv⟩) he
theorem args2 {a b : Expr} {d e : D} {pos : Pos} (ha : EvE (model prog w) A env a d h) (hb : EvE (model prog w) A env b e h)
    (he : starEach [a, b] env = (false, eval a env) :: starEach [b] env := by rfl) (he' : starEach [b] env = (false, eval b env) :: starEach [] env := by rfl) :
    ∀ s, h.StaysIn s.heap → Ev (model prog w) A (spliced (backTo pos (starEach [a, b] env))) (fun vs h' => ∃ v u, vs = [v, u] ∧ d.At v h' ∧ e.At u h') s := fun s k =>
  args_cons ((ha s k).go fun v s₁ k₁ hv => args_cons ((hb s₁ (stays_trans k k₁.stays)).go fun u s₂ k₂ hu => args_nil ⟨k₁.trans k₂, v, u, rfl, hv.keep k₂.stays, hu⟩) he') he

theorem EvE.call1 {f : Addr} {o : Obj} {fd : FuncData} {x : Str} {p pos : Pos} {a : Expr} {d r : D} (hf : Nm (model prog w) A env x (.val (.ref f)) h) (ho : h.get? f = some o) (hd : o.data = .func fd) (ha : EvE (model prog w) A env a d h)
    (hs : ∀ s v, h.StaysIn s.heap → d.At v s.heap → Ev (model prog w) A (call (.ref f) [v]) r.At s) (hn : (x == ("__debug__" : Str)) = false := by decide)
    (he : starEach [a] env = (false, eval a env) :: starEach [] env := by rfl)
    (hc : eval (.Call (.Name x p) [a] [] pos) env = (do callWith pos (← eval (.Name x p) env) [] (backTo pos (starEach [a] env)) (backToKw pos (keywordEach [] env))) := by rfl) :
    EvE (model prog w) A env (.Call (.Name x p) [a] [] pos) r h := fun s k =>
  Call_ ((EvE.name hf hn s k).go fun v s₁ k₁ hv => by
    obtain rfl : v = .ref f := hv
    exact callWith_def hd ((args1 ha he s₁ (stays_trans k k₁.stays)).go fun vs s₂ k₂ hvs => by
      obtain ⟨v, rfl, hv⟩ := hvs
      have K := stays_trans k (k₁.trans k₂).stays
      exact ⟨K _ _ ho, (hs s₂ v K hv).go fun u s₃ k₃ hu => ⟨(k₁.trans k₂).trans k₃, hu⟩⟩) he) hc
theorem EvE.call2 {f : Addr} {o : Obj} {fd : FuncData} {x : Str} {p pos : Pos} {a b : Expr} {d e r : D} (hf : Nm (model prog w) A env x (.val (.ref f)) h) (ho : h.get? f = some o) (hd : o.data = .func fd) (ha : EvE (model prog w) A env a d h) (hb : EvE (model prog w) A env b e h)
    (hs : ∀ s v u, h.StaysIn s.heap → d.At v s.heap → e.At u s.heap → Ev (model prog w) A (call (.ref f) [v, u]) r.At s) (hn : (x == ("__debug__" : Str)) = false := by decide)
    (he : starEach [a, b] env = (false, eval a env) :: starEach [b] env := by rfl) (he' : starEach [b] env = (false, eval b env) :: starEach [] env := by rfl)
    (hc : eval (.Call (.Name x p) [a, b] [] pos) env = (do callWith pos (← eval (.Name x p) env) [] (backTo pos (starEach [a, b] env)) (backToKw pos (keywordEach [] env))) := by rfl) :
    EvE (model prog w) A env (.Call (.Name x p) [a, b] [] pos) r h := fun s k =>
  Call_ ((EvE.name hf hn s k).go fun v s₁ k₁ hv => by
    obtain rfl : v = .ref f := hv
    exact callWith_def hd ((args2 ha hb he he' s₁ (stays_trans k k₁.stays)).go fun vs s₂ k₂ hvs => by
      obtain ⟨v, u, rfl, hv, hu⟩ := hvs
      have K := stays_trans k (k₁.trans k₂).stays
      exact ⟨K _ _ ho, (hs s₂ v u K hv hu).go fun u s₃ k₃ hu => ⟨(k₁.trans k₂).trans k₃, hu⟩⟩) he) hc
/-- a built-in function of one argument -/
theorem EvE.bcall1 {id : String} {x : Str} {p pos : Pos} {a : Expr} {d r : D} (hf : Nm (model prog w) A env x (.val (.builtin id)) h) (ha : EvE (model prog w) A env a d h)
    (hs : ∀ s v, h.StaysIn s.heap → d.At v s.heap → Ev (model prog w) A (call (.builtin id) [v]) r.At s) (hn : (x == ("__debug__" : Str)) = false := by decide)
    (he : starEach [a] env = (false, eval a env) :: starEach [] env := by rfl)
    (hc : eval (.Call (.Name x p) [a] [] pos) env = (do callWith pos (← eval (.Name x p) env) [] (backTo pos (starEach [a] env)) (backToKw pos (keywordEach [] env))) := by rfl) :
    EvE (model prog w) A env (.Call (.Name x p) [a] [] pos) r h := fun s k =>
  Call_ ((EvE.name hf hn s k).go fun v s₁ k₁ hv => by
    obtain rfl : v = .builtin id := hv
    exact callWith_builtin1 ((args1 ha he s₁ (stays_trans k k₁.stays)).go fun vs s₂ k₂ hvs => by
      obtain ⟨v, rfl, hv⟩ := hvs
      exact (hs s₂ v (stays_trans k (k₁.trans k₂).stays) hv).go fun u s₃ k₃ hu => ⟨(k₁.trans k₂).trans k₃, hu⟩) he) hc
/-- a built-in type of one argument -/
theorem EvE.tcall1 {T : String} {x : Str} {p pos : Pos} {a : Expr} {d r : D} (hf : Nm (model prog w) A env x (.val (.type T)) h) (ha : EvE (model prog w) A env a d h)
    (hs : ∀ s v, h.StaysIn s.heap → d.At v s.heap → Ev (model prog w) A (call (.type T) [v]) r.At s) (hn : (x == ("__debug__" : Str)) = false := by decide)
    (he : starEach [a] env = (false, eval a env) :: starEach [] env := by rfl)
    (hc : eval (.Call (.Name x p) [a] [] pos) env = (do callWith pos (← eval (.Name x p) env) [] (backTo pos (starEach [a] env)) (backToKw pos (keywordEach [] env))) := by rfl) :
    EvE (model prog w) A env (.Call (.Name x p) [a] [] pos) r h := fun s k =>
  Call_ ((EvE.name hf hn s k).go fun v s₁ k₁ hv => by
    obtain rfl : v = .type T := hv
    exact callWith_type1 ((args1 ha he s₁ (stays_trans k k₁.stays)).go fun vs s₂ k₂ hvs => by
      obtain ⟨v, rfl, hv⟩ := hvs
      exact (hs s₂ v (stays_trans k (k₁.trans k₂).stays) hv).go fun u s₃ k₃ hu => ⟨(k₁.trans k₂).trans k₃, hu⟩) he) hc
theorem op_len_str {x : Str} {v : Value} {s : Shared} (hz : x.length ≤ sizeLine) (hv : (D.str x).At v s.heap) : Ev (model prog w) A (call (.builtin "len") [v]) (D.int x.length).At s := by
  obtain ⟨t, rfl⟩ := hv
  exact len_str (by rw [sizeLine_eq] at hz; omega) ⟨Kp.toks _, _, rfl⟩
theorem op_len_strs {xs : List Str} {v : Value} {s : Shared} (hz : xs.length ≤ sizeLine) (hv : (D.lstr xs).At v s.heap) : Ev (model prog w) A (call (.builtin "len") [v]) (D.int xs.length).At s := by
  obtain ⟨l, vs, rfl, hl, hi⟩ := hv
  have := hi.len_eq
  exact len_list hl (by rw [List.size_toArray]; rw [sizeLine_eq] at hz; omega) ⟨Kp.toks _, _, by rw [List.size_toArray, this]⟩
theorem op_len_ints {xs : List Int} {v : Value} {s : Shared} (hz : xs.length ≤ sizeLine) (hv : (D.lint xs).At v s.heap) : Ev (model prog w) A (call (.builtin "len") [v]) (D.int xs.length).At s := by
  obtain ⟨l, vs, rfl, hl, hi⟩ := hv
  have := hi.length
  exact len_list hl (by rw [List.size_toArray]; rw [sizeLine_eq] at hz; omega) ⟨Kp.toks _, _, by rw [List.size_toArray, this]⟩
end

/-- a def that stands -/
structure Fn (h : Heap) (f : Addr) (fd : FuncData) : Prop where
  obj : ∃ o, h.get? f = some o ∧ o.data = .func fd
  lim : h.NoLimit
  code : h.CodeRec fd.code fd.qualname
theorem Fn.mono {h h' : Heap} {f : Addr} {fd : FuncData} (x : Fn h f fd) (k : h.StaysIn h') : Fn h' f fd :=
  ⟨let ⟨o, a, b⟩ := x.obj; ⟨o, k _ _ a, b⟩, x.lim.keeps k, x.code.keeps k⟩

section
variable {prog : Program} {w : World} {A : Around}
/-- a call of a def of plain locals that raises nothing -/
theorem call_fn {s : Shared} {f : Addr} {fd : FuncData} {body : List Stmt} {args : List Value} {binds : List (Str × Value)} {Γ : List (Str × D)} {P : Value → Heap → Prop}
    (X : Fn s.heap f fd) (hd : A.depth < recursionLimit) (hbody : fd.body = .stmts body) (hbind : BindsTo s fd ⟨args, []⟩ binds)
    (hcell : ∀ x ∈ fd.scope.names, x.2 ≠ .cell) (hloc : ∀ x ∈ binds, fd.scope.names.lookup x.1 = some .local)
    (hΓ : ∀ x d, Γ.lookup x = some d → ∃ v, binds.reverse.lookup x = some v ∧ d.At v s.heap)
    (k : ∀ L s₁, s.heap.get? L = none → Loc s L Γ s₁ → wpAny (model prog w) (A.deeper (callEnv fd L f)) (execs body (callEnv fd L f)) (fun fl s' => ∃ v, fl = .ret v ∧ Kp s s' ∧ P v s'.heap) (fun _ _ => False) s₁)
    (hco : fd.scope.isCoroutine = false := by rfl) (hgen : fd.scope.isGenerator = false := by rfl) (hk : fd.scope.kind = .function := by rfl) :
    Ev (model prog w) A (call (.ref f) args) P s := by
  obtain ⟨o, ho, hdata⟩ := X.obj
  refine wpAny_call (codeAny_call_def hd ho hdata X.lim X.code hbody hbind hcell hloc (fun h₀ hns hkeep => ?_) hco hgen hk)
  have hL : s.heap.get? s.heap.objs.size = none := Heap.get?_none_of_le (Nat.le_refl _)
  have X₁ : Loc s s.heap.objs.size Γ { s with heap := h₀, toks := s.toks + binds.length } :=
    ⟨⟨_, hns, fun x d e => let ⟨v, a, b⟩ := hΓ x d e; ⟨v, a, b.keep hkeep⟩⟩, fun b o _ e => hkeep b o e, h₀, _, rfl⟩
  refine wpAny_mono (k _ _ hL X₁) (fun fl s' hf => ?_) (fun _ _ f => f.elim)
  obtain ⟨v, rfl, hk, hp⟩ := hf
  exact ⟨hk, hp⟩
end
end Mine
namespace Mine

def ofV : Value → D
  | .str x _ => .str x
  | .int i _ => .int i
  | v => .val v
theorem ofV_of {d : D} {v : Value} {h : Heap} (hs : d.si = true) (x : d.At v h) : ofV v = d := by
  cases d <;> first | (obtain ⟨t, rfl⟩ := x; rfl) | (exact (Bool.false_ne_true hs).elim)
theorem at_ofV {d : D} {v : Value} {h : Heap} (hs : d.si = true) (x : ofV v = d) : d.At v h := by
  subst x
  cases v <;> first | exact ⟨_, rfl⟩ | (exact (Bool.false_ne_true hs).elim)
theorem strsAre_of : ∀ {vs : List Value} {xs : List Str}, vs.map ofV = xs.map D.str → StrsAre vs xs
  | [], [], _ => .nil
  | [], _ :: _, e => by cases e
  | _ :: _, [], e => by cases e
  | v :: vs, x :: xs, e => by
    simp only [List.map_cons, List.cons.injEq] at e
    obtain ⟨t, rfl⟩ := at_ofV (h := {}) (d := .str x) rfl e.1
    exact .cons x t (strsAre_of e.2)
theorem intsAre_of : ∀ {vs : List Value} {xs : List Int}, vs.map ofV = xs.map D.int → IntsAre vs xs
  | [], [], _ => .nil
  | [], _ :: _, e => by cases e
  | _ :: _, [], e => by cases e
  | v :: vs, x :: xs, e => by
    simp only [List.map_cons, List.cons.injEq] at e
    obtain ⟨t, rfl⟩ := at_ofV (h := {}) (d := .int x) rfl e.1
    exact .cons x t (intsAre_of e.2)

def Tests (M : Model) (A : Around) (env : Env) (ifs : List Expr) (b : Bool) (h : Heap) : Prop := ∀ s, h.StaysIn s.heap →
  Ev M A (forIn ifs true fun c r => if r = true then do let ok ← isTrue c env (eval c env); pure (ForInStep.yield ok) else pure (ForInStep.yield r)) (fun ok _ => ok = b) s

theorem lookup_relabel_free {env : Env} (hk : env.scope.kind = .function) {x : Str} (he : env.kindOf x = some .cell) : ∀ {names : List (Str × NameKind)}, names.lookup x = some .free →
    (names.map fun (n, k) => if (k == NameKind.free && env.scope.kind == .function && env.kindOf n == some .cell) then (n, NameKind.cell) else (n, k)).lookup x = some .cell
  | [], h => by simp at h
  | (n, k) :: r, h => by
    have ih := @lookup_relabel_free env hk x he r
    show List.lookup x ((if (k == NameKind.free && env.scope.kind == .function && env.kindOf n == some .cell) = true then (n, NameKind.cell) else (n, k)) :: _) = _
    cases hx : x == n with
    | true =>
      simp only [List.lookup_cons, hx] at h
      cases h
      have := eq_of_beq hx
      subst this
      simp [hk, he]
    | false =>
      simp only [List.lookup_cons, hx] at h
      by_cases hc : (k == NameKind.free && env.scope.kind == .function && env.kindOf n == some .cell) = true
      · rw [if_pos hc]; simp only [List.lookup_cons, hx]; exact ih h
      · rw [if_neg hc]; simp only [List.lookup_cons, hx]; exact ih h
theorem lookup_relabel_glob {env : Env} : ∀ {names : List (Str × NameKind)} {x : Str}, names.lookup x = some .globalImplicit →
    (names.map fun (n, k) => if (k == NameKind.free && env.scope.kind == .function && env.kindOf n == some .cell) then (n, NameKind.cell) else (n, k)).lookup x = some .globalImplicit
  | [], _, h => by simp at h
  | (n, k) :: r, x, h => by
    have ih := @lookup_relabel_glob env r x
    show List.lookup x ((if (k == NameKind.free && env.scope.kind == .function && env.kindOf n == some .cell) = true then (n, NameKind.cell) else (n, k)) :: _) = _
    cases hx : x == n with
    | true =>
      simp only [List.lookup_cons, hx] at h
      cases h
      simp [List.lookup_cons, hx]
    | false =>
      simp only [List.lookup_cons, hx] at h
      by_cases hc : (k == NameKind.free && env.scope.kind == .function && env.kindOf n == some .cell) = true
      · rw [if_pos hc]; simp only [List.lookup_cons, hx]; exact ih h
      · rw [if_neg hc]; simp only [List.lookup_cons, hx]; exact ih h

theorem paired_map {p : Value → Bool} {f : D → D} : ∀ {l : List Value} {ys : List Value}, Paired (fun v y => ofV y = f (ofV v)) l ys → ys.map ofV = (l.map ofV).map f
  | _, _, .nil => rfl
  | _, _, .cons h t => by
    have := paired_map (p := p) t
    simp [h, this]

section
variable {prog : Program} {w : World} {A : Around} {env : Env} {h : Heap}
theorem Tests.nil : Tests (model prog w) A env [] true h := fun s _ => wpAny_tests_nil ⟨Kp.refl _, rfl⟩
theorem Tests.one {t : Expr} {b : Bool} (ht : EvT (model prog w) A env t b h) : Tests (model prog w) A env [t] b h := fun s k => wpAny_tests_one (ht s k)

theorem comp_parts {elt : Expr} {x : Str} {ifs : List Expr} {scope : Scope} {cl : List (Str × Addr)} {items : List D} (p : D → Bool) (f : D → D)
    (hkind : scope.kind = .function) (hx : scope.names.lookup x = some .local) (hfs : ∀ a ∈ items, p a = true → (f a).si = true)
    (htest : ∀ a C h₃, a ∈ items → h.StaysIn h₃ → Nm (model prog w) A (compEnvC scope cl C env) x a h₃ → Tests (model prog w) A (compEnvC scope cl C env) ifs (p a) h₃)
    (helt : ∀ a C h₃, a ∈ items → p a = true → h.StaysIn h₃ → Nm (model prog w) A (compEnvC scope cl C env) x a h₃ → EvE (model prog w) A (compEnvC scope cl C env) elt (f a) h₃)
    {s₁ s₂ : Shared} {I : Addr} {P : Nat → Value → Prop} {hv : Heap} (k : h.StaysIn s₁.heap) (k₂ : Kp s₁ s₂) (hI : s₁.heap.get? I = none)
    (hP : ∀ i u, P i u → ∃ d, items[i]? = some d ∧ d.si = true ∧ d.At u hv) :
    QuietOnC prog w A env scope cl x ifs elt [I] P (fun v => p (ofV v)) (fun v y => ofV y = f (ofV v)) s₂ := by
  have up : ∀ s₃ : Shared, (∀ b o, b ∉ [I] → s₂.heap.get? b = some o → s₃.heap.get? b = some o) → h.StaysIn s₃.heap := fun s₃ hk b o e =>
    hk b o (fun hm => by simp only [List.mem_singleton] at hm; have := k b o e; rw [hm, hI] at this; cases this) (k₂.stays b o (k b o e))
  have nm : ∀ C a (s₃ : Shared) v m₃, s₃.heap.Ns C m₃ → m₃ x = some v → a.si = true → ofV v = a → Nm (model prog w) A (compEnvC scope cl C env) x a s₃.heap := fun C a s₃ v m₃ hn hm hs hva s₄ k₄ =>
    wpAny_loadName_local (by simp [compEnvC, relabel, hkind]) (lookup_relabel_local hx) (hn.keeps k₄) hm ⟨rfl, at_ofV hs hva⟩
  refine ⟨fun C i v s₃ m₃ E' hC hPv hn hm hk htk => ?_, fun C i v s₃ m₃ E' hC hPv hpv hn hm hk htk => ?_⟩
  · obtain ⟨a, ha, has, hav⟩ := hP i v hPv
    have hva := ofV_of has hav
    rw [hva]
    exact (htest a C s₃.heap (List.mem_of_getElem? ha) (up s₃ hk) (nm C a s₃ v m₃ hn hm has hva) s₃ (stays_refl _)).go fun ok s₄ k₄ e => ⟨e, k₄.ex⟩
  · obtain ⟨a, ha, has, hav⟩ := hP i v hPv
    have hva := ofV_of has hav
    rw [hva] at hpv ⊢
    exact (helt a C s₃.heap (List.mem_of_getElem? ha) hpv (up s₃ hk) (nm C a s₃ v m₃ hn hm has hva) s₃ (stays_refl _)).go fun y s₄ k₄ hy => ⟨ofV_of (hfs a (List.mem_of_getElem? ha) hpv) hy, k₄.ex⟩

theorem comp_items {items : List D} {p : D → Bool} {P : Nat → Value → Prop} {hv : Heap} {vs : List Value} (hP : ∀ i u, P i u → ∃ d, items[i]? = some d ∧ d.si = true ∧ d.At u hv) (hl : vs.length = items.length) (hvs : ∀ j v, vs[j]? = some v → P j v) :
    vs.map ofV = items ∧ (vs.filter fun v => p (ofV v)).map ofV = items.filter p := by
  have e : vs.map ofV = items := by
    apply List.ext_getElem?
    intro i
    rw [List.getElem?_map]
    cases hi : vs[i]? with
    | none => rw [List.getElem?_eq_none_iff] at hi; rw [List.getElem?_eq_none (by omega)]; rfl
    | some v =>
      obtain ⟨d, hd, hs, ha⟩ := hP i v (hvs i v hi)
      rw [hd, Option.map_some, ofV_of hs ha]
  refine ⟨e, ?_⟩
  rw [← e, List.filter_map]
  rfl

theorem EvE.compS {elt iter : Expr} {x : Str} {px pos : Pos} {ifs : List Expr} {scope : Scope} {cl : List (Str × Addr)} {out : D} {items : List D} (p : D → Bool) (f : D → D)
    (hh : A.handled = none) (hclos : closureFor scope env = pure cl) (hcell : ∀ y ∈ scope.names, y.2 ≠ .cell) (hkind : scope.kind = .function)
    (hnames : ∀ y ∈ scope.names, y.2 = .local → scope.names.lookup y.1 = some .local) (hx : scope.names.lookup x = some .local)
    (he : ∀ s, h.StaysIn s.heap → Ev (model prog w) A (eval iter env) (fun v h' => Src prog w items v h') s) (hz : items.length ≤ sizeLine) (hfs : ∀ a ∈ items, p a = true → (f a).si = true)
    (htest : ∀ a C h₃, a ∈ items → h.StaysIn h₃ → Nm (model prog w) A (compEnvC scope cl C env) x a h₃ → Tests (model prog w) A (compEnvC scope cl C env) ifs (p a) h₃)
    (helt : ∀ a C h₃, a ∈ items → p a = true → h.StaysIn h₃ → Nm (model prog w) A (compEnvC scope cl C env) x a h₃ → EvE (model prog w) A (compEnvC scope cl C env) elt (f a) h₃)
    (hout : ∀ l vs h', h'.IsList l (List.toArray vs) → h'.PlainList l (List.toArray vs) → vs.map ofV = (items.filter p).map f → out.At (.ref l) h')
    (hs : ∀ x, foldedSetIterable iter env x = pure x := by intro _; rfl) : EvE (model prog w) A env (.ListComp elt [⟨.Name x px, iter, ifs, 0⟩] scope pos) out h := fun s k =>
  wpAny_ListComp_free (fun v => p (ofV v)) (fun v y => ofV y = f (ofV v)) hclos hcell hkind hnames hx
    ((he s k).go fun xv s₁ k₁ hv => hv.it A s₁ _ _ hh (stays_refl _) fun I fp P St s₂ k₂ hI W hSt hfp hfd hP =>
      ⟨I, fp, [I], items.length, P, St, rfl, W, hz, hSt, hfp, comp_parts p f hkind hx hfs htest helt (stays_trans k k₁.stays) k₂ hI hP, fun D h' tk ys vs hD hl hpl hlen hPv hF hk => by
        obtain ⟨e1, e2⟩ := comp_items (p := p) hP hlen hPv
        have e3 := paired_map (p := fun v => p (ofV v)) hF
        rw [e2] at e3
        refine ⟨k₁.trans ?_, hout D ys.toList h' (by simpa using hl) (by simpa using hpl) e3⟩
        obtain ⟨h2, t2, rfl, kk⟩ := k₂
        exact ⟨h', tk, rfl, fun b o e => hk b o (fun hm => by simp only [List.mem_singleton] at hm; rw [hm, hI] at e; cases e) (kk b o e)⟩⟩) hs
theorem EvE.comp {elt iter : Expr} {x : Str} {px pos : Pos} {ifs : List Expr} {scope : Scope} {cl : List (Str × Addr)} {d out : D} {items : List D} (p : D → Bool) (f : D → D)
    (hh : A.handled = none) (hclos : closureFor scope env = pure cl) (hcell : ∀ y ∈ scope.names, y.2 ≠ .cell) (hkind : scope.kind = .function)
    (hnames : ∀ y ∈ scope.names, y.2 = .local → scope.names.lookup y.1 = some .local) (hx : scope.names.lookup x = some .local)
    (he : EvE (model prog w) A env iter d h) (hsrc : ∀ v h, d.At v h → Src prog w items v h) (hz : items.length ≤ sizeLine) (hfs : ∀ a ∈ items, p a = true → (f a).si = true)
    (htest : ∀ a C h₃, a ∈ items → h.StaysIn h₃ → Nm (model prog w) A (compEnvC scope cl C env) x a h₃ → Tests (model prog w) A (compEnvC scope cl C env) ifs (p a) h₃)
    (helt : ∀ a C h₃, a ∈ items → p a = true → h.StaysIn h₃ → Nm (model prog w) A (compEnvC scope cl C env) x a h₃ → EvE (model prog w) A (compEnvC scope cl C env) elt (f a) h₃)
    (hout : ∀ l vs h', h'.IsList l (List.toArray vs) → h'.PlainList l (List.toArray vs) → vs.map ofV = (items.filter p).map f → out.At (.ref l) h')
    (hs : ∀ x, foldedSetIterable iter env x = pure x := by intro _; rfl) : EvE (model prog w) A env (.ListComp elt [⟨.Name x px, iter, ifs, 0⟩] scope pos) out h :=
  EvE.compS p f hh hclos hcell hkind hnames hx (fun s k => (he s k).go fun v s' k' hv => ⟨k', hsrc v _ hv⟩) hz hfs htest helt hout hs
end
theorem out_strs {l : Addr} {vs : List Value} {h : Heap} {xs : List Str} (p : h.PlainList l (List.toArray vs)) (e : vs.map ofV = xs.map D.str) : (D.pl "list" xs).At (.ref l) h := by
  obtain ⟨n, e'⟩ := p
  exact ⟨l, vs, n, #[], rfl, e', strsAre_of e⟩
theorem out_ints {l : Addr} {vs : List Value} {h : Heap} {xs : List Int} (p : h.IsList l (List.toArray vs)) (e : vs.map ofV = xs.map D.int) : (D.lint xs).At (.ref l) h := ⟨l, vs, rfl, p, intsAre_of e⟩
end Mine
namespace Mine

-- the type map
theorem map_mro : mroOf (.type "map") = pure [.type "map", .type "object"] := by rw [mroOf_type]; kernel_rfl
theorem map_lookup_new : typeLookup (.type "map") "__new__" = pure (some (.builtin "map.__new__")) := by rw [typeLookup_type, builtinLookup_eq_fast]; kernel_rfl
theorem map_init : Slot "map" "__init__" "object.__init__" :=
  .of (owner := "object") (n := "__init__") (by rw [typeLookup_type, builtinLookup_eq_fast]; kernel_rfl) (by decide +kernel) (by decide +kernel) (by decide +kernel)
    (by first | exact .inl (by decide +kernel) | exact .inr (by decide +kernel)) (by rw [isSubtype_type]; kernel_rfl)
theorem map_sub : isSubtype (.type "map") (.type "map") = pure true := by rw [isSubtype_type]; kernel_rfl
theorem map_called : TypeCalled "map" "map.__new__" "object.__init__" :=
  ⟨by decide +kernel, by decide +kernel, ⟨_, _, map_mro⟩, madeBy_type map_mro map_lookup_new (by decide +kernel), by decide +kernel, map_sub, map_init⟩
theorem map_typeCall (a b : Value) : checkTypeCall "map" ⟨[a, b], []⟩ = pure () := by kernel_rfl
theorem map_newCall (a b : Value) : checkBuiltinCall "map.__new__" ⟨[.type "map", a, b], []⟩ = pure () := by kernel_rfl
theorem map_entry_new : entryFor table "map.__new__" = some Builtin.«map.__new__» := entryFor_of_tree (by kernel_rfl)
theorem map_entry_next : entryFor table "map.__next__" = some Builtin.«map.__next__» := entryFor_of_tree (by kernel_rfl)
theorem map_next : Slot "map" "__next__" "map.__next__" :=
  .of (owner := "map") (n := "__next__") (by rw [typeLookup_type, builtinLookup_eq_fast]; kernel_rfl) (by decide +kernel) (by decide +kernel) (by decide +kernel)
    (by first | exact .inl (by decide +kernel) | exact .inr (by decide +kernel)) (by rw [isSubtype_type]; kernel_rfl)
theorem map_iter : Slot "map" "__iter__" "map.__iter__" :=
  .of (owner := "map") (n := "__iter__") (by rw [typeLookup_type, builtinLookup_eq_fast]; kernel_rfl) (by decide +kernel) (by decide +kernel) (by decide +kernel)
    (by first | exact .inl (by decide +kernel) | exact .inr (by decide +kernel)) (by rw [isSubtype_type]; kernel_rfl)
theorem map_args_next (a : Value) : argsOk "map.__next__" ⟨[a], []⟩ := by unfold argsOk; kernel_rfl
theorem map_args_iter (a : Value) : argsOk "map.__iter__" ⟨[a], []⟩ := by unfold argsOk; kernel_rfl
theorem map_no_len : typeLookup (.type "map") "__len__" = pure none := by rw [typeLookup_type, builtinLookup_eq_fast]; kernel_rfl
theorem map_no_hint : typeLookup (.type "map") "__length_hint__" = pure none := by rw [typeLookup_type, builtinLookup_eq_fast]; kernel_rfl
theorem map_entry_iter : entryFor table "map.__iter__" = some Builtin.«dict_keyiterator.__iter__» :=
  entryFor_alias (id' := "dict_keyiterator.__iter__") (by kernel_rfl) rfl (by decide +kernel) (by kernel_rfl)

abbrev mapObj (T : Addr) (f : Value) : Obj := { cls := .type "map", data := .fields #[.ref T, f] }
abbrev tup1 (I : Addr) : Obj := { cls := .type "tuple", data := .seq #[.ref I] }
abbrev litObj (l : Addr) : Obj := { cls := .type "list_iterator", data := .fields #[.ref l, .int 0 0] }

theorem meets_map_new (f : Value) (l : Addr) (items : Array Value) :
    Meets (Builtin.«map.__new__» ⟨[.type "map", f, .ref l], []⟩) (fun _ R s => s.heap.IsList l items ∧
      R (.ok (.ret (.ref (s.heap.objs.size + 2)))) { s with heap := ((s.heap.push (litObj l)).push (tup1 s.heap.objs.size)).push (mapObj (s.heap.objs.size + 1) f) }) :=
  .of_wp fun prog w A R s h => by
    obtain ⟨hp, g, d, tk, os⟩ := s
    obtain ⟨hL, h⟩ := h
    have hsub := map_sub
    have hL' : Heap.IsList (Shared.heap ⟨hp, g, d, tk, os⟩) l items := hL
    wp_walk using wpAny_pyIter_list hL'
    refine ⟨_, rfl, ?_⟩
    simpa [Heap.size_push] using h

section
variable {prog : Program} {w : World} {A : Around} {E : Value → Shared → Prop} {s : Shared}
theorem call_map {f : Value} {l : Addr} {items : Array Value} {Q : Value → Shared → Prop} (hl : s.heap.IsList l items)
    (h : ∀ h', h'.get? (s.heap.objs.size + 2) = some (mapObj (s.heap.objs.size + 1) f) → h'.get? (s.heap.objs.size + 1) = some (tup1 s.heap.objs.size) → h'.IsListIter s.heap.objs.size l 0 → s.heap.StaysIn h' → Q (.ref (s.heap.objs.size + 2)) { s with heap := h' }) :
    wpAny (model prog w) A (call (.type "map") [f, .ref l]) Q E s := by
  refine callType_new map_called (by decide) (map_typeCall _ _) (map_newCall _ _) (fun obj => F.args_object_init_3 obj _ _) map_entry_new (meets_map_new f l items) ⟨hl, ?_⟩
  have z1 : (s.heap.push (litObj l)).objs.size = s.heap.objs.size + 1 := Heap.size_push ..
  have z2 : ((s.heap.push (litObj l)).push (tup1 s.heap.objs.size)).objs.size = s.heap.objs.size + 2 := by rw [Heap.size_push, z1]
  have e3 := Heap.get?_push_size ((s.heap.push (litObj l)).push (tup1 s.heap.objs.size)) (o := mapObj (s.heap.objs.size + 1) f) rfl
  rw [z2] at e3
  have e2 := Heap.get?_push_size (s.heap.push (litObj l)) (o := tup1 s.heap.objs.size) rfl
  rw [z1] at e2
  refine ⟨⟨_, e3, rfl⟩, h _ e3 (Heap.get?_push_of_some _ e2) ⟨_, Heap.get?_push_of_some _ (Heap.get?_push_of_some _ (Heap.get?_push_size _ rfl)), rfl, rfl⟩ (stays_trans (stays_trans (stays_push _) (stays_push _)) (stays_push _))⟩

end
end Mine
namespace Mine
section
variable {prog : Program} {w : World} {A : Around} {E : Value → Shared → Prop} {s : Shared}
theorem map_step {Mo T It l : Addr} {f : Value} {i : Nat} {vs : Array Value} {v : Value} {Q : Option Value → Shared → Prop} (hM : s.heap.get? Mo = some (mapObj T f)) (hT : s.heap.get? T = some (tup1 It)) (hit : s.heap.IsListIter It l i)
    (hl : s.heap.IsList l vs) (hx : vs[i]? = some v)
    (hc : ∀ h', h'.IsListIter It l (i + 1) → Heap.SameBut It s.heap h' → wpAny (model prog w) A.in1 (call f [v]) (fun u s' => Q (some u) s') (fun _ _ => False) { s with heap := h' }) :
    wpAny (model prog w) A (pyNext (.ref Mo)) Q E s := by
  have hTy : s.TypeIs (.ref Mo) "map" := ⟨_, hM, rfl⟩
  have hMI : Mo ≠ It := by rintro rfl; obtain ⟨o, ho, hc, _⟩ := hit; rw [hM] at ho; cases ho; simp at hc
  unfold pyNext
  refine wpAny_bind (wpAny_attempt (wpAny_callSpecial?_slot hTy map_next (wpAny_call_entry map_next hTy map_entry_next ?_ (map_args_next _))))
  unfold Builtin.«map.__next__»
  refine wpAny_bind (wpAny_pure ?_)
  refine wpAny_bind (wpAny_field hM rfl (x := .ref T) rfl ?_)
  refine wpAny_bind (wpAny_seqItems hT rfl ?_)
  dsimp only
  refine wpAny_bind ?_
  rw [show (forIn (m := Sem) (#[Value.ref It] : Array Value) (#[] : Array Value) fun it r => do
      let d ← holding r.toList (Builtin.SmallTypes.nextOf it)
      pure (ForInStep.yield (r.push d))) = forIn [Value.ref It] #[] _ from by rw [← Array.forIn_toList]]
  rw [List.forIn_cons]
  refine wpAny_bind (wpAny_bind (wpAny_holding (wpAny_nextOf_list_item hit hl hx fun h' hit' hs' => wpAny_pure ?_)))
  dsimp only
  rw [List.forIn_nil]
  refine wpAny_pure ?_
  refine wpAny_bind (wpAny_field (o := mapObj T f) ((hs'.2 Mo hMI).trans hM) rfl (x := f) rfl ?_)
  refine wpAny_bind (wpAny_holding (wpAny_mono (hc h' hit' hs') (fun u s₂ hu => ?_) (fun _ _ f => f.elim)))
  refine wpAny_bind (wpAny_letGo (wpAny_pure ⟨u, rfl, ?_⟩))
  exact wpAny_pure hu

theorem map_end {Mo T It l : Addr} {f : Value} {i : Nat} {vs : Array Value} {Q : Option Value → Shared → Prop} (hh : A.handled = none) (hM : s.heap.get? Mo = some (mapObj T f)) (hT : s.heap.get? T = some (tup1 It)) (hit : s.heap.IsListIter It l i)
    (hl : s.heap.IsList l vs) (hx : vs[i]? = none) (hQ : ∀ h', Heap.ExtBut It s.heap h' → Q none { s with heap := h' }) :
    wpAny (model prog w) A (pyNext (.ref Mo)) Q E s := by
  have hTy : s.TypeIs (.ref Mo) "map" := ⟨_, hM, rfl⟩
  unfold pyNext
  refine wpAny_bind (wpAny_attempt (wpAny_callSpecial?_slot hTy map_next (wpAny_call_entry map_next hTy map_entry_next ?_ (map_args_next _))))
  unfold Builtin.«map.__next__»
  refine wpAny_bind (wpAny_pure ?_)
  refine wpAny_bind (wpAny_field hM rfl (x := .ref T) rfl ?_)
  refine wpAny_bind (wpAny_seqItems hT rfl ?_)
  dsimp only
  refine wpAny_bind ?_
  rw [show (forIn (m := Sem) (#[Value.ref It] : Array Value) (#[] : Array Value) fun it r => do
      let d ← holding r.toList (Builtin.SmallTypes.nextOf it)
      pure (ForInStep.yield (r.push d))) = forIn [Value.ref It] #[] _ from by rw [← Array.forIn_toList]]
  rw [List.forIn_cons]
  refine wpAny_bind (wpAny_bind (wpAny_holding (wpAny_nextOf_list_end hh hit hl hx fun h' e hs' he => ?_)))
  refine wpAny_bind (wpAny_isInstance (show Shared.TypeIs _ (.ref e) "StopIteration" from he) owsi_facts.sub ?_)
  exact wpAny_pure (hQ h' hs')

theorem map_self {Mo T : Addr} {f : Value} {Q : Value → Shared → Prop} (hM : s.heap.get? Mo = some (mapObj T f)) (h : Q (.ref Mo) s) : wpAny (model prog w) A (pyIter (.ref Mo)) Q E s := by
  have hTy : s.TypeIs (.ref Mo) "map" := ⟨_, hM, rfl⟩
  refine wpAny_pyIter_slot hTy map_iter (wpAny_call_entry map_iter hTy map_entry_iter ?_ (map_args_iter _))
  show wpAny _ _ (ret (.ref Mo)) _ _ s
  exact wpAny_pure ⟨_, rfl, "map", _, hTy, map_next.lookup, h⟩
end

/-! drawing an iterator into a new list -/
abbrev LO (xs : Array Value) (c : Nat) : Obj := { cls := .type "list", data := .seq xs c }

section
variable {prog : Program} {w : World} {A : Around}
theorem code_extend {S I : Addr} {res : Value} {R : Result → Shared → Prop} (J : Nat → Array Value → Shared → Prop)
    (turn : ∀ n acc s, J n acc s → acc.size ≤ sizeLine ∧ wpAny (model prog w) A.in1 (pyNext (.ref I)) (fun r s' => match r with
      | none => R (.ok (.ret res)) s'
      | some v => ∃ c, s'.heap.get? S = some (LO acc c) ∧ ∀ h' c', h'.get? S = some (LO (acc.push v) c') → Heap.SameBut S s'.heap h' → ∃ m, m < n ∧ J m (acc.push v) { s' with heap := h' }) (fun _ _ => False) s) :
    ∀ n acc s, J n acc s → codeAny (model prog w) A (.builtin "list.extend.loop" ⟨[.ref S, .ref I, res], []⟩) R s := by
  intro n
  induction n using Nat.strongRecOn with
  | ind n ih =>
    intro acc s hJ
    obtain ⟨hz, ht⟩ := turn n acc s hJ
    refine codeAny_builtin F.entry_extend_loop ?_
    rw [Around.under_plainId F.plain_extend_loop _]
    show wpAny _ A.in1 (pyNext (.ref I) >>= _) _ _ s
    refine wpAny_bind (wpAny_mono ht (fun r s' hr => ?_) (fun _ _ f => f.elim))
    cases r with
    | none => exact wpAny_pure hr
    | some v =>
      obtain ⟨c, hS, hn⟩ := hr
      show wpAny _ A.in1 (updateSeq S (·.push v) >>= _) _ _ _
      refine wpAny_bind (wpAny_updateSeq hS rfl ?_ hz (by show (acc.push v).size ≤ sizeLine + 1; rw [Array.size_push]; omega))
      obtain ⟨m, hm, hJ'⟩ := hn _ _ (Heap.get?_update_self (Obj.mapSeq (·.push v)) hS rfl) (Heap.SameBut.update ..)
      exact wpAny_pure ⟨plainId_quiet F.plain_extend_loop _, ih m hm _ _ hJ'⟩

theorem extend_with {S I : Addr} {it res T : Value} {c₀ : Nat} {R : Result → Shared → Prop} {s : Shared} (J : Nat → Array Value → Shared → Prop)
    (hsame : Builtin.List.listSameRef (.ref S) it = false) (hT : ∀ (Q : Value → Shared → Prop) (E : Value → Shared → Prop), Q T s → wpAny (model prog w) A.in1 (typeOf it) Q E s) (hTl : (T == .type "list") = false) (hTt : (T == .type "tuple") = false)
    (hi : wpAny (model prog w) A.in1 (pyIter it) (fun v s₁ => v = .ref I ∧ (∀ (Q : Option Value → Shared → Prop) (E : Value → Shared → Prop), Q none s₁ → wpAny (model prog w) A.in1 (specialOf it "__len__") Q E s₁) ∧
      (∀ (Q : Option Value → Shared → Prop) (E : Value → Shared → Prop), Q none s₁ → wpAny (model prog w) A.in1 (specialOf it "__length_hint__") Q E s₁) ∧ ∃ c, s₁.heap.get? S = some (LO #[] c) ∧
      ∀ h' c', h'.get? S = some (LO #[] c') → Heap.SameBut S s₁.heap h' → ∃ n, J n #[] { s₁ with heap := h' }) (fun _ _ => False) s)
    (turn : ∀ n acc s, J n acc s → acc.size ≤ sizeLine ∧ wpAny (model prog w) A.in1 (pyNext (.ref I)) (fun r s' => match r with
      | none => R (.ok (.ret res)) s'
      | some v => ∃ c, s'.heap.get? S = some (LO acc c) ∧ ∀ h' c', h'.get? S = some (LO (acc.push v) c') → Heap.SameBut S s'.heap h' → ∃ m, m < n ∧ J m (acc.push v) { s' with heap := h' }) (fun _ _ => False) s) :
    wpAny (model prog w) A.in1 (Builtin.List.listExtendWith (.ref S) it res)
      (fun fin s' => match fin with | .done f => R (.ok f) s' | .again c' => c'.quiet = true ∧ codeAny (model prog w) A c' R s') (fun e s' => R (.error e) s') s := by
  unfold Builtin.List.listExtendWith
  refine wpAny_bind (hT _ _ ?_)
  simp only [hsame, hTl, hTt, Bool.or_false, Bool.false_eq_true, if_false]
  refine wpAny_bind (wpAny_mono hi (fun v s₁ hv => ?_) (fun _ _ f => f.elim))
  obtain ⟨rfl, hl, hh, c, hS, hJ⟩ := hv
  refine wpAny_bind (wpAny_holding ?_)
  unfold Builtin.List.listLengthHint
  refine wpAny_bind (hl _ _ ?_)
  show wpAny _ A.in1 (specialOf it (Str.ofString "__length_hint__") >>= _) _ _ _
  refine wpAny_bind (hh _ _ ?_)
  refine wpAny_pure ?_
  show wpAny _ A.in1 (rule "list.extend.makes-room" >>= fun _ => Builtin.List.listTouch (.ref S) >>= fun _ => again (.builtin "list.extend.loop" ⟨[.ref S, .ref I, res], []⟩)) _ _ _
  refine wpAny_bind (wpAny_rule (wpAny_bind ?_))
  show wpAny _ A.in1 (updateSeq S (·.push .none) >>= fun _ => updateSeq S (·.pop)) _ _ _
  refine wpAny_bind (wpAny_updateSeq hS rfl ?_)
  have hS₂ := Heap.get?_update_self (Obj.mapSeq (·.push Value.none)) hS rfl
  refine wpAny_updateSeq (hz := by seq_fits) hS₂ rfl ?_
  have hS₃ := Heap.get?_update_self (Obj.mapSeq (·.pop)) hS₂ rfl
  obtain ⟨n, hJ'⟩ := hJ _ _ hS₃ ((Heap.SameBut.update ..).trans (Heap.SameBut.update ..))
  exact wpAny_pure ⟨plainId_quiet F.plain_extend_loop _, code_extend J turn n _ _ hJ'⟩

theorem collect_code {I : Addr} {it T : Value} {s : Shared} {R : Result → Shared → Prop} (J : Nat → Array Value → Shared → Prop) (hne : it ≠ .ref s.heap.objs.size)
    (hT : ∀ (Q : Value → Shared → Prop) (E : Value → Shared → Prop) s', s.heap.StaysIn s'.heap → Q T s' → wpAny (model prog w) A.in1 (typeOf it) Q E s') (hTl : (T == .type "list") = false) (hTt : (T == .type "tuple") = false)
    (hi : wpAny (model prog w) A.in1 (pyIter it) (fun v s₁ => v = .ref I ∧ (∀ (Q : Option Value → Shared → Prop) (E : Value → Shared → Prop), Q none s₁ → wpAny (model prog w) A.in1 (specialOf it "__len__") Q E s₁) ∧
      (∀ (Q : Option Value → Shared → Prop) (E : Value → Shared → Prop), Q none s₁ → wpAny (model prog w) A.in1 (specialOf it "__length_hint__") Q E s₁) ∧ ∃ c, s₁.heap.get? s.heap.objs.size = some (LO #[] c) ∧
      ∀ h' c', h'.get? s.heap.objs.size = some (LO #[] c') → Heap.SameBut s.heap.objs.size s₁.heap h' → ∃ n, J n #[] { s₁ with heap := h' }) (fun _ _ => False) { s with heap := s.heap.push (LO #[] 0) })
    (turn : ∀ n acc s₂, J n acc s₂ → acc.size ≤ sizeLine ∧ wpAny (model prog w) A.in1 (pyNext (.ref I)) (fun r s' => match r with
      | none => R (.ok (.ret (.ref s.heap.objs.size))) s'
      | some v => ∃ c, s'.heap.get? s.heap.objs.size = some (LO acc c) ∧ ∀ h' c', h'.get? s.heap.objs.size = some (LO (acc.push v) c') → Heap.SameBut s.heap.objs.size s'.heap h' → ∃ m, m < n ∧ J m (acc.push v) { s' with heap := h' }) (fun _ _ => False) s₂) :
    codeAny (model prog w) A (.builtin "proto.collect" ⟨[it], []⟩) R s := by
  refine codeAny_builtin F.entry_proto_collect ?_
  rw [Around.under_plainId F.plain_proto_collect _]
  show wpAny _ A.in1 (newList [] >>= fun l => again (.builtin "list.__iadd__" ⟨[l, it], []⟩)) _ _ s
  refine wpAny_bind (wpAny_newObj_type ?_)
  refine wpAny_pure ⟨plainId_quiet F.plain_list_iadd _, codeAny_builtin F.entry_list_iadd ?_⟩
  rw [Around.under_plainId F.plain_list_iadd _]
  have hsame : Builtin.List.listSameRef (.ref s.heap.objs.size) it = false := by
    cases it <;> first | rfl | skip
    simp only [Builtin.List.listSameRef, beq_eq_false_iff_ne, ne_eq]
    intro q; subst q; exact hne rfl
  show wpAny _ A.in1 (Builtin.List.listExtendWith (.ref s.heap.objs.size) it (.ref s.heap.objs.size)) _ _ _
  exact extend_with (s := { s with heap := s.heap.push (LO #[] 0) }) (c₀ := 0) J hsame (fun Q E q => hT Q E _ (stays_push _) q) hTl hTt hi turn

theorem collect_own {I : Addr} {it T : Value} {s : Shared} {Q : List Value → Shared → Prop} {E : Value → Shared → Prop} (J : Nat → Array Value → Shared → Prop) (hne : it ≠ .ref s.heap.objs.size)
    (hT : ∀ (Q : Value → Shared → Prop) (E : Value → Shared → Prop) s', s.heap.StaysIn s'.heap → Q T s' → wpAny (model prog w) A.in1 (typeOf it) Q E s') (hTl : (T == .type "list") = false) (hTt : (T == .type "tuple") = false)
    (hi : wpAny (model prog w) A.in1 (pyIter it) (fun v s₁ => v = .ref I ∧ (∀ (Q : Option Value → Shared → Prop) (E : Value → Shared → Prop), Q none s₁ → wpAny (model prog w) A.in1 (specialOf it "__len__") Q E s₁) ∧
      (∀ (Q : Option Value → Shared → Prop) (E : Value → Shared → Prop), Q none s₁ → wpAny (model prog w) A.in1 (specialOf it "__length_hint__") Q E s₁) ∧ ∃ c, s₁.heap.get? s.heap.objs.size = some (LO #[] c) ∧
      ∀ h' c', h'.get? s.heap.objs.size = some (LO #[] c') → Heap.SameBut s.heap.objs.size s₁.heap h' → ∃ n, J n #[] { s₁ with heap := h' }) (fun _ _ => False) { s with heap := s.heap.push (LO #[] 0) })
    (turn : ∀ n acc s₂, J n acc s₂ → acc.size ≤ sizeLine ∧ wpAny (model prog w) A.in1 (pyNext (.ref I)) (fun r s' => match r with
      | none => ∃ c, s'.heap.get? s.heap.objs.size = some (LO acc c) ∧ Q acc.toList s'
      | some v => ∃ c, s'.heap.get? s.heap.objs.size = some (LO acc c) ∧ ∀ h' c', h'.get? s.heap.objs.size = some (LO (acc.push v) c') → Heap.SameBut s.heap.objs.size s'.heap h' → ∃ m, m < n ∧ J m (acc.push v) { s' with heap := h' }) (fun _ _ => False) s₂) :
    wpAny (model prog w) A (collect it) Q E s := by
  unfold collect
  refine wpAny_bind (wpAny_runValue (collect_code J hne hT hTl hTt hi (fun n acc s₂ hJ => ?_)))
  obtain ⟨hz, ht⟩ := turn n acc s₂ hJ
  refine ⟨hz, wpAny_mono ht (fun r s' hr => ?_) (fun _ _ f => f)⟩
  cases r with
  | some v => exact hr
  | none =>
    obtain ⟨c, hS, hq⟩ := hr
    exact wpAny_bind (wpAny_load hS (wpAny_pure hq))
end
end Mine
namespace Mine

/-- the same but for the heap; all objects but one stand -/
structure But (x : Addr) (s s' : Shared) : Prop where
  keep : ∀ b o, b ≠ x → s.heap.get? b = some o → s'.heap.get? b = some o
  same : ∃ h t, s' = { s with heap := h, toks := t }
theorem But.refl (x : Addr) (s : Shared) : But x s s := ⟨fun _ _ _ e => e, s.heap, s.toks, rfl⟩
theorem But.trans {x : Addr} {s s' s'' : Shared} (a : But x s s') (b : But x s' s'') : But x s s'' := by
  obtain ⟨k, h, t, rfl⟩ := a
  obtain ⟨k', h', t', rfl⟩ := b
  exact ⟨fun y o q e => k' y o q (k y o q e), h', t', rfl⟩
theorem But.of_kp {x : Addr} {s s' : Shared} (a : Kp s s') : But x s s' := by
  obtain ⟨h, t, rfl, k⟩ := a
  exact ⟨fun y o _ e => k y o e, h, t, rfl⟩
theorem But.kp {x : Addr} {s s' s'' : Shared} (a : Kp s s') (b : But x s' s'') (h : s.heap.get? x = none) : Kp s s'' := by
  obtain ⟨h1, t1, rfl, k⟩ := a
  obtain ⟨k', h', t', rfl⟩ := b
  exact ⟨h', t', rfl, fun y o e => k' y o (fun q => by rw [q, h] at e; cases e) (k y o e)⟩

structure MapAt (Mo T It l : Addr) (vs : Array Value) (i : Nat) (h : Heap) : Prop where
  m : h.get? Mo = some (mapObj T (.builtin "str.capitalize"))
  t : h.get? T = some (tup1 It)
  it : h.IsListIter It l i
  l : h.IsList l vs
theorem MapAt.ne {Mo T It l : Addr} {vs : Array Value} {i : Nat} {h : Heap} (x : MapAt Mo T It l vs i h) : Mo ≠ It ∧ T ≠ It ∧ l ≠ It := by
  obtain ⟨o, ho, hc, hd⟩ := x.it
  obtain ⟨o', ho', hc', n, hd'⟩ := x.l
  have hm := x.m
  have ht := x.t
  refine ⟨?_, ?_, ?_⟩ <;> rintro rfl
  · rw [hm] at ho; cases ho; simp at hc
  · rw [ht] at ho; cases ho; simp at hc
  · rw [ho'] at ho; cases ho; rw [hc'] at hc; simp at hc

theorem join_values : ∀ {vs : List Value} {xs : List Str}, StrsAre vs xs → ∃ l : List (Str × Tok), vs = PySem.strValues l ∧ l.map (·.1) = xs
  | _, _, .nil => ⟨[], rfl, rfl⟩
  | _, _, .cons x t h => by
    obtain ⟨l, rfl, rfl⟩ := join_values h
    exact ⟨(x, t) :: l, rfl, rfl⟩

section
variable {prog : Program} {w : World} {A : Around} {E : Value → Shared → Prop} {s : Shared}
theorem join_map {Mo T It l : Addr} {vs : List Value} {xs : List Str} {x : Str} {t : Tok} {Q : Value → Shared → Prop} (hh : A.handled = none) (M : MapAt Mo T It l vs.toArray 0 s.heap) (hi : StrsAre vs xs)
    (hz : ∀ y ∈ xs, y.length ≤ 5592405) (hn : xs.length ≤ sizeLine) (hok : JoinOk x (xs.map Txt.capitalize) = true)
    (hq : ∀ t' s', But It s s' → Q (.str (Txt.join x (xs.map Txt.capitalize)) t') s') :
    wpAny (model prog w) A (call (.builtin "str.join") [.str x t, .ref Mo]) Q E s := by
  have hTy : ∀ s' : Shared, s'.heap.get? Mo = some (mapObj T (.builtin "str.capitalize")) → s'.TypeIs (.ref Mo) "map" := fun s' h => ⟨_, h, rfl⟩
  refine wpAny_call (codeAny_call_builtin F.slot_str_join.plain F.entry_str_join (F.slot_str_join.check _ _ _ _ _ _ _ _ (typeIs_str _ _ _) (F.args_str_join_2 _ _) ?_))
  rw [join_tree_other]
  refine wpAny_bind (wpAny_typeOf (hTy s M.m) ?_)
  show wpAny _ A.in1 ((pyIter (.ref Mo)).tryCatch _ >>= fun it => collect it >>= fun items => PySem.joinTail x items) _ _ s
  refine wpAny_bind (wpAny_tryCatch (map_self M.m ?_))
  have hne : Mo < s.heap.objs.size := Heap.lt_size M.m
  refine wpAny_bind (collect_own (I := Mo) (T := .type "map")
    (fun n acc s₂ => ∃ i, i ≤ xs.length ∧ n = xs.length - i ∧ MapAt Mo T It l vs.toArray i s₂.heap ∧ StrsAre acc.toList ((xs.take i).map Txt.capitalize) ∧ (∃ c, s₂.heap.get? s.heap.objs.size = some (LO acc c)) ∧ But It s s₂)
    (by simp only [ne_eq, Value.ref.injEq]; exact Nat.ne_of_lt hne) (fun Q E s' k q => wpAny_typeOf (hTy s' (k _ _ M.m)) q) (by decide) (by decide) ?_ ?_)
  · have k := stays_push (h := s.heap) (LO #[] 0)
    refine map_self (k _ _ M.m) ⟨rfl, fun Q E q => wpAny_specialOf (hTy _ (k _ _ M.m)) map_no_len q, fun Q E q => wpAny_specialOf (hTy _ (k _ _ M.m)) map_no_hint q, 0, Heap.get?_push_size _ rfl, fun h' c' hS hs => ⟨xs.length, 0, Nat.zero_le _, rfl, ?_, ?_, ⟨c', hS⟩, ?_⟩⟩
    · have up : ∀ b o, s.heap.get? b = some o → h'.get? b = some o := fun b o e => (hs.2 b (Nat.ne_of_lt (Heap.lt_size e))).trans (k b o e)
      exact ⟨up _ _ M.m, up _ _ M.t, M.it.at fun o e => up _ o e, isList_keep up M.l⟩
    · exact .nil
    · exact ⟨fun b o _ e => (hs.2 b (Nat.ne_of_lt (Heap.lt_size e))).trans (k b o e), h', s.toks, rfl⟩
  · rintro n acc s₂ ⟨i, hi1, rfl, M₂, hacc, ⟨c, hS⟩, B⟩
    have hsz : acc.size = i := by
      have := hacc.len_eq
      simp at this
      omega
    refine ⟨by omega, ?_⟩
    by_cases hlt : i < xs.length
    · obtain ⟨t₁, hv⟩ := hi.at (j := i) (y := xs[i]) (by simp [hlt])
      have hmem : xs[i] ∈ xs := List.getElem_mem hlt
      refine map_step M₂.m M₂.t M₂.it M₂.l (by simpa using hv) fun h' hit' hs' => ?_
      refine SC.capitalize (fit_capitalized (hz _ hmem)) fun t' k => ?_
      have hSI : s.heap.objs.size ≠ It := by
        rintro q
        obtain ⟨o, ho, hc, _⟩ := M.it
        exact absurd (Heap.lt_size ho) (by rw [← q]; exact Nat.lt_irrefl _)
      obtain ⟨n1, n2, n3⟩ := M₂.ne
      refine ⟨c, (hs'.2 _ hSI).trans hS, fun h'' c' hS' hs'' => ⟨xs.length - (i + 1), by omega, i + 1, hlt, rfl, ?_, ?_, ⟨c', hS'⟩, ?_⟩⟩
      · have up : ∀ b o, b ≠ s.heap.objs.size → h'.get? b = some o → h''.get? b = some o := fun b o q e => (hs''.2 b q).trans e
        have M1 := M.m
        have lt : ∀ {b : Addr} {o : Obj}, s.heap.get? b = some o → b ≠ s.heap.objs.size := fun e => Nat.ne_of_lt (Heap.lt_size e)
        refine ⟨up _ _ (lt M.m) ((hs'.2 _ n1).trans M₂.m), up _ _ (lt M.t) ((hs'.2 _ n2).trans M₂.t), hit'.at fun o e => up _ o (Ne.symm hSI) e, ?_⟩
        obtain ⟨o, ho, r⟩ := M₂.l
        obtain ⟨o1, ho1, _⟩ := M.l
        exact ⟨o, up _ _ (lt ho1) ((hs'.2 _ n3).trans ho), r⟩
      · rw [Array.toList_push]
        have e : xs.take (i + 1) = xs.take i ++ [xs[i]] := by rw [List.take_add_one, List.getElem?_eq_getElem hlt]; rfl
        rw [e, List.map_append]
        exact hacc.append' (.cons _ _ .nil)
      · obtain ⟨bk, bh, bt, rfl⟩ := B
        exact ⟨fun b o q e => (hs''.2 b (Nat.ne_of_lt (Heap.lt_size e))).trans ((hs'.2 b q).trans (bk b o q e)), h'', k, rfl⟩
    · have e : i = xs.length := by omega
      refine map_end hh M₂.m M₂.t M₂.it M₂.l (by have := hi.len_eq; simp; omega) fun h' hx' => ?_
      have hSI : s.heap.objs.size ≠ It := by
        rintro q
        obtain ⟨o, ho, hc, _⟩ := M.it
        exact absurd (Heap.lt_size ho) (by rw [← q]; exact Nat.lt_irrefl _)
      refine ⟨c, hx' _ _ hSI hS, ?_⟩
      rw [e, List.take_of_length_le (Nat.le_refl _)] at hacc
      obtain ⟨l, hl, hm⟩ := join_values hacc
      rw [hl]
      have hok' := hok
      rw [← hm] at hok'
      have hok'' := hok'
      unfold JoinOk at hok''
      rw [Bool.not_eq_true'] at hok''
      have g : Gives (PySem.joinTail x (PySem.strValues l)) (PySem.joinMade x l) := by
        have g0 := gives_joinTail x l hok''
        cases l with
        | nil => exact g0
        | cons p r => cases r with
          | nil => exact g0
          | cons q r' => exact g0
      refine g prog w A (wants Q E) _ (post_join l ⟨joinFit_length hok'', fun t' k => ?_⟩)
      rw [hm]
      obtain ⟨bk, bh, bt, rfl⟩ := B
      exact hq _ _ ⟨fun b o q e => hx' b o q (bk b o q e), h', k, rfl⟩
end
end Mine
namespace Mine

-- one reads a def's parts off the program
def fBody : Option Stmt → List Stmt
  | some (.FunctionDef _ _ b _ _ _ _ _ _ _) => b
  | _ => []
def fScope : Option Stmt → Scope
  | some (.FunctionDef _ _ _ _ _ _ sc _ _ _) => sc
  | _ => default
def fParams : Option Stmt → Arguments
  | some (.FunctionDef _ a _ _ _ _ _ _ _ _) => a
  | _ => default
/-- a main def's data, but for name, code and defaults -/
def FD (st : Option Stmt) (fd : FuncData) (dv : Value := .none) : FuncData :=
  { fd with params := fParams st, body := .stmts (fBody st), scope := fScope st, globals := mainGlobals, closure := [], builtins := builtinsNs, defaults := dv, kwdefaults := .none }

theorem frag_nil (h : Heap) : Frag.In [] h := fun _ _ e => by cases e
section
variable {prog : Program} {w : World} {A : Around} {E : Value → Shared → Prop} {s : Shared}
theorem attr_capitalize {b : Bool} {Q : Value → Shared → Prop} (h : Q (.builtin "str.capitalize") { s with toks := s.toks + 1 }) : wpAny (model prog w) A (getAttr (.type "str") "capitalize" b) Q E s := by
  have hk : typeOf (.type "str") = pure (.type "type") := kitMeta_of (by decide +kernel)
  have e : findCls [] (.type "str") (.type "type") "capitalize" = some (.val (.builtin "str.capitalize")) := by kernel_rfl
  have hstub : opaqueClassAbove (.type "str") = pure none := by
    unfold opaqueClassAbove; dsimp only
    rw [show Manifest.isStub "str" = false by decide +kernel]; rfl
  have L0 : Looks (model prog w) s.heap (typeOf (.type "str")) (.type "type") := Looks.of_pure hk
  have hg : findIn [] (.type "type") "__getattribute__" = some (some (.builtin "type.__getattribute__")) := type_tga
  refine cls_open (frag_nil _) (Looks.of_pure hstub) L0 hg (looks_hook (frag_nil _) (r := none) (by rfl)) (by show subIn [] _ _ = _; rfl) e
    (wpAny_pure (by show wpAny _ _ (handedOut (.builtin "str.capitalize")) _ _ _; rw [handedOut_of (by decide +kernel)]; exact wpAny_pure h))

def Dm : Option Str → D
  | none => .val .none
  | some y => .str y

def pieces (x : Str) : Option Str → List Str
  | none => Txt.words x
  | some y => Txt.split x y

theorem op_split {x : Str} {mk : Option Str} {v u : Value} (hz : x.length + 2 ≤ sizeLine) (hm : ∀ y, mk = some y → (y.length == 0) = false) (hv : (D.str x).At v s.heap) (hu : (Dm mk).At u s.heap) :
    Ev (model prog w) A (call (.builtin "str.split") [v, u]) (D.pl "list" (pieces x mk)).At s := by
  obtain ⟨t, rfl⟩ := hv
  cases mk with
  | none =>
    obtain rfl : u = .none := hu
    have hn : (Builtin.Str.spaceWords x (x.length + 1)).length ≤ sizeLine := by
      have e1 := (StrLaws.sw_weight x).1
      have e2 := StrLaws.len_le_wsum (Builtin.Str.spaceWords x (x.length + 1))
      omega
    refine call_meets F.slot_str_split (typeIs_str _ _ _) F.entry_str_split (F.args_str_split_2 _ _) ((split_none_eq x t).symm ▸ meets_str_split_space x t (by omega) hn) ?_
    cases hw : Builtin.Str.spaceWords x (x.length + 1) == [(0, x.length)]
    · simp only [Bool.false_eq_true, if_false]
      rw [strsFrom_eq]
      refine ⟨Kp.mk (stays_push _), _, _, 0, #[], rfl, Heap.get?_push_size _ rfl, ?_⟩
      have e : (numbered s.toks (PySem.wordsOf x)).map (·.1) = Txt.words x := (numbered_texts _ _).trans (if_neg (ne_true_of_eq_false hw)).symm
      have := strsAre_of_values (numbered s.toks (PySem.wordsOf x))
      rw [e] at this
      exact this
    · simp only [if_true]
      refine ⟨Kp.mk (stays_push _), _, PySem.strValues [(x, t)], 0, #[], rfl, Heap.get?_push_size _ rfl, ?_⟩
      have e : [x] = Txt.words x := (if_pos hw).symm
      have := strsAre_of_values [(x, t)]
      simp only [List.map_cons, List.map_nil, e] at this
      exact this
  | some y =>
    obtain ⟨tu, rfl⟩ := hu
    have hn : (Builtin.Str.partsBetween x (Builtin.Str.occurrences x y 0 x.length (x.length + 1)) y.length).length ≤ sizeLine := by
      have e1 := StrLaws.occ_length_le x y 0 x.length (x.length + 1)
      rw [length_partsBetween]; omega
    have fin : ∀ (l : List (Str × Tok)) (k : Nat), l.map (·.1) = Txt.split x y → wants (fun a s' => Kp s s' ∧ (D.pl "list" (pieces x (some y))).At a s'.heap) (fun _ _ => False) (.ok (.ret (.ref s.heap.objs.size)))
        { s with heap := s.heap.push { cls := .type "list", data := .seq (PySem.strValues l).toArray }, toks := k } := fun l k e => by
      have := strsAre_of_values l
      rw [e] at this
      exact ⟨Kp.mk (stays_push _), _, _, 0, #[], rfl, Heap.get?_push_size _ rfl, this⟩
    cases h1 : (decide (x.length < y.length) || decide (Builtin.Str.strKind x < Builtin.Str.strKind y))
    · cases hf : (Builtin.Str.occurrences x y 0 x.length (x.length + 1)).isEmpty
      · refine call_meets F.slot_str_split (typeIs_str _ _ _) F.entry_str_split (F.args_str_split_2 _ _) (meets_str_split_sep x y t tu h1 (hm y rfl) hf (by omega) hn) ?_
        show wants _ _ _ { s with toks := _, heap := s.heap.push { cls := .type "list", data := .seq (strsFrom s.toks (Builtin.Str.partsBetween x (Builtin.Str.occurrences x y 0 x.length (x.length + 1)) y.length)).toArray } }
        rw [strsFrom_eq]
        exact fin (numbered s.toks _) _ ((numbered_texts _ _).trans ((if_neg (ne_true_of_eq_false h1)).trans (if_neg (ne_true_of_eq_false hf))).symm)
      · exact call_meets F.slot_str_split (typeIs_str _ _ _) F.entry_str_split (F.args_str_split_2 _ _) (meets_str_split_not_found x y t tu h1 (hm y rfl) hf)
          (fin [(x, t)] s.toks ((if_neg (ne_true_of_eq_false h1)).trans (if_pos hf)).symm)
    · exact call_meets F.slot_str_split (typeIs_str _ _ _) F.entry_str_split (F.args_str_split_2 _ _) (meets_str_split_cannot_occur x y t tu h1)
        (fin [(x, t)] s.toks (if_pos h1).symm)

theorem op_join {x : Str} {ys : List Str} {v u : Value} (hok : (ys.map (·.length)).sum + ys.length * x.length ≤ 16777216) (hv : (D.str x).At v s.heap) (hu : (D.lstr ys).At u s.heap) :
    Ev (model prog w) A (call (.builtin "str.join") [v, u]) (D.str (Txt.join x ys)).At s := by
  obtain ⟨t, rfl⟩ := hv; obtain ⟨l, vs, rfl, hl, hi⟩ := hu
  exact join_list hl (by simpa using hi) hok fun t' k => ⟨Kp.toks _, _, rfl⟩
end

section
variable {prog : Program} {w : World} {A : Around} {env : Env} {h : Heap}
/-- a method of a text, of one argument -/
theorem EvE.smeth1 {o a : Expr} {name : Str} {id : String} {apos pos : Pos} {x : Str} {d r : D} {pl : Sem Bool} (ho : EvE (model prog w) A env o (.str x) h)
    (hm : ∀ t s (Q : Value × List Value → Shared → Prop) (E : Value → Shared → Prop), Q (.builtin id, [.str x t]) s → wpAny (model prog w) A (getMethod (.str x t) name pl) Q E s) (ha : EvE (model prog w) A env a d h)
    (hs : ∀ s v u, h.StaysIn s.heap → (D.str x).At v s.heap → d.At u s.heap → Ev (model prog w) A (call (.builtin id) [v, u]) r.At s)
    (hst : starEach [a] env = (false, eval a env) :: starEach [] env := by rfl)
    (he : eval (.Call (.Attribute o name apos) [a] [] pos) env = (do
      let ov ← eval o env
      standAt apos.atName
      let (f, first) ← holding [ov] (getMethod ov name pl)
      callWith pos f first (backTo pos (starEach [a] env)) []) := by rfl) :
    EvE (model prog w) A env (.Call (.Attribute o name apos) [a] [] pos) r h := fun s k =>
  MethodCall_ ((ho s k).go fun ov s₁ k₁ hov => by
    obtain ⟨t, rfl⟩ := hov
    exact hm t s₁ _ _ (callWith_method1 ((args1 ha hst s₁ (stays_trans k k₁.stays)).go fun vs s₂ k₂ hvs => by
      obtain ⟨v, rfl, hv⟩ := hvs
      exact (hs s₂ _ v (stays_trans k (k₁.trans k₂).stays) ⟨t, rfl⟩ hv).go fun u s₃ k₃ hu => ⟨(k₁.trans k₂).trans k₃, hu⟩) hst rfl)) he
theorem EvE.or_str {x y : Expr} {pos : Pos} {mk : Option Str} {z : Str} (hx : EvE (model prog w) A env x (Dm mk) h) (hy : EvE (model prog w) A env y (.str z) h) (hm : ∀ y, mk = some y → (y.length == 0) = false ∧ y.length ≤ 100) :
    EvE (model prog w) A env (.BoolOp .Or [x, y] pos) (.str (mk.getD z)) h := fun s k =>
  wpAny_Or2 ((hx s k).go fun v s₁ k₁ hv => by
    cases mk with
    | none =>
      obtain rfl : v = .none := hv
      exact truthy_none ((hy s₁ (stays_trans k k₁.stays)).go fun u s₂ k₂ hu => ⟨k₁.trans k₂, hu⟩)
    | some y =>
      obtain ⟨t, rfl⟩ := hv
      obtain ⟨h1, h2⟩ := hm y rfl
      refine P.truthy_str (by omega) ?_
      have : ((y.length : Int) != 0) = true := by simp at h1 ⊢; omega
      rw [this]
      exact ⟨k₁.trans (Kp.toks _), t, rfl⟩)
end

theorem EvE.here {M : Model} {A : Around} {env : Env} {e : Expr} {d : D} {h : Heap} (x : EvE M A env e d h) (s : Shared) (k : h.StaysIn s.heap) : Ev M A (eval e env) d.At s := x s k
theorem EvE.now {M : Model} {A : Around} {env : Env} {e : Expr} {d : D} {s : Shared} (x : EvE M A env e d s.heap) : Ev M A (eval e env) d.At s := x s (stays_refl _)
/-- a frame's names -/
structure Pl (env : Env) (L : Addr) (loc glob : List Str) : Prop where
  hL : env.locals = L
  hk : env.scope.kind = .function
  hg : env.globals = mainGlobals
  hb : env.builtins = builtinsNs
  l : ∀ x ∈ loc, env.kindOf x = some .local
  g : ∀ x ∈ glob, env.kindOf x = some .globalImplicit
section
variable {prog : Program} {w : World} {A : Around} {env : Env} {h : Heap} {L : Addr} {loc glob : List Str}
theorem Pl.nm (P : Pl env L loc glob) {s₀ s : Shared} {Γ : List (Str × D)} (X : Loc s₀ L Γ s) (x : Str) {d : D} {pos : Pos} (hx : Γ.lookup x = some d := by rfl) (hl : loc.contains x = true := by decide) (hd : (x == ("__debug__" : Str)) = false := by decide) : EvE (model prog w) A env (.Name x pos) d s.heap :=
  EvE.name (X.nm hx P.hL P.hk (P.l x (by simpa using hl))) hd
theorem Pl.gl (P : Pl env L loc glob) {x : Str} {v : Value} (g : GN h x v) {pos : Pos} (hl : glob.contains x = true := by decide) (hd : (x == ("__debug__" : Str)) = false := by decide) : EvE (model prog w) A env (.Name x pos) (.val v) h :=
  EvE.name (g.nm P.hg P.hb P.hk (P.g x (by simpa using hl))) hd
end
/-- what capwords makes -/
def capw (x : Str) (mk : Option Str) : Str := Txt.join (mk.getD " ") ((pieces x mk).map Txt.capitalize)
end Mine
namespace Mine
theorem lc_look : typeLookup (.type "list") "__contains__" = pure (some (.builtin "list.__contains__")) := by rw [typeLookup_type, builtinLookup_eq_fast]; kernel_rfl
theorem lc_type : typeOf (.builtin "list.__contains__") = pure (.type "wrapper_descriptor") := by show builtinType _ = _; rw [builtinType_eq_fast]; kernel_rfl
theorem wd_get : typeLookup (.type "wrapper_descriptor") "__get__" = pure (some (.builtin "wrapper_descriptor.__get__")) := by rw [typeLookup_type, builtinLookup_eq_fast]; kernel_rfl
theorem wd_set : typeLookup (.type "wrapper_descriptor") "__set__" = pure none := by rw [typeLookup_type, builtinLookup_eq_fast]; kernel_rfl
theorem wd_del : typeLookup (.type "wrapper_descriptor") "__delete__" = pure none := by rw [typeLookup_type, builtinLookup_eq_fast]; kernel_rfl
theorem wd_entry : entryFor table "wrapper_descriptor.__get__" = some Builtin.«wrapper_descriptor.__get__» := entryFor_of_tree (by kernel_rfl)
theorem wd_slot : Slot "wrapper_descriptor" "__get__" "wrapper_descriptor.__get__" :=
  .of (owner := "wrapper_descriptor") (n := "__get__") (by rw [typeLookup_type, builtinLookup_eq_fast]; kernel_rfl) (by decide +kernel) (by decide +kernel) (by decide +kernel)
    (by first | exact .inl (by decide +kernel) | exact .inr (by decide +kernel)) (by rw [isSubtype_type]; kernel_rfl)
theorem wd_args (a b c : Value) : argsOk "wrapper_descriptor.__get__" ⟨[a, b, c], []⟩ := by unfold argsOk; kernel_rfl
theorem sub_list_list : isSubtype (.type "list") (.type "list") = pure true := by rw [isSubtype_type]; kernel_rfl
theorem tc_look : typeLookup (.type "tuple") "__contains__" = pure (some (.builtin "tuple.__contains__")) := by rw [typeLookup_type, builtinLookup_eq_fast]; kernel_rfl
theorem tc_type : typeOf (.builtin "tuple.__contains__") = pure (.type "wrapper_descriptor") := by show builtinType _ = _; rw [builtinType_eq_fast]; kernel_rfl
theorem sub_tuple_tuple : isSubtype (.type "tuple") (.type "tuple") = pure true := by rw [isSubtype_type]; kernel_rfl
abbrev mwObj (id : String) (v : Value) : Obj := { cls := .type "method-wrapper", data := .fields #[.builtin id, v] }
theorem run_wd {M : Model} {A : Around} {E : Value → Shared → Prop} {a : Addr} {T : String} {s : Shared} {P : Fin → Shared → Prop} (hTT : T = "list" ∨ T = "tuple") (hT : s.TypeIs (.ref a) T) (h : P (.done (.ret (.ref s.heap.objs.size))) { s with heap := s.heap.push (mwObj (T ++ ".__contains__") (.ref a)) }) :
    wpAny M A (Builtin.«wrapper_descriptor.__get__» ⟨[.builtin (T ++ ".__contains__"), .ref a, .type T], []⟩) P E s := by
  unfold Builtin.«wrapper_descriptor.__get__»
  rcases hTT with rfl | rfl
  · refine wpAny_bind (wpAny_of_eq (a := (.builtin "list.__contains__", some (.ref a), some (.type "list"))) (by first | rfl | kernel_rfl) ?_)
    refine wpAny_bind (wpAny_bind (wpAny_of_eq (a := (("__contains__" : Str), Value.type "list")) ?_ ?_))
    · first | rfl | kernel_rfl
    dsimp only
    refine wpAny_bind (wpAny_isInstance hT sub_list_list ?_)
    refine wpAny_pure ?_
    exact wpAny_bind (wpAny_newObj_type (wpAny_pure h))
  · refine wpAny_bind (wpAny_of_eq (a := (.builtin "tuple.__contains__", some (.ref a), some (.type "tuple"))) (by first | rfl | kernel_rfl) ?_)
    refine wpAny_bind (wpAny_bind (wpAny_of_eq (a := (("__contains__" : Str), Value.type "tuple")) ?_ ?_))
    · first | rfl | kernel_rfl
    dsimp only
    refine wpAny_bind (wpAny_isInstance hT sub_tuple_tuple ?_)
    refine wpAny_pure ?_
    exact wpAny_bind (wpAny_newObj_type (wpAny_pure h))

/-- a list or a tuple with no dict -/
structure Pln (T : String) (a : Addr) (h : Heap) : Prop where
  which : T = "list" ∨ T = "tuple"
  at' : ∃ xs k sl, h.get? a = some { cls := .type T, dict := none, data := .seq xs k, slots := sl }

section
variable {prog : Program} {w : World} {A : Around} {E : Value → Shared → Prop} {s : Shared}
set_option maxHeartbeats 4000000 in
theorem attr_contains {T : String} {a : Addr} {Q : Value → Shared → Prop} (X : Pln T a s.heap)
    (h : Q (.ref s.heap.objs.size) { s with heap := s.heap.push (mwObj (T ++ ".__contains__") (.ref a)), toks := s.toks + 1 }) : wpAny (model prog w) A (getAttr (.ref a) "__contains__" true) Q E s := by
  obtain ⟨hTT, xs, k, sl, hx⟩ := X
  obtain ⟨hp, g, d, tk, os⟩ := s
  have hT : ∀ tk', (⟨hp, g, d, tk', os⟩ : Shared).TypeIs (.ref a) T := fun _ => ⟨_, hx, rfl⟩
  have w1 := wd_get
  have w2 := wd_set
  have w3 := wd_del
  rcases hTT with rfl | rfl
  · have f3 := F.slot_list_getattribute.lookup
    have f4 := F.slot_list_getattribute.bind (.ref a)
    have f5 := am_list_getattr_none
    have c1 := lc_look
    have c2 := lc_type
    unfold getAttr getAttrBy
    repeat (any_goals (first | assumption | exact hT _ | ((with_reducible show wpAny _ _ (call (Value.builtin "list.__getattribute__") _ _) _ _ _); refine wpAny_call_entry F.slot_list_getattribute (hT _) am_entry_list_getattribute ?_ (F.args_list_getattribute_2 _ _)) | wp_step))
    refine codeAny_call_builtin wd_slot.plain wd_entry (wd_slot.check _ _ _ _ _ _ _ _ lc_type (wd_args _ _ _) ?_)
    refine run_wd (T := "list") (.inl rfl) (s := ⟨hp, g, d, tk + 1, os⟩) (hT _) ?_
    exact wpAny_pure ⟨_, rfl, wpAny_pure h⟩
  · have f3 := F.slot_tuple_getattribute.lookup
    have f4 := F.slot_tuple_getattribute.bind (.ref a)
    have f5 := am_tuple_getattr_none
    have c1 := tc_look
    have c2 := tc_type
    unfold getAttr getAttrBy
    repeat (any_goals (first | assumption | exact hT _ | ((with_reducible show wpAny _ _ (call (Value.builtin "tuple.__getattribute__") _ _) _ _ _); refine wpAny_call_entry F.slot_tuple_getattribute (hT _) am_entry_tuple_getattribute ?_ (F.args_tuple_getattribute_2 _ _)) | wp_step))
    refine codeAny_call_builtin wd_slot.plain wd_entry (wd_slot.check _ _ _ _ _ _ _ _ tc_type (wd_args _ _ _) ?_)
    refine run_wd (T := "tuple") (.inr rfl) (s := ⟨hp, g, d, tk + 1, os⟩) (hT _) ?_
    exact wpAny_pure ⟨_, rfl, wpAny_pure h⟩
end
end Mine
namespace Mine

-- calls of a bound __contains__
theorem cb_list (a v : Value) : checkBoundCall "list.__contains__" ⟨[a, v], []⟩ = pure () := by first | kernel_rfl | rfl
theorem cb_tuple (a v : Value) : checkBoundCall "tuple.__contains__" ⟨[a, v], []⟩ = pure () := by first | kernel_rfl | rfl
section
variable {prog : Program} {w : World} {A : Around} {E : Value → Shared → Prop} {s : Shared}
theorem call_mw {T : String} {a mw : Addr} {ys : List Str} {x : Str} {v : Value} (hT : T = "list" ∨ T = "tuple") (hm : s.heap.get? mw = some (mwObj (T ++ ".__contains__") (.ref a))) (hy : (D.pl T ys).At (.ref a) s.heap) (hv : (D.str x).At v s.heap) :
    Ev (model prog w) A (call (.ref mw) [v]) (D.val (.bool (ys.any (· == x)))).At s := by
  obtain ⟨l, vs, k, sl, e, hl, hi⟩ := hy
  obtain rfl : a = l := by cases e; rfl
  obtain ⟨t, rfl⟩ := hv
  refine wpAny_call (codeAny_of_tree ?_)
  show wpAny _ _ (callAny (.ref mw) _) _ _ _
  rcases hT with rfl | rfl
  · refine nd_load hm (wpAny_bind (wpAny_pure ?_))
    refine wpAny_bind (wpAny_of_eq (cb_list _ _) (wpAny_pure (And.intro (plainId_quiet F.slot_list_contains.plain _) (codeAny_builtin F.entry_list_contains ?_))))
    show wpAny _ (A.under (.builtin "list.__contains__" ⟨[.ref a, .str x t], []⟩)) _ _ _ _
    rw [Around.under_plainId F.slot_list_contains.plain _]
    refine SeqInW.list_containsW a vs.toArray k none sl (.str x t) (isStrOf x) (fun y hy => eq_isStrOf x t hi y (by simpa using hy)) prog w _ (fun r s' => match r with | .ok (.ret v) => Kp s s' ∧ (D.val (.bool (ys.any (· == x)))).At v s'.heap | .ok _ => False | .error _ => False) s ⟨hl, Kp.refl _, ?_⟩
    show Value.bool _ = Value.bool _
    rw [← Array.any_toList, show vs.toArray.toList = vs from rfl, any_isStrOf x hi]
  · refine nd_load hm (wpAny_bind (wpAny_pure ?_))
    refine wpAny_bind (wpAny_of_eq (cb_tuple _ _) (wpAny_pure (And.intro (plainId_quiet F.slot_tuple_contains.plain _) (codeAny_builtin F.entry_tuple_contains ?_))))
    exact tuple_contains_strs ⟨_, hl, rfl, k, rfl⟩ (by simpa using hi) ⟨Kp.refl _, rfl⟩
end

-- next of a list's own iterator
theorem stop_members (args : List Value) : ∃ vs, ownMembersOf (.type "StopIteration") args = vs := ⟨_, rfl⟩
section
variable {prog : Program} {w : World} {A : Around} {E : Value → Shared → Prop} {s : Shared}
/-- a list iterator has been found empty: what has been raised -/
structure Stopped (It e : Addr) (h h₁ h' : Heap) : Prop where
  same : Heap.SameBut It h h₁
  keep : h₁.StaysIn h'
  new : h₁.get? e = none
  there : ∃ ob vs a0, h'.get? e = some ob ∧ ob.cls = .type "StopIteration" ∧ ob.data = .fields vs ∧ vs[1]? = some .none ∧ vs[0]? = some a0

theorem next_item {it l : Addr} {i : Nat} {items : Array Value} {x : Value} {Q : Value → Shared → Prop} (hit : s.heap.IsListIter it l i) (hl : s.heap.IsList l items) (hx : items[i]? = some x)
    (hQ : ∀ h', h'.IsListIter it l (i + 1) → Heap.SameBut it s.heap h' → Q x { s with heap := h' }) : wpAny (model prog w) A (call (.builtin "next") [.ref it]) Q E s := by
  refine Calls.call_function_entry (by decide +kernel) (by decide +kernel) kdk_entry_next (kdk_args_next _) ?_
  obtain ⟨o, ho, hc, hd⟩ := id hit
  obtain ⟨ol, hol, _, nl, hdl⟩ := hl
  unfold Builtin.«next»
  refine wpAny_bind (m := someArgs "next" 1 2 _) (wpAny_of_eq (a := [Value.ref it]) (by first | rfl | kernel_rfl!) ?_)
  refine wpAny_bind (wpAny_specialOf (name := "__next__") hit.typeIs slot_listiter_next.lookup ?_)
  refine wpAny_bind (wpAny_callSpecial?_slot (name := Str.ofString "__next__") hit.typeIs slot_listiter_next
    (wpAny_call_entry slot_listiter_next hit.typeIs entry_listiter_next ?_ (args_listiter_next _)))
  show wpAny _ _ (field (.ref it) 0 >>= _) _ _ s
  refine wpAny_bind (wpAny_field ho hd (x := .ref l) rfl ?_)
  show wpAny _ _ (if (Value.ref l == Value.none) = true then _ else _) _ _ s
  rw [if_neg (show ¬ ((Value.ref l == Value.none) = true) from Bool.false_ne_true)]
  show wpAny _ _ (field (.ref it) 1 >>= _) _ _ s
  refine wpAny_bind (wpAny_field ho hd (x := .int i 0) rfl ?_)
  show wpAny _ _ (seqItems? (.ref l) >>= _) _ _ s
  refine wpAny_bind (wpAny_seqItems hol hdl ?_)
  simp only [Int.toNat_natCast, hx]
  refine wpAny_bind (wpAny_setField ho hd (by simp) (wpAny_pure ⟨x, rfl, wpAny_pure ⟨_, rfl, hQ _ ?_ (Heap.SameBut.update ..)⟩⟩))
  exact ⟨_, Heap.get?_update_self _ ho (Obj.isFreed_of_fields (Obj.data_mapFields hd _)), (Obj.cls_mapFields ..).trans hc, by
    rw [Obj.data_mapFields hd]; simp [rawInt]⟩

theorem next_end {it l : Addr} {i : Nat} {items : Array Value} {Q : Value → Shared → Prop} (hh : A.handled = none) (hit : s.heap.IsListIter it l i) (hl : s.heap.IsList l items) (hx : items[i]? = none)
    (hE : ∀ e h₁ h', Stopped it e s.heap h₁ h' → E (.ref e) { s with heap := h' }) : wpAny (model prog w) A (call (.builtin "next") [.ref it]) Q E s := by
  refine Calls.call_function_entry (by decide +kernel) (by decide +kernel) kdk_entry_next (kdk_args_next _) ?_
  obtain ⟨o, ho, hc, hd⟩ := id hit
  obtain ⟨ol, hol, _, nl, hdl⟩ := hl
  unfold Builtin.«next»
  refine wpAny_bind (m := someArgs "next" 1 2 _) (wpAny_of_eq (a := [Value.ref it]) (by first | rfl | kernel_rfl!) ?_)
  refine wpAny_bind (wpAny_specialOf (name := "__next__") hit.typeIs slot_listiter_next.lookup ?_)
  refine wpAny_bind (wpAny_callSpecial?_slot (name := Str.ofString "__next__") hit.typeIs slot_listiter_next
    (wpAny_call_entry slot_listiter_next hit.typeIs entry_listiter_next ?_ (args_listiter_next _)))
  show wpAny _ _ (field (.ref it) 0 >>= _) _ _ s
  refine wpAny_bind (wpAny_field ho hd (x := .ref l) rfl ?_)
  show wpAny _ _ (if (Value.ref l == Value.none) = true then _ else _) _ _ s
  rw [if_neg (show ¬ ((Value.ref l == Value.none) = true) from Bool.false_ne_true)]
  show wpAny _ _ (field (.ref it) 1 >>= _) _ _ s
  refine wpAny_bind (wpAny_field ho hd (x := .int i 0) rfl ?_)
  show wpAny _ _ (seqItems? (.ref l) >>= _) _ _ s
  refine wpAny_bind (wpAny_seqItems hol hdl ?_)
  simp only [Int.toNat_natCast, hx]
  refine wpAny_bind (wpAny_rule (wpAny_bind (wpAny_setField ho hd (by simp) ?_)))
  show wpAny _ _ (newExc (.type "StopIteration") [] >>= _) _ _ _
  refine wpAny_bind ?_
  simp only [newExc, newTuple]
  refine wpAny_bind (wpAny_newObj_type ?_ (by size_fits))
  refine wpAny_bind (m := firstArgMember _ _) (wpAny_of_eq (a := Value.none) (by first | rfl | (simp only [firstArgMember]; rfl)) ?_)
  refine wpAny_newObj_type ?_ (by size_fits)
  simp only [raiseNew]
  refine wpAny_bind (wpAny_handled ?_)
  first | rw [show A.in1.in1.handled = none from hh] | rw [show A.in1.handled = none from hh] | rw [hh]
  refine wpAny_bind (wpAny_pure (wpAny_throw ?_))
  refine hE _ _ _ ⟨Heap.SameBut.update .., stays_trans (stays_push _) (stays_push _), Heap.get?_none_of_le ?_, ⟨_, _, _, Heap.get?_push_size _ rfl, rfl, rfl, rfl, rfl⟩⟩
  rw [Heap.size_push]
  exact Nat.le_succ _
end
end Mine
namespace Mine

/-- what is known of the class with two slots -/
structure Cls (K : Frag) (C pI pF fI fT fN : Addr) (i j : Nat) : Prop where
  ij : (i = 0 ∧ j = 1) ∨ (i = 1 ∧ j = 0)
  made : makesIn K C = true
  keepC : keepIn K (.ref C) = true
  init : findIn K (.ref C) "__init__" = some (some (.ref fI))
  tInit : typeIn K (.ref fI) = some (.type "function")
  pg : plainGet K C "_it" = true
  isC : isClsIn K C = true
  aI : findIn K (.ref C) "_it" = some (some (.ref pI))
  aF : findIn K (.ref C) "_func" = some (some (.ref pF))
  gI : specialIn K (.ref pI) "__get__" = some (some (.builtin "member_descriptor.__get__"))
  gF : specialIn K (.ref pF) "__get__" = some (some (.builtin "member_descriptor.__get__"))
  kI : takesIn K (.ref pI) = some true
  kF : takesIn K (.ref pF) = some true
  sI : slotIn K pI C = some i
  sF : slotIn K pF C = some j
  set : findIn K (.ref C) "__setattr__" = some (some (.builtin "object.__setattr__"))
  over : plainOver K C = true
  tkI : takerIn K C "_it" = some (some (.ref pI))
  tkF : takerIn K C "_func" = some (some (.ref pF))
  tI : typeIn K (.ref pI) = some (.type "member_descriptor")
  tF : typeIn K (.ref pF) = some (.type "member_descriptor")
  iter : findIn K (.ref C) "__iter__" = some (some (.ref fT))
  isIter : isFn K (.ref fT) = true
  next : findIn K (.ref C) "__next__" = some (some (.ref fN))
  isNext : isFn K (.ref fN) = true
  noLen : findIn K (.ref C) "__len__" = some none
  noHint : findIn K (.ref C) "__length_hint__" = some none

def ffSlots (i : Nat) (a b : Value) : Array (Option Value) := if i = 0 then #[some a, some b] else #[some b, some a]
abbrev ffObj (C dx : Addr) (i : Nat) (It mw : Addr) : Obj := { instObj C dx with slots := ffSlots i (.ref It) (.ref mw) }

theorem InstAt.kept {h h' : Heap} {x C : Addr} {ox od : Obj} (I : InstAt h x ox C (some od)) (k : ∀ b o, (b = x ∨ some b = ox.dict) → h.get? b = some o → h'.get? b = some o) : InstAt h' x ox C (some od) := by
  obtain ⟨a, b, c, d⟩ := I
  refine ⟨k _ _ (.inl rfl) a, b, c, ?_⟩
  cases q : ox.dict with
  | none => rw [q] at d; exact d.elim
  | some dx => rw [q] at d; exact k _ _ (.inr q.symm) d

/-- the iterator in use -/
structure Ff (K : Frag) (C x dx It mw lst : Addr) (i : Nat) (T : String) (a : Addr) (ys : List Str) (vs : Array Value) (n : Nat) (h : Heap) : Prop where
  kin : K.In h
  kno : K.lookup It = none
  inst : InstAt h x (ffObj C dx i It mw) C (some emptyDict)
  it : h.IsListIter It lst n
  lst : h.IsList lst vs
  mwO : h.get? mw = some (mwObj (T ++ ".__contains__") (.ref a))
  sk : (D.pl T ys).At (.ref a) h

theorem Ff.keep {K : Frag} {C x dx It mw lst : Addr} {i : Nat} {T : String} {a : Addr} {ys : List Str} {vs : Array Value} {n : Nat} {h h' : Heap} (X : Ff K C x dx It mw lst i T a ys vs n h) (k : h.StaysIn h') : Ff K C x dx It mw lst i T a ys vs n h' :=
  ⟨X.kin.keeps k, X.kno, InstAt.kept X.inst fun b o _ e => k b o e, X.it.at fun o e => k _ o e, isList_keep k X.lst, k _ _ X.mwO, X.sk.keep k⟩
theorem Ff.ne {K : Frag} {C x dx It mw lst : Addr} {i : Nat} {T : String} {a : Addr} {ys : List Str} {vs : Array Value} {n : Nat} {h : Heap} (hT : T = "list" ∨ T = "tuple") (X : Ff K C x dx It mw lst i T a ys vs n h) : x ≠ It ∧ dx ≠ It ∧ lst ≠ It ∧ mw ≠ It ∧ a ≠ It := by
  obtain ⟨o, ho, hc, hd⟩ := X.it
  refine ⟨?_, ?_, ?_, ?_, ?_⟩ <;> rintro rfl
  · have := X.inst.at_; rw [ho] at this; cases this; cases hc
  · have := X.inst.dict
    simp only at this
    rw [ho] at this; cases this; cases hd
  · obtain ⟨o', ho', _, m, hd'⟩ := X.lst
    rw [ho] at ho'; cases ho'; rw [hd] at hd'; cases hd'
  · have := X.mwO; rw [ho] at this; cases this; simp at hc
  · obtain ⟨l, ws, m, sl, e, hl, _⟩ := X.sk
    obtain rfl : a = l := by cases e; rfl
    rw [ho] at hl; cases hl; cases hd
theorem Ff.step {K : Frag} {C x dx It mw lst : Addr} {i : Nat} {T : String} {a : Addr} {ys : List Str} {vs : Array Value} {n n' : Nat} {h h' : Heap} (hT : T = "list" ∨ T = "tuple") (X : Ff K C x dx It mw lst i T a ys vs n h) (hi : h'.IsListIter It lst n')
    (k : ∀ b o, b ≠ It → h.get? b = some o → h'.get? b = some o) : Ff K C x dx It mw lst i T a ys vs n' h' := by
  obtain ⟨n1, n2, n3, n4, n5⟩ := X.ne hT
  refine ⟨fun b o e => k b o (fun q => ?_) (X.kin b o e), X.kno, InstAt.kept X.inst fun b o q e => k b o ?_ e, hi, ?_, k _ _ n4 X.mwO, ?_⟩
  · have := X.kno; rw [← q, e] at this; cases this
  · rcases q with rfl | q
    · exact n1
    · obtain rfl : b = dx := Option.some.inj q
      exact n2
  · obtain ⟨o, ho, r⟩ := X.lst
    exact ⟨o, k _ _ n3 ho, r⟩
  · obtain ⟨l, ws, m, sl, e, hl, r⟩ := X.sk
    obtain rfl : a = l := by cases e; rfl
    exact ⟨a, ws, m, sl, rfl, k _ _ n5 hl, r⟩

section
variable {prog : Program} {w : World} {A : Around} {E : Value → Shared → Prop} {s : Shared} {env : Env} {h : Heap} {K : Frag} {C pI pF fI fT fN : Addr} {i j : Nat}
theorem EvE.slotI (Y : Cls K C pI pF fI fT fN i j) {x dx It mw : Addr} (kin : K.In h) (I : InstAt h x (ffObj C dx i It mw) C (some emptyDict)) {n : Str} {np pos : Pos} (hn : EvE (model prog w) A env (.Name n np) (.val (.ref x)) h) :
    EvE (model prog w) A env (.Attribute (.Name n np) "_it" pos) (.val (.ref It)) h := fun s k =>
  Attribute_Name_ ((hn s k).go fun v s₁ k₁ hv => by
    obtain rfl : v = .ref x := hv
    have kk := stays_trans k k₁.stays
    exact get_bind (kin.keeps kk) (InstAt.kept I fun b o _ e => kk b o e) (plainGet_of Y.pg).1 (findObj_data Y.isC Y.aI Y.gI Y.kI) (plainGet_of Y.pg).2
      (wpAny_call (slot_get (s := { s₁ with toks := s₁.toks + 1 }) (kin.keeps kk) (InstAt.kept I fun b o _ e => kk b o e) Y.sI (v := .ref It)
        (by rcases Y.ij with ⟨rfl, rfl⟩ | ⟨rfl, rfl⟩ <;> rfl) (handed_on rfl ⟨k₁.trans (Kp.toks _), rfl⟩))))
theorem EvE.slotF (Y : Cls K C pI pF fI fT fN i j) {x dx It mw : Addr} (kin : K.In h) (I : InstAt h x (ffObj C dx i It mw) C (some emptyDict)) {n : Str} {np pos : Pos} (hn : EvE (model prog w) A env (.Name n np) (.val (.ref x)) h) :
    EvE (model prog w) A env (.Attribute (.Name n np) "_func" pos) (.val (.ref mw)) h := fun s k =>
  Attribute_Name_ ((hn s k).go fun v s₁ k₁ hv => by
    obtain rfl : v = .ref x := hv
    have kk := stays_trans k k₁.stays
    exact get_bind (kin.keeps kk) (InstAt.kept I fun b o _ e => kk b o e) (plainGet_of Y.pg).1 (findObj_data Y.isC Y.aF Y.gF Y.kF) (plainGet_of Y.pg).2
      (wpAny_call (slot_get (s := { s₁ with toks := s₁.toks + 1 }) (kin.keeps kk) (InstAt.kept I fun b o _ e => kk b o e) Y.sF (v := .ref mw)
        (by rcases Y.ij with ⟨rfl, rfl⟩ | ⟨rfl, rfl⟩ <;> rfl) (handed_on rfl ⟨k₁.trans (Kp.toks _), rfl⟩))))

/-- a call of a name that holds a bound built-in method -/
theorem callWith_mw {pos : Pos} {u : Addr} {id : String} {self : Value} {args : List (Bool × Sem Value)} {Q : Value → Shared → Prop} (hplain : args.any (·.1) = false)
    (hx : wpAny (model prog w) A (evalArgs (.ref u) true args []) (fun x s₁ => s₁.heap.get? u = some (mwObj id self) ∧ wpAny (model prog w) A (call (.ref u) x.pos x.kw) Q E s₁) E s) : wpAny (model prog w) A (callWith pos (.ref u) [] args []) Q E s := by
  unfold callWith
  refine wpAny_bind (wpAny_holding (wpAny_mono hx (fun x s₁ h₁ => wpAny_bind (wpAny_standAt ?_)) fun _ _ x => x))
  obtain ⟨ho, hcall⟩ := h₁
  simp only [hplain, List.any_nil, Bool.or_false]
  refine wpAny_bind (m := keeperOf (.ref u)) ?_
  unfold keeperOf
  refine wpAny_bind (wpAny_load ho ?_)
  simp only [show (Value.type "method-wrapper" != Value.type "method") = true by decide, show (Value.type "method-wrapper" == Value.type "builtin_function_or_method" || Value.type "method-wrapper" == Value.type "method-wrapper") = true by decide, if_true]
  refine wpAny_pure ?_
  exact wpAny_bind (wpAny_mono hcall (fun r s₂ hr => wpAny_bind (wpAny_holding (wpAny_point (wpAny_pure hr)))) fun _ _ x => x)

theorem EvE.mwcall {x : Str} {p pos : Pos} {a : Expr} {mw b : Addr} {T : String} {ys : List Str} {y : Str} (hT : T = "list" ∨ T = "tuple") (hf : EvE (model prog w) A env (.Name x p) (.val (.ref mw)) h) (hm : h.get? mw = some (mwObj (T ++ ".__contains__") (.ref b))) (hy : (D.pl T ys).At (.ref b) h)
    (ha : EvE (model prog w) A env a (.str y) h)
    (he : starEach [a] env = (false, eval a env) :: starEach [] env := by rfl)
    (hc : eval (.Call (.Name x p) [a] [] pos) env = (do callWith pos (← eval (.Name x p) env) [] (backTo pos (starEach [a] env)) (backToKw pos (keywordEach [] env))) := by rfl) :
    EvE (model prog w) A env (.Call (.Name x p) [a] [] pos) (.val (.bool (ys.any (· == y)))) h := fun s k =>
  Call_ ((hf s k).go fun v s₁ k₁ hv => by
    obtain rfl : v = .ref mw := hv
    have z : wpAny (model prog w) A (spliced (backTo pos (starEach [a] env))) (fun vs s' => s'.heap.get? mw = some (mwObj (T ++ ".__contains__") (.ref b)) ∧
        wpAny (model prog w) A (call (.ref mw) vs) (fun r s₃ => Kp s s₃ ∧ (D.val (.bool (ys.any (· == y)))).At r s₃.heap) (fun _ _ => False) s') (fun _ _ => False) s₁ :=
      (args1 ha he s₁ (stays_trans k k₁.stays)).go fun vs s₂ k₂ hvs => by
        obtain ⟨u, rfl, hu⟩ := hvs
        have kk := stays_trans k (k₁.trans k₂).stays
        exact ⟨kk _ _ hm, (call_mw hT (kk _ _ hm) (hy.keep kk) hu).go fun r s₃ k₃ hr => ⟨(k₁.trans k₂).trans k₃, hr⟩⟩
    refine callWith_mw (id := T ++ ".__contains__") (self := .ref b) (by rw [he]; rfl) ?_
    rw [he] at z ⊢
    exact Calls.evalArgs_plain z) hc
end

/-- frames of the calls below -/
def Stk (outer : List Env) (h : Heap) : Prop := ∀ env ∈ outer, env.scope.kind ≠ .module ∧ ∃ L o, env.frame = some L ∧ h.get? L = some o ∧ ∀ vs, o.data ≠ .fields vs
theorem Stk.up {outer : List Env} {h h' : Heap} (S : Stk outer h) (k : h.UpToSlots h') : Stk outer h' := fun env he => by
  obtain ⟨a, L, o, b, c, d⟩ := S env he
  obtain ⟨sl, e⟩ := k L o c d
  exact ⟨a, L, _, b, e, d⟩
theorem Stk.keep {outer : List Env} {h h' : Heap} (S : Stk outer h) (k : h.StaysIn h') : Stk outer h' := S.up (Heap.UpToSlots.of_keeps k)
theorem Stk.fun {base h : Heap} {fs : List Addr} : ∀ {outer : List Env}, Stk outer h → (∀ env ∈ outer, ∀ a, env.frame = some a → a ∈ fs) → h.FunFrames (hideAll base fs) outer
  | [], _, _ => trivial
  | env :: r, S, hin => by
    obtain ⟨a, L, o, b, c, d⟩ := S env (.head _)
    exact ⟨a, ⟨L, o, b, hideAll_none _ (hin env (.head _) L b), c, d⟩, Stk.fun (fun e he => S e (.tail _ he)) fun e he => hin e (.tail _ he)⟩
def frs (outer : List Env) : List Addr := outer.filterMap (·.frame)

section
variable {M : Model} {A : Around} {E : Value → Shared → Prop} {s : Shared}
/-- leaving a frame with the news that the iterator is empty -/
theorem leave_stop {It e L : Addr} {h h₁ : Heap} {env : Env} {outer : List Env} {Q : Unit → Shared → Prop} (hfr : A.frames = some (env :: outer)) (S : Stk (env :: outer) h) (hf : env.frame = some L) (hIt : ∀ o, h.get? It = some o → ∃ vs, o.data = .fields vs) (X : Stopped It e h h₁ s.heap)
    (hQ : ∀ h', h.UpToSlots h' → (∀ b o, b ≠ It → b ∉ frs (env :: outer) → h.get? b = some o → h'.get? b = some o) → (∃ o, h'.get? e = some o ∧ o.cls = .type "StopIteration") → Q () { s with heap := h' }) :
    wpAny M A (leaving env (.ref e)) Q E s := by
  obtain ⟨hs, hk, hn, ob, vs, a0, he, hc, hd, h1, h0⟩ := X
  have hin : ∀ v ∈ (env :: outer), ∀ b, v.frame = some b → b ∈ frs (env :: outer) := fun v hv b hb => List.mem_filterMap.mpr ⟨v, hv, hb⟩
  have up1 : h.UpToSlots h₁ := fun b o eb nb => by
    refine ⟨o.slots, (hs.2 b fun q => ?_).trans eb⟩
    subst q
    obtain ⟨ws, z⟩ := hIt o eb
    exact nb ws z
  have S₁ := (S.up up1).keep hk
  refine wpAny_leaving_firstW (base := hideAll h₁ (frs (env :: outer))) hfr (S₁.fun hin) hf he (fun b o eb => hk b o (of_hideAll _ eb)) ?_ hd h1 h0 fun h' hL => ?_
  · cases q : (hideAll h₁ (frs (env :: outer))).get? e with
    | none => rfl
    | some o => have := of_hideAll _ q; rw [hn] at this; cases this
  · obtain ⟨k1, _, k3, k4⟩ := hL
    refine hQ h' ((up1.trans (Heap.UpToSlots.of_keeps hk)).trans k4) (fun b o nb nf eb => k1 b o (hideAll_get _ ((hs.2 b nb).trans eb) nf)) ?_
    obtain ⟨oe, _, _, _, _, z, z2, _⟩ := k3
    exact ⟨oe, z, z2.1.trans hc⟩
end
end Mine
namespace Mine
section
variable {prog : Program} {w : World} {A : Around} {E : Value → Shared → Prop} {s : Shared}
theorem call_list_own {I : Addr} {it T : Value} {Q : Value → Shared → Prop} (J : Nat → Array Value → Shared → Prop) (hne : it ≠ .ref s.heap.objs.size)
    (hT : ∀ (Q : Value → Shared → Prop) (E : Value → Shared → Prop) s', s.heap.StaysIn s'.heap → Q T s' → wpAny (model prog w) A.in1.in1 (typeOf it) Q E s') (hTl : (T == .type "list") = false) (hTt : (T == .type "tuple") = false)
    (hi : ∀ h₁ c, h₁.get? s.heap.objs.size = some (LO #[] c) → s.heap.StaysIn h₁ → wpAny (model prog w) A.in1.in1 (pyIter it) (fun v s₁ => v = .ref I ∧ (∀ (Q : Option Value → Shared → Prop) (E : Value → Shared → Prop), Q none s₁ → wpAny (model prog w) A.in1.in1 (specialOf it "__len__") Q E s₁) ∧
      (∀ (Q : Option Value → Shared → Prop) (E : Value → Shared → Prop), Q none s₁ → wpAny (model prog w) A.in1.in1 (specialOf it "__length_hint__") Q E s₁) ∧ ∃ c, s₁.heap.get? s.heap.objs.size = some (LO #[] c) ∧
      ∀ h' c', h'.get? s.heap.objs.size = some (LO #[] c') → Heap.SameBut s.heap.objs.size s₁.heap h' → ∃ n, J n #[] { s₁ with heap := h' }) (fun _ _ => False) { s with heap := h₁ })
    (turn : ∀ n acc s₂, J n acc s₂ → acc.size ≤ sizeLine ∧ wpAny (model prog w) A.in1.in1 (pyNext (.ref I)) (fun r s' => match r with
      | none => Q (.ref s.heap.objs.size) s'
      | some v => ∃ c, s'.heap.get? s.heap.objs.size = some (LO acc c) ∧ ∀ h' c', h'.get? s.heap.objs.size = some (LO (acc.push v) c') → Heap.SameBut s.heap.objs.size s'.heap h' → ∃ m, m < n ∧ J m (acc.push v) { s' with heap := h' }) (fun _ _ => False) s₂) :
    wpAny (model prog w) A (call (.type "list") [it]) Q E s := by
  refine callType_codes (Q₁ := fun obj s₁ => obj = .ref s.heap.objs.size ∧ s₁ = { s with heap := s.heap.push (LO #[] 0) }) F.called_list (F.typeCall_list_1 _) F.entry_list_init
    (code_list_new _ ⟨rfl, rfl⟩) fun obj s₁ h₁ => ?_
  obtain ⟨rfl, rfl⟩ := h₁
  have hS : (s.heap.push (LO #[] 0)).get? s.heap.objs.size = some (LO #[] 0) := Heap.get?_push_size _ rfl
  refine ⟨⟨_, hS, rfl⟩, F.args_list_init_2 _ _, ?_⟩
  show wpAny _ A.in1.in1 (do let old ← Builtin.List.listItems (.ref s.heap.objs.size); Builtin.List.listUpdate (.ref s.heap.objs.size) (fun _ => #[]); letGo old.toList.reverse; Builtin.List.listExtendWith (.ref s.heap.objs.size) it .none) _ _ _
  refine wpAny_bind ?_
  unfold Builtin.List.listItems
  refine wpAny_bind (wpAny_seqItems hS rfl (wpAny_pure ?_))
  show wpAny _ A.in1.in1 (updateSeq s.heap.objs.size (fun _ => #[]) >>= fun _ => letGo (#[] : Array Value).toList.reverse >>= fun _ => Builtin.List.listExtendWith (.ref s.heap.objs.size) it .none) _ _ _
  refine wpAny_bind (wpAny_updateSeq hS rfl ?_)
  have hS₂ := Heap.get?_update_self (Obj.mapSeq (fun _ => (#[] : Array Value))) hS rfl
  have k₂ : s.heap.StaysIn ((s.heap.push (LO #[] 0)).update s.heap.objs.size (Obj.mapSeq (fun _ => (#[] : Array Value)))) := fun b o e =>
    (Heap.get?_update_other _ _ (Ne.symm (Nat.ne_of_lt (Heap.lt_size e)))).trans (stays_push _ b o e)
  refine wpAny_bind (wpAny_letGo ?_)
  have hsame : Builtin.List.listSameRef (.ref s.heap.objs.size) it = false := by
    cases it <;> first | rfl | skip
    simp only [Builtin.List.listSameRef, beq_eq_false_iff_ne, ne_eq]
    intro q; subst q; exact hne rfl
  refine extend_with (A := A.in1) (R := wants (fun r s₂ => r = .none ∧ Q (.ref s.heap.objs.size) s₂) E) (c₀ := 0) J hsame (fun Q E q => hT Q E _ k₂ q) hTl hTt (hi _ _ hS₂ k₂) fun n acc s₂ hJ => ?_
  obtain ⟨hz, ht⟩ := turn n acc s₂ hJ
  refine ⟨hz, wpAny_mono ht (fun r s' hr => ?_) (fun _ _ f => f)⟩
  cases r with
  | none => exact ⟨rfl, hr⟩
  | some v => exact hr

theorem call_iter_list {l : Addr} {items : Array Value} {Q : Value → Shared → Prop} (hl : s.heap.IsList l items) (h : Q (.ref s.heap.objs.size) { s with heap := s.heap.push (litObj l) }) :
    wpAny (model prog w) A (call (.builtin "iter") [.ref l]) Q E s := by
  refine Calls.call_function_entry (by decide +kernel) (by decide +kernel) kdk_entry_iter (kdk_args_iter _) ?_
  unfold Builtin.«iter»
  refine wpAny_bind (m := someArgs "iter" 1 2 _) (wpAny_of_eq (a := [Value.ref l]) (by first | rfl | kernel_rfl!) ?_)
  show wpAny _ _ (pyIter (.ref l) >>= _) _ _ _
  refine wpAny_bind (wpAny_pyIter_list hl ?_)
  exact wpAny_pure ⟨_, rfl, h⟩
end

/-- names and what they hold -/
def Typ (h : Heap) : List (Str × D) → List (Str × Value) → Prop
  | [], [] => True
  | (x, d) :: Γ, (y, v) :: l => x = y ∧ d.At v h ∧ Typ h Γ l
  | _, _ => False
theorem Typ.look {h : Heap} : ∀ {Γ : List (Str × D)} {l : List (Str × Value)}, Typ h Γ l → ∀ x d, Γ.lookup x = some d → ∃ v, l.lookup x = some v ∧ d.At v h
  | [], [], _, x, d, e => by cases e
  | (y, t) :: Γ, (z, v) :: l, ⟨e1, e2, e3⟩, x, d, e => by
    subst e1
    by_cases q : x = y
    · subst q; simp only [List.lookup, BEq.rfl] at e ⊢; cases e; exact ⟨_, rfl, e2⟩
    · have q' : (x == y) = false := by simpa using q
      simp only [List.lookup, q'] at e ⊢
      exact Typ.look e3 x d e
  | [], _ :: _, h, _, _, _ => h.elim
  | _ :: _, [], h, _, _, _ => h.elim
end Mine
namespace Mine
theorem lim_size {h : Heap} (x : h.NoLimit) : 2 < h.objs.size := by
  first
    | (obtain ⟨m, ⟨o, _, _, ho, _⟩, _⟩ := x; exact Heap.lt_size ho)
    | (obtain ⟨⟨o, _, _, ho, _⟩, _⟩ := x; exact Heap.lt_size ho)
section
variable {prog : Program} {w : World} {A : Around} {env : Env} {h : Heap}
set_option maxHeartbeats 4000000 in
/-- a lookup in a display of two texts, with a default -/
theorem EvE.dget {k1 k2 v1 v2 y z : Str} {p1 p2 p3 p4 dp ap pos : Pos} {n1 n2 n3 n4 : Nat} {a b : Expr} {pl : Sem Bool} (hk : k1 ≠ k2) (h2 : h.NoLimit) (ha : EvE (model prog w) A env a (.str y) h) (hb : EvE (model prog w) A env b (.str z) h)
    (hs1 : starEach [a, b] env = (false, eval a env) :: starEach [b] env := by rfl) (hs2 : starEach [b] env = (false, eval b env) :: starEach [] env := by rfl)
    (he : eval (.Call (.Attribute (.Dict [some (.Constant (.str k1) n1 p1), some (.Constant (.str k2) n2 p2)] [.Constant (.str v1) n3 p3, .Constant (.str v2) n4 p4] dp) "get" ap) [a, b] [] pos) env = (do
      let ov ← eval (.Dict [some (.Constant (.str k1) n1 p1), some (.Constant (.str k2) n2 p2)] [.Constant (.str v1) n3 p3, .Constant (.str v2) n4 p4] dp) env
      standAt ap.atName
      let (f, first) ← holding [ov] (getMethod ov "get" pl)
      callWith pos f first (backTo pos (starEach [a, b] env)) []) := by rfl) :
    EvE (model prog w) A env (.Call (.Attribute (.Dict [some (.Constant (.str k1) n1 p1), some (.Constant (.str k2) n2 p2)] [.Constant (.str v1) n3 p3, .Constant (.str v2) n4 p4] dp) "get" ap) [a, b] [] pos)
      (.str (if y = k1 then v1 else if y = k2 then v2 else z)) h := fun s k => by
  have hsz : (s.heap.objs.size == sysModules) = false := by
    have h3 := lim_size (h2.keeps k)
    have : s.heap.objs.size ≠ 1 := by omega
    simpa [sysModules] using this
  refine MethodCall_ (wpAny_Dict_walk (knd := strKind prog w) rfl rfl (by simp) (by simp) ?_) he
  refine evalPairs_cons (wpAny_Constant_str (wpAny_bind (wpAny_Constant_str (wpAny_bind (wpAny_standAt (wpAny_pure ?_))))))
  refine evalPairs_cons (wpAny_Constant_str (wpAny_bind (wpAny_Constant_str (wpAny_bind (wpAny_standAt (wpAny_pure ?_))))))
  refine evalPairs_nil ⟨[(k1, _), (k2, _)], ⟨?_, rfl, ?_, rfl, True.intro⟩, Heap.DictOf.new _, fun h' hd hs => ?_⟩
  · simp [PySem.strKind, Value.isStrOf]
  · simp [PySem.strKind, Value.isStrOf]
  have e : ∀ V1 V2 : Value, merged [] [(k1, V1), (k2, V2)] = [(k1, V1), (k2, V2)] := fun V1 V2 => by
    simp [merged, stored, hk]
  rw [e] at hd
  have kk : s.heap.StaysIn h' := fun b o q => (hs.2 b (Nat.ne_of_lt (Heap.lt_size q))).trans (Heap.get?_push_of_some _ q)
  refine getMethod_builtin hd.typeIs F.plainAttrs_dict F.slot_dict_get F.type_dict_get hd.mapOf.noDict ?_
  rw [hs1, hs2]
  refine wpAny_dict_get2 (knd := strKind prog w) hsz ?_
  refine (ha _ (stays_trans k kk)).go fun v s₁ k₁ hv => ?_
  refine (hb s₁ (stays_trans (stays_trans k kk) k₁.stays)).go fun u s₂ k₂ hu => ?_
  obtain ⟨t, rfl⟩ := hv
  obtain ⟨tu, rfl⟩ := hu
  have hd2 := (let ⟨o, es, ep, ho, r⟩ := hd; ⟨o, es, ep, (k₁.trans k₂).stays _ _ ho, r⟩ : Heap.DictOf (PySem.strKind prog w) s₂.heap s.heap.objs.size _)
  refine ⟨y, _, by simp [PySem.strKind, Value.isStrOf], hd2.mapOf, ((Kp.mk kk : Kp s { s with heap := h', toks := _ }).trans (k₁.trans k₂)).trans (Kp.toks _), ?_⟩
  by_cases q1 : y = k1
  · subst q1
    rw [if_pos rfl]
    simp [valueAt, D.At]
  · rw [if_neg q1]
    by_cases q2 : y = k2
    · subst q2
      rw [if_pos rfl]
      simp [valueAt, D.At, hk]
    · rw [if_neg q2]
      simp [valueAt, D.At, Ne.symm q1, Ne.symm q2]
end
end Mine
namespace Mine
/-- a text from its signs -/
def St (l : List Nat) : Str := ⟨l.toArray⟩
theorem St_of (x : Str) : St x.cps.toList = x := Str.ext' (by simp [St])
theorem St_list (l : List Nat) : (St l).cps.toList = l := by simp [St]
theorem St_inj {a b : List Nat} (h : St a = St b) : a = b := by have := congrArg (fun x : Str => x.cps.toList) h; simpa [St_list] using this
theorem St_len (l : List Nat) : (St l).length = l.length := by simp [St, Str.length]
theorem St_app (a b : List Nat) : St a ++ St b = St (a ++ b) := Str.ext' (by rw [Str.cps_append]; simp [St])

def abc : List Nat := [97, 65, 98, 66, 49, 32, 9, 45]
def upC (c : Nat) : Nat := if c = 97 then 65 else if c = 98 then 66 else c
def lowC (c : Nat) : Nat := if c = 65 then 97 else if c = 66 then 98 else c
def capL : List Nat → List Nat
  | [] => []
  | c :: r => upC c :: r.map lowC
theorem title_abc : ∀ c ∈ abc, Unicode.titleOf c = [upC c] := by decide +kernel
theorem lower_abc : ∀ c ∈ abc, Unicode.lowerOf c = [lowC c] := by decide +kernel
theorem space_abc : ∀ c ∈ abc, Unicode.isSpace c = (c == 32 || c == 9) := by decide +kernel
theorem capL_len : ∀ l : List Nat, (capL l).length = l.length
  | [] => rfl
  | c :: r => by simp [capL]
theorem up_abc : ∀ c ∈ abc, upC c ∈ abc := by decide
theorem low_abc : ∀ c ∈ abc, lowC c ∈ abc := by decide
theorem capL_abc {l : List Nat} (h : ∀ c ∈ l, c ∈ abc) : ∀ c ∈ capL l, c ∈ abc := by
  cases l with
  | nil => intro c hc; cases hc
  | cons a r =>
    intro c hc
    rcases List.mem_cons.mp hc with rfl | hc
    · exact up_abc _ (h a (.head _))
    · obtain ⟨d, hd, rfl⟩ := List.mem_map.mp hc
      exact low_abc _ (h d (.tail _ hd))

theorem flat_single {α : Type} (g : Nat → α → α) : ∀ (l : List α) (f : Nat → α → List α), (∀ i c, l[i]? = some c → f i c = [g i c]) → (l.mapIdx f).flatten = l.mapIdx g
  | [], _, _ => rfl
  | c :: r, f, h => by
    rw [List.mapIdx_cons, List.mapIdx_cons, List.flatten_cons, h 0 c rfl, flat_single (fun i => g (i + 1)) r (fun i => f (i + 1)) fun i d e => h (i + 1) d (by simpa using e)]
    rfl
theorem map_mapIdx' {α β γ : Type} (g : β → γ) : ∀ (l : List α) (f : Nat → α → β), (l.mapIdx f).map g = l.mapIdx fun i c => g (f i c)
  | [], _ => rfl
  | c :: r, f => by rw [List.mapIdx_cons, List.mapIdx_cons, List.map_cons, map_mapIdx' g r]
theorem placed_list (x : Str) (f : Nat → Nat → List Nat) : (placed x f).toList = (x.cps.toList.mapIdx f).flatten := by
  unfold placed
  rw [Array.toList_flatten, Array.toList_mapIdx, map_mapIdx']
theorem mapIdx_const {α β : Type} (g : α → β) : ∀ l : List α, (l.mapIdx fun _ c => g c) = l.map g
  | [] => rfl
  | c :: r => by rw [List.mapIdx_cons, mapIdx_const g r]; rfl
theorem capitalize_St {l : List Nat} (h : ∀ c ∈ l, c ∈ abc) : Txt.capitalize (St l) = St (capL l) := by
  unfold Txt.capitalize
  cases l with
  | nil => rfl
  | cons a r =>
    rw [if_neg (by simp [St_len])]
    apply Str.ext'
    apply Array.toList_inj.mp
    show (placed (St (a :: r)) _).toList = _
    rw [placed_list, St_list, St_list, flat_single (fun i c => if i = 0 then upC c else lowC c)]
    · rw [List.mapIdx_cons]
      show upC a :: _ = upC a :: _
      congr 1
      exact mapIdx_const lowC r
    · intro i c e
      have hm := h c (List.mem_of_getElem? e)
      by_cases hi : i = 0
      · subst hi; simp [title_abc c hm]
      · have e' : (St (a :: r)).cps[i]? = some c := by rw [← Array.getElem?_toList, St_list]; exact e
        have hne : (c == 0x3A3) = false := by
          have : ∀ c ∈ abc, (c == 0x3A3) = false := by decide
          exact this c hm
        have hb : (i == 0) = false := by simpa using hi
        rw [hb]
        simp only [Unicode.lowerAt, e', hne, Bool.false_and, Bool.false_eq_true, if_false, hi]
        exact lower_abc c hm
end Mine
namespace Mine
def wstep (st : List (List Nat) × List Nat) (c : Nat) : List (List Nat) × List Nat :=
  if (c == 32 || c == 9) = true then (if st.2 = [] then st else (st.1 ++ [st.2], [])) else (st.1, st.2 ++ [c])
def wfin (st : List (List Nat) × List Nat) : List (List Nat) := if st.2 = [] then st.1 else st.1 ++ [st.2]
def wordsL (l : List Nat) : List (List Nat) := wfin (l.foldl wstep ([], []))

theorem scan_St : ∀ (l : List Nat) (st : List (List Nat) × List Nat), (∀ c ∈ l, c ∈ abc) →
    l.foldl KWd.step (st.1.map St, St st.2) = ((l.foldl wstep st).1.map St, St (l.foldl wstep st).2)
  | [], _, _ => rfl
  | c :: r, st, h => by
    rw [List.foldl_cons, List.foldl_cons, ← scan_St r (wstep st c) fun d hd => h d (.tail _ hd)]
    congr 1
    unfold KWd.step wstep
    rw [space_abc c (h c (.head _))]
    cases hc : (c == 32 || c == 9)
    · rw [if_neg (by decide), if_neg (by decide)]
      show (_, St st.2 ++ St [c]) = _
      rw [St_app]
    · rw [if_pos rfl, if_pos rfl]
      by_cases q : st.2 = []
      · rw [if_pos (by simp [St_len, q]), if_pos q]
      · rw [if_neg (by simpa [St_len] using q), if_neg q, List.map_append]
        rfl
theorem words_St {l : List Nat} (h : ∀ c ∈ l, c ∈ abc) : Txt.words (St l) = (wordsL l).map St := by
  rw [KWd.words_scan]
  unfold KWd.scan
  rw [St_list]
  have := scan_St l ([], []) h
  show KWd.fin (l.foldl KWd.step ([].map St, St [])) = _
  rw [this]
  unfold KWd.fin wordsL wfin
  by_cases q : (l.foldl wstep ([], [])).2 = []
  · rw [if_pos (by simp [St_len, q]), if_pos q]
  · rw [if_neg (by simpa [St_len] using q), if_neg q, List.map_append]
    rfl

def spl (m : List Nat) : Nat → List Nat → List Nat → List (List Nat)
  | 0, w, cs => [w ++ cs]
  | _ + 1, w, [] => [w]
  | n + 1, w, c :: cs => if (c :: cs).take m.length = m then w :: spl m n [] ((c :: cs).drop m.length) else spl m n (w ++ [c]) cs
def splitL (m l : List Nat) : List (List Nat) := spl m l.length [] l

theorem spl_fuel {m : List Nat} (hm : m ≠ []) : ∀ (n n' : Nat) (w cs : List Nat), cs.length ≤ n → cs.length ≤ n' → spl m n w cs = spl m n' w cs
  | 0, n', w, cs, h, _ => by
    obtain rfl : cs = [] := List.eq_nil_of_length_eq_zero (by omega)
    cases n' <;> simp [spl]
  | n + 1, 0, w, cs, _, h => by
    obtain rfl : cs = [] := List.eq_nil_of_length_eq_zero (by omega)
    simp [spl]
  | n + 1, n' + 1, w, [], _, _ => rfl
  | n + 1, n' + 1, w, c :: cs, h, h' => by
    have hl : m.length ≠ 0 := fun q => hm (List.eq_nil_of_length_eq_zero q)
    simp only [List.length_cons] at h h'
    unfold spl
    rw [spl_fuel hm n n' (w ++ [c]) cs (by omega) (by omega), spl_fuel hm n n' [] ((c :: cs).drop m.length) (by simp only [List.length_drop, List.length_cons]; omega) (by simp only [List.length_drop, List.length_cons]; omega)]

theorem spl_skip {m : List Nat} (hm : m ≠ []) : ∀ (d : Nat) (n : Nat) (w cs : List Nat), cs.length ≤ n → d ≤ cs.length → (∀ k, k < d → ¬ (cs.drop k).take m.length = m) → spl m n w cs = spl m (n - d) (w ++ cs.take d) (cs.drop d)
  | 0, n, w, cs, _, _, _ => by simp
  | d + 1, n, w, cs, hn, hd, hk => by
    cases cs with
    | nil => simp at hd
    | cons c cs =>
      cases n with
      | zero => simp at hn
      | succ n =>
        have h0 := hk 0 (by omega)
        rw [List.drop_zero] at h0
        rw [spl, if_neg h0, spl_skip hm d n (w ++ [c]) cs (by simpa using hn) (by simpa using hd) fun k hlt => by
          have := hk (k + 1) (by omega)
          simpa using this]
        simp
theorem spl_none {m : List Nat} (hm : m ≠ []) {n : Nat} {w cs : List Nat} (hn : cs.length ≤ n) (hk : ∀ k, ¬ (cs.drop k).take m.length = m) : spl m n w cs = [w ++ cs] := by
  rw [spl_skip hm cs.length n w cs hn (Nat.le_refl _) fun k _ => hk k, List.take_length, List.drop_length]
  cases n - cs.length <;> simp [spl]
theorem spl_hit {m : List Nat} (hm : m ≠ []) {n d : Nat} {w cs : List Nat} (hn : cs.length ≤ n) (hk : ∀ k, k < d → ¬ (cs.drop k).take m.length = m) (hd : (cs.drop d).take m.length = m) :
    spl m n w cs = (w ++ cs.take d) :: spl m n [] ((cs.drop d).drop m.length) := by
  have hl : m.length ≠ 0 := fun q => hm (List.eq_nil_of_length_eq_zero q)
  have hdl : d + m.length ≤ cs.length := by
    have := congrArg List.length hd
    rw [List.length_take, List.length_drop] at this
    omega
  rw [spl_skip hm d n w cs hn (by omega) hk]
  cases q : cs.drop d with
  | nil => rw [q] at hd; simp at hd; exact absurd hd (fun z => hm z)
  | cons c r =>
    have hlen := congrArg List.length q
    rw [List.length_drop, List.length_cons] at hlen
    obtain ⟨n', hn'⟩ : ∃ n', n - d = n' + 1 := ⟨n - d - 1, by omega⟩
    rw [hn', spl, if_pos (by rw [← q]; exact hd)]
    congr 1
    exact spl_fuel hm _ _ _ _ (by simp only [List.length_drop, List.length_cons]; omega) (by simp only [List.length_drop, List.length_cons]; omega)

theorem at_iff {l m : List Nat} (hm : m ≠ []) (k : Nat) : StrLaws.At (St l) (St m) (St l).length k ↔ (l.drop k).take m.length = m := by
  have hl : m.length ≠ 0 := fun q => hm (List.eq_nil_of_length_eq_zero q)
  unfold StrLaws.At
  rw [StrLaws.subAt_eq, St_list, St_list, St_len, St_len]
  constructor
  · rintro ⟨_, h⟩; exact eq_of_beq h
  · intro h
    refine ⟨?_, by rw [h]; exact beq_self_eq_true _⟩
    have := congrArg List.length h
    rw [List.length_take, List.length_drop] at this
    omega
theorem strSub_St (l : List Nat) (i j : Nat) : Builtin.Str.strSub (St l) i j = St ((l.drop i).take (j - i)) := Str.ext' (Array.toList_inj.mp (by rw [StrLaws.strSub_toList, St_list, St_list]))
theorem parts_St {l m : List Nat} (hm : m ≠ []) : ∀ (cuts : List Nat) (a f n : Nat), StrLaws.ChainG (St l) (St m) (St l).length a cuts f → (∀ k, f ≤ k → ¬ StrLaws.At (St l) (St m) (St l).length k) → l.length ≤ n →
    StrLaws.partsFrom (St l) m.length a cuts = (spl m n [] (l.drop a)).map St
  | [], a, f, n, h, hf, hn => by
    obtain rfl : f = a := h
    rw [spl_none hm (by rw [List.length_drop]; omega) fun k => by
      have := hf (f + k) (by omega)
      rw [at_iff hm] at this
      rwa [List.drop_drop]]
    show [Builtin.Str.strSub _ _ _] = _
    rw [strSub_St, St_len, List.nil_append, List.take_of_length_le (by rw [List.length_drop]; omega)]
    rfl
  | c :: r, a, f, n, h, hf, hn => by
    obtain ⟨h1, h2, h3, h4⟩ := h
    rw [at_iff hm] at h2
    have e : a + (c - a) = c := by omega
    rw [spl_hit hm (d := c - a) (by rw [List.length_drop]; omega) (fun k hk => by
      have := h3 (a + k) (by omega) (by omega)
      rw [at_iff hm] at this
      rwa [List.drop_drop]) (by rw [List.drop_drop, e]; exact h2)]
    show Builtin.Str.strSub _ _ _ :: StrLaws.partsFrom (St l) m.length (c + m.length) r = _
    have h4' : StrLaws.ChainG (St l) (St m) (St l).length (c + m.length) r f := by rw [St_len] at h4; exact h4
    rw [parts_St hm r (c + m.length) f n h4' hf hn, strSub_St, List.map_cons, List.nil_append, List.drop_drop, List.drop_drop]
    have e2 : a + (c - a + m.length) = c + m.length := by omega
    rw [e2]
theorem kind_one {l : List Nat} (h : ∀ c ∈ l, c ∈ abc) : Builtin.Str.strKind (St l) = 1 := by
  unfold Builtin.Str.strKind
  rw [if_pos]
  rw [← Array.all_toList, St_list, List.all_eq_true]
  intro c hc
  have : ∀ c ∈ abc, decide (c < 256) = true := by decide
  exact this c (h c hc)
theorem split_St {l m : List Nat} (hm : m ≠ []) (h : ∀ c ∈ l, c ∈ abc) (h' : ∀ c ∈ m, c ∈ abc) : Txt.split (St l) (St m) = (splitL m l).map St := by
  unfold Txt.split splitL
  have hw : 1 ≤ (St m).length := by
    rw [St_len]
    cases m with
    | nil => exact absurd rfl hm
    | cons _ _ => simp
  have none_ : ∀ (p : ∀ k, ¬ StrLaws.At (St l) (St m) (St l).length k), [St l] = (spl m l.length [] l).map St := fun p => by
    rw [spl_none hm (Nat.le_refl _) fun k => by have := p k; rwa [at_iff hm] at this]
    rfl
  split
  · rename_i q
    simp only [Bool.or_eq_true, decide_eq_true_eq, kind_one h, kind_one h', Nat.lt_irrefl, or_false, St_len] at q
    refine none_ fun k hk => ?_
    have := hk.1
    rw [St_len, St_len] at this
    omega
  · obtain ⟨f, c1, c2⟩ := StrLaws.occ_tight (St l) (St m) hw
    split
    · rename_i q
      rw [List.isEmpty_iff] at q
      rw [q] at c1
      obtain rfl : f = 0 := c1
      exact none_ fun k => c2 k (Nat.zero_le _)
    · rw [StrLaws.partsBetween_eq]
      have := parts_St hm _ 0 f l.length c1 c2 (Nat.le_refl _)
      rw [List.drop_zero] at this
      rw [← this, St_len m]
end Mine
namespace Mine
def joinL (m : List Nat) : List (List Nat) → List Nat
  | [] => []
  | [x] => x
  | x :: y :: r => x ++ m ++ joinL m (y :: r)
def piecesL (mk : Option (List Nat)) (l : List Nat) : List (List Nat) := match mk with
  | none => wordsL l
  | some m => splitL m l
def capwL (l : List Nat) (mk : Option (List Nat)) : List Nat := joinL (mk.getD [32]) ((piecesL mk l).map capL)

theorem join_St (m : List Nat) : ∀ ps : List (List Nat), Txt.join (St m) (ps.map St) = St (joinL m ps)
  | [] => rfl
  | [x] => by
    show Builtin.Str.glued _ _ = _
    rw [StrLaws.glued_eq_join]; rfl
  | x :: y :: r => by
    have h := join_St m (y :: r)
    have h' : Builtin.Str.glued (St m) ((y :: r).map St) = St (joinL m (y :: r)) := h
    rw [StrLaws.glued_eq_join] at h'
    show Builtin.Str.glued _ _ = _
    rw [StrLaws.glued_eq_join]
    show St x ++ St m ++ Str.join (St m) ((y :: r).map St) = _
    rw [h', St_app, St_app]; rfl

/-- a mark: some signs, none of them a letter -/
structure MarkOk (m : List Nat) : Prop where
  ne : m ≠ []
  short : m.length ≤ 2
  in_ : ∀ c ∈ m, c ∈ [49, 32, 9, 45]

def cls (c : Nat) : Nat := if c = 97 ∨ c = 65 ∨ c = 98 ∨ c = 66 then 0 else c
theorem cls_up (c : Nat) : cls (upC c) = cls c := by unfold cls upC; repeat' split <;> simp_all
theorem cls_low (c : Nat) : cls (lowC c) = cls c := by unfold cls lowC; repeat' split <;> simp_all
theorem cls_cap (l : List Nat) : (capL l).map cls = l.map cls := by
  cases l with
  | nil => rfl
  | cons c r => simp [capL, cls_up, cls_low]
theorem cls_mark {c : Nat} (h : c ∈ [49, 32, 9, 45]) : cls c = c ∧ c ≠ 0 := by
  revert c; decide
theorem cls_eq {m l : List Nat} (h : ∀ c ∈ m, cls c = c ∧ c ≠ 0) : l.map cls = m ↔ l = m := by
  constructor
  · intro e
    subst e
    have : ∀ c ∈ l, cls c = c := fun c hc => by
      obtain ⟨h1, h2⟩ := h (cls c) (List.mem_map.mpr ⟨c, hc, rfl⟩)
      unfold cls at h1 h2 ⊢
      split
      · rename_i q; rw [if_pos q] at h2; exact absurd rfl h2
      · rfl
    exact (List.map_congr_left this ▸ (List.map_id' l).symm : l = l.map cls)
  · rintro rfl
    have : l.map cls = l.map id := List.map_congr_left fun c hc => (h c hc).1
    rw [this, List.map_id]
theorem spl_cls {m : List Nat} (h : ∀ c ∈ m, cls c = c ∧ c ≠ 0) : ∀ (n : Nat) (w cs : List Nat), (spl m n w cs).map (·.map cls) = spl m n (w.map cls) (cs.map cls)
  | 0, w, cs => by simp [spl]
  | n + 1, w, [] => by simp [spl]
  | n + 1, w, c :: cs => by
    have e : (cls c :: cs.map cls).take m.length = m ↔ (c :: cs).take m.length = m := by rw [← List.map_cons, ← List.map_take]; exact cls_eq h
    show _ = spl m (n + 1) (w.map cls) (cls c :: cs.map cls)
    unfold spl
    by_cases q : (c :: cs).take m.length = m
    · rw [if_pos q, if_pos (e.mpr q), List.map_cons, spl_cls h n]
      rw [← List.map_cons, ← List.map_drop]; rfl
    · rw [if_neg q, if_neg (fun z => q (e.mp z)), spl_cls h n]
      simp
theorem spl_ne (m : List Nat) : ∀ (n : Nat) (w cs : List Nat), ∃ p r, spl m n w cs = p :: r
  | 0, w, cs => ⟨_, _, rfl⟩
  | n + 1, w, [] => ⟨_, _, rfl⟩
  | n + 1, w, c :: cs => by
    unfold spl
    split
    · exact ⟨_, _, rfl⟩
    · exact spl_ne m n _ _
theorem spl_join (m : List Nat) : ∀ (n : Nat) (w cs : List Nat), joinL m (spl m n w cs) = w ++ cs
  | 0, w, cs => rfl
  | n + 1, w, [] => by simp [spl, joinL]
  | n + 1, w, c :: cs => by
    unfold spl
    split
    · rename_i q
      have ih := spl_join m n [] ((c :: cs).drop m.length)
      obtain ⟨p, r, e⟩ := spl_ne m n [] ((c :: cs).drop m.length)
      rw [e] at ih ⊢
      show w ++ m ++ joinL m (p :: r) = _
      rw [ih, List.nil_append, List.append_assoc]
      congr 1
      have := List.take_append_drop m.length (c :: cs)
      rw [q] at this
      exact this
    · rw [spl_join m n]; simp
theorem join_inj (m : List Nat) : ∀ (A B : List (List Nat)), A.map List.length = B.map List.length → joinL m A = joinL m B → A = B
  | [], [], _, _ => rfl
  | [], _ :: _, h, _ => by simp at h
  | _ :: _, [], h, _ => by simp at h
  | [a], [b], _, e => by rw [show a = b from e]
  | [a], _ :: _ :: _, h, _ => by simp at h
  | _ :: _ :: _, [b], h, _ => by simp at h
  | a :: a' :: A, b :: b' :: B, h, e => by
    simp only [List.map_cons, List.cons.injEq] at h
    have e' : a ++ (m ++ joinL m (a' :: A)) = b ++ (m ++ joinL m (b' :: B)) := by simpa [joinL] using e
    obtain ⟨e1, e2⟩ := List.append_inj e' h.1
    obtain ⟨_, e3⟩ := List.append_inj e2 rfl
    rw [e1, join_inj m (a' :: A) (b' :: B) (by simp [h.2]) e3]
theorem join_cls {m : List Nat} (h : m.map cls = m) : ∀ A : List (List Nat), (joinL m A).map cls = joinL m (A.map (·.map cls))
  | [] => rfl
  | [a] => rfl
  | a :: b :: A => by
    show (a ++ m ++ joinL m (b :: A)).map cls = a.map cls ++ m ++ joinL m ((b :: A).map (·.map cls))
    rw [List.map_append, List.map_append, h, join_cls h (b :: A)]
theorem split_cap {m : List Nat} (hm : MarkOk m) (l : List Nat) : splitL m (joinL m ((splitL m l).map capL)) = (splitL m l).map capL := by
  have h : ∀ c ∈ m, cls c = c ∧ c ≠ 0 := fun c hc => cls_mark (hm.in_ c hc)
  have hmm : m.map cls = m := (cls_eq h).mpr rfl
  have hcap : ((splitL m l).map capL).map (·.map cls) = (splitL m l).map (·.map cls) := by
    rw [List.map_map]; exact List.map_congr_left fun a _ => cls_cap a
  have h1 : (joinL m ((splitL m l).map capL)).map cls = l.map cls := by
    rw [join_cls hmm, hcap, ← join_cls hmm, splitL, spl_join, List.nil_append]
  have hlen : (joinL m ((splitL m l).map capL)).length = l.length := by simpa using congrArg List.length h1
  have h2 : (splitL m (joinL m ((splitL m l).map capL))).map (·.map cls) = ((splitL m l).map capL).map (·.map cls) := by
    rw [hcap]
    unfold splitL
    rw [spl_cls h, spl_cls h]
    unfold splitL at h1 hlen
    rw [h1, hlen]
  refine join_inj m _ _ ?_ ?_
  · have := congrArg (List.map List.length) h2
    rw [List.map_map, List.map_map] at this
    have e : (List.length ∘ fun x : List Nat => x.map cls) = List.length := by funext x; simp
    rwa [e] at this
  · rw [splitL, spl_join, List.nil_append]

-- words
def Wd (w : List Nat) : Prop := w ≠ [] ∧ ∀ c ∈ w, (c == 32 || c == 9) = false
theorem fold_word : ∀ (w : List Nat) (A : List (List Nat)) (v : List Nat), (∀ c ∈ w, (c == 32 || c == 9) = false) → w.foldl wstep (A, v) = (A, v ++ w)
  | [], A, v, _ => by simp
  | c :: r, A, v, h => by
    rw [List.foldl_cons]
    have e : wstep (A, v) c = (A, v ++ [c]) := by unfold wstep; rw [if_neg (by rw [h c (.head _)]; decide)]
    rw [e, fold_word r A _ fun d hd => h d (.tail _ hd)]
    simp
theorem words_join : ∀ (W A : List (List Nat)), (∀ w ∈ W, Wd w) → wfin ((joinL [32] W).foldl wstep (A, [])) = A ++ W
  | [], A, _ => by simp [joinL, wfin]
  | [w], A, h => by
    show wfin (w.foldl wstep (A, [])) = _
    rw [fold_word w A [] (h w (.head _)).2]
    unfold wfin
    rw [if_neg (by simpa using (h w (.head _)).1)]
    simp
  | w :: w' :: W, A, h => by
    show wfin ((w ++ [32] ++ joinL [32] (w' :: W)).foldl wstep (A, [])) = _
    rw [List.foldl_append, List.foldl_append, fold_word w A [] (h w (.head _)).2]
    have e : ([32] : List Nat).foldl wstep (A, [] ++ w) = (A ++ [w], []) := by
      show wstep (A, [] ++ w) 32 = _
      unfold wstep
      rw [if_pos (by decide), if_neg (by simpa using (h w (.head _)).1)]
      simp
    rw [e, words_join (w' :: W) (A ++ [w]) fun v hv => h v (.tail _ hv)]
    simp
theorem fold_good : ∀ (l : List Nat) (st : List (List Nat) × List Nat), (∀ w ∈ st.1, Wd w) → (∀ c ∈ st.2, (c == 32 || c == 9) = false) → (∀ w ∈ (l.foldl wstep st).1, Wd w) ∧ ∀ c ∈ (l.foldl wstep st).2, (c == 32 || c == 9) = false
  | [], st, h1, h2 => ⟨h1, h2⟩
  | c :: r, st, h1, h2 => by
    rw [List.foldl_cons]
    refine fold_good r (wstep st c) ?_ ?_ <;> unfold wstep
    · split
      · split
        · exact h1
        · rename_i q
          intro w hw
          rcases List.mem_append.mp hw with hw | hw
          · exact h1 w hw
          · rw [List.mem_singleton.mp hw]; exact ⟨q, h2⟩
      · exact h1
    · split
      · split
        · exact h2
        · intro d hd; cases hd
      · rename_i q
        intro d hd
        rcases List.mem_append.mp hd with hd | hd
        · exact h2 d hd
        · rw [List.mem_singleton.mp hd]; simpa using q
theorem words_good (l : List Nat) : ∀ w ∈ wordsL l, Wd w := by
  obtain ⟨h1, h2⟩ := fold_good l ([], []) (by simp) (by simp)
  unfold wordsL wfin
  split
  · exact h1
  · rename_i q
    intro w hw
    rcases List.mem_append.mp hw with hw | hw
    · exact h1 w hw
    · rw [List.mem_singleton.mp hw]; exact ⟨q, h2⟩
theorem sp_up (c : Nat) (h : (c == 32 || c == 9) = false) : (upC c == 32 || upC c == 9) = false := by unfold upC; repeat' split <;> simp_all
theorem sp_low (c : Nat) (h : (c == 32 || c == 9) = false) : (lowC c == 32 || lowC c == 9) = false := by unfold lowC; repeat' split <;> simp_all
theorem wd_cap {w : List Nat} (h : Wd w) : Wd (capL w) := by
  obtain ⟨h1, h2⟩ := h
  cases w with
  | nil => exact absurd rfl h1
  | cons c r =>
    refine ⟨by simp [capL], fun d hd => ?_⟩
    rcases List.mem_cons.mp hd with rfl | hd
    · exact sp_up c (h2 c (.head _))
    · obtain ⟨e, he, rfl⟩ := List.mem_map.mp hd
      exact sp_low e (h2 e (.tail _ he))
theorem words_cap (l : List Nat) : wordsL (joinL [32] ((wordsL l).map capL)) = (wordsL l).map capL := by
  have := words_join ((wordsL l).map capL) [] fun w hw => by
    obtain ⟨v, hv, rfl⟩ := List.mem_map.mp hw
    exact wd_cap (words_good l v hv)
  rwa [List.nil_append] at this

def MkOk (mk : Option (List Nat)) : Prop := ∀ m, mk = some m → MarkOk m
theorem pieces_cap {mk : Option (List Nat)} (h : MkOk mk) (l : List Nat) : piecesL mk (capwL l mk) = (piecesL mk l).map capL := by
  cases mk with
  | none => exact words_cap l
  | some m => exact split_cap (h m rfl) l

-- letters
theorem up_low (c : Nat) : upC (lowC c) = upC c := by unfold upC lowC; repeat' split <;> simp_all
theorem low_up (c : Nat) : lowC (upC c) = lowC c := by unfold upC lowC; repeat' split <;> simp_all
theorem low_low (c : Nat) : lowC (lowC c) = lowC c := by
  unfold lowC
  by_cases h1 : c = 65
  · subst h1; rfl
  · by_cases h2 : c = 66
    · subst h2; rfl
    · simp [h1, h2]
theorem cap_low (l : List Nat) : capL (l.map lowC) = capL l := by
  cases l with
  | nil => rfl
  | cons c r => simp [capL, up_low, low_low]
theorem low_cap (l : List Nat) : (capL l).map lowC = l.map lowC := by
  cases l with
  | nil => rfl
  | cons c r => simp [capL, low_up, low_low]
theorem cap_eq_iff (u v : List Nat) : capL u = capL v ↔ u.map lowC = v.map lowC :=
  ⟨fun e => by rw [← low_cap u, ← low_cap v, e], fun e => by rw [← cap_low u, ← cap_low v, e]⟩

-- weights
def wt (A : List (List Nat)) : Nat := (A.map List.length).sum + A.length
theorem wt_cons (a : List Nat) (A : List (List Nat)) : wt (a :: A) = a.length + 1 + wt A := by unfold wt; simp; omega
theorem wt_app (A B : List (List Nat)) : wt (A ++ B) = wt A + wt B := by unfold wt; simp; omega
theorem spl_wt {m : List Nat} (hm : m ≠ []) : ∀ (n : Nat) (w cs : List Nat), wt (spl m n w cs) ≤ w.length + cs.length + 1
  | 0, w, cs => by simp [spl, wt]
  | n + 1, w, [] => by simp [spl, wt]
  | n + 1, w, c :: cs => by
    have hl : m.length ≠ 0 := fun q => hm (List.eq_nil_of_length_eq_zero q)
    unfold spl
    split
    · rw [wt_cons]
      have := spl_wt hm n [] ((c :: cs).drop m.length)
      simp only [List.length_nil, List.length_drop, List.length_cons] at this ⊢
      omega
    · have := spl_wt hm n (w ++ [c]) cs
      simp only [List.length_append, List.length_cons, List.length_nil] at this ⊢
      omega
theorem fold_wt : ∀ (l : List Nat) (st : List (List Nat) × List Nat), wt (l.foldl wstep st).1 + (l.foldl wstep st).2.length ≤ wt st.1 + st.2.length + l.length
  | [], st => by simp
  | c :: r, st => by
    rw [List.foldl_cons]
    refine Nat.le_trans (fold_wt r (wstep st c)) ?_
    unfold wstep
    simp only [List.length_cons]
    repeat' split
    · omega
    · rename_i q
      have : st.2.length ≠ 0 := fun z => q (List.eq_nil_of_length_eq_zero z)
      simp only [wt_app, wt_cons, List.length_nil]
      simp [wt]; omega
    · simp; omega
theorem pieces_wt {mk : Option (List Nat)} (h : MkOk mk) (l : List Nat) : wt (piecesL mk l) ≤ l.length + 1 := by
  cases mk with
  | none =>
    have := fold_wt l ([], [])
    show wt (wfin _) ≤ _
    unfold wfin
    simp only [wt, List.map_nil, List.sum_nil, List.length_nil, Nat.zero_add, Nat.add_zero] at this ⊢
    split
    · omega
    · simp; omega
  | some m =>
    have := spl_wt (h m rfl).ne l.length [] l
    show wt (spl m l.length [] l) ≤ _
    simpa using this
theorem len_wt {A : List (List Nat)} : ∀ {a : List Nat}, a ∈ A → a.length + 1 ≤ wt A := by
  induction A with
  | nil => intro a h; cases h
  | cons b B ih =>
    intro a h
    rw [wt_cons]
    rcases List.mem_cons.mp h with rfl | h
    · omega
    · have := ih h; omega
theorem num_wt (A : List (List Nat)) : A.length ≤ wt A := by unfold wt; omega
end Mine
namespace Mine
theorem spl_mem {m : List Nat} {a : Nat} : ∀ (n : Nat) (w cs : List Nat), (∃ p ∈ spl m n w cs, a ∈ p) → a ∈ w ∨ a ∈ cs
  | 0, w, cs, ⟨p, hp, ha⟩ => by
    rw [List.mem_singleton.mp hp] at ha; exact List.mem_append.mp ha
  | n + 1, w, [], ⟨p, hp, ha⟩ => by
    rw [List.mem_singleton.mp hp] at ha; exact .inl ha
  | n + 1, w, c :: cs, ⟨p, hp, ha⟩ => by
    unfold spl at hp
    split at hp
    · rcases List.mem_cons.mp hp with rfl | hp
      · exact .inl ha
      · rcases spl_mem n _ _ ⟨p, hp, ha⟩ with h | h
        · cases h
        · exact .inr (List.mem_of_mem_drop h)
    · rcases spl_mem n _ _ ⟨p, hp, ha⟩ with h | h
      · rcases List.mem_append.mp h with h | h
        · exact .inl h
        · rw [List.mem_singleton.mp h]; exact .inr (.head _)
      · exact .inr (.tail _ h)
theorem fold_mem {a : Nat} : ∀ (l : List Nat) (st : List (List Nat) × List Nat), ((∃ p ∈ (l.foldl wstep st).1, a ∈ p) ∨ a ∈ (l.foldl wstep st).2) → ((∃ p ∈ st.1, a ∈ p) ∨ a ∈ st.2) ∨ a ∈ l
  | [], st, h => .inl h
  | c :: r, st, h => by
    rw [List.foldl_cons] at h
    rcases fold_mem r _ h with h | h
    · unfold wstep at h
      split at h
      · split at h
        · exact .inl h
        · rcases h with ⟨p, hp, ha⟩ | h
          · rcases List.mem_append.mp hp with hp | hp
            · exact .inl (.inl ⟨p, hp, ha⟩)
            · rw [List.mem_singleton.mp hp] at ha; exact .inl (.inr ha)
          · cases h
      · rcases h with h | h
        · exact .inl (.inl h)
        · rcases List.mem_append.mp h with h | h
          · exact .inl (.inr h)
          · rw [List.mem_singleton.mp h]; exact .inr (.head _)
    · exact .inr (.tail _ h)
theorem pieces_mem {mk : Option (List Nat)} {l p : List Nat} {a : Nat} (hp : p ∈ piecesL mk l) (ha : a ∈ p) : a ∈ l := by
  cases mk with
  | none =>
    have hp' : p ∈ wfin (l.foldl wstep ([], [])) := hp
    have : (∃ p ∈ (l.foldl wstep ([], [])).1, a ∈ p) ∨ a ∈ (l.foldl wstep ([], [])).2 := by
      unfold wfin at hp'
      split at hp'
      · exact .inl ⟨p, hp', ha⟩
      · rcases List.mem_append.mp hp' with hp | hp
        · exact .inl ⟨p, hp, ha⟩
        · rw [List.mem_singleton.mp hp] at ha; exact .inr ha
    rcases fold_mem l _ this with (⟨_, h, _⟩ | h) | h
    · cases h
    · cases h
    · exact h
  | some m =>
    rcases spl_mem _ _ _ ⟨p, (hp : p ∈ spl m l.length [] l), ha⟩ with h | h
    · cases h
    · exact h
theorem mark_abc {m : List Nat} (h : MarkOk m) : ∀ c ∈ m, c ∈ abc := fun c hc => by
  have k : ∀ c ∈ [49, 32, 9, 45], c ∈ abc := by decide
  exact k c (h.in_ c hc)
theorem pieces_St {l : List Nat} {mk : Option (List Nat)} (h : ∀ c ∈ l, c ∈ abc) (hm : MkOk mk) : pieces (St l) (mk.map St) = (piecesL mk l).map St := by
  cases mk with
  | none => exact words_St h
  | some m => exact split_St (hm m rfl).ne h (mark_abc (hm m rfl))
theorem caps_St {l : List Nat} {mk : Option (List Nat)} (h : ∀ c ∈ l, c ∈ abc) : ((piecesL mk l).map St).map Txt.capitalize = ((piecesL mk l).map capL).map St := by
  rw [List.map_map, List.map_map]
  exact List.map_congr_left fun p hp => capitalize_St fun c hc => h c (pieces_mem hp hc)
theorem capw_St {l : List Nat} {mk : Option (List Nat)} (h : ∀ c ∈ l, c ∈ abc) (hm : MkOk mk) : capw (St l) (mk.map St) = St (capwL l mk) := by
  unfold capw
  rw [pieces_St h hm, caps_St h]
  have e : (mk.map St).getD " " = St (mk.getD [32]) := by
    cases mk with
    | none => rfl
    | some m => rfl
  rw [e, join_St]; rfl
theorem wt_caps (A : List (List Nat)) : wt (A.map capL) = wt A := by
  unfold wt
  rw [List.map_map, List.length_map]
  congr 2
  exact List.map_congr_left fun a _ => capL_len a
theorem wt_St (A : List (List Nat)) : ((A.map St).map (·.length)).sum + (A.map St).length = wt A := by
  unfold wt
  rw [List.map_map, List.length_map]
  have : (List.map ((fun x : Str => x.length) ∘ St) A) = A.map List.length := List.map_congr_left fun a _ => St_len a
  rw [this]
theorem join_len (m : List Nat) : ∀ A : List (List Nat), (joinL m A).length ≤ wt A + A.length * m.length
  | [] => by simp [joinL]
  | [a] => by rw [wt_cons]; show a.length ≤ _; omega
  | a :: b :: A => by
    have := join_len m (b :: A)
    rw [wt_cons]
    show (a ++ m ++ joinL m (b :: A)).length ≤ _
    simp only [List.length_append, List.length_cons, Nat.succ_mul] at this ⊢
    omega
theorem capwL_abc {l : List Nat} {mk : Option (List Nat)} (h : ∀ c ∈ l, c ∈ abc) (hm : MkOk mk) : ∀ c ∈ capwL l mk, c ∈ abc := by
  have key : ∀ (m : List Nat) (A : List (List Nat)), (∀ c ∈ m, c ∈ abc) → (∀ a ∈ A, ∀ c ∈ a, c ∈ abc) → ∀ c ∈ joinL m A, c ∈ abc := by
    intro m A h1
    induction A with
    | nil => intro _ c hc; cases hc
    | cons a A ih =>
      intro h2 c hc
      cases A with
      | nil => exact h2 a (.head _) c hc
      | cons b B =>
        have hc' : c ∈ a ++ m ++ joinL m (b :: B) := hc
        rcases List.mem_append.mp hc' with hc | hc
        · rcases List.mem_append.mp hc with hc | hc
          · exact h2 a (.head _) c hc
          · exact h1 c hc
        · exact ih (fun d hd => h2 d (.tail _ hd)) c hc
  refine key _ _ ?_ fun a ha => ?_
  · cases mk with
    | none => decide
    | some m => exact mark_abc (hm m rfl)
  · obtain ⟨p, hp, rfl⟩ := List.mem_map.mp ha
    exact capL_abc fun c hc => h c (pieces_mem hp hc)
theorem capwL_len {l : List Nat} {mk : Option (List Nat)} (hm : MkOk mk) : (capwL l mk).length ≤ 3 * (l.length + 1) := by
  have h1 := join_len (mk.getD [32]) ((piecesL mk l).map capL)
  rw [wt_caps, List.length_map] at h1
  have h2 := pieces_wt hm l
  have h3 := num_wt (piecesL mk l)
  have h4 : (mk.getD [32]).length ≤ 2 := by
    cases mk with
    | none => simp
    | some m => exact (hm m rfl).short
  have h5 : (piecesL mk l).length * (mk.getD [32]).length ≤ (l.length + 1) * 2 := Nat.mul_le_mul (by omega) h4
  unfold capwL
  omega

/-- what capwords needs of the sizes -/
theorem cap_sizes {l : List Nat} {mk : Option (List Nat)} (h : ∀ c ∈ l, c ∈ abc) (hm : MkOk mk) (hz : l.length ≤ 1000) :
    (St l).length + 2 ≤ sizeLine ∧ (∀ y, mk.map St = some y → (y.length == 0) = false ∧ y.length ≤ 100) ∧ (∀ y ∈ pieces (St l) (mk.map St), y.length ≤ 5592405) ∧ (pieces (St l) (mk.map St)).length ≤ sizeLine ∧
    JoinOk ((mk.map St).getD " ") ((pieces (St l) (mk.map St)).map Txt.capitalize) = true := by
  have hw := pieces_wt hm l
  rw [pieces_St h hm, caps_St h, sizeLine_eq, St_len]
  refine ⟨by omega, ?_, ?_, ?_, joinOk_of_weight ?_ ?_⟩
  · intro y hy
    obtain ⟨m, q, rfl⟩ := Option.map_eq_some_iff.mp hy
    have h1 := (hm m q).ne
    have h2 := (hm m q).short
    rw [St_len]
    refine ⟨?_, by omega⟩
    cases m with
    | nil => exact absurd rfl h1
    | cons _ _ => simp
  · intro y hy
    obtain ⟨p, hp, rfl⟩ := List.mem_map.mp hy
    rw [St_len]
    have := len_wt hp
    omega
  · rw [List.length_map]
    have := num_wt (piecesL mk l)
    omega
  · rw [wt_St, wt_caps]; omega
  · cases mk with
    | none => decide
    | some m =>
      have := (hm m rfl).short
      show (St m).length ≤ 16
      rw [St_len]; omega
end Mine
namespace Mine
def updT (x : Str) (d : D) : List (Str × D) → List (Str × D)
  | [] => []
  | (y, e) :: r => if (y == x) = true then (y, d) :: r else (y, e) :: updT x d r
theorem updT_look {x : Str} {d : D} : ∀ {Γ : List (Str × D)} {y : Str} {e : D}, (updT x d Γ).lookup y = some e → List.lookup y ((x, d) :: Γ) = some e
  | [], y, e, h => by cases h
  | (z, t) :: r, y, e, h => by
    unfold updT at h
    by_cases q : (z == x) = true
    · rw [if_pos q] at h
      have q' : z = x := eq_of_beq q
      subst q'
      by_cases p : y = z
      · subst p; simp only [List.lookup, BEq.rfl] at h ⊢; exact h
      · have p' : (y == z) = false := by simpa using p
        simp only [List.lookup, p'] at h ⊢; exact h
    · rw [if_neg q] at h
      by_cases p : y = z
      · subst p
        have q' : (y == x) = false := by simpa using q
        simp only [List.lookup, q', BEq.rfl] at h ⊢; exact h
      · have p' : (y == z) = false := by simpa using p
        simp only [List.lookup, p'] at h
        have ih := updT_look h
        by_cases r' : y = x
        · subst r'; simp only [List.lookup, BEq.rfl] at ih ⊢; exact ih
        · have r'' : (y == x) = false := by simpa using r'
          simp only [List.lookup, r'', p'] at ih ⊢; exact ih
theorem Loc.upd {s₀ s : Shared} {L : Addr} {Γ Γ' : List (Str × D)} {x : Str} {d : D} (X : Loc s₀ L ((x, d) :: Γ) s) (e : updT x d Γ = Γ' := by rfl) : Loc s₀ L Γ' s := by
  subst e
  exact X.less fun y t q => updT_look q

section
variable {prog : Program} {w : World} {A : Around} {env : Env} {h : Heap} {s : Shared}
theorem op_is_none_m {mk : Option Str} {a b : Value} (ha : (Dm mk).At a s.heap) (hb : (D.val .none).At b s.heap) : Ev (model prog w) A (compareOp .Is a b) (D.val (.bool mk.isNone)).At s := by
  cases mk with
  | none => exact op_is_none_none ha hb
  | some y => exact op_is_none_str ha hb
theorem op_isnot_none_m {mk : Option Str} {a b : Value} (ha : (Dm mk).At a s.heap) (hb : (D.val .none).At b s.heap) : Ev (model prog w) A (compareOp .IsNot a b) (D.val (.bool mk.isSome)).At s := by
  obtain rfl : b = .none := hb
  cases mk with
  | none =>
    obtain rfl : a = .none := ha
    exact isnot_none_none ⟨Kp.refl _, rfl⟩
  | some y =>
    obtain ⟨t, rfl⟩ := ha
    exact isnot_none_ne (by intro z; cases z) ⟨Kp.refl _, rfl⟩
theorem op_in_one {c : Nat} {x : List Nat} {a b : Value} (ha : (D.str (St [c])).At a s.heap) (hb : (D.str (St x)).At b s.heap) : Ev (model prog w) A (compareOp .In a b) (D.val (.bool (decide (c ∈ x)))).At s := by
  have := op_in_str (prog := prog) (w := w) (A := A) ha hb
  rw [show (St [c]) = ⟨#[c]⟩ from rfl, StrLaws.found_one, St_list] at this
  exact this
theorem Pl.gn {L : Addr} {loc glob : List Str} (P : Pl env L loc glob) {x : Str} {v : Value} (g : GN h x v) (hl : glob.contains x = true := by decide) : Nm (model prog w) A env x (.val v) h :=
  g.nm P.hg P.hb P.hk (P.g x (by simpa using hl))
/-- words.append(word) -/
theorem exec_append {xs x : Str} {p1 p2 ap cp ep : Pos} {W : Addr} {vs : List Value} {y : Str} {Q : Flow → Shared → Prop} {E : Value → Shared → Prop} {pl : Sem Bool} (hw : EvE (model prog w) A env (.Name xs p1) (.val (.ref W)) s.heap) (hx : EvE (model prog w) A env (.Name x p2) (.str y) s.heap)
    (hl : s.heap.PlainList W vs.toArray) (hz : vs.length ≤ 100000) (hi : interactive env = false)
    (h : ∀ s' v, s'.heap.PlainList W (vs ++ [v]).toArray → (D.str y).At v s'.heap → (∀ b o, b ≠ W → s.heap.get? b = some o → s'.heap.get? b = some o) → (∃ h t, s' = { s with heap := h, toks := t }) → Q .next s')
    (hst : starEach [.Name x p2] env = (false, eval (.Name x p2) env) :: starEach [] env := by rfl)
    (he : eval (.Call (.Attribute (.Name xs p1) "append" ap) [.Name x p2] [] cp) env = (do
      let ov ← eval (.Name xs p1) env
      standAt ap.atName
      let (f, first) ← holding [ov] (getMethod ov "append" pl)
      callWith cp f first (backTo cp (starEach [.Name x p2] env)) []) := by rfl) :
    wpAny (model prog w) A (exec (.Expr (.Call (.Attribute (.Name xs p1) "append" ap) [.Name x p2] [] cp) ep) env) Q E s := by
  refine wpAny_Expr_any (MethodCall_ (hw.now.go fun v s₁ k₁ hv => ?_) he) hi
  obtain rfl : v = .ref W := hv
  obtain ⟨n, hW⟩ := hl
  refine Calls.getMethod_list_append (k₁.stays _ _ hW) rfl rfl (callWith_method1 ((args1 hx hst s₁ k₁.stays).go fun us s₂ k₂ hus => ?_) hst rfl)
  obtain ⟨u, rfl, hu⟩ := hus
  have k12 := k₁.trans k₂
  refine wpAny_list_append_plain ⟨n, k12.stays _ _ hW⟩ (fun h' hp hs => ?_) (by rw [List.size_toArray, sizeLine_eq]; omega)
  refine h _ u (by simpa using hp) (hu.any rfl) (fun b o q e => (hs.2 b q).trans (k12.stays b o e)) ?_
  obtain ⟨h1, t1, rfl, _⟩ := k12
  exact ⟨h', t1, rfl⟩
end
end Mine
namespace Mine
section
variable {M : Model} {A : Around} {E : Value → Shared → Prop} {s : Shared}
/-- leaving the frame in which a plain exception was raised -/
theorem leave_new_st {e L : Addr} {h : Heap} {cls : String} {env : Env} {outer : List Env} {Q : Unit → Shared → Prop} (hfr : A.frames = some (env :: outer)) (S : Stk (env :: outer) h) (hf : env.frame = some L) (X : Heap.NewExc h s.heap e cls)
    (hQ : ∀ h' B a0, Heap.FlyingW B outer e (.type cls) a0 h' → (∀ b o, b ∉ frs (env :: outer) → h.get? b = some o → B.get? b = some o) → h.UpToSlots h' → Q () { s with heap := h' }) :
    wpAny M A (leaving env (.ref e)) Q E s := by
  obtain ⟨hk, hn, ob, t, he, hc, hd⟩ := X
  have hin : ∀ v ∈ (env :: outer), ∀ b, v.frame = some b → b ∈ frs (env :: outer) := fun v hv b hb => List.mem_filterMap.mpr ⟨v, hv, hb⟩
  have hen : (hideAll h (frs (env :: outer))).get? e = none := by
    cases q : (hideAll h (frs (env :: outer))).get? e with
    | none => rfl
    | some o => have := of_hideAll _ q; rw [hn] at this; cases this
  refine wpAny_leaving_firstW (base := hideAll h (frs (env :: outer))) hfr ((S.keep hk).fun hin) hf he (fun b o eb => hk b o (of_hideAll _ eb)) hen hd rfl rfl fun h' hL => ?_
  obtain ⟨k1, ⟨_, _, k2⟩, k3, k4⟩ := hL
  exact hQ h' _ t ⟨k1, hen, k2, by rw [← hc]; exact k3⟩ (fun b o nb eb => hideAll_get _ eb nb) ((Heap.UpToSlots.of_keeps hk).trans k4)
end
section
variable {prog : Program} {w : World} {A : Around} {env : Env} {h : Heap} {s : Shared} {E : Value → Shared → Prop}
theorem EvE.or_empty {x y : Expr} {pos : Pos} {z : Str} (hx : EvE (model prog w) A env x (.str "") h) (hy : EvE (model prog w) A env y (.str z) h) :
    EvE (model prog w) A env (.BoolOp .Or [x, y] pos) (.str z) h := fun s k =>
  wpAny_Or2 ((hx s k).go fun v s₁ k₁ hv => by
    obtain ⟨t, rfl⟩ := hv
    refine P.truthy_str (by decide) ?_
    have e : (((("" : Str).length : Nat) : Int) != 0) = false := by decide
    rw [e]
    rw [if_neg (by decide)]
    exact (hy { s₁ with toks := s₁.toks + 1 + 1 } (stays_trans k k₁.stays)).go fun u s₂ k₂ hu => ⟨(k₁.trans (Kp.toks _)).trans k₂, hu⟩)
theorem kind_pos (x : Str) : ¬ Builtin.Str.strKind x < Builtin.Str.strKind "" := by
  have e : Builtin.Str.strKind "" = 1 := kind_one (l := []) (by simp)
  rw [e]
  unfold Builtin.Str.strKind
  split
  · omega
  · split <;> omega
theorem split_refuses {x : Str} {v u : Value} {Q : Value → Shared → Prop} (hh : A.handled = none) (hv : (D.str x).At v s.heap) (hu : (D.str "").At u s.heap)
    (hE : ∀ h' tk e, Heap.NewExc s.heap h' e "ValueError" → E (.ref e) { s with heap := h', toks := tk }) : wpAny (model prog w) A (call (.builtin "str.split") [v, u]) Q E s := by
  obtain ⟨t, rfl⟩ := hv
  obtain ⟨tu, rfl⟩ := hu
  refine call_meets F.slot_str_split (typeIs_str _ _ _) F.entry_str_split (F.args_str_split_2 _ _) (raises_str_split_empty x "" t tu ?_ (by decide)) ⟨hh, hE⟩
  have h1 : ¬ x.length < ("" : Str).length := Nat.not_lt_zero _
  simp [h1, kind_pos x]
end
end Mine
namespace Mine
abbrev prg : Program := PySem.Challenge.pw_ij0151_02
def stAt (i : Nat) : Option Stmt := prg.main.body[i]?

section
variable {prog : Program} {w : World} {A : Around} {s : Shared}
set_option maxHeartbeats 4000000 in
theorem capwords_body {fd : FuncData} {dv : Value} {L f : Addr} {x : Str} {mk : Option Str} {s₁ s₀ : Shared} (X : Loc s₀ L [("sep", Dm mk), ("s", .str x)] s₁) (hh : A.handled = none)
    (gs : GN s₁.heap "str" (.type "str")) (gm : GN s₁.heap "map" (.type "map"))
    (hz : x.length + 2 ≤ sizeLine) (hm : ∀ y, mk = some y → (y.length == 0) = false ∧ y.length ≤ 100)
    (hw : ∀ y ∈ (pieces x mk), y.length ≤ 5592405) (hn : (pieces x mk).length ≤ sizeLine)
    (hok : JoinOk (mk.getD " ") ((pieces x mk).map Txt.capitalize) = true) :
    wpAny (model prog w) A (execs (fBody (stAt 5)) (callEnv (FD (stAt 5) fd dv) L f)) (fun fl s' => ∃ v, fl = .ret v ∧ Kp s₁ s' ∧ (D.str (capw x mk)).At v s'.heap) (fun _ _ => False) s₁ := by
  have P : Pl (callEnv (FD (stAt 5) fd dv) L f) L ["sep", "s"] ["map", "str"] := ⟨rfl, rfl, rfl, rfl, by simp only [List.forall_mem_cons, List.not_mem_nil, false_implies, implies_true, and_true]; exact ⟨rfl, rfl⟩, by simp only [List.forall_mem_cons, List.not_mem_nil, false_implies, implies_true, and_true]; exact ⟨rfl, rfl⟩⟩
  refine execs_cons' ?_
  generalize (callEnv (FD (stAt 5) fd dv) L f) = env at P
  refine wpAny_Return_some (MethodCall_ ?_)
  refine (EvE.or_str (P.nm X "sep") EvE.ctext hm).now.go fun ov s₂ k₂ hov => ?_
  obtain ⟨t, rfl⟩ := hov
  refine GM.join ?_
  refine (callWith_method1 (args_cons ?_))
  refine Call_ ?_
  refine ((P.gl gm).here s₂ k₂.stays).go fun v s₃ k₃ hv => ?_
  obtain rfl : v = .type "map" := hv
  refine PyProof.Rows.callWith_type1 (args_cons ?_)
  refine Attribute_Name_ ?_
  refine ((P.gl gs).here s₃ (k₂.trans k₃).stays).go fun v s₄ k₄ hv => ?_
  obtain rfl : v = .type "str" := hv
  refine attr_capitalize ?_
  have K4 : Kp s₁ { s₄ with toks := s₄.toks + 1 } := ((k₂.trans k₃).trans k₄).trans (Kp.toks _)
  refine args_cons ((EvE.smeth1 (P.nm (X.kp K4) "s") (fun t s Q E h => GM.split h) (P.nm (X.kp K4) "sep")
    (fun s v u k hv hu => op_split hz (fun y e => (hm y e).1) hv hu)).now.go fun v s₅ k₅ hv => ?_)
  refine args_nil ?_
  obtain ⟨l, vs, rfl, hl, hi⟩ := hv.list
  refine call_map hl fun h' hM hT hI k₆ => ?_
  have hne : s₅.heap.get? s₅.heap.objs.size = none := Heap.get?_none_of_le (Nat.le_refl _)
  refine args_nil ?_
  refine join_map hh ⟨hM, hT, hI, isList_keep k₆ hl⟩ hi hw hn hok fun t' s' B => ?_
  have K5 := K4.trans k₅
  exact ⟨_, rfl, K5.trans (But.kp (s := s₅) (s' := { s₅ with heap := h' }) (Kp.mk0 k₆) B hne), t', rfl⟩
end
end Mine
namespace Mine
theorem nc1 : ∀ y ∈ (fScope (stAt 5)).names, y.2 ≠ .cell := by decide
section
variable {prog : Program} {w : World} {A : Around} {s : Shared} {fd : FuncData} {Td f : Addr} {l : List Nat} {mk : Option (List Nat)} {hb : Heap}
/-- what calls of capwords lean on -/
structure CapLib (f Td : Addr) (fd : FuncData) (hb : Heap) : Prop where
  fn : Fn hb f (FD (stAt 5) fd (.ref Td))
  gs : GN hb "str" (.type "str")
  gm : GN hb "map" (.type "map")
  dfl : ∃ o n, hb.get? Td = some o ∧ o.data = .seq #[.none] n

set_option maxHeartbeats 4000000 in
theorem cap_run (B : CapLib f Td fd hb) (hk : hb.StaysIn s.heap) (h : ∀ c ∈ l, c ∈ abc) (hm : MkOk mk) (hz : l.length ≤ 1000) (hh : A.handled = none) (hd : A.depth < recursionLimit) {args : List Value} {v u : Value}
    (hbind : BindsTo s (FD (stAt 5) fd (.ref Td)) ⟨args, []⟩ [("s", v), ("sep", u)]) (hv : (D.str (St l)).At v s.heap) (hu : (Dm (mk.map St)).At u s.heap) :
    Ev (model prog w) A (call (.ref f) args) (D.str (St (capwL l mk))).At s := by
  refine call_fn (Γ := [("sep", Dm (mk.map St)), ("s", .str (St l))]) (B.fn.mono hk) hd rfl hbind nc1 (by intro y hy; simp only [List.mem_cons, List.not_mem_nil, or_false] at hy; rcases hy with rfl | rfl <;> rfl)
    (Typ.look ⟨rfl, hu, rfl, hv, trivial⟩) (fun L s₁ hL X₁ => ?_) rfl rfl rfl
  have k1 := (X₁.out hL).stays
  obtain ⟨z1, z2, z3, z4, z5⟩ := cap_sizes h hm hz
  refine wpAny_mono (capwords_body X₁ hh (B.gs.mono (stays_trans hk k1)) (B.gm.mono (stays_trans hk k1)) z1 z2 z3 z4 z5) (fun fl s' hf => ?_) (fun _ _ z => z)
  obtain ⟨r, rfl, k2, hr⟩ := hf
  rw [capw_St h hm] at hr
  exact ⟨r, rfl, (X₁.out hL).trans k2, hr⟩
theorem cap_call2 (B : CapLib f Td fd hb) (hk : hb.StaysIn s.heap) (h : ∀ c ∈ l, c ∈ abc) (hm : MkOk mk) (hz : l.length ≤ 1000) (hh : A.handled = none) (hd : A.depth < recursionLimit) {v u : Value}
    (hv : (D.str (St l)).At v s.heap) (hu : (Dm (mk.map St)).At u s.heap) : Ev (model prog w) A (call (.ref f) [v, u]) (D.str (St (capwL l mk))).At s :=
  cap_run B hk h hm hz hh hd (BindsTo.of_defaults (T := Td) (o := (B.dfl.choose)) (items := #[.none]) rfl (hk _ _ B.dfl.choose_spec.choose_spec.1) B.dfl.choose_spec.choose_spec.2 rfl rfl) hv hu
theorem cap_call1 (B : CapLib f Td fd hb) (hk : hb.StaysIn s.heap) (h : ∀ c ∈ l, c ∈ abc) (hz : l.length ≤ 1000) (hh : A.handled = none) (hd : A.depth < recursionLimit) {v : Value}
    (hv : (D.str (St l)).At v s.heap) : Ev (model prog w) A (call (.ref f) [v]) (D.str (St (capwL l none))).At s :=
  cap_run (mk := none) B hk h (fun _ q => by cases q) hz hh hd (BindsTo.of_defaults (T := Td) (o := (B.dfl.choose)) (items := #[.none]) rfl (hk _ _ B.dfl.choose_spec.choose_spec.1) B.dfl.choose_spec.choose_spec.2 rfl rfl) hv rfl
end
end Mine
namespace Mine
def mtAt (i j : Nat) : Option Stmt := match stAt i with
  | some (.ClassDef _ _ _ b _ _ _ _ _ _ _) => b[j]?
  | _ => none

theorem But.loc {It L : Addr} {Γ : List (Str × D)} {s₀ s s' : Shared} (a : But It s₀ s) (X : Loc s L Γ s') (h : s₀.heap.get? L = none) : But It s₀ s' := by
  obtain ⟨k, h1, t1, rfl⟩ := a
  obtain ⟨_, k', h', t', rfl⟩ := X
  exact ⟨fun b o q e => k' b o (fun z => by rw [z, h] at e; cases e) (k b o q e), h', t', rfl⟩
theorem But.hop {It : Addr} {s₀ s : Shared} {h' : Heap} (a : But It s₀ s) (b : Heap.SameBut It s.heap h') : But It s₀ { s with heap := h' } := by
  obtain ⟨k, h1, t1, rfl⟩ := a
  exact ⟨fun y o q e => (b.2 y q).trans (k y o q e), h', t1, rfl⟩
theorem Loc.iter {L It : Addr} {Γ : List (Str × D)} {s : Shared} {h' : Heap} (X : Loc s L Γ s) (hsc : ∀ p ∈ Γ, p.2.sc = true) (hL : It ≠ L) (b : Heap.SameBut It s.heap h') : Loc { s with heap := h' } L Γ { s with heap := h' } := by
  obtain ⟨⟨m, n, t⟩, _, _⟩ := X
  refine ⟨⟨m, n.at' fun o e => (b.2 L (Ne.symm hL)).trans e, fun x d e => ?_⟩, fun _ _ _ e => e, h', s.toks, rfl⟩
  obtain ⟨v, q, z⟩ := t x d e
  exact ⟨v, q, z.any (hsc (x, d) (mem_of_lookup e))⟩

theorem Loc.drop1 {L : Addr} {Γ : List (Str × D)} {x : Str} {d : D} {s₀ s : Shared} (X : Loc s₀ L ((x, d) :: Γ) s) (hx : Γ.lookup x = none := by rfl) : Loc s₀ L Γ s := X.less fun y e q => by
  by_cases z : y = x
  · subst z; rw [hx] at q; cases q
  · have z' : (y == x) = false := by simpa using z
    simp only [List.lookup, z']; exact q
section
variable {prog : Program} {w : World} {A : Around}
theorem op_is_ref_none {p : Addr} {a b : Value} {s : Shared} (ha : (D.val (.ref p)).At a s.heap) (hb : (D.val .none).At b s.heap) : Ev (model prog w) A (compareOp .Is a b) (D.val (.bool false)).At s := by
  obtain rfl : a = .ref p := ha
  obtain rfl : b = .none := hb
  exact is_ref_none ⟨Kp.refl _, rfl⟩
theorem op_is_ref_type {p : Addr} {T : String} {a b : Value} {s : Shared} (ha : (D.val (.ref p)).At a s.heap) (hb : (D.val (.type T)).At b s.heap) : Ev (model prog w) A (compareOp .Is a b) (D.val (.bool false)).At s := by
  obtain rfl : a = .ref p := ha
  obtain rfl : b = .type T := hb
  exact wpAny_is_other rfl (by intro z; cases z) ⟨Kp.refl _, rfl⟩
end

theorem EvT.not {prog : Program} {w : World} {A : Around} {env : Env} {h : Heap} {x : Expr} {pos : Pos} {c : Bool} (hx : EvT (model prog w) A env x c h) : EvT (model prog w) A env (.UnaryOp .Not x pos) (!c) h := fun s q =>
  isTrue_not ((hx s q).go fun b s' k' e => ⟨k', congrArg (!·) e⟩)

/-- does an item stay? -/
def fits (ys : List Str) (y : Str) : Bool := !ys.any (· == y)

section
variable {prog : Program} {w : World} {A : Around} {K : Frag} {C pI pF fI fT fN : Addr} {i j : Nat} {x dx It mw lst L f : Addr} {T : String} {a : Addr} {xs ys : List Str} {vs : List Value} {fd : FuncData}

structure NextInv (It mw lst x : Addr) (ys xs : List Str) (L : Addr) (n k : Nat) (s₀ s : Shared) : Prop where
  le : n ≤ k
  lk : k ≤ xs.length
  flt : (xs.drop n).filter (fits ys) = (xs.drop k).filter (fits ys)
  it : s.heap.IsListIter It lst k
  loc : Loc s L [("func", .val (.ref mw)), ("self", .val (.ref x))] s
  bt : But It s₀ s
theorem NextInv.kp {n k : Nat} {s₀ s s' : Shared} (I : NextInv It mw lst x ys xs L n k s₀ s) (q : Kp s s') : NextInv It mw lst x ys xs L n k s₀ s' :=
  ⟨I.le, I.lk, I.flt, I.it.at fun o e => q.stays _ o e, (I.loc.kp q).here, I.bt.trans (But.of_kp q)⟩

set_option maxHeartbeats 4000000 in
theorem next_body (Y : Cls K C pI pF fI fT fN i j) (hT : T = "list" ∨ T = "tuple") {n : Nat} {s₀ s₁ : Shared} {E : Value → Shared → Prop}
    (P : Pl (callEnv (FD (mtAt 1 3) fd) L f) L ["self", "func", "item"] ["next", "bool"])
    (hi : StrsAre vs xs) (hn : n ≤ xs.length) (hL : It ≠ L) (h0 : s₀.heap.get? L = none) (X : Loc s₀ L [("self", .val (.ref x))] s₁) (F₀ : Ff K C x dx It mw lst i T a ys vs.toArray n s₀.heap) (hh : A.handled = none)
    {hb : Heap} (gn : GN hb "next" (.builtin "next")) (gb : GN hb "bool" (.type "bool")) (hbI : hb.get? It = none) (hbk : hb.StaysIn s₀.heap)
    (hE : PassesOwn (model prog w) A (callEnv (FD (mtAt 1 3) fd) L f) E)
    (hstop : ∀ e s h₁ h', (xs.drop n).filter (fits ys) = [] → But It s₀ s → Loc s L [("func", .val (.ref mw)), ("self", .val (.ref x))] s → s.heap.IsListIter It lst xs.length → Stopped It e s.heap h₁ h' → E (.ref e) { s with heap := h' }) :
    wpAny (model prog w) A (execs (fBody (mtAt 1 3)) (callEnv (FD (mtAt 1 3) fd) L f))
      (fun fl s' => ∃ v k y, fl = .ret v ∧ n ≤ k ∧ k < xs.length ∧ (D.str y).At v s'.heap ∧ (xs.drop n).filter (fits ys) = y :: (xs.drop (k + 1)).filter (fits ys) ∧ Ff K C x dx It mw lst i T a ys vs.toArray (k + 1) s'.heap ∧ But It s₀ s') E s₁ := by
  generalize callEnv (FD (mtAt 1 3) fd) L f = env at P hE
  have hIL : ∀ {s}, But It s₀ s → hb.StaysIn s.heap := fun b y o e => b.keep y o (fun z => by rw [z, hbI] at e; cases e) (hbk y o e)
  have ffAt : ∀ {s k}, But It s₀ s → s.heap.IsListIter It lst k → Ff K C x dx It mw lst i T a ys vs.toArray k s.heap := fun b q => F₀.step hT q b.keep
  have bt₁ : But It s₀ s₁ := But.of_kp (X.out h0)
  have it₁ : s₁.heap.IsListIter It lst n := F₀.it.at fun o e => (X.out h0).stays _ o e
  have F₁ := ffAt bt₁ it₁
  refine execs_cons' (X.here.assign (EvE.slotF Y F₁.kin F₁.inst (P.nm X.here "self")) P.hL P.hk (P.l _ (by decide)) fun s₂ X₂ => ?_)
  refine execs_cons' ?_
  refine wpAny_While (codeAny_whileLoop (fun m s => ∃ k, m = xs.length + 1 - k ∧ NextInv It mw lst x ys xs L n k s₀ s) ?_ (xs.length + 1 - n) ?_)
  rotate_left
  · refine ⟨n, rfl, Nat.le_refl _, hn, rfl, it₁.at fun o e => X₂.keep _ o hL e, X₂.here, bt₁.loc X₂ h0⟩
  rintro m s ⟨k, rfl, I⟩
  refine ((EvT.plain EvE.cbool) s (stays_refl _)).go fun b s₃ k₃ hb => ?_
  subst hb
  rw [if_pos rfl]
  have I₃ := I.kp k₃
  refine execs_cons' (wpAny_Assign_Name (Call_ ?_))
  refine ((P.gl (gn.mono (hIL I₃.bt))).now).go fun v s₄ k₄ hv => ?_
  obtain rfl : v = .builtin "next" := hv
  have I₄ := I₃.kp k₄
  have F₄ := ffAt I₄.bt I₄.it
  refine callWith_builtin1 ((args1 (EvE.slotI Y F₄.kin F₄.inst (P.nm I₄.loc "self")) rfl s₄ (stays_refl _)).go fun us s₅ k₅ hus => ?_)
  obtain ⟨v, rfl, hv⟩ := hus
  obtain rfl : v = .ref It := hv
  have I₅ := I₄.kp k₅
  have F₅ := ffAt I₅.bt I₅.it
  rcases Nat.lt_or_ge k xs.length with hlt | hge
  · obtain ⟨t, hv⟩ := hi.at (j := k) (y := xs[k]) (by simp [hlt])
    refine next_item I₅.it F₅.lst (x := .str xs[k] t) (by simpa using hv) fun h₆ it₆ sb₆ => ?_
    have X₆ := I₅.loc.iter (by simp [D.sc]) hL sb₆
    have B₆ := I₅.bt.hop sb₆
    refine X₆.set (x := "item") (d := .str xs[k]) ⟨t, rfl⟩ P.hL P.hk (P.l _ (by decide)) fun s₇ X₇ _ => ?_
    have it₇ : s₇.heap.IsListIter It lst (k + 1) := it₆.at fun o e => X₇.keep _ o hL e
    have B₇ := B₆.loc X₇ h0
    have F₇ := ffAt B₇ it₇
    refine execs_cons' (exec_if (EvT.or2 (EvT.cmp (P.nm X₇.here "func") EvE.cnone fun s u v _ hu hv => op_is_ref_none hu hv) fun _ => EvT.cmp (P.nm X₇.here "func") (P.gl (gb.mono (hIL B₇))) fun s u v _ hu hv => op_is_ref_type hu hv) fun s₈ k₈ => ?_)
    rw [if_neg (by decide)]
    have X₈ := (X₇.kp k₈).here
    have F₈ := F₇.keep k₈.stays
    refine execs_cons' (exec_if (EvT.not (EvT.plain (EvE.mwcall hT (P.nm X₈ "func") F₈.mwO F₈.sk (P.nm X₈ "item")))) fun s₉ k₉ => ?_)
    have B₉ : But It s₀ s₉ := B₇.trans (But.of_kp (k₈.trans k₉))
    have it₉ : s₉.heap.IsListIter It lst (k + 1) := it₇.at fun o e => (k₈.trans k₉).stays _ o e
    have flt : (xs.drop k).filter (fits ys) = if fits ys xs[k] = true then xs[k] :: (xs.drop (k + 1)).filter (fits ys) else (xs.drop (k + 1)).filter (fits ys) := by
      rw [List.drop_eq_getElem_cons hlt, List.filter_cons]
    by_cases hf : fits ys xs[k] = true
    · rw [show (!ys.any (· == xs[k])) = true from hf, if_pos rfl]
      rw [if_pos hf] at flt
      refine execs_cons' (exec_ret (P.nm (X₈.kp k₉).here "item") fun v s' k' hv => ?_)
      exact ⟨v, k, xs[k], rfl, I.le, hlt, hv, I.flt.trans flt, (ffAt B₉ it₉).keep k'.stays, B₉.trans (But.of_kp k')⟩
    · rw [show (!ys.any (· == xs[k])) = false from by simpa [fits] using hf, if_neg (by decide)]
      rw [if_neg hf] at flt
      refine wpAny_execs_nil (wpAny_execs_nil (wpAny_execs_nil ?_))
      exact ⟨_, by omega, k + 1, rfl, Nat.le_succ_of_le I.le, hlt, I.flt.trans flt, it₉, (X₈.kp k₉).here.drop1, B₉⟩
  · have e : k = xs.length := Nat.le_antisymm I.lk hge
    subst e
    refine next_end hh I₅.it F₅.lst (by have := hi.len_eq; simp; omega) fun e h₁ h' St => hE _ _ (hstop e _ h₁ h' ?_ I₅.bt I₅.loc I₅.it St)
    rw [I.flt, List.drop_of_length_le (Nat.le_refl _)]; rfl
end
end Mine
namespace Mine

/-- after an iterator's end has flown up to the frames below -/
structure Aft (It : Addr) (outer : List Env) (s s' : Shared) : Prop where
  up : s.heap.UpToSlots s'.heap
  k : ∀ b o, b ≠ It → b ∉ frs outer → s.heap.get? b = some o → s'.heap.get? b = some o
  same : ∃ h t, s' = { s with heap := h, toks := t }

theorem But.up {It : Addr} {s s' : Shared} (B : But It s s') (hIt : ∀ o, s.heap.get? It = some o → ∃ vs, o.data = .fields vs) : s.heap.UpToSlots s'.heap := fun b o e nb =>
  ⟨o.slots, B.keep b o (fun q => by subst q; obtain ⟨vs, z⟩ := hIt o e; exact nb vs z) e⟩
theorem it_fields {h : Heap} {It l : Addr} {n : Nat} (x : h.IsListIter It l n) : ∀ o, h.get? It = some o → ∃ vs, o.data = .fields vs := fun o e => by
  obtain ⟨o', ho, _, hd⟩ := x
  rw [e] at ho; cases ho; exact ⟨_, hd⟩
theorem nc33 : ∀ y ∈ (fScope (mtAt 1 3)).names, y.2 ≠ .cell := by decide

section
variable {prog : Program} {w : World} {A : Around} {E : Value → Shared → Prop} {K : Frag} {C pI pF fI fT fN : Addr} {i j : Nat} {x dx It mw lst : Addr} {T : String} {a : Addr} {xs ys : List Str} {vs : List Value} {fd : FuncData}
set_option maxHeartbeats 4000000 in
theorem next_spec (Y : Cls K C pI pF fI fT fN i j) (hT : T = "list" ∨ T = "tuple") {n : Nat} {s : Shared} {outer : List Env} {Q : Option Value → Shared → Prop}
    (hi : StrsAre vs xs) (hn : n ≤ xs.length) (F₀ : Ff K C x dx It mw lst i T a ys vs.toArray n s.heap) (hh : A.handled = none) (hd : A.depth < recursionLimit)
    (hfr : A.frames = some outer) (S : Stk outer s.heap) (X : Fn s.heap fN (FD (mtAt 1 3) fd))
    {hb : Heap} (gn : GN hb "next" (.builtin "next")) (gb : GN hb "bool" (.type "bool")) (hbI : hb.get? It = none) (hbk : hb.StaysIn s.heap)
    (hsome : ∀ v k y s', n ≤ k → k < xs.length → (D.str y).At v s'.heap → (xs.drop n).filter (fits ys) = y :: (xs.drop (k + 1)).filter (fits ys) → Ff K C x dx It mw lst i T a ys vs.toArray (k + 1) s'.heap → But It s s' → Q (some v) s')
    (hnone : ∀ s', (xs.drop n).filter (fits ys) = [] → Aft It outer s s' → Q none s') :
    wpAny (model prog w) A (pyNext (.ref x)) Q E s := by
  unfold pyNext
  obtain ⟨o, ho, hdata⟩ := X.obj
  refine wpAny_bind (wpAny_attempt (special_fn (name := "__next__") (args := []) F₀.kin F₀.inst Y.next (beq_iff_eq.mp Y.isNext) (wpAny_call (codeAny_call_def hd ho hdata X.lim X.code rfl
    (BindsTo.of_eq (binds := [("self", .ref x)]) rfl) nc33 (by intro y hy; simp only [List.mem_singleton] at hy; subst hy; rfl) (fun h₀ hns hkeep => ?_) rfl rfl rfl))))
  have h0 : s.heap.get? s.heap.objs.size = none := Heap.get?_none_of_le (Nat.le_refl _)
  have X₁ : Loc s s.heap.objs.size [("self", .val (.ref x))] { s with heap := h₀, toks := s.toks + 1 } := by
    refine ⟨⟨_, hns, fun y d e => ?_⟩, fun b o _ e => hkeep b o e, h₀, _, rfl⟩
    by_cases q : y = "self"
    · subst q; cases e; exact ⟨_, rfl, rfl⟩
    · have q' : (y == "self") = false := by simpa using q
      simp only [List.lookup, q'] at e; cases e
  have P : Pl (callEnv (FD (mtAt 1 3) fd) s.heap.objs.size fN) s.heap.objs.size ["self", "func", "item"] ["next", "bool"] :=
    ⟨rfl, rfl, rfl, rfl, by simp only [List.forall_mem_cons, List.not_mem_nil, false_implies, implies_true, and_true]; exact ⟨rfl, rfl, rfl⟩, by simp only [List.forall_mem_cons, List.not_mem_nil, false_implies, implies_true, and_true]; exact ⟨rfl, rfl⟩⟩
  have hL : It ≠ s.heap.objs.size := by
    obtain ⟨o, q, _⟩ := F₀.it
    exact Nat.ne_of_lt (Heap.lt_size q)
  refine wpAny_mono (next_body Y hT P hi hn hL h0 X₁ F₀ hh gn gb hbI hbk (by passes_own) fun e s' h₁ h' hf B X' it' St => ?_) (fun fl s' hfl => ?_) (fun _ _ z => z)
  · have S' : Stk (callEnv (FD (mtAt 1 3) fd) s.heap.objs.size fN :: outer) s'.heap := by
      intro env he
      rcases List.mem_cons.mp he with rfl | he
      · obtain ⟨⟨m, ⟨o, es, ep, q, qd, _⟩, _⟩, _⟩ := X'
        exact ⟨show (fScope (mtAt 1 3)).kind ≠ _ by decide, _, o, rfl, q, fun vs z => by rw [qd] at z; cases z⟩
      · exact (S.up (B.up (it_fields F₀.it))) env he
    refine leave_stop (Around.frames_deeper hfr) S' rfl (it_fields it') St fun h₂ up2 k2 he => ?_
    obtain ⟨o, he, hc⟩ := he
    refine wpAny_bind (wpAny_isInstance (T := "StopIteration") (b := true) ⟨o, he, hc⟩ owsi_facts.sub ?_)
    refine wpAny_pure (hnone _ hf ⟨(B.up (it_fields F₀.it)).trans up2, fun b o q nf e => k2 b o q ?_ (B.keep b o q e), ?_⟩)
    · intro hm
      have e2 : frs (callEnv (FD (mtAt 1 3) fd) s.heap.objs.size fN :: outer) = s.heap.objs.size :: frs outer := rfl
      rw [e2] at hm
      rcases List.mem_cons.mp hm with rfl | hm
      · rw [h0] at e; cases e
      · exact nf hm
    · obtain ⟨_, h3, t3, rfl⟩ := B
      exact ⟨h₂, t3, rfl⟩
  · obtain ⟨v, k, y, rfl, r1, r0, r2, r3, r4, r5⟩ := hfl
    exact wpAny_pure (hsome v k y s' r1 r0 r2 r3 r4 r5)
end
end Mine
namespace Mine
def Sm (s s' : Shared) : Prop := ∃ h t, s' = { s with heap := h, toks := t }
theorem Sm.trans {s s' s'' : Shared} (a : Sm s s') (b : Sm s' s'') : Sm s s'' := by
  obtain ⟨h, t, rfl⟩ := a
  obtain ⟨h', t', rfl⟩ := b
  exact ⟨h', t', rfl⟩
theorem sm_kp {s s' : Shared} (a : Kp s s') : Sm s s' := by
  obtain ⟨h, t, e, _⟩ := a
  exact ⟨h, t, e⟩
theorem nc31 : ∀ y ∈ (fScope (mtAt 1 1)).names, y.2 ≠ .cell := by decide
theorem nc32 : ∀ y ∈ (fScope (mtAt 1 2)).names, y.2 ≠ .cell := by decide
theorem nc5 : ∀ y ∈ (fScope (stAt 3)).names, y.2 ≠ .cell := by decide
section
variable {prog : Program} {w : World} {A : Around} {E : Value → Shared → Prop} {K : Frag} {C pI pF fI fT fN : Addr} {i j : Nat} {x dx : Addr} {fd : FuncData}

set_option maxHeartbeats 4000000 in
theorem init_body (Y : Cls K C pI pF fI fT fN i j) {s₀ s₁ : Shared} {hb : Heap} {L f mw lst : Addr} {vs : Array Value} (P : Pl (callEnv (FD (mtAt 1 1) fd) L f) L ["self", "function", "iterable"] ["iter"])
    (X : Loc s₀ L [("iterable", .val (.ref lst)), ("function", .val (.ref mw)), ("self", .val (.ref x))] s₁) (hL : s₀.heap.objs.size ≤ L) (kin : K.In s₀.heap) (kno : K.lookup x = none) (hbk : hb.StaysIn s₀.heap) (gi : GN hb "iter" (.builtin "iter"))
    (hx : s₀.heap.get? x = some (instObj C dx)) (hdx : s₀.heap.get? dx = some emptyDict) (hl : s₀.heap.IsList lst vs) :
    wpAny (model prog w) A (execs (fBody (mtAt 1 1)) (callEnv (FD (mtAt 1 1) fd) L f))
      (fun fl s' => fl = .next ∧ ∃ It, s₀.heap.get? It = none ∧ s'.heap.IsListIter It lst 0 ∧ InstAt s'.heap x (ffObj C dx i It mw) C (some emptyDict) ∧ (∀ b o, b ≠ x → s₀.heap.get? b = some o → s'.heap.get? b = some o) ∧ ∃ h t, s' = { s₀ with heap := h, toks := t }) (fun _ _ => False) s₁ := by
  generalize callEnv (FD (mtAt 1 1) fd) L f = env at P
  have h0 : s₀.heap.get? L = none := Heap.get?_none_of_le hL
  have hdne : dx ≠ x := by rintro rfl; rw [hx] at hdx; cases hdx
  have xlt := Heap.lt_size hx
  have X₀ : K.In (s₀.heap.hide x) := fun b o e => (Heap.hide_ne _ fun q => by rw [q, kno] at e; cases e).trans (kin b o e)
  have fr : ∀ {s : Shared} {m}, s.heap.Ns L m → (∀ b o, b ≠ x → s₀.heap.get? b = some o → s.heap.get? b = some o) → Fr (s₀.heap.hide x) L s.heap m := fun n k =>
    ⟨n, fun b o e => k b o (fun q => by rw [q, Heap.hide_self] at e; cases e) (Heap.of_hide e), by rw [Heap.hide_size]; exact hL⟩
  have up1 := (X.out h0)
  refine execs_cons' (plainObj_wpAny_Assign_Attribute (Call_ ?_))
  refine ((P.gl (gi.mono (stays_trans hbk up1.stays))).now).go fun v s₂ k₂ hv => ?_
  obtain rfl : v = .builtin "iter" := hv
  refine callWith_builtin1 ((args1 (P.nm (X.kp k₂) "iterable") rfl s₂ (stays_refl _)).go fun us s₃ k₃ hus => ?_)
  obtain ⟨v, rfl, hv⟩ := hus
  obtain rfl : v = .ref lst := hv
  have up3 := up1.trans (k₂.trans k₃)
  refine call_iter_list (isList_keep up3.stays hl) ?_
  have k₃' : Kp s₃ { s₃ with heap := s₃.heap.push (litObj lst) } := Kp.mk0 (stays_push _)
  have X₃ := X.kp ((k₂.trans k₃).trans k₃')
  refine ((P.nm X₃ "self").now).go fun v s₄ k₄ hv => ?_
  obtain rfl : v = .ref x := hv
  have up4 := (up3.trans k₃').trans k₄
  have X₄ := X₃.kp k₄
  obtain ⟨m, n4, T4⟩ := X₄.ns
  have hIt : s₄.heap.get? s₃.heap.objs.size = some (litObj lst) := k₄.stays _ _ (Heap.get?_push_size _ rfl)
  have nIt : s₀.heap.get? s₃.heap.objs.size = none := by
    cases q : s₀.heap.get? s₃.heap.objs.size with
    | none => rfl
    | some o => exact absurd (Heap.lt_size (up3.stays _ _ q)) (Nat.lt_irrefl _)
  have ItL : s₃.heap.objs.size ≠ L := by
    obtain ⟨m', ⟨o, _, _, q, _⟩, _⟩ := (X.kp (k₂.trans k₃)).ns
    exact Nat.ne_of_gt (Heap.lt_size q)
  have xL : x ≠ L := Nat.ne_of_lt (Nat.lt_of_lt_of_le xlt hL)
  have Itx : s₃.heap.objs.size ≠ x := fun q => by rw [q, hx] at nIt; cases nIt
  have N4 : News (s₀.heap.hide x) L s₄.heap [(x, instObj C dx), (s₃.heap.objs.size, litObj lst)] := by
    intro p hp
    simp only [List.mem_cons, List.not_mem_nil, or_false] at hp
    rcases hp with rfl | rfl
    · exact ⟨up4.stays _ _ hx, xL, Heap.hide_self ..⟩
    · refine ⟨hIt, ItL, ?_⟩
      cases q : (s₀.heap.hide x).get? s₃.heap.objs.size with
      | none => rfl
      | some o => have := Heap.of_hide q; rw [nIt] at this; cases this
  have I4 : InstAt s₄.heap x (instObj C dx) C (some emptyDict) := ⟨up4.stays _ _ hx, rfl, rfl, up4.stays _ _ hdx⟩
  have iz : i < 1000 := by rcases Y.ij with ⟨rfl, _⟩ | ⟨rfl, _⟩ <;> omega
  have jz : j < 1000 := by rcases Y.ij with ⟨_, rfl⟩ | ⟨_, rfl⟩ <;> omega
  refine set_slot (fr n4 fun b o _ e => up4.stays b o e) X₀ N4 I4 Y.set Y.over Y.tkI Y.tI Y.sI iz rfl rfl (Upd.head (by intro p hp; simp only [List.mem_singleton] at hp; subst hp; exact Itx)) fun h₅ F₅ N₅ => ?_
  obtain ⟨hx5, _, _⟩ := N₅ _ (.head _)
  have keep5 : ∀ b o, b ≠ x → s₀.heap.get? b = some o → h₅.get? b = some o := fun b o q e => F₅.keep b o ((Heap.hide_ne _ q).trans e)
  have hsc : ∀ p ∈ ([("iterable", .val (.ref lst)), ("function", .val (.ref mw)), ("self", .val (.ref x))] : List (Str × D)), p.2.sc = true := by simp [D.sc]
  have X₅ : Loc { s₄ with heap := h₅, toks := s₄.toks + 1 } L [("iterable", .val (.ref lst)), ("function", .val (.ref mw)), ("self", .val (.ref x))] { s₄ with heap := h₅, toks := s₄.toks + 1 } :=
    ⟨⟨m, F₅.ns, fun y d e => let ⟨v, a, z⟩ := T4 y d e; ⟨v, a, z.any (hsc (y, d) (mem_of_lookup e))⟩⟩, fun _ _ _ e => e, _, _, rfl⟩
  refine execs_cons' (plainObj_wpAny_Assign_Attribute (((P.nm X₅ "function").now).go fun v s₆ k₆ hv => ?_))
  obtain rfl : v = .ref mw := hv
  refine ((P.nm (X₅.kp k₆) "self").now).go fun v s₇ k₇ hv => ?_
  obtain rfl : v = .ref x := hv
  have k57 := (k₆.trans k₇)
  have N7 : News (s₀.heap.hide x) L s₇.heap [(x, _), (s₃.heap.objs.size, litObj lst)] := fun p hp => ⟨k57.stays _ _ (N₅ p hp).1, (N₅ p hp).2⟩
  have F7 : Fr (s₀.heap.hide x) L s₇.heap m := ⟨F₅.ns.keeps k57.stays, fun b o e => k57.stays _ _ (F₅.keep b o e), F₅.above⟩
  refine set_slot F7 X₀ N7 ⟨(N7 _ (.head _)).1, rfl, rfl, k57.stays _ _ (keep5 dx _ hdne hdx)⟩ Y.set Y.over Y.tkF Y.tF Y.sF jz (v := .ref mw) rfl rfl (Upd.head (by intro p hp; simp only [List.mem_singleton] at hp; subst hp; exact Itx)) fun h₈ F₈ N₈ => ?_
  have keep8 : ∀ b o, b ≠ x → s₀.heap.get? b = some o → h₈.get? b = some o := fun b o q e => F₈.keep b o ((Heap.hide_ne _ q).trans e)
  refine wpAny_execs_nil ⟨rfl, _, nIt, ⟨_, (N₈ _ (.tail _ (.head _))).1, rfl, rfl⟩, ⟨?_, rfl, rfl, keep8 dx _ hdne hdx⟩, keep8, ?_⟩
  · rw [(N₈ _ (.head _)).1]
    rcases Y.ij with ⟨rfl, rfl⟩ | ⟨rfl, rfl⟩ <;> rfl
  · exact ((((sm_kp up3).trans ⟨_, _, rfl⟩).trans (sm_kp k₄)).trans (s'' := { s₄ with heap := h₅, toks := s₄.toks + 1 }) ⟨_, _, rfl⟩).trans ((sm_kp k57).trans ⟨_, _, rfl⟩)
end
end Mine
namespace Mine

/-- after a call in which frames below may have been noted -/
structure AftC (outer : List Env) (s s' : Shared) : Prop where
  up : s.heap.UpToSlots s'.heap
  k : ∀ b o, b ∉ frs outer → s.heap.get? b = some o → s'.heap.get? b = some o
  same : Sm s s'

theorem Stk.fresh {outer : List Env} {h : Heap} {b : Addr} (S : Stk outer h) (hb : h.get? b = none) : b ∉ frs outer := fun hm => by
  obtain ⟨env, he, hf⟩ := List.mem_filterMap.mp hm
  obtain ⟨_, L, o, hL, ho, _⟩ := S env he
  obtain rfl : b = L := by rw [hf] at hL; exact Option.some.inj hL
  rw [hb] at ho; cases ho

/-- the parts of the library that the walk of _filter leans on -/
structure Lib (K : Frag) (C pI pF fI fT fN : Addr) (i j : Nat) (dI dT dN : FuncData) (hb : Heap) : Prop where
  cls : Cls K C pI pF fI fT fN i j
  kin : K.In hb
  fI : Fn hb fI (FD (mtAt 1 1) dI)
  fT : Fn hb fT (FD (mtAt 1 2) dT)
  fN : Fn hb fN (FD (mtAt 1 3) dN)
  gList : GN hb "list" (.type "list")
  gIter : GN hb "iter" (.builtin "iter")
  gNext : GN hb "next" (.builtin "next")
  gBool : GN hb "bool" (.type "bool")
  gC : GN hb "filterfalse" (.ref C)

section
variable {prog : Program} {w : World} {A : Around} {E : Value → Shared → Prop} {K : Frag} {C pI pF fI fT fN : Addr} {i j : Nat} {dI dT dN fd : FuncData} {hb : Heap} {s : Shared}

set_option maxHeartbeats 4000000 in
theorem iter_call {x : Addr} (X : Fn s.heap fT (FD (mtAt 1 2) dT)) (hd : A.depth < recursionLimit) : Ev (model prog w) A (call (.ref fT) [.ref x]) (D.val (.ref x)).At s := by
  refine call_fn (Γ := [("self", .val (.ref x))]) X hd rfl (BindsTo.of_eq (binds := [("self", .ref x)]) rfl) nc32 (by intro y hy; simp only [List.mem_singleton] at hy; subst hy; rfl) (fun y d e => ?_) (fun L s₁ hL X₁ => ?_) rfl rfl rfl
  · by_cases q : y = "self"
    · subst q; cases e; exact ⟨_, rfl, rfl⟩
    · have q' : (y == "self") = false := by simpa using q
      simp only [List.lookup, q'] at e; cases e
  · have P : Pl (callEnv (FD (mtAt 1 2) dT) L fT) L ["self"] [] :=
      ⟨rfl, rfl, rfl, rfl, by simp only [List.forall_mem_cons, List.not_mem_nil, false_implies, implies_true, and_true]; rfl, by simp⟩
    generalize callEnv (FD (mtAt 1 2) dT) L fT = env at P
    exact execs_cons' (exec_ret (P.nm X₁ "self") fun v s' k hv => ⟨v, rfl, (X₁.out hL).trans k, hv⟩)

theorem fits_len (ys : List Str) (xs acc : List Str) (k : Nat) (e : xs.filter (fits ys) = acc ++ (xs.drop k).filter (fits ys)) : acc.length ≤ xs.length := by
  have h1 := List.length_filter_le (fits ys) xs
  rw [e, List.length_append] at h1
  omega

set_option maxHeartbeats 4000000 in
theorem list_of_ff (B : Lib K C pI pF fI fT fN i j dI dT dN hb) {x dx It mw lst a : Addr} {T : String} {xs ys : List Str} {vs : List Value} {outer : List Env} {Q : Value → Shared → Prop} (hT : T = "list" ∨ T = "tuple")
    (hi : StrsAre vs xs) (F₀ : Ff K C x dx It mw lst i T a ys vs.toArray 0 s.heap) (hz : xs.length ≤ sizeLine) (hh : A.handled = none) (hd : A.depth < recursionLimit) (hfr : A.frames = some outer) (S : Stk outer s.heap)
    (hbI : hb.get? It = none) (hbk : hb.StaysIn s.heap) {hF : Heap} {LF : Addr} {mF : Str → Option Value} (F : Fr hF LF s.heap mF) (kF : K.In hF)
    (hQ : ∀ S' s', s.heap.get? S' = none → (D.pl "list" (xs.filter (fits ys))).At (.ref S') s'.heap → Aft It outer s s' → Q (.ref S') s') :
    wpAny (model prog w) A (call (.type "list") [.ref x]) Q E s := by
  have xlt := Heap.lt_size F₀.inst.at_
  obtain ⟨oI, hoI, _⟩ := id F₀.it
  have Itlt := Heap.lt_size hoI
  have hSn : s.heap.get? s.heap.objs.size = none := Heap.get?_none_of_le (Nat.le_refl _)
  have SI : s.heap.objs.size ≠ It := Nat.ne_of_gt Itlt
  have Y := B.cls
  have ffAt : ∀ {s₂ : Shared} {k}, But It s s₂ → s₂.heap.IsListIter It lst k → Ff K C x dx It mw lst i T a ys vs.toArray k s₂.heap := fun b q => F₀.step hT q b.keep
  refine call_list_own (I := x) (T := .ref C)
    (fun n acc s₂ => ∃ k c acc', n = xs.length - k ∧ k ≤ xs.length ∧ s₂.heap.IsListIter It lst k ∧ But It s s₂ ∧ s₂.heap.get? s.heap.objs.size = some (LO acc c) ∧ StrsAre acc.toList acc' ∧ xs.filter (fits ys) = acc' ++ (xs.drop k).filter (fits ys))
    (by simp only [ne_eq, Value.ref.injEq]; exact Nat.ne_of_lt xlt) (fun Q E s' k q => (InstAt.kept F₀.inst fun b o _ e => k b o e).type.here q) rfl rfl ?_ ?_
  · intro h₁ c hS k₁
    have K₁ : K.In h₁ := F₀.kin.keeps k₁
    have I₁ : InstAt h₁ x (ffObj C dx i It mw) C (some emptyDict) := InstAt.kept F₀.inst fun b o _ e => k₁ b o e
    have FR : Fr hF LF h₁ mF := ⟨F.ns.keeps k₁, fun b o e => k₁ _ _ (F.keep b o e), F.above⟩
    refine owit_iter (s := { s with heap := h₁ }) FR kF I₁ Y.iter Y.isIter ((iter_call (prog := prog) (w := w) (A := A.in1.in1) (s := { s with heap := h₁ }) (B.fT.mono (stays_trans hbk k₁)) hd).go fun v s₃ k₃ hv => ?_)
    obtain rfl : v = .ref x := hv
    have K₃ : K.In s₃.heap := K₁.keeps k₃.stays
    have I₃ : InstAt s₃.heap x (ffObj C dx i It mw) C (some emptyDict) := InstAt.kept I₁ fun b o _ e => k₃.stays b o e
    have FR₃ : Fr hF LF s₃.heap mF := ⟨FR.ns.keeps k₃.stays, fun b o e => k₃.stays _ _ (FR.keep b o e), FR.above⟩
    refine owit_it FR₃ kF I₃ Y.next ⟨rfl, fun Q E q => ?_, fun Q E q => ?_, c, k₃.stays _ _ hS, fun h' c' hn hs => ?_⟩
    · exact wpAny_bind (I₃.type.here ((looks_findIn K₃ Y.noLen).here q))
    · exact wpAny_bind (I₃.type.here ((looks_findIn K₃ Y.noHint).here q))
    · have keep : ∀ b o, s.heap.get? b = some o → h'.get? b = some o := fun b o e => (hs.2 b fun z => by rw [z, hSn] at e; cases e).trans (k₃.stays b o (k₁ b o e))
      refine ⟨xs.length, 0, c', [], rfl, Nat.zero_le _, F₀.it.at fun o e => keep _ o e, ⟨fun b o _ e => keep b o e, ?_⟩, hn, .nil, rfl⟩
      obtain ⟨h4, t4, rfl, _⟩ := k₃
      exact ⟨h', t4, rfl⟩
  · rintro n acc s₂ ⟨k, c, acc', rfl, hk, it₂, b₂, hS, hacc, hflt⟩
    refine ⟨by have := hacc.len_eq; have := fits_len ys xs acc' k hflt; simp at *; omega, ?_⟩
    have F₂ := ffAt b₂ it₂
    have kb : hb.StaysIn s₂.heap := fun b o e => b₂.keep b o (fun q => by rw [q, hbI] at e; cases e) (hbk b o e)
    have S₂ : Stk outer s₂.heap := S.up (b₂.up (it_fields F₀.it))
    refine next_spec Y hT hi hk F₂ hh hd hfr S₂ (B.fN.mono kb) B.gNext B.gBool hbI kb (fun v k' y s' h1 h2 hv hf F' b' => ?_) fun s' hf R => ?_
    · have hS' : s'.heap.get? s.heap.objs.size = some (LO acc c) := b'.keep _ _ SI hS
      refine ⟨c, hS', fun h' c' hn hs => ⟨xs.length - (k' + 1), by omega, k' + 1, c', acc' ++ [y], rfl, h2, ?_, ?_, hn, ?_, ?_⟩⟩
      · exact F'.it.at fun o e => (hs.2 It (Ne.symm SI)).trans e
      · obtain ⟨kb2, h3, t3, e3⟩ := b₂.trans b'
        refine ⟨fun b o q e => (hs.2 b fun z => by rw [z, hSn] at e; cases e).trans (kb2 b o q e), h', t3, by rw [e3]⟩
      · rw [Array.toList_push]
        obtain ⟨t, rfl⟩ := hv
        exact hacc.append' (.cons y t .nil)
      · rw [hflt, hf]; simp
    · refine hQ _ _ hSn ?_ ⟨(b₂.up (it_fields F₀.it)).trans R.up, fun b o q nf e => R.k b o q nf (b₂.keep b o q e), ?_⟩
      · refine ⟨_, acc.toList, c, #[], rfl, R.k _ _ SI (S.fresh hSn) hS, ?_⟩
        rw [hflt, hf, List.append_nil]; exact hacc
      · exact Sm.trans b₂.same R.same
end
end Mine
namespace Mine
section
variable {prog : Program} {w : World} {A : Around} {E : Value → Shared → Prop} {K : Frag} {C pI pF fI fT fN : Addr} {i j : Nat} {dI dT dN fd : FuncData} {hb : Heap} {s : Shared}

set_option maxHeartbeats 4000000 in
theorem filter_spec (B : Lib K C pI pF fI fT fN i j dI dT dN hb) {f : Addr} (X : Fn s.heap f (FD (stAt 3) fd)) {T : String} {xs ys : List Str} {v u : Value} {outer : List Env} {Q : Value → Shared → Prop} (hT : T = "list" ∨ T = "tuple")
    (hv : (D.lstr xs).At v s.heap) (hu : (D.pl T ys).At u s.heap) (hz : xs.length ≤ sizeLine) (hh : A.handled = none) (hd : A.depth + 4 < recursionLimit) (hfr : A.frames = some outer) (S : Stk outer s.heap) (hbk : hb.StaysIn s.heap)
    (hQ : ∀ r s', (D.pl "list" (xs.filter (fits ys))).At r s'.heap → AftC outer s s' → Q r s') :
    wpAny (model prog w) A (call (.ref f) [v, u]) Q E s := by
  obtain ⟨o, ho, hdata⟩ := X.obj
  obtain ⟨lst, vs, rfl, hl, hi⟩ := hv
  have hu' := hu
  obtain ⟨a, ws, kk, sl, rfl, ha, hw⟩ := hu'
  have Y := B.cls
  refine wpAny_call (codeAny_call_def (by omega) ho hdata X.lim X.code rfl (BindsTo.of_eq (binds := [("flist", .ref lst), ("skip", .ref a)]) rfl) nc5
    (by intro y hy; simp only [List.mem_cons, List.not_mem_nil, or_false] at hy; rcases hy with rfl | rfl <;> rfl) (fun h₀ hns hkeep => ?_) rfl rfl rfl)
  have h0 : s.heap.get? s.heap.objs.size = none := Heap.get?_none_of_le (Nat.le_refl _)
  have X₁ : Loc s s.heap.objs.size [("skip", .val (.ref a)), ("flist", .val (.ref lst))] { s with heap := h₀, toks := s.toks + 2 } :=
    ⟨⟨_, hns, Typ.look ⟨rfl, rfl, rfl, rfl, trivial⟩⟩, fun b o _ e => hkeep b o e, h₀, _, rfl⟩
  have P : Pl (callEnv (FD (stAt 3) fd) s.heap.objs.size f) s.heap.objs.size ["flist", "skip"] ["list", "filterfalse"] :=
    ⟨rfl, rfl, rfl, rfl, by simp only [List.forall_mem_cons, List.not_mem_nil, false_implies, implies_true, and_true]; exact ⟨rfl, rfl⟩, by simp only [List.forall_mem_cons, List.not_mem_nil, false_implies, implies_true, and_true]; exact ⟨rfl, rfl⟩⟩
  have hfr' := Around.frames_deeper (env := callEnv (FD (stAt 3) fd) s.heap.objs.size f) hfr
  have hfrm : (callEnv (FD (stAt 3) fd) s.heap.objs.size f).frame = some s.heap.objs.size := rfl
  have hkind : (callEnv (FD (stAt 3) fd) s.heap.objs.size f).scope.kind ≠ .module := show (fScope (stAt 3)).kind ≠ _ by decide
  have hdep : (A.deeper (callEnv (FD (stAt 3) fd) s.heap.objs.size f)).depth + 3 < recursionLimit := by rw [depth_deeper]; omega
  have hhd : (A.deeper (callEnv (FD (stAt 3) fd) s.heap.objs.size f)).handled = none := hh
  generalize (callEnv (FD (stAt 3) fd) s.heap.objs.size f) = env at P hfr' hfrm hkind hdep hhd
  generalize A.deeper env = A' at hfr' hdep hhd
  have up1 := X₁.out h0
  refine execs_cons' (wpAny_Return_some (Call_ ?_))
  refine ((P.gl (B.gList.mono (stays_trans hbk up1.stays))).now).go fun v s₂ k₂ hv => ?_
  obtain rfl : v = .type "list" := hv
  refine PyProof.Rows.callWith_type1 (args_cons (Call_ ?_))
  refine ((P.gl (B.gC.mono (stays_trans hbk (up1.trans k₂).stays))).now).go fun v s₃ k₃ hv => ?_
  obtain rfl : v = .ref C := hv
  have up3 := up1.trans (k₂.trans k₃)
  refine callWith_K (B.kin.keeps hbk) Y.keepC (args_cons (Attribute_Name_ ?_))
  refine ((P.nm (X₁.kp (k₂.trans k₃)) "skip").now).go fun v s₄ k₄ hv => ?_
  obtain rfl : v = .ref a := hv
  have up4 := up3.trans k₄
  refine attr_contains (T := T) ⟨hT, ws.toArray, kk, sl, up4.stays _ _ ha⟩ ?_
  have k₅ : Kp s₄ { s₄ with heap := s₄.heap.push (mwObj (T ++ ".__contains__") (.ref a)), toks := s₄.toks + 1 } := Kp.mk (stays_push _)
  have X₅ := X₁.kp (((k₂.trans k₃).trans k₄).trans k₅)
  refine args_cons ((P.nm X₅ "flist").now.go fun v s₆ k₆ hv => ?_)
  obtain rfl : v = .ref lst := hv
  have up5 := up4.trans k₅
  have up6 := up5.trans k₆
  have X₆ := X₅.kp k₆
  have hmw : s₆.heap.get? s₄.heap.objs.size = some (mwObj (T ++ ".__contains__") (.ref a)) := k₆.stays _ _ (Heap.get?_push_size _ rfl)
  have mwL : s₄.heap.objs.size ≠ s.heap.objs.size := by
    obtain ⟨m, ⟨o, _, _, q, _⟩, _⟩ := (X₁.kp ((k₂.trans k₃).trans k₄)).ns
    exact Nat.ne_of_gt (Heap.lt_size q)
  have mw0 : s.heap.get? s₄.heap.objs.size = none := by
    cases q : s.heap.get? s₄.heap.objs.size with
    | none => rfl
    | some o => exact absurd (Heap.lt_size (up4.stays _ _ q)) (Nat.lt_irrefl _)
  obtain ⟨m, n6, _⟩ := X₆.ns
  refine args_nil ⟨B.kin.keeps (stays_trans hbk up6.stays), wpAny_call (make_K (L := s.heap.objs.size) (h₀ := s.heap) (news := [(s₄.heap.objs.size, mwObj (T ++ ".__contains__") (.ref a))]) ⟨n6, up6.stays, Nat.le_refl _⟩
    (by intro p hp; simp only [List.mem_singleton] at hp; subst hp; exact ⟨hmw, mwL, mw0⟩) (B.kin.keeps (stays_trans hbk up6.stays)) Y.made Y.init Y.tInit fun x dx h₇ F₇ N₇ _ _ => ?_)⟩
  obtain ⟨x1, x2, x3⟩ := N₇ _ (.head _)
  obtain ⟨d1, d2, d3⟩ := N₇ _ (.tail _ (.head _))
  obtain ⟨m1, _, _⟩ := N₇ _ (.tail _ (.tail _ (.head _)))
  have kb7 : hb.StaysIn h₇ := stays_trans hbk F₇.keep
  obtain ⟨oI, hoI, dI'⟩ := (B.fI.mono kb7).obj
  refine codeAny_call_def (s := { s₆ with heap := h₇ }) (binds := [("self", .ref x), ("function", .ref s₄.heap.objs.size), ("iterable", .ref lst)]) (by rw [depth_under_kw]; omega) hoI dI' (B.fI.mono kb7).lim (B.fI.mono kb7).code rfl (BindsTo.of_eq rfl) nc31
    (by intro y hy; simp only [List.mem_cons, List.not_mem_nil, or_false] at hy; rcases hy with rfl | rfl | rfl <;> rfl) (fun h₈ hns8 hkeep8 => ?_) rfl rfl rfl
  have P₈ : Pl (callEnv (FD (mtAt 1 1) dI) h₇.objs.size fI) h₇.objs.size ["self", "function", "iterable"] ["iter"] :=
    ⟨rfl, rfl, rfl, rfl, by simp only [List.forall_mem_cons, List.not_mem_nil, false_implies, implies_true, and_true]; exact ⟨rfl, rfl, rfl⟩, by simp only [List.forall_mem_cons, List.not_mem_nil, false_implies, implies_true, and_true]; rfl⟩
  have X₈ : Loc { s₆ with heap := h₇ } h₇.objs.size [("iterable", .val (.ref lst)), ("function", .val (.ref s₄.heap.objs.size)), ("self", .val (.ref x))] { s₆ with heap := h₈, toks := s₆.toks + 3 } :=
    ⟨⟨_, hns8, Typ.look ⟨rfl, rfl, rfl, rfl, rfl, rfl, trivial⟩⟩, fun b o _ e => hkeep8 b o e, h₈, _, rfl⟩
  have kno : K.lookup x = none := by
    cases q : K.lookup x with
    | none => rfl
    | some o => have := B.kin.keeps hbk _ _ q; rw [x3] at this; cases this
  refine wpAny_mono (init_body Y P₈ X₈ (Nat.le_refl _) (B.kin.keeps kb7) kno kb7 B.gIter x1 d1 (isList_keep F₇.keep hl)) (fun fl s₉ h9 => ?_) (fun _ _ z => z.elim)
  obtain ⟨rfl, It, nIt, it9, I9, keep9, sm9⟩ := h9
  refine ⟨rfl, ?_⟩
  have kno2 : K.lookup It = none := by
    cases q : K.lookup It with
    | none => rfl
    | some o => have := B.kin.keeps kb7 _ _ q; rw [nIt] at this; cases this
  have up9 : s.heap.StaysIn s₉.heap := fun b o e => keep9 b o (fun z => by rw [z, x3] at e; cases e) (F₇.keep b o e)
  have mwx : s₄.heap.objs.size ≠ x := fun z => by rw [z, x1] at m1; cases m1
  have F9 : Ff K C x dx It s₄.heap.objs.size lst i T a ys vs.toArray 0 s₉.heap := ⟨B.kin.keeps (stays_trans hbk up9), kno2, I9, it9, isList_keep up9 hl, keep9 _ _ mwx m1, hu.keep up9⟩
  have hbI : hb.get? It = none := by
    cases q : hb.get? It with
    | none => rfl
    | some o => have := kb7 _ _ q; rw [nIt] at this; cases this
  have ns9 : s₉.heap.Ns s.heap.objs.size m := F₇.ns.at' fun o e => keep9 _ o (fun z => x2 z.symm) e
  have S9 : Stk (env :: outer) s₉.heap := by
    intro v hv
    rcases List.mem_cons.mp hv with rfl | hv
    · obtain ⟨o, es, ep, q, qd, _⟩ := ns9
      exact ⟨hkind, _, o, hfrm, q, fun vs z => by rw [qd] at z; cases z⟩
    · exact (S.keep up9) v hv
  refine args_nil ?_
  refine list_of_ff B hT hi F9 hz hhd (by omega) hfr' S9 hbI (stays_trans hbk up9) ⟨ns9, up9, Nat.le_refl _⟩ (B.kin.keeps hbk) fun S' s' nS hr R => ?_
  refine hQ _ s' hr ⟨(Heap.UpToSlots.of_keeps up9).trans R.up, fun b o nf e => R.k b o (fun z => ?_) (fun hm => ?_) (up9 b o e), ?_⟩
  · have := F₇.keep b o e
    rw [z, nIt] at this; cases this
  · obtain ⟨v, hv, hf⟩ := List.mem_filterMap.mp hm
    rcases List.mem_cons.mp hv with rfl | hv
    · rw [hfrm] at hf
      obtain rfl : s.heap.objs.size = b := Option.some.inj hf
      rw [h0] at e; cases e
    · exact nf (List.mem_filterMap.mpr ⟨v, hv, hf⟩)
  · exact ((((sm_kp up6).trans (s'' := { s₆ with heap := h₇ }) ⟨_, _, rfl⟩).trans sm9).trans R.same)
end
end Mine
namespace Mine
/-- a frame with cells: typed locals Γ, typed cells Δ; all that the anchor has stands -/
structure LocC (s₀ : Shared) (L : Addr) (cs : List (Str × Addr)) (Γ Δ : List (Str × D)) (s : Shared) : Prop where
  ns : ∃ m, s.heap.Ns L m ∧ ∀ x d, Γ.lookup x = some d → ∃ v, m x = some v ∧ d.At v s.heap
  cl : ∀ x d, Δ.lookup x = some d → ∃ c v, cs.lookup x = some c ∧ s.heap.IsCell c (some v) ∧ d.At v s.heap
  un : ∀ x c, cs.lookup x = some c → ∃ ov, s.heap.IsCell c ov
  ap : ∀ x y c, cs.lookup x = some c → cs.lookup y = some c → x = y
  fresh : ∀ x c, cs.lookup x = some c → c ≠ L ∧ s₀.heap.get? c = none
  keep : s₀.heap.StaysIn s.heap
  nL : s₀.heap.get? L = none
  same : ∃ h t, s = { s₀ with heap := h, toks := t }

theorem isCell_list {h : Heap} {l c : Addr} {it : Array Value} {ov : Option Value} (x : h.IsList l it) (y : h.IsCell c ov) : l ≠ c := by
  rintro rfl
  obtain ⟨o, ho, _, n, hd⟩ := x
  obtain ⟨o', ho', hd'⟩ := y
  rw [ho] at ho'; cases ho'; rw [hd] at hd'; cases hd'
theorem D.At.butCell {h h' : Heap} {c : Addr} {ov : Option Value} (hc : h.IsCell c ov) (hs : Heap.SameBut c h h') {d : D} {v : Value} (x : d.At v h) : d.At v h' := by
  obtain ⟨oc, hoc, hdc⟩ := hc
  have key : ∀ {l : Addr} {o : Obj} {it : Array Value} {n : Nat}, h.get? l = some o → o.data = .seq it n → h'.get? l = some o := fun {l o it n} ho hd => (hs.2 l fun q => by
    subst q; rw [hoc] at ho; cases ho; rw [hdc] at hd; cases hd).trans ho
  cases d with
  | val w => exact x
  | str y => exact x
  | int i => exact x
  | lstr xs => obtain ⟨l, vs, e, ⟨o, ho, hcl, n, hd⟩, b⟩ := x; exact ⟨l, vs, e, ⟨o, key ho hd, hcl, n, hd⟩, b⟩
  | lint xs => obtain ⟨l, vs, e, ⟨o, ho, hcl, n, hd⟩, b⟩ := x; exact ⟨l, vs, e, ⟨o, key ho hd, hcl, n, hd⟩, b⟩
  | tstr xs => obtain ⟨l, vs, e, ⟨o, ho, hcl, n, hd⟩, b⟩ := x; exact ⟨l, vs, e, ⟨o, key ho hd, hcl, n, hd⟩, b⟩
  | pl T xs => obtain ⟨l, vs, k, sl, e, ho, b⟩ := x; exact ⟨l, vs, k, sl, e, key ho rfl, b⟩

section
variable {s₀ s s' : Shared} {L : Addr} {cs : List (Str × Addr)} {Γ Δ : List (Str × D)}
theorem LocC.kp (X : LocC s₀ L cs Γ Δ s) (k : Kp s s') : LocC s₀ L cs Γ Δ s' := by
  obtain ⟨⟨m, n, T⟩, cl, un, ap, fr, K, nL, h, t, rfl⟩ := X
  obtain ⟨h', t', rfl, k⟩ := k
  exact ⟨⟨m, n.keeps k, fun x d e => let ⟨v, a, b⟩ := T x d e; ⟨v, a, b.keep k⟩⟩, fun x d e => let ⟨c, v, a, b, z⟩ := cl x d e; ⟨c, v, a, b.keeps k, z.keep k⟩, fun x c e => let ⟨ov, a⟩ := un x c e; ⟨ov, a.keeps k⟩, ap, fr, stays_trans K k, nL, h', t', rfl⟩
/-- a call in which this one frame may have been noted -/
theorem LocC.aft {outer : List Env} (X : LocC s₀ L cs Γ Δ s) (k : AftC outer s s') (ho : ∀ b, b ∈ frs outer → b = L) : LocC s₀ L cs Γ Δ s' := by
  obtain ⟨⟨m, n, T⟩, cl, un, ap, fr, K, nL, h, t, rfl⟩ := X
  obtain ⟨up, k, h', t', rfl⟩ := k
  have kc : ∀ x c, cs.lookup x = some c → ∀ ov, ({ s₀ with heap := h, toks := t } : Shared).heap.IsCell c ov → h'.IsCell c ov := fun x c e ov ⟨o, ho', hd⟩ => ⟨o, k c o (fun hm => (fr x c e).1 (ho c hm)) ho', hd⟩
  refine ⟨⟨m, up.ns n, fun x d e => let ⟨v, a, b⟩ := T x d e; ⟨v, a, b.up up⟩⟩, fun x d e => let ⟨c, v, a, b, z⟩ := cl x d e; ⟨c, v, a, kc x c a _ b, z.up up⟩, fun x c e => let ⟨ov, a⟩ := un x c e; ⟨ov, kc x c e _ a⟩, ap, fr, fun b o e => k b o (fun hm => by rw [ho b hm, nL] at e; cases e) (K b o e), nL, h', t', rfl⟩

structure PlC (env : Env) (L : Addr) (cs : List (Str × Addr)) (loc cel glob : List Str) : Prop where
  hL : env.locals = L
  hcs : env.cells = cs
  hk : env.scope.kind = .function
  hg : env.globals = mainGlobals
  hb : env.builtins = builtinsNs
  l : ∀ x ∈ loc, env.kindOf x = some .local
  c : ∀ x ∈ cel, env.kindOf x = some .cell
  g : ∀ x ∈ glob, env.kindOf x = some .globalImplicit

variable {prog : Program} {w : World} {A : Around} {env : Env} {loc cel glob : List Str}
theorem PlC.nm (P : PlC env L cs loc cel glob) (X : LocC s₀ L cs Γ Δ s) (x : Str) {d : D} {pos : Pos} (hx : Γ.lookup x = some d := by rfl) (hl : loc.contains x = true := by decide) (hd : (x == ("__debug__" : Str)) = false := by decide) : EvE (model prog w) A env (.Name x pos) d s.heap := by
  refine EvE.name (fun s₁ k => ?_) hd
  obtain ⟨⟨m, n, T⟩, _⟩ := X
  obtain ⟨v, a, z⟩ := T x d hx
  have hL := P.hL
  subst hL
  exact wpAny_loadName_local P.hk (P.l x (by simpa using hl)) (n.keeps k) a ⟨rfl, z.keep k⟩
theorem PlC.ce (P : PlC env L cs loc cel glob) (X : LocC s₀ L cs Γ Δ s) (x : Str) {d : D} {pos : Pos} (hx : Δ.lookup x = some d := by rfl) (hl : cel.contains x = true := by decide) (hd : (x == ("__debug__" : Str)) = false := by decide) : EvE (model prog w) A env (.Name x pos) d s.heap := by
  refine EvE.name (fun s₁ k => ?_) hd
  obtain ⟨c, v, a, b, z⟩ := X.cl x d hx
  exact wpAny_loadName_cell P.hk (P.c x (by simpa using hl)) (by rw [P.hcs]; exact a) (b.keeps k) ⟨rfl, z.keep k⟩
theorem PlC.gn {h : Heap} (P : PlC env L cs loc cel glob) {x : Str} {v : Value} (g : GN h x v) (hl : glob.contains x = true := by decide) : Nm (model prog w) A env x (.val v) h :=
  g.nm P.hg P.hb P.hk (P.g x (by simpa using hl))
theorem PlC.gl {h : Heap} (P : PlC env L cs loc cel glob) {x : Str} {v : Value} (g : GN h x v) {pos : Pos} (hl : glob.contains x = true := by decide) (hd : (x == ("__debug__" : Str)) = false := by decide) : EvE (model prog w) A env (.Name x pos) (.val v) h :=
  EvE.name (P.gn g hl) hd

theorem LocC.set {E : Value → Shared → Prop} {Q : Unit → Shared → Prop} (X : LocC s₀ L cs Γ Δ s) (P : PlC env L cs loc cel glob) {x : Str} {d : D} {v : Value} (hv : d.At v s.heap) (hl : loc.contains x = true)
    (h : ∀ s', LocC s₀ L cs ((x, d) :: Γ) Δ s' → Q () s') : wpAny (model prog w) A (storeName env x v) Q E s := by
  obtain ⟨⟨m, n, T⟩, cl, un, ap, fr, K, nL, h1, t1, rfl⟩ := X
  have hL := P.hL
  subst hL
  refine wpAny_storeName_local (P.l x (by simpa using hl)) n (fun h' hn hs => h _ ⟨⟨_, hn, fun y d' e => ?_⟩, fun y d' e => ?_, fun y c e => ?_, ap, fr, fun b o e => (hs.2 b fun q => by rw [q, nL] at e; cases e).trans (K b o e), nL, h', _, rfl⟩) (by rw [P.hk]; rfl)
  · by_cases q : y = x
    · subst q
      simp only [List.lookup, BEq.rfl, Option.some.injEq] at e
      subst e
      exact ⟨v, by simp, hv.but n hs⟩
    · have q' : (y == x) = false := by simpa using q
      simp only [List.lookup, q'] at e
      obtain ⟨u, a, z⟩ := T y d' e
      exact ⟨u, by simp [q, a], z.but n hs⟩
  · obtain ⟨c, u, a, ⟨o, b, bd⟩, z⟩ := cl y d' e
    exact ⟨c, u, a, ⟨o, (hs.2 c (fr y c a).1).trans b, bd⟩, z.but n hs⟩
  · obtain ⟨ov, o, b, bd⟩ := un y c e
    exact ⟨ov, o, (hs.2 c (fr y c e).1).trans b, bd⟩
theorem LocC.setc {E : Value → Shared → Prop} {Q : Unit → Shared → Prop} (X : LocC s₀ L cs Γ Δ s) (P : PlC env L cs loc cel glob) {x : Str} {c : Addr} {d : D} {v : Value} (hv : d.At v s.heap) (hc : cs.lookup x = some c) (hl : cel.contains x = true)
    (h : ∀ s', LocC s₀ L cs Γ ((x, d) :: Δ) s' → Q () s') : wpAny (model prog w) A (storeName env x v) Q E s := by
  obtain ⟨⟨m, n, T⟩, cl, un, ap, fr, K, nL, h1, t1, rfl⟩ := X
  obtain ⟨ov, hcell⟩ := un x c hc
  refine wpAny_storeName_cell P.hk (P.c x (by simpa using hl)) (by rw [P.hcs]; exact hc) hcell fun h' hn hs => h _ ⟨⟨m, n.at' fun o e => (hs.2 L fun q => (fr x c hc).1 q.symm).trans e, fun y d' e => ?_⟩, fun y d' e => ?_, fun y b e => ?_, ap, fr, fun b o e => (hs.2 b fun q => by rw [q, (fr x c hc).2] at e; cases e).trans (K b o e), nL, h', _, rfl⟩
  · obtain ⟨u, a, z⟩ := T y d' e
    exact ⟨u, a, z.butCell hcell hs⟩
  · by_cases q : y = x
    · subst q
      simp only [List.lookup, BEq.rfl, Option.some.injEq] at e
      subst e
      exact ⟨c, v, hc, hn, hv.butCell hcell hs⟩
    · have q' : (y == x) = false := by simpa using q
      simp only [List.lookup, q'] at e
      obtain ⟨b, u, a, ⟨o, z1, z2⟩, z⟩ := cl y d' e
      exact ⟨b, u, a, ⟨o, (hs.2 b fun z => q (ap y x b a (z ▸ hc))).trans z1, z2⟩, z.butCell hcell hs⟩
  · by_cases q : y = x
    · subst q
      rw [hc] at e; cases e
      exact ⟨_, hn⟩
    · obtain ⟨ov', o, z1, z2⟩ := un y b e
      exact ⟨ov', o, (hs.2 b fun z => q (ap y x b e (z ▸ hc))).trans z1, z2⟩
theorem LocC.assign {E : Value → Shared → Prop} {Q : Flow → Shared → Prop} (X : LocC s₀ L cs Γ Δ s) (P : PlC env L cs loc cel glob) {x : Str} {px pos : Pos} {e : Expr} {d : D} (he : EvE (model prog w) A env e d s.heap)
    (h : ∀ s', LocC s₀ L cs ((x, d) :: Γ) Δ s' → Q .next s') (hl : loc.contains x = true := by decide) (hs : swapsWith e (some (.Name x px)) pos.line env = pure false := by rfl) : wpAny (model prog w) A (exec (.Assign [.Name x px] e pos) env) Q E s :=
  wpAny_Assign_Name (he.now.go fun _ _ k hv => (X.kp k).set P hv hl fun s' X' => h s' X') hs
theorem LocC.assignc {E : Value → Shared → Prop} {Q : Flow → Shared → Prop} (X : LocC s₀ L cs Γ Δ s) (P : PlC env L cs loc cel glob) {x : Str} {c : Addr} {px pos : Pos} {e : Expr} {d : D} (he : EvE (model prog w) A env e d s.heap) (hc : cs.lookup x = some c)
    (h : ∀ s', LocC s₀ L cs Γ ((x, d) :: Δ) s' → Q .next s') (hl : cel.contains x = true := by decide) (hs : swapsWith e (some (.Name x px)) pos.line env = pure false := by rfl) : wpAny (model prog w) A (exec (.Assign [.Name x px] e pos) env) Q E s :=
  wpAny_Assign_Name (he.now.go fun _ _ k hv => (X.kp k).setc P hv hc hl fun s' X' => h s' X') hs
end

-- names within a comprehension
section
variable {prog : Program} {w : World} {A : Around} {env : Env} {h : Heap} {scope : Scope} {cl : List (Str × Addr)} {C : Addr}
theorem comp_glob (hg : env.globals = mainGlobals) (hb : env.builtins = builtinsNs) (hk : scope.kind = .function) {x : Str} {v : Value} (g : GN h x v) (hx : scope.names.lookup x = some .globalImplicit) : Nm (model prog w) A (compEnvC scope cl C env) x (.val v) h :=
  g.nm hg hb (by simp [compEnvC, relabel, hk]) (lookup_relabel_glob hx)
theorem comp_cell {s₀ s : Shared} {L : Addr} {cs : List (Str × Addr)} {Γ Δ : List (Str × D)} {loc cel glob : List Str} (P : PlC env L cs loc cel glob) (X : LocC s₀ L cs Γ Δ s) (hk : scope.kind = .function) (k : s.heap.StaysIn h)
    (x : Str) {d : D} (hsub : ∀ c, cs.lookup x = some c → cl.lookup x = some c) (hx : Δ.lookup x = some d) (hf : scope.names.lookup x = some .free) (hl : cel.contains x = true) : Nm (model prog w) A (compEnvC scope cl C env) x d h := fun s₁ k₁ => by
  obtain ⟨c, v, a, b, z⟩ := X.cl x d hx
  have kk := stays_trans k k₁
  exact wpAny_loadName_cell (by simp [compEnvC, relabel, hk]) (lookup_relabel_free P.hk (P.c x (by simpa using hl)) hf) (hsub c a) (b.keeps kk) ⟨rfl, z.keep kk⟩
end
end Mine
namespace Mine
/-- several values -/
def Ats (h : Heap) : List D → List Value → Prop
  | [], [] => True
  | d :: ds, v :: vs => d.At v h ∧ Ats h ds vs
  | _, _ => False
theorem Ats.get {h : Heap} : ∀ {ds : List D} {vs : List Value}, Ats h ds vs → ds.length = vs.length ∧ ∀ (i : Nat) (d : D), ds[i]? = some d → ∃ v, vs[i]? = some v ∧ d.At v h
  | [], [], _ => ⟨rfl, fun i d e => by cases e⟩
  | d :: ds, v :: vs, ⟨a, b⟩ => by
    obtain ⟨l, k⟩ := Ats.get b
    refine ⟨by simp [l], fun i d e => ?_⟩
    cases i with
    | zero => cases e; exact ⟨v, rfl, a⟩
    | succ i => exact k i d e
theorem Ats.keep {h h' : Heap} (k : h.StaysIn h') : ∀ {ds : List D} {vs : List Value}, Ats h ds vs → Ats h' ds vs
  | [], [], _ => True.intro
  | _ :: _, _ :: _, ⟨a, b⟩ => ⟨a.keep k, Ats.keep k b⟩
section
variable {prog : Program} {w : World} {A : Around} {env : Env} {h : Heap} {s : Shared}
def EvA (M : Model) (A : Around) (env : Env) (es : List Expr) (ds : List D) (h : Heap) : Prop := ∀ pos s, h.StaysIn s.heap → Ev M A (spliced (backTo pos (starEach es env))) (fun vs h' => Ats h' ds vs) s
theorem EvA.nil : EvA (model prog w) A env [] [] h := fun pos s k => args_nil ⟨Kp.refl _, True.intro⟩
theorem EvA.cons {e : Expr} {es : List Expr} {d : D} {ds : List D} (he : EvE (model prog w) A env e d h) (hs : EvA (model prog w) A env es ds h) (hst : starEach (e :: es) env = (false, eval e env) :: starEach es env := by rfl) : EvA (model prog w) A env (e :: es) (d :: ds) h := fun pos s k =>
  args_cons ((he s k).go fun v s₁ k₁ hv => (hs pos s₁ (stays_trans k k₁.stays)).go fun vs s₂ k₂ hvs => ⟨k₁.trans k₂, hv.keep k₂.stays, hvs⟩) hst
theorem EvE.litem {es : List Expr} {ds : List D} {e : Expr} {lp pos : Pos} {i : Int} {d : D} (hes : EvA (model prog w) A env es ds h) (he : EvE (model prog w) A env e (.int i) h) (hi : 0 ≤ i) (hf : i < 2 ^ 63) (hd : ds[i.toNat]? = some d) (hz : ds.length ≤ 1000)
    (hs : ∀ o k, subscripted e false o k = operate [o, k] (getItem o k) := by intro _ _; with_unfolding_all rfl) : EvE (model prog w) A env (.Subscript (.List es lp) e pos) d h := fun s k =>
  Subscript_ (wpAny_List ((hes lp s k).go fun vs s₁ k₁ hvs => by
    obtain ⟨hl, hg⟩ := hvs.get
    refine ⟨by rw [sizeLine_eq]; omega, ?_⟩
    have kk : Kp s { s₁ with heap := s₁.heap.push { cls := .type "list", data := .seq vs.toArray } } := k₁.trans (Kp.mk0 (stays_push _))
    refine (he _ (stays_trans k kk.stays)).go fun a s₂ k₂ ha => ?_
    obtain ⟨u, rfl⟩ := ha
    obtain ⟨v, hv, hav⟩ := hg i.toNat d hd
    have hL : s₂.heap.IsList s₁.heap.objs.size vs.toArray := ⟨_, k₂.stays _ _ (Heap.get?_push_size _ rfl), rfl, 0, rfl⟩
    exact item_listR hL hi hf (by simpa using hv) ⟨kk.trans k₂, (hav.keep (stays_push _)).keep k₂.stays⟩ (hs _ _)))
theorem EvE.lints {es : List Expr} {ns : List Int} {lp : Pos} (hes : EvA (model prog w) A env es (ns.map .int) h) (hz : ns.length ≤ 1000) : EvE (model prog w) A env (.List es lp) (.lint ns) h := fun s k =>
  wpAny_List ((hes lp s k).go fun vs s₁ k₁ hvs => by
    obtain ⟨hl, hg⟩ := hvs.get
    rw [List.length_map] at hl
    refine ⟨by rw [sizeLine_eq]; omega, k₁.trans (Kp.mk0 (stays_push _)), _, vs, rfl, ⟨_, Heap.get?_push_size _ rfl, rfl, 0, rfl⟩, ?_⟩
    have : ∀ {ns : List Int} {vs : List Value}, Ats s₁.heap (ns.map .int) vs → IntsAre vs ns := by
      intro ns
      induction ns with
      | nil => intro vs a; cases vs with | nil => exact .nil | cons _ _ => exact a.elim
      | cons n ns ih =>
        intro vs a
        cases vs with
        | nil => exact a.elim
        | cons v vs =>
          obtain ⟨⟨t, rfl⟩, b⟩ := a
          exact .cons n t (ih b)
    exact this hvs)

theorem op_add_ints {xs ys : List Int} {a b : Value} (hz : xs.length + ys.length ≤ sizeLine) (ha : (D.lint xs).At a s.heap) (hb : (D.lint ys).At b s.heap) : Ev (model prog w) A (binaryOp .Add a b) (D.lint (xs ++ ys)).At s := by
  obtain ⟨l, vs, rfl, hl, hi⟩ := ha; obtain ⟨l', ws, rfl, hl', hi'⟩ := hb
  obtain ⟨⟨cls, dd, data, sl⟩, ho, hc, n, hd⟩ := id hl
  obtain ⟨⟨cls2, dd2, data2, sl2⟩, ho2, hc2, n2, hd2⟩ := id hl'
  simp only at hc hd hc2 hd2
  subst hc hd hc2 hd2
  have e : vs.toArray ++ ws.toArray = (vs ++ ws).toArray := by simp
  refine concat_meets ⟨_, ho, rfl⟩ ⟨_, ho2, rfl⟩ noFill_list_add seq_list_add PySem.F.slot_list_add PySem.F.entry_list_add (PySem.F.args_list_add_2 _ _) (list_addW l l' vs.toArray ws.toArray n n2 dd dd2 sl sl2 (by simpa [hi.length, hi'.length] using hz)) ⟨ho, ho2, ?_⟩
  rw [e]
  exact ⟨Kp.mk0 (stays_push _), _, vs ++ ws, rfl, ⟨_, Heap.get?_push_size _ rfl, rfl, 0, rfl⟩, hi.append hi'⟩
theorem EvE.lintslice3 {v : Expr} {lo hi : Option Expr} {st : Expr} {p pos : Pos} {xs : List Int} {l u : Option Int} {k : Int} (hv : EvE (model prog w) A env v (.lint xs) h) (hl : EvP (model prog w) A env lo l h) (hu : EvP (model prog w) A env hi u h) (hs : EvP (model prog w) A env (some st) (some k) h) (h0 : k ≠ 0)
    (hz : xs.length ≤ sizeLine) (ht : ∀ o r, letTemporaryGo v o r = pure () := by intro o r; cases o <;> rfl) : EvE (model prog w) A env (.Subscript v (.Slice lo hi (some st) p) pos) (.lint (pickNums xs l u (some k))) h := fun s q =>
  wpAny_Subscript_Slice_step list_getitem_lookup ((hv s q).go fun o s₁ k₁ ho => wpAny_Slice ((hl s₁ (stays_trans q k₁.stays)).go fun a s₂ k₂ ha => (hu s₂ (stays_trans q (k₁.trans k₂).stays)).go fun b s₃ k₃ hb => (hs s₃ (stays_trans q ((k₁.trans k₂).trans k₃).stays)).go fun c s₄ k₄ hc => by
    obtain ⟨D, vs, rfl, hD, hi⟩ := ho; obtain ⟨t₁, rfl⟩ := ha; obtain ⟨t₂, rfl⟩ := hb; obtain ⟨t₃, rfl⟩ := hc
    have hD4 : s₄.heap.IsList D vs.toArray := isList_keep ((k₂.trans k₃).trans k₄).stays hD
    have hD5 := isList_keep (stays_push (h := s₄.heap) { cls := .type "slice", data := .fields #[partValue (l.map (·, t₁)), partValue (u.map (·, t₂)), partValue ((some k).map (·, t₃))] }) hD4
    refine ⟨hD5.typeIs, wpAny_getItem_list_slice hD5 (Heap.IsSliceOf.new ..) isPart_of isPart_of isPart_of (by intro z; exact h0 (Option.some.inj z)) ?_ (by rw [List.size_toArray, hi.length]; exact hz)⟩
    refine ⟨(((k₁.trans k₂).trans k₃).trans k₄).trans (Kp.mk0 (stays_trans (stays_push _) (stays_push _))), _, (slicePick vs.toArray l u (some k)).toList, rfl, ⟨_, Heap.get?_push_size _ rfl, rfl, 0, by simp⟩, hi.pick l u (some k)⟩)) ht
theorem op_tuple {xs : List Str} {v : Value} (hz : xs.length ≤ sizeLine) (hv : (D.lstr xs).At v s.heap) : Ev (model prog w) A (call (.type "tuple") [v]) (D.pl "tuple" xs).At s := by
  obtain ⟨l, vs, rfl, hl, hi⟩ := hv
  refine call_tuple_list hl (fun h' k => ?_) (by rw [List.size_toArray, hi.len_eq]; exact hz)
  exact ⟨Kp.mk0 (stays_trans k (stays_push _)), _, vs, 0, #[], rfl, Heap.get?_push_size _ rfl, hi⟩
theorem op_range {n : Nat} {v : Value} (hz : n ≤ 100000) (hv : (D.int (n : Int)).At v s.heap) : Ev (model prog w) A (call (.type "range") [v]) (fun r h' => Src prog w ((List.range n).map fun k : Nat => D.int (k : Int)) r h') s := by
  obtain ⟨t, rfl⟩ := hv
  refine call_range_1 ⟨Kp.mk (stays_push _), ?_⟩
  have hr : ∀ {s₁ : Shared}, (s.heap.push { cls := .type "range", data := .fields #[.int 0 s.toks, .int (n : Int) t, .int 1 (s.toks + 1)] }).StaysIn s₁.heap → IsRange s₁.heap s.heap.objs.size 0 n 1 s.toks t (s.toks + 1) := fun k => k _ _ (Heap.get?_push_size _ rfl)
  refine ⟨fun A' s₁ Q E hh k q => wpAny_pyIter_range (hr k) ?_ ?_⟩
  · exact small_one (by omega) (by omega) (by omega) (by omega)
  · have hsz : Builtin.Range.rangeSize 0 (n : Int) 1 = (n : Int) := by
      rw [rangeSize_pos (by omega) (by omega)]; omega
    rw [hsz]
    have W0 := Walks.range (prog := prog) (w := w) hh s₁.heap.objs.size 0 1 n
    have W : Walks prog w A' s₁.heap.objs.size [s₁.heap.objs.size] [s₁.heap.objs.size] n (fun i v => i < n ∧ ∃ t, v = .int (0 + (i : Int) * 1) t) (fun i h => IsRangeIter h s₁.heap.objs.size (0 + (i : Nat) * 1) ((n : Int) - (i : Nat)) 1) :=
      { W0 with item := fun i s Q E hi st hQ => W0.item i s Q E hi st fun v h' tk hv st' k' => hQ v h' tk ⟨hi, hv⟩ st' k' }
    have e : n = ((List.range n).map fun k : Nat => D.int (k : Int)).length := by simp
    rw [e] at W
    refine q _ _ _ _ _ (Kp.mk0 (stays_push _)) (Heap.get?_none_of_le (Nat.le_refl _)) W ?_ (fun b hb => ?_) (fun b hb => ?_) fun i u hu => ?_
    · rw [← e]
      have := Heap.get?_push_size s₁.heap (o := { cls := .type "range_iterator", data := .fields #[rawInt 0, rawInt (n : Int), rawInt 1] }) rfl
      simpa [IsRangeIter] using this
    · simp only [List.mem_cons, List.mem_nil_iff, or_false] at hb
      subst hb; rw [Heap.size_push]; exact Nat.lt_succ_self _
    · simp only [List.mem_cons, List.mem_nil_iff, or_false] at hb
      exact .inl hb
    · obtain ⟨hi, t', e'⟩ := hu
      refine ⟨.int (i : Int), ?_, rfl, t', ?_⟩
      · have hi' : i < n := by simpa using hi
        simp [hi']
      · rw [e']; simp
end
end Mine
namespace Mine
theorem gn_glob {K : Frag} {h : Heap} {mg : Str → Option Value} {x : Str} {v : Value} (X : K.In h) (G : h.Ns mainGlobals mg) (e : nsIn K mainGlobals x = some (some v)) : GN h x v := ⟨mg, G, .inl (mg_of X G e)⟩
theorem gn_built {K : Frag} {h : Heap} {mg mb : Str → Option Value} {p : Program} {loose : List Str} {x : Str} {v : Value} (X : K.In h) (T : TopRead p loose mg mb h) (e : nsIn K mainGlobals x = some none) (hv : bootBuiltins x = some v) (hn : x ≠ "__name__") : GN h x v :=
  ⟨mg, T.g, .inr ⟨mg_none_of X T.g e, mb, T.b, (T.builtins x hn).trans hv⟩⟩
def fdIn (K : Frag) (f : Addr) : Option FuncData := match K.lookup f with
  | some ⟨_, _, .func fd, _⟩ => some fd
  | _ => none
theorem fn_of {K : Frag} {h : Heap} {f : Addr} {fd : FuncData} (X : K.In h) (lim : h.NoLimit) (e : fdIn K f = some fd) (hc : codeIn K fd.code fd.qualname = true) : Fn h f fd := by
  unfold fdIn at e
  split at e
  · rename_i q
    cases e
    exact ⟨⟨_, X _ _ q, rfl⟩, lim, codeRec_of X hc⟩
  · cases e
end Mine
namespace Mine
-- law 2: reading
def sp (c : Nat) : Bool := c == 32 || c == 9
def rstep (acc : List Nat) (c : Nat) : List Nat := if sp c = true then (if acc = [] ∨ acc.getLast? = some 32 then acc else acc ++ [32]) else acc ++ [lowC c]
def rfin (acc : List Nat) : List Nat := if acc.getLast? = some 32 then acc.dropLast else acc
def readL (mk : Option (List Nat)) (l : List Nat) : List Nat := match mk with
  | none => rfin (l.foldl rstep [])
  | some _ => l.map lowC
def lowW (A : List (List Nat)) : List (List Nat) := A.map (·.map lowC)
/-- what has been read, told by the words so far -/
def accW (st : List (List Nat) × List Nat) : List Nat := if st.2 = [] then (joinL [32] (lowW st.1) ++ if st.1 = [] then [] else [32]) else joinL [32] (lowW (st.1 ++ [st.2]))
theorem joinL_snoc (m : List Nat) : ∀ (A : List (List Nat)) (b : List Nat), joinL m (A ++ [b]) = if A = [] then b else joinL m A ++ m ++ b
  | [], b => rfl
  | [a], b => by simp [joinL]
  | a :: c :: A, b => by
    have := joinL_snoc m (c :: A) b
    rw [if_neg (by simp)] at this
    rw [if_neg (by simp)]
    show a ++ m ++ joinL m (c :: A ++ [b]) = a ++ m ++ joinL m (c :: A) ++ m ++ b
    rw [this]; simp
theorem lowW_app (A B : List (List Nat)) : lowW (A ++ B) = lowW A ++ lowW B := by unfold lowW; rw [List.map_append]
theorem lowW_nil (A : List (List Nat)) : lowW A = [] ↔ A = [] := by unfold lowW; simp
theorem joinL_ne {A : List (List Nat)} (h : ∀ w ∈ A, w ≠ []) (hA : A ≠ []) (m : List Nat) : joinL m A ≠ [] := by
  cases A with
  | nil => exact absurd rfl hA
  | cons a A =>
    cases A with
    | nil => exact h a (.head _)
    | cons b B =>
      intro e
      have : a ++ m ++ joinL m (b :: B) = [] := e
      have h1 := h a (.head _)
      simp at this
      exact h1 this.1
theorem sp_lowC {c : Nat} (h : sp c = false) : sp (lowC c) = false := sp_low c h
theorem last_word {w : List Nat} (h1 : w ≠ []) (h2 : ∀ c ∈ w, sp c = false) (X : List Nat) : (X ++ w).getLast? ≠ some 32 := by
  rw [List.getLast?_append]
  cases q : w.getLast? with
  | none => rw [List.getLast?_eq_none_iff] at q; exact absurd q h1
  | some c =>
    have := h2 c (List.mem_of_getLast? q)
    intro z
    simp at z
    subst z
    cases this
theorem accW_step (st : List (List Nat) × List Nat) (c : Nat) (h1 : ∀ w ∈ st.1, Wd w) (h2 : ∀ c ∈ st.2, sp c = false) : accW (wstep st c) = rstep (accW st) c := by
  obtain ⟨ws, wd⟩ := st
  have hw : ∀ w ∈ lowW ws, w ≠ [] := fun w hw => by
    obtain ⟨v, hv, rfl⟩ := List.mem_map.mp hw
    have := (h1 v hv).1
    simpa using this
  unfold wstep rstep
  by_cases hc : sp c = true
  · have hc' : (c == 32 || c == 9) = true := hc
    rw [if_pos hc', if_pos hc]
    by_cases q : wd = []
    · subst q
      rw [if_pos rfl]
      unfold accW
      simp only [if_true]
      by_cases z : ws = []
      · subst z; simp [lowW, joinL]
      · rw [if_neg z, if_pos (.inr (by simp))]
    · rw [if_neg q]
      unfold accW
      simp only [if_true, if_neg q]
      rw [if_neg (by simp)]
      have hlast : ¬ (joinL [32] (lowW (ws ++ [wd])) = [] ∨ (joinL [32] (lowW (ws ++ [wd]))).getLast? = some 32) := by
        rintro (z | z)
        · refine joinL_ne (A := lowW (ws ++ [wd])) (fun w hw' => ?_) (by rw [lowW_app]; simp [lowW]) [32] z
          rw [lowW_app] at hw'
          rcases List.mem_append.mp hw' with hw' | hw'
          · exact hw w hw'
          · rw [List.mem_singleton.mp hw']; simpa using q
        · rw [lowW_app] at z
          show False
          have e : lowW [wd] = [wd.map lowC] := rfl
          rw [e, joinL_snoc] at z
          have hwl : ∀ c ∈ wd.map lowC, sp c = false := fun c hc => by
            obtain ⟨d, hd, rfl⟩ := List.mem_map.mp hc
            exact sp_lowC (h2 d hd)
          split at z
          · exact last_word (by simpa using q) hwl [] (by simpa using z)
          · exact last_word (by simpa using q) hwl _ z
      rw [if_neg hlast]
  · have hc' : ¬ (c == 32 || c == 9) = true := hc
    rw [if_neg hc', if_neg hc]
    unfold accW
    rw [if_neg (by simp)]
    by_cases q : wd = []
    · subst q
      simp only [if_true, List.nil_append]
      rw [lowW_app]
      have e : lowW [[c]] = [[lowC c]] := rfl
      rw [e, joinL_snoc]
      by_cases z : ws = []
      · subst z; simp [lowW, joinL]
      · rw [if_neg (by rw [lowW_nil]; exact z), if_neg z]
    · simp only [if_neg q]
      rw [lowW_app, lowW_app]
      have e : lowW [wd ++ [c]] = [wd.map lowC ++ [lowC c]] := by simp [lowW]
      have e' : lowW [wd] = [wd.map lowC] := rfl
      rw [e, e', joinL_snoc, joinL_snoc]
      split <;> simp
theorem accW_fold : ∀ (l : List Nat) (st : List (List Nat) × List Nat), (∀ w ∈ st.1, Wd w) → (∀ c ∈ st.2, sp c = false) → accW (l.foldl wstep st) = l.foldl rstep (accW st)
  | [], st, _, _ => rfl
  | c :: r, st, h1, h2 => by
    rw [List.foldl_cons, List.foldl_cons, ← accW_step st c h1 h2]
    obtain ⟨g1, g2⟩ := fold_good [c] st h1 h2
    exact accW_fold r (wstep st c) g1 g2
theorem rfin_accW (st : List (List Nat) × List Nat) (h1 : ∀ w ∈ st.1, Wd w) (h2 : ∀ c ∈ st.2, sp c = false) : rfin (accW st) = joinL [32] (lowW (wfin st)) := by
  obtain ⟨ws, wd⟩ := st
  unfold rfin accW wfin
  by_cases q : wd = []
  · subst q
    simp only [if_true]
    by_cases z : ws = []
    · subst z; simp [lowW, joinL]
    · rw [if_neg z, if_pos (by simp)]; simp
  · simp only [if_neg q]
    rw [if_neg]
    rw [lowW_app]
    have e' : lowW [wd] = [wd.map lowC] := rfl
    have hwl : ∀ c ∈ wd.map lowC, sp c = false := fun c hc => by
      obtain ⟨d, hd, rfl⟩ := List.mem_map.mp hc
      exact sp_lowC (h2 d hd)
    rw [e', joinL_snoc]
    split
    · intro z; exact last_word (by simpa using q) hwl [] (by simpa using z)
    · exact last_word (by simpa using q) hwl _
theorem read_none (l : List Nat) : readL none l = joinL [32] (lowW (wordsL l)) := by
  show rfin (l.foldl rstep []) = _
  have h := accW_fold l ([], []) (by simp) (by simp)
  have h0 : accW ([], []) = [] := rfl
  rw [h0] at h
  rw [← h]
  obtain ⟨g1, g2⟩ := fold_good l ([], []) (by simp) (by simp)
  exact rfin_accW _ g1 g2
theorem joinL_map (g : Nat → Nat) (m : List Nat) : ∀ A : List (List Nat), (joinL m A).map g = joinL (m.map g) (A.map (·.map g))
  | [] => rfl
  | [a] => rfl
  | a :: b :: A => by
    show (a ++ m ++ joinL m (b :: A)).map g = a.map g ++ m.map g ++ joinL (m.map g) ((b :: A).map (·.map g))
    rw [List.map_append, List.map_append, joinL_map g m (b :: A)]
theorem low_mark {m : List Nat} (h : MarkOk m) : m.map lowC = m := by
  have : ∀ c ∈ m, lowC c = c := fun c hc => by
    have k : ∀ c ∈ [49, 32, 9, 45], lowC c = c := by decide
    exact k c (h.in_ c hc)
  rw [List.map_congr_left this, List.map_id']
theorem lowW_cap (A : List (List Nat)) : lowW (A.map capL) = lowW A := by
  unfold lowW
  rw [List.map_map]
  exact List.map_congr_left fun a _ => low_cap a
theorem read_cap {mk : Option (List Nat)} (h : MkOk mk) (l : List Nat) : readL mk (capwL l mk) = readL mk l := by
  cases mk with
  | none =>
    rw [read_none, read_none]
    have := pieces_cap (mk := none) h l
    have e : wordsL (capwL l none) = (wordsL l).map capL := this
    rw [e, lowW_cap]
  | some m =>
    show (capwL l (some m)).map lowC = l.map lowC
    show (joinL m ((splitL m l).map capL)).map lowC = _
    rw [joinL_map, low_mark (h m rfl)]
    have e : ((splitL m l).map capL).map (·.map lowC) = (splitL m l).map (·.map lowC) := lowW_cap _
    rw [e]
    have := joinL_map lowC m (splitL m l)
    rw [low_mark (h m rfl)] at this
    rw [← this, splitL, spl_join, List.nil_append]
theorem spl_low {m : List Nat} (h : MarkOk m) : ∀ (n : Nat) (w cs : List Nat), (spl m n w cs).map (·.map lowC) = spl m n (w.map lowC) (cs.map lowC)
  | 0, w, cs => by simp [spl]
  | n + 1, w, [] => by simp [spl]
  | n + 1, w, c :: cs => by
    have hcls : ∀ c ∈ m, cls c = c ∧ c ≠ 0 := fun c hc => cls_mark (h.in_ c hc)
    have e : (lowC c :: cs.map lowC).take m.length = m ↔ (c :: cs).take m.length = m := by
      rw [← List.map_cons, ← List.map_take]
      have h1 := cls_eq (l := ((c :: cs).take m.length).map lowC) hcls
      have h2 := cls_eq (l := (c :: cs).take m.length) hcls
      rw [List.map_map] at h1
      have e3 : ((c :: cs).take m.length).map (cls ∘ lowC) = ((c :: cs).take m.length).map cls := List.map_congr_left fun a _ => cls_low a
      rw [e3] at h1
      exact h1.symm.trans h2
    show _ = spl m (n + 1) (w.map lowC) (lowC c :: cs.map lowC)
    unfold spl
    by_cases q : (c :: cs).take m.length = m
    · rw [if_pos q, if_pos (e.mpr q), List.map_cons, spl_low h n]
      rw [← List.map_cons, ← List.map_drop]; rfl
    · rw [if_neg q, if_neg (fun z => q (e.mp z)), spl_low h n]
      simp
theorem cap_of_low {A B : List (List Nat)} (e : lowW A = lowW B) : A.map capL = B.map capL := by
  have k : ∀ A : List (List Nat), A.map capL = (lowW A).map capL := fun A => by
    unfold lowW; rw [List.map_map]; exact List.map_congr_left fun a _ => (cap_low a).symm
  rw [k A, k B, e]
theorem wd_low {w : List Nat} (h : Wd w) : Wd (w.map lowC) := ⟨by simpa using h.1, fun c hc => by
  obtain ⟨d, hd, rfl⟩ := List.mem_map.mp hc
  exact sp_low d (h.2 d hd)⟩
theorem cap_of_read {mk : Option (List Nat)} (h : MkOk mk) {u v : List Nat} (e : readL mk u = readL mk v) : capwL u mk = capwL v mk := by
  cases mk with
  | none =>
    rw [read_none, read_none] at e
    have k : ∀ l, wordsL (joinL [32] (lowW (wordsL l))) = lowW (wordsL l) := fun l => by
      have := words_join (lowW (wordsL l)) [] fun w hw => by
        obtain ⟨x, hx, rfl⟩ := List.mem_map.mp hw
        exact wd_low (words_good l x hx)
      rwa [List.nil_append] at this
    have e2 : lowW (wordsL u) = lowW (wordsL v) := by rw [← k u, ← k v, e]
    show joinL [32] ((wordsL u).map capL) = joinL [32] ((wordsL v).map capL)
    rw [cap_of_low e2]
  | some m =>
    have e' : u.map lowC = v.map lowC := e
    have hl : u.length = v.length := by simpa using congrArg List.length e'
    have e2 : lowW (splitL m u) = lowW (splitL m v) := by
      show (spl m u.length [] u).map (·.map lowC) = (spl m v.length [] v).map (·.map lowC)
      rw [spl_low (h m rfl), spl_low (h m rfl), e', hl]
    show joinL m ((splitL m u).map capL) = joinL m ((splitL m v).map capL)
    rw [cap_of_low e2]
theorem cap_idem {mk : Option (List Nat)} (h : MkOk mk) (l : List Nat) : capwL (capwL l mk) mk = capwL l mk := cap_of_read h (read_cap h l)
end Mine
namespace Mine
def okc (n : Bool) (b0 b c : Nat) : Bool := !(n && (c == 9 || (b == 32 && c == 32))) && (!((c == 97 || c == 98) && b == b0) && !((c == 65 || c == 66) && b != b0))
def runT (n : Bool) (b0 : Nat) : Nat → List Nat → Option Nat
  | b, [] => some b
  | b, c :: cs => if okc n b0 b c = true then runT n b0 c cs else none
def b0Of (mk : Option (List Nat)) : Nat := (mk.getD [32]).headD 32
def titledL (mk : Option (List Nat)) (t : List Nat) : Bool := match runT mk.isNone (b0Of mk) (b0Of mk) t with
  | none => false
  | some b => mk.isSome || (t == [] || b != 32)

def capJ (st : List (List Nat) × List Nat) : List Nat := if st.2 = [] then (joinL [32] (st.1.map capL) ++ if st.1 = [] then [] else [32]) else joinL [32] ((st.1 ++ [st.2]).map capL)
theorem capL_snoc (w : List Nat) (c : Nat) : capL (w ++ [c]) = capL w ++ [if w = [] then upC c else lowC c] := by
  cases w with
  | nil => rfl
  | cons a r => simp [capL]
theorem capJ_space {ws : List (List Nat)} {wd : List Nat} {c : Nat} (hc : sp c = true) : capJ (wstep (ws, wd) c) = if wd = [] then capJ (ws, wd) else capJ (ws, wd) ++ [32] := by
  have hc' : (c == 32 || c == 9) = true := hc
  unfold wstep
  rw [if_pos hc']
  by_cases q : wd = []
  · subst q; simp
  · rw [if_neg q, if_neg q]
    unfold capJ
    simp [q]
theorem capJ_sign {ws : List (List Nat)} {wd : List Nat} {c : Nat} (hc : ¬ sp c = true) : capJ (wstep (ws, wd) c) = capJ (ws, wd) ++ [if wd = [] then upC c else lowC c] := by
  have hc' : ¬ (c == 32 || c == 9) = true := hc
  unfold wstep
  rw [if_neg hc']
  unfold capJ
  rw [if_neg (by simp)]
  by_cases q : wd = []
  · subst q
    simp only [if_true, List.nil_append, List.map_append]
    have e : [[c]].map capL = [[upC c]] := rfl
    rw [e, joinL_snoc]
    by_cases z : ws = []
    · subst z; simp [joinL]
    · rw [if_neg (by simpa using z), if_neg z]
  · simp only [if_neg q, List.map_append]
    have e : [wd ++ [c]].map capL = [capL wd ++ [lowC c]] := by simp [capL_snoc, q]
    have e' : [wd].map capL = [capL wd] := rfl
    rw [e, e', joinL_snoc, joinL_snoc]
    split <;> simp
theorem snoc_inj {a b : List Nat} {x y : Nat} : a ++ [x] = b ++ [y] ↔ a = b ∧ x = y := by
  constructor
  · intro e
    obtain ⟨h1, h2⟩ := List.append_inj' e rfl
    exact ⟨h1, by simpa using h2⟩
  · rintro ⟨rfl, rfl⟩; rfl
theorem up_fix (c : Nat) : upC c = c ↔ (c == 97 || c == 98) = false := by
  unfold upC
  by_cases h1 : c = 97
  · subst h1; decide
  · by_cases h2 : c = 98
    · subst h2; decide
    · simp [h1, h2]
theorem low_fix (c : Nat) : lowC c = c ↔ (c == 65 || c == 66) = false := by
  unfold lowC
  by_cases h1 : c = 65
  · subst h1; decide
  · by_cases h2 : c = 66
    · subst h2; decide
    · simp [h1, h2]
theorem capJ_step {st : List (List Nat) × List Nat} {P : List Nat} {b c : Nat} (hl : (capJ st).length ≤ P.length) (hb : b = 32 ↔ st.2 = []) : (capJ (wstep st c)).length ≤ (P ++ [c]).length ∧ (capJ (wstep st c) = P ++ [c] ↔ capJ st = P ∧ okc true 32 b c = true) := by
  obtain ⟨ws, wd⟩ := st
  simp only at hb
  by_cases hc : sp c = true
  · rw [capJ_space hc]
    have hc2 : c = 32 ∨ c = 9 := by simpa [sp] using hc
    by_cases q : wd = []
    · rw [if_pos q]
      refine ⟨by simp; omega, ⟨fun e => ?_, fun e => ?_⟩⟩
      · have := congrArg List.length e; simp at this; omega
      · have hb32 := hb.mpr q
        subst hb32
        exfalso
        have := e.2
        rcases hc2 with rfl | rfl <;> simp [okc] at this
    · rw [if_neg q]
      have hb32 : b ≠ 32 := fun z => q (hb.mp z)
      refine ⟨by simp; omega, ?_⟩
      rw [snoc_inj]
      rcases hc2 with rfl | rfl
      · simp [okc, hb32]
      · simp [okc]
  · rw [capJ_sign hc]
    have hc2 : c ≠ 32 ∧ c ≠ 9 := by simpa [sp] using hc
    refine ⟨by simp; omega, ?_⟩
    rw [snoc_inj]
    by_cases q : wd = []
    · rw [if_pos q, up_fix]
      have hb32 := hb.mpr q
      subst hb32
      simp [okc, hc2.1, hc2.2]
    · rw [if_neg q, low_fix]
      have hb32 : b ≠ 32 := fun z => q (hb.mp z)
      simp [okc, hc2.1, hc2.2, hb32]
theorem capJ_run : ∀ (cs : List Nat) (st : List (List Nat) × List Nat) (P : List Nat) (b : Nat), (capJ st).length ≤ P.length → (b = 32 ↔ st.2 = []) →
    (capJ (cs.foldl wstep st)).length ≤ (P ++ cs).length ∧ (capJ (cs.foldl wstep st) = P ++ cs ↔ capJ st = P ∧ (runT true 32 b cs).isSome = true) ∧ ∀ b', runT true 32 b cs = some b' → (b' = 32 ↔ (cs.foldl wstep st).2 = [])
  | [], st, P, b, hl, hb => by
    refine ⟨by simpa using hl, by simp [runT], fun b' e => ?_⟩
    have : b = b' := by simpa [runT] using e
    subst this; exact hb
  | c :: cs, st, P, b, hl, hb => by
    obtain ⟨h1, h2⟩ := capJ_step (c := c) hl hb
    rw [List.foldl_cons]
    have e : P ++ c :: cs = (P ++ [c]) ++ cs := by simp
    rw [e]
    by_cases hok : okc true 32 b c = true
    · have hb' : c = 32 ↔ (wstep st c).2 = [] := by
        unfold wstep
        by_cases hc : (c == 32 || c == 9) = true
        · rw [if_pos hc]
          have hc2 : c = 32 ∨ c = 9 := by simpa using hc
          have hc9 : c ≠ 9 := by
            rintro rfl
            simp [okc] at hok
          have : c = 32 := by omega
          subst this
          by_cases q : st.2 = []
          · rw [if_pos q]; simp [q]
          · rw [if_neg q]; simp
        · rw [if_neg hc]
          have hc2 : c ≠ 32 ∧ c ≠ 9 := by simpa using hc
          simp [hc2.1]
      obtain ⟨g1, g2, g3⟩ := capJ_run cs (wstep st c) (P ++ [c]) c h1 hb'
      refine ⟨g1, ?_, ?_⟩
      · rw [g2, h2]
        simp only [runT, hok, if_true]
        constructor
        · rintro ⟨⟨a, _⟩, d⟩; exact ⟨a, d⟩
        · rintro ⟨a, d⟩; exact ⟨⟨a, trivial⟩, d⟩
      · intro b' hr
        simp only [runT, hok, if_true] at hr
        exact g3 b' hr
    · have key : ∀ (cs : List Nat) (st' : List (List Nat) × List Nat) (P' : List Nat), (capJ st').length ≤ P'.length → capJ st' ≠ P' → (capJ (cs.foldl wstep st')).length ≤ (P' ++ cs).length ∧ capJ (cs.foldl wstep st') ≠ P' ++ cs := by
        intro cs
        induction cs with
        | nil => intro st' P' a b; simpa using ⟨a, b⟩
        | cons d ds ih =>
          intro st' P' a b
          rw [List.foldl_cons]
          have e : P' ++ d :: ds = (P' ++ [d]) ++ ds := by simp
          rw [e]
          obtain ⟨k1, k2⟩ := capJ_step (st := st') (P := P') (b := if st'.2 = [] then 32 else 0) (c := d) a (by split <;> simp_all)
          exact ih _ _ k1 (fun z => b (k2.mp z).1)
      have hne : capJ (wstep st c) ≠ P ++ [c] := fun z => hok (h2.mp z).2
      obtain ⟨g1, g2⟩ := key cs (wstep st c) (P ++ [c]) h1 hne
      refine ⟨g1, ?_, ?_⟩
      · constructor
        · intro z; exact absurd z g2
        · intro z; have := z.2; simp [runT, hok] at this
      · intro b' hr; simp [runT, hok] at hr
theorem titled_none (t : List Nat) : titledL none t = true ↔ capwL t none = t := by
  obtain ⟨g1, g2, g3⟩ := capJ_run t ([], []) [] 32 (by simp [capJ, joinL]) (by simp)
  have h0 : capJ ([], []) = [] := rfl
  rw [List.nil_append] at g1 g2
  rw [h0] at g2
  have hcap : capwL t none = joinL [32] ((wfin (t.foldl wstep ([], []))).map capL) := rfl
  rw [hcap]
  unfold titledL
  show (match runT true 32 32 t with | none => false | some b => false || (t == [] || b != 32)) = true ↔ _
  generalize hst : t.foldl wstep ([], []) = st at g1 g2 g3
  obtain ⟨ws, wd⟩ := st
  by_cases q : wd = []
  · subst q
    have e1 : wfin (ws, []) = ws := by simp [wfin]
    rw [e1]
    by_cases z : ws = []
    · subst z
      have e2 : capJ (([] : List (List Nat)), []) = [] := rfl
      rw [e2] at g2
      have e3 : joinL [32] (([] : List (List Nat)).map capL) = [] := rfl
      rw [e3]
      cases t with
      | nil => simp [runT]
      | cons c cs =>
        have hno : ¬ (runT true 32 32 (c :: cs)).isSome = true := fun h => by
          have := g2.mpr ⟨rfl, h⟩
          cases this
        cases hr : runT true 32 32 (c :: cs) with
        | none => simp
        | some b => rw [hr] at hno; simp at hno
    · have e2 : capJ (ws, []) = joinL [32] (ws.map capL) ++ [32] := by simp [capJ, z]
      rw [e2] at g1 g2
      have hne : joinL [32] (ws.map capL) ≠ t := fun e => by
        rw [e] at g1; simp at g1; omega
      constructor
      · intro h
        exfalso
        cases hr : runT true 32 32 t with
        | none => rw [hr] at h; cases h
        | some b =>
          rw [hr] at h
          have hb := (g3 b hr).mpr rfl
          subst hb
          have ht : t = [] := by simpa using h
          subst ht
          cases hst
          exact z rfl
      · intro e; exact absurd e hne
  · have e1 : wfin (ws, wd) = ws ++ [wd] := by simp [wfin, q]
    have e2 : capJ (ws, wd) = joinL [32] ((ws ++ [wd]).map capL) := by simp [capJ, q]
    rw [e1, ← e2]
    constructor
    · intro h
      cases hr : runT true 32 32 t with
      | none => rw [hr] at h; cases h
      | some b => exact g2.mpr ⟨rfl, by rw [hr]; rfl⟩
    · intro e
      obtain ⟨_, hs⟩ := g2.mp e
      cases hr : runT true 32 32 t with
      | none => rw [hr] at hs; cases hs
      | some b =>
        have hb : b ≠ 32 := fun z => q ((g3 b hr).mp z)
        simp [hb]

def goS (c0 : Nat) : Bool → List Nat → List Nat
  | _, [] => []
  | st, c :: cs => if c = c0 then c0 :: goS c0 true cs else (if st = true then upC c else lowC c) :: goS c0 false cs
theorem join_spl (c0 : Nat) : ∀ (n : Nat) (w cs : List Nat), cs.length ≤ n → joinL [c0] ((spl [c0] n w cs).map capL) = capL w ++ goS c0 (decide (w = [])) cs
  | 0, w, cs, h => by
    obtain rfl : cs = [] := List.eq_nil_of_length_eq_zero (by omega)
    simp [spl, joinL, goS]
  | n + 1, w, [], _ => by simp [spl, joinL, goS]
  | n + 1, w, c :: cs, h => by
    have h' : cs.length ≤ n := by simpa using h
    unfold spl
    by_cases q : c = c0
    · subst q
      rw [if_pos (by simp)]
      obtain ⟨p, r, e⟩ := spl_ne [c] n [] ((c :: cs).drop [c].length)
      have ih := join_spl c n [] cs h'
      have e2 : (c :: cs).drop [c].length = cs := rfl
      rw [e2] at e ⊢
      rw [e] at ih ⊢
      show capL w ++ [c] ++ joinL [c] ((p :: r).map capL) = _
      rw [ih]
      simp [goS, capL]
    · rw [if_neg (by simpa using q), join_spl c0 n (w ++ [c]) cs h', capL_snoc]
      have e : decide (w ++ [c] = []) = false := by simp
      rw [e]
      simp only [goS, if_neg q, List.append_assoc, List.singleton_append]
      by_cases z : w = [] <;> simp [z]
theorem run_goS {c0 : Nat} (hc0 : c0 ∈ [49, 32, 9, 45]) : ∀ (cs : List Nat) (b : Nat), (runT false c0 b cs).isSome = true ↔ goS c0 (decide (b = c0)) cs = cs
  | [], b => by simp [runT, goS]
  | c :: cs, b => by
    by_cases q : c = c0
    · subst q
      have hok : okc false c b c = true := by
        have : ∀ c ∈ [49, 32, 9, 45], (c == 97 || c == 98) = false ∧ (c == 65 || c == 66) = false := by decide
        obtain ⟨k1, k2⟩ := this c hc0
        simp only [okc, k1, k2]; simp
      have := run_goS hc0 cs c
      simp only [runT, hok, if_true, goS]
      rw [this]; simp
    · have ih := run_goS hc0 cs c
      have ed : decide (c = c0) = false := by simpa using q
      rw [ed] at ih
      simp only [goS, if_neg q, runT]
      by_cases z : b = c0
      · subst z
        simp only [decide_true, if_true, List.cons.injEq, up_fix]
        by_cases k : (c == 97 || c == 98) = false
        · have hok : okc false b b c = true := by simp only [okc, k]; simp
          rw [if_pos hok, ih]; simp [k]
        · have hok : ¬ okc false b b c = true := by
            have k' : (c == 97 || c == 98) = true := by
              cases z : (c == 97 || c == 98) with
              | true => rfl
              | false => exact absurd z k
            simp only [okc, k']; simp
          rw [if_neg hok]; simp [k]
      · have ez : decide (b = c0) = false := by simpa using z
        have ebz : (b == c0) = false := by simpa using z
        simp only [ez, Bool.false_eq_true, if_false, List.cons.injEq, low_fix]
        by_cases k : (c == 65 || c == 66) = false
        · have hok : okc false c0 b c = true := by simp only [okc, k, ebz]; simp
          rw [if_pos hok, ih]; simp [k]
        · have hok : ¬ okc false c0 b c = true := by
            have k' : (c == 65 || c == 66) = true := by
              cases z : (c == 65 || c == 66) with
              | true => rfl
              | false => exact absurd z k
            simp only [okc, k']; simp [z]
          rw [if_neg hok]; simp [k]
/-- one sign -/
def MkOne (mk : Option (List Nat)) : Prop := ∀ m, mk = some m → ∃ c0, m = [c0] ∧ c0 ∈ [49, 32, 9, 45]
theorem titled_iff {mk : Option (List Nat)} (h : MkOne mk) (t : List Nat) : titledL mk t = true ↔ capwL t mk = t := by
  cases mk with
  | none => exact titled_none t
  | some m =>
    obtain ⟨c0, rfl, hc0⟩ := h m rfl
    have hcap : capwL t (some [c0]) = joinL [c0] ((spl [c0] t.length [] t).map capL) := rfl
    rw [hcap, join_spl c0 t.length [] t (Nat.le_refl _)]
    have hr := run_goS hc0 t c0
    simp only [decide_true] at hr
    show (match runT false c0 c0 t with | none => false | some b => true || (t == [] || b != 32)) = true ↔ _
    have e : capL [] ++ goS c0 (decide (([] : List Nat) = [])) t = goS c0 true t := by simp [capL]
    rw [e, ← hr]
    cases runT false c0 c0 t <;> simp
end Mine
namespace Mine
def sgn8 (n : Int) : Nat := abc[(n.fmod 8).toNat]?.getD 0
theorem fmod8 (n : Int) : 0 ≤ n.fmod 8 ∧ n.fmod 8 < 8 := by
  rw [Int.fmod_eq_emod_of_nonneg n (by omega)]
  exact ⟨Int.emod_nonneg _ (by omega), Int.emod_lt_of_pos _ (by omega)⟩
theorem sgn8_at (n : Int) : abc[(n.fmod 8).toNat]? = some (sgn8 n) := by
  obtain ⟨h1, h2⟩ := fmod8 n
  unfold sgn8
  have : (n.fmod 8).toNat < abc.length := by show _ < 8; omega
  rw [List.getElem?_eq_getElem this]; rfl
theorem sgn8_abc (n : Int) : sgn8 n ∈ abc := List.mem_of_getElem? (sgn8_at n)
theorem join_one : ∀ l : List Nat, joinL [] (l.map fun c => [c]) = l
  | [] => rfl
  | [c] => rfl
  | c :: d :: r => by
    show [c] ++ [] ++ joinL [] ((d :: r).map fun c => [c]) = _
    rw [join_one (d :: r)]; rfl
theorem sum_one {α : Type} : ∀ l : List α, (l.map fun _ => (1 : Nat)).sum = l.length
  | [] => rfl
  | _ :: r => by rw [List.map_cons, List.sum_cons, sum_one r, List.length_cons]; omega
def elInt (f : Int → D) : D → D
  | .int n => f n
  | d => d
def elStr (f : Str → D) : D → D
  | .str x => f x
  | d => d
def lowS (x : Str) : Str := if x = "A" then "a" else if x = "B" then "b" else x
def upS (x : Str) : Str := if x = "a" then "A" else if x = "b" then "B" else x
theorem St1_iff (c d : Nat) : St [c] = St [d] ↔ c = d := ⟨fun h => by have := St_inj h; simpa using this, fun h => by rw [h]⟩
theorem lowS_one (c : Nat) : lowS (St [c]) = St [lowC c] := by
  unfold lowS lowC
  rw [show ("A" : Str) = St [65] from rfl, show ("B" : Str) = St [66] from rfl, show ("a" : Str) = St [97] from rfl, show ("b" : Str) = St [98] from rfl]
  simp only [St1_iff]
  by_cases h1 : c = 65
  · simp [h1]
  · by_cases h2 : c = 66 <;> simp [h1, h2]
theorem upS_one (c : Nat) : upS (St [c]) = St [upC c] := by
  unfold upS upC
  rw [show ("A" : Str) = St [65] from rfl, show ("B" : Str) = St [66] from rfl, show ("a" : Str) = St [97] from rfl, show ("b" : Str) = St [98] from rfl]
  simp only [St1_iff]
  by_cases h1 : c = 97
  · simp [h1]
  · by_cases h2 : c = 98 <;> simp [h1, h2]
theorem upS_nil : upS (St []) = St [] := by
  unfold upS
  rw [if_neg (fun h => by have := St_inj (b := [97]) h; simp at this), if_neg (fun h => by have := St_inj (b := [98]) h; simp at this)]
theorem cut_take {α : Type} (xs : List α) (k : Nat) : cut xs none (some (k : Int)) = xs.take k := by
  unfold cut
  simp only [Option.elim, List.drop_zero, Nat.sub_zero]
  have := clipAt_cast xs.length (k : Int)
  have e : clipAt xs.length (k : Int) = min k xs.length := by omega
  rw [e]
  rcases Nat.le_total k xs.length with h | h
  · rw [Nat.min_eq_left h]
  · rw [Nat.min_eq_right h, List.take_length, List.take_of_length_le h]
theorem cut_drop {α : Type} (xs : List α) (k : Nat) : cut xs (some (k : Int)) none = xs.drop k := by
  unfold cut
  simp only [Option.elim]
  have := clipAt_cast xs.length (k : Int)
  have e : clipAt xs.length (k : Int) = min k xs.length := by omega
  rw [e]
  rcases Nat.le_total k xs.length with h | h
  · rw [Nat.min_eq_left h]
    exact List.take_of_length_le (by simp)
  · rw [Nat.min_eq_right h, List.drop_length, List.drop_of_length_le h]; simp

theorem join_St1 (g : Nat → Nat) (l : List Nat) : Txt.join "" (l.map fun c => St [g c]) = St (l.map g) := by
  have := join_St [] ((l.map g).map fun c => [c])
  rw [join_one] at this
  rw [← this, List.map_map, List.map_map]; rfl
theorem sum_St1 (g : Nat → Nat) (l : List Nat) : ((l.map fun c => St [g c]).map (·.length)).sum + (l.map fun c => St [g c]).length * ("" : Str).length = l.length := by
  rw [List.map_map, List.length_map]
  have : ((fun x : Str => x.length) ∘ fun c => St [g c]) = fun _ => 1 := by funext n; rfl
  rw [this, sum_one]
  show l.length + l.length * 0 = _
  omega
theorem sgn_St (l : List Nat) : sgn (St l) = l.map fun c => D.str (St [c]) := by unfold sgn; rw [St_list]; rfl
theorem EvE.ssl {prog : Program} {w : World} {A : Around} {env : Env} {h : Heap} {v : Expr} {lo hi : Option Expr} {p pos : Pos} {x l' : List Nat} {l u : Option Int} (hv : EvE (model prog w) A env v (.str (St x)) h) (hl : EvP (model prog w) A env lo l h) (hu : EvP (model prog w) A env hi u h)
    (hz : x.length ≤ 100000) (e : cut x l u = l') (ht : ∀ o r, letTemporaryGo v o r = pure () := by intro o r; cases o <;> rfl) : EvE (model prog w) A env (.Subscript v (.Slice lo hi .none p) pos) (.str (St l')) h := by
  have := EvE.strslice (p := p) (pos := pos) hv hl hu (by rw [St_len, sizeLine_eq]; omega) ht
  rw [St_list, e] at this
  exact this
end Mine
namespace Mine
/-- what is no frame's store and no iterator of late stands -/
theorem D.At.but2 {h h' : Heap} {L I : Addr} {m : Str → Option Value} (hL : h.Ns L m) (hI : h.get? I = none) (k : ∀ b o, b ≠ L → b ≠ I → h.get? b = some o → h'.get? b = some o) {d : D} {v : Value} (x : d.At v h) : d.At v h' := by
  obtain ⟨oL, es, ep, hoL, hdL, _⟩ := hL
  have key : ∀ {l : Addr} {o : Obj} {it : Array Value} {n : Nat}, h.get? l = some o → o.data = .seq it n → h'.get? l = some o := fun {l o it n} ho hd => k l o
    (fun q => by subst q; rw [hoL] at ho; cases ho; rw [hdL] at hd; cases hd) (fun q => by subst q; rw [hI] at ho; cases ho) ho
  cases d with
  | val w => exact x
  | str y => exact x
  | int i => exact x
  | lstr xs => obtain ⟨l, vs, e, ⟨o, ho, hcl, n, hd⟩, b⟩ := x; exact ⟨l, vs, e, ⟨o, key ho hd, hcl, n, hd⟩, b⟩
  | lint xs => obtain ⟨l, vs, e, ⟨o, ho, hcl, n, hd⟩, b⟩ := x; exact ⟨l, vs, e, ⟨o, key ho hd, hcl, n, hd⟩, b⟩
  | tstr xs => obtain ⟨l, vs, e, ⟨o, ho, hcl, n, hd⟩, b⟩ := x; exact ⟨l, vs, e, ⟨o, key ho hd, hcl, n, hd⟩, b⟩
  | pl T xs => obtain ⟨l, vs, n, sl, e, ho, b⟩ := x; exact ⟨l, vs, n, sl, e, key ho rfl, b⟩

theorem LocC.assignComp {prog : Program} {w : World} {A : Around} {env : Env} {s₀ s : Shared} {L : Addr} {cs : List (Str × Addr)} {Γ Δ : List (Str × D)} {loc cel glob : List Str} {E : Value → Shared → Prop} {Q : Flow → Shared → Prop}
    (X : LocC s₀ L cs Γ Δ s) (P : PlC env L cs loc cel glob) {elt iter : Expr} {x y : Str} {px py : Pos} {ifs : List Expr} {scope : Scope} {cl : List (Str × Addr)} {pos spos : Pos} {out : D} {items : List D} (p : D → Bool) (f : D → D)
    (hh : A.handled = none) (hclos : closureFor scope env = pure cl) (hcell : ∀ y ∈ scope.names, y.2 ≠ .cell) (hkind : scope.kind = .function)
    (hnames : ∀ y ∈ scope.names, y.2 = .local → scope.names.lookup y.1 = some .local) (hx : scope.names.lookup x = some .local)
    (he : ∀ s', s.heap.StaysIn s'.heap → Ev (model prog w) A (eval iter env) (fun v h' => Src prog w items v h') s') (hz : items.length ≤ sizeLine) (hfs : ∀ a ∈ items, p a = true → (f a).si = true)
    (htest : ∀ a C h₃, a ∈ items → s.heap.StaysIn h₃ → Nm (model prog w) A (compEnvC scope cl C env) x a h₃ → Tests (model prog w) A (compEnvC scope cl C env) ifs (p a) h₃)
    (helt : ∀ a C h₃, a ∈ items → p a = true → s.heap.StaysIn h₃ → Nm (model prog w) A (compEnvC scope cl C env) x a h₃ → EvE (model prog w) A (compEnvC scope cl C env) elt (f a) h₃)
    (hout : ∀ l vs h', h'.IsList l (List.toArray vs) → h'.PlainList l (List.toArray vs) → vs.map ofV = (items.filter p).map f → out.At (.ref l) h')
    (hq : ∀ s', LocC s₀ L cs ((y, out) :: Γ) Δ s' → Q .next s') (hl : loc.contains y = true := by decide)
    (hsw : swapsWith (.ListComp elt [⟨.Name x px, iter, ifs, 0⟩] scope pos) (some (.Name y py)) spos.line env = pure true := by rfl)
    (hs : ∀ x, foldedSetIterable iter env x = pure x := by intro _; rfl) : wpAny (model prog w) A (exec (.Assign [.Name y py] (.ListComp elt [⟨.Name x px, iter, ifs, 0⟩] scope pos) spos) env) Q E s := by
  have hL := P.hL
  refine wpAny_Assign_ListComp_free (fun v => p (ofV v)) (fun v y => ofV y = f (ofV v)) hsw hclos hcell hkind hnames hx (P.l y (by simpa using hl)) (by rw [P.hk]; rfl)
    ((he s (stays_refl _)).go fun xv s₁ k₁ hv => hv.it A s₁ _ _ hh (stays_refl _) fun I fp Pp St s₂ k₂ hI W hSt hfp hfd hP => ?_) hs
  have X₁ := X.kp k₁
  have X₂ := X₁.kp k₂
  obtain ⟨⟨m, n, T⟩, cl1, un1, ap, fr, K1, nL, hs1, ts1, e1⟩ := X₁
  have hLI : L ≠ I := by
    rintro rfl
    obtain ⟨o, _, _, ho, _⟩ := n
    rw [hI] at ho; cases ho
  subst hL
  refine ⟨I, fp, [I], items.length, Pp, St, m, rfl, W, hz, hSt, hfp, by simpa using hLI, n.keeps k₂.stays, comp_parts p f hkind hx hfs htest helt k₁.stays k₂ hI hP, fun D h' tk ys vs hD hls hpl hlen hPv hF hns hk => hq _ ?_⟩
  obtain ⟨q1, q2⟩ := comp_items (p := p) hP hlen hPv
  have q3 := paired_map (p := fun v => p (ofV v)) hF
  rw [q2] at q3
  have kk : ∀ b o, b ≠ env.locals → b ≠ I → s₁.heap.get? b = some o → h'.get? b = some o := fun b o h1 h2 eb => hk b o h1 (by simpa using h2) (k₂.stays b o eb)
  have kc : ∀ x c, cs.lookup x = some c → ∀ ov, s₁.heap.IsCell c ov → h'.IsCell c ov := fun x c ec ov ⟨o, ho, hd⟩ => ⟨o, kk c o (fr x c ec).1 (fun z => by rw [z, hI] at ho; cases ho) ho, hd⟩
  obtain ⟨h2, t2, e2, _⟩ := k₂
  refine ⟨⟨_, hns, fun z d e => ?_⟩, fun z d e => ?_, fun z c e => ?_, ap, fr, fun b o eb => kk b o (fun z => by rw [z, nL] at eb; cases eb) (fun z => by have := K1 b o eb; rw [z, hI] at this; cases this) (K1 b o eb), nL, h', tk, by rw [e2, e1]⟩
  · by_cases q : z = y
    · subst q
      simp only [List.lookup, BEq.rfl, Option.some.injEq] at e
      subst e
      exact ⟨_, by simp, hout D ys.toList h' (by simpa using hls) (by simpa using hpl) q3⟩
    · have q' : (z == y) = false := by simpa using q
      simp only [List.lookup, q'] at e
      obtain ⟨u, a, b⟩ := T z d e
      exact ⟨u, by simp [q, a], b.but2 n hI kk⟩
  · obtain ⟨c, u, a, b, g⟩ := cl1 z d e
    exact ⟨c, u, a, kc z c a _ b, g.but2 n hI kk⟩
  · obtain ⟨ov, b⟩ := un1 z c e
    exact ⟨ov, kc z c e _ b⟩
end Mine
namespace Mine
theorem LocC.less {s₀ s : Shared} {L : Addr} {cs : List (Str × Addr)} {Γ Δ Γ' Δ' : List (Str × D)} (X : LocC s₀ L cs Γ Δ s) (k : ∀ x d, Γ'.lookup x = some d → Γ.lookup x = some d) (k' : ∀ x d, Δ'.lookup x = some d → Δ.lookup x = some d) : LocC s₀ L cs Γ' Δ' s := by
  obtain ⟨⟨m, n, T⟩, cl, un, ap, fr, K, nL, sm⟩ := X
  exact ⟨⟨m, n, fun x d e => T x d (k x d e)⟩, fun x d e => cl x d (k' x d e), un, ap, fr, K, nL, sm⟩
theorem LocC.less' {s₀ s : Shared} {L : Addr} {cs : List (Str × Addr)} {Γ Δ Γ' Δ' : List (Str × D)} (X : LocC s₀ L cs Γ Δ s) (k : ∀ p ∈ Γ', Γ.lookup p.1 = some p.2) (k' : ∀ p ∈ Δ', Δ.lookup p.1 = some p.2) : LocC s₀ L cs Γ' Δ' s :=
  X.less (fun x d e => k (x, d) (mem_of_lookup e)) (fun x d e => k' (x, d) (mem_of_lookup e))
section
variable {prog : Program} {w : World} {A : Around} {env : Env} {h : Heap} {s : Shared}
theorem op_ne_ints {xs ys : List Int} {a b : Value} {s : Shared} (hu : A.units < cLine) (ha : (D.lint xs).At a s.heap) (hb : (D.lint ys).At b s.heap) : Ev (model prog w) A (compareOp .NotEq a b) (D.val (.bool (xs != ys))).At s := by
  obtain ⟨l, vs, rfl, hl, hi⟩ := ha; obtain ⟨l', ws, rfl, hl', hi'⟩ := hb
  by_cases hsz : vs.length = ws.length
  · have e : (xs != ys) = !(List.range vs.toArray.size).all (fun j => xs[j]? == ys[j]?) := by
      rw [List.size_toArray]
      have h1 := hi.length
      have h2 := hi'.length
      by_cases q : xs = ys
      · subst q; simp
      · have : (xs != ys) = true := by simpa using q
        rw [this]
        symm
        simp only [Bool.not_eq_true', List.all_eq_false]
        apply Classical.byContradiction
        intro hn
        apply q
        apply List.ext_getElem?
        intro i
        by_cases hlt : i < vs.length
        · apply Classical.byContradiction
          intro hne
          exact hn ⟨i, List.mem_range.mpr hlt, by simpa using hne⟩
        · rw [List.getElem?_eq_none (by omega), List.getElem?_eq_none (by omega)]
    have := SeqAt.RcNeAt.lists (A := A) (e := fun j => xs[j]? == ys[j]?) hl hl' (by simpa using hsz) hu fun j h1 h2 => by
      have h1' : j < vs.length := by simpa using h1
      have h2' : j < ws.length := by simpa using h2
      obtain ⟨y, t, e1, e2⟩ := hi.at j vs[j] (by simp)
      obtain ⟨z, u, e3, e4⟩ := hi'.at j ws[j] (by simp)
      have := SeqAt.EqAt.int_int (A := A.in1) (s := s) y t z u
      simp only [List.getElem_toArray, e1, e2, e3, e4]
      simpa using this
    exact cmp_ofNotEq (this prog w _ _ ⟨Kp.refl _, by rw [e]; rfl⟩)
  · have := SeqAt.RcNeAt.lists_lengths (A := A) hl hl' (by simpa using hsz) hu
    refine cmp_ofNotEq (this prog w _ _ ⟨Kp.refl _, ?_⟩)
    have : (xs != ys) = true := by
      have h1 := hi.length
      have h2 := hi'.length
      simp only [bne_iff_ne, ne_eq]
      rintro rfl
      omega
    rw [this]; rfl
theorem Ev.tcall1 {T : String} {x : Str} {p pos : Pos} {a : Expr} {d : D} {P : Value → Heap → Prop} {s : Shared} (hf : Nm (model prog w) A env x (.val (.type T)) h) (ha : EvE (model prog w) A env a d h) (k : h.StaysIn s.heap)
    (hs : ∀ s v, h.StaysIn s.heap → d.At v s.heap → Ev (model prog w) A (call (.type T) [v]) P s) (hn : (x == ("__debug__" : Str)) = false := by decide)
    (he : starEach [a] env = (false, eval a env) :: starEach [] env := by rfl)
    (hc : eval (.Call (.Name x p) [a] [] pos) env = (do callWith pos (← eval (.Name x p) env) [] (backTo pos (starEach [a] env)) (backToKw pos (keywordEach [] env))) := by rfl) :
    Ev (model prog w) A (eval (.Call (.Name x p) [a] [] pos) env) P s :=
  Call_ ((EvE.name hf hn s k).go fun v s₁ k₁ hv => by
    obtain rfl : v = .type T := hv
    exact PyProof.Rows.callWith_type1 ((args1 ha he s₁ (stays_trans k k₁.stays)).go fun vs s₂ k₂ hvs => by
      obtain ⟨v, rfl, hv⟩ := hvs
      exact (hs s₂ v (stays_trans k (k₁.trans k₂).stays) hv).go fun u s₃ k₃ hu => ⟨(k₁.trans k₂).trans k₃, hu⟩) he) hc
/-- a range as an object -/
def RangeAt (n : Nat) (v : Value) (h : Heap) : Prop := ∃ r t u z, v = .ref r ∧ IsRange h r 0 n 1 t u z
theorem op_range_at {n : Nat} {v : Value} (hv : (D.int (n : Int)).At v s.heap) : Ev (model prog w) A (call (.type "range") [v]) (RangeAt n) s := by
  obtain ⟨t, rfl⟩ := hv
  exact call_range_1 ⟨Kp.mk (stays_push _), s.heap.objs.size, s.toks, t, s.toks + 1, rfl, Heap.get?_push_size _ rfl⟩
def upTo (ks : List Nat) : List Int := ks.map fun k : Nat => (k : Int)
theorem ints_range : ∀ (m b : Nat) (vs : List Value), vs.length = m → (∀ i v, vs[i]? = some v → ∃ t, v = Value.int ((b + i : Nat) : Int) t) → IntsAre vs (upTo (List.range' b m))
  | 0, b, vs, hl, _ => by
    obtain rfl := List.eq_nil_of_length_eq_zero hl
    exact .nil
  | m + 1, b, [], hl, _ => by cases hl
  | m + 1, b, v :: vs, hl, hi => by
    obtain ⟨t, rfl⟩ := hi 0 v rfl
    have := ints_range m (b + 1) vs (by simpa using hl) fun i u hu => by
      obtain ⟨t, rfl⟩ := hi (i + 1) u (by simpa using hu)
      exact ⟨t, by rw [show b + (i + 1) = b + 1 + i by omega]⟩
    rw [List.range'_succ]
    exact .cons _ t this
theorem op_list_range {n : Nat} {v : Value} (hh : A.handled = none) (hz : n ≤ 100000) (hv : RangeAt n v s.heap) : Ev (model prog w) A (call (.type "list") [v]) (D.lint (upTo (List.range n))).At s := by
  obtain ⟨r, t, u, z, rfl, hr⟩ := hv
  refine call_list_range hh hr (small_one (by omega) (by omega) (by omega) (by omega)) (n := n) (by rw [rangeSize_pos (by omega) (by omega)]; omega) (by omega) fun h' tk acc c k ho hi => ?_
  refine ⟨Kp.mk k, _, acc.toList, rfl, ⟨_, ho, rfl, c, by simp⟩, ?_⟩
  rw [List.range_eq_range']
  exact ints_range n 0 acc.toList (by simpa using hi.1) fun i v e => by
    obtain ⟨t, e'⟩ := hi.2 i v (by simpa using e)
    exact ⟨t, by rw [e']; congr 1; omega⟩
theorem EvE.list_range {a : Expr} {x y : Str} {p q pos pos2 : Pos} {n : Nat} (hl : Nm (model prog w) A env x (.val (.type "list")) h) (hr : Nm (model prog w) A env y (.val (.type "range")) h) (ha : EvE (model prog w) A env a (.int (n : Int)) h)
    (hh : A.handled = none) (hz : n ≤ 100000) (hx : (x == ("__debug__" : Str)) = false := by decide) (hy : (y == ("__debug__" : Str)) = false := by decide)
    (he : starEach [a] env = (false, eval a env) :: starEach [] env := by rfl)
    (hc : eval (.Call (.Name y q) [a] [] pos2) env = (do callWith pos2 (← eval (.Name y q) env) [] (backTo pos2 (starEach [a] env)) (backToKw pos2 (keywordEach [] env))) := by rfl)
    (he2 : starEach [.Call (.Name y q) [a] [] pos2] env = (false, eval (.Call (.Name y q) [a] [] pos2) env) :: starEach [] env := by rfl)
    (hc2 : eval (.Call (.Name x p) [.Call (.Name y q) [a] [] pos2] [] pos) env = (do callWith pos (← eval (.Name x p) env) [] (backTo pos (starEach [.Call (.Name y q) [a] [] pos2] env)) (backToKw pos (keywordEach [] env))) := by rfl) :
    EvE (model prog w) A env (.Call (.Name x p) [.Call (.Name y q) [a] [] pos2] [] pos) (.lint (upTo (List.range n))) h := fun s k =>
  Call_ ((EvE.name hl hx s k).go fun v s₁ k₁ hv => by
    obtain rfl : v = .type "list" := hv
    refine PyProof.Rows.callWith_type1 (args_cons ((Ev.tcall1 hr ha (stays_trans k k₁.stays) (fun s v k hv => op_range_at hv) hy he hc).go fun v s₂ k₂ hv => args_nil ?_) he2) he2
    exact (op_list_range hh hz hv).go fun u s₃ k₃ hu => ⟨(k₁.trans k₂).trans k₃, hu⟩) hc2
end
/-- comprehensions over places -/
def pN (q : Nat → Bool) : D → Bool
  | .int k => q k.toNat
  | _ => false
def toD (g : Nat → Str) : D → D
  | .int k => .str (g k.toNat)
  | d => d
theorem pN_at (q : Nat → Bool) (k : Nat) : pN q (.int (k : Int)) = q k := rfl
theorem toD_at (g : Nat → Str) (k : Nat) : toD g (.int (k : Int)) = .str (g k) := rfl
theorem upTo_D (ks : List Nat) : (upTo ks).map D.int = ks.map fun k : Nat => D.int (k : Int) := by unfold upTo; rw [List.map_map]; rfl
theorem keep_places (q : Nat → Bool) (ks : List Nat) : (((upTo ks).map D.int).filter (pN q)).map id = (upTo (ks.filter q)).map D.int := by
  rw [upTo_D, upTo_D, List.map_id, List.filter_map]; rfl
theorem pick_places (g : Nat → Str) (ks : List Nat) : (((upTo ks).map D.int).filter (fun _ => true)).map (toD g) = (ks.map g).map D.str := by
  rw [upTo_D, List.filter_eq_self.mpr (fun _ _ => rfl), List.map_map, List.map_map]; rfl
/-- what a call of _filter leaves, against what the places leave -/
theorem drop_places {G R : Nat → Str} (h : ∀ j k, R j = R k ↔ G j = G k) (k0 : Nat) (ks : List Nat) : (ks.map G).filter (fits [G k0]) = (ks.filter fun k => R k != R k0).map G := by
  rw [List.filter_map]
  congr 1
  refine List.filter_congr fun k _ => ?_
  show (!([G k0].any (· == G k))) = _
  simp only [List.any_cons, List.any_nil, Bool.or_false]
  by_cases q : R k = R k0
  · rw [q, (h k k0).mp q]; simp
  · have q' : G k0 ≠ G k := fun z => q ((h k k0).mpr z.symm)
    rw [beq_false_of_ne q']
    simp [q]
end Mine
namespace Mine
def sgnAt (k : Nat) : Nat := abc[k % 8]?.getD 0
theorem sgnAt_at (k : Nat) : abc[k % 8]? = some (sgnAt k) := by
  unfold sgnAt
  have : k % 8 < abc.length := by show _ < 8; omega
  rw [List.getElem?_eq_getElem this]; rfl
def txtGo : Nat → Nat → List Nat → List Nat
  | 0, _, acc => acc
  | n + 1, left, acc => if left = 0 then acc else txtGo n ((left - 1) / 8) (sgnAt (left - 1) :: acc)
def txtOf (n : Int) : List Nat := txtGo 4681 (n.fmod 4681).toNat []
theorem txtGo_abc : ∀ (n left : Nat) (acc : List Nat), (∀ c ∈ acc, c ∈ abc) → ∀ c ∈ txtGo n left acc, c ∈ abc
  | 0, _, acc, h => h
  | n + 1, left, acc, h => by
    unfold txtGo
    split
    · exact h
    · refine txtGo_abc n _ _ fun c hc => ?_
      rcases List.mem_cons.mp hc with rfl | hc
      · exact List.mem_of_getElem? (sgnAt_at _)
      · exact h c hc
def bnd : Nat → Nat
  | 0 => 1
  | k + 1 => 8 * bnd k + 1
theorem txtGo_len : ∀ (k n left : Nat) (acc : List Nat), left < bnd k → (txtGo n left acc).length ≤ acc.length + k
  | k, 0, left, acc, _ => by unfold txtGo; omega
  | 0, n + 1, left, acc, h => by
    have : left = 0 := by have h' : left < 1 := h; omega
    subst this; unfold txtGo; simp
  | k + 1, n + 1, left, acc, h => by
    unfold txtGo
    split
    · omega
    · have h' : left < 8 * bnd k + 1 := h
      have := txtGo_len k n ((left - 1) / 8) (sgnAt (left - 1) :: acc) (by omega)
      simp only [List.length_cons] at this
      omega
theorem fmod4681 (n : Int) : 0 ≤ n.fmod 4681 ∧ n.fmod 4681 < 4681 := by
  rw [Int.fmod_eq_emod_of_nonneg n (by omega)]
  exact ⟨Int.emod_nonneg _ (by omega), Int.emod_lt_of_pos _ (by omega)⟩
theorem txtOf_abc (n : Int) : ∀ c ∈ txtOf n, c ∈ abc := txtGo_abc _ _ _ (by simp)
theorem txtOf_len (n : Int) : (txtOf n).length ≤ 4 := by
  have h := fmod4681 n
  have := txtGo_len 4 4681 (n.fmod 4681).toNat [] (by show _ < 4681; omega)
  show (txtGo 4681 (n.fmod 4681).toNat []).length ≤ 4
  simpa using this
theorem txtGo_zero (n : Nat) (acc : List Nat) : txtGo n 0 acc = acc := by cases n <;> simp [txtGo]
theorem nd7 : ∀ y ∈ (fScope (stAt 7)).names, y.2 ≠ .cell := by decide
section
variable {prog : Program} {w : World} {A : Around} {s : Shared} {fd : FuncData} {f : Addr}
set_option maxHeartbeats 4000000 in
theorem text2_spec {n : Int} {v : Value} (X : Fn s.heap f (FD (stAt 7) fd)) (hd : A.depth < recursionLimit) (hv : (D.int n).At v s.heap) :
    Ev (model prog w) A (call (.ref f) [v]) (D.str (St (txtOf n))).At s := by
  refine call_fn (Γ := [("number", .int n)]) X hd rfl (BindsTo.of_eq (binds := [("number", v)]) rfl) nd7 (by intro y hy; simp only [List.mem_singleton] at hy; subst hy; rfl) (Typ.look ⟨rfl, hv, True.intro⟩) (fun L s₁ hL X₁ => ?_) rfl rfl rfl
  have P : Pl (callEnv (FD (stAt 7) fd) L f) L ["number", "left", "text"] [] :=
    ⟨rfl, rfl, rfl, rfl, by simp only [List.forall_mem_cons, List.not_mem_nil, false_implies, implies_true, and_true]; exact ⟨rfl, rfl, rfl⟩, by simp⟩
  generalize callEnv (FD (stAt 7) fd) L f = env at P
  generalize A.deeper env = A'
  have hf := fmod4681 n
  refine execs_cons' (X₁.assign (x := "left") (d := .int (((n.fmod 4681).toNat : Nat) : Int)) (by rw [Int.toNat_of_nonneg hf.1]; exact EvE.bin (P.nm X₁ "number") EvE.cint fun s a b k ha hb => op_mod_int (by decide) ha hb) P.hL P.hk (P.l _ (by decide)) fun s₂ X₂ => ?_)
  refine execs_cons' (X₂.assign (x := "text") (d := .str (St [])) EvE.ctext P.hL P.hk (P.l _ (by decide)) fun s₃ X₃ => ?_)
  refine execs_cons' ?_
  refine exec_while (fun m s' => ∃ left acc fuel, m = left ∧ left ≤ fuel ∧ txtGo fuel left acc = txtOf n ∧ acc.length + left ≤ 4681 ∧ Loc s L [("text", .str (St acc)), ("left", .int ((left : Nat) : Int))] s') ?_ (n.fmod 4681).toNat ⟨_, [], 4681, rfl, by omega, rfl, by simp; omega, X₃.less (fun x d e => ?_)⟩
  · rintro left s₄ ⟨left', acc, fuel, e0, h1, h2, h3, X₄⟩
    subst e0
    refine ⟨_, EvT.cmp (P.nm X₄ "left") EvE.cint fun s a b k ha hb => op_gt_int ha hb, fun s₅ k₅ => ?_⟩
    have X₅ := X₄.kp k₅
    by_cases h0 : left = 0
    · subst h0
      rw [show decide ((0 : Int) < ((0 : Nat) : Int)) = false by decide]
      rw [txtGo_zero] at h2
      rw [← h2]
      refine execs_cons' (exec_ret (P.nm X₅ "text") fun v s' k' hv => ⟨v, rfl, (X₅.out hL).trans k', hv⟩)
    · rw [show decide ((0 : Int) < ((left : Nat) : Int)) = true by simp; omega]
      obtain ⟨fu, rfl⟩ : ∃ fu, fuel = fu + 1 := ⟨fuel - 1, by omega⟩
      rw [txtGo, if_neg h0] at h2
      have e1 : (left : Int) - 1 = ((left - 1 : Nat) : Int) := by omega
      have e2 : ((left - 1 : Nat) : Int).fmod 8 = (((left - 1) % 8 : Nat) : Int) := by rw [Int.fmod_eq_emod_of_nonneg _ (by omega)]; rfl
      have e3 : ((left - 1 : Nat) : Int).fdiv 8 = (((left - 1) / 8 : Nat) : Int) := by rw [Int.fdiv_eq_ediv_of_nonneg _ (by omega)]; rfl
      refine execs_cons' (X₅.assign (x := "text") (d := .str (St (sgnAt (left - 1) :: acc))) (EvE.bin (d₁ := .str (St [sgnAt (left - 1)])) (EvE.stritem EvE.ctext (i := (((left - 1) % 8 : Nat) : Int)) (by
          rw [← e2, ← e1]
          exact EvE.bin (EvE.bin (P.nm X₅ "left") EvE.cint fun s a b k ha hb => op_sub_int ha hb) EvE.cint fun s a b k ha hb => op_mod_int (by decide) ha hb) (by omega) (by rw [Int.toNat_natCast]; exact sgnAt_at _) (by decide)) (P.nm X₅ "text") fun s a b k ha hb => by
        rw [show St (sgnAt (left - 1) :: acc) = St [sgnAt (left - 1)] ++ St acc by rw [St_app]; rfl]
        exact op_add_str (by rw [St_len, St_len, sizeLine_eq]; simp; omega) ha hb) P.hL P.hk (P.l _ (by decide)) fun s₆ X₆ => ?_)
      have X₆' := X₆.upd (Γ' := [("text", .str (St (sgnAt (left - 1) :: acc))), ("left", .int ((left : Nat) : Int))])
      refine execs_cons' (X₆'.assign (x := "left") (d := .int (((left - 1) / 8 : Nat) : Int)) (by
          rw [← e3, ← e1]
          exact EvE.bin (EvE.bin (P.nm X₆' "left") EvE.cint fun s a b k ha hb => op_sub_int ha hb) EvE.cint fun s a b k ha hb => op_div_int (by decide) (PyProof.noPylong_small (by decide)) ha hb) P.hL P.hk (P.l _ (by decide)) fun s₇ X₇ => ?_)
      exact wpAny_execs_nil ⟨(left - 1) / 8, by omega, (left - 1) / 8, sgnAt (left - 1) :: acc, fu, rfl, by omega, h2, by simp; omega, X₇.upd⟩
  · revert e
    by_cases q : x = "text"
    · subst q; exact fun e => e
    · have q' : (x == "text") = false := by simpa using q
      by_cases r : x = "left"
      · subst r; exact fun e => e
      · have r' : (x == "left") = false := by simpa using r
        simp [List.lookup, q', r']
end
end Mine
namespace Mine
section
variable {prog : Program} {w : World} {A : Around} {env : Env} {h : Heap} {s : Shared}
theorem EvE.neg1 {k : Nat} {p pos : Pos} : EvE (model prog w) A env (.UnaryOp .USub (.Constant (.int 1) k p) pos) (.int (-1)) h := fun s q =>
  UnaryOp_ (wpAny_Constant_int (PyProof.Rows.neg_int ⟨(Kp.toks _).trans (Kp.toks _), _, rfl⟩))
theorem Ats.strs {h : Heap} : ∀ {xs : List Str} {vs : List Value}, Ats h (xs.map .str) vs → StrsAre vs xs
  | [], [], _ => .nil
  | [], _ :: _, a => a.elim
  | _ :: _, [], a => a.elim
  | x :: xs, v :: vs, ⟨a, b⟩ => by
    obtain ⟨t, rfl⟩ := a
    exact .cons x t (Ats.strs b)
theorem EvE.tuple {es : List Expr} {xs : List Str} {k : Nat} {lp : Pos} (hes : EvA (model prog w) A env es (xs.map .str) h) (hz : xs.length ≤ 1000) : EvE (model prog w) A env (.Tuple es k lp) (.tstr xs) h := fun s q =>
  wpAny_Tuple ((hes lp s q).go fun vs s₁ k₁ hvs => by
    have hi := hvs.strs
    refine ⟨by rw [hi.len_eq, sizeLine_eq]; omega, k₁.trans (Kp.mk0 (stays_push _)), _, vs, rfl, ⟨_, Heap.get?_push_size _ rfl, rfl, 0, rfl⟩, hi⟩)
theorem EvE.lstrs {es : List Expr} {xs : List Str} {lp : Pos} (hes : EvA (model prog w) A env es (xs.map .str) h) (hz : xs.length ≤ 1000) : EvE (model prog w) A env (.List es lp) (.pl "list" xs) h := fun s q =>
  wpAny_List ((hes lp s q).go fun vs s₁ k₁ hvs => by
    have hi := hvs.strs
    refine ⟨by rw [hi.len_eq, sizeLine_eq]; omega, k₁.trans (Kp.mk0 (stays_push _)), _, vs, 0, #[], rfl, Heap.get?_push_size _ rfl, hi⟩)
theorem op_notin_tup {x : Str} {ys : List Str} {a b : Value} (ha : (D.str x).At a s.heap) (hb : (D.tstr ys).At b s.heap) : Ev (model prog w) A (compareOp .NotIn a b) (D.val (.bool (!ys.any (· == x)))).At s := by
  obtain ⟨t, rfl⟩ := ha
  obtain ⟨l, vs, rfl, hl, hi⟩ := hb
  exact notin_tuple_strs hl (by simpa using hi) ⟨Kp.refl _, rfl⟩
end
def rst (n : Bool) (acc : List Nat) (c : Nat) : List Nat := if (n && sp c) = true then (if acc = [] ∨ acc.getLast? = some 32 then acc else acc ++ [32]) else acc ++ [lowC c]
theorem rst_none (l acc : List Nat) : l.foldl (rst true) acc = l.foldl rstep acc := by
  have : rst true = rstep := by funext a c; unfold rst rstep; simp
  rw [this]
theorem rst_some : ∀ (l acc : List Nat), l.foldl (rst false) acc = acc ++ l.map lowC
  | [], acc => by simp
  | c :: r, acc => by
    rw [List.foldl_cons, rst_some r]
    have : rst false acc c = acc ++ [lowC c] := by unfold rst; simp
    rw [this]; simp
theorem rst_len (n : Bool) : ∀ (l acc : List Nat), (l.foldl (rst n) acc).length ≤ acc.length + l.length
  | [], acc => by simp
  | c :: r, acc => by
    rw [List.foldl_cons]
    have := rst_len n r (rst n acc c)
    have h1 : (rst n acc c).length ≤ acc.length + 1 := by
      unfold rst
      split
      · split <;> simp
      · simp
    simp only [List.length_cons]; omega
theorem readL_eq (mk : Option (List Nat)) (l : List Nat) : readL mk l = if (mk.isNone = true ∧ (l.foldl (rst mk.isNone) []).getLast? = some 32) then (l.foldl (rst mk.isNone) []).dropLast else l.foldl (rst mk.isNone) [] := by
  cases mk with
  | none =>
    show rfin (l.foldl rstep []) = _
    simp only [Option.isNone_none, true_and]
    rw [rst_none]; rfl
  | some m =>
    show l.map lowC = _
    simp [rst_some]
theorem last_cut : ∀ l : List Nat, l.drop (l.length - 1) = match l.getLast? with | none => [] | some c => [c]
  | [] => rfl
  | [a] => rfl
  | a :: b :: r => by
    have ih := last_cut (b :: r)
    rw [List.getLast?_cons_cons]
    have e : (a :: b :: r).length - 1 = ((b :: r).length - 1) + 1 := by simp
    rw [e, List.drop_succ_cons]
    exact ih
theorem cut_last (l : List Nat) : cut l (some (-1)) none = l.drop (l.length - 1) := by
  unfold cut
  simp only [Option.elim]
  rw [show (-1 : Int) = -((1 : Nat) : Int) by rfl, clipAt_neg _ 1 (by omega)]
  exact List.take_of_length_le (by rw [List.length_drop]; omega)
theorem cut_init (l : List Nat) : cut l none (some (-1)) = l.dropLast := by
  unfold cut
  simp only [Option.elim, List.drop_zero, Nat.sub_zero]
  rw [show (-1 : Int) = -((1 : Nat) : Int) by rfl, clipAt_neg _ 1 (by omega), List.dropLast_eq_take]
theorem last_any (l : List Nat) : (!([("" : Str), " "]).any (· == St (l.drop (l.length - 1)))) = decide (¬ (l = [] ∨ l.getLast? = some 32)) := by
  rw [last_cut]
  cases q : l.getLast? with
  | none =>
    rw [List.getLast?_eq_none_iff] at q
    subst q
    decide
  | some c =>
    have hne : l ≠ [] := fun z => by subst z; cases q
    have e1 : (("" : Str) == St [c]) = false := by
      have : ("" : Str) ≠ St [c] := fun z => by have := St_inj (a := []) z; cases this
      simpa using this
    have e2 : ((" " : Str) == St [c]) = decide (c = 32) := by
      by_cases z : c = 32
      · subst z; decide
      · have : (" " : Str) ≠ St [c] := fun y => z (by have := St_inj (a := [32]) y; simpa using this.symm)
        rw [beq_false_of_ne this]; simp [z]
    simp only [List.any_cons, List.any_nil, e1, e2, Bool.false_or, Bool.or_false]
    simp [hne]
theorem last_is (l : List Nat) : (St (l.drop (l.length - 1)) == (" " : Str)) = decide (l.getLast? = some 32) := by
  rw [last_cut]
  cases q : l.getLast? with
  | none => decide
  | some c =>
    by_cases z : c = 32
    · subst z; decide
    · have : St [c] ≠ (" " : Str) := fun y => z (by have := St_inj (b := [32]) y; simpa using this)
      rw [beq_false_of_ne this]; simp [z]
theorem nd8 : ∀ y ∈ (fScope (stAt 8)).names, y.2 ≠ .cell := by decide
section
variable {prog : Program} {w : World} {A : Around} {s : Shared} {fd : FuncData} {f : Addr}
set_option maxHeartbeats 4000000 in
theorem read_spec {l : List Nat} {mk : Option (List Nat)} {v u : Value} (X : Fn s.heap f (FD (stAt 8) fd)) (hh : A.handled = none) (hd : A.depth < recursionLimit) (hz : l.length ≤ 1000) (hv : (D.str (St l)).At v s.heap) (hu : (Dm (mk.map St)).At u s.heap) :
    Ev (model prog w) A (call (.ref f) [v, u]) (D.str (St (readL mk l))).At s := by
  refine call_fn (Γ := [("mark", Dm (mk.map St)), ("text", .str (St l))]) X hd rfl (BindsTo.of_eq (binds := [("text", v), ("mark", u)]) rfl) nd8 (by intro y hy; simp only [List.mem_cons, List.not_mem_nil, or_false] at hy; rcases hy with rfl | rfl <;> rfl) (Typ.look ⟨rfl, hu, rfl, hv, True.intro⟩) (fun L s₁ hL X₁ => ?_) rfl rfl rfl
  have P : Pl (callEnv (FD (stAt 8) fd) L f) L ["text", "mark", "read", "sign"] [] :=
    ⟨rfl, rfl, rfl, rfl, by simp only [List.forall_mem_cons, List.not_mem_nil, false_implies, implies_true, and_true]; exact ⟨rfl, rfl, rfl, rfl⟩, by simp⟩
  generalize callEnv (FD (stAt 8) fd) L f = env at P
  have hdd : (A.deeper env).handled = none := hh
  generalize A.deeper env = A' at hdd
  have hsc : ∀ acc, ∀ p ∈ ([("read", .str (St acc)), ("mark", Dm (mk.map St)), ("text", .str (St l))] : List (Str × D)), p.2.sc = true := by intro acc; cases mk <;> simp [D.sc, Dm]
  have hlim : s.heap.NoLimit := X.lim
  have eN : (mk.map St).isNone = mk.isNone := by cases mk <;> rfl
  refine execs_cons' (X₁.assign (x := "read") (d := .str (St [])) EvE.ctext P.hL P.hk (P.l _ (by decide)) fun s₂ X₂ => ?_)
  refine execs_cons' (exec_for (fun i => [("read", .str (St ((l.take i).foldl (rst mk.isNone) []))), ("mark", Dm (mk.map St)), ("text", .str (St l))]) (fun _ => True) (fun i => hsc _) hdd P.hL P.hk (P.l "sign" (by decide)) X₂ trivial (P.nm X₂ "text") (fun v h hv => src_text hv) ?_ ?_)
  · intro i a s₃ ha _ X₃
    rw [sgn_St, List.getElem?_map] at ha
    obtain ⟨c, hc, rfl⟩ := Option.map_eq_some_iff.mp ha
    obtain ⟨hi, hce⟩ := List.getElem?_eq_some_iff.mp hc
    have hacc : (l.take (i + 1)).foldl (rst mk.isNone) [] = rst mk.isNone ((l.take i).foldl (rst mk.isNone) []) c := by
      rw [List.take_add_one, hc, List.foldl_append]; rfl
    have hlen := rst_len mk.isNone (l.take i) []
    rw [List.length_take] at hlen
    simp only [hacc]
    generalize (l.take i).foldl (rst mk.isNone) [] = acc at *
    have hal : acc.length ≤ 1000 := by simp at hlen; omega
    have hkeepLim : s₃.heap.NoLimit := hlim.keeps ((X₃.out hL).stays)
    have X₃' := X₃.here
    refine execs_cons' (exec_if (EvT.and2 (EvT.cmp (P.nm X₃' "mark") EvE.cnone fun s' a b q ha hb => op_is_none_m ha hb) fun _ => EvT.cmp (P.nm X₃' "sign") EvE.ctext fun s' a b q ha hb => op_in_one (x := [32, 9]) ha hb) fun s₄ k₄ => ?_)
    have X₄ := X₃'.kp k₄
    rw [eN]
    have esp : decide (c ∈ [32, 9]) = sp c := by
      unfold sp
      by_cases h1 : c = 32
      · simp [h1]
      · by_cases h2 : c = 9 <;> simp [h1, h2]
    rw [esp]
    by_cases hn : (mk.isNone && sp c) = true
    · rw [if_pos hn]
      refine execs_cons' (exec_if (EvT.cmp (EvE.ssl (P.nm X₄ "read") (EvP.yes EvE.neg1) EvP.no (by omega) (cut_last acc)) (EvE.tuple (xs := ["", " "]) (EvA.cons EvE.ctext (EvA.cons EvE.ctext EvA.nil)) (by decide)) fun s' a b q ha hb => op_notin_tup ha hb) fun s₅ k₅ => ?_)
      have X₅ := X₄.kp k₅
      rw [last_any]
      by_cases hb : acc = [] ∨ acc.getLast? = some 32
      · rw [decide_eq_false (not_not_intro hb), if_neg (by decide)]
        refine wpAny_execs_nil (wpAny_execs_nil (wpAny_execs_nil ⟨trivial, ?_⟩))
        have e : rst mk.isNone acc c = acc := by unfold rst; rw [if_pos hn, if_pos hb]
        rw [e]; exact X₅.drop1
      · rw [decide_eq_true hb, if_pos rfl]
        have e : rst mk.isNone acc c = acc ++ [32] := by unfold rst; rw [if_pos hn, if_neg hb]
        rw [e]
        refine execs_cons' (X₅.assign (x := "read") (d := .str (St (acc ++ [32]))) (EvE.bin (P.nm X₅ "read") EvE.ctext fun s' a b q ha hb => by
          rw [← St_app]; exact op_add_str (y := St [32]) (by rw [St_len, St_len, sizeLine_eq]; simp; omega) ha hb) P.hL P.hk (P.l _ (by decide)) fun s₆ X₆ => ?_)
        exact wpAny_execs_nil (wpAny_execs_nil (wpAny_execs_nil ⟨trivial, (X₆.upd (Γ' := [("sign", .str (St [c])), ("read", .str (St (acc ++ [32]))), ("mark", Dm (mk.map St)), ("text", .str (St l))])).drop1⟩))
    · rw [if_neg hn]
      have e : rst mk.isNone acc c = acc ++ [lowC c] := by unfold rst; rw [if_neg hn]
      rw [e]
      refine execs_cons' (X₄.assign (x := "read") (d := .str (St (acc ++ [lowC c]))) (EvE.bin (P.nm X₄ "read") (EvE.dget (by decide) (hkeepLim.keeps k₄.stays) (P.nm X₄ "sign") (P.nm X₄ "sign")) fun s' a b q ha hb => by
        rw [← St_app, ← lowS_one]; exact op_add_str (y := lowS (St [c])) (by rw [lowS_one, St_len, St_len, sizeLine_eq]; simp; omega) ha hb) P.hL P.hk (P.l _ (by decide)) fun s₆ X₆ => ?_)
      exact wpAny_execs_nil (wpAny_execs_nil ⟨trivial, (X₆.upd (Γ' := [("sign", .str (St [c])), ("read", .str (St (acc ++ [lowC c]))), ("mark", Dm (mk.map St)), ("text", .str (St l))])).drop1⟩)
  · intro s₃ _ X₃
    rw [sgn_St, List.length_map, List.take_length] at X₃
    rw [readL_eq]
    have hlen := rst_len mk.isNone l []
    generalize l.foldl (rst mk.isNone) [] = acc at *
    have hal : acc.length ≤ 1000 := by simp at hlen; omega
    have X₃' := X₃.here
    refine execs_cons' (exec_if (EvT.and2 (EvT.cmp (P.nm X₃' "mark") EvE.cnone fun s' a b q ha hb => op_is_none_m ha hb) fun _ => EvT.cmp (EvE.ssl (P.nm X₃' "read") (EvP.yes EvE.neg1) EvP.no (by omega) (cut_last acc)) EvE.ctext fun s' a b q ha hb => op_eq_str ha hb) fun s₄ k₄ => ?_)
    have X₄ := X₃.kp k₄
    have hx : (mk.isNone && decide (acc.getLast? = some 32)) = decide (mk.isNone = true ∧ acc.getLast? = some 32) := by rw [Bool.decide_and, Bool.decide_eq_true]
    rw [eN, last_is, hx]
    by_cases hb : mk.isNone = true ∧ acc.getLast? = some 32
    · rw [decide_eq_true hb, if_pos rfl, if_pos hb]
      refine execs_cons' (X₄.assign (x := "read") (d := .str (St acc.dropLast)) (EvE.ssl (P.nm X₄ "read") EvP.no (EvP.yes EvE.neg1) (by omega) (cut_init acc)) P.hL P.hk (P.l _ (by decide)) fun s₅ X₅ => ?_)
      exact wpAny_execs_nil (execs_cons' (exec_ret (P.nm X₅ "read") fun v s' k' hv => ⟨v, rfl, (X₅.out hL).trans k', hv⟩))
    · rw [decide_eq_false hb, if_neg (by decide), if_neg hb]
      exact wpAny_execs_nil (execs_cons' (exec_ret (P.nm X₄ "read") fun v s' k' hv => ⟨v, rfl, (X₄.out hL).trans k', hv⟩))
end
end Mine
namespace Mine
theorem St1_beq (a b : Nat) : (St [a] == St [b]) = (a == b) := by
  by_cases h : a = b
  · subst h; simp
  · have : St [a] ≠ St [b] := fun z => h ((St1_iff a b).mp z)
    rw [beq_false_of_ne this, beq_false_of_ne h]
theorem runT_app (n : Bool) (b0 : Nat) : ∀ (P R : List Nat) (b : Nat), runT n b0 b (P ++ R) = (runT n b0 b P).bind fun b' => runT n b0 b' R
  | [], R, b => rfl
  | c :: P, R, b => by
    simp only [List.cons_append, runT]
    split
    · exact runT_app n b0 P R c
    · rfl
section
variable {prog : Program} {w : World} {A : Around} {env : Env} {h : Heap}
theorem EvE.or3b {x y z : Expr} {pos : Pos} {a b c : Bool} (hx : EvE (model prog w) A env x (.val (.bool a)) h) (hy : EvE (model prog w) A env y (.val (.bool b)) h) (hz : EvE (model prog w) A env z (.val (.bool c)) h) :
    EvE (model prog w) A env (.BoolOp .Or [x, y, z] pos) (.val (.bool (a || (b || c)))) h := fun s k =>
  BoolOp_or ((hx s k).go fun v s₁ k₁ hv => by
    obtain rfl : v = .bool a := hv
    refine wpAny_truthy_bool ?_
    cases a with
    | true => exact ⟨k₁, rfl⟩
    | false =>
      exact BoolOp_or ((hy s₁ (stays_trans k k₁.stays)).go fun v s₂ k₂ hv => by
        obtain rfl : v = .bool b := hv
        refine wpAny_truthy_bool ?_
        cases b with
        | true => exact ⟨k₁.trans k₂, rfl⟩
        | false => exact BoolOp_one ((hz s₂ (stays_trans k (k₁.trans k₂).stays)).go fun v s₃ k₃ hv => ⟨(k₁.trans k₂).trans k₃, hv⟩)))
end
theorem nd9 : ∀ y ∈ (fScope (stAt 9)).names, y.2 ≠ .cell := by decide
section
variable {prog : Program} {w : World} {A : Around} {s : Shared} {fd : FuncData} {f : Addr}
set_option maxHeartbeats 4000000 in
theorem titled_spec {l : List Nat} {mk : Option (List Nat)} {v u : Value} (X : Fn s.heap f (FD (stAt 9) fd)) (hh : A.handled = none) (hd : A.depth < recursionLimit) (hm : MkOne mk) (hz : l.length ≤ 1000) (hv : (D.str (St l)).At v s.heap) (hu : (Dm (mk.map St)).At u s.heap) :
    Ev (model prog w) A (call (.ref f) [v, u]) (D.val (.bool (titledL mk l))).At s := by
  refine call_fn (Γ := [("mark", Dm (mk.map St)), ("text", .str (St l))]) X hd rfl (BindsTo.of_eq (binds := [("text", v), ("mark", u)]) rfl) nd9 (by intro y hy; simp only [List.mem_cons, List.not_mem_nil, or_false] at hy; rcases hy with rfl | rfl <;> rfl) (Typ.look ⟨rfl, hu, rfl, hv, True.intro⟩) (fun L s₁ hL X₁ => ?_) rfl rfl rfl
  have P : Pl (callEnv (FD (stAt 9) fd) L f) L ["text", "mark", "between", "before", "sign"] [] :=
    ⟨rfl, rfl, rfl, rfl, by simp only [List.forall_mem_cons, List.not_mem_nil, false_implies, implies_true, and_true]; exact ⟨rfl, rfl, rfl, rfl, rfl⟩, by simp⟩
  generalize callEnv (FD (stAt 9) fd) L f = env at P
  have hdd : (A.deeper env).handled = none := hh
  generalize A.deeper env = A' at hdd
  have eN : (mk.map St).isNone = mk.isNone := by cases mk <;> rfl
  have eS : (mk.map St).isSome = mk.isSome := by cases mk <;> rfl
  have hsc : ∀ b, ∀ p ∈ ([("before", .str (St [b])), ("between", .str (St [b0Of mk])), ("mark", Dm (mk.map St)), ("text", .str (St l))] : List (Str × D)), p.2.sc = true := by intro b; cases mk <;> simp [D.sc, Dm]
  refine execs_cons' (X₁.assign (x := "between") (d := .str (St [b0Of mk])) (EvE.ifexp (EvT.cmp (P.nm X₁ "mark") EvE.cnone fun s' a b q ha hb => op_is_none_m ha hb) (fun hn => ?_) (fun hn => ?_)) P.hL P.hk (P.l _ (by decide)) fun s₂ X₂ => ?_)
  · have : mk = none := by cases mk with | none => rfl | some _ => cases hn
    subst this
    exact EvE.ctext
  · cases mk with
    | none => cases hn
    | some m =>
      obtain ⟨c0, rfl, _⟩ := hm m rfl
      exact P.nm X₁ "mark" (d := .str (St [c0]))
  refine execs_cons' (X₂.assign (x := "before") (d := .str (St [b0Of mk])) (P.nm X₂ "between") P.hL P.hk (P.l _ (by decide)) fun s₃ X₃ => ?_)
  refine execs_cons' (exec_for (fun i => [("before", .str (St [((l.take i).getLast?).getD (b0Of mk)])), ("between", .str (St [b0Of mk])), ("mark", Dm (mk.map St)), ("text", .str (St l))]) (fun i => runT mk.isNone (b0Of mk) (b0Of mk) (l.take i) = some (((l.take i).getLast?).getD (b0Of mk))) (fun i => hsc _) hdd P.hL P.hk (P.l "sign" (by decide)) X₃ rfl (P.nm X₃ "text") (fun v h hv => src_text hv) ?_ ?_)
  · intro i a s₄ ha hC X₄
    rw [sgn_St, List.getElem?_map] at ha
    obtain ⟨c, hc, rfl⟩ := Option.map_eq_some_iff.mp ha
    obtain ⟨hi, hce⟩ := List.getElem?_eq_some_iff.mp hc
    have htake : l.take (i + 1) = l.take i ++ [c] := by rw [List.take_add_one, hc]; rfl
    have hlast : ((l.take (i + 1)).getLast?).getD (b0Of mk) = c := by rw [htake]; simp
    have hsplit : l = l.take i ++ c :: l.drop (i + 1) := by
      have := List.take_append_drop i l
      rw [List.drop_eq_getElem_cons hi, hce] at this
      exact this.symm
    have hrun : runT mk.isNone (b0Of mk) (b0Of mk) l = runT mk.isNone (b0Of mk) (((l.take i).getLast?).getD (b0Of mk)) (c :: l.drop (i + 1)) := by
      conv => lhs; rw [hsplit]
      rw [runT_app, hC]; rfl
    rw [hlast]
    generalize ((l.take i).getLast?).getD (b0Of mk) = b at *
    have hno : okc mk.isNone (b0Of mk) b c = false → titledL mk l = false := fun h => by
      unfold titledL
      rw [hrun]
      simp [runT, h]
    have X₄' := X₄.here
    have ret : ∀ {sa : Shared}, Loc s₄ L [("sign", .str (St [c])), ("before", .str (St [b])), ("between", .str (St [b0Of mk])), ("mark", Dm (mk.map St)), ("text", .str (St l))] sa → okc mk.isNone (b0Of mk) b c = false → ∀ v s', Kp sa s' → (D.val (.bool false)).At v s'.heap → ∃ r, Flow.ret v = .ret r ∧ Kp s s' ∧ (D.val (.bool (titledL mk l))).At r s'.heap := fun {sa} Xa h v s' k hv => by
      rw [hno h]
      exact ⟨v, rfl, ((X₄.trans Xa).out hL).trans k, hv⟩
    refine execs_cons' (exec_if (EvT.and2 (EvT.cmp (P.nm X₄' "mark") EvE.cnone fun s' a b q ha hb => op_is_none_m ha hb) fun _ => EvT.or2 (EvT.cmp (P.nm X₄' "sign") EvE.ctext fun s' a b q ha hb => op_eq_str ha hb) fun _ => EvT.and2 (EvT.cmp (P.nm X₄' "before") EvE.ctext fun s' a b q ha hb => op_eq_str ha hb) fun _ => EvT.cmp (P.nm X₄' "sign") EvE.ctext fun s' a b q ha hb => op_eq_str ha hb) fun s₅ k₅ => ?_)
    have X₅ := X₄'.kp k₅
    have e1 : ((mk.map St).isNone && (St [c] == ("\t" : Str) || (St [b] == (" " : Str) && St [c] == (" " : Str)))) = (mk.isNone && (c == 9 || (b == 32 && c == 32))) := by
      rw [eN, show ("\t" : Str) = St [9] from rfl, show (" " : Str) = St [32] from rfl, St1_beq, St1_beq, St1_beq]
    rw [e1]
    by_cases t1 : (mk.isNone && (c == 9 || (b == 32 && c == 32))) = true
    · rw [if_pos t1]
      exact execs_cons' (exec_ret (d := .val (.bool false)) EvE.cbool (ret X₅ (by unfold okc; rw [t1]; rfl)))
    rw [if_neg t1]
    refine wpAny_execs_nil (execs_cons' (exec_if (EvT.and2 (EvT.cmp (P.nm X₅ "sign") EvE.ctext fun s' a b q ha hb => op_in_one (x := [97, 98]) ha hb) fun _ => EvT.cmp (P.nm X₅ "before") (P.nm X₅ "between") fun s' a b q ha hb => op_eq_str ha hb) fun s₆ k₆ => ?_))
    have X₆ := X₅.kp k₆
    have m2 : ∀ x y : Nat, decide (c ∈ [x, y]) = (c == x || c == y) := fun x y => by
      by_cases h1 : c = x
      · simp [h1]
      · by_cases h2 : c = y <;> simp [h1, h2]
    rw [m2, St1_beq]
    by_cases t2 : ((c == 97 || c == 98) && b == b0Of mk) = true
    · rw [if_pos t2]
      exact execs_cons' (exec_ret (d := .val (.bool false)) EvE.cbool (ret X₆ (by unfold okc; rw [t2]; simp)))
    rw [if_neg t2]
    refine wpAny_execs_nil (execs_cons' (exec_if (EvT.and2 (EvT.cmp (P.nm X₆ "sign") EvE.ctext fun s' a b q ha hb => op_in_one (x := [65, 66]) ha hb) fun _ => EvT.cmp (P.nm X₆ "before") (P.nm X₆ "between") fun s' a b q ha hb => op_ne_str ha hb) fun s₇ k₇ => ?_))
    have X₇ := X₆.kp k₇
    have e3 : (St [b] != St [b0Of mk]) = (b != b0Of mk) := by unfold bne; rw [St1_beq]
    rw [m2, e3]
    by_cases t3 : ((c == 65 || c == 66) && b != b0Of mk) = true
    · rw [if_pos t3]
      exact execs_cons' (exec_ret (d := .val (.bool false)) EvE.cbool (ret X₇ (by unfold okc; rw [t3]; simp)))
    rw [if_neg t3]
    have hok : okc mk.isNone (b0Of mk) b c = true := by
      unfold okc
      rw [Bool.eq_false_iff.mpr t1, Bool.eq_false_iff.mpr t2, Bool.eq_false_iff.mpr t3]; rfl
    refine wpAny_execs_nil (execs_cons' (X₇.assign (x := "before") (d := .str (St [c])) (P.nm X₇ "sign") P.hL P.hk (P.l _ (by decide)) fun s₈ X₈ => ?_))
    refine wpAny_execs_nil ⟨?_, (X₈.upd (Γ' := [("sign", .str (St [c])), ("before", .str (St [c])), ("between", .str (St [b0Of mk])), ("mark", Dm (mk.map St)), ("text", .str (St l))])).drop1⟩
    rw [htake, runT_app, hC]
    simp [runT, hok]
  · intro s₄ hC X₄
    rw [sgn_St, List.length_map, List.take_length] at hC X₄
    have key : titledL mk l = (mk.isSome || (l == [] || ((l.getLast?).getD (b0Of mk)) != 32)) := by unfold titledL; rw [hC]
    rw [key]
    have e1 : (St l == ("" : Str)) = (l == []) := by
      by_cases q : l = []
      · subst q; decide
      · have : St l ≠ ("" : Str) := fun z => q (St_inj (b := []) z)
        rw [beq_false_of_ne this, beq_false_of_ne q]
    have e2 : ∀ b : Nat, (St [b] != (" " : Str)) = (b != 32) := fun b => by
      rw [show (" " : Str) = St [32] from rfl]; unfold bne; rw [St1_beq]
    rw [← eS, ← e1, ← e2]
    exact execs_cons' (exec_ret (EvE.or3b (EvE.cmp (P.nm X₄ "mark") EvE.cnone fun s' a b q ha hb => op_isnot_none_m ha hb) (EvE.cmp (P.nm X₄ "text") EvE.ctext fun s' a b q ha hb => op_eq_str ha hb) (EvE.cmp (P.nm X₄ "before") EvE.ctext fun s' a b q ha hb => op_ne_str ha hb)) fun v s' k' hv => ⟨v, rfl, (X₄.out hL).trans k', hv⟩)
end
end Mine
namespace Mine
def cs2 (L : Addr) : List (Str × Addr) := [("first", L + 1 + 1 + 1 + 1), ("again", L + 1 + 1 + 1), ("reads", L + 1 + 1), ("mark", L + 1)]
abbrev lawEnv2 (L f : Addr) (cd : Value) : Env := envOfC "law" (fScope (stAt 10)) L f cd
theorem plc2 (L f : Addr) (cd : Value) : PlC (lawEnv2 L f cd) L (cs2 L) ["script", "texts", "forms", "both", "rest", "places"] ["first", "again", "reads", "mark"]
    ["_filter", "len", "list", "range"] :=
  ⟨rfl, rfl, rfl, rfl, rfl, by simp only [List.forall_mem_cons, List.not_mem_nil, false_implies, implies_true, and_true]; exact ⟨rfl, rfl, rfl, rfl, rfl, rfl⟩,
    by simp only [List.forall_mem_cons, List.not_mem_nil, false_implies, implies_true, and_true]; exact ⟨rfl, rfl, rfl, rfl⟩,
    by simp only [List.forall_mem_cons, List.not_mem_nil, false_implies, implies_true, and_true]; exact ⟨rfl, rfl, rfl, rfl⟩⟩
theorem marks2 {i : Int} (h0 : 0 ≤ i) (h5 : i < 5) : ∃ mk : Option (List Nat), MkOk mk ∧ MkOne mk ∧ ([.val .none, .str "-", .str " ", .str "\t", .str "1"] : List D)[i.toNat]? = some (Dm (mk.map St)) := by
  have hi : i = 0 ∨ i = 1 ∨ i = 2 ∨ i = 3 ∨ i = 4 := by omega
  rcases hi with rfl | rfl | rfl | rfl | rfl
  · exact ⟨none, (fun _ q => by cases q), (fun _ q => by cases q), rfl⟩
  · exact ⟨some [45], (fun m q => by cases q; exact ⟨by decide, by decide, by decide⟩), (fun m q => by cases q; exact ⟨45, rfl, by decide⟩), rfl⟩
  · exact ⟨some [32], (fun m q => by cases q; exact ⟨by decide, by decide, by decide⟩), (fun m q => by cases q; exact ⟨32, rfl, by decide⟩), rfl⟩
  · exact ⟨some [9], (fun m q => by cases q; exact ⟨by decide, by decide, by decide⟩), (fun m q => by cases q; exact ⟨9, rfl, by decide⟩), rfl⟩
  · exact ⟨some [49], (fun m q => by cases q; exact ⟨by decide, by decide, by decide⟩), (fun m q => by cases q; exact ⟨49, rfl, by decide⟩), rfl⟩
theorem fmod5 (n : Int) : 0 ≤ n.fmod 5 ∧ n.fmod 5 < 5 := by
  rw [Int.fmod_eq_emod_of_nonneg n (by omega)]
  exact ⟨Int.emod_nonneg _ (by omega), Int.emod_lt_of_pos _ (by omega)⟩
structure Lib2 (K : Frag) (C pI pF fI fT fN : Addr) (i j : Nat) (dI dT dN dC dF dX dR dT' : FuncData) (fC Td fF fX fR fTt : Addr) (hb : Heap) : Prop where
  flt : Lib K C pI pF fI fT fN i j dI dT dN hb
  cap : CapLib fC Td dC hb
  gC : GN hb "capwords" (.ref fC)
  xF : Fn hb fF (FD (stAt 3) dF)
  gF : GN hb "_filter" (.ref fF)
  xX : Fn hb fX (FD (stAt 7) dX)
  gX : GN hb "_law_text" (.ref fX)
  xR : Fn hb fR (FD (stAt 8) dR)
  gR : GN hb "_law_read" (.ref fR)
  xT : Fn hb fTt (FD (stAt 9) dT')
  gT : GN hb "_law_titled" (.ref fTt)
  gLen : GN hb "len" (.builtin "len")
  gRange : GN hb "range" (.type "range")
theorem Fn.o {h : Heap} {f : Addr} {fd : FuncData} (X : Fn h f fd) : h.get? f = some X.obj.choose := X.obj.choose_spec.1
theorem Fn.d {h : Heap} {f : Addr} {fd : FuncData} (X : Fn h f fd) : X.obj.choose.data = .func fd := X.obj.choose_spec.2
end Mine
namespace Mine
section
variable {prog : Program} {w : World} {A : Around} {K : Frag} {C pI pF fI fT fN : Addr} {i j : Nat} {dI dT dN dC dF dX dR dT' : FuncData} {fC Td fF fX fR fTt : Addr}
theorem hfrs2 {L f : Addr} {cd : Value} : ∀ b, b ∈ frs [lawEnv2 L f cd] → b = L := fun b hb => by
  have e : frs [lawEnv2 L f cd] = [L] := rfl
  rw [e] at hb; exact List.mem_singleton.mp hb
theorem stk2 {L f : Addr} {cd : Value} {s₀ s : Shared} {Γ Δ : List (Str × D)} (X : LocC s₀ L (cs2 L) Γ Δ s) : Stk [lawEnv2 L f cd] s.heap := fun v hv => by
  rw [List.mem_singleton.mp hv]
  obtain ⟨m, ⟨o, es, ep, q, qd, _⟩, _⟩ := X.ns
  exact ⟨show (fScope (stAt 10)).kind ≠ _ by decide, L, o, rfl, q, fun vs z => by rw [qd] at z; cases z⟩
theorem up_len (ks : List Nat) : (upTo ks).length = ks.length := by unfold upTo; rw [List.length_map]
theorem at_range {α : Type} (g : Nat → α) {k N : Nat} (h : k < N) : ((List.range N).map g)[k]? = some (g k) := by simp [h]
set_option maxHeartbeats 8000000 in
theorem law2_loop {s₀ s₁ : Shared} {L f : Addr} {cd : Value} (B : Lib2 K C pI pF fI fT fN i j dI dT dN dC dF dX dR dT' fC Td fF fX fR fTt s₀.heap) {G R : Nat → Str} {N : Nat} (hRG : ∀ j k, R j = R k ↔ G j = G k) (hN : N ≤ 1000)
    (X₀ : LocC s₀ L (cs2 L) [("places", .lint (upTo (List.range N))), ("rest", .pl "list" ((List.range N).map G))] [("again", .pl "list" ((List.range N).map G)), ("reads", .pl "list" ((List.range N).map R))] s₁)
    (hh : A.handled = none) (hd : A.depth + 20 < recursionLimit) (hu : A.units < cLine) (hfr : A.frames = some [lawEnv2 L f cd]) :
    wpAny (model prog w) A (execs ((fBody (stAt 10)).drop 11) (lawEnv2 L f cd)) (fun fl s' => fl = .ret (.bool true) ∧ s₀.heap.StaysIn s'.heap ∧ Sm s₀ s') (fun _ _ => False) s₁ := by
  have P := plc2 L f cd
  have hdd : A.depth < recursionLimit := by omega
  have hdF : A.depth + 4 < recursionLimit := by omega
  refine execs_cons' (exec_while (fun n s => ∃ ks : List Nat, ks.length = n ∧ n ≤ N ∧ (∀ k ∈ ks, k < N) ∧ LocC s₀ L (cs2 L) [("places", .lint (upTo ks)), ("rest", .pl "list" (ks.map G))] [("again", .pl "list" ((List.range N).map G)), ("reads", .pl "list" ((List.range N).map R))] s) ?_ N ⟨List.range N, by simp, Nat.le_refl _, by simp, X₀⟩)
  rintro n s ⟨ks, hn, hnN, hk, X⟩
  refine ⟨_, EvT.cmp (P.nm X "places") (EvE.lints (ns := []) EvA.nil (by decide)) fun s a b k ha hb => op_ne_ints hu ha hb, fun s' k => ?_⟩
  have X₁ := X.kp k
  cases ks with
  | nil =>
    exact execs_cons' (exec_ret (d := .val (.bool true)) EvE.cbool fun v s'' k' hv => by
      obtain rfl : v = .bool true := hv
      exact ⟨rfl, (X₁.kp k').keep, (X₁.kp k').same⟩)
  | cons k0 kr =>
    have hk0 : k0 < N := hk k0 (.head _)
    refine execs_cons' (X₁.assignc P (x := "first") (d := .str (R k0)) (EvE.lstritem (P.ce X₁ "reads").list (EvE.lintitem (P.nm X₁ "places") EvE.cint (by decide) (by decide) (x := (k0 : Int)) rfl) (Int.natCast_nonneg _) (by omega) (at_range R hk0)) rfl fun s₂ X₂ => ?_)
    have hkl : (k0 :: kr).length ≤ 1000 := by omega
    refine execs_cons' (X₂.assignComp P (y := "places") (out := .lint (upTo ((k0 :: kr).filter fun k => R k != R k0))) (items := (upTo (k0 :: kr)).map D.int) (pN fun k => R k != R k0) id hh rfl (by decide) rfl (by decide) rfl
      (fun s' k => ((P.nm X₂ "places") s' k).go fun v s k' hv => ⟨k', src_ints hv⟩) (by rw [List.length_map, up_len, sizeLine_eq]; omega) (fun a ha _ => ?_) (fun a C h₃ ha k hn => ?_) (fun a C h₃ ha _ k hn => ?_) (fun l vs h' hl hp e => ?_) fun s₃ X₃ => ?_)
    · rw [upTo_D] at ha
      obtain ⟨j, hj, rfl⟩ := List.mem_map.mp ha; rfl
    · rw [upTo_D] at ha
      obtain ⟨j, hj, rfl⟩ := List.mem_map.mp ha
      show Tests _ _ _ _ (R j != R k0) _
      exact Tests.one (EvT.cmp (EvE.lstritem (x := R j) (EvE.name (comp_cell (C := C) P X₂ rfl k "reads" (fun c e => e) rfl rfl rfl)).list (EvE.name hn) (Int.natCast_nonneg j) (by have := hk j hj; omega) (at_range R (hk j hj))) (EvE.name (comp_cell (C := C) P X₂ rfl k "first" (fun c e => e) rfl rfl rfl)) fun s a b k ha hb => op_ne_str ha hb)
    · rw [upTo_D] at ha
      obtain ⟨j, hj, rfl⟩ := List.mem_map.mp ha
      exact EvE.name hn
    · rw [keep_places] at e
      exact out_ints hl e
    have hfl : ((k0 :: kr).filter fun k => R k != R k0).length < (k0 :: kr).length := by
      rw [List.filter_cons, if_neg (by simp)]
      exact Nat.lt_succ_of_le (List.length_filter_le _ _)
    have hfk : ∀ k ∈ (k0 :: kr).filter (fun k => R k != R k0), k < N := fun k hm => hk k (List.mem_filter.mp hm).1
    refine execs_cons' (wpAny_Assign_Name (Call_ (((P.gl (B.gF.mono X₃.keep)).now).go fun v sb kb hv => ?_)))
    obtain rfl : v = .ref fF := hv
    have Xb := X₃.kp kb
    refine callWith_def (o := (B.xF.mono Xb.keep).obj.choose) (B.xF.mono Xb.keep).d ((args2 (P.nm Xb "rest").list (EvE.lstrslice (P.nm Xb "rest").list EvP.no (EvP.yes EvE.cint) (by rw [List.length_map, sizeLine_eq]; omega)) rfl rfl sb (stays_refl _)).go fun us sc kc hus => ?_)
    obtain ⟨v, u, rfl, hv, hu'⟩ := hus
    have Xc := Xb.kp kc
    rw [show cut ((k0 :: kr).map G) none (some 1) = [G k0] from cut_take _ 1] at hu'
    refine ⟨kc.stays _ _ (B.xF.mono Xb.keep).o, filter_spec B.flt (B.xF.mono Xc.keep) (.inl rfl) hv hu' (by rw [List.length_map, sizeLine_eq]; omega) hh hdF hfr (stk2 Xc) Xc.keep fun r sd hr R' => ?_⟩
    rw [drop_places hRG] at hr
    refine (Xc.aft R' hfrs2).set P (x := "rest") hr (by decide) fun se Xe => ?_
    refine execs_cons' (exec_if (EvT.cmp (P.nm Xe "rest").list (EvE.comp (fun _ => true) (toD G) (out := .lstr (((k0 :: kr).filter fun k => R k != R k0).map G)) (items := (upTo ((k0 :: kr).filter fun k => R k != R k0)).map D.int) hh rfl (by decide) rfl (by decide) rfl
      (P.nm Xe "places") (fun v h hv => src_ints hv) (by rw [List.length_map, up_len, sizeLine_eq]; omega) (fun a ha _ => ?_) (fun a C h₃ _ _ _ => Tests.nil) (fun a C h₃ ha _ k hn => ?_) (fun l vs h' hl hp e => ?_)) fun s a b k ha hb => op_ne_strs hu ha hb) fun sf kf => ?_)
    · rw [upTo_D] at ha
      obtain ⟨j, hj, rfl⟩ := List.mem_map.mp ha; rfl
    · rw [upTo_D] at ha
      obtain ⟨j, hj, rfl⟩ := List.mem_map.mp ha
      have hjN := hfk j hj
      show EvE _ _ _ _ (.str (G j)) _
      exact EvE.lstritem (x := G j) (EvE.name (comp_cell (C := C) P Xe rfl k "again" (fun c e => e) rfl rfl rfl)).list (EvE.name hn) (Int.natCast_nonneg j) (by omega) (at_range G hjN)
    · rw [pick_places] at e
      exact D.At.list (out_strs hp e)
    have Xf := Xe.kp kf
    rw [show ((((k0 :: kr).filter fun k => R k != R k0).map G) != (((k0 :: kr).filter fun k => R k != R k0).map G)) = false by simp, if_neg (by decide)]
    refine wpAny_execs_nil (wpAny_execs_nil ⟨_, by rw [← hn]; exact hfl, _, rfl, by omega, hfk, Xf.less' (by simp only [List.forall_mem_cons, List.not_mem_nil, false_implies, implies_true, and_true]; exact ⟨rfl, rfl⟩) (by simp only [List.forall_mem_cons, List.not_mem_nil, false_implies, implies_true, and_true]; exact ⟨rfl, rfl⟩)⟩)
end
end Mine
namespace Mine
def pStr (q : Str → Bool) : D → Bool
  | .str x => q x
  | _ => false
theorem by_place {β : Type} (g : List Nat → β) (bs : List (List Nat)) : bs.map g = (List.range bs.length).map fun k => g (bs.getD k []) := by
  apply List.ext_getElem?
  intro i
  rw [List.getElem?_map, List.getElem?_map]
  by_cases hi : i < bs.length
  · rw [List.getElem?_range hi, List.getElem?_eq_getElem hi]; simp [List.getD, List.getElem?_eq_getElem hi]
  · rw [List.getElem?_eq_none (by omega : bs.length ≤ i), List.getElem?_eq_none (by rw [List.length_range]; omega : (List.range bs.length).length ≤ i)]; rfl
theorem capw_by {mk : Option (List Nat)} (hmk : MkOk mk) (hm1 : MkOne mk) (bs : List (List Nat)) :
    (bs.map St).filter (fits (bs.map fun t => St (capwL t mk))) = (bs.filter fun t => !titledL mk t).map St := by
  rw [List.filter_map]
  congr 1
  refine List.filter_congr fun t ht => ?_
  show (!(bs.map fun t => St (capwL t mk)).any (· == St t)) = _
  congr 1
  rw [Bool.eq_iff_iff, List.any_eq_true, titled_iff hm1]
  constructor
  · rintro ⟨x, hx, e⟩
    obtain ⟨u, _, rfl⟩ := List.mem_map.mp hx
    have e' := St_inj (eq_of_beq e)
    rw [← e', cap_idem hmk]
  · intro e
    exact ⟨_, List.mem_map.mpr ⟨t, ht, rfl⟩, by rw [e]; exact beq_self_eq_true _⟩
theorem pick_titled (q : List Nat → Bool) (bs : List (List Nat)) : ((((bs.map St).map D.str).filter (pStr fun x => q x.cps.toList)).map id) = ((bs.filter q).map St).map D.str := by
  rw [List.map_id, List.filter_map, List.filter_map]
  congr 2
theorem twice_cap {mk : Option (List Nat)} (hmk : MkOk mk) (ts : List (List Nat)) : (ts ++ ts.map (capwL · mk)).map (fun t => St (capwL t mk)) = (ts.map (capwL · mk)).map St ++ (ts.map (capwL · mk)).map St := by
  rw [List.map_append, List.map_map, List.map_map]
  congr 1
  exact List.map_congr_left fun t _ => by show St (capwL (capwL t mk) mk) = St (capwL t mk); rw [cap_idem hmk]
section
variable {prog : Program} {w : World} {A : Around} {K : Frag} {C pI pF fI fT fN : Addr} {i j : Nat} {dI dT dN dC dF dX dR dT' : FuncData} {fC Td fF fX fR fTt : Addr}
set_option maxHeartbeats 8000000 in
theorem law2_mid {s₀ s₁ : Shared} {L f : Addr} {cd : Value} (B : Lib2 K C pI pF fI fT fN i j dI dT dN dC dF dX dR dT' fC Td fF fX fR fTt s₀.heap) {ts : List (List Nat)} {mk : Option (List Nat)} (hmk : MkOk mk) (hm1 : MkOne mk)
    (htl : ts.length ≤ 12) (hbs : ∀ t ∈ ts ++ ts.map (capwL · mk), (∀ c ∈ t, c ∈ abc) ∧ t.length ≤ 40)
    (X₁ : LocC s₀ L (cs2 L) [("both", .pl "list" ((ts ++ ts.map (capwL · mk)).map St)), ("forms", .pl "list" ((ts.map (capwL · mk)).map St))] [("reads", .pl "list" ((ts ++ ts.map (capwL · mk)).map fun t => St (readL mk t))), ("mark", Dm (mk.map St))] s₁)
    (hh : A.handled = none) (hd : A.depth + 20 < recursionLimit) (hu : A.units < cLine) (hfr : A.frames = some [lawEnv2 L f cd]) :
    wpAny (model prog w) A (execs ((fBody (stAt 10)).drop 6) (lawEnv2 L f cd)) (fun fl s' => fl = .ret (.bool true) ∧ s₀.heap.StaysIn s'.heap ∧ Sm s₀ s') (fun _ _ => False) s₁ := by
  have P := plc2 L f cd
  have hdd : A.depth < recursionLimit := by omega
  have hdF : A.depth + 4 < recursionLimit := by omega
  have kp1 := X₁.keep
  have hbl : (ts ++ ts.map (capwL · mk)).length ≤ 1000 := by rw [List.length_append, List.length_map]; omega
  refine execs_cons' (X₁.assignc P (x := "again") (d := .pl "list" ((ts ++ ts.map (capwL · mk)).map fun t => St (capwL t mk))) (EvE.bin (P.nm X₁ "forms").list
    (EvE.comp (fun _ => true) (elStr fun x => .str (St (capwL x.cps.toList mk))) (out := .lstr ((ts.map (capwL · mk)).map fun t => St (capwL t mk))) hh rfl (by decide) rfl (by decide) rfl
    (P.nm X₁ "forms").list (fun v h hv => src_strs hv) (by rw [List.length_map, List.length_map, List.length_map, sizeLine_eq]; omega) (fun a ha _ => by obtain ⟨x, hx, rfl⟩ := List.mem_map.mp ha; rfl) (fun a C h₃ _ _ _ => Tests.nil)
    (fun a C h₃ ha _ k hn => ?_) (fun l vs h' hl hp e => D.At.list (out_strs hp ?_))) fun s a b k ha hb => ?_) rfl fun s₂ X₂ => ?_)
  · obtain ⟨x, hx, rfl⟩ := List.mem_map.mp ha
    obtain ⟨p, hp, rfl⟩ := List.mem_map.mp hx
    obtain ⟨hpa, hpl⟩ := hbs p (List.mem_append_right _ hp)
    have kk := stays_trans kp1 k
    show EvE _ _ _ _ (.str (St (capwL (St p).cps.toList mk))) _
    rw [St_list]
    exact EvE.call2 (comp_glob P.hg P.hb rfl (B.gC.mono kk) rfl) (B.cap.fn.mono kk).o (B.cap.fn.mono kk).d (EvE.name hn) (EvE.name (comp_cell (C := C) P X₁ rfl k "mark" (fun c e => e) rfl rfl rfl)) (fun s v u k' hv hu => cap_call2 B.cap (stays_trans kk k') hpa hmk (by omega) hh hdd hv hu)
  · rw [e, List.filter_eq_self.mpr (fun _ _ => rfl), List.map_map, List.map_map, List.map_map (g := D.str)]
    exact List.map_congr_left fun p _ => by show D.str (St (capwL (St p).cps.toList mk)) = D.str (St (capwL p mk)); rw [St_list]
  · have e : (ts ++ ts.map (capwL · mk)).map (fun t => St (capwL t mk)) = (ts.map (capwL · mk)).map St ++ (ts.map (capwL · mk)).map fun t => St (capwL t mk) := by
      rw [List.map_append]; congr 1; rw [List.map_map]; rfl
    rw [e]
    exact op_add_strs (by simp only [List.length_map]; rw [sizeLine_eq]; omega) ha hb
  refine execs_cons' (exec_if (EvT.cmp (P.ce X₂ "again").list (EvE.bin (P.nm X₂ "forms").list (P.nm X₂ "forms").list fun s a b k ha hb => op_add_strs (by simp only [List.length_map]; rw [sizeLine_eq]; omega) ha hb).list fun s a b k ha hb => op_ne_strs hu ha hb) fun s₃ k₃ => ?_)
  rw [twice_cap hmk, show ((ts.map (capwL · mk)).map St ++ (ts.map (capwL · mk)).map St != (ts.map (capwL · mk)).map St ++ (ts.map (capwL · mk)).map St) = false by simp, if_neg (by decide)]
  have X₃ := X₂.kp k₃
  have kp3 := X₃.keep
  refine wpAny_execs_nil (execs_cons' (wpAny_If (wpAny_isTrue_Compare1 (hm := by with_unfolding_all rfl) (Call_ (((P.gl (B.gF.mono kp3)).now).go fun v sb kb hv => ?_)))))
  obtain rfl : v = .ref fF := hv
  have Xb := X₃.kp kb
  refine callWith_def (o := (B.xF.mono Xb.keep).obj.choose) (B.xF.mono Xb.keep).d ((args2 (P.nm Xb "both").list (P.ce Xb "again") rfl rfl sb (stays_refl _)).go fun us sc kc hus => ?_)
  obtain ⟨v, u, rfl, hv, hu'⟩ := hus
  have Xc := Xb.kp kc
  refine ⟨kc.stays _ _ (B.xF.mono Xb.keep).o, filter_spec B.flt (B.xF.mono Xc.keep) (.inl rfl) hv hu' (by rw [List.length_map, sizeLine_eq]; omega) hh hdF hfr (stk2 Xc) Xc.keep fun r sd hr R' => ?_⟩
  rw [capw_by hmk hm1] at hr
  have Xd := Xc.aft R' hfrs2
  have kpd := Xd.keep
  refine (EvE.here (EvE.comp (pStr fun x => !titledL mk x.cps.toList) id (out := .lstr (((ts ++ ts.map (capwL · mk)).filter fun t => !titledL mk t).map St)) hh rfl (by decide) rfl (by decide) rfl
    (P.nm Xd "both").list (fun v h hv => src_strs hv) (by rw [List.length_map, List.length_map, sizeLine_eq]; omega) (fun a ha _ => ?_) (fun a C h₃ ha k hn => ?_) (fun a C h₃ ha _ k hn => ?_) (fun l vs h' hl hp e => ?_)) sd (stays_refl _)).go fun b se ke hb => ?_
  · obtain ⟨x, hx, rfl⟩ := List.mem_map.mp ha; rfl
  · obtain ⟨x, hx, rfl⟩ := List.mem_map.mp ha
    obtain ⟨p, hp, rfl⟩ := List.mem_map.mp hx
    obtain ⟨hpa, hpl⟩ := hbs p hp
    have kk := stays_trans kpd k
    show Tests _ _ _ _ (!titledL mk (St p).cps.toList) _
    rw [St_list]
    exact Tests.one (EvT.not (EvT.plain (EvE.call2 (comp_glob P.hg P.hb rfl (B.gT.mono kk) rfl) (B.xT.mono kk).o (B.xT.mono kk).d (EvE.name hn) (EvE.name (comp_cell (C := C) P Xd rfl k "mark" (fun c e => e) rfl rfl rfl)) (fun s v u k' hv hu => titled_spec (B.xT.mono (stays_trans kk k')) hh hdd hm1 (by omega) hv hu))))
  · obtain ⟨x, hx, rfl⟩ := List.mem_map.mp ha
    exact EvE.name hn
  · exact D.At.list (out_strs hp (e.trans (pick_titled (fun t => !titledL mk t) _)))
  refine (op_ne_strs hu (hr.keep ke.stays).list hb).go fun v sf kf hv => ?_
  obtain rfl : v = _ := hv
  have Xf := (Xd.kp ke).kp kf
  refine wpAny_truthy_bool ?_
  rw [show ((((ts ++ ts.map (capwL · mk)).filter fun t => !titledL mk t).map St) != (((ts ++ ts.map (capwL · mk)).filter fun t => !titledL mk t).map St)) = false by simp]
  refine wpAny_execs_nil ?_
  refine execs_cons' (Xf.assign P (x := "rest") (P.ce Xf "again") fun sg Xg => ?_)
  have kpg := Xg.keep
  refine execs_cons' (Xg.assign P (x := "places") (d := .lint (upTo (List.range (ts ++ ts.map (capwL · mk)).length))) (EvE.list_range (P.gn (B.flt.gList.mono kpg)) (P.gn (B.gRange.mono kpg)) (EvE.bcall1 (P.gn (B.gLen.mono kpg)) (P.nm Xg "both").list (fun s v k hv => by
    have := op_len_strs (prog := prog) (w := w) (A := A) (by rw [List.length_map, sizeLine_eq]; omega) hv
    rw [List.length_map] at this
    exact this)) hh (by omega)) fun sh Xh => ?_)
  refine law2_loop (G := fun k => St (capwL ((ts ++ ts.map (capwL · mk)).getD k []) mk)) (R := fun k => St (readL mk ((ts ++ ts.map (capwL · mk)).getD k []))) (N := (ts ++ ts.map (capwL · mk)).length) B (fun j k => ⟨fun e => ?_, fun e => ?_⟩) hbl ?_ hh hd hu hfr
  · show St _ = St _
    rw [cap_of_read hmk (St_inj e)]
  · show St _ = St _
    rw [← read_cap hmk, St_inj e, read_cap hmk]
  · have e1 := by_place (fun t => St (capwL t mk)) (ts ++ ts.map (capwL · mk))
    have e2 := by_place (fun t => St (readL mk t)) (ts ++ ts.map (capwL · mk))
    rw [e1, e2] at Xh
    exact Xh.less' (by simp only [List.forall_mem_cons, List.not_mem_nil, false_implies, implies_true, and_true]; exact ⟨rfl, rfl⟩) (by simp only [List.forall_mem_cons, List.not_mem_nil, false_implies, implies_true, and_true]; exact ⟨rfl, rfl⟩)
end
end Mine
namespace Mine
section
variable {prog : Program} {w : World} {A : Around} {K : Frag} {C pI pF fI fT fN : Addr} {i j : Nat} {dI dT dN dC dF dX dR dT' : FuncData} {fC Td fF fX fR fTt : Addr}
set_option maxHeartbeats 8000000 in
theorem law2_body {s₀ s₁ : Shared} {L f : Addr} {cd : Value} (B : Lib2 K C pI pF fI fT fN i j dI dT dN dC dF dX dR dT' fC Td fF fX fR fTt s₀.heap) {ns : List Int} (hlen : ns.length ≤ 100000) (X₁ : LocC s₀ L (cs2 L) [("script", .lint ns)] [] s₁)
    (hh : A.handled = none) (hd : A.depth + 20 < recursionLimit) (hu : A.units < cLine) (hfr : A.frames = some [lawEnv2 L f cd]) :
    wpAny (model prog w) A (execs (fBody (stAt 10)) (lawEnv2 L f cd)) (fun fl s' => fl = .ret (.bool true) ∧ s₀.heap.StaysIn s'.heap ∧ Sm s₀ s') (fun _ _ => False) s₁ := by
  have P := plc2 L f cd
  have hdd : A.depth < recursionLimit := by omega
  obtain ⟨n0, hn0⟩ : ∃ n0, (ns ++ [0])[0]? = some n0 := by cases ns <;> exact ⟨_, rfl⟩
  obtain ⟨mk, hmk, hm1, hmd⟩ := marks2 (fmod5 n0).1 (fmod5 n0).2
  refine execs_cons' (X₁.assignc P (x := "mark") (d := Dm (mk.map St)) (EvE.litem (EvA.cons EvE.cnone (EvA.cons EvE.ctext (EvA.cons EvE.ctext (EvA.cons EvE.ctext (EvA.cons EvE.ctext EvA.nil)))))
    (EvE.bin (EvE.lintitem (EvE.bin (P.nm X₁ "script") (EvE.lints (ns := [0]) (EvA.cons EvE.cint EvA.nil) (by decide)) fun s a b k ha hb => op_add_ints (by rw [sizeLine_eq]; simp; omega) ha hb) EvE.cint (by decide) (by decide) hn0) EvE.cint fun s a b k ha hb => op_mod_int (by decide) ha hb)
    (fmod5 n0).1 (by have := (fmod5 n0).2; omega) hmd (by decide)) rfl fun s₂ X₂ => ?_)
  have kp2 := X₂.keep
  -- the texts
  refine execs_cons' (X₂.assign P (x := "texts") (d := .pl "list" (((cut ns (some 1) (some 11)).map txtOf ++ [[32, 97, 49, 45, 97, 66, 9, 65, 98, 32]]).map St)) (EvE.bin
    (EvE.comp (fun _ => true) (elInt fun n => .str (St (txtOf n))) (out := .lstr ((cut ns (some 1) (some 11)).map fun n => St (txtOf n))) hh rfl (by decide) rfl (by decide) rfl
      (EvE.lintslice (P.nm X₂ "script") (EvP.yes EvE.cint) (EvP.yes EvE.cint) (by rw [sizeLine_eq]; omega)) (fun v h hv => src_ints hv) ?_ (fun a ha _ => by obtain ⟨n, _, rfl⟩ := List.mem_map.mp ha; rfl) (fun a C h₃ _ _ _ => Tests.nil)
      (fun a C h₃ ha _ k hn => ?_) (fun l vs h' hl hp e => ?_))
    (EvE.lstrs (xs := [" a1-aB\tAb "]) (EvA.cons EvE.ctext EvA.nil) (by decide)).list fun s a b k ha hb => ?_) fun s₃ X₃ => ?_)
  · have : (cut ns (some 1) (some 11)).length ≤ ns.length := by unfold cut; rw [List.length_take, List.length_drop]; omega
    rw [List.length_map, sizeLine_eq]; omega
  · obtain ⟨n, _, rfl⟩ := List.mem_map.mp ha
    have kk := stays_trans kp2 k
    exact EvE.call1 (comp_glob P.hg P.hb rfl (B.gX.mono kk) rfl) (B.xX.mono kk).o (B.xX.mono kk).d (EvE.name hn) (fun s v k' hv => text2_spec (B.xX.mono (stays_trans kk k')) hdd hv)
  · exact D.At.list (out_strs hp (by rw [e, List.filter_eq_self.mpr (fun _ _ => rfl), List.map_map, List.map_map]; rfl))
  · have e : ((cut ns (some 1) (some 11)).map txtOf ++ [[32, 97, 49, 45, 97, 66, 9, 65, 98, 32]]).map St = (cut ns (some 1) (some 11)).map (fun n => St (txtOf n)) ++ [(" a1-aB\tAb " : Str)] := by
      rw [List.map_append, List.map_map]; rfl
    rw [e]
    exact op_add_strs (by
      have : (cut ns (some 1) (some 11)).length ≤ ns.length := by unfold cut; rw [List.length_take, List.length_drop]; omega
      rw [List.length_map, sizeLine_eq]; simp; omega) ha hb
  have hcut : (cut ns (some 1) (some 11)).length ≤ 11 := by
    unfold cut
    rw [List.length_take]
    have h1 : clipAt ns.length 11 ≤ 11 := by rw [show (11 : Int) = ((11 : Nat) : Int) by rfl, clipAt_nat]; omega
    show min (clipAt ns.length 11 - _) _ ≤ 11
    omega
  have hts : ∀ t ∈ (cut ns (some 1) (some 11)).map txtOf ++ [[32, 97, 49, 45, 97, 66, 9, 65, 98, 32]], (∀ c ∈ t, c ∈ abc) ∧ t.length ≤ 10 := by
    intro t ht
    rcases List.mem_append.mp ht with ht | ht
    · obtain ⟨n, _, rfl⟩ := List.mem_map.mp ht
      exact ⟨txtOf_abc n, by have := txtOf_len n; omega⟩
    · rw [List.mem_singleton.mp ht]; exact ⟨by decide, by decide⟩
  have htl : ((cut ns (some 1) (some 11)).map txtOf ++ [[32, 97, 49, 45, 97, 66, 9, 65, 98, 32]]).length ≤ 12 := by rw [List.length_append, List.length_map]; simp; omega
  generalize (cut ns (some 1) (some 11)).map txtOf ++ [[32, 97, 49, 45, 97, 66, 9, 65, 98, 32]] = ts at *
  have kp3 := X₃.keep
  refine execs_cons' (X₃.assignComp P (y := "forms") (out := .pl "list" ((ts.map (capwL · mk)).map St)) (items := (ts.map St).map .str) (fun _ => true) (elStr fun x => .str (St (capwL x.cps.toList mk))) hh rfl (by decide) rfl (by decide) rfl
    (fun s' k => ((P.nm X₃ "texts").list s' k).go fun v s k' hv => ⟨k', src_strs hv⟩) (by rw [List.length_map, List.length_map, sizeLine_eq]; omega) (fun a ha _ => by obtain ⟨x, hx, rfl⟩ := List.mem_map.mp ha; rfl) (fun a C h₃ _ _ _ => Tests.nil)
    (fun a C h₃ ha _ k hn => ?_) (fun l vs h' hl hp e => out_strs hp ?_) fun s₄ X₄ => ?_)
  · obtain ⟨x, hx, rfl⟩ := List.mem_map.mp ha
    obtain ⟨p, hp, rfl⟩ := List.mem_map.mp hx
    obtain ⟨hpa, hpl⟩ := hts p hp
    have kk := stays_trans kp3 k
    show EvE _ _ _ _ (.str (St (capwL (St p).cps.toList mk))) _
    rw [St_list]
    exact EvE.call2 (comp_glob P.hg P.hb rfl (B.gC.mono kk) rfl) (B.cap.fn.mono kk).o (B.cap.fn.mono kk).d (EvE.name hn) (EvE.name (comp_cell P X₃ rfl k "mark" (fun c e => e) rfl rfl rfl)) (fun s v u k' hv hu => cap_call2 B.cap (stays_trans kk k') hpa hmk (by omega) hh hdd hv hu)
  · rw [e, List.filter_eq_self.mpr (fun _ _ => rfl), List.map_map, List.map_map, List.map_map, List.map_map]
    exact List.map_congr_left fun p _ => by show D.str (St (capwL (St p).cps.toList mk)) = D.str (St (capwL p mk)); rw [St_list]
  refine execs_cons' (X₄.assign P (x := "both") (d := .pl "list" ((ts ++ ts.map (capwL · mk)).map St)) (EvE.bin (P.nm X₄ "texts").list (P.nm X₄ "forms").list fun s a b k ha hb => by
    rw [List.map_append]; exact op_add_strs (by rw [List.length_map, List.length_map, List.length_map, sizeLine_eq]; omega) ha hb) fun s₅ X₅ => ?_)
  have kp5 := X₅.keep
  have hbs : ∀ t ∈ ts ++ ts.map (capwL · mk), (∀ c ∈ t, c ∈ abc) ∧ t.length ≤ 40 := by
    intro t ht
    rcases List.mem_append.mp ht with ht | ht
    · obtain ⟨a, b⟩ := hts t ht
      exact ⟨a, by omega⟩
    · obtain ⟨u, hu', rfl⟩ := List.mem_map.mp ht
      obtain ⟨a, b⟩ := hts u hu'
      refine ⟨capwL_abc a hmk, ?_⟩
      have := capwL_len (l := u) hmk
      show (capwL u mk).length ≤ 40
      omega
  refine execs_cons' (X₅.assignc P (x := "reads") (d := .pl "list" ((ts ++ ts.map (capwL · mk)).map fun t => St (readL mk t))) (EvE.comp (fun _ => true) (elStr fun x => .str (St (readL mk x.cps.toList))) hh rfl (by decide) rfl (by decide) rfl
    (P.nm X₅ "both").list (fun v h hv => src_strs hv) (by rw [List.length_map, List.length_map, List.length_append, List.length_map, sizeLine_eq]; omega) (fun a ha _ => by obtain ⟨x, hx, rfl⟩ := List.mem_map.mp ha; rfl) (fun a C h₃ _ _ _ => Tests.nil)
    (fun a C h₃ ha _ k hn => ?_) (fun l vs h' hl hp e => out_strs hp ?_)) rfl fun s₆ X₆ => ?_)
  · obtain ⟨x, hx, rfl⟩ := List.mem_map.mp ha
    obtain ⟨p, hp, rfl⟩ := List.mem_map.mp hx
    obtain ⟨hpa, hpl⟩ := hbs p hp
    have kk := stays_trans kp5 k
    show EvE _ _ _ _ (.str (St (readL mk (St p).cps.toList))) _
    rw [St_list]
    exact EvE.call2 (comp_glob P.hg P.hb rfl (B.gR.mono kk) rfl) (B.xR.mono kk).o (B.xR.mono kk).d (EvE.name hn) (EvE.name (comp_cell P X₅ rfl k "mark" (fun c e => e) rfl rfl rfl)) (fun s v u k' hv hu => read_spec (B.xR.mono (stays_trans kk k')) hh hdd (by omega) hv hu)
  · rw [e, List.filter_eq_self.mpr (fun _ _ => rfl), List.map_map, List.map_map, List.map_map]
    exact List.map_congr_left fun p _ => by show D.str (St (readL mk (St p).cps.toList)) = D.str (St (readL mk p)); rw [St_list]
  have kp6 := X₆.keep
  have hRl : ((ts ++ ts.map (capwL · mk)).map fun t => St (readL mk t)).length ≤ 1000 := by rw [List.length_map, List.length_append, List.length_map]; omega
  refine execs_cons' (exec_if (EvT.cmp
    (EvE.lstrslice (P.ce X₆ "reads").list (EvP.yes (EvE.bcall1 (P.gn (B.gLen.mono kp6)) (P.nm X₆ "texts").list (fun s v k hv => op_len_strs (by rw [List.length_map, sizeLine_eq]; omega) hv))) EvP.no (by rw [sizeLine_eq]; omega)).list
    (EvE.lstrslice (P.ce X₆ "reads").list EvP.no (EvP.yes (EvE.bcall1 (P.gn (B.gLen.mono kp6)) (P.nm X₆ "texts").list (fun s v k hv => op_len_strs (by rw [List.length_map, sizeLine_eq]; omega) hv))) (by rw [sizeLine_eq]; omega)).list
    fun s a b k ha hb => op_ne_strs hu ha hb) fun s₇ k₇ => ?_)
  rw [cut_drop, cut_take, List.length_map, show ((((ts ++ ts.map (capwL · mk)).map fun t => St (readL mk t)).drop ts.length) != (((ts ++ ts.map (capwL · mk)).map fun t => St (readL mk t)).take ts.length)) = false by
    rw [List.map_append, List.drop_left' (by rw [List.length_map]), List.take_left' (by rw [List.length_map]), List.map_map]
    have : (ts.map ((fun t => St (readL mk t)) ∘ fun x => capwL x mk)) = ts.map fun t => St (readL mk t) := List.map_congr_left fun t _ => by show St (readL mk (capwL t mk)) = _; rw [read_cap hmk]
    rw [this]; simp, if_neg (by decide)]
  have X₇ := X₆.kp k₇
  refine wpAny_execs_nil ?_
  exact law2_mid B hmk hm1 htl hbs (X₇.less' (by simp only [List.forall_mem_cons, List.not_mem_nil, false_implies, implies_true, and_true]; exact ⟨rfl, rfl⟩) (by simp only [List.forall_mem_cons, List.not_mem_nil, false_implies, implies_true, and_true]; exact ⟨rfl, rfl⟩)) hh hd hu hfr
end
end Mine
namespace Mine
def fdAt (K : Frag) (f : Addr) : FuncData := (fdIn K f).getD default
/-- a def's object and its code -/
structure FdOk (K : Frag) (f : Addr) (st : Option Stmt) (dv : Value) : Prop where
  fd : fdIn K f = some (FD st (fdAt K f) dv)
  code : codeIn K (FD st (fdAt K f) dv).code (FD st (fdAt K f) dv).qualname = true
structure KF2 (K : Frag) (C pI pF fI fT fN : Addr) (i j : Nat) (fC Td fF fX fR fTt : Addr) : Prop where
  cls : Cls K C pI pF fI fT fN i j
  oI : FdOk K fI (mtAt 1 1) .none
  oT : FdOk K fT (mtAt 1 2) .none
  oN : FdOk K fN (mtAt 1 3) .none
  oC : FdOk K fC (stAt 5) (.ref Td)
  oF : FdOk K fF (stAt 3) .none
  oX : FdOk K fX (stAt 7) .none
  oR : FdOk K fR (stAt 8) .none
  oQ : FdOk K fTt (stAt 9) .none
  td : ∃ c d n sl, K.lookup Td = some ⟨c, d, .seq #[.none] n, sl⟩
  gC : nsIn K mainGlobals "capwords" = some (some (.ref fC))
  gff : nsIn K mainGlobals "filterfalse" = some (some (.ref C))
  gF : nsIn K mainGlobals "_filter" = some (some (.ref fF))
  gX : nsIn K mainGlobals "_law_text" = some (some (.ref fX))
  gR : nsIn K mainGlobals "_law_read" = some (some (.ref fR))
  gT : nsIn K mainGlobals "_law_titled" = some (some (.ref fTt))
  nlist : nsIn K mainGlobals "list" = some none
  niter : nsIn K mainGlobals "iter" = some none
  nnext : nsIn K mainGlobals "next" = some none
  nbool : nsIn K mainGlobals "bool" = some none
  nstr : nsIn K mainGlobals "str" = some none
  nmap : nsIn K mainGlobals "map" = some none
  nlen : nsIn K mainGlobals "len" = some none
  nrange : nsIn K mainGlobals "range" = some none
theorem bb_list : bootBuiltins "list" = some (.type "list") := by kernel_rfl
theorem bb_iter : bootBuiltins "iter" = some (.builtin "iter") := by kernel_rfl
theorem bb_next : bootBuiltins "next" = some (.builtin "next") := by kernel_rfl
theorem bb_bool : bootBuiltins "bool" = some (.type "bool") := by kernel_rfl
theorem bb_str : bootBuiltins "str" = some (.type "str") := by kernel_rfl
theorem bb_map : bootBuiltins "map" = some (.type "map") := by kernel_rfl
theorem bb_len : bootBuiltins "len" = some (.builtin "len") := by kernel_rfl
theorem bb_range : bootBuiltins "range" = some (.type "range") := by kernel_rfl
section
variable {K : Frag} {h : Heap} {mg mb : Str → Option Value} {p : Program} {loose : List Str} {C pI pF fI fT fN : Addr} {i j : Nat} {fC Td fF fX fR fTt : Addr}
theorem FdOk.fn {f : Addr} {st : Option Stmt} {dv : Value} (o : FdOk K f st dv) (X : K.In h) (lim : h.NoLimit) : Fn h f (FD st (fdAt K f) dv) := fn_of X lim o.fd o.code
theorem lib2_of (X : K.In h) (T : TopRead p loose mg mb h) (lim : h.NoLimit) (Y : KF2 K C pI pF fI fT fN i j fC Td fF fX fR fTt) :
    Lib2 K C pI pF fI fT fN i j (fdAt K fI) (fdAt K fT) (fdAt K fN) (fdAt K fC) (fdAt K fF) (fdAt K fX) (fdAt K fR) (fdAt K fTt) fC Td fF fX fR fTt h where
  flt := ⟨Y.cls, X, Y.oI.fn X lim, Y.oT.fn X lim, Y.oN.fn X lim, gn_built X T Y.nlist bb_list (by decide), gn_built X T Y.niter bb_iter (by decide), gn_built X T Y.nnext bb_next (by decide), gn_built X T Y.nbool bb_bool (by decide), gn_glob X T.g Y.gff⟩
  cap := ⟨Y.oC.fn X lim, gn_built X T Y.nstr bb_str (by decide), gn_built X T Y.nmap bb_map (by decide), let ⟨c, d, n, sl, e⟩ := Y.td; ⟨_, n, X _ _ e, rfl⟩⟩
  gC := gn_glob X T.g Y.gC
  xF := Y.oF.fn X lim
  gF := gn_glob X T.g Y.gF
  xX := Y.oX.fn X lim
  gX := gn_glob X T.g Y.gX
  xR := Y.oR.fn X lim
  gR := gn_glob X T.g Y.gR
  xT := Y.oQ.fn X lim
  gT := gn_glob X T.g Y.gT
  gLen := gn_built X T Y.nlen bb_len (by decide)
  gRange := gn_built X T Y.nrange bb_range (by decide)
end
abbrev KFb (K : Frag) : Prop := KF2 K 47 49 48 29 36 43 1 0 66 59 58 73 80 87
theorem lib2_at {K : Frag} {h : Heap} {mg mb : Str → Option Value} {p : Program} {loose : List Str} (X : K.In h) (T : TopRead p loose mg mb h) (lim : h.NoLimit) (Y : KFb K) : Lib2 K 47 49 48 29 36 43 1 0 (fdAt K 29) (fdAt K 36) (fdAt K 43) (fdAt K 66) (fdAt K 58) (fdAt K 73) (fdAt K 80) (fdAt K 87) 66 59 58 73 80 87 h := lib2_of X T lim Y

theorem loc_start {s₁ : Shared} {L : Addr} {h₁ : Heap} {tk : Nat} {m : Str → Option Value} {a : Addr} {vs : List Value} {ns : List Int} {cs : List (Str × Addr)} {cells : List (Addr × Obj)} (F : Fr s₁.heap L h₁ m) (N : News s₁.heap L h₁ cells) (hm : m "script" = some (.ref a)) (hl : s₁.heap.IsList a vs.toArray) (hi : IntsAre vs ns)
    (hc : ∀ x c, cs.lookup x = some c → ∃ o, (c, o) ∈ cells ∧ ∃ ov, o.data = .cell ov) (ap : ∀ x y c, cs.lookup x = some c → cs.lookup y = some c → x = y) : LocC s₁ L cs [("script", .lint ns)] [] { s₁ with heap := h₁, toks := tk } where
  ns := ⟨m, F.ns, fun x d e => by
    by_cases q : x = "script"
    · subst q; cases e; exact ⟨_, hm, a, vs, rfl, isList_keep F.keep hl, hi⟩
    · have q' : (x == "script") = false := by simpa using q
      simp only [List.lookup, q'] at e; cases e⟩
  cl := fun x d e => by cases e
  un := fun x c e => let ⟨o, hm, ov, hd⟩ := hc x c e; ⟨ov, o, (N _ hm).1, hd⟩
  ap := ap
  fresh := fun x c e => let ⟨o, hm, _⟩ := hc x c e; ⟨(N _ hm).2.1, (N _ hm).2.2⟩
  keep := F.keep
  nL := Heap.get?_none_of_le F.above
  same := ⟨h₁, tk, rfl⟩
theorem cs2_look {L : Addr} {x : Str} {c : Addr} (e : (cs2 L).lookup x = some c) : (x = "first" ∧ c = L + 1 + 1 + 1 + 1) ∨ (x = "again" ∧ c = L + 1 + 1 + 1) ∨ (x = "reads" ∧ c = L + 1 + 1) ∨ (x = "mark" ∧ c = L + 1) := by
  have := mem_of_lookup e
  unfold cs2 at this
  simp only [List.mem_cons, List.not_mem_nil, or_false, Prod.mk.injEq] at this
  exact this
theorem cs2_ap {L : Addr} (x y : Str) (c : Addr) (e : (cs2 L).lookup x = some c) (e' : (cs2 L).lookup y = some c) : x = y := by
  have k : ∀ n : Nat, n ≠ n + 1 ∧ n ≠ n + 1 + 1 ∧ n ≠ n + 1 + 1 + 1 := fun n => ⟨by omega, by omega, by omega⟩
  rcases cs2_look e with ⟨rfl, rfl⟩ | ⟨rfl, rfl⟩ | ⟨rfl, rfl⟩ | ⟨rfl, rfl⟩ <;> rcases cs2_look e' with ⟨rfl, h⟩ | ⟨rfl, h⟩ | ⟨rfl, h⟩ | ⟨rfl, h⟩ <;> first | rfl | (exfalso; have h' : (_ : Nat) = _ := h; omega)
theorem loc2 {s₁ : Shared} {L : Addr} {h₁ : Heap} {tk : Nat} {m : Str → Option Value} {a : Addr} {vs : List Value} {ns : List Int} {o1 o2 o3 o4 : Obj} (F : Fr s₁.heap L h₁ m) (N : News s₁.heap L h₁ [(L + 1 + 1 + 1 + 1, o1), (L + 1 + 1 + 1, o2), (L + 1 + 1, o3), (L + 1, o4)]) {v1 v2 v3 v4 : Option Value} (d1 : o1.data = .cell v1) (d2 : o2.data = .cell v2) (d3 : o3.data = .cell v3) (d4 : o4.data = .cell v4)
    (hm : m "script" = some (.ref a)) (hl : s₁.heap.IsList a vs.toArray) (hi : IntsAre vs ns) : LocC s₁ L (cs2 L) [("script", .lint ns)] [] { s₁ with heap := h₁, toks := tk } :=
  loc_start F N hm hl hi (fun x c e => by
    rcases cs2_look e with ⟨rfl, rfl⟩ | ⟨rfl, rfl⟩ | ⟨rfl, rfl⟩ | ⟨rfl, rfl⟩
    · exact ⟨o1, .head _, _, d1⟩
    · exact ⟨o2, .tail _ (.head _), _, d2⟩
    · exact ⟨o3, .tail _ (.tail _ (.head _)), _, d3⟩
    · exact ⟨o4, .tail _ (.tail _ (.tail _ (.head _))), _, d4⟩) cs2_ap
theorem len_of {n : Nat} (h : ¬ ((63 : Nat) : Int) < (n : Int)) : n ≤ 63 := by omega
end Mine
open Mine in
set_option maxRecDepth 100000 in
set_option maxHeartbeats 16000000 in
theorem PySem.Challenge.cw_ij0151_02_holds : PySem.Challenge.rw_ij0151_02.Holds := by
  w_on
  o_law
  k_head
  case hw => w_witness2
  k_go0
  have KX := ‹Frag.In _ _›
  have hT := ‹Top _ _ _ _ _ _›
  have hF := ‹Fr _ _ _ _›
  have hN := ‹News _ _ _ _›
  have hlen := ‹¬ ((63 : Nat) : Int) < _›
  have hI := ‹IntsAre _ _›
  have hl := ‹Heap.IsList _ _ _›
  have hg := ‹Shared.gens _ = #[]›
  have B := lib2_at KX (topRead_of hT) hT.nolimit (by
    constructor
    case cls => constructor <;> first | exact .inr ⟨rfl, rfl⟩ | k_is
    case td => exact ⟨_, _, _, _, by k_is⟩
    all_goals first | k_is | (constructor <;> kernel_rfl))
  have X₁ := fun tk => loc2 (tk := tk) hF hN (by assumption) (by assumption) (by assumption) (by assumption) rfl hl hI
  refine wpAny_mono (law2_body B (by have := len_of hlen; omega) (X₁ _) rfl ?d ?u rfl) (fun fl s' h => ?Q) (fun _ _ z => z.elim)
  case d => simp only [depth_deeper, depth_caller]; decide
  case u => simp only [units_deeper, units_caller]; decide
  case Q =>
    obtain ⟨rfl, hk, h2, t2, rfl⟩ := h
    exact ⟨.inl ⟨.bool true, .bool true, [], rfl, fun _ => rfl, .bool true, (by kernel_rfl), fun _ => ⟨List.nodup_nil, fun _ z => nomatch z⟩⟩, hk, rfl, hg⟩
