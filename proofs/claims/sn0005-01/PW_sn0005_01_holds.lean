import PyProof.Rows.All
import Wide.All
import OpenK.AllK
import Wide.FinOn
import PyProof.AutoFloatOpsIf
import PySem.Challenge.RW_sn0005_01
set_option Elab.async false
section
open PySem PySem.Calls PyProof.Rows PySem.W
namespace Mine

/-- every object stands as it stood -/
def Kp (h h' : Heap) : Prop := ∀ b o, h.get? b = some o → h'.get? b = some o
theorem Kp.refl (h : Heap) : Kp h h := fun _ _ e => e
theorem Kp.trans {a b c : Heap} (x : Kp a b) (y : Kp b c) : Kp a c := fun _ _ e => y _ _ (x _ _ e)
theorem Kp.push (h : Heap) (o : Obj) : Kp h (h.push o) := fun _ _ e => Heap.get?_push_of_some _ e

/-- flat data: no lists within -/
inductive FV where
  | none
  | bool (b : Bool)
  | int (i : Int)
  | float (x : UInt64)
  | str (x : Str)
  | bytes (b : Array UInt8)
  | tup (ds : List FV)

def lO (vs : List Value) (n : Nat) : Obj := { cls := .type "list", data := .seq vs.toArray n }
def tO (vs : List Value) : Obj := { cls := .type "tuple", data := .seq vs.toArray }

mutual
inductive Rf (h : Heap) : Value → FV → Prop
  | none : Rf h Value.none FV.none
  | bool (b : Bool) : Rf h (Value.bool b) (FV.bool b)
  | int (i : Int) (t : Tok) : Rf h (Value.int i t) (FV.int i)
  | float (x : UInt64) (t : Tok) (ht : t ≠ 0) : Rf h (Value.float x t) (FV.float x)
  | str (x : Str) (t : Tok) : Rf h (Value.str x t) (FV.str x)
  | bytes (b : Array UInt8) (t : Tok) : Rf h (Value.bytes b t) (FV.bytes b)
  | tup {a : Addr} {vs : List Value} {ds : List FV} : h.get? a = some (tO vs) → Rfs h vs ds → Rf h (Value.ref a) (FV.tup ds)
inductive Rfs (h : Heap) : List Value → List FV → Prop
  | nil : Rfs h [] []
  | cons {v : Value} {vs : List Value} {d : FV} {ds : List FV} : Rf h v d → Rfs h vs ds → Rfs h (v :: vs) (d :: ds)
end

/-- tuples stand as they stood -/
def Kt (h h' : Heap) : Prop := ∀ a vs, h.get? a = some (tO vs) → h'.get? a = some (tO vs)
theorem Kp.toT {h h' : Heap} (k : Kp h h') : Kt h h' := fun _ _ e => k _ _ e
theorem Kt.trans {a b c : Heap} (x : Kt a b) (y : Kt b c) : Kt a c := fun _ _ e => y _ _ (x _ _ e)
theorem Kt.same {h h' : Heap} {b : Addr} {o : Obj} (hs : Heap.SameBut b h h') (hb : h.get? b = some o) (hne : ∀ vs, o ≠ tO vs) : Kt h h' := by
  intro a vs e
  by_cases hab : a = b
  · subst hab; rw [hb] at e; exact absurd (Option.some.inj e) (hne vs)
  · rw [hs.2 a hab]; exact e

mutual
theorem Rf.kt {h h' : Heap} (k : Kt h h') : ∀ {v : Value} {d : FV}, Rf h v d → Rf h' v d
  | _, _, .none => .none
  | _, _, .bool b => .bool b
  | _, _, .int i t => .int i t
  | _, _, .float i t ht => .float i t ht
  | _, _, .str x t => .str x t
  | _, _, .bytes b t => .bytes b t
  | _, _, .tup e r => .tup (k _ _ e) (Rfs.kt k r)
theorem Rfs.kt {h h' : Heap} (k : Kt h h') : ∀ {vs : List Value} {ds : List FV}, Rfs h vs ds → Rfs h' vs ds
  | _, _, .nil => .nil
  | _, _, .cons a r => .cons (Rf.kt k a) (Rfs.kt k r)
end
theorem Rf.kp {h h' : Heap} (k : Kp h h') {v : Value} {d : FV} (r : Rf h v d) : Rf h' v d := r.kt k.toT
theorem Rfs.kp {h h' : Heap} (k : Kp h h') {vs : List Value} {ds : List FV} (r : Rfs h vs ds) : Rfs h' vs ds := r.kt k.toT

section
variable {h : Heap} {vs ws : List Value} {ds es : List FV} {v : Value} {d : FV}
theorem Rfs.length (r : Rfs h vs ds) : vs.length = ds.length := by
  induction vs generalizing ds with
  | nil => cases r; rfl
  | cons v vs ih => cases r with | cons _ r => simp [ih r]
theorem Rfs.append (r : Rfs h vs ds) (k : Rfs h ws es) : Rfs h (vs ++ ws) (ds ++ es) := by
  induction vs generalizing ds with
  | nil => cases r; exact k
  | cons v vs ih => cases r with | cons a r => exact .cons a (ih r)
theorem Rfs.one (r : Rf h v d) : Rfs h [v] [d] := .cons r .nil
theorem Rfs.get (r : Rfs h vs ds) {k : Nat} {d : FV} (hk : ds[k]? = some d) : ∃ v, vs[k]? = some v ∧ Rf h v d := by
  induction vs generalizing ds k with
  | nil => cases r; simp at hk
  | cons v vs ih =>
    cases r with
    | cons a r =>
      cases k with
      | zero => simp at hk; subst hk; exact ⟨v, rfl, a⟩
      | succ k => simpa using ih r (by simpa using hk)
theorem Rfs.getV (r : Rfs h vs ds) {k : Nat} {v : Value} (hk : vs[k]? = some v) : ∃ d, ds[k]? = some d ∧ Rf h v d := by
  induction vs generalizing ds k with
  | nil => simp at hk
  | cons v vs ih =>
    cases r with
    | cons a r =>
      cases k with
      | zero => simp at hk; subst hk; exact ⟨_, rfl, a⟩
      | succ k => simpa using ih r (by simpa using hk)
theorem Rfs.snoc (r : Rfs h (vs ++ [v]) ds) : ∃ es d, ds = es ++ [d] ∧ Rfs h vs es ∧ Rf h v d := by
  induction vs generalizing ds with
  | nil => cases r with | cons a r => cases r; exact ⟨[], _, rfl, .nil, a⟩
  | cons u vs ih =>
    cases r with
    | cons a r =>
      obtain ⟨es, d, rfl, hr, hd⟩ := ih r
      exact ⟨_ :: es, d, rfl, .cons a hr, hd⟩
theorem Rfs.split {es' : List FV} (r : Rfs h vs (es ++ es')) : ∃ us ws, vs = us ++ ws ∧ Rfs h us es ∧ Rfs h ws es' := by
  induction es generalizing vs with
  | nil => exact ⟨[], vs, rfl, .nil, r⟩
  | cons e es ih =>
    cases r with
    | cons a r =>
      obtain ⟨us, ws, rfl, p, q⟩ := ih r
      exact ⟨_ :: us, ws, rfl, .cons a p, q⟩
end

/-- the list at a -/
def Li (h : Heap) (a : Addr) (ds : List FV) : Prop := ∃ vs n, h.get? a = some (lO vs n) ∧ Rfs h vs ds
theorem Li.kp {h h' : Heap} (k : Kp h h') {a : Addr} {ds : List FV} (l : Li h a ds) : Li h' a ds :=
  let ⟨vs, n, e, r⟩ := l; ⟨vs, n, k _ _ e, r.kp k⟩
theorem lO_ne {vs ws : List Value} {n : Nat} : lO vs n ≠ tO ws := fun e => by
  have := congrArg Obj.cls e
  simp [lO, tO] at this
theorem Li.same {h h' : Heap} {b a : Addr} {o : Obj} {ds : List FV} (l : Li h a ds) (hs : Heap.SameBut b h h') (hab : a ≠ b) (hb : h.get? b = some o) (hne : ∀ vs, o ≠ tO vs) : Li h' a ds :=
  let ⟨vs, n, e, r⟩ := l; ⟨vs, n, (hs.2 a hab).trans e, r.kt (Kt.same hs hb hne)⟩
theorem Li.isList {h : Heap} {a : Addr} {ds : List FV} (l : Li h a ds) : ∃ vs : List Value, h.IsList a vs.toArray ∧ Rfs h vs ds :=
  let ⟨vs, n, e, r⟩ := l; ⟨vs, ⟨_, e, rfl, n, rfl⟩, r⟩

section
variable (prog : Program) (w : World)
/-- from s the tree gives a value, everything kept, no exception -/
@[irreducible] def Ev {α : Type} (A : Around) (s : Shared) (t : Sem α) (P : α → Heap → Prop) : Prop :=
  ∀ (Q : α → Shared → Prop) (E : Value → Shared → Prop), (∀ v h k, Kp s.heap h → 0 < k → P v h → Q v { s with heap := h, toks := k }) → 0 < s.toks → wpAny (model prog w) A t Q E s
/-- the expression's value, at any later heap -/
@[irreducible] def EV (A : Around) (env : Env) (h : Heap) (e : PySem.Expr) (P : Value → Heap → Prop) : Prop := ∀ s : Shared, Kp h s.heap → Ev prog w A s (eval e env) P
@[irreducible] def TV (A : Around) (env : Env) (h : Heap) (e : PySem.Expr) (P : Bool → Heap → Prop) : Prop := ∀ s : Shared, Kp h s.heap → Ev prog w A s (isTrue e env (eval e env)) P
@[irreducible] def LV (A : Around) (env : Env) (h : Heap) (x : Str) (P : Value → Heap → Prop) : Prop := ∀ s : Shared, Kp h s.heap → Ev prog w A s (loadName env x) P
end
/-- flat data as a postcondition -/
def F (d : FV) : Value → Heap → Prop := fun v h => Rf h v d
/-- a value itself -/
def Is (u : Value) : Value → Heap → Prop := fun v _ => v = u
/-- a list, fresh above h₀ -/
def Nw (h₀ : Heap) (ds : List FV) : Value → Heap → Prop := fun v h => ∃ a, v = .ref a ∧ h₀.get? a = none ∧ Li h a ds
/-- any list -/
def Ls (ds : List FV) : Value → Heap → Prop := fun v h => ∃ a, v = .ref a ∧ Li h a ds

section
variable {prog : Program} {w : World} {α β : Type} {A : Around} {s : Shared} {env : Env} {h : Heap}
/-- from a wp rule -/
theorem Ev.of {t : Sem α} {P : α → Heap → Prop} (a : ∀ (Q : α → Shared → Prop) (E : Value → Shared → Prop), 0 < s.toks → (∀ v h k, Kp s.heap h → P v h → Q v { s with heap := h, toks := k }) → wpAny (model prog w) A t Q E s) : Ev prog w A s t P := by with_unfolding_all
  intro Q E hQ h0
  exact wpAny_with_toks (n := 1) h0 (a _ _ h0 fun v h k kp p h1 => hQ v h k kp h1 p)
theorem Ev.bind {m : Sem α} {f : α → Sem β} {P : α → Heap → Prop} {R : β → Heap → Prop} (a : Ev prog w A s m P)
    (b : ∀ v h k, Kp s.heap h → 0 < k → P v h → Ev prog w A { s with heap := h, toks := k } (f v) R) : Ev prog w A s (m >>= f) R := by with_unfolding_all
  intro Q E hQ h0
  refine wpAny_bind (a _ E (fun v h k kp k0 p => ?_) h0)
  exact b v h k kp k0 p Q E (fun v' h' k' kp' k0' p' => hQ v' h' k' (kp.trans kp') k0' p') k0
theorem Ev.pure {a : α} {P : α → Heap → Prop} (p : P a s.heap) : Ev prog w A s (Pure.pure a) P := by with_unfolding_all exact (fun _ _ hQ h0 => wpAny_pure (hQ a s.heap s.toks (Kp.refl _) h0 p))

theorem Ev.mono {t : Sem α} {P R : α → Heap → Prop} (a : Ev prog w A s t P) (i : ∀ v h, Kp s.heap h → P v h → R v h) : Ev prog w A s t R := by with_unfolding_all exact (fun Q E hQ h0 => a Q E (fun v h k kp k0 p => hQ v h k kp k0 (i v h kp p)) h0)

theorem EV.mono {e : PySem.Expr} {P R : Value → Heap → Prop} (a : EV prog w A env h e P) (i : ∀ v h', Kp h h' → P v h' → R v h') : EV prog w A env h e R := by with_unfolding_all exact (fun s k => (a s k).mono fun v h' k' p => i v h' (k.trans k') p)

theorem EV.later {h' : Heap} {e : PySem.Expr} {P : Value → Heap → Prop} (a : EV prog w A env h e P) (k : Kp h h') : EV prog w A env h' e P := by with_unfolding_all exact (fun s k' => a s (k.trans k'))

/-- use in a wp goal -/
theorem EV.wp {e : PySem.Expr} {P : Value → Heap → Prop} {Q : Value → Shared → Prop} {E : Value → Shared → Prop} (a : EV prog w A env s.heap e P) (h0 : 0 < s.toks)
    (hQ : ∀ v h k, Kp s.heap h → 0 < k → P v h → Q v { s with heap := h, toks := k }) : wpAny (model prog w) A (eval e env) Q E s := by with_unfolding_all exact (a s (Kp.refl _) Q E hQ h0)

theorem TV.wp {e : PySem.Expr} {P : Bool → Heap → Prop} {Q : Bool → Shared → Prop} {E : Value → Shared → Prop} (a : TV prog w A env s.heap e P) (h0 : 0 < s.toks)
    (hQ : ∀ v h k, Kp s.heap h → 0 < k → P v h → Q v { s with heap := h, toks := k }) : wpAny (model prog w) A (isTrue e env (eval e env)) Q E s := by with_unfolding_all exact (a s (Kp.refl _) Q E hQ h0)

-- constants
theorem EV.cint {i : Int} {k : Nat} {pos : Pos} : EV prog w A env h (.Constant (.int i) k pos) (F (.int i)) := by with_unfolding_all exact (fun s _ => Ev.of fun _ _ _ hQ => wpAny_Constant_int (hQ _ s.heap _ (Kp.refl _) (.int _ _)))

theorem EV.cnone {k : Nat} {pos : Pos} : EV prog w A env h (.Constant .none k pos) (F .none) := by with_unfolding_all exact (fun s _ => Ev.of fun _ _ _ hQ => Constant_none (hQ _ s.heap s.toks (Kp.refl _) .none))

theorem EV.cbool {b : Bool} {k : Nat} {pos : Pos} : EV prog w A env h (.Constant (.bool b) k pos) (F (.bool b)) := by with_unfolding_all exact (fun s _ => Ev.of fun _ _ _ hQ => Constant_bool (hQ _ s.heap s.toks (Kp.refl _) (.bool _)))

theorem EV.cfloat {x : UInt64} {k : Nat} {pos : Pos} : EV prog w A env h (.Constant (.float x) k pos) (F (.float x)) := by with_unfolding_all exact (fun s _ => Ev.of fun _ _ h0 hQ _ _ _ => hQ _ s.heap (s.toks + 1) (Kp.refl _) (.float _ _ (Nat.ne_of_gt h0)))

theorem EV.cstr {x : Str} {k : Nat} {pos : Pos} : EV prog w A env h (.Constant (.str x) k pos) (F (.str x)) := by with_unfolding_all exact (fun s _ => Ev.of fun _ _ _ hQ _ _ _ => hQ _ s.heap (s.toks + 1) (Kp.refl _) (.str _ _))

theorem EV.cbytes {x : List UInt8} {k : Nat} {pos : Pos} : EV prog w A env h (.Constant (.bytes x) k pos) (F (.bytes x.toArray)) := by with_unfolding_all exact (fun s _ => Ev.of fun _ _ _ hQ _ _ _ => hQ _ s.heap (s.toks + 1) (Kp.refl _) (.bytes _ _))

-- names
theorem EV.name {x : Str} {pos : Pos} {P : Value → Heap → Prop} (a : LV prog w A env h x P) (hd : (x == ("__debug__" : Str)) = false := by decide) : EV prog w A env h (.Name x pos) P := by with_unfolding_all exact (fun s k Q E hQ h0 => wpAny_Name (a s k Q E hQ h0) hd)

theorem LV.local {x : Str} {m : Str → Option Value} {v : Value} {P : Value → Heap → Prop} (hn : h.Ns env.locals m) (hv : m x = some v) (hp : ∀ h', Kp h h' → P v h')
    (hk : env.scope.kind = .function := by rfl) (hl : env.kindOf x = some .local := by rfl) : LV prog w A env h x P := by with_unfolding_all exact (fun s k Q E hQ h0 => wpAny_loadName_local hk hl (hn.keeps k) hv (hQ v s.heap s.toks (Kp.refl _) h0 (hp _ k)))

-- operators
def Bin (prog : Program) (w : World) (op : Operator) (d1 d2 d : FV) : Prop := ∀ (A : Around) (s : Shared) v1 v2, Rf s.heap v1 d1 → Rf s.heap v2 d2 → Ev prog w A s (binaryOp op v1 v2) (F d)
theorem EV.bin {l r : PySem.Expr} {op : Operator} {pos : Pos} {P1 P2 P : Value → Heap → Prop} (a : EV prog w A env h l P1) (b : EV prog w A env h r P2)
    (m1 : ∀ v h h', P1 v h → Kp h h' → P1 v h')
    (c : ∀ (s : Shared) v1 v2, Kp h s.heap → P1 v1 s.heap → P2 v2 s.heap → Ev prog w A s (binaryOp op v1 v2) P) : EV prog w A env h (.BinOp l op r pos) P := by with_unfolding_all
  intro s k Q E hQ h0
  refine wpAny_BinOp (a s k _ E (fun v1 h1 k1 kp1 t1 p1 => ?_) h0)
  refine b _ (k.trans kp1) _ E (fun v2 h2 k2 kp2 t2 p2 => ?_) t1
  refine c _ v1 v2 ((k.trans kp1).trans kp2) (m1 _ _ _ p1 kp2) p2 Q E (fun v h k kp t p => ?_) t2
  exact hQ v h k ((kp1.trans kp2).trans kp) t p
theorem F.later {d : FV} : ∀ v h h', F d v h → Kp h h' → F d v h' := fun _ _ _ p k => Rf.kp k p
theorem EV.binF {l r : PySem.Expr} {op : Operator} {pos : Pos} {d1 d2 d : FV} (a : EV prog w A env h l (F d1)) (b : EV prog w A env h r (F d2)) (c : Bin prog w op d1 d2 d) :
    EV prog w A env h (.BinOp l op r pos) (F d) := EV.bin a b F.later fun s v1 v2 _ p1 p2 => c A s v1 v2 p1 p2
end
end Mine
end
section
open PySem PySem.Calls PyProof.Rows PySem.W
set_option linter.unusedVariables false
namespace Mine
section
variable {prog : Program} {w : World} {α β : Type} {A : Around} {s : Shared} {env : Env} {h : Heap}

-- int operators
theorem Bin.add {a b : Int} : Bin prog w .Add (.int a) (.int b) (.int (a + b)) := by
  intro A s v1 v2 r1 r2
  cases r1; cases r2
  exact Ev.of fun _ _ _ hQ => P.add_int (hQ _ s.heap _ (Kp.refl _) (.int _ _))
theorem Bin.sub {a b : Int} : Bin prog w .Sub (.int a) (.int b) (.int (a - b)) := by
  intro A s v1 v2 r1 r2
  cases r1; cases r2
  exact Ev.of fun _ _ _ hQ => P.sub_int (hQ _ s.heap _ (Kp.refl _) (.int _ _))
theorem Bin.mul {a b : Int} (hm : IntMulOk a b) : Bin prog w .Mult (.int a) (.int b) (.int (a * b)) := by
  intro A s v1 v2 r1 r2
  cases r1; cases r2
  exact Ev.of fun _ _ _ hQ => P.mul_int (hQ _ s.heap _ (Kp.refl _) (.int _ _)) hm
theorem Bin.mod {a b : Int} (hb : b ≠ 0) : Bin prog w .Mod (.int a) (.int b) (.int (a.fmod b)) := by
  intro A s v1 v2 r1 r2
  cases r1; cases r2
  exact Ev.of fun _ _ _ hQ => mod_int' hb (hQ _ s.heap _ (Kp.refl _) (.int _ _))
theorem Bin.fdiv {a b : Int} (hb : b ≠ 0) (hp : Builtin.divisionGoesByPylong a b = false) : Bin prog w .FloorDiv (.int a) (.int b) (.int (a.fdiv b)) := by
  intro A s v1 v2 r1 r2
  cases r1; cases r2
  exact Ev.of fun _ _ _ hQ => floordiv_int hb (hQ _ s.heap _ (Kp.refl _) (.int _ _)) (.inl hp)
/-- a unary minus -/
theorem EV.neg {x : PySem.Expr} {pos : Pos} {a : Int} (e : EV prog w A env h x (F (.int a))) : EV prog w A env h (.UnaryOp .USub x pos) (F (.int (-a))) := by with_unfolding_all
  intro s k Q E hQ h0
  refine UnaryOp_ (e s k _ E (fun v h1 k1 kp1 t1 p1 => ?_) h0)
  cases p1
  refine Ev.of (P := F (.int (-a))) (fun _ _ _ hR => P.neg_int (hR _ h1 _ (Kp.refl _) (.int _ _))) Q E (fun v h k kp t p => hQ v h k (kp1.trans kp) t p) t1

-- comparisons: one operator
theorem EV.cmp {l r : PySem.Expr} {op : CmpOp} {pos : Pos} {P1 P2 P : Value → Heap → Prop} (a : EV prog w A env h l P1) (b : EV prog w A env h r P2)
    (m1 : ∀ v h h', P1 v h → Kp h h' → P1 v h')
    (c : ∀ (s : Shared) v1 v2, Kp h s.heap → P1 v1 s.heap → P2 v2 s.heap → Ev prog w A s (compareOp op v1 v2) P)
    (hm : behindInMarks op r = false := by with_unfolding_all rfl) : EV prog w A env h (.Compare l [op] [r] pos) P := by with_unfolding_all
  intro s k Q E hQ h0
  refine wpAny_Compare1 (a s k _ E (fun v1 h1 k1 kp1 t1 p1 => ?_) h0) hm
  refine b _ (k.trans kp1) _ E (fun v2 h2 k2 kp2 t2 p2 => ?_) t1
  refine c _ v1 v2 ((k.trans kp1).trans kp2) (m1 _ _ _ p1 kp2) p2 Q E (fun v h k kp t p => ?_) t2
  exact hQ v h k ((kp1.trans kp2).trans kp) t p
/-- a test: one comparison whose value is the bool c -/
theorem TV.cmp {l r : PySem.Expr} {op : CmpOp} {pos : Pos} {P1 P2 : Value → Heap → Prop} {c : Bool} (a : EV prog w A env h l P1) (b : EV prog w A env h r P2)
    (m1 : ∀ v h h', P1 v h → Kp h h' → P1 v h')
    (d : ∀ (s : Shared) v1 v2, Kp h s.heap → P1 v1 s.heap → P2 v2 s.heap → Ev prog w A s (compareOp op v1 v2) (Is (.bool c)))
    (hm : behindInMarks op r = false := by with_unfolding_all rfl) : TV prog w A env h (.Compare l [op] [r] pos) (fun x _ => x = c) := by with_unfolding_all
  intro s k Q E hQ h0
  refine wpAny_isTrue_Compare1 (a s k _ E (fun v1 h1 k1 kp1 t1 p1 => ?_) h0) hm
  refine b _ (k.trans kp1) _ E (fun v2 h2 k2 kp2 t2 p2 => ?_) t1
  refine d _ v1 v2 ((k.trans kp1).trans kp2) (m1 _ _ _ p1 kp2) p2 _ E (fun v h k kp t p => ?_) t2
  cases p
  exact wpAny_truthy_bool (hQ c h k ((kp1.trans kp2).trans kp) t rfl)
def Cm (prog : Program) (w : World) (op : CmpOp) (d1 d2 : FV) (c : Bool) : Prop := ∀ (A : Around) (s : Shared) v1 v2, Rf s.heap v1 d1 → Rf s.heap v2 d2 → Ev prog w A s (compareOp op v1 v2) (Is (.bool c))
theorem EV.cmpF {l r : PySem.Expr} {op : CmpOp} {pos : Pos} {d1 d2 : FV} {c : Bool} (a : EV prog w A env h l (F d1)) (b : EV prog w A env h r (F d2)) (d : Cm prog w op d1 d2 c)
    (hm : behindInMarks op r = false := by with_unfolding_all rfl) : EV prog w A env h (.Compare l [op] [r] pos) (Is (.bool c)) := EV.cmp a b F.later (fun s v1 v2 _ p1 p2 => d A s v1 v2 p1 p2) hm
theorem TV.cmpF {l r : PySem.Expr} {op : CmpOp} {pos : Pos} {d1 d2 : FV} {c : Bool} (a : EV prog w A env h l (F d1)) (b : EV prog w A env h r (F d2)) (d : Cm prog w op d1 d2 c)
    (hm : behindInMarks op r = false := by with_unfolding_all rfl) : TV prog w A env h (.Compare l [op] [r] pos) (fun x _ => x = c) := TV.cmp a b F.later (fun s v1 v2 _ p1 p2 => d A s v1 v2 p1 p2) hm
theorem Cm.lt {a b : Int} : Cm prog w .Lt (.int a) (.int b) (decide (a < b)) := by
  intro A s v1 v2 r1 r2
  cases r1; cases r2
  exact Ev.of fun _ _ _ hQ => P.lt_int (hQ _ s.heap s.toks (Kp.refl _) rfl)
theorem Cm.gt {a b : Int} : Cm prog w .Gt (.int a) (.int b) (decide (a > b)) := by
  intro A s v1 v2 r1 r2
  cases r1; cases r2
  exact Ev.of fun _ _ _ hQ => P.gt_int (hQ _ s.heap s.toks (Kp.refl _) rfl)
theorem Cm.eq {a b : Int} : Cm prog w .Eq (.int a) (.int b) (a == b) := by
  intro A s v1 v2 r1 r2
  cases r1; cases r2
  exact Ev.of fun _ _ _ hQ => P.eq_int (hQ _ s.heap s.toks (Kp.refl _) rfl)
theorem Cm.ne {a b : Int} : Cm prog w .NotEq (.int a) (.int b) (a != b) := by
  intro A s v1 v2 r1 r2
  cases r1; cases r2
  exact Ev.of fun _ _ _ hQ => P.ne_int (hQ _ s.heap s.toks (Kp.refl _) rfl)
theorem Is.boolF {b : Bool} {v : Value} {h : Heap} (x : Is (.bool b) v h) : F (.bool b) v h := by cases x; exact .bool b

-- tests
theorem TV.plain {e : PySem.Expr} {P : Value → Heap → Prop} {R : Bool → Heap → Prop} (a : EV prog w A env h e P) (t : ∀ (s : Shared) v, Kp h s.heap → P v s.heap → Ev prog w A s (truthy v) R)
    (he : isTrue e env (eval e env) = (do let v ← eval e env; standAt e.pos; holding [v] (truthy v)) := by rfl) : TV prog w A env h e R := by with_unfolding_all
  intro s k Q E hQ h0
  refine isTrue_plain (a s k _ E (fun v h1 k1 kp1 t1 p1 => ?_) h0) he
  exact t _ v (k.trans kp1) p1 Q E (fun v h k kp t p => hQ v h k (kp1.trans kp) t p) t1
theorem truthy_bool {b : Bool} {v : Value} (r : Rf s.heap v (.bool b)) : Ev prog w A s (truthy v) (fun x _ => x = b) := by
  cases r
  exact Ev.of fun _ _ _ hQ => wpAny_truthy_bool (hQ b s.heap s.toks (Kp.refl _) rfl)
theorem truthy_int {i : Int} {v : Value} (r : Rf s.heap v (.int i)) : Ev prog w A s (truthy v) (fun x _ => x = (i != 0)) := by
  cases r
  exact Ev.of fun _ _ _ hQ => P.truthy_int (hQ _ s.heap s.toks (Kp.refl _) rfl)
theorem TV.bool {e : PySem.Expr} {b : Bool} (a : EV prog w A env h e (F (.bool b))) (he : isTrue e env (eval e env) = (do let v ← eval e env; standAt e.pos; holding [v] (truthy v)) := by rfl) :
    TV prog w A env h e (fun x _ => x = b) := TV.plain a (fun s v _ p => truthy_bool p) he
theorem TV.int {e : PySem.Expr} {i : Int} (a : EV prog w A env h e (F (.int i))) (he : isTrue e env (eval e env) = (do let v ← eval e env; standAt e.pos; holding [v] (truthy v)) := by rfl) :
    TV prog w A env h e (fun x _ => x = (i != 0)) := TV.plain a (fun s v _ p => truthy_int p) he
theorem TV.and_nil {pos : Pos} : TV prog w A env h (.BoolOp .And [] pos) (fun x _ => x = true) := by with_unfolding_all exact (fun s k => Ev.of fun _ _ _ hQ => isTrue_and_nil (hQ _ s.heap s.toks (Kp.refl _) rfl))

/-- short circuit: the rest is asked only where the first is true -/
theorem TV.and_cons {x : PySem.Expr} {rest : List PySem.Expr} {pos : Pos} {b c : Bool} (a : TV prog w A env h x (fun y _ => y = b)) (r : b = true → TV prog w A env h (.BoolOp .And rest pos) (fun y _ => y = c)) :
    TV prog w A env h (.BoolOp .And (x :: rest) pos) (fun y _ => y = (b && c)) := by with_unfolding_all
  intro s k Q E hQ h0
  refine isTrue_and (a s k _ E (fun v h1 k1 kp1 t1 p1 => ?_) h0)
  subst p1
  cases v with
  | false => exact hQ false h1 k1 kp1 t1 rfl
  | true => exact r rfl _ (k.trans kp1) Q E (fun v h k kp t p => hQ v h k (kp1.trans kp) t (by simpa using p)) t1

-- conditional expression, and (value)
theorem EV.ite {t b o : PySem.Expr} {pos : Pos} {c : Bool} {P : Value → Heap → Prop} (a : TV prog w A env h t (fun y _ => y = c)) (x : c = true → EV prog w A env h b P) (y : c = false → EV prog w A env h o P) :
    EV prog w A env h (.IfExp t b o pos) P := by with_unfolding_all
  intro s k Q E hQ h0
  refine IfExp_ (a s k _ E (fun v h1 k1 kp1 t1 p1 => ?_) h0)
  subst p1
  cases v with
  | false => exact y rfl _ (k.trans kp1) Q E (fun v h k kp t p => hQ v h k (kp1.trans kp) t p) t1
  | true => exact x rfl _ (k.trans kp1) Q E (fun v h k kp t p => hQ v h k (kp1.trans kp) t p) t1
theorem EV.and2 {e1 e2 : PySem.Expr} {pos : Pos} {b : Bool} {P : Value → Heap → Prop} (a : EV prog w A env h e1 (Is (.bool b))) (x : b = true → EV prog w A env h e2 P) (y : b = false → ∀ h', Kp h h' → P (.bool false) h') :
    EV prog w A env h (.BoolOp .And [e1, e2] pos) P := by with_unfolding_all
  intro s k Q E hQ h0
  refine BoolOp_and (a s k _ E (fun v h1 k1 kp1 t1 p1 => ?_) h0)
  cases p1
  refine wpAny_truthy_bool ?_
  cases b with
  | false => exact hQ _ h1 k1 kp1 t1 (y rfl _ (k.trans kp1))
  | true =>
    refine BoolOp_one ?_
    exact x rfl _ (k.trans kp1) Q E (fun v h k kp t p => hQ v h k (kp1.trans kp) t p) t1

-- argument lists
@[irreducible] def AV (prog : Program) (w : World) (A : Around) (env : Env) (h : Heap) (pos : Pos) (es : List PySem.Expr) (P : List Value → Heap → Prop) : Prop :=
  ∀ s : Shared, Kp h s.heap → Ev prog w A s (spliced (backTo pos (starEach es env))) P
theorem AV.nil {pos : Pos} {P : List Value → Heap → Prop} (p : ∀ h', Kp h h' → P [] h') : AV prog w A env h pos [] P := by with_unfolding_all exact (fun s k => Ev.of fun Q E h0 hQ => args_nil (hQ _ s.heap s.toks (Kp.refl _) (p _ k)))

theorem AV.cons {pos : Pos} {e : PySem.Expr} {es : List PySem.Expr} {P1 : Value → Heap → Prop} {P2 P : List Value → Heap → Prop} (a : EV prog w A env h e P1) (r : AV prog w A env h pos es P2)
    (m1 : ∀ v h h', P1 v h → Kp h h' → P1 v h') (i : ∀ v vs h', Kp h h' → P1 v h' → P2 vs h' → P (v :: vs) h')
    (he : starEach (e :: es) env = (false, eval e env) :: starEach es env := by rfl) : AV prog w A env h pos (e :: es) P := by with_unfolding_all
  intro s k Q E hQ h0
  refine args_cons (a s k _ E (fun v h1 k1 kp1 t1 p1 => ?_) h0) he
  exact r _ (k.trans kp1) _ E (fun vs h2 k2 kp2 t2 p2 => hQ _ h2 k2 (kp1.trans kp2) t2 (i v vs h2 ((k.trans kp1).trans kp2) (m1 _ _ _ p1 kp2) p2)) t1
def Fs (ds : List FV) : List Value → Heap → Prop := fun vs h => Rfs h vs ds
theorem AV.consF {pos : Pos} {e : PySem.Expr} {es : List PySem.Expr} {d : FV} {ds : List FV} (a : EV prog w A env h e (F d)) (r : AV prog w A env h pos es (Fs ds))
    (he : starEach (e :: es) env = (false, eval e env) :: starEach es env := by rfl) : AV prog w A env h pos (e :: es) (Fs (d :: ds)) := AV.cons a r F.later (fun v vs h' _ p q => .cons p q) he
theorem AV.nilF {pos : Pos} : AV prog w A env h pos [] (Fs []) := AV.nil fun _ _ => .nil
/-- the values as they are -/
theorem Is.later {u : Value} : ∀ v h h', Is u v h → Kp h h' → Is u v h' := fun _ _ _ p _ => p
theorem Ls.later {ds : List FV} : ∀ v h h', Ls ds v h → Kp h h' → Ls ds v h' := fun _ _ _ ⟨a, e, l⟩ k => ⟨a, e, l.kp k⟩
theorem Nw.later {h₀ : Heap} {ds : List FV} : ∀ v h h', Nw h₀ ds v h → Kp h h' → Nw h₀ ds v h' := fun _ _ _ ⟨a, e, f, l⟩ k => ⟨a, e, f, l.kp k⟩
theorem Nw.toLs {h₀ : Heap} {ds : List FV} {v : Value} {h : Heap} (n : Nw h₀ ds v h) : Ls ds v h := let ⟨a, e, _, l⟩ := n; ⟨a, e, l⟩
theorem EV.toLs {h₀ : Heap} {ds : List FV} {e : PySem.Expr} (a : EV prog w A env h e (Nw h₀ ds)) : EV prog w A env h e (Ls ds) := a.mono fun _ _ _ p => p.toLs

-- displays
theorem newTuple_ev {vs : List Value} {ds : List FV} (r : Rfs s.heap vs ds) (hsz : ds.length ≤ sizeLine) : Ev prog w A s (newTuple vs) (F (.tup ds)) := by
  refine Ev.of fun Q E h0 hQ => ?_
  unfold newTuple
  refine wpAny_newObj_type (hQ _ _ s.toks (Kp.push _ _) (.tup (Heap.get?_push_size _ rfl) (Rfs.kp (Kp.push _ _) r))) ?_
  show vs.toArray.size ≤ sizeLine
  rw [List.size_toArray, Rfs.length r]; exact hsz
theorem fresh_at {h h1 : Heap} (k : Kp h h1) : h.get? h1.objs.size = none := by
  cases q : h.get? h1.objs.size with
  | none => rfl
  | some o => exact absurd (Heap.lt_size (k _ _ q)) (Nat.lt_irrefl _)
theorem newList_ev {h₀ : Heap} {vs : List Value} {ds : List FV} (k : Kp h₀ s.heap) (r : Rfs s.heap vs ds) (hsz : ds.length ≤ sizeLine) : Ev prog w A s (newList vs) (Nw h₀ ds) := by
  refine Ev.of fun Q E h0 hQ => ?_
  unfold newList
  refine wpAny_newObj_type (hQ _ _ s.toks (Kp.push _ _) ⟨_, rfl, fresh_at k, vs, 0, Heap.get?_push_size _ rfl, Rfs.kp (Kp.push _ _) r⟩) ?_
  show vs.toArray.size ≤ sizeLine
  rw [List.size_toArray, Rfs.length r]; exact hsz
theorem EV.tup {es : List PySem.Expr} {n : Nat} {pos : Pos} {ds : List FV} (a : AV prog w A env h pos es (Fs ds)) (hsz : ds.length ≤ sizeLine := by decide) : EV prog w A env h (.Tuple es n pos) (F (.tup ds)) := by with_unfolding_all
  intro s k Q E hQ h0
  refine Tuple_ (a s k _ E (fun vs h1 k1 kp1 t1 p1 => ?_) h0)
  exact newTuple_ev (s := { s with heap := h1, toks := k1 }) p1 hsz Q E (fun v h k kp t p => hQ v h k (kp1.trans kp) t p) t1
theorem EV.list {es : List PySem.Expr} {pos : Pos} {ds : List FV} (a : AV prog w A env h pos es (Fs ds)) (hsz : ds.length ≤ sizeLine := by decide) : EV prog w A env h (.List es pos) (Nw h ds) := by with_unfolding_all
  intro s k Q E hQ h0
  refine List_ (a s k _ E (fun vs h1 k1 kp1 t1 p1 => ?_) h0)
  exact newList_ev (s := { s with heap := h1, toks := k1 }) (k.trans kp1) p1 hsz Q E (fun v h k kp t p => hQ v h k (kp1.trans kp) t p) t1
end
end Mine
end
section
open PySem PySem.Calls PyProof.Rows PySem.W
set_option linter.unusedVariables false
namespace Mine

/-- room for n more -/
structure Rm (A : Around) (n : Nat) : Prop where
  hh : A.handled = none
  dp : A.depth + n ≤ 900
  un : A.units + 10 * n ≤ 9000
theorem Rm.less {A : Around} {n m : Nat} (r : Rm A n) (h : m ≤ n) : Rm A m := ⟨r.hh, by have := r.dp; omega, by have := r.un; omega⟩
theorem Rm.in1 {A : Around} {n : Nat} (r : Rm A (n + 1)) : Rm A.in1 n := ⟨r.hh, by have := r.dp; show A.depth + n ≤ 900; omega, by have := r.un; show A.units + 1 + 10 * n ≤ 9000; omega⟩
theorem Rm.deeper {A : Around} {n : Nat} (r : Rm A (n + 1)) (env : Env) : Rm (A.deeper env) n := ⟨r.hh, by have := r.dp; show A.depth + 1 + n ≤ 900; omega, by have := r.un; show A.units + 3 + 10 * n ≤ 9000; omega⟩
theorem Rm.room {A : Around} {n : Nat} (r : Rm A n) : A.depth < recursionLimit := by have := r.dp; show A.depth < 1000; omega
theorem Rm.units {A : Around} {n : Nat} (r : Rm A n) : A.units < cLine := by have := r.un; show A.units < 9900; omega

section
variable {prog : Program} {w : World} {α β : Type} {A : Around} {s : Shared} {env : Env} {h : Heap}

-- names of the module and of the builtins
theorem LV.glob {x : Str} {mg : Str → Option Value} {v : Value} {P : Value → Heap → Prop} (hg : h.Ns env.globals mg) (hv : mg x = some v) (hp : ∀ h', Kp h h' → P v h')
    (hk : env.scope.kind = .function := by rfl) (hx : env.kindOf x = some .globalImplicit := by rfl) : LV prog w A env h x P := by with_unfolding_all
  intro s k Q E hQ h0
  rw [loadName_read hk hx]
  exact loadGlobal_global (hg.keeps k) hv (hQ v s.heap s.toks (Kp.refl _) h0 (hp _ k))
theorem LV.built {x : Str} {mg mb : Str → Option Value} {v : Value} (hg : h.Ns env.globals mg) (hm : mg x = none) (hb : h.Ns env.builtins mb) (hv : mb x = some v)
    (hk : env.scope.kind = .function := by rfl) (hx : env.kindOf x = some .globalImplicit := by rfl) : LV prog w A env h x (Is v) := by with_unfolding_all
  intro s k Q E hQ h0
  rw [loadName_read hk hx]
  exact loadGlobal_builtin (hg.keeps k) hm (hb.keeps k) hv (hQ v s.heap s.toks (Kp.refl _) h0 rfl)

-- calls
theorem EV.callB {f : Str} {p pos : Pos} {id : String} {e : PySem.Expr} {es : List PySem.Expr} {PS : List Value → Heap → Prop} {P : Value → Heap → Prop} (hf : LV prog w A env h f (Is (.builtin id)))
    (a : AV prog w A env h pos (e :: es) PS) (c : ∀ (s : Shared) vs, Kp h s.heap → PS vs s.heap → Ev prog w A s (call (.builtin id) vs) P)
    (hd : (f == ("__debug__" : Str)) = false := by decide) (he : starEach (e :: es) env = (false, eval e env) :: starEach es env := by rfl)
    (hplain : (backTo pos (starEach es env)).any (·.1) = false := by rfl) : EV prog w A env h (.Call (.Name f p) (e :: es) [] pos) P := by with_unfolding_all
  intro s k Q E hQ h0
  refine Call_Name rfl (wpAny_Name (hf s k _ E (fun v h1 k1 kp1 t1 p1 => ?_) h0) hd)
  cases p1
  refine callWith_builtin1 (a _ (k.trans kp1) _ E (fun vs h2 k2 kp2 t2 p2 => ?_) t1) he hplain
  exact c _ vs ((k.trans kp1).trans kp2) p2 Q E (fun v h k kp t p => hQ v h k ((kp1.trans kp2).trans kp) t p) t2
theorem EV.callT {f : Str} {p pos : Pos} {T : String} {e : PySem.Expr} {es : List PySem.Expr} {PS : List Value → Heap → Prop} {P : Value → Heap → Prop} (hf : LV prog w A env h f (Is (.type T)))
    (a : AV prog w A env h pos (e :: es) PS) (c : ∀ (s : Shared) vs, Kp h s.heap → PS vs s.heap → Ev prog w A s (call (.type T) vs) P)
    (hd : (f == ("__debug__" : Str)) = false := by decide) (he : starEach (e :: es) env = (false, eval e env) :: starEach es env := by rfl)
    (hplain : (backTo pos (starEach es env)).any (·.1) = false := by rfl) : EV prog w A env h (.Call (.Name f p) (e :: es) [] pos) P := by with_unfolding_all
  intro s k Q E hQ h0
  refine Call_Name rfl (wpAny_Name (hf s k _ E (fun v h1 k1 kp1 t1 p1 => ?_) h0) hd)
  cases p1
  refine PyProof.Rows.callWith_type1 (a _ (k.trans kp1) _ E (fun vs h2 k2 kp2 t2 p2 => ?_) t1) he hplain
  exact c _ vs ((k.trans kp1).trans kp2) p2 Q E (fun v h k kp t p => hQ v h k ((kp1.trans kp2).trans kp) t p) t2
theorem EV.callD {f : Str} {p pos : Pos} {fa : Addr} {o : Obj} {fd : FuncData} {e : PySem.Expr} {es : List PySem.Expr} {PS : List Value → Heap → Prop} {P : Value → Heap → Prop} (hf : LV prog w A env h f (Is (.ref fa)))
    (ho : h.get? fa = some o) (hdat : o.data = .func fd)
    (a : AV prog w A env h pos (e :: es) PS) (c : ∀ (s : Shared) vs, Kp h s.heap → PS vs s.heap → Ev prog w A s (call (.ref fa) vs) P)
    (hd : (f == ("__debug__" : Str)) = false := by decide) (he : starEach (e :: es) env = (false, eval e env) :: starEach es env := by rfl) : EV prog w A env h (.Call (.Name f p) (e :: es) [] pos) P := by with_unfolding_all
  intro s k Q E hQ h0
  refine Call_Name rfl (wpAny_Name (hf s k _ E (fun v h1 k1 kp1 t1 p1 => ?_) h0) hd)
  cases p1
  refine callWith_def (o := o) hdat (a _ (k.trans kp1) _ E (fun vs h2 k2 kp2 t2 p2 => ⟨((k.trans kp1).trans kp2) _ _ ho, ?_⟩) t1) he
  exact c _ vs ((k.trans kp1).trans kp2) p2 Q E (fun v h k kp t p => hQ v h k ((kp1.trans kp2).trans kp) t p) t2

/-- the end of a body -/
def Fin (s : Shared) (P : Value → Heap → Prop) : Flow → Shared → Prop := fun f s' => ∃ h k, s' = { s with heap := h, toks := k } ∧ Kp s.heap h ∧ P (match f with | .ret v => v | _ => .none) h
/-- a call of a def without cells -/
theorem Ev.callPos {name : Str} {params : Arguments} {body : List Stmt} {scope : Scope} {pm cd doc : Value} {a : Addr} {o : Obj} {args : List Value} {n : Nat} {P : Value → Heap → Prop}
    (rm : Rm A n) (ho : s.heap.get? a = some o) (hdata : o.data = .func (docDef name params body scope pm cd doc)) (hlim : s.heap.NoLimit) (hcd : s.heap.CodeRec cd name)
    (h : ∀ h₁ k, 0 < k → Fr s.heap s.heap.objs.size h₁ (fun x => ((params.args.map (·.arg)).zip args).reverse.lookup x) →
      wpAny (model prog w) (A.deeper (envOf name scope s.heap.objs.size a cd)) (execs body (envOf name scope s.heap.objs.size a cd)) (Fin s P) (fun _ _ => False) { s with heap := h₁, toks := k })
    (hbind : bindArgs (docDef name params body scope pm cd doc) ⟨args, []⟩ = Pure.pure ((params.args.map (·.arg)).zip args))
    (hloc : ∀ x ∈ (params.args.map (·.arg)).zip args, scope.names.lookup x.1 = some .local)
    (hco : scope.isCoroutine = false := by rfl) (hgen : scope.isGenerator = false := by rfl) (hk : scope.kind = .function := by rfl)
    (hcell : ∀ x ∈ scope.names, x.2 ≠ .cell := by decide) : Ev prog w A s (call (.ref a) args) P := by
  refine Ev.of fun Q E h0 hQ => wpAny_call (call_pos_ret rm.room ho hdata hlim hcd hbind hloc (fun h₁ Fh => ?_) hco hgen hk hcell)
  refine wpAny_mono (h h₁ _ (Nat.lt_of_lt_of_le h0 (Nat.le_add_right _ _)) Fh) (fun f s' hf => ?_) fun _ _ x => x
  obtain ⟨h2, k2, rfl, kp, p⟩ := hf
  exact hQ _ h2 k2 kp p

-- methods that change nothing
theorem EV.meth {o : PySem.Expr} {name : Str} {apos pos : Pos} {e : PySem.Expr} {es : List PySem.Expr} {T id : String} {P1 : Value → Heap → Prop} {P2 : List Value → Heap → Prop} {P : Value → Heap → Prop}
    (pa : PlainAttrs T) (slot : Slot T name id) (hty : typeOf (.builtin id) = pure (.type "method_descriptor"))
    (a : EV prog w A env h o P1) (m1 : ∀ v h h', P1 v h → Kp h h' → P1 v h')
    (hT : ∀ (s : Shared) v, P1 v s.heap → s.TypeIs v T ∧ ∀ a, v = .ref a → ∃ ob, s.heap.get? a = some ob ∧ ob.dict = none)
    (b : AV prog w A env h pos (e :: es) P2) (c : ∀ (s : Shared) v vs, Kp h s.heap → P1 v s.heap → P2 vs s.heap → Ev prog w A s (call (.builtin id) (v :: vs)) P)
    (hbase : attributeBase o name env (eval o env) = eval o env := by rfl)
    (hfew : ((backTo pos (starEach (e :: es) env)).all (fun x => !x.1) && (backToKw pos (keywordEach [] env)).all (fun x => x.1.isSome)
      && decide ((e :: es).length + ([] : List Keyword).length + (if ([] : List Keyword).isEmpty then 0 else 1) < 30)) = true := by rfl)
    (hline : (apos.endLine == pos.line) = true := by rfl) (he : starEach (e :: es) env = (false, eval e env) :: starEach es env := by rfl)
    (hplain : (backTo pos (starEach es env)).any (·.1) = false := by rfl) :
    EV prog w A env h (.Call (.Attribute o name apos) (e :: es) [] pos) P := by with_unfolding_all
  intro s k Q E hQ h0
  refine wpAny_Call_method_lateS hbase hfew hline (a s k _ E (fun v h1 k1 kp1 t1 p1 => ?_) h0)
  obtain ⟨q1, q2⟩ := hT { s with heap := h1, toks := k1 } v p1
  refine ⟨T, id, pa, slot, hty, q1, q2, ?_⟩
  refine callWith_method1 (b _ (k.trans kp1) _ E (fun vs h2 k2 kp2 t2 p2 => ?_) t1) he hplain
  exact c _ v vs ((k.trans kp1).trans kp2) (m1 _ _ _ p1 kp2) p2 Q E (fun v h k kp t p => hQ v h k ((kp1.trans kp2).trans kp) t p) t2

-- subscripts
theorem EV.sub {value slice : PySem.Expr} {pos : Pos} {P1 P2 P : Value → Heap → Prop} (a : EV prog w A env h value P1) (b : EV prog w A env h slice P2) (m1 : ∀ v h h', P1 v h → Kp h h' → P1 v h')
    (c : ∀ (s : Shared) o i, Kp h s.heap → P1 o s.heap → P2 i s.heap → (∃ T id, s.TypeIs o T ∧ typeLookup (.type T) "__getitem__" = pure (some (.builtin id))) ∧ Ev prog w A s (getItem o i) P)
    (hs : ∀ o i, ∃ l, subscripted slice false o i = operate l (getItem o i) := by intro _ _; exact ⟨_, by with_unfolding_all rfl⟩) : EV prog w A env h (.Subscript value slice pos) P := by with_unfolding_all
  intro s k Q E hQ h0
  refine PyProof.Rows.Subscript_ (a s k _ E (fun o h1 k1 kp1 t1 p1 => b _ (k.trans kp1) _ E (fun i h2 k2 kp2 t2 p2 => ?_) t1) h0)
  obtain ⟨⟨T, id, hT, hl⟩, g⟩ := c { s with heap := h2, toks := k2 } o i ((k.trans kp1).trans kp2) (m1 _ _ _ p1 kp2) p2
  unfold subscriptTail
  refine wpAny_bind ?_
  rw [getitemInPython_of_ne hT.not_modules]
  refine wpAny_bind (wpAny_specialOf hT hl ?_)
  obtain ⟨l, hl'⟩ := hs o i
  have fin : wpAny (model prog w) A (subscripted slice false o i) (fun r s₃ => wpAny (model prog w) A (letTemporaryGo value o r >>= fun _ => pure r) Q E s₃) E { s with heap := h2, toks := k2 } := by
    rw [hl']
    refine wpAny_operating (g _ E (fun v h k kp t p => ?_) t2)
    exact wpAny_bind (wpAny_letTemporaryGo (wpAny_pure (hQ v h k ((kp1.trans kp2).trans kp) t p)))
  first
    | exact wpAny_pure (wpAny_bind fin)
    | exact wpAny_bind (wpAny_pure (wpAny_bind fin))
    | exact wpAny_bind fin

theorem item_list {a : Addr} {ds : List FV} {k : Int} {u : Tok} {d : FV} (l : Li s.heap a ds) (h0 : 0 ≤ k) (h1 : k < 2 ^ 63) (hx : ds[k.toNat]? = some d) :
    (∃ T id, s.TypeIs (.ref a) T ∧ typeLookup (.type T) "__getitem__" = pure (some (.builtin id))) ∧ Ev prog w A s (getItem (.ref a) (.int k u)) (F d) := by
  obtain ⟨vs, hl, r⟩ := l.isList
  obtain ⟨v, hv, rv⟩ := r.get hx
  refine ⟨⟨"list", _, hl.typeIs, slot_list_getitem.lookup⟩, Ev.of fun Q E _ hQ => ?_⟩
  exact wpAny_getItem_list hl h0 h1 (by simpa using hv) (hQ v s.heap s.toks (Kp.refl _) rv)
theorem item_tup {a : Addr} {vs : List Value} {ds : List FV} {k : Nat} {u : Tok} {d : FV} (e : s.heap.get? a = some (tO vs)) (r : Rfs s.heap vs ds) (h1 : k < 2 ^ 60) (hx : ds[k]? = some d) :
    (∃ T id, s.TypeIs (.ref a) T ∧ typeLookup (.type T) "__getitem__" = pure (some (.builtin id))) ∧ Ev prog w A s (getItem (.ref a) (.int (k : Int) u)) (F d) := by
  obtain ⟨v, hv, rv⟩ := r.get hx
  have ht : IsTup s.heap a vs.toArray := ⟨_, e, rfl, 0, rfl⟩
  have hk : k < vs.length := by
    have := List.getElem?_eq_some_iff.mp hv
    exact this.1
  refine ⟨⟨"tuple", _, ht.typeIs, slot_tuple_getitem.lookup⟩, Ev.of fun Q E _ hQ => ?_⟩
  refine PyProof.Rows.getItem_tuple (j := k) ht (by omega) (by omega) ?_ (by simpa using hv) (hQ v s.heap s.toks (Kp.refl _) rv)
  have h2 : (k : Int) < (vs.length : Int) := by omega
  have h3 : ¬ ((k : Int) < 0) := by omega
  simp [seqIndex?, h2, h3]
theorem item_bytes {b : Array UInt8} {t u : Tok} {k : Int} (h0 : 0 ≤ k) (h1 : k < b.size) (hz : b.size ≤ 1000000) :
    (∃ T id, s.TypeIs (.bytes b t) T ∧ typeLookup (.type T) "__getitem__" = pure (some (.builtin id))) ∧ Ev prog w A s (getItem (.bytes b t) (.int k u)) (F (.int (b.toList.getD k.toNat 0).toNat)) := by
  refine ⟨⟨"bytes", _, typeIs_bytes _ _ _, FB.slot_bytes_getitem.lookup⟩, Ev.of fun Q E _ hQ => ?_⟩
  have := @getItem_bytes prog w A E s t u b.toList k Q (by simpa using (by omega : b.size ≤ 1099511627776)) h0 (by simpa using h1) (hQ _ s.heap _ (Kp.refl _) (.int _ _))
  simpa using this
end
end Mine
end
section
open PySem PySem.Calls PyProof.Rows PySem.W
set_option linter.unusedVariables false
namespace Mine

/-- all but the addresses in S stand as they stood -/
def Kx (S : List Addr) (h h' : Heap) : Prop := ∀ b o, b ∉ S → h.get? b = some o → h'.get? b = some o
theorem Kx.refl (S : List Addr) (h : Heap) : Kx S h h := fun _ _ _ e => e
theorem Kx.trans {S : List Addr} {a b c : Heap} (x : Kx S a b) (y : Kx S b c) : Kx S a c := fun _ _ n e => y _ _ n (x _ _ n e)
theorem Kp.x {h h' : Heap} (k : Kp h h') (S : List Addr) : Kx S h h' := fun _ _ _ e => k _ _ e
theorem Kx.more {S T : List Addr} {h h' : Heap} (k : Kx S h h') (i : ∀ b ∈ S, b ∈ T) : Kx T h h' := fun b o n e => k b o (fun m => n (i b m)) e
theorem Kx.of_same {h h' : Heap} {b : Addr} {S : List Addr} (hs : Heap.SameBut b h h') (m : b ∈ S) : Kx S h h' := fun c o n e => (hs.2 c (fun q => n (q ▸ m))).trans e
/-- back to what stood before: the turned places are none of it -/
theorem Kx.toKp {S : List Addr} {h₀ h h' : Heap} (k : Kx S h h') (k0 : Kp h₀ h) (i : ∀ b ∈ S, h₀.get? b = none) : Kp h₀ h' := fun b o e => k b o (fun m => by rw [i b m] at e; cases e) (k0 b o e)
/-- fewer: the others did not stand yet -/
theorem Kx.less {S T : List Addr} {h h' : Heap} (k : Kx T h h') (i : ∀ b ∈ T, b ∈ S ∨ h.get? b = none) : Kx S h h' := fun b o n e => k b o (fun m => by
  rcases i b m with q | q
  · exact n q
  · rw [q] at e; cases e) e
def NoTup (S : List Addr) (h : Heap) : Prop := ∀ b ∈ S, ∀ vs, h.get? b ≠ some (tO vs)
theorem Kx.kt {S : List Addr} {h h' : Heap} (k : Kx S h h') (n : NoTup S h) : Kt h h' := fun a vs e => k a _ (fun m => n a m vs e) e
theorem Ns.noTup {h : Heap} {a : Addr} {m : Str → Option Value} (hn : h.Ns a m) : ∀ vs, h.get? a ≠ some (tO vs) := by
  intro vs e
  obtain ⟨o, es, ep, ho, hd, _⟩ := hn
  rw [e] at ho
  cases ho
  cases hd
theorem Li.noTup {h : Heap} {a : Addr} {ds : List FV} (l : Li h a ds) : ∀ vs, h.get? a ≠ some (tO vs) := by
  intro vs e
  obtain ⟨us, n, e', _⟩ := l
  rw [e] at e'
  exact lO_ne (Option.some.inj e').symm
theorem NoTup.nil {h : Heap} : NoTup [] h := fun _ m => nomatch m
theorem NoTup.cons {h : Heap} {a : Addr} {S : List Addr} (x : ∀ vs, h.get? a ≠ some (tO vs)) (n : NoTup S h) : NoTup (a :: S) h := fun b m => by
  rcases List.mem_cons.mp m with q | q
  · exact q ▸ x
  · exact n b q
theorem Li.kx {S : List Addr} {h h' : Heap} {a : Addr} {ds : List FV} (l : Li h a ds) (k : Kx S h h') (ha : a ∉ S) (n : NoTup S h) : Li h' a ds :=
  let ⟨vs, i, e, r⟩ := l; ⟨vs, i, k a _ ha e, r.kt (k.kt n)⟩
theorem Ns.kx {S : List Addr} {h h' : Heap} {a : Addr} {m : Str → Option Value} (hn : h.Ns a m) (k : Kx S h h') (ha : a ∉ S) : h'.Ns a m := hn.at' fun o e => k a o ha e

section
variable {prog : Program} {w : World} {A : Around} {s : Shared}
/-- one emit behind the tests, as the turn has them -/
def testsThen (ifs : List PySem.Expr) (emit : Sem Unit) (env : Env) : Sem Unit := do
  let ok ← (forIn ifs true fun c r => if r = true then do let ok ← isTrue c env (eval c env); pure (ForInStep.yield ok) else pure (ForInStep.yield r))
  if ok = true then emit else pure ()

/-- the tests of a clause, read one behind the other -/
def testsOf (ifs : List PySem.Expr) (env : Env) : Sem Bool := forIn ifs true fun c r => if r = true then do let ok ← isTrue c env (eval c env); pure (ForInStep.yield ok) else pure (ForInStep.yield r)
/-- a turn of a clause over one name: the next item, its tests, what it emits, and again -/
def turnOf (iter : PySem.Expr) (x : Str) (px : Pos) (ifs : List PySem.Expr) (emit : Sem Unit) (it : Value) (env : Env) (loop : PySem.Code) : Sem PySem.Fin := do
  standAt iter.pos
  match ← pyNext it with
  | none => pure (.done .next)
  | some v => do
    letOwnedTupleGo (.Name x px) it v
    assign (.Name x px) env v
    if ← testsOf ifs env then emit
    again loop

theorem compLoop_walk {elt : PySem.Expr} {gens : List Comprehension} {scope : Scope} {pos : Pos} {dep : Nat} {x : Str} {px : Pos} {iter : PySem.Expr} {ifs : List PySem.Expr} {emit : Sem Unit} {I D : Addr} {fp wr : List Addr} {n : Nat} {P : Nat → Value → Prop} {St : Nat → Heap → Prop}
    {cenv : Env} {m : Str → Option Value} {R : Result → Shared → Prop} (W : Walks prog w A I fp wr n P St)
    (hct : compTurn (.ListComp elt gens scope pos) dep (.ref I) (.ref D) cenv = turnOf iter x px ifs emit (.ref I) cenv (.compLoop (.ListComp elt gens scope pos) dep (.ref I) (.ref D) cenv))
    (hx : cenv.kindOf x = some .local) (hp : (cenv.scope.kind == .class || (cenv.scope.kind == .module && cenv.locals != cenv.globals)) = false)
    (hDC : D ≠ cenv.locals) (hDf : D ∉ fp) (hCf : cenv.locals ∉ fp) (h0 : 0 < s.toks)
    (G : Nat → List FV) (M : (Str → Option Value) → Prop) (hM : ∀ m v, M m → M (fun y => if y = x then some v else m y)) (d₀ : List FV)
    (hst : St 0 s.heap) (hacc : Li s.heap D d₀) (hn : s.heap.Ns cenv.locals m) (hm : M m)
    (hwt : ∀ i h, St i h → NoTup wr h)
    (turn : ∀ i v (s₂ : Shared) m₂ (E : Value → Shared → Prop), i < n → P i v → M m₂ → m₂ x = some v → s₂.heap.Ns cenv.locals m₂ → Li s₂.heap D (d₀ ++ (List.range i).flatMap G) → Kx (cenv.locals :: D :: wr) s.heap s₂.heap → Kt s.heap s₂.heap → 0 < s₂.toks →
      wpAny (model prog w) A (testsThen ifs emit cenv) (fun _ s₃ => ∃ h k m₃, s₃ = { s₂ with heap := h, toks := k } ∧ Kx [cenv.locals, D] s₂.heap h ∧ h.Ns cenv.locals m₃ ∧ M m₃ ∧ Li h D (d₀ ++ (List.range (i + 1)).flatMap G)) E s₂)
    (hR : ∀ h k m', 0 < k → Kx (cenv.locals :: D :: wr) s.heap h → h.Ns cenv.locals m' → M m' → Li h D (d₀ ++ (List.range n).flatMap G) → R (.ok .next) { s with heap := h, toks := k }) :
    codeAny (model prog w) A (.compLoop (.ListComp elt gens scope pos) dep (.ref I) (.ref D) cenv) R s := by
  have hCw : cenv.locals ∉ wr := fun h => hCf (W.sub _ h)
  have hDw : D ∉ wr := fun h => hDf (W.sub _ h)
  refine codeAny_loop rfl (fun k s' => ∃ i h tk m', s' = { s with heap := h, toks := tk } ∧ i ≤ n ∧ k = n - i ∧ 0 < tk ∧ St i h ∧ Kx (cenv.locals :: D :: wr) s.heap h ∧ h.Ns cenv.locals m' ∧ M m' ∧ Li h D (d₀ ++ (List.range i).flatMap G)) ?_ n
    ⟨0, s.heap, s.toks, m, rfl, Nat.zero_le _, rfl, h0, hst, Kx.refl _ _, hn, hm, by simpa using hacc⟩
  rintro k s' ⟨i, h, tk, m', rfl, hi, rfl, ht, hst', hk, hn', hm', hacc'⟩
  show wpAny _ A ((compTurn (.ListComp elt gens scope pos) dep (.ref I) (.ref D) cenv).onRaise (fun x => do noteFrame x cenv; theTreesLotGoes x)) _ _ _
  refine wpAny_noted ?_
  rw [hct]
  unfold turnOf testsOf
  refine wpAny_bind (wpAny_standAt (wpAny_bind ?_))
  by_cases hlt : i < n
  · refine wpAny_with_toks (n := 1) ht (W.item i _ _ _ hlt hst' fun v h₁ tk₁ hPv hst₁ hk₁ ht₁ => ?_)
    show wpAny _ A (letOwnedTupleGo (.Name x px) (.ref I) v >>= _) _ _ _
    refine wpAny_bind (wpAny_of_eq (a := ()) rfl ?_)
    have hk₁' : Kx wr h h₁ := fun b o hb e => hk₁ b o hb e
    have hn₁ : h₁.Ns cenv.locals m' := Ns.kx hn' hk₁' hCw
    refine wpAny_bind (wpAny_assign_Name (wpAny_storeName_local hx hn₁ (fun h₂ hn₂ hs₂ => ?_) hp))
    have k2 : Kx (cenv.locals :: D :: wr) s.heap h₂ := hk.trans (Kx.trans (hk₁'.more (by simp +contextual)) (Kx.of_same hs₂ (by simp)))
    have ac1 : Li h₁ D (d₀ ++ (List.range i).flatMap G) := hacc'.kx hk₁' hDw (hwt _ _ hst')
    have ac2 : Li h₂ D (d₀ ++ (List.range i).flatMap G) := ac1.kx (S := [cenv.locals]) (Kx.of_same hs₂ (by simp)) (by simpa using hDC) (NoTup.cons (Ns.noTup hn₁) NoTup.nil)
    have st2 : St (i + 1) h₂ := W.frame _ _ _ hst₁ fun b hb o e => hs₂.extBut b o (fun q => hCf (q ▸ hb)) e
    have t := turn i v { s with heap := h₂, toks := tk₁ + 1 } _ (notedBy (model prog w) A cenv fun e s' => R (.error e) s') hlt hPv (hM m' v hm') (by simp) hn₂ ac2 k2 (k2.kt (NoTup.cons (Ns.noTup hn) (NoTup.cons (Li.noTup hacc) (hwt _ _ hst)))) (Nat.succ_pos _)
    unfold testsThen at t
    have fin : ∀ s₃, (∃ h k m₃, s₃ = { ({ s with heap := h₂, toks := tk₁ + 1 } : Shared) with heap := h, toks := k } ∧ Kx [cenv.locals, D] h₂ h ∧ h.Ns cenv.locals m₃ ∧ M m₃ ∧ Li h D (d₀ ++ (List.range (i + 1)).flatMap G)) → 0 < s₃.toks →
        wpAny (model prog w) A (again (.compLoop (.ListComp elt gens scope pos) dep (.ref I) (.ref D) cenv)) (fun fin s' => match fin with
          | .done f => R (.ok f) s'
          | .again c' => c' = .compLoop (.ListComp elt gens scope pos) dep (.ref I) (.ref D) cenv ∧ ∃ m, m < n - i ∧ ∃ i h tk m', s' = { s with heap := h, toks := tk } ∧ i ≤ n ∧ m = n - i ∧ 0 < tk ∧ St i h ∧ Kx (cenv.locals :: D :: wr) s.heap h ∧ h.Ns cenv.locals m' ∧ M m' ∧ Li h D (d₀ ++ (List.range i).flatMap G))
          (notedBy (model prog w) A cenv fun e s' => R (.error e) s') s₃ := by
      rintro s₃ ⟨h₃, k₃, m₃, rfl, kx, hn₃, hm₃, ac₃⟩ hz
      refine wpAny_pure ⟨rfl, n - (i + 1), by omega, i + 1, h₃, k₃, m₃, rfl, hlt, rfl, hz, ?_, k2.trans (kx.more (by simp +contextual)), hn₃, hm₃, ac₃⟩
      refine W.frame _ _ _ st2 fun b hb o e => kx b o (fun q => ?_) e
      rcases List.mem_cons.mp q with q | q
      · exact hCf (q ▸ hb)
      · exact hDf (List.mem_singleton.mp q ▸ hb)
    have t' := wpAny_toks_of (s := { s with heap := h₂, toks := tk₁ + 1 }) (n := 1) (Nat.succ_pos tk₁) t
    have g := wpAny_bind (f := fun _ : Unit => again (.compLoop (.ListComp elt gens scope pos) dep (.ref I) (.ref D) cenv)) (wpAny_mono t' (fun _ s₃ q => fin s₃ q.2 q.1) fun _ _ q => q.2)
    have e : (do
        let ok ← (forIn ifs true fun c r => if r = true then do let ok ← isTrue c cenv (eval c cenv); pure (ForInStep.yield ok) else pure (ForInStep.yield r))
        if ok = true then emit
        again (.compLoop (.ListComp elt gens scope pos) dep (.ref I) (.ref D) cenv) : Sem PySem.Fin) = ((do
        let ok ← (forIn ifs true fun c r => if r = true then do let ok ← isTrue c cenv (eval c cenv); pure (ForInStep.yield ok) else pure (ForInStep.yield r))
        if ok = true then emit else pure ()) >>= fun _ : Unit => again (.compLoop (.ListComp elt gens scope pos) dep (.ref I) (.ref D) cenv)) := by
      rw [bind_assoc]
      refine congrArg _ (funext fun ok => ?_)
      cases ok <;> simp
    rw [e]
    exact g
  · have hin : i = n := by omega
    subst hin
    exact wpAny_with_toks (n := 1) ht (W.done _ _ _ hst' fun h₁ tk₁ hk₁ hz => wpAny_pure (hR h₁ tk₁ m' hz (hk.trans (Kx.more (S := wr) (fun b o hb e => hk₁ b o hb e) (by simp +contextual))) (Ns.kx (S := wr) hn' (fun b o hb e => hk₁ b o hb e) hCw) hm' (hacc'.kx (S := wr) (fun b o hb e => hk₁ b o hb e) hDw (hwt _ _ hst'))))
end
end Mine
end
section
open PySem PySem.Calls PyProof.Rows PySem.W
set_option linter.unusedVariables false
namespace Mine

theorem Walks.weak {prog : Program} {w : World} {A : Around} {I : Addr} {fp wr : List Addr} {n : Nat} {P P' : Nat → Value → Prop} {St : Nat → Heap → Prop} (W : Walks prog w A I fp wr n P St) (i : ∀ k v, P k v → P' k v) : Walks prog w A I fp wr n P' St where
  sub := W.sub
  frame := W.frame
  item := fun k s Q E hk st hQ => W.item k s Q E hk st fun v h' tk p => hQ v h' tk (i k v p)
  done := W.done
  self := W.self

/-- what x gives when it is walked, from h on -/
def Itb (prog : Program) (w : World) (A : Around) (h : Heap) (x : Value) (ds : List FV) : Prop :=
  ∀ s : Shared, Kp h s.heap → ∀ (Q : Value → Shared → Prop) (E : Value → Shared → Prop),
    (∀ I fp wr St h' k, Kp s.heap h' → Walks prog w A I fp wr ds.length (fun i v => ∃ d, ds[i]? = some d ∧ Rf h v d) St → St 0 h' → (∀ b ∈ fp, b < h'.objs.size) → (∀ b ∈ wr, s.heap.get? b = none) → (∀ i g, St i g → NoTup wr g) →
      Q (.ref I) { s with heap := h', toks := k }) → wpAny (model prog w) A (pyIter x) Q E s

/-- an iterator that looks at itself alone -/
def Itf (prog : Program) (w : World) (A : Around) (h : Heap) (x : Value) (ds : List FV) : Prop :=
  ∀ s : Shared, Kp h s.heap → ∀ (Q : Value → Shared → Prop) (E : Value → Shared → Prop),
    (∀ I fp wr St h' k, Kp s.heap h' → Walks prog w A I fp wr ds.length (fun i v => ∃ d, ds[i]? = some d ∧ Rf h v d) St → St 0 h' → (∀ b ∈ fp, b < h'.objs.size) → (∀ b ∈ wr, s.heap.get? b = none) → (∀ i g, St i g → NoTup wr g) → (∀ b ∈ fp, b ∈ wr) →
      Q (.ref I) { s with heap := h', toks := k }) → wpAny (model prog w) A (pyIter x) Q E s
theorem Itf.toItb {prog : Program} {w : World} {A : Around} {h : Heap} {x : Value} {ds : List FV} (t : Itf prog w A h x ds) : Itb prog w A h x ds := fun s k Q E hQ => t s k Q E fun I fp wr St h' tk kp W st hb hw hn _ => hQ I fp wr St h' tk kp W st hb hw hn

def ups (a : Int) (n : Nat) : List FV := (List.range n).map fun i => FV.int (a + (i : Nat))
theorem ups_len (a : Int) (n : Nat) : (ups a n).length = n := by simp [ups]
theorem ups_get {a : Int} {n i : Nat} (h : i < n) : (ups a n)[i]? = some (.int (a + i)) := by simp [ups, h]

section
variable {prog : Program} {w : World} {A : Around} {s : Shared} {env : Env} {h : Heap}
theorem Itb.later {h' : Heap} {x : Value} {ds : List FV} (t : Itb prog w A h x ds) (k : Kp h h') : Itb prog w A h' x ds := fun s k' Q E hQ => t s (k.trans k') Q E fun I fp wr St h'' tk kp W st hb hw hn =>
  hQ I fp wr St h'' tk kp (Walks.weak W fun i v ⟨d, e, r⟩ => ⟨d, e, r.kp k⟩) st hb hw hn
theorem Itb.list {n : Nat} (rm : Rm A n) {a : Addr} {ds : List FV} (l : Li h a ds) : Itb prog w A h (.ref a) ds := by
  intro s k Q E hQ
  obtain ⟨vs, m, e, r⟩ := l
  have hl : s.heap.IsList a vs.toArray := ⟨_, k _ _ e, rfl, m, rfl⟩
  refine wpAny_pyIter_list hl ?_
  have hne : a ≠ s.heap.objs.size := Nat.ne_of_lt (Heap.lt_size (k _ _ e))
  have W := Walks.list (prog := prog) (w := w) (A := A) rm.hh s.heap.objs.size a hne vs.toArray
  rw [show vs.toArray.size = ds.length by simp [r.length]] at W
  refine hQ _ _ _ _ _ s.toks (Kp.push _ _) (Walks.weak W fun i v hv => ?_) ⟨⟨_, Heap.get?_push_size _ rfl, rfl, rfl⟩, hl.push _⟩ ?_ ?_ ?_
  · obtain ⟨d, hd, rv⟩ := r.getV (by simpa using hv : vs[i]? = some v)
    exact ⟨d, hd, rv⟩
  · intro b hb
    rw [Heap.size_push]
    rcases List.mem_cons.mp hb with q | q
    · exact q ▸ Nat.lt_succ_self _
    · rw [List.mem_singleton.mp q]; exact Nat.lt_succ_of_lt (Heap.lt_size (k _ _ e))
  · intro b hb
    rw [List.mem_singleton.mp hb]
    exact fresh_at (Kp.refl _)
  · intro i g st b hb us q
    rw [List.mem_singleton.mp hb] at q
    obtain ⟨⟨o, ho, hc, _⟩, _⟩ := st
    rw [q] at ho
    cases ho
    simp [tO] at hc
theorem Itf.range {n : Nat} (rm : Rm A n) {r : Addr} {a b : Int} {t u v : Tok} {m : Nat} (hr : IsRange h r a b 1 t u v) (hsmall : Builtin.Range.small a b 1 = true) (hm : Builtin.Range.rangeSize a b 1 = (m : Int)) :
    Itf prog w A h (.ref r) (ups a m) := by
  intro s k Q E hQ
  refine wpAny_pyIter_range (k _ _ hr) hsmall ?_
  have W := Walks.range (prog := prog) (w := w) (A := A) rm.hh s.heap.objs.size a 1 m
  have W' := Walks.bound W
  rw [← ups_len a m] at W'
  refine hQ _ _ _ _ _ s.toks (Kp.push _ _) (Walks.weak W' fun i v hv => ?_) (by show IsRangeIter _ _ _ _ _; rw [hm, ups_len]; simpa using Heap.get?_push_size _ rfl) ?_ ?_ ?_ (fun _ hb => hb)
  · obtain ⟨hi, tk, e⟩ := hv
    rw [ups_len] at hi
    subst e
    exact ⟨_, ups_get hi, by simpa using Rf.int (a + i) tk⟩
  · intro b hb
    rw [Heap.size_push, List.mem_singleton.mp hb]; exact Nat.lt_succ_self _
  · intro b hb
    rw [List.mem_singleton.mp hb]
    exact fresh_at (Kp.refl _)
  · intro i g st b hb us q
    rw [List.mem_singleton.mp hb] at q
    have := st
    unfold IsRangeIter at this
    rw [q] at this
    have := congrArg Obj.cls (Option.some.inj this)
    simp [tO] at this
theorem Itf.bytes {n : Nat} (rm : Rm A n) {b : Array UInt8} {t : Tok} : Itf prog w A h (.bytes b t) (b.toList.map fun c => FV.int c.toNat) := by
  intro s k Q E hQ
  refine KBw.pyIter_bytes ?_
  have W := KBw.walks (prog := prog) (w := w) (A := A) rm.hh s.heap.objs.size b t
  rw [show b.size = (b.toList.map fun c => FV.int c.toNat).length by simp] at W
  refine hQ _ _ _ _ _ s.toks (Kp.push _ _) (Walks.weak W fun i v hv => ?_) ⟨_, Heap.get?_push_size _ rfl, rfl, rfl⟩ ?_ ?_ ?_ (fun _ hb => hb)
  · obtain ⟨c, u, e, rfl⟩ := hv
    exact ⟨_, by simp [e], Rf.int _ _⟩
  · intro b hb
    rw [Heap.size_push, List.mem_singleton.mp hb]; exact Nat.lt_succ_self _
  · intro b hb
    rw [List.mem_singleton.mp hb]
    exact fresh_at (Kp.refl _)
  · intro i g st b hb us q
    rw [List.mem_singleton.mp hb] at q
    obtain ⟨o, ho, hc, _⟩ := st
    rw [q] at ho
    cases ho
    simp [tO] at hc
end
end Mine
end
section
open PySem PySem.Calls PyProof.Rows PySem.W
set_option linter.unusedVariables false
namespace Mine
section
variable {prog : Program} {w : World} {A : Around} {E : Value → Shared → Prop} {s : Shared} {env : Env} {h : Heap}

/-- a comprehension makes an empty list D, then a frame C of its own: both new, apart, and all else stays -/
theorem two_new {scope : Scope} {cl : List (Str × Addr)} {s₂ : Shared} {K : Value → Env → Shared → Prop} (hcell : ∀ y ∈ scope.names, y.2 ≠ .cell) (hkind : scope.kind = .function)
    (h : ∀ D C h₁ m₁ (cenv : Env), Kp s₂.heap h₁ → s₂.heap.get? D = none → s₂.heap.get? C = none → D ≠ C → (∀ b, b < s₂.heap.objs.size → b ≠ D ∧ b ≠ C) → Li h₁ D [] → h₁.Ns C m₁ →
      cenv.locals = C → ({ cenv with scope := relabel scope env } : Env) = compEnvC scope cl C env → K (.ref D) cenv { s₂ with heap := h₁ }) :
    wpAny (model prog w) A (newList []) (fun acc s₃ => wpAny (model prog w) A (newFunctionEnv scope env.globals cl [] env.qual none .none (some env)) (K acc) E s₃) E s₂ := by
  refine wpAny_newObj_type (wpAny_newFunctionEnv hcell nofun (fun h₁ ns but => ?_) hkind)
  have size := Heap.size_push s₂.heap { cls := .type "list", data := .seq #[] }
  have kp1 : Kp s₂.heap (s₂.heap.push { cls := .type "list", data := .seq #[] }) := Kp.push _ _
  have kp2 : Kp (s₂.heap.push { cls := .type "list", data := .seq #[] }) h₁ := fun b o e => but.extBut b o (Nat.ne_of_lt (Heap.lt_size e)) (Kp.push _ _ _ _ e)
  refine h _ _ h₁ _ _ (kp1.trans kp2) (fresh_at (Kp.refl _)) (fresh_at kp1) ?_ (fun b lt => ?_) ⟨[], 0, kp2 _ _ (Heap.get?_push_size _ rfl), .nil⟩ ns rfl rfl
  · show s₂.heap.objs.size ≠ (s₂.heap.push _).objs.size
    omega
  · show b ≠ s₂.heap.objs.size ∧ b ≠ (s₂.heap.push _).objs.size
    omega
theorem comp_core {elt : PySem.Expr} {rest : List Comprehension} {x : Str} {px : Pos} {iter : PySem.Expr} {ifs : List PySem.Expr} {scope : Scope} {cl : List (Str × Addr)} {pos : Pos} {s₂ : Shared} {I : Addr} {fp wr : List Addr} {n : Nat} {P : Nat → Value → Prop}
    {St : Nat → Heap → Prop} (W : Walks prog w A I fp wr n P St) {RR : Value → Addr → Result → Shared → Prop} {emit : Addr → Addr → Sem Unit}
    (hcell : ∀ y ∈ scope.names, y.2 ≠ .cell) (hkind : scope.kind = .function) (hx : scope.names.lookup x = some .local) (hst : St 0 s₂.heap) (hfp : ∀ b ∈ fp, b < s₂.heap.objs.size) (hwt : ∀ i g, St i g → NoTup wr g) (h0 : 0 < s₂.toks)
    (hct : ∀ D C, compTurn (.ListComp elt (⟨.Name x px, iter, ifs, 0⟩ :: rest) scope pos) 0 (.ref I) (.ref D) (compEnvC scope cl C env) = turnOf iter x px ifs (emit D C) (.ref I) (compEnvC scope cl C env) (.compLoop (.ListComp elt (⟨.Name x px, iter, ifs, 0⟩ :: rest) scope pos) 0 (.ref I) (.ref D) (compEnvC scope cl C env)))
    (G : Nat → List FV)
    (turn : ∀ D C i v (s₃ : Shared) m₃ (E : Value → Shared → Prop), s₂.heap.get? D = none → s₂.heap.get? C = none → D ≠ C → i < n → P i v → m₃ x = some v → s₃.heap.Ns C m₃ → Li s₃.heap D ((List.range i).flatMap G) →
      Kx wr s₂.heap s₃.heap → Kt s₂.heap s₃.heap → 0 < s₃.toks →
      wpAny (model prog w) A (testsThen ifs (emit D C) (compEnvC scope cl C env)) (fun _ s₄ => ∃ h k m₄, s₄ = { s₃ with heap := h, toks := k } ∧ Kx [C, D] s₃.heap h ∧ h.Ns C m₄ ∧ Li h D ((List.range (i + 1)).flatMap G)) E s₃)
    (hRR : ∀ D C h k m', s₂.heap.get? D = none → s₂.heap.get? C = none → D ≠ C → 0 < k → h.Ns C m' → Li h D ((List.range n).flatMap G) → Kx wr s₂.heap h → RR (.ref D) C (.ok .next) { s₂ with heap := h, toks := k }) :
    wpAny (model prog w) A (newList []) (fun acc s₃ => wpAny (model prog w) A (newFunctionEnv scope env.globals cl [] env.qual none .none (some env)) (fun cenv s₄ =>
      codeAny (model prog w) A (.compStart (.ListComp elt (⟨.Name x px, iter, ifs, 0⟩ :: rest) scope pos) 0 (.ref I) acc { cenv with scope := relabel scope env }) (RR acc cenv.locals) s₄) E s₃) E s₂ := by
  refine two_new hcell hkind fun D C h₁ m₁ cenv kp fD fC ne apart acc ns loc same => ?_
  rw [same, loc]
  have st₁ : St 0 h₁ := W.frame 0 s₂.heap h₁ hst fun b _ o e => kp b o e
  have only : ∀ {h : Heap}, Kx (C :: D :: wr) h₁ h → Kx wr s₂.heap h := by
    intro h k b o out e
    refine k b o ?_ (kp b o e)
    rw [List.mem_cons, List.mem_cons]
    rintro (rfl | rfl | at_wr)
    · exact nomatch fC.symm.trans e
    · exact nomatch fD.symm.trans e
    · exact out at_wr
  have all : codeAny (model prog w) A (.compLoop (.ListComp elt (⟨.Name x px, iter, ifs, 0⟩ :: rest) scope pos) 0 (.ref I) (.ref D) (compEnvC scope cl C env)) (RR (.ref D) C) { s₂ with heap := h₁ } := by
    refine compLoop_walk (cenv := compEnvC scope cl C env) W (hct D C) (lookup_relabel_local hx) (by simp [compEnvC, relabel, hkind]) ne (fun m => (apart _ (hfp _ m)).1 rfl) (fun m => (apart _ (hfp _ m)).2 rfl) h0 G (fun _ => True) (fun _ _ _ => trivial) [] st₁ acc ns trivial hwt
      (fun i v s₃ m₃ E' lt pv _ mx hn hl hk ht pos₃ => ?_) fun h k m' hk0 hk hn _ hl => ?_
    · refine wpAny_mono (turn D C i v s₃ m₃ E' fD fC ne lt pv mx hn hl (only hk) (kp.toT.trans ht) pos₃) (fun _ s₄ end_ => ?_) fun _ _ e => e
      let ⟨h, k, m₄, e, a, b, c⟩ := end_
      exact ⟨h, k, m₄, e, a, b, trivial, c⟩
    · exact hRR D C h k m' fD fC ne hk0 hn hl (only hk)
  exact codeAny_compStart_list all (W.self 0 _ _ _ st₁ all)

/-- the tests behind a for of a comprehension -/
def TS (prog : Program) (w : World) (A : Around) (env : Env) (h : Heap) (ifs : List PySem.Expr) (b : Bool) : Prop := ∀ s : Shared, Kp h s.heap →
  Ev prog w A s (forIn ifs true fun c r => if r = true then do let ok ← isTrue c env (eval c env); Pure.pure (ForInStep.yield ok) else Pure.pure (ForInStep.yield r)) (fun y _ => y = b)
theorem TS.nil : TS prog w A env h [] true := fun s k => Ev.of fun Q E h0 hQ => wpAny_tests_nil (hQ true s.heap s.toks (Kp.refl _) rfl)
theorem TS.one {c : PySem.Expr} {b : Bool} (t : TV prog w A env h c (fun y _ => y = b)) : TS prog w A env h [c] b := by with_unfolding_all exact (fun s k Q E hQ h0 => wpAny_tests_one (t s k Q E hQ h0))

/-- the last clause's emit -/
def appendTo (elt : PySem.Expr) (D : Addr) (env : Env) : Sem Unit := do let _ ← call (.builtin "list.append") [.ref D, ← eval elt env]
theorem Li.append {a : Addr} {ds : List FV} {v : Value} {d : FV} {Q : Value → Shared → Prop} (l : Li s.heap a ds) (r : Rf s.heap v d) (hz : ds.length ≤ sizeLine)
    (hQ : ∀ h, Heap.SameBut a s.heap h → Li h a (ds ++ [d]) → Q .none { s with heap := h }) : wpAny (model prog w) A (call (.builtin "list.append") [.ref a, v]) Q E s := by
  obtain ⟨vs, n, e, rs⟩ := l
  refine append_at (n := n) e (fun h' hs he => hQ h' hs ⟨vs ++ [v], n + 1, ?_, ?_⟩) ?_
  · rw [he]; simp [lO]
  · exact (rs.append (Rfs.one r)).kt (Kt.same hs e (fun _ => lO_ne))
  · rw [List.size_toArray, rs.length]; exact hz
theorem turn_last {elt : PySem.Expr} {ifs : List PySem.Expr} {D : Addr} {b : Bool} {d : FV} {ds : List FV} {m : Str → Option Value} (t : TS prog w A env s.heap ifs b) (e : b = true → EV prog w A env s.heap elt (F d)) (l : Li s.heap D ds) (hz : ds.length ≤ sizeLine)
    (hn : s.heap.Ns env.locals m) (hDC : D ≠ env.locals) (h0 : 0 < s.toks) :
    wpAny (model prog w) A (testsThen ifs (appendTo elt D env) env) (fun _ s₃ => ∃ h k, s₃ = { s with heap := h, toks := k } ∧ Kx [D] s.heap h ∧ h.Ns env.locals m ∧ Li h D (ds ++ if b then [d] else [])) E s := by with_unfolding_all
  unfold testsThen
  refine wpAny_bind (t s (Kp.refl _) _ E (fun y h₁ k₁ kp₁ t₁ p₁ => ?_) h0)
  subst p₁
  cases y with
  | false =>
    show wpAny _ A (Pure.pure ()) _ _ _
    exact wpAny_pure ⟨h₁, k₁, rfl, kp₁.x _, hn.keeps kp₁, by simpa using l.kp kp₁⟩
  | true =>
    show wpAny _ A (appendTo elt D env) _ _ _
    unfold appendTo
    refine wpAny_bind (e rfl { s with heap := h₁, toks := k₁ } kp₁ _ E (fun v h₂ k₂ kp₂ t₂ p₂ => ?_) t₁)
    refine wpAny_bind (Li.append ((l.kp kp₁).kp kp₂) p₂ hz fun h₃ hs hl => wpAny_pure ⟨h₃, k₂, rfl, ?_, ((hn.keeps kp₁).keeps kp₂).sameBut hs hDC.symm, by simpa using hl⟩)
    exact ((kp₁.trans kp₂).x [D]).trans (Kx.of_same hs (by simp))

theorem range_flatMap {α β : Type} (ds : List α) (f : α → List β) : (List.range ds.length).flatMap (fun i => (ds[i]?.map f).getD []) = ds.flatMap f := by
  induction ds with
  | nil => rfl
  | cons a l ih =>
    rw [List.length_cons, List.range_succ_eq_map, List.flatMap_cons, List.flatMap_map, List.flatMap_cons, ← ih]
    simp
end
end Mine
end
section
open PySem PySem.Calls PyProof.Rows PySem.W
set_option linter.unusedVariables false
namespace Mine

theorem flat_prefix (G : Nat → List FV) {i n : Nat} (h : i ≤ n) : ((List.range i).flatMap G).length ≤ ((List.range n).flatMap G).length := by
  obtain ⟨k, rfl⟩ := Nat.exists_eq_add_of_le h
  rw [List.range_add, List.flatMap_append, List.length_append]
  exact Nat.le_add_right _ _

section
variable {prog : Program} {w : World} {A : Around} {E : Value → Shared → Prop} {s : Shared} {env : Env} {h : Heap}

/-- what a clause's turn does -/
def Turn (prog : Program) (w : World) (A : Around) (env : Env) (h : Heap) (x : Str) (ifs : List PySem.Expr) (scope : Scope) (cl : List (Str × Addr)) (emit : Addr → Addr → Sem Unit) (ds : List FV) (G : FV → List FV) : Prop :=
  ∀ D C (s₃ : Shared) m₃ (E : Value → Shared → Prop) d v done, Kp h s₃.heap → h.get? D = none → h.get? C = none → D ≠ C → d ∈ ds → Rf s₃.heap v d → m₃ x = some v → s₃.heap.Ns C m₃ → Li s₃.heap D done → done.length ≤ (ds.flatMap G).length → 0 < s₃.toks →
    wpAny (model prog w) A (testsThen ifs (emit D C) (compEnvC scope cl C env)) (fun _ s₄ => ∃ h k m₄, s₄ = { s₃ with heap := h, toks := k } ∧ Kx [C, D] s₃.heap h ∧ h.Ns C m₄ ∧ Li h D (done ++ G d)) E s₃
/-- the turn's tree -/
def TurnIs (elt : PySem.Expr) (rest : List Comprehension) (x : Str) (px : Pos) (iter : PySem.Expr) (ifs : List PySem.Expr) (scope : Scope) (pos : Pos) (cl : List (Str × Addr)) (env : Env) (emit : Addr → Addr → Sem Unit) : Prop :=
  ∀ I D C, compTurn (.ListComp elt (⟨.Name x px, iter, ifs, 0⟩ :: rest) scope pos) 0 (.ref I) (.ref D) (compEnvC scope cl C env) =
    turnOf iter x px ifs (emit D C) (.ref I) (compEnvC scope cl C env) (.compLoop (.ListComp elt (⟨.Name x px, iter, ifs, 0⟩ :: rest) scope pos) 0 (.ref I) (.ref D) (compEnvC scope cl C env))

/-- the block behind the first iterable, for any use of the list -/
theorem comp_block {elt : PySem.Expr} {rest : List Comprehension} {x : Str} {px : Pos} {iter : PySem.Expr} {ifs : List PySem.Expr} {scope : Scope} {cl : List (Str × Addr)} {pos : Pos} {emit : Addr → Addr → Sem Unit} {PI : Value → Heap → Prop} {ds : List FV} {G : FV → List FV} {RR : Value → Addr → Result → Shared → Prop}
    (hct : TurnIs elt rest x px iter ifs scope pos cl env emit)
    (hit : ∀ (s : Shared) v, Kp h s.heap → PI v s.heap → Itb prog w A s.heap v ds)
    (turn : Turn prog w A env h x ifs scope cl emit ds G)
    (hcell : ∀ y ∈ scope.names, y.2 ≠ .cell) (hkind : scope.kind = .function) (hx : scope.names.lookup x = some .local)
    {s₁ : Shared} {xv : Value} (kp : Kp h s₁.heap) (h0 : 0 < s₁.toks) (p : PI xv s₁.heap)
    (hRR : ∀ D C h' k m', s₁.heap.get? D = none → s₁.heap.get? C = none → D ≠ C → 0 < k → h'.Ns C m' → Li h' D (ds.flatMap G) → Kp s₁.heap h' → RR (.ref D) C (.ok .next) { s₁ with heap := h', toks := k }) :
    wpAny (model prog w) A (pyIter xv) (fun it s₂ => wpAny (model prog w) A (newList []) (fun acc s₃ =>
      wpAny (model prog w) A (newFunctionEnv scope env.globals cl [] env.qual none .none (some env)) (fun cenv s₄ =>
        codeAny (model prog w) A (.compStart (.ListComp elt (⟨.Name x px, iter, ifs, 0⟩ :: rest) scope pos) 0 it acc { cenv with scope := relabel scope env }) (RR acc cenv.locals) s₄) E s₃) E s₂) E s₁ := by
  refine wpAny_with_toks (n := 1) h0 (hit s₁ xv kp p s₁ (Kp.refl _) _ _ fun I fp wr St h₂ k₂ kp₂ W st hb hw hn t₂ => ?_)
  have e := range_flatMap ds G
  refine wpAny_mono (comp_core (s₂ := { s₁ with heap := h₂, toks := k₂ }) (elt := elt) (rest := rest) (iter := iter) (pos := pos) (px := px) (RR := RR) (emit := emit) (E := E) W hcell hkind hx st hb hn t₂ (hct I) (fun i => (ds[i]?.map G).getD []) ?_ ?_) (fun _ _ q => q) fun _ _ q => ?_
  · intro D C i v s₃ m₃ E fD fC hDC hi hv hm hnC hl hk ht h0
    obtain ⟨d, hd, rd⟩ := hv
    have k3 : Kp s₁.heap s₃.heap := hk.toKp kp₂ hw
    have f1 : ∀ {b}, h₂.get? b = none → h.get? b = none := fun {b} q => by
      cases z : h.get? b with
      | none => rfl
      | some o => rw [kp₂ _ _ (kp _ _ z)] at q; cases q
    refine wpAny_mono (turn D C s₃ m₃ E d v _ (kp.trans k3) (f1 fD) (f1 fC) hDC (List.mem_of_getElem? hd) ((rd.kp kp₂).kt ht) hm hnC hl ?_ h0) (fun _ s₄ q => ?_) fun _ _ e => e
    · rw [← e]; exact flat_prefix _ (Nat.le_of_lt hi)
    · obtain ⟨h', k', m₄, q1, q2, q3, q4⟩ := q
      refine ⟨h', k', m₄, q1, q2, q3, ?_⟩
      rw [List.range_succ, List.flatMap_append]
      simpa [hd] using q4
  · intro D C h' k m' fD fC hDC hk0 hnC hl hk
    rw [e] at hl
    have f1 : ∀ {b}, h₂.get? b = none → s₁.heap.get? b = none := fun {b} q => by
      cases z : s₁.heap.get? b with
      | none => rfl
      | some o => rw [kp₂ _ _ z] at q; cases q
    exact hRR D C h' k m' (f1 fD) (f1 fC) hDC hk0 hnC hl (hk.toKp kp₂ hw)
  · exact q

theorem EV.comp {elt : PySem.Expr} {rest : List Comprehension} {x : Str} {px : Pos} {iter : PySem.Expr} {ifs : List PySem.Expr} {scope : Scope} {cl : List (Str × Addr)} {pos : Pos} {emit : Addr → Addr → Sem Unit} {PI : Value → Heap → Prop} {ds : List FV} {G : FV → List FV}
    (hct : TurnIs elt rest x px iter ifs scope pos cl env emit)
    (hi : EV prog w A env h iter PI) (hit : ∀ (s : Shared) v, Kp h s.heap → PI v s.heap → Itb prog w A s.heap v ds)
    (turn : Turn prog w A env h x ifs scope cl emit ds G)
    (hclos : closureFor scope env = Pure.pure cl) (hcell : ∀ y ∈ scope.names, y.2 ≠ .cell) (hkind : scope.kind = .function)
    (hnames : ∀ y ∈ scope.names, y.2 = .local → scope.names.lookup y.1 = some .local) (hx : scope.names.lookup x = some .local)
    (hs : ∀ x, foldedSetIterable iter env x = Pure.pure x := by intro _; rfl) :
    EV prog w A env h (.ListComp elt (⟨.Name x px, iter, ifs, 0⟩ :: rest) scope pos) (Nw h (ds.flatMap G)) := by with_unfolding_all
  intro s k Q E hQ h0
  rw [eval_ListComp]
  refine wpAny_comprehension_free (use := none) rfl hs hclos hkind hnames (hi s k _ E (fun xv h₁ k₁ kp₁ t₁ p₁ => ?_) h0)
  refine comp_block (RR := fun acc C => compPost (model prog w) A E none Q acc C) hct hit turn hcell hkind hx (k.trans kp₁) t₁ p₁ ?_
  intro D C h' k' m' fD fC hDC hk0 hnC hl hk
  refine ⟨m', hnC, fun h'' hs'' => ?_⟩
  have l2 : Li h'' D (ds.flatMap G) := hl.kx (S := [C]) (Kx.of_same hs'' (by simp)) (by simpa using hDC) (NoTup.cons (Ns.noTup hnC) NoTup.nil)
  have f2 : ∀ {b}, h₁.get? b = none → h.get? b = none := fun {b} q => by
      cases z : h.get? b with
      | none => rfl
      | some o => rw [kp₁ _ _ (k _ _ z)] at q; cases q
  refine hQ _ h'' k' (kp₁.trans ?_) hk0 ⟨D, rfl, f2 fD, l2⟩
  exact (Kx.of_same (S := [C]) hs'' (by simp)).toKp hk (fun b m => (List.mem_singleton.mp m) ▸ fC)

/-- y = [..] on one line: stored ahead of the letting go -/
theorem Assign.comp {elt : PySem.Expr} {rest : List Comprehension} {x y : Str} {px py : Pos} {iter : PySem.Expr} {ifs : List PySem.Expr} {scope : Scope} {cl : List (Str × Addr)} {pos spos : Pos} {emit : Addr → Addr → Sem Unit} {PI : Value → Heap → Prop} {ds : List FV} {G : FV → List FV} {Q : Flow → Shared → Prop} {m : Str → Option Value}
    (hsw : swapsWith (.ListComp elt (⟨.Name x px, iter, ifs, 0⟩ :: rest) scope pos) (some (.Name y py)) spos.line env = Pure.pure true)
    (hct : TurnIs elt rest x px iter ifs scope pos cl env emit)
    (hi : EV prog w A env s.heap iter PI) (hit : ∀ (s' : Shared) v, Kp s.heap s'.heap → PI v s'.heap → Itb prog w A s'.heap v ds)
    (turn : Turn prog w A env s.heap x ifs scope cl emit ds G)
    (hclos : closureFor scope env = Pure.pure cl) (hcell : ∀ y ∈ scope.names, y.2 ≠ .cell) (hkind : scope.kind = .function)
    (hnames : ∀ y ∈ scope.names, y.2 = .local → scope.names.lookup y.1 = some .local) (hx : scope.names.lookup x = some .local)
    (hy : env.kindOf y = some .local) (hp : (env.scope.kind == .class || (env.scope.kind == .module && env.locals != env.globals)) = false) (hn : s.heap.Ns env.locals m) (h0 : 0 < s.toks)
    (hQ : ∀ D h' k, s.heap.get? D = none → 0 < k → h'.Ns env.locals (fun z => if z = y then some (.ref D) else m z) → Li h' D (ds.flatMap G) → Kx [env.locals] s.heap h' → Q .next { s with heap := h', toks := k })
    (hs : ∀ x, foldedSetIterable iter env x = Pure.pure x := by intro _; rfl) :
    wpAny (model prog w) A (exec (.Assign [.Name y py] (.ListComp elt (⟨.Name x px, iter, ifs, 0⟩ :: rest) scope pos) spos) env) Q E s := by with_unfolding_all
  have stored : ∀ {h : Heap} {b : Addr}, Kp s.heap h → h.get? b = none → s.heap.get? b = none := fun kp q => by
    cases old : s.heap.get? _ with
    | none => rfl
    | some o => exact nomatch q.symm.trans (kp _ o old)
  have made : wpAny (model prog w) A (comprehension (.ListComp elt (⟨.Name x px, iter, ifs, 0⟩ :: rest) scope pos) scope env iter.pos (newList []) false (eval iter env) (some (assign (.Name y py) env))) (fun _ s' => Q .next s') E s := by
    refine wpAny_comprehension_free rfl hs hclos hkind hnames (hi s (Kp.refl _) _ E (fun xv h₁ k₁ kp₁ t₁ p₁ => ?_) h0)
    refine comp_block (RR := compPost (model prog w) A E (some (assign (.Name y py) env)) (fun _ s' => Q .next s')) hct hit turn hcell hkind hx kp₁ t₁ p₁ fun D C h₂ k₂ mC fD fC apart k0 nC l keep => ?_
    have nL : h₂.Ns env.locals m := (hn.keeps kp₁).keeps keep
    have standing : ∀ {b : Addr}, h₁.get? b = none → env.locals ≠ b := by
      rintro b q rfl
      obtain ⟨o, _, _, at_L, _⟩ := hn.keeps kp₁
      exact nomatch q.symm.trans at_L
    refine wpAny_assign_Name (wpAny_storeName_local (s := { s with heap := h₂, toks := k₂ }) hy nL (fun h₃ n₃ but₃ => ?_) hp)
    have nC₃ := nC.sameBut but₃ (standing fC).symm
    have l₃ : Li h₃ D (ds.flatMap G) := l.kx (S := [env.locals]) (Kx.of_same but₃ (by simp)) (by simpa using (standing fD).symm) (NoTup.cons (Ns.noTup nL) NoTup.nil)
    refine ⟨mC, nC₃, fun h₄ but₄ => hQ D h₄ (k₂ + 1) (stored kp₁ fD) (Nat.succ_pos _) (n₃.sameBut but₄ (standing fC)) (l₃.kx (S := [C]) (Kx.of_same but₄ (by simp)) (by simpa using apart) (NoTup.cons (Ns.noTup nC₃) NoTup.nil)) fun b o out e => ?_⟩
    have eC : b ≠ C := by
      rintro rfl
      exact nomatch (stored kp₁ fC).symm.trans e
    exact but₄.extBut b o eC (but₃.extBut b o (fun q => out (List.mem_singleton.mpr q)) (keep _ _ (kp₁ _ _ e)))
  rw [exec_Assign_Name_used _ _ _ _ hsw]
  exact wpAny_bind (wpAny_standAt (wpAny_bind (wpAny_bind (wpAny_mono made (fun _ _ q => wpAny_pure (wpAny_pure q)) fun _ _ x => x))))
end
end Mine
end
section
open PySem PySem.Calls PyProof.Rows PySem.W
set_option linter.unusedVariables false
namespace Mine
section
variable {prog : Program} {w : World} {A : Around} {E : Value → Shared → Prop} {s : Shared} {env : Env} {h : Heap}

theorem TurnIs.one {elt : PySem.Expr} {x : Str} {px : Pos} {iter : PySem.Expr} {ifs : List PySem.Expr} {scope : Scope} {pos : Pos} {cl : List (Str × Addr)} :
    TurnIs elt [] x px iter ifs scope pos cl env (fun D C => appendTo elt D (compEnvC scope cl C env)) := fun _ _ _ => rfl

theorem Turn.one {elt : PySem.Expr} {x : Str} {ifs : List PySem.Expr} {scope : Scope} {cl : List (Str × Addr)} {ds : List FV} {b : FV → Bool} {g : FV → FV}
    (elem : ∀ C h₃ m₃ d v, Kp h h₃ → h.get? C = none → h₃.Ns C m₃ → m₃ x = some v → d ∈ ds → Rf h₃ v d → TS prog w A (compEnvC scope cl C env) h₃ ifs (b d) ∧ (b d = true → EV prog w A (compEnvC scope cl C env) h₃ elt (F (g d))))
    (hz : (ds.flatMap fun d => if b d then [g d] else []).length ≤ sizeLine) :
    Turn prog w A env h x ifs scope cl (fun D C => appendTo elt D (compEnvC scope cl C env)) ds (fun d => if b d then [g d] else []) := by
  intro D C s₃ m₃ E d v done kp fD fC hDC hd rv hm hn hl hz' h0
  obtain ⟨t, e⟩ := elem C s₃.heap m₃ d v kp fC hn hm hd rv
  refine wpAny_mono (turn_last (env := compEnvC scope cl C env) t e hl (Nat.le_trans hz' hz) hn hDC h0) (fun _ s₄ q => ?_) fun _ _ e => e
  obtain ⟨h', k', q1, q2, q3, q4⟩ := q
  exact ⟨h', k', m₃, q1, q2.more (by simp), q3, q4⟩

/-- a clause behind the first begins: it may ask the iterator for itself once more, or not -/
theorem second_start {elt : PySem.Expr} {gens : List Comprehension} {scope : Scope} {pos : Pos} {g : Comprehension} {it acc : Value} {cenv : Env} {R : Result → Shared → Prop} (hg : gens[1]? = some g) (hs : g.is_async = 0)
    (once : codeAny (model prog w) A (.compLoop (.ListComp elt gens scope pos) 1 it acc cenv) R s)
    (twice : wpAny (model prog w) A (pyIter it) (fun it₂ => codeAny (model prog w) A (.compLoop (.ListComp elt gens scope pos) 1 it₂ acc cenv) R) (notedBy (model prog w) A cenv fun x => R (.error x)) s) :
    codeAny (model prog w) A (.compStart (.ListComp elt gens scope pos) 1 it acc cenv) R s := by
  have tree : wpAny (model prog w) A (compStart (.ListComp elt gens scope pos) 1 it acc cenv) (fun fin s' => match fin with | .done f => R (.ok f) s' | .again c => c.quiet = true ∧ codeAny (model prog w) A c R s') (notedBy (model prog w) A cenv fun x => R (.error x)) s := by
    unfold compStart
    rw [show (clausesOf (.ListComp elt gens scope pos))[1]? = some g from hg, show (Option.elim (some g) false fun c => c.is_async != 0) = false from bne_eq_false_iff_eq.mpr hs]
    refine wpAny_bind (m := ask) (wpAny_askSetting (wpAny_ite ?_))
    split
    · exact wpAny_pure ⟨rfl, once⟩
    · refine wpAny_bind (m := rule _) (wpAny_rule (wpAny_bind (m := standAt _) (wpAny_standAt (wpAny_bind (wpAny_mono twice (fun it₂ s₂ go => ?_) fun _ _ x => x)))))
      exact wpAny_pure ⟨rfl, go⟩
  refine codeAny_of_tree ?_
  exact wpAny_notedAt tree

def innerOf (elt : PySem.Expr) (x : Str) (px : Pos) (i1 : PySem.Expr) (f1 : List PySem.Expr) (y : Str) (py : Pos) (i2 : PySem.Expr) (f2 : List PySem.Expr) (scope : Scope) (pos : Pos) (D : Addr) (cenv : Env) : Sem Unit := do
  let z ← eval i2 cenv
  standAt i2.pos
  let z ← foldedSetIterable i2 cenv z
  let _ ← runOwn (.compStart (.ListComp elt [⟨.Name x px, i1, f1, 0⟩, ⟨.Name y py, i2, f2, 0⟩] scope pos) 1 (← holding [z] (pyIter z)) (.ref D) cenv) cenv

theorem TurnIs.two {elt : PySem.Expr} {x y : Str} {px py : Pos} {i1 i2 : PySem.Expr} {f1 f2 : List PySem.Expr} {scope : Scope} {pos : Pos} {cl : List (Str × Addr)} :
    TurnIs elt [⟨.Name y py, i2, f2, 0⟩] x px i1 f1 scope pos cl env (fun D C => innerOf elt x px i1 f1 y py i2 f2 scope pos D (compEnvC scope cl C env)) := by
  intro I D C
  unfold turnOf testsOf innerOf
  simp only [bind_assoc]
  rfl
theorem inner_turn {elt : PySem.Expr} {x y : Str} {px py : Pos} {i1 i2 : PySem.Expr} {f1 f2 : List PySem.Expr} {scope : Scope} {pos : Pos} {it : Value} {D : Addr} {cenv : Env} :
    compTurn (.ListComp elt [⟨.Name x px, i1, f1, 0⟩, ⟨.Name y py, i2, f2, 0⟩] scope pos) 1 it (.ref D) cenv = turnOf i2 y py f2 (appendTo elt D cenv) it cenv (.compLoop (.ListComp elt [⟨.Name x px, i1, f1, 0⟩, ⟨.Name y py, i2, f2, 0⟩] scope pos) 1 it (.ref D) cenv) := by
  rfl

theorem Turn.two {elt : PySem.Expr} {x y : Str} {px py : Pos} {i1 i2 : PySem.Expr} {f2 : List PySem.Expr} {scope : Scope} {pos : Pos} {cl : List (Str × Addr)} {ds : List FV} {es : FV → List FV} {PI2 : FV → Value → Heap → Prop} {b : FV → FV → Bool} {g : FV → FV → FV}
    (hxy : x ≠ y) (hkind : scope.kind = .function) (hy : scope.names.lookup y = some .local)
    (i2v : ∀ C h₃ m₃ d v, Kp h h₃ → h.get? C = none → h₃.Ns C m₃ → m₃ x = some v → d ∈ ds → Rf h₃ v d → EV prog w A (compEnvC scope cl C env) h₃ i2 (PI2 d))
    (it2 : ∀ d (s : Shared) v, d ∈ ds → PI2 d v s.heap → Itf prog w A s.heap v (es d))
    (elem : ∀ C h₃ m₃ d v e u, Kp h h₃ → h.get? C = none → h₃.Ns C m₃ → m₃ x = some v → m₃ y = some u → d ∈ ds → e ∈ es d → Rf h₃ v d → Rf h₃ u e →
      TS prog w A (compEnvC scope cl C env) h₃ f2 (b d e) ∧ (b d e = true → EV prog w A (compEnvC scope cl C env) h₃ elt (F (g d e))))
    (hz : 2 * (ds.flatMap fun d => (es d).flatMap fun e => if b d e then [g d e] else []).length ≤ sizeLine)
    (hs : ∀ C x, foldedSetIterable i2 (compEnvC scope cl C env) x = Pure.pure x := by intro _ _; rfl) :
    Turn prog w A env h x [] scope cl (fun D C => innerOf elt x px i1 [] y py i2 f2 scope pos D (compEnvC scope cl C env)) ds (fun d => (es d).flatMap fun e => if b d e then [g d e] else []) := by with_unfolding_all
  intro D C s₃ m₃ E d v done kp fD fC hDC hd rv hm hn hl hz' h0
  unfold testsThen
  refine wpAny_bind (wpAny_tests_nil ?_)
  show wpAny _ A (innerOf elt x px i1 [] y py i2 f2 scope pos D (compEnvC scope cl C env)) _ _ _
  unfold innerOf
  refine wpAny_bind (i2v C s₃.heap m₃ d v kp fC hn hm hd rv s₃ (Kp.refl _) _ E (fun z h₁ k₁ kp₁ t₁ p₁ => ?_) h0)
  refine wpAny_bind (wpAny_standAt ?_)
  refine wpAny_bind (wpAny_of_eq (hs C z) ?_)
  refine wpAny_bind (wpAny_holding ?_)
  refine wpAny_with_toks (s := { s₃ with heap := h₁, toks := k₁ }) (n := 1) t₁ (it2 d { s₃ with heap := h₁, toks := k₁ } z hd p₁ { s₃ with heap := h₁, toks := k₁ } (Kp.refl _) _ _ fun I fp wr St h₂ k₂ kp₂ W st hb hw hwt hfw t₂ => ?_)
  have e := range_flatMap (es d) fun e => if b d e then [g d e] else []
  have hl₂ : Li h₂ D done := (hl.kp kp₁).kp kp₂
  have hn₂ : h₂.Ns C m₃ := (hn.keeps kp₁).keeps kp₂
  have hDw : D ∉ wr := fun m => by
    obtain ⟨vs, n, q, _⟩ := hl.kp kp₁
    have := hw D m
    rw [show ({ s₃ with heap := h₁, toks := k₁ } : Shared).heap.get? D = h₁.get? D from rfl, q] at this
    cases this
  have hCw : C ∉ wr := fun m => by
    obtain ⟨o, _, _, q, _⟩ := hn.keeps kp₁
    have := hw C m
    rw [show ({ s₃ with heap := h₁, toks := k₁ } : Shared).heap.get? C = h₁.get? C from rfl, q] at this
    cases this
  have k12 : Kp s₃.heap h₂ := kp₁.trans kp₂
  have kpre : (es d).flatMap (fun e => if b d e then [g d e] else []) = (es d).flatMap (fun e => if b d e then [g d e] else []) := rfl
  have loop : ∀ k', 0 < k' → codeAny (model prog w) A (.compLoop (.ListComp elt [⟨.Name x px, i1, [], 0⟩, ⟨.Name y py, i2, f2, 0⟩] scope pos) 1 (.ref I) (.ref D) (compEnvC scope cl C env))
      (fun r s' => match r with
        | .ok f => ∃ h k m₄, s' = { s₃ with heap := h, toks := k } ∧ Kx [C, D] s₃.heap h ∧ h.Ns C m₄ ∧ Li h D (done ++ (es d).flatMap fun e => if b d e then [g d e] else [])
        | .error e => cameBackBy (model prog w) A (compEnvC scope cl C env) E e s') { s₃ with heap := h₂, toks := k' } := by
    intro k' hk'
    refine compLoop_walk (s := { s₃ with heap := h₂, toks := k' }) (cenv := compEnvC scope cl C env) (emit := appendTo elt D (compEnvC scope cl C env)) W inner_turn (lookup_relabel_local hy) (by simp [compEnvC, relabel, hkind]) hDC (fun m => hDw (hfw _ m)) (fun m => hCw (hfw _ m)) hk'
      (fun i => ((es d)[i]?.map fun e => if b d e then [g d e] else []).getD []) (fun m => m x = some v) (fun m u q => by simp [hxy, q]) done st hl₂ hn₂ hm hwt ?_ ?_
    · intro i u s₅ m₅ E' hi hu hm₅ hmy hn₅ hl₅ hk₅ ht₅ h05
      obtain ⟨e', he', ru⟩ := hu
      have k3 : Kp s₃.heap s₅.heap ∨ True := .inr trivial
      have kh : Kp h s₅.heap := by
        intro bb o q
        have q1 := kp _ _ q
        refine hk₅ bb o (fun m => ?_) (k12 _ _ q1)
        rcases List.mem_cons.mp m with z | m
        · rw [z] at q; rw [show (compEnvC scope cl C env).locals = C from rfl] at q; rw [fC] at q; cases q
        · rcases List.mem_cons.mp m with z | m
          · rw [z, fD] at q; cases q
          · have := hw bb m
            rw [show ({ s₃ with heap := h₁, toks := k₁ } : Shared).heap.get? bb = h₁.get? bb from rfl, kp₁ _ _ q1] at this
            cases this
      obtain ⟨t, ee⟩ := elem C s₅.heap m₅ d v e' u kh fC hn₅ hm₅ hmy hd (List.mem_of_getElem? he') ((rv.kp k12).kt ht₅) ((ru.kp kp₂).kt ht₅)
      have hlen : (done ++ (List.range i).flatMap (fun i => ((es d)[i]?.map fun e => if b d e then [g d e] else []).getD [])).length ≤ sizeLine := by
        rw [List.length_append]
        have z1 := flat_prefix (fun i => ((es d)[i]?.map fun e => if b d e then [g d e] else []).getD []) (Nat.le_of_lt hi)
        rw [e] at z1
        have z2 : ((es d).flatMap fun e => if b d e then [g d e] else []).length ≤ (ds.flatMap fun d => (es d).flatMap fun e => if b d e then [g d e] else []).length := by
          obtain ⟨p, q, rfl⟩ := List.append_of_mem hd
          simp only [List.flatMap_append, List.flatMap_cons, List.length_append]
          omega
        omega
      refine wpAny_mono (turn_last (env := compEnvC scope cl C env) t ee hl₅ hlen hn₅ hDC h05) (fun _ s₄ q => ?_) fun _ _ e => e
      obtain ⟨h', k', q1, q2, q3, q4⟩ := q
      refine ⟨h', k', m₅, q1, q2.more (by simp), q3, hm₅, ?_⟩
      rw [List.range_succ, List.flatMap_append, ← List.append_assoc]
      simpa [he'] using q4
    · intro h' k'' m' hk0 hk hnC hm' hl'
      rw [e] at hl'
      refine ⟨h', k'', m', rfl, ?_, hnC, hl'⟩
      intro bb o hb q
      refine hk bb o (fun m => ?_) (k12 _ _ q)
      rcases List.mem_cons.mp m with z | m
      · exact hb (by simp [z, compEnvC])
      · rcases List.mem_cons.mp m with z | m
        · exact hb (by simp [z])
        · have := hw bb m
          rw [show ({ s₃ with heap := h₁, toks := k₁ } : Shared).heap.get? bb = h₁.get? bb from rfl, kp₁ _ _ q] at this
          cases this
  refine wpAny_bind (wpAny_runOwn (codeAny_mono (second_start rfl rfl (loop k₂ t₂) (W.self 0 _ _ _ st (loop k₂ t₂))) fun r s' hr => ?_))
  cases r with
  | ok f => exact wpAny_pure hr
  | error e => exact hr
end
end Mine
end
section
open PySem PySem.Calls PyProof.Rows PySem.W PySem.SeqAt
set_option linter.unusedVariables false
namespace Mine

/-- no reader has made tokens whose sharing is not told -/
def NT (h : Heap) : Prop := ∃ mc, h.Ns cStatics mc ∧ mc sharingNotToldKey = none
theorem NT.kp {h h' : Heap} (n : NT h) (k : Kp h h') : NT h' := let ⟨mc, a, b⟩ := n; ⟨mc, a.keeps k, b⟩

/-- scalars and what == says of them -/
inductive C0 : FV → FV → Bool → Prop
  | int (a b : Int) : C0 (.int a) (.int b) (a == b)
  | bool (a b : Bool) : C0 (.bool a) (.bool b) (a == b)
  | bytes (b c : Array UInt8) : C0 (.bytes b) (.bytes c) (decide (b.toList = c.toList))
inductive C0s : List FV → List FV → Bool → Prop
  | nil : C0s [] [] true
  | cons {x y : FV} {xs ys : List FV} {a b : Bool} : C0 x y a → C0s xs ys b → C0s (x :: xs) (y :: ys) (a && b)
inductive C1 : FV → FV → Bool → Prop
  | flat {x y : FV} {a : Bool} : C0 x y a → C1 x y a
  | tup {xs ys : List FV} {a : Bool} : C0s xs ys a → C1 (.tup xs) (.tup ys) a
theorem C0.refl {x : FV} {a : Bool} (c : C0 x x a) : a = true := by
  cases c <;> simp
theorem C0s.refl {xs : List FV} {a : Bool} (c : C0s xs xs a) : a = true := by
  induction xs generalizing a with
  | nil => cases c; rfl
  | cons x xs ih => cases c with | cons p q => rw [p.refl, ih q]; rfl
theorem C0s.length {xs ys : List FV} {a : Bool} (c : C0s xs ys a) : xs.length = ys.length := by
  induction xs generalizing ys a with
  | nil => cases c; rfl
  | cons x xs ih => cases c with | cons _ q => simp [ih q]
theorem C0s.at {xs ys : List FV} {a : Bool} (c : C0s xs ys a) : ∃ e : Nat → Bool, (∀ j x y, xs[j]? = some x → ys[j]? = some y → C0 x y (e j)) ∧ (List.range xs.length).all e = a := by
  induction xs generalizing ys a with
  | nil => cases c; exact ⟨fun _ => true, fun j x y h => by simp at h, rfl⟩
  | cons x xs ih =>
    cases c with
    | @cons _ y _ ys p b hp q =>
      obtain ⟨e, h1, h2⟩ := ih q
      refine ⟨fun j => match j with | 0 => p | j + 1 => e j, fun j x' y' hx hy => ?_, ?_⟩
      · cases j with
        | zero => simp at hx hy; subst hx hy; exact hp
        | succ j => exact h1 j x' y' (by simpa using hx) (by simpa using hy)
      · rw [List.length_cons, List.range_succ_eq_map, List.all_cons, List.all_map, ← h2]
        rfl

mutual
theorem Rf.uniq {h : Heap} {v : Value} {d d' : FV} (r : Rf h v d) (r' : Rf h v d') : d = d' := by
  cases r with
  | none => cases r'; rfl
  | bool => cases r'; rfl
  | int => cases r'; rfl
  | float => cases r'; rfl
  | str => cases r'; rfl
  | bytes => cases r'; rfl
  | tup e rs =>
    cases r' with
    | tup e' rs' =>
      rw [e] at e'
      have : tO _ = tO _ := Option.some.inj e'
      have q := congrArg Obj.data this
      simp only [tO, Data.seq.injEq] at q
      have q' := congrArg Array.toList q.1
      simp only at q'
      subst q'
      rw [Rfs.uniq rs rs']
theorem Rfs.uniq {h : Heap} {vs : List Value} {ds ds' : List FV} (r : Rfs h vs ds) (r' : Rfs h vs ds') : ds = ds' := by
  cases r with
  | nil => cases r'; rfl
  | cons a rs =>
    cases r' with
    | cons b rs' => rw [Rf.uniq a b, Rfs.uniq rs rs']
end

section
variable {prog : Program} {w : World} {A : Around} {E : Value → Shared → Prop} {s : Shared}
theorem sharing_no {t : Tok} {Q : Bool → Shared → Prop} (n : NT s.heap) (h : Q false s) : wpAny (model prog w) A (sharingNotTold t) Q E s := by
  obtain ⟨mc, hn, e⟩ := n
  unfold sharingNotTold
  refine wpAny_bind (wpAny_nsGet hn ?_)
  rw [e]
  exact wpAny_pure h
theorem eqAt_float {a b : UInt64} {t u : Tok} (n : NT s.heap) (ht : t ≠ 0) (hu : u ≠ 0) (htu : t ≠ u) (hc : (Float64.cmp a b == some Ordering.eq) = (a == b)) : EqAt A s (.float a t) (.float b u) (a == b) := by
  intro prog w E Q hQ
  have rc : wpAny (model prog w) A (do truthOfDropped (← richCompare .Eq (.float a t) (.float b u))) Q E s := by
    refine wpAny_bind ?_
    refine AutoFloatOps.eq_0 ?_
    rw [hc]
    exact wpAny_truthy_bool hQ
  unfold eqBool
  refine wpAny_holding ?_
  refine wpAny_ite_split (fun hab => ?_) (fun _ => ?_)
  · have e : Value.float a t = Value.float b u := eq_of_beq hab
    injection e with e1 e2
    exact absurd e2 htu
  · refine wpAny_bind ?_
    show wpAny _ A (isSame.created (a == b && !Float64.isNaN a) t u) _ _ _
    unfold isSame.created
    rw [if_neg (by simp [ht, hu])]
    refine wpAny_ite_split (fun q => absurd (by simpa using q) htu) (fun _ => ?_)
    refine wpAny_ite_split (fun _ => wpAny_pure ?_) (fun he => ?_)
    · rw [if_neg (by simp)]
      exact rc
    · have hab : (a == b) = true := by
        cases q : (a == b) with
        | true => rfl
        | false => simp [q] at he
      refine wpAny_bind (sharing_no n ?_)
      rw [if_neg (by simp)]
      refine wpAny_bind (sharing_no n ?_)
      rw [if_neg (by simp)]
      refine wpAny_bind (wpAny_rule (wpAny_bind (wpAny_askSetting (wpAny_pure ?_))))
      refine wpAny_ite_split (fun _ => ?_) (fun _ => rc)
      rw [hab] at hQ
      exact wpAny_pure hQ
theorem eqAt_0 {x y : FV} {v u : Value} {a : Bool} (c : C0 x y a) (r1 : Rf s.heap v x) (r2 : Rf s.heap u y) : EqAt A s v u a := by
  cases c with
  | int a b => cases r1; cases r2; exact EqAt.int_int _ _ _ _
  | bool a b => cases r1; cases r2; exact EqAt.bool_bool _ _
  | bytes b c => cases r1; cases r2; exact fun prog w E Q hQ => eqBool_bytes hQ
theorem tO_tuple {h : Heap} {a : Addr} {vs : List Value} (e : h.get? a = some (tO vs)) : h.IsTuple a vs.toArray := ⟨_, e, rfl, 0, rfl⟩
theorem eqAt_1 {x y : FV} {v u : Value} {a : Bool} (c : C1 x y a) (hu : A.units < cLine) (r1 : Rf s.heap v x) (r2 : Rf s.heap u y) : EqAt A s v u a := by
  cases c with
  | flat c => exact eqAt_0 c r1 r2
  | @tup xs ys _ c =>
    cases r1 with
    | @tup l vs _ e1 q1 =>
      cases r2 with
      | @tup l' ws _ e2 q2 =>
        by_cases hll : l = l'
        · subst hll
          have := Rf.uniq (Rf.tup e1 q1) (Rf.tup e2 q2)
          injection this with this
          subst this
          rw [c.refl]
          exact EqAt.same _
        · obtain ⟨e, he, hall⟩ := c.at
          refine EqAt.of_refs hll ?_
          have n1 := q1.length
          have n2 := q2.length
          have n3 := c.length
          have := RcAt.tuples (A := A) (e := e) (tO_tuple e1) (tO_tuple e2) hu fun j h1 h2 => ?_
          · rw [show (vs.toArray.size == ws.toArray.size) = true by simp; omega, Bool.and_true, show min vs.toArray.size ws.toArray.size = xs.length by simp; omega, hall] at this
            exact this
          · have a1 : vs[j]? = some vs.toArray[j] := by simpa using (List.getElem?_eq_getElem (by simpa using h1) : vs[j]? = some vs[j])
            have a2 : ws[j]? = some ws.toArray[j] := by simpa using (List.getElem?_eq_getElem (by simpa using h2) : ws[j]? = some ws[j])
            obtain ⟨x, hx, rx⟩ := q1.getV a1
            obtain ⟨y, hy, ry⟩ := q2.getV a2
            exact eqAt_0 (he j x y hx hy) rx ry
end
end Mine
end
section
open PySem PySem.Calls PyProof.Rows PySem.W PySem.SeqAt PySem.MeetsSeq PySem.MeetsSeq2 PySem.MeetsSeq3
set_option linter.unusedVariables false
namespace Mine

theorem C1.refl {x : FV} {a : Bool} (c : C1 x x a) : a = true := by
  cases c with
  | flat c => exact c.refl
  | tup c => exact c.refl

/-- a kind of data whose == is equality -/
structure Enc {α : Type} [DecidableEq α] (enc : α → FV) : Prop where
  eq : ∀ a b, C1 (enc a) (enc b) (decide (a = b))
theorem Enc.inj {α : Type} [DecidableEq α] {enc : α → FV} (E : Enc enc) {a b : α} (h : enc a = enc b) : a = b := by
  have := E.eq a b
  rw [h] at this
  exact of_decide_eq_true this.refl
def PT (p : Int × Int) : FV := .tup [.int p.1, .int p.2]
def BT (p : Bool × Bool) : FV := .tup [.bool p.1, .bool p.2]
theorem Enc.int : Enc FV.int := ⟨fun a b => .flat (by have := C0.int a b; rwa [show (a == b) = decide (a = b) from by rw [Bool.eq_iff_iff]; simp] at this)⟩
theorem Enc.bytes : Enc (fun l : List UInt8 => FV.bytes l.toArray) := ⟨fun a b => .flat (by simpa using C0.bytes a.toArray b.toArray)⟩
theorem Enc.pt : Enc PT := ⟨fun a b => by
  have := C1.tup (C0s.cons (C0.int a.1 b.1) (C0s.cons (C0.int a.2 b.2) C0s.nil))
  rwa [show (a.1 == b.1 && (a.2 == b.2 && true)) = decide (a = b) from by rw [Bool.eq_iff_iff]; simp [Prod.ext_iff]] at this⟩
theorem Enc.bt : Enc BT := ⟨fun a b => by
  have := C1.tup (C0s.cons (C0.bool a.1 b.1) (C0s.cons (C0.bool a.2 b.2) C0s.nil))
  rwa [show (a.1 == b.1 && (a.2 == b.2 && true)) = decide (a = b) from by rw [Bool.eq_iff_iff]; simp [Prod.ext_iff]] at this⟩

theorem Rfs.mem {h : Heap} {vs : List Value} {ds : List FV} (r : Rfs h vs ds) {v : Value} (m : v ∈ vs) : ∃ d ∈ ds, Rf h v d := by
  obtain ⟨k, hk⟩ := List.mem_iff_getElem?.mp m
  obtain ⟨d, hd, rd⟩ := r.getV hk
  exact ⟨d, List.mem_of_getElem? hd, rd⟩

section
variable {prog : Program} {w : World} {A : Around} {E : Value → Shared → Prop} {s : Shared} {α : Type} [DecidableEq α] {enc : α → FV}
open Classical in
/-- x in list -/
theorem In.list (En : Enc enc) {a : Addr} {as : List α} {x : α} {v : Value} {n : Nat} (rm : Rm A (n + 1)) (l : Li s.heap a (as.map enc)) (r : Rf s.heap v (enc x)) :
    Ev prog w A s (compareOp .In v (.ref a)) (Is (.bool (decide (x ∈ as)))) := by
  obtain ⟨vs, k, e, rs⟩ := l
  refine Ev.of fun Q E h0 hQ => ?_
  refine in_listAt (fun y => decide (Rf s.heap y (enc x))) ⟨_, e, rfl, k, rfl⟩ (fun y hy => ?_) ?_
  · obtain ⟨d, hd, rd⟩ := rs.mem (by simpa using hy)
    obtain ⟨b, hb, rfl⟩ := List.mem_map.mp hd
    have := eqAt_1 (A := A.in1) (s := s) (En.eq b x) rm.in1.units rd r
    rw [show decide (Rf s.heap y (enc x)) = decide (b = x) from ?_]
    · exact this
    · rw [decide_eq_decide]
      exact ⟨fun q => En.inj (rd.uniq q), fun q => q ▸ rd⟩
  · rw [show vs.toArray.any (fun y => decide (Rf s.heap y (enc x))) = decide (x ∈ as) from ?_]
    · exact hQ _ s.heap s.toks (Kp.refl _) rfl
    · rw [Bool.eq_iff_iff, ← Array.any_toList, List.any_eq_true]
      simp only [decide_eq_true_eq]
      constructor
      · rintro ⟨y, hy, ry⟩
        obtain ⟨d, hd, rd⟩ := rs.mem hy
        obtain ⟨b, hb, rfl⟩ := List.mem_map.mp hd
        exact En.inj (rd.uniq ry) ▸ hb
      · intro hx
        obtain ⟨j, hj⟩ := List.mem_iff_getElem?.mp hx
        obtain ⟨y, hy, ry⟩ := rs.get (k := j) (d := enc x) (by rw [List.getElem?_map, hj]; rfl)
        exact ⟨y, List.mem_of_getElem? hy, ry⟩

theorem Li.toIsList {a : Addr} {ds : List FV} {h : Heap} (l : Li h a ds) : ∃ vs : List Value, h.IsList a vs.toArray ∧ Rfs h vs ds ∧ vs.length = ds.length := by
  obtain ⟨vs, k, e, rs⟩ := l
  exact ⟨vs, ⟨_, e, rfl, k, rfl⟩, rs, rs.length⟩

/-- two lists compared -/
theorem lists_eq (En : Enc enc) {a b : Addr} {as bs : List α} {n : Nat} (rm : Rm A (n + 1)) (l : Li s.heap a (as.map enc)) (l' : Li s.heap b (bs.map enc)) : RcAt A s (.ref a) (.ref b) (decide (as = bs)) := by
  obtain ⟨vs, hl, rs, n1⟩ := l.toIsList
  obtain ⟨ws, hl', rs', n2⟩ := l'.toIsList
  rw [List.length_map] at n1 n2
  by_cases hsz : as.length = bs.length
  · have := RcAt.lists (A := A) (e := fun j => decide (as[j]? = bs[j]?)) hl hl' (by simp [n1, n2, hsz]) rm.units fun j h1 h2 => ?_
    · rw [show (List.range vs.toArray.size).all (fun j => decide (as[j]? = bs[j]?)) = decide (as = bs) from ?_] at this
      · exact this
      · rw [Bool.eq_iff_iff, List.all_eq_true]
        simp only [decide_eq_true_eq, List.mem_range, List.size_toArray]
        constructor
        · intro q
          refine List.ext_getElem? fun j => ?_
          by_cases hj : j < vs.length
          · exact q j hj
          · rw [List.getElem?_eq_none (by omega), List.getElem?_eq_none (by omega)]
        · rintro rfl j _
          rfl
    · have a1 : vs[j]? = some vs.toArray[j] := by simpa using (List.getElem?_eq_getElem (by simpa using h1) : vs[j]? = some vs[j])
      have a2 : ws[j]? = some ws.toArray[j] := by simpa using (List.getElem?_eq_getElem (by simpa using h2) : ws[j]? = some ws[j])
      obtain ⟨x, hx, rx⟩ := rs.getV a1
      obtain ⟨y, hy, ry⟩ := rs'.getV a2
      rw [List.getElem?_map] at hx hy
      cases ex : as[j]? with
      | none => rw [ex] at hx; cases hx
      | some x' =>
        cases ey : bs[j]? with
        | none => rw [ey] at hy; cases hy
        | some y' =>
          rw [ex] at hx
          rw [ey] at hy
          cases hx
          cases hy
          have := eqAt_1 (A := A.in1) (s := s) (En.eq x' y') rm.in1.units rx ry
          simpa using this
  · rw [show decide (as = bs) = false from decide_eq_false fun q => hsz (by rw [q])]
    exact RcAt.lists_lengths hl hl' (by simp; omega) rm.units
theorem Eq.lists (En : Enc enc) {a b : Addr} {as bs : List α} {n : Nat} (rm : Rm A (n + 1)) (l : Li s.heap a (as.map enc)) (l' : Li s.heap b (bs.map enc)) : Ev prog w A s (compareOp .Eq (.ref a) (.ref b)) (Is (.bool (decide (as = bs)))) :=
  Ev.of fun Q E h0 hQ => lists_eq En rm l l' prog w E Q (hQ _ s.heap s.toks (Kp.refl _) rfl)

/-- two lists of ints, != -/
theorem reads_ints {h : Heap} : ∀ {vs : List Value} {as : List Int}, Rfs h vs (as.map FV.int) → ∃ bs, ReadsAll h vs (as.map PyData.int) bs
  | _, [], r => by cases r; exact ⟨_, .nil⟩
  | _, a :: as, r => by
    cases r with
    | cons x r =>
      cases x
      obtain ⟨bs, q⟩ := reads_ints r
      exact ⟨_, .cons (.int _ _) q⟩
theorem can_ints : ∀ as : List Int, PyData.canLayAll0 (as.map PyData.int) = true ∧ PyData.depthAll (as.map PyData.int) = 0
  | [] => by simp [PyData.canLayAll0, PyData.depthAll]
  | a :: as => by have := can_ints as; simp [PyData.canLayAll0, PyData.depthAll, PyData.canLay0, PyData.depth, this]
theorem Ne.ints {a b : Addr} {as bs : List Int} {n : Nat} (rm : Rm A n) (l : Li s.heap a (as.map FV.int)) (l' : Li s.heap b (bs.map FV.int)) : Ev prog w A s (compareOp .NotEq (.ref a) (.ref b)) (Is (.bool (decide (as ≠ bs)))) := by
  refine Ev.of fun Q E h0 hQ => ?_
  obtain ⟨vs, k, e, rs⟩ := l
  obtain ⟨ws, k', e', rs'⟩ := l'
  obtain ⟨xs, q⟩ := reads_ints rs
  obtain ⟨ys, q'⟩ := reads_ints rs'
  refine compareNe_reads (.list e rfl rfl q) (.list e' rfl rfl q') ?_ ?_ ?_ ?_
  · simpa [PyData.canLay0] using (can_ints as).1
  · simpa [PyData.canLay0] using (can_ints bs).1
  · have := rm.un
    simp only [PyData.depth, (can_ints as).2, (can_ints bs).2]
    show _ < 9900
    omega
  · rw [show PyData.eqv (.list (as.map PyData.int)) (.list (bs.map PyData.int)) = decide (as = bs) from by simp only [PyData.eqv]; exact ked_eqvAll as bs]
    rw [show (!decide (as = bs)) = decide (as ≠ bs) from by simp]
    exact hQ _ s.heap s.toks (Kp.refl _) rfl
end
end Mine
end
section
open PySem PySem.Calls PyProof.Rows PySem.W
set_option linter.unusedVariables false
namespace Mine

/-- what a local name holds -/
inductive Lv where
  | flat (d : FV)
  | list (a : Addr)
def Lv.has (h : Heap) (v : Value) : Lv → Prop
  | .flat d => Rf h v d
  | .list a => v = .ref a
theorem Lv.has.kt {h h' : Heap} {v : Value} {d : Lv} (x : d.has h v) (k : Kt h h') : d.has h' v := by
  cases d with
  | flat d => exact Rf.kt k x
  | list a => exact x

/-- a body's state: what B holds is kept; the names hold D; the own lists L -/
structure Bd (env : Env) (B : Addr → Obj → Prop) (D : List (Str × Lv)) (L : List (Addr × List FV)) (h : Heap) : Prop where
  kp : ∀ a o, B a o → h.get? a = some o
  fl : ∀ o, ¬ B env.locals o
  fL : ∀ p ∈ L, ∀ o, ¬ B p.1 o
  nd : (L.map (·.1)).Nodup
  li : ∀ p ∈ L, Li h p.1 p.2
  ns : ∃ m, h.Ns env.locals m ∧ ∀ x d, D.lookup x = some d → ∃ v, m x = some v ∧ d.has h v

def Sub (D : List (Str × Lv)) : List (Str × Lv) → Prop
  | [] => True
  | p :: ps => D.lookup p.1 = some p.2 ∧ Sub D ps

section
variable {env : Env} {B B' : Addr → Obj → Prop} {D D' : List (Str × Lv)} {L L' : List (Addr × List FV)} {h h' : Heap}
theorem Bd.keep (b : Bd env B D L h) (k : Kp h h') : Bd env B D L h' where
  kp := fun a o e => k _ _ (b.kp a o e)
  fl := b.fl
  fL := b.fL
  nd := b.nd
  li := fun p m => (b.li p m).kp k
  ns := let ⟨m, n, q⟩ := b.ns; ⟨m, n.keeps k, fun x d e => let ⟨v, e1, e2⟩ := q x d e; ⟨v, e1, e2.kt k.toT⟩⟩
theorem Sub.lookup {D D' : List (Str × Lv)} (s : Sub D D') {x : Str} {d : Lv} (e : D'.lookup x = some d) : D.lookup x = some d := by
  induction D' with
  | nil => cases e
  | cons p ps ih =>
    obtain ⟨y, c⟩ := p
    rw [List.lookup_cons] at e
    cases q : (x == y) with
    | true => rw [q] at e; cases e; rw [eq_of_beq q]; exact s.1
    | false => rw [q] at e; exact ih s.2 e
theorem Bd.sub (b : Bd env B D L h) (s : Sub D D') : Bd env B D' L h where
  kp := b.kp
  fl := b.fl
  fL := b.fL
  nd := b.nd
  li := b.li
  ns := let ⟨m, n, q⟩ := b.ns; ⟨m, n, fun x d e => q x d (s.lookup e)⟩
theorem Bd.base (b : Bd env B D L h) (k : ∀ a o, B' a o → B a o) : Bd env B' D L h where
  kp := fun a o e => b.kp a o (k a o e)
  fl := fun o e => b.fl o (k _ o e)
  fL := fun p m o e => b.fL p m o (k _ o e)
  nd := b.nd
  li := b.li
  ns := b.ns
/-- all else as it stands now -/
def Rest (env : Env) (L : List (Addr × List FV)) (h : Heap) : Addr → Obj → Prop := fun a o => a ≠ env.locals ∧ a ∉ L.map (·.1) ∧ h.get? a = some o
theorem Bd.rest (b : Bd env B D L h) : Bd env (Rest env L h) D L h where
  kp := fun a o e => e.2.2
  fl := fun o e => e.1 rfl
  fL := fun p m o e => e.2.1 (List.mem_map_of_mem m)
  nd := b.nd
  li := b.li
  ns := b.ns
theorem Bd.inRest (b : Bd env B D L h) : ∀ a o, B a o → Rest env L h a o := fun a o e => ⟨fun q => b.fl o (q ▸ e), fun m => by
  obtain ⟨p, hp, q⟩ := List.mem_map.mp m
  exact b.fL p hp o (q ▸ e), b.kp a o e⟩
theorem Bd.ne (b : Bd env B D L h) : ∀ p ∈ L, p.1 ≠ env.locals := fun p m q => by
  obtain ⟨vs, n, e, _⟩ := b.li p m
  obtain ⟨m', ⟨o, es, ep, ho, hd, _⟩, _⟩ := b.ns
  rw [q, ho] at e
  cases e
  cases hd
theorem Bd.noTup (b : Bd env B D L h) : NoTup (env.locals :: L.map (·.1)) h := NoTup.cons (by obtain ⟨m, n, _⟩ := b.ns; exact Ns.noTup n) fun a ma => by
  obtain ⟨p, hp, q⟩ := List.mem_map.mp ma
  exact q ▸ (b.li p hp).noTup
/-- a name's store -/
theorem Bd.store {x : Str} {v : Value} {d : Lv} {m : Str → Option Value} (b : Bd env B D L h) (hn : h.Ns env.locals m) (hm : ∀ y c, D.lookup y = some c → ∃ v, m y = some v ∧ c.has h v)
    (hd : d.has h v) (hs : Kx [env.locals] h h') (hn' : h'.Ns env.locals (fun y => if y = x then some v else m y)) : Bd env B ((x, d) :: D) L h' where
  kp := fun a o e => hs a o (fun q => b.fl o (by rw [List.mem_singleton.mp q] at e; exact e)) (b.kp a o e)
  fl := b.fl
  fL := b.fL
  nd := b.nd
  li := fun p mp => (b.li p mp).kx hs (fun q => b.ne p mp (List.mem_singleton.mp q)) (NoTup.cons (Ns.noTup hn) NoTup.nil)
  ns := ⟨_, hn', fun y c e => by
    have kt : Kt h h' := hs.kt (NoTup.cons (Ns.noTup hn) NoTup.nil)
    rw [List.lookup_cons] at e
    cases q : (y == x) with
    | true =>
      rw [q] at e
      cases e
      exact ⟨v, by rw [if_pos (eq_of_beq q)], hd.kt kt⟩
    | false =>
      rw [q] at e
      obtain ⟨u, e1, e2⟩ := hm y c e
      exact ⟨u, by rw [if_neg (fun z => by simp [z] at q)]; exact e1, e2.kt kt⟩⟩
/-- a fresh list -/
theorem Bd.own {a : Addr} {ds : List FV} (b : Bd env B D L h) (l : Li h a ds) (f : ∀ o, ¬ B a o) (fl : a ∉ L.map (·.1)) : Bd env B D ((a, ds) :: L) h where
  kp := b.kp
  fl := b.fl
  fL := fun p m => by
    rcases List.mem_cons.mp m with q | q
    · exact q ▸ f
    · exact b.fL p q
  nd := by rw [List.map_cons, List.nodup_cons]; exact ⟨fl, b.nd⟩
  li := fun p m => by
    rcases List.mem_cons.mp m with q | q
    · exact q ▸ l
    · exact b.li p q
  ns := b.ns
/-- forget a list -/
theorem Bd.fewer (b : Bd env B D L h) (s : L'.Sublist L) : Bd env B D L' h where
  kp := b.kp
  fl := b.fl
  fL := fun p m => b.fL p (s.subset m)
  nd := (s.map _).nodup b.nd
  li := fun p m => b.li p (s.subset m)
  ns := b.ns
/-- an own list is turned -/
theorem Bd.turn {L1 L2 : List (Addr × List FV)} {a : Addr} {ds ds' : List FV} (b : Bd env B D (L1 ++ (a, ds) :: L2) h) (hs : Heap.SameBut a h h') (l : Li h' a ds') : Bd env B D (L1 ++ (a, ds') :: L2) h' := by
  have ha : (a, ds) ∈ L1 ++ (a, ds) :: L2 := by simp
  have kx : Kx [a] h h' := Kx.of_same hs (by simp)
  have nt : NoTup [a] h := NoTup.cons (b.li _ ha).noTup NoTup.nil
  have nd := b.nd
  rw [List.map_append, List.map_cons] at nd
  have nd' := nd
  rw [List.nodup_append] at nd
  obtain ⟨n1, n2, n3⟩ := nd
  rw [List.nodup_cons] at n2
  have off : ∀ p, (p ∈ L1 ∨ p ∈ L2) → p.1 ∉ [a] := by
    rintro p (q | q) z
    · exact n3 p.1 (List.mem_map_of_mem q) a (by simp) (List.mem_singleton.mp z)
    · exact n2.1 (by have := List.mem_map_of_mem (f := Prod.fst) q; rw [List.mem_singleton.mp z] at this; exact this)
  refine ⟨fun c o e => ?_, b.fl, fun p m => ?_, by simpa using nd', fun p m => ?_, ?_⟩
  · refine kx c o (fun q => b.fL _ ha o ?_) (b.kp c o e)
    rw [List.mem_singleton.mp q] at e
    exact e
  · rcases List.mem_append.mp m with q | q
    · exact b.fL p (List.mem_append_left _ q)
    · rcases List.mem_cons.mp q with q | q
      · have := b.fL _ ha
        subst q
        exact this
      · exact b.fL p (by simp [q])
  · rcases List.mem_append.mp m with q | q
    · exact (b.li p (List.mem_append_left _ q)).kx kx (off p (.inl q)) nt
    · rcases List.mem_cons.mp q with q | q
      · exact q ▸ l
      · exact (b.li p (by simp [q])).kx kx (off p (.inr q)) nt
  · obtain ⟨m, n, q⟩ := b.ns
    exact ⟨m, n.sameBut hs (Ne.symm (b.ne _ ha)), fun x d e => let ⟨v, e1, e2⟩ := q x d e; ⟨v, e1, e2.kt (kx.kt nt)⟩⟩
end

section
variable {prog : Program} {w : World} {α β : Type} {A : Around} {env : Env} {B B' : Addr → Obj → Prop} {D D' : List (Str × Lv)} {L L' : List (Addr × List FV)} {h h' : Heap}

/-- from any state with this heap -/
@[irreducible] def Xv (prog : Program) (w : World) (A : Around) (h : Heap) (c : Sem α) (R : α → Heap → Prop) : Prop :=
  ∀ s : Shared, s.heap = h → ∀ (Q : α → Shared → Prop) (E : Value → Shared → Prop), (∀ f h' k, 0 < k → R f h' → Q f { s with heap := h', toks := k }) → 0 < s.toks → wpAny (model prog w) A c Q E s
theorem Xv.mono {c : Sem α} {R R' : α → Heap → Prop} (x : Xv prog w A h c R) (i : ∀ f h, R f h → R' f h) : Xv prog w A h c R' := by with_unfolding_all exact (fun s hs Q E hQ h0 => x s hs Q E (fun f h k k0 r => hQ f h k k0 (i f h r)) h0)

-- names
theorem Bd.v {x : Str} {d : FV} (b : Bd env B D L h) (e : D.lookup x = some (.flat d) := by rfl) (hk : env.scope.kind = .function := by rfl) (hl : env.kindOf x = some .local := by rfl) : LV prog w A env h x (F d) := by
  obtain ⟨m, n, q⟩ := b.ns
  obtain ⟨v, e1, e2⟩ := q x _ e
  exact LV.local n e1 (fun h' k => Rf.kp k e2) hk hl
theorem Bd.n {x : Str} {d : FV} {pos : Pos} (b : Bd env B D L h) (e : D.lookup x = some (.flat d) := by rfl) (hk : env.scope.kind = .function := by rfl) (hl : env.kindOf x = some .local := by rfl) (hd : (x == ("__debug__" : Str)) = false := by decide) :
    EV prog w A env h (.Name x pos) (F d) := EV.name (b.v e hk hl) hd
theorem Bd.nr {x : Str} {a : Addr} {pos : Pos} (b : Bd env B D L h) (e : D.lookup x = some (.list a) := by rfl) (hk : env.scope.kind = .function := by rfl) (hl : env.kindOf x = some .local := by rfl) (hd : (x == ("__debug__" : Str)) = false := by decide) :
    EV prog w A env h (.Name x pos) (Is (.ref a)) := by
  obtain ⟨m, n, q⟩ := b.ns
  obtain ⟨v, e1, e2⟩ := q x _ e
  cases e2
  exact EV.name (LV.local n e1 (fun h' k => rfl) hk hl) hd
theorem Bd.nl {x : Str} {a : Addr} {ds : List FV} {pos : Pos} (b : Bd env B D L h) (l : Li h a ds) (e : D.lookup x = some (.list a) := by rfl) (hk : env.scope.kind = .function := by rfl) (hl : env.kindOf x = some .local := by rfl) (hd : (x == ("__debug__" : Str)) = false := by decide) :
    EV prog w A env h (.Name x pos) (Ls ds) := by with_unfolding_all exact (fun s k => ((b.nr (prog := prog) (w := w) (A := A) e hk hl hd) s k).mono fun v h' kk p => ⟨a, p, (l.kp k).kp kk⟩)

-- statements
theorem X.nil {R : Flow → Heap → Prop} (r : R .next h) : Xv prog w A h (execs [] env) R := by with_unfolding_all
  rintro s rfl Q E hQ h0
  exact wpAny_execs_nil (hQ .next s.heap s.toks h0 r)
theorem X.cons {st : Stmt} {rest : List Stmt} {R R1 : Flow → Heap → Prop} (a : Xv prog w A h (exec st env) R1) (k : ∀ h', R1 .next h' → Xv prog w A h' (execs rest env) R) (o : ∀ f h', f ≠ .next → R1 f h' → R f h') :
    Xv prog w A h (execs (st :: rest) env) R := by with_unfolding_all
  intro s hs Q E hQ h0
  refine wpAny_execs_cons (a s hs _ E (fun f h' k' k0 r => ?_) h0)
  cases f with
  | next => exact k h' r { s with heap := h', toks := k' } rfl Q E (fun f h k k0 r => hQ f h k k0 r) k0
  | cont => exact hQ _ _ _ k0 (o _ _ (by simp) r)
  | brk => exact hQ _ _ _ k0 (o _ _ (by simp) r)
  | ret v => exact hQ _ _ _ k0 (o _ _ (by simp) r)
def N (P : Heap → Prop) : Flow → Heap → Prop := fun f h => f = .next ∧ P h
theorem X.seq {st : Stmt} {rest : List Stmt} {R : Flow → Heap → Prop} {P : Heap → Prop} (a : Xv prog w A h (exec st env) (N P)) (k : ∀ h', P h' → Xv prog w A h' (execs rest env) R) : Xv prog w A h (execs (st :: rest) env) R :=
  X.cons a (fun h' r => k h' r.2) fun f h' n r => absurd r.1 n
theorem X.ret {e : PySem.Expr} {pos : Pos} {P : Value → Heap → Prop} {R : Flow → Heap → Prop} (a : EV prog w A env h e P) (r : ∀ v h', Kp h h' → P v h' → R (.ret v) h') : Xv prog w A h (exec (.Return (some e) pos) env) R := by with_unfolding_all
  rintro s rfl Q E hQ h0
  exact wpAny_Return_some (a.wp h0 fun v h' k kp k0 p => hQ _ h' k k0 (r v h' kp p))
theorem X.retL {e : PySem.Expr} {pos : Pos} {rest : List Stmt} {P : Value → Heap → Prop} {R : Flow → Heap → Prop} (a : EV prog w A env h e P) (r : ∀ v h', Kp h h' → P v h' → R (.ret v) h') : Xv prog w A h (execs (.Return (some e) pos :: rest) env) R :=
  X.cons (R1 := fun f h => f ≠ .next ∧ R f h) (X.ret a fun v h' k p => ⟨by simp, r v h' k p⟩) (fun _ x => absurd rfl x.1) fun _ _ _ x => x.2

theorem X.assign {x : Str} {p pos : Pos} {e : PySem.Expr} {d : FV} (b : Bd env B D L h) (a : EV prog w A env h e (F d)) (hx : env.kindOf x = some .local := by rfl)
    (hp : (env.scope.kind == .class || (env.scope.kind == .module && env.locals != env.globals)) = false := by rfl)
    (hsw : swapsWith e (some (.Name x p)) pos.line env = Pure.pure false := by rfl) : Xv prog w A h (exec (.Assign [.Name x p] e pos) env) (N (Bd env B ((x, .flat d) :: D) L)) := by with_unfolding_all
  rintro s rfl Q E hQ h0
  refine wpAny_Assign_Name (a.wp h0 fun v h' k kp k0 r => ?_) hsw
  obtain ⟨m, n, q⟩ := (b.keep kp).ns
  refine wpAny_storeName_local hx n (fun h₂ hn₂ hs₂ => ?_) hp
  exact hQ .next h₂ _ (Nat.lt_of_lt_of_le k0 (Nat.le_add_right _ _)) ⟨rfl, (b.keep kp).store n q r (Kx.of_same hs₂ (by simp)) hn₂⟩
/-- a name's new list -/
theorem X.assignN {x : Str} {p pos : Pos} {e : PySem.Expr} {ds : List FV} (b : Bd env B D L h) (a : EV prog w A env h e (Nw h ds)) (hx : env.kindOf x = some .local := by rfl)
    (hp : (env.scope.kind == .class || (env.scope.kind == .module && env.locals != env.globals)) = false := by rfl)
    (hsw : swapsWith e (some (.Name x p)) pos.line env = Pure.pure false := by rfl) : Xv prog w A h (exec (.Assign [.Name x p] e pos) env) (N fun h' => ∃ a, Bd env B ((x, .list a) :: D) ((a, ds) :: L) h') := by with_unfolding_all
  rintro s rfl Q E hQ h0
  refine wpAny_Assign_Name (a.wp h0 fun v h' k kp k0 r => ?_) hsw
  obtain ⟨c, rfl, fc, lc⟩ := r
  have b' := (b.keep kp).own lc (fun o e => by rw [b.kp _ _ e] at fc; cases fc) (fun m => by
    obtain ⟨q, hq, rfl⟩ := List.mem_map.mp m
    obtain ⟨vs, n, e, _⟩ := b.li q hq
    rw [e] at fc; cases fc)
  obtain ⟨m, n, q⟩ := b'.ns
  refine wpAny_storeName_local hx n (fun h₂ hn₂ hs₂ => ?_) hp
  exact hQ .next h₂ _ (Nat.lt_of_lt_of_le k0 (Nat.le_add_right _ _)) ⟨rfl, c, b'.store n q rfl (Kx.of_same hs₂ (by simp)) hn₂⟩

theorem X.if {t : PySem.Expr} {body orelse : List Stmt} {pos : Pos} {c : Bool} {R : Flow → Heap → Prop} (a : TV prog w A env h t (fun y _ => y = c)) (x : ∀ h', Kp h h' → c = true → Xv prog w A h' (execs body env) R) (y : ∀ h', Kp h h' → c = false → Xv prog w A h' (execs orelse env) R) :
    Xv prog w A h (exec (.If t body orelse pos) env) R := by with_unfolding_all
  rintro s rfl Q E hQ h0
  refine wpAny_If (a.wp h0 fun v h' k kp k0 r => ?_)
  subst r
  cases v with
  | true => exact x h' kp rfl { s with heap := h', toks := k } rfl Q E (fun f h k k0 r => hQ f h k k0 r) k0
  | false => exact y h' kp rfl { s with heap := h', toks := k } rfl Q E (fun f h k k0 r => hQ f h k k0 r) k0

theorem X.while {t : PySem.Expr} {body : List Stmt} {pos : Pos} {R : Flow → Heap → Prop} (P : Nat → Heap → Prop)
    (turn : ∀ n h, P n h → ∃ c, TV prog w A env h t (fun y _ => y = c) ∧
      (c = true → ∀ h', Kp h h' → Xv prog w A h' (execs body env) (fun f h' => match f with | .next => ∃ m, m < n ∧ P m h' | .ret v => R (.ret v) h' | _ => False)) ∧
      (c = false → ∀ h', Kp h h' → R .next h')) (n : Nat) (p : P n h) : Xv prog w A h (exec (.While t body [] pos) env) R := by with_unfolding_all
  rintro s rfl Q E hQ h0
  refine wpAny_While (codeAny_whileLoop (fun n s' => ∃ h' k, s' = { s with heap := h', toks := k } ∧ 0 < k ∧ P n h') ?_ n ⟨s.heap, s.toks, rfl, h0, p⟩)
  rintro n s' ⟨h', k, rfl, k0, p'⟩
  obtain ⟨c, a, x, y⟩ := turn n h' p'
  refine a.wp (s := { s with heap := h', toks := k }) k0 fun v h₂ k₂ kp₂ k02 r => ?_
  subst r
  cases v with
  | true =>
    refine x rfl h₂ kp₂ { s with heap := h₂, toks := k₂ } rfl _ _ (fun f h₃ k₃ k03 r => ?_) k02
    cases f with
    | next => obtain ⟨m, hm, pm⟩ := r; exact ⟨m, hm, h₃, k₃, rfl, k03, pm⟩
    | ret v => exact hQ _ _ _ k03 r
    | cont => exact r.elim
    | brk => exact r.elim
  | false => exact wpAny_execs_nil (hQ _ _ _ k02 (y rfl h₂ kp₂))

/-- a for over data that no turn reaches; J tells the names and the lists ahead of turn i -/
theorem X.for {x : Str} {px pos : Pos} {iter : PySem.Expr} {body : List Stmt} {PI : Value → Heap → Prop} {ds : List FV} (J : Nat → List (Str × Lv) × List (Addr × List FV)) (b : Bd env B (J 0).1 (J 0).2 h)
    (a : EV prog w A env h iter PI) (hit : ∀ (s : Shared) v, Kp h s.heap → PI v s.heap → Itf prog w A s.heap v ds)
    (ad : ∀ i, i < ds.length → (J (i + 1)).2.map (·.1) = (J i).2.map (·.1))
    (turn : ∀ B' i d h', (∀ a o, B a o → B' a o) → ds[i]? = some d → Bd env B' ((x, .flat d) :: (J i).1) (J i).2 h' → Xv prog w A h' (execs body env) (N (Bd env B' (J (i + 1)).1 (J (i + 1)).2)))
    (hx : env.kindOf x = some .local := by rfl) (hp : (env.scope.kind == .class || (env.scope.kind == .module && env.locals != env.globals)) = false := by rfl)
    (hs : ∀ x, foldedSetIterable iter env x = Pure.pure x := by intro _; rfl) : Xv prog w A h (exec (.For (.Name x px) iter body [] pos) env) (N (Bd env B (J ds.length).1 (J ds.length).2)) := by with_unfolding_all
  rintro s rfl Q E hQ h0
  refine wpAny_For (a.wp h0 fun v h₁ k₁ kp₁ t₁ p₁ => ?_) hs
  have b₁ := b.keep kp₁
  refine wpAny_with_toks (n := 1) (s := { s with heap := h₁, toks := k₁ }) t₁ (hit { s with heap := h₁, toks := k₁ } v kp₁ p₁ { s with heap := h₁, toks := k₁ } (Kp.refl _) _ _ fun I fp wr St h₂ k₂ kp₂ W st hb hw hwt hfw t₂ => ?_)
  have b₂ := b₁.keep kp₂
  have ads : ∀ i, i ≤ ds.length → (J i).2.map (·.1) = (J 0).2.map (·.1) := by
    intro i
    induction i with
    | zero => intro _; rfl
    | succ i ih => intro q; rw [ad i (by omega), ih (by omega)]
  have offw : ∀ c ∈ wr, h₁.get? c = none := hw
  have loff : env.locals ∉ wr := fun m => by
    obtain ⟨m', ⟨o, _, _, ho, _⟩, _⟩ := b₁.ns
    rw [offw _ m] at ho; cases ho
  have Loff : ∀ c ∈ (J 0).2.map (·.1), c ∉ wr := fun c mc m => by
    obtain ⟨q, hq, rfl⟩ := List.mem_map.mp mc
    obtain ⟨vs, n, e, _⟩ := b₁.li q hq
    rw [offw _ m] at e; cases e
  have Boff : ∀ c o, B c o → c ∉ wr := fun c o e m => by
    have := b₁.kp c o e
    rw [offw _ m] at this; cases this
  refine codeAny_forLoop_any (fun n s' => ∃ i h' k, s' = { s with heap := h', toks := k } ∧ 0 < k ∧ i ≤ ds.length ∧ n = ds.length - i ∧ St i h' ∧ Bd env B (J i).1 (J i).2 h' ∧ (∀ c o, h₁.get? c = some o → c ≠ env.locals → c ∉ (J 0).2.map (·.1) → h'.get? c = some o)) ?_ ds.length
    ⟨0, h₂, k₂, rfl, t₂, Nat.zero_le _, rfl, st, b₂, fun c o e _ _ => kp₂ c o e⟩
  rintro n s' ⟨i, h', k, rfl, k0, hi, rfl, st', b', old⟩
  refine wpAny_with_toks (n := 1) (s := { s with heap := h', toks := k }) k0 ?_
  have thru : ∀ {h₃ : Heap}, (∀ c o, c ∉ wr → h'.get? c = some o → h₃.get? c = some o) → Bd env B (J i).1 (J i).2 h₃ := fun {h₃} k3 => by
    have nt := hwt i h' st'
    have kt : Kt h' h₃ := Kx.kt (S := wr) k3 nt
    refine ⟨fun c o e => k3 c o (Boff c o e) (b'.kp c o e), b'.fl, b'.fL, b'.nd, fun p m => ?_, ?_⟩
    · exact (b'.li p m).kx (S := wr) k3 (Loff _ (ads i hi ▸ List.mem_map_of_mem m)) nt
    · obtain ⟨m, n, q⟩ := b'.ns
      exact ⟨m, Ns.kx (S := wr) n k3 loff, fun x d e => let ⟨v, e1, e2⟩ := q x d e; ⟨v, e1, e2.kt kt⟩⟩
  by_cases hlt : i < ds.length
  · refine W.item i _ _ _ hlt st' fun v h₃ k₃ pv st₃ k3 z3 => ?_
    have b₃ := thru k3
    obtain ⟨d, hd, rv⟩ := pv
    have oldc : ∀ c o, h₁.get? c = some o → c ∉ wr := fun c o e m => by rw [offw c m] at e; cases e
    have rv' : Rf h₃ v d := by
      refine rv.kt fun c vs e => ?_
      refine k3 c _ (oldc c _ e) (old c _ e (fun q => ?_) (fun m => ?_))
      · obtain ⟨m', n', _⟩ := b₁.ns
        exact Ns.noTup n' vs (q ▸ e)
      · obtain ⟨q, hq, rfl⟩ := List.mem_map.mp m
        exact (b₁.li q hq).noTup vs e
    show wpAny _ A (letOwnedTupleGo (.Name x px) (.ref I) v) _ _ _
    refine wpAny_of_eq (a := ()) rfl ?_
    obtain ⟨m, n, q⟩ := b₃.ns
    refine wpAny_assign_Name (wpAny_storeName_local hx n (fun h₄ hn₄ hs₄ => ?_) hp)
    have b₄ := b₃.store (d := .flat d) n q rv' (Kx.of_same hs₄ (by simp)) hn₄
    have st₄ : St (i + 1) h₄ := W.frame _ _ _ st₃ fun c hc o e => hs₄.extBut c o (fun z => loff (z ▸ hfw c hc)) e
    refine turn (Rest env (J i).2 h₄) i d h₄ b₄.inRest hd b₄.rest { s with heap := h₄, toks := k₃ + 1 } rfl _ _ (fun f h₅ k₅ k05 r => ?_) (Nat.succ_pos _)
    obtain ⟨rfl, b₅⟩ := r
    refine ⟨ds.length - (i + 1), by omega, i + 1, h₅, k₅, rfl, k05, hlt, rfl, ?_, ?_, ?_⟩
    · exact W.frame _ _ _ st₄ fun c hc o e => b₅.kp c o ⟨fun z => loff (z ▸ hfw c hc), fun z => Loff c (ads i hi ▸ z) (hfw c hc), e⟩
    · exact b₅.base b₄.inRest
    · intro c o e n1 n2
      exact b₅.kp c o ⟨n1, ads i hi ▸ n2, hs₄.extBut c o n1 (k3 c o (oldc c o e) (old c o e n1 n2))⟩
  · have hin : i = ds.length := by omega
    subst hin
    refine W.done _ _ _ st' fun h₃ k₃ k3 z3 => wpAny_execs_nil (hQ _ _ _ z3 ⟨rfl, thru k3⟩)
end
end Mine
end
section
open PySem PySem.Calls PyProof.Rows PySem.W PySem.SeqAt PySem.MeetsSeq PySem.MeetsSeq2 PySem.MeetsSeq3
open AutoSeq1 (wpAny_loadPart')
set_option linter.unusedVariables false
namespace Mine

/-- what list.remove asks of the state, and what it leaves: the item at j goes -/
def Removes (l : Addr) (items : Array Value) (n : Nat) (x : Value) (ans : Value → Bool) (j : Nat) (A : Around) (R : Result → Shared → Prop) (s : Shared) : Prop :=
  s.heap.get? l = some { cls := .type "list", dict := none, data := .seq items n, slots := #[] } ∧ (∀ y ∈ items, EqAt A.in1 s y x (ans y)) ∧ R (.ok (.ret .none)) { s with heap := s.heap.update l (Obj.mapSeq fun xs => xs.eraseIdxIfInBounds j) }
/-- the loop of list.remove, from i on: d items answer no, the next one answers yes -/
theorem remove_from {l : Addr} {items : Array Value} {n : Nat} {x : Value} {ans : Value → Bool} (small : items.size ≤ sizeLine) : ∀ (d i : Nat) (at_ : i + d < items.size), ans items[i + d] = true → (∀ m (lt : m < d), ans (items[i + m]'(by omega)) = false) →
    Meets (Builtin.«list.remove.loop» ⟨[.ref l, x, rawInt i], []⟩) (Removes l items n x ans (i + d)) := by
  intro d
  induction d with
  | zero =>
    rintro i at_ yes - prog w A R ⟨heap, gens, drawn, toks, os⟩ ⟨stands, eqs, left⟩
    have item : items[((i : Nat) : Int).toNat]? = some items[i] := by rw [Int.toNat_natCast]; exact Array.getElem?_eq_getElem at_
    wp_walk using wpAny_loadPart' stands
    rw [item]
    refine wpAny_bind (eqs items[i] (Array.getElem_mem at_) prog w _ _ ?_)
    rw [show ans items[i] = true from yes]
    have cut : (items.eraseIdxIfInBounds i).size ≤ sizeLine + 1 := Nat.le_succ_of_le (Nat.le_trans (size_erased items i) small)
    wp_walk using (wpAny_updateSeq stands rfl (hz := small) (_hz' := cut)), wpAny_loadPart' stands
    exact left
  | succ d more =>
    rintro i at_ yes no prog w A R ⟨heap, gens, drawn, toks, os⟩ ⟨stands, eqs, left⟩
    have lt : i < items.size := by omega
    have item : items[((i : Nat) : Int).toNat]? = some items[i] := by rw [Int.toNat_natCast]; exact Array.getElem?_eq_getElem lt
    have shift : i + 1 + d = i + (d + 1) := by omega
    wp_walk using wpAny_loadPart' stands
    rw [item]
    refine wpAny_bind (eqs items[i] (Array.getElem_mem lt) prog w _ _ ?_)
    rw [show ans items[i] = false from no 0 (Nat.succ_pos d)]
    wp_walk
    refine ⟨plainId_quiet plain_remove_loop _, codeAny_builtin entry_remove_loop ?_⟩
    rw [Around.under_plainId plain_remove_loop _]
    refine more (i + 1) (by omega) (by simpa only [shift] using yes) (fun m lt => ?_) prog w A R _ ⟨stands, eqs, shift ▸ left⟩
    have := no (m + 1) (Nat.succ_lt_succ lt)
    have e : i + 1 + m = i + (m + 1) := by omega
    simpa only [e] using this
theorem list_remove_at {l : Addr} {items : Array Value} {n : Nat} {x : Value} {ans : Value → Bool} (small : items.size ≤ sizeLine) {j : Nat} (at_ : j < items.size) (yes : ans items[j] = true) (no : ∀ m (lt : m < j), ans (items[m]'(by omega)) = false) :
    Meets (Builtin.«list.remove» ⟨[.ref l, x], []⟩) (Removes l items n x ans j) := by
  rintro prog w A R ⟨heap, gens, drawn, toks, os⟩ ⟨stands, eqs, left⟩
  wp_walk using wpAny_loadPart' stands
  refine ⟨plainId_quiet plain_remove_loop _, codeAny_builtin entry_remove_loop ?_⟩
  rw [Around.under_plainId plain_remove_loop _]
  have e : 0 + j = j := Nat.zero_add j
  exact remove_from small j 0 (by omega) (by simpa only [e] using yes) (fun m lt => by simpa only [Nat.zero_add] using no m lt) prog w A R _ ⟨stands, eqs, e.symm ▸ left⟩

section
variable {prog : Program} {w : World} {A : Around} {E : Value → Shared → Prop} {s : Shared} {α : Type} [DecidableEq α] {enc : α → FV}
theorem Rfs.erase {h : Heap} {vs : List Value} {ds : List FV} (r : Rfs h vs ds) (j : Nat) : Rfs h (vs.eraseIdx j) (ds.eraseIdx j) := by
  induction vs generalizing ds j with
  | nil => cases r; simpa using Rfs.nil
  | cons v vs ih =>
    cases r with
    | cons a r =>
      cases j with
      | zero => simpa using r
      | succ j => simpa using Rfs.cons a (ih r j)
theorem erase_map (as : List α) (f : α → FV) (j : Nat) : (as.map f).eraseIdx j = (as.eraseIdx j).map f := by
  induction as generalizing j with
  | nil => simp
  | cons a as ih => cases j <;> simp [ih]
/-- l.pop() -/
theorem Li.pop {a : Addr} {ds : List FV} {d : FV} {Q : Value → Shared → Prop} (l : Li s.heap a (ds ++ [d])) (hz : ds.length < sizeLine)
    (hQ : ∀ h v, Heap.SameBut a s.heap h → Li h a ds → Rf h v d → Q v { s with heap := h }) : wpAny (model prog w) A (call (.builtin "list.pop") [.ref a]) Q E s := by
  obtain ⟨vs, n, e, rs⟩ := l
  obtain ⟨us, ws, rfl, r1, r2⟩ := rs.split
  cases r2 with
  | @cons v _ _ _ rv r2 =>
    cases r2
    have nt : ∀ vs', lO (us ++ [v]) n ≠ tO vs' := fun _ => lO_ne
    refine call_meets F.slot_list_pop ⟨_, e, rfl⟩ F.entry_list_pop (F.args_list_pop_1 _) (list_pop_last a (us ++ [v]).toArray n v (by simp) (by simp [r1.length]; omega)) ⟨e, ?_⟩
    have sb : Heap.SameBut a s.heap (s.heap.update a (Obj.mapSeq fun xs => xs.eraseIdxIfInBounds ((us ++ [v]).toArray.size - 1))) := Heap.SameBut.update ..
    refine hQ _ v sb ⟨us, n + 1, ?_, r1.kt (Kt.same sb e nt)⟩ (rv.kt (Kt.same sb e nt))
    rw [Heap.get?_update_self _ e rfl]
    have e1 : (us ++ [v]).eraseIdx us.length = us := by
      rw [List.eraseIdx_append_of_length_le (Nat.le_refl _)]
      simp
    simp [lO, Obj.mapSeq, Array.eraseIdxIfInBounds, e1]
open Classical in
/-- l.remove(x), where x is in l -/
theorem Li.remove (En : Enc enc) {a : Addr} {as : List α} {x : α} {v : Value} {n : Nat} {Q : Value → Shared → Prop} (rm : Rm A (n + 1)) (l : Li s.heap a (as.map enc)) (r : Rf s.heap v (enc x)) (hx : x ∈ as) (hz : as.length < sizeLine)
    (hQ : ∀ h, Heap.SameBut a s.heap h → Li h a ((as.erase x).map enc) → Q .none { s with heap := h }) : wpAny (model prog w) A (call (.builtin "list.remove") [.ref a, v]) Q E s := by
  obtain ⟨vs, n, e, rs⟩ := l
  have n1 : vs.length = as.length := by simpa using rs.length
  have ei : as.erase x = as.eraseIdx (as.idxOf x) := List.erase_eq_eraseIdx_of_idxOf rfl
  have hlt : as.idxOf x < as.length := List.idxOf_lt_length_of_mem hx
  have hlt' : as.idxOf x < vs.length := by omega
  have at' : ∀ j (hj : j < vs.length), Rf s.heap vs[j] (enc (as[j]'(by omega))) := fun j hj => by
    obtain ⟨d, hd, rd⟩ := rs.getV (List.getElem?_eq_getElem hj)
    rw [List.getElem?_map, List.getElem?_eq_getElem (by omega)] at hd
    cases hd
    exact rd
  have nt : ∀ vs', lO vs n ≠ tO vs' := fun _ => lO_ne
  refine call_meets F.slot_list_remove ⟨_, e, rfl⟩ F.entry_list_remove (F.args_list_remove_2 _ _) (list_remove_at (ans := fun y => decide (Rf s.heap y (enc x))) (j := as.idxOf x) (by simp; omega) (by simpa using hlt') ?_ fun m hlt2 => ?_) ⟨e, fun y hy => ?_, ?_⟩
  · have := at' _ hlt'
    rw [List.getElem_idxOf] at this
    simpa using this
  · have hm' : m < vs.length := by omega
    refine decide_eq_false fun q => ?_
    have q' : Rf s.heap vs[m] (enc x) := by simpa using q
    have ez := En.inj ((at' m hm').uniq q')
    have := List.not_of_lt_findIdx (p := (· == x)) (xs := as) (i := m) hlt2
    simp [ez] at this
  · obtain ⟨d, hd, rd⟩ := rs.mem (by simpa using hy)
    obtain ⟨b, hb, rfl⟩ := List.mem_map.mp hd
    have := eqAt_1 (A := A.in1) (s := s) (En.eq b x) rm.in1.units rd r
    show EqAt A.in1 s y v (decide (Rf s.heap y (enc x)))
    rw [show decide (Rf s.heap y (enc x)) = decide (b = x) from ?_]
    · exact this
    · rw [decide_eq_decide]
      exact ⟨fun q => En.inj (rd.uniq q), fun q => q ▸ rd⟩
  · have sb : Heap.SameBut a s.heap (s.heap.update a (Obj.mapSeq fun xs => xs.eraseIdxIfInBounds (as.idxOf x))) := Heap.SameBut.update ..
    refine hQ _ sb ⟨vs.eraseIdx (as.idxOf x), n + 1, ?_, ?_⟩
    · rw [Heap.get?_update_self _ e rfl]
      have e1 : (vs.eraseIdx (as.idxOf x)).length ≠ vs.length := by
        rw [List.length_eraseIdx_of_lt hlt']
        omega
      simp [lO, Obj.mapSeq, Array.eraseIdxIfInBounds, hlt', e1]
    · rw [ei, ← erase_map]
      exact (rs.erase _).kt (Kt.same sb e nt)
end
end Mine
end
section
open PySem PySem.Calls PyProof.Rows PySem.W
set_option linter.unusedVariables false
set_option linter.unusedSectionVars false
namespace Mine
section
variable {prog : Program} {w : World} {α β : Type} {A : Around} {s : Shared} {env : Env} {h : Heap}

/-- a range a..b by 1 -/
def Rg (a b : Int) : Value → Heap → Prop := fun v h => ∃ r t u w, v = .ref r ∧ IsRange h r a b 1 t u w
theorem Rg.itf {n : Nat} (rm : Rm A n) {a : Int} {m : Nat} {v : Value} (ha : -(2 ^ 62) ≤ a ∧ a < 2 ^ 61) (hm : m < 2 ^ 61) (r : Rg a (a + m) v h) : Itf prog w A h v (ups a m) := by
  obtain ⟨r, t, u, x, rfl, hr⟩ := r
  refine Itf.range rm hr (small_one (by omega) (by omega) (by omega) (by omega)) ?_
  rw [rangeSize_one]
  split <;> omega
theorem Fn.range1 {vs : List Value} {b : Int} (r : Fs [.int b] vs s.heap) : Ev prog w A s (call (.type "range") vs) (Rg 0 b) := by
  obtain ⟨v, us, rfl, rv, ru⟩ : ∃ v us, vs = v :: us ∧ Rf s.heap v (.int b) ∧ Rfs s.heap us [] := by cases r; exact ⟨_, _, rfl, by assumption, by assumption⟩
  cases ru; cases rv
  exact Ev.of fun Q E h0 hQ => call_range_1 (hQ _ _ _ (Kp.push _ _) ⟨_, _, _, _, rfl, IsRange.new _ _ _ _ _ _ _⟩)
theorem Fn.range2 {vs : List Value} {a b : Int} (r : Fs [.int a, .int b] vs s.heap) : Ev prog w A s (call (.type "range") vs) (Rg a b) := by
  cases r with
  | cons r1 r => cases r with
    | cons r2 r =>
      cases r; cases r1; cases r2
      exact Ev.of fun Q E h0 hQ => call_range_2 (hQ _ _ _ (Kp.push _ _) ⟨_, _, _, _, rfl, IsRange.new _ _ _ _ _ _ _⟩)
/-- one argument -/
def V1 (P : Value → Heap → Prop) : List Value → Heap → Prop := fun vs h => ∃ v, vs = [v] ∧ P v h
theorem AV.one {pos : Pos} {e : PySem.Expr} {P : Value → Heap → Prop} (a : EV prog w A env h e P) (m1 : ∀ v h h', P v h → Kp h h' → P v h') (he : starEach (e :: []) env = (false, eval e env) :: starEach [] env := by rfl) : AV prog w A env h pos [e] (V1 P) :=
  AV.cons (P2 := fun vs _ => vs = []) a (AV.nil fun _ _ => rfl) m1 (fun v vs h' _ p q => ⟨v, by rw [q], p⟩) he
theorem Rg.later {a b : Int} : ∀ v h h', Rg a b v h → Kp h h' → Rg a b v h' := fun v h h' ⟨r, t, u, x, e, i⟩ k => ⟨r, t, u, x, e, k _ _ i⟩
theorem Fn.len {vs : List Value} {ds : List FV} (r : V1 (Ls ds) vs s.heap) (hz : ds.length < 2 ^ 60) : Ev prog w A s (call (.builtin "len") vs) (F (.int ds.length)) := by
  obtain ⟨v, rfl, a, rfl, l⟩ := r
  obtain ⟨us, il, rs, hn⟩ := l.toIsList
  refine Ev.of fun Q E h0 hQ => call_len_list il (by simp; omega) (hQ _ s.heap _ (Kp.refl _) ?_)
  have := Rf.int (h := s.heap) (us.toArray.size : Int) (s.toks + 1)
  simpa [F, hn] using this
theorem Fn.lenB {vs : List Value} {b : Array UInt8} (r : Fs [.bytes b] vs s.heap) (hz : b.size ≤ 1000000) : Ev prog w A s (call (.builtin "len") vs) (F (.int b.size)) := by
  cases r with
  | cons r1 r =>
    cases r; cases r1
    exact Ev.of fun Q E h0 hQ => len_bytes (by omega) (hQ _ s.heap _ (Kp.refl _) (Rf.int _ _))
theorem Fn.listRange {vs : List Value} {a : Int} {m n : Nat} (rm : Rm A n) (r : V1 (Rg a (a + m)) vs s.heap) (ha : -(2 ^ 62) ≤ a ∧ a < 2 ^ 61) (hm : m ≤ 2 ^ 24) : Ev prog w A s (call (.type "list") vs) (Nw s.heap (ups a m)) := by
  obtain ⟨v, rfl, r, t, u, x, rfl, hr⟩ := r
  refine Ev.of fun Q E h0 hQ => call_list_range (n := m) rm.hh hr (small_one (by omega) (by omega) (by omega) (by omega)) (by rw [rangeSize_one]; split <;> omega) hm fun h' tk acc c hk hl hi => ?_
  refine hQ _ h' tk hk ⟨_, rfl, fresh_at (Kp.refl _), acc.toList, c, by rw [hl]; simp [lO], ?_⟩
  obtain ⟨h1, h2⟩ := hi
  have key : ∀ (n : Nat) (acc : Array Value), acc.size = n → (∀ i (hi : i < n), ∃ v, acc[i]? = some v ∧ ∃ t, v = .int (a + i * 1) t) → Rfs h' acc.toList (ups a n) := by
    intro n
    induction n with
    | zero => intro acc e _; have : acc = #[] := by simpa using e
              subst this; exact Rfs.nil
    | succ n ih =>
      intro acc e q
      have r0 := ih acc.pop (by simp [e]) (fun i hi => by
        obtain ⟨v, e1, e2⟩ := q i (by omega)
        refine ⟨v, ?_, e2⟩
        rw [Array.getElem?_pop]
        rw [if_pos (by omega)]; exact e1)
      obtain ⟨v, e1, tt, e2⟩ := q n (by omega)
      have ea : acc.toList = acc.pop.toList ++ [v] := by
        apply List.ext_getElem?
        intro i
        simp only [Array.getElem?_toList, List.getElem?_append, Array.length_toList, Array.size_pop, e, Array.getElem?_pop]
        by_cases h1 : i < n
        · simp [h1]
        · by_cases h2 : i = n
          · subst h2; simp [e1]
          · simp [h1]; rw [List.getElem?_eq_none (by simp; omega)]; rw [Array.getElem?_eq_none (by omega)]
      rw [ea, show ups a (n + 1) = ups a n ++ [.int (a + n)] by simp [ups, List.range_succ]]
      subst e2
      exact r0.append (Rfs.one (by simpa using Rf.int (a + n) tt))
  exact key m acc h1 (fun i hi => ⟨_, Array.getElem?_eq_getElem (by omega), h2 i _ (Array.getElem?_eq_getElem (by omega))⟩)
theorem Fn.abs {vs : List Value} {a : Int} (r : Fs [.int a] vs s.heap) : Ev prog w A s (call (.builtin "abs") vs) (F (.int (if a < 0 then -a else a))) := by
  cases r with
  | cons r1 r =>
    cases r; cases r1
    exact Ev.of fun Q E h0 hQ => call_abs_int fun u tk => hQ _ s.heap _ (Kp.refl _) (Rf.int _ _)
theorem Fn.int {vs : List Value} {a : Int} (r : Fs [.int a] vs s.heap) : Ev prog w A s (call (.type "int") vs) (F (.int a)) := by
  cases r with
  | cons r1 r =>
    cases r; cases r1
    exact Ev.of fun Q E h0 hQ => call_int_int (hQ _ s.heap s.toks (Kp.refl _) (Rf.int _ _))
theorem Fn.intF {vs : List Value} {x : UInt64} {sg : Bool} {m : Nat} {e : Int} (hd : Float64.decode x = .fin sg m e) (r : Fs [.float x] vs s.heap) : Ev prog w A s (call (.type "int") vs) (F (.int (Float64.truncOf sg m e))) := by
  cases r with
  | cons r1 r =>
    cases r; cases r1
    exact Ev.of fun Q E h0 hQ => call_int_float hd (hQ _ s.heap _ (Kp.refl _) (Rf.int _ _))
theorem Fn.divmod {vs : List Value} {a b : Int} (hb : b ≠ 0) (hp : Builtin.divisionGoesByPylong a b = false) (r : Fs [.int a, .int b] vs s.heap) : Ev prog w A s (call (.builtin "divmod") vs) (F (.tup [.int (a.fdiv b), .int (a.fmod b)])) := by
  cases r with
  | cons r1 r => cases r with
    | cons r2 r =>
      cases r; cases r1; cases r2
      exact Ev.of fun Q E h0 hQ => divmod_int hb (hQ _ _ _ (Kp.push _ _) (.tup (vs := [.int _ _, .int _ _]) (Heap.get?_push_size _ rfl) (.cons (.int _ _) (.cons (.int _ _) .nil)))) (.inl hp)
theorem Bin.pow {a n : Int} (hn : 0 ≤ n) (hn2 : n ≤ 1000000) (ha : a.natAbs < 2 ^ 64) : Bin prog w .Pow (.int a) (.int n) (.int (a ^ n.toNat)) := by
  intro A s v1 v2 r1 r2
  cases r1; cases r2
  exact Ev.of fun _ _ _ hQ => pow_int_small hn hn2 ha (hQ _ s.heap _ (Kp.refl _) (.int _ _))
theorem Bin.bytes {b c : Array UInt8} (hz : b.size + c.size ≤ 16777216) : Bin prog w .Add (.bytes b) (.bytes c) (.bytes (b ++ c)) := by
  intro A s v1 v2 r1 r2
  cases r1; cases r2
  exact Ev.of fun _ _ _ hQ => KBy.add_bytes hz fun t k => hQ _ s.heap _ (Kp.refl _) (.bytes _ _)
theorem Bin.str {x y : Str} (hz : x.length + y.length ≤ sizeLine) : Bin prog w .Add (.str x) (.str y) (.str (x ++ y)) := by
  intro A s v1 v2 r1 r2
  cases r1; cases r2
  exact Ev.of fun _ _ _ hQ => PyProof.Rows.add_str (fun t k => hQ _ s.heap _ (Kp.refl _) (.str _ _)) hz

-- slices
def Sl (lo hi : Option Int) : Value → Heap → Prop := fun v h => ∃ a l u, v = .ref a ∧ h.IsSliceOf a l u .none ∧ IsPart l lo ∧ IsPart u hi
theorem EV.slice2 {e1 e2 : PySem.Expr} {p : Pos} {i j : Int} (a : EV prog w A env h e1 (F (.int i))) (b : EV prog w A env h e2 (F (.int j))) : EV prog w A env h (.Slice (some e1) (some e2) none p) (Sl (some i) (some j)) := by with_unfolding_all
  intro s k Q E hQ h0
  refine wpAny_Slice ?_
  show wpAny _ A (eval e1 env) _ _ _
  refine a s k _ E (fun v1 h1 k1 kp1 t1 p1 => ?_) h0
  show wpAny _ A (eval e2 env) _ _ _
  refine b _ (k.trans kp1) _ E (fun v2 h2 k2 kp2 t2 p2 => ?_) t1
  show wpAny _ A (Pure.pure Value.none) _ _ _
  cases p1; cases p2
  exact wpAny_pure (hQ _ _ k2 ((kp1.trans kp2).trans (Kp.push _ _)) t2 ⟨_, _, _, rfl, Heap.IsSliceOf.new _ _ _ _, .int _ _, .int _ _⟩)
theorem EV.slice0 {e2 : PySem.Expr} {p : Pos} {j : Int} (b : EV prog w A env h e2 (F (.int j))) : EV prog w A env h (.Slice none (some e2) none p) (Sl none (some j)) := by with_unfolding_all
  intro s k Q E hQ h0
  refine wpAny_Slice ?_
  show wpAny _ A (Pure.pure Value.none) _ _ _
  refine wpAny_pure ?_
  show wpAny _ A (eval e2 env) _ _ _
  refine b s k _ E (fun v2 h2 k2 kp2 t2 p2 => ?_) h0
  show wpAny _ A (Pure.pure Value.none) _ _ _
  cases p2
  exact wpAny_pure (hQ _ _ k2 (kp2.trans (Kp.push _ _)) t2 ⟨_, _, _, rfl, Heap.IsSliceOf.new _ _ _ _, .none, .int _ _⟩)
theorem item_bslice {b : Array UInt8} {lo hi : Option Int} {o i : Value} (r : Rf s.heap o (.bytes b)) (q : Sl lo hi i s.heap) (hz : b.size ≤ sizeLine) :
    (∃ T id, s.TypeIs o T ∧ typeLookup (.type T) "__getitem__" = pure (some (.builtin id))) ∧ Ev prog w A s (getItem o i) (F (.bytes (KBy.picked b lo hi))) := by
  cases r
  obtain ⟨a, l, u, rfl, hs, hl, hu⟩ := q
  refine ⟨⟨"bytes", _, typeIs_bytes _ _ _, FB.slot_bytes_getitem.lookup⟩, Ev.of fun Q E _ hQ => ?_⟩
  exact getItem_meets (typeIs_bytes _ _ _) (by decide) FB.slot_bytes_getitem FB.entry_bytes_getitem (FB.args_bytes_getitem_2 _ _) (KBc.meets_slice2 b _ _ hl hu) ⟨hs, Nat.le_trans (KBc.size_picked_le _ _ _) hz, fun t' k => hQ _ s.heap _ (Kp.refl _) (.bytes _ _)⟩
theorem Rfs.take {vs : List Value} {ds : List FV} (r : Rfs h vs ds) (n : Nat) : Rfs h (vs.take n) (ds.take n) := by
  induction vs generalizing ds n with
  | nil => cases r; simpa using Rfs.nil
  | cons v vs ih =>
    cases r with
    | cons a r =>
      cases n with
      | zero => simpa using Rfs.nil
      | succ n => simpa using Rfs.cons a (ih r n)
theorem item_lslice {ds : List FV} {n : Nat} {h₀ : Heap} (k : Kp h₀ s.heap) {o i : Value} (r : Ls ds o s.heap) (q : Sl none (some (n : Int)) i s.heap) (hz : ds.length ≤ sizeLine) :
    (∃ T id, s.TypeIs o T ∧ typeLookup (.type T) "__getitem__" = pure (some (.builtin id))) ∧ Ev prog w A s (getItem o i) (Nw h₀ (ds.take n)) := by
  obtain ⟨a, rfl, l⟩ := r
  obtain ⟨vs, il, rs, hn⟩ := l.toIsList
  obtain ⟨sl, l, u, rfl, hs, hl, hu⟩ := q
  refine ⟨⟨"list", _, il.typeIs, slot_list_getitem.lookup⟩, Ev.of fun Q E _ hQ => ?_⟩
  refine wpAny_getItem_list_slice il hs hl hu .none (by simp) (hQ _ _ s.toks (Kp.push _ _) ⟨_, rfl, fresh_at k, vs.take n, 0, ?_, (rs.take n).kp (Kp.push _ _)⟩) (by simp; omega)
  rw [Heap.get?_push_size _ rfl, slicePick_upto']
  simp [lO]

-- list * int
/-- a list that is not empty, x times over: the int's reflected product asks the list's own -/
theorem lO_times {a : Addr} {vs : List Value} {n : Nat} {x : Int} {u : Tok} {Q : Value → Shared → Prop} {E : Value → Shared → Prop} (e : s.heap.get? a = some (lO vs n)) (some_ : vs ≠ []) (lo : 0 ≤ x) (hi : x ≤ 2 ^ 20) (all : vs.length * x.toNat ≤ 2 ^ 20)
    (hQ : Q (.ref s.heap.objs.size) { s with heap := s.heap.push (lO (List.replicate x.toNat vs).flatten 0) }) : wpAny (model prog w) A (binaryOp .Mult (.ref a) (.int x u)) Q E s := by
  have isL : s.TypeIs (.ref a) "list" := ⟨_, e, rfl⟩
  have fits : (!Builtin.List.listFitsIndex x) ≠ true := by simp [Builtin.List.listFitsIndex]; omega
  have short : ¬ Builtin.List.listTooLong (vs.toArray.size * x.toNat) = true := by simp [Builtin.List.listTooLong, sizeLine]; omega
  have some' : vs.toArray.isEmpty = false := by cases vs with
    | nil => exact absurd rfl some_
    | cons => rfl
  have own := AutoListH.list___mul___list_int_3 a vs.toArray n x u fits (by rw [List.size_toArray]; omega) short
  rw [some', if_neg Bool.false_ne_true] at own
  refine wpAny_binaryOp_repeat_ref (T := "list") (U := "int") (by decide) isL (fun _ => typeIs_int _ x u) noFill_list_mul F.fills_int_mul F.slot_int_rmul repeat_list F.slot_int_index.lookup ?_
  refine call_meets F.slot_int_rmul (typeIs_int s x u) F.entry_int_rmul (F.args_int_rmul_2 _ _) (int___rmul___int_list x u a vs.toArray n) ⟨e, rfl, isL, ?_⟩
  refine call_meets F.slot_list_mul isL F.entry_list_mul (F.args_list_mul_2 _ _) own ⟨e, ?_⟩
  have flat : List.foldl (fun x y => x ++ y) #[] (List.replicate x.toNat vs.toArray) = (List.replicate x.toNat vs).flatten.toArray := by simp [listMul_foldl]
  rw [flat]
  exact hQ
theorem Rfs.times {h : Heap} {vs : List Value} {ds : List FV} (rs : Rfs h vs ds) : ∀ k, Rfs h (List.replicate k vs).flatten (List.replicate k ds).flatten
  | 0 => .nil
  | k + 1 => rs.append (Rfs.times rs k)
theorem Bin.mulL {ds : List FV} {k : Nat} {h₀ : Heap} {v1 v2 : Value} (kp : Kp h₀ s.heap) (r1 : Ls ds v1 s.heap) (r2 : Rf s.heap v2 (.int k)) (hne : ds ≠ []) (hz : ds.length * k ≤ 2 ^ 20) : Ev prog w A s (binaryOp .Mult v1 v2) (Nw h₀ (List.replicate k ds).flatten) := by
  obtain ⟨a, rfl, vs, n, e, rs⟩ := r1
  obtain ⟨u, rfl⟩ : ∃ u, v2 = .int k u := by cases r2; exact ⟨_, rfl⟩
  have hl := rs.length
  have hds : 0 < ds.length := List.length_pos_iff.mpr hne
  have few : k ≤ 2 ^ 20 := Nat.le_trans (Nat.le_mul_of_pos_left k hds) hz
  refine Ev.of fun Q E h0 hQ => lO_times e (List.length_pos_iff.mp (by omega)) (by omega) (by omega) (by rw [hl, Int.toNat_natCast]; exact hz) ?_
  exact hQ _ _ s.toks (Kp.push _ _) ⟨_, rfl, fresh_at kp, (List.replicate k vs).flatten, 0, Heap.get?_push_size _ rfl, (rs.times k).kp (Kp.push _ _)⟩

-- is None
theorem TV.isNone {l : PySem.Expr} {pos p : Pos} {kk : Nat} {P1 : Value → Heap → Prop} {c : Bool} (a : EV prog w A env h l P1) (d : ∀ v h, P1 v h → (c = true ∧ v = .none) ∨ (c = false ∧ ∃ a, v = .ref a)) :
    TV prog w A env h (.Compare l [.Is] [.Constant .none kk p] pos) (fun x _ => x = c) := by with_unfolding_all
  intro s k Q E hQ h0
  refine wpAny_isTrue_Compare1 (a s k _ E (fun v1 h1 k1 kp1 t1 p1 => ?_) h0)
  refine Constant_none ?_
  rcases d v1 h1 p1 with ⟨rfl, rfl⟩ | ⟨rfl, a, rfl⟩
  · exact wpAny_is_self rfl (wpAny_truthy_bool (hQ _ h1 k1 kp1 t1 rfl))
  · exact is_ref_none (wpAny_truthy_bool (hQ _ h1 k1 kp1 t1 rfl))
end
end Mine
end
section
open PySem PySem.Calls PyProof.Rows PySem.W
set_option linter.unusedVariables false
set_option linter.unusedSectionVars false
namespace Mine
section
variable {prog : Program} {w : World} {α β : Type} [DecidableEq α] {enc : α → FV} {A : Around} {s : Shared} {env : Env} {h : Heap} {B : Addr → Obj → Prop} {D : List (Str × Lv)} {L L1 L2 : List (Addr × List FV)}

theorem Li.ty {a : Addr} {ds : List FV} (l : Li s.heap a ds) : s.TypeIs (.ref a) "list" ∧ ∀ b, Value.ref a = .ref b → ∃ ob, s.heap.get? b = some ob ∧ ob.dict = none := by
  obtain ⟨vs, n, e, _⟩ := l
  exact ⟨⟨_, e, rfl⟩, fun b q => by cases q; exact ⟨_, e, rfl⟩⟩

/-- l.append(e) -/
theorem X.append {x : Str} {px apos p pos : Pos} {e : PySem.Expr} {a : Addr} {ds : List FV} {d : FV} (b : Bd env B D (L1 ++ (a, ds) :: L2) h) (ex : EV prog w A env h e (F d)) (hz : ds.length ≤ sizeLine) (en : D.lookup x = some (.list a) := by rfl)
    (hk : env.scope.kind = .function := by rfl) (hl : env.kindOf x = some .local := by rfl) (hd : (x == ("__debug__" : Str)) = false := by decide)
    (hbase : attributeBase (.Name x px) "append" env (eval (.Name x px) env) = eval (.Name x px) env := by rfl)
    (hfew : ((backTo p (starEach (e :: []) env)).all (fun x => !x.1) && (backToKw p (keywordEach [] env)).all (fun x => x.1.isSome)
      && decide ((e :: []).length + ([] : List Keyword).length + (if ([] : List Keyword).isEmpty then 0 else 1) < 30)) = true := by rfl)
    (hline : (apos.endLine == p.line) = true := by rfl) (he : starEach (e :: []) env = (false, eval e env) :: starEach [] env := by rfl)
    (hplain : (backTo p (starEach [] env)).any (·.1) = false := by rfl) (hi : interactive env = false := by rfl) (hs : swapsWith (.Call (.Attribute (.Name x px) "append" apos) [e] [] p) none pos.line env = Pure.pure false := by rfl) :
    Xv prog w A h (exec (.Expr (.Call (.Attribute (.Name x px) "append" apos) [e] [] p) pos) env) (N (Bd env B D (L1 ++ (a, ds ++ [d]) :: L2))) := by with_unfolding_all
  rintro s rfl Q E hQ h0
  refine wpAny_Expr (wpAny_Call_method_lateS hbase hfew hline ((b.nr (prog := prog) (w := w) (A := A) en hk hl hd).wp h0 fun v h1 k1 kp1 t1 p1 => ?_)) hi hs
  cases p1
  have l1 : Li h1 a ds := (b.keep kp1).li (a, ds) (by simp)
  obtain ⟨q1, q2⟩ := Li.ty (s := { s with heap := h1, toks := k1 }) l1
  refine ⟨"list", "list.append", F.plainAttrs_list, F.slot_list_append, F.type_list_append, q1, q2, ?_⟩
  refine callWith_method1 ((AV.one ex (fun v h h' p k => F.later v h h' p k) he) _ kp1 _ E (fun vs h2 k2 kp2 t2 p2 => ?_) t1) he hplain
  obtain ⟨v, rfl, rv⟩ := p2
  have b2 := (b.keep kp1).keep kp2
  refine Li.append (s := { s with heap := h2, toks := k2 }) (b2.li (a, ds) (by simp)) rv hz fun h3 hs3 l3 => ?_
  exact hQ .next h3 _ t2 ⟨rfl, b2.turn hs3 l3⟩
/-- l.remove(e) -/
theorem X.remove (En : Enc enc) {n : Nat} (rm : Rm A (n + 1)) {x : Str} {px apos p pos : Pos} {e : PySem.Expr} {a : Addr} {as : List α} {y : α} (b : Bd env B D (L1 ++ (a, as.map enc) :: L2) h) (ex : EV prog w A env h e (F (enc y))) (hy : y ∈ as) (hz : as.length < sizeLine) (en : D.lookup x = some (.list a) := by rfl)
    (hk : env.scope.kind = .function := by rfl) (hl : env.kindOf x = some .local := by rfl) (hd : (x == ("__debug__" : Str)) = false := by decide)
    (hbase : attributeBase (.Name x px) "remove" env (eval (.Name x px) env) = eval (.Name x px) env := by rfl)
    (hfew : ((backTo p (starEach (e :: []) env)).all (fun x => !x.1) && (backToKw p (keywordEach [] env)).all (fun x => x.1.isSome)
      && decide ((e :: []).length + ([] : List Keyword).length + (if ([] : List Keyword).isEmpty then 0 else 1) < 30)) = true := by rfl)
    (hline : (apos.endLine == p.line) = true := by rfl) (he : starEach (e :: []) env = (false, eval e env) :: starEach [] env := by rfl)
    (hplain : (backTo p (starEach [] env)).any (·.1) = false := by rfl) (hi : interactive env = false := by rfl) (hs : swapsWith (.Call (.Attribute (.Name x px) "remove" apos) [e] [] p) none pos.line env = Pure.pure false := by rfl) :
    Xv prog w A h (exec (.Expr (.Call (.Attribute (.Name x px) "remove" apos) [e] [] p) pos) env) (N (Bd env B D (L1 ++ (a, (as.erase y).map enc) :: L2))) := by with_unfolding_all
  rintro s rfl Q E hQ h0
  refine wpAny_Expr (wpAny_Call_method_lateS hbase hfew hline ((b.nr (prog := prog) (w := w) (A := A) en hk hl hd).wp h0 fun v h1 k1 kp1 t1 p1 => ?_)) hi hs
  cases p1
  have l1 : Li h1 a (as.map enc) := (b.keep kp1).li (a, as.map enc) (by simp)
  obtain ⟨q1, q2⟩ := Li.ty (s := { s with heap := h1, toks := k1 }) l1
  refine ⟨"list", "list.remove", F.plainAttrs_list, F.slot_list_remove, F.type_list_remove, q1, q2, ?_⟩
  refine callWith_method1 ((AV.one ex (fun v h h' p k => F.later v h h' p k) he) _ kp1 _ E (fun vs h2 k2 kp2 t2 p2 => ?_) t1) he hplain
  obtain ⟨v, rfl, rv⟩ := p2
  have b2 := (b.keep kp1).keep kp2
  refine Li.remove En (s := { s with heap := h2, toks := k2 }) rm (b2.li (a, as.map enc) (by simp)) rv hy hz fun h3 hs3 l3 => ?_
  exact hQ .next h3 _ t2 ⟨rfl, b2.turn hs3 l3⟩

/-- c = [l.pop()] -/
theorem X.popped {x y : Str} {px py apos p lp pos : Pos} {a : Addr} {ds : List FV} {d : FV} (b : Bd env B D (L1 ++ (a, ds ++ [d]) :: L2) h) (hz : ds.length < sizeLine) (en : D.lookup x = some (.list a) := by rfl)
    (hk : env.scope.kind = .function := by rfl) (hl : env.kindOf x = some .local := by rfl) (hd : (x == ("__debug__" : Str)) = false := by decide)
    (hy : env.kindOf y = some .local := by rfl) (hp : (env.scope.kind == .class || (env.scope.kind == .module && env.locals != env.globals)) = false := by rfl)
    (hbase : attributeBase (.Name x px) "pop" env (eval (.Name x px) env) = eval (.Name x px) env := by rfl)
    (hline : (apos.endLine == p.line) = true := by rfl) (hsw : swapsWith (.List [.Call (.Attribute (.Name x px) "pop" apos) [] [] p] lp) (some (.Name y py)) pos.line env = Pure.pure false := by rfl)
    (he : starEach ((.Call (.Attribute (.Name x px) "pop" apos) [] [] p) :: []) env = (false, eval (.Call (.Attribute (.Name x px) "pop" apos) [] [] p) env) :: starEach [] env := by rfl) :
    Xv prog w A h (exec (.Assign [.Name y py] (.List [.Call (.Attribute (.Name x px) "pop" apos) [] [] p] lp) pos) env) (N fun h' => ∃ c, Bd env B ((y, .list c) :: D) ((c, [d]) :: (L1 ++ (a, ds) :: L2)) h') := by with_unfolding_all
  rintro s rfl Q E hQ h0
  refine wpAny_Assign_Name (List_ (args_cons (wpAny_Call_method_lateS hbase rfl hline ((b.nr (prog := prog) (w := w) (A := A) en hk hl hd).wp h0 fun v h1 k1 kp1 t1 p1 => ?_)) he)) hsw
  cases p1
  have l1 : Li h1 a (ds ++ [d]) := (b.keep kp1).li (a, ds ++ [d]) (by simp)
  obtain ⟨q1, q2⟩ := Li.ty (s := { s with heap := h1, toks := k1 }) l1
  refine ⟨"list", "list.pop", F.plainAttrs_list, F.slot_list_pop, F.type_list_pop, q1, q2, ?_⟩
  refine callWith_method0 ?_
  have b1 := b.keep kp1
  refine Li.pop (s := { s with heap := h1, toks := k1 }) (b1.li (a, ds ++ [d]) (by simp)) hz fun h2 v hs2 l2 r2 => ?_
  have b2 := b1.turn hs2 l2
  refine args_nil ?_
  unfold newList
  refine wpAny_newObj_type ?_ (by show ([v] : List Value).toArray.size ≤ sizeLine; simp [sizeLine_eq])
  have kp3 : Kp h2 (h2.push { cls := .type "list", dict := none, data := .seq ([v] : List Value).toArray }) := Kp.push _ _
  have b3 := (b2.keep kp3).own (a := h2.objs.size) (ds := [d]) ⟨[v], 0, Heap.get?_push_size _ rfl, Rfs.one (r2.kp kp3)⟩ (fun o e => absurd (Heap.lt_size (b2.kp _ _ e)) (Nat.lt_irrefl _)) (fun m => by
    obtain ⟨q, hq, z⟩ := List.mem_map.mp m
    obtain ⟨vs, n, e, _⟩ := b2.li q hq
    rw [z] at e
    exact absurd (Heap.lt_size e) (Nat.lt_irrefl _))
  obtain ⟨m, n, q⟩ := b3.ns
  refine wpAny_storeName_local hy n (fun h₂ hn₂ hs₂ => ?_) hp
  exact hQ .next h₂ _ (Nat.lt_of_lt_of_le t1 (Nat.le_add_right _ _)) ⟨rfl, _, b3.store n q rfl (Kx.of_same hs₂ (by simp)) hn₂⟩

/-- x, y = e -/
theorem X.unpack2 {n : Nat} (rm : Rm A n) {x y : Str} {px py tp pos : Pos} {k : Nat} {e : PySem.Expr} {d1 d2 : FV} (b : Bd env B D L h) (a : EV prog w A env h e (F (.tup [d1, d2])))
    (hx : env.kindOf x = some .local := by rfl) (hy : env.kindOf y = some .local := by rfl) (hp : (env.scope.kind == .class || (env.scope.kind == .module && env.locals != env.globals)) = false := by rfl)
    (hs : swapsWithSole [.Tuple [.Name x px, .Name y py] k tp] e pos.line env = Pure.pure false := by rfl) (hw : swappedStores [.Tuple [.Name x px, .Name y py] k tp] e env = Pure.pure Option.none := by rfl) :
    Xv prog w A h (exec (.Assign [.Tuple [.Name x px, .Name y py] k tp] e pos) env) (N (Bd env B ((y, .flat d2) :: (x, .flat d1) :: D) L)) := by with_unfolding_all
  rintro s rfl Q E hQ h0
  refine Assign_Tuple (a.wp h0 fun v h1 k1 kp1 t1 p1 => ?_) hs hw
  cases p1 with
  | @tup t vs _ e1 r1 =>
    cases r1 with
    | @cons v1 _ _ _ r1 r2 => cases r2 with
      | @cons v2 _ _ _ r2 r3 =>
        cases r3
        refine assign_Tuple_tuple (s := { s with heap := h1, toks := k1 }) (t := t) (items := [v1, v2].toArray) rm.hh ⟨_, e1, rfl, 0, rfl⟩ rfl rfl fun h2 ex => ?_
        have kp2 : Kp h1 h2 := fun c o e => ex c o (Nat.ne_of_lt (Heap.lt_size e)) e
        have b2 := (b.keep kp1).keep kp2
        obtain ⟨m, n, q⟩ := b2.ns
        show wpAny _ A (do holding [v2] (PySem.assign (.Name x px) env v1); assignInOrder [PySem.assign (.Name y py) env] [v2]) _ _ _
        refine wpAny_bind (wpAny_holding (wpAny_assign_Name (wpAny_storeName_local hx n (fun h3 hn3 hs3 => ?_) hp)))
        have b3 := b2.store (d := .flat d1) n q (r1.kp kp2) (Kx.of_same hs3 (by simp)) hn3
        obtain ⟨m3, n3, q3⟩ := b3.ns
        show wpAny _ A (do holding [] (PySem.assign (.Name y py) env v2); assignInOrder [] []) _ _ _
        refine wpAny_bind (wpAny_holding (wpAny_assign_Name (wpAny_storeName_local hy n3 (fun h4 hn4 hs4 => ?_) hp)))
        have r2' : Rf h3 v2 d2 := (r2.kp kp2).kt (Kx.kt (Kx.of_same (S := [env.locals]) hs3 (by simp)) (NoTup.cons (Ns.noTup n) NoTup.nil))
        have b4 := b3.store (d := .flat d2) n3 q3 r2' (Kx.of_same hs4 (by simp)) hn4
        exact wpAny_pure (hQ .next h4 _ (Nat.lt_of_lt_of_le t1 (Nat.le_trans (Nat.le_add_right _ _) (Nat.le_add_right _ _))) ⟨rfl, b4⟩)
theorem X.unpack3 {n : Nat} (rm : Rm A n) {x y z : Str} {px py pz tp pos : Pos} {k : Nat} {e : PySem.Expr} {d1 d2 d3 : FV} (b : Bd env B D L h) (a : EV prog w A env h e (F (.tup [d1, d2, d3])))
    (hx : env.kindOf x = some .local := by rfl) (hy : env.kindOf y = some .local := by rfl) (hz : env.kindOf z = some .local := by rfl) (hp : (env.scope.kind == .class || (env.scope.kind == .module && env.locals != env.globals)) = false := by rfl)
    (hs : swapsWithSole [.Tuple [.Name x px, .Name y py, .Name z pz] k tp] e pos.line env = Pure.pure false := by rfl) (hw : swappedStores [.Tuple [.Name x px, .Name y py, .Name z pz] k tp] e env = Pure.pure Option.none := by rfl) :
    Xv prog w A h (exec (.Assign [.Tuple [.Name x px, .Name y py, .Name z pz] k tp] e pos) env) (N (Bd env B ((z, .flat d3) :: (y, .flat d2) :: (x, .flat d1) :: D) L)) := by with_unfolding_all
  rintro s rfl Q E hQ h0
  refine Assign_Tuple (a.wp h0 fun v h1 k1 kp1 t1 p1 => ?_) hs hw
  cases p1 with
  | @tup t vs _ e1 r1 =>
    cases r1 with
    | @cons v1 _ _ _ r1 r2 => cases r2 with
      | @cons v2 _ _ _ r2 r3 => cases r3 with
        | @cons v3 _ _ _ r3 r4 =>
        cases r4
        refine assign_Tuple_tuple (s := { s with heap := h1, toks := k1 }) (t := t) (items := [v1, v2, v3].toArray) rm.hh ⟨_, e1, rfl, 0, rfl⟩ rfl rfl fun h2 ex => ?_
        have kp2 : Kp h1 h2 := fun c o e => ex c o (Nat.ne_of_lt (Heap.lt_size e)) e
        have b2 := (b.keep kp1).keep kp2
        obtain ⟨m, n, q⟩ := b2.ns
        show wpAny _ A (do holding [v2, v3] (PySem.assign (.Name x px) env v1); assignInOrder [PySem.assign (.Name y py) env, PySem.assign (.Name z pz) env] [v2, v3]) _ _ _
        refine wpAny_bind (wpAny_holding (wpAny_assign_Name (wpAny_storeName_local hx n (fun h3 hn3 hs3 => ?_) hp)))
        have b3 := b2.store (d := .flat d1) n q (r1.kp kp2) (Kx.of_same hs3 (by simp)) hn3
        obtain ⟨m3, n3, q3⟩ := b3.ns
        have kt3 : Kt h2 h3 := Kx.kt (Kx.of_same (S := [env.locals]) hs3 (by simp)) (NoTup.cons (Ns.noTup n) NoTup.nil)
        show wpAny _ A (do holding [v3] (PySem.assign (.Name y py) env v2); assignInOrder [PySem.assign (.Name z pz) env] [v3]) _ _ _
        refine wpAny_bind (wpAny_holding (wpAny_assign_Name (wpAny_storeName_local hy n3 (fun h4 hn4 hs4 => ?_) hp)))
        have b4 := b3.store (d := .flat d2) n3 q3 ((r2.kp kp2).kt kt3) (Kx.of_same hs4 (by simp)) hn4
        obtain ⟨m4, n4, q4⟩ := b4.ns
        have kt4 : Kt h3 h4 := Kx.kt (Kx.of_same (S := [env.locals]) hs4 (by simp)) (NoTup.cons (Ns.noTup n3) NoTup.nil)
        show wpAny _ A (do holding [] (PySem.assign (.Name z pz) env v3); assignInOrder [] []) _ _ _
        refine wpAny_bind (wpAny_holding (wpAny_assign_Name (wpAny_storeName_local hz n4 (fun h5 hn5 hs5 => ?_) hp)))
        have b5 := b4.store (d := .flat d3) n4 q4 (((r3.kp kp2).kt kt3).kt kt4) (Kx.of_same hs5 (by simp)) hn5
        exact wpAny_pure (hQ .next h5 _ (Nat.lt_of_lt_of_le t1 (Nat.le_trans (Nat.le_trans (Nat.le_add_right _ _) (Nat.le_add_right _ _)) (Nat.le_add_right _ _))) ⟨rfl, b5⟩)

/-- a call of an own def: the body from its first state -/
theorem Ev.callX {name : Str} {params : Arguments} {body : List Stmt} {scope : Scope} {pm cd doc : Value} {a : Addr} {o : Obj} {args : List Value} {n : Nat} {P : Value → Heap → Prop} (D : List (Str × Lv))
    (rm : Rm A (n + 1)) (ho : s.heap.get? a = some o) (hdata : o.data = .func (docDef name params body scope pm cd doc)) (hlim : s.heap.NoLimit) (hcd : s.heap.CodeRec cd name)
    (hD : ∀ x d, D.lookup x = some d → ∃ v, ((params.args.map (·.arg)).zip args).reverse.lookup x = some v ∧ d.has s.heap v)
    (h : ∀ h₁, Kp s.heap h₁ → Rm (A.deeper (envOf name scope s.heap.objs.size a cd)) n → Bd (envOf name scope s.heap.objs.size a cd) (fun a o => s.heap.get? a = some o) D [] h₁ → Xv prog w (A.deeper (envOf name scope s.heap.objs.size a cd)) h₁ (execs body (envOf name scope s.heap.objs.size a cd)) (fun f h' => Kp s.heap h' ∧ P (match f with | .ret v => v | _ => .none) h'))
    (hbind : bindArgs (docDef name params body scope pm cd doc) ⟨args, []⟩ = Pure.pure ((params.args.map (·.arg)).zip args))
    (hloc : ∀ x ∈ (params.args.map (·.arg)).zip args, scope.names.lookup x.1 = some .local)
    (hco : scope.isCoroutine = false := by rfl) (hgen : scope.isGenerator = false := by rfl) (hk : scope.kind = .function := by rfl)
    (hcell : ∀ x ∈ scope.names, x.2 ≠ .cell := by decide) : Ev prog w A s (call (.ref a) args) P := by with_unfolding_all
  refine Ev.callPos rm ho hdata hlim hcd (fun h₁ k k0 Fh => ?_) hbind hloc hco hgen hk hcell
  have b : Bd (envOf name scope s.heap.objs.size a cd) (fun a o => s.heap.get? a = some o) D [] h₁ := by
    refine ⟨Fh.keep, (fun o e => absurd (Heap.lt_size e) (Nat.lt_irrefl _)), (fun p m => absurd m List.not_mem_nil), List.nodup_nil, (fun p m => absurd m List.not_mem_nil), _, Fh.ns, fun x d e => ?_⟩
    obtain ⟨v, e1, e2⟩ := hD x d e
    exact ⟨v, e1, e2.kt (Kp.toT Fh.keep)⟩
  refine h h₁ Fh.keep (rm.deeper _) b { s with heap := h₁, toks := k } rfl _ _ (fun f h' k' k0' r => ⟨h', k', rfl, r.1, r.2⟩) k0
end
end Mine
end
section
open PySem PySem.Calls PyProof.Rows PySem.W
set_option linter.unusedVariables false
set_option linter.unusedSectionVars false
namespace Mine
/-- an iterator that looks at itself and at what lies off S -/
def Itg (prog : Program) (w : World) (A : Around) (S : List Addr) (h : Heap) (x : Value) (ds : List FV) : Prop :=
  ∀ s : Shared, Kp h s.heap → ∀ (Q : Value → Shared → Prop) (E : Value → Shared → Prop),
    (∀ I fp wr St h' k, Kp s.heap h' → Walks prog w A I fp wr ds.length (fun i v => ∃ d, ds[i]? = some d ∧ Rf h v d) St → St 0 h' → (∀ b ∈ fp, b < h'.objs.size) → (∀ b ∈ wr, s.heap.get? b = none) → (∀ i g, St i g → NoTup wr g) → (∀ b ∈ fp, b ∈ wr ∨ b ∉ S) →
      Q (.ref I) { s with heap := h', toks := k }) → wpAny (model prog w) A (pyIter x) Q E s
theorem Itg.list {prog : Program} {w : World} {A : Around} {h : Heap} {S : List Addr} {n : Nat} (rm : Rm A n) {a : Addr} {ds : List FV} (l : Li h a ds) (ha : a ∉ S) : Itg prog w A S h (.ref a) ds := by
  intro s k Q E hQ
  obtain ⟨vs, m, e, r⟩ := l
  have hl : s.heap.IsList a vs.toArray := ⟨_, k _ _ e, rfl, m, rfl⟩
  refine wpAny_pyIter_list hl ?_
  have hne : a ≠ s.heap.objs.size := Nat.ne_of_lt (Heap.lt_size (k _ _ e))
  have W := Walks.list (prog := prog) (w := w) (A := A) rm.hh s.heap.objs.size a hne vs.toArray
  rw [show vs.toArray.size = ds.length by simp [r.length]] at W
  refine hQ _ _ _ _ _ s.toks (Kp.push _ _) (Walks.weak W fun i v hv => ?_) ⟨⟨_, Heap.get?_push_size _ rfl, rfl, rfl⟩, hl.push _⟩ ?_ ?_ ?_ ?_
  · obtain ⟨d, hd, rv⟩ := r.getV (by simpa using hv : vs[i]? = some v)
    exact ⟨d, hd, rv⟩
  · intro b hb
    rw [Heap.size_push]
    rcases List.mem_cons.mp hb with q | q
    · exact q ▸ Nat.lt_succ_self _
    · rw [List.mem_singleton.mp q]; exact Nat.lt_succ_of_lt (Heap.lt_size (k _ _ e))
  · intro b hb
    rw [List.mem_singleton.mp hb]
    exact fresh_at (Kp.refl _)
  · intro i g st b hb us q
    rw [List.mem_singleton.mp hb] at q
    obtain ⟨⟨o, ho, hc, _⟩, _⟩ := st
    rw [q] at ho
    cases ho
    simp [tO] at hc
  · intro b hb
    rcases List.mem_cons.mp hb with q | q
    · exact .inl (by simp [q])
    · exact .inr (by rw [List.mem_singleton.mp q]; exact ha)
section
variable {prog : Program} {w : World} {α β : Type} {A : Around} {env : Env} {B B' : Addr → Obj → Prop} {D D' : List (Str × Lv)} {L L' : List (Addr × List FV)} {h h' : Heap}
/-- a for over data that no turn reaches; J tells the names and the lists ahead of turn i -/
theorem X.forG {x : Str} {px pos : Pos} {iter : PySem.Expr} {body : List Stmt} {PI : Value → Heap → Prop} {ds : List FV} (J : Nat → List (Str × Lv) × List (Addr × List FV)) (b : Bd env B (J 0).1 (J 0).2 h)
    (a : EV prog w A env h iter PI) (hit : ∀ (s : Shared) v, Kp h s.heap → PI v s.heap → Itg prog w A (env.locals :: (J 0).2.map (·.1)) s.heap v ds)
    (ad : ∀ i, i < ds.length → (J (i + 1)).2.map (·.1) = (J i).2.map (·.1))
    (turn : ∀ B' i d h', (∀ a o, B a o → B' a o) → ds[i]? = some d → Bd env B' ((x, .flat d) :: (J i).1) (J i).2 h' → Xv prog w A h' (execs body env) (N (Bd env B' (J (i + 1)).1 (J (i + 1)).2)))
    (hx : env.kindOf x = some .local := by rfl) (hp : (env.scope.kind == .class || (env.scope.kind == .module && env.locals != env.globals)) = false := by rfl)
    (hs : ∀ x, foldedSetIterable iter env x = Pure.pure x := by intro _; rfl) : Xv prog w A h (exec (.For (.Name x px) iter body [] pos) env) (N (Bd env B (J ds.length).1 (J ds.length).2)) := by with_unfolding_all
  rintro s rfl Q E hQ h0
  refine wpAny_For (a.wp h0 fun v h₁ k₁ kp₁ t₁ p₁ => ?_) hs
  have b₁ := b.keep kp₁
  refine wpAny_with_toks (n := 1) (s := { s with heap := h₁, toks := k₁ }) t₁ (hit { s with heap := h₁, toks := k₁ } v kp₁ p₁ { s with heap := h₁, toks := k₁ } (Kp.refl _) _ _ fun I fp wr St h₂ k₂ kp₂ W st hb hw hwt hfg t₂ => ?_)
  have b₂ := b₁.keep kp₂
  have ads : ∀ i, i ≤ ds.length → (J i).2.map (·.1) = (J 0).2.map (·.1) := by
    intro i
    induction i with
    | zero => intro _; rfl
    | succ i ih => intro q; rw [ad i (by omega), ih (by omega)]
  have offw : ∀ c ∈ wr, h₁.get? c = none := hw
  have loff : env.locals ∉ wr := fun m => by
    obtain ⟨m', ⟨o, _, _, ho, _⟩, _⟩ := b₁.ns
    rw [offw _ m] at ho; cases ho
  have Loff : ∀ c ∈ (J 0).2.map (·.1), c ∉ wr := fun c mc m => by
    obtain ⟨q, hq, rfl⟩ := List.mem_map.mp mc
    obtain ⟨vs, n, e, _⟩ := b₁.li q hq
    rw [offw _ m] at e; cases e
  have offl : ∀ c ∈ fp, c ≠ env.locals := fun c hc z => by
    rcases hfg c hc with q | q
    · exact loff (z ▸ q)
    · exact q (z ▸ List.mem_cons_self ..)
  have offL : ∀ c ∈ fp, c ∉ (J 0).2.map (·.1) := fun c hc z => by
    rcases hfg c hc with q | q
    · exact Loff c z q
    · exact q (List.mem_cons_of_mem _ z)
  have Boff : ∀ c o, B c o → c ∉ wr := fun c o e m => by
    have := b₁.kp c o e
    rw [offw _ m] at this; cases this
  refine codeAny_forLoop_any (fun n s' => ∃ i h' k, s' = { s with heap := h', toks := k } ∧ 0 < k ∧ i ≤ ds.length ∧ n = ds.length - i ∧ St i h' ∧ Bd env B (J i).1 (J i).2 h' ∧ (∀ c o, h₁.get? c = some o → c ≠ env.locals → c ∉ (J 0).2.map (·.1) → h'.get? c = some o)) ?_ ds.length
    ⟨0, h₂, k₂, rfl, t₂, Nat.zero_le _, rfl, st, b₂, fun c o e _ _ => kp₂ c o e⟩
  rintro n s' ⟨i, h', k, rfl, k0, hi, rfl, st', b', old⟩
  refine wpAny_with_toks (n := 1) (s := { s with heap := h', toks := k }) k0 ?_
  have thru : ∀ {h₃ : Heap}, (∀ c o, c ∉ wr → h'.get? c = some o → h₃.get? c = some o) → Bd env B (J i).1 (J i).2 h₃ := fun {h₃} k3 => by
    have nt := hwt i h' st'
    have kt : Kt h' h₃ := Kx.kt (S := wr) k3 nt
    refine ⟨fun c o e => k3 c o (Boff c o e) (b'.kp c o e), b'.fl, b'.fL, b'.nd, fun p m => ?_, ?_⟩
    · exact (b'.li p m).kx (S := wr) k3 (Loff _ (ads i hi ▸ List.mem_map_of_mem m)) nt
    · obtain ⟨m, n, q⟩ := b'.ns
      exact ⟨m, Ns.kx (S := wr) n k3 loff, fun x d e => let ⟨v, e1, e2⟩ := q x d e; ⟨v, e1, e2.kt kt⟩⟩
  by_cases hlt : i < ds.length
  · refine W.item i _ _ _ hlt st' fun v h₃ k₃ pv st₃ k3 z3 => ?_
    have b₃ := thru k3
    obtain ⟨d, hd, rv⟩ := pv
    have oldc : ∀ c o, h₁.get? c = some o → c ∉ wr := fun c o e m => by rw [offw c m] at e; cases e
    have rv' : Rf h₃ v d := by
      refine rv.kt fun c vs e => ?_
      refine k3 c _ (oldc c _ e) (old c _ e (fun q => ?_) (fun m => ?_))
      · obtain ⟨m', n', _⟩ := b₁.ns
        exact Ns.noTup n' vs (q ▸ e)
      · obtain ⟨q, hq, rfl⟩ := List.mem_map.mp m
        exact (b₁.li q hq).noTup vs e
    show wpAny _ A (letOwnedTupleGo (.Name x px) (.ref I) v) _ _ _
    refine wpAny_of_eq (a := ()) rfl ?_
    obtain ⟨m, n, q⟩ := b₃.ns
    refine wpAny_assign_Name (wpAny_storeName_local hx n (fun h₄ hn₄ hs₄ => ?_) hp)
    have b₄ := b₃.store (d := .flat d) n q rv' (Kx.of_same hs₄ (by simp)) hn₄
    have st₄ : St (i + 1) h₄ := W.frame _ _ _ st₃ fun c hc o e => hs₄.extBut c o (offl c hc) e
    refine turn (Rest env (J i).2 h₄) i d h₄ b₄.inRest hd b₄.rest { s with heap := h₄, toks := k₃ + 1 } rfl _ _ (fun f h₅ k₅ k05 r => ?_) (Nat.succ_pos _)
    obtain ⟨rfl, b₅⟩ := r
    refine ⟨ds.length - (i + 1), by omega, i + 1, h₅, k₅, rfl, k05, hlt, rfl, ?_, ?_, ?_⟩
    · exact W.frame _ _ _ st₄ fun c hc o e => b₅.kp c o ⟨offl c hc, fun z => offL c hc (ads i hi ▸ z), e⟩
    · exact b₅.base b₄.inRest
    · intro c o e n1 n2
      exact b₅.kp c o ⟨n1, ads i hi ▸ n2, hs₄.extBut c o n1 (k3 c o (oldc c o e) (old c o e n1 n2))⟩
  · have hin : i = ds.length := by omega
    subst hin
    refine W.done _ _ _ st' fun h₃ k₃ k3 z3 => wpAny_execs_nil (hQ _ _ _ z3 ⟨rfl, thru k3⟩)

/-- a for over a new list -/
theorem X.forL {n : Nat} (rm : Rm A n) {x : Str} {px pos : Pos} {iter : PySem.Expr} {body : List Stmt} {ds : List FV} (J : Nat → List (Str × Lv) × List (Addr × List FV)) (b : Bd env B (J 0).1 (J 0).2 h)
    (a : EV prog w A env h iter (Nw h ds))
    (ad : ∀ i, i < ds.length → (J (i + 1)).2.map (·.1) = (J i).2.map (·.1))
    (turn : ∀ B' i d h', (∀ a o, B a o → B' a o) → ds[i]? = some d → Bd env B' ((x, .flat d) :: (J i).1) (J i).2 h' → Xv prog w A h' (execs body env) (N (Bd env B' (J (i + 1)).1 (J (i + 1)).2)))
    (hx : env.kindOf x = some .local := by rfl) (hp : (env.scope.kind == .class || (env.scope.kind == .module && env.locals != env.globals)) = false := by rfl)
    (hs : ∀ x, foldedSetIterable iter env x = Pure.pure x := by intro _; rfl) : Xv prog w A h (exec (.For (.Name x px) iter body [] pos) env) (N (Bd env B (J ds.length).1 (J ds.length).2)) := by
  refine X.forG J b a (fun s v k r => ?_) ad turn hx hp hs
  obtain ⟨c, rfl, f, l⟩ := r
  refine Itg.list rm l fun m => ?_
  rcases List.mem_cons.mp m with q | q
  · obtain ⟨m', ⟨o, _, _, ho, _⟩, _⟩ := b.ns
    rw [q, ho] at f; cases f
  · obtain ⟨p, hp, z⟩ := List.mem_map.mp q
    obtain ⟨vs, n, e, _⟩ := b.li p hp
    rw [z, f] at e; cases e

-- cells
theorem LV.cell {x : Str} {c : Addr} {v : Value} {P : Value → Heap → Prop} (hv : h.IsCell c (some v)) (hp : ∀ h', Kp h h' → P v h') (hc : env.cells.lookup x = some c := by rfl)
    (hk : env.scope.kind = .function := by rfl) (hl : env.kindOf x = some .cell := by rfl) : LV prog w A env h x P := by with_unfolding_all exact (fun s k Q E hQ h0 => wpAny_loadName_cell hk hl hc (hv.keeps k) (hQ v s.heap s.toks (Kp.refl _) h0 (hp _ k)))

/-- y = [..], stored ahead of the letting go -/
theorem X.comp {elt : PySem.Expr} {rest : List Comprehension} {x y : Str} {px py : Pos} {iter : PySem.Expr} {ifs : List PySem.Expr} {scope : Scope} {cl : List (Str × Addr)} {pos spos : Pos} {emit : Addr → Addr → Sem Unit} {PI : Value → Heap → Prop} {ds : List FV} {G : FV → List FV}
    (b : Bd env B D L h)
    (hct : TurnIs elt rest x px iter ifs scope pos cl env emit)
    (hi : EV prog w A env h iter PI) (hit : ∀ (s' : Shared) v, Kp h s'.heap → PI v s'.heap → Itb prog w A s'.heap v ds)
    (turn : Turn prog w A env h x ifs scope cl emit ds G)
    (hsw : swapsWith (.ListComp elt (⟨.Name x px, iter, ifs, 0⟩ :: rest) scope pos) (some (.Name y py)) spos.line env = Pure.pure true := by rfl)
    (hclos : closureFor scope env = Pure.pure cl := by rfl) (hcell : ∀ y ∈ scope.names, y.2 ≠ .cell := by decide) (hkind : scope.kind = .function := by rfl)
    (hnames : ∀ y ∈ scope.names, y.2 = .local → scope.names.lookup y.1 = some .local := by decide) (hx : scope.names.lookup x = some .local := by rfl)
    (hy : env.kindOf y = some .local := by rfl) (hp : (env.scope.kind == .class || (env.scope.kind == .module && env.locals != env.globals)) = false := by rfl)
    (hs : ∀ x, foldedSetIterable iter env x = Pure.pure x := by intro _; rfl) :
    Xv prog w A h (exec (.Assign [.Name y py] (.ListComp elt (⟨.Name x px, iter, ifs, 0⟩ :: rest) scope pos) spos) env) (N fun h' => ∃ a, Bd env B ((y, .list a) :: D) ((a, ds.flatMap G) :: L) h') := by with_unfolding_all
  rintro s rfl Q E hQ h0
  obtain ⟨m, n, q⟩ := b.ns
  refine Assign.comp hsw hct hi hit turn hclos hcell hkind hnames hx hy hp n h0 (fun a h' k fa k0 n' l kx => ?_) hs
  have nt : NoTup [env.locals] s.heap := NoTup.cons (Ns.noTup n) NoTup.nil
  have kt : Kt s.heap h' := kx.kt nt
  refine hQ .next h' k k0 ⟨rfl, a, ?_⟩
  refine ⟨fun c o e => kx c o (fun z => b.fl o (by rw [List.mem_singleton.mp z] at e; exact e)) (b.kp c o e), b.fl, fun p mp => ?_, ?_, fun p mp => ?_, _, n', fun z d e => ?_⟩
  · rcases List.mem_cons.mp mp with z | z
    · intro o e
      have := b.kp _ _ e
      rw [z, fa] at this; cases this
    · exact b.fL p z
  · rw [List.map_cons, List.nodup_cons]
    refine ⟨fun mp => ?_, b.nd⟩
    obtain ⟨p, hp, z⟩ := List.mem_map.mp mp
    obtain ⟨vs, n, e, _⟩ := b.li p hp
    rw [z, fa] at e; cases e
  · rcases List.mem_cons.mp mp with z | z
    · rw [z]; exact l
    · exact (b.li p z).kx kx (fun z' => b.ne p z (List.mem_singleton.mp z')) nt
  · rw [List.lookup_cons] at e
    cases zz : (z == y) with
    | true =>
      rw [zz] at e; cases e
      exact ⟨_, by rw [if_pos (eq_of_beq zz)], rfl⟩
    | false =>
      rw [zz] at e
      obtain ⟨u, e1, e2⟩ := q z d e
      exact ⟨u, by rw [if_neg (fun z' => by simp [z'] at zz)]; exact e1, e2.kt kt⟩
end
end Mine
end
section
open PySem PySem.Calls PyProof.Rows PySem.W
set_option linter.unusedVariables false
namespace Mine
def stAt (i : Nat) : Stmt := (PySem.Challenge.pw_sn0005_01.main.body[i]?).getD (.Pass ⟨0, 0, 0, 0⟩)
def nameOf : Stmt → Str | .FunctionDef n _ _ _ _ _ _ _ _ _ => n | _ => ""
def parsOf : Stmt → Arguments | .FunctionDef _ a _ _ _ _ _ _ _ _ => a | _ => { posonlyargs := [], args := [], vararg := none, kwonlyargs := [], kw_defaults := [], kwarg := none, defaults := [] }
def bodyOf : Stmt → List Stmt | .FunctionDef _ _ b _ _ _ _ _ _ _ => b | _ => []
def scopeOf : Stmt → Scope | .FunctionDef _ _ _ _ _ _ s _ _ _ => s | _ => { kind := .function, names := [], isGenerator := false, isCoroutine := false, more := [] }

/-- the def at i of the module's text -/
def Fd (mg : Str → Option Value) (h : Heap) (x : Str) (i : Nat) : Prop :=
  ∃ a o pm code doc, mg x = some (.ref a) ∧ h.get? a = some o ∧ o.data = .func (docDef x (parsOf (stAt i)) (bodyOf (stAt i)) (scopeOf (stAt i)) pm code doc) ∧ h.CodeRec code x
theorem Fd.kp {mg : Str → Option Value} {h h' : Heap} {x : Str} {i : Nat} (f : Fd mg h x i) (k : Kp h h') : Fd mg h' x i :=
  let ⟨a, o, pm, code, doc, e1, e2, e3, c, o', vs, t, e4, e5, e6⟩ := f
  ⟨a, o, pm, code, doc, e1, k _ _ e2, e3, c, o', vs, t, e4, k _ _ e5, e6⟩
/-- what stands at the module's names -/
structure Gm (mg mb : Str → Option Value) (h : Heap) : Prop where
  g : h.Ns mainGlobals mg
  b : h.Ns builtinsNs mb
  lim : h.NoLimit
  nt : NT h
  boot : ∀ x : Str, x ≠ "__name__" → mb x = bootBuiltins x
  no : mg "int" = none ∧ mg "abs" = none ∧ mg "divmod" = none ∧ mg "range" = none ∧ mg "len" = none ∧ mg "list" = none ∧ mg "sum" = none
  rgb : Fd mg h "rgb_to_yiq" 2
  yiq : Fd mg h "yiq_to_rgb" 3
  ap : Fd mg h "Int2AP" 5
  qd : Fd mg h "quotedata" 10
  fb : Fd mg h "_law_first_board" 12
  lk : Fd mg h "_law_linked" 13
  jd : Fd mg h "_law_judged" 14
  sb : Fd mg h "_law_shorter_board" 15
  ok : Fd mg h "_law_one_kind_wins" 16
theorem Gm.kp {mg mb : Str → Option Value} {h h' : Heap} (G : Gm mg mb h) (k : Kp h h') : Gm mg mb h' :=
  ⟨G.g.keeps k, G.b.keeps k, G.lim.keeps k, G.nt.kp k, G.boot, G.no, G.rgb.kp k, G.yiq.kp k, G.ap.kp k, G.qd.kp k, G.fb.kp k, G.lk.kp k, G.jd.kp k, G.sb.kp k, G.ok.kp k⟩

section
variable {prog : Program} {w : World} {A : Around} {s : Shared} {env : Env} {h : Heap} {mg mb : Str → Option Value}
theorem Gm.bi {x : Str} {v : Value} (G : Gm mg mb h) (hm : mg x = none) (hv : bootBuiltins x = some v := by rfl) (hx : x ≠ "__name__" := by decide) (hg : env.globals = mainGlobals := by rfl) (hb : env.builtins = builtinsNs := by rfl)
    (hk : env.scope.kind = .function := by rfl) (hl : env.kindOf x = some .globalImplicit := by rfl) : LV prog w A env h x (Is v) :=
  LV.built (hg ▸ G.g) hm (hb ▸ G.b) ((G.boot x hx).trans hv) hk hl
theorem Gm.gl {x : Str} {v : Value} (G : Gm mg mb h) (hv : mg x = some v) (hg : env.globals = mainGlobals := by rfl)
    (hk : env.scope.kind = .function := by rfl) (hl : env.kindOf x = some .globalImplicit := by rfl) : LV prog w A env h x (Is v) :=
  LV.glob (hg ▸ G.g) hv (fun _ _ => rfl) hk hl
end


/-- the arguments as they are -/
inductive Has (h : Heap) : List Value → List Lv → Prop
  | nil : Has h [] []
  | cons {v : Value} {vs : List Value} {d : Lv} {ds : List Lv} : d.has h v → Has h vs ds → Has h (v :: vs) (d :: ds)
theorem Has.zip {h : Heap} {vs : List Value} {ds : List Lv} (H : Has h vs ds) : ∀ ps : List Str, ∃ n, ∀ x, (∀ d, ((ps.zip ds).lookup x = some d → ∃ v, (ps.zip vs).lookup x = some v ∧ d.has h v)) ∧ ((ps.zip ds).lookup x = none → (ps.zip vs).lookup x = none) ∧ n = 0 := by
  induction H with
  | nil => intro ps; exact ⟨0, fun x => by simp⟩
  | @cons v vs d ds hd H ih =>
    intro ps
    cases ps with
    | nil => exact ⟨0, fun x => by simp⟩
    | cons p ps =>
      obtain ⟨_, q⟩ := ih ps
      refine ⟨0, fun x => ⟨fun d' e => ?_, fun e => ?_, rfl⟩⟩
      · rw [List.zip_cons_cons, List.lookup_cons] at e ⊢
        cases z : (x == p) with
        | true => rw [z] at e; cases e; exact ⟨v, rfl, hd⟩
        | false => rw [z] at e; exact (q x).1 d' e
      · rw [List.zip_cons_cons, List.lookup_cons] at e ⊢
        cases z : (x == p) with
        | true => rw [z] at e; cases e
        | false => rw [z] at e; exact (q x).2.1 e
theorem Has.rev {h : Heap} {vs : List Value} {ds : List Lv} (H : Has h vs ds) : Has h vs.reverse ds.reverse := by
  have app : ∀ {us es vs ds}, Has h us es → Has h vs ds → Has h (us ++ vs) (es ++ ds) := by
    intro us es vs ds a b
    induction a with
    | nil => exact b
    | cons x _ ih => exact .cons x ih
  induction H with
  | nil => exact .nil
  | cons x _ ih => rw [List.reverse_cons, List.reverse_cons]; exact app ih (.cons x .nil)
theorem Has.length {h : Heap} {vs : List Value} {ds : List Lv} (H : Has h vs ds) : vs.length = ds.length := by
  induction H with
  | nil => rfl
  | cons _ _ ih => simp [ih]
theorem Has.of {h : Heap} {vs : List Value} {ds : List FV} (r : Rfs h vs ds) : Has h vs (ds.map .flat) := by
  induction vs generalizing ds with
  | nil => cases r; exact .nil
  | cons v vs ih => cases r with | cons a r => exact .cons a (ih r)

/-- a heap's objects -/
abbrev HB (h : Heap) : Addr → Obj → Prop := fun a o => h.get? a = some o
/-- a call of an own def -/
theorem Ev.callY {prog : Program} {w : World} {A : Around} {s : Shared} {name : Str} {params : Arguments} {body : List Stmt} {scope : Scope} {pm cd doc : Value} {a : Addr} {o : Obj} {args : List Value} {n : Nat} {P : Value → Heap → Prop} (ps : List Str) {ds : List Lv} (H : Has s.heap args ds)
    (rm : Rm A (n + 1)) (ho : s.heap.get? a = some o) (hdata : o.data = .func (docDef name params body scope pm cd doc)) (hlim : s.heap.NoLimit) (hcd : s.heap.CodeRec cd name)
    (h : ∀ h₁, Kp s.heap h₁ → Rm (A.deeper (envOf name scope s.heap.objs.size a cd)) n → Bd (envOf name scope s.heap.objs.size a cd) (fun a o => s.heap.get? a = some o) (ps.reverse.zip ds.reverse) [] h₁ → Xv prog w (A.deeper (envOf name scope s.heap.objs.size a cd)) h₁ (execs body (envOf name scope s.heap.objs.size a cd)) (fun f h' => Kp s.heap h' ∧ P (match f with | .ret v => v | _ => .none) h'))
    (hbind : bindArgs (docDef name params body scope pm cd doc) ⟨args, []⟩ = Pure.pure ((params.args.map (·.arg)).zip args) := by rfl)
    (hlen : ps.length = ds.length := by rfl) (hps : params.args.map (·.arg) = ps := by rfl)
    (hloc : (ps.all fun p => scope.names.lookup p == some .local) = true := by rfl)
    (hco : scope.isCoroutine = false := by rfl) (hgen : scope.isGenerator = false := by rfl) (hk : scope.kind = .function := by rfl)
    (hcell : ∀ x ∈ scope.names, x.2 ≠ .cell := by decide) : Ev prog w A s (call (.ref a) args) P := by
  refine Ev.callX (ps.reverse.zip ds.reverse) rm ho hdata hlim hcd (fun x d e => ?_) h hbind (fun x hx => ?_) hco hgen hk hcell
  · obtain ⟨_, q⟩ := H.rev.zip ps.reverse
    obtain ⟨v, e1, e2⟩ := (q x).1 d e
    refine ⟨v, ?_, e2⟩
    rw [hps, List.zip, List.reverse_zipWith (by rw [hlen, H.length])]
    exact e1
  · rw [hps] at hx
    have := List.all_eq_true.mp hloc x.1 (List.of_mem_zip (a := x.1) (b := x.2) hx).1
    exact eq_of_beq this

def apB : Nat → List UInt8
  | 0 => []
  | n + 1 => apB ((n + 1) / 16) ++ [UInt8.ofNat (65 + (n + 1) % 16)]
termination_by n => n
decreasing_by omega
def AP : List UInt8 := [65, 66, 67, 68, 69, 70, 71, 72, 73, 74, 75, 76, 77, 78, 79, 80]
theorem AP_pick (k : Nat) (hk : k < 16) : KBy.picked AP.toArray (some (k : Int)) (some ((k : Int) + 1)) = [UInt8.ofNat (65 + k)].toArray := by
  rw [KBc.picked_eq]
  have e1 : ((k : Int) + 1) = ((k + 1 : Nat) : Int) := by push_cast; rfl
  simp only [Option.elim, e1, clipAt_nat]
  rcases k with _ | _ | _ | _ | _ | _ | _ | _ | _ | _ | _ | _ | _ | _ | _ | _ | k <;> first | rfl | omega
theorem apB_len (n : Nat) : (apB n).length ≤ n := by
  induction n using Nat.strongRecOn with
  | ind n ih =>
    cases n with
    | zero => simp [apB]
    | succ n =>
      rw [apB]
      have := ih ((n + 1) / 16) (by omega)
      simp only [List.length_append, List.length_cons, List.length_nil]
      omega

section
variable {prog : Program} {w : World} {A : Around} {s : Shared} {mg mb : Str → Option Value}
theorem int2ap {n k : Nat} (rm : Rm A 5) (G : Gm mg mb s.heap) {a : Addr} (ha : mg "Int2AP" = some (.ref a)) {vs : List Value} (r : Fs [.int (-(n : Int))] vs s.heap) (hn : n < 2 ^ 24) : Ev prog w A s (call (.ref a) vs) (F (.bytes (apB n).toArray)) := by
  obtain ⟨a', o, pm, code, doc, e1, e2, e3, e4⟩ := G.ap
  rw [ha] at e1
  cases e1
  cases r with
  | @cons v _ _ _ rv r =>
  cases r
  refine Ev.callY (n := 4) ["num"] (Has.of (.cons rv .nil)) rm e2 e3 G.lim e4 fun h₁ kp₁ rm₁ b => ?_
  replace b := b.sub (D' := [("num", .flat (.int (-(n : Int))))]) ⟨rfl, trivial⟩
  have G₁ := G.kp kp₁
  refine X.seq (X.assign b EV.cbytes) fun h₂ b₂ => ?_
  refine X.seq (X.assign b₂ EV.cbytes) fun h₃ b₃ => ?_
  have G₃ := G.kp b₃.kp
  refine X.seq (X.assign b₃ (EV.callT (G₃.bi G.no.1) (AV.consF (EV.callB (G₃.bi G.no.2.1) (AV.consF b₃.n AV.nilF) fun s vs _ r => Fn.abs r) AV.nilF) fun s vs _ r => Fn.int r)) fun h₄ b₄ => ?_
  have en : (if (-(n : Int)) < 0 then - -(n : Int) else -(n : Int)) = (n : Int) := by split <;> omega
  rw [en] at b₄
  refine X.seq (P := Bd (envOf "Int2AP" (scopeOf (stAt 5)) s.heap.objs.size a code) (HB s.heap) [("val", .flat (.bytes (apB n).toArray))] []) (X.while (fun k h => ∃ (m : Nat) (c : List UInt8), m = k ∧ m ≤ n ∧ apB m ++ c = apB n ∧ Bd (envOf "Int2AP" (scopeOf (stAt 5)) s.heap.objs.size a code) (HB s.heap) [("num", .flat (.int (m : Int))), ("val", .flat (.bytes c.toArray)), ("AP", .flat (.bytes AP.toArray))] [] h) ?_ n ⟨n, [], rfl, Nat.le_refl _, by simp, b₄.sub ⟨rfl, rfl, rfl, trivial⟩⟩) fun h₅ b₅ => ?_
  · rintro k h ⟨m, c, rfl, hm, ec, b⟩
    have G₄ := G.kp b.kp
    refine ⟨((m : Int) != 0), TV.int b.n, fun hc h' kp => ?_, fun hc h' kp => ?_⟩
    · have hm0 : m ≠ 0 := by simpa using hc
      have b' := b.keep kp
      have G₅ := G.kp b'.kp
      refine X.seq (X.unpack2 rm₁ b' (EV.callB (G₅.bi G.no.2.2.1) (AV.consF b'.n (AV.consF EV.cint AV.nilF)) fun s vs _ r => Fn.divmod (by decide) (PyProof.noPylong_small (by omega)) r)) fun h₆ b₆ => ?_
      have e1 : (m : Int).fdiv 16 = ((m / 16 : Nat) : Int) := by
        rw [Int.fdiv_eq_ediv_of_nonneg _ (by decide)]; rfl
      have e2 : (m : Int).fmod 16 = ((m % 16 : Nat) : Int) := by
        rw [Int.fmod_eq_emod_of_nonneg _ (by decide)]; rfl
      rw [e1, e2] at b₆
      have hlt : m % 16 < 16 := Nat.mod_lt _ (by decide)
      refine X.seq (X.assign b₆ (EV.binF (EV.sub b₆.n (EV.slice2 b₆.n (EV.binF b₆.n EV.cint Bin.add)) F.later fun s o i _ r q => item_bslice (hi := some (((m % 16 : Nat) : Int) + 1)) r q (by decide)) b₆.n (Bin.bytes ?_))) fun h₇ b₇ => X.nil ?_
      · rw [AP_pick _ hlt]
        have := congrArg List.length ec
        have l1 := apB_len n
        have l2 : 0 < (apB m).length := by
          obtain ⟨j, rfl⟩ := Nat.exists_eq_succ_of_ne_zero hm0
          rw [apB]; simp
        rw [List.length_append] at this
        simp only [List.size_toArray, List.length_cons, List.length_nil]
        omega
      · refine ⟨m / 16, by omega, m / 16, ?_, rfl, by omega, ?_, ?_⟩
        · exact [UInt8.ofNat (65 + m % 16)] ++ c
        · obtain ⟨j, rfl⟩ := Nat.exists_eq_succ_of_ne_zero hm0
          rw [← List.append_assoc, ← ec, apB]
        · rw [AP_pick _ hlt, List.append_toArray] at b₇
          exact b₇.sub ⟨rfl, rfl, rfl, trivial⟩
    · have hm0 : m = 0 := by simpa using hc
      subst hm0
      rw [apB, List.nil_append] at ec
      subst ec
      exact ⟨rfl, (b.keep kp).sub ⟨rfl, trivial⟩⟩
  · refine X.retL b₅.n fun v h' kp p => ⟨fun c o e => kp _ _ (b₅.kp c o e), p⟩
end
end Mine
end
section
open PySem PySem.Calls PyProof.Rows PySem.W
set_option linter.unusedVariables false
namespace Mine
def plainT : List Nat := [1, 2, 1, 1, 2, 2, 2, 1, 1, 2, 1, 2, 1, 2, 1, 2, 2, 1, 1, 2, 1]
/-- the figure on a cell -/
def fig (draws : List Int) (cell : Nat) : Nat :=
  if cell < draws.length ∧ (draws.getD cell 0).fmod 2 = 1 then 3 - plainT.getD cell 0 else plainT.getD cell 0
def num16 (l : List Nat) : Nat := l.foldl (fun a d => 16 * a + d) 0
theorem num16_snoc (l : List Nat) (d : Nat) : num16 (l ++ [d]) = 16 * num16 l + d := by simp [num16]
def tri (r : Nat) : Nat := r * (r + 1) / 2
/-- a row's figures -/
def rowF (f : Nat → Nat → Nat) (r k : Nat) : List Nat := (List.range k).map (f r)
theorem rowF_succ (f : Nat → Nat → Nat) (r k : Nat) : rowF f r (k + 1) = rowF f r k ++ [f r k] := by simp [rowF, List.range_succ]
theorem num16_aux (l : List Nat) (h : ∀ d ∈ l, d < 16) : ∀ a, l.foldl (fun a d => 16 * a + d) a < (a + 1) * 16 ^ l.length := by
  induction l with
  | nil => intro a; simp
  | cons d l ih =>
    intro a
    have h1 := ih (fun x m => h x (by simp [m])) (16 * a + d)
    have h2 := h d (by simp)
    rw [List.foldl_cons, List.length_cons, Nat.pow_succ]
    refine Nat.lt_of_lt_of_le h1 ?_
    rw [show (a + 1) * (16 ^ l.length * 16) = (16 * a + 16) * 16 ^ l.length by rw [Nat.mul_comm (16 ^ l.length) 16, ← Nat.mul_assoc]; congr 1; omega]
    exact Nat.mul_le_mul_right _ (by omega)
theorem num16_lt (l : List Nat) (h : ∀ d ∈ l, d < 16) : num16 l < 16 ^ l.length := by
  have := num16_aux l h 0
  simpa [num16] using this
def brd (draws : List Int) (r c : Nat) : Nat := fig draws (tri r + c)
theorem fig_le (draws : List Int) (cell : Nat) (hc : cell < 21) : fig draws cell = 1 ∨ fig draws cell = 2 := by
  have h : ∀ c < 21, plainT.getD c 0 = 1 ∨ plainT.getD c 0 = 2 := by decide
  have := h cell hc
  unfold fig
  split <;> omega
theorem fig_lt (draws : List Int) (cell : Nat) : fig draws cell < 4 := by
  unfold fig
  have h : ∀ c < 21, plainT.getD c 0 = 1 ∨ plainT.getD c 0 = 2 := by decide
  have : plainT.getD cell 0 < 4 := by
    by_cases hc : cell < 21
    · have := h cell hc; omega
    · rw [List.getD_eq_getElem?_getD, List.getElem?_eq_none (by simp [plainT]; omega)]; simp
  split <;> omega
/-- the rows of a board, as numbers -/
def rowsV (f : Nat → Nat → Nat) (n : Nat) : List FV := (List.range n).map fun r => FV.int (num16 (rowF f r (r + 1)) : Nat)
theorem rowsV_succ (f : Nat → Nat → Nat) (n : Nat) : rowsV f (n + 1) = rowsV f n ++ [.int (num16 (rowF f n (n + 1)) : Nat)] := by simp [rowsV, List.range_succ]

theorem mulOk {a b : Int} (h : a.natAbs < 2 ^ 64) : IntMulOk a b := IntMulOk.of_left (intBits_le h)

/-- constant ints in a row -/
inductive AllC : List PySem.Expr → List FV → Prop
  | nil : AllC [] []
  | cons {i : Int} {k : Nat} {p : Pos} {es : List PySem.Expr} {ds : List FV} : AllC es ds → AllC (.Constant (.int i) k p :: es) (.int i :: ds)
theorem AV.allC {prog : Program} {w : World} {A : Around} {env : Env} {h : Heap} {pos : Pos} {es : List PySem.Expr} {ds : List FV} (a : AllC es ds) : AV prog w A env h pos es (Fs ds) := by
  induction a with
  | nil => exact AV.nilF
  | cons a ih => exact AV.consF EV.cint ih
section
variable {prog : Program} {w : World} {A : Around} {s : Shared} {mg mb : Str → Option Value}
def Av (d : List Int) (n : Nat) : List Value → Heap → Prop := fun vs h => ∃ a v, vs = [.ref a, v] ∧ Li h a (d.map FV.int) ∧ Rf h v (.int n)
theorem first_board {n k : Nat} {draws : List Int} (rm : Rm A 5) (G : Gm mg mb s.heap) {a : Addr} (ha : mg "_law_first_board" = some (.ref a)) {vs : List Value} (r : Av draws n vs s.heap) (hn : n ≤ 6) (hz : draws.length ≤ 21) :
    Ev prog w A s (call (.ref a) vs) (Nw s.heap (rowsV (brd draws) n)) := by
  obtain ⟨a', o, pm, code, doc, e1, e2, e3, e4⟩ := G.fb
  rw [ha] at e1
  cases e1
  obtain ⟨da, v, rfl, ld, rv⟩ := r
  refine Ev.callY (n := 4) ["draws", "size"] (.cons (d := .list da) rfl (.cons (d := .flat _) rv .nil)) rm e2 e3 G.lim e4 fun h₁ kp₁ rm₁ b => ?_
  refine X.seq (X.assignN b (EV.list (AV.allC (by repeat constructor)))) fun h₂ b₂ => ?_
  obtain ⟨pa, b₂⟩ := b₂
  refine X.seq (X.assignN b₂ (EV.list AV.nilF)) fun h₃ b₃ => ?_
  obtain ⟨ra, b₃⟩ := b₃
  have eP : [FV.int 1, .int 2, .int 1, .int 1, .int 2, .int 2, .int 2, .int 1, .int 1, .int 2, .int 1, .int 2, .int 1, .int 2, .int 1, .int 2, .int 2, .int 1, .int 1, .int 2, .int 1] = plainT.map fun x => FV.int (x : Nat) := rfl
  rw [eP] at b₃
  have b₄ := b₃.sub (D' := [("plain", .list pa), ("draws", .list da), ("rows", .list ra), ("size", .flat (.int n))]) ⟨rfl, rfl, rfl, rfl, trivial⟩
  have G₄ := G.kp b₄.kp
  refine X.seq (X.for (ds := ups 0 n) (fun i => ([("plain", .list pa), ("draws", .list da), ("rows", .list ra), ("size", .flat (.int n))], [(ra, rowsV (brd draws) i), (pa, plainT.map fun x => FV.int (x : Nat))])) b₄
    (EV.callT (G₄.bi G.no.2.2.2.1) (AV.consF b₄.n AV.nilF) fun s vs _ r => Fn.range1 r) (fun s v k r => Rg.itf (m := n) rm₁ (by omega) (by omega) (by simpa using r)) (fun _ _ => rfl) ?_) fun h₅ b₅ => ?_
  · intro B' i d h' hB hd b
    have hi : i < n := by
      have := (List.getElem?_eq_some_iff.mp hd).1
      rwa [ups_len] at this
    rw [ups_get hi] at hd
    cases hd
    simp only [Int.zero_add] at b
    refine X.seq (X.assign b EV.cint) fun h₆ b₆ => ?_
    have kp₆ : Kp s.heap h₆ := fun c o e => b₆.kp c o (hB _ _ e)
    have G₆ := G.kp kp₆
    have ld₆ := ld.kp kp₆
    have b₇ := b₆.sub (D' := [("number", .flat (.int (num16 (rowF (brd draws) i 0) : Nat))), ("row", .flat (.int i)), ("plain", .list pa), ("draws", .list da), ("rows", .list ra), ("size", .flat (.int n))]) ⟨rfl, rfl, rfl, rfl, rfl, rfl, trivial⟩
    refine X.seq (X.for (ds := ups 0 (i + 1)) (fun j => ([("number", .flat (.int (num16 (rowF (brd draws) i j) : Nat))), ("row", .flat (.int i)), ("plain", .list pa), ("draws", .list da), ("rows", .list ra), ("size", .flat (.int n))], [(ra, rowsV (brd draws) i), (pa, plainT.map fun x => FV.int (x : Nat))])) b₇
      (EV.callT (G₆.bi G.no.2.2.2.1) (AV.consF (EV.binF b₇.n EV.cint Bin.add) AV.nilF) fun s vs _ r => Fn.range1 r) (fun s v k r => Rg.itf (m := i + 1) rm₁ (by omega) (by omega) (by simpa using r)) (fun _ _ => rfl) ?_) fun h₈ b₈ => ?_
    · intro B2 j d h9 hB2 hd b₉
      have hj : j < i + 1 := by
        have := (List.getElem?_eq_some_iff.mp hd).1
        rwa [ups_len] at this
      rw [ups_get hj] at hd
      cases hd
      simp only [Int.zero_add] at b₉
      have et : ((i : Int) * ((i : Int) + 1)).fdiv 2 = (tri i : Nat) := by
        rw [Int.fdiv_eq_ediv_of_nonneg _ (by decide)]
        unfold tri
        push_cast
        rfl
      have hcell : tri i + j < 21 := by
        have : ∀ i < 6, tri i + i < 21 := by decide
        have := this i (by omega)
        omega
      refine X.seq (X.assign b₉ (EV.binF (EV.binF (EV.binF b₉.n (EV.binF b₉.n EV.cint Bin.add) (Bin.mul (mulOk (by omega)))) EV.cint (Bin.fdiv (by decide) (PyProof.noPylong_small (by decide)))) b₉.n Bin.add)) fun h10 b10 => ?_
      rw [et] at b10
      have hpl : (plainT.map fun x => FV.int (x : Nat))[((tri i : Nat) + (j : Nat) : Int).toNat]? = some (.int (plainT.getD (tri i + j) 0 : Nat)) := by
        rw [show ((tri i : Nat) + (j : Nat) : Int).toNat = tri i + j by omega, List.getElem?_map, List.getElem?_eq_getElem (by simpa [plainT] using hcell)]
        rw [List.getD_eq_getElem?_getD, List.getElem?_eq_getElem (by simpa [plainT] using hcell)]
        rfl
      have lp : Li h10 pa (plainT.map fun x => FV.int (x : Nat)) := b10.li (pa, _) (.tail _ (.head _))
      refine X.seq (X.assign b10 (EV.sub (b10.nl lp) b10.n Ls.later fun s o x _ r q => by
        obtain ⟨c, rfl, l⟩ := r
        cases q
        exact item_list l (by omega) (by omega) hpl)) fun h11 b11 => ?_
      have b12 := b11.sub (D' := [("figure", .flat (.int (plainT.getD (tri i + j) 0 : Nat))), ("cell", .flat (.int ((tri i : Nat) + (j : Nat)))), ("number", .flat (.int (num16 (rowF (brd draws) i j) : Nat))), ("row", .flat (.int i)), ("plain", .list pa), ("draws", .list da), ("rows", .list ra), ("size", .flat (.int n))]) ⟨rfl, rfl, rfl, rfl, rfl, rfl, rfl, rfl, trivial⟩
      have kp12 : Kp s.heap h11 := fun c o e => b12.kp c o (hB2 _ _ (hB _ _ e))
      have G12 := G.kp kp12
      have ld12 := ld.kp kp12
      have hfig : ∀ c : Bool, c = (decide (((tri i : Nat) + (j : Nat) : Int) < ((draws.map FV.int).length : Nat)) && ((draws.getD (tri i + j) 0).fmod 2 == 1 && true)) → (if c = true then (3 : Int) - (plainT.getD (tri i + j) 0 : Nat) else (plainT.getD (tri i + j) 0 : Nat)) = (brd draws i j : Nat) := by
        intro c hc
        have h12 : plainT.getD (tri i + j) 0 = 1 ∨ plainT.getD (tri i + j) 0 = 2 := by
          have h : ∀ c < 21, plainT.getD c 0 = 1 ∨ plainT.getD c 0 = 2 := by decide
          exact h _ hcell
        have hcc : (c = true) ↔ (tri i + j < draws.length ∧ (draws.getD (tri i + j) 0).fmod 2 = 1) := by
          rw [hc, Bool.and_true, Bool.and_eq_true, decide_eq_true_eq, beq_iff_eq, List.length_map]
          constructor
          · rintro ⟨h1, h2⟩; exact ⟨by omega, h2⟩
          · rintro ⟨h1, h2⟩; exact ⟨by omega, h2⟩
        unfold brd fig
        by_cases q : c = true
        · rw [if_pos q, if_pos (hcc.mp q)]
          omega
        · rw [if_neg q, if_neg (fun z => q (hcc.mpr z))]
      refine X.seq (P := Bd (envOf "_law_first_board" (scopeOf (stAt 12)) s.heap.objs.size a code) B2 [("figure", .flat (.int (brd draws i j : Nat))), ("number", .flat (.int (num16 (rowF (brd draws) i j) : Nat))), ("row", .flat (.int i)), ("plain", .list pa), ("draws", .list da), ("rows", .list ra), ("size", .flat (.int n))] [(ra, rowsV (brd draws) i), (pa, plainT.map fun x => FV.int (x : Nat))])
        (X.if (TV.and_cons (TV.cmpF b12.n (EV.callB (G12.bi G.no.2.2.2.2.1) (AV.one (b12.nl ld12) Ls.later) fun s vs _ r => Fn.len r (by rw [List.length_map]; omega)) Cm.lt) fun hc1 => TV.and_cons (b := (draws.getD (tri i + j) 0).fmod 2 == 1) (TV.cmpF (EV.binF (EV.sub (b12.nl ld12) b12.n Ls.later fun s o x _ r q => ?_) EV.cint (Bin.mod (by decide))) EV.cint Cm.eq) fun _ => TV.and_nil) (fun h' kp hc => ?_) fun h' kp hc => ?_) fun h13 b13 => ?_
      · obtain ⟨c, rfl, l⟩ := r
        cases q
        have hlt : tri i + j < draws.length := by
          rw [decide_eq_true_eq, List.length_map] at hc1; omega
        refine item_list l (by omega) (by omega) ?_
        rw [show ((tri i : Nat) + (j : Nat) : Int).toNat = tri i + j by omega, List.getElem?_map, List.getD_eq_getElem?_getD, List.getElem?_eq_getElem hlt]
        rfl
      · refine X.seq (X.assign (b12.keep kp) (EV.binF EV.cint (b12.keep kp).n Bin.sub)) fun h14 b14 => X.nil ⟨rfl, ?_⟩
        have := hfig true hc.symm
        rw [if_pos rfl] at this
        rw [this] at b14
        exact b14.sub ⟨rfl, rfl, rfl, rfl, rfl, rfl, rfl, trivial⟩
      · have := hfig false hc.symm
        rw [if_neg (by decide)] at this
        rw [this] at b12
        exact X.nil ⟨rfl, (b12.keep kp).sub ⟨rfl, rfl, rfl, rfl, rfl, rfl, rfl, trivial⟩⟩
      refine X.seq (X.assign b13 (EV.binF (EV.binF EV.cint b13.n (Bin.mul (mulOk (by decide)))) b13.n Bin.add)) fun h14 b14 => X.nil ⟨rfl, ?_⟩
      have en : (16 : Int) * (num16 (rowF (brd draws) i j) : Nat) + (brd draws i j : Nat) = (num16 (rowF (brd draws) i (j + 1)) : Nat) := by
        rw [rowF_succ, num16_snoc]; push_cast; rfl
      rw [en] at b14
      exact b14.sub ⟨rfl, rfl, rfl, rfl, rfl, rfl, trivial⟩
    · rw [ups_len] at b₈
      refine X.seq (X.append (L1 := []) b₈ b₈.n (by simp [rowsV]; have := sizeLine_eq; omega)) fun h9 b₉ => X.nil ⟨rfl, ?_⟩
      rw [List.nil_append, ← rowsV_succ] at b₉
      exact b₉.sub ⟨rfl, rfl, rfl, rfl, trivial⟩
  · rw [ups_len] at b₅
    refine X.retL b₅.nr fun v h' kp p => ⟨fun c o e => kp _ _ (b₅.kp c o e), ?_⟩
    cases p
    refine ⟨ra, rfl, ?_, (b₅.li (ra, _) (.head _)).kp kp⟩
    cases q : s.heap.get? ra with
    | none => rfl
    | some o => exact absurd q (b₅.fL (ra, _) (.head _) o)
end
end Mine
end
section
open PySem PySem.Calls PyProof.Rows PySem.W
set_option linter.unusedVariables false
namespace Mine

/-- a call of an own def whose two arguments are cells -/
theorem Ev.callC {prog : Program} {w : World} {A : Around} {s : Shared} {name : Str} {params : Arguments} {body : List Stmt} {scope : Scope} {pm cd doc : Value} {a : Addr} {o : Obj} {args : List Value} {n : Nat} {P : Value → Heap → Prop} (binds : List (Str × Value))
    (rm : Rm A (n + 1)) (ho : s.heap.get? a = some o) (hdata : o.data = .func (docDef name params body scope pm cd doc)) (hlim : s.heap.NoLimit) (hcd : s.heap.CodeRec cd name)
    (h : ∀ h₁, Kp s.heap h₁ → Rm (A.deeper (envOfC name scope s.heap.objs.size a cd)) n →
      (∀ x c v, (cellsFrom (s.heap.objs.size + 1) scope.names []).lookup x = some c → bindC (envOfC name scope s.heap.objs.size a cd).kindOf binds (fun _ => none) x = some v → h₁.IsCell c (some v)) →
      Bd (envOfC name scope s.heap.objs.size a cd) (fun a o => a ≠ s.heap.objs.size ∧ h₁.get? a = some o) [] [] h₁ →
      Xv prog w (A.deeper (envOfC name scope s.heap.objs.size a cd)) h₁ (execs body (envOfC name scope s.heap.objs.size a cd)) (fun f h' => Kp s.heap h' ∧ P (match f with | .ret v => v | _ => .none) h'))
    (hbind : bindArgs (docDef name params body scope pm cd doc) ⟨args, []⟩ = Pure.pure binds := by rfl)
    (hkind : ∀ x ∈ binds, scope.names.lookup x.1 = some .local ∨ (scope.names.lookup x.1 = some .cell ∧ ((cellsFrom (s.heap.objs.size + 1) scope.names []).lookup x.1).isSome = true))
    (hco : scope.isCoroutine = false := by rfl) (hgen : scope.isGenerator = false := by rfl) (hk : scope.kind = .function := by rfl) : Ev prog w A s (call (.ref a) args) P := by with_unfolding_all
  refine Ev.of fun Q E h0 hQ => wpAny_call (codeAny_call_function rm.room ho hdata hco hgen rfl hcd ?_)
  rw [hbind]
  refine wpAny_pure (wpAny_with_toks (n := 1) h0 (wpAny_newFunctionEnv_cells hk hkind fun env he s₁ X tt => ?_))
  subst he
  obtain ⟨h₁, tk, rfl, ht⟩ := X.done
  have b : Bd (envOfC name scope s.heap.objs.size a cd) (fun a o => a ≠ s.heap.objs.size ∧ h₁.get? a = some o) [] [] h₁ :=
    ⟨fun _ _ e => e.2, fun o e => e.1 rfl, (fun p m => absurd m List.not_mem_nil), List.nodup_nil, (fun p m => absurd m List.not_mem_nil), _, X.toInCall.ns, fun x d e => by cases e⟩
  refine ⟨hlim.keeps X.toInCall.keep, codeAny_func (wpAny_mono (h h₁ X.toInCall.keep (rm.deeper _) (fun x c v e1 e2 => e2 ▸ X.cell x c e1) b { s with heap := h₁, toks := tk } rfl _ (fun _ _ => False) (fun f h' k' k0' r => hQ _ h' k' r.1 r.2) tt) (fun _ _ x => x) fun _ _ x => x.elim)⟩

abbrev P2 := Int × Int
def nears (p : P2) : List P2 := [(p.1, p.2 - 1), (p.1, p.2 + 1), (p.1 - 1, p.2 - 1), (p.1 - 1, p.2), (p.1 + 1, p.2), (p.1 + 1, p.2 + 1)]
def stepN (S : List P2 × List P2) (q : P2) : List P2 × List P2 := if q ∈ S.1 then (@List.erase P2 instBEqOfDecidableEq S.1 q, S.2 ++ [q]) else S
def growF : Nat → List P2 → List P2 → Nat → List P2 × List P2
  | 0, l, c, _ => (l, c)
  | k + 1, l, c, t => match c[t]? with
    | none => (l, c)
    | some p => growF k ((nears p).foldl stepN (l, c)).1 ((nears p).foldl stepN (l, c)).2 (t + 1)
def touches (n : Nat) (c : List P2) : Bool := decide ((0 : Int) ∈ c.map (·.2)) && (decide ((0 : Int) ∈ c.map fun p => p.1 - p.2) && decide ((n : Int) - 1 ∈ c.map (·.1)))
def outerF (n : Nat) : Nat → List P2 → Bool
  | 0, _ => false
  | k + 1, l => match l.getLast? with
    | none => false
    | some p => if touches n (growF l.length l.dropLast [p] 0).2 then true else outerF n k (growF l.length l.dropLast [p] 0).1
def cellsOf (ws : List (List UInt8)) (letter : Nat) (n : Nat) : List P2 := (List.range n).flatMap fun r => (List.range (r + 1)).flatMap fun c => if ((ws.getD r []).getD c 0).toNat = letter then [((r : Int), (c : Int))] else []
def linkedF (ws : List (List UInt8)) (letter : Nat) : Bool := outerF ws.length (cellsOf ws letter ws.length).length (cellsOf ws letter ws.length)

theorem stepN_len (S : List P2 × List P2) (q : P2) : (stepN S q).1.length + (stepN S q).2.length = S.1.length + S.2.length := by
  unfold stepN
  split
  · rename_i h
    have := List.length_pos_of_mem h
    have e := @List.length_erase_of_mem P2 instBEqOfDecidableEq inferInstance q S.1 h
    simp only [List.length_append, List.length_cons, List.length_nil]
    omega
  · rfl
theorem fold_len (qs : List P2) (S : List P2 × List P2) : (qs.foldl stepN S).1.length + (qs.foldl stepN S).2.length = S.1.length + S.2.length := by
  induction qs generalizing S with
  | nil => rfl
  | cons q qs ih => rw [List.foldl_cons, ih, stepN_len]
theorem stepN_mono (S : List P2 × List P2) (q : P2) : S.2.length ≤ (stepN S q).2.length := by
  unfold stepN
  split <;> simp
theorem fold_mono (qs : List P2) (S : List P2 × List P2) : S.2.length ≤ (qs.foldl stepN S).2.length := by
  induction qs generalizing S with
  | nil => exact Nat.le_refl _
  | cons q qs ih => exact Nat.le_trans (stepN_mono S q) (ih _)
theorem growF_len : ∀ (k : Nat) (l c : List P2) (t : Nat), (growF k l c t).1.length + (growF k l c t).2.length = l.length + c.length ∧ c.length ≤ (growF k l c t).2.length := by
  intro k
  induction k with
  | zero => intro l c t; exact ⟨rfl, Nat.le_refl _⟩
  | succ k ih =>
    intro l c t
    rw [growF]
    split
    · exact ⟨rfl, Nat.le_refl _⟩
    · rename_i p _
      obtain ⟨h1, h2⟩ := ih ((nears p).foldl stepN (l, c)).1 ((nears p).foldl stepN (l, c)).2 (t + 1)
      have h3 := fold_len (nears p) (l, c)
      have h4 := fold_mono (nears p) (l, c)
      simp only at h3 h4
      exact ⟨by omega, by omega⟩
end Mine
end
section
open PySem PySem.Calls PyProof.Rows PySem.W
set_option linter.unusedVariables false
namespace Mine
theorem two_ok (x y : FV) : [x, y].length ≤ sizeLine := by rw [sizeLine_eq]; simp
theorem six_ok (a b c d e f : FV) : [a, b, c, d, e, f].length ≤ sizeLine := by rw [sizeLine_eq]; simp
def encB (l : List UInt8) : FV := .bytes l.toArray
def esC : FV → List FV | .int i => ups 0 (i.toNat + 1) | _ => []
def bbC (ws : List (List UInt8)) (letter : Nat) : FV → FV → Bool
  | .int i, .int j => (((ws.getD i.toNat []).getD j.toNat 0).toNat : Int) == (letter : Int)
  | _, _ => false
def fst2 : FV → FV | .tup (x :: _) => x | _ => .none
def snd2 : FV → FV | .tup (_ :: y :: _) => y | _ => .none
def dif2 : FV → FV | .tup [.int x, .int y] => .int (x - y) | _ => .none
theorem cells_eq (ws : List (List UInt8)) (letter n : Nat) : ((ups 0 n).flatMap fun d => (esC d).flatMap fun e => if bbC ws letter d e then [FV.tup [d, e]] else []) = (cellsOf ws letter n).map PT := by
  unfold ups cellsOf
  rw [List.flatMap_map, List.map_flatMap]
  refine congrArg (fun f => (List.range n).flatMap f) (funext fun r => ?_)
  simp only [esC, Int.zero_add, Int.toNat_natCast, ups]
  rw [List.flatMap_map, List.map_flatMap]
  refine congrArg (fun f => (List.range (r + 1)).flatMap f) (funext fun c => ?_)
  simp only [bbC, Int.zero_add, Int.toNat_natCast, beq_iff_eq]
  by_cases h : ((ws.getD r []).getD c 0).toNat = letter
  · rw [if_pos h, if_pos (by exact_mod_cast h)]; rfl
  · rw [if_neg h, if_neg (by exact_mod_cast h)]; rfl
theorem flat_len {α β : Type} (l : List α) (f : α → List β) (m : Nat) (h : ∀ a ∈ l, (f a).length ≤ m) : (l.flatMap f).length ≤ l.length * m := by
  induction l with
  | nil => simp
  | cons a l ih =>
    rw [List.flatMap_cons, List.length_append, List.length_cons, Nat.succ_mul]
    have := h a (by simp)
    have := ih fun b hb => h b (by simp [hb])
    omega
theorem cells_len (ws : List (List UInt8)) (letter n : Nat) (hn : n ≤ 6) : (cellsOf ws letter n).length ≤ 36 := by
  unfold cellsOf
  have := flat_len (List.range n) (fun r => (List.range (r + 1)).flatMap fun c => if ((ws.getD r []).getD c 0).toNat = letter then [((r : Int), (c : Int))] else []) 6 (fun r hr => by
    have hr' := List.mem_range.mp hr
    have := flat_len (List.range (r + 1)) (fun c => if ((ws.getD r []).getD c 0).toNat = letter then [((r : Int), (c : Int))] else []) 1 (fun c _ => by split <;> simp)
    rw [List.length_range] at this
    omega)
  rw [List.length_range] at this
  omega
theorem map_if (l : List P2) (f : FV → FV) (g : P2 → Int) (h : ∀ p, f (PT p) = .int (g p)) : (l.map PT).flatMap (fun d => if true then [f d] else []) = (l.map g).map FV.int := by
  induction l with
  | nil => rfl
  | cons p l ih =>
    rw [List.map_cons, List.flatMap_cons, ih, List.map_cons, List.map_cons, h]
    rfl

section
variable {prog : Program} {w : World} {A : Around} {s : Shared} {mg mb : Str → Option Value} {env : Env} {h : Heap}
theorem EV.loc {x : Str} {pos : Pos} {m : Str → Option Value} {v : Value} {d : FV} (hn : h.Ns env.locals m) (hv : m x = some v) (r : Rf h v d)
    (hk : env.scope.kind = .function := by rfl) (hl : env.kindOf x = some .local := by rfl) (hd : (x == ("__debug__" : Str)) = false := by decide) : EV prog w A env h (.Name x pos) (F d) := EV.name (LV.local hn hv (fun h' k => Rf.kp k r) hk hl) hd
/-- [f(cell) for cell in chain] -/
theorem EV.each {n : Nat} (rm : Rm A n) {elt : PySem.Expr} {px : Pos} {iter : PySem.Expr} {scope : Scope} {pos : Pos} {l : List P2} (f : FV → FV) (g : P2 → Int) (hf : ∀ p, f (PT p) = .int (g p))
    (hi : EV prog w A env h iter (Ls (l.map PT))) (hl : l.length ≤ sizeLine)
    (el : ∀ C h₃ m₃ v p, h₃.Ns C m₃ → m₃ "cell" = some v → Rf h₃ v (PT p) → EV prog w A (compEnvC scope [] C env) h₃ elt (F (.int (g p))))
    (hclos : closureFor scope env = Pure.pure [] := by rfl) (hcell : ∀ y ∈ scope.names, y.2 ≠ .cell := by decide) (hkind : scope.kind = .function := by rfl)
    (hnames : ∀ y ∈ scope.names, y.2 = .local → scope.names.lookup y.1 = some .local := by decide) (hx : scope.names.lookup ("cell" : Str) = some .local := by rfl)
    (hs : ∀ x, foldedSetIterable iter env x = Pure.pure x := by intro _; rfl) :
    EV prog w A env h (.ListComp elt [⟨.Name "cell" px, iter, [], 0⟩] scope pos) (Nw h ((l.map g).map FV.int)) := by
  have := EV.comp (prog := prog) (w := w) (A := A) (env := env) (h := h) (pos := pos) (px := px) (TurnIs.one (elt := elt)) hi (fun s v k p => by
    obtain ⟨a, rfl, la⟩ := p
    exact Itb.list rm la) (Turn.one (cl := []) (b := fun _ => true) (g := f) (fun C h₃ m₃ d v kp fC hn hm hd rv => ⟨TS.nil, fun _ => by
      obtain ⟨p, _, rfl⟩ := List.mem_map.mp hd
      rw [hf]
      exact el C h₃ m₃ v p hn hm rv⟩) (by rw [map_if l f g hf, List.length_map, List.length_map]; exact hl)) hclos hcell hkind hnames hx hs
  rw [map_if l f g hf] at this
  exact this
theorem item_F {T : List FV} {k : Nat} {d : FV} {o i : Value} (r : Rf s.heap o (.tup T)) (q : Rf s.heap i (.int (k : Nat))) (hk : k < 2 ^ 60) (hx : T[k]? = some d) :
    (∃ T id, s.TypeIs o T ∧ typeLookup (.type T) "__getitem__" = pure (some (.builtin id))) ∧ Ev prog w A s (getItem o i) (F d) := by
  cases r with
  | tup e rs =>
    cases q
    exact item_tup e rs hk hx
def Aw (ws : List (List UInt8)) (letter : Nat) : List Value → Heap → Prop := fun vs h => ∃ a v, vs = [.ref a, v] ∧ Li h a (ws.map encB) ∧ Rf h v (.int letter)
theorem linked {k letter : Nat} {ws : List (List UInt8)} (rm : Rm A 5) (G : Gm mg mb s.heap) {a : Addr} (ha : mg "_law_linked" = some (.ref a)) {vs : List Value} (r : Aw ws letter vs s.heap) (hn : ws.length ≤ 6) (hw : ∀ r < ws.length, r < (ws.getD r []).length ∧ (ws.getD r []).length ≤ 1000) :
    Ev prog w A s (call (.ref a) vs) (F (.bool (linkedF ws letter))) := by
  obtain ⟨a', o, pm, code, doc, e1, e2, e3, e4⟩ := G.lk
  rw [ha] at e1
  cases e1
  obtain ⟨wa, lv, rfl, lw, rl⟩ := r
  refine Ev.callC (n := 4) [("words", .ref wa), ("letter", lv)] rm e2 e3 G.lim e4 (fun h₁ kp₁ rm₁ cel b => ?_) rfl ?_
  rotate_left 1
  · intro x hx
    rcases List.mem_cons.mp hx with rfl | hx
    · exact .inr ⟨rfl, rfl⟩
    · rw [List.mem_singleton.mp hx]; exact .inr ⟨rfl, rfl⟩
  have cW : h₁.IsCell (s.heap.objs.size + 1) (some (.ref wa)) := cel "words" _ _ rfl rfl
  have cL : h₁.IsCell (s.heap.objs.size + 1 + 1) (some lv) := cel "letter" _ _ rfl rfl
  clear cel
  have G₁ := G.kp kp₁
  have lw₁ := lw.kp kp₁
  have rl₁ := rl.kp kp₁
  refine X.seq (X.assign b (EV.callB (G₁.bi G.no.2.2.2.2.1) (AV.one (P := Ls (ws.map encB)) (EV.name (LV.cell cW fun h' k => ⟨wa, rfl, lw₁.kp k⟩)) Ls.later) fun s vs _ r => Fn.len r (by rw [List.length_map]; omega))) fun h₂ b₂ => ?_
  rw [List.length_map] at b₂
  have kp₂ : Kp s.heap h₂ := fun c o e => b₂.kp c o ⟨Nat.ne_of_lt (Heap.lt_size e), kp₁ _ _ e⟩
  have G₂ := G.kp kp₂
  have lw₂ := lw.kp kp₂
  have rl₂ := rl.kp kp₂
  have n6 : ws.length ≤ 6 := hn
  have cl36 := cells_len ws letter ws.length hn
  have hB₁ : ∀ c o, (c ≠ s.heap.objs.size ∧ h₁.get? c = some o) → h₂.get? c = some o := fun c o e => b₂.kp c o e
  have cW₂ : h₂.IsCell (s.heap.objs.size + 1) (some (.ref wa)) := let ⟨o, e, q⟩ := cW; ⟨o, hB₁ _ _ ⟨Nat.succ_ne_self _, e⟩, q⟩
  have cL₂ : h₂.IsCell (s.heap.objs.size + 1 + 1) (some lv) := let ⟨o, e, q⟩ := cL; ⟨o, hB₁ _ _ ⟨Nat.ne_of_gt (Nat.lt_succ_of_lt (Nat.lt_succ_self _)), e⟩, q⟩
  refine X.seq (X.comp (cl := [("words", s.heap.objs.size + 1), ("letter", s.heap.objs.size + 1 + 1)]) (ds := ups 0 ws.length) (G := fun d => (esC d).flatMap fun e => if bbC ws letter d e then [FV.tup [d, e]] else []) b₂ TurnIs.two
    (EV.callT (G₂.bi G.no.2.2.2.1) (AV.consF b₂.n AV.nilF) fun s vs _ r => Fn.range1 r) (fun s v k r => (Rg.itf (m := ws.length) rm₁ (by omega) (by omega) (by simpa using r)).toItb)
    (Turn.two (PI2 := fun d v h => ∃ i : Nat, d = .int (i : Int) ∧ i < ws.length ∧ Rg 0 ((i : Int) + 1) v h) (es := esC) (b := bbC ws letter) (g := fun d e => FV.tup [d, e]) (by decide) rfl rfl ?_ ?_ ?_ ?_)) fun h₃ b₃ => ?_
  · intro C h₃ m₃ d v kp fC hn₃ hm hd rv
    obtain ⟨i, hi, rfl⟩ : ∃ i : Nat, i < ws.length ∧ d = .int (i : Int) := by
      obtain ⟨i, hi⟩ := List.mem_iff_getElem?.mp hd
      have := (List.getElem?_eq_some_iff.mp hi).1
      rw [ups_len] at this
      rw [ups_get this] at hi
      cases hi
      exact ⟨i, this, by simp⟩
    exact (EV.callT ((G₂.kp kp).bi G.no.2.2.2.1) (AV.consF (EV.binF (EV.loc hn₃ hm rv) EV.cint Bin.add) AV.nilF) fun s vs _ r => Fn.range1 r).mono fun v h' _ p => ⟨i, rfl, hi, p⟩
  · rintro d s' v hd ⟨i, rfl, hi, p⟩
    exact Rg.itf (m := i + 1) rm₁ (by omega) (by omega) (by simpa using p)
  · intro C h₃ m₃ d v e u kp fC hn₃ hm hmy hd he rv ru
    obtain ⟨i, hi, rfl⟩ : ∃ i : Nat, i < ws.length ∧ d = .int (i : Int) := by
      obtain ⟨i, hi⟩ := List.mem_iff_getElem?.mp hd
      have := (List.getElem?_eq_some_iff.mp hi).1
      rw [ups_len] at this
      rw [ups_get this] at hi
      cases hi
      exact ⟨i, this, by simp⟩
    obtain ⟨j, hj, rfl⟩ : ∃ j : Nat, j < i + 1 ∧ e = .int (j : Int) := by
      obtain ⟨j, hj⟩ := List.mem_iff_getElem?.mp he
      have := (List.getElem?_eq_some_iff.mp hj).1
      simp only [esC, Int.toNat_natCast] at this hj
      rw [ups_len] at this
      rw [ups_get this] at hj
      cases hj
      exact ⟨j, this, by simp⟩
    have hwi := hw i hi
    refine ⟨TS.one (TV.cmpF (EV.sub (P1 := F (encB (ws.getD i []))) (EV.sub (P1 := Ls (ws.map encB)) (EV.name (LV.cell (cW₂.keeps kp) fun h' k => ⟨wa, rfl, (lw₂.kp kp).kp k⟩)) (EV.loc hn₃ hm rv) Ls.later fun s o x _ r q => ?_) (EV.loc hn₃ hmy ru) F.later fun s o x _ r q => ?_) (EV.name (LV.cell (cL₂.keeps kp) fun h' k => (rl₂.kp kp).kp k)) Cm.eq), fun _ => ?_⟩
    · obtain ⟨c, rfl, l⟩ := r
      cases q
      refine item_list l (by omega) (by omega) ?_
      rw [Int.toNat_natCast, List.getElem?_map, List.getElem?_eq_getElem hi, List.getD_eq_getElem?_getD, List.getElem?_eq_getElem hi]
      rfl
    · cases r
      cases q
      exact item_bytes (by omega) (by simp only [List.size_toArray]; omega) (by simp only [List.size_toArray]; omega)
    · exact EV.tup (AV.consF (EV.loc hn₃ hm rv) (AV.consF (EV.loc hn₃ hmy ru) AV.nilF)) (two_ok _ _)
  · rw [cells_eq, List.length_map, sizeLine_eq]; omega
  rw [cells_eq] at b₃
  obtain ⟨la, b₃⟩ := b₃
  have kp₃ : Kp s.heap h₃ := fun c o e => b₃.kp c o ⟨Nat.ne_of_lt (Heap.lt_size e), kp₁ _ _ e⟩
  generalize hBB : (fun (c : Addr) (o : Obj) => c ≠ s.heap.objs.size ∧ h₁.get? c = some o) = BB at b₃
  have hB : ∀ c o, s.heap.get? c = some o → BB c o := fun c o e => by rw [← hBB]; exact ⟨Nat.ne_of_lt (Heap.lt_size e), kp₁ _ _ e⟩
  clear hBB hB₁ b₂ b cW cL cW₂ cL₂
  have tgt : linkedF ws letter = outerF ws.length (cellsOf ws letter ws.length).length (cellsOf ws letter ws.length) := rfl
  generalize linkedF ws letter = ans at tgt
  refine X.cons (R1 := fun f h => match f with | .next => ans = false ∧ Kp s.heap h | .ret v => Kp s.heap h ∧ F (.bool ans) v h | _ => False)
    (X.while (fun k h => ∃ l : List P2, l.length ≤ k ∧ ans = outerF ws.length k l ∧ l.length ≤ 36 ∧ Bd (envOfC "_law_linked" (scopeOf (stAt 13)) s.heap.objs.size a code) BB [("left", .list la), ("size", .flat (.int ws.length))] [(la, l.map PT)] h) ?_ _ ⟨_, Nat.le_refl _, tgt, cl36, b₃⟩) ?_ ?_
  · rintro k h ⟨l, hl, ek, h36, b⟩
    have Gh := G.kp (fun c o e => b.kp c o (hB c o e))
    refine ⟨decide (((l.map PT).length : Int) > 0), TV.cmpF (EV.callB (Gh.bi G.no.2.2.2.2.1) (AV.one (b.nl (b.li (la, _) (.head _))) Ls.later) fun s vs _ r => Fn.len r (by rw [List.length_map]; omega)) EV.cint Cm.gt, fun hc h' kp => ?_, fun hc h' kp => ?_⟩
    · rw [decide_eq_true_eq, List.length_map] at hc
      obtain ⟨l', p, rfl⟩ : ∃ l' p, l = l' ++ [p] := ⟨l.dropLast, l.getLast (by intro q; simp [q] at hc), (List.dropLast_concat_getLast _).symm⟩
      obtain ⟨k, rfl⟩ : ∃ k', k = k' + 1 := ⟨k - 1, by simp at hl; omega⟩
      rw [outerF, List.getLast?_concat, List.dropLast_concat] at ek
      simp only [List.length_append, List.length_cons, List.length_nil] at ek hl h36
      have b₅ := b.keep kp
      rw [List.map_append] at b₅
      refine X.seq (X.popped (L1 := []) (L2 := []) b₅ (by rw [List.length_map, sizeLine_eq]; omega)) fun h₆ b₆ => ?_
      obtain ⟨ca, b₆⟩ := b₆
      refine X.seq (X.assign b₆ EV.cint) fun h₇ b₇ => ?_
      obtain ⟨gl1, gl2⟩ := growF_len (l'.length + 1) l' [p] 0
      simp only [List.length_cons, List.length_nil] at gl1 gl2
      generalize hS : growF (l'.length + 1) l' [p] 0 = S at ek gl1 gl2
      refine X.seq (P := Bd (envOfC "_law_linked" (scopeOf (stAt 13)) s.heap.objs.size a code) BB [("chain", .list ca), ("left", .list la), ("size", .flat (.int ws.length))] [(ca, S.2.map PT), (la, S.1.map PT)])
        (X.while (fun k h => ∃ (l c : List P2) (t : Nat), t ≤ c.length ∧ l.length + c.length ≤ t + k ∧ l.length + c.length ≤ 36 ∧ growF k l c t = S ∧
          Bd (envOfC "_law_linked" (scopeOf (stAt 13)) s.heap.objs.size a code) BB [("at", .flat (.int (t : Nat))), ("chain", .list ca), ("left", .list la), ("size", .flat (.int ws.length))] [(ca, c.map PT), (la, l.map PT)] h) ?_ (l'.length + 1) ⟨l', [p], 0, Nat.zero_le _, (by simp only [List.length_cons, List.length_nil]; omega), (by simp only [List.length_cons, List.length_nil]; omega), hS, b₇.sub ⟨rfl, rfl, rfl, rfl, trivial⟩⟩) fun h₈ b₈ => ?_
      · clear b₇ b₆ b₅ b kp Gh
        rintro k h ⟨l, c, t, htc, hk, h36', hg, b⟩
        have Gh := G.kp (fun c o e => b.kp c o (hB c o e))
        refine ⟨decide ((t : Int) < ((c.map PT).length : Int)), TV.cmpF b.n (EV.callB (Gh.bi G.no.2.2.2.2.1) (AV.one (b.nl (b.li (ca, _) (.head _))) Ls.later) fun s vs _ r => Fn.len r (by rw [List.length_map]; omega)) Cm.lt, fun hc h' kp => ?_, fun hc h' kp => ?_⟩
        · rw [decide_eq_true_eq, List.length_map] at hc
          have htl : t < c.length := by omega
          obtain ⟨k, rfl⟩ : ∃ k', k = k' + 1 := ⟨k - 1, by omega⟩
          have hct : c[t]? = some c[t] := List.getElem?_eq_getElem htl
          rw [growF, hct] at hg
          simp only at hg
          generalize c[t] = q at hct hg
          have b₅ := b.keep kp
          refine X.seq (X.unpack2 rm₁ (d1 := .int q.1) (d2 := .int q.2) b₅ (EV.sub (b₅.nl (b₅.li (ca, _) (.head _))) b₅.n Ls.later fun s o x _ r z => ?_)) fun h₆ b₆ => ?_
          · obtain ⟨cc, rfl, lc⟩ := r
            cases z
            refine item_list lc (by omega) (by omega) ?_
            rw [Int.toNat_natCast, List.getElem?_map, hct]
            rfl
          have SJ : ∀ i, ∃ S', S' = ((nears q).take i).foldl stepN (l, c) := fun i => ⟨_, rfl⟩
          have Slen : ∀ i, (((nears q).take i).foldl stepN (l, c)).1.length + (((nears q).take i).foldl stepN (l, c)).2.length = l.length + c.length := fun i => fold_len _ _
          refine X.seq (X.forL rm₁ (ds := (nears q).map PT) (fun i => ([("at", .flat (.int (t : Nat))), ("column", .flat (.int q.2)), ("row", .flat (.int q.1)), ("chain", .list ca), ("left", .list la), ("size", .flat (.int ws.length))], [(ca, (((nears q).take i).foldl stepN (l, c)).2.map PT), (la, (((nears q).take i).foldl stepN (l, c)).1.map PT)]))
            (b₆.sub ⟨rfl, rfl, rfl, rfl, rfl, rfl, trivial⟩) (EV.list (AV.consF (EV.tup (AV.consF b₆.n (AV.consF (EV.binF b₆.n EV.cint Bin.sub) AV.nilF)) (two_ok _ _))
              (AV.consF (EV.tup (AV.consF b₆.n (AV.consF (EV.binF b₆.n EV.cint Bin.add) AV.nilF)) (two_ok _ _))
              (AV.consF (EV.tup (AV.consF (EV.binF b₆.n EV.cint Bin.sub) (AV.consF (EV.binF b₆.n EV.cint Bin.sub) AV.nilF)) (two_ok _ _))
              (AV.consF (EV.tup (AV.consF (EV.binF b₆.n EV.cint Bin.sub) (AV.consF b₆.n AV.nilF)) (two_ok _ _))
              (AV.consF (EV.tup (AV.consF (EV.binF b₆.n EV.cint Bin.add) (AV.consF b₆.n AV.nilF)) (two_ok _ _))
              (AV.consF (EV.tup (AV.consF (EV.binF b₆.n EV.cint Bin.add) (AV.consF (EV.binF b₆.n EV.cint Bin.add) AV.nilF)) (two_ok _ _)) AV.nilF)))))) (six_ok _ _ _ _ _ _)) (fun _ _ => rfl) ?_) fun h₇ b₇ => ?_
          · intro B' i d h'' hB' hd bb
            rw [List.getElem?_map] at hd
            cases hx : (nears q)[i]? with
            | none => rw [hx] at hd; cases hd
            | some x =>
              rw [hx] at hd
              cases hd
              have es : ((nears q).take (i + 1)).foldl stepN (l, c) = stepN (((nears q).take i).foldl stepN (l, c)) x := by
                rw [List.take_add_one, hx, List.foldl_append]; rfl
              have hl36 := Slen i
              dsimp only at bb ⊢
              rw [es]
              generalize ((nears q).take i).foldl stepN (l, c) = T at bb hl36
              obtain ⟨tl, tc⟩ := T
              simp only at bb hl36 ⊢
              refine X.seq (P := Bd (envOfC "_law_linked" (scopeOf (stAt 13)) s.heap.objs.size a code) B' [("at", .flat (.int (t : Nat))), ("column", .flat (.int q.2)), ("row", .flat (.int q.1)), ("chain", .list ca), ("left", .list la), ("size", .flat (.int ws.length))] [(ca, (stepN (tl, tc) x).2.map PT), (la, (stepN (tl, tc) x).1.map PT)]) (X.if (TV.cmp (c := decide (x ∈ tl)) bb.n (bb.nl (bb.li (la, _) (.tail _ (.head _)))) F.later fun s v1 v2 kp r1 r2 => ?_) (fun h4 kp hc => ?_) fun h4 kp hc => ?_) fun h4 b4 => X.nil ⟨rfl, b4⟩
              · obtain ⟨cc, rfl, lc⟩ := r2
                refine (In.list Enc.pt rm₁ lc r1).mono fun v h k p => ?_
                have p' : v = _ := p
                rw [p']
                exact congrArg Value.bool (decide_eq_decide.mpr Iff.rfl)
              · have hx' : x ∈ tl := of_decide_eq_true hc
                have b9 := bb.keep kp
                refine X.seq (X.remove (L1 := [(ca, tc.map PT)]) (L2 := []) Enc.pt rm₁ b9 b9.n hx' (by rw [sizeLine_eq]; omega)) fun h5 b5 => ?_
                refine X.seq (X.append (L1 := []) b5 b5.n (by rw [List.length_map, sizeLine_eq]; omega)) fun h6 b6 => X.nil ⟨rfl, ?_⟩
                have e2 : stepN (tl, tc) x = (@List.erase P2 instBEqOfDecidableEq tl x, tc ++ [x]) := by unfold stepN; rw [if_pos hx']
                rw [e2]
                simp only [List.map_append, List.map_cons, List.map_nil]
                exact b6.sub ⟨rfl, rfl, rfl, rfl, rfl, rfl, trivial⟩
              · have hx' : x ∉ tl := of_decide_eq_false hc
                have e2 : stepN (tl, tc) x = (tl, tc) := by unfold stepN; rw [if_neg hx']
                rw [e2]
                exact X.nil ⟨rfl, (bb.keep kp).sub ⟨rfl, rfl, rfl, rfl, rfl, rfl, trivial⟩⟩
          · rw [List.length_map] at b₇
            rw [List.take_of_length_le (Nat.le_refl _)] at b₇
            have l2 := fold_len (nears q) (l, c)
            have l3 := fold_mono (nears q) (l, c)
            simp only at l2 l3
            refine X.seq (X.assign b₇ (EV.binF b₇.n EV.cint Bin.add)) fun h₈ b₈ => X.nil ⟨k, Nat.lt_succ_self _, _, _, t + 1, ?_, ?_, ?_, hg, b₈.sub ⟨rfl, rfl, rfl, rfl, trivial⟩⟩
            · omega
            · omega
            · omega
        · rw [decide_eq_false_iff_not, List.length_map] at hc
          have et : t = c.length := by omega
          have eS : S = (l, c) := by
            rw [← hg]
            cases k with
            | zero => rfl
            | succ k => rw [growF, List.getElem?_eq_none (by omega)]
          subst eS
          exact ⟨rfl, (b.keep kp).sub ⟨rfl, rfl, rfl, trivial⟩⟩
      have s36 : S.2.length ≤ sizeLine := by rw [sizeLine_eq]; omega
      have inI : ∀ (A : Around) (s : Shared) (as : List Int) (x : Int) (v1 v2 : Value) (h₀ : Heap), Rm A 4 → F (.int x) v1 s.heap → Nw h₀ (as.map FV.int) v2 s.heap → Ev prog w A s (compareOp .In v1 v2) (Is (.bool (decide (x ∈ as)))) := by
        rintro A s as x v1 v2 h₀ rm r ⟨cc, rfl, _, lc⟩
        exact (In.list (n := 3) Enc.int rm lc r).mono fun v h k p => by
          have p' : v = _ := p
          rw [p']
          exact congrArg Value.bool (decide_eq_decide.mpr Iff.rfl)
      refine X.seq (X.assign b₈ ((EV.cmp EV.cint (EV.each rm₁ snd2 (fun p => p.2) (fun _ => rfl) (b₈.nl (b₈.li (ca, _) (.head _))) s36 fun C h₃ m₃ v p hn hm rv => EV.sub (EV.loc hn hm rv) EV.cint F.later fun s o i _ r q => item_F (k := 1) r q (by decide) rfl) F.later fun s v1 v2 _ r1 r2 => inI _ _ _ _ _ _ _ rm₁ r1 r2).mono fun v h _ p => Is.boolF p)) fun h₉ b₉ => ?_
      refine X.seq (X.assign b₉ ((EV.cmp EV.cint (EV.each rm₁ dif2 (fun p => p.1 - p.2) (fun _ => rfl) (b₉.nl (b₉.li (ca, _) (.head _))) s36 fun C h₃ m₃ v p hn hm rv => EV.binF (EV.sub (EV.loc hn hm rv) EV.cint F.later fun s o i _ r q => item_F (k := 0) r q (by decide) rfl) (EV.sub (EV.loc hn hm rv) EV.cint F.later fun s o i _ r q => item_F (k := 1) r q (by decide) rfl) Bin.sub) F.later fun s v1 v2 _ r1 r2 => inI _ _ _ _ _ _ _ rm₁ r1 r2).mono fun v h _ p => Is.boolF p)) fun h10 b10 => ?_
      have eT : touches ws.length S.2 = (decide ((0 : Int) ∈ S.2.map (fun p => p.2)) && (decide ((0 : Int) ∈ S.2.map fun p => p.1 - p.2) && (decide (((ws.length : Nat) : Int) - 1 ∈ S.2.map (fun p => p.1)) && true))) := by
        unfold touches
        rw [Bool.and_true]
      refine X.cons (R1 := fun f h => match f with | .next => touches ws.length S.2 = false ∧ Bd (envOfC "_law_linked" (scopeOf (stAt 13)) s.heap.objs.size a code) BB [("left", .list la), ("size", .flat (.int ws.length))] [(la, S.1.map PT)] h | .ret v => Kp s.heap h ∧ F (.bool ans) v h | _ => False)
        (X.if (TV.and_cons (TV.bool b10.n) fun _ => TV.and_cons (TV.bool b10.n) fun _ => TV.and_cons (TV.cmp (EV.binF b10.n EV.cint Bin.sub) (EV.each rm₁ fst2 (fun p => p.1) (fun _ => rfl) (b10.nl (b10.li (ca, _) (.head _))) s36 fun C h₃ m₃ v p hn hm rv => EV.sub (EV.loc hn hm rv) EV.cint F.later fun s o i _ r q => item_F (k := 0) r q (by decide) rfl) F.later fun s v1 v2 _ r1 r2 => inI _ _ _ _ _ _ _ rm₁ r1 r2) fun _ => TV.and_nil) (fun h' kp hc => ?_) fun h' kp hc => ?_) ?_ ?_
      · rw [← eT] at hc
        rw [hc, if_pos rfl] at ek
        subst ek
        exact X.retL EV.cbool fun v h'' k p => ⟨fun c o e => k _ _ (kp _ _ (b10.kp c o (hB c o e))), p⟩
      · rw [← eT] at hc
        exact X.nil ⟨hc, ((b10.keep kp).sub (D' := [("left", .list la), ("size", .flat (.int ws.length))]) ⟨rfl, rfl, trivial⟩).fewer (.cons _ (List.Sublist.refl _))⟩
      · rintro h' ⟨hc, b'⟩
        rw [hc, if_neg (by decide)] at ek
        exact X.nil ⟨k, Nat.lt_succ_self _, S.1, by omega, ek, by omega, b'⟩
      · intro f h' hf r
        cases f with
        | next => exact absurd rfl hf
        | ret v => exact r
        | cont => exact r.elim
        | brk => exact r.elim
    · have : l = [] := by
        rw [decide_eq_false_iff_not, List.length_map] at hc
        exact List.length_eq_zero_iff.mp (by omega)
      subst this
      refine ⟨?_, fun c o e => kp _ _ (b.kp c o (hB c o e))⟩
      rw [ek]
      cases k <;> rfl
  · rintro h' ⟨e, kp⟩
    subst e
    exact X.retL EV.cbool fun v h'' k p => ⟨kp.trans k, p⟩
  · intro f h' hf r
    cases f with
    | next => exact absurd rfl hf
    | ret v => exact r
    | cont => exact r.elim
    | brk => exact r.elim
end
end Mine
end
section
open PySem PySem.Calls PyProof.Rows PySem.W
set_option linter.unusedVariables false
namespace Mine
open Float64 (mul add sub)
def rgbY (r g b : UInt64) : UInt64 := add (add (mul 0x3fd3333333333333 r) (mul 0x3fe2e147ae147ae1 g)) (mul 0x3fbc28f5c28f5c29 b)
def rgbI (r g b : UInt64) : UInt64 := sub (mul 0x3fe7ae147ae147ae (sub r (rgbY r g b))) (mul 0x3fd147ae147ae148 (sub b (rgbY r g b)))
def rgbQ (r g b : UInt64) : UInt64 := add (mul 0x3fdeb851eb851eb8 (sub r (rgbY r g b))) (mul 0x3fda3d70a3d70a3d (sub b (rgbY r g b)))
def yiqR (y i q : UInt64) : UInt64 := add (add y (mul 0x3fee4cdbef721b32 i)) (mul 0x3fe3f42ceedac0be q)
def yiqG (y i q : UInt64) : UInt64 := sub (sub y (mul 0x3fd1961eec8cbb3a i)) (mul 0x3fe45794d16efff3 q)
def yiqB (y i q : UInt64) : UInt64 := add (sub y (mul 0x3ff1bc99b7dee436 i)) (mul 0x3ffb5817a6224a7f q)
def lo0 (x : UInt64) : UInt64 := if (Float64.cmp x 0 == some Ordering.lt) = true then 0 else x
def hi1 (x : UInt64) : UInt64 := if (Float64.cmp x 0x3ff0000000000000 == some Ordering.gt) = true then 0x3ff0000000000000 else x

section
variable {prog : Program} {w : World} {A : Around} {s : Shared} {mg mb : Str → Option Value} {env : Env} {h : Heap}
theorem Bin.fmul {a b : UInt64} : Bin prog w .Mult (.float a) (.float b) (.float (Float64.mul a b)) := by
  intro A s v1 v2 r1 r2
  cases r1; cases r2
  exact Ev.of fun _ _ h0 hQ => AutoFloatOps.mul_0 (hQ _ s.heap _ (Kp.refl _) (.float _ _ (Nat.ne_of_gt h0)))
theorem Bin.fadd {a b : UInt64} : Bin prog w .Add (.float a) (.float b) (.float (Float64.add a b)) := by
  intro A s v1 v2 r1 r2
  cases r1; cases r2
  exact Ev.of fun _ _ h0 hQ => AutoFloatOps.add_0 (hQ _ s.heap _ (Kp.refl _) (.float _ _ (Nat.ne_of_gt h0)))
theorem Bin.fsub {a b : UInt64} : Bin prog w .Sub (.float a) (.float b) (.float (Float64.sub a b)) := by
  intro A s v1 v2 r1 r2
  cases r1; cases r2
  exact Ev.of fun _ _ h0 hQ => AutoFloatOps.sub_0 (hQ _ s.heap _ (Kp.refl _) (.float _ _ (Nat.ne_of_gt h0)))
theorem Bin.imul {a : Int} {b : UInt64} (hi : ¬Float64.isInf (Float64.ofInt a) = true) : Bin prog w .Mult (.int a) (.float b) (.float (Float64.mul (Float64.ofInt a) b)) := by
  intro A s v1 v2 r1 r2
  cases r1; cases r2
  exact Ev.of fun _ _ h0 hQ => AutoFloatOps.mul_if_1 hi (hQ _ s.heap _ (Kp.refl _) (.float _ _ (Nat.ne_of_gt h0)))
theorem Bin.idiv {a : Int} {b : UInt64} (hi : ¬Float64.isInf (Float64.ofInt a) = true) (hz : ¬Float64.isZero b = true) : Bin prog w .Div (.int a) (.float b) (.float (Float64.div (Float64.ofInt a) b)) := by
  intro A s v1 v2 r1 r2
  cases r1; cases r2
  exact Ev.of fun _ _ h0 hQ => AutoFloatOps.truediv_if_2 hi hz (hQ _ s.heap _ (Kp.refl _) (.float _ _ (Nat.ne_of_gt h0)))
theorem three_ok (a b c : FV) : [a, b, c].length ≤ sizeLine := by rw [sizeLine_eq]; simp
end

section
variable {prog : Program} {w : World} {A : Around} {s : Shared} {mg mb : Str → Option Value} {env : Env} {h : Heap}
theorem rgb_to_yiq {x y z : UInt64} (rm : Rm A 4) (G : Gm mg mb s.heap) {a : Addr} (ha : mg "rgb_to_yiq" = some (.ref a)) {vs : List Value} (r : Fs [.float x, .float y, .float z] vs s.heap) :
    Ev prog w A s (call (.ref a) vs) (F (.tup [.float (rgbY x y z), .float (rgbI x y z), .float (rgbQ x y z)])) := by
  obtain ⟨a', o, pm, code, doc, e1, e2, e3, e4⟩ := G.rgb
  rw [ha] at e1
  cases e1
  cases r with
  | @cons v1 _ _ _ r1 r => cases r with
    | @cons v2 _ _ _ r2 r => cases r with
      | @cons v3 _ _ _ r3 r =>
        cases r
        refine Ev.callY (n := 3) ["r", "g", "b"] (Has.of (.cons r1 (.cons r2 (.cons r3 .nil)))) rm e2 e3 G.lim e4 fun h₁ kp₁ rm₁ b => ?_
        refine X.seq (X.assign b (EV.binF (EV.binF (EV.binF EV.cfloat b.n Bin.fmul) (EV.binF EV.cfloat b.n Bin.fmul) Bin.fadd) (EV.binF EV.cfloat b.n Bin.fmul) Bin.fadd)) fun h₂ b₂ => ?_
        refine X.seq (X.assign b₂ (EV.binF (EV.binF EV.cfloat (EV.binF b₂.n b₂.n Bin.fsub) Bin.fmul) (EV.binF EV.cfloat (EV.binF b₂.n b₂.n Bin.fsub) Bin.fmul) Bin.fsub)) fun h₃ b₃ => ?_
        refine X.seq (X.assign b₃ (EV.binF (EV.binF EV.cfloat (EV.binF b₃.n b₃.n Bin.fsub) Bin.fmul) (EV.binF EV.cfloat (EV.binF b₃.n b₃.n Bin.fsub) Bin.fmul) Bin.fadd)) fun h₄ b₄ => ?_
        exact X.retL (EV.tup (AV.consF b₄.n (AV.consF b₄.n (AV.consF b₄.n AV.nilF))) (three_ok _ _ _)) fun v h' kp p => ⟨fun c o e => kp _ _ (b₄.kp c o e), p⟩
end
end Mine
end
section
open PySem PySem.Calls PyProof.Rows PySem.W PySem.SeqAt
set_option linter.unusedVariables false
namespace Mine
section
variable {prog : Program} {w : World} {A : Around} {s : Shared} {env : Env} {h : Heap} {n : Nat} {B : Addr → Obj → Prop} {D : List (Str × UInt64)} {T : List Str}
/-- a float expression: the heap stays, the value's token is below the next one -/
@[irreducible] def FF (prog : Program) (w : World) (A : Around) (env : Env) (h : Heap) (n : Nat) (b : Bool) (e : PySem.Expr) (x : UInt64) : Prop :=
  ∀ s : Shared, s.heap = h → n ≤ s.toks → ∀ (Q : Value → Shared → Prop) (E : Value → Shared → Prop), (∀ t k, t ≠ 0 → (b = true → t < k) → s.toks ≤ k → Q (.float x t) { s with toks := k }) → wpAny (model prog w) A (eval e env) Q E s
theorem FF.const {x : UInt64} {k : Nat} {p : Pos} (h0 : 0 < n) : FF prog w A env h n true (.Constant (.float x) k p) x := by with_unfolding_all exact (fun s hs hn Q E hQ =>
  AutoFloatOps.wpAny_Constant_float (hQ s.toks (s.toks + 1) (by omega) (fun _ => Nat.lt_succ_self _) (Nat.le_succ _)))

theorem FF.bin {op : Operator} {e1 e2 : PySem.Expr} {p : Pos} {x y z : UInt64} {b1 b2 : Bool} (h0 : 0 < n) (a : FF prog w A env h n b1 e1 x) (b : FF prog w A env h n b2 e2 y)
    (c : ∀ (s : Shared) t u (Q : Value → Shared → Prop) (E : Value → Shared → Prop), Q (.float z s.toks) { s with toks := s.toks + 1 } → wpAny (model prog w) A (binaryOp op (.float x t) (.float y u)) Q E s) : FF prog w A env h n true (.BinOp e1 op e2 p) z := by with_unfolding_all
  intro s hs hn Q E hQ
  refine wpAny_BinOp (a s hs hn _ E fun t k t0 _ hk => b { s with toks := k } hs (Nat.le_trans hn hk) _ E fun u k' u0 _ hk' => c { s with toks := k' } t u Q E ?_)
  have hk'' : k ≤ k' := hk'
  exact hQ k' (k' + 1) (by omega) (fun _ => Nat.lt_succ_self _) (by omega)
/-- the names hold floats; those of T below n -/
structure FB (env : Env) (B : Addr → Obj → Prop) (D : List (Str × UInt64)) (T : List Str) (h : Heap) (n : Nat) : Prop where
  kp : ∀ a o, B a o → h.get? a = some o
  fl : ∀ o, ¬ B env.locals o
  n0 : 0 < n
  ns : ∃ m, h.Ns env.locals m ∧ ∀ x d, D.lookup x = some d → ∃ t, m x = some (.float d t) ∧ t ≠ 0 ∧ (T.contains x = true → t < n)
theorem FB.n' {x : Str} {d : UInt64} {p : Pos} (b : FB env B D T h n) (e : D.lookup x = some d := by rfl) (hk : env.scope.kind = .function := by rfl) (hl : env.kindOf x = some .local := by rfl) (hd : (x == ("__debug__" : Str)) = false := by decide) :
    FF prog w A env h n (T.contains x) (.Name x p) d := by with_unfolding_all
  intro s hs hn Q E hQ
  obtain ⟨m, ns, q⟩ := b.ns
  obtain ⟨t, e1, e2, e3⟩ := q x d e
  exact wpAny_Name (wpAny_loadName_local hk hl (hs ▸ ns) e1 (hQ t s.toks e2 (fun z => Nat.lt_of_lt_of_le (e3 z) hn) (Nat.le_refl _))) hd
@[irreducible] def XT (prog : Program) (w : World) (A : Around) (h : Heap) (n : Nat) (c : Sem Flow) (R : Flow → Heap → Nat → Prop) : Prop :=
  ∀ s : Shared, s.heap = h → n ≤ s.toks → ∀ (Q : Flow → Shared → Prop) (E : Value → Shared → Prop), (∀ f h' k, n ≤ k → R f h' k → Q f { s with heap := h', toks := k }) → wpAny (model prog w) A c Q E s
theorem XT.assign {x : Str} {p pos : Pos} {e : PySem.Expr} {d : UInt64} {rest : List Stmt} {R : Flow → Heap → Nat → Prop} (b : FB env B D T h n) (a : FF prog w A env h n true e d)
    (k : ∀ h' n', FB env B ((x, d) :: D) (x :: T) h' n' → XT prog w A h' n' (execs rest env) R) (hx : env.kindOf x = some .local := by rfl)
    (hp : (env.scope.kind == .class || (env.scope.kind == .module && env.locals != env.globals)) = false := by rfl)
    (hsw : swapsWith e (some (.Name x p)) pos.line env = Pure.pure false := by rfl) : XT prog w A h n (execs (.Assign [.Name x p] e pos :: rest) env) R := by with_unfolding_all
  rintro s rfl hn Q E hQ
  refine wpAny_execs_cons (wpAny_Assign_Name (a s rfl hn _ E fun t k' t0 ht hk => ?_) hsw)
  obtain ⟨m, ns, q⟩ := b.ns
  refine wpAny_storeName_local hx ns (fun h₂ hn₂ hs₂ => ?_) hp
  have b' : FB env B ((x, d) :: D) (x :: T) h₂ (k' + 1) := by
    refine ⟨fun c o e => hs₂.extBut c o (fun z => b.fl o (z ▸ e)) (b.kp c o e), b.fl, Nat.succ_pos _, _, hn₂, fun y c e => ?_⟩
    rw [List.lookup_cons] at e
    cases z : (y == x) with
    | true =>
      rw [z] at e
      cases e
      exact ⟨t, by rw [if_pos (eq_of_beq z)], t0, fun _ => Nat.lt_succ_of_lt (ht rfl)⟩
    | false =>
      rw [z] at e
      obtain ⟨u, e1, e2, e3⟩ := q y c e
      refine ⟨u, by rw [if_neg (fun z' => by simp [z'] at z)]; exact e1, e2, fun zz => ?_⟩
      have : T.contains y = true := by
        rw [List.contains_cons, z, Bool.false_or] at zz
        exact zz
      exact Nat.lt_succ_of_lt (Nat.lt_of_lt_of_le (e3 this) (Nat.le_trans hn hk))
  exact k h₂ (k' + 1) b' { s with heap := h₂, toks := k' + 1 } rfl (Nat.le_refl _) Q E fun f h' k'' hk'' r => hQ f h' k'' (by omega) r
/-- if x < c: x = c -/
theorem XT.clamp {op : CmpOp} {x : Str} {p1 p2 p3 p4 pos apos cpos : Pos} {k1 k2 : Nat} {d c : UInt64} {t : Bool} {rest : List Stmt} {R : Flow → Heap → Nat → Prop} (b : FB env B D T h n) (e : D.lookup x = some d)
    (hc : ∀ (s : Shared) t' u (Q : Value → Shared → Prop) (E : Value → Shared → Prop), Q (.bool t) s → wpAny (model prog w) A (compareOp op (.float d t') (.float c u)) Q E s)
    (k : ∀ h' n', FB env B ((x, if t = true then c else d) :: D) T h' n' → XT prog w A h' n' (execs rest env) R) (hT : T.contains x = true := by rfl) (hk : env.scope.kind = .function := by rfl) (hx : env.kindOf x = some .local := by rfl) (hd : (x == ("__debug__" : Str)) = false := by decide)
    (hp : (env.scope.kind == .class || (env.scope.kind == .module && env.locals != env.globals)) = false := by rfl)
    (hsw : swapsWith (.Constant (.float c) k2 p4) (some (.Name x p3)) apos.line env = Pure.pure false := by rfl)
    (hm : behindInMarks op (.Constant (.float c) k1 p2) = false := by with_unfolding_all rfl) :
    XT prog w A h n (execs (.If (.Compare (.Name x p1) [op] [.Constant (.float c) k1 p2] cpos) [.Assign [.Name x p3] (.Constant (.float c) k2 p4) apos] [] pos :: rest) env) R := by with_unfolding_all
  rintro s rfl hn Q E hQ
  refine wpAny_execs_cons (wpAny_If (wpAny_isTrue_Compare1 ((b.n' (prog := prog) (w := w) (A := A) e hk hx hd) s rfl hn _ E fun t1 k1 t10 _ hk1 => FF.const (prog := prog) (w := w) (A := A) (env := env) (h := s.heap) b.n0 { s with toks := k1 } rfl (Nat.le_trans hn hk1) _ E fun t2 k2 t20 _ hk2 => hc _ _ _ _ _ (wpAny_truthy_bool ?_)) hm))
  have hk12 : k1 ≤ k2 := hk2
  cases t with
  | true =>
    refine XT.assign (prog := prog) (w := w) (A := A) (R := fun f h' n' => f = .next ∧ FB env B ((x, c) :: D) T h' n') (n := n) b (FF.const b.n0) (fun h' n' b' => ?_) hx hp hsw { s with toks := k2 } rfl (by show n ≤ k2; omega) _ _ (fun f h' k' hk' r => ?_)
    · rintro s' rfl hn' Q' E' hQ'
      refine wpAny_execs_nil (hQ' .next s'.heap s'.toks hn' ⟨rfl, ?_⟩)
      refine ⟨b'.kp, b'.fl, Nat.lt_of_lt_of_le b'.n0 hn', ?_⟩
      obtain ⟨m, ns, q⟩ := b'.ns
      refine ⟨m, ns, fun y d' e' => ?_⟩
      obtain ⟨t, e1, e2, e3⟩ := q y d' e'
      refine ⟨t, e1, e2, fun z => Nat.lt_of_lt_of_le (e3 ?_) hn'⟩
      rw [List.contains_cons, z, Bool.or_true]
    · obtain ⟨rfl, b'⟩ := r
      exact k h' k' b' { s with heap := h', toks := k' } rfl (Nat.le_refl _) Q E fun f h'' k'' hk'' r' => hQ f h'' k'' (by omega) r'
  | false =>
    refine wpAny_execs_nil ?_
    have b' : FB env B ((x, if false = true then c else d) :: D) T s.heap n := by
      refine ⟨b.kp, b.fl, b.n0, ?_⟩
      obtain ⟨m, ns, q⟩ := b.ns
      refine ⟨m, ns, fun y d' e' => ?_⟩
      rw [List.lookup_cons] at e'
      cases z : (y == x) with
      | true =>
        rw [z] at e'
        cases e'
        rw [eq_of_beq z]
        exact q x d e
      | false => rw [z] at e'; exact q y d' e'
    exact k s.heap n b' { s with toks := k2 } rfl (by show n ≤ k2; omega) Q E fun f h'' k'' hk'' r' => hQ f h'' k'' hk'' r'
def F3 (x y z : UInt64) (v : Value) (h : Heap) (n : Nat) : Prop := ∃ a t1 t2 t3, v = .ref a ∧ h.get? a = some (tO [.float x t1, .float y t2, .float z t3]) ∧ (t1 ≠ 0 ∧ t1 < n) ∧ (t2 ≠ 0 ∧ t2 < n) ∧ (t3 ≠ 0 ∧ t3 < n)
theorem F3.later {x y z : UInt64} {v : Value} {h h' : Heap} {n n' : Nat} (f : F3 x y z v h n) (k : Kt h h') (hn : n ≤ n') : F3 x y z v h' n' :=
  let ⟨a, t1, t2, t3, e, g, a1, a2, a3⟩ := f; ⟨a, t1, t2, t3, e, k _ _ g, ⟨a1.1, Nat.lt_of_lt_of_le a1.2 hn⟩, ⟨a2.1, Nat.lt_of_lt_of_le a2.2 hn⟩, ⟨a3.1, Nat.lt_of_lt_of_le a3.2 hn⟩⟩
theorem XT.ret3 {x y z : Str} {p1 p2 p3 tp pos : Pos} {k : Nat} {d1 d2 d3 : UInt64} {R : Flow → Heap → Nat → Prop} (b : FB env B D T h n) (e1 : D.lookup x = some d1) (e2 : D.lookup y = some d2) (e3 : D.lookup z = some d3)
    (r : ∀ v h' n', Kp h h' → F3 d1 d2 d3 v h' n' → R (.ret v) h' n') (h1 : T.contains x = true := by rfl) (h2 : T.contains y = true := by rfl) (h3 : T.contains z = true := by rfl) (hk : env.scope.kind = .function := by rfl) (hx : env.kindOf x = some .local := by rfl) (hdx : (x == ("__debug__" : Str)) = false := by decide)
    (hy : env.kindOf y = some .local := by rfl) (hdy : (y == ("__debug__" : Str)) = false := by decide) (hz : env.kindOf z = some .local := by rfl) (hdz : (z == ("__debug__" : Str)) = false := by decide) 
    (he1 : starEach (.Name x p1 :: [.Name y p2, .Name z p3]) env = (false, eval (.Name x p1) env) :: starEach [.Name y p2, .Name z p3] env := by rfl)
    (he2 : starEach (.Name y p2 :: [.Name z p3]) env = (false, eval (.Name y p2) env) :: starEach [.Name z p3] env := by rfl)
    (he3 : starEach (.Name z p3 :: []) env = (false, eval (.Name z p3) env) :: starEach [] env := by rfl) :
    XT prog w A h n (execs [.Return (some (.Tuple [.Name x p1, .Name y p2, .Name z p3] k tp)) pos] env) R := by with_unfolding_all
  rintro s rfl hn Q E hQ
  refine wpAny_execs_cons (wpAny_Return_some (Tuple_ (args_cons ((b.n' (prog := prog) (w := w) (A := A) e1 hk hx hdx) s rfl hn _ E fun t1 k1 t10 t1n hk1 => args_cons ((b.n' (prog := prog) (w := w) (A := A) e2 hk hy hdy) { s with toks := k1 } rfl (by show n ≤ k1; omega) _ E fun t2 k2 t20 t2n hk2 =>
    args_cons ((b.n' (prog := prog) (w := w) (A := A) e3 hk hz hdz) { s with toks := k2 } rfl (by have : k1 ≤ k2 := hk2; show n ≤ k2; omega) _ E fun t3 k3 t30 t3n hk3 => args_nil ?_) he3) he2) he1)))
  have hk12 : k1 ≤ k2 := hk2
  have hk23 : k2 ≤ k3 := hk3
  unfold newTuple
  refine wpAny_newObj_type (hQ _ _ k3 (by omega) (r _ _ _ (Kp.push _ _) ⟨_, t1, t2, t3, rfl, Heap.get?_push_size _ rfl, ⟨t10, Nat.lt_of_lt_of_le (t1n h1) (Nat.le_trans hk12 hk23)⟩, ⟨t20, Nat.lt_of_lt_of_le (t2n h2) hk23⟩, ⟨t30, t3n h3⟩⟩)) ?_
  show ([Value.float d1 t1, .float d2 t2, .float d3 t3] : List Value).toArray.size ≤ sizeLine
  simp [sizeLine_eq]
end
section
variable {prog : Program} {w : World} {A : Around} {s : Shared} {mg mb : Str → Option Value} {env : Env} {h : Heap}
theorem yiq_body {n : Nat} {B : Addr → Obj → Prop} {x y z : UInt64} {L a : Addr} {cd : Value} {R : Flow → Heap → Nat → Prop} (b : FB (envOf "yiq_to_rgb" (scopeOf (stAt 3)) L a cd) B [("q", z), ("i", y), ("y", x)] [] h n)
    (r : ∀ v h' n', (∀ c o, B c o → h'.get? c = some o) → F3 (hi1 (lo0 (yiqR x y z))) (hi1 (lo0 (yiqG x y z))) (hi1 (lo0 (yiqB x y z))) v h' n' → R (.ret v) h' n') :
    XT prog w A h n (execs (bodyOf (stAt 3)) (envOf "yiq_to_rgb" (scopeOf (stAt 3)) L a cd)) R := by
  refine XT.assign b (FF.bin b.n0 (FF.bin b.n0 b.n' (FF.bin b.n0 (FF.const b.n0) b.n' fun s t u Q E q => AutoFloatOps.mul_0 q) fun s t u Q E q => AutoFloatOps.add_0 q) (FF.bin b.n0 (FF.const b.n0) b.n' fun s t u Q E q => AutoFloatOps.mul_0 q) fun s t u Q E q => AutoFloatOps.add_0 q) fun h1 n1 b1 => ?_
  refine XT.assign b1 (FF.bin b1.n0 (FF.bin b1.n0 b1.n' (FF.bin b1.n0 (FF.const b1.n0) b1.n' fun s t u Q E q => AutoFloatOps.mul_0 q) fun s t u Q E q => AutoFloatOps.sub_0 q) (FF.bin b1.n0 (FF.const b1.n0) b1.n' fun s t u Q E q => AutoFloatOps.mul_0 q) fun s t u Q E q => AutoFloatOps.sub_0 q) fun h2 n2 b2 => ?_
  refine XT.assign b2 (FF.bin b2.n0 (FF.bin b2.n0 b2.n' (FF.bin b2.n0 (FF.const b2.n0) b2.n' fun s t u Q E q => AutoFloatOps.mul_0 q) fun s t u Q E q => AutoFloatOps.sub_0 q) (FF.bin b2.n0 (FF.const b2.n0) b2.n' fun s t u Q E q => AutoFloatOps.mul_0 q) fun s t u Q E q => AutoFloatOps.add_0 q) fun h3 n3 b3 => ?_
  refine XT.clamp b3 (d := yiqR x y z) rfl (fun s t u Q E q => AutoFloatOps.lt_0 q) fun h4 n4 b4 => ?_
  refine XT.clamp b4 (d := yiqG x y z) rfl (fun s t u Q E q => AutoFloatOps.lt_0 q) fun h5 n5 b5 => ?_
  refine XT.clamp b5 (d := yiqB x y z) rfl (fun s t u Q E q => AutoFloatOps.lt_0 q) fun h6 n6 b6 => ?_
  refine XT.clamp b6 (d := lo0 (yiqR x y z)) rfl (fun s t u Q E q => AutoFloatOps.gt_0 q) fun h7 n7 b7 => ?_
  refine XT.clamp b7 (d := lo0 (yiqG x y z)) rfl (fun s t u Q E q => AutoFloatOps.gt_0 q) fun h8 n8 b8 => ?_
  refine XT.clamp b8 (d := lo0 (yiqB x y z)) rfl (fun s t u Q E q => AutoFloatOps.gt_0 q) fun h9 n9 b9 => ?_
  exact XT.ret3 b9 (d1 := hi1 (lo0 (yiqR x y z))) (d2 := hi1 (lo0 (yiqG x y z))) (d3 := hi1 (lo0 (yiqB x y z))) rfl rfl rfl fun v h' n' kp f => r v h' n' (fun c o e => kp _ _ (b9.kp c o e)) f
end
section
variable {prog : Program} {w : World} {A : Around} {s : Shared} {mg mb : Str → Option Value} {env : Env} {h : Heap}
theorem yiq_to_rgb {x y z : UInt64} (rm : Rm A 4) (G : Gm mg mb s.heap) {a : Addr} (ha : mg "yiq_to_rgb" = some (.ref a)) {vs : List Value} (r : Fs [.float x, .float y, .float z] vs s.heap) (h0 : 0 < s.toks)
    {Q : Value → Shared → Prop} {E : Value → Shared → Prop} (hQ : ∀ v h k, Kp s.heap h → 0 < k → F3 (hi1 (lo0 (yiqR x y z))) (hi1 (lo0 (yiqG x y z))) (hi1 (lo0 (yiqB x y z))) v h k → Q v { s with heap := h, toks := k }) :
    wpAny (model prog w) A (call (.ref a) vs) Q E s := by with_unfolding_all
  obtain ⟨a', o, pm, code, doc, e1, e2, e3, e4⟩ := G.yiq
  rw [ha] at e1
  cases e1
  cases r with
  | @cons v1 _ _ _ r1 r => cases r with
    | @cons v2 _ _ _ r2 r => cases r with
      | @cons v3 _ _ _ r3 r =>
        cases r
        cases r1 with
        | float _ t1 n1 => cases r2 with
          | float _ t2 n2 => cases r3 with
            | float _ t3 n3 =>
              refine wpAny_call (call_pos_ret rm.room e2 e3 G.lim e4 (by rfl) (fun p hp => ?_) (fun h₁ Fh => ?_) rfl rfl rfl (by decide))
              · have hp' : p ∈ [(("y" : Str), Value.float x t1), ("i", .float y t2), ("q", .float z t3)] := hp
                rcases List.mem_cons.mp hp' with rfl | hp'
                · rfl
                · rcases List.mem_cons.mp hp' with rfl | hp'
                  · rfl
                  · rw [List.mem_singleton.mp hp']; rfl
              · have b : FB (envOf "yiq_to_rgb" (scopeOf (stAt 3)) s.heap.objs.size a code) (HB s.heap) [("q", z), ("i", y), ("y", x)] [] h₁ 1 := by
                  refine ⟨Fh.keep, fun o e => absurd (Heap.lt_size e) (Nat.lt_irrefl _), Nat.one_pos, _, Fh.ns, fun nm d e => ?_⟩
                  have key : ([(("q" : Str), Value.float z t3), ("i", .float y t2), ("y", .float x t1)] : List (Str × Value)).lookup nm = ([(("q" : Str), (z, t3)), ("i", (y, t2)), ("y", (x, t1))].lookup nm).map fun p => Value.float p.1 p.2 := by
                    simp only [List.lookup_cons, List.lookup_nil]
                    cases (nm == ("q" : Str)) <;> cases (nm == ("i" : Str)) <;> cases (nm == ("y" : Str)) <;> rfl
                  have key2 : ([(("q" : Str), z), ("i", y), ("y", x)] : List (Str × UInt64)).lookup nm = ([(("q" : Str), (z, t3)), ("i", (y, t2)), ("y", (x, t1))].lookup nm).map fun p => p.1 := by
                    simp only [List.lookup_cons, List.lookup_nil]
                    cases (nm == ("q" : Str)) <;> cases (nm == ("i" : Str)) <;> cases (nm == ("y" : Str)) <;> rfl
                  have nz : ∀ p, [(("q" : Str), (z, t3)), ("i", (y, t2)), ("y", (x, t1))].lookup nm = some p → p.2 ≠ 0 := by
                    intro p
                    simp only [List.lookup_cons, List.lookup_nil]
                    cases (nm == ("q" : Str)) <;> cases (nm == ("i" : Str)) <;> cases (nm == ("y" : Str)) <;> intro e <;> cases e <;> assumption
                  rw [key2] at e
                  cases q : [(("q" : Str), (z, t3)), ("i", (y, t2)), ("y", (x, t1))].lookup nm with
                  | none => rw [q] at e; cases e
                  | some p =>
                    rw [q] at e
                    cases e
                    refine ⟨p.2, ?_, nz p q, fun z => by simp at z⟩
                    exact key.trans (by rw [q]; rfl)
                exact yiq_body b (R := fun f h' k => Kp s.heap h' ∧ F3 (hi1 (lo0 (yiqR x y z))) (hi1 (lo0 (yiqG x y z))) (hi1 (lo0 (yiqB x y z))) (match f with | .ret v => v | _ => .none) h' k) (fun v h' n' kp f => ⟨kp, f⟩) { s with heap := h₁, toks := s.toks + _ } rfl (Nat.le_trans h0 (Nat.le_add_right _ _)) _ _ fun f h' k hk r => hQ _ h' k r.1 (Nat.lt_of_lt_of_le Nat.one_pos hk) r.2
end
end Mine
end
section
open PySem PySem.Calls PyProof.Rows PySem.W PySem.SeqAt
set_option linter.unusedVariables false
namespace Mine
abbrev cmpOk (x c : UInt64) : Prop := (Float64.cmp x c == some Ordering.eq) = (x == c)
section
variable {prog : Program} {w : World} {A : Around} {s : Shared} {mg mb : Str → Option Value} {env : Env} {h : Heap} {B : Addr → Obj → Prop} {D : List (Str × Lv)} {L : List (Addr × List FV)}
/-- seen == (c1, c2, c3) -/
theorem seen_eq {n m : Nat} (rm : Rm A (m + 1)) {x y z c1 c2 c3 : UInt64} {a : Addr} {p1 q1 q2 q3 tp cp : Pos} {k1 k2 k3 kk : Nat} {whole : Sem Value} (nt : NT s.heap) (b : Bd env B D L s.heap) (f : F3 x y z (.ref a) s.heap n) (hn : n ≤ s.toks) (h0 : 0 < s.toks)
    (o1 : cmpOk x c1) (o2 : cmpOk y c2) (o3 : cmpOk z c3)
    {Q : Bool → Shared → Prop} {E : Value → Shared → Prop} (hQ : ∀ h' k', Kp s.heap h' → s.toks ≤ k' → Q (x == c1 && (y == c2 && z == c3)) { s with heap := h', toks := k' })
    (en : D.lookup ("seen" : Str) = some (.list a) := by rfl) (hk : env.scope.kind = .function := by rfl) (hl : env.kindOf "seen" = some .local := by rfl) :
    wpAny (model prog w) A (isTrue (.Compare (.Name "seen" p1) [.Eq] [.Tuple [.Constant (.float c1) k1 q1, .Constant (.float c2) k2 q2, .Constant (.float c3) k3 q3] kk tp] cp) env whole) Q E s := by
  obtain ⟨a', t1, t2, t3, ea, g, ⟨z1, l1⟩, ⟨z2, l2⟩, ⟨z3, l3⟩⟩ := f
  cases ea
  obtain ⟨m', ns, q⟩ := b.ns
  obtain ⟨v, ev1, ev2⟩ := q "seen" _ en
  cases ev2
  refine wpAny_isTrue_Compare1 (wpAny_Name (wpAny_loadName_local hk hl ns ev1 ?_) (by decide)) (by with_unfolding_all rfl)
  refine Tuple_ (args_cons (AutoFloatOps.wpAny_Constant_float (args_cons (AutoFloatOps.wpAny_Constant_float (args_cons (AutoFloatOps.wpAny_Constant_float (args_nil ?_)) (by rfl))) (by rfl))) (by rfl))
  unfold newTuple
  refine wpAny_newObj_type ?_ (by show ([Value.float c1 _, .float c2 _, .float c3 _] : List Value).toArray.size ≤ sizeLine; simp [sizeLine_eq])
  have kp : Kp s.heap (s.heap.push { cls := .type "tuple", dict := none, data := .seq ([Value.float c1 s.toks, .float c2 (s.toks + 1), .float c3 (s.toks + 1 + 1)] : List Value).toArray }) := Kp.push _ _
  have T1 := tO_tuple (kp _ _ g)
  have T2 := tO_tuple (vs := [Value.float c1 s.toks, .float c2 (s.toks + 1), .float c3 (s.toks + 1 + 1)]) (Heap.get?_push_size (o := tO [Value.float c1 s.toks, .float c2 (s.toks + 1), .float c3 (s.toks + 1 + 1)]) s.heap rfl)
  have nt' := nt.kp kp
  refine eq_tupleAt (s := { s with heap := _, toks := _ }) (e := fun j => match j with | 0 => x == c1 | 1 => y == c2 | _ => z == c3) T1 T2 rm.units (fun j h1 h2 => ?_) ?_
  · match j, h1, h2 with
    | 0, _, _ => exact eqAt_float nt' z1 (Nat.ne_of_gt h0) (Nat.ne_of_lt (Nat.lt_of_lt_of_le l1 hn)) o1
    | 1, _, _ => exact eqAt_float nt' z2 (Nat.succ_ne_zero _) (Nat.ne_of_lt (Nat.lt_of_lt_of_le l2 (Nat.le_trans hn (Nat.le_succ _)))) o2
    | 2, _, _ => exact eqAt_float nt' z3 (Nat.succ_ne_zero _) (Nat.ne_of_lt (Nat.lt_of_lt_of_le l3 (Nat.le_trans hn (Nat.le_trans (Nat.le_succ _) (Nat.le_succ _))))) o3
    | j + 3, h1, _ => exact absurd h1 (by simp)
  · refine wpAny_truthy_bool ?_
    have := hQ _ (s.toks + 1 + 1 + 1) kp (by omega)
    have e : ((List.range (min ([Value.float x t1, .float y t2, .float z t3] : List Value).toArray.size ([Value.float c1 s.toks, .float c2 (s.toks + 1), .float c3 (s.toks + 1 + 1)] : List Value).toArray.size)).all (fun j => match j with | 0 => x == c1 | 1 => y == c2 | _ => z == c3) && ([Value.float x t1, .float y t2, .float z t3] : List Value).toArray.size == ([Value.float c1 s.toks, .float c2 (s.toks + 1), .float c3 (s.toks + 1 + 1)] : List Value).toArray.size) = (x == c1 && (y == c2 && z == c3)) := by
      show ((x == c1) && ((y == c2) && ((z == c3) && true)) && true) = _
      rw [Bool.and_true, Bool.and_true]
    rw [e]
    exact this
end
/-- the figures of one asking -/
structure Jd (reds others res : Int) : Prop where
  a1 : ¬Float64.isInf (Float64.ofInt reds) = true
  a2 : ¬Float64.isInf (Float64.ofInt others) = true
  a3 : ¬Float64.isInf (Float64.ofInt 80) = true
  a4 : ¬Float64.isInf (Float64.ofInt 16) = true
  a5 : ¬Float64.isZero 0x4020000000000000 = true
  ex : ∃ x y l w c sg m e r g b, x = Float64.div (Float64.ofInt reds) 0x4020000000000000 ∧ y = Float64.div (Float64.ofInt others) 0x4020000000000000 ∧ l = Float64.add (Float64.mul (Float64.ofInt 80) (rgbY x y y)) 0x3fe0000000000000 ∧
    Float64.decode l = .fin sg m e ∧ Float64.truncOf sg m e = 3 * reds + 7 * others ∧ w = Float64.mul (Float64.ofInt 16) (rgbI x y y) ∧ c = Float64.mul (Float64.ofInt 16) (rgbQ x y y) ∧
    r = hi1 (lo0 (yiqR 0x3fe0000000000000 w c)) ∧ g = hi1 (lo0 (yiqG 0x3fe0000000000000 w c)) ∧ b = hi1 (lo0 (yiqB 0x3fe0000000000000 w c)) ∧
    cmpOk r 0x3ff0000000000000 ∧ cmpOk r 0 ∧ cmpOk g 0x3ff0000000000000 ∧ cmpOk g 0 ∧ cmpOk b 0x3ff0000000000000 ∧ cmpOk b 0 ∧
    (((r == 0x3ff0000000000000 && (g == 0 && b == 0)) = true ∧ res = 1) ∨ ((r == 0x3ff0000000000000 && (g == 0 && b == 0)) = false ∧ (r == 0 && (g == 0x3ff0000000000000 && b == 0x3ff0000000000000)) = true ∧ res = 2))
section
variable {prog : Program} {w : World} {A : Around} {s : Shared} {mg mb : Str → Option Value}
theorem judged {reds others res : Int} (rm : Rm A 6) (G : Gm mg mb s.heap) {a : Addr} (ha : mg "_law_judged" = some (.ref a)) {vs : List Value} (r : Fs [.int reds, .int others] vs s.heap) (J : Jd reds others res) (h1 : reds.natAbs < 2 ^ 60) (h2 : others.natAbs < 2 ^ 60) :
    Ev prog w A s (call (.ref a) vs) (F (.int res)) := by with_unfolding_all
  obtain ⟨a', o, pm, code, doc, e1, e2, e3, e4⟩ := G.jd
  rw [ha] at e1
  cases e1
  obtain ⟨ra, ro, rpm, rcode, rdoc, re1, re2, re3, re4⟩ := id G.rgb
  obtain ⟨ya, yo, ypm, ycode, ydoc, ye1, ye2, ye3, ye4⟩ := id G.yiq
  obtain ⟨a1, a2, a3, a4, a5, fx, fy, fl, fw, fc, sg, fm, fe, fr, fg, fb, ex, ey, el, ed, et, ew, ec, er, eg, eb, q1, q2, q3, q4, q5, q6, kk⟩ := J
  cases r with
  | @cons v1 _ _ _ r1 r => cases r with
    | @cons v2 _ _ _ r2 r =>
      cases r
      refine Ev.callY (n := 5) ["reds", "others"] (Has.of (.cons r1 (.cons r2 .nil))) rm e2 e3 G.lim e4 fun h₁ kp₁ rm₁ b => ?_
      have G₁ := G.kp kp₁
      refine X.seq (X.unpack3 rm₁ b (EV.callD (G₁.gl re1) (kp₁ _ _ re2) re3 (AV.consF (EV.binF b.n EV.cfloat (Bin.idiv a1 a5)) (AV.consF (EV.binF b.n EV.cfloat (Bin.idiv a2 a5)) (AV.consF (EV.binF b.n EV.cfloat (Bin.idiv a2 a5)) AV.nilF))) fun s vs kp r => rgb_to_yiq (rm₁.less (by omega)) (G₁.kp kp) re1 r)) fun h₂ b₂ => ?_
      rw [← ex, ← ey] at b₂
      have kp₂ := b₂.kp
      have G₂ := G.kp kp₂
      refine X.seq (P := fun h' => Kp h₂ h') (X.if (TV.cmpF (EV.callT (G₂.bi G.no.1) (AV.consF (EV.binF (EV.binF EV.cint b₂.n (Bin.imul a3)) EV.cfloat Bin.fadd) AV.nilF) fun s vs _ r => Fn.intF (by rw [← el]; exact ed) r) (EV.binF (EV.binF EV.cint b₂.n (Bin.mul (mulOk (by decide)))) (EV.binF EV.cint b₂.n (Bin.mul (mulOk (by decide)))) Bin.add) Cm.ne)
        (fun h' kp hc => ?_) fun h' kp hc => X.nil ⟨rfl, kp⟩) fun h₃ kp₃ => ?_
      · rw [et] at hc
        simp at hc
      · have b₃ := b₂.keep kp₃
        have G₃ := G.kp b₃.kp
        rintro s' rfl Q E hQ h0
        have hL : LV prog w (A.deeper (envOf "_law_judged" (scopeOf (stAt 14)) s.heap.objs.size a code)) (envOf "_law_judged" (scopeOf (stAt 14)) s.heap.objs.size a code) s'.heap "yiq_to_rgb" (Is (.ref ya)) := G₃.gl ye1
        refine wpAny_execs_cons (wpAny_Assign_Name (Call_Name rfl (wpAny_Name (hL s' (Kp.refl _) _ E (fun v h4 k4 kp4 t4 p4 => ?_) h0) (by decide))) (by rfl))
        cases p4
        have b₄ := b₃.keep kp4
        refine callWith_def (o := yo) ye3 ((AV.consF EV.cfloat (AV.consF (EV.binF EV.cint b₄.n (Bin.imul a4)) (AV.consF (EV.binF EV.cint b₄.n (Bin.imul a4)) AV.nilF))) { s' with heap := h4, toks := k4 } (Kp.refl _) _ E (fun vs h5 k5 kp5 t5 p5 => ⟨kp5 _ _ (kp4 _ _ (b₃.kp _ _ ye2)), ?_⟩) t4) (by rfl)
        have b₅ := b₄.keep kp5
        refine yiq_to_rgb (s := { s' with heap := h5, toks := k5 }) (rm₁.less (by omega)) (G.kp b₅.kp) ye1 p5 t5 fun v h6 k6 kp6 t6 f6 => ?_
        rw [← ew, ← ec, ← er, ← eg, ← eb] at f6
        obtain ⟨sa, t1, t2, t3, rfl, g6, f6'⟩ := f6
        have b₆ := b₅.keep kp6
        obtain ⟨m, ns, q⟩ := b₆.ns
        refine wpAny_storeName_local (by rfl) ns (fun h7 hn7 hs7 => ?_) (by rfl)
        have kx7 : Kx [(envOf "_law_judged" (scopeOf (stAt 14)) s.heap.objs.size a code).locals] h6 h7 := Kx.of_same hs7 (by simp)
        have kt7 : Kt h6 h7 := kx7.kt (NoTup.cons (Ns.noTup ns) NoTup.nil)
        have b₇ := b₆.store (d := .list sa) ns q rfl kx7 hn7
        have f7 : F3 fr fg fb (.ref sa) h7 k6 := ⟨sa, t1, t2, t3, rfl, kt7 _ _ g6, f6'⟩
        have G₇ := G.kp b₇.kp
        show wpAny _ _ (execs _ _) _ _ _
        refine wpAny_execs_cons (wpAny_If (seen_eq (s := { s' with heap := h7, toks := k6 + 1 }) (rm₁) G₇.nt b₇ f7 (Nat.le_succ _) (Nat.succ_pos _) q1 q4 q6 fun h8 k8 kp8 hk8 => ?_))
        have b₈ := b₇.keep kp8
        have hk8' : k6 + 1 ≤ k8 := hk8
        rcases kk with ⟨kt, rfl⟩ | ⟨kf, kt, rfl⟩
        · rw [kt, if_pos rfl]
          refine wpAny_execs_cons (wpAny_Return_some (wpAny_Constant_int ?_))
          exact hQ (.ret _) h8 _ (Nat.succ_pos _) ⟨b₈.kp, Rf.int _ _⟩
        · rw [kf, if_neg (by decide)]
          refine wpAny_execs_nil ?_
          have f8 : F3 fr fg fb (.ref sa) h8 k6 := f7.later (Kp.toT kp8) (Nat.le_refl _)
          refine wpAny_execs_cons (wpAny_If (seen_eq (s := { s' with heap := h8, toks := k8 }) (rm₁) (G.kp b₈.kp).nt b₈ f8 (by show k6 ≤ k8; omega) (by show 0 < k8; omega) q2 q3 q5 fun h9 k9 kp9 hk9 => ?_))
          have hk9' : k8 ≤ k9 := hk9
          have b₉ := b₈.keep kp9
          rw [kt, if_pos rfl]
          refine wpAny_execs_cons (wpAny_Return_some (wpAny_Constant_int ?_))
          exact hQ (.ret _) h9 _ (Nat.succ_pos _) ⟨b₉.kp, Rf.int _ _⟩
end
end Mine
end
section
open PySem PySem.Calls PyProof.Rows PySem.W
set_option linter.unusedVariables false
set_option maxRecDepth 100000
namespace Mine
def jx (k : Int) : UInt64 := Float64.div (Float64.ofInt k) 0x4020000000000000
def jl (r o : Int) : UInt64 := Float64.add (Float64.mul (Float64.ofInt 80) (rgbY (jx r) (jx o) (jx o))) 0x3fe0000000000000
def jw (r o : Int) : UInt64 := Float64.mul (Float64.ofInt 16) (rgbI (jx r) (jx o) (jx o))
def jc (r o : Int) : UInt64 := Float64.mul (Float64.ofInt 16) (rgbQ (jx r) (jx o) (jx o))
def jr (r o : Int) : UInt64 := hi1 (lo0 (yiqR 0x3fe0000000000000 (jw r o) (jc r o)))
def jg (r o : Int) : UInt64 := hi1 (lo0 (yiqG 0x3fe0000000000000 (jw r o) (jc r o)))
def jb (r o : Int) : UInt64 := hi1 (lo0 (yiqB 0x3fe0000000000000 (jw r o) (jc r o)))
def decOk (r o : Int) : Bool := match Float64.decode (jl r o) with | .fin sg m e => Float64.truncOf sg m e == 3 * r + 7 * o | _ => false
def allOk (r o res : Int) : Bool :=
  !Float64.isInf (Float64.ofInt r) && !Float64.isInf (Float64.ofInt o) && decOk r o &&
  decide (cmpOk (jr r o) 0x3ff0000000000000) && decide (cmpOk (jr r o) 0) && decide (cmpOk (jg r o) 0x3ff0000000000000) && decide (cmpOk (jg r o) 0) && decide (cmpOk (jb r o) 0x3ff0000000000000) && decide (cmpOk (jb r o) 0) &&
  (((jr r o == 0x3ff0000000000000 && (jg r o == 0 && jb r o == 0)) && res == 1) || (!(jr r o == 0x3ff0000000000000 && (jg r o == 0 && jb r o == 0)) && (jr r o == 0 && (jg r o == 0x3ff0000000000000 && jb r o == 0x3ff0000000000000)) && res == 2))
theorem b80 : (!Float64.isInf (Float64.ofInt 80) && !Float64.isInf (Float64.ofInt 16) && !Float64.isZero 0x4020000000000000) = true := by decide +kernel
theorem Jd.of {r o res : Int} (h : allOk r o res = true) : Jd r o res := by
  have hb := b80
  simp only [Bool.and_eq_true, Bool.not_eq_true'] at hb
  unfold allOk at h
  simp only [Bool.and_eq_true, decide_eq_true_eq, Bool.not_eq_true'] at h
  obtain ⟨⟨⟨⟨⟨⟨⟨⟨⟨h1, h2⟩, h3⟩, c1⟩, c2⟩, c3⟩, c4⟩, c5⟩, c6⟩, h4⟩ := h
  unfold decOk at h3
  cases hd : Float64.decode (jl r o) with
  | fin sg m e =>
    rw [hd] at h3
    refine ⟨by simp [h1], by simp [h2], by simp [hb.1.1], by simp [hb.1.2], by simp [hb.2], jx r, jx o, jl r o, jw r o, jc r o, sg, m, e, jr r o, jg r o, jb r o, rfl, rfl, rfl, hd, by simpa using h3, rfl, rfl, rfl, rfl, rfl, c1, c2, c3, c4, c5, c6, ?_⟩
    rcases Bool.or_eq_true _ _ |>.mp h4 with q | q
    · rw [Bool.and_eq_true] at q
      exact .inl ⟨q.1, by simpa using q.2⟩
    · rw [Bool.and_eq_true, Bool.and_eq_true] at q
      exact .inr ⟨by have := q.1.1; rwa [Bool.not_eq_true'] at this, q.1.2, by simpa using q.2⟩
  | _ => rw [hd] at h3; simp at h3
theorem jd0 : Jd 0 6 2 := .of (by decide +kernel)
theorem jd1 : Jd 2 4 2 := .of (by decide +kernel)
theorem jd2 : Jd 4 2 1 := .of (by decide +kernel)
theorem jd3 : Jd 6 0 1 := .of (by decide +kernel)
end Mine
end
section
open PySem PySem.Calls
set_option linter.unusedVariables false
set_option maxRecDepth 100000
namespace Mine
def c1 : Array Nat := #[14, 4, 0, 1, 1, 6, 1, 16, 46, 1]
def A1 (text : Array Nat) (lim s : Nat) (first : Bool) (seen : Sre.Seen) (pc pos : Nat) (fr : List Sre.Frame) (wt : Nat) (ans : Option Bool) : Sre.M :=
  { code := c1, text, lim, start := s, lastStart := lim, pc, pos, handed := s, outermost := first, marks := #[], frames := fr, weight := wt, answer := ans, seen }
def f1 (s : Nat) (first : Bool) : Sre.Frame := { wait := .nextStart, pc := 5, pos := s, outermost := first }
theorem s1_at (text : Array Nat) (lim s : Nat) (first : Bool) (seen : Sre.Seen) : ((A1 text lim s first seen 5 s [f1 s first] 1 none).step) =
    if (s == 0 || text.getD (s - 1) 0 == 10) = true then A1 text lim s first ((seen.add 6).add 44) 7 s [f1 s first] 1 none else A1 text lim s first ((seen.add 6).add 44) 5 s [f1 s first] 1 (some false) := by
  kernel_rfl
theorem s1_lit (text : Array Nat) (lim s : Nat) (first : Bool) (seen : Sre.Seen) : ((A1 text lim s first seen 7 s [f1 s first] 1 none).step) =
    if s ≥ lim then A1 text lim s first (seen.add 16) 7 s [f1 s first] 1 (some false) else
    bif (text.getD s 0 == 46) then A1 text lim s first (seen.add 16) 9 (s + 1) [f1 s first] 1 none else A1 text lim s first (seen.add 16) 7 s [f1 s first] 1 (some false) := by
  kernel_rfl
theorem s1_ok (text : Array Nat) (lim s : Nat) (first : Bool) (seen : Sre.Seen) : (A1 text lim s first seen 9 (s + 1) [f1 s first] 1 none).step =
    { A1 text lim s first (seen.add 1) 9 (s + 1) [f1 s first] 1 (some true) with handed := s + 1 } := by
  cases first <;> kernel_rfl
theorem s1_no (text : Array Nat) (lim s : Nat) (first : Bool) (seen : Sre.Seen) (pc : Nat) : (A1 text lim s first seen pc s [f1 s first] 1 (some false)).step =
    if s < lim then A1 text lim (s + 1) false seen 5 (s + 1) [f1 (s + 1) false] 1 none else A1 text lim s first seen 5 s [] 0 (some false) := by
  kernel_rfl
theorem s1_end (text : Array Nat) (lim s : Nat) (first : Bool) (seen : Sre.Seen) : (A1 text lim s first seen 5 s [] 0 (some false)).step =
    { A1 text lim s first seen 5 s [] 0 (some false) with outcome := some .failed } := by
  kernel_rfl
theorem s1_yes (text : Array Nat) (lim s : Nat) (first : Bool) (seen : Sre.Seen) : ({ A1 text lim s first seen 9 (s + 1) [f1 s first] 1 (some true) with handed := s + 1 } : Sre.M).step.step =
    { A1 text lim s first seen 5 s [] 0 (some true) with handed := s + 1, outcome := some .matched } := by
  kernel_rfl
theorem s1_start (text : Array Nat) (lim s : Nat) : Sre.forSearch c1 text 0 s lim false = if (decide (s > lim) || decide (lim - s < 1)) = true then { A1 text lim s true (({} : Sre.Seen).add 14) 5 s [] 0 (some false) with lastStart := 0 } else A1 text lim s true (({} : Sre.Seen).add 14) 5 s [f1 s true] 1 none := by
  kernel_rfl
end Mine
namespace Mine
def c2 : Array Nat := #[14, 9, 4, 1, 2, 16, 10, 16, 13, 0, 7, 7, 16, 13, 16, 10, 15, 18, 5, 16, 10, 15, 13, 11, 16, 13, 5, 5, 0, 16, 10, 1, 15, 2, 0, 1]
def A2 (text : Array Nat) (lim s : Nat) (om : Bool) (seen : Sre.Seen) (pc pos hd : Nat) (fr : List Sre.Frame) (wt : Nat) (ans : Option Bool) : Sre.M :=
  { code := c2, text, lim, start := s, lastStart := lim, pc, pos, handed := hd, outermost := om, marks := #[], frames := fr, weight := wt, answer := ans, seen }
def f2 (s : Nat) (first : Bool) : Sre.Frame := { wait := .nextStart, pc := 10, pos := s, outermost := first }
def fb (s : Nat) (first : Bool) (pc : Nat) : Sre.Frame := { wait := .nextBranch, pc, pos := s, outermost := first, kept := { lastmark := -1, lastindex := -1 } }
def fl (s : Nat) (first : Bool) : Sre.Frame := { wait := .lookNot, pc := 26, pos := s + 1, outermost := first, kept := { lastmark := -1, lastindex := -1 } }
section
variable (text : Array Nat) (lim s : Nat) (first : Bool) (seen : Sre.Seen)
theorem s2_set (c : Nat) : Sre.inSet c2 c 36 5 true seen = if (c == 10) = true then .ok (true, seen.add 16) else if (c == 13) = true then .ok (true, (seen.add 16).add 16) else .ok (false, ((seen.add 16).add 16).add 0) := by kernel_rfl
theorem s2_branch : (A2 text lim s first seen 10 s s [f2 s first] 1 none).step = A2 text lim s first (seen.add 7) 12 s s [fb s first 11, f2 s first] 2 none := by kernel_rfl
theorem s2_lit1 : (A2 text lim s first seen 12 s s [fb s first 11, f2 s first] 2 none).step = if s ≥ lim then A2 text lim s first (seen.add 16) 12 s s [fb s first 11, f2 s first] 2 (some false) else
    bif (text.getD s 0 == 13) then A2 text lim s first (seen.add 16) 14 (s + 1) s [fb s first 11, f2 s first] 2 none else A2 text lim s first (seen.add 16) 12 s s [fb s first 11, f2 s first] 2 (some false) := by kernel_rfl
theorem s2_lit2 : (A2 text lim s first seen 14 (s + 1) s [fb s first 11, f2 s first] 2 none).step = if s + 1 ≥ lim then A2 text lim s first (seen.add 16) 14 (s + 1) s [fb s first 11, f2 s first] 2 (some false) else
    bif (text.getD (s + 1) 0 == 10) then A2 text lim s first (seen.add 16) 16 (s + 2) s [fb s first 11, f2 s first] 2 none else A2 text lim s first (seen.add 16) 14 (s + 1) s [fb s first 11, f2 s first] 2 (some false) := by kernel_rfl
theorem s2_win1 : (A2 text lim s first seen 16 (s + 2) s [fb s first 11, f2 s first] 2 none).step.step.step.step.step = { A2 text lim s first ((seen.add 15).add 1) 10 s (s + 2) [] 0 (some true) with outcome := some .matched } := by cases first <;> kernel_rfl
theorem s2_alt2 (pc pos : Nat) : (A2 text lim s first seen pc pos s [fb s first 11, f2 s first] 2 (some false)).step = A2 text lim s first seen 19 s s [fb s first 18, f2 s first] 2 none := by kernel_rfl
theorem s2_lit3 : (A2 text lim s first seen 19 s s [fb s first 18, f2 s first] 2 none).step = if s ≥ lim then A2 text lim s first (seen.add 16) 19 s s [fb s first 18, f2 s first] 2 (some false) else
    bif (text.getD s 0 == 10) then A2 text lim s first (seen.add 16) 21 (s + 1) s [fb s first 18, f2 s first] 2 none else A2 text lim s first (seen.add 16) 19 s s [fb s first 18, f2 s first] 2 (some false) := by kernel_rfl
theorem s2_win2 : (A2 text lim s first seen 21 (s + 1) s [fb s first 18, f2 s first] 2 none).step.step.step.step.step = { A2 text lim s first ((seen.add 15).add 1) 10 s (s + 1) [] 0 (some true) with outcome := some .matched } := by cases first <;> kernel_rfl
theorem s2_alt3 (pc pos : Nat) : (A2 text lim s first seen pc pos s [fb s first 18, f2 s first] 2 (some false)).step = A2 text lim s first seen 24 s s [fb s first 23, f2 s first] 2 none := by kernel_rfl
theorem s2_lit4 : (A2 text lim s first seen 24 s s [fb s first 23, f2 s first] 2 none).step = if s ≥ lim then A2 text lim s first (seen.add 16) 24 s s [fb s first 23, f2 s first] 2 (some false) else
    bif (text.getD s 0 == 13) then A2 text lim s first (seen.add 16) 26 (s + 1) s [fb s first 23, f2 s first] 2 none else A2 text lim s first (seen.add 16) 24 s s [fb s first 23, f2 s first] 2 (some false) := by kernel_rfl
theorem s2_look : (A2 text lim s first seen 26 (s + 1) s [fb s first 23, f2 s first] 2 none).step = A2 text lim s false (seen.add 5) 29 (s + 1) (s + 1) [fl s first, fb s first 23, f2 s first] 3 none := by kernel_rfl
theorem s2_lit5 : (A2 text lim s false seen 29 (s + 1) (s + 1) [fl s first, fb s first 23, f2 s first] 3 none).step = if s + 1 ≥ lim then A2 text lim s false (seen.add 16) 29 (s + 1) (s + 1) [fl s first, fb s first 23, f2 s first] 3 (some false) else
    bif (text.getD (s + 1) 0 == 10) then A2 text lim s false (seen.add 16) 31 (s + 2) (s + 1) [fl s first, fb s first 23, f2 s first] 3 none else A2 text lim s false (seen.add 16) 29 (s + 1) (s + 1) [fl s first, fb s first 23, f2 s first] 3 (some false) := by kernel_rfl
theorem s2_win3 : (A2 text lim s false seen 29 (s + 1) (s + 1) [fl s first, fb s first 23, f2 s first] 3 (some false)).step.step.step.step.step.step = { A2 text lim s first ((seen.add 15).add 1) 10 s (s + 1) [] 0 (some true) with outcome := some .matched } := by cases first <;> kernel_rfl
theorem s2_start : Sre.forSearch c2 text 0 s lim false = if (decide (s > lim) || decide (lim - s < 1)) = true then { A2 text lim s true (({} : Sre.Seen).add 14) 10 s s [] 0 (some false) with lastStart := 0 } else
    (A2 text lim s true (({} : Sre.Seen).add 14) 10 s s [] 0 none).attemptFrom s true := by kernel_rfl
theorem s2_sets {m : Sre.M} (hc : m.code = c2) : m.hasFirstSet = true := by
  obtain ⟨c, t, l, st, ls, wt, ma, pc, pos, hd, om, mk, lm, li, lo, inn, fr, we, an, se, oc⟩ := m
  cases hc
  kernel_rfl
/-- the first set lets a place through: the attempt is made there -/
theorem s2_hit {m : Sre.M} (hc : m.code = c2) {p : Nat} (e : m.admitted (m.lim + 1 - s) s m.seen = .ok (some p, seen)) : m.attemptFrom s first = Sre.M.attemptAt { m with mustAdvance := false, seen := seen } p first := by
  unfold Sre.M.attemptFrom
  rw [s2_sets hc, e]
  rfl
/-- it lets none through: no -/
theorem s2_miss {m : Sre.M} (hc : m.code = c2) (e : m.admitted (m.lim + 1 - s) s m.seen = .ok (none, seen)) : m.attemptFrom s first = Sre.M.say { m with seen := seen } false := by
  unfold Sre.M.attemptFrom
  rw [s2_sets hc, e]
  rfl
theorem s2_at (t : Nat) (p s0 : Nat) (om : Bool) (seen0 : Sre.Seen) : ({ A2 text lim s0 om seen0 10 p t [] 0 none with mustAdvance := false, seen := seen } : Sre.M).attemptAt s first = A2 text lim s first seen 10 s s [f2 s first] 1 none := by kernel_rfl
end
end Mine
end
section
open PySem PySem.Calls
set_option linter.unusedVariables false
namespace Mine
def it : Nat → Sre.M → Sre.M
  | 0, m => m
  | n + 1, m => it n m.step
theorem step_fix {m : Sre.M} (h : m.outcome.isSome = true) : m.step = m := by
  unfold Sre.M.step
  rw [if_pos h]
theorem it_fix {m : Sre.M} (h : m.outcome.isSome = true) : ∀ n, it n m = m
  | 0 => rfl
  | n + 1 => by rw [it, step_fix h]; exact it_fix h n
theorem it_add (m : Sre.M) : ∀ a b, it (a + b) m = it b (it a m)
  | 0, b => by simp [it]
  | a + 1, b => by rw [show a + 1 + b = (a + b) + 1 by omega, it, it_add m.step a b, it]
theorem runFor_it : ∀ n m, Sre.M.runFor n m = it n m
  | 0, m => rfl
  | n + 1, m => by
    rw [Sre.M.runFor]
    split
    · rename_i h; rw [it_fix h]
    · exact runFor_it n m.step

/-- within n steps the machine ends so -/
def Ends (n : Nat) (m : Sre.M) (r : Option (Nat × Nat)) : Prop :=
  ∃ k, k ≤ n ∧ match r with
    | some (b, e) => (it k m).outcome = some .matched ∧ (it k m).start = b ∧ (it k m).handed = e
    | none => (it k m).outcome = some .failed
theorem Ends.step {n : Nat} {m : Sre.M} {r : Option (Nat × Nat)} (e : Ends n m.step r) : Ends (n + 1) m r := by
  obtain ⟨k, hk, h⟩ := e
  exact ⟨k + 1, by omega, h⟩
theorem Ends.more {n n' : Nat} {m : Sre.M} {r : Option (Nat × Nat)} (e : Ends n m r) (h : n ≤ n') : Ends n' m r := by
  obtain ⟨k, hk, q⟩ := e
  exact ⟨k, by omega, q⟩

theorem s1_short (text : Array Nat) (lim s : Nat) (seen : Sre.Seen) : ({ A1 text lim s true seen 5 s [] 0 (some false) with lastStart := 0 } : Sre.M).step.outcome = some .failed := by kernel_rfl
theorem s2_short (text : Array Nat) (lim s : Nat) (seen : Sre.Seen) : ({ A2 text lim s true seen 10 s s [] 0 (some false) with lastStart := 0 } : Sre.M).step.outcome = some .failed := by kernel_rfl
theorem s2_none (text : Array Nat) (lim s : Nat) (seen seen' : Sre.Seen) : (({ A2 text lim s true seen 10 s s [] 0 none with seen := seen' } : Sre.M).say false).step.outcome = some .failed := by kernel_rfl
def hit1 (text : Array Nat) (p : Nat) : Bool := (p == 0 || text.getD (p - 1) 0 == 10) && text.getD p 0 == 46
def find1 (text : Array Nat) : Nat → Nat → Option (Nat × Nat)
  | 0, _ => none
  | k + 1, s => if hit1 text s = true then some (s, s + 1) else find1 text k (s + 1)
theorem run1 (text : Array Nat) (lim : Nat) : ∀ (k s : Nat) (first : Bool) (seen : Sre.Seen), s + k = lim → Ends (4 * k + 4) (A1 text lim s first seen 5 s [f1 s first] 1 none) (find1 text k s) := by
  intro k
  induction k with
  | zero =>
    intro s first seen hs
    have hs' : s = lim := by omega
    refine Ends.step ?_
    rw [s1_at]
    have fin : ∀ seen pc n, 2 ≤ n → Ends n (A1 text lim s first seen pc s [f1 s first] 1 (some false)) (find1 text 0 s) := by
      intro seen pc n hn
      refine Ends.more (Ends.step (n := 1) ?_) hn
      rw [s1_no, if_neg (by omega)]
      refine Ends.step (n := 0) ?_
      rw [s1_end]
      exact ⟨0, Nat.le_refl _, rfl⟩
    split
    · refine Ends.step (n := 2) ?_
      rw [s1_lit, if_pos (by omega)]
      exact fin _ _ _ (Nat.le_refl _)
    · exact fin _ _ _ (by omega)
  | succ k ih =>
    intro s first seen hs
    have next : ∀ seen pc n, 4 * k + 5 ≤ n → hit1 text s = false → Ends n (A1 text lim s first seen pc s [f1 s first] 1 (some false)) (find1 text (k + 1) s) := by
      intro seen pc n hn hh
      refine Ends.more (Ends.step (n := 4 * k + 4) ?_) hn
      rw [s1_no, if_pos (by omega), find1, if_neg (by simp [hh])]
      exact ih (s + 1) false seen (by omega)
    refine Ends.more (Ends.step (n := 4 * k + 7) ?_) (by omega)
    rw [s1_at]
    split
    · rename_i hb
      refine Ends.step (n := 4 * k + 6) ?_
      rw [s1_lit, if_neg (by omega)]
      cases hl : (text.getD s 0 == 46) with
      | false =>
        rw [cond_false]
        exact next _ _ _ (by omega) (by unfold hit1; rw [hl, Bool.and_false])
      | true =>
        rw [cond_true]
        refine Ends.step (n := 4 * k + 5) ?_
        rw [s1_ok, find1, if_pos (by unfold hit1; rw [hb, hl]; rfl)]
        refine ⟨2, by omega, ?_⟩
        simp only [it]
        rw [s1_yes]
        exact ⟨rfl, rfl, rfl⟩
    · rename_i hb
      exact next _ _ _ (by omega) (by unfold hit1; rw [Bool.eq_false_iff.mpr hb, Bool.false_and])
theorem search1 (text : Array Nat) (lim s : Nat) (hs : s ≤ lim) : Ends (4 * (lim - s) + 4) (Sre.forSearch c1 text 0 s lim false) (find1 text (lim - s) s) := by
  rw [s1_start]
  split
  · rename_i h
    have : lim - s = 0 := by
      rcases Bool.or_eq_true _ _ |>.mp h with q | q
      · have := of_decide_eq_true q; omega
      · have := of_decide_eq_true q; omega
    rw [this]
    refine ⟨1, by omega, ?_⟩
    rw [find1]
    exact s1_short _ _ _ _
  · exact run1 text lim (lim - s) s true _ (by omega)

def isNl (c : Nat) : Bool := c == 10 || c == 13
def len2 (text : Array Nat) (lim s : Nat) : Nat := if text.getD s 0 = 13 ∧ s + 1 < lim ∧ text.getD (s + 1) 0 = 10 then 2 else 1
def find2 (text : Array Nat) (lim : Nat) : Nat → Nat → Option (Nat × Nat)
  | 0, _ => none
  | k + 1, s => if isNl (text.getD s 0) = true then some (s, s + len2 text lim s) else find2 text lim k (s + 1)
theorem run2 (text : Array Nat) (lim s : Nat) (first : Bool) (seen : Sre.Seen) (hs : s < lim) (hn : isNl (text.getD s 0) = true) : Ends 40 (A2 text lim s first seen 10 s s [f2 s first] 1 none) (some (s, s + len2 text lim s)) := by
  have win3 : ∀ seen, len2 text lim s = 1 → text.getD s 0 = 13 → Ends 20 (A2 text lim s first seen 24 s s [fb s first 23, f2 s first] 2 none) (some (s, s + len2 text lim s)) := by
    intro seen hl h13
    refine Ends.step (n := 19) ?_
    rw [s2_lit4, if_neg (by omega), show (text.getD s 0 == 13) = true by simp [h13], cond_true]
    refine Ends.step (n := 18) ?_
    rw [s2_look]
    refine Ends.step (n := 17) ?_
    rw [s2_lit5]
    have fin : ∀ seen, Ends 17 (A2 text lim s false seen 29 (s + 1) (s + 1) [fl s first, fb s first 23, f2 s first] 3 (some false)) (some (s, s + len2 text lim s)) := by
      intro seen
      refine ⟨6, by omega, ?_⟩
      simp only [it]
      rw [s2_win3, hl]
      exact ⟨rfl, rfl, rfl⟩
    split
    · exact fin _
    · rename_i h1
      cases h10 : (text.getD (s + 1) 0 == 10) with
      | false => rw [cond_false]; exact fin _
      | true =>
        unfold len2 at hl
        rw [if_pos ⟨h13, by omega, by simpa using h10⟩] at hl
        omega
  have mid : ∀ seen pc pos, len2 text lim s = 1 → Ends 30 (A2 text lim s first seen pc pos s [fb s first 11, f2 s first] 2 (some false)) (some (s, s + len2 text lim s)) := by
    intro seen pc pos hl
    refine Ends.step (n := 29) ?_
    rw [s2_alt2]
    refine Ends.step (n := 28) ?_
    rw [s2_lit3, if_neg (by omega)]
    cases h10 : (text.getD s 0 == 10) with
    | true =>
      rw [cond_true]
      refine ⟨5, by omega, ?_⟩
      simp only [it]
      rw [s2_win2, hl]
      exact ⟨rfl, rfl, rfl⟩
    | false =>
      rw [cond_false]
      refine Ends.step (n := 27) ?_
      rw [s2_alt3]
      refine Ends.more (win3 _ hl ?_) (by omega)
      unfold isNl at hn
      rw [h10, Bool.false_or] at hn
      simpa using hn
  refine Ends.step (n := 39) ?_
  rw [s2_branch]
  refine Ends.step (n := 38) ?_
  rw [s2_lit1, if_neg (by omega)]
  cases h13 : (text.getD s 0 == 13) with
  | false =>
    rw [cond_false]
    refine Ends.more (mid _ _ _ ?_) (by omega)
    unfold len2
    rw [if_neg (by rintro ⟨q, _⟩; simp [q] at h13)]
  | true =>
    rw [cond_true]
    refine Ends.step (n := 37) ?_
    rw [s2_lit2]
    split
    · refine Ends.more (mid _ _ _ ?_) (by omega)
      unfold len2
      rw [if_neg (by rintro ⟨_, q, _⟩; omega)]
    · rename_i h1
      cases h10 : (text.getD (s + 1) 0 == 10) with
      | false =>
        rw [cond_false]
        refine Ends.more (mid _ _ _ ?_) (by omega)
        unfold len2
        rw [if_neg (by rintro ⟨_, _, q⟩; simp [q] at h10)]
      | true =>
        rw [cond_true]
        have hl : len2 text lim s = 2 := by
          unfold len2
          rw [if_pos ⟨by simpa using h13, by omega, by simpa using h10⟩]
        refine ⟨5, by omega, ?_⟩
        simp only [it]
        rw [s2_win1, hl]
        exact ⟨rfl, rfl, rfl⟩
theorem admit2 (m : Sre.M) (hc : m.code = c2) : ∀ (k s : Nat) (seen : Sre.Seen), s + k = m.lim → ∃ seen', Sre.M.admitted m (k + 1) s seen = .ok ((find2 m.text m.lim k s).map (·.1), seen') ∧ ∀ b e, find2 m.text m.lim k s = some (b, e) → b < m.lim ∧ isNl (m.text.getD b 0) = true ∧ e = b + len2 m.text m.lim b := by
  intro k
  induction k with
  | zero =>
    intro s seen hs
    refine ⟨seen, ?_, fun b e q => by simp [find2] at q⟩
    rw [Sre.M.admitted, if_pos (by omega)]
    rfl
  | succ k ih =>
    intro s seen hs
    rw [Sre.M.admitted, if_neg (by omega), hc, show c2.size = 36 from rfl, s2_set]
    cases h10 : (m.text.getD s 0 == 10) with
    | true =>
      rw [if_pos rfl]
      refine ⟨_, by rw [find2, if_pos (by unfold isNl; rw [h10]; rfl)]; rfl, fun b e q => ?_⟩
      rw [find2, if_pos (by unfold isNl; rw [h10]; rfl)] at q
      cases q
      exact ⟨by omega, by unfold isNl; rw [h10]; rfl, rfl⟩
    | false =>
      rw [if_neg (by decide)]
      cases h13 : (m.text.getD s 0 == 13) with
      | true =>
        rw [if_pos rfl]
        refine ⟨_, by rw [find2, if_pos (by unfold isNl; rw [h13, Bool.or_true])]; rfl, fun b e q => ?_⟩
        rw [find2, if_pos (by unfold isNl; rw [h13, Bool.or_true])] at q
        cases q
        exact ⟨by omega, by unfold isNl; rw [h13, Bool.or_true], rfl⟩
      | false =>
        rw [if_neg (by decide)]
        obtain ⟨seen', e1, e2⟩ := ih (s + 1) (((seen.add 16).add 16).add 0) (by omega)
        have hn : ¬ isNl (m.text.getD s 0) = true := by unfold isNl; rw [h10, h13]; decide
        refine ⟨seen', ?_, ?_⟩
        · rw [find2, if_neg hn]
          exact e1
        · rw [find2, if_neg hn]
          exact e2
theorem search2 (text : Array Nat) (lim s : Nat) (hs : s ≤ lim) : Ends 41 (Sre.forSearch c2 text 0 s lim false) (find2 text lim (lim - s) s) := by
  rw [s2_start]
  split
  · rename_i h
    have : lim - s = 0 := by
      rcases Bool.or_eq_true _ _ |>.mp h with q | q
      · have := of_decide_eq_true q; omega
      · have := of_decide_eq_true q; omega
    rw [this, find2]
    exact ⟨1, by omega, s2_short _ _ _ _⟩
  · obtain ⟨seen', e1, e2⟩ := admit2 (A2 text lim s true (({} : Sre.Seen).add 14) 10 s s [] 0 none) rfl (lim - s) s (A2 text lim s true (({} : Sre.Seen).add 14) 10 s s [] 0 none).seen (by show s + (lim - s) = lim; omega)
    have e0 : lim - s + 1 = (A2 text lim s true (({} : Sre.Seen).add 14) 10 s s [] 0 none).lim + 1 - s := by show _ = lim + 1 - s; omega
    rw [e0] at e1
    change Sre.M.admitted _ _ _ _ = .ok ((find2 text lim (lim - s) s).map (·.1), seen') at e1
    change ∀ b e, find2 text lim (lim - s) s = some (b, e) → _ at e2
    cases hf : find2 text lim (lim - s) s with
    | none =>
      rw [hf] at e1
      rw [s2_miss (hc := rfl) (e := e1)]
      exact ⟨1, by omega, s2_none _ _ _ _ _⟩
    | some p =>
      obtain ⟨b, e⟩ := p
      obtain ⟨h1, h2, h3⟩ := e2 b e hf
      rw [hf] at e1
      rw [s2_hit (hc := rfl) (e := e1)]
      subst h3
      have := run2 text lim b true seen' h1 h2
      rw [← s2_at text lim b true seen' s s s true (({} : Sre.Seen).add 14)] at this
      exact Ends.more (n := 40) (n' := 41) this (by decide)
end Mine
end
section
open PySem PySem.Calls PyProof.Rows PySem.W
set_option linter.unusedVariables false
namespace Mine
open PySem.Builtin PySem.Builtin.Re
section facts
set_option maxRecDepth 100000
theorem plainAttrs_pat : PlainAttrs "re.Pattern" := by
  refine ⟨⟨"object.__getattribute__", ?_, by decide +kernel⟩, ?_⟩
  all_goals
    rw [typeLookup_type, builtinLookup_eq_fast]
    kernel_rfl
theorem slot_pat_sub : Slot "re.Pattern" "sub" "re.Pattern.sub" := by
  refine .of (owner := "re.Pattern") (n := "sub") ?_ ?_ ?_ ?_ (.inr ?_) ?_
  case refine_1 =>
    rw [typeLookup_type, builtinLookup_eq_fast]
    kernel_rfl
  case refine_6 =>
    rw [isSubtype_type]
    kernel_rfl
  all_goals decide +kernel
theorem type_pat_sub : typeOf (.builtin "re.Pattern.sub") = pure (.type "method_descriptor") := by show builtinType _ = _; rw [builtinType_eq_fast]; kernel_rfl
theorem entry_pat_sub : entryFor table "re.Pattern.sub" = some Builtin.«re.Pattern.sub» := entryFor_of_tree (by kernel_rfl)
theorem entry_pat_loop : entryFor table "re.Pattern.sub.loop" = some Builtin.«re.Pattern.sub.loop» := entryFor_of_tree (by kernel_rfl)
theorem plain_pat_loop : plainId "re.Pattern.sub.loop" = true := by decide +kernel
theorem owner_pat : Manifest.owners.lookup (String.ofList ['n', 'r', 'e', 't', 't', 'a', 'P', '.', 'e', 'r'].reverse) = some Manifest.sig_re_Pattern := by kernel_rfl
end facts
section
variable {prog : Program} {w : World} {A : Around} {E : Value → Shared → Prop} {s : Shared}
/-- how a search ends -/
def EndAs (r : Option (Nat × Nat)) (mf : Sre.M) : Prop := match r with | some (b, e) => mf.outcome = some .matched ∧ mf.start = b ∧ mf.handed = e | none => mf.outcome = some .failed
theorem EndAs.some' {r : Option (Nat × Nat)} {mf : Sre.M} (h : EndAs r mf) : mf.outcome.isSome = true := by
  cases r with
  | none => rw [show mf.outcome = _ from h]; rfl
  | some p => rw [h.1]; rfl
theorem drive {r : Option (Nat × Nat)} {Q : Sre.M → Shared → Prop} : ∀ (turns k : Nat) (m : Sre.M), k ≤ 4 * turns → 0 < turns → EndAs r (it k m) → (∀ mf, EndAs r mf → Q mf s) → wpAny (model prog w) A (reDrive turns m) Q E s := by
  intro turns
  induction turns with
  | zero => intro k m hk h0; omega
  | succ turns ih =>
    intro k m hk h0 he hQ
    rw [reDrive]
    have e4 : m.runFor reTurnSteps = it 4 m := runFor_it 4 m
    rw [e4]
    by_cases ho : (it 4 m).outcome.isSome = true
    · rw [if_pos ho]
      refine wpAny_pure (hQ _ ?_)
      have a1 : it (k + 4) m = it k m := by rw [it_add, it_fix he.some']
      have a2 : it (k + 4) m = it 4 m := by rw [Nat.add_comm, it_add, it_fix ho]
      rw [← a2, a1]; exact he
    · rw [if_neg ho]
      have hk4 : 4 < k := by
        rcases Nat.lt_or_ge 4 k with q | q
        · exact q
        · exfalso
          apply ho
          rw [show 4 = k + (4 - k) by omega, it_add, it_fix he.some']
          exact he.some'
      refine wpAny_bind (wpAny_rule (ih (k - 4) (it 4 m) (by omega) (by omega) ?_ hQ))
      rw [← it_add, show 4 + (k - 4) = k by omega]
      exact he
theorem rules_any {l : List Nat} {c : Nat → Bool} {n : Nat → String} {Q : PUnit → Shared → Prop} (h : Q ⟨⟩ s) : wpAny (model prog w) A (forIn l PUnit.unit fun i _ => (do if c i = true then (do rule (n i); pure (ForInStep.yield PUnit.unit)) else pure (ForInStep.yield PUnit.unit) : Sem (ForInStep PUnit))) Q E s := by
  induction l with
  | nil => rw [List.forIn_nil]; exact wpAny_pure h
  | cons a l ih =>
    rw [List.forIn_cons]
    refine wpAny_bind ?_
    split
    · exact wpAny_bind (wpAny_rule (wpAny_pure ih))
    · exact wpAny_pure ih
theorem run_end {n : Nat} {m : Sre.M} {r : Option (Nat × Nat)} (e : Ends n m r) (hn : n < 2 ^ 60) {Q : Option Sre.M → Shared → Prop} (h : match r with | some (b, e) => ∀ mf : Sre.M, mf.start = b → mf.handed = e → Q (some mf) s | none => Q none s) :
    wpAny (model prog w) A (reRunToEnd m) Q E s := by
  obtain ⟨k, hk, he⟩ := e
  unfold reRunToEnd
  refine wpAny_bind (drive (r := r) (2 ^ 64) k m (by omega) (by decide) he fun mf hm => ?_)
  refine wpAny_bind (rules_any (c := fun i => mf.seen.has i) (n := fun i => Sre.names.getD i "") ?_)
  cases r with
  | none =>
    rw [show mf.outcome = some .failed from hm]
    exact wpAny_pure h
  | some p =>
    rw [hm.1]
    exact wpAny_pure (h mf hm.2.1 hm.2.2)
end
end Mine
end
section
open PySem PySem.Calls PyProof.Rows PySem.W
set_option linter.unusedVariables false
namespace Mine
open PySem.Builtin PySem.Builtin.Re
theorem args_pat_sub (a b c : Value) : argsOk "re.Pattern.sub" ⟨[a, b, c], []⟩ := by
  unfold argsOk; rw [signature?_of (id := "re.Pattern.sub") (n := ['b', 'u', 's']) (o := ['n', 'r', 'e', 't', 't', 'a', 'P', '.', 'e', 'r']) (by kernel_rfl) owner_pat]; kernel_rfl
/-- a compiled pattern -/
def Pat (h : Heap) (p : Addr) (code : Array Nat) : Prop := ∃ o fs c co items n t2 t6, h.get? p = some o ∧ o.cls = .type "re.Pattern" ∧ o.dict = none ∧ o.data = .fields fs ∧ fs.getD 2 .none = .int 0 t2 ∧ fs.getD 5 .none = .ref c ∧ fs.getD 6 .none = .int 0 t6 ∧
  h.get? c = some co ∧ co.data = .seq items n ∧ (items.map reRawOf).map (·.toNat) = code
theorem Pat.kp {h h' : Heap} {p : Addr} {code : Array Nat} (x : Pat h p code) (k : Kp h h') : Pat h' p code :=
  let ⟨o, fs, c, co, items, n, t2, t6, e1, e2, e3, e4, e5, e6, e7, e8, e9, e10⟩ := x
  ⟨o, fs, c, co, items, n, t2, t6, k _ _ e1, e2, e3, e4, e5, e6, e7, k _ _ e8, e9, e10⟩
section
variable {prog : Program} {w : World} {A : Around} {E : Value → Shared → Prop} {s : Shared}
theorem whole_target {p : Addr} {code : Array Nat} {x : Str} {t : Tok} {Q : ReTarget → Shared → Prop} (P : Pat s.heap p code)
    (h : Q { pattern := .ref p, string := .str x t, code, text := x.cps, kind := 0, groups := 0, pos := 0, lim := x.cps.size } s) : wpAny (model prog w) A (reWholeTarget (.ref p) (.str x t)) Q E s := by
  obtain ⟨o, fs, c, co, items, n, t2, t6, e1, e2, e3, e4, e5, e6, e7, e8, e9, e10⟩ := P
  unfold reWholeTarget
  refine wpAny_bind (wpAny_fieldsOf e1 e4 ?_)
  refine wpAny_bind (m := reTextOf (.str x t)) (wpAny_of_eq (a := (x.cps, 0)) rfl ?_)
  show wpAny _ _ (if (reRawNat (fs.getD 6 .none) == 0 && (0 : Nat) == 1) = true then _ else _) _ _ _
  rw [e7, if_neg (show ¬ (reRawNat (Value.int 0 t6) == 0 && (0 : Nat) == 1) = true from Bool.false_ne_true)]
  show wpAny _ _ (if (reRawNat (.int 0 t6) == 1 && (0 : Nat) == 0) = true then _ else _) _ _ _
  rw [if_neg (show ¬ (reRawNat (Value.int 0 t6) == 1 && (0 : Nat) == 0) = true from Bool.false_ne_true)]
  show wpAny _ _ (reNoCollectionInside (.str x t) 0 >>= _) _ _ _
  refine wpAny_bind (wpAny_of_eq (a := ()) rfl ?_)
  show wpAny _ _ (reRawItems (fs.getD 5 .none) >>= _) _ _ _
  rw [e6]
  refine wpAny_bind ?_
  unfold reRawItems
  refine wpAny_bind (wpAny_seqItems e8 e9 (wpAny_pure (wpAny_pure ?_)))
  rw [e5]
  show Q { pattern := .ref p, string := .str x t, code := (items.map reRawOf).map (·.toNat), text := x.cps, kind := 0, groups := reRawNat (.int 0 t2), pos := 0, lim := x.cps.size } s
  rw [e10]
  exact h
def subS (x : Str) (a b : Nat) : Str := ⟨x.cps.extract a b⟩
def pcs (x r : Str) (fnd : Nat → Option (Nat × Nat)) : Nat → Nat → List Str
  | 0, _ => []
  | k + 1, st => match fnd st with
    | none => if st < x.cps.size then [subS x st x.cps.size] else []
    | some (b, e) => (if st < b then [subS x st b] else []) ++ (r :: pcs x r fnd k e)
theorem Li.push {a : Addr} {ds : List FV} {v : Value} {d : FV} {Q : Unit → Shared → Prop} (l : Li s.heap a ds) (r : Rf s.heap v d) (hz : ds.length < sizeLine)
    (hQ : ∀ h, Heap.SameBut a s.heap h → Li h a (ds ++ [d]) → Q () { s with heap := h }) : wpAny (model prog w) A (updateSeq a (·.push v)) Q E s := by
  obtain ⟨vs, n, e, rs⟩ := l
  have hl := rs.length
  have sb : Heap.SameBut a s.heap (s.heap.update a (Obj.mapSeq (·.push v))) := Heap.SameBut.update ..
  refine wpAny_updateSeq e rfl (hQ _ sb ⟨vs ++ [v], n + 1, ?_, ?_⟩) (by rw [List.size_toArray]; omega) (by simp; omega)
  · rw [Heap.get?_update_self _ e rfl]
    simp [lO, Obj.mapSeq]
  · exact (rs.append (Rfs.one r)).kt (Kt.same sb e (fun _ => lO_ne))
end
end Mine
end
section
open PySem PySem.Calls PyProof.Rows PySem.W
set_option linter.unusedVariables false
namespace Mine
open PySem.Builtin PySem.Builtin.Re
def emptyS : Str := ⟨#[]⟩
theorem strs_of {h : Heap} : ∀ {vs : List Value} {texts : List Str}, Rfs h vs (texts.map FV.str) → ∃ l, vs = strValues l ∧ l.map (·.1) = texts
  | _, [], r => by cases r; exact ⟨[], rfl, rfl⟩
  | _, a :: as, r => by
    cases r with
    | cons x r =>
      cases x with
      | str _ t =>
        obtain ⟨l, rfl, rfl⟩ := strs_of r
        exact ⟨(a, t) :: l, rfl, rfl⟩
section
variable {prog : Program} {w : World}
theorem sub_loop {h₀ : Heap} {code : Array Nat} {x r : Str} {t u : Tok} {p pl : Addr} {fnd : Nat → Option (Nat × Nat)} {N : Nat} (P : Pat h₀ p code) (hpl : h₀.get? pl = none)
    (hE : ∀ st, st ≤ x.cps.size → Ends N (Sre.forSearch code x.cps 0 st x.cps.size false) (fnd st)) (hf : ∀ st b e, fnd st = some (b, e) → st ≤ b ∧ b < e ∧ e ≤ x.cps.size) (hN : N < 2 ^ 60) (hx : x.cps.size ≤ 1000) (hr : r.length ≤ 1000) :
    ∀ (k st n : Nat) (ps : List Str) (A : Around) (s : Shared) (R : Result → Shared → Prop), x.cps.size < st + k → st ≤ x.cps.size → Kp h₀ s.heap → Li s.heap pl (ps.map FV.str) → ps.length + 2 * k ≤ 5000 → (∀ y ∈ ps, y.length ≤ 1000) →
      (∀ h' k' t', Kp h₀ h' → R (.ok (.ret (.str (Txt.join emptyS (ps ++ pcs x r fnd k st)) t'))) { s with heap := h', toks := k' }) →
      wpAny (model prog w) A.in1 («re.Pattern.sub.loop» ⟨[.ref p, .str x t, .str r u, rawInt 0, rawInt 0, rawInt n, rawInt st, rawInt st, .bool false, .ref pl, .bool false], []⟩)
        (fun fin s' => match fin with | .done f => R (.ok f) s' | .again c' => c'.quiet = true ∧ codeAny (model prog w) A c' R s') (fun e s' => R (.error e) s') s := by
  intro k
  induction k with
  | zero => intro st n ps A s R h1 h2; omega
  | succ k ih =>
    intro st n ps A s R h1 h2 kp l hz hy hR
    have cutOk : ∀ a b, (subS x a b).length ≤ 1000 := fun a b => by
      show (x.cps.extract a b).size ≤ 1000
      rw [Array.size_extract]
      omega
    have cutZ : ∀ a b, (subS x a b).length ≤ sizeLine := fun a b => Nat.le_trans (cutOk a b) (by rw [sizeLine_eq]; decide)
    have tail : ∀ (s' : Shared) (ps' : List Str), Kp h₀ s'.heap → Li s'.heap pl (ps'.map FV.str) → ps'.length ≤ 5000 → (∀ y ∈ ps', y.length ≤ 1000) →
        (∀ h' k' t', Kp h₀ h' → R (.ok (.ret (.str (Txt.join emptyS ps') t'))) { s' with heap := h', toks := k' }) →
        wpAny (model prog w) A.in1 (reSlice x.cps 0 0 0 >>= fun joiner => seqItems? (.ref pl) >>= fun d => if (d.getD #[]).isEmpty = true then (Pure.pure joiner >>= fun text => ret text) else (call (.builtin "str.join") [joiner, .ref pl] >>= fun text => ret text))
        (fun fin s' => match fin with | .done f => R (.ok f) s' | .again c' => c'.quiet = true ∧ codeAny (model prog w) A c' R s') (fun e s' => R (.error e) s') s' := by
      intro s' ps' kp' l' hz' hy' hR'
      obtain ⟨vs, m, e, rs⟩ := l'
      obtain ⟨l, rfl, hlt⟩ := strs_of rs
      show wpAny _ _ (mkStr ⟨x.cps.extract 0 0⟩ >>= _) _ _ _
      refine wpAny_bind (wpAny_mkStr ?_ (cutZ 0 0))
      have e0 : (⟨x.cps.extract 0 0⟩ : Str) = emptyS := by
        unfold emptyS
        congr 1
        exact Array.eq_empty_of_size_eq_zero (by rw [Array.size_extract]; omega)
      rw [e0]
      refine wpAny_bind (wpAny_seqItems e rfl ?_)
      refine wpAny_ite_split (fun he => ?_) (fun he => ?_)
      · refine wpAny_bind (wpAny_pure ?_)
        have hv : strValues l = [] := by simpa using he
        have hl : l = [] := by
          cases l with
          | nil => rfl
          | cons a b => simp [strValues] at hv
        subst hl
        have hp : ps' = [] := by rw [← hlt]; rfl
        subst hp
        exact wpAny_pure (hR' s'.heap (s'.toks + 1) s'.toks kp')
      · refine wpAny_bind (SC.join (l := l) (texts := ps') ⟨_, e, rfl, m, rfl⟩ hlt ?_ fun t' k' => wpAny_pure (hR' s'.heap k' t' kp'))
        have := StrLaws.joinFits (sep := emptyS) (B := 1000) hy' (by
          have : emptyS.length = 0 := rfl
          rw [this]; omega)
        unfold JoinOk
        rw [Bool.not_eq_true']
        exact this
    have tailR : ∀ (s' : Shared) (ps' : List Str) (e : Nat), st < e → e ≤ x.cps.size → Kp h₀ s'.heap → Li s'.heap pl (ps'.map FV.str) → ps'.length + 1 + 2 * k ≤ 5000 → (∀ y ∈ ps', y.length ≤ 1000) →
        (∀ h' k' t', Kp h₀ h' → R (.ok (.ret (.str (Txt.join emptyS (ps' ++ r :: pcs x r fnd k e)) t'))) { s' with heap := h', toks := k' }) →
        wpAny (model prog w) A.in1 (Pure.pure (Value.str r u) >>= fun item => if (item != Value.none) = true then (updateSeq pl (fun x => x.push item) >>= fun _ => again (.builtin "re.Pattern.sub.loop" ⟨[.ref p, .str x t, .str r u, rawInt 0, rawInt 0, rawInt ((n : Int) + 1), rawInt e, rawInt e, .bool false, .ref pl, .bool false], []⟩)) else again (.builtin "re.Pattern.sub.loop" ⟨[.ref p, .str x t, .str r u, rawInt 0, rawInt 0, rawInt ((n : Int) + 1), rawInt e, rawInt e, .bool false, .ref pl, .bool false], []⟩))
        (fun fin s' => match fin with | .done f => R (.ok f) s' | .again c' => c'.quiet = true ∧ codeAny (model prog w) A c' R s') (fun e s' => R (.error e) s') s' := by
      intro s' ps' e hse he kp' l' hz' hy' hR'
      refine wpAny_bind (wpAny_pure ?_)
      refine wpAny_ite_split (fun _ => ?_) (fun q => absurd (show (Value.str r u != Value.none) = true from rfl) q)
      refine wpAny_bind (Li.push l' (.str r u) (by rw [List.length_map, sizeLine_eq]; omega) fun h1 sb l1 => wpAny_pure ⟨plainId_quiet plain_pat_loop _, codeAny_builtin entry_pat_loop ?_⟩)
      rw [Around.under_plainId plain_pat_loop _]
      have kp1 : Kp h₀ h1 := (Kx.of_same (S := [pl]) sb (by simp)).toKp kp' (fun b m => by rw [List.mem_singleton.mp m]; exact hpl)
      have en : ((n : Int) + 1) = ((n + 1 : Nat) : Int) := by push_cast; rfl
      rw [en]
      refine ih e (n + 1) (ps' ++ [r]) A { s' with heap := h1 } R (by omega) he kp1 (by simpa using l1) (by rw [List.length_append]; simp only [List.length_cons, List.length_nil]; omega) (fun y hy => ?_) (fun h' k' t' q => ?_)
      · rcases List.mem_append.mp hy with q | q
        · exact hy' y q
        · rw [List.mem_singleton.mp q]; exact hr
      · have := hR' h' k' t' q
        simpa using this
    show wpAny _ _ (reWholeTarget (.ref p) (.str x t) >>= _) _ _ _
    refine wpAny_bind (whole_target (P.kp kp) ?_)
    show wpAny _ _ (reLiteralCannotBeTurned (.str r u) >>= _) _ _ _
    refine wpAny_bind (wpAny_of_eq (a := ()) rfl ?_)
    show wpAny _ _ (reNextFound _ ((st : Int)).toNat false >>= _) _ _ _
    rw [Int.toNat_natCast]
    unfold reNextFound
    refine wpAny_bind (run_end (r := fnd st) (hE st h2) hN ?_)
    cases hfs : fnd st with
    | none =>
      dsimp only
      rw [pcs, hfs] at hR
      dsimp only at hR
      refine wpAny_ite_split (fun hlt => ?_) (fun hlt => ?_)
      · show wpAny _ _ (mkStr (subS x st x.cps.size) >>= _) _ _ _
        refine wpAny_bind (wpAny_mkStr ?_ (cutZ _ _))
        refine wpAny_bind (Li.push (s := { s with toks := s.toks + 1 }) l (.str _ _) (by rw [List.length_map, sizeLine_eq]; omega) fun h1 sb l1 => ?_)
        have kp1 : Kp h₀ h1 := (Kx.of_same (S := [pl]) sb (by simp)).toKp kp (fun b m => by rw [List.mem_singleton.mp m]; exact hpl)
        refine tail { s with heap := h1, toks := s.toks + 1 } (ps ++ [subS x st x.cps.size]) kp1 (by simpa using l1) (by rw [List.length_append]; simp only [List.length_cons, List.length_nil]; omega) (fun y hyy => ?_) (fun h' k' t' q => ?_)
        · rcases List.mem_append.mp hyy with q | q
          · exact hy y q
          · rw [List.mem_singleton.mp q]; exact cutOk _ _
        · have := hR h' k' t' q
          rw [if_pos hlt] at this
          exact this
      · refine tail s ps kp l (by omega) hy fun h' k' t' q => ?_
        have := hR h' k' t' q
        rw [if_neg hlt, List.append_nil] at this
        exact this
    | some be =>
      obtain ⟨b, e⟩ := be
      obtain ⟨f1, f2, f3⟩ := hf st b e hfs
      intro mf hs1 hs2
      dsimp only
      rw [pcs, hfs] at hR
      dsimp only at hR
      have hm : (mf.handed == mf.start) = false := by
        rw [hs1, hs2]
        simp
        omega
      rw [hm, hs1, hs2]
      refine wpAny_ite_split (fun hlt => ?_) (fun hlt => ?_)
      · show wpAny _ _ (mkStr (subS x st b) >>= _) _ _ _
        refine wpAny_bind (wpAny_mkStr ?_ (cutZ _ _))
        refine wpAny_bind (Li.push (s := { s with toks := s.toks + 1 }) l (.str _ _) (by rw [List.length_map, sizeLine_eq]; omega) fun h1 sb l1 => ?_)
        have kp1 : Kp h₀ h1 := (Kx.of_same (S := [pl]) sb (by simp)).toKp kp (fun b m => by rw [List.mem_singleton.mp m]; exact hpl)
        refine tailR { s with heap := h1, toks := s.toks + 1 } (ps ++ [subS x st b]) e (by omega) f3 kp1 (by simpa using l1) (by rw [List.length_append]; simp only [List.length_cons, List.length_nil]; omega) (fun y hyy => ?_) (fun h' k' t' q => ?_)
        · rcases List.mem_append.mp hyy with q | q
          · exact hy y q
          · rw [List.mem_singleton.mp q]; exact cutOk _ _
        · have := hR h' k' t' q
          rw [if_pos hlt] at this
          simpa using this
      · refine tailR s ps e (by omega) f3 kp l (by omega) hy fun h' k' t' q => ?_
        have := hR h' k' t' q
        rw [if_neg hlt, List.nil_append] at this
        exact this
end
end Mine
end
section
open PySem PySem.Calls PyProof.Rows PySem.W
set_option linter.unusedVariables false
namespace Mine
open PySem.Builtin PySem.Builtin.Re
theorem str_no_call : typeLookup (.type "str") "__call__" = pure none := by rw [typeLookup_type, builtinLookup_eq_fast]; kernel_rfl
theorem named_sub (r x : Value) : reNamed "re.Pattern.sub" "sub" ["repl", "string", "count"] 2 [r, x] [] = pure [some r, some x, none] := by kernel_rfl
section
variable {prog : Program} {w : World} {A : Around} {E : Value → Shared → Prop} {s : Shared}
theorem pat_sub {code : Array Nat} {x r : Str} {t u : Tok} {p : Addr} {fnd : Nat → Option (Nat × Nat)} {N : Nat} {Q : Value → Shared → Prop} (P : Pat s.heap p code)
    (hE : ∀ st, st ≤ x.cps.size → Ends N (Sre.forSearch code x.cps 0 st x.cps.size false) (fnd st)) (hf : ∀ st b e, fnd st = some (b, e) → st ≤ b ∧ b < e ∧ e ≤ x.cps.size) (hN : N < 2 ^ 60) (hx : x.cps.size ≤ 1000) (hr : r.length ≤ 1000) (hl : r.cps.contains 92 = false)
    (hQ : ∀ h' k' t', Kp s.heap h' → Q (.str (Txt.join emptyS (pcs x r fnd (x.cps.size + 1) 0)) t') { s with heap := h', toks := k' }) : wpAny (model prog w) A (call (.builtin "re.Pattern.sub") [.ref p, .str r u, .str x t]) Q E s := by
  have hT : s.TypeIs (.ref p) "re.Pattern" := by
    obtain ⟨o, fs, c, co, items, n, t2, t6, e1, e2, _⟩ := P
    exact ⟨o, e1, e2⟩
  refine wpAny_call (codeAny_call_builtin slot_pat_sub.plain entry_pat_sub (slot_pat_sub.check _ _ _ _ _ _ _ _ hT (args_pat_sub _ _ _) ?_))
  show wpAny _ _ (reNamed "re.Pattern.sub" "sub" ["repl", "string", "count"] 2 [.str r u, .str x t] [] >>= _) _ _ _
  refine wpAny_bind (wpAny_of_eq (named_sub _ _) ?_)
  show wpAny _ _ (Pure.pure (0 : Int) >>= _) _ _ _
  refine wpAny_bind (wpAny_pure ?_)
  show wpAny _ _ (specialOf (.str r u) "__call__" >>= _) _ _ _
  refine wpAny_bind (wpAny_specialOf (typeIs_str _ _ _) str_no_call ?_)
  show wpAny _ _ (asStr? (.str r u) >>= _) _ _ _
  refine wpAny_bind (wpAny_of_eq (a := some r) rfl ?_)
  show wpAny _ _ (Pure.pure (!r.cps.contains 92) >>= _) _ _ _
  refine wpAny_bind (wpAny_pure ?_)
  rw [hl]
  show wpAny _ _ (Pure.pure (Value.str r u, (0 : Int)) >>= _) _ _ _
  refine wpAny_bind (wpAny_pure ?_)
  show wpAny _ _ (holding [Value.str r u] (reWholeTarget (.ref p) (.str x t)) >>= _) _ _ _
  refine wpAny_bind (wpAny_holding (whole_target P ?_))
  show wpAny _ _ (newList [] >>= _) _ _ _
  refine wpAny_bind ?_
  unfold newList
  refine wpAny_newObj_type (wpAny_pure ⟨plainId_quiet plain_pat_loop _, codeAny_builtin entry_pat_loop ?_⟩) (by show ([] : List Value).toArray.size ≤ sizeLine; simp [sizeLine_eq])
  rw [Around.under_plainId plain_pat_loop _]
  have kp : Kp s.heap (s.heap.push { cls := .type "list", dict := none, data := .seq ([] : List Value).toArray }) := Kp.push _ _
  refine sub_loop P (fresh_at (Kp.refl _)) hE hf hN hx hr (x.cps.size + 1) 0 0 [] A { s with heap := s.heap.push { cls := .type "list", dict := none, data := .seq ([] : List Value).toArray } } (wants Q E) (by omega) (Nat.zero_le _) kp ⟨[], 0, Heap.get?_push_size _ rfl, .nil⟩ (by simp only [List.length_nil]; omega) (fun y hy => absurd hy List.not_mem_nil) fun h' k' t' kp' => ?_
  exact hQ h' k' t' kp'
end
end Mine
end
section
open PySem PySem.Calls PyProof.Rows PySem.W
set_option linter.unusedVariables false
namespace Mine
def crlfS : Str := "\r\n"
def dotsS : Str := ".."
structure Gq (mg : Str → Option Value) (h : Heap) : Prop where
  re1 : ∃ p, mg "_twin_re_1" = some (.ref p) ∧ Pat h p c1
  re2 : ∃ p, mg "_twin_re_2" = some (.ref p) ∧ Pat h p c2
  crlf : ∃ t, mg "CRLF" = some (.str crlfS t)
theorem Gq.kp {mg : Str → Option Value} {h h' : Heap} (G : Gq mg h) (k : Kp h h') : Gq mg h' :=
  ⟨let ⟨p, e, P⟩ := G.re1; ⟨p, e, P.kp k⟩, let ⟨p, e, P⟩ := G.re2; ⟨p, e, P.kp k⟩, G.crlf⟩
def fnd1 (x : Str) (st : Nat) : Option (Nat × Nat) := find1 x.cps (x.cps.size - st) st
def fnd2 (x : Str) (st : Nat) : Option (Nat × Nat) := find2 x.cps x.cps.size (x.cps.size - st) st
def quo2 (x : Str) : Str := Txt.join emptyS (pcs x crlfS (fnd2 x) (x.cps.size + 1) 0)
def quo1 (x : Str) : Str := Txt.join emptyS (pcs x dotsS (fnd1 x) (x.cps.size + 1) 0)
theorem find1_ok (text : Array Nat) : ∀ (k st b e : Nat), find1 text k st = some (b, e) → st ≤ b ∧ b < e ∧ e ≤ st + k
  | 0, _, _, _, h => by simp [find1] at h
  | k + 1, st, b, e, h => by
    rw [find1] at h
    split at h
    · cases h; omega
    · have := find1_ok text k (st + 1) b e h; omega
theorem len2_ok (text : Array Nat) (lim s : Nat) (hs : s < lim) : 0 < len2 text lim s ∧ s + len2 text lim s ≤ lim := by
  unfold len2
  split
  · rename_i h; omega
  · omega
theorem find2_ok (text : Array Nat) (lim : Nat) : ∀ (k st b e : Nat), st + k ≤ lim → find2 text lim k st = some (b, e) → st ≤ b ∧ b < e ∧ e ≤ lim
  | 0, _, _, _, _, h => by simp [find2] at h
  | k + 1, st, b, e, hl, h => by
    rw [find2] at h
    split at h
    · cases h
      have := len2_ok text lim st (by omega)
      omega
    · have := find2_ok text lim k (st + 1) b e (by omega) h; omega
section
variable {prog : Program} {w : World} {A : Around} {s : Shared} {mg mb : Str → Option Value}
theorem sub1 {x : Str} {v1 v2 : Value} {p : Addr} (P : Pat s.heap p c1) (r1 : Rf s.heap v1 (.str dotsS)) (r2 : Rf s.heap v2 (.str x)) (hx : x.cps.size ≤ 1000) : Ev prog w A s (call (.builtin "re.Pattern.sub") [.ref p, v1, v2]) (F (.str (quo1 x))) := by
  cases r1; cases r2
  refine Ev.of fun Q E h0 hQ => pat_sub (N := 4 * x.cps.size + 4) (fnd := fnd1 x) P (fun st hs => Ends.more (search1 x.cps x.cps.size st hs) (by omega)) (fun st b e h => ?_) (by omega) hx (by decide) (by decide +kernel) fun h' k' t' kp => hQ _ h' k' kp (.str _ _)
  have h' : find1 x.cps (x.cps.size - st) st = some (b, e) := h
  have := find1_ok _ _ _ _ _ h'
  refine ⟨this.1, this.2.1, ?_⟩
  by_cases q : st ≤ x.cps.size
  · omega
  · rw [show x.cps.size - st = 0 by omega] at h'
    simp [find1] at h'
theorem sub2 {x : Str} {v1 v2 : Value} {p : Addr} (P : Pat s.heap p c2) (r1 : Rf s.heap v1 (.str crlfS)) (r2 : Rf s.heap v2 (.str x)) (hx : x.cps.size ≤ 1000) : Ev prog w A s (call (.builtin "re.Pattern.sub") [.ref p, v1, v2]) (F (.str (quo2 x))) := by
  cases r1; cases r2
  refine Ev.of fun Q E h0 hQ => pat_sub (N := 41) (fnd := fnd2 x) P (fun st hs => search2 x.cps x.cps.size st hs) (fun st b e h => ?_) (by decide) hx (by decide) (by decide +kernel) fun h' k' t' kp => hQ _ h' k' kp (.str _ _)
  have h' : find2 x.cps x.cps.size (x.cps.size - st) st = some (b, e) := h
  by_cases q : st ≤ x.cps.size
  · exact find2_ok _ _ _ _ _ _ (by omega) h'
  · rw [show x.cps.size - st = 0 by omega] at h'
    simp [find2] at h'
end
section
variable {prog : Program} {w : World} {A : Around} {s : Shared} {mg mb : Str → Option Value}
theorem quotedata {x : Str} (rm : Rm A 5) (G : Gm mg mb s.heap) (Gp : Gq mg s.heap) {a : Addr} (ha : mg "quotedata" = some (.ref a)) {vs : List Value} (r : Fs [.str x] vs s.heap) (h1 : x.cps.size ≤ 1000) (h2 : (quo2 x).cps.size ≤ 1000) :
    Ev prog w A s (call (.ref a) vs) (F (.str (quo1 (quo2 x)))) := by
  obtain ⟨a', o, pm, code, doc, e1, e2, e3, e4⟩ := G.qd
  rw [ha] at e1
  cases e1
  cases r with
  | @cons v _ _ _ rv r =>
  cases r
  refine Ev.callY (n := 4) ["data"] (Has.of (.cons rv .nil)) rm e2 e3 G.lim e4 fun h₁ kp₁ rm₁ b => ?_
  have G₁ := G.kp kp₁
  have Q₁ := Gp.kp kp₁
  obtain ⟨p1, m1, P1⟩ := Q₁.re1
  obtain ⟨p2, m2, P2⟩ := Q₁.re2
  obtain ⟨tc, mc⟩ := Q₁.crlf
  have tyP : ∀ (p : Addr) (c : Array Nat) (s' : Shared) (v : Value), (v = .ref p ∧ Pat s'.heap p c) → s'.TypeIs v "re.Pattern" ∧ ∀ a, v = .ref a → ∃ ob, s'.heap.get? a = some ob ∧ ob.dict = none := by
    rintro p c s' v ⟨rfl, o, fs, c', co, items, n, t2, t6, q1, q2, q3, _⟩
    exact ⟨⟨o, q1, q2⟩, fun a z => by cases z; exact ⟨o, q1, q3⟩⟩
  refine X.retL (EV.meth (P1 := fun v h => v = .ref p1 ∧ Pat h p1 c1) (P := F (.str (quo1 (quo2 x)))) plainAttrs_pat slot_pat_sub type_pat_sub ((EV.name (G₁.gl m1)).mono fun v h' k q => ⟨q, P1.kp k⟩) (fun v h h' q k => ⟨q.1, q.2.kp k⟩) (tyP p1 c1)
    (AV.consF EV.cstr (AV.consF (EV.meth (P1 := fun v h => v = .ref p2 ∧ Pat h p2 c2) (P := F (.str (quo2 x))) plainAttrs_pat slot_pat_sub type_pat_sub ((EV.name (G₁.gl m2)).mono fun v h' k q => ⟨q, P2.kp k⟩) (fun v h h' q k => ⟨q.1, q.2.kp k⟩) (tyP p2 c2)
      (AV.consF (EV.name (LV.glob (P := F (.str crlfS)) G₁.g mc fun h' k => Rf.str _ _)) (AV.consF b.n AV.nilF)) (fun s' v vs k q1 q2 => ?_)) AV.nilF)) (fun s' v vs k q1 q2 => ?_)) fun v h' kp p => ⟨fun c o e => kp _ _ (b.kp c o e), p⟩
  · obtain ⟨rfl, P⟩ := q1
    cases q2 with
    | cons u1 q2 => cases q2 with
      | cons u2 q2 => cases q2; exact sub2 P u1 u2 h1
  · obtain ⟨rfl, P⟩ := q1
    cases q2 with
    | cons u1 q2 => cases q2 with
      | cons u2 q2 => cases q2; exact sub1 P u1 u2 h2
end
end Mine
end
section
open PySem PySem.Calls PyProof.Rows PySem.W
set_option linter.unusedVariables false
namespace Mine
def tl (x : Str) : List Nat := x.cps.toList
def joinL (sep : List Nat) : List (List Nat) → List Nat
  | [] => []
  | [p] => p
  | p :: q :: r => p ++ sep ++ joinL sep (q :: r)
theorem tl_join (sep : Str) : ∀ parts : List Str, tl (Txt.join sep parts) = joinL (tl sep) (parts.map tl) := by
  intro parts
  show tl (Builtin.Str.glued sep parts) = _
  rw [StrLaws.glued_eq_join]
  induction parts with
  | nil => rfl
  | cons x r ih =>
    cases r with
    | nil => rfl
    | cons y r =>
      show (x.cps ++ sep.cps ++ (Str.join sep (y :: r)).cps).toList = _
      rw [Array.toList_append, Array.toList_append]
      show tl x ++ tl sep ++ tl (Str.join sep (y :: r)) = _
      rw [ih]
      rfl
theorem joinL_nil : ∀ parts : List (List Nat), joinL [] parts = parts.flatten
  | [] => rfl
  | [p] => by simp [joinL]
  | p :: q :: r => by rw [joinL, joinL_nil (q :: r)]; simp
theorem str_ext {a b : Str} (h : tl a = tl b) : a = b := by
  obtain ⟨a⟩ := a
  obtain ⟨b⟩ := b
  congr 1
  exact Array.toList_inj.mp h
/-- the first pattern's and the second pattern's work on a text -/
def rep2 : List Nat → List Nat
  | [] => []
  | 13 :: 10 :: t => 13 :: 10 :: rep2 t
  | c :: t => if isNl c = true then 13 :: 10 :: rep2 t else c :: rep2 t
def rep1 : Bool → List Nat → List Nat
  | _, [] => []
  | b, c :: t => if (b && c == 46) = true then 46 :: 46 :: rep1 false t else c :: rep1 (c == 10) t
theorem rep2_cons (c : Nat) (t : List Nat) (h : isNl c = false) : rep2 (c :: t) = c :: rep2 t := by
  rw [rep2.eq_def]
  split
  · rename_i h'; cases h'
  · rename_i h'; cases h'; simp [isNl] at h
  · rename_i h'; cases h'; rw [if_neg (by simp [h])]
theorem rep2_crlf (t : List Nat) : rep2 (13 :: 10 :: t) = 13 :: 10 :: rep2 t := by rw [rep2]
theorem rep2_nl (c : Nat) (t : List Nat) (h : isNl c = true) (h2 : ¬ (c = 13 ∧ ∃ t', t = 10 :: t')) : rep2 (c :: t) = 13 :: 10 :: rep2 t := by
  rw [rep2.eq_def]
  split
  · rename_i h'; cases h'
  · rename_i t' h'; cases h'; exact absurd ⟨rfl, _, rfl⟩ h2
  · rename_i h'; cases h'; rw [if_pos h]
theorem sub_tl (x : Str) (a b : Nat) : tl (subS x a b) = ((tl x).drop a).take (b - a) := by
  show (x.cps.extract a b).toList = _
  simp [tl, List.extract_eq_take_drop]
section
variable (x : Str)
theorem drop_at {st : Nat} (h : st < x.cps.size) : (tl x).drop st = x.cps.getD st 0 :: (tl x).drop (st + 1) := by
  have hl : st < (tl x).length := by simpa [tl] using h
  rw [List.drop_eq_getElem_cons hl]
  congr 1
  simp [tl, Array.getD, h]
theorem cut_at {st b : Nat} (h : st < b) (hb : st < x.cps.size) : ((tl x).drop st).take (b - st) = x.cps.getD st 0 :: ((tl x).drop (st + 1)).take (b - (st + 1)) := by
  rw [drop_at x hb, show b - st = (b - (st + 1)) + 1 by omega, List.take_succ_cons]
theorem find2_rep : ∀ k st, st + k = x.cps.size → match find2 x.cps x.cps.size k st with
    | none => rep2 ((tl x).drop st) = (tl x).drop st
    | some (b, e) => rep2 ((tl x).drop st) = ((tl x).drop st).take (b - st) ++ 13 :: 10 :: rep2 ((tl x).drop e) := by
  intro k
  induction k with
  | zero =>
    intro st h
    show rep2 _ = _
    rw [List.drop_of_length_le (by simp [tl]; omega)]
    rfl
  | succ k ih =>
    intro st h
    have hs : st < x.cps.size := by omega
    rw [find2]
    by_cases hn : isNl (x.cps.getD st 0) = true
    · rw [if_pos hn]
      show rep2 _ = _
      rw [Nat.sub_self, List.take_zero, List.nil_append, drop_at x hs]
      unfold len2
      by_cases h2 : x.cps.getD st 0 = 13 ∧ st + 1 < x.cps.size ∧ x.cps.getD (st + 1) 0 = 10
      · rw [if_pos h2, drop_at x h2.2.1, h2.1, h2.2.2, rep2_crlf]
      · rw [if_neg h2]
        refine rep2_nl _ _ hn fun q => h2 ⟨q.1, ?_⟩
        obtain ⟨t', ht⟩ := q.2
        by_cases h3 : st + 1 < x.cps.size
        · rw [drop_at x h3] at ht
          exact ⟨h3, (List.cons.inj ht).1⟩
        · rw [List.drop_of_length_le (by simp [tl]; omega)] at ht
          cases ht
    · rw [if_neg hn]
      have hn' : isNl (x.cps.getD st 0) = false := by simpa using hn
      have := ih (st + 1) (by omega)
      cases hf : find2 x.cps x.cps.size k (st + 1) with
      | none =>
        rw [hf] at this
        show rep2 _ = _
        rw [drop_at x hs, rep2_cons _ _ hn', this]
      | some p =>
        obtain ⟨b, e⟩ := p
        rw [hf] at this
        have hb := (find2_ok _ _ _ _ _ _ (by omega) hf).1
        show rep2 _ = _
        rw [cut_at x (by omega) hs, drop_at x hs, rep2_cons _ _ hn', this]
        rfl
def bol (x : Str) (st : Nat) : Bool := st == 0 || x.cps.getD (st - 1) 0 == 10
theorem find1_rep : ∀ k st, st + k = x.cps.size → match find1 x.cps k st with
    | none => rep1 (bol x st) ((tl x).drop st) = (tl x).drop st
    | some (b, e) => rep1 (bol x st) ((tl x).drop st) = ((tl x).drop st).take (b - st) ++ 46 :: 46 :: rep1 (bol x e) ((tl x).drop e) := by
  intro k
  induction k with
  | zero =>
    intro st h
    show rep1 _ _ = _
    rw [List.drop_of_length_le (by simp [tl]; omega)]
    rfl
  | succ k ih =>
    intro st h
    have hs : st < x.cps.size := by omega
    have eb : bol x (st + 1) = (x.cps.getD st 0 == 10) := by
      unfold bol
      rw [show (st + 1 == 0) = false by simp, Bool.false_or, Nat.add_sub_cancel]
    rw [find1]
    by_cases hn : hit1 x.cps st = true
    · rw [if_pos hn]
      show rep1 _ _ = _
      have h46 : x.cps.getD st 0 = 46 := by
        unfold hit1 at hn
        rw [Bool.and_eq_true] at hn
        simpa using hn.2
      have hb : (bol x st && x.cps.getD st 0 == 46) = true := hn
      rw [Nat.sub_self, List.take_zero, List.nil_append, drop_at x hs, rep1, if_pos hb, eb, h46]
      rfl
    · rw [if_neg hn]
      have hn' : ¬ (bol x st && x.cps.getD st 0 == 46) = true := hn
      have := ih (st + 1) (by omega)
      cases hf : find1 x.cps k (st + 1) with
      | none =>
        rw [hf] at this
        show rep1 _ _ = _
        rw [drop_at x hs, rep1, if_neg hn', ← eb, this]
      | some p =>
        obtain ⟨b, e⟩ := p
        rw [hf] at this
        have hb := (find1_ok _ _ _ _ _ hf).1
        show rep1 _ _ = _
        rw [cut_at x (by omega) hs, drop_at x hs, rep1, if_neg hn', ← eb, this]
        rfl
theorem pcs2 : ∀ k st, x.cps.size < st + k → st ≤ x.cps.size → ((pcs x crlfS (fnd2 x) k st).map tl).flatten = rep2 ((tl x).drop st) := by
  intro k
  induction k with
  | zero => intro st h1 h2; omega
  | succ k ih =>
    intro st h1 h2
    rw [pcs]
    have q := find2_rep x (x.cps.size - st) st (by omega)
    have e0 : fnd2 x st = find2 x.cps x.cps.size (x.cps.size - st) st := rfl
    rw [← e0] at q
    cases hf : fnd2 x st with
    | none =>
      rw [hf] at q
      rw [show rep2 ((tl x).drop st) = (tl x).drop st from q]
      dsimp only
      split
      · rw [List.map_cons, List.map_nil, List.flatten_cons, List.flatten_nil, List.append_nil, sub_tl, List.take_of_length_le (by simp [tl])]
      · rw [List.drop_of_length_le (by simp [tl]; omega)]; rfl
    | some p =>
      obtain ⟨b, e⟩ := p
      rw [hf] at q
      rw [show rep2 ((tl x).drop st) = _ from q]
      have ok := find2_ok _ _ _ _ _ _ (by omega) (e0.symm.trans hf)
      dsimp only
      rw [List.map_append, List.flatten_append, List.map_cons, List.flatten_cons, ih e (by omega) ok.2.2]
      have : tl crlfS = [13, 10] := rfl
      rw [this]
      split
      · rw [List.map_cons, List.map_nil, List.flatten_cons, List.flatten_nil, List.append_nil, sub_tl]; rfl
      · rw [show b - st = 0 by omega, List.take_zero]; rfl
theorem pcs1 : ∀ k st, x.cps.size < st + k → st ≤ x.cps.size → ((pcs x dotsS (fnd1 x) k st).map tl).flatten = rep1 (bol x st) ((tl x).drop st) := by
  intro k
  induction k with
  | zero => intro st h1 h2; omega
  | succ k ih =>
    intro st h1 h2
    rw [pcs]
    have q := find1_rep x (x.cps.size - st) st (by omega)
    have e0 : fnd1 x st = find1 x.cps (x.cps.size - st) st := rfl
    rw [← e0] at q
    cases hf : fnd1 x st with
    | none =>
      rw [hf] at q
      rw [show rep1 (bol x st) ((tl x).drop st) = (tl x).drop st from q]
      dsimp only
      split
      · rw [List.map_cons, List.map_nil, List.flatten_cons, List.flatten_nil, List.append_nil, sub_tl, List.take_of_length_le (by simp [tl])]
      · rw [List.drop_of_length_le (by simp [tl]; omega)]; rfl
    | some p =>
      obtain ⟨b, e⟩ := p
      rw [hf] at q
      rw [show rep1 (bol x st) ((tl x).drop st) = _ from q]
      have ok := find1_ok _ _ _ _ _ (e0.symm.trans hf)
      dsimp only
      rw [List.map_append, List.flatten_append, List.map_cons, List.flatten_cons, ih e (by omega) (by omega)]
      have : tl dotsS = [46, 46] := rfl
      rw [this]
      split
      · rw [List.map_cons, List.map_nil, List.flatten_cons, List.flatten_nil, List.append_nil, sub_tl]; rfl
      · rw [show b - st = 0 by omega, List.take_zero]; rfl
theorem quo2_tl : tl (quo2 x) = rep2 (tl x) := by
  unfold quo2
  rw [tl_join, show tl emptyS = [] from rfl, joinL_nil, pcs2 x _ 0 (by omega) (by omega), List.drop_zero]
theorem quo1_tl : tl (quo1 x) = rep1 true (tl x) := by
  unfold quo1
  rw [tl_join, show tl emptyS = [] from rfl, joinL_nil, pcs1 x _ 0 (by omega) (by omega), List.drop_zero]
  rfl
end
def mk1 (b : Bool) : List Nat := if b then [46] else [111, 111]
def mk2 (b : Bool) : List Nat := if b then [46, 46] else [111, 111]
theorem rep2_join (e : List Nat) (he : e = [10] ∨ e = [13] ∨ e = [13, 10]) : ∀ ms : List Bool, rep2 (joinL e (ms.map mk1)) = joinL [13, 10] (ms.map mk1)
  | [] => by rw [List.map_nil, joinL, joinL, rep2]
  | [m] => by cases m <;> (simp only [List.map_cons, List.map_nil, joinL, mk1]; simp [rep2_cons, isNl, rep2])
  | m :: m' :: ms => by
    have ih := rep2_join e he (m' :: ms)
    have hd : ∃ c t, joinL e ((m' :: ms).map mk1) = c :: t ∧ c ≠ 10 := by
      cases ms with
      | nil => cases m' <;> exact ⟨_, _, rfl, by decide⟩
      | cons m2 ms => cases m' <;> exact ⟨_, _, rfl, by decide⟩
    rw [List.map_cons, List.map_cons, joinL, joinL]
    rw [List.map_cons] at ih hd
    generalize joinL e (mk1 m' :: ms.map mk1) = R at ih hd
    rw [← ih]
    obtain ⟨c, t, rfl, hc⟩ := hd
    have body : rep2 (e ++ c :: t) = 13 :: 10 :: rep2 (c :: t) := by
      rcases he with rfl | rfl | rfl
      · exact rep2_nl _ _ rfl (by rintro ⟨q, _⟩; cases q)
      · exact rep2_nl _ _ rfl (by rintro ⟨_, t', q⟩; cases q; exact hc rfl)
      · exact rep2_crlf _
    cases m
    · show rep2 (111 :: 111 :: (e ++ c :: t)) = 111 :: 111 :: 13 :: 10 :: rep2 (c :: t)
      rw [rep2_cons _ _ rfl, rep2_cons _ _ rfl, body]
    · show rep2 (46 :: (e ++ c :: t)) = 46 :: 13 :: 10 :: rep2 (c :: t)
      rw [rep2_cons _ _ rfl, body]
theorem rep1_join : ∀ ms : List Bool, rep1 true (joinL [13, 10] (ms.map mk1)) = joinL [13, 10] (ms.map mk2)
  | [] => rfl
  | [m] => by cases m <;> rfl
  | m :: m' :: ms => by
    have ih := rep1_join (m' :: ms)
    rw [List.map_cons, List.map_cons, joinL, List.map_cons, List.map_cons, joinL]
    rw [List.map_cons, List.map_cons] at ih
    rw [← ih]
    cases m <;> rfl
end Mine
end
section
open PySem PySem.Calls PyProof.Rows PySem.W
set_option linter.unusedVariables false
namespace Mine
open PySem.StrLaws PySem.Builtin.Str
theorem at_crlf (y : Str) (k : Nat) : At y crlfS y.length k ↔ ∃ t, (tl y).drop k = 13 :: 10 :: t := by
  unfold At
  rw [subAt_eq]
  have e1 : crlfS.length = 2 := rfl
  have e2 : crlfS.cps.toList = [13, 10] := rfl
  rw [e1, e2, beq_iff_eq]
  show k + 2 ≤ y.cps.size ∧ ((tl y).drop k).take 2 = [13, 10] ↔ _
  constructor
  · rintro ⟨h1, h2⟩
    match h : (tl y).drop k with
    | [] => rw [h] at h2; cases h2
    | [a] => rw [h] at h2; cases h2
    | a :: b :: t =>
      rw [h] at h2
      simp only [List.take_succ_cons, List.take_zero] at h2
      cases h2
      exact ⟨t, rfl⟩
  · rintro ⟨t, h⟩
    refine ⟨?_, by rw [h]; rfl⟩
    have := congrArg List.length h
    simp only [List.length_drop, List.length_cons] at this
    have e : (tl y).length = y.cps.size := by simp [tl]
    omega
theorem sub_str (y : Str) (a b : Nat) : tl (strSub y a b) = ((tl y).drop a).take (b - a) := strSub_toList y a b
theorem split_chain (y : Str) : ∀ (parts : List (List Nat)) (cuts : List Nat) (a f : Nat), parts ≠ [] → (∀ p ∈ parts, ∀ c ∈ p, c ≠ 13) → (tl y).drop a = joinL [13, 10] parts → a ≤ y.cps.size → ChainG y crlfS y.length a cuts f → (∀ k, f ≤ k → ¬ At y crlfS y.length k) →
    (partsFrom y crlfS.length a cuts).map tl = parts
  | [], _, _, _, h, _, _, _, _, _ => absurd rfl h
  | [p], cuts, a, f, _, hp, hd, ha, hc, ht => by
    have no : ∀ k, a ≤ k → ¬ At y crlfS y.length k := by
      intro k hk hA
      obtain ⟨t, h⟩ := (at_crlf y k).mp hA
      have : 13 ∈ (tl y).drop k := by rw [h]; simp
      have e : (tl y).drop k = ((tl y).drop a).drop (k - a) := by rw [List.drop_drop]; congr 1; omega
      rw [e, hd] at this
      exact hp p (by simp) 13 (List.mem_of_mem_drop this) rfl
    cases cuts with
    | nil =>
      show [tl (strSub y a y.length)] = [p]
      rw [sub_str, hd]
      have := congrArg List.length hd
      simp only [List.length_drop] at this
      have e : (tl y).length = y.length := by simp [tl, Str.length]
      rw [e] at this
      rw [joinL] at this ⊢
      rw [List.take_of_length_le (by omega)]
    | cons c r => exact absurd hc.2.1 (no c hc.1)
  | p :: q :: r, cuts, a, f, _, hp, hd, ha, hc, ht => by
    rw [joinL] at hd
    have hlen : (tl y).length = y.cps.size := by simp [tl]
    have hd1 : (tl y).drop (a + p.length) = 13 :: 10 :: joinL [13, 10] (q :: r) := by
      rw [← List.drop_drop, hd]
      simp
    have hAt : At y crlfS y.length (a + p.length) := (at_crlf y _).mpr ⟨_, hd1⟩
    have no : ∀ k, a ≤ k → k < a + p.length → ¬ At y crlfS y.length k := by
      intro k hk hk2 hA
      obtain ⟨t, h⟩ := (at_crlf y k).mp hA
      have e : (tl y).drop k = ((tl y).drop a).drop (k - a) := by rw [List.drop_drop]; congr 1; omega
      rw [e, hd, List.append_assoc, List.drop_append_of_le_length (by omega)] at h
      have hne : p.drop (k - a) ≠ [] := by
        intro z
        have := congrArg List.length z
        simp only [List.length_drop, List.length_nil] at this
        omega
      obtain ⟨c, u, hu⟩ := List.exists_cons_of_ne_nil hne
      rw [hu] at h
      have : c = 13 := (List.cons.inj h).1
      exact hp p (by simp) c (List.mem_of_mem_drop (by rw [hu]; simp)) this
    cases cuts with
    | nil =>
      have : f = a := hc
      exact absurd hAt (ht _ (by omega))
    | cons c cs =>
      obtain ⟨h1, h2, h3, h4⟩ := hc
      have ec : c = a + p.length := by
        rcases Nat.lt_trichotomy c (a + p.length) with z | z | z
        · exact absurd h2 (no c h1 z)
        · exact z
        · exact absurd hAt (h3 _ (by omega) z)
      subst ec
      have hd2 : (tl y).drop (a + p.length + crlfS.length) = joinL [13, 10] (q :: r) := by
        rw [← List.drop_drop, hd1]
        rfl
      have hle : a + p.length + 2 ≤ y.cps.size := by
        have := congrArg List.length hd1
        simp only [List.length_drop, List.length_cons] at this
        omega
      show tl (strSub y a (a + p.length)) :: (partsFrom y crlfS.length (a + p.length + crlfS.length) cs).map tl = _
      rw [split_chain y (q :: r) cs _ f (by simp) (fun p' m => hp p' (by simp only [List.mem_cons] at m ⊢; exact .inr m)) hd2 hle h4 ht, sub_str, hd]
      congr 1
      rw [Nat.add_sub_cancel_left, List.append_assoc, List.take_append_of_le_length (Nat.le_refl _), List.take_length]
theorem split_crlf (y : Str) (parts : List (List Nat)) (hne : parts ≠ []) (hp : ∀ p ∈ parts, ∀ c ∈ p, c ≠ 13) (hy : tl y = joinL [13, 10] parts) : (Txt.split y crlfS).map tl = parts := by
  have short : ∀ h : (occurrences y crlfS 0 y.length (y.length + 1)) = [], [tl y] = parts := by
    intro h
    obtain ⟨f, h1, h2⟩ := occ_tight y crlfS (by decide)
    rw [h] at h1
    have := split_chain y parts [] 0 f hne hp (by rw [List.drop_zero]; exact hy) (Nat.zero_le _) h1 h2
    have e : tl (strSub y 0 y.length) = tl y := by rw [sub_whole]
    rw [← this]
    show _ = [tl (strSub y 0 y.length)]
    rw [e]
  unfold Txt.split
  split
  · rename_i h
    have hno : ∀ k, ¬ At y crlfS y.length k := by
      intro k hA
      have hk : Builtin.Str.strKind crlfS = 1 := by decide +kernel
      rw [hk] at h
      rcases Bool.or_eq_true _ _ |>.mp h with q | q
      · have := of_decide_eq_true q
        have := hA.1
        omega
      · have := of_decide_eq_true q
        have : 1 ≤ Builtin.Str.strKind y := by
          unfold Builtin.Str.strKind
          split
          · exact Nat.le_refl _
          · split <;> decide
        omega
    have hocc : occurrences y crlfS 0 y.length (y.length + 1) = [] := by
      obtain ⟨f, h1, h2⟩ := occ_tight y crlfS (by decide)
      cases ho : occurrences y crlfS 0 y.length (y.length + 1) with
      | nil => rfl
      | cons c r => rw [ho] at h1; exact absurd h1.2.1 (hno c)
    exact short hocc
  · split
    · rename_i h
      exact short (by simpa using h)
    · obtain ⟨f, h1, h2⟩ := occ_tight y crlfS (by decide)
      rw [partsBetween_eq]
      exact split_chain y parts _ 0 f hne hp (by rw [List.drop_zero]; exact hy) (Nat.zero_le _) h1 h2
end Mine
end
section
open PySem PySem.Calls PyProof.Rows PySem.W
set_option linter.unusedVariables false
namespace Mine
open PySem.Builtin PySem.Builtin.Str in
theorem rfs_strs {h : Heap} : ∀ l : List (Str × Tok), Rfs h (strValues l) ((l.map (·.1)).map FV.str)
  | [] => .nil
  | (x, t) :: l => .cons (.str x t) (rfs_strs l)
section
variable {prog : Program} {w : World} {A : Around} {s : Shared}
open PySem.Builtin PySem.Builtin.Str in
/-- x.split(y): whichever of its three roads it takes, a new list of the parts -/
theorem Fn.split {h₀ : Heap} {x y : Str} {v1 v2 : Value} (k : Kp h₀ s.heap) (hy : (y.length == 0) = false) (hz : x.length ≤ 1000) (hn : (Txt.split x y).length ≤ 1000) (r1 : Rf s.heap v1 (.str x)) (r2 : Rf s.heap v2 (.str y)) :
    Ev prog w A s (call (.builtin "str.split") [v1, v2]) (Nw h₀ ((Txt.split x y).map FV.str)) := by
  obtain ⟨t, rfl⟩ : ∃ t, v1 = .str x t := by cases r1; exact ⟨_, rfl⟩
  obtain ⟨u, rfl⟩ : ∃ u, v2 = .str y u := by cases r2; exact ⟨_, rfl⟩
  have line : 1000 ≤ sizeLine := by rw [sizeLine_eq]; decide
  refine Ev.of fun Q E h0 hQ => ?_
  have gives : ∀ {l : List (Str × Tok)} {tk : Nat}, Txt.split x y = l.map (·.1) → Q (.ref s.heap.objs.size) { s with heap := s.heap.push { cls := .type "list", data := .seq (strValues l).toArray }, toks := tk } := fun {l tk} parts =>
    hQ (.ref s.heap.objs.size) _ tk (Kp.push _ _) ⟨s.heap.objs.size, rfl, fresh_at k, strValues l, 0, Heap.get?_push_size _ rfl, parts ▸ rfs_strs l⟩
  have road {spec} (m : Meets («str.split» ⟨[.str x t, .str y u], []⟩) spec) := call_meets (prog := prog) (w := w) (A := A) (Q := Q) (E := E) (s := s) F.slot_str_split (typeIs_str _ _ _) F.entry_str_split (F.args_str_split_2 (.str x t) (.str y u)) m
  by_cases never : (decide (x.length < y.length) || decide (strKind x < strKind y)) = true
  · exact road (meets_str_split_cannot_occur x y t u never) (gives (l := [(x, t)]) (if_pos never))
  have may := Bool.eq_false_iff.mpr never
  by_cases nowhere : (occurrences x y 0 x.length (x.length + 1)).isEmpty = true
  · exact road (meets_str_split_not_found x y t u may hy nowhere) (gives (l := [(x, t)]) ((if_neg never).trans (if_pos nowhere)))
  have parts : Txt.split x y = partsBetween x (occurrences x y 0 x.length (x.length + 1)) y.length := (if_neg never).trans (if_neg nowhere)
  refine road (meets_str_split_sep x y t u may hy (Bool.eq_false_iff.mpr nowhere) (Nat.le_trans hz line) (parts ▸ Nat.le_trans hn line)) ?_
  rw [strsFrom_eq, ← parts]
  exact gives (numbered_texts s.toks (Txt.split x y)).symm
theorem Fn.join {x : Str} {texts : List Str} {v1 v2 : Value} (hz : x.length ≤ 10) (hn : texts.length ≤ 1000) (hy : ∀ y ∈ texts, y.length ≤ 10) (r1 : Rf s.heap v1 (.str x)) (r2 : Ls (texts.map FV.str) v2 s.heap) :
    Ev prog w A s (call (.builtin "str.join") [v1, v2]) (F (.str (Txt.join x texts))) := by
  cases r1 with
  | str _ t =>
    obtain ⟨a, rfl, vs, m, e, rs⟩ := r2
    obtain ⟨l, rfl, hl⟩ := strs_of rs
    refine Ev.of fun Q E h0 hQ => SC.join (l := l) (texts := texts) ⟨_, e, rfl, m, rfl⟩ hl ?_ fun t' k' => hQ _ s.heap k' (Kp.refl _) (.str _ _)
    have h1 : texts.length * 10 ≤ 10000 := by omega
    have h2 : texts.length * x.length ≤ 10000 := Nat.le_trans (Nat.mul_le_mul_left _ hz) h1
    have := StrLaws.joinFits (sep := x) (B := 10) hy (by omega)
    unfold JoinOk
    rw [Bool.not_eq_true']
    exact this
theorem Fn.count {x y : Str} {v1 v2 : Value} (r1 : Rf s.heap v1 (.str x)) (r2 : Rf s.heap v2 (.str y)) : Ev prog w A s (call (.builtin "str.count") [v1, v2]) (F (.int (Txt.count x y))) := by
  cases r1; cases r2
  exact Ev.of fun Q E h0 hQ => SC.count (hQ _ s.heap _ (Kp.refl _) (.int _ _))
end
/-- boards: n rows, g tells the red cells -/
def figB (b : Bool) : Nat := if b then 1 else 2
def letB (b : Bool) : UInt8 := if b then 66 else 67
def wordsB (g : Nat → Nat → Bool) (n : Nat) : List (List UInt8) := (List.range n).map fun r => (List.range (r + 1)).map fun c => letB (g r c)
def marksB (g : Nat → Nat → Bool) (n : Nat) : List Bool := (List.range n).flatMap fun r => (List.range (r + 1)).map (g r)
def maj (a b c : Bool) : Bool := (a && b) || (a && c) || (b && c)
def red (g : Nat → Nat → Bool) : Nat → Nat → Bool := fun r c => maj (g r c) (g (r + 1) c) (g (r + 1) (c + 1))
def str1 (b : Bool) : Str := if b then "." else "oo"
def str2 (b : Bool) : Str := if b then ".." else "oo"
theorem tl_str1 (b : Bool) : tl (str1 b) = mk1 b := by cases b <;> rfl
theorem tl_str2 (b : Bool) : tl (str2 b) = mk2 b := by cases b <;> rfl
theorem three (a b c : Bool) : (Txt.count (str2 a ++ str2 b ++ str2 c) "." : Int) = 2 * ((cond a 1 0) + (cond b 1 0) + (cond c 1 0)) ∧ (Txt.count (str2 a ++ str2 b ++ str2 c) "o" : Int) = 6 - 2 * ((cond a 1 0) + (cond b 1 0) + (cond c 1 0)) := by
  cases a <;> cases b <;> cases c <;> decide +kernel
theorem jd_any (a b c : Bool) : Jd (2 * ((cond a 1 0) + (cond b 1 0) + (cond c 1 0)) : Int) (6 - 2 * ((cond a 1 0) + (cond b 1 0) + (cond c 1 0)) : Int) (figB (maj a b c) : Nat) := by
  cases a <;> cases b <;> cases c <;> first | exact jd0 | exact jd1 | exact jd2 | exact jd3
end Mine
end
section
open PySem PySem.Calls PyProof.Rows PySem.W
set_option linter.unusedVariables false
namespace Mine
theorem tri_succ (r : Nat) : tri (r + 1) = tri r + r + 1 := by
  unfold tri
  have h : (r + 1) * (r + 1 + 1) = r * (r + 1) + (r + 1) * 2 := by
    rw [Nat.mul_comm r (r + 1), ← Nat.mul_add]
  rw [h, Nat.add_mul_div_right _ _ (by decide)]
  omega
theorem marks_len (g : Nat → Nat → Bool) (n : Nat) : (marksB g n).length = tri n := by
  induction n with
  | zero => rfl
  | succ n ih =>
    unfold marksB at ih ⊢
    rw [List.range_succ, List.flatMap_append, List.length_append, ih, tri_succ]
    simp
    omega
theorem marks_get (g : Nat → Nat → Bool) (n r c : Nat) (hr : r < n) (hc : c ≤ r) : (marksB g n)[tri r + c]? = some (g r c) := by
  induction n with
  | zero => omega
  | succ n ih =>
    have e : marksB g (n + 1) = marksB g n ++ (List.range (n + 1)).map (g n) := by
      unfold marksB
      rw [show List.range (n + 1) = List.range n ++ [n] from List.range_succ, List.flatMap_append, List.flatMap_cons, List.flatMap_nil, List.append_nil]
      simp only [List.range_succ]
    rw [e]
    by_cases h : r < n
    · have := ih h
      rw [List.getElem?_append_left (List.getElem?_eq_some_iff.mp this).1]
      exact this
    · have hrn : r = n := by omega
      subst hrn
      rw [List.getElem?_append_right (by rw [marks_len]; omega), marks_len, Nat.add_sub_cancel_left, List.getElem?_map, List.getElem?_range (by omega)]
      rfl
theorem tri_lt (r c n : Nat) (hr : r < n) (hc : c ≤ r) : tri r + c < tri n := by
  have := marks_get (fun _ _ => true) n r c hr hc
  have := (List.getElem?_eq_some_iff.mp this).1
  rwa [marks_len] at this
def esW : FV → List FV | .bytes b => b.toList.map fun c => FV.int c.toNat | _ => []
def gW (_ : FV) : FV → FV | .int k => .str (if k == 66 then "." else "oo") | _ => .none
theorem flat_one {α β : Type} (l : List α) (h : α → β) : (l.flatMap fun e => [h e]) = l.map h := by
  induction l with
  | nil => rfl
  | cons a l ih => rw [List.flatMap_cons, ih]; rfl
theorem marks_eq (g : Nat → Nat → Bool) (n : Nat) : (((wordsB g n).map encB).flatMap fun d => (esW d).flatMap fun e => if true then [gW d e] else []) = (marksB g n).map fun b => FV.str (str1 b) := by
  unfold wordsB marksB
  rw [List.flatMap_map, List.flatMap_map, List.map_flatMap]
  refine congrArg (fun f => (List.range n).flatMap f) (funext fun r => ?_)
  show ((((List.range (r + 1)).map fun c => letB (g r c)).toArray.toList.map fun c => FV.int c.toNat).flatMap fun e => [gW _ e]) = _
  rw [flat_one, List.toList_toArray, List.map_map, List.map_map, List.map_map]
  refine congrArg (fun f => (List.range (r + 1)).map f) (funext fun c => ?_)
  show gW FV.none (FV.int (letB (g r c)).toNat) = FV.str (str1 (g r c))
  cases g r c <;> rfl
end Mine
end
section
open PySem PySem.Calls PyProof.Rows PySem.W
set_option linter.unusedVariables false
namespace Mine
/-- the kinds of end -/
def EndOk (e : Str) : Prop := e.length ≤ 2 ∧ (tl e = [10] ∨ tl e = [13] ∨ tl e = [13, 10])
theorem joinL_len (sep : List Nat) (hs : sep.length ≤ 2) : ∀ parts : List (List Nat), (∀ p ∈ parts, p.length ≤ 2) → (joinL sep parts).length ≤ 4 * parts.length
  | [], _ => Nat.zero_le _
  | [p], h => by have := h p (by simp); simp only [joinL, List.length_cons, List.length_nil]; omega
  | p :: q :: r, h => by
    have h1 := h p (by simp)
    have h2 := joinL_len sep hs (q :: r) (fun p m => h p (by simp only [List.mem_cons] at m ⊢; exact .inr m))
    rw [joinL, List.length_append, List.length_append]
    simp only [List.length_cons] at h2 ⊢
    omega
theorem tl_len (x : Str) : (tl x).length = x.cps.size := by simp [tl]
theorem mk1_len (b : Bool) : (mk1 b).length ≤ 2 := by cases b <;> decide
theorem mk2_len (b : Bool) : (mk2 b).length ≤ 2 := by cases b <;> decide
/-- the mail goes out and comes back -/
theorem mail (e : Str) (he : EndOk e) (ms : List Bool) (hn : ms ≠ []) (hl : ms.length ≤ 21) :
    (Txt.join e (ms.map str1)).cps.size ≤ 1000 ∧ (quo2 (Txt.join e (ms.map str1))).cps.size ≤ 1000 ∧ (quo1 (quo2 (Txt.join e (ms.map str1)))).length ≤ 1000 ∧ Txt.split (quo1 (quo2 (Txt.join e (ms.map str1)))) crlfS = ms.map str2 := by
  have t0 : tl (Txt.join e (ms.map str1)) = joinL (tl e) (ms.map mk1) := by
    rw [tl_join, List.map_map]
    congr 1
    exact List.map_congr_left fun b _ => tl_str1 b
  have t1 : tl (quo2 (Txt.join e (ms.map str1))) = joinL [13, 10] (ms.map mk1) := by rw [quo2_tl, t0, rep2_join _ he.2]
  have t2 : tl (quo1 (quo2 (Txt.join e (ms.map str1)))) = joinL [13, 10] (ms.map mk2) := by rw [quo1_tl, t1, rep1_join]
  have p1 : ∀ p ∈ ms.map mk1, p.length ≤ 2 := fun p m => by obtain ⟨b, _, rfl⟩ := List.mem_map.mp m; exact mk1_len b
  have p2 : ∀ p ∈ ms.map mk2, p.length ≤ 2 := fun p m => by obtain ⟨b, _, rfl⟩ := List.mem_map.mp m; exact mk2_len b
  have el : (tl e).length ≤ 2 := by rw [tl_len]; exact he.1
  refine ⟨?_, ?_, ?_, ?_⟩
  · rw [← tl_len, t0]
    have := joinL_len (tl e) el _ p1
    rw [List.length_map] at this
    omega
  · rw [← tl_len, t1]
    have := joinL_len [13, 10] (by decide) _ p1
    rw [List.length_map] at this
    omega
  · show (quo1 (quo2 (Txt.join e (ms.map str1)))).cps.size ≤ 1000
    rw [← tl_len, t2]
    have := joinL_len [13, 10] (by decide) _ p2
    rw [List.length_map] at this
    omega
  · have := split_crlf _ (ms.map mk2) (by simpa using hn) (fun p m c hc => by
      obtain ⟨b, _, rfl⟩ := List.mem_map.mp m
      cases b <;> simp [mk2] at hc <;> omega) t2
    have inj : ∀ (a b : List Str), a.map tl = b.map tl → a = b := by
      intro a
      induction a with
      | nil => intro b h; cases b with | nil => rfl | cons => simp at h
      | cons x a ih =>
        intro b h
        cases b with
        | nil => simp at h
        | cons y b =>
          simp only [List.map_cons, List.cons.injEq] at h
          rw [str_ext h.1, ih b h.2]
    apply inj
    rw [this, List.map_map]
    exact (List.map_congr_left fun b _ => tl_str2 b).symm
section
variable {prog : Program} {w : World} {A : Around} {s : Shared} {mg mb : Str → Option Value}
def Ab (g : Nat → Nat → Bool) (n : Nat) (e : Str) : List Value → Heap → Prop := fun vs h => ∃ a v, vs = [.ref a, v] ∧ Li h a ((wordsB g n).map encB) ∧ Rf h v (.str e)
theorem str_ty {x : Str} {v : Value} (p : F (.str x) v s.heap) : s.TypeIs v "str" ∧ ∀ a, v = .ref a → ∃ ob, s.heap.get? a = some ob ∧ ob.dict = none := by
  cases p
  exact ⟨typeIs_str _ _ _, fun a e => nomatch e⟩
theorem shorter {n : Nat} {g : Nat → Nat → Bool} {e : Str} (rm : Rm A 12) (G : Gm mg mb s.heap) (Gp : Gq mg s.heap) {a : Addr} (ha : mg "_law_shorter_board" = some (.ref a)) {vs : List Value} (r : Ab g n e vs s.heap) (hn : n ≤ 6) (hn1 : 1 ≤ n) (he : EndOk e) :
    Ev prog w A s (call (.ref a) vs) (Nw s.heap (rowsV (fun r c => figB (red g r c)) (n - 1))) := by
  obtain ⟨a', o, pm, code, doc, e1, e2, e3, e4⟩ := G.sb
  rw [ha] at e1
  cases e1
  obtain ⟨wa, ev, rfl, lw, re⟩ := r
  obtain ⟨qa, qo, qpm, qcode, qdoc, qe1, qe2, qe3, qe4⟩ := id G.qd
  obtain ⟨ja, jo, jpm, jcode, jdoc, je1, je2, je3, je4⟩ := id G.jd
  have hml : (marksB g n).length = tri n := marks_len g n
  have htri : ∀ k ≤ 6, tri k ≤ 21 := by decide
  have htri1 : 1 ≤ tri n := by
    have := tri_lt 0 0 n (by omega) (Nat.le_refl _)
    omega
  have hm21 : (marksB g n).length ≤ 21 := by rw [hml]; exact htri n hn
  have hmne : marksB g n ≠ [] := by intro z; rw [z] at hml; simp at hml; omega
  obtain ⟨m1, m2, m3, m4⟩ := mail e he (marksB g n) hmne hm21
  refine Ev.callY (n := 11) ["words", "end"] (.cons (d := .list wa) rfl (.cons (d := .flat _) re .nil)) rm e2 e3 G.lim e4 fun h₁ kp₁ rm₁ b => ?_
  have lw₁ := lw.kp kp₁
  have hz : (((wordsB g n).map encB).flatMap fun d => (esW d).flatMap fun e => if true then [gW d e] else []).length ≤ 21 := by
    rw [marks_eq, List.length_map]; exact hm21
  refine X.seq (X.comp (cl := []) (ds := (wordsB g n).map encB) (G := fun d => (esW d).flatMap fun e => if true then [gW d e] else []) b TurnIs.two (b.nl lw₁) (fun s' v k r => by
      obtain ⟨c, rfl, l⟩ := r
      exact Itb.list rm₁ l)
    (Turn.two (PI2 := fun d v h => Rf h v d ∧ ∃ l, d = encB l) (es := esW) (b := fun _ _ => true) (g := gW) (by decide) rfl rfl ?_ ?_ ?_ (by have := sizeLine_eq; omega))) fun h₂ b₂ => ?_
  · intro C h₃ m₃ d v kp fC hn₃ hm hd rv
    obtain ⟨l, _, rfl⟩ := List.mem_map.mp hd
    exact (EV.loc hn₃ hm rv).mono fun v h' _ p => ⟨p, l, rfl⟩
  · rintro d s' v hd ⟨rv, l, rfl⟩
    cases rv
    exact Itf.bytes rm₁
  · intro C h₃ m₃ d v e' u kp fC hn₃ hm hmy hd hel rv ru
    refine ⟨TS.nil, fun _ => ?_⟩
    obtain ⟨l, _, rfl⟩ := List.mem_map.mp hd
    obtain ⟨c, _, rfl⟩ := List.mem_map.mp hel
    show EV _ _ _ _ _ _ (F (.str (if ((c.toNat : Int)) == 66 then "." else "oo")))
    refine EV.ite (c := ((c.toNat : Int) == 66)) (TV.cmpF (EV.loc hn₃ hmy ru) EV.cint Cm.eq) (fun hc => ?_) (fun hc => ?_)
    · rw [hc]; exact EV.cstr
    · rw [hc]; exact EV.cstr
  obtain ⟨ma, b₂⟩ := b₂
  rw [marks_eq] at b₂
  have kp₂ := b₂.kp
  have G₂ := G.kp kp₂
  have Q₂ := Gp.kp kp₂
  have kpAll : ∀ {h : Heap}, Kp h₂ h → Kp s.heap h := fun k => Kp.trans kp₂ k
  have lms : Li h₂ ma (((marksB g n).map str1).map FV.str) := by
    have := b₂.li (ma, _) (.head _)
    rw [List.map_map]
    exact this
  refine X.seq (X.assignN (ds := ((marksB g n).map str2).map FV.str) b₂ (EV.meth (P1 := F (.str (quo1 (quo2 (Txt.join e ((marksB g n).map str1)))))) (P2 := Fs [.str crlfS]) F.plainAttrs_str F.slot_str_split F.type_str_split
    (EV.callD (G₂.gl qe1) (kp₂ _ _ qe2) qe3 (AV.consF (EV.meth (P1 := F (.str e)) (P2 := V1 (Ls (((marksB g n).map str1).map FV.str))) F.plainAttrs_str F.slot_str_join F.type_str_join b₂.n F.later (fun s v p => str_ty p) (AV.one (b₂.nl lms) Ls.later) fun s v vs k q1 q2 => ?_) AV.nilF)
      fun s vs k r => quotedata (rm₁.less (by omega)) (G.kp (kpAll k)) (Gp.kp (kpAll k)) qe1 r m1 m2)
    F.later (fun s v p => str_ty p) (AV.consF EV.cstr AV.nilF) fun s v vs k q1 q2 => ?_)) fun h₃ b₃ => ?_
  · obtain ⟨u, rfl, q2⟩ := q2
    exact Fn.join (Nat.le_trans he.1 (by decide)) (by rw [List.length_map]; omega) (fun y m => by
      obtain ⟨b, _, rfl⟩ := List.mem_map.mp m
      cases b <;> decide) q1 q2
  · cases q2 with
    | cons u1 q2 =>
      cases q2
      rw [← m4]
      exact Fn.split k (by decide) m3 (by rw [m4, List.length_map]; omega) q1 u1
  obtain ⟨ha, b₃⟩ := b₃
  have G₃ := G.kp b₃.kp
  refine X.seq (P := fun h' => Kp h₃ h') (X.if (TV.cmpF (EV.callB (G₃.bi G.no.2.2.2.2.1) (AV.one (b₃.nl (b₃.li (ha, _) (.head _))) Ls.later) fun s vs _ r => Fn.len r (by rw [List.length_map, List.length_map]; omega))
      (EV.callB (G₃.bi G.no.2.2.2.2.1) (AV.one (b₃.nl (b₃.li (ma, _) (.tail _ (.head _)))) Ls.later) fun s vs _ r => Fn.len r (by rw [List.length_map]; omega)) Cm.ne) (fun h' kp hc => ?_) fun h' kp hc => X.nil ⟨rfl, kp⟩) fun h₄ kp₄ => ?_
  · rw [List.length_map, List.length_map, List.length_map] at hc
    simp at hc
  have b₄ := b₃.keep kp₄
  refine X.seq (X.assignN b₄ (EV.list AV.nilF)) fun h₅ b₅ => ?_
  obtain ⟨ra, b₅⟩ := b₅
  have lw₅ := lw.kp b₅.kp
  have G₅ := G.kp b₅.kp
  have hwl : ((wordsB g n).map encB).length = n := by rw [List.length_map]; simp [wordsB]
  refine X.seq (X.for (ds := ups 0 (n - 1)) (fun i => ([("rows", .list ra), ("heard", .list ha), ("words", .list wa)], [(ra, rowsV (fun r c => figB (red g r c)) i), (ha, ((marksB g n).map str2).map FV.str), (ma, (marksB g n).map fun b => FV.str (str1 b))])) (b₅.sub ⟨rfl, rfl, rfl, trivial⟩)
    (EV.callT (PS := Fs [.int ((n - 1 : Nat) : Int)]) (G₅.bi G.no.2.2.2.1) (AV.consF ?_ AV.nilF) fun s vs _ r => Fn.range1 r) (fun s v k r => Rg.itf (m := n - 1) rm₁ (by omega) (by omega) (by simpa using r)) (fun _ _ => rfl) ?_) fun h₆ b₆ => ?_
  · skip
    have e1 : ((n - 1 : Nat) : Int) = ((((wordsB g n).map encB).length : Nat) : Int) - 1 := by rw [hwl]; omega
    rw [e1]
    exact EV.binF (EV.callB (G₅.bi G.no.2.2.2.2.1) (AV.one (b₅.nl lw₅) Ls.later) fun s vs _ r => Fn.len r (by rw [hwl]; omega)) EV.cint Bin.sub
  · intro B' i d h' hB hd b
    have hi : i < n - 1 := by
      have := (List.getElem?_eq_some_iff.mp hd).1
      rwa [ups_len] at this
    rw [ups_get hi] at hd
    cases hd
    simp only [Int.zero_add] at b
    generalize hfr : (fun r c => figB (red g r c)) = fr at b ⊢
    refine X.seq (X.assign b EV.cint) fun h₆ b₆ => ?_
    have kp₆ : Kp s.heap h₆ := fun c o e => b₆.kp c o (hB _ _ e)
    have G₆ := G.kp kp₆
    have b₇ := b₆.sub (D' := [("number", .flat (.int (num16 (rowF fr i 0) : Nat))), ("row", .flat (.int i)), ("rows", .list ra), ("heard", .list ha), ("words", .list wa)]) ⟨rfl, rfl, rfl, rfl, rfl, trivial⟩
    refine X.seq (X.for (ds := ups 0 (i + 1)) (fun j => ([("number", .flat (.int (num16 (rowF fr i j) : Nat))), ("row", .flat (.int i)), ("rows", .list ra), ("heard", .list ha), ("words", .list wa)], [(ra, rowsV fr i), (ha, ((marksB g n).map str2).map FV.str), (ma, (marksB g n).map fun b => FV.str (str1 b))])) b₇
      (EV.callT (G₆.bi G.no.2.2.2.1) (AV.consF (EV.binF b₇.n EV.cint Bin.add) AV.nilF) fun s vs _ r => Fn.range1 r) (fun s v k r => Rg.itf (m := i + 1) rm₁ (by omega) (by omega) (by simpa using r)) (fun _ _ => rfl) ?_) fun h₈ b₈ => ?_
    · intro B2 j d h9 hB2 hd b₉
      have hj : j < i + 1 := by
        have := (List.getElem?_eq_some_iff.mp hd).1
        rwa [ups_len] at this
      rw [ups_get hj] at hd
      cases hd
      simp only [Int.zero_add] at b₉
      have et : ((i : Int) * ((i : Int) + 1)).fdiv 2 = (tri i : Nat) := by
        rw [Int.fdiv_eq_ediv_of_nonneg _ (by decide)]
        unfold tri
        push_cast
        rfl
      have ts := tri_succ i
      have g1 := marks_get g n i j (by omega) (by omega)
      have g2 := marks_get g n (i + 1) j (by omega) (by omega)
      have g3 := marks_get g n (i + 1) (j + 1) (by omega) (by omega)
      have l3 := (List.getElem?_eq_some_iff.mp g3).1
      refine X.seq (X.assign b₉ (EV.binF (EV.binF (EV.binF b₉.n (EV.binF b₉.n EV.cint Bin.add) (Bin.mul (mulOk (by omega)))) EV.cint (Bin.fdiv (by decide) (PyProof.noPylong_small (by decide)))) b₉.n Bin.add)) fun h10 b10 => ?_
      rw [et] at b10
      refine X.seq (X.assign b10 (EV.binF (EV.binF b10.n b10.n Bin.add) EV.cint Bin.add)) fun h11 b11 => ?_
      have lh : Li h11 ha (((marksB g n).map str2).map FV.str) := b11.li (ha, _) (.tail _ (.head _))
      have item : ∀ (k : Nat) (x : Bool) (z : Int) (A : Around) (s : Shared) (o i : Value), (marksB g n)[k]? = some x → z = k → Ls (((marksB g n).map str2).map FV.str) o s.heap → F (.int z) i s.heap →
          (∃ T id, s.TypeIs o T ∧ typeLookup (.type T) "__getitem__" = pure (some (.builtin id))) ∧ Ev prog w A s (getItem o i) (F (.str (str2 x))) := by
        rintro k x z A s o i hk rfl ⟨c, rfl, l⟩ q
        cases q
        have hlt := (List.getElem?_eq_some_iff.mp hk).1
        refine item_list l (by omega) (by omega) ?_
        rw [Int.toNat_natCast, List.getElem?_map, List.getElem?_map, hk]
        rfl
      have s2 : ∀ b : Bool, (str2 b).length = 2 := by decide
      refine X.seq (X.assign b11 (EV.binF (EV.binF (EV.sub (b11.nl lh) b11.n Ls.later fun s o x _ r q => item (tri i + j) (g i j) _ _ s o x g1 (by push_cast; rfl) r q) (EV.sub (b11.nl lh) b11.n Ls.later fun s o x _ r q => item (tri (i + 1) + j) (g (i + 1) j) _ _ s o x g2 (by rw [ts]; push_cast; omega) r q) (Bin.str ?_))
        (EV.sub (b11.nl lh) (EV.binF b11.n EV.cint Bin.add) Ls.later fun s o x _ r q => item (tri (i + 1) + (j + 1)) (g (i + 1) (j + 1)) _ _ s o x g3 (by rw [ts]; push_cast; omega) r q) (Bin.str ?_))) fun h12 b12 => ?_
      · rw [s2, s2, sizeLine_eq]; decide
      · show (str2 (g i j) ++ str2 (g (i + 1) j)).length + _ ≤ _
        rw [Str.length_append, s2, s2, s2, sizeLine_eq]; decide
      have kp12 : Kp s.heap h12 := fun c o e => b12.kp c o (hB2 _ _ (hB _ _ e))
      have G12 := G.kp kp12
      obtain ⟨cn1, cn2⟩ := three (g i j) (g (i + 1) j) (g (i + 1) (j + 1))
      have J := jd_any (g i j) (g (i + 1) j) (g (i + 1) (j + 1))
      rw [← cn2, ← cn1] at J
      have small : ∀ a b c : Bool, ((2 * ((cond a 1 0) + (cond b 1 0) + (cond c 1 0)) : Int)).natAbs < 2 ^ 60 ∧ ((6 - 2 * ((cond a 1 0) + (cond b 1 0) + (cond c 1 0)) : Int)).natAbs < 2 ^ 60 := by decide
      have sm := small (g i j) (g (i + 1) j) (g (i + 1) (j + 1))
      rw [← cn2, ← cn1] at sm
      refine X.seq (X.assign b12 (EV.callD (G12.gl je1) (kp12 _ _ je2) je3 (AV.consF (EV.meth (P1 := F (.str (str2 (g i j) ++ str2 (g (i + 1) j) ++ str2 (g (i + 1) (j + 1))))) (P2 := Fs [.str "."]) F.plainAttrs_str F.slot_str_count F.type_str_count b12.n F.later (fun s v p => str_ty p) (AV.consF EV.cstr AV.nilF) fun s v vs k q1 q2 => ?_)
        (AV.consF (EV.meth (P1 := F (.str (str2 (g i j) ++ str2 (g (i + 1) j) ++ str2 (g (i + 1) (j + 1))))) (P2 := Fs [.str "o"]) F.plainAttrs_str F.slot_str_count F.type_str_count b12.n F.later (fun s v p => str_ty p) (AV.consF EV.cstr AV.nilF) fun s v vs k q1 q2 => ?_) AV.nilF))
        fun s vs k r => judged (rm₁.less (by omega)) (G.kp (kp12.trans k)) je1 r J sm.1 sm.2)) fun h13 b13 => ?_
      · cases q2 with
        | cons u1 q2 => cases q2; exact Fn.count q1 u1
      · cases q2 with
        | cons u1 q2 => cases q2; exact Fn.count q1 u1
      have hfig : figB (maj (g i j) (g (i + 1) j) (g (i + 1) (j + 1))) = fr i j := by rw [← hfr]; rfl
      rw [hfig] at b13
      have hpos : fr i j = 1 ∨ fr i j = 2 := by rw [← hfig]; cases maj (g i j) (g (i + 1) j) (g (i + 1) (j + 1)) <;> simp [figB]
      refine X.seq (P := fun h' => Kp h13 h') (X.if (TV.cmpF b13.n EV.cint Cm.eq) (fun h' kp hc => ?_) fun h' kp hc => X.nil ⟨rfl, kp⟩) fun h14 kp14 => ?_
      · have hc' : ((fr i j : Nat) : Int) = 0 := by simpa using hc
        omega
      have b14 := b13.keep kp14
      refine X.seq (X.assign b14 (EV.binF (EV.binF EV.cint b14.n (Bin.mul (mulOk (by decide)))) b14.n Bin.add)) fun h15 b15 => X.nil ⟨rfl, ?_⟩
      have en : (16 : Int) * (num16 (rowF fr i j) : Nat) + (fr i j : Nat) = (num16 (rowF fr i (j + 1)) : Nat) := by
        rw [rowF_succ, num16_snoc]; push_cast; rfl
      rw [en] at b15
      exact b15.sub ⟨rfl, rfl, rfl, rfl, rfl, trivial⟩
    · rw [ups_len] at b₈
      refine X.seq (X.append (L1 := []) b₈ b₈.n (by simp [rowsV]; have := sizeLine_eq; omega)) fun h9 b₉ => X.nil ⟨rfl, ?_⟩
      rw [List.nil_append, ← rowsV_succ] at b₉
      exact b₉.sub ⟨rfl, rfl, rfl, trivial⟩
  · rw [ups_len] at b₆
    refine X.retL b₆.nr fun v h' kp p => ⟨fun c o e => kp _ _ (b₆.kp c o e), ?_⟩
    cases p
    refine ⟨ra, rfl, ?_, (b₆.li (ra, _) (.head _)).kp kp⟩
    cases q : s.heap.get? ra with
    | none => rfl
    | some o => exact absurd q (b₆.fL (ra, _) (.head _) o)
end
end Mine
end
section
open PySem PySem.Calls PyProof.Rows PySem.W
set_option linter.unusedVariables false
namespace Mine
theorem Bd.perm {env : Env} {B : Addr → Obj → Prop} {D : List (Str × Lv)} {L L' : List (Addr × List FV)} {h : Heap} (b : Bd env B D L h) (p : L.Perm L') : Bd env B D L' h where
  kp := b.kp
  fl := b.fl
  fL := fun q m => b.fL q (p.mem_iff.mpr m)
  nd := ((p.map (·.1)).nodup_iff).mp b.nd
  li := fun q m => b.li q (p.mem_iff.mpr m)
  ns := b.ns
theorem Nw.less {h h' h'' : Heap} {ds : List FV} {v : Value} (n : Nw h' ds v h'') (k : Kp h h') : Nw h ds v h'' := by
  obtain ⟨a, e, f, l⟩ := n
  refine ⟨a, e, ?_, l⟩
  cases q : h.get? a with
  | none => rfl
  | some o => rw [k _ _ q] at f; cases f
theorem snoc_cases {α : Type} (l : List α) : l = [] ∨ ∃ l' a, l = l' ++ [a] := by
  cases h : l.reverse with
  | nil => left; have := congrArg List.reverse h; simpa using this
  | cons a r => right; refine ⟨r.reverse, a, ?_⟩; have := congrArg List.reverse h; simpa using this
theorem ap_num : ∀ (k : Nat) (l : List Nat), l.length = k → (∀ d ∈ l, d = 1 ∨ d = 2) → apB (num16 l) = l.map fun d => UInt8.ofNat (65 + d) := by
  intro k
  induction k with
  | zero =>
    intro l h _
    have : l = [] := List.length_eq_zero_iff.mp h
    subst this
    rw [show num16 [] = 0 from rfl, apB]; rfl
  | succ k ih =>
    intro l h hd
    rcases snoc_cases l with rfl | ⟨l', d, rfl⟩
    · simp at h
    · have hk : l'.length = k := by simpa using h
      have hd' := hd d (by simp)
      have ih' := ih l' hk (fun x m => hd x (by simp [m]))
      rw [num16_snoc]
      have e1 : (16 * num16 l' + d) / 16 = num16 l' := by omega
      have e2 : (16 * num16 l' + d) % 16 = d := by omega
      obtain ⟨m, hm⟩ : ∃ m, 16 * num16 l' + d = m + 1 := ⟨16 * num16 l' + d - 1, by omega⟩
      rw [hm] at e1 e2 ⊢
      rw [apB, e1, e2, ih', List.map_append]
      rfl
theorem figB_or (b : Bool) : figB b = 1 ∨ figB b = 2 := by cases b <;> simp [figB]
def frB (g : Nat → Nat → Bool) : Nat → Nat → Nat := fun r c => figB (g r c)
theorem ap_row (g : Nat → Nat → Bool) (r : Nat) : apB (num16 (rowF (frB g) r (r + 1))) = (List.range (r + 1)).map fun c => letB (g r c) := by
  rw [ap_num _ _ rfl (fun d m => by
    obtain ⟨c, _, rfl⟩ := List.mem_map.mp m
    exact figB_or _)]
  unfold rowF
  rw [List.map_map]
  refine congrArg (fun f => (List.range (r + 1)).map f) (funext fun c => ?_)
  show UInt8.ofNat (65 + figB (g r c)) = letB (g r c)
  cases g r c <;> rfl
theorem num_lt (g : Nat → Nat → Bool) (r : Nat) (hr : r < 6) : num16 (rowF (frB g) r (r + 1)) < 2 ^ 24 := by
  have h := num16_lt (rowF (frB g) r (r + 1)) (fun d m => by
    obtain ⟨c, _, rfl⟩ := List.mem_map.mp m
    have := figB_or (g r c)
    show figB (g r c) < 16
    omega)
  have e : (rowF (frB g) r (r + 1)).length = r + 1 := by simp [rowF]
  rw [e] at h
  have : 16 ^ (r + 1) ≤ 16 ^ 6 := Nat.pow_le_pow_right (by decide) (by omega)
  exact Nat.lt_of_lt_of_le h this
def gA : FV → FV | .int k => .bytes (apB k.toNat).toArray | _ => .none
def gLn : FV → FV | .bytes b => .int b.size | _ => .none
theorem words_eq (g : Nat → Nat → Bool) (n : Nat) : ((rowsV (frB g) n).flatMap fun d => if true then [gA d] else []) = (wordsB g n).map encB := by
  show ((rowsV (frB g) n).flatMap fun d => [gA d]) = _
  rw [flat_one]
  unfold rowsV wordsB
  rw [List.map_map, List.map_map]
  refine congrArg (fun f => (List.range n).map f) (funext fun r => ?_)
  show FV.bytes (apB ((num16 (rowF (frB g) r (r + 1)) : Nat) : Int).toNat).toArray = _
  rw [Int.toNat_natCast, ap_row]
  rfl
theorem lens_eq (g : Nat → Nat → Bool) (n : Nat) : (((wordsB g n).map encB).flatMap fun d => if true then [gLn d] else []) = ((List.range n).map fun r : Nat => ((r : Int) + 1)).map FV.int := by
  show (((wordsB g n).map encB).flatMap fun d => [gLn d]) = _
  rw [flat_one]
  unfold wordsB
  rw [List.map_map, List.map_map, List.map_map]
  refine congrArg (fun f => (List.range n).map f) (funext fun r => ?_)
  show FV.int ((((List.range (r + 1)).map fun c => letB (g r c)).toArray.size : Nat) : Int) = FV.int ((r : Int) + 1)
  simp
theorem ups1_eq (n : Nat) : ups 1 n = ((List.range n).map fun r : Nat => ((r : Int) + 1)).map FV.int := by
  unfold ups
  rw [List.map_map]
  refine congrArg (fun f => (List.range n).map f) (funext fun r => ?_)
  show FV.int (1 + (r : Int)) = FV.int ((r : Int) + 1)
  rw [Int.add_comm]
def gi (g : Nat → Nat → Bool) : Nat → Nat → Nat → Bool
  | 0 => g
  | i + 1 => red (gi g i)
def pr (g : Nat → Nat → Bool) (n : Nat) (i : Nat) : Bool × Bool := (linkedF (wordsB (gi g i) (n - i)) 66, linkedF (wordsB (gi g i) (n - i)) 67)
def told (g : Nat → Nat → Bool) (n i : Nat) : List (Bool × Bool) := (List.range i).map (pr g n)
def endS (q : Nat) : Str := if q = 0 then "\n" else if q = 1 then "\r" else "\r\n"
theorem endS_ok (q : Nat) : EndOk (endS q) := by
  unfold endS
  split
  · exact ⟨by decide, .inl rfl⟩
  · split
    · exact ⟨by decide, .inr (.inl rfl)⟩
    · exact ⟨by decide, .inr (.inr rfl)⟩
end Mine
end
section
open PySem PySem.Calls PyProof.Rows PySem.W
set_option linter.unusedVariables false
namespace Mine
section
variable {prog : Program} {w : World} {A : Around} {s : Shared} {mg mb : Str → Option Value}
def Ak (g : Nat → Nat → Bool) (n : Nat) (kind : Int) : List Value → Heap → Prop := fun vs h => ∃ a v, vs = [.ref a, v] ∧ Li h a (rowsV (frB g) n) ∧ Rf h v (.int kind)
theorem TV.cmpD {env : Env} {h : Heap} {l r : PySem.Expr} {op : CmpOp} {pos : Pos} {P1 P2 : Value → Heap → Prop} {c : Bool} (a : EV prog w A env h l P1) (b : EV prog w A env h r P2)
    (m1 : ∀ v h h', P1 v h → Kp h h' → P1 v h')
    (d : ∀ (s : Shared) v1 v2, Kp h s.heap → P1 v1 s.heap → P2 v2 s.heap → ∃ c', c' = c ∧ Ev prog w A s (compareOp op v1 v2) (Is (.bool c')))
    (hm : behindInMarks op r = false := by with_unfolding_all rfl) : TV prog w A env h (.Compare l [op] [r] pos) (fun x _ => x = c) :=
  TV.cmp a b m1 (fun s v1 v2 k p q => by obtain ⟨c', rfl, e⟩ := d s v1 v2 k p q; exact e) hm
theorem rep_flat {α : Type} (a : α) : ∀ n, (List.replicate n [a]).flatten = List.replicate n a
  | 0 => rfl
  | n + 1 => by rw [List.replicate_succ, List.flatten_cons, rep_flat a n, List.replicate_succ]; rfl
theorem EV.compOne {env : Env} {h : Heap} {n : Nat} (rm : Rm A n) {elt : PySem.Expr} {x : Str} {px : Pos} {iter : PySem.Expr} {scope : Scope} {pos : Pos} {ds out : List FV} (g : FV → FV) (hi : EV prog w A env h iter (Ls ds))
    (el : ∀ C h₃ m₃ d v, Kp h h₃ → h₃.Ns C m₃ → m₃ x = some v → d ∈ ds → Rf h₃ v d → EV prog w A (compEnvC scope [] C env) h₃ elt (F (g d))) (hz : ds.length ≤ sizeLine) (hG : ds.map g = out)
    (hclos : closureFor scope env = Pure.pure [] := by rfl) (hcell : ∀ y ∈ scope.names, y.2 ≠ .cell := by decide) (hkind : scope.kind = .function := by rfl)
    (hnames : ∀ y ∈ scope.names, y.2 = .local → scope.names.lookup y.1 = some .local := by decide) (hx : scope.names.lookup x = some .local := by rfl)
    (hs : ∀ x, foldedSetIterable iter env x = Pure.pure x := by intro _; rfl) : EV prog w A env h (.ListComp elt [⟨.Name x px, iter, [], 0⟩] scope pos) (Nw h out) := by
  have e : (ds.flatMap fun d => if true then [g d] else []) = out := by
    show (ds.flatMap fun d => [g d]) = out
    rw [flat_one, hG]
  have := EV.comp (prog := prog) (w := w) (A := A) (env := env) (h := h) (pos := pos) (px := px) (G := fun d => if true then [g d] else []) (TurnIs.one (elt := elt)) hi (fun s v k p => by
    obtain ⟨a, rfl, la⟩ := p
    exact Itb.list rm la) (Turn.one (cl := []) (b := fun _ => true) (g := g) (fun C h₃ m₃ d v kp fC hn hm hd rv => ⟨TS.nil, fun _ => el C h₃ m₃ d v kp hn hm hd rv⟩) (by rw [e, ← hG, List.length_map]; exact hz)) hclos hcell hkind hnames hx hs
  rw [e] at this
  exact this
theorem lens_map (g : Nat → Nat → Bool) (n : Nat) : ((wordsB g n).map encB).map gLn = ((List.range n).map fun r : Nat => ((r : Int) + 1)).map FV.int := by
  have := lens_eq g n
  rw [← this]
  show _ = (((wordsB g n).map encB).flatMap fun d => [gLn d])
  rw [flat_one]
theorem one_kind {n : Nat} {g : Nat → Nat → Bool} {kind : Int} {x : Bool} (rm : Rm A 20) (G : Gm mg mb s.heap) (Gp : Gq mg s.heap) {a : Addr} (ha : mg "_law_one_kind_wins" = some (.ref a)) {vs : List Value} (r : Ak g n kind vs s.heap) (hn : n ≤ 6) (hn1 : 1 ≤ n)
    (hx : gi g (n - 1) 0 0 = x) (hw : ∀ i < n, pr g n i = (x, !x)) : Ev prog w A s (call (.ref a) vs) (F (.bool true)) := by
  obtain ⟨a', o, pm, code, doc, e1, e2, e3, e4⟩ := G.ok
  rw [ha] at e1
  cases e1
  obtain ⟨r0, kv, rfl, lr, rk⟩ := r
  obtain ⟨aa, ao, apm, acode, adoc, ae1, ae2, ae3, ae4⟩ := id G.ap
  obtain ⟨la, lo, lpm, lcode, ldoc, le1, le2, le3, le4⟩ := id G.lk
  obtain ⟨sa, so, spm, scode, sdoc, se1, se2, se3, se4⟩ := id G.sb
  have rlen : ∀ (g : Nat → Nat → Bool) n, (rowsV (frB g) n).length = n := fun g n => by simp [rowsV]
  refine Ev.callY (n := 19) ["rows", "kind"] (.cons (d := .list r0) rfl (.cons (d := .flat _) rk .nil)) rm e2 e3 G.lim e4 fun h₁ kp₁ rm₁ b => ?_
  have G₁ := G.kp kp₁
  refine X.seq (X.assign b (EV.callB (G₁.bi G.no.2.2.2.2.1) (AV.one (b.nl (lr.kp kp₁)) Ls.later) fun s vs _ r => Fn.len r (by rw [rlen]; omega))) fun h₂ b₂ => ?_
  rw [rlen] at b₂
  refine X.seq (X.assignN b₂ (EV.list AV.nilF)) fun h₃ b₃ => ?_
  obtain ⟨ta, b₃⟩ := b₃
  refine X.seq (X.assignN b₃ (EV.list AV.nilF)) fun h₄ b₄ => ?_
  obtain ⟨w0, b₄⟩ := b₄
  let St : Nat → Heap → Prop := fun k h => ∃ (i : Nat) (ra wa : Addr) (L' : List (Addr × List FV)), i + k = n ∧
    Bd (envOf "_law_one_kind_wins" (scopeOf (stAt 16)) s.heap.objs.size a code) (HB s.heap) [("rows", .list ra), ("words", .list wa), ("told", .list ta), ("size", .flat (.int n)), ("kind", .flat (.int kind))] ((ta, (told g n i).map BT) :: L') h ∧
    ((ra, rowsV (frB (gi g i)) k) ∈ L' ∨ Li s.heap ra (rowsV (frB (gi g i)) k)) ∧ (∀ j, i = j + 1 → (wa, (wordsB (gi g j) (k + 1)).map encB) ∈ L')
  refine X.cons (R1 := fun f h => f = .next ∧ St 0 h) (X.while St ?_ n ⟨0, r0, w0, [(w0, [])], by omega, (b₄.perm (List.Perm.swap _ _ _)).sub ⟨rfl, rfl, rfl, rfl, rfl, trivial⟩, .inr lr, fun j hj => by omega⟩) (fun h' q => ?_) (fun f h' hf q => absurd q.1 hf)
  · clear b b₂ b₃ b₄ G₁
    rintro k h ⟨i, ra, wa, L', hik, b, hra, hwa⟩
    have Gh := G.kp b.kp
    have lra : Li h ra (rowsV (frB (gi g i)) k) := by
      rcases hra with q | q
      · exact b.li _ (.tail _ q)
      · exact q.kp b.kp
    refine ⟨decide ((((rowsV (frB (gi g i)) k).length : Nat) : Int) > 0), TV.cmpF (EV.callB (Gh.bi G.no.2.2.2.2.1) (AV.one (b.nl lra) Ls.later) fun s vs _ r => Fn.len r (by rw [rlen]; omega)) EV.cint Cm.gt, fun hc h' kp => ?_, fun hc h' kp => ?_⟩
    · rw [decide_eq_true_eq, rlen] at hc
      obtain ⟨k, rfl⟩ : ∃ k', k = k' + 1 := ⟨k - 1, by omega⟩
      have b₅ := b.keep kp
      have lra₅ := lra.kp kp
      have G₅ := G.kp b₅.kp
      have G₅k := b₅.kp
      generalize hgi : gi g i = gg at lra lra₅ hra
      refine X.seq (X.comp (cl := []) (ds := rowsV (frB gg) (k + 1)) (G := fun d => if true then [gA d] else []) b₅ TurnIs.one (b₅.nl lra₅) (fun s' v k r => by
          obtain ⟨c, rfl, l⟩ := r
          exact Itb.list rm₁ l)
        (Turn.one (b := fun _ => true) (g := gA) (fun C h₃ m₃ d v kp fC hn₃ hm hd rv => ⟨TS.nil, fun _ => ?_⟩) (by rw [words_eq, List.length_map, sizeLine_eq]; simp [wordsB]; omega))) fun h₆ b₆ => ?_
      · obtain ⟨q, hq, rfl⟩ := List.mem_map.mp hd
        have hq' := List.mem_range.mp hq
        refine EV.callD ((G₅.kp kp).gl ae1) (kp _ _ (G₅k _ _ ae2)) ae3 (AV.consF (EV.neg (EV.loc hn₃ hm rv)) AV.nilF) fun s vs kk r => ?_
        exact int2ap (k := 0) (rm₁.less (by omega)) ((G₅.kp kp).kp kk) ae1 r (num_lt gg q (by omega))
      rw [words_eq] at b₆
      obtain ⟨wb, b₆⟩ := b₆
      have G₆ := G.kp b₆.kp
      have b₆k := b₆.kp
      have lw₆ : Li h₆ wb ((wordsB gg (k + 1)).map encB) := b₆.li (wb, _) (.head _)
      have lra₆ : Li h₆ ra (rowsV (frB gg) (k + 1)) := by
        rcases hra with q | q
        · exact b₆.li _ (.tail _ (.tail _ q))
        · exact q.kp b₆.kp
      have wlen : ((wordsB gg (k + 1)).map encB).length = k + 1 := by rw [List.length_map]; simp [wordsB]
      refine X.seq (P := fun h' => Kp h₆ h') (X.if (TV.cmpD (P1 := Ls (((List.range (k + 1)).map fun r : Nat => ((r : Int) + 1)).map FV.int)) (P2 := Ls (((List.range (k + 1)).map fun r : Nat => ((r : Int) + 1)).map FV.int)) (c := false)
          (EV.compOne rm₁ gLn (b₆.nl lw₆) (fun C h₃ m₃ d v kp hn₃ hm hd rv => ?_) (by rw [wlen, sizeLine_eq]; omega) (lens_map gg (k + 1))).toLs
          (EV.callT (G₆.bi G.no.2.2.2.2.2.1) (AV.one (EV.callT (G₆.bi G.no.2.2.2.1) (AV.consF EV.cint (AV.consF (EV.binF (EV.callB (G₆.bi G.no.2.2.2.2.1) (AV.one (b₆.nl lra₆) Ls.later) fun s vs _ r => Fn.len r (by rw [rlen]; omega)) EV.cint Bin.add) AV.nilF)) fun s vs _ r => Fn.range2 r) Rg.later) fun s vs _ r => ?_) Ls.later (fun s v1 v2 kk r1 r2 => ?_)) (fun h' kp hc => absurd hc (by decide)) fun h' kp hc => X.nil ⟨rfl, kp⟩) fun h₇ kp₇ => ?_
      · obtain ⟨l, _, rfl⟩ := List.mem_map.mp hd
        have hsz : l.toArray.size ≤ 1000000 := by
          obtain ⟨q, hq, rfl⟩ := List.mem_map.mp (by assumption : l ∈ wordsB gg (k + 1))
          have := List.mem_range.mp hq
          simp
          omega
        exact EV.callB ((G₆.kp kp).bi G.no.2.2.2.2.1) (AV.consF (EV.loc hn₃ hm rv) AV.nilF) fun s vs _ r => Fn.lenB r hsz
      · have e1 : ((rowsV (frB gg) (k + 1)).length : Int) + 1 = 1 + ((k + 1 : Nat) : Int) := by rw [rlen]; omega
        rw [e1] at r
        refine (Fn.listRange rm₁ r (by decide) (by omega)).mono fun v h kk p => ?_
        rw [← ups1_eq]
        exact p.toLs
      · obtain ⟨c1, rfl, l1⟩ := r1
        obtain ⟨c2, rfl, l2⟩ := r2
        exact ⟨_, decide_eq_false (fun q => q rfl), Ne.ints rm₁ l1 l2⟩
      have b₇ := b₆.keep kp₇
      have G₇ := G.kp b₇.kp
      have b₇k := b₇.kp
      have lw₇ := lw₆.kp kp₇
      have hwl : ∀ r < (wordsB gg (k + 1)).length, r < ((wordsB gg (k + 1)).getD r []).length ∧ ((wordsB gg (k + 1)).getD r []).length ≤ 1000 := by
        intro r hr
        have hr' : r < k + 1 := by simpa [wordsB] using hr
        have e : ((wordsB gg (k + 1)).getD r []).length = r + 1 := by
          rw [List.getD_eq_getElem?_getD]
          unfold wordsB
          rw [List.getElem?_map, List.getElem?_range hr']
          simp
        rw [e]
        omega
      have hwn : (wordsB gg (k + 1)).length ≤ 6 := by simp [wordsB]; omega
      have av : ∀ (q : Int) (letter : Nat) (hq : q = letter) (p1 p2 pp : Pos) (kk : Nat), AV prog w (A.deeper (envOf "_law_one_kind_wins" (scopeOf (stAt 16)) s.heap.objs.size a code)) (envOf "_law_one_kind_wins" (scopeOf (stAt 16)) s.heap.objs.size a code) h₇ pp [.Name "words" p1, .Constant (.int q) kk p2] (Aw (wordsB gg (k + 1)) letter) := by
        rintro q letter rfl p1 p2 pp kk
        exact AV.cons (P2 := Fs [.int (letter : Int)]) (b₇.nl lw₇) (AV.consF EV.cint AV.nilF) Ls.later fun v vs h' kp p1 p2 => by
          obtain ⟨c, rfl, l⟩ := p1
          cases p2 with
          | cons u1 p2 => cases p2; exact ⟨c, _, rfl, l, u1⟩
      have epr : pr g n i = (linkedF (wordsB gg (k + 1)) 66, linkedF (wordsB gg (k + 1)) 67) := by
        unfold pr
        rw [hgi, show n - i = k + 1 by omega]
      refine X.seq (X.append (L1 := [(wb, (wordsB gg (k + 1)).map encB)]) (d := BT (linkedF (wordsB gg (k + 1)) 66, linkedF (wordsB gg (k + 1)) 67)) b₇ (EV.tup (AV.consF (EV.callD (G₇.gl le1) (b₇k _ _ le2) le3 (av 66 66 rfl _ _ _ _) fun s vs kk r => linked (k := 0) (rm₁.less (by omega)) (G₇.kp kk) le1 r hwn hwl)
        (AV.consF (EV.callD (G₇.gl le1) (b₇k _ _ le2) le3 (av 67 67 rfl _ _ _ _) fun s vs kk r => linked (k := 0) (rm₁.less (by omega)) (G₇.kp kk) le1 r hwn hwl) AV.nilF)) (two_ok _ _)) (by rw [List.length_map, sizeLine_eq]; simp [told]; omega)) fun h₈ b₈ => ?_
      rw [← epr] at b₈
      have b₈k := b₈.kp
      have G₈ := G.kp b₈k
      have lw₈ : Li h₈ wb ((wordsB gg (k + 1)).map encB) := b₈.li (wb, _) (.head _)
      have lra₈ : Li h₈ ra (rowsV (frB gg) (k + 1)) := by
        rcases hra with q | q
        · exact b₈.li _ (.tail _ (.tail _ q))
        · exact q.kp b₈k
      have q0 : 0 ≤ (kind + (((rowsV (frB gg) (k + 1)).length : Nat) : Int)).fmod 3 := Int.fmod_nonneg_of_pos _ (by decide)
      have q3 : (kind + (((rowsV (frB gg) (k + 1)).length : Nat) : Int)).fmod 3 < 3 := Int.fmod_lt_of_pos _ (by decide)
      generalize hqq : (kind + (((rowsV (frB gg) (k + 1)).length : Nat) : Int)).fmod 3 = qq at q0 q3
      have ends : [FV.str "\n", FV.str "\r", FV.str "\r\n"][qq.toNat]? = some (.str (endS qq.toNat)) := by
        have : qq = 0 ∨ qq = 1 ∨ qq = 2 := by omega
        rcases this with h | h | h <;> subst h <;> rfl
      refine X.seq (X.assignN (ds := rowsV (frB (red gg)) k) b₈ (EV.callD (PS := Ab gg (k + 1) (endS qq.toNat)) (G₈.gl se1) (b₈k _ _ se2) se3 (AV.cons (P2 := Fs [.str (endS qq.toNat)]) (b₈.nl lw₈) (AV.consF (EV.sub (P2 := F (.int qq)) (EV.list (AV.consF EV.cstr (AV.consF EV.cstr (AV.consF EV.cstr AV.nilF))) (three_ok _ _ _)).toLs
          (hqq ▸ EV.binF (EV.binF b₈.n (EV.callB (G₈.bi G.no.2.2.2.2.1) (AV.one (b₈.nl lra₈) Ls.later) fun s vs _ r => Fn.len r (by rw [rlen]; omega)) Bin.add) EV.cint (Bin.mod (by decide))) Ls.later fun s o x _ r q => ?_) AV.nilF) Ls.later fun v vs h' kp p1 p2 => ?_)
        fun s vs kk r => ?_)) fun h₉ b₉ => ?_
      · obtain ⟨c, rfl, l⟩ := r
        cases q
        exact item_list l q0 (by omega) ends
      · obtain ⟨c, rfl, l⟩ := p1
        cases p2 with
        | cons u1 p2 => cases p2; exact ⟨c, _, rfl, l, u1⟩
      · exact (shorter (rm₁.less (by omega)) (G₈.kp kk) (Gp.kp (Kp.trans b₈k kk)) se1 r (by omega) (by omega) (endS_ok _)).mono fun v h _ p => Nw.less p kk
      obtain ⟨rc, b₉⟩ := b₉
      refine X.seq (P := fun h' => Kp h₉ h') (X.if (TV.isNone (c := false) b₉.nr fun v h p => .inr ⟨rfl, _, p⟩) (fun h' kp hc => absurd hc (by decide)) fun h' kp hc => X.nil ⟨rfl, kp⟩) fun h10 kp10 => ?_
      have b10 := b₉.keep kp10
      have et : (told g n (i + 1)).map BT = (told g n i).map BT ++ [BT (pr g n i)] := by
        unfold told
        rw [List.range_succ, List.map_append, List.map_append]
        rfl
      refine X.nil ⟨k, Nat.lt_succ_self _, i + 1, rc, wb, (rc, rowsV (frB (red gg)) k) :: (wb, (wordsB gg (k + 1)).map encB) :: L', by omega, ?_, .inl ?_, fun j hj => ?_⟩
      · rw [et]
        exact (b10.perm (List.perm_middle (l₁ := [(rc, rowsV (frB (red gg)) k), (wb, (wordsB gg (k + 1)).map encB)]))).sub ⟨rfl, rfl, rfl, rfl, rfl, trivial⟩
      · show (rc, rowsV (frB (red (gi g i))) k) ∈ _
        rw [hgi]
        exact .head _
      · have : j = i := by omega
        subst this
        rw [hgi]
        exact .tail _ (.head _)
    · rw [decide_eq_false_iff_not, rlen] at hc
      have hk : k = 0 := by omega
      subst hk
      exact ⟨rfl, i, ra, wa, L', hik, b.keep kp, hra, hwa⟩
  · obtain ⟨_, i, ra, wa, L', hik, b, hra, hwa⟩ := q
    have hin : i = (n - 1) + 1 := by omega
    have lwa := hwa (n - 1) hin
    have eW : wordsB (gi g (n - 1)) 1 = [[letB x]] := by
      rw [← hx]; rfl
    rw [eW] at lwa
    have lW : Li h' wa ([[letB x]].map encB) := b.li _ (.tail _ lwa)
    have lT : Li h' ta ((List.replicate n (x, !x)).map BT) := by
      have := b.li (ta, _) (.head _)
      have e : told g n i = List.replicate n (x, !x) := by
        rw [show i = n by omega]
        unfold told
        apply List.ext_getElem?
        intro j
        rw [List.getElem?_map, List.getElem?_replicate]
        by_cases hj : j < n
        · rw [List.getElem?_range hj, if_pos hj]
          exact congrArg some (hw j hj)
        · rw [List.getElem?_eq_none (by simpa using hj), if_neg hj]; rfl
      rw [e] at this
      exact this
    have eqB : ∀ (A : Around) (s : Shared) (v1 v2 : Value) (c : UInt8), Rm A 19 → Ls ([[letB x]].map encB) v1 s.heap → Ls ([[c]].map encB) v2 s.heap → Ev prog w A s (compareOp .Eq v1 v2) (Is (.bool (decide (letB x = c)))) := by
      rintro A s v1 v2 c rm ⟨a1, rfl, l1⟩ ⟨a2, rfl, l2⟩
      refine (Eq.lists (n := 18) Enc.bytes rm l1 l2).mono fun v h k p => ?_
      have p' : v = _ := p
      rw [p']
      exact congrArg Value.bool (decide_eq_decide.mpr (by simp))
    have tup1 : ∀ (b1 b2 : Bool) (kp1 kp2 k3 : Nat) (p1 p2 p3 p4 p5 p6 p7 p8 : Pos) (h'' : Heap), Kp h' h'' → (b1, b2) = (x, !x) →
        EV prog w (A.deeper (envOf "_law_one_kind_wins" (scopeOf (stAt 16)) s.heap.objs.size a code)) (envOf "_law_one_kind_wins" (scopeOf (stAt 16)) s.heap.objs.size a code) h'' (.Compare (.Name "told" p1) [.Eq] [.BinOp (.List [.Tuple [.Constant (.bool b1) kp1 p2, .Constant (.bool b2) kp2 p3] k3 p4] p5) .Mult (.Name "size" p6) p7] p8) (Is (.bool true)) := by
      intro b1 b2 kp1 kp2 k3 p1 p2 p3 p4 p5 p6 p7 p8 h'' kk hbb
      have b' := b.keep kk
      have lT' := lT.kp kk
      refine EV.cmp (P1 := Ls ((List.replicate n (x, !x)).map BT)) (P2 := Ls ((List.replicate n (x, !x)).map BT)) (b'.nl lT') (EV.bin (P1 := Ls [BT (b1, b2)]) (P2 := F (.int (n : Nat))) (EV.list (AV.consF (EV.tup (AV.consF EV.cbool (AV.consF EV.cbool AV.nilF)) (two_ok _ _)) AV.nilF) (by rw [sizeLine_eq]; simp)).toLs b'.n Ls.later fun s v1 v2 k p q => ?_) Ls.later fun s v1 v2 k r1 r2 => ?_
      · refine (Bin.mulL (h₀ := s.heap) (Kp.refl _) p q (by simp) (by simp only [List.length_cons, List.length_nil]; omega)).mono fun v h kq pq => ?_
        have e : (List.replicate n [BT (b1, b2)]).flatten = (List.replicate n (x, !x)).map BT := by
          rw [hbb, List.map_replicate]
          exact rep_flat _ _
        rw [e] at pq
        exact pq.toLs
      · obtain ⟨a1, rfl, l1⟩ := r1
        obtain ⟨a2, rfl, l2⟩ := r2
        refine (Eq.lists (n := 18) Enc.bt rm₁ l1 l2).mono fun v h k p => ?_
        have p' : v = _ := p
        rw [p']
        exact congrArg Value.bool (decide_eq_true rfl)
    have toF : ∀ {v : Value} {h'' : Heap}, Is (.bool true) v h'' → F (.bool true) v h'' := fun p => Is.boolF p
    cases x with
    | true =>
      refine X.cons (R1 := fun f h => f ≠ .next ∧ (Kp s.heap h ∧ F (.bool true) (match f with | .ret v => v | _ => .none) h)) (X.if (c := true) (TV.cmpD (P2 := Ls ([[66]].map encB)) (b.nl lW) (EV.list (AV.consF EV.cbytes AV.nilF) (by rw [sizeLine_eq]; simp)).toLs Ls.later fun s v1 v2 k r1 r2 => ⟨_, by decide, eqB _ s v1 v2 66 rm₁ r1 r2⟩) (fun h'' kp hc => ?_) fun h'' kp hc => absurd hc (by decide)) (fun _ q => absurd rfl q.1) fun _ _ _ q => q.2
      exact X.retL (tup1 true false _ _ _ _ _ _ _ _ _ _ _ h'' kp rfl) fun v h3 k p => ⟨by simp, fun c o e => k _ _ (kp _ _ (b.kp c o e)), toF p⟩
    | false =>
      refine X.seq (P := fun h'' => Kp h' h'') (X.if (c := false) (TV.cmpD (P2 := Ls ([[66]].map encB)) (b.nl lW) (EV.list (AV.consF EV.cbytes AV.nilF) (by rw [sizeLine_eq]; simp)).toLs Ls.later fun s v1 v2 k r1 r2 => ⟨_, by decide, eqB _ s v1 v2 66 rm₁ r1 r2⟩) (fun h'' kp hc => absurd hc (by decide)) fun h'' kp hc => X.nil ⟨rfl, kp⟩) fun h'' kp => ?_
      have b' := b.keep kp
      refine X.retL (EV.and2 (b := true) (P := Is (.bool true)) (EV.cmp (P2 := Ls ([[67]].map encB)) (b'.nl (lW.kp kp)) (EV.list (AV.consF EV.cbytes AV.nilF) (by rw [sizeLine_eq]; simp)).toLs Ls.later fun s v1 v2 k r1 r2 => (eqB _ s v1 v2 67 rm₁ r1 r2).mono fun v h k p => ?_) (fun _ => tup1 false true _ _ _ _ _ _ _ _ _ _ _ h'' kp rfl) (fun q => absurd q (by decide))) fun v h3 k p => ⟨fun c o e => k _ _ (b'.kp c o e), toF p⟩
      have p' : v = _ := p
      rw [p']
      exact congrArg Value.bool (by decide)
end
end Mine
end
section
open PySem PySem.Calls PyProof.Rows PySem.W
set_option linter.unusedVariables false
namespace Mine
section
variable {prog : Program} {w : World} {A : Around} {s : Shared} {mg mb : Str → Option Value}
theorem ints_rfs {h : Heap} : ∀ {vs : List Value} {ns : List Int}, IntsAre vs ns → Rfs h vs (ns.map FV.int) := by
  intro vs ns hi
  induction hi with
  | nil => exact .nil
  | cons => rename_i ih; exact .cons (.int _ _) ih
theorem ints_are {h : Heap} : ∀ {vs : List Value} {ns : List Int}, Rfs h vs (ns.map FV.int) → IntsAre vs ns
  | _, [], r => by cases r; exact .nil
  | _, n :: ns, r => by
    cases r with
    | cons x r =>
      cases x
      exact .cons _ _ (ints_are r)
/-- script[:21] -/
theorem item_script {h₀ : Heap} {a : Addr} {vs : List Value} {ns : List Int} {i : Value} (k : Kp h₀ s.heap) (il : s.heap.IsList a vs.toArray) (hi : IntsAre vs ns) (q : Sl none (some (21 : Int)) i s.heap) (hz : vs.length ≤ 63) :
    (∃ T id, s.TypeIs (.ref a) T ∧ typeLookup (.type T) "__getitem__" = pure (some (.builtin id))) ∧ Ev prog w A s (getItem (.ref a) i) (Nw h₀ ((ns.take 21).map FV.int)) := by
  obtain ⟨sl, l, u, rfl, hs, hl, hu⟩ := q
  refine ⟨⟨"list", _, il.typeIs, slot_list_getitem.lookup⟩, Ev.of fun Q E _ hQ => ?_⟩
  refine wpAny_getItem_list_slice il hs hl hu .none (by simp) (hQ _ _ s.toks (Kp.push _ _) ⟨_, rfl, fresh_at k, vs.take 21, 0, ?_, ?_⟩) (by rw [List.size_toArray, sizeLine_eq]; omega)
  · rw [Heap.get?_push_size _ rfl, show (some (21 : Int)) = some ((21 : Nat) : Int) from rfl, slicePick_upto']
    simp [lO]
  · have := (ints_rfs (h := s.heap) hi).take 21
    rw [← List.map_take] at this
    exact this.kp (Kp.push _ _)
theorem Fn.sum {vs : List Value} {ns : List Int} {n : Nat} (rm : Rm A n) (r : V1 (Ls (ns.map FV.int)) vs s.heap) : Ev prog w A s (call (.builtin "sum") vs) (F (.int ns.sum)) := by
  obtain ⟨v, rfl, a, rfl, l⟩ := r
  obtain ⟨us, il, rs, hn⟩ := l.toIsList
  have hi : IntsAre us ns := ints_are rs
  refine Ev.of fun Q E h0 hQ => ?_
  obtain ⟨xs, hxs⟩ := hi.allInts.items
  rw [hxs] at il
  refine sum_intListG rm.hh il fun h' tk t' hk => hQ _ h' tk hk ?_
  have e : preSum (numAt xs) xs.size = ns.sum := by
    have := hi.numsOf
    rw [show us = us.toArray.toList from rfl, hxs, nums_intItems] at this
    rw [preSum_eq, List.take_of_length_le (by simp), this]
  rw [e]
  exact .int _ _
end
end Mine
end
section
open PySem PySem.Calls PyProof.Rows PySem.W
set_option linter.unusedVariables false
namespace Mine
def drw (ns : List Int) : List Int := (ns.take 21).map fun x => x.fmod (10 ^ 6)
def gDr : FV → FV | .int k => .int (k.fmod (10 ^ 6)) | _ => .none
/-- what the game's law says of all boards of 4 to 6 rows -/
def Plain : Prop := ∀ (g : Nat → Nat → Bool) (n : Nat), 4 ≤ n → n ≤ 6 → ∀ i < n, pr g n i = (gi g (n - 1) 0 0, !gi g (n - 1) 0 0)
theorem brd_fr (draws : List Int) (n : Nat) (hn : n ≤ 6) : rowsV (brd draws) n = rowsV (frB fun r c => brd draws r c == 1) n := by
  unfold rowsV
  refine List.map_congr_left fun r hr => ?_
  have hr' := List.mem_range.mp hr
  have : rowF (brd draws) r (r + 1) = rowF (frB fun r c => brd draws r c == 1) r (r + 1) := by
    unfold rowF
    refine List.map_congr_left fun c hc => ?_
    have hc' := List.mem_range.mp hc
    have h21 : tri r + c < 21 := by
      have : ∀ r < 6, tri r + r < 21 := by decide
      have := this r (by omega)
      omega
    have := fig_le draws _ h21
    show brd draws r c = figB (brd draws r c == 1)
    unfold brd at *
    rcases this with h | h <;> rw [h] <;> rfl
  rw [this]
section
variable {prog : Program} {w : World} {A : Around} {mg mb : Str → Option Value}
theorem law_body (PL : Plain) {h₀ h : Heap} {ns : List Int} {vs : List Value} {sa L a : Addr} {cd : Value} (rm : Rm A 25) (G : Gm mg mb h₀) (Gp : Gq mg h₀) (il : h₀.IsList sa vs.toArray) (hi : IntsAre vs ns) (hz : vs.length ≤ 63)
    (b : Bd (envOf "law" (scopeOf (stAt 17)) L a cd) (HB h₀) [("script", .list sa)] [] h) :
    Xv prog w A h (execs (bodyOf (stAt 17)) (envOf "law" (scopeOf (stAt 17)) L a cd)) (fun f h' => Kp h₀ h' ∧ f = .ret (.bool true)) := by
  obtain ⟨fa, fo, fpm, fcode, fdoc, fe1, fe2, fe3, fe4⟩ := id G.fb
  obtain ⟨ka, ko, kpm, kcode, kdoc, ke1, ke2, ke3, ke4⟩ := id G.ok
  have dl : (drw ns).length ≤ 21 := by simp [drw]; omega
  have eD : ((ns.take 21).map FV.int).map gDr = (drw ns).map FV.int := by
    unfold drw
    rw [List.map_map, List.map_map]
    rfl
  have il' : ∀ {h' : Heap}, Kp h₀ h' → h'.IsList sa vs.toArray := fun k => let ⟨o, e, q⟩ := il; ⟨o, k _ _ e, q⟩
  refine X.seq (X.comp (cl := []) (ds := (ns.take 21).map FV.int) (G := fun d => if true then [gDr d] else []) b TurnIs.one
    (EV.sub (P1 := fun v h => v = .ref sa ∧ Kp h₀ h) (P := Ls ((ns.take 21).map FV.int)) (b.nr.mono fun v h' k p => ⟨p, Kp.trans b.kp k⟩) (EV.slice0 EV.cint) (fun v h h' p k => ⟨p.1, p.2.trans k⟩) fun s o x k r q => ?_) (fun s' v k r => by
      obtain ⟨c, rfl, l⟩ := r
      exact Itb.list rm l)
    (Turn.one (b := fun _ => true) (g := gDr) (fun C h₃ m₃ d v kp fC hn hm hd rv => ⟨TS.nil, fun _ => ?_⟩) ?_)) fun h₂ b₂ => ?_
  · obtain ⟨rfl, kp⟩ := r
    obtain ⟨p1, p2⟩ := item_script (prog := prog) (w := w) (A := A) (Kp.refl s.heap) (il' kp) hi q hz
    exact ⟨p1, p2.mono fun v h _ p => p.toLs⟩
  · obtain ⟨k, _, rfl⟩ := List.mem_map.mp hd
    exact EV.binF (EV.loc hn hm rv) (EV.binF EV.cint EV.cint (Bin.pow (by decide) (by decide) (by decide))) (Bin.mod (by decide))
  · show (((ns.take 21).map FV.int).flatMap fun d => [gDr d]).length ≤ sizeLine
    rw [flat_one, eD, List.length_map, sizeLine_eq]; omega
  have eF : (((ns.take 21).map FV.int).flatMap fun d => if true then [gDr d] else []) = (drw ns).map FV.int := by
    show (((ns.take 21).map FV.int).flatMap fun d => [gDr d]) = _
    rw [flat_one, eD]
  rw [eF] at b₂
  obtain ⟨da, b₂⟩ := b₂
  have G₂ := G.kp b₂.kp
  refine X.seq (X.assign b₂ (EV.callB (G₂.bi G.no.2.2.2.2.2.2) (AV.one (b₂.nl (b₂.li (da, _) (.head _))) Ls.later) fun s vs _ r => Fn.sum rm r)) fun h₃ b₃ => ?_
  have G₃ := G.kp b₃.kp
  generalize ht : (drw ns).sum = total at b₃
  have q0 : 0 ≤ total.fmod 3 := Int.fmod_nonneg_of_pos _ (by decide)
  have q3 : total.fmod 3 < 3 := Int.fmod_lt_of_pos _ (by decide)
  obtain ⟨n, hn⟩ : ∃ n : Nat, (4 : Int) + total.fmod 3 = n := ⟨(4 + total.fmod 3).toNat, by omega⟩
  have n4 : 4 ≤ n := by omega
  have n6 : n ≤ 6 := by omega
  have pl := PL (fun r c => brd (drw ns) r c == 1) n n4 n6
  refine X.retL (EV.callD (PS := Ak (fun r c => brd (drw ns) r c == 1) n (total.fdiv 3)) (P := F (.bool true)) (G₃.gl ke1) (b₃.kp _ _ ke2) ke3 (AV.cons (P1 := Ls (rowsV (frB fun r c => brd (drw ns) r c == 1) n)) (P2 := Fs [.int (total.fdiv 3)])
    (EV.callD (PS := Av (drw ns) n) (G₃.gl fe1) (b₃.kp _ _ fe2) fe3 (AV.cons (P2 := Fs [.int (n : Int)]) (b₃.nl (b₃.li (da, _) (.head _))) (AV.consF (hn ▸ EV.binF EV.cint (EV.binF b₃.n EV.cint (Bin.mod (by decide))) Bin.add) AV.nilF) Ls.later fun v vs h' kp p1 p2 => ?_) fun s vs kk r => ?_)
    (AV.consF (EV.binF b₃.n EV.cint (Bin.fdiv (by decide) (PyProof.noPylong_small (by decide)))) AV.nilF) Ls.later fun v vs h' kp p1 p2 => ?_) fun s vs kk r => one_kind (rm.less (by omega)) (G₃.kp kk) (Gp.kp (Kp.trans b₃.kp kk)) ke1 r n6 (by omega) rfl pl) fun v h' kp p => ⟨fun c o e => kp _ _ (b₃.kp c o e), ?_⟩
  · obtain ⟨c, rfl, l⟩ := p1
    cases p2 with
    | cons u1 p2 => cases p2; exact ⟨c, _, rfl, l, u1⟩
  · rw [← brd_fr _ _ n6]
    exact (first_board (k := 0) (rm.less (by omega)) (G₃.kp kk) fe1 r n6 dl).mono fun v h _ p => p.toLs
  · obtain ⟨c, rfl, l⟩ := p1
    cases p2 with
    | cons u1 p2 => cases p2; exact ⟨c, _, rfl, l, u1⟩
  · cases p; rfl
end
end Mine
end
section
set_option linter.unusedVariables false
namespace Mine
/-- joined by neighbours within S -/
inductive Conn (S : P2 → Prop) : P2 → P2 → Prop
  | refl {p : P2} : S p → Conn S p p
  | step {p q r : P2} : Conn S p q → r ∈ nears q → S r → Conn S p r
theorem near_iff (p q : P2) : q ∈ nears p ↔ (q.1 = p.1 ∧ q.2 = p.2 - 1) ∨ (q.1 = p.1 ∧ q.2 = p.2 + 1) ∨ (q.1 = p.1 - 1 ∧ q.2 = p.2 - 1) ∨ (q.1 = p.1 - 1 ∧ q.2 = p.2) ∨ (q.1 = p.1 + 1 ∧ q.2 = p.2) ∨ (q.1 = p.1 + 1 ∧ q.2 = p.2 + 1) := by
  obtain ⟨a, b⟩ := p
  obtain ⟨c, d⟩ := q
  simp [nears, Prod.ext_iff]
theorem near_symm {p q : P2} (h : q ∈ nears p) : p ∈ nears q := by
  rw [near_iff] at *
  omega
section
variable {S : P2 → Prop}
theorem Conn.right {p q : P2} (c : Conn S p q) : S q := by cases c <;> assumption
theorem Conn.left {p q : P2} (c : Conn S p q) : S p := by
  induction c with
  | refl h => exact h
  | step _ _ _ ih => exact ih
theorem Conn.trans {p q r : P2} (a : Conn S p q) (b : Conn S q r) : Conn S p r := by
  induction b with
  | refl _ => exact a
  | step _ h s ih => exact .step ih h s
theorem Conn.symm {p q : P2} (a : Conn S p q) : Conn S q p := by
  induction a with
  | refl h => exact .refl h
  | step c h s ih => exact Conn.trans (.step (.refl s) (near_symm h) c.right) ih
theorem Conn.one {p q : P2} (hp : S p) (hq : S q) (h : p = q ∨ q ∈ nears p) : Conn S p q := by
  rcases h with rfl | h
  · exact .refl hp
  · exact .step (.refl hp) h hq
end
def GoodAt (S : P2 → Prop) (n : Int) (p : P2) : Prop := (∃ q, Conn S p q ∧ q.2 = 0) ∧ (∃ q, Conn S p q ∧ q.1 - q.2 = 0) ∧ (∃ q, Conn S p q ∧ q.1 = n - 1)
def Good (S : P2 → Prop) (n : Int) : Prop := ∃ p, S p ∧ GoodAt S n p
def col (g : Nat → Nat → Bool) (p : P2) : Bool := g p.1.toNat p.2.toNat
def Sg (g : Nat → Nat → Bool) (n : Int) (b : Bool) (p : P2) : Prop := 0 ≤ p.2 ∧ p.2 ≤ p.1 ∧ p.1 < n ∧ col g p = b
/-- the three cells under a cell of the shorter board -/
def inT (t u : P2) : Prop := (u.1 = t.1 ∧ u.2 = t.2) ∨ (u.1 = t.1 + 1 ∧ u.2 = t.2) ∨ (u.1 = t.1 + 1 ∧ u.2 = t.2 + 1)
theorem col_red (g : Nat → Nat → Bool) (t : P2) (h1 : 0 ≤ t.1) (h2 : 0 ≤ t.2) : col (red g) t = maj (col g t) (col g (t.1 + 1, t.2)) (col g (t.1 + 1, t.2 + 1)) := by
  unfold col red
  have e1 : (t.1 + 1).toNat = t.1.toNat + 1 := by omega
  have e2 : (t.2 + 1).toNat = t.2.toNat + 1 := by omega
  simp only [e1, e2]
theorem maj_eq (a b c x : Bool) : maj a b c = x ↔ (a = x ∧ b = x) ∨ (a = x ∧ c = x) ∨ (b = x ∧ c = x) := by
  cases a <;> cases b <;> cases c <;> cases x <;> decide
theorem p2_eq {a b : P2} (h1 : a.1 = b.1) (h2 : a.2 = b.2) : a = b := Prod.ext h1 h2
theorem share {t t' u : P2} (h : inT t u) (h' : inT t' u) : t = t' ∨ t' ∈ nears t := by
  by_cases e : t.1 = t'.1 ∧ t.2 = t'.2
  · exact .inl (p2_eq e.1 e.2)
  · right
    rw [near_iff]
    unfold inT at h h'
    omega
theorem two_red {g : Nat → Nat → Bool} {n : Int} {b : Bool} {t u v : P2} (h1 : 0 ≤ t.2) (h2 : t.2 ≤ t.1) (h3 : t.1 < n - 1) (hu : inT t u) (hv : inT t v) (hne : u ≠ v) (cu : col g u = b) (cv : col g v = b) : Sg (red g) (n - 1) b t := by
  refine ⟨h1, h2, h3, ?_⟩
  rw [col_red g t (by omega) h1, maj_eq]
  have eu : u = t ∨ u = (t.1 + 1, t.2) ∨ u = (t.1 + 1, t.2 + 1) := by
    rcases hu with q | q | q
    · exact .inl (p2_eq q.1 q.2)
    · exact .inr (.inl (p2_eq q.1 q.2))
    · exact .inr (.inr (p2_eq q.1 q.2))
  have ev : v = t ∨ v = (t.1 + 1, t.2) ∨ v = (t.1 + 1, t.2 + 1) := by
    rcases hv with q | q | q
    · exact .inl (p2_eq q.1 q.2)
    · exact .inr (.inl (p2_eq q.1 q.2))
    · exact .inr (.inr (p2_eq q.1 q.2))
  rcases eu with rfl | rfl | rfl <;> rcases ev with rfl | rfl | rfl <;> first | exact absurd rfl hne | simp [cu, cv]
theorem edge {g : Nat → Nat → Bool} {n : Int} {b : Bool} {u v : P2} (hu : Sg g n b u) (hv : Sg g n b v) (h : v ∈ nears u) : ∃ t, Sg (red g) (n - 1) b t ∧ inT t u ∧ inT t v := by
  obtain ⟨u1, u2, u3, u4⟩ := hu
  obtain ⟨v1, v2, v3, v4⟩ := hv
  have hne : u ≠ v := by
    rintro rfl
    rw [near_iff] at h
    omega
  rw [near_iff] at h
  rcases h with q | q | q | q | q | q
  · have a : inT (u.1 - 1, u.2 - 1) u := by unfold inT; dsimp only; omega
    have c : inT (u.1 - 1, u.2 - 1) v := by unfold inT; dsimp only; omega
    exact ⟨_, two_red (by dsimp only; omega) (by dsimp only; omega) (by dsimp only; omega) a c hne u4 v4, a, c⟩
  · have a : inT (u.1 - 1, u.2) u := by unfold inT; dsimp only; omega
    have c : inT (u.1 - 1, u.2) v := by unfold inT; dsimp only; omega
    exact ⟨_, two_red (by dsimp only; omega) (by dsimp only; omega) (by dsimp only; omega) a c hne u4 v4, a, c⟩
  · have a : inT (u.1 - 1, u.2 - 1) u := by unfold inT; dsimp only; omega
    have c : inT (u.1 - 1, u.2 - 1) v := by unfold inT; dsimp only; omega
    exact ⟨_, two_red (by dsimp only; omega) (by dsimp only; omega) (by dsimp only; omega) a c hne u4 v4, a, c⟩
  · have a : inT (u.1 - 1, u.2) u := by unfold inT; dsimp only; omega
    have c : inT (u.1 - 1, u.2) v := by unfold inT; dsimp only; omega
    exact ⟨_, two_red (by dsimp only; omega) (by dsimp only; omega) (by dsimp only; omega) a c hne u4 v4, a, c⟩
  · have a : inT (u.1, u.2) u := by unfold inT; dsimp only; omega
    have c : inT (u.1, u.2) v := by unfold inT; dsimp only; omega
    exact ⟨_, two_red (by dsimp only; omega) (by dsimp only; omega) (by dsimp only; omega) a c hne u4 v4, a, c⟩
  · have a : inT (u.1, u.2) u := by unfold inT; dsimp only; omega
    have c : inT (u.1, u.2) v := by unfold inT; dsimp only; omega
    exact ⟨_, two_red (by dsimp only; omega) (by dsimp only; omega) (by dsimp only; omega) a c hne u4 v4, a, c⟩
end Mine
end
section
set_option linter.unusedVariables false
namespace Mine
section
variable {g : Nat → Nat → Bool} {n : Int} {b : Bool}
theorem lift_path {p q : P2} (c : Conn (Sg g n b) p q) : ∀ tp tq, Sg (red g) (n - 1) b tp → Sg (red g) (n - 1) b tq → inT tp p → inT tq q → Conn (Sg (red g) (n - 1) b) tp tq := by
  induction c with
  | refl h => intro tp tq a b' i j; exact Conn.one a b' (share i j)
  | step c h s ih =>
    intro tp tq a b' i j
    obtain ⟨t, h1, h2, h3⟩ := edge c.right s h
    exact (ih tp t a h1 i h2).trans (Conn.one h1 b' (share h3 j))
theorem has_near {p q : P2} (c : Conn (Sg g n b) p q) (hp : ∃ v, v ∈ nears p ∧ Sg g n b v) : ∃ v, v ∈ nears q ∧ Sg g n b v := by
  cases c with
  | refl _ => exact hp
  | step c h s => exact ⟨_, near_symm h, c.right⟩
theorem alone {p q : P2} (c : Conn (Sg g n b) p q) (hp : ¬ ∃ v, v ∈ nears p ∧ Sg g n b v) : q = p := by
  induction c with
  | refl _ => rfl
  | step c h s ih => rw [ih] at h; exact absurd ⟨_, h, s⟩ hp
theorem forward (hn : 2 ≤ n) (h : Good (Sg g n b) n) : Good (Sg (red g) (n - 1) b) (n - 1) := by
  obtain ⟨p, hp, ⟨q1, c1, e1⟩, ⟨q2, c2, e2⟩, ⟨q3, c3, e3⟩⟩ := h
  by_cases hv : ∃ v, v ∈ nears p ∧ Sg g n b v
  · have tri : ∀ {q}, Conn (Sg g n b) p q → ∃ t, Sg (red g) (n - 1) b t ∧ inT t q := fun c => by
      obtain ⟨v, h1, h2⟩ := has_near c hv
      obtain ⟨t, a, b', _⟩ := edge c.right h2 h1
      exact ⟨t, a, b'⟩
    obtain ⟨t, ht, it⟩ := tri (.refl hp)
    obtain ⟨t1, ht1, i1⟩ := tri c1
    obtain ⟨t2, ht2, i2⟩ := tri c2
    obtain ⟨t3, ht3, i3⟩ := tri c3
    refine ⟨t, ht, ⟨t1, lift_path c1 t t1 ht ht1 it i1, ?_⟩, ⟨t2, lift_path c2 t t2 ht ht2 it i2, ?_⟩, ⟨t3, lift_path c3 t t3 ht ht3 it i3, ?_⟩⟩
    · have := ht1.1; unfold inT at i1; omega
    · have := ht2.2.1; unfold inT at i2; omega
    · have := ht3.2.2.1; unfold inT at i3; omega
  · have a1 := alone c1 hv
    have a2 := alone c2 hv
    have a3 := alone c3 hv
    subst a1
    rw [a2] at e2
    rw [a3] at e3
    omega
theorem two_of {t : P2} (ht : Sg (red g) (n - 1) b t) : (col g t = b ∧ col g (t.1 + 1, t.2) = b) ∨ (col g t = b ∧ col g (t.1 + 1, t.2 + 1) = b) ∨ (col g (t.1 + 1, t.2) = b ∧ col g (t.1 + 1, t.2 + 1) = b) := by
  obtain ⟨h1, h2, h3, h4⟩ := ht
  rw [col_red g t (by omega) h1, maj_eq] at h4
  exact h4
theorem in_S {t u : P2} (ht : Sg (red g) (n - 1) b t) (i : inT t u) (c : col g u = b) : Sg g n b u := by
  obtain ⟨h1, h2, h3, h4⟩ := ht
  unfold inT at i
  exact ⟨by omega, by omega, by omega, c⟩
theorem inA (t : P2) : inT t t := .inl ⟨rfl, rfl⟩
theorem inB (t : P2) : inT t (t.1 + 1, t.2) := .inr (.inl ⟨rfl, rfl⟩)
theorem inC (t : P2) : inT t (t.1 + 1, t.2 + 1) := .inr (.inr ⟨rfl, rfl⟩)
theorem tri_conn {t u v : P2} (ht : Sg (red g) (n - 1) b t) (i : inT t u) (j : inT t v) (cu : col g u = b) (cv : col g v = b) : Conn (Sg g n b) u v := by
  refine Conn.one (in_S ht i cu) (in_S ht j cv) ?_
  by_cases e : u.1 = v.1 ∧ u.2 = v.2
  · exact .inl (p2_eq e.1 e.2)
  · right
    rw [near_iff]
    unfold inT at i j
    omega
/-- two joined triangles hold joined cells -/
theorem step_conn {t t' : P2} (ht : Sg (red g) (n - 1) b t) (ht' : Sg (red g) (n - 1) b t') (h : t' ∈ nears t) : ∃ u v, inT t u ∧ inT t' v ∧ col g u = b ∧ col g v = b ∧ Conn (Sg g n b) u v := by
  have key : ∀ u v, inT t u → inT t' v → col g u = b → col g v = b → (u = v ∨ v ∈ nears u) → ∃ u v, inT t u ∧ inT t' v ∧ col g u = b ∧ col g v = b ∧ Conn (Sg g n b) u v := fun u v i j cu cv e => ⟨u, v, i, j, cu, cv, Conn.one (in_S ht i cu) (in_S ht' j cv) e⟩
  have n1 := two_of ht
  have n2 := two_of ht'
  have all : ∀ u v, (u = t ∨ u = (t.1 + 1, t.2) ∨ u = (t.1 + 1, t.2 + 1)) → (v = t' ∨ v = (t'.1 + 1, t'.2) ∨ v = (t'.1 + 1, t'.2 + 1)) → col g u = b → col g v = b → ((u.1 = v.1 ∧ u.2 = v.2) ∨ v ∈ nears u) → ∃ u v, inT t u ∧ inT t' v ∧ col g u = b ∧ col g v = b ∧ Conn (Sg g n b) u v := by
    intro u v hu hv cu cv e
    refine key u v ?_ ?_ cu cv (e.imp (fun q => p2_eq q.1 q.2) id)
    · rcases hu with rfl | rfl | rfl
      · exact inA _
      · exact inB _
      · exact inC _
    · rcases hv with rfl | rfl | rfl
      · exact inA _
      · exact inB _
      · exact inC _
  rw [near_iff] at h
  have nr : ∀ (u v : P2), ((v.1 = u.1 ∧ v.2 = u.2 - 1) ∨ (v.1 = u.1 ∧ v.2 = u.2 + 1) ∨ (v.1 = u.1 - 1 ∧ v.2 = u.2 - 1) ∨ (v.1 = u.1 - 1 ∧ v.2 = u.2) ∨ (v.1 = u.1 + 1 ∧ v.2 = u.2) ∨ (v.1 = u.1 + 1 ∧ v.2 = u.2 + 1)) → v ∈ nears u := fun u v q => (near_iff u v).mpr q
  have tryA : ∀ u v, (u = t ∨ u = (t.1 + 1, t.2) ∨ u = (t.1 + 1, t.2 + 1)) → (v = t' ∨ v = (t'.1 + 1, t'.2) ∨ v = (t'.1 + 1, t'.2 + 1)) → col g u = b → col g v = b → ((u.1 = v.1 ∧ u.2 = v.2) ∨ ((v.1 = u.1 ∧ v.2 = u.2 - 1) ∨ (v.1 = u.1 ∧ v.2 = u.2 + 1) ∨ (v.1 = u.1 - 1 ∧ v.2 = u.2 - 1) ∨ (v.1 = u.1 - 1 ∧ v.2 = u.2) ∨ (v.1 = u.1 + 1 ∧ v.2 = u.2) ∨ (v.1 = u.1 + 1 ∧ v.2 = u.2 + 1))) → ∃ u v, inT t u ∧ inT t' v ∧ col g u = b ∧ col g v = b ∧ Conn (Sg g n b) u v := fun u v hu hv cu cv e => all u v hu hv cu cv (e.imp id (nr u v))
  rcases h with h | h | h | h | h | h <;> rcases n1 with ⟨x1, x2⟩ | ⟨x1, x2⟩ | ⟨x1, x2⟩ <;> rcases n2 with ⟨y1, y2⟩ | ⟨y1, y2⟩ | ⟨y1, y2⟩ <;> first
    | exact tryA _ _ (by simp) (by simp) x1 y1 (by (try dsimp only); omega)
    | exact tryA _ _ (by simp) (by simp) x1 y2 (by (try dsimp only); omega)
    | exact tryA _ _ (by simp) (by simp) x2 y1 (by (try dsimp only); omega)
    | exact tryA _ _ (by simp) (by simp) x2 y2 (by (try dsimp only); omega)
theorem down_path {t t' : P2} (c : Conn (Sg (red g) (n - 1) b) t t') : ∀ u v, inT t u → inT t' v → col g u = b → col g v = b → Conn (Sg g n b) u v := by
  induction c with
  | refl h => intro u v i j cu cv; exact tri_conn h i j cu cv
  | step c h s ih =>
    intro u v i j cu cv
    obtain ⟨x, y, i1, i2, c1, c2, k⟩ := step_conn c.right s h
    exact ((ih u x i i1 cu c1).trans k).trans (tri_conn s i2 j c2 cv)
theorem backward (h : Good (Sg (red g) (n - 1) b) (n - 1)) : Good (Sg g n b) n := by
  obtain ⟨t, ht, ⟨t1, c1, e1⟩, ⟨t2, c2, e2⟩, ⟨t3, c3, e3⟩⟩ := h
  have some1 : ∃ u, inT t u ∧ col g u = b := by
    rcases two_of ht with ⟨x, _⟩ | ⟨x, _⟩ | ⟨x, _⟩
    · exact ⟨_, inA _, x⟩
    · exact ⟨_, inA _, x⟩
    · exact ⟨_, inB _, x⟩
  obtain ⟨u, iu, cu⟩ := some1
  refine ⟨u, in_S ht iu cu, ?_, ?_, ?_⟩
  · rcases two_of c1.right with ⟨x, y⟩ | ⟨x, y⟩ | ⟨x, y⟩
    · exact ⟨_, down_path c1 u _ iu (inA _) cu x, e1⟩
    · exact ⟨_, down_path c1 u _ iu (inA _) cu x, e1⟩
    · exact ⟨_, down_path c1 u _ iu (inB _) cu x, e1⟩
  · rcases two_of c2.right with ⟨x, y⟩ | ⟨x, y⟩ | ⟨x, y⟩
    · exact ⟨_, down_path c2 u _ iu (inA _) cu x, e2⟩
    · exact ⟨_, down_path c2 u _ iu (inA _) cu x, e2⟩
    · exact ⟨_, down_path c2 u _ iu (inC _) cu y, by dsimp only; omega⟩
  · rcases two_of c3.right with ⟨x, y⟩ | ⟨x, y⟩ | ⟨x, y⟩
    · exact ⟨_, down_path c3 u _ iu (inB _) cu y, by dsimp only; omega⟩
    · exact ⟨_, down_path c3 u _ iu (inC _) cu y, by dsimp only; omega⟩
    · exact ⟨_, down_path c3 u _ iu (inB _) cu x, by dsimp only; omega⟩
end
end Mine
end
section
set_option linter.unusedVariables false
namespace Mine
/-- one cell: itself -/
theorem good_one (g : Nat → Nat → Bool) (b : Bool) : Good (Sg g 1 b) 1 ↔ g 0 0 = b := by
  constructor
  · rintro ⟨p, ⟨h1, h2, h3, h4⟩, _⟩
    have e1 : p.1 = 0 := by omega
    have e2 : p.2 = 0 := by omega
    unfold col at h4
    rw [e1, e2] at h4
    exact h4
  · intro h
    have hp : Sg g 1 b (0, 0) := ⟨by decide, by decide, by decide, h⟩
    exact ⟨(0, 0), hp, ⟨_, .refl hp, rfl⟩, ⟨_, .refl hp, rfl⟩, ⟨_, .refl hp, rfl⟩⟩
theorem good_gi (g : Nat → Nat → Bool) (b : Bool) (n : Nat) (hn : 1 ≤ n) : ∀ k i, i + k = n → 1 ≤ k → (Good (Sg (gi g i) (k : Int) b) k ↔ gi g (n - 1) 0 0 = b) := by
  intro k
  induction k with
  | zero => intro i _ h; omega
  | succ k ih =>
    intro i hi _
    by_cases hk : k = 0
    · subst hk
      have : i = n - 1 := by omega
      subst this
      exact good_one _ _
    · have e : ((k + 1 : Nat) : Int) - 1 = (k : Nat) := by omega
      have := ih (i + 1) (by omega) (by omega)
      rw [← this]
      constructor
      · intro h
        have := forward (by omega) h
        rw [e] at this
        exact this
      · intro h
        refine backward ?_
        rw [e]
        exact h
end Mine
end
section
set_option linter.unusedVariables false
namespace Mine
theorem er_mem {α : Type} [DecidableEq α] {l : List α} (h : l.Nodup) {a b : α} : a ∈ l.erase b ↔ a ≠ b ∧ a ∈ l := h.mem_erase_iff
theorem er_nodup {α : Type} [DecidableEq α] {l : List α} (h : l.Nodup) (b : α) : (l.erase b).Nodup := h.erase b
theorem stepN_spec (l c : List P2) (q : P2) (hl : l.Nodup) (hd : ∀ x ∈ l, x ∉ c) :
    (stepN (l, c) q).1.Nodup ∧ (∀ x, x ∈ (stepN (l, c) q).1 ↔ x ∈ l ∧ x ≠ q) ∧ (∀ x, x ∈ (stepN (l, c) q).2 ↔ x ∈ c ∨ (x = q ∧ x ∈ l)) ∧ (∃ e, (stepN (l, c) q).2 = c ++ e) := by
  unfold stepN
  by_cases h : q ∈ l
  · rw [if_pos h]
    refine ⟨er_nodup hl q, fun x => ?_, fun x => ?_, [q], rfl⟩
    · exact (er_mem hl).trans (And.comm)
    · simp only [List.mem_append, List.mem_singleton]
      constructor
      · rintro (q' | rfl)
        · exact .inl q'
        · exact .inr ⟨rfl, h⟩
      · rintro (q' | ⟨rfl, _⟩)
        · exact .inl q'
        · exact .inr rfl
  · rw [if_neg h]
    refine ⟨hl, fun x => ?_, fun x => ?_, [], by simp⟩
    · exact ⟨fun hx => ⟨hx, fun e => h (e ▸ hx)⟩, fun hx => hx.1⟩
    · exact ⟨.inl, fun hx => hx.elim id fun ⟨e, hx⟩ => absurd (e ▸ hx) h⟩
theorem fold_spec : ∀ (qs l c : List P2), l.Nodup → (∀ x ∈ l, x ∉ c) →
    (qs.foldl stepN (l, c)).1.Nodup ∧ (∀ x, x ∈ (qs.foldl stepN (l, c)).1 ↔ x ∈ l ∧ x ∉ qs) ∧ (∀ x, x ∈ (qs.foldl stepN (l, c)).2 ↔ x ∈ c ∨ (x ∈ qs ∧ x ∈ l)) ∧ (∃ e, (qs.foldl stepN (l, c)).2 = c ++ e) := by
  intro qs
  induction qs with
  | nil => intro l c hl hd; exact ⟨hl, fun x => by simp, fun x => by simp, [], by simp⟩
  | cons q qs ih =>
    intro l c hl hd
    obtain ⟨h1, h2, h3, e, h4⟩ := stepN_spec l c q hl hd
    rw [List.foldl_cons]
    have hd' : ∀ x ∈ (stepN (l, c) q).1, x ∉ (stepN (l, c) q).2 := by
      intro x hx hc
      have hx' := (h2 x).mp hx
      rcases (h3 x).mp hc with z | z
      · exact hd x hx'.1 z
      · exact hx'.2 z.1
    obtain ⟨g1, g2, g3, e', g4⟩ := ih (stepN (l, c) q).1 (stepN (l, c) q).2 h1 hd'
    refine ⟨g1, fun x => ?_, fun x => ?_, e ++ e', by rw [g4, h4, List.append_assoc]⟩
    · rw [g2, h2, List.mem_cons, not_or, and_assoc]
    · rw [g3, h3, h2, List.mem_cons]
      constructor
      · rintro ((z | z) | z)
        · exact .inl z
        · exact .inr ⟨.inl z.1, z.2⟩
        · exact .inr ⟨.inr z.1, z.2.1⟩
      · rintro (z | ⟨z | z, w⟩)
        · exact .inl (.inl z)
        · exact .inl (.inr ⟨z, w⟩)
        · by_cases e : x = q
          · exact .inl (.inr ⟨e, w⟩)
          · exact .inr ⟨z, w, e⟩
/-- what a grown chain is -/
structure Grown (R : P2 → Prop) (l c l' c' : List P2) : Prop where
  nd : l'.Nodup
  sub : ∀ x ∈ l', x ∈ l
  old : ∀ x ∈ c, x ∈ c'
  cov : ∀ x ∈ l, x ∈ l' ∨ x ∈ c'
  dis : ∀ x ∈ l', x ∉ c'
  src : ∀ x ∈ c', x ∈ c ∨ x ∈ l
  cls : ∀ p ∈ c', ∀ q ∈ nears p, q ∉ l'
  snd : ∀ p ∈ c', R p
theorem grow_spec (R : P2 → Prop) (l0 : List P2) (hR : ∀ p q, R p → q ∈ nears p → q ∈ l0 → R q) : ∀ (k : Nat) (l c : List P2) (t : Nat), t ≤ c.length → l.length + c.length ≤ t + k → l.Nodup → (∀ x ∈ l, x ∉ c) → (∀ x ∈ l, x ∈ l0) →
    (∀ i p, i < t → c[i]? = some p → ∀ q ∈ nears p, q ∉ l) → (∀ p ∈ c, R p) → Grown R l c (growF k l c t).1 (growF k l c t).2 := by
  intro k
  induction k with
  | zero =>
    intro l c t h1 h2 hl hd h0 hp hr
    refine ⟨hl, fun _ h => h, fun _ h => h, fun _ h => .inl h, hd, fun _ h => .inl h, fun p hp' => ?_, hr⟩
    have hp'' : p ∈ c := hp'
    obtain ⟨i, hi⟩ := List.getElem?_of_mem hp''
    have := (List.getElem?_eq_some_iff.mp hi).1
    exact hp i p (by omega) hi
  | succ k ih =>
    intro l c t h1 h2 hl hd h0 hp hr
    rw [growF]
    cases hc : c[t]? with
    | none =>
      have hlen : c.length ≤ t := List.getElem?_eq_none_iff.mp hc
      refine ⟨hl, fun _ h => h, fun _ h => h, fun _ h => .inl h, hd, fun _ h => .inl h, fun p hp' => ?_, hr⟩
      have hp'' : p ∈ c := hp'
      obtain ⟨i, hi⟩ := List.getElem?_of_mem hp''
      have := (List.getElem?_eq_some_iff.mp hi).1
      exact hp i p (by omega) hi
    | some p =>
      dsimp only
      obtain ⟨g1, g2, g3, e, g4⟩ := fold_spec (nears p) l c hl hd
      have fl := fold_len (nears p) (l, c)
      have ht : t < c.length := (List.getElem?_eq_some_iff.mp hc).1
      generalize hF : (nears p).foldl stepN (l, c) = F at g1 g2 g3 g4 fl
      obtain ⟨l1, c1⟩ := F
      simp only at g1 g2 g3 g4 fl ⊢
      have G := ih l1 c1 (t + 1) (by rw [g4, List.length_append]; omega) (by omega) g1 (fun x hx hx2 => by
          have := (g2 x).mp hx
          rcases (g3 x).mp hx2 with z | z
          · exact hd x this.1 z
          · exact this.2 z.1) (fun x hx => h0 x ((g2 x).mp hx).1) (fun i q hi hq r hr1 hr2 => by
          have h3 := (g2 r).mp hr2
          rw [g4, List.getElem?_append_left (by omega)] at hq
          by_cases hit : i = t
          · subst hit
            rw [hc] at hq
            cases hq
            exact h3.2 hr1
          · exact hp i q (by omega) hq r hr1 h3.1) (fun q hq => by
          rcases (g3 q).mp hq with z | z
          · exact hr q z
          · exact hR p q (hr p (List.mem_of_getElem? hc)) z.1 (h0 q z.2))
      exact ⟨G.nd, fun x hx => ((g2 x).mp (G.sub x hx)).1, fun x hx => G.old x ((g3 x).mpr (.inl hx)), fun x hx => by
        by_cases hn : x ∈ nears p
        · exact .inr (G.old x ((g3 x).mpr (.inr ⟨hn, hx⟩)))
        · exact G.cov x ((g2 x).mpr ⟨hx, hn⟩), G.dis, fun x hx => by
        rcases G.src x hx with z | z
        · rcases (g3 x).mp z with z | z
          · exact .inl z
          · exact .inr z.2
        · exact .inr ((g2 x).mp z).1, G.cls, G.snd⟩
end Mine
end
section
set_option linter.unusedVariables false
namespace Mine
theorem GoodAt.via {S : P2 → Prop} {n : Int} {p x : P2} (c : Conn S p x) (g : GoodAt S n x) : GoodAt S n p := by
  obtain ⟨⟨a, a1, a2⟩, ⟨b, b1, b2⟩, ⟨d, d1, d2⟩⟩ := g
  exact ⟨⟨a, c.trans a1, a2⟩, ⟨b, c.trans b1, b2⟩, ⟨d, c.trans d1, d2⟩⟩
theorem touches_iff {S : P2 → Prop} {n : Nat} {p : P2} {c : List P2} (h : ∀ x, x ∈ c ↔ Conn S p x) : touches n c = true ↔ GoodAt S n p := by
  unfold touches GoodAt
  rw [Bool.and_eq_true, Bool.and_eq_true, decide_eq_true_iff, decide_eq_true_iff, decide_eq_true_iff, List.mem_map, List.mem_map, List.mem_map]
  constructor
  · rintro ⟨⟨a, a1, a2⟩, ⟨b, b1, b2⟩, ⟨d, d1, d2⟩⟩
    exact ⟨⟨a, (h a).mp a1, a2⟩, ⟨b, (h b).mp b1, b2⟩, ⟨d, (h d).mp d1, d2⟩⟩
  · rintro ⟨⟨a, a1, a2⟩, ⟨b, b1, b2⟩, ⟨d, d1, d2⟩⟩
    exact ⟨⟨a, (h a).mpr a1, a2⟩, ⟨b, (h b).mpr b1, b2⟩, ⟨d, (h d).mpr d1, d2⟩⟩
theorem outer_spec (S : P2 → Prop) (n : Nat) : ∀ (k : Nat) (l : List P2), l.length ≤ k → l.Nodup → (∀ x ∈ l, S x) → (∀ x, S x → x ∈ l ∨ (¬ GoodAt S n x ∧ ∀ q ∈ nears x, q ∉ l)) →
    (outerF n k l = true ↔ ∃ p ∈ l, GoodAt S n p) := by
  intro k
  induction k with
  | zero =>
    intro l h1 h2 h3 h4
    have : l = [] := List.length_eq_zero_iff.mp (by omega)
    subst this
    simp [outerF]
  | succ k ih =>
    intro l h1 h2 h3 h4
    rw [outerF]
    rcases snoc_cases l with rfl | ⟨l0, p, rfl⟩
    · simp
    · rw [List.getLast?_concat]
      dsimp only
      rw [List.dropLast_concat]
      have hnd := List.nodup_append.mp h2
      have G := grow_spec (Conn S p) l0 (fun a q ha hq hm => ha.step hq (h3 q (List.mem_append_left _ hm))) (l0 ++ [p]).length l0 [p] 0 (Nat.zero_le _) (by simp) hnd.1
        (fun x hx hp => hnd.2.2 x hx p (List.mem_singleton.mpr rfl) (List.mem_singleton.mp hp)) (fun x hx => hx) (fun i q hi => absurd hi (Nat.not_lt_zero _))
        (fun q hq => by rw [List.mem_singleton.mp hq]; exact .refl (h3 p (List.mem_append_right _ (List.mem_singleton.mpr rfl))))
      have GL := growF_len (l0 ++ [p]).length l0 [p] 0
      generalize hF : growF (l0 ++ [p]).length l0 [p] 0 = F at G GL
      obtain ⟨l', c'⟩ := F
      simp only at G GL ⊢
      have inl : ∀ x ∈ c', x ∈ l0 ++ [p] := fun x hx => by
        rcases G.src x hx with z | z
        · exact List.mem_append_right _ z
        · exact List.mem_append_left _ z
      have all : ∀ x, Conn S p x → x ∈ c' := by
        intro x hx
        induction hx with
        | refl _ => exact G.old p (List.mem_singleton.mpr rfl)
        | step c hq hs ih2 =>
          rename_i q r
          rcases h4 r hs with z | z
          · rcases List.mem_append.mp z with z | z
            · rcases G.cov r z with y | y
              · exact absurd y (G.cls q ih2 r hq)
              · exact y
            · rw [List.mem_singleton.mp z]; exact G.old p (List.mem_singleton.mpr rfl)
          · exact absurd (inl q ih2) (z.2 q (near_symm hq))
      have hc : ∀ x, x ∈ c' ↔ Conn S p x := fun x => ⟨G.snd x, all x⟩
      have ht := touches_iff (n := n) hc
      by_cases hT : touches n c' = true
      · rw [if_pos hT]
        exact ⟨fun _ => ⟨p, List.mem_append_right _ (List.mem_singleton.mpr rfl), ht.mp hT⟩, fun _ => rfl⟩
      · rw [if_neg hT]
        have hng : ¬ GoodAt S n p := fun g => hT (ht.mpr g)
        have hlen : l'.length ≤ k := by
          have := GL.1
          have := GL.2
          simp only [List.length_append, List.length_cons, List.length_nil] at *
          omega
        rw [ih l' hlen G.nd (fun x hx => h3 x (List.mem_append_left _ (G.sub x hx))) (fun x hx => by
          rcases h4 x hx with z | z
          · by_cases hxc : x ∈ c'
            · exact .inr ⟨fun g => hng (GoodAt.via ((hc x).mp hxc) g), G.cls x hxc⟩
            · rcases List.mem_append.mp z with z | z
              · exact .inl ((G.cov x z).resolve_right hxc)
              · exact absurd (G.old x z) hxc
          · exact .inr ⟨z.1, fun q hq hq' => z.2 q hq (List.mem_append_left _ (G.sub q hq'))⟩)]
        constructor
        · rintro ⟨x, hx, g⟩
          exact ⟨x, List.mem_append_left _ (G.sub x hx), g⟩
        · rintro ⟨x, hx, g⟩
          have hxc : x ∉ c' := fun y => hng (GoodAt.via ((hc x).mp y) g)
          rcases List.mem_append.mp hx with z | z
          · exact ⟨x, (G.cov x z).resolve_right hxc, g⟩
          · exact absurd (G.old x z) hxc
theorem cells_mem (ws : List (List UInt8)) (letter n : Nat) (p : P2) : p ∈ cellsOf ws letter n ↔ ∃ r c : Nat, r < n ∧ c ≤ r ∧ ((ws.getD r []).getD c 0).toNat = letter ∧ p = ((r : Int), (c : Int)) := by
  unfold cellsOf
  simp only [List.mem_flatMap, List.mem_range]
  constructor
  · rintro ⟨r, hr, c, hc, h⟩
    split at h
    · rename_i hl
      exact ⟨r, c, hr, by omega, hl, List.mem_singleton.mp h⟩
    · cases h
  · rintro ⟨r, c, hr, hc, hl, rfl⟩
    exact ⟨r, hr, c, by omega, by rw [if_pos hl]; exact List.mem_singleton.mpr rfl⟩
theorem cells_nodup (ws : List (List UInt8)) (letter n : Nat) : (cellsOf ws letter n).Nodup := by
  unfold cellsOf
  refine List.pairwise_flatMap.mpr ⟨fun r _ => List.pairwise_flatMap.mpr ⟨fun c _ => ?_, ?_⟩, ?_⟩
  · split
    · exact List.pairwise_singleton _ _
    · exact List.Pairwise.nil
  · refine List.Pairwise.imp (fun {c d} (hcd : c ≠ d) x hx y hy => ?_) List.nodup_range
    split at hx <;> split at hy <;> simp at hx hy
    subst hx hy
    intro e
    simp [Prod.ext_iff] at e
    omega
  · refine List.Pairwise.imp (fun {r t} (hcd : r ≠ t) x hx y hy => ?_) List.nodup_range
    obtain ⟨c, _, hx⟩ := List.mem_flatMap.mp hx
    obtain ⟨d, _, hy⟩ := List.mem_flatMap.mp hy
    split at hx <;> split at hy <;> simp at hx hy
    subst hx hy
    intro e
    simp [Prod.ext_iff] at e
    omega
theorem linked_good (ws : List (List UInt8)) (letter : Nat) (S : P2 → Prop) (h : ∀ p, p ∈ cellsOf ws letter ws.length ↔ S p) : linkedF ws letter = true ↔ Good S ws.length := by
  unfold linkedF
  rw [outer_spec S ws.length _ _ (Nat.le_refl _) (cells_nodup ..) (fun x hx => (h x).mp hx) (fun x hx => .inl ((h x).mpr hx))]
  unfold Good
  constructor
  · rintro ⟨p, hp, g⟩
    exact ⟨p, (h p).mp hp, g⟩
  · rintro ⟨p, hp, g⟩
    exact ⟨p, (h p).mpr hp, g⟩
theorem words_get (g : Nat → Nat → Bool) (n r c : Nat) (hr : r < n) (hc : c ≤ r) : ((wordsB g n).getD r []).getD c 0 = letB (g r c) := by
  unfold wordsB
  have h1 : c < r + 1 := by omega
  simp [List.getD_eq_getElem?_getD, hr, h1]
theorem linked_words (g : Nat → Nat → Bool) (n letter : Nat) (b : Bool) (hl : ∀ x : Bool, (letB x).toNat = letter ↔ x = b) : linkedF (wordsB g n) letter = true ↔ Good (Sg g n b) n := by
  have hlen : (wordsB g n).length = n := by simp [wordsB]
  have := linked_good (wordsB g n) letter (Sg g n b) (fun p => by
    rw [hlen, cells_mem]
    constructor
    · rintro ⟨r, c, hr, hc, h, rfl⟩
      rw [words_get g n r c hr hc, hl] at h
      refine ⟨?_, ?_, ?_, ?_⟩
      · dsimp only; omega
      · dsimp only; omega
      · dsimp only; omega
      · simpa [col] using h
    · rintro ⟨h1, h2, h3, h4⟩
      refine ⟨p.1.toNat, p.2.toNat, by omega, by omega, ?_, ?_⟩
      · rw [words_get g n _ _ (by omega) (by omega), hl]
        exact h4
      · refine Prod.ext ?_ ?_
        · dsimp only; omega
        · dsimp only; omega)
  rwa [hlen] at this
end Mine
end
section
set_option linter.unusedVariables false
namespace Mine
theorem plain : Plain := by
  intro g n h4 h6 i hi
  have hg : ∀ b, Good (Sg (gi g i) ((n - i : Nat) : Int) b) ((n - i : Nat) : Int) ↔ gi g (n - 1) 0 0 = b := fun b => good_gi g b n (by omega) (n - i) i (by omega) (by omega)
  have e1 := linked_words (gi g i) (n - i) 66 true (fun x => by cases x <;> decide)
  have e2 := linked_words (gi g i) (n - i) 67 false (fun x => by cases x <;> decide)
  rw [hg] at e1 e2
  unfold pr
  generalize linkedF (wordsB (gi g i) (n - i)) 66 = a at *
  generalize linkedF (wordsB (gi g i) (n - i)) 67 = c at *
  generalize gi g (n - 1) 0 0 = x at *
  revert e1 e2
  cases a <;> cases c <;> cases x <;> simp
end Mine
end
section
open PySem PySem.Calls PyProof.Rows PySem.W
set_option linter.unusedVariables false
namespace Mine
open PySem.Builtin PySem.Builtin.Re
def recT (i : Nat) : Str × Arguments × List Stmt × Scope := (nameOf (stAt i), parsOf (stAt i), bodyOf (stAt i), scopeOf (stAt i))
theorem fd_of {p : Program} {loose : List Str} {mean : ExcName → Option Value} {mg mb : Str → Option Value} {h : Heap} (T : Top p loose mean mg mb h) {is : List Nat}
    (e : ((recsOf p).map fun r => (r.name, r.params, r.body, r.scope)) = is.map recT) {i : Nat} (hi : i ∈ is) {x : Str} (hx : nameOf (stAt i) = x) : Fd mg h x i := by
  have hm : recT i ∈ (recsOf p).map fun r => (r.name, r.params, r.body, r.scope) := by rw [e]; exact List.mem_map_of_mem hi
  obtain ⟨d, hd, q⟩ := List.mem_map.mp hm
  obtain ⟨a, o, pm, code, doc, e1, e2, e3, e4⟩ := T.fn d hd
  unfold recT at q
  obtain ⟨q1, q⟩ := Prod.mk.inj q
  obtain ⟨q2, q⟩ := Prod.mk.inj q
  obtain ⟨q3, q4⟩ := Prod.mk.inj q
  rw [q1, hx] at e1 e3 e4
  rw [q2, q3, q4] at e3
  exact ⟨a, o, pm, code, doc, e1, e2, e3, e4⟩
/-- the namespace written at a holds no n -/
def lacks (K : Frag) (a : Addr) (n : Str) : Bool := match (K.lookup a).map Obj.data with
  | some (.dict es _) => (nsFind es n).isNone
  | _ => false
theorem lacks_none {K : Frag} {h : Heap} {a : Addr} {mc : Str → Option Value} {n : Str} (X : K.In h) (G : h.Ns a mc) (e : lacks K a n = true) : mc n = none := by
  obtain ⟨o, es, ep, at_a, is_dict, _, told⟩ := G
  cases q : K.lookup a with
  | none => unfold lacks at e; rw [q] at e; cases e
  | some o' =>
    obtain rfl : o = o' := Option.some.inj (at_a.symm.trans (X a o' q))
    unfold lacks at e
    rw [q, Option.map_some, is_dict] at e
    exact (told n).symm.trans (Option.isNone_iff_eq_none.mp e)
def patOk (K : Frag) (p : Addr) (code : Array Nat) : Bool := match K.lookup p with
  | some ⟨.type cls, none, .fields fs, _⟩ => cls == "re.Pattern" && (match fs.getD 2 .none, fs.getD 5 .none, fs.getD 6 .none with
    | .int 0 _, .ref c, .int 0 _ => (match K.lookup c with
      | some ⟨_, _, .seq items _, _⟩ => ((items.map reRawOf).map (·.toNat)).toList == code.toList
      | _ => false)
    | _, _, _ => false)
  | _ => false
theorem pat_of {K : Frag} {h : Heap} {p : Addr} {code : Array Nat} (X : K.In h) (e : patOk K p code = true) : Pat h p code := by
  unfold patOk at e
  split at e
  · rename_i cls fs sl q
    obtain ⟨e1, e⟩ := Bool.and_eq_true_iff.mp e
    split at e
    · rename_i t2 c t6 q2 q5 q6
      split at e
      · rename_i items n sl' q'
        have h1 := X _ _ q
        have h2 := X _ _ q'
        exact ⟨_, fs, c, _, items, n, t2, t6, h1, by rw [← eq_of_beq e1], rfl, rfl, q2, q5, q6, h2, rfl, Array.toList_inj.mp (eq_of_beq e)⟩
      · cases e
    · cases e
  · cases e
/-- the module, once its program's view and the written heap are known -/
theorem gm_of {p : Program} {loose names : List Str} {mean : ExcName → Option Value} {mg mb : Str → Option Value} {h : Heap} {K : Frag} (T : Top p loose mean mg mb h) (X : K.In h)
    (e : ((recsOf p).map fun r => (r.name, r.params, r.body, r.scope)) = [2, 3, 5, 10, 12, 13, 14, 15, 16, 17].map recT)
    (f : ∀ x, x ∉ names → x ∉ bootMainNames → mg x = none) (hn : ((["int", "abs", "divmod", "range", "len", "list", "sum"] : List Str).all fun x => !names.contains x && !bootMainNames.contains x) = true)
    (hs : lacks K cStatics sharingNotToldKey = true) : Gm mg mb h where
  g := T.g
  b := T.b
  lim := T.nolimit
  nt := let ⟨mc, h1, _⟩ := T.nodigits; ⟨mc, h1, lacks_none X h1 hs⟩
  boot := T.builtins
  no := by
    have key : ∀ x ∈ (["int", "abs", "divmod", "range", "len", "list", "sum"] : List Str), mg x = none := fun x hx => by
      have := List.all_eq_true.mp hn x hx
      rw [Bool.and_eq_true, Bool.not_eq_true', Bool.not_eq_true', List.contains_eq_mem, List.contains_eq_mem, decide_eq_false_iff_not, decide_eq_false_iff_not] at this
      exact f x this.1 this.2
    exact ⟨key _ (by simp), key _ (by simp), key _ (by simp), key _ (by simp), key _ (by simp), key _ (by simp), key _ (by simp)⟩
  rgb := fd_of T e (i := 2) (by simp) (by kernel_rfl)
  yiq := fd_of T e (i := 3) (by simp) (by kernel_rfl)
  ap := fd_of T e (i := 5) (by simp) (by kernel_rfl)
  qd := fd_of T e (i := 10) (by simp) (by kernel_rfl)
  fb := fd_of T e (i := 12) (by simp) (by kernel_rfl)
  lk := fd_of T e (i := 13) (by simp) (by kernel_rfl)
  jd := fd_of T e (i := 14) (by simp) (by kernel_rfl)
  sb := fd_of T e (i := 15) (by simp) (by kernel_rfl)
  ok := fd_of T e (i := 16) (by simp) (by kernel_rfl)
theorem gq_of {mg : Str → Option Value} {h : Heap} {K : Frag} {p1 p2 : Addr} (X : K.In h) (g : h.Ns mainGlobals mg) (e1 : nsIn K mainGlobals "_twin_re_1" = some (some (.ref p1))) (e2 : nsIn K mainGlobals "_twin_re_2" = some (some (.ref p2)))
    (e3 : ∃ v, mg "CRLF" = some v ∧ IsDatum v (.str crlfS)) (k1 : patOk K p1 c1 = true) (k2 : patOk K p2 c2 = true) : Gq mg h :=
  ⟨⟨p1, mg_of X g e1, pat_of X k1⟩, ⟨p2, mg_of X g e2, pat_of X k2⟩, let ⟨v, h1, h2⟩ := e3; let ⟨t, e⟩ := h2.str; ⟨t, e ▸ h1⟩⟩
theorem law_end {prog : Program} {w : World} {s₁ : Shared} {mg mb : Str → Option Value} {ns : List Int} {vs : List Value} {sa a : Addr} {cd : Value} {h₁ : Heap} {n : Nat} {g₁ d₁ o₁} {Q : Flow → Shared → Prop} {E : Value → Shared → Prop} {env0 : Env}
    (G : Gm mg mb s₁.heap) (Gp : Gq mg s₁.heap) (il : s₁.heap.IsList sa vs.toArray) (hi : IntsAre vs ns) (hz : ¬ (63 : Int) < (ns.length : Int))
    (F : Fr s₁.heap s₁.heap.objs.size h₁ fun x => List.lookup x [(("script" : Str), Value.ref sa)])
    (hQ : ∀ h' k, Kp s₁.heap h' → Q (.ret (.bool true)) { heap := h', gens := g₁, drawn := d₁, toks := k, os := o₁ }) :
    wpAny (model prog w) (callerA.deeper env0) (execs (bodyOf (stAt 17)) (envOf "law" (scopeOf (stAt 17)) s₁.heap.objs.size a cd)) Q E { heap := h₁, gens := g₁, drawn := d₁, toks := s₁.toks + (n + 1), os := o₁ } := by with_unfolding_all
  have hl : vs.length ≤ 63 := by have := hi.length; omega
  refine law_body plain (A := callerA.deeper env0) ⟨rfl, (by show 1 + claimMargin + 1 + 25 ≤ 900; decide), (by show 4 + 3 + 10 * 25 ≤ 9000; decide)⟩ G Gp il hi hl ⟨fun x o e => F.keep x o e, fun o e => ?_, nofun, List.nodup_nil, nofun, _, F.ns, fun x d e => ?_⟩ _ rfl Q E (fun f h' k _ r => ?_) (Nat.succ_pos _)
  · exact absurd (Heap.lt_size e) (Nat.lt_irrefl _)
  · rw [List.lookup_cons] at e
    cases q : (x == "script") with
    | true =>
      rw [q] at e
      cases e
      refine ⟨.ref sa, ?_, rfl⟩
      rw [List.lookup_cons, q]
    | false => rw [q] at e; cases e
  · obtain ⟨k1, rfl⟩ := r
    exact hQ h' k k1
end Mine
end
open PySem PySem.Calls PyProof.Rows PySem.W Mine
set_option maxRecDepth 100000 in
set_option maxHeartbeats 8000000 in
theorem PySem.Challenge.cw_sn0005_01_holds : PySem.Challenge.rw_sn0005_01.Holds := by
  w_on
  o_law
  k_head
  case hw => w_witness2
  w_strict k_go0
  rename_i w s₀ s₁ mg mb GR YY fa o pm doc kV ho hg KX X V GL T B TE TW w9 w8 M w7 w6 hcd ns hs hlay0 hL1 hr1 hl2 w4 w3 sa vs w0 hL ra w1 r0 hI hr hcond hcond0 K0 hD h₁ F N0
  have G : Gm mg mb s₁.heap := gm_of T KX (by kernel_rfl) GL.free (by kernel_rfl) (by kernel_rfl)
  have Gp : Gq mg s₁.heap := gq_of (p1 := 57) (p2 := 62) KX T.g (by kernel_rfl) (by kernel_rfl) (let ⟨v, h1, h2⟩ := T.const "CRLF" (.str crlfS) (by kernel_rfl); ⟨v, h1, h2⟩) (by kernel_rfl) (by kernel_rfl)
  clear GR YY X V GL B TE TW M hcd hD
  refine law_end (n := 0) G Gp hL hI hcond F fun h' k kp => ?_
  exact ⟨.inl ⟨.bool true, .bool true, [], rfl, fun _ => by kernel_rfl, .bool _, by kernel_rfl, fun _ => ⟨List.nodup_nil, nofun⟩⟩, kp, rfl, hg⟩
