import PyProof.Rows.All
import Wide.All
import OpenK.AllK
import Wide.FinOn
import Lean
import PySem.Challenge.RW_oy0118_01

set_option Elab.async false
set_option linter.all false
set_option linter.unusedVariables false

section
open PySem PySem.W PyProof.Rows PySem.Calls
set_option Elab.async false
set_option linter.unusedVariables false
namespace Mine

def Ext (h h' : Heap) : Prop := ∀ b o, h.get? b = some o → h'.get? b = some o
theorem Ext.refl (h : Heap) : Ext h h := fun _ _ e => e
theorem Ext.trans {h h' h'' : Heap} (a : Ext h h') (b : Ext h' h'') : Ext h h'' := fun x o e => b x o (a x o e)
theorem Ext.push (h : Heap) (o : Obj) : Ext h (h.push o) := fun _ _ e => Heap.get?_push_of_some _ e
def Kp (s s' : Shared) : Prop := Keeps s s'
theorem Kp.ext {s s' : Shared} (k : Kp s s') : Ext s.heap s'.heap := by
  obtain ⟨h', tk, rfl, e⟩ := k
  exact e
theorem Kp.of (s : Shared) {h' : Heap} {tk : Nat} (e : Ext s.heap h') : Kp s { s with heap := h', toks := tk } := ⟨h', tk, rfl, e⟩
theorem Kp.refl (s : Shared) : Kp s s := ⟨s.heap, s.toks, rfl, fun _ _ e => e⟩
theorem Kp.trans {a b c : Shared} (x : Kp a b) (y : Kp b c) : Kp a c := by
  obtain ⟨h, t, rfl, e⟩ := x
  obtain ⟨h', t', rfl, e'⟩ := y
  exact ⟨h', t', rfl, fun p o q => e' p o (e p o q)⟩

mutual
inductive Rd (X : Addr → Prop) (h : Heap) : Value → PyData → Prop
  | none : Rd X h .none .none
  | bool (b) : Rd X h (.bool b) (.bool b)
  | int (i t) : Rd X h (.int i t) (.int i)
  | str (x t) : Rd X h (.str x t) (.str x)
  | list {a : Addr} {o : Obj} {vs : Array Value} {n : Nat} {xs : List PyData} : h.get? a = some o → o.cls = .type "list" → o.data = .seq vs n → o.dict = .none → ¬ X a → RdAll X h vs.toList xs → Rd X h (.ref a) (.list xs)
  | tuple {a : Addr} {o : Obj} {vs : Array Value} {n : Nat} {xs : List PyData} : h.get? a = some o → o.cls = .type "tuple" → o.data = .seq vs n → ¬ X a → RdAll X h vs.toList xs → Rd X h (.ref a) (.tuple xs)
inductive RdAll (X : Addr → Prop) (h : Heap) : List Value → List PyData → Prop
  | nil : RdAll X h [] []
  | cons {v : Value} {vs : List Value} {d : PyData} {ds : List PyData} : Rd X h v d → RdAll X h vs ds → RdAll X h (v :: vs) (d :: ds)
end

mutual
theorem Rd.reads {X : Addr → Prop} {h : Heap} : ∀ {v : Value} {d : PyData}, Rd X h v d → ∃ as, Reads h v d as
  | _, _, .none => ⟨_, .none⟩
  | _, _, .bool b => ⟨_, .bool b⟩
  | _, _, .int i t => ⟨_, .int i t⟩
  | _, _, .str x t => ⟨_, .str x t⟩
  | _, _, .list a b c _ _ r => let ⟨_, q⟩ := r.reads; ⟨_, .list a b c q⟩
  | _, _, .tuple a b c _ r => let ⟨_, q⟩ := r.reads; ⟨_, .tuple a b c q⟩
theorem RdAll.reads {X : Addr → Prop} {h : Heap} : ∀ {vs : List Value} {ds : List PyData}, RdAll X h vs ds → ∃ as, ReadsAll h vs ds as
  | _, _, .nil => ⟨_, .nil⟩
  | _, _, .cons a b => let ⟨_, p⟩ := a.reads; let ⟨_, q⟩ := b.reads; ⟨_, .cons p q⟩
end

def Mv (X X' : Addr → Prop) (h h' : Heap) : Prop :=
  (∀ b o, h.get? b = some o → ∀ vs n, o.data = .seq vs n → ¬ X b → h'.get? b = some o) ∧ ∀ b o, h.get? b = some o → X' b → X b
mutual
theorem Rd.mv {X X' : Addr → Prop} {h h' : Heap} (m : Mv X X' h h') : ∀ {v : Value} {d : PyData}, Rd X h v d → Rd X' h' v d
  | _, _, .none => .none
  | _, _, .bool b => .bool b
  | _, _, .int i t => .int i t
  | _, _, .str x t => .str x t
  | _, _, .list a b c e d r => .list (m.1 _ _ a _ _ c d) b c e (fun q => d (m.2 _ _ a q)) (r.mv m)
  | _, _, .tuple a b c d r => .tuple (m.1 _ _ a _ _ c d) b c (fun q => d (m.2 _ _ a q)) (r.mv m)
theorem RdAll.mv {X X' : Addr → Prop} {h h' : Heap} (m : Mv X X' h h') : ∀ {vs : List Value} {ds : List PyData}, RdAll X h vs ds → RdAll X' h' vs ds
  | _, _, .nil => .nil
  | _, _, .cons a b => .cons (a.mv m) (b.mv m)
end
theorem Mv.ext {X : Addr → Prop} {h h' : Heap} (e : Ext h h') : Mv X X h h' := ⟨fun b o q _ _ _ _ => e b o q, fun _ _ _ q => q⟩
theorem Mv.sub {X X' : Addr → Prop} {h : Heap} (e : ∀ b, X' b → X b) : Mv X X' h h := ⟨fun _ _ q _ _ _ _ => q, fun _ _ _ q => e _ q⟩
theorem Rd.ext {X : Addr → Prop} {h h' : Heap} (e : Ext h h') {v : Value} {d : PyData} (r : Rd X h v d) : Rd X h' v d := r.mv (.ext e)
theorem RdAll.ext {X : Addr → Prop} {h h' : Heap} (e : Ext h h') {vs : List Value} {ds : List PyData} (r : RdAll X h vs ds) : RdAll X h' vs ds := r.mv (.ext e)
theorem RdAll.length {X : Addr → Prop} {h : Heap} : ∀ {vs : List Value} {ds : List PyData}, RdAll X h vs ds → vs.length = ds.length
  | _, _, .nil => rfl
  | _, _, .cons _ b => congrArg (· + 1) b.length
theorem RdAll.get {X : Addr → Prop} {h : Heap} : ∀ {vs : List Value} {ds : List PyData}, RdAll X h vs ds → ∀ {i : Nat} {d : PyData}, ds[i]? = some d → ∃ v, vs[i]? = some v ∧ Rd X h v d
  | _, _, .nil, _, _, e => by cases e
  | _, _, .cons a b, 0, _, e => by cases e; exact ⟨_, rfl, a⟩
  | _, _, .cons _ b, i + 1, _, e => b.get (i := i) e
theorem RdAll.getV {X : Addr → Prop} {h : Heap} : ∀ {vs : List Value} {ds : List PyData}, RdAll X h vs ds → ∀ {i : Nat} {v : Value}, vs[i]? = some v → ∃ d, ds[i]? = some d ∧ Rd X h v d
  | _, _, .nil, _, _, e => by cases e
  | _, _, .cons a b, 0, _, e => by cases e; exact ⟨_, rfl, a⟩
  | _, _, .cons _ b, i + 1, _, e => b.getV (i := i) e
theorem RdAll.append {X : Addr → Prop} {h : Heap} : ∀ {vs vs' : List Value} {ds ds' : List PyData}, RdAll X h vs ds → RdAll X h vs' ds' → RdAll X h (vs ++ vs') (ds ++ ds')
  | _, _, _, _, .nil, r => r
  | _, _, _, _, .cons a b, r => .cons a (b.append r)
theorem RdAll.drop {X : Addr → Prop} {h : Heap} : ∀ {vs : List Value} {ds : List PyData}, RdAll X h vs ds → ∀ n, RdAll X h (vs.drop n) (ds.drop n)
  | _, _, r, 0 => r
  | _, _, .nil, _ + 1 => .nil
  | _, _, .cons _ b, n + 1 => b.drop n
theorem RdAll.take {X : Addr → Prop} {h : Heap} : ∀ {vs : List Value} {ds : List PyData}, RdAll X h vs ds → ∀ n, RdAll X h (vs.take n) (ds.take n)
  | _, _, _, 0 => .nil
  | _, _, .nil, _ + 1 => .nil
  | _, _, .cons a b, n + 1 => .cons a (b.take n)

inductive AV where
  | d (x : PyData)
  | own (xs : List PyData)
  | arr (xs : List PyData)
  | v (x : Value)

def LstAt (X : Addr → Prop) (h : Heap) (a : Addr) (xs : List PyData) : Prop :=
  ∃ vs, h.IsList a vs ∧ RdAll X h vs.toList xs
def VR (X : Addr → Prop) (h : Heap) (v : Value) : AV → Prop
  | .d x => Rd X h v x
  | .own xs => ∃ a vs, v = .ref a ∧ X a ∧ h.PlainList a vs ∧ RdAll X h vs.toList xs
  | .arr xs => ∃ a vs, v = .ref a ∧ ¬ X a ∧ h.IsList a vs ∧ RdAll X h vs.toList xs
  | .v x => v = x
def AV.lst? : AV → Option (List PyData)
  | .d (.list xs) => some xs
  | .own xs => some xs
  | .arr xs => some xs
  | _ => none
theorem PlainList.ext {h h' : Heap} (e : Ext h h') {a : Addr} {vs : Array Value} (p : h.PlainList a vs) : h'.PlainList a vs := p.at fun o q => e a o q
theorem IsList.ext {h h' : Heap} (e : Ext h h') {a : Addr} {vs : Array Value} (p : h.IsList a vs) : h'.IsList a vs := p.at fun o q => e a o q
theorem VR.ext {X : Addr → Prop} {h h' : Heap} (e : Ext h h') {v : Value} {a : AV} (r : VR X h v a) : VR X h' v a := by
  cases a with
  | d x => exact Rd.ext e r
  | own xs => obtain ⟨a, vs, h1, h2, h3, h4⟩ := r; exact ⟨a, vs, h1, h2, PlainList.ext e h3, h4.ext e⟩
  | arr xs => obtain ⟨a, vs, h1, h2, h3, h4⟩ := r; exact ⟨a, vs, h1, h2, IsList.ext e h3, h4.ext e⟩
  | v x => exact r
theorem VR.lst {X : Addr → Prop} {h : Heap} {v : Value} {a : AV} {xs : List PyData} (r : VR X h v a) (e : a.lst? = some xs) : ∃ l, v = .ref l ∧ LstAt X h l xs := by
  cases a with
  | d x =>
    cases x <;> cases e
    cases r with
    | list h1 h2 h3 _ h4 h5 => exact ⟨_, rfl, _, ⟨_, h1, h2, _, h3⟩, h5⟩
  | own ys =>
    cases e
    obtain ⟨a, vs, h1, h2, h3, h4⟩ := r
    exact ⟨a, h1, vs, h3.isList, h4⟩
  | arr ys =>
    cases e
    obtain ⟨a, vs, h1, h2, h3, h4⟩ := r
    exact ⟨a, h1, vs, h3, h4⟩
  | v x => cases e
structure Rm (n : Nat) (A : Around) : Prop where
  handled : A.handled = none
  depth : A.depth + n < recursionLimit
  units : A.units + 8 * n + 100 < cLine
theorem Rm.lt {n : Nat} {A : Around} (r : Rm n A) : A.depth < recursionLimit := Nat.lt_of_le_of_lt (Nat.le_add_right _ _) r.depth
theorem Rm.deeper {n : Nat} {A : Around} (r : Rm (n + 1) A) (env : Env) : Rm n (A.deeper env) :=
  ⟨r.handled, by have := r.depth; show A.depth + 1 + n < _; omega, by have := r.units; show A.units + 3 + 8 * n + 100 < _; omega⟩
theorem Rm.in1 {n : Nat} {A : Around} (r : Rm (n + 1) A) : Rm n A.in1 :=
  ⟨r.handled, by have := r.depth; show A.depth + n < _; omega, by have := r.units; show A.units + 1 + 8 * n + 100 < _; omega⟩
theorem Rm.le {n k : Nat} {A : Around} (r : Rm n A) (h : k ≤ n) : Rm k A :=
  ⟨r.handled, by have := r.depth; omega, by have := r.units; omega⟩
theorem Rm.u64 {n : Nat} {A : Around} (r : Rm n A) : A.units + 64 < cLine := by have := r.units; omega
section
variable (prog : Program) (w : World) (n : Nat) (X : Addr → Prop) (env : Env) (h : Heap)

def Pu (e : Expr) (a : AV) : Prop :=
  ∀ A, Rm n A → ∀ s, Ext h s.heap → ∀ E, wpAny (model prog w) A (eval e env) (fun v s' => Kp s s' ∧ VR X s'.heap v a) E s
def PuT (e : Expr) (b : Bool) : Prop :=
  ∀ A, Rm n A → ∀ s, Ext h s.heap → ∀ E, wpAny (model prog w) A (isTrue e env (eval e env)) (fun v s' => Kp s s' ∧ v = b) E s
def NameIs (x : Str) (v : Value) : Prop :=
  ∀ pos A s, Ext h s.heap → ∀ (Q : Value → Shared → Prop) E, Q v s → wpAny (model prog w) A (eval (.Name x pos) env) Q E s
end

end Mine
end

section
open PySem PySem.W PyProof.Rows PySem.Calls
set_option Elab.async false
set_option linter.unusedVariables false
namespace Mine
section
variable {prog : Program} {w : World} {n : Nat} {X : Addr → Prop} {env : Env} {h : Heap}

theorem Pu.go {A : Around} {s : Shared} {e : Expr} {a : AV} {Q : Value → Shared → Prop} {E : Value → Shared → Prop} (p : Pu prog w n X env h e a) (r : Rm n A) (x : Ext h s.heap)
    (k : ∀ v s', Kp s s' → Ext h s'.heap → VR X s'.heap v a → Q v s') : wpAny (model prog w) A (eval e env) Q E s :=
  wpAny_mono (p A r s x E) (fun v s' q => k v s' q.1 (x.trans (Kp.ext q.1)) q.2) fun _ _ z => z
theorem PuT.go {A : Around} {s : Shared} {e : Expr} {b : Bool} {Q : Bool → Shared → Prop} {E : Value → Shared → Prop} (p : PuT prog w n env h e b) (r : Rm n A) (x : Ext h s.heap)
    (k : ∀ s', Kp s s' → Ext h s'.heap → Q b s') : wpAny (model prog w) A (isTrue e env (eval e env)) Q E s :=
  wpAny_mono (p A r s x E) (fun v s' q => q.2 ▸ k s' q.1 (x.trans (Kp.ext q.1))) fun _ _ z => z
theorem Pu.int {i : Int} {k : Nat} {pos : Pos} : Pu prog w n X env h (.Constant (.int i) k pos) (.d (.int i)) := fun _ _ s _ _ => wpAny_Constant_int ⟨Kp.of s (Ext.refl _), .int _ _⟩
theorem Pu.str {x : Str} {k : Nat} {pos : Pos} : Pu prog w n X env h (.Constant (.str x) k pos) (.d (.str x)) := fun _ _ s _ _ => Calls.Constant_str ⟨Kp.of s (Ext.refl _), .str _ _⟩
theorem Pu.name {x : Str} {pos : Pos} {v : Value} {a : AV} (p : NameIs prog w env h x v) (q : VR X h v a) : Pu prog w n X env h (.Name x pos) a :=
  fun A _ s x E => p pos A s x _ E ⟨Kp.refl s, q.ext x⟩
theorem NameIs.mono {h' : Heap} {x : Str} {v : Value} (p : NameIs prog w env h x v) (e : Ext h h') : NameIs prog w env h' x v := fun pos A s y Q E q => p pos A s (e.trans y) Q E q
theorem NameIs.local {x : Str} {v : Value} {m : Str → Option Value} (hk : env.scope.kind = .function) (hl : env.kindOf x = some .local) (hn : h.Ns env.locals m) (hv : m x = some v) (hd : (x == ("__debug__" : Str)) = false) : NameIs prog w env h x v :=
  fun pos A s y Q E q => wpAny_Name (wpAny_loadName_local hk hl (hn.keeps y) hv q) hd
theorem NameIs.cell {x : Str} {v : Value} {c : Addr} (hk : env.scope.kind = .function) (hl : env.kindOf x = some .cell) (hc : env.cells.lookup x = some c) (hv : h.IsCell c (some v)) (hd : (x == ("__debug__" : Str)) = false) : NameIs prog w env h x v :=
  fun pos A s y Q E q => wpAny_Name (wpAny_loadName_cell hk hl hc (hv.keeps y) q) hd
theorem NameIs.free {x : Str} {v : Value} {c : Addr} (hk : env.scope.kind = .function) (hl : env.kindOf x = some .free) (hc : env.cells.lookup x = some c) (hv : h.IsCell c (some v)) (hd : (x == ("__debug__" : Str)) = false)
    (hn : (x == ("__classdict__" : Str)) = false) : NameIs prog w env h x v :=
  fun pos A s y Q E q => wpAny_Name (wpAny_loadName_free hk hl hc (hv.keeps y) q hn) hd
theorem NameIs.global {x : Str} {v : Value} {mg : Str → Option Value} (hk : env.scope.kind = .function) (hl : env.kindOf x = some .globalImplicit) (hg : h.Ns env.globals mg) (hv : mg x = some v) (hd : (x == ("__debug__" : Str)) = false) : NameIs prog w env h x v :=
  fun pos A s y Q E q => Calls.Name_function_global hk hl (Calls.loadGlobal_global (hg.keeps y) hv q) hd
theorem NameIs.builtin {x : Str} {v : Value} {mg mb : Str → Option Value} (hk : env.scope.kind = .function) (hl : env.kindOf x = some .globalImplicit) (hg : h.Ns env.globals mg) (hn : mg x = none) (hb : h.Ns env.builtins mb) (hv : mb x = some v) (hd : (x == ("__debug__" : Str)) = false) : NameIs prog w env h x v :=
  fun pos A s y Q E q => Calls.Name_function_global hk hl (Calls.loadGlobal_builtin (hg.keeps y) hn (hb.keeps y) hv q) hd

def Bin (prog : Program) (w : World) (n : Nat) (X : Addr → Prop) (op : Operator) (a b c : AV) : Prop :=
  ∀ A, Rm n A → ∀ s va vb, (∀ p, X p → (s.heap.get? p).isSome = true) → VR X s.heap va a → VR X s.heap vb b → ∀ E, wpAny (model prog w) A (binaryOp op va vb) (fun v s' => Kp s s' ∧ VR X s'.heap v c) E s
def Cmp (prog : Program) (w : World) (n : Nat) (X : Addr → Prop) (op : CmpOp) (a b : AV) (c : Bool) : Prop :=
  ∀ A, Rm n A → ∀ s va vb, VR X s.heap va a → VR X s.heap vb b → ∀ E, wpAny (model prog w) A (compareOp op va vb) (fun v s' => Kp s s' ∧ v = .bool c) E s
def XOk (X : Addr → Prop) (h : Heap) : Prop := ∀ p, X p → (h.get? p).isSome = true
theorem XOk.ext {X : Addr → Prop} {h h' : Heap} (x : XOk X h) (e : Ext h h') : XOk X h' := fun p q => by
  obtain ⟨o, z⟩ := Option.isSome_iff_exists.mp (x p q)
  rw [e _ _ z]; rfl
theorem XOk.new {X : Addr → Prop} {h : Heap} (x : XOk X h) : ¬ X h.objs.size := fun q => by
  obtain ⟨o, z⟩ := Option.isSome_iff_exists.mp (x _ q)
  exact Nat.lt_irrefl _ (Heap.lt_size z)

theorem Pu.bin {l r : Expr} {op : Operator} {pos : Pos} {a b c : AV} (hX : XOk X h) (p : Pu prog w n X env h l a) (q : Pu prog w n X env h r b) (o : Bin prog w n X op a b c) :
    Pu prog w n X env h (.BinOp l op r pos) c := fun A R s x E =>
  wpAny_BinOp (p.go R x fun va s₁ k₁ x₁ r₁ => q.go R x₁ fun vb s₂ k₂ x₂ r₂ => wpAny_mono (o A R s₂ va vb (hX.ext x₂) (r₁.ext (Kp.ext k₂)) r₂ E) (fun v s' z => ⟨(k₁.trans k₂).trans z.1, z.2⟩) fun _ _ z => z)
theorem Pu.cmp {l r : Expr} {op : CmpOp} {pos : Pos} {a b : AV} {c : Bool} (p : Pu prog w n X env h l a) (q : Pu prog w n X env h r b) (o : Cmp prog w n X op a b c) (hm : behindInMarks op r = false := by rfl) :
    Pu prog w n X env h (.Compare l [op] [r] pos) (.d (.bool c)) := fun A R s x E =>
  wpAny_Compare1 (p.go R x fun va s₁ k₁ x₁ r₁ => q.go R x₁ fun vb s₂ k₂ _ r₂ => wpAny_mono (o A R s₂ va vb (r₁.ext (Kp.ext k₂)) r₂ E) (fun v s' z => ⟨(k₁.trans k₂).trans z.1, z.2 ▸ .bool c⟩) fun _ _ z => z) hm
theorem PuT.cmp {l r : Expr} {op : CmpOp} {pos : Pos} {a b : AV} {c : Bool} (p : Pu prog w n X env h l a) (q : Pu prog w n X env h r b) (o : Cmp prog w n X op a b c) (hm : behindInMarks op r = false := by rfl) :
    PuT prog w n env h (.Compare l [op] [r] pos) c := fun A R s x E =>
  wpAny_isTrue_Compare1 (p.go R x fun va s₁ k₁ x₁ r₁ => q.go R x₁ fun vb s₂ k₂ _ r₂ => wpAny_mono (o A R s₂ va vb (r₁.ext (Kp.ext k₂)) r₂ E)
    (fun v s' z => by obtain ⟨z1, rfl⟩ := z; exact wpAny_truthy_bool ⟨(k₁.trans k₂).trans z1, rfl⟩) fun _ _ z => z) hm
theorem PuT.and {e : Expr} {r : List Expr} {pos : Pos} {b c : Bool} (p : PuT prog w n env h e b) (q : b = true → PuT prog w n env h (.BoolOp .And r pos) c) : PuT prog w n env h (.BoolOp .And (e :: r) pos) (b && c) := fun A R s x E => by
  refine isTrue_and (p.go R x fun s' k x' => ?_)
  cases b with
  | false => exact ⟨k, rfl⟩
  | true => exact (q rfl).go R x' fun s'' k' _ => ⟨k.trans k', rfl⟩
theorem PuT.and0 {pos : Pos} : PuT prog w n env h (.BoolOp .And [] pos) true := fun _ _ s _ _ => isTrue_and_nil ⟨Kp.refl s, rfl⟩
theorem Pu.ifExp {t b o : Expr} {pos : Pos} {c : Bool} {x y : AV} (p : PuT prog w n env h t c) (q : c = true → Pu prog w n X env h b x) (r : c = false → Pu prog w n X env h o y) :
    Pu prog w n X env h (.IfExp t b o pos) (if c = true then x else y) := fun A R s z E => by
  refine IfExp_ (p.go R z fun s' k z' => ?_)
  cases c with
  | true => exact (q rfl).go R z' fun v s'' k' _ r' => ⟨k.trans k', r'⟩
  | false => exact (r rfl).go R z' fun v s'' k' _ r' => ⟨k.trans k', r'⟩

inductive VRs (X : Addr → Prop) (h : Heap) : List Value → List AV → Prop
  | nil : VRs X h [] []
  | cons {v : Value} {a : AV} {vs : List Value} {as : List AV} : VR X h v a → VRs X h vs as → VRs X h (v :: vs) (a :: as)
theorem VRs.ext {X : Addr → Prop} {h h' : Heap} (e : Ext h h') {vs : List Value} {as : List AV} (r : VRs X h vs as) : VRs X h' vs as := by
  induction r with
  | nil => exact .nil
  | cons a _ ih => exact .cons (a.ext e) ih
theorem VRs.rd {X : Addr → Prop} {h : Heap} : ∀ {ds : List PyData} {vs : List Value}, VRs X h vs (ds.map .d) → RdAll X h vs ds
  | [], _, .nil => .nil
  | _ :: _, _, .cons a b => .cons a b.rd
def PuS (prog : Program) (w : World) (n : Nat) (X : Addr → Prop) (env : Env) (h : Heap) (es : List Expr) (as : List AV) : Prop :=
  ∀ pos A, Rm n A → ∀ s, Ext h s.heap → ∀ E, wpAny (model prog w) A (spliced (backTo pos (starEach es env))) (fun vs s' => Kp s s' ∧ VRs X s'.heap vs as) E s
theorem PuS.nil : PuS prog w n X env h [] [] := fun _ _ _ s _ _ => spliced_none ⟨Kp.refl s, .nil⟩
theorem PuS.cons {e : Expr} {es : List Expr} {a : AV} {as : List AV} (p : Pu prog w n X env h e a) (q : PuS prog w n X env h es as) (hs : starEach (e :: es) env = (false, eval e env) :: starEach es env := by rfl) : PuS prog w n X env h (e :: es) (a :: as) :=
  fun pos A R s x E => spliced_more (p.go R x fun v s₁ k₁ x₁ r₁ => wpAny_mono (q pos A R s₁ x₁ E) (fun vs s₂ z => ⟨k₁.trans z.1, .cons (r₁.ext (Kp.ext z.1)) z.2⟩) fun _ _ z => z) hs
theorem Pu.list {es : List Expr} {ds : List PyData} {pos : Pos} (hX : XOk X h) (p : PuS prog w n X env h es (ds.map .d)) (hz : ds.length ≤ sizeLine := by decide) : Pu prog w n X env h (.List es pos) (.d (.list ds)) := fun A R s x E => by
  refine List_ (wpAny_mono (p pos A R s x E) (fun vs s₁ z => ?_) fun _ _ z => z)
  have r := z.2.rd
  have hl := r.length
  refine wpAny_newObj_type ⟨z.1.trans (Kp.of s₁ (Ext.push _ _)), .list (Heap.get?_push_size _ rfl) rfl rfl rfl ?_ ?_⟩ (by show vs.toArray.size ≤ sizeLine; rw [List.size_toArray, hl]; exact hz)
  · exact (hX.ext (x.trans (Kp.ext z.1))).new
  · exact r.ext (Ext.push _ _)
theorem Pu.tuple {es : List Expr} {ds : List PyData} {k : Nat} {pos : Pos} (hX : XOk X h) (p : PuS prog w n X env h es (ds.map .d)) (hz : ds.length ≤ sizeLine := by decide) : Pu prog w n X env h (.Tuple es k pos) (.d (.tuple ds)) := fun A R s x E => by
  refine Tuple_ (wpAny_mono (p pos A R s x E) (fun vs s₁ z => ?_) fun _ _ z => z)
  have r := z.2.rd
  have hl := r.length
  refine wpAny_newObj_type ⟨z.1.trans (Kp.of s₁ (Ext.push _ _)), .tuple (Heap.get?_push_size _ rfl) rfl rfl ?_ ?_⟩ (by show vs.toArray.size ≤ sizeLine; rw [List.size_toArray, hl]; exact hz)
  · exact (hX.ext (x.trans (Kp.ext z.1))).new
  · exact r.ext (Ext.push _ _)

def CallR (prog : Program) (w : World) (n : Nat) (X : Addr → Prop) (h : Heap) (f : Value) (as : List AV) (c : AV) : Prop :=
  ∀ A, Rm n A → ∀ s, Ext h s.heap → XOk X s.heap → ∀ vs, VRs X s.heap vs as → ∀ E, wpAny (model prog w) A (call f vs) (fun v s' => Kp s s' ∧ VR X s'.heap v c) E s
def KeepF (prog : Program) (w : World) (h : Heap) (f : Value) : Prop :=
  ∀ h', Ext h h' → ∃ k, (k = Keeper.frame ∨ k = Keeper.machine ∨ k = Keeper.boundFrame) ∧ Looks (model prog w) h' (keeperOf f) k
theorem KeepF.builtin {x : String} : KeepF prog w h (.builtin x) := fun _ _ => ⟨.machine, .inr (.inl rfl), Looks.of_pure rfl⟩
def NoStar : List Expr → Bool
  | [] => true
  | .Starred .. :: _ => false
  | _ :: r => NoStar r
theorem starEach_cons {e : Expr} {r : List Expr} (hs : NoStar (e :: r) = true) : starEach (e :: r) env = (false, eval e env) :: starEach r env ∧ NoStar r = true := by
  cases e <;> first | exact ⟨rfl, hs⟩ | cases hs
theorem noStar_any {pos : Pos} : ∀ {es : List Expr}, NoStar es = true → (backTo pos (starEach es env)).any (·.1) = false
  | [], _ => rfl
  | e :: r, hs => by
    obtain ⟨h1, h2⟩ := starEach_cons (env := env) hs
    rw [h1]
    show (false || (backTo pos (starEach r env)).any (·.1)) = false
    rw [noStar_any h2]; rfl
theorem evalArgs_of {M : Model} {A : Around} {E : Value → Shared → Prop} {s : Shared} {f : Value} {es : List Expr} {pos : Pos} {Q : Args → Shared → Prop} (hs : NoStar es = true)
    (H : wpAny M A (spliced (backTo pos (starEach es env))) (fun vs s' => Q ⟨vs, []⟩ s') E s) : wpAny M A (evalArgs f true (backTo pos (starEach es env)) []) Q E s := by
  cases es with
  | nil =>
    unfold evalArgs
    show wpAny M A (spliced [] >>= _) Q E s
    refine wpAny_bind (wpAny_mono H (fun vs s' h' => ?_) fun _ _ x => x)
    refine wpAny_bind (wpAny_pure (wpAny_holding ?_))
    exact wpAny_bind (wpAny_pure (wpAny_bind (wpAny_pure (wpAny_pure h'))))
  | cons e r =>
    rw [(starEach_cons (env := env) hs).1] at H ⊢
    exact evalArgs_plain H
theorem callWith_pu {A : Around} {s : Shared} {E : Value → Shared → Prop} {f : Value} {first : List Value} {fa : List AV} {es : List Expr} {as : List AV} {c : AV} {pos : Pos} (hX : XOk X h) (R : Rm n A) (x : Ext h s.heap) (hs : NoStar es = true)
    (k : KeepF prog w h f) (p : PuS prog w n X env h es as) (rf : VRs X s.heap first fa) (cr : CallR prog w n X h f (fa ++ as) c) :
    wpAny (model prog w) A (callWith pos f first (backTo pos (starEach es env)) []) (fun v s' => Kp s s' ∧ VR X s'.heap v c) E s := by
  have app : ∀ {h : Heap} {vs vs' : List Value} {as as' : List AV}, VRs X h vs as → VRs X h vs' as' → VRs X h (vs ++ vs') (as ++ as') := by
    intro h vs vs' as as' a b
    induction a with
    | nil => exact b
    | cons a _ ih => exact .cons a ih
  refine callWith_of (P := Ext h) (by rw [noStar_any hs]; rfl) (fun h' e => k h' e) (evalArgs_of hs (wpAny_mono (p pos A R s x E) (fun vs s₁ z => ?_) fun _ _ z => z))
  have x₁ := x.trans (Kp.ext z.1)
  exact ⟨x₁, wpAny_mono (cr A R s₁ x₁ (hX.ext x₁) _ (app (rf.ext (Kp.ext z.1)) z.2) E) (fun v s' q => ⟨z.1.trans q.1, q.2⟩) fun _ _ z => z⟩
theorem Pu.call {fe : Expr} {es : List Expr} {pos : Pos} {f : Value} {as : List AV} {c : AV} (hX : XOk X h) (p : Pu prog w n X env h fe (.v f)) (k : KeepF prog w h f) (q : PuS prog w n X env h es as) (cr : CallR prog w n X h f as c) (hs : NoStar es = true := by rfl)
    (he : eval (.Call fe es [] pos) env = (do callWith pos (← eval fe env) [] (backTo pos (starEach es env)) (backToKw pos (keywordEach [] env))) := by rfl) : Pu prog w n X env h (.Call fe es [] pos) c := fun A R s x E => by
  refine Call_ (p.go R x fun v s₁ k₁ x₁ r₁ => ?_) he
  cases r₁
  exact wpAny_mono (callWith_pu hX R x₁ hs k q .nil cr) (fun v s' z => ⟨k₁.trans z.1, z.2⟩) fun _ _ z => z
def MethR (prog : Program) (w : World) (X : Addr → Prop) (h : Heap) (a : AV) (name : Str) (f : Value) : Prop :=
  ∀ A s v, Ext h s.heap → VR X s.heap v a → ∀ pl (Q : Value × List Value → Shared → Prop) E, Q (f, [v]) s → wpAny (model prog w) A (getMethod v name pl) Q E s
theorem Pu.meth {o : Expr} {name : Str} {es : List Expr} {apos pos : Pos} {pl : Sem Bool} {a : AV} {f : Value} {as : List AV} {c : AV} (hX : XOk X h) (p : Pu prog w n X env h o a) (m : MethR prog w X h a name f) (k : KeepF prog w h f) (q : PuS prog w n X env h es as)
    (cr : CallR prog w n X h f (a :: as) c) (hs : NoStar es = true := by rfl)
    (he : eval (.Call (.Attribute o name apos) es [] pos) env = (do
          let ov ← eval o env
          standAt apos.atName
          let (f, first) ← holding [ov] (getMethod ov name pl)
          callWith pos f first (backTo pos (starEach es env)) []) := by rfl) : Pu prog w n X env h (.Call (.Attribute o name apos) es [] pos) c := fun A R s x E => by
  refine MethodCall_ (pl := pl) (p.go R x fun v s₁ k₁ x₁ r₁ => m A s₁ v x₁ r₁ pl _ E ?_) he
  exact wpAny_mono (callWith_pu hX R x₁ hs k q (.cons r₁ .nil) cr) (fun v s' z => ⟨k₁.trans z.1, z.2⟩) fun _ _ z => z
end
end Mine
end

section
open PySem PySem.W PyProof.Rows PySem.Calls
set_option Elab.async false
set_option linter.unusedVariables false
namespace Mine

structure Ga where
  env : Env
  h₀ : Heap
  Y : Addr → Prop
  Z : Addr → Prop := fun _ => False

def Ga.own (G : Ga) (b : Addr) : Prop := b = G.env.locals ∨ ∃ x, G.env.kindOf x = some .cell ∧ G.env.cells.lookup x = some b

def Ga.rd (G : Ga) (m cm : Str → Option Value) (x : Str) : Option Value :=
  match G.env.kindOf x with
  | some .local => m x
  | some .cell => cm x
  | _ => none

structure Loc where
  ns : List (Str × AV)
  lg : List (Addr × Obj) := []
def Loc.get (ρ : Loc) (x : Str) : Option AV := List.lookup x ρ.ns
def setL : List (Str × AV) → Str → AV → List (Str × AV)
  | [], x, a => [(x, a)]
  | (y, b) :: r, x, a => if x = y then (x, a) :: r else (y, b) :: setL r x a
def Loc.set (ρ : Loc) (x : Str) (a : AV) : Loc := ⟨setL ρ.ns x a, ρ.lg⟩
def Loc.led (ρ : Loc) (l : List (Addr × Obj)) : Loc := ⟨ρ.ns, l⟩
theorem get_setL (ρ : List (Str × AV)) (x y : Str) (a : AV) : List.lookup y (setL ρ x a) = if y = x then some a else List.lookup y ρ := by
  induction ρ with
  | nil =>
    unfold setL
    by_cases h : y = x
    · subst h; simp
    · simp [List.lookup_cons, h, beq_eq_false_iff_ne.mpr h]
  | cons p r ih =>
    obtain ⟨z, b⟩ := p
    unfold setL
    by_cases h : x = z
    · subst h
      rw [if_pos rfl]
      by_cases q : y = x
      · subst q; simp
      · simp [List.lookup_cons, q, beq_eq_false_iff_ne.mpr q]
    · rw [if_neg h]
      by_cases q : y = z
      · subst q
        simp [Ne.symm h]
      · simp only [List.lookup_cons, beq_eq_false_iff_ne.mpr q]
        exact ih
theorem Loc.get_set (ρ : Loc) (x y : Str) (a : AV) : (ρ.set x a).get y = if y = x then some a else ρ.get y := get_setL ρ.ns x y a

structure FR (G : Ga) (X : Addr → Prop) (m cm : Str → Option Value) (h : Heap) : Prop where
  kind : G.env.scope.kind = .function
  ext : Ext G.h₀ h
  ns : h.Ns G.env.locals m
  cell : ∀ x c, G.env.kindOf x = some .cell → G.env.cells.lookup x = some c → h.IsCell c (cm x) ∧ G.h₀.get? c = none
  inj : ∀ x y c, G.env.kindOf x = some .cell → G.env.kindOf y = some .cell → G.env.cells.lookup x = some c → G.env.cells.lookup y = some c → x = y
  has : ∀ x, G.env.kindOf x = some .cell → (G.env.cells.lookup x).isSome = true
  fresh : G.h₀.get? G.env.locals = none
  xok : XOk X h
  xy : ∀ p, X p → G.Y p ∨ G.h₀.get? p = none
  yx : ∀ p, G.Y p → X p
  y0 : ∀ p, G.Y p → (G.h₀.get? p).isSome = true ∨ G.Z p
  xo : ∀ p, X p → ¬ G.own p
  zx : ∀ p, G.Z p → X p
def Led (G : Ga) (X : Addr → Prop) (lg : List (Addr × Obj)) (h : Heap) : Prop := ∀ p ∈ lg, h.get? p.1 = some p.2 ∧ X p.1 ∧ G.h₀.get? p.1 = none
theorem Led.at {G : Ga} {X : Addr → Prop} {lg : List (Addr × Obj)} {h h' : Heap} (L : Led G X lg h) (k : ∀ b o, h.get? b = some o → X b → h'.get? b = some o) : Led G X lg h' := fun p hp => let ⟨a, b, c⟩ := L p hp; ⟨k _ _ a b, b, c⟩
structure FRx (G : Ga) (ρ : Loc) (X : Addr → Prop) (h : Heap) : Prop where
  ex : ∃ m cm, FR G X m cm h ∧ (∀ x a, ρ.get x = some a → ∃ v, G.rd m cm x = some v ∧ VR X h v a ∧ (x == ("__debug__" : Str)) = false) ∧
    (∀ x y xs ys v, ρ.get x = some (.own xs) → ρ.get y = some (.own ys) → G.rd m cm x = some v → G.rd m cm y = some v → x = y) ∧
    (∀ x xs p, ρ.get x = some (.own xs) → G.rd m cm x = some (.ref p) → G.h₀.get? p = none ∧ ¬ G.Z p ∧ ∀ q ∈ ρ.lg, q.1 ≠ p) ∧ Led G X ρ.lg h
theorem FRx.xok {G : Ga} {ρ : Loc} {X : Addr → Prop} {h : Heap} (F : FRx G ρ X h) : XOk X h := let ⟨_, _, f, _⟩ := F.ex; f.xok
theorem FRx.ext {G : Ga} {ρ : Loc} {X : Addr → Prop} {h : Heap} (F : FRx G ρ X h) : Ext G.h₀ h := let ⟨_, _, f, _⟩ := F.ex; f.ext
theorem FRx.yx {G : Ga} {ρ : Loc} {X : Addr → Prop} {h : Heap} (F : FRx G ρ X h) : ∀ p, G.Y p → X p := let ⟨_, _, f, _⟩ := F.ex; f.yx
theorem FRx.zx {G : Ga} {ρ : Loc} {X : Addr → Prop} {h : Heap} (F : FRx G ρ X h) : ∀ p, G.Z p → X p := let ⟨_, _, f, _⟩ := F.ex; f.zx
theorem FRx.name {prog : Program} {w : World} {G : Ga} {ρ : Loc} {X : Addr → Prop} {h : Heap} (F : FRx G ρ X h) {x : Str} {a : AV} (e : ρ.get x = some a) : ∃ v, NameIs prog w G.env h x v ∧ VR X h v a := by
  obtain ⟨m, cm, f, l, _⟩ := F.ex
  obtain ⟨v, r, q, hd⟩ := l x a e
  refine ⟨v, ?_, q⟩
  unfold Ga.rd at r
  split at r
  · rename_i hk; exact .local f.kind hk f.ns r hd
  · rename_i hk
    obtain ⟨c, hc⟩ := Option.isSome_iff_exists.mp (f.has x hk)
    exact .cell f.kind hk hc (r ▸ (f.cell x c hk hc).1) hd
  · cases r
theorem FRx.var {prog : Program} {w : World} {n : Nat} {G : Ga} {ρ : Loc} {X : Addr → Prop} {h : Heap} (F : FRx G ρ X h) {x : Str} {a : AV} {pos : Pos} (e : ρ.get x = some a) : Pu prog w n X G.env h (.Name x pos) a := by
  obtain ⟨v, p, q⟩ := F.name (prog := prog) (w := w) e
  exact .name p q
theorem FRx.base {prog : Program} {w : World} {n : Nat} {G : Ga} {ρ : Loc} {X : Addr → Prop} {h : Heap} (F : FRx G ρ X h) {x : Str} {v : Value} {pos : Pos} (e : NameIs prog w G.env G.h₀ x v) : Pu prog w n X G.env h (.Name x pos) (.v v) :=
  .name (e.mono F.ext) rfl
theorem FRx.mono {G : Ga} {ρ : Loc} {X : Addr → Prop} {h h' : Heap} (F : FRx G ρ X h) (e : Ext h h') : FRx G ρ X h' := by
  obtain ⟨m, cm, f, l, u, u0, ld⟩ := F.ex
  exact ⟨m, cm, ⟨f.kind, f.ext.trans e, f.ns.keeps e, fun x c a b => ⟨(f.cell x c a b).1.keeps e, (f.cell x c a b).2⟩, f.inj, f.has, f.fresh, f.xok.ext e, f.xy, f.yx, f.y0, f.xo, f.zx⟩,
    fun x a q => let ⟨v, r, z, hd⟩ := l x a q; ⟨v, r, z.ext e, hd⟩, u, u0, ld.at fun b o q _ => e b o q⟩

def Kept (G : Ga) (X : Addr → Prop) (h h' : Heap) : Prop := ∀ b o, h.get? b = some o → ¬ G.own b → ¬ X b → h'.get? b = some o
def Kept0 (G : Ga) (xs : List Str) (h h' : Heap) : Prop := ∀ b o, h.get? b = some o → b ≠ G.env.locals → (∀ x ∈ xs, G.env.kindOf x = some .cell → G.env.cells.lookup x ≠ some b) → h'.get? b = some o
theorem Kept0.k {G : Ga} {xs : List Str} {X : Addr → Prop} {h h' : Heap} (a : Kept0 G xs h h') : Kept G X h h' := fun b o e n _ => a b o e (fun z => n (.inl z)) fun x _ z1 z2 => n (.inr ⟨x, z1, z2⟩)
theorem Kept0.own {G : Ga} {xs : List Str} {h h' : Heap} (a : Kept0 G xs h h') : ∀ b o, h.get? b = some o → ¬ G.own b → h'.get? b = some o := fun b o e n => a b o e (fun z => n (.inl z)) fun x _ z1 z2 => n (.inr ⟨x, z1, z2⟩)
theorem Kept0.refl {G : Ga} {xs : List Str} {h : Heap} : Kept0 G xs h h := fun _ _ e _ _ => e
theorem Kept0.ext {G : Ga} {xs : List Str} {h h' : Heap} (e : Ext h h') : Kept0 G xs h h' := fun b o q _ _ => e b o q
theorem Kept0.tr {G : Ga} {xs : List Str} {h h' h'' : Heap} (a : Kept0 G xs h h') (b : Kept0 G xs h' h'') : Kept0 G xs h h'' := fun p o q r z => b p o (a p o q r z) r z
theorem Kept0.more {G : Ga} {xs ys : List Str} {h h' : Heap} (a : Kept0 G xs h h') (s : ∀ x ∈ xs, x ∈ ys) : Kept0 G ys h h' := fun p o q r z => a p o q r fun x hx => z x (s x hx)
def XNew (X X' : Addr → Prop) (h : Heap) : Prop := ∀ p, X' p → X p ∨ h.get? p = none
theorem Kept.refl {G : Ga} {X : Addr → Prop} {h : Heap} : Kept G X h h := fun _ _ e _ _ => e
theorem Kept.ext {G : Ga} {X : Addr → Prop} {h h' : Heap} (e : Ext h h') : Kept G X h h' := fun b o q _ _ => e b o q
theorem XNew.refl {X : Addr → Prop} {h : Heap} : XNew X X h := fun _ q => .inl q
theorem Kept.trans {G : Ga} {X X' : Addr → Prop} {h h' h'' : Heap} (a : Kept G X h h') (b : Kept G X' h' h'') (x : XNew X X' h) : Kept G X h h'' := fun p o q r s =>
  b p o (a p o q r s) r fun z => (x p z).elim s fun e => by rw [q] at e; cases e
theorem XNew.trans {G : Ga} {X X' X'' : Addr → Prop} {h h' : Heap} (a : XNew X X' h) (b : XNew X' X'' h') (k : Kept G X h h') (ho : ∀ p, X'' p → ¬ G.own p) : XNew X X'' h := fun p z => by
  rcases b p z with q | q
  · exact a p q
  · by_cases r : X p
    · exact .inl r
    · cases e : h.get? p with
      | none => exact .inr rfl
      | some o => rw [k p o e (ho p z) r] at q; cases q

inductive Out where
  | next (ρ : Loc)
  | brk (ρ : Loc)
  | cont (ρ : Loc)
  | ret (d : AV) (lg : List (Addr × Obj))

structure Goes (G : Ga) (X : Addr → Prop) (s : Shared) (ρ' : Loc) (s' : Shared) : Prop where
  same : ∃ h' tk, s' = { s with heap := h', toks := tk }
  kept : Kept G X s.heap s'.heap
  fr : ∃ X', FRx G ρ' X' s'.heap ∧ XNew X X' s.heap
structure Rets (G : Ga) (X : Addr → Prop) (s : Shared) (d : AV) (lg : List (Addr × Obj)) (v : Value) (s' : Shared) : Prop where
  same : ∃ h' tk, s' = { s with heap := h', toks := tk }
  kept : Kept G X s.heap s'.heap
  ext : Ext G.h₀ s'.heap
  rd : VR (fun p => G.Y p ∨ ∃ q ∈ lg, q.1 = p) s'.heap v d
  no : ∀ xs, d ≠ .own xs
  led : ∀ p ∈ lg, s'.heap.get? p.1 = some p.2 ∧ G.h₀.get? p.1 = none
  zok : ∀ p, G.Z p → (s'.heap.get? p).isSome = true
def OutR (G : Ga) (X : Addr → Prop) (s : Shared) (o : Out) (fl : Flow) (s' : Shared) : Prop :=
  match o with
  | .next ρ => fl = .next ∧ Goes G X s ρ s'
  | .brk ρ => fl = .brk ∧ Goes G X s ρ s'
  | .cont ρ => fl = .cont ∧ Goes G X s ρ s'
  | .ret d lg => ∃ v, fl = .ret v ∧ Rets G X s d lg v s'

section
variable (prog : Program) (w : World) (n : Nat) (G : Ga)
def Ex (ρ : Loc) (ss : List Stmt) (Φ : Out → Prop) : Prop :=
  ∀ A, Rm n A → ∀ s X, FRx G ρ X s.heap → ∀ E, wpAny (model prog w) A (execs ss G.env) (fun fl s' => ∃ o, Φ o ∧ OutR G X s o fl s') E s
def Ex1 (ρ : Loc) (st : Stmt) (Φ : Out → Prop) : Prop :=
  ∀ A, Rm n A → ∀ s X, FRx G ρ X s.heap → ∀ E, wpAny (model prog w) A (exec st G.env) (fun fl s' => ∃ o, Φ o ∧ OutR G X s o fl s') E s
def Ev (ρ : Loc) (e : Expr) (a : AV) : Prop := ∀ X h, FRx G ρ X h → Pu prog w n X G.env h e a
def EvT (ρ : Loc) (e : Expr) (b : Bool) : Prop := ∀ X h, FRx G ρ X h → PuT prog w n G.env h e b
end


theorem FRx.xo {G : Ga} {ρ : Loc} {X : Addr → Prop} {h : Heap} (F : FRx G ρ X h) : ∀ p, X p → ¬ G.own p := let ⟨_, _, f, _⟩ := F.ex; f.xo
theorem VR.same {X : Addr → Prop} {h h' : Heap} {b : Addr} {ob : Obj} (hs : Heap.SameBut b h h') (hb : h.get? b = some ob) (hn : ∀ vs n, ob.data ≠ .seq vs n) {v : Value} {a : AV} (r : VR X h v a) : VR X h' v a := by
  have key : ∀ c o, h.get? c = some o → ∀ vs n, o.data = .seq vs n → h'.get? c = some o := fun c o e vs n d => (hs.2 c fun q => by rw [q, hb] at e; cases e; exact hn _ _ d).trans e
  have mv : Mv X X h h' := ⟨fun c o e vs n d _ => key c o e vs n d, fun _ _ _ q => q⟩
  cases a with
  | d x => exact Rd.mv mv r
  | own xs =>
    obtain ⟨a, vs, h1, h2, ⟨n, h3⟩, h4⟩ := r
    exact ⟨a, vs, h1, h2, ⟨n, key a _ h3 _ _ rfl⟩, h4.mv mv⟩
  | arr xs =>
    obtain ⟨a, vs, h1, h2, ⟨o, h3, h5, n, h6⟩, h4⟩ := r
    exact ⟨a, vs, h1, h2, ⟨o, key a _ h3 _ _ h6, h5, n, h6⟩, h4.mv mv⟩
  | v x => exact r
section
variable {prog : Program} {w : World} {n : Nat} {G : Ga}
theorem XOk.same {X : Addr → Prop} {h h' : Heap} {b : Addr} {o : Obj} (x : XOk X h) (hs : Heap.SameBut b h h') (hb : h'.get? b = some o) : XOk X h' := fun p q => by
  by_cases e : p = b
  · rw [e, hb]; rfl
  · rw [hs.2 p e]; exact x p q
def LocOk (G : Ga) (ρ : Loc) (X : Addr → Prop) (m cm : Str → Option Value) (h : Heap) : Prop :=
  (∀ x a, ρ.get x = some a → ∃ v, G.rd m cm x = some v ∧ VR X h v a ∧ (x == ("__debug__" : Str)) = false) ∧
    (∀ x y xs ys v, ρ.get x = some (.own xs) → ρ.get y = some (.own ys) → G.rd m cm x = some v → G.rd m cm y = some v → x = y) ∧
    (∀ x xs p, ρ.get x = some (.own xs) → G.rd m cm x = some (.ref p) → G.h₀.get? p = none ∧ ¬ G.Z p ∧ ∀ q ∈ ρ.lg, q.1 ≠ p) ∧ Led G X ρ.lg h
theorem storeName_raw {A : Around} {s : Shared} {ρ : Loc} {X : Addr → Prop} {x : Str} {v : Value} {a : AV} {m cm : Str → Option Value} {Q : Unit → Shared → Prop} {E : Value → Shared → Prop} (f : FR G X m cm s.heap) (lo : LocOk G ρ X m cm s.heap)
    (hx : G.env.kindOf x = some .local ∨ G.env.kindOf x = some .cell) (hd : (x == ("__debug__" : Str)) = false) (r : VR X s.heap v a)
    (na : ∀ xs, a = .own xs → ∀ y ys, ρ.get y = some (.own ys) → y ≠ x → G.rd m cm y ≠ some v)
    (nf : ∀ xs p, a = .own xs → v = .ref p → G.h₀.get? p = none ∧ ¬ G.Z p ∧ ∀ q ∈ ρ.lg, q.1 ≠ p)
    (k : ∀ h' tk, Kept0 G [x] s.heap h' → FRx G (ρ.set x a) X h' → Q () { s with heap := h', toks := tk }) : wpAny (model prog w) A (storeName G.env x v) Q E s := by
  obtain ⟨l, u, u0, ld⟩ := lo
  rcases hx with hl | hl
  · refine wpAny_storeName_local hl f.ns (fun h' hn hs => k h' _ (fun b o e nb _ => (hs.2 b nb).trans e) ?_) (by rw [f.kind]; rfl)
    obtain ⟨oL, esL, epL, hL, hLd, _⟩ := f.ns
    have up : ∀ {v : Value} {a : AV}, VR X s.heap v a → VR X h' v a := fun r => r.same hs hL fun vs n q => by rw [hLd] at q; cases q
    have rdx : ∀ y, G.rd (fun z => if z = x then some v else m z) cm y = if y = x then some v else G.rd m cm y := by
      intro y
      unfold Ga.rd
      by_cases e : y = x
      · subst e; rw [if_pos rfl, hl]; simp
      · rw [if_neg e]; simp only [if_neg e]
    obtain ⟨oL', esL', epL', hL', _⟩ := hn
    refine ⟨_, cm, ⟨f.kind, fun b o e => ?_, ⟨oL', esL', epL', hL', by assumption⟩, fun y c a b => ⟨?_, (f.cell y c a b).2⟩, f.inj, f.has, f.fresh, f.xok.same hs hL', f.xy, f.yx, f.y0, f.xo, f.zx⟩, fun y b e => ?_, fun y z ys zs u' e1 e2 e3 e4 => ?_, fun y ys p e1 e2 => ?_, ?_⟩
    · exact (hs.2 b fun q => by rw [q, f.fresh] at e; cases e).trans (f.ext b o e)
    · obtain ⟨oc, hc, hcd⟩ := (f.cell y c a b).1
      exact ⟨oc, (hs.2 c fun q => by rw [q, hL] at hc; cases hc; rw [hLd] at hcd; cases hcd).trans hc, hcd⟩
    · rw [rdx]
      rw [Loc.get_set] at e
      by_cases q : y = x
      · rw [if_pos q] at e ⊢; cases e; exact ⟨v, rfl, up r, q ▸ hd⟩
      · rw [if_neg q] at e ⊢; obtain ⟨z, h1, h2, h3⟩ := l y b e; exact ⟨z, h1, up h2, h3⟩
    · rw [rdx] at e3 e4
      rw [Loc.get_set] at e1 e2
      by_cases q : y = x
      · by_cases q' : z = x
        · rw [q, q']
        · rw [if_pos q] at e1 e3; rw [if_neg q'] at e2 e4; cases e1; cases e3
          exact absurd e4 (na _ rfl z _ e2 q')
      · by_cases q' : z = x
        · rw [if_neg q] at e1 e3; rw [if_pos q'] at e2 e4; cases e2; cases e4
          exact absurd e3 (na _ rfl y _ e1 q)
        · rw [if_neg q] at e1 e3; rw [if_neg q'] at e2 e4; exact u y z _ _ _ e1 e2 e3 e4
    · rw [rdx] at e2
      rw [Loc.get_set] at e1
      by_cases q : y = x
      · rw [if_pos q] at e1 e2; cases e1; cases e2; exact nf _ _ rfl rfl
      · rw [if_neg q] at e1 e2; exact u0 y _ _ e1 e2
    · exact ld.at fun b o e z => (hs.2 b fun q => f.xo b z (.inl q)).trans e
  · obtain ⟨c, hc⟩ := Option.isSome_iff_exists.mp (f.has x hl)
    obtain ⟨⟨oc, hco, hcd⟩, hc0⟩ := f.cell x c hl hc
    refine wpAny_storeName_cell f.kind hl hc ⟨oc, hco, hcd⟩ fun h' hn hs => k h' s.toks (fun b o e _ nb => (hs.2 b fun q => nb x (.head _) hl (q ▸ hc)).trans e) ?_
    have up : ∀ {v : Value} {a : AV}, VR X s.heap v a → VR X h' v a := fun r => r.same hs hco fun vs n q => by rw [hcd] at q; cases q
    have rdx : ∀ y, G.rd m (fun z => if z = x then some v else cm z) y = if y = x then some v else G.rd m cm y := by
      intro y
      unfold Ga.rd
      by_cases e : y = x
      · subst e; rw [if_pos rfl, hl]; simp
      · rw [if_neg e]; simp only [if_neg e]
    obtain ⟨oc', hc', hcd'⟩ := hn
    obtain ⟨oL, esL, epL, hL, hLd, hLr⟩ := f.ns
    refine ⟨m, fun z => if z = x then some v else cm z, ⟨f.kind, fun b o e => ?_, ⟨oL, esL, epL, (hs.2 _ fun q => by rw [q, hco] at hL; cases hL; rw [hLd] at hcd; cases hcd).trans hL, hLd, hLr⟩, fun y d a b => ⟨?_, (f.cell y d a b).2⟩, f.inj, f.has, f.fresh, f.xok.same hs hc', f.xy, f.yx, f.y0, f.xo, f.zx⟩, fun y b e => ?_, fun y z ys zs u' e1 e2 e3 e4 => ?_, fun y ys p e1 e2 => ?_, ?_⟩
    · exact (hs.2 b fun q => by rw [q, hc0] at e; cases e).trans (f.ext b o e)
    · by_cases q : d = c
      · subst q
        have := f.inj y x d a hl b hc
        subst this
        exact ⟨oc', hc', by simpa using hcd'⟩
      · have yx : y ≠ x := fun z => q (by subst z; rw [hc] at b; exact (Option.some.inj b).symm)
        obtain ⟨od, h1, h2⟩ := (f.cell y d a b).1
        exact ⟨od, (hs.2 d q).trans h1, by simpa [yx] using h2⟩
    · rw [rdx]
      rw [Loc.get_set] at e
      by_cases q : y = x
      · rw [if_pos q] at e ⊢; cases e; exact ⟨v, rfl, up r, q ▸ hd⟩
      · rw [if_neg q] at e ⊢; obtain ⟨z, h1, h2, h3⟩ := l y b e; exact ⟨z, h1, up h2, h3⟩
    · rw [rdx] at e3 e4
      rw [Loc.get_set] at e1 e2
      by_cases q : y = x
      · by_cases q' : z = x
        · rw [q, q']
        · rw [if_pos q] at e1 e3; rw [if_neg q'] at e2 e4; cases e1; cases e3
          exact absurd e4 (na _ rfl z _ e2 q')
      · by_cases q' : z = x
        · rw [if_neg q] at e1 e3; rw [if_pos q'] at e2 e4; cases e2; cases e4
          exact absurd e3 (na _ rfl y _ e1 q)
        · rw [if_neg q] at e1 e3; rw [if_neg q'] at e2 e4; exact u y z _ _ _ e1 e2 e3 e4
    · rw [rdx] at e2
      rw [Loc.get_set] at e1
      by_cases q : y = x
      · rw [if_pos q] at e1 e2; cases e1; cases e2; exact nf _ _ rfl rfl
      · rw [if_neg q] at e1 e2; exact u0 y _ _ e1 e2
    · exact ld.at fun b o e z => (hs.2 b fun q => f.xo b z (.inr ⟨x, hl, q ▸ hc⟩)).trans e
theorem storeName_fr {A : Around} {s : Shared} {ρ : Loc} {X : Addr → Prop} {x : Str} {v : Value} {a : AV} {Q : Unit → Shared → Prop} {E : Value → Shared → Prop} (F : FRx G ρ X s.heap)
    (hx : G.env.kindOf x = some .local ∨ G.env.kindOf x = some .cell) (hd : (x == ("__debug__" : Str)) = false) (r : VR X s.heap v a) (na : ∀ xs, a ≠ .own xs)
    (k : ∀ h' tk, Kept0 G [x] s.heap h' → FRx G (ρ.set x a) X h' → Q () { s with heap := h', toks := tk }) : wpAny (model prog w) A (storeName G.env x v) Q E s :=
  let ⟨_, _, f, l⟩ := F.ex
  storeName_raw f l hx hd r (fun xs e => absurd e (na xs)) (fun xs _ e => absurd e (na xs)) k
end
end Mine
end

section
open PySem PySem.W PyProof.Rows PySem.Calls
set_option Elab.async false
set_option linter.unusedVariables false
namespace Mine
section
variable {prog : Program} {w : World} {n : Nat} {G : Ga} {ρ : Loc}

theorem Goes.of {X : Addr → Prop} {s : Shared} {ρ' : Loc} {h' : Heap} {tk : Nat} (k : Kept G X s.heap h') (F : FRx G ρ' X h') : Goes G X s ρ' { s with heap := h', toks := tk } := ⟨⟨h', tk, rfl⟩, k, X, F, XNew.refl⟩
theorem Goes.kp {X : Addr → Prop} {s s₁ s₂ : Shared} {ρ' : Loc} (k : Kp s s₁) (g : Goes G X s₁ ρ' s₂) : Goes G X s ρ' s₂ := by
  obtain ⟨h, t, rfl, e⟩ := k
  obtain ⟨⟨h', t', e'⟩, k', X', F, x⟩ := g
  exact ⟨⟨h', t', by rw [e']⟩, fun b o q a c => k' b o (e b o q) a c, X', F, fun p z => (x p z).imp id fun q => by
    cases z' : s.heap.get? p with
    | none => rfl
    | some o => rw [e p o z'] at q; cases q⟩
theorem Rets.kp {X : Addr → Prop} {s s₁ s₂ : Shared} {d : AV} {lg : List (Addr × Obj)} {v : Value} (k : Kp s s₁) (g : Rets G X s₁ d lg v s₂) : Rets G X s d lg v s₂ := by
  obtain ⟨h, t, rfl, e⟩ := k
  obtain ⟨⟨h', t', e'⟩, k', x, r, no, l, zo⟩ := g
  exact ⟨⟨h', t', by rw [e']⟩, fun b o q a c => k' b o (e b o q) a c, x, r, no, l, zo⟩
theorem OutR.kp {X : Addr → Prop} {s s₁ s₂ : Shared} {o : Out} {fl : Flow} (k : Kp s s₁) (g : OutR G X s₁ o fl s₂) : OutR G X s o fl s₂ := by
  cases o with
  | next r => exact ⟨g.1, g.2.kp k⟩
  | brk r => exact ⟨g.1, g.2.kp k⟩
  | cont r => exact ⟨g.1, g.2.kp k⟩
  | ret d lg => obtain ⟨v, e, r⟩ := g; exact ⟨v, e, r.kp k⟩
theorem OutR.trans {X X₁ : Addr → Prop} {s s₁ s₂ : Shared} {o : Out} {fl : Flow} (hs : ∃ h' tk, s₁ = { s with heap := h', toks := tk }) (k₁ : Kept G X s.heap s₁.heap) (x₁ : XNew X X₁ s.heap) (g : OutR G X₁ s₁ o fl s₂) : OutR G X s o fl s₂ := by
  obtain ⟨h, t, rfl⟩ := hs
  have go : ∀ {r : Loc}, Goes G X₁ _ r s₂ → Goes G X s r s₂ := fun g => by
    obtain ⟨⟨h', t', e'⟩, k₂, X₂, F₂, x₂⟩ := g
    exact ⟨⟨h', t', by rw [e']⟩, k₁.trans k₂ x₁, X₂, F₂, x₁.trans x₂ k₁ F₂.xo⟩
  cases o with
  | next r => exact ⟨g.1, go g.2⟩
  | brk r => exact ⟨g.1, go g.2⟩
  | cont r => exact ⟨g.1, go g.2⟩
  | ret d lg =>
    obtain ⟨v, e, ⟨⟨h', t', e'⟩, k₂, x, r, no, ld, zo⟩⟩ := g
    exact ⟨v, e, ⟨h', t', by rw [e']⟩, k₁.trans k₂ x₁, x, r, no, ld, zo⟩

theorem Ex.nil {Φ : Out → Prop} (p : Φ (.next ρ)) : Ex prog w n G ρ [] Φ := fun A R s X F E =>
  wpAny_execs_nil ⟨_, p, rfl, ⟨s.heap, s.toks, rfl⟩, Kept.refl, X, F, XNew.refl⟩
def Then (prog : Program) (w : World) (n : Nat) (G : Ga) (ss : List Stmt) (Φ : Out → Prop) : Out → Prop
  | .next ρ' => Ex prog w n G ρ' ss Φ
  | o => Φ o
theorem Ex.cons {st : Stmt} {ss : List Stmt} {Φ : Out → Prop} (p : Ex1 prog w n G ρ st (Then prog w n G ss Φ)) : Ex prog w n G ρ (st :: ss) Φ := fun A R s X F E => by
  refine wpAny_execs_cons (wpAny_mono (p A R s X F E) (fun fl s₁ q => ?_) fun _ _ z => z)
  obtain ⟨o, po, q⟩ := q
  cases o with
  | next ρ' =>
    obtain ⟨rfl, hs, k, X', F', x⟩ := q
    exact wpAny_mono (po A R s₁ X' F' E) (fun fl s₂ z => let ⟨o, a, b⟩ := z; ⟨o, a, b.trans hs k x⟩) fun _ _ z => z
  | brk ρ' => obtain ⟨rfl, g⟩ := q; exact ⟨_, po, rfl, g⟩
  | cont ρ' => obtain ⟨rfl, g⟩ := q; exact ⟨_, po, rfl, g⟩
  | ret d lg => obtain ⟨v, rfl, g⟩ := q; exact ⟨_, po, v, rfl, g⟩
theorem Ex1.mono {st : Stmt} {Φ Ψ : Out → Prop} (p : Ex1 prog w n G ρ st Φ) (k : ∀ o, Φ o → Ψ o) : Ex1 prog w n G ρ st Ψ := fun A R s X F E =>
  wpAny_mono (p A R s X F E) (fun fl s' q => let ⟨o, a, b⟩ := q; ⟨o, k o a, b⟩) fun _ _ z => z
theorem Ex.mono {ss : List Stmt} {Φ Ψ : Out → Prop} (p : Ex prog w n G ρ ss Φ) (k : ∀ o, Φ o → Ψ o) : Ex prog w n G ρ ss Ψ := fun A R s X F E =>
  wpAny_mono (p A R s X F E) (fun fl s' q => let ⟨o, a, b⟩ := q; ⟨o, k o a, b⟩) fun _ _ z => z

def Ga.sto (G : Ga) (x : Str) : Bool := (G.env.kindOf x == some .local || G.env.kindOf x == some .cell) && !(x == ("__debug__" : Str))
theorem Ga.sto_or {x : Str} (h : G.sto x = true) : (G.env.kindOf x = some .local ∨ G.env.kindOf x = some .cell) ∧ (x == ("__debug__" : Str)) = false := by
  unfold Ga.sto at h
  simp only [Bool.and_eq_true, Bool.or_eq_true, beq_iff_eq, Bool.not_eq_true'] at h
  exact h
theorem Ex1.assign {x : Str} {e : Expr} {p₁ p₂ : Pos} {a : AV} {Φ : Out → Prop} (hx : G.sto x = true) (p : Ev prog w n G ρ e a) (na : ∀ xs, a ≠ .own xs) (q : Φ (.next (ρ.set x a)))
    (hsw : swapsWith e (some (.Name x p₁)) p₂.line G.env = pure false := by rfl) : Ex1 prog w n G ρ (.Assign [.Name x p₁] e p₂) Φ := fun A R s X F E => by
  refine wpAny_Assign_Name ((p X _ F).go R (Ext.refl _) fun v s₁ k₁ x₁ r₁ => ?_) hsw
  exact storeName_fr (F.mono x₁) (Ga.sto_or hx).1 (Ga.sto_or hx).2 r₁ na fun h' tk k F' => ⟨_, q, rfl, (Goes.of k.k F').kp k₁⟩
theorem Ex1.if_ {t : Expr} {b o : List Stmt} {pos : Pos} {c : Bool} {Φ : Out → Prop} (p : EvT prog w n G ρ t c) (q : c = true → Ex prog w n G ρ b Φ) (r : c = false → Ex prog w n G ρ o Φ) : Ex1 prog w n G ρ (.If t b o pos) Φ := fun A R s X F E => by
  refine wpAny_If ((p X _ F).go R (Ext.refl _) fun s₁ k₁ x₁ => ?_)
  cases c with
  | true => exact wpAny_mono (q rfl A R s₁ X (F.mono x₁) E) (fun fl s' z => let ⟨o, a, b⟩ := z; ⟨o, a, b.kp k₁⟩) fun _ _ z => z
  | false => exact wpAny_mono (r rfl A R s₁ X (F.mono x₁) E) (fun fl s' z => let ⟨o, a, b⟩ := z; ⟨o, a, b.kp k₁⟩) fun _ _ z => z
theorem VR.mvNo {X X' : Addr → Prop} {h h' : Heap} (mv : Mv X X' h h') {v : Value} {a : AV} (no : ∀ xs, a ≠ .own xs) (r : VR X h v a) : VR X' h' v a := by
  cases a with
  | d x => exact Rd.mv mv r
  | own xs => exact absurd rfl (no xs)
  | arr xs => 
    obtain ⟨a, vs, h1, h2, ⟨o, h3, h4, n, h5⟩, h6⟩ := r
    exact ⟨a, vs, h1, fun z => h2 (mv.2 a o h3 z), ⟨o, mv.1 _ _ h3 _ _ h5 h2, h4, n, h5⟩, h6.mv mv⟩
  | v x => exact r
theorem Led.x {G : Ga} {X : Addr → Prop} {lg : List (Addr × Obj)} {h : Heap} (L : Led G X lg h) (yx : ∀ p, G.Y p → X p) : ∀ p, (G.Y p ∨ ∃ q ∈ lg, q.1 = p) → X p := fun p z => z.elim (yx p) fun ⟨q, hq, e⟩ => e ▸ (L q hq).2.1
theorem FRx.led {X : Addr → Prop} {h : Heap} (F : FRx G ρ X h) : Led G X ρ.lg h := let ⟨_, _, _, _, _, _, l⟩ := F.ex; l
theorem Ex1.retV {e : Expr} {pos : Pos} {d : AV} {Φ : Out → Prop} (p : Ev prog w n G ρ e d) (no : ∀ xs, d ≠ .own xs) (q : Φ (.ret d ρ.lg)) : Ex1 prog w n G ρ (.Return (some e) pos) Φ := fun A R s X F E => by
  refine wpAny_Return_some ((p X _ F).go R (Ext.refl _) fun v s₁ k₁ x₁ r₁ => ⟨_, q, v, rfl, ?_⟩)
  have F₁ := F.mono x₁
  have hy : Mv X (fun p => G.Y p ∨ ∃ q ∈ ρ.lg, q.1 = p) s₁.heap s₁.heap := Mv.sub (F₁.led.x F.yx)
  exact (Rets.kp k₁ ⟨⟨_, _, rfl⟩, Kept.refl, F.ext.trans x₁, r₁.mvNo hy no, no, fun p hp => let ⟨a, _, c⟩ := F₁.led p hp; ⟨a, c⟩, fun p z => F₁.xok p (F₁.zx p z)⟩ : Rets G X s d ρ.lg v s₁)
theorem Ex1.ret {e : Expr} {pos : Pos} {d : PyData} {Φ : Out → Prop} (p : Ev prog w n G ρ e (.d d)) (q : Φ (.ret (.d d) ρ.lg)) : Ex1 prog w n G ρ (.Return (some e) pos) Φ := Ex1.retV p (fun _ z => by cases z) q
theorem Ex1.retOwn {x : Str} {p₁ pos : Pos} {xs : List PyData} {Φ : Out → Prop} (e : ρ.get x = some (.own xs)) (q : Φ (.ret (.d (.list xs)) ρ.lg)) : Ex1 prog w n G ρ (.Return (some (.Name x p₁)) pos) Φ := fun A R s X F E => by
  obtain ⟨m, cm, f, l, u, u0, ld⟩ := F.ex
  obtain ⟨v, r, z, hd⟩ := l x _ e
  have nm : NameIs prog w G.env s.heap x v := by
    unfold Ga.rd at r
    split at r
    · rename_i hk; exact .local f.kind hk f.ns r hd
    · rename_i hk
      obtain ⟨c, hc⟩ := Option.isSome_iff_exists.mp (f.has x hk)
      exact .cell f.kind hk hc (r ▸ (f.cell x c hk hc).1) hd
    · cases r
  refine wpAny_Return_some (nm _ A s (Ext.refl _) _ E ⟨_, q, v, rfl, ⟨s.heap, s.toks, rfl⟩, Kept.refl, f.ext, ?_, (fun _ z => by cases z), fun p hp => let ⟨a, _, c⟩ := ld p hp; ⟨a, c⟩, fun p z => f.xok p (f.zx p z)⟩)
  obtain ⟨a, vs, rfl, h2, ⟨k, h3⟩, h4⟩ := z
  obtain ⟨u1, u2, u3⟩ := u0 x _ _ e r
  refine .list h3 rfl rfl rfl (fun z => ?_) (h4.mv (Mv.sub (ld.x f.yx)))
  rcases z with hY | ⟨q, hq, e⟩
  · rcases f.y0 a hY with z | z
    · rw [u1] at z; cases z
    · exact u2 z
  · exact u3 q hq e
theorem FRx.newZ {X : Addr → Prop} {h : Heap} (F : FRx G ρ X h) {p : Addr} (e : h.get? p = none) : ¬ G.Z p := fun z => by
  have := F.xok p (F.zx p z)
  rw [e] at this; cases this
theorem storeOwn_fr {A : Around} {s : Shared} {h₁ : Heap} {X : Addr → Prop} {x : Str} {p : Addr} {vs : Array Value} {xs : List PyData} {Q : Unit → Shared → Prop} {E : Value → Shared → Prop} (F : FRx G ρ X h₁) (e : Ext h₁ s.heap) (hp : h₁.get? p = none)
    (hz : ¬ G.Z p) (hl : s.heap.PlainList p vs) (r' : RdAll (fun q => X q ∨ q = p) s.heap vs.toList xs) (hx : G.sto x = true) (ho : ¬ G.own p)
    (k : ∀ h' tk, Kept0 G [x] s.heap h' → FRx G (ρ.set x (.own xs)) (fun q => X q ∨ q = p) h' → Q () { s with heap := h', toks := tk }) : wpAny (model prog w) A (storeName G.env x (.ref p)) Q E s := by
  have np : ¬ X p := fun z => by
    obtain ⟨o, z⟩ := Option.isSome_iff_exists.mp (F.xok p z)
    rw [hp] at z; cases z
  have np0 : G.h₀.get? p = none := by
    cases z : G.h₀.get? p with
    | none => rfl
    | some o => rw [F.ext p o z] at hp; cases hp
  have rdl : ∀ {v : Value} {d : PyData}, Rd X h₁ v d → Rd (fun q => X q ∨ q = p) h₁ v d := fun r => r.mv ⟨fun _ _ q _ _ _ _ => q, fun b o z q => q.elim id fun q => by rw [q, hp] at z; cases z⟩
  have rda : ∀ {v : List Value} {d : List PyData}, RdAll X h₁ v d → RdAll (fun q => X q ∨ q = p) h₁ v d := fun r => r.mv ⟨fun _ _ q _ _ _ _ => q, fun b o z q => q.elim id fun q => by rw [q, hp] at z; cases z⟩
  obtain ⟨m, cm, f, l, u, u0, ld⟩ := F.ex
  have nl : ∀ q ∈ ρ.lg, q.1 ≠ p := fun q hq z => by
    have := (ld q hq).1
    rw [z, hp] at this; cases this
  have f' : FR G (fun q => X q ∨ q = p) m cm s.heap := by
    refine ⟨f.kind, f.ext.trans e, f.ns.keeps e, fun x c a b => ⟨(f.cell x c a b).1.keeps e, (f.cell x c a b).2⟩, f.inj, f.has, f.fresh, ?_, ?_, fun q z => .inl (f.yx q z), f.y0, ?_, fun q z => .inl (f.zx q z)⟩
    · rintro q (z | rfl)
      · exact f.xok.ext e q z
      · obtain ⟨n, h3⟩ := hl; rw [h3]; rfl
    · rintro q (z | rfl)
      · exact f.xy q z
      · exact .inr np0
    · rintro q (z | rfl)
      · exact f.xo q z
      · exact ho
  have l' : LocOk G ρ (fun q => X q ∨ q = p) m cm s.heap := by
    refine ⟨fun y a q => ?_, u, u0, fun q hq => let ⟨a, b, c⟩ := ld q hq; ⟨e _ _ a, .inl b, c⟩⟩
    obtain ⟨v, h1, h2, h3⟩ := l y a q
    refine ⟨v, h1, VR.ext e ?_, h3⟩
    cases a with
    | d x => exact rdl h2
    | own zs => obtain ⟨a, vs, b1, b2, b3, b4⟩ := h2; exact ⟨a, vs, b1, .inl b2, b3, rda b4⟩
    | arr zs =>
      obtain ⟨a, vs, b1, b2, b3, b4⟩ := h2
      refine ⟨a, vs, b1, ?_, b3, rda b4⟩
      rintro (z | rfl)
      · exact b2 z
      · obtain ⟨o, z', _⟩ := b3; rw [hp] at z'; cases z'
    | v x => exact h2
  refine storeName_raw (a := .own xs) f' l' (Ga.sto_or hx).1 (Ga.sto_or hx).2 ⟨p, vs, rfl, .inr rfl, hl, r'⟩ (fun _ _ y ys e1 e2 e3 => ?_) (fun _ q _ e => by cases e; exact ⟨np0, hz, nl⟩) fun h' tk k' F' => k h' tk k' F'
  · obtain ⟨v, h1, h2, _⟩ := l y _ e1
    rw [e3] at h1; cases h1
    obtain ⟨a, vs, b1, _, ⟨n, b3⟩, _⟩ := h2
    cases b1; rw [hp] at b3; cases b3
theorem Ex1.assignOwn {x : Str} {es : List Expr} {p₀ p₁ p₂ : Pos} {ds : List PyData} {Φ : Out → Prop} (hx : G.sto x = true) (p : ∀ X h, FRx G ρ X h → PuS prog w n X G.env h es (ds.map .d)) (q : Φ (.next (ρ.set x (.own ds)))) (hz : ds.length ≤ sizeLine := by decide) :
    Ex1 prog w n G ρ (.Assign [.Name x p₁] (.List es p₀) p₂) Φ := fun A R s X F E => by
  refine wpAny_Assign_Name (List_ (wpAny_mono (p X _ F p₀ A R s (Ext.refl _) E) (fun vs s₁ z => ?_) fun _ _ z => z)) (by rfl)
  have r := z.2.rd
  have F₁ := F.mono (Kp.ext z.1)
  refine wpAny_newObj_type ?_ (by show vs.toArray.size ≤ sizeLine; rw [List.size_toArray, r.length]; exact hz)
  have hn : s₁.heap.get? s₁.heap.objs.size = none := by
    cases e : s₁.heap.get? s₁.heap.objs.size with
    | none => rfl
    | some o => exact absurd (Heap.lt_size e) (Nat.lt_irrefl _)
  refine storeOwn_fr (s := { s₁ with heap := _ }) F₁ (Ext.push _ _) hn (F₁.newZ hn) ⟨0, Heap.get?_push_size _ rfl⟩ (r.mv ⟨fun b o q _ _ _ _ => Ext.push _ _ b o q, fun b o z q => q.elim id fun q => by rw [q, hn] at z; cases z⟩) hx ?_ fun h' tk k F' => ⟨_, q, rfl, Goes.kp z.1 ⟨⟨h', tk, rfl⟩, fun b o e a c => ?_, _, F', ?_⟩⟩
  · obtain ⟨m, cm, f, _⟩ := F₁.ex
    rintro (z | ⟨y, z1, z2⟩)
    · have := f.ns.lt; rw [← z] at this; exact Nat.lt_irrefl _ this
    · have := (f.cell y _ z1 z2).1.lt; exact Nat.lt_irrefl _ this
  · exact k.own b o (Ext.push _ _ b o e) a
  · rintro q (z | rfl)
    · exact .inl z
    · exact .inr hn
end
end Mine
end

section
open PySem PySem.W PyProof.Rows PySem.Calls
set_option Elab.async false
set_option linter.unusedVariables false
namespace Mine

def nameOf : Expr → Option Str
  | .Name x _ => some x
  | _ => none
def namesOf : List Expr → Option (List Str)
  | [] => some []
  | e :: es => match nameOf e, namesOf es with
    | some x, some xs => some (x :: xs)
    | _, _ => none
def tgtOf : Expr → Option (Bool × List Str)
  | .Name x _ => some (false, [x])
  | .Tuple es _ _ => (namesOf es).map fun xs => (true, xs)
  | _ => none
def datOf (b : Bool) (d : PyData) : Option (List PyData) := if b = true then (match d with | .tuple ds => some ds | _ => none) else some [d]
def bindN : List Str → List PyData → Loc → Option Loc
  | [], [], ρ => some ρ
  | x :: xs, d :: ds, ρ => bindN xs ds (ρ.set x (.d d))
  | _, _, _ => none
def bindT (t : Expr) (d : PyData) (ρ : Loc) : Option Loc := match tgtOf t with
  | none => none
  | some p => match datOf p.1 d with
    | none => none
    | some ds => bindN p.2 ds ρ
def stoT (G : Ga) (t : Expr) : Bool := match tgtOf t with
  | none => false
  | some p => p.2.all G.sto
def tnames (t : Expr) : List Str := match tgtOf t with
  | none => []
  | some p => p.2
theorem nameOf_inv {e : Expr} {x : Str} (h : nameOf e = some x) : ∃ pos, e = .Name x pos := by
  unfold nameOf at h
  split at h
  · exact ⟨_, congrArg (fun z => Expr.Name z _) (Option.some.inj h)⟩
  · exact absurd h (fun z => by cases z)
theorem namesOf_inv {e : Expr} {es : List Expr} {ys : List Str} (h : namesOf (e :: es) = some ys) : ∃ x pos xs, e = .Name x pos ∧ namesOf es = some xs ∧ ys = x :: xs := by
  unfold namesOf at h
  cases h1 : nameOf e with
  | none => rw [h1] at h; exact absurd h (fun z => by cases z)
  | some x =>
    cases h2 : namesOf es with
    | none => rw [h1, h2] at h; exact absurd h (fun z => by cases z)
    | some xs =>
      rw [h1, h2] at h
      obtain ⟨pos, e1⟩ := nameOf_inv h1
      exact ⟨x, pos, xs, e1, rfl, (Option.some.inj h).symm⟩
theorem tgtOf_inv {t : Expr} {p : Bool × List Str} (h : tgtOf t = some p) : (∃ x pos, t = .Name x pos ∧ p = (false, [x])) ∨ ∃ es k pos xs, t = .Tuple es k pos ∧ namesOf es = some xs ∧ p = (true, xs) := by
  unfold tgtOf at h
  split at h
  · exact .inl ⟨_, _, rfl, (Option.some.inj h).symm⟩
  · obtain ⟨xs, h1, h2⟩ := Option.map_eq_some_iff.mp h
    exact .inr ⟨_, _, _, xs, rfl, h1, h2.symm⟩
  · exact absurd h (fun z => by cases z)
theorem datOf_inv {d : PyData} {ds : List PyData} (h : datOf true d = some ds) : d = .tuple ds := by
  unfold datOf at h
  rw [if_pos rfl] at h
  split at h
  · exact congrArg PyData.tuple (Option.some.inj h)
  · exact absurd h (fun z => by cases z)
theorem bindT_eq {t : Expr} {d : PyData} {ρ ρ' : Loc} (h : bindT t d ρ = some ρ') : ∃ p ds, tgtOf t = some p ∧ datOf p.1 d = some ds ∧ tnames t = p.2 ∧ bindN p.2 ds ρ = some ρ' ∧ ∀ σ, bindT t d σ = bindN p.2 ds σ := by
  have key : ∀ σ, bindT t d σ = match tgtOf t with | none => none | some p => match datOf p.1 d with | none => none | some ds => bindN p.2 ds σ := fun _ => rfl
  have key2 : tnames t = match tgtOf t with | none => [] | some p => p.2 := rfl
  rw [key] at h
  cases h1 : tgtOf t with
  | none => rw [h1] at h; exact absurd h (fun z => by cases z)
  | some p =>
    rw [h1] at h key2
    cases h2 : datOf p.1 d with
    | none => simp only [h2] at h; exact absurd h (fun z => by cases z)
    | some ds =>
      simp only [h2] at h
      exact ⟨p, ds, rfl, h2, key2, h, fun σ => by rw [key, h1]; simp only [h2]⟩
theorem bindN_facts : ∀ {xs : List Str} {ds : List PyData} {ρ ρ' : Loc}, bindN xs ds ρ = some ρ' → xs.length = ds.length ∧ (∀ y, y ∉ xs → ρ'.get y = ρ.get y) ∧ ρ'.lg = ρ.lg ∧ ∀ y ys, ρ'.get y = some (.own ys) → ρ.get y = some (.own ys) := by
  intro xs
  induction xs with
  | nil =>
    intro ds ρ ρ' h
    cases ds with
    | nil => cases h; exact ⟨rfl, fun _ _ => rfl, rfl, fun _ _ q => q⟩
    | cons d ds => exact absurd h (fun z => by cases z)
  | cons x xs ih =>
    intro ds ρ ρ' h
    cases ds with
    | nil => exact absurd h (fun z => by cases z)
    | cons d ds =>
      obtain ⟨a0, a1, a2, a3⟩ := ih h
      refine ⟨congrArg (· + 1) a0, fun y hy => ?_, a2, fun y ys q => ?_⟩
      · rw [a1 y fun z => hy (.tail _ z), Loc.get_set, if_neg fun z => hy (by rw [z]; exact .head _)]
      · have := a3 y ys q
        rw [Loc.get_set] at this
        by_cases e : y = x
        · rw [if_pos e] at this; exact absurd this (fun z => by cases z)
        · rw [if_neg e] at this; exact this
section
variable {prog : Program} {w : World} {n : Nat} {G : Ga} {ρ : Loc}

theorem FRx.ownSeq {X : Addr → Prop} {h : Heap} (F : FRx G ρ X h) {b : Addr} {o : Obj} (e : h.get? b = some o) {vs : Array Value} {k : Nat} (d : o.data = .seq vs k) : ¬ G.own b := by
  obtain ⟨m, cm, f, _⟩ := F.ex
  rintro (rfl | ⟨y, z1, z2⟩)
  · obtain ⟨oL, es, ep, hL, hd, _⟩ := f.ns
    rw [e] at hL; cases hL; rw [d] at hd; cases hd
  · obtain ⟨⟨oc, hc, hd⟩, _⟩ := f.cell y b z1 z2
    rw [e] at hc; cases hc; rw [d] at hd; cases hd
theorem FRx.mv {X X' : Addr → Prop} {h h' : Heap} (F : FRx G ρ X h) (k : Kept G X h h') (x : XNew X X' h) : Mv X X' h h' :=
  ⟨fun b o e vs n d l => k b o e (F.ownSeq e d) l, fun b o e z => (x b z).elim id fun q => by rw [e] at q; cases q⟩

theorem assign_name {A : Around} {s : Shared} {X : Addr → Prop} {x : Str} {pos : Pos} {v : Value} {d : PyData} {Q : Unit → Shared → Prop} {E : Value → Shared → Prop} (F : FRx G ρ X s.heap) (r : Rd X s.heap v d) (hx : G.sto x = true)
    (k : ∀ h' tk, Kept0 G [x] s.heap h' → FRx G (ρ.set x (.d d)) X h' → Q () { s with heap := h', toks := tk }) : wpAny (model prog w) A (assign (.Name x pos) G.env v) Q E s :=
  wpAny_assign_Name (storeName_fr (a := .d d) F (Ga.sto_or hx).1 (Ga.sto_or hx).2 r (fun _ e => by cases e) k)
theorem assign_names {A : Around} {X : Addr → Prop} {E : Value → Shared → Prop} (es : List Expr) : ∀ (xs : List Str) (vs : List Value) (ds : List PyData) (ρ ρ' : Loc) (s : Shared) (Q : Unit → Shared → Prop), namesOf es = some xs → FRx G ρ X s.heap → RdAll X s.heap vs ds → xs.all G.sto = true → bindN xs ds ρ = some ρ' →
    (∀ h' tk, Kept0 G xs s.heap h' → FRx G ρ' X h' → Q () { s with heap := h', toks := tk }) → wpAny (model prog w) A (assignInOrder ((assignEach es G.env).map (·.2)) vs) Q E s := by
  induction es with
  | nil =>
    intro xs vs ds ρ ρ' s Q hn F r hs hb k
    cases hn
    cases r with
    | nil => cases hb; exact wpAny_pure (k s.heap s.toks Kept0.refl F)
    | cons a b => exact absurd hb (fun z => by cases z)
  | cons e es ih =>
    intro ys vs ds ρ ρ' s Q hn F r hs hb k
    obtain ⟨x, p, xs, rfl, hn', rfl⟩ := namesOf_inv hn
    cases r with
    | nil => exact absurd hb (fun z => by cases z)
    | cons a b =>
      rename_i v vs d ds
      obtain ⟨h1, h2⟩ := Bool.and_eq_true_iff.mp (show (G.sto x && xs.all G.sto) = true from hs)
      show wpAny _ A (do holding vs (assign (.Name x p) G.env v); assignInOrder ((assignEach es G.env).map (·.2)) vs) Q E s
      refine wpAny_bind (wpAny_holding (assign_name F a h1 fun h' tk k₁ F' => ?_))
      exact ih xs vs ds _ ρ' _ Q hn' F' (b.mv (F.mv k₁.k XNew.refl)) h2 hb fun h'' tk' k₂ F'' => k h'' tk' ((k₁.more fun y hy => by cases List.mem_singleton.mp hy; exact .head _).tr (k₂.more fun y hy => .tail _ hy)) F''
theorem assignEach_names {es : List Expr} : ∀ {xs : List Str}, namesOf es = some xs → (assignEach es G.env).length = xs.length ∧ (assignEach es G.env).findIdx? (·.1) = none := by
  induction es with
  | nil => intro xs hn; cases hn; exact ⟨rfl, rfl⟩
  | cons e es ih =>
    intro ys hn
    obtain ⟨x, p, xs, rfl, hn', rfl⟩ := namesOf_inv hn
    obtain ⟨a, b⟩ := ih hn'
    refine ⟨congrArg (· + 1) a, ?_⟩
    show List.findIdx? _ ((false, _) :: assignEach es G.env) = none
    rw [List.findIdx?_cons, b]; rfl
theorem assign_fr {A : Around} {s : Shared} {X : Addr → Prop} {t : Expr} {v : Value} {d : PyData} {ρ' : Loc} {Q : Unit → Shared → Prop} {E : Value → Shared → Prop} (hh : A.handled = none) (F : FRx G ρ X s.heap) (r : Rd X s.heap v d) (hb : bindT t d ρ = some ρ') (ht : stoT G t = true)
    (k : ∀ h' tk, Kept0 G (tnames t) s.heap h' → FRx G ρ' X h' → Q () { s with heap := h', toks := tk }) : wpAny (model prog w) A (assign t G.env v) Q E s := by
  obtain ⟨p, ds, e1, e2, e3, e4, _⟩ := bindT_eq hb
  rw [e3] at k
  have ht' : p.2.all G.sto = true := by unfold stoT at ht; rw [e1] at ht; exact ht
  clear hb ht e3
  rcases tgtOf_inv e1 with ⟨x, pos, rfl, rfl⟩ | ⟨es, kk, pos, xs, rfl, hn, rfl⟩
  · cases e2
    cases e4
    exact assign_name F r (by simpa using ht') k
  · cases datOf_inv e2
    cases r with
    | tuple h1 h2 h3 h4 h5 =>
      rename_i a o vs m
      have hl := (bindN_facts e4).1
      refine assign_Tuple_tuple hh ⟨o, h1, h2, m, h3⟩ ?_ (assignEach_names hn).2 fun h' he => ?_
      · rw [(assignEach_names hn).1]; show xs.length = _; rw [hl, ← h5.length]; simp
      · have e : Ext s.heap h' := fun b ob q => he b ob (Nat.ne_of_lt (Heap.lt_size q)) q
        exact assign_names es xs _ ds ρ ρ' _ Q hn (F.mono e) (h5.ext e) ht' e4 fun h'' tk k' F' => k h'' tk ((Kept0.ext e).tr k') F'
end
end Mine
end

section
open PySem PySem.W PyProof.Rows PySem.Calls
set_option Elab.async false
set_option linter.unusedVariables false
namespace Mine

structure Wk (prog : Program) (w : World) (A : Around) (X : Addr → Prop) (target : Expr) (I : Addr) (fp wr : List Addr) (ds : List PyData) (hi : Heap) (St : Nat → Heap → Prop) : Prop where
  sub : ∀ b ∈ wr, b ∈ fp
  frame : ∀ i h h', St i h → (∀ b ∈ fp, ∀ o, h.get? b = some o → h'.get? b = some o) → St i h'
  wns : ∀ i h, St i h → ∀ b ∈ wr, ∀ o, h.get? b = some o → ∀ vs k, o.data ≠ .seq vs k
  live : ∀ i h, St i h → ∀ b ∈ wr, ∃ o, h.get? b = some o
  item : ∀ i d (s : Shared) (X' : Addr → Prop) (Q : Value → Shared → Prop) (E : Value → Shared → Prop), ds[i]? = some d → St i s.heap → XOk X' s.heap → (∀ v e, Rd X hi v e → Rd X' s.heap v e) →
    (∀ v s₂, (∃ h' tk, s₂ = { s with heap := h', toks := tk }) → St (i + 1) s₂.heap → (∀ b o, b ∉ wr → s.heap.get? b = some o → s₂.heap.get? b = some o) → Rd X' s₂.heap v d → Q v s₂) →
    wpAny (model prog w) A (pyNext (.ref I)) (fun r s₁ => match r with
      | none => False
      | some v => wpAny (model prog w) A (letOwnedTupleGo target (.ref I) v) (fun _ s₂ => Q v s₂) E s₁) E s
  done : ∀ (s : Shared) (Q : Option Value → Shared → Prop) (E : Value → Shared → Prop), St ds.length s.heap →
    (∀ h' tk, (∀ b o, b ∉ wr → s.heap.get? b = some o → h'.get? b = some o) → Q none { s with heap := h', toks := tk }) → wpAny (model prog w) A (pyNext (.ref I)) Q E s
  self : ∀ i (s : Shared) (Q : Value → Shared → Prop) (E : Value → Shared → Prop), St i s.heap → Q (.ref I) s → wpAny (model prog w) A (pyIter (.ref I)) Q E s

def owners : List String := ["enumerate", "zip", "dict_itemiterator", "dict_reverseitemiterator", "odict_iterator", "itertools.zip_longest", "itertools.pairwise"]
theorem lot_ok {M : Model} {A : Around} {s : Shared} {target : Expr} {I : Addr} {v : Value} {o : Obj} {nm : String} {fs : Array Value} {Q : Unit → Shared → Prop} {E : Value → Shared → Prop} (ho : s.heap.get? I = some o) (hc : o.cls = .type nm) (hd : o.data = .fields fs) (hn : owners.contains nm = false) (q : Q () s) :
    wpAny M A (letOwnedTupleGo target (.ref I) v) Q E s := by
  have main : wpAny M A (do
    let (.ref r, .ref a) := ((.ref I, v) : Value × Value) | return
    let o ← load r
    match o.cls, o.data with
    | .type n, .fields vs =>
      if owners.contains n && vs[0]? == some (rawInt a) then
        rule "for.unpacks-the-owned-tuple"
        updateField r 0 .none
    | _, _ => pure ()) Q E s := by
    cases v <;> first | exact wpAny_pure q | skip
    refine wpAny_bind (wpAny_load ho ?_)
    rw [hc, hd]
    dsimp only
    rw [hn, Bool.false_and]
    exact wpAny_pure q
  cases target <;> first | exact wpAny_pure q | exact main
theorem Wk.of {prog : Program} {w : World} {A : Around} {X : Addr → Prop} {target : Expr} {I : Addr} {fp wr : List Addr} {ds : List PyData} {hi : Heap} {P : Nat → Value → Prop} {St : Nat → Heap → Prop} (W : Walks prog w A I fp wr ds.length P St)
    (hP : ∀ i v d, P i v → ds[i]? = some d → Rd X hi v d) (hw : wr = [I])
    (hI : ∀ i h, St i h → ∃ o nm fs, h.get? I = some o ∧ o.cls = .type nm ∧ o.data = .fields fs ∧ owners.contains nm = false) : Wk prog w A X target I fp wr ds hi St where
  sub := W.sub
  frame := W.frame
  wns := fun i h st b hb o q vs n dq => by
    obtain ⟨o', nm', fs', g1, g2, g3, g4⟩ := hI _ _ st
    rw [hw] at hb
    cases List.mem_singleton.mp hb
    rw [g1] at q; cases q; rw [g3] at dq; cases dq
  live := fun i h st b hb => by
    obtain ⟨o', nm', fs', g1, g2, g3, g4⟩ := hI _ _ st
    rw [hw] at hb
    cases List.mem_singleton.mp hb
    exact ⟨_, g1⟩
  item := fun i d s X' Q E hd st hX hc k => by
    have hlt : i < ds.length := by
      rcases Nat.lt_or_ge i ds.length with h | h
      · exact h
      · rw [List.getElem?_eq_none h] at hd; cases hd
    refine W.item i s _ E hlt st fun v h' tk p st' hk => ?_
    obtain ⟨o, nm, fs, h1, h2, h3, h4⟩ := hI _ _ st'
    obtain ⟨o', nm', fs', g1, g2, g3, g4⟩ := hI _ _ st
    refine lot_ok (s := { s with heap := h', toks := tk }) h1 h2 h3 h4 (k v _ ⟨h', tk, rfl⟩ st' hk ?_)
    refine (hc v d (hP i v d p hd)).mv ⟨fun b o q vs n dq _ => hk b o (fun hb => ?_) q, fun b o q z => z⟩
    rw [hw] at hb
    cases List.mem_singleton.mp hb
    rw [g1] at q; cases q; rw [g3] at dq; cases dq
  done := W.done
  self := W.self

def ItP (prog : Program) (w : World) (n : Nat) (X : Addr → Prop) (env : Env) (h : Heap) (target e : Expr) (strict : Prop) (ds : List PyData) : Prop :=
  ∀ A, Rm n A → ∀ s, Ext h s.heap → ∀ (Q : Value → Shared → Prop) (E : Value → Shared → Prop),
    (∀ I s₂ fp wr St, Kp s s₂ → Wk prog w A X target I fp wr ds s₂.heap St → St 0 s₂.heap →
      (∀ b ∈ fp, (s₂.heap.get? b).isSome = true ∧ (s.heap.get? b = none ∨ (strict → ¬ X b) ∧ ∃ o vs k, s.heap.get? b = some o ∧ o.data = .seq vs k)) → (∀ b ∈ wr, s.heap.get? b = none) → Q (.ref I) s₂) →
    wpAny (model prog w) A (eval e env) (fun xv s₁ => wpAny (model prog w) A (pyIter xv) Q E s₁) E s

section
variable {prog : Program} {w : World} {n : Nat} {X : Addr → Prop} {env : Env} {h : Heap} {target : Expr}
theorem get_size_none (h : Heap) : h.get? h.objs.size = none := by
  cases e : h.get? h.objs.size with
  | none => rfl
  | some o => exact absurd (Heap.lt_size e) (Nat.lt_irrefl _)
theorem none_of_ext {h h' : Heap} (e : Ext h h') {b : Addr} (q : h'.get? b = none) : h.get? b = none := by
  cases z : h.get? b with
  | none => rfl
  | some o => rw [e b o z] at q; cases q
theorem ItP.list {e : Expr} {ds : List PyData} (p : Pu prog w n X env h e (.d (.list ds))) (strict : Prop) : ItP prog w n X env h target e strict ds := fun A R s x Q E k => by
  refine p.go R x fun v s₁ k₁ x₁ r₁ => ?_
  cases r₁ with
  | list h1 h2 h3 h4 h5 h6 =>
    rename_i a o vs m
    have hl : s₁.heap.IsList a vs := ⟨o, h1, h2, m, h3⟩
    have ea : Ext s₁.heap (s₁.heap.push { cls := .type "list_iterator", data := .fields #[.ref a, .int 0 0] }) := Ext.push _ _
    refine wpAny_pyIter_list hl ?_
    have hlen : vs.size = ds.length := by rw [← h6.length]; simp
    have W := Walks.list (prog := prog) (w := w) R.handled s₁.heap.objs.size a (Nat.ne_of_lt (Heap.lt_size h1)) vs
    rw [hlen] at W
    refine k _ _ _ _ _ (k₁.trans (Kp.of s₁ ea)) (Wk.of W (fun i v d p q => ?_) rfl fun i h st => ?_) ⟨⟨_, Heap.get?_push_size _ rfl, rfl, rfl⟩, IsList.ext ea hl⟩ ?_ ?_
    · obtain ⟨d', q', r'⟩ := h6.getV (i := i) (v := v) (by simpa using p)
      rw [q] at q'; cases q'; exact r'.ext ea
    · obtain ⟨⟨o, a1, a2, a3⟩, _⟩ := st
      exact ⟨o, _, _, a1, a2, a3, by decide⟩
    · intro b hb
      rcases List.mem_cons.mp hb with rfl | hb
      · exact ⟨by rw [Heap.get?_push_size _ rfl]; rfl, .inl (none_of_ext (Kp.ext k₁) (get_size_none _))⟩
      · cases List.mem_singleton.mp hb
        refine ⟨by rw [ea _ _ h1]; rfl, ?_⟩
        cases z : s.heap.get? a with
        | none => exact .inl rfl
        | some o' =>
          have := (Kp.ext k₁) _ _ z
          rw [h1] at this; cases this
          exact .inr ⟨fun _ => h5, o, vs, m, rfl, h3⟩
    · intro b hb
      cases List.mem_singleton.mp hb
      exact none_of_ext (Kp.ext k₁) (get_size_none _)
end
end Mine
end

section
open PySem PySem.W PyProof.Rows PySem.Calls
set_option Elab.async false
set_option linter.unusedVariables false
namespace Mine
section
variable {prog : Program} {w : World} {n : Nat} {G : Ga} {ρ : Loc}

theorem XNew.ext {X X' : Addr → Prop} {h h' : Heap} (e : Ext h h') (x : XNew X X' h') : XNew X X' h := fun p z => (x p z).imp id fun q => none_of_ext e q
def Turn (J : Loc → Prop) (B : Loc → Prop) (Φ : Out → Prop) : Out → Prop
  | .next ρ => J ρ
  | .cont ρ => J ρ
  | .brk ρ => B ρ
  | .ret d lg => Φ (.ret d lg)
theorem FRx.but {X : Addr → Prop} {h h' : Heap} {wr : List Addr} (F : FRx G ρ X h) (k : ∀ b o, b ∉ wr → h.get? b = some o → h'.get? b = some o)
    (hw : ∀ b ∈ wr, ¬ G.own b ∧ ¬ X b ∧ G.h₀.get? b = none ∧ ∀ o, h.get? b = some o → ∀ vs k, o.data ≠ .seq vs k) : FRx G ρ X h' := by
  obtain ⟨m, cm, f, l, u, u0, ld⟩ := F.ex
  have mv : Mv X X h h' := ⟨fun b o e vs n d _ => k b o (fun z => (hw b z).2.2.2 o e vs n d) e, fun _ _ _ z => z⟩
  have nL : G.env.locals ∉ wr := fun z => (hw _ z).1 (.inl rfl)
  refine ⟨m, cm, ⟨f.kind, fun b o e => k b o (fun z => by rw [(hw b z).2.2.1] at e; cases e) (f.ext b o e), f.ns.at' fun o e => k _ o nL e, fun x c a b => ⟨?_, (f.cell x c a b).2⟩, f.inj, f.has, f.fresh, ?_, f.xy, f.yx, f.y0, f.xo, f.zx⟩, fun x a q => ?_, u, u0, ld.at fun b o q z => k b o (fun y => (hw b y).2.1 z) q⟩
  · obtain ⟨o, h1, h2⟩ := (f.cell x c a b).1
    exact ⟨o, k c o (fun z => (hw c z).1 (.inr ⟨x, a, b⟩)) h1, h2⟩
  · intro p z
    obtain ⟨o, e⟩ := Option.isSome_iff_exists.mp (f.xok p z)
    rw [k p o (fun q => (hw p q).2.1 z) e]; rfl
  · obtain ⟨v, h1, h2, h3⟩ := l x a q
    refine ⟨v, h1, ?_, h3⟩
    cases a with
    | d x => exact Rd.mv mv h2
    | own xs => obtain ⟨a, vs, b1, b2, b3, b4⟩ := h2; exact ⟨a, vs, b1, b2, b3.at fun o e => k a o (fun z => (hw a z).2.1 b2) e, b4.mv mv⟩
    | arr xs =>
      obtain ⟨a, vs, b1, b2, ⟨o, b3, b5, n, b6⟩, b4⟩ := h2
      exact ⟨a, vs, b1, b2, ⟨o, k a o (fun z => (hw a z).2.2.2 o b3 _ _ b6) b3, b5, n, b6⟩, b4.mv mv⟩
    | v x => exact h2
theorem Ex1.for_ {target iter : Expr} {body orelse : List Stmt} {pos : Pos} {ds : List PyData} {Φ : Out → Prop} (J : Nat → Loc → Prop) (B : Loc → Prop) (ht : stoT G target = true)
    (p : ∀ X h, FRx G ρ X h → ItP prog w n X G.env h target iter True ds) (h0 : J 0 ρ)
    (turn : ∀ i d ρ₁, ds[i]? = some d → J i ρ₁ → ∃ ρ₂, bindT target d ρ₁ = some ρ₂ ∧ Ex prog w n G ρ₂ body (Turn (J (i + 1)) B Φ))
    (fin : ∀ ρ₁, J ds.length ρ₁ → Ex prog w n G ρ₁ orelse Φ) (brk : ∀ ρ₁, B ρ₁ → Φ (.next ρ₁))
    (hs : ∀ x, foldedSetIterable iter G.env x = pure x := by intro _; rfl) : Ex1 prog w n G ρ (.For target iter body orelse pos) Φ := fun A R s X F E => by
  refine wpAny_For (p X _ F A R s (Ext.refl _) _ E fun I s₂ fp wr St k₂ W st0 hfp hwr => ?_) hs
  have F₂ := F.mono (Kp.ext k₂)
  have off : ∀ b ∈ fp, ¬ G.own b ∧ ¬ X b := by
    intro b hb
    obtain ⟨hs1, q | ⟨q1, o, vs, k, q2, q3⟩⟩ := hfp b hb
    · refine ⟨fun z => ?_, fun z => ?_⟩
      · obtain ⟨m, cm, f, _⟩ := F.ex
        rcases z with rfl | ⟨y, z1, z2⟩
        · obtain ⟨oL, _, _, hL, _⟩ := f.ns; rw [q] at hL; cases hL
        · obtain ⟨⟨oc, hc, _⟩, _⟩ := f.cell y b z1 z2; rw [q] at hc; cases hc
      · have := F.xok b z; rw [q] at this; cases this
    · exact ⟨F.ownSeq q2 q3, q1 trivial⟩
  have w0 : ∀ b ∈ wr, G.h₀.get? b = none := fun b hb => none_of_ext F.ext (hwr b hb)
  -- between the turns
  let Inv : Nat → Loc → (Addr → Prop) → Shared → Prop := fun i ρ₁ X₁ s' => (∃ h' tk, s' = { s₂ with heap := h', toks := tk }) ∧ (∀ b o, s₂.heap.get? b = some o → ¬ G.own b → ¬ X b → b ∉ wr → s'.heap.get? b = some o) ∧ XNew X X₁ s₂.heap ∧ FRx G ρ₁ X₁ s'.heap ∧ St i s'.heap
  have same2 : ∃ h' tk, s₂ = { s with heap := h', toks := tk } := by obtain ⟨h', tk, e, _⟩ := k₂; exact ⟨h', tk, e⟩
  have k2e := Kp.ext k₂
  have keptS : ∀ {h' : Heap}, (∀ b o, s₂.heap.get? b = some o → ¬ G.own b → ¬ X b → b ∉ wr → h'.get? b = some o) → Kept G X s.heap h' := fun k b o e a c => k b o (k2e b o e) a c fun z => by rw [hwr b z] at e; cases e
  refine codeAny_forLoop_any (fun k s' => ∃ i ρ₁ X₁, k = ds.length + 1 - i ∧ i ≤ ds.length ∧ J i ρ₁ ∧ Inv i ρ₁ X₁ s')
    (fun k s' inv => ?_) _ ⟨0, ρ, X, rfl, Nat.zero_le _, h0, ⟨s₂.heap, s₂.toks, rfl⟩, fun _ _ e _ _ _ => e, XNew.refl, F₂, st0⟩
  obtain ⟨i, ρ₁, X₁, rfl, hi, hJ, ⟨h₁, tk₁, rfl⟩, kp, xn, F₁, st⟩ := inv
  have offX : ∀ b ∈ fp, ¬ X₁ b := fun b hb z => (xn b z).elim (off b hb).2 fun q => by have := (hfp b hb).1; rw [q] at this; cases this
  have hwF : ∀ b ∈ wr, ¬ G.own b ∧ ¬ X₁ b ∧ G.h₀.get? b = none ∧ ∀ o, h₁.get? b = some o → ∀ vs k, o.data ≠ .seq vs k := fun b hb => ⟨(off b (W.sub b hb)).1, offX b (W.sub b hb), w0 b hb, fun o e => W.wns _ _ st b hb o e⟩
  rcases Nat.lt_or_ge i ds.length with hlt | hge
  · obtain ⟨d, hd⟩ : ∃ d, ds[i]? = some d := ⟨ds[i], by simp [hlt]⟩
    obtain ⟨ρ₂, hb, ex⟩ := turn i d ρ₁ hd hJ
    have cr : ∀ v e, Rd X s₂.heap v e → Rd X₁ h₁ v e := fun v e r => r.mv ⟨fun b o q vs n dq nx => kp b o q (F₂.ownSeq q dq) nx fun z => W.wns _ _ st0 b z o q _ _ dq, fun b o q z => (xn b z).elim id fun z' => by rw [q] at z'; cases z'⟩
    refine wpAny_mono (W.item i d { s₂ with heap := h₁, toks := tk₁ } X₁ (fun v s₃ => wpAny (model prog w) A (PySem.assign target G.env v) (fun _ s₄ => wpAny (model prog w) A (execs body G.env) (fun f s₃ => match f with
            | .next | .cont => ∃ m, m < ds.length + 1 - i ∧ ∃ i ρ₁ X₁, m = ds.length + 1 - i ∧ i ≤ ds.length ∧ J i ρ₁ ∧ Inv i ρ₁ X₁ s₃
            | .brk => ∃ o, Φ o ∧ OutR G X s o .next s₃
            | .ret v => ∃ o, Φ o ∧ OutR G X s o (.ret v) s₃) (notedBy (model prog w) A G.env fun e s' => cameBackBy (model prog w) A G.env E e s') s₄) (notedBy (model prog w) A G.env fun e s' => cameBackBy (model prog w) A G.env E e s') s₃)
      (notedBy (model prog w) A G.env fun e s' => cameBackBy (model prog w) A G.env E e s') hd st F₁.xok cr ?_) (fun r s₃ z => ?_) fun _ _ z => z
    · rintro v s₃ ⟨h₃, tk₃, rfl⟩ st₃ hk₃ r₃
      have F₃ : FRx G ρ₁ X₁ h₃ := F₁.but hk₃ hwF
      refine assign_fr R.handled F₃ r₃ hb ht fun h₄ tk₄ kp₄' F₄ => ?_
      have kp₄ : Kept G X₁ h₃ h₄ := kp₄'.k
      refine wpAny_mono (ex A R _ X₁ F₄ _) (fun fl s₅ z => ?_) fun _ _ z => z
      obtain ⟨o, po, z⟩ := z
      have go : ∀ {ρ' : Loc}, Goes G X₁ { s₂ with heap := h₄, toks := tk₄ } ρ' s₅ → ∃ X₂, Inv (i + 1) ρ' X₂ s₅ := by
        rintro ρ' ⟨⟨h₅, tk₅, rfl⟩, kp₅, X₂, F₅, xn₅⟩
        have all : ∀ b o, h₃.get? b = some o → ¬ G.own b → ¬ X₁ b → h₅.get? b = some o := fun b o q a c => kp₅ b o (kp₄ b o q a c) a c
        refine ⟨X₂, ⟨h₅, tk₅, rfl⟩, fun b o q a c nw => ?_, fun q z => ?_, F₅, W.frame _ _ _ st₃ fun b hb o q => all b o q (off b hb).1 (offX b hb)⟩
        · have q1 := hk₃ b o nw (kp b o q a c nw)
          exact all b o q1 a fun z => (xn b z).elim c fun z' => by rw [q] at z'; cases z'
        · rcases xn₅ q z with z1 | z1
          · exact xn q z1
          · by_cases zx : X q
            · exact .inl zx
            · cases e : s₂.heap.get? q with
              | none => exact .inr rfl
              | some o =>
                exfalso
                have no := F₅.xo q z
                by_cases zw : q ∈ wr
                · obtain ⟨o₃, e₃⟩ := W.live _ _ st₃ q zw
                  have : h₄.get? q = some o₃ := kp₄ q o₃ e₃ no (offX q (W.sub q zw))
                  rw [this] at z1; cases z1
                · have q1 := hk₃ q o zw (kp q o e no zx zw)
                  have nx1 : ¬ X₁ q := fun z' => (xn q z').elim zx fun z'' => by rw [e] at z''; cases z''
                  have : h₄.get? q = some o := kp₄ q o q1 no nx1
                  rw [this] at z1; cases z1
      have outs : ∀ {ρ' : Loc}, Goes G X₁ { s₂ with heap := h₄, toks := tk₄ } ρ' s₅ → Goes G X s ρ' s₅ := fun g => by
        obtain ⟨X₂, ⟨h₅, tk₅, e5⟩, kk, xx, FF, _⟩ := go g
        obtain ⟨h', tk, e'⟩ := same2
        exact ⟨⟨h₅, tk₅, by rw [e5, e']⟩, keptS kk, X₂, FF, xx.ext k2e⟩
      cases o with
      | next ρ' => obtain ⟨rfl, g⟩ := z; obtain ⟨X₂, iv⟩ := go g; exact ⟨ds.length + 1 - (i + 1), by omega, i + 1, ρ', X₂, rfl, hlt, po, iv⟩
      | cont ρ' => obtain ⟨rfl, g⟩ := z; obtain ⟨X₂, iv⟩ := go g; exact ⟨ds.length + 1 - (i + 1), by omega, i + 1, ρ', X₂, rfl, hlt, po, iv⟩
      | brk ρ' => obtain ⟨rfl, g⟩ := z; exact ⟨_, brk _ po, rfl, outs g⟩
      | ret d lg =>
        obtain ⟨v, rfl, ⟨⟨h₅, tk₅, rfl⟩, kp₅, xr, rr, rno, rld, rzo⟩⟩ := z
        obtain ⟨h', tk, e'⟩ := same2
        refine ⟨_, po, v, rfl, ⟨h₅, tk₅, by rw [e']⟩, keptS fun b o q a c nw => ?_, xr, rr, rno, rld, rzo⟩
        have q1 := hk₃ b o nw (kp b o q a c nw)
        have nx1 : ¬ X₁ b := fun z => (xn b z).elim c fun z' => by rw [q] at z'; cases z'
        exact kp₅ b o (kp₄ b o q1 a nx1) a nx1
    · cases r with
      | none => exact z.elim
      | some v => exact z
  · have hin : i = ds.length := Nat.le_antisymm hi hge
    subst hin
    refine W.done _ _ _ st fun h₃ tk₃ hk₃ => ?_
    have F₃ : FRx G ρ₁ X₁ h₃ := F₁.but hk₃ hwF
    refine wpAny_mono (fin ρ₁ hJ A R _ X₁ F₃ _) (fun fl s₅ z => ?_) fun _ _ z => z
    obtain ⟨o, po, z⟩ := z
    obtain ⟨h', tk, e'⟩ := same2
    refine ⟨o, po, OutR.trans (s₁ := { s₂ with heap := h₃, toks := tk₃ }) (X₁ := X₁) ⟨h₃, tk₃, by rw [e']⟩ (keptS fun b o q a c nw => hk₃ b o nw (kp b o q a c nw)) (xn.ext k2e) z⟩
end
end Mine
end

section
open PySem PySem.W PyProof.Rows PySem.Calls
set_option Elab.async false
set_option linter.unusedVariables false
namespace Mine

theorem bindL_get (kindOf : Str → Option NameKind) {x : Str} (hk : kindOf x = some .local) : ∀ (names : List Str) (vs : List Value) (m : Str → Option Value), names.Nodup → x ∉ names → bindL kindOf (names.zip vs) m x = m x
  | [], _, _, _, _ => by simp [bindL]
  | _ :: _, [], _, _, _ => by simp [bindL]
  | y :: ys, v :: vs, m, hn, hx => by
    have hxy : x ≠ y := fun e => hx (by rw [e]; exact .head _)
    show bindL kindOf (ys.zip vs) (if kindOf y = some .local then fun z => if z = y then some v else m z else m) x = m x
    rw [bindL_get kindOf hk ys vs _ (List.nodup_cons.mp hn).2 fun z => hx (.tail _ z)]
    split
    · simp [hxy]
    · rfl
theorem bindL_at (kindOf : Str → Option NameKind) {x : Str} (hk : kindOf x = some .local) : ∀ (names : List Str) (vs : List Value) (m : Str → Option Value) {v : Value}, names.Nodup → (names.zip vs).lookup x = some v → bindL kindOf (names.zip vs) m x = some v
  | [], _, _, _, _, h => by simp at h
  | _ :: _, [], _, _, _, h => by simp at h
  | y :: ys, u :: vs, m, v, hn, h => by
    show bindL kindOf (ys.zip vs) (if kindOf y = some .local then fun z => if z = y then some u else m z else m) x = some v
    by_cases hxy : x = y
    · subst hxy
      rw [bindL_get kindOf hk ys vs _ (List.nodup_cons.mp hn).2 (List.nodup_cons.mp hn).1]
      simp at h
      rw [if_pos hk]; simp [h]
    · rw [List.zip_cons_cons, List.lookup_cons, beq_eq_false_iff_ne.mpr hxy] at h
      exact bindL_at kindOf hk ys vs _ (List.nodup_cons.mp hn).2 h
theorem bindC_get (kindOf : Str → Option NameKind) {x : Str} (hk : kindOf x = some .cell) : ∀ (names : List Str) (vs : List Value) (m : Str → Option Value), names.Nodup → x ∉ names → bindC kindOf (names.zip vs) m x = m x
  | [], _, _, _, _ => by simp [bindC]
  | _ :: _, [], _, _, _ => by simp [bindC]
  | y :: ys, v :: vs, m, hn, hx => by
    have hxy : x ≠ y := fun e => hx (by rw [e]; exact .head _)
    show bindC kindOf (ys.zip vs) (if kindOf y = some .local then m else fun z => if z = y then some v else m z) x = m x
    rw [bindC_get kindOf hk ys vs _ (List.nodup_cons.mp hn).2 fun z => hx (.tail _ z)]
    split
    · rfl
    · simp [hxy]
theorem bindC_at (kindOf : Str → Option NameKind) {x : Str} (hk : kindOf x = some .cell) : ∀ (names : List Str) (vs : List Value) (m : Str → Option Value) {v : Value}, names.Nodup → (names.zip vs).lookup x = some v → bindC kindOf (names.zip vs) m x = some v
  | [], _, _, _, _, h => by simp at h
  | _ :: _, [], _, _, _, h => by simp at h
  | y :: ys, u :: vs, m, v, hn, h => by
    show bindC kindOf (ys.zip vs) (if kindOf y = some .local then m else fun z => if z = y then some u else m z) x = some v
    by_cases hxy : x = y
    · subst hxy
      rw [bindC_get kindOf hk ys vs _ (List.nodup_cons.mp hn).2 (List.nodup_cons.mp hn).1]
      simp at h
      rw [if_neg (by rw [hk]; decide)]; simp [h]
    · rw [List.zip_cons_cons, List.lookup_cons, beq_eq_false_iff_ne.mpr hxy] at h
      exact bindC_at kindOf hk ys vs _ (List.nodup_cons.mp hn).2 h

def Av (X : Addr → Prop) (h : Heap) : Prop := ∀ p, X p → h.get? p = none
def InLg (lg : List (Addr × Obj)) (p : Addr) : Prop := ∃ q ∈ lg, q.1 = p
structure Called (h : Heap) (X : Addr → Prop) (lg : List (Addr × Obj)) (fd : FuncData) (a : Addr) (G : Ga) : Prop where
  env : ∃ L, G.env = callEnvC fd L a
  ext : Ext h G.h₀
  y : G.Y = X
  av : Av X h
structure CallPost (s : Shared) (X : Addr → Prop) (lg : List (Addr × Obj)) (a : AV) (lg' : List (Addr × Obj)) (v : Value) (s' : Shared) : Prop where
  same : ∃ h' tk, s' = { s with heap := h', toks := tk }
  kept : ∀ b o, s.heap.get? b = some o → ¬ InLg lg b → s'.heap.get? b = some o
  led : ∀ p ∈ lg', s'.heap.get? p.1 = some p.2 ∧ (InLg lg p.1 ∨ s.heap.get? p.1 = none)
  vr : VR (fun p => X p ∨ InLg lg' p) s'.heap v a
  no : ∀ xs, a ≠ .own xs
  ok : ∀ p, InLg lg p → (s'.heap.get? p).isSome = true
def CallL (prog : Program) (w : World) (n : Nat) (h : Heap) (f : Value) (as : List AV) (lg : List (Addr × Obj)) (Ψ : AV → List (Addr × Obj) → Prop) : Prop :=
  ∀ A, Rm n A → ∀ s X, Ext h s.heap → Av X h → XOk X s.heap → (∀ p ∈ lg, s.heap.get? p.1 = some p.2 ∧ X p.1) → ∀ vs, VRs X s.heap vs as → ∀ E : Value → Shared → Prop, codeAny (model prog w) A (.call f ⟨vs, []⟩) (fun r s' => match r with | .ok (.ret v) => ∃ a lg', Ψ a lg' ∧ CallPost s X lg a lg' v s' | .ok _ => False | .error e => E e s') s
theorem CallR.mono {prog : Program} {w : World} {n : Nat} {X : Addr → Prop} {h h' : Heap} {f : Value} {as : List AV} {c : AV} (e : Ext h h') (p : CallR prog w n X h f as c) : CallR prog w n X h' f as c := fun A R s x => p A R s (e.trans x)
theorem CallR.le {prog : Program} {w : World} {n k : Nat} {X : Addr → Prop} {h : Heap} {f : Value} {as : List AV} {c : AV} (e : n ≤ k) (p : CallR prog w n X h f as c) : CallR prog w k X h f as c := fun A R => p A (R.le e)
theorem CallR.of {prog : Program} {w : World} {n : Nat} {X : Addr → Prop} {h : Heap} {f : Value} {as : List AV} {c : AV} (av : Av X h) (p : CallL prog w n h f as [] (fun a lg => a = c ∧ lg = [])) : CallR prog w n X h f as c := fun A R s x xok vs rs E =>
  wpAny_mono (wpAny_call (p A R s X x av xok (fun _ h => nomatch h) vs rs E)) (fun v s' z => by
    obtain ⟨a, lg', ⟨rfl, rfl⟩, ⟨h', tk, rfl⟩, kp, _, vr, no, _⟩ := z
    refine ⟨Kp.of s fun b o e => kp b o e (fun ⟨_, h, _⟩ => nomatch h), ?_⟩
    exact VR.mvNo (X := fun p => X p ∨ InLg [] p) (Mv.sub fun p z => Or.inl z) no vr) fun _ _ z => z
def paramsOk (fd : FuncData) (names : List Str) : Bool :=
  names.all fun x => (fd.scope.names.lookup x == some .local || (fd.scope.names.lookup x == some .cell && ((cellsFrom 0 fd.scope.names []).lookup x).isSome)) && !(x == ("__debug__" : Str))
def cellsOk (fd : FuncData) : Bool := fd.scope.names.all fun x => fd.scope.names.lookup x.1 != some .cell || ((cellsFrom 0 fd.scope.names []).lookup x.1).isSome
theorem cellsFrom_lookup {x : Str} (names : List (Str × NameKind)) : ∀ (k k' : Nat) (acc acc' : List (Str × Addr)), (acc.lookup x).isSome = (acc'.lookup x).isSome → ((cellsFrom k names acc).lookup x).isSome = ((cellsFrom k' names acc').lookup x).isSome := by
  induction names with
  | nil => intro _ _ _ _ h; exact h
  | cons p r ih =>
    intro k k' acc acc' h
    obtain ⟨y, kd⟩ := p
    unfold cellsFrom
    split
    · refine ih _ _ _ _ ?_
      rw [List.lookup_cons, List.lookup_cons]
      cases x == y <;> simp [h]
    · exact ih _ _ _ _ h

theorem zip_lookup : ∀ {names : List Str} {vs : List Value} {as : List AV} {X : Addr → Prop} {h : Heap}, VRs X h vs as → names.length = as.length → ∀ {x : Str} {a : AV}, (names.zip as).lookup x = some a → ∃ v, (names.zip vs).lookup x = some v ∧ VR X h v a
  | [], _, _, _, _, _, _, _, _, e => by simp at e
  | y :: ys, _, _, _, _, .nil, hl, _, _, _ => by cases hl
  | y :: ys, v :: vs, a :: as, X, h, .cons r rs, hl, x, b, e => by
    rw [List.zip_cons_cons, List.lookup_cons] at e ⊢
    cases q : x == y with
    | true => rw [q] at e; cases e; exact ⟨v, rfl, r⟩
    | false => rw [q] at e; exact zip_lookup rs (Nat.succ.inj hl) e

theorem VRs.length {X : Addr → Prop} {h : Heap} {vs : List Value} {as : List AV} (rs : VRs X h vs as) : vs.length = as.length := by
  induction rs with
  | nil => rfl
  | cons _ _ ih => exact congrArg (· + 1) ih
def RetP (Ψ : AV → List (Addr × Obj) → Prop) : Out → Prop
  | .ret c lg => Ψ c lg
  | .next ρ => Ψ (.d .none) ρ.lg
  | _ => False
theorem callL_start {prog : Program} {w : World} {n : Nat} {body : List Stmt} {names : List Str} {as : List AV} {lg : List (Addr × Obj)} {Ψ : AV → List (Addr × Obj) → Prop} {A : Around} {s : Shared} {X : Addr → Prop} {vs : List Value} {E : Value → Shared → Prop} {s₁ : Shared} {G : Ga} {m cm : Str → Option Value}
    (hG : G = ⟨G.env, hideAll s.heap (lg.map (·.1)), X, InLg lg⟩) (R : Rm n A) (xok : XOk X s.heap) (hlg : ∀ p ∈ lg, s.heap.get? p.1 = some p.2 ∧ X p.1) (rs : VRs X s.heap vs as) (hlen : names.length = as.length) (na : ∀ x ∈ as, ∀ xs, x ≠ .own xs)
    (hk : G.env.scope.kind = .function) (same : ∃ h' tk, s₁ = { s with heap := h', toks := tk }) (keep : Ext s.heap s₁.heap) (ns : s₁.heap.Ns G.env.locals m) (fr : s.heap.get? G.env.locals = none)
    (cell : ∀ x c, G.env.kindOf x = some .cell → G.env.cells.lookup x = some c → s₁.heap.IsCell c (cm x) ∧ s.heap.get? c = none)
    (inj : ∀ x y c, G.env.kindOf x = some .cell → G.env.kindOf y = some .cell → G.env.cells.lookup x = some c → G.env.cells.lookup y = some c → x = y)
    (has : ∀ x, G.env.kindOf x = some .cell → (G.env.cells.lookup x).isSome = true)
    (rd : ∀ x v, (names.zip vs).lookup x = some v → G.rd m cm x = some v ∧ (x == ("__debug__" : Str)) = false)
    (hex : Ex prog w n G ⟨names.zip as, lg⟩ body (RetP Ψ)) :
    wpAny (model prog w) A (execs body G.env) (fun f s' => ∃ v, v = (match f with | .ret v => v | _ => .none) ∧ ∃ a lg', Ψ a lg' ∧ CallPost s X lg a lg' v s') E s₁ := by
  obtain ⟨genv, gh, gy, gz⟩ := G
  cases hG
  obtain ⟨h₁, tk₁, rfl⟩ := same
  have hid : ∀ {b : Addr}, InLg lg b → (hideAll s.heap (lg.map (·.1))).get? b = none := fun ⟨q, h1, h2⟩ => hideAll_none _ (List.mem_map.mpr ⟨q, h1, h2⟩)
  have nhid : ∀ {b : Addr} {o : Obj}, s.heap.get? b = some o → ¬ InLg lg b → (hideAll s.heap (lg.map (·.1))).get? b = some o := fun e z => hideAll_get _ e fun q => z (let ⟨r, h1, h2⟩ := List.mem_map.mp q; ⟨r, h1, h2⟩)
  have none0 : ∀ {b : Addr}, s.heap.get? b = none → (hideAll s.heap (lg.map (·.1))).get? b = none := fun {b} e => by
    cases q : (hideAll s.heap (lg.map (·.1))).get? b with
    | none => rfl
    | some o => rw [of_hideAll _ q] at e; cases e
  have F : FRx ⟨genv, hideAll s.heap (lg.map (·.1)), X, InLg lg⟩ ⟨names.zip as, lg⟩ X h₁ := by
    refine ⟨m, cm, ⟨hk, fun b o e => keep b o (of_hideAll _ e), ns, fun x c q1 q2 => ⟨(cell x c q1 q2).1, none0 (cell x c q1 q2).2⟩, inj, has, none0 fr, xok.ext keep, fun p z => .inl z, fun p z => z, fun p z => ?_, fun p z => ?_, fun p z => ?_⟩, fun y b q => ?_, fun y z ys zs v q1 => ?_, fun y ys p q1 => ?_, fun p hp => ⟨keep _ _ (hlg p hp).1, (hlg p hp).2, hid ⟨p, hp, rfl⟩⟩⟩
    · by_cases zz : InLg lg p
      · exact .inr zz
      · obtain ⟨o, q⟩ := Option.isSome_iff_exists.mp (xok p z)
        exact .inl (by rw [nhid q zz]; rfl)
    · have z' := xok p z
      rintro (rfl | ⟨y, z1, z2⟩)
      · rw [show s.heap.get? genv.locals = none from fr] at z'; cases z'
      · rw [(cell y p z1 z2).2] at z'; cases z'
    · obtain ⟨q, h1, rfl⟩ := z; exact (hlg q h1).2
    · obtain ⟨v, v1, v2⟩ := zip_lookup rs hlen q
      obtain ⟨r1, r2⟩ := rd y v v1
      exact ⟨v, r1, v2.ext keep, r2⟩
    · have := (List.of_mem_zip (mem_of_lookup q1)).2
      exact absurd rfl (na _ this ys)
    · have := (List.of_mem_zip (mem_of_lookup q1)).2
      exact absurd rfl (na _ this ys)
  refine wpAny_mono (hex A R _ X F _) (fun fl s₂ z => ?_) fun _ _ z => z
  have fresh : ∀ p : Addr, (hideAll s.heap (lg.map (·.1))).get? p = none → InLg lg p ∨ s.heap.get? p = none := fun p z => by
    cases q : s.heap.get? p with
    | none => exact .inr rfl
    | some o =>
      refine .inl ?_
      by_cases zz : InLg lg p
      · exact zz
      · rw [nhid q zz] at z; cases z
  obtain ⟨o, hΨ, z⟩ := z
  cases o with
  | brk _ => exact hΨ.elim
  | cont _ => exact hΨ.elim
  | next ρ' =>
    obtain ⟨rfl, ⟨h₂, tk₂, rfl⟩, kp, X', F', xn⟩ := z
    exact ⟨.none, rfl, _, _, hΨ, ⟨h₂, tk₂, rfl⟩, fun b o q z => F'.ext b o (nhid q z), fun p hp => let ⟨a, _, c⟩ := F'.led p hp; ⟨a, fresh _ c⟩, Rd.none, (fun _ z => nomatch z), fun p z => F'.xok p (F'.zx p z)⟩
  | ret c lg' =>
  obtain ⟨v, rfl, ⟨⟨h₂, tk₂, rfl⟩, kp, e, r, no, ld, zo⟩⟩ := z
  exact ⟨v, rfl, c, lg', hΨ, ⟨h₂, tk₂, rfl⟩, fun b o q z => e b o (nhid q z), fun p hp => ⟨(ld p hp).1, fresh _ (ld p hp).2⟩, r, no, zo⟩
theorem CallL.def_ {prog : Program} {w : World} {n : Nat} {h : Heap} {a : Addr} {o : Obj} {fd : FuncData} {body : List Stmt} {names : List Str} {as : List AV} {lg : List (Addr × Obj)} {Ψ : AV → List (Addr × Obj) → Prop} (ho : h.get? a = some o) (hdata : o.data = .func fd)
    (hlim : h.NoLimit) (hcd : h.CodeRec fd.code fd.qualname) (hbody : fd.body = .stmts body) (hclo : fd.closure = []) (hlen : names.length = as.length) (hnd : names.Nodup) (hpo : paramsOk fd names = true)
    (hco : cellsOk fd = true) (na : ∀ x ∈ as, ∀ xs, x ≠ .own xs) (hbind : ∀ vs : List Value, vs.length = as.length → bindArgs fd ⟨vs, []⟩ = pure (names.zip vs)) 
    (hex : ∀ X G, Called h X lg fd a G → Ex prog w n G ⟨names.zip as, lg⟩ body (RetP Ψ))
    (hcor : fd.scope.isCoroutine = false := by rfl) (hgen : fd.scope.isGenerator = false := by rfl) (hk : fd.scope.kind = .function := by rfl) : CallL prog w (n + 1) h (.ref a) as lg Ψ := fun A R s X x av xok hlg vs rs E => by
  have hvl : vs.length = as.length := rs.length
  refine (codeAny_call_cells (fd := fd) (body := body) (binds := names.zip vs) R.lt (x _ _ ho) hdata (hlim.keeps x) ?_ hbody (hbind vs hvl) hclo (fun y hy => ?_) (fun s₁ I => ?_) hcor hgen hk)
  · obtain ⟨c, oc, fs, t, h1, h2, h3, h4⟩ := hcd
    exact ⟨c, oc, fs, t, h1, x _ _ h2, h3, h4⟩
  · have hm : y.1 ∈ names := (List.of_mem_zip hy).1
    have := List.all_eq_true.mp hpo _ hm
    simp only [Bool.and_eq_true, Bool.or_eq_true, beq_iff_eq] at this
    rcases this.1 with q | q
    · exact .inl q
    · exact .inr ⟨q.1, by rw [cellsFrom_lookup fd.scope.names _ 0 [] [] rfl]; exact q.2⟩
  · obtain ⟨⟨⟨h₁, tk₁, rfl⟩, hns, hkeep, hfresh⟩, hcell, hap, hab⟩ := I
    have kindE : ∀ y, (callEnvC fd s.heap.objs.size a).kindOf y = fd.scope.names.lookup y := fun y => rfl
    refine wpAny_mono (callL_start (G := ⟨callEnvC fd s.heap.objs.size a, hideAll s.heap (lg.map (·.1)), X, InLg lg⟩) (m := _) (cm := _) rfl (R.deeper _) xok hlg rs hlen na hk ⟨h₁, tk₁, rfl⟩ hkeep hns (get_size_none _) (fun y c q1 q2 => ⟨hcell y c q2, ?_⟩)
      (fun y z c q1 q2 q3 q4 => name_of_addr hap (mem_of_lookup q3) (mem_of_lookup q4)) (fun y q => ?_) (fun y v v1 => ?_) (hex X _ ⟨⟨_, rfl⟩, fun b o e => hideAll_get _ (x b o e) fun z => ?_, rfl, av⟩)) (fun fl s₂ z => ?_) fun _ _ z => z
    · have := hab y c (mem_of_lookup q2)
      exact Heap.get?_none_of_le (Nat.le_of_lt this)
    · have q : fd.scope.names.lookup y = some .cell := q
      obtain ⟨k, hkk⟩ : ∃ k, (y, k) ∈ fd.scope.names := ⟨_, mem_of_lookup q⟩
      have := List.all_eq_true.mp hco _ hkk
      simp only [Bool.or_eq_true, bne_iff_ne, ne_eq] at this
      rcases this with z | z
      · exact absurd q z
      · show ((cellsFrom (s.heap.objs.size + 1) fd.scope.names []).lookup y).isSome = true
        rw [cellsFrom_lookup fd.scope.names _ 0 [] [] rfl]; exact z
    · have hm : y ∈ names := (List.of_mem_zip (mem_of_lookup v1)).1
      have hp := List.all_eq_true.mp hpo _ hm
      simp only [Bool.and_eq_true, Bool.or_eq_true, beq_iff_eq, Bool.not_eq_true'] at hp
      refine ⟨?_, hp.2⟩
      unfold Ga.rd
      rw [kindE]
      rcases hp.1 with z | z
      · rw [z]; exact bindL_at _ z names vs _ hnd v1
      · rw [z.1]; exact bindC_at _ z.1 names vs _ hnd v1
    · obtain ⟨q, h1, h2⟩ := List.mem_map.mp z
      rw [← h2, av _ (hlg q h1).2] at e; cases e
    · obtain ⟨v, rfl, z⟩ := z; exact z
theorem CallR.def_ {prog : Program} {w : World} {n : Nat} {X : Addr → Prop} {h : Heap} {a : Addr} {o : Obj} {fd : FuncData} {body : List Stmt} {names : List Str} {as : List AV} {d : AV} (av : Av X h) (ho : h.get? a = some o) (hdata : o.data = .func fd)
    (hlim : h.NoLimit) (hcd : h.CodeRec fd.code fd.qualname) (hbody : fd.body = .stmts body) (hclo : fd.closure = []) (hlen : names.length = as.length) (hnd : names.Nodup) (hpo : paramsOk fd names = true)
    (hco : cellsOk fd = true) (na : ∀ x ∈ as, ∀ xs, x ≠ .own xs) (hbind : ∀ vs : List Value, vs.length = as.length → bindArgs fd ⟨vs, []⟩ = pure (names.zip vs))
    (hex : ∀ X G, Called h X [] fd a G → Ex prog w n G ⟨names.zip as, []⟩ body (fun o => o = .ret d []))
    (hcor : fd.scope.isCoroutine = false := by rfl) (hgen : fd.scope.isGenerator = false := by rfl) (hk : fd.scope.kind = .function := by rfl) : CallR prog w (n + 1) X h (.ref a) as d :=
  CallR.of av (CallL.def_ ho hdata hlim hcd hbody hclo hlen hnd hpo hco na hbind (fun X G C => (hex X G C).mono fun o e => by subst e; exact ⟨rfl, rfl⟩) hcor hgen hk)
def closEnv (fd : FuncData) (L a : Addr) : Env := newEnv fd.scope L fd.globals fd.closure (fd.qualname ++ ".<locals>.") (some a) fd.code none fd.builtins
structure CalledC (h : Heap) (X : Addr → Prop) (lg : List (Addr × Obj)) (fd : FuncData) (a : Addr) (G : Ga) : Prop where
  env : ∃ L, G.env = closEnv fd L a
  ext : Ext h G.h₀
  y : G.Y = X
  av : Av X h
theorem zip_fst_sub : ∀ (names : List Str) (vs : List Value), ((names.zip vs).map (·.1)).Sublist names
  | [], _ => by simp
  | n :: ns, [] => by simp
  | n :: ns, v :: vs => by
    rw [List.zip_cons_cons, List.map_cons]
    exact (zip_fst_sub ns vs).cons_cons n
theorem zip_rev_lookup {names : List Str} (hnd : names.Nodup) : ∀ {vs : List Value} {x : Str} {v : Value}, (names.zip vs).lookup x = some v → (names.zip vs).reverse.lookup x = some v := by
  intro vs x v h
  have key : ∀ (l : List (Str × Value)), (l.map (·.1)).Nodup → l.lookup x = some v → l.reverse.lookup x = some v := by
    intro l
    induction l with
    | nil => intro _ h; simp at h
    | cons p r ih =>
      intro hn h
      obtain ⟨y, u⟩ := p
      obtain ⟨h1, h2⟩ := List.nodup_cons.mp hn
      rw [List.reverse_cons, List.lookup_append]
      rw [List.lookup_cons] at h
      cases hx : x == y with
      | true =>
        rw [hx] at h; cases h
        have e : x = y := by simpa using hx
        subst e
        have : r.reverse.lookup x = none := by
          rw [List.lookup_eq_none_iff]
          intro q hq
          have : q.1 ≠ x := fun z => h1 (List.mem_map.mpr ⟨q, List.mem_reverse.mp hq, z⟩)
          simpa using Ne.symm this
        rw [this]; simp
      | false =>
        rw [hx] at h
        rw [ih h2 h]; rfl
  refine key _ ?_ h
  exact (zip_fst_sub names vs).nodup hnd
theorem CallL.clo_ {prog : Program} {w : World} {n : Nat} {h : Heap} {a : Addr} {o : Obj} {fd : FuncData} {body : List Stmt} {names : List Str} {as : List AV} {lg : List (Addr × Obj)} {Ψ : AV → List (Addr × Obj) → Prop} (ho : (a, o) ∈ lg) (hdata : o.data = .func fd)
    (hlim : h.NoLimit) (hcd : ∀ hh : Heap, (∀ p ∈ lg, hh.get? p.1 = some p.2) → hh.CodeRec fd.code fd.qualname) (hbody : fd.body = .stmts body) (hlen : names.length = as.length) (hnd : names.Nodup) (hpo : (names.all fun x => fd.scope.names.lookup x == some .local && !(x == ("__debug__" : Str))) = true)
    (hco : ∀ x ∈ fd.scope.names, x.2 ≠ .cell) (na : ∀ x ∈ as, ∀ xs, x ≠ .own xs) (hbind : ∀ vs : List Value, vs.length = as.length → bindArgs fd ⟨vs, []⟩ = pure (names.zip vs)) 
    (hex : ∀ X G, CalledC h X lg fd a G → Ex prog w n G ⟨names.zip as, lg⟩ body (RetP Ψ))
    (hcor : fd.scope.isCoroutine = false := by rfl) (hgen : fd.scope.isGenerator = false := by rfl) (hk : fd.scope.kind = .function := by rfl) : CallL prog w (n + 1) h (.ref a) as lg Ψ := fun A R s X x av xok hlg vs rs E => by
  have hvl : vs.length = as.length := rs.length
  have locs : ∀ x ∈ names, fd.scope.names.lookup x = some .local ∧ (x == ("__debug__" : Str)) = false := fun x hx => by
    have := List.all_eq_true.mp hpo _ hx
    simpa using this
  refine (codeAny_call_function R.lt (hlg _ ho).1 hdata hcor hgen hbody (hcd _ fun p hp => (hlg p hp).1) ?_)
  rw [hbind vs hvl]
  refine wpAny_pure (wpAny_newFunctionEnv hco (fun y hy => (locs _ (List.of_mem_zip hy).1).1) (fun h₁ hns hsb => ?_) hk)
  have keep : Ext s.heap h₁ := fun b o e => hsb.extBut b o (Nat.ne_of_lt (Heap.lt_size e)) (Heap.get?_push_of_some _ e)
  refine ⟨(hlim.keeps x).keeps keep, codeAny_func ?_⟩
  have noC : ∀ y, fd.scope.names.lookup y ≠ some .cell := fun y z => hco _ (mem_of_lookup z) rfl
  refine wpAny_mono (callL_start (s := s) (s₁ := { s with heap := h₁, toks := s.toks + (names.zip vs).length }) (G := ⟨closEnv fd s.heap.objs.size a, hideAll s.heap (lg.map (·.1)), X, InLg lg⟩) (m := _) (cm := fun _ => none) rfl (R.deeper _) xok hlg rs hlen na hk ⟨h₁, _, rfl⟩ keep hns (get_size_none _) (fun y c q1 q2 => absurd q1 (noC y))
      (fun y z c q1 => absurd q1 (noC y)) (fun y q => absurd q (noC y)) (fun y v v1 => ?_) (hex X _ ⟨⟨_, rfl⟩, fun b o e => hideAll_get _ (x b o e) fun z => ?_, rfl, av⟩)) (fun fl s₂ z => ?_) fun _ _ z => z
  · obtain ⟨l1, l2⟩ := locs y (List.of_mem_zip (mem_of_lookup v1)).1
    refine ⟨?_, l2⟩
    unfold Ga.rd
    rw [show (closEnv fd s.heap.objs.size a).kindOf y = some .local from l1]
    exact zip_rev_lookup hnd v1
  · obtain ⟨q, h1, h2⟩ := List.mem_map.mp z
    rw [← h2, av _ (hlg q h1).2] at e; cases e
  · obtain ⟨v, rfl, z⟩ := z; exact z
end Mine
end

section
open PySem PySem.W PyProof.Rows PySem.Calls
set_option Elab.async false
set_option linter.unusedVariables false
namespace Mine
section
variable {prog : Program} {w : World} {n : Nat} {G : Ga} {ρ : Loc}

theorem interactive_of {env : Env} (hk : env.scope.kind = .function) : interactive env = false := by
  unfold interactive; rw [hk]; rfl
theorem FRx.kind {X : Addr → Prop} {h : Heap} (F : FRx G ρ X h) : G.env.scope.kind = .function := let ⟨_, _, f, _⟩ := F.ex; f.kind
theorem Ex1.append {x : Str} {e : Expr} {p₁ p₂ p₃ p₄ : Pos} {pl : Sem Bool} {xs : List PyData} {d : PyData} {Φ : Out → Prop} (hx : ρ.get x = some (.own xs)) (p : Ev prog w n G ρ e (.d d)) (q : Φ (.next (ρ.set x (.own (xs ++ [d])))))
    (hz : xs.length ≤ sizeLine) (hst : NoStar [e] = true := by rfl)
    (he : eval (.Call (.Attribute (.Name x p₁) "append" p₂) [e] [] p₃) G.env = (do
          let ov ← eval (.Name x p₁) G.env
          standAt p₂.atName
          let (f, first) ← holding [ov] (getMethod ov "append" pl)
          callWith p₃ f first (backTo p₃ (starEach [e] G.env)) []) := by rfl) : Ex1 prog w n G ρ (.Expr (.Call (.Attribute (.Name x p₁) "append" p₂) [e] [] p₃) p₄) Φ := fun A R s X F E => by
  refine wpAny_Expr_any ?_ (interactive_of F.kind) (by rfl)
  obtain ⟨m, cm, f, l, u, u0, ld⟩ := F.ex
  obtain ⟨v, rv, vr, hd⟩ := l x _ hx
  have nm : NameIs prog w G.env s.heap x v := by
    have rv' := rv
    unfold Ga.rd at rv'
    split at rv'
    · rename_i hk; exact .local f.kind hk f.ns rv' hd
    · rename_i hk
      obtain ⟨c, hc⟩ := Option.isSome_iff_exists.mp (f.has x hk)
      exact .cell f.kind hk hc (rv' ▸ (f.cell x c hk hc).1) hd
    · cases rv'
  refine MethodCall_ (pl := pl) (nm _ A s (Ext.refl _) _ E ?_) he
  have vr' := vr
  obtain ⟨a, vs, rfl, hXa, ⟨k, h3⟩, h4⟩ := vr
  refine getMethod_list_of slot_list_append rfl ⟨_, h3, rfl, _, rfl⟩ ⟨_, h3, rfl⟩ ?_
  have ps : PuS prog w n X G.env s.heap [e] [.d d] := .cons (p X _ F) .nil (starEach_cons (env := G.env) hst).1
  refine callWith_of (P := fun _ => True) (by rw [noStar_any hst]; rfl) (fun h' _ => ⟨.machine, .inr (.inl rfl), Looks.of_pure rfl⟩) (evalArgs_of hst (wpAny_mono (ps p₃ A R s (Ext.refl _) E) (fun us s₁ z => ⟨trivial, ?_⟩) fun _ _ z => z))
  obtain ⟨z, r1⟩ := z
  cases r1 with
  | cons r1 r2 =>
    cases r2
    rename_i y
    have e₁ := Kp.ext z
    have hsz : vs.size ≤ sizeLine := by have := h4.length; simp at this; omega
    refine wpAny_list_append_plain (l := a) (items := vs) ⟨k, e₁ _ _ h3⟩ (fun h' hl hs => ?_) hsz
    have r1' : Rd X s₁.heap y d := r1
    have ha : s₁.heap.get? a = some { cls := .type "list", data := .seq vs k } := e₁ _ _ h3
    -- data outside X and the other own lists stand
    have mv : Mv X X s₁.heap h' := ⟨fun b o q _ _ _ nx => (hs.2 b fun z => nx (z ▸ hXa)).trans q, fun _ _ _ z => z⟩
    have F₁ := F.mono e₁
    refine ⟨_, q, rfl, Goes.kp z ⟨⟨h', s₁.toks, rfl⟩, fun b o q _ c => (hs.2 b fun z => c (z ▸ hXa)).trans q, X, ?_, XNew.refl⟩⟩
    obtain ⟨n', hl'⟩ := hl
    have na : ¬ G.own a := f.xo a hXa
    have kp : ∀ b o, b ≠ a → s.heap.get? b = some o → h'.get? b = some o := fun b o nb q => (hs.2 b nb).trans (e₁ b o q)
    refine ⟨m, cm, ⟨f.kind, fun b o q => ?_, f.ns.at' fun o q => kp _ o (fun z => na (.inl z.symm)) q, fun y c q1 q2 => ⟨?_, (f.cell y c q1 q2).2⟩, f.inj, f.has, f.fresh, ?_, f.xy, f.yx, f.y0, f.xo, f.zx⟩, fun y b q => ?_, fun y z ys zs v q1 q2 q3 q4 => ?_, fun y ys p q1 q2 => ?_, fun q hq => let ⟨l1, l2, l3⟩ := ld q hq; ⟨kp _ _ (fun z => (u0 x _ _ hx rv).2.2 q hq z) l1, l2, l3⟩⟩
    · exact kp b o (fun z => by rw [z, (u0 x _ _ hx rv).1] at q; cases q) (f.ext b o q)
    · obtain ⟨oc, c1, c2⟩ := (f.cell y c q1 q2).1
      exact ⟨oc, kp c oc (fun z => na (.inr ⟨y, q1, z ▸ q2⟩)) c1, c2⟩
    · intro b zb
      by_cases e' : b = a
      · rw [e', hl']; rfl
      · obtain ⟨o, q⟩ := Option.isSome_iff_exists.mp (f.xok b zb)
        rw [kp b o e' q]; rfl
    · rw [Loc.get_set] at q
      by_cases yx : y = x
      · rw [if_pos yx] at q; cases q
        subst yx
        refine ⟨_, rv, ⟨a, _, rfl, hXa, ⟨n', hl'⟩, ?_⟩, hd⟩
        rw [Array.toList_push]
        exact ((h4.ext e₁).mv mv).append (.cons (r1'.mv mv) .nil)
      · rw [if_neg yx] at q
        obtain ⟨v, b1, b2, b3⟩ := l y b q
        refine ⟨v, b1, ?_, b3⟩
        cases b with
        | d t => exact Rd.mv mv (Rd.ext e₁ b2)
        | own ts =>
          obtain ⟨c, us, d1, d2, d3, d4⟩ := b2
          have nc : c ≠ a := fun z => yx (u y x _ _ (.ref a) q hx (by rw [b1, d1, z]) rv)
          exact ⟨c, us, d1, d2, d3.at fun o z => kp c o nc z, (d4.ext e₁).mv mv⟩
        | arr ts =>
          obtain ⟨c, us, d1, d2, d3, d4⟩ := b2
          exact ⟨c, us, d1, d2, d3.at fun o z => kp c o (fun z => d2 (z ▸ hXa)) z, (d4.ext e₁).mv mv⟩
        | v t => exact b2
    · rw [Loc.get_set] at q1 q2
      have g : ∀ y ys, (if y = x then some (AV.own (xs ++ [d])) else ρ.get y) = some (.own ys) → ∃ ts, ρ.get y = some (.own ts) := fun y ys e => by
        by_cases yx : y = x
        · exact ⟨xs, yx ▸ hx⟩
        · rw [if_neg yx] at e; exact ⟨ys, e⟩
      obtain ⟨t1, e1⟩ := g y _ q1
      obtain ⟨t2, e2⟩ := g z _ q2
      exact u y z _ _ _ e1 e2 q3 q4
    · rw [Loc.get_set] at q1
      by_cases yx : y = x
      · exact u0 y xs p (yx ▸ hx) q2
      · rw [if_neg yx] at q1; exact u0 y _ _ q1 q2

def Inp (prog : Program) (w : World) (n : Nat) (X : Addr → Prop) (op : Operator) (a b c : AV) : Prop :=
  ∀ A, Rm n A → ∀ s va vb, XOk X s.heap → VR X s.heap va a → VR X s.heap vb b → ∀ E, wpAny (model prog w) A (inplaceOp op va vb) (fun v s' => Kp s s' ∧ VR X s'.heap v c) E s
theorem Ex1.aug {x : Str} {op : Operator} {e : Expr} {p₁ p₂ : Pos} {a b c : AV} {Φ : Out → Prop} (hs : G.sto x = true) (hx : ρ.get x = some a) (p : Ev prog w n G ρ e b) (o : ∀ X, Inp prog w n X op a b c) (nc : ∀ xs, c ≠ .own xs) (q : Φ (.next (ρ.set x c))) :
    Ex1 prog w n G ρ (.AugAssign (.Name x p₁) op e p₂) Φ := fun A R s X F E => by
  obtain ⟨m, cm, f, l, u, u0⟩ := F.ex
  obtain ⟨v, rv, vr, hd⟩ := l x _ hx
  have ld : ∀ (Q : Value → Shared → Prop), Q v s → wpAny (model prog w) A (loadName G.env x) Q E s := by
    intro Q q
    unfold Ga.rd at rv
    split at rv
    · rename_i hk; exact wpAny_loadName_local f.kind hk f.ns rv q
    · rename_i hk
      obtain ⟨c, hc⟩ := Option.isSome_iff_exists.mp (f.has x hk)
      exact wpAny_loadName_cell f.kind hk hc (rv ▸ (f.cell x c hk hc).1) q
    · cases rv
  refine wpAny_AugAssign_Name (ld _ ((p X _ F).go R (Ext.refl _) fun v₁ s₁ k₁ x₁ r₁ => ?_))
  refine wpAny_mono (o X A R s₁ v v₁ (F.xok.ext x₁) (vr.ext x₁) r₁ E) (fun v₂ s₂ z => ?_) fun _ _ z => z
  exact storeName_fr (F.mono (x₁.trans (Kp.ext z.1))) (Ga.sto_or hs).1 (Ga.sto_or hs).2 z.2 nc fun h' tk k F' => ⟨_, q, rfl, ((Goes.of k.k F').kp z.1).kp k₁⟩
theorem Ex1.brk {pos : Pos} {Φ : Out → Prop} (q : Φ (.brk ρ)) : Ex1 prog w n G ρ (.Break pos) Φ := fun A R s X F E =>
  wpAny_bind (wpAny_standAt (wpAny_pure ⟨_, q, rfl, ⟨s.heap, s.toks, rfl⟩, Kept.refl, X, F, XNew.refl⟩))
theorem Ex1.cont {pos : Pos} {Φ : Out → Prop} (q : Φ (.cont ρ)) : Ex1 prog w n G ρ (.Continue pos) Φ := fun A R s X F E =>
  wpAny_bind (wpAny_standAt (wpAny_pure ⟨_, q, rfl, ⟨s.heap, s.toks, rfl⟩, Kept.refl, X, F, XNew.refl⟩))
end
end Mine
end

section
open PySem PySem.W PyProof.Rows PySem.Calls
set_option Elab.async false
set_option linter.unusedVariables false
namespace Mine
section
variable {prog : Program} {w : World} {n : Nat} {X : Addr → Prop} {env : Env} {h : Heap} {target : Expr}

theorem ItP.tuple {e : Expr} {ds : List PyData} (p : Pu prog w n X env h e (.d (.tuple ds))) (strict : Prop) : ItP prog w n X env h target e strict ds := fun A R s x Q E k => by
  refine p.go R x fun v s₁ k₁ x₁ r₁ => ?_
  cases r₁ with
  | tuple h1 h2 h3 h5 h6 =>
    rename_i a o vs m
    have hl : s₁.heap.IsTuple a vs := ⟨o, h1, h2, m, h3⟩
    have ea : Ext s₁.heap (s₁.heap.push { cls := .type "tuple_iterator", data := .fields #[.ref a, .int 0 0] }) := Ext.push _ _
    refine iter_tuple hl ?_
    have hlen : vs.size = ds.length := by rw [← h6.length]; simp
    have W := Walks.tuple (prog := prog) (w := w) R.handled s₁.heap.objs.size a (Nat.ne_of_lt (Heap.lt_size h1)) vs
    rw [hlen] at W
    refine k _ _ _ _ _ (k₁.trans (Kp.of s₁ ea)) (Wk.of W (fun i v d p q => ?_) rfl fun i h st => ?_) ⟨⟨_, Heap.get?_push_size _ rfl, rfl, rfl⟩, ⟨o, ea _ _ h1, h2, m, h3⟩⟩ ?_ ?_
    · obtain ⟨d', q', r'⟩ := h6.getV (i := i) (v := v) (by simpa using p)
      rw [q] at q'; cases q'; exact r'.ext ea
    · obtain ⟨⟨o, a1, a2, a3⟩, _⟩ := st
      exact ⟨o, _, _, a1, a2, a3, by decide⟩
    · intro b hb
      rcases List.mem_cons.mp hb with rfl | hb
      · exact ⟨by rw [Heap.get?_push_size _ rfl]; rfl, .inl (none_of_ext (Kp.ext k₁) (get_size_none _))⟩
      · cases List.mem_singleton.mp hb
        refine ⟨by rw [ea _ _ h1]; rfl, ?_⟩
        cases z : s.heap.get? a with
        | none => exact .inl rfl
        | some o' =>
          have := (Kp.ext k₁) _ _ z
          rw [h1] at this; cases this
          exact .inr ⟨fun _ => h5, o, vs, m, rfl, h3⟩
    · intro b hb
      cases List.mem_singleton.mp hb
      exact none_of_ext (Kp.ext k₁) (get_size_none _)
theorem ItP.lst {e : Expr} {a : AV} {ds : List PyData} (p : Pu prog w n X env h e a) (ha : a.lst? = some ds) : ItP prog w n X env h target e False ds := fun A R s x Q E k => by
  refine p.go R x fun v s₁ k₁ x₁ r₁ => ?_
  obtain ⟨a, rfl, vs, hl, h6⟩ := r₁.lst ha
  have ea : Ext s₁.heap (s₁.heap.push { cls := .type "list_iterator", data := .fields #[.ref a, .int 0 0] }) := Ext.push _ _
  have hl' := hl
  obtain ⟨o, h1, h2, m, h3⟩ := hl
  refine wpAny_pyIter_list hl' ?_
  have hlen : vs.size = ds.length := by rw [← h6.length]; simp
  have W := Walks.list (prog := prog) (w := w) R.handled s₁.heap.objs.size a (Nat.ne_of_lt (Heap.lt_size h1)) vs
  rw [hlen] at W
  refine k _ _ _ _ _ (k₁.trans (Kp.of s₁ ea)) (Wk.of W (fun i v d p q => ?_) rfl fun i h st => ?_) ⟨⟨_, Heap.get?_push_size _ rfl, rfl, rfl⟩, IsList.ext ea hl'⟩ ?_ ?_
  · obtain ⟨d', q', r'⟩ := h6.getV (i := i) (v := v) (by simpa using p)
    rw [q] at q'; cases q'; exact r'.ext ea
  · obtain ⟨⟨o, a1, a2, a3⟩, _⟩ := st
    exact ⟨o, _, _, a1, a2, a3, by decide⟩
  · intro b hb
    rcases List.mem_cons.mp hb with rfl | hb
    · exact ⟨by rw [Heap.get?_push_size _ rfl]; rfl, .inl (none_of_ext (Kp.ext k₁) (get_size_none _))⟩
    · cases List.mem_singleton.mp hb
      refine ⟨by rw [ea _ _ h1]; rfl, ?_⟩
      cases z : s.heap.get? a with
      | none => exact .inl rfl
      | some o' =>
        have := (Kp.ext k₁) _ _ z
        rw [h1] at this; cases this
        exact .inr ⟨fun f => f.elim, o, vs, m, rfl, h3⟩
  · intro b hb
    cases List.mem_singleton.mp hb
    exact none_of_ext (Kp.ext k₁) (get_size_none _)
def signs (x : Str) : List PyData := x.cps.toList.map fun c => .str ⟨#[c]⟩
theorem ItP.str {e : Expr} {x : Str} (p : Pu prog w n X env h e (.d (.str x))) (strict : Prop) : ItP prog w n X env h target e strict (signs x) := fun A R s y Q E k => by
  refine p.go R y fun v s₁ k₁ x₁ r₁ => ?_
  cases r₁ with
  | str x t =>
    have fin : ∀ (o : Obj) (nm : String) (fs : Nat → Array Value) (St : Nat → Heap → Prop), (∀ i h, St i h → ∃ o, h.get? s₁.heap.objs.size = some o ∧ o.cls = .type nm ∧ o.data = .fields (fs i)) → owners.contains nm = false → o.isFreed = false →
        Walks prog w A s₁.heap.objs.size [s₁.heap.objs.size] [s₁.heap.objs.size] x.cps.size (SignAt x) St → St 0 (s₁.heap.push o) → Q (.ref s₁.heap.objs.size) { s₁ with heap := s₁.heap.push o } := by
      intro o nm fs St hSt hn hf W st
      have hlen : x.cps.size = (signs x).length := by simp [signs]
      rw [hlen] at W
      refine k _ _ _ _ _ (k₁.trans (Kp.of s₁ (Ext.push _ _))) (Wk.of W (fun i v d p q => ?_) rfl fun i h st => ?_) st ?_ ?_
      · obtain ⟨c, u, c1, rfl⟩ := p
        have : d = .str ⟨#[c]⟩ := by
          unfold signs at q
          rw [List.getElem?_map] at q
          simp [c1] at q
          exact q.symm
        rw [this]; exact .str _ _
      · obtain ⟨o, a1, a2, a3⟩ := hSt i h st
        exact ⟨o, _, _, a1, a2, a3, hn⟩
      · intro b hb
        cases List.mem_singleton.mp hb
        exact ⟨by rw [Heap.get?_push_size _ hf]; rfl, .inl (none_of_ext (Kp.ext k₁) (get_size_none _))⟩
      · intro b hb
        cases List.mem_singleton.mp hb
        exact none_of_ext (Kp.ext k₁) (get_size_none _)
    cases ha : x.cps.all (· < 128)
    · exact wpAny_pyIter_wide ha (fin _ "str_iterator" (fun i => #[.str x t, .int i 0]) _ (fun i h st => st) (by decide) rfl (Walks.strWide R.handled _ x t) ⟨_, Heap.get?_push_size _ rfl, rfl, rfl⟩)
    · exact wpAny_pyIter_ascii ha (fin _ "str_ascii_iterator" (fun i => #[.str x t, .int i 0]) _ (fun i h st => st) (by decide) rfl (Walks.strAscii R.handled _ x t) ⟨_, Heap.get?_push_size _ rfl, rfl, rfl⟩)
def upto (k : Nat) : List PyData := (List.range k).map fun i => .int (i : Nat)
theorem small_range (k : Nat) (hk : k < 2 ^ 62) : Builtin.Range.small 0 (k : Int) 1 = true ∧ Builtin.Range.rangeSize 0 (k : Int) 1 = k := by
  have e : Builtin.Range.rangeSize 0 (k : Int) 1 = k := by
    unfold Builtin.Range.rangeSize
    rw [if_pos (by decide)]
    split <;> omega
  refine ⟨?_, e⟩
  unfold Builtin.Range.small
  rw [e]
  have f : ∀ i : Int, 0 ≤ i → i < 2 ^ 63 → Builtin.Range.rangeFitsLong i = true := fun i a b => by
    unfold Builtin.Range.rangeFitsLong
    simp only [Bool.and_eq_true, decide_eq_true_eq]
    omega
  rw [f 0 (by decide) (by decide), f k (by omega) (by omega), f 1 (by decide) (by decide), if_pos (by decide), f _ (by omega) (by omega)]
  simp
theorem ItP.range {fe e : Expr} {pos : Pos} {i : Int} {k : Nat} (hX : XOk X h) (f : Pu prog w n X env h fe (.v (.type "range"))) (p : Pu prog w n X env h e (.d (.int i))) (hi : i = k) (hk : k < 2 ^ 62) (strict : Prop) (hst : NoStar [e] = true := by rfl)
    (he : eval (.Call fe [e] [] pos) env = (do callWith pos (← eval fe env) [] (backTo pos (starEach [e] env)) (backToKw pos (keywordEach [] env))) := by rfl) : ItP prog w n X env h target (.Call fe [e] [] pos) strict (upto k) := fun A R s y Q E kk => by
  refine Call_ (f.go R y fun v s₁ k₁ x₁ r₁ => ?_) he
  cases r₁
  refine callWith_of (P := fun _ => True) (by rw [noStar_any hst]; rfl) (fun h' _ => ⟨.machine, .inr (.inl rfl), Looks.of_pure rfl⟩) (evalArgs_of hst (wpAny_mono ((PuS.cons p .nil (starEach_cons (env := env) hst).1) pos A R s₁ x₁ E) (fun us s₂ z => ⟨trivial, ?_⟩) fun _ _ z => z))
  obtain ⟨k₂, r⟩ := z
  cases r with
  | cons r r' =>
    cases r'
    cases r with
    | int i t =>
      subst hi
      refine call_range_1 ?_
      obtain ⟨s1, s2⟩ := small_range k hk
      refine wpAny_pyIter_range (a := 0) (b := (k : Int)) (c := 1) (Heap.get?_push_size _ rfl) s1 ?_
      rw [s2]
      have e3 := (Kp.ext (k₁.trans k₂))
      generalize hH : (s₂.heap.push { cls := .type "range", data := .fields #[.int 0 s₂.toks, .int k t, .int 1 (s₂.toks + 1)] }) = H
      have eH : Ext s₂.heap H := hH ▸ Ext.push _ _
      have W := Walks.range (prog := prog) (w := w) R.handled H.objs.size 0 1 k
      have hlen : k = (upto k).length := by simp [upto]
      rw [hlen] at W
      refine kk _ _ _ _ _ ((k₁.trans k₂).trans (Kp.of s₂ (eH.trans (Ext.push _ _)))) (Wk.of W (fun i v d p q => ?_) rfl fun i h st => ⟨_, _, _, st, rfl, rfl, by decide⟩) ?_ ?_ ?_
      · obtain ⟨u, rfl⟩ := p
        unfold upto at q
        rw [List.getElem?_map] at q
        have hlt : i < k := by
          rcases Nat.lt_or_ge i k with z | z
          · exact z
          · rw [List.getElem?_eq_none (by simpa using z)] at q; cases q
        rw [List.getElem?_range hlt] at q
        cases q
        have : (0 : Int) + (i : Int) * 1 = (i : Int) := by omega
        rw [this]; exact .int _ _
      · show (H.push _).get? H.objs.size = _
        rw [Heap.get?_push_size _ rfl, ← hlen]
        simp [rawInt]
      · intro b hb
        cases List.mem_singleton.mp hb
        exact ⟨by rw [Heap.get?_push_size _ rfl]; rfl, .inl (none_of_ext (e3.trans eH) (get_size_none _))⟩
      · intro b hb
        cases List.mem_singleton.mp hb
        exact none_of_ext (e3.trans eH) (get_size_none _)
end
end Mine
end

section
open PySem PySem.W PyProof.Rows PySem.Calls
open AutoSeq1 (wpAny_loadPart')
set_option Elab.async false
set_option linter.unusedVariables false
set_option maxRecDepth 100000
namespace Mine
section
variable {prog : Program} {w : World} {A : Around} {E : Value → Shared → Prop} {s : Shared}
theorem nextOf_tuple_item {it l : Addr} {i : Nat} {items : Array Value} {x : Value} {Q : Value → Shared → Prop} (hit : s.heap.IsTupleIter it l i) (hl : s.heap.IsTuple l items) (hx : items[i]? = some x)
    (hQ : ∀ h', h'.IsTupleIter it l (i + 1) → Heap.SameBut it s.heap h' → Q x { s with heap := h' }) : wpAny (model prog w) A (Builtin.SmallTypes.nextOf (.ref it)) Q E s := by
  obtain ⟨o, ho, hc, hd⟩ := id hit
  obtain ⟨ol, hol, _, nl, hdl⟩ := hl
  unfold Builtin.SmallTypes.nextOf
  refine wpAny_bind (wpAny_callSpecial?_slot (name := Str.ofString "__next__") hit.typeIs F.slot_tuple_iterator_next
    (wpAny_call_entry F.slot_tuple_iterator_next hit.typeIs F.entry_tuple_iterator_next ?_ (F.args_tuple_iterator_next_1 _)))
  show wpAny _ _ (field (.ref it) 0 >>= _) _ _ s
  refine wpAny_bind (wpAny_field ho hd (x := .ref l) rfl ?_)
  show wpAny _ _ (if (Value.ref l == Value.none) = true then _ else _) _ _ s
  rw [if_neg (show ¬ ((Value.ref l == Value.none) = true) from Bool.false_ne_true)]
  show wpAny _ _ (field (.ref it) 1 >>= _) _ _ s
  refine wpAny_bind (wpAny_field ho hd (x := .int i 0) rfl ?_)
  show wpAny _ _ (seqItems? (.ref l) >>= _) _ _ s
  refine wpAny_bind (wpAny_seqItems hol hdl ?_)
  simp only [Int.toNat_natCast, hx]
  refine wpAny_bind (wpAny_setField ho hd (by simp) (wpAny_pure ⟨x, rfl, wpAny_pure (hQ _ ?_ (Heap.SameBut.update ..))⟩))
  exact ⟨_, Heap.get?_update_self _ ho (Obj.isFreed_of_fields (Obj.data_mapFields hd _)), (Obj.cls_mapFields ..).trans hc, by
    rw [Obj.data_mapFields hd]; simp [rawInt]⟩
theorem nextOf_tuple_end {it l : Addr} {i : Nat} {items : Array Value} {Q : Value → Shared → Prop} (hh : A.handled = none) (hit : s.heap.IsTupleIter it l i) (hl : s.heap.IsTuple l items) (hx : items[i]? = none)
    (hE : ∀ h' e, Heap.ExtBut it s.heap h' → (∃ o, h'.get? e = some o ∧ o.cls = .type "StopIteration") → E (.ref e) { s with heap := h' }) : wpAny (model prog w) A (Builtin.SmallTypes.nextOf (.ref it)) Q E s := by
  obtain ⟨o, ho, hc, hd⟩ := id hit
  obtain ⟨ol, hol, _, nl, hdl⟩ := hl
  unfold Builtin.SmallTypes.nextOf
  refine wpAny_bind (wpAny_callSpecial?_slot (name := Str.ofString "__next__") hit.typeIs F.slot_tuple_iterator_next
    (wpAny_call_entry F.slot_tuple_iterator_next hit.typeIs F.entry_tuple_iterator_next ?_ (F.args_tuple_iterator_next_1 _)))
  show wpAny _ _ (field (.ref it) 0 >>= _) _ _ s
  refine wpAny_bind (wpAny_field ho hd (x := .ref l) rfl ?_)
  show wpAny _ _ (if (Value.ref l == Value.none) = true then _ else _) _ _ s
  rw [if_neg (show ¬ ((Value.ref l == Value.none) = true) from Bool.false_ne_true)]
  show wpAny _ _ (field (.ref it) 1 >>= _) _ _ s
  refine wpAny_bind (wpAny_field ho hd (x := .int i 0) rfl ?_)
  show wpAny _ _ (seqItems? (.ref l) >>= _) _ _ s
  refine wpAny_bind (wpAny_seqItems hol hdl ?_)
  simp only [Int.toNat_natCast, hx]
  refine wpAny_bind (wpAny_rule (wpAny_bind (wpAny_setField ho hd (by simp) ?_)))
  show wpAny _ _ (newExc (.type "StopIteration") [] >>= _) _ _ _
  refine wpAny_bind ?_
  simp only [newExc, newTuple]
  refine wpAny_bind (wpAny_newObj_type ?_ (by size_fits))
  refine wpAny_bind (m := firstArgMember _ _) (wpAny_of_eq (a := Value.none) (by first | rfl | (simp only [firstArgMember]; rfl)) ?_)
  refine wpAny_newObj_type ?_ (by size_fits)
  simp only [raiseNew]
  refine wpAny_bind (wpAny_handled ?_)
  first | rw [show A.in1.handled = none from hh] | rw [hh]
  refine wpAny_bind (wpAny_pure (wpAny_throw ?_))
  exact hE _ _ (((Heap.SameBut.update ..).extBut.push _).push _) ⟨_, Heap.get?_push_size _ rfl, rfl⟩
end
theorem drawsTuple {prog : Program} {w : World} {A : Around} (hh : A.handled = none) (it l : Addr) (hne : l ≠ it) (items : Array Value) :
    Draws prog w A it [it, l] items.size (fun i v => items[i]? = some v) (fun i h => h.IsTupleIter it l i ∧ h.IsTuple l items) where
  live := fun _ _ st => let ⟨o, ho, _⟩ := st.1; ⟨o, ho⟩
  frame := fun _ _ _ st hk => ⟨let ⟨o, h1, r⟩ := st.1; ⟨o, hk it (by simp) o h1, r⟩, let ⟨o, h1, r⟩ := st.2; ⟨o, hk l (by simp) o h1, r⟩⟩
  item := fun i s Q E hi st hQ => by
    refine nextOf_tuple_item st.1 st.2 (x := items[i]) (by simp [hi]) fun h' hit' hs' => ?_
    exact hQ _ h' s.toks (by simp [hi]) ⟨hit', st.2.extBut hs'.extBut hne⟩ hs'
  done := fun s Q E st hE => nextOf_tuple_end hh st.1 st.2 (by simp) hE
theorem meets_enumerate_newT (l : Addr) (items : Array Value) (n : Nat) (dct : Option Addr) (sl : Array (Option Value)) :
    Meets (Builtin.«enumerate.__new__» ⟨[.type "enumerate", .ref l], []⟩) (fun _ R s => s.heap.get? l = some { cls := .type "tuple", dict := dct, data := .seq items n, slots := sl } ∧
      R (.ok (.ret (.ref (s.heap.push { cls := .type "tuple_iterator", data := .fields #[.ref l, .int 0 0] }).objs.size)))
        { s with heap := (s.heap.push { cls := .type "tuple_iterator", data := .fields #[.ref l, .int 0 0] }).push { cls := .type "enumerate", data := .fields #[.none, .bool false, .ref s.heap.objs.size, rawInt 0, .none, .none] } }) :=
  .of_wp fun prog w A R s h => by
    obtain ⟨hp, g, d, tk, os⟩ := s; obtain ⟨hl, h⟩ := h
    have hsub := sub_enumerate
    have hL : Heap.IsTuple (Shared.heap ⟨hp, g, d, tk, os⟩) l items := ⟨_, hl, rfl, n, rfl⟩
    wp_walk using wpAny_loadPart' hl
    refine wpAny_stack_any fun st => wpAny_pure ?_
    split
    · rename_i c _ _ _ _ _
      cases (c == Value.type "enumerate")
      · wp_walk using wpAny_loadPart' hl, wpAny_pyIter_tuple hL
        exact ⟨_, rfl, h⟩
      · wp_walk using wpAny_loadPart' hl, wpAny_pyIter_tuple hL
        exact ⟨_, rfl, h⟩
    · wp_walk using wpAny_loadPart' hl, wpAny_pyIter_tuple hL
      exact ⟨_, rfl, h⟩
def numbered : Nat → List PyData → List PyData
  | _, [] => []
  | k, d :: ds => .tuple [.int (k : Nat), d] :: numbered (k + 1) ds
theorem numbered_get (ds : List PyData) : ∀ (k i : Nat) (d : PyData), (numbered k ds)[i]? = some d → ∃ e, ds[i]? = some e ∧ d = .tuple [.int ((k + i : Nat) : Int), e] := by
  induction ds with
  | nil => intro k i d h; simp [numbered] at h
  | cons x xs ih =>
    intro k i d h
    cases i with
    | zero => simp [numbered] at h; exact ⟨x, rfl, h.symm⟩
    | succ i =>
      simp [numbered] at h
      obtain ⟨e, h1, h2⟩ := ih (k + 1) i d h
      exact ⟨e, by simpa using h1, by rw [h2]; congr 4; omega⟩
theorem numbered_length (ds : List PyData) : ∀ k, (numbered k ds).length = ds.length := by
  induction ds with
  | nil => intro k; rfl
  | cons x xs ih => intro k; simp [numbered, ih]
section
variable {prog : Program} {w : World} {n : Nat} {X : Addr → Prop} {env : Env} {h : Heap}
theorem ItP.enum {elts : List Expr} {kk : Nat} {tp : Pos} {fe e : Expr} {pos : Pos} {ds : List PyData} (f : Pu prog w n X env h fe (.v (.type "enumerate"))) (p : Pu prog w n X env h e (.d (.tuple ds))) (strict : Prop) (hst : NoStar [e] = true := by rfl)
    (he : eval (.Call fe [e] [] pos) env = (do callWith pos (← eval fe env) [] (backTo pos (starEach [e] env)) (backToKw pos (keywordEach [] env))) := by rfl) : ItP prog w n X env h (.Tuple elts kk tp) (.Call fe [e] [] pos) strict (numbered 0 ds) := fun A R s y Q E kQ => by
  refine Call_ (f.go R y fun v s₁ k₁ x₁ r₁ => ?_) he
  cases r₁
  refine callWith_of (P := fun _ => True) (by rw [noStar_any hst]; rfl) (fun h' _ => ⟨.machine, .inr (.inl rfl), Looks.of_pure rfl⟩) (evalArgs_of hst (wpAny_mono ((PuS.cons p .nil (starEach_cons (env := env) hst).1) pos A R s₁ x₁ E) (fun us s₂ z => ⟨trivial, ?_⟩) fun _ _ z => z))
  obtain ⟨k₂, r⟩ := z
  cases r with
  | cons r r' =>
    cases r'
    cases r with
    | tuple h1 h2 h3 h5 h6 =>
      rename_i a o vs m
      have k12 := k₁.trans k₂
      obtain ⟨oc, od, dt, sl⟩ := o
      have h2' : oc = .type "tuple" := h2
      have h3' : dt = .seq vs m := h3
      subst h2' h3'
      refine callType_new F.called_enumerate (by decide) (F.typeCall_enumerate_1 _) (F.newCall_enumerate_1 _) (fun obj => F.args_object_init_2 obj _) F.entry_enumerate_new (meets_enumerate_newT a vs m od sl) ⟨h1, ?_⟩
      generalize hH1 : s₂.heap.push { cls := .type "tuple_iterator", data := .fields #[.ref a, .int 0 0] } = H1
      have e1 : Ext s₂.heap H1 := hH1 ▸ Ext.push _ _
      have g1 : H1.get? s₂.heap.objs.size = some { cls := .type "tuple_iterator", data := .fields #[.ref a, .int 0 0] } := hH1 ▸ Heap.get?_push_size _ rfl
      have n1 : H1.objs.size = s₂.heap.objs.size + 1 := by rw [← hH1, Heap.size_push]
      show _ ∧ _
      have ge : (H1.push { cls := .type "enumerate", data := .fields #[.none, .bool false, .ref s₂.heap.objs.size, rawInt 0, .none, .none] }).get? H1.objs.size = some { cls := .type "enumerate", data := .fields #[.none, .bool false, .ref s₂.heap.objs.size, rawInt 0, .none, .none] } := Heap.get?_push_size _ rfl
      refine ⟨⟨_, ge, rfl⟩, ?_⟩
      generalize hH2 : H1.push { cls := .type "enumerate", data := .fields #[.none, .bool false, .ref s₂.heap.objs.size, rawInt 0, .none, .none] } = H2 at ge
      have e2 : Ext H1 H2 := hH2 ▸ Ext.push _ _
      have g1' := e2 _ _ g1
      refine wpAny_pyIter_enum (e := H1.objs.size) (it := s₂.heap.objs.size) (i := 0) (old := .none) ge ?_
      have la : a < s₂.heap.objs.size := Heap.lt_size h1
      have D := drawsTuple (prog := prog) (w := w) (A := A.in1) R.handled s₂.heap.objs.size a (Nat.ne_of_lt la) vs
      have neI : H1.objs.size ≠ s₂.heap.objs.size := by rw [n1]; exact Nat.succ_ne_self _
      have neF : H1.objs.size ∉ [s₂.heap.objs.size, a] := fun z => by
        rcases List.mem_cons.mp z with z | z
        · exact neI z
        · have z' := List.mem_singleton.mp z
          rw [n1] at z'
          exact Nat.lt_irrefl _ (Nat.lt_trans (z' ▸ la) (Nat.lt_succ_self _))
      have W := WalksT.enumerateD D H1.objs.size neI neF (by simp)
      have hlen : vs.size = ds.length := by rw [← h6.length]; simp
      have ga := e2 _ _ (e1 _ _ h1)
      refine kQ H1.objs.size _ (H1.objs.size :: [s₂.heap.objs.size, a]) [H1.objs.size, s₂.heap.objs.size] _ (k12.trans (Kp.of s₂ (e1.trans e2)))
        ⟨W.sub, W.frame, fun i h st b hb ob q vs' k' dq => ?_, fun i h st b hb => ?_, fun i d s' X' Q' E' hd st hX hc kq => ?_, fun s' Q' E' st kq => ?_, W.self⟩ ⟨⟨_, ge⟩, ⟨_, g1', rfl, rfl⟩, ⟨_, ga, rfl, _, rfl⟩⟩ ?_ ?_
      · obtain ⟨⟨old, hE⟩, ⟨o1, q1, q2, q3⟩, _⟩ := st
        rcases List.mem_cons.mp hb with rfl | hb
        · rw [hE] at q; cases q; cases dq
        · cases List.mem_singleton.mp hb
          rw [q1] at q; cases q; rw [q3] at dq; cases dq
      · obtain ⟨⟨old, hE⟩, ⟨o1, q1, q2, q3⟩, _⟩ := st
        rcases List.mem_cons.mp hb with rfl | hb
        · exact ⟨_, hE⟩
        · cases List.mem_singleton.mp hb; exact ⟨_, q1⟩
      · obtain ⟨e', he1, he2⟩ := numbered_get ds 0 i d hd
        have hlt : i < vs.size := by
          rw [hlen]
          rcases Nat.lt_or_ge i ds.length with z | z
          · exact z
          · rw [List.getElem?_eq_none z] at he1; cases he1
        refine W.item i s' _ E' hlt st fun T vals h' tk hp hT hI hM hk => ?_
        refine W.go elts kk tp i T { s' with heap := h', toks := tk } _ E' hM fun h'' st'' hk'' => kq _ _ ⟨h'', tk, rfl⟩ st'' (fun b ob nb q => hk'' b ob nb (hk b ob nb q)) ?_
        obtain ⟨t, x, px, rfl⟩ := hp
        obtain ⟨oT, t1, t2, nT, t3⟩ := hI
        have tw : T ∉ [H1.objs.size, s₂.heap.objs.size] := W.apart i T h' hM
        obtain ⟨dx, dx1, dx2⟩ := h6.getV (i := i) (v := x) (by simpa using px)
        rw [he1] at dx1; cases dx1
        have rx : Rd X' s'.heap x e' := hc x e' (dx2.ext (e1.trans e2))
        have rx' : Rd X' h'' x e' := by
          obtain ⟨⟨old, hE⟩, ⟨o1, q1, q2, q3⟩, _⟩ := st
          refine rx.mv ⟨fun b ob q vs' k' dq nx => ?_, fun _ _ _ z => z⟩
          have nb : b ∉ [H1.objs.size, s₂.heap.objs.size] := fun hb => by
            rcases List.mem_cons.mp hb with rfl | hb
            · rw [hE] at q; cases q; cases dq
            · cases List.mem_singleton.mp hb
              rw [q1] at q; cases q; rw [q3] at dq; cases dq
          exact hk'' b ob nb (hk b ob nb q)
        rw [he2, Nat.zero_add]
        refine .tuple (hk'' T oT tw t1) t2 t3 (fun z => ?_) (.cons (.int _ _) (.cons rx' .nil))
        obtain ⟨o', q'⟩ := Option.isSome_iff_exists.mp (hX T z)
        exact absurd (Heap.lt_size q') (Nat.not_lt.mpr hT)
      · rw [numbered_length] at st
        rw [← hlen] at st
        exact W.done s' Q' E' st kq
      · intro b hb
        rcases List.mem_cons.mp hb with rfl | hb
        · exact ⟨by rw [ge]; rfl, .inl (none_of_ext ((Kp.ext k12).trans e1) (get_size_none _))⟩
        · rcases List.mem_cons.mp hb with rfl | hb
          · exact ⟨by rw [g1']; rfl, .inl (none_of_ext (Kp.ext k12) (get_size_none _))⟩
          · cases List.mem_singleton.mp hb
            refine ⟨by rw [ga]; rfl, ?_⟩
            cases z : s.heap.get? a with
            | none => exact .inl rfl
            | some o' =>
              have := (Kp.ext k12) _ _ z
              rw [h1] at this; cases this
              exact .inr ⟨fun _ => h5, _, vs, m, rfl, rfl⟩
      · intro b hb
        rcases List.mem_cons.mp hb with rfl | hb
        · exact none_of_ext ((Kp.ext k12).trans e1) (get_size_none _)
        · cases List.mem_singleton.mp hb
          exact none_of_ext (Kp.ext k12) (get_size_none _)
end
end Mine
end

section
open PySem PySem.W PyProof.Rows PySem.Calls
set_option Elab.async false
set_option linter.unusedVariables false
namespace Mine

def clGo (env : Env) : List (Str × NameKind) → List (Str × Addr) → List (Str × Addr)
  | [], cs => cs
  | x :: r, cs => clGo env r (if x.2 == .free then (x.1, (env.cells.lookup x.1).getD 0) :: cs else cs)
def clOf (scope : Scope) (env : Env) : List (Str × Addr) := clGo env scope.names []
theorem closureFor_clOf {scope : Scope} {env : Env} (h : ∀ x ∈ scope.names, x.2 = .free → (env.cells.lookup x.1).isSome = true) : closureFor scope env = pure (clOf scope env) := by
  unfold closureFor clOf
  generalize scope.names = names at h
  have key : ∀ (names : List (Str × NameKind)) (cs : List (Str × Addr)), (∀ x ∈ names, x.2 = .free → (env.cells.lookup x.1).isSome = true) →
      (forIn names cs fun x r => (do
        if x.2 == .free then
          let c ← cellOf env x.1
          pure (ForInStep.yield ((x.1, c) :: r))
        else pure (ForInStep.yield r) : Sem (ForInStep (List (Str × Addr))))) = pure (clGo env names cs) := by
    intro names
    induction names with
    | nil => intro cs _; rfl
    | cons x r ih =>
      intro cs hx
      rw [List.forIn_cons]
      obtain ⟨nm, kd⟩ := x
      cases hk : (kd == NameKind.free) with
      | true =>
        have := hx (nm, kd) (.head _) (by simpa using hk)
        obtain ⟨c, hc⟩ := Option.isSome_iff_exists.mp this
        have e : cellOf env nm = pure c := by unfold cellOf; rw [hc]
        simp only [hk, if_true, e, clGo, hc, Option.getD_some]
        exact ih _ fun y hy => hx y (.tail _ hy)
      | false =>
        simp only [hk, clGo, Bool.false_eq_true, if_false]
        exact ih _ fun y hy => hx y (.tail _ hy)
  have := key names [] h
  first
    | exact this
    | (simp only [bind_pure]; exact this)
theorem clGo_mem {env : Env} : ∀ (names : List (Str × NameKind)) (cs : List (Str × Addr)) (x : Str) (c : Addr), (x, c) ∈ clGo env names cs → (x, c) ∈ cs ∨ (c = (env.cells.lookup x).getD 0 ∧ (x, NameKind.free) ∈ names)
  | [], _, _, _, h => .inl h
  | (y, k) :: r, cs, x, c, h => by
    unfold clGo at h
    rcases clGo_mem r _ x c h with q | q
    · cases hk : (k == NameKind.free) with
      | true =>
        rw [hk] at q
        rcases List.mem_cons.mp q with e | e
        · cases e
          have : k = .free := by simpa using hk
          subst this
          exact .inr ⟨rfl, .head _⟩
        · exact .inl e
      | false => rw [hk] at q; exact .inl q
    · exact .inr ⟨q.1, .tail _ q.2⟩
theorem clGo_has {env : Env} : ∀ (names : List (Str × NameKind)) (cs : List (Str × Addr)) (x : Str), ((cs.lookup x).isSome = true ∨ (x, NameKind.free) ∈ names) → ((clGo env names cs).lookup x).isSome = true
  | [], _, _, h => h.elim id fun h => nomatch h
  | (y, k) :: r, cs, x, h => by
    unfold clGo
    refine clGo_has r _ x ?_
    rcases h with h | h
    · left
      cases hk : (k == NameKind.free) with
      | true =>
        simp only [if_true]
        rw [List.lookup_cons]
        cases x == y <;> simp [h]
      | false => exact h
    · rcases List.mem_cons.mp h with e | e
      · left
        cases e
        simp
      · exact .inr e
end Mine
end

section
open PySem PySem.W PyProof.Rows PySem.Calls
set_option Elab.async false
set_option linter.unusedVariables false
namespace Mine

def captL (G : Ga) (scope : Scope) (ρ : Loc) : List (Str × AV) := scope.names.filterMap fun x => if x.2 == .free && G.env.kindOf x.1 == some .cell then (match ρ.get x.1 with
  | some (.own _) => none
  | some a => some (x.1, a)
  | none => none) else none
def capt (G : Ga) (scope : Scope) (ρ : Loc) : Loc := ⟨captL G scope ρ, []⟩
theorem capt_get {G : Ga} {scope : Scope} {ρ : Loc} {x : Str} {a : AV} (h : (capt G scope ρ).get x = some a) : (x, NameKind.free) ∈ scope.names ∧ G.env.kindOf x = some .cell ∧ ρ.get x = some a ∧ ∀ xs, a ≠ .own xs := by
  have hm : (x, a) ∈ captL G scope ρ := mem_of_lookup h
  unfold captL at hm
  obtain ⟨⟨y, k⟩, h1, h2⟩ := List.mem_filterMap.mp hm
  dsimp only at h2
  split at h2
  · rename_i hc
    simp only [Bool.and_eq_true, beq_iff_eq] at hc
    split at h2
    · cases h2
    · rename_i a' hn e
      cases h2
      exact ⟨hc.1 ▸ h1, hc.2, e, fun xs z => hn xs z⟩
    · cases h2
  · cases h2
theorem bindT_get {t : Expr} {d : PyData} {ρ ρ' : Loc} (h : bindT t d ρ = some ρ') {y : Str} (hy : y ∉ tnames t) : ρ'.get y = ρ.get y := by
  obtain ⟨p, ds, _, _, e3, e4, _⟩ := bindT_eq h
  exact (bindN_facts e4).2.1 y (e3 ▸ hy)
theorem bindT_lg {t : Expr} {d : PyData} {ρ ρ' : Loc} (h : bindT t d ρ = some ρ') : ρ'.lg = ρ.lg := by
  obtain ⟨p, ds, _, _, _, e4, _⟩ := bindT_eq h
  exact (bindN_facts e4).2.2.1
theorem bindT_own {t : Expr} {d : PyData} {ρ ρ' : Loc} (h : bindT t d ρ = some ρ') {y : Str} {ys : List PyData} (q : ρ'.get y = some (.own ys)) : ρ.get y = some (.own ys) := by
  obtain ⟨p, ds, _, _, _, e4, _⟩ := bindT_eq h
  exact (bindN_facts e4).2.2.2 y ys q
theorem take_fm (f : PyData → Option PyData) {ds : List PyData} {i : Nat} {d : PyData} (hd : ds[i]? = some d) : (ds.take (i + 1)).filterMap f = (ds.take i).filterMap f ++ (f d).toList := by
  rw [List.take_add_one, hd, List.filterMap_append]
  cases h : f d <;> simp [h]
section
variable {prog : Program} {w : World} {n : Nat} {G : Ga} {ρ : Loc}
theorem FRx.forget {ρ' : Loc} {X : Addr → Prop} {h : Heap} (F : FRx G ρ X h) (k : ∀ y a, ρ'.get y = some a → ρ.get y = some a) (kl : ∀ q ∈ ρ'.lg, q ∈ ρ.lg) : FRx G ρ' X h := by
  obtain ⟨m, cm, f, l, u, u0, ld⟩ := F.ex
  exact ⟨m, cm, f, fun x a q => l x a (k x a q), fun x y xs ys v q1 q2 => u x y xs ys v (k _ _ q1) (k _ _ q2), fun x xs p q1 q2 => let ⟨a, b, c⟩ := u0 x xs p (k _ _ q1) q2; ⟨a, b, fun q hq => c q (kl q hq)⟩, fun q hq => ld q (kl q hq)⟩
theorem FRx.hid {X : Addr → Prop} {h h' : Heap} {p : Addr} {o' : Obj} (F : FRx G ρ X h) (hX : X p) (h0 : G.h₀.get? p = none) (hs : Heap.SameBut p h h') (hp : h'.get? p = some o') (no : ∀ y ys, ρ.get y ≠ some (.own ys)) (nl : ∀ q ∈ ρ.lg, q.1 ≠ p) : FRx G ρ X h' := by
  obtain ⟨m, cm, f, l, u, u0, ld⟩ := F.ex
  have np := f.xo p hX
  have kp : ∀ b o, b ≠ p → h.get? b = some o → h'.get? b = some o := fun b o nb q => (hs.2 b nb).trans q
  have mv : Mv X X h h' := ⟨fun b o q _ _ _ nx => kp b o (fun z => nx (z ▸ hX)) q, fun _ _ _ z => z⟩
  refine ⟨m, cm, ⟨f.kind, fun b o q => kp b o (fun z => by rw [z, h0] at q; cases q) (f.ext b o q), f.ns.at' fun o q => kp _ o (fun z => np (.inl z.symm)) q, fun y c q1 q2 => ⟨?_, (f.cell y c q1 q2).2⟩, f.inj, f.has, f.fresh, f.xok.same hs hp, f.xy, f.yx, f.y0, f.xo, f.zx⟩, fun x a q => ?_, u, u0, fun q hq => let ⟨a, b, c⟩ := ld q hq; ⟨kp _ _ (nl q hq) a, b, c⟩⟩
  · obtain ⟨oc, c1, c2⟩ := (f.cell y c q1 q2).1
    exact ⟨oc, kp c oc (fun z => np (.inr ⟨y, q1, z ▸ q2⟩)) c1, c2⟩
  · obtain ⟨v, h1, h2, h3⟩ := l x a q
    refine ⟨v, h1, ?_, h3⟩
    cases a with
    | d x => exact Rd.mv mv h2
    | own xs => exact absurd q (no _ _)
    | arr xs =>
      obtain ⟨c, us, d1, d2, d3, d4⟩ := h2
      exact ⟨c, us, d1, d2, d3.at fun o z => kp c o (fun z => d2 (z ▸ hX)) z, d4.mv mv⟩
    | v x => exact h2
end

structure CompOf (G : Ga) (scope : Scope) (G' : Ga) : Prop where
  env : ∃ C, G'.env = compEnvC scope (clOf scope G.env) C G.env
  ext : Ext G.h₀ G'.h₀
  y : ∀ p, G'.Y p → G.Y p ∨ G.h₀.get? p = none
def EvIfs (prog : Program) (w : World) (n : Nat) (G : Ga) (ρ : Loc) (ifs : List Expr) (b : Bool) : Prop := match ifs with
  | [] => b = true
  | [c] => EvT prog w n G ρ c b
  | _ => False

theorem tests_of {prog : Program} {w : World} {n : Nat} {G : Ga} {ρ : Loc} {ifs : List Expr} {b : Bool} (p : EvIfs prog w n G ρ ifs b) {A : Around} (R : Rm n A) {s : Shared} {X : Addr → Prop} (F : FRx G ρ X s.heap) {E : Value → Shared → Prop} :
    wpAny (model prog w) A (forIn ifs true fun c r => if r = true then do let ok ← isTrue c G.env (eval c G.env); pure (ForInStep.yield ok) else pure (ForInStep.yield r)) (fun ok s' => Kp s s' ∧ ok = b) E s := by
  match ifs, p with
  | [], p => exact wpAny_tests_nil ⟨Kp.refl s, p.symm⟩
  | [c], p => exact wpAny_tests_one ((p X _ F).go R (Ext.refl _) fun s' k _ => ⟨k, rfl⟩)
theorem compLoop_any {prog : Program} {w : World} {A : Around} {R : Result → Shared → Prop} {s : Shared} {elt target iter : Expr} {ifs : List Expr} {scope : Scope} {pos : Pos} {it acc : Value} {env : Env} (I : Nat → Shared → Prop)
    (turn : ∀ n s, I n s → wpAny (model prog w) A (pyNext it) (fun r s₁ => match r with
      | none => R (.ok .next) s₁
      | some v => wpAny (model prog w) A (letOwnedTupleGo target it v) (fun _ s₀ => wpAny (model prog w) A (PySem.assign target env v) (fun _ s₂ =>
          wpAny (model prog w) A (forIn ifs true fun c r => if r = true then do let ok ← isTrue c env (eval c env); pure (ForInStep.yield ok) else pure (ForInStep.yield r)) (fun ok s₃ =>
            if ok = true then wpAny (model prog w) A (eval elt env) (fun x s₄ =>
              wpAny (model prog w) A (call (.builtin "list.append") [acc, x]) (fun _ s₅ => ∃ m, m < n ∧ I m s₅) (notedBy (model prog w) A env fun e s' => R (.error e) s') s₄) (notedBy (model prog w) A env fun e s' => R (.error e) s') s₃
            else ∃ m, m < n ∧ I m s₃) (notedBy (model prog w) A env fun e s' => R (.error e) s') s₂) (notedBy (model prog w) A env fun e s' => R (.error e) s') s₀) (notedBy (model prog w) A env fun e s' => R (.error e) s') s₁) (notedBy (model prog w) A env fun e s' => R (.error e) s') s)
    (n : Nat) (h : I n s) : codeAny (model prog w) A (.compLoop (.ListComp elt [⟨target, iter, ifs, 0⟩] scope pos) 0 it acc env) R s := by
  refine codeAny_loop rfl I (fun n s hI => ?_) n h
  show wpAny _ A ((compTurn (.ListComp elt [⟨target, iter, ifs, 0⟩] scope pos) 0 it acc env).onRaise (fun x => do noteFrame x env; theTreesLotGoes x)) _ _ s
  refine wpAny_noted ?_
  rw [compTurn_list]
  refine wpAny_bind (wpAny_standAt (wpAny_bind (wpAny_mono (turn n s hI) (fun r s₁ h₁ => ?_) fun _ _ h' => h')))
  cases r with
  | none => exact wpAny_pure h₁
  | some v =>
    refine wpAny_bind (wpAny_mono h₁ (fun _ s₀ h₀ => ?_) fun _ _ h' => h')
    refine wpAny_bind (wpAny_mono h₀ (fun _ s₂ h₂ => wpAny_bind (wpAny_mono h₂ (fun ok s₃ h₃ => ?_) fun _ _ h' => h')) fun _ _ h' => h')
    cases ok with
    | false => exact wpAny_pure ⟨rfl, h₃⟩
    | true => exact wpAny_bind (wpAny_bind (wpAny_mono h₃ (fun x s₄ h₄ => wpAny_bind (wpAny_mono h₄ (fun _ s₅ h₅ => wpAny_pure (wpAny_pure ⟨rfl, h₅⟩)) fun _ _ h' => h')) fun _ _ h' => h'))
end Mine
end

section
open PySem PySem.W PyProof.Rows PySem.Calls
set_option Elab.async false
set_option linter.unusedVariables false
namespace Mine
structure CompOk (G : Ga) (ρ : Loc) (scope : Scope) (target : Expr) : Prop where
  free : ∀ x ∈ scope.names, x.2 = .free → G.env.kindOf x.1 = some .cell
  cell : ∀ x ∈ scope.names, x.2 ≠ .cell
  kind : scope.kind = .function
  names : ∀ x ∈ scope.names, x.2 = .local → scope.names.lookup x.1 = some .local
  uni : ∀ x ∈ scope.names, x.2 = .free → scope.names.lookup x.1 = some .free
  tgt : ∀ C, stoT ⟨compEnvC scope (clOf scope G.env) C G.env, {}, fun _ => False, fun _ => False⟩ target = true
  tloc : ∀ x ∈ tnames target, scope.names.lookup x = some .local
  dis : ∀ y ∈ tnames target, (capt G scope ρ).get y = none
theorem stoT_env {G G' : Ga} (h : G.env = G'.env) (t : Expr) : stoT G t = stoT G' t := by
  have : G.sto = G'.sto := funext fun x => by unfold Ga.sto; rw [h]
  unfold stoT
  rw [this]
theorem relabel_cell {env : Env} : ∀ {names : List (Str × NameKind)} {x : Str}, (∀ y ∈ names, y.2 ≠ .cell) →
    (names.map fun (n, k) => if (k == NameKind.free && env.scope.kind == .function && env.kindOf n == some .cell) then (n, NameKind.cell) else (n, k)).lookup x = some .cell → (x, NameKind.free) ∈ names ∧ env.kindOf x = some .cell
  | [], _, _, h => by simp at h
  | (n, k) :: r, x, hc, h => by
    rw [List.map_cons, List.lookup_cons] at h
    dsimp only at h
    have kn : (if (k == NameKind.free && env.scope.kind == .function && env.kindOf n == some .cell) = true then (n, NameKind.cell) else (n, k)).1 = n := by split <;> rfl
    rw [kn] at h
    cases hx : x == n with
    | true =>
      rw [hx] at h
      have e : x = n := by simpa using hx
      subst e
      dsimp only at h
      split at h
      · rename_i q
        simp only [Bool.and_eq_true, beq_iff_eq] at q
        obtain ⟨⟨q1, q2⟩, q3⟩ := q
        subst q1
        exact ⟨.head _, q3⟩
      · have : k = .cell := Option.some.inj h
        exact absurd this (hc _ (.head _))
    | false =>
      rw [hx] at h
      obtain ⟨a, b⟩ := relabel_cell (fun y hy => hc y (.tail _ hy)) h
      exact ⟨.tail _ a, b⟩

section
variable {prog : Program} {w : World} {n : Nat} {G : Ga} {ρ : Loc}
theorem comp_run {elt target iter : Expr} {ifs : List Expr} {scope : Scope} {pos : Pos} {ds : List PyData} {f : PyData → Option PyData} (ok : CompOk G ρ scope target) (hsz : ds.length ≤ sizeLine)
    (it : ∀ X h, FRx G ρ X h → ItP prog w n X G.env h target iter False ds)
    (body : ∀ G', CompOf G scope G' → ∀ d ∈ ds, ∃ ρ₂, bindT target d (capt G scope ρ) = some ρ₂ ∧ ∃ b, EvIfs prog w n G' ρ₂ ifs b ∧ (b = false → f d = none) ∧ (b = true → ∃ y, f d = some y ∧ Ev prog w n G' ρ₂ elt (.d y)))
    {A : Around} (R : Rm n A) {s : Shared} {X : Addr → Prop} (F : FRx G ρ X s.heap) {E : Value → Shared → Prop} {RR : Value → Addr → Result → Shared → Prop}
    (fin : ∀ D C h' tk m' vs, Kp s { s with heap := h', toks := tk } → s.heap.get? D = none → s.heap.get? C = none → C ≠ D → h'.Ns C m' → h'.PlainList D vs → RdAll (fun q => X q ∨ q = D) h' vs.toList (ds.filterMap f) → RR (.ref D) C (.ok .next) { s with heap := h', toks := tk }) :
    wpAny (model prog w) A (eval iter G.env) (fun xv s₁ => wpAny (model prog w) A (pyIter xv) (fun it s₂ => wpAny (model prog w) A (newList []) (fun acc s₃ => wpAny (model prog w) A (newFunctionEnv scope G.env.globals (clOf scope G.env) [] G.env.qual none .none (some G.env)) (fun cenv s₄ =>
      codeAny (model prog w) A (.compStart (.ListComp elt [⟨target, iter, ifs, 0⟩] scope pos) 0 it acc { cenv with scope := relabel scope G.env }) (RR acc cenv.locals) s₄) E s₃) E s₂) E s₁) E s := by
  refine it X _ F A R s (Ext.refl _) _ E fun I s₂ fp wr St k₂ W st0 hfp hwr => ?_
  have F₂ := F.mono (Kp.ext k₂)
  obtain ⟨hh₂, tk₂, es₂, _⟩ := id k₂
  refine wpAny_newObj_type (wpAny_newFunctionEnv ok.cell (by intro y hy; simp at hy) (fun h₁ hns₁ hsb₁ => ?_) ok.kind)
  dsimp only at hns₁ hsb₁ ⊢
  generalize hH2 : s₂.heap.push { cls := .type "list", dict := none, data := .seq ([] : List Value).toArray } = H2 at hns₁ hsb₁ ⊢
  generalize hD : s₂.heap.objs.size = D
  generalize hCq : H2.objs.size = C at hns₁ hsb₁ ⊢
  have hC : C = D + 1 := by rw [← hCq, ← hH2, Heap.size_push, hD]
  have hDC : D ≠ C := by rw [hC]; exact (Nat.succ_ne_self D).symm
  have nD : s₂.heap.get? D = none := hD ▸ get_size_none _
  have nC : s₂.heap.get? C = none := Heap.get?_none_of_le (by rw [hC, hD]; exact Nat.le_succ _)
  have eH : Ext s₂.heap H2 := hH2 ▸ Ext.push _ _
  have old : Ext s₂.heap h₁ := fun b o e => hsb₁.extBut b o (fun z => by rw [z, nC] at e; cases e) (Heap.get?_push_of_some _ (eH b o e))
  have hacc : h₁.PlainList D #[] := ⟨0, hsb₁.extBut _ _ hDC (Heap.get?_push_of_some _ (by rw [← hH2, ← hD]; exact Heap.get?_push_size _ rfl))⟩
  let cl := clOf scope G.env
  let G' : Ga := ⟨compEnvC scope cl C G.env, hideAll s.heap (cl.map (·.2)), X, fun _ => False⟩
  have k2e := Kp.ext k₂
  have nD0 : s.heap.get? D = none := none_of_ext k2e nD
  have nC0 : s.heap.get? C = none := none_of_ext k2e nC
  let X' : Addr → Prop := fun q => X q ∨ q = D
  obtain ⟨m, cm, f₂, l₂, u₂, u0₂, ld₂⟩ := F₂.ex
  -- the cells
  have clm : ∀ x c, (x, c) ∈ cl → G.env.kindOf x = some .cell ∧ G.env.cells.lookup x = some c := by
    intro x c h
    rcases clGo_mem _ _ x c h with q | ⟨q1, q2⟩
    · cases q
    · have hk := ok.free _ q2 rfl
      obtain ⟨c', hc'⟩ := Option.isSome_iff_exists.mp (f₂.has x hk)
      have hc'' : List.lookup x G.env.cells = some c' := hc'
      rw [hc''] at q1
      exact ⟨hk, by rw [q1]; exact hc'⟩
  have hclos : ∀ x c, cl.lookup x = some c → G.env.kindOf x = some .cell ∧ G.env.cells.lookup x = some c := fun x c h => clm x c (mem_of_lookup h)
  have clOwn : ∀ c ∈ cl.map (·.2), G.own c := fun c hc => by
    obtain ⟨⟨x, c'⟩, h1, rfl⟩ := List.mem_map.mp hc
    exact .inr ⟨x, (clm x c' h1).1, (clm x c' h1).2⟩
  have kk : ∀ x, G'.env.kindOf x = some .cell → (x, NameKind.free) ∈ scope.names ∧ G.env.kindOf x = some .cell := fun x h => relabel_cell ok.cell h
  have CO : CompOf G scope G' := ⟨⟨C, rfl⟩, fun b o e => hideAll_get _ (F.ext b o e) fun z => by
    rcases clOwn b z with rfl | ⟨x, z1, z2⟩
    · rw [f₂.fresh] at e; cases e
    · rw [(f₂.cell x b z1 z2).2] at e; exact (nomatch e), f₂.xy⟩
  have nX : ∀ p, X p → p ≠ D ∧ p ≠ C := fun p z => by
    obtain ⟨o, q⟩ := Option.isSome_iff_exists.mp (f₂.xok p z)
    exact ⟨(fun e => by rw [e, nD] at q; cases q), (fun e => by rw [e, nC] at q; cases q)⟩
  have h0D : G'.h₀.get? D = none := by
    cases q : G'.h₀.get? D with
    | none => rfl
    | some o => have := of_hideAll _ q; rw [nD0] at this; cases this
  have F' : FRx G' (capt G scope ρ) X' h₁ := by
    refine ⟨_, cm, ⟨ok.kind, fun b o e => old b o (k2e b o (of_hideAll _ e)), hns₁, fun x c q1 q2 => ?_, fun x y c q1 q2 q3 q4 => ?_, fun x q => ?_, ?_, fun p z => ?_, fun p z => ?_, fun p z => .inl z, fun p z => .inl ?_, fun p z => ?_, fun p z => z.elim⟩, fun x a q => ?_, fun x y xs ys v q1 => ?_, fun x xs p q1 => ?_, fun _ h => nomatch h⟩
    · obtain ⟨hk, hc⟩ := hclos x c q2
      exact ⟨(f₂.cell x c hk hc).1.keeps old, hideAll_none _ (List.mem_map.mpr ⟨(x, c), mem_of_lookup q2, rfl⟩)⟩
    · exact f₂.inj x y c (hclos x c q3).1 (hclos y c q4).1 (hclos x c q3).2 (hclos y c q4).2
    · exact clGo_has _ _ x (.inr (kk x q).1)
    · show G'.h₀.get? C = none
      cases q : G'.h₀.get? C with
      | none => rfl
      | some o => have := of_hideAll _ q; rw [nC0] at this; cases this
    · rcases z with z | rfl
      · exact f₂.xok.ext old p z
      · obtain ⟨k, q⟩ := hacc; rw [q]; rfl
    · rcases z with z | rfl
      · exact .inl z
      · exact .inr h0D
    · obtain ⟨o, q⟩ := Option.isSome_iff_exists.mp (F.xok p z)
      show ((hideAll _ _).get? p).isSome = true
      rw [hideAll_get _ q fun z' => f₂.xo p z (clOwn p z')]; rfl
    · rintro (rfl | ⟨x, z1, z2⟩)
      · rcases z with z | z
        · exact (nX _ z).2 rfl
        · exact hDC z.symm
      · rcases z with z | rfl
        · exact f₂.xo p z (.inr ⟨x, (hclos x p z2).1, (hclos x p z2).2⟩)
        · obtain ⟨oc, c1, _⟩ := (f₂.cell x _ (hclos x _ z2).1 (hclos x _ z2).2).1
          rw [nD] at c1; cases c1
    · obtain ⟨q1, q2, q3, q4⟩ := capt_get q
      obtain ⟨v, r1, r2, r3⟩ := l₂ x a q3
      refine ⟨v, ?_, ?_, r3⟩
      · unfold Ga.rd at r1 ⊢
        rw [q2] at r1
        have : G'.env.kindOf x = some .cell := by
          show (relabel scope G.env).names.lookup x = some .cell
          have hl := ok.uni _ q1 rfl
          have key : ∀ (names : List (Str × NameKind)), names.lookup x = some .free → (names.map fun (n, k) => if (k == NameKind.free && G.env.scope.kind == .function && G.env.kindOf n == some .cell) then (n, NameKind.cell) else (n, k)).lookup x = some .cell := by
            intro names
            induction names with
            | nil => intro h; simp at h
            | cons p r ih =>
              intro h
              obtain ⟨nm, kd⟩ := p
              rw [List.lookup_cons] at h
              rw [List.map_cons, List.lookup_cons]
              have kn : (if (kd == NameKind.free && G.env.scope.kind == .function && G.env.kindOf nm == some .cell) = true then (nm, NameKind.cell) else (nm, kd)).1 = nm := by split <;> rfl
              dsimp only
              rw [kn]
              cases hx : x == nm with
              | true =>
                rw [hx] at h
                have : kd = .free := Option.some.inj h
                have e : x = nm := by simpa using hx
                subst this e
                simp [f₂.kind, q2]
              | false => rw [hx] at h; exact ih h
          exact key _ hl
        rw [this]; exact r1
      · have mvX : Mv X X' s₂.heap h₁ := ⟨fun b o q _ _ _ _ => old b o q, fun b o q z => z.elim id fun z => by rw [z, nD] at q; cases q⟩
        cases a with
        | d t => exact Rd.mv mvX r2
        | own t => exact absurd rfl (q4 t)
        | arr t =>
          obtain ⟨c, us, d1, d2, d3, d4⟩ := r2
          refine ⟨c, us, d1, ?_, IsList.ext old d3, d4.mv mvX⟩
          rintro (z | rfl)
          · exact d2 z
          · obtain ⟨o, z, _⟩ := d3; rw [nD] at z; cases z
        | v t => exact r2
    · exact fun _ _ _ => absurd rfl ((capt_get q1).2.2.2 xs)
    · exact fun _ => absurd rfl ((capt_get q1).2.2.2 xs)
  have wrC : ∀ b ∈ wr, b ≠ C ∧ b ≠ D := fun b hb => by
    obtain ⟨o, q⟩ := Option.isSome_iff_exists.mp (hfp b (W.sub b hb)).1
    exact ⟨(fun e => by rw [e, nC] at q; cases q), (fun e => by rw [e, nD] at q; cases q)⟩
  have fpC : ∀ b ∈ fp, b ≠ C ∧ b ≠ D := fun b hb => by
    obtain ⟨o, q⟩ := Option.isSome_iff_exists.mp (hfp b hb).1
    exact ⟨(fun e => by rw [e, nC] at q; cases q), (fun e => by rw [e, nD] at q; cases q)⟩
  have ownCell : ∀ b, G'.own b → b = C ∨ ∃ o v, s.heap.get? b = some o ∧ o.data = .cell v := by
    rintro b (rfl | ⟨x, z1, z2⟩)
    · exact .inl rfl
    · obtain ⟨m₀, cm₀, f₀, _⟩ := F.ex
      obtain ⟨⟨oc, c1, c2⟩, _⟩ := f₀.cell x b (hclos x b z2).1 (hclos x b z2).2
      exact .inr ⟨oc, _, c1, c2⟩
  have fpOwn : ∀ b ∈ fp, ¬ G'.own b := fun b hb z => by
    rcases ownCell b z with e | ⟨o, v, q1, q2⟩
    · exact (fpC b hb).1 e
    · rcases (hfp b hb).2 with q | ⟨_, o', vs', k', q3, q4⟩
      · rw [q] at q1; cases q1
      · rw [q3] at q1; cases q1; rw [q4] at q2; cases q2
  have wrX : ∀ b ∈ wr, ¬ X' b := fun b hb z => by
    rcases z with z | z
    · have := F.xok b z; rw [hwr b hb] at this; cases this
    · exact (wrC b hb).2 z
  have wr0 : ∀ b ∈ wr, G'.h₀.get? b = none := fun b hb => by
    cases q : G'.h₀.get? b with
    | none => rfl
    | some o => have := of_hideAll _ q; rw [hwr b hb] at this; cases this
  have noOwn : ∀ {ρ₂ : Loc} {d : PyData}, bindT target d (capt G scope ρ) = some ρ₂ → (∀ y ys, ρ₂.get y ≠ some (.own ys)) ∧ ∀ y a, (capt G scope ρ).get y = some a → ρ₂.get y = some a := by
    intro ρ₂ d hb
    have keep : ∀ y a, (capt G scope ρ).get y = some a → ρ₂.get y = some a := fun y a q => by
      rw [bindT_get hb fun z => by rw [ok.dis y z] at q; cases q]; exact q
    exact ⟨fun y ys q => absurd rfl ((capt_get (bindT_own hb q)).2.2.2 ys), keep⟩
  let Inv : Nat → Shared → Prop := fun i s' => ∃ h' tk vs, s' = { s₂ with heap := h', toks := tk } ∧ St i h' ∧ FRx G' (capt G scope ρ) X' h' ∧ h'.PlainList D vs ∧ RdAll X' h' vs.toList ((ds.take i).filterMap f) ∧ ∀ b o, b ∉ wr → s₂.heap.get? b = some o → h'.get? b = some o
  have loop : ∀ s₃ : Shared, s₃ = { s₂ with heap := h₁, toks := s₂.toks + ([] : List (Str × Value)).length } →
      codeAny (model prog w) A (.compLoop (.ListComp elt [⟨target, iter, ifs, 0⟩] scope pos) 0 (.ref I) (.ref D) (compEnvC scope cl C G.env)) (RR (.ref D) C) s₃ := by
    rintro s₃ rfl
    refine compLoop_any (fun k s' => ∃ i, k = ds.length + 1 - i ∧ i ≤ ds.length ∧ Inv i s') (fun k s' inv => ?_) _ ⟨0, rfl, Nat.zero_le _, h₁, _, #[], rfl, W.frame _ _ _ st0 fun b _ o e => old b o e, F', hacc, by simpa using RdAll.nil, fun b o _ e => old b o e⟩
    obtain ⟨i, rfl, hi, h₂, tk, vs, rfl, st, F₃, hpl, hrd, hkp⟩ := inv
    have hwF : ∀ b ∈ wr, ¬ G'.own b ∧ ¬ X' b ∧ G'.h₀.get? b = none ∧ ∀ o, h₂.get? b = some o → ∀ vs k, o.data ≠ .seq vs k := fun b hb => ⟨fpOwn b (W.sub b hb), wrX b hb, wr0 b hb, fun o e => W.wns _ _ st b hb o e⟩
    have mvW : ∀ {h₃ : Heap}, (∀ b o, b ∉ wr → h₂.get? b = some o → h₃.get? b = some o) → Mv X' X' h₂ h₃ := fun k => ⟨fun b o q vs n dq _ => k b o (fun z => W.wns _ _ st b z o q _ _ dq) q, fun _ _ _ z => z⟩
    rcases Nat.lt_or_ge i ds.length with hlt | hge
    · obtain ⟨d, hd⟩ : ∃ d, ds[i]? = some d := ⟨ds[i], by simp [hlt]⟩
      obtain ⟨ρ₂, hb, b, hifs, hfF, hfT⟩ := body G' CO d (List.mem_of_getElem? hd)
      have cr : ∀ v e, Rd X s₂.heap v e → Rd X' h₂ v e := fun v e r => r.mv ⟨fun b o q vs n dq nx => hkp b o (fun z => W.wns _ _ st0 b z o q _ _ dq) q, fun b o q z => z.elim id fun z => by rw [z, nD] at q; cases q⟩
      have tk1 := take_fm f hd
      refine wpAny_mono (W.item i d { s₂ with heap := h₂, toks := tk } X' (fun v s₄ => wpAny (model prog w) A (PySem.assign target G'.env v) (fun _ s₂' =>
          wpAny (model prog w) A (forIn ifs true fun c r => if r = true then do let ok ← isTrue c G'.env (eval c G'.env); pure (ForInStep.yield ok) else pure (ForInStep.yield r)) (fun ok s₃ =>
            if ok = true then wpAny (model prog w) A (eval elt G'.env) (fun x s₄ =>
              wpAny (model prog w) A (call (.builtin "list.append") [.ref D, x]) (fun _ s₅ => ∃ m, m < ds.length + 1 - i ∧ ∃ i, m = ds.length + 1 - i ∧ i ≤ ds.length ∧ Inv i s₅) (notedBy (model prog w) A G'.env fun e s' => RR (.ref D) C (.error e) s') s₄) (notedBy (model prog w) A G'.env fun e s' => RR (.ref D) C (.error e) s') s₃
            else ∃ m, m < ds.length + 1 - i ∧ ∃ i, m = ds.length + 1 - i ∧ i ≤ ds.length ∧ Inv i s₃) (notedBy (model prog w) A G'.env fun e s' => RR (.ref D) C (.error e) s') s₂') (notedBy (model prog w) A G'.env fun e s' => RR (.ref D) C (.error e) s') s₄) _ hd st F₃.xok cr fun v s₄ hs4 st₄ hk₄ r₄ => ?_) (fun r s₄ z => ?_) fun _ _ z => z
      · obtain ⟨h₄, tk₄, rfl⟩ := hs4
        have F₄ : FRx G' (capt G scope ρ) X' h₄ := F₃.but hk₄ hwF
        have tg : stoT G' target = true := (stoT_env (G := G') (G' := ⟨compEnvC scope (clOf scope G.env) C G.env, {}, fun _ => False, fun _ => False⟩) rfl target).trans (ok.tgt C)
        refine assign_fr R.handled F₄ r₄ hb tg fun h₅ tk₅ kp₅ F₅ => ?_
        obtain ⟨no, kc⟩ := noOwn hb
        have nDo : ¬ G'.own D := F₅.xo D (.inr rfl)
        have tl : ∀ x ∈ tnames target, G'.env.kindOf x ≠ some .cell := fun x hx z => by
          have e : G'.env.kindOf x = some .local := lookup_relabel_local (ok.tloc x hx)
          rw [e] at z; cases z
        have kp₆ : ∀ b o, h₄.get? b = some o → b ≠ C → h₅.get? b = some o := fun b o q nb => kp₅ b o q nb fun x hx z => absurd z (tl x hx)
        have pl₅ : h₅.PlainList D vs := (hpl.at fun o q => hk₄ D o (fun z => (wrC D z).2 rfl) q).at fun o q => kp₆ D o q hDC
        have rd₅ : RdAll X' h₅ vs.toList ((ds.take i).filterMap f) := (hrd.mv (mvW hk₄)).mv (F₄.mv kp₅.k XNew.refl)
        have st₅ : St (i + 1) h₅ := W.frame _ _ _ st₄ fun b hb o q => kp₆ b o q (fpC b hb).1
        have kp₅' : ∀ b o, b ∉ wr → s₂.heap.get? b = some o → h₅.get? b = some o := fun b o nb q => kp₆ b o (hk₄ b o nb (hkp b o nb q)) fun z => by rw [z, nC] at q; cases q
        refine wpAny_mono (tests_of hifs R F₅) (fun okb s₆ z => ?_) fun _ _ z => z
        obtain ⟨k₆, rfl⟩ := z
        obtain ⟨h₆, tk₆, rfl, e₆⟩ := k₆
        have e₆' : Ext h₅ h₆ := e₆
        cases okb with
        | false =>
          refine ⟨ds.length + 1 - (i + 1), by omega, i + 1, rfl, hlt, h₆, tk₆, vs, rfl, W.frame _ _ _ st₅ fun b _ o q => e₆ b o q, (F₅.mono e₆').forget kc (fun _ h => nomatch h), PlainList.ext e₆' pl₅, ?_, fun b o nb q => e₆ b o (kp₅' b o nb q)⟩
          rw [tk1, hfF rfl]
          simpa using rd₅.ext e₆'
        | true =>
          obtain ⟨y, hy, ev⟩ := hfT rfl
          show wpAny _ _ _ _ _ _
          refine ((ev X' _ (F₅.mono e₆')).go R (Ext.refl _) fun v s₇ k₇ x₇ r₇ => ?_)
          obtain ⟨h₇, tk₇, rfl, e₇⟩ := k₇
          have e₇' : Ext h₅ h₇ := e₆'.trans e₇
          have pl₇ := PlainList.ext e₇' pl₅
          have sz : vs.size ≤ sizeLine := by
            have h1 := rd₅.length
            have h2 : ((ds.take i).filterMap f).length ≤ (ds.take i).length := List.length_filterMap_le _ _
            have h3 : (ds.take i).length ≤ ds.length := by rw [List.length_take]; exact Nat.min_le_right _ _
            have h4 : vs.toList.length = vs.size := by simp
            omega
          refine wpAny_list_append_plain (l := D) (items := vs) pl₇ (fun h₈ hl₈ hs₈ => ?_) sz
          obtain ⟨k₈, g₈⟩ := hl₈
          have F₈ : FRx G' ρ₂ X' h₈ := (F₅.mono e₇').hid (.inr rfl) h0D hs₈ g₈ no (by rw [bindT_lg hb]; exact fun _ h => nomatch h)
          have mv₈ : Mv X' X' h₇ h₈ := ⟨fun b o q _ _ _ nx => (hs₈.2 b fun z => nx (.inr z)).trans q, fun _ _ _ z => z⟩
          refine ⟨ds.length + 1 - (i + 1), by omega, i + 1, rfl, hlt, h₈, tk₇, vs.push v, rfl, W.frame _ _ _ st₅ fun b hb o q => (hs₈.2 b (fpC b hb).2).trans (e₇' b o q), F₈.forget kc (fun _ h => nomatch h), ⟨k₈, g₈⟩, ?_, fun b o nb q => (hs₈.2 b fun z => by rw [z, nD] at q; cases q).trans (e₇' b o (kp₅' b o nb q))⟩
          rw [tk1, hy, Array.toList_push]
          exact ((rd₅.ext e₇').mv mv₈).append (.cons (Rd.mv mv₈ r₇) .nil)
      · cases r with
        | none => exact z.elim
        | some v => exact z
    · have hin : i = ds.length := Nat.le_antisymm hi hge
      subst hin
      refine W.done _ _ _ st fun h₃ tk₃ hk₃ => ?_
      obtain ⟨m₃, cm₃, f₃, _⟩ := (F₃.but hk₃ hwF).ex
      have e3 : Kp s { s with heap := h₃, toks := tk₃ } := Kp.of s fun b o q => by
        have nb : b ∉ wr := fun z => by rw [hwr b z] at q; cases q
        exact hk₃ b o nb (hkp b o nb (k2e b o q))
      have := fin D C h₃ tk₃ m₃ vs e3 nD0 nC0 hDC.symm f₃.ns (hpl.at fun o q => hk₃ D o (fun z => (wrC D z).2 rfl) q) (by rw [List.take_length] at hrd; exact hrd.mv (mvW hk₃))
      rw [es₂]
      exact this
  exact codeAny_compStart_list (loop _ rfl) (W.self 0 _ _ _ (W.frame _ _ _ st0 fun b _ o e => old b o e) (loop _ rfl))
end
end Mine
end

section
open PySem PySem.W PyProof.Rows PySem.Calls
set_option Elab.async false
set_option linter.unusedVariables false
namespace Mine
section
variable {prog : Program} {w : World} {n : Nat} {G : Ga} {ρ : Loc}
theorem Ev.comp {elt target iter : Expr} {ifs : List Expr} {scope : Scope} {pos : Pos} {ds : List PyData} (f : PyData → Option PyData) (ok : CompOk G ρ scope target) (hsz : ds.length ≤ sizeLine)
    (it : ∀ X h, FRx G ρ X h → ItP prog w n X G.env h target iter False ds)
    (body : ∀ G', CompOf G scope G' → ∀ d ∈ ds, ∃ ρ₂, bindT target d (capt G scope ρ) = some ρ₂ ∧ ∃ b, EvIfs prog w n G' ρ₂ ifs b ∧ (b = false → f d = none) ∧ (b = true → ∃ y, f d = some y ∧ Ev prog w n G' ρ₂ elt (.d y)))
    (hs : ∀ x, foldedSetIterable iter G.env x = pure x := by intro _; rfl) : Ev prog w n G ρ (.ListComp elt [⟨target, iter, ifs, 0⟩] scope pos) (.d (.list (ds.filterMap f))) := fun X h F A R s x E => by
  have F₁ := F.mono x
  obtain ⟨m, cm, f₁, _⟩ := F₁.ex
  have hcl : closureFor scope G.env = pure (clOf scope G.env) := closureFor_clOf fun y hy hk => f₁.has y.1 (ok.free y hy hk)
  rw [eval_ListComp]
  refine wpAny_comprehension_free (use := none) rfl hs hcl ok.kind ok.names ?_
  refine comp_run (RR := fun acc C => compPost (model prog w) A E none _ acc C) ok hsz it body R F₁ fun D C h' tk m' vs k nD nC hCD hns hpl hrd => ?_
  refine ⟨m', hns, fun h'' hs'' => ⟨Kp.of s fun b o e => (hs''.2 b fun z => by rw [z, nC] at e; cases e).trans (Kp.ext k b o e), ?_⟩⟩
  obtain ⟨oC, es, ep, gC, dC, _⟩ := hns
  have mv : Mv (fun q => X q ∨ q = D) X h' h'' := ⟨fun b o q vs' k' dq _ => (hs''.2 b fun z => by rw [z, gC] at q; cases q; rw [dC] at dq; cases dq).trans q, fun _ _ _ z => .inl z⟩
  obtain ⟨kD, gD⟩ := hpl
  refine .list ((hs''.2 D hCD.symm).trans gD) rfl rfl rfl (fun z => ?_) (hrd.mv mv)
  have := F₁.xok D z; rw [nD] at this; cases this
theorem FRx.notOwn {X : Addr → Prop} {h : Heap} (F : FRx G ρ X h) {b : Addr} (e : h.get? b = none) : ¬ G.own b := by
  obtain ⟨m, cm, f, _⟩ := F.ex
  rintro (rfl | ⟨y, z1, z2⟩)
  · obtain ⟨oL, _, _, hL, _⟩ := f.ns; rw [e] at hL; cases hL
  · obtain ⟨⟨oc, hc, _⟩, _⟩ := f.cell y b z1 z2; rw [e] at hc; cases hc
theorem Ex1.assignComp {elt target iter : Expr} {ifs : List Expr} {scope : Scope} {pos p₁ p₂ : Pos} {y : Str} {ds : List PyData} {Φ : Out → Prop} (own : Bool) (f : PyData → Option PyData) (ok : CompOk G ρ scope target) (hsz : ds.length ≤ sizeLine)
    (it : ∀ X h, FRx G ρ X h → ItP prog w n X G.env h target iter False ds)
    (body : ∀ G', CompOf G scope G' → ∀ d ∈ ds, ∃ ρ₂, bindT target d (capt G scope ρ) = some ρ₂ ∧ ∃ b, EvIfs prog w n G' ρ₂ ifs b ∧ (b = false → f d = none) ∧ (b = true → ∃ y, f d = some y ∧ Ev prog w n G' ρ₂ elt (.d y)))
    (hy : G.sto y = true) (q : Φ (.next (ρ.set y (if own = true then .own (ds.filterMap f) else .d (.list (ds.filterMap f))))))
    (hsw : swapsWith (.ListComp elt [⟨target, iter, ifs, 0⟩] scope pos) (some (.Name y p₁)) p₂.line G.env = pure true := by rfl)
    (hs : ∀ x, foldedSetIterable iter G.env x = pure x := by intro _; rfl) : Ex1 prog w n G ρ (.Assign [.Name y p₁] (.ListComp elt [⟨target, iter, ifs, 0⟩] scope pos) p₂) Φ := fun A R s X F E => by
  obtain ⟨m, cm, f₁, _⟩ := F.ex
  have hcl : closureFor scope G.env = pure (clOf scope G.env) := closureFor_clOf fun y hy hk => f₁.has y.1 (ok.free y hy hk)
  rw [exec_Assign_Name_used _ _ _ _ hsw]
  refine wpAny_bind (wpAny_standAt (wpAny_bind ?_))
  show wpAny _ A (do let _ ← comprehension (.ListComp elt [⟨target, iter, ifs, 0⟩] scope pos) scope G.env _ (newList []) false (eval iter G.env) (some (PySem.assign (.Name y p₁) G.env))) _ _ s
  refine wpAny_bind (wpAny_mono (wpAny_comprehension_free (use := some (PySem.assign (.Name y p₁) G.env)) (Q := fun _ s' => ∃ o, Φ o ∧ OutR G X s o .next s') rfl hs hcl ok.kind ok.names ?_) (fun _ s' hq => wpAny_pure (wpAny_pure hq)) fun _ _ e => e)
  refine comp_run (RR := fun acc C => compPost (model prog w) A E (some (PySem.assign (.Name y p₁) G.env)) _ acc C) ok hsz it body R F fun D C h' tk m' vs k nD nC hCD hns hpl hrd => ?_
  show wpAny _ A (PySem.assign (.Name y p₁) G.env (.ref D)) _ _ _
  refine wpAny_assign_Name ?_
  have e := Kp.ext k
  have F' : FRx G ρ X h' := F.mono e
  have nCo := F.notOwn nC
  have nDo := F.notOwn nD
  have nXD : ¬ X D := fun z => by have := F.xok D z; rw [nD] at this; cases this
  have nXC : ¬ X C := fun z => by have := F.xok C z; rw [nC] at this; cases this
  have n0C : G.h₀.get? C = none := none_of_ext F.ext nC
  -- what comes behind the store
  have fin : ∀ (a : AV) (X' : Addr → Prop) h'' tk', (∀ p, X' p → X p ∨ p = D) → Kept0 G [y] h' h'' → FRx G (ρ.set y a) X' h'' → Φ (.next (ρ.set y a)) →
      ∃ m, h''.Ns C m ∧ ∀ h₃, Heap.SameBut C h'' h₃ → ∃ o, Φ o ∧ OutR G X s o .next { s with heap := h₃, toks := tk' } := by
    intro a X' h'' tk' hX' k0 F'' q
    have nXC' : ¬ X' C := fun z => (hX' C z).elim nXC hCD
    refine ⟨m', ?_, fun h₃ hs₃ => ⟨_, q, rfl, ⟨h₃, tk', rfl⟩, fun b o q1 q2 q3 => ?_, X', ?_, fun p z => (hX' p z).imp id fun z' => by rw [z']; exact nD⟩⟩
    · exact hns.at' fun o q => k0.own C o q nCo
    · exact (hs₃.2 b fun z => by rw [z, nC] at q1; cases q1).trans (k0.own b o (e b o q1) q2)
    · refine F''.but (wr := [C]) (fun b o nb q => (hs₃.2 b fun z => nb (by rw [z]; exact .head _)).trans q) fun b hb => ?_
      cases List.mem_singleton.mp hb
      refine ⟨nCo, nXC', n0C, fun o q vs' k' dq => ?_⟩
      obtain ⟨oC, es, ep, gC, dC, _⟩ := hns
      have := k0.own C oC gC nCo
      rw [this] at q; cases q; rw [dC] at dq; cases dq
  cases own with
  | false =>
    have mv : Mv (fun q => X q ∨ q = D) X h' h' := Mv.sub fun _ z => .inl z
    obtain ⟨kD, gD⟩ := hpl
    exact storeName_fr (a := .d (.list (ds.filterMap f))) F' (Ga.sto_or hy).1 (Ga.sto_or hy).2 (.list gD rfl rfl rfl nXD (hrd.mv mv)) (fun _ z => by cases z) fun h'' tk' k0 F'' => fin _ X h'' tk' (fun p z => .inl z) k0 F'' q
  | true =>
    exact storeOwn_fr (s := { s with heap := h', toks := tk }) F e nD (F.newZ nD) hpl hrd hy nDo fun h'' tk' k0 F'' => fin _ _ h'' tk' (fun p z => z) k0 F'' q
end
end Mine
end

section
open PySem PySem.W PyProof.Rows PySem.Calls
set_option Elab.async false
set_option linter.unusedVariables false
namespace Mine
section
variable {prog : Program} {w : World} {n : Nat} {X : Addr → Prop} {env : Env} {h : Heap}
theorem Bin.add {a b : Int} : Bin prog w n X .Add (.d (.int a)) (.d (.int b)) (.d (.int (a + b))) := fun A R s va vb xo ra rb E => by
  cases ra; cases rb; exact add_int ⟨Kp.of s (Ext.refl _), .int _ _⟩
theorem Bin.sub {a b : Int} : Bin prog w n X .Sub (.d (.int a)) (.d (.int b)) (.d (.int (a - b))) := fun A R s va vb xo ra rb E => by
  cases ra; cases rb; exact sub_int ⟨Kp.of s (Ext.refl _), .int _ _⟩
theorem Bin.mul {a b : Int} (hm : IntMulOk a b) : Bin prog w n X .Mult (.d (.int a)) (.d (.int b)) (.d (.int (a * b))) := fun A R s va vb xo ra rb E => by
  cases ra; cases rb; exact mul_int ⟨Kp.of s (Ext.refl _), .int _ _⟩ hm
theorem Bin.fdiv {a b : Int} (hb : b ≠ 0) (hp : Builtin.divisionGoesByPylong a b = false) : Bin prog w n X .FloorDiv (.d (.int a)) (.d (.int b)) (.d (.int (a.fdiv b))) := fun A R s va vb xo ra rb E => by
  cases ra; cases rb; exact floordiv_int hb ⟨Kp.of s (Ext.refl _), .int _ _⟩ (.inl hp)
theorem Bin.fmod {a b : Int} (hb : b ≠ 0) : Bin prog w n X .Mod (.d (.int a)) (.d (.int b)) (.d (.int (a.fmod b))) := fun A R s va vb xo ra rb E => by
  cases ra; cases rb; exact mod_int' hb ⟨Kp.of s (Ext.refl _), .int _ _⟩
theorem Bin.and {a b : Int} : Bin prog w n X .BitAnd (.d (.int a)) (.d (.int b)) (.d (.int (Builtin.bitAnd a b))) := fun A R s va vb xo ra rb E => by
  cases ra; cases rb; exact and_int ⟨Kp.of s (Ext.refl _), .int _ _⟩
theorem Bin.xor {a b : Int} : Bin prog w n X .BitXor (.d (.int a)) (.d (.int b)) (.d (.int (Builtin.bitXor a b))) := fun A R s va vb xo ra rb E => by
  cases ra; cases rb; exact xor_int ⟨Kp.of s (Ext.refl _), .int _ _⟩
theorem Bin.pow {a b : Int} (hb : 0 ≤ b) (hz : ((Builtin.Int.intBits a : Nat) : Int) * b ≤ 2 ^ 27) : Bin prog w n X .Pow (.d (.int a)) (.d (.int b)) (.d (.int (a ^ b.toNat))) := fun A R s va vb xo ra rb E => by
  cases ra; cases rb; exact pow_int hb hz ⟨Kp.of s (Ext.refl _), .int _ _⟩
theorem Bin.cat {a b : Str} (hz : a.length + b.length ≤ sizeLine) : Bin prog w n X .Add (.d (.str a)) (.d (.str b)) (.d (.str (a ++ b))) := fun A R s va vb xo ra rb E => by
  cases ra; cases rb; exact add_str (fun t' tk => ⟨Kp.of s (Ext.refl _), .str _ _⟩) hz
theorem Inp.add {a b : Int} : Inp prog w n X .Add (.d (.int a)) (.d (.int b)) (.d (.int (a + b))) := fun A R s va vb xo ra rb E => by
  cases ra; cases rb; exact iadd_int ⟨Kp.of s (Ext.refl _), .int _ _⟩
theorem Inp.cat {a b : Str} (hz : a.length + b.length ≤ sizeLine) : Inp prog w n X .Add (.d (.str a)) (.d (.str b)) (.d (.str (a ++ b))) := fun A R s va vb xo ra rb E => by
  cases ra; cases rb; exact iadd_str (fun t' tk => ⟨Kp.of s (Ext.refl _), .str _ _⟩) hz
theorem Cmp.ieq {a b : Int} : Cmp prog w n X .Eq (.d (.int a)) (.d (.int b)) (a == b) := fun A R s va vb ra rb E => by
  cases ra; cases rb; exact eq_int ⟨Kp.refl s, rfl⟩
theorem Cmp.ine {a b : Int} : Cmp prog w n X .NotEq (.d (.int a)) (.d (.int b)) (a != b) := fun A R s va vb ra rb E => by
  cases ra; cases rb; exact ne_int ⟨Kp.refl s, rfl⟩
theorem Cmp.ilt {a b : Int} : Cmp prog w n X .Lt (.d (.int a)) (.d (.int b)) (decide (a < b)) := fun A R s va vb ra rb E => by
  cases ra; cases rb; exact PyProof.Rows.lt_int ⟨Kp.refl s, rfl⟩
theorem Cmp.ige {a b : Int} : Cmp prog w n X .GtE (.d (.int a)) (.d (.int b)) (decide (b ≤ a)) := fun A R s va vb ra rb E => by
  cases ra; cases rb; exact PyProof.Rows.ge_int ⟨Kp.refl s, rfl⟩
theorem Cmp.eq {a b : PyData} (ha : SeqAt.shaped a = true) (hb : SeqAt.shaped b = true) : Cmp prog w n X .Eq (.d a) (.d b) (PyData.eqv a b) := fun A R s va vb ra rb E => by
  obtain ⟨_, ra⟩ := Rd.reads ra
  obtain ⟨_, rb⟩ := Rd.reads rb
  exact eq_dataH ra rb ha hb R.u64 ⟨Kp.refl s, rfl⟩
theorem Cmp.inStr {x y : Str} : Cmp prog w n X .In (.d (.str y)) (.d (.str x)) (!(Builtin.Str.occurrences x y 0 x.length 1).isEmpty) := fun A R s va vb ra rb E => by
  cases ra; cases rb; exact PyProof.Rows.in_str ⟨Kp.refl s, rfl⟩
theorem VR.lstReads {h : Heap} {v : Value} {a : AV} {xs : List PyData} (r : VR X h v a) (e : a.lst? = some xs) : ∃ as, Reads h v (.list xs) as := by
  obtain ⟨l, rfl, vs, ⟨o, h1, h2, m, h3⟩, h6⟩ := r.lst e
  obtain ⟨as, q⟩ := h6.reads
  exact ⟨_, .list h1 h2 h3 q⟩
theorem Cmp.inList {a : AV} {xs : List PyData} {d : PyData} (e : a.lst? = some xs) (hx : SeqAt.shaped (.list xs) = true) (hd : SeqAt.shaped d = true) (hm : ∀ y ∈ xs, SeqAt.noMix y d = true) : Cmp prog w n X .In (.d d) a (decide (Spec.countIn d xs ≠ 0)) := fun A R s va vb ra rb E => by
  obtain ⟨_, ra⟩ := Rd.reads ra
  obtain ⟨_, rb⟩ := rb.lstReads e
  exact in_list_dataH rb ra hx hd (by have := R.units; omega) hm ⟨Kp.refl s, rfl⟩
end
end Mine
end

section
open PySem PySem.W PyProof.Rows PySem.Calls
set_option Elab.async false
set_option linter.unusedVariables false
namespace Mine
section
variable {prog : Program} {w : World} {n : Nat} {G : Ga} {ρ : Loc}
theorem Ev.int {i : Int} {k : Nat} {pos : Pos} : Ev prog w n G ρ (.Constant (.int i) k pos) (.d (.int i)) := fun _ _ _ => Pu.int
theorem Ev.str {x : Str} {k : Nat} {pos : Pos} : Ev prog w n G ρ (.Constant (.str x) k pos) (.d (.str x)) := fun _ _ _ => Pu.str
theorem Ev.name {x : Str} {pos : Pos} {a : AV} (e : ρ.get x = some a) : Ev prog w n G ρ (.Name x pos) a := fun _ _ F => F.var e
theorem Ev.base {x : Str} {pos : Pos} {v : Value} (e : NameIs prog w G.env G.h₀ x v) : Ev prog w n G ρ (.Name x pos) (.v v) := fun _ _ F => F.base e
theorem Ev.eq {e : Expr} {a b : AV} (p : Ev prog w n G ρ e a) (q : a = b) : Ev prog w n G ρ e b := q ▸ p
theorem EvT.eq {e : Expr} {a b : Bool} (p : EvT prog w n G ρ e a) (q : a = b) : EvT prog w n G ρ e b := q ▸ p
theorem Ev.bin {l r : Expr} {op : Operator} {pos : Pos} {a b c : AV} (p : Ev prog w n G ρ l a) (q : Ev prog w n G ρ r b) (o : ∀ X, Bin prog w n X op a b c) : Ev prog w n G ρ (.BinOp l op r pos) c := fun X h F => Pu.bin F.xok (p X h F) (q X h F) (o X)
theorem Ev.cmp {l r : Expr} {op : CmpOp} {pos : Pos} {a b : AV} {c : Bool} (p : Ev prog w n G ρ l a) (q : Ev prog w n G ρ r b) (o : ∀ X, Cmp prog w n X op a b c) (hm : behindInMarks op r = false := by rfl) :
    Ev prog w n G ρ (.Compare l [op] [r] pos) (.d (.bool c)) := fun X h F => Pu.cmp (p X h F) (q X h F) (o X) hm
theorem EvT.cmp {l r : Expr} {op : CmpOp} {pos : Pos} {a b : AV} {c : Bool} (p : Ev prog w n G ρ l a) (q : Ev prog w n G ρ r b) (o : ∀ X, Cmp prog w n X op a b c) (hm : behindInMarks op r = false := by rfl) :
    EvT prog w n G ρ (.Compare l [op] [r] pos) c := fun X h F => PuT.cmp (p X h F) (q X h F) (o X) hm
theorem EvT.and {e : Expr} {r : List Expr} {pos : Pos} {b c : Bool} (p : EvT prog w n G ρ e b) (q : b = true → EvT prog w n G ρ (.BoolOp .And r pos) c) : EvT prog w n G ρ (.BoolOp .And (e :: r) pos) (b && c) := fun X h F => PuT.and (p X h F) fun e => q e X h F
theorem EvT.and0 {pos : Pos} : EvT prog w n G ρ (.BoolOp .And [] pos) true := fun _ _ _ => PuT.and0
theorem Ev.ifExp {t b o : Expr} {pos : Pos} {c : Bool} {x y : AV} (p : EvT prog w n G ρ t c) (q : c = true → Ev prog w n G ρ b x) (r : c = false → Ev prog w n G ρ o y) : Ev prog w n G ρ (.IfExp t b o pos) (if c = true then x else y) := fun X h F =>
  Pu.ifExp (p X h F) (fun e => q e X h F) fun e => r e X h F
def EvS (prog : Program) (w : World) (n : Nat) (G : Ga) (ρ : Loc) (es : List Expr) (as : List AV) : Prop := ∀ X h, FRx G ρ X h → PuS prog w n X G.env h es as
theorem EvS.nil : EvS prog w n G ρ [] [] := fun _ _ _ => .nil
theorem EvS.cons {e : Expr} {es : List Expr} {a : AV} {as : List AV} (p : Ev prog w n G ρ e a) (q : EvS prog w n G ρ es as) (hs : NoStar (e :: es) = true := by rfl) : EvS prog w n G ρ (e :: es) (a :: as) :=
  fun X h F => .cons (p X h F) (q X h F) (starEach_cons (env := G.env) hs).1
theorem Ev.list {es : List Expr} {ds : List PyData} {pos : Pos} (p : EvS prog w n G ρ es (ds.map .d)) (hz : ds.length ≤ sizeLine := by decide) : Ev prog w n G ρ (.List es pos) (.d (.list ds)) := fun X h F => Pu.list F.xok (p X h F) hz
theorem Ev.tuple {es : List Expr} {ds : List PyData} {k : Nat} {pos : Pos} (p : EvS prog w n G ρ es (ds.map .d)) (hz : ds.length ≤ sizeLine := by decide) : Ev prog w n G ρ (.Tuple es k pos) (.d (.tuple ds)) := fun X h F => Pu.tuple F.xok (p X h F) hz
theorem Ev.call {fe : Expr} {es : List Expr} {pos : Pos} {f : Value} {as : List AV} {c : AV} (p : Ev prog w n G ρ fe (.v f)) (q : EvS prog w n G ρ es as) (k : ∀ X h, FRx G ρ X h → KeepF prog w h f) (cr : ∀ X h, FRx G ρ X h → CallR prog w n X h f as c) (hs : NoStar es = true := by rfl)
    (he : eval (.Call fe es [] pos) G.env = (do callWith pos (← eval fe G.env) [] (backTo pos (starEach es G.env)) (backToKw pos (keywordEach [] G.env))) := by rfl) : Ev prog w n G ρ (.Call fe es [] pos) c := fun X h F =>
  Pu.call F.xok (p X h F) (k X h F) (q X h F) (cr X h F) hs he
theorem meth_he {o : Expr} {name : Str} {apos pos : Pos} {es : List Expr} {env : Env} (hbase : attributeBase o name env (eval o env) = eval o env) (hs : NoStar es = true) (hl : decide (es.length < 29) = true) (hline : (apos.endLine == pos.line) = true) :
    eval (.Call (.Attribute o name apos) es [] pos) env = (do
          let ov ← eval o env
          standAt apos.atName
          let (f, first) ← holding [ov] (getMethod ov name (do return (← importBound o env).getD true))
          callWith pos f first (backTo pos (starEach es env)) []) := by
  have hform : methodCallForm (es.length + ([] : List Keyword).length) (backTo pos (starEach es env)) (backToKw pos (keywordEach [] env)) = true := by
    unfold methodCallForm
    have h1 : (backTo pos (starEach es env)).all (fun x => !x.1) = true := by
      have := noStar_any (env := env) (pos := pos) hs
      rw [List.all_eq_not_any_not]; simpa using this
    have h3 : decide (es.length + ([] : List Keyword).length + (if (backToKw pos (keywordEach [] env)).isEmpty then 0 else 1) < 30) = true := by
      have := of_decide_eq_true hl
      simp only [List.length_nil, decide_eq_true_eq]; split <;> omega
    rw [h1]
    simp only [Bool.true_and]
    exact Bool.and_eq_true_iff.mpr ⟨rfl, h3⟩
  have hpos : methodCallPos true o env apos pos = pure pos := by unfold methodCallPos; simp [hline]
  rw [arm_eval_Call, hbase]
  unfold methodCall
  rw [hform, hpos]
  rfl
theorem Ev.meth {o : Expr} {name : Str} {es : List Expr} {apos pos : Pos} {a : AV} {f : Value} {as : List AV} {c : AV} (p : Ev prog w n G ρ o a) (q : EvS prog w n G ρ es as) (m : ∀ X h, FRx G ρ X h → MethR prog w X h a name f) (k : ∀ X h, FRx G ρ X h → KeepF prog w h f)
    (cr : ∀ X h, FRx G ρ X h → CallR prog w n X h f (a :: as) c) (hs : NoStar es = true := by rfl) (hbase : attributeBase o name G.env (eval o G.env) = eval o G.env := by rfl) (hl : decide (es.length < 29) = true := by rfl) (hline : (apos.endLine == pos.line) = true := by rfl) :
    Ev prog w n G ρ (.Call (.Attribute o name apos) es [] pos) c := fun X h F =>
  Pu.meth F.xok (p X h F) (m X h F) (k X h F) (q X h F) (cr X h F) hs (meth_he hbase hs hl hline)

def GetI (prog : Program) (w : World) (n : Nat) (X : Addr → Prop) (a i c : AV) : Prop :=
  ∀ A, Rm n A → ∀ s va vi, XOk X s.heap → VR X s.heap va a → VR X s.heap vi i → ∃ T id, s.TypeIs va T ∧ typeLookup (.type T) "__getitem__" = pure (some (.builtin id)) ∧ ∀ E, wpAny (model prog w) A (getItem va vi) (fun v s' => Kp s s' ∧ VR X s'.heap v c) E s
theorem Ev.sub {value slice : Expr} {pos : Pos} {a i c : AV} (p : Ev prog w n G ρ value a) (q : Ev prog w n G ρ slice i) (g : ∀ X, GetI prog w n X a i c)
    (hs : ∀ o i, ∃ ops, subscripted slice false o i = operate ops (getItem o i) := by intro o i; exact ⟨_, rfl⟩) : Ev prog w n G ρ (.Subscript value slice pos) c := fun X h F A R s x E => by
  refine Subscript_ ((p X h F).go R x fun va s₁ k₁ x₁ r₁ => (q X h F).go R x₁ fun vi s₂ k₂ x₂ r₂ => ?_)
  obtain ⟨T, id, h1, h2, h3⟩ := g X A R s₂ va vi (F.xok.ext x₂) (r₁.ext (Kp.ext k₂)) r₂
  obtain ⟨ops, hs⟩ := hs va vi
  exact tail_any h1 h2 (wpAny_mono (h3 E) (fun v s' z => ⟨(k₁.trans k₂).trans z.1, z.2⟩) fun _ _ z => z) hs
def EvP (prog : Program) (w : World) (n : Nat) (G : Ga) (ρ : Loc) : Option Expr → Option Int → Prop
  | .none, .none => True
  | some e, some i => Ev prog w n G ρ e (.d (.int i))
  | _, _ => False
theorem EvP.none : EvP prog w n G ρ .none .none := trivial
theorem EvP.some {e : Expr} {i : Int} (p : Ev prog w n G ρ e (.d (.int i))) : EvP prog w n G ρ (.some e) (.some i) := p
theorem EvP.go {X : Addr → Prop} {h : Heap} {e : Option Expr} {i : Option Int} (p : EvP prog w n G ρ e i) (F : FRx G ρ X h) {A : Around} (R : Rm n A) {s : Shared} (x : Ext h s.heap) {Q : Value → Shared → Prop} {E : Value → Shared → Prop}
    (k : ∀ v s', Kp s s' → Ext h s'.heap → IsPart v i → (i = .none → v = .none) → (∀ j, i = .some j → ∃ t, v = .int j t) → Q v s') : wpAny (model prog w) A (evalPart e G.env) Q E s := by
  match e, i, p with
  | .none, .none, _ => rw [evalPart_none]; exact wpAny_pure (k _ s (Kp.refl s) x .none (fun _ => rfl) fun j e => by cases e)
  | .some e, .some i, p =>
    rw [evalPart_some]
    refine Pu.go (p X h F) R x fun v s' k' x' r => ?_
    cases r with
    | int i t => exact k _ s' k' x' (.int ..) (fun e => by cases e) fun j e => by cases e; exact ⟨t, rfl⟩
def cutL {α : Type} (xs : List α) (lo hi : Option Int) : List α := (xs.take ((match hi with | .none => (xs.length : Int) | some j => if j < 0 then j + xs.length else j).toNat)).drop ((match lo with | .none => 0 | some j => if j < 0 then j + xs.length else j).toNat)
def PickOk (lo hi : Option Int) : Prop := (lo = .none ∧ ∃ j, hi = some j ∧ 0 ≤ j) ∨ (hi = .none ∧ ∃ j, lo = some j ∧ (0 ≤ j ∨ j = -1))
theorem cut_pick {items : Array Value} {lo hi : Option Int} (ok : PickOk lo hi) : (slicePick items lo hi .none).toList = cutL items.toList lo hi := by
  rcases ok with ⟨rfl, j, rfl, h0⟩ | ⟨rfl, j, rfl, h0 | rfl⟩
  · obtain ⟨k, rfl⟩ : ∃ k : Nat, j = k := ⟨j.toNat, by omega⟩
    rw [slicePick_upto']
    simp only [cutL]
    rw [if_neg (by omega)]
    simp
  · obtain ⟨k, rfl⟩ : ∃ k : Nat, j = k := ⟨j.toNat, by omega⟩
    rw [slicePick_from']
    simp only [cutL]
    rw [if_neg (by omega)]
    simp [List.take_of_length_le]
  · have := slicePick_last items 1 (Nat.le_refl _)
    rw [show ((-1 : Int)) = -((1 : Nat) : Int) from rfl, this]
    simp only [cutL]
    rw [if_pos (by decide)]
    have e : ((-((1:Nat) : Int)) + (items.toList.length : Int)).toNat = items.size - 1 := by simp; omega
    rw [e]
    simp [List.take_of_length_le]
theorem RdAll.cut {X : Addr → Prop} {h : Heap} {vs : List Value} {ds : List PyData} (r : RdAll X h vs ds) (lo hi : Option Int) : RdAll X h (cutL vs lo hi) (cutL ds lo hi) := by
  unfold cutL
  rw [r.length]
  exact (r.take _).drop _
theorem Ev.sliceL {value : Expr} {lo hi : Option Expr} {sp pos : Pos} {a : AV} {xs : List PyData} {l u : Option Int} (p : Ev prog w n G ρ value a) (ha : a.lst? = some xs) (pl : EvP prog w n G ρ lo l) (pu : EvP prog w n G ρ hi u) (ok : PickOk l u) (hz : xs.length ≤ sizeLine)
    (hs : ∀ o i, ∃ ops, subscripted (.Slice lo hi .none sp) false o i = operate ops (getItem o i) := by intro o i; exact ⟨_, rfl⟩) : Ev prog w n G ρ (.Subscript value (.Slice lo hi .none sp) pos) (.d (.list (cutL xs l u))) := fun X h F A R s x E => by
  refine Subscript_ ((p X h F).go R x fun va s₁ k₁ x₁ r₁ => wpAny_Slice (pl.go F R x₁ fun vl s₂ k₂ x₂ r₂ _ _ => pu.go F R x₂ fun vu s₃ k₃ x₃ r₃ _ _ => ?_))
  rw [evalPart_none]
  refine wpAny_pure ?_
  obtain ⟨b, rfl, vs, hl, hr⟩ := (r₁.ext (Kp.ext (k₂.trans k₃))).lst ha
  obtain ⟨ops, hs⟩ := hs (.ref b) (.ref s₃.heap.objs.size)
  have hl' : (s₃.heap.push { cls := .type "slice", data := .fields #[vl, vu, .none] }).IsList b vs := hl.push _
  refine tail_any (Heap.IsList.typeIs (s := { s₃ with heap := _ }) hl') slot_list_getitem.lookup (wpAny_getItem_list_slice (s := { s₃ with heap := _ }) hl' (Heap.IsSliceOf.new ..) r₂ r₃ .none (by simp) ?_ (by have := hr.length; simp at this; omega)) hs
  have e1 : Ext s₃.heap (s₃.heap.push { cls := .type "slice", data := .fields #[vl, vu, .none] }) := Ext.push _ _
  refine ⟨((k₁.trans k₂).trans k₃).trans (Kp.of s₃ (e1.trans (Ext.push _ _))), .list (Heap.get?_push_size _ rfl) rfl rfl rfl ((F.xok.ext (x₃.trans e1)).new) ?_⟩
  rw [cut_pick ok]
  exact (hr.cut l u).ext (e1.trans (Ext.push _ _))
theorem Ev.sliceS {value : Expr} {lo hi : Option Expr} {sp pos : Pos} {y : Str} {l u : Option Int} (p : Ev prog w n G ρ value (.d (.str y))) (pl : EvP prog w n G ρ lo l) (pu : EvP prog w n G ρ hi u) (hz : y.length ≤ sizeLine)
    (hs : ∀ o i, ∃ ops, subscripted (.Slice lo hi .none sp) false o i = operate ops (getItem o i) := by intro o i; exact ⟨_, rfl⟩) : Ev prog w n G ρ (.Subscript value (.Slice lo hi .none sp) pos) (.d (.str (Txt.slice y l u))) := fun X h F A R s x E => by
  refine Subscript_ ((p X h F).go R x fun va s₁ k₁ x₁ r₁ => wpAny_Slice (pl.go F R x₁ fun vl s₂ k₂ x₂ r₂ n₂ i₂ => pu.go F R x₂ fun vu s₃ k₃ x₃ r₃ n₃ i₃ => ?_))
  rw [evalPart_none]
  refine wpAny_pure ?_
  cases r₁ with
  | str y t =>
    obtain ⟨ops, hs⟩ := hs (.str y t) (.ref s₃.heap.objs.size)
    have hk : KeptH (fun H => Ext s₃.heap H) := fun h ob e => e.trans (Ext.push _ _)
    have fin : ∀ {it : Str} (h' : Heap) (t' : Tok) (k : Nat), Ext s₃.heap h' → Kp s { s₃ with heap := h', toks := k } ∧ VR X h' (.str it t') (.d (.str it)) := fun h' t' k e => ⟨((k₁.trans k₂).trans k₃).trans (Kp.of s₃ e), .str _ _⟩
    have go : ∀ {Q : Value → Shared → Prop} {s' : Shared}, ItemOn (model prog w) A E (.str y t) (.ref s₃.heap.objs.size) Q s' → wpAny (model prog w) A (subscriptTail value (.Slice lo hi .none sp) (.str y t) (.ref s₃.heap.objs.size)) Q E s' := fun I => by
      obtain ⟨T, id, hl, hT, hg⟩ := I
      exact tail_any hT hl hg hs
    cases l with
    | none =>
      cases n₂ rfl
      cases u with
      | none => cases n₃ rfl; exact go (SBH.sliceItem_nn hk (Ext.refl _) (fun h' t' k e => fin h' t' k e) hz)
      | some j => obtain ⟨tj, rfl⟩ := i₃ j rfl; exact go (SBH.sliceItem_ns hk (Ext.refl _) (fun h' t' k e => fin h' t' k e) hz)
    | some i =>
      obtain ⟨ti, rfl⟩ := i₂ i rfl
      cases u with
      | none => cases n₃ rfl; exact go (SBH.sliceItem_sn hk (Ext.refl _) (fun h' t' k e => fin h' t' k e) hz)
      | some j => obtain ⟨tj, rfl⟩ := i₃ j rfl; exact go (SBH.sliceItem_ss hk (Ext.refl _) (fun h' t' k e => fin h' t' k e) hz)
end
section
variable {prog : Program} {w : World} {n : Nat} {X : Addr → Prop}
theorem GetI.str {y : Str} {i : Int} (h0 : 0 ≤ i) (h1 : i < y.length) (h2 : i < 2 ^ 63) : GetI prog w n X (.d (.str y)) (.d (.int i)) (.d (.str (Txt.item y i))) := fun A R s va vi xo ra ri => by
  cases ra with
  | str y t =>
    cases ri with
    | int i u =>
      have hh : fitsSsize i = true := by
        unfold fitsSsize
        simp; omega
      have mk : ∀ E : Value → Shared → Prop, ItemOn (model prog w) A E (.str y t) (.int i u) (fun v s' => Kp s s' ∧ VR X s'.heap v (.d (.str (Txt.item y i)))) s := fun E => SB.item hh (charAt_isSome (by omega) h1) ⟨Kp.of s (Ext.refl _), .str _ _⟩
      refine ⟨_, _, typeIs_str _ _ _, PySem.F.slot_str_getitem.lookup, fun E => ?_⟩
      obtain ⟨T, id, hl, hT, hg⟩ := mk E
      exact hg
end
end Mine
end

section
open PySem PySem.W PyProof.Rows PySem.Calls
set_option Elab.async false
set_option linter.unusedVariables false
set_option maxRecDepth 100000
namespace Mine
section
variable {prog : Program} {w : World} {n : Nat} {X : Addr → Prop} {h : Heap}
theorem Rd.str_inv {X : Addr → Prop} {h : Heap} {v : Value} {x : Str} (r : Rd X h v (.str x)) : ∃ t, v = .str x t := by cases r; exact ⟨_, rfl⟩
theorem RdAll.nil_inv {X : Addr → Prop} {h : Heap} {vs : List Value} (r : RdAll X h vs []) : vs = [] := by cases r; rfl
theorem RdAll.cons_inv {X : Addr → Prop} {h : Heap} {vs : List Value} {d : PyData} {ds : List PyData} (r : RdAll X h vs (d :: ds)) : ∃ u us, vs = u :: us ∧ Rd X h u d ∧ RdAll X h us ds := by
  cases r with
  | cons a b => exact ⟨_, _, rfl, a, b⟩
theorem RdAll.strs {X : Addr → Prop} {h : Heap} {vs : List Value} {ns : List Str} (r : RdAll X h vs (ns.map .str)) : StrsAre vs ns := by
  induction ns generalizing vs with
  | nil => rw [RdAll.nil_inv r]; exact .nil
  | cons n ns ih =>
    obtain ⟨u, us, rfl, a, b⟩ := RdAll.cons_inv r
    obtain ⟨t, rfl⟩ := a.str_inv
    exact .cons _ _ (ih b)
theorem CallR.one {f : Value} {a c : AV} (k : ∀ A, Rm n A → ∀ s v, Ext h s.heap → XOk X s.heap → VR X s.heap v a → ∀ E, wpAny (model prog w) A (call f [v]) (fun v s' => Kp s s' ∧ VR X s'.heap v c) E s) : CallR prog w n X h f [a] c := fun A R s x xo vs rs E => by
  cases rs with
  | cons r rs => cases rs; exact k A R s _ x xo r E
theorem CallR.two {f : Value} {a b c : AV} (k : ∀ A, Rm n A → ∀ s v u, Ext h s.heap → XOk X s.heap → VR X s.heap v a → VR X s.heap u b → ∀ E, wpAny (model prog w) A (call f [v, u]) (fun v s' => Kp s s' ∧ VR X s'.heap v c) E s) : CallR prog w n X h f [a, b] c := fun A R s x xo vs rs E => by
  cases rs with
  | cons r rs =>
    cases rs with
    | cons r' rs => cases rs; exact k A R s _ _ x xo r r' E
theorem CallR.len {a : AV} {xs : List PyData} (e : a.lst? = some xs) (hz : (xs.length : Int) < 2 ^ 63) : CallR prog w n X h (.builtin "len") [a] (.d (.int xs.length)) := .one fun A R s v x xo r E => by
  obtain ⟨b, rfl, vs, hl, hr⟩ := r.lst e
  have hlen : vs.size = xs.length := by rw [← hr.length]; simp
  exact len_list hl (by rw [hlen]; exact hz) ⟨Kp.of s (Ext.refl _), by rw [hlen]; exact .int _ _⟩
theorem CallR.divmod {i j : Int} (hb : j ≠ 0) (hp : Builtin.divisionGoesByPylong i j = false) : CallR prog w n X h (.builtin "divmod") [.d (.int i), .d (.int j)] (.d (.tuple [.int (i.fdiv j), .int (i.fmod j)])) := .two fun A R s v u x xo r r' E => by
  cases r; cases r'
  refine divmod_int hb ⟨Kp.of s (Ext.push _ _), .tuple (Heap.get?_push_size _ rfl) rfl rfl xo.new (.cons (.int _ _) (.cons (.int _ _) .nil))⟩ (.inl hp)
theorem CallR.join {y : Str} {a : AV} {ys : List Str} (e : a.lst? = some (ys.map .str)) (hz : (ys.map fun z => z.length).sum + ys.length * y.length ≤ 16777216) : CallR prog w n X h (.builtin "str.join") [.d (.str y), a] (.d (.str (Txt.join y ys))) := .two fun A R s v u x xo r r' E => by
  cases r
  obtain ⟨b, rfl, vs, hl, hr⟩ := r'.lst e
  exact join_list hl hr.strs hz fun t' k => ⟨Kp.of s (Ext.refl _), .str _ _⟩
theorem CallR.scount {y z : Str} : CallR prog w n X h (.builtin "str.count") [.d (.str y), .d (.str z)] (.d (.int (Txt.count y z))) := .two fun A R s v u x xo r r' E => by
  cases r; cases r'
  exact SC.count ⟨Kp.of s (Ext.refl _), .int _ _⟩
theorem CallR.sindex {y z : Str} {i : Nat} {rest : List Nat} (ho : Builtin.Str.occurrences y z 0 y.length 1 = i :: rest) : CallR prog w n X h (.builtin "str.index") [.d (.str y), .d (.str z)] (.d (.int i)) := .two fun A R s v u x xo r r' E => by
  cases r; cases r'
  exact SC.index ho ⟨Kp.of s (Ext.refl _), .int _ _⟩
theorem MethR.str {y : Str} {name : Str} {id : String} (k : ∀ {M : Model} {A : Around} {E : Value → Shared → Prop} {s : Shared} {t : Tok} {pl : Sem Bool} {Q : Value × List Value → Shared → Prop}, Q (.builtin id, [.str y t]) s → wpAny M A (getMethod (.str y t) name pl) Q E s) : MethR prog w X h (.d (.str y)) name (.builtin id) :=
  fun A s v x r pl Q E q => by cases r; exact k q
theorem Ev.neg {G : Ga} {ρ : Loc} {e : Expr} {pos : Pos} {i : Int} (p : Ev prog w n G ρ e (.d (.int i))) : Ev prog w n G ρ (.UnaryOp .USub e pos) (.d (.int (-i))) := fun X h F A R s x E =>
  wpAny_UnaryOp ((p X h F).go R x fun v s₁ k₁ x₁ r₁ => by cases r₁; exact P.neg_int ⟨k₁.trans (Kp.of s₁ (Ext.refl _)), .int _ _⟩)
theorem Bin.catL {a b : AV} {xs ys : List PyData} (ha : a.lst? = some xs) (hb : b.lst? = some ys) (hz : xs.length + ys.length ≤ sizeLine) : Bin prog w n X .Add a b (.d (.list (xs ++ ys))) := fun A R s va vb xo ra rb E => by
  obtain ⟨p, rfl, vs, hl, hr⟩ := ra.lst ha
  obtain ⟨q, rfl, us, hl', hr'⟩ := rb.lst hb
  obtain ⟨⟨cls, dd, data, sl⟩, ho, hc, m, hd⟩ := id hl
  obtain ⟨⟨cls2, dd2, data2, sl2⟩, ho2, hc2, m2, hd2⟩ := id hl'
  simp only at hc hd hc2 hd2
  subst hc hd hc2 hd2
  have l1 := hr.length
  have l2 := hr'.length
  simp only [Array.length_toList] at l1 l2
  refine concat_meets ⟨_, ho, rfl⟩ ⟨_, ho2, rfl⟩ noFill_list_add seq_list_add PySem.F.slot_list_add PySem.F.entry_list_add (PySem.F.args_list_add_2 _ _) (list_addW p q vs us m m2 dd dd2 sl sl2 (by omega)) ⟨ho, ho2, ?_⟩
  refine ⟨Kp.of s (Ext.push _ _), .list (Heap.get?_push_size _ rfl) rfl rfl rfl (XOk.new (X := X) (h := s.heap) xo) ?_⟩
  rw [Array.toList_append]
  exact (hr.append hr').ext (Ext.push _ _)
theorem Cmp.bne {a b : Bool} : Cmp prog w n X .NotEq (.d (.bool a)) (.d (.bool b)) (a != b) := fun A R s va vb ra rb E => by
  cases ra; cases rb; exact ne_bool ⟨Kp.refl s, rfl⟩
theorem Ev.and2 {G : Ga} {ρ : Loc} {e₁ e₂ : Expr} {pos : Pos} {b c : Bool} (p : Ev prog w n G ρ e₁ (.d (.bool b))) (q : b = true → Ev prog w n G ρ e₂ (.d (.bool c))) : Ev prog w n G ρ (.BoolOp .And [e₁, e₂] pos) (.d (.bool (b && c))) := fun X h F A R s x E => by
  refine BoolOp_and ((p X h F).go R x fun v s₁ k₁ x₁ r₁ => ?_)
  cases r₁
  refine wpAny_truthy_bool ?_
  cases b with
  | false => exact ⟨k₁, .bool _⟩
  | true => exact BoolOp_one ((q rfl X h F).go R x₁ fun v s₂ k₂ x₂ r₂ => ⟨k₁.trans k₂, r₂⟩)
end
end Mine
end

section
open PySem PySem.W PyProof.Rows PySem.Calls
set_option Elab.async false
set_option linter.unusedVariables false
set_option maxRecDepth 100000
namespace Mine
def thaw : AV → AV
  | .own xs => .d (.list xs)
  | a => a
def Loc.thaw (ρ : Loc) : Loc := ⟨ρ.ns.map fun p => (p.1, Mine.thaw p.2), ρ.lg⟩
theorem Loc.thaw_get (ρ : Loc) (x : Str) : ρ.thaw.get x = (ρ.get x).map Mine.thaw := by
  unfold Loc.thaw Loc.get
  generalize ρ.ns = l
  induction l with
  | nil => rfl
  | cons p r ih =>
    obtain ⟨y, a⟩ := p
    rw [List.map_cons, List.lookup_cons, List.lookup_cons]
    cases x == y with
    | true => rfl
    | false => exact ih
section
variable {prog : Program} {w : World} {n : Nat} {G : Ga} {ρ : Loc}
theorem FRx.thaw {X : Addr → Prop} {h : Heap} (F : FRx G ρ X h) : FRx G ρ.thaw (fun p => G.Y p ∨ G.Z p ∨ InLg ρ.lg p) h ∧ ∀ p, (G.Y p ∨ G.Z p ∨ InLg ρ.lg p) → X p := by
  obtain ⟨m, cm, f, l, u, u0, ld⟩ := F.ex
  have sub : ∀ p, (G.Y p ∨ G.Z p ∨ InLg ρ.lg p) → X p := fun p z => by
    rcases z with z | z | ⟨q, hq, rfl⟩
    · exact f.yx p z
    · exact f.zx p z
    · exact (ld q hq).2.1
  have mv : Mv X (fun p => G.Y p ∨ G.Z p ∨ InLg ρ.lg p) h h := Mv.sub sub
  have no : ∀ x xs, ρ.thaw.get x ≠ some (.own xs) := fun x xs z => by
    rw [Loc.thaw_get] at z
    cases e : ρ.get x with
    | none => rw [e] at z; cases z
    | some a => rw [e] at z; cases a <;> cases z
  refine ⟨⟨m, cm, ⟨f.kind, f.ext, f.ns, f.cell, f.inj, f.has, f.fresh, fun p z => f.xok p (sub p z), fun p z => f.xy p (sub p z), fun p z => .inl z, f.y0, fun p z => f.xo p (sub p z), fun p z => .inr (.inl z)⟩, fun x a q => ?_, fun x y xs ys v q => absurd q (no x xs), fun x xs p q => absurd q (no x xs), fun p hp => ⟨(ld p hp).1, .inr (.inr ⟨p, hp, rfl⟩), (ld p hp).2.2⟩⟩, sub⟩
  rw [Loc.thaw_get] at q
  cases e : ρ.get x with
  | none => rw [e] at q; cases q
  | some b =>
    rw [e] at q
    obtain ⟨v, h1, h2, h3⟩ := l x b e
    refine ⟨v, h1, ?_, h3⟩
    cases b with
    | d t => cases q; exact Rd.mv mv h2
    | own xs =>
      cases q
      obtain ⟨c, vs, d1, d2, ⟨k, d3⟩, d4⟩ := h2
      subst d1
      obtain ⟨u1, u2, u3⟩ := u0 x _ _ e h1
      refine .list d3 rfl rfl rfl (fun z => ?_) (d4.mv mv)
      rcases z with z | z | ⟨q, hq, e'⟩
      · rcases f.y0 _ z with z | z
        · rw [u1] at z; cases z
        · exact u2 z
      · exact u2 z
      · exact u3 q hq e'
    | arr xs => cases q; exact VR.mvNo (a := .arr xs) mv (fun _ z => by cases z) h2
    | v t => cases q; exact h2
theorem OutR.thaw {X X' : Addr → Prop} {s s' : Shared} {o : Out} {fl : Flow} (sub : ∀ p, X' p → X p) (g : OutR G X' s o fl s') : OutR G X s o fl s' := by
  have go : ∀ {r : Loc}, Goes G X' s r s' → Goes G X s r s' := fun ⟨a, b, X'', c, d⟩ => ⟨a, fun p o e q z => b p o e q fun y => z (sub p y), X'', c, fun p z => (d p z).imp (sub p) id⟩
  cases o with
  | next r => exact ⟨g.1, go g.2⟩
  | brk r => exact ⟨g.1, go g.2⟩
  | cont r => exact ⟨g.1, go g.2⟩
  | ret d lg =>
    obtain ⟨v, e, ⟨a, b, c, d, e', f, g⟩⟩ := g
    exact ⟨v, e, a, fun p o e q z => b p o e q fun y => z (sub p y), c, d, e', f, g⟩
theorem Ex.thaw {ss : List Stmt} {Φ : Out → Prop} (p : Ex prog w n G ρ.thaw ss Φ) : Ex prog w n G ρ ss Φ := fun A R s X F E => by
  obtain ⟨F', sub⟩ := F.thaw
  exact wpAny_mono (p A R s _ F' E) (fun fl s' z => let ⟨o, a, b⟩ := z; ⟨o, a, b.thaw sub⟩) fun _ _ z => z
theorem Ex.eqL {ρ' : Loc} {ss : List Stmt} {Φ : Out → Prop} (e : ρ = ρ') (p : Ex prog w n G ρ' ss Φ) : Ex prog w n G ρ ss Φ := e ▸ p
theorem Ex1.assignT {es : List Expr} {k : Nat} {p₁ p₂ : Pos} {e : Expr} {d : PyData} {ρ' : Loc} {Φ : Out → Prop} (p : Ev prog w n G ρ e (.d d)) (hb : bindT (.Tuple es k p₁) d ρ = some ρ') (ht : stoT G (.Tuple es k p₁) = true) (q : Φ (.next ρ'))
    (hs : swapsWithSole [.Tuple es k p₁] e p₂.line G.env = pure false := by rfl) (hw : swappedStores [.Tuple es k p₁] e G.env = pure none := by rfl) : Ex1 prog w n G ρ (.Assign [.Tuple es k p₁] e p₂) Φ := fun A R s X F E => by
  refine Assign_Tuple ((p X _ F).go R (Ext.refl _) fun v s₁ k₁ x₁ r₁ => ?_) hs hw
  exact assign_fr R.handled (F.mono x₁) r₁ hb ht fun h' tk k F' => ⟨_, q, rfl, (Goes.of k.k F').kp k₁⟩
end
structure Base (K : Frag) (mg mb : Str → Option Value) (h : Heap) : Prop where
  inn : K.In h
  g : h.Ns mainGlobals mg
  b : h.Ns builtinsNs mb
  bb : ∀ x : Str, x ≠ "__name__" → mb x = bootBuiltins x
  nolimit : h.NoLimit
  bm : ∃ bm ob, mg "__builtins__" = some (.ref bm) ∧ bm ≠ builtinsNs ∧ h.get? bm = some ob ∧ ob.cls = .type "module" ∧ ob.dict = some builtinsNs ∧ ob.data = .plain
theorem Base.ext {K : Frag} {mg mb : Str → Option Value} {h h' : Heap} (B : Base K mg mb h) (e : Ext h h') : Base K mg mb h' :=
  ⟨B.inn.keeps e, B.g.keeps e, B.b.keeps e, B.bb, B.nolimit.keeps e, let ⟨a, b, c, d, x, y⟩ := B.bm; ⟨a, b, c, d, e _ _ x, y⟩⟩
theorem Base.at {K : Frag} {mg mb : Str → Option Value} {h : Heap} (B : Base K mg mb h) {a : Addr} {o : Obj} (e : K.lookup a = some o) : h.get? a = some o := B.inn _ _ e
def globalsOf (K : Frag) : Array DictEntry := match K.lookup mainGlobals with
  | some ⟨_, _, .dict es _, _⟩ => es
  | _ => #[]
theorem Base.mg {K : Frag} {mg mb : Str → Option Value} {h : Heap} (B : Base K mg mb h) {x : Str} {v : Option Value} (hg : (K.lookup mainGlobals).isSome = true) (e : nsFind (globalsOf K) x = v) : mg x = v := by
  obtain ⟨o, es, ep, h1, h2, h3, h4⟩ := B.g
  obtain ⟨o', h5⟩ := Option.isSome_iff_exists.mp hg
  have := B.at h5
  rw [h1] at this; cases this
  unfold globalsOf at e
  rw [h5] at e
  obtain ⟨c, d, dt, sl⟩ := o
  dsimp only at h2 e
  subst h2
  rw [← h4]; exact e
structure Cx (K : Frag) (mg mb : Str → Option Value) (h : Heap) (G : Ga) : Prop where
  base : Base K mg mb h
  ext : Ext h G.h₀
  av : Av G.Y h
  fn : G.env.scope.kind = .function
  gl : G.env.globals = mainGlobals
  bl : G.env.builtins = builtinsNs
section
variable {prog : Program} {w : World} {n : Nat} {G : Ga} {ρ : Loc} {K : Frag} {mg mb : Str → Option Value} {h : Heap}
theorem Cx.x (c : Cx K mg mb h G) {X : Addr → Prop} {h' : Heap} (F : FRx G ρ X h') : Ext h h' ∧ Av X h := ⟨c.ext.trans F.ext, fun p z => by
  obtain ⟨m, cm, f, _⟩ := F.ex
  rcases f.xy p z with z | z
  · exact c.av p z
  · exact none_of_ext c.ext z⟩
theorem Cx.glob (c : Cx K mg mb h G) {x : Str} {pos : Pos} {v : Value} (e : mg x = some v) (hl : G.env.kindOf x = some .globalImplicit := by rfl) (hd : (x == ("__debug__" : Str)) = false := by rfl) : Ev prog w n G ρ (.Name x pos) (.v v) :=
  .base (.global c.fn hl (c.gl ▸ c.base.g.keeps c.ext) e hd)
theorem Cx.blt (c : Cx K mg mb h G) {x : Str} {pos : Pos} {v : Value} (e : mg x = none) (e' : bootBuiltins x = some v) (hn : x ≠ "__name__") (hl : G.env.kindOf x = some .globalImplicit := by rfl) (hd : (x == ("__debug__" : Str)) = false := by rfl) : Ev prog w n G ρ (.Name x pos) (.v v) :=
  .base (.builtin c.fn hl (c.gl ▸ c.base.g.keeps c.ext) e (c.bl ▸ c.base.b.keeps c.ext) ((c.base.bb x hn).trans e') hd)
theorem Cx.keepF {q : Addr} {oc : Value} {od : Option Addr} {fd : FuncData} {sl : Array (Option Value)} (e : h.get? q = some ⟨oc, od, .func fd, sl⟩) {h' : Heap} (x : Ext h h') : KeepF prog w h' (.ref q) := fun h'' x' => keeps_F h'' ⟨oc, od, fd, sl, x' _ _ (x _ _ e)⟩
theorem Cx.call (c : Cx K mg mb h G) {fe : Expr} {es : List Expr} {pos : Pos} {q : Addr} {as : List AV} {r : AV} {oc : Value} {od : Option Addr} {fd : FuncData} {sl : Array (Option Value)} (p : Ev prog w n G ρ fe (.v (.ref q))) (ar : EvS prog w n G ρ es as)
    (e : h.get? q = some ⟨oc, od, .func fd, sl⟩) (cr : ∀ X, Av X h → CallR prog w n X h (.ref q) as r) (hs : NoStar es = true := by rfl)
    (he : eval (.Call fe es [] pos) G.env = (do callWith pos (← eval fe G.env) [] (backTo pos (starEach es G.env)) (backToKw pos (keywordEach [] G.env))) := by rfl) : Ev prog w n G ρ (.Call fe es [] pos) r :=
  Ev.call p ar (fun X h' F => Cx.keepF e (c.x F).1) (fun X h' F => (cr X (c.x F).2).mono (c.x F).1) hs he
theorem Cx.comp (c : Cx K mg mb h G) {scope : Scope} {G' : Ga} (o : CompOf G scope G') (hk : scope.kind = .function := by rfl) : Cx K mg mb h G' := by
  obtain ⟨⟨C, e⟩, x, y⟩ := o
  refine ⟨c.base, c.ext.trans x, fun p z => ?_, ?_, ?_, ?_⟩
  · rcases y p z with z | z
    · exact c.av p z
    · exact none_of_ext c.ext z
  · rw [e]; exact hk
  · rw [e]; exact c.gl
  · rw [e]; exact c.bl
theorem Cx.called {X : Addr → Prop} {lg : List (Addr × Obj)} {fd : FuncData} {a : Addr} (B : Base K mg mb h) (o : Called h X lg fd a G) (hk : fd.scope.kind = .function := by rfl) (hg : fd.globals = mainGlobals := by rfl) (hb : fd.builtins = builtinsNs := by rfl) : Cx K mg mb h G := by
  obtain ⟨⟨L, e⟩, x, y, av⟩ := o
  refine ⟨B, x, y ▸ av, ?_, ?_, ?_⟩
  · rw [e]; exact hk
  · rw [e]; exact hg
  · rw [e]; exact hb
theorem Cx.clos {X : Addr → Prop} {lg : List (Addr × Obj)} {fd : FuncData} {a : Addr} (B : Base K mg mb h) (o : CalledC h X lg fd a G) (hk : fd.scope.kind = .function := by rfl) (hg : fd.globals = mainGlobals := by rfl) (hb : fd.builtins = builtinsNs := by rfl) : Cx K mg mb h G := by
  obtain ⟨⟨L, e⟩, x, y, av⟩ := o
  refine ⟨B, x, y ▸ av, ?_, ?_, ?_⟩
  · rw [e]; exact hk
  · rw [e]; exact hg
  · rw [e]; exact hb
end
end Mine
end

section
open PySem PySem.W PyProof.Rows PySem.Calls
set_option Elab.async false
set_option linter.unusedVariables false
set_option maxRecDepth 100000
namespace Mine
def Sub (a b : Loc) : Prop := (∀ y v, a.get y = some v → b.get y = some v) ∧ a.lg = b.lg
def SubL : List (Str × AV) → Loc → Prop
  | [], _ => True
  | (y, v) :: r, b => b.get y = some v ∧ SubL r b
theorem Sub.of {a b : Loc} (h : SubL a.ns b) (e : a.lg = b.lg := by rfl) : Sub a b := by
  refine ⟨fun y v q => ?_, e⟩
  have key : ∀ (l : List (Str × AV)), SubL l b → l.lookup y = some v → b.get y = some v := by
    intro l
    induction l with
    | nil => intro _ q; simp at q
    | cons p r ih =>
      intro h q
      obtain ⟨z, u⟩ := p
      rw [List.lookup_cons] at q
      cases hy : y == z with
      | true => rw [hy] at q; cases q; rw [beq_iff_eq.mp hy]; exact h.1
      | false => rw [hy] at q; exact ih h.2 q
  exact key _ h q
theorem Sub.refl (a : Loc) : Sub a a := ⟨fun _ _ e => e, rfl⟩
theorem Sub.set {a b : Loc} (s : Sub a b) (x : Str) (v : AV) : Sub (a.set x v) (b.set x v) := by
  refine ⟨fun y u e => ?_, s.2⟩
  rw [Loc.get_set] at e ⊢
  split
  · rename_i h; rw [if_pos h] at e; exact e
  · rename_i h; rw [if_neg h] at e; exact s.1 y u e
theorem bindN_sub : ∀ {xs : List Str} {ds : List PyData} {a b a' : Loc}, Sub a b → bindN xs ds a = some a' → ∃ b', bindN xs ds b = some b' ∧ Sub a' b' := by
  intro xs
  induction xs with
  | nil =>
    intro ds a b a' s h
    cases ds with
    | nil => cases h; exact ⟨b, rfl, s⟩
    | cons d ds => exact absurd h (fun z => by cases z)
  | cons x xs ih =>
    intro ds a b a' s h
    cases ds with
    | nil => exact absurd h (fun z => by cases z)
    | cons d ds => exact ih (s.set x (.d d)) h
theorem bindT_sub {t : Expr} {d : PyData} {a b a' : Loc} (s : Sub a b) (h : bindT t d a = some a') : ∃ b', bindT t d b = some b' ∧ Sub a' b' := by
  obtain ⟨p, ds, _, _, _, e4, e5⟩ := bindT_eq h
  obtain ⟨b', h1, h2⟩ := bindN_sub s e4
  exact ⟨b', (e5 b).trans h1, h2⟩
def Nx (ρf : Loc) : Out → Prop
  | .next ρ => Sub ρf ρ
  | _ => False
def TurnC (P : Prop) (c : Loc) (B : Loc → Prop) (Φ : Out → Prop) : Out → Prop
  | .next ρ => P ∧ Sub c ρ
  | .cont ρ => P ∧ Sub c ρ
  | .brk ρ => B ρ
  | .ret d lg => Φ (.ret d lg)
section
variable {prog : Program} {w : World} {n : Nat} {G : Ga} {ρ : Loc}
theorem Ex.sub {ρ' : Loc} {ss : List Stmt} {Φ : Out → Prop} (s : Sub ρ' ρ) (p : Ex prog w n G ρ' ss Φ) : Ex prog w n G ρ ss Φ := fun A R st X F E => p A R st X (F.forget s.1 (by rw [s.2]; exact fun _ h => h)) E
theorem Ex.then_ (ρf : Loc) {st : Stmt} {ss : List Stmt} {Φ : Out → Prop} (p : Ex1 prog w n G ρ st (Nx ρf)) (q : Ex prog w n G ρf ss Φ) : Ex prog w n G ρ (st :: ss) Φ :=
  .cons (p.mono fun o e => by cases o <;> first | exact q.sub e | exact e.elim)
theorem Ex1.forC {target iter : Expr} {body orelse : List Stmt} {pos : Pos} {ds : List PyData} {Φ : Out → Prop} (c : Nat → Loc) (P : Nat → Prop) (B : Loc → Prop)
    (p : ∀ X h, FRx G ρ X h → ItP prog w n X G.env h target iter True ds) (ht : stoT G target = true) (h0 : Sub (c 0) ρ) (p0 : P 0)
    (turn : ∀ i d, ds[i]? = some d → P i → ∃ ρ₂, bindT target d (c i) = some ρ₂ ∧ Ex prog w n G ρ₂ body (TurnC (P (i + 1)) (c (i + 1)) B Φ))
    (fin : P ds.length → Ex prog w n G (c ds.length) orelse Φ) (brk : ∀ ρ₁, B ρ₁ → Φ (.next ρ₁))
    (hs : ∀ x, foldedSetIterable iter G.env x = pure x := by intro _; rfl) : Ex1 prog w n G ρ (.For target iter body orelse pos) Φ := by
  refine Ex1.for_ (fun i ρ₁ => P i ∧ Sub (c i) ρ₁) B ht p ⟨p0, h0⟩ (fun i d ρ₁ hd hJ => ?_) (fun ρ₁ hJ => (fin hJ.1).sub hJ.2) brk hs
  obtain ⟨ρ₂, hb, ex⟩ := turn i d hd hJ.1
  obtain ⟨b', hb', s'⟩ := bindT_sub hJ.2 hb
  exact ⟨b', hb', (ex.sub s').mono fun o e => by cases o <;> exact e⟩
theorem Ex1.forN {target iter : Expr} {body : List Stmt} {pos : Pos} {ds : List PyData} {Φ : Out → Prop} (c : Nat → Loc) 
    (p : ∀ X h, FRx G ρ X h → ItP prog w n X G.env h target iter True ds) (ht : stoT G target = true) (h0 : Sub (c 0) ρ)
    (turn : ∀ i d, ds[i]? = some d → ∃ ρ₂, bindT target d (c i) = some ρ₂ ∧ Ex prog w n G ρ₂ body (Nx (c (i + 1))))
    (fin : Φ (.next (c ds.length)))
    (hs : ∀ x, foldedSetIterable iter G.env x = pure x := by intro _; rfl) : Ex1 prog w n G ρ (.For target iter body [] pos) Φ :=
  Ex1.forC c (fun _ => True) (fun _ => False) p ht h0 trivial (fun i d hd _ => let ⟨ρ₂, a, b⟩ := turn i d hd; ⟨ρ₂, a, b.mono fun o e => by cases o <;> first | exact ⟨trivial, e⟩ | exact e.elim⟩) (fun _ => Ex.nil fin) (fun _ h => h.elim) hs
end
end Mine
namespace Mine
def rdL (f : Value → Option PyData) : List Value → Option (List PyData)
  | [] => some []
  | v :: vs => match f v, rdL f vs with
    | some d, some ds => some (d :: ds)
    | _, _ => none
def rdA (K : Frag) (f : Value → Option PyData) : Value → Option PyData
  | .none => some .none
  | .bool b => some (.bool b)
  | .int i _ => some (.int i)
  | .str x _ => some (.str x)
  | .ref a => match K.lookup a with
    | some o => if o.cls == .type "tuple" then (match o.data with | .seq vs _ => (rdL f vs.toList).map .tuple | _ => none) else none
    | _ => none
  | _ => none
def rdK (K : Frag) : Nat → Value → Option PyData
  | 0, _ => none
  | n + 1, v => rdA K (rdK K n) v
theorem rdL_ok {f : Value → Option PyData} {h : Heap} {X : Addr → Prop} (ih : ∀ v d, f v = some d → Rd X h v d) : ∀ vs ds, rdL f vs = some ds → RdAll X h vs ds := by
  intro vs
  induction vs with
  | nil => intro ds e; cases e; exact .nil
  | cons v vs ihv =>
    intro ds e
    unfold rdL at e
    split at e
    · rename_i d ds' e1 e2
      cases e
      exact .cons (ih _ _ e1) (ihv _ e2)
    · cases e
theorem rdK_ok {K : Frag} {mg mb : Str → Option Value} {h : Heap} (B : Base K mg mb h) {X : Addr → Prop} (av : Av X h) : ∀ (n : Nat) (v : Value) (d : PyData), rdK K n v = some d → Rd X h v d := by
  intro n
  induction n with
  | zero => intro v d e; cases e
  | succ n ih =>
    intro v d e
    have e : rdA K (rdK K n) v = some d := e
    unfold rdA at e
    split at e <;> first | (cases e; constructor; done) | (cases e; done) | skip
    split at e
    · rename_i o hK
      split at e
      · rename_i hc
        split at e
        · rename_i vs k hd
          cases hm : rdL (rdK K n) vs.toList with
          | none => rw [hm] at e; cases e
          | some ds =>
            rw [hm] at e; cases e
            have g := B.at hK
            refine .tuple g (by simpa using hc) hd (fun z => ?_) (rdL_ok ih _ _ hm)
            rw [av _ z] at g; cases g
        · cases e
      · cases e
    · cases e
section
variable {prog : Program} {w : World} {n : Nat} {G : Ga} {ρ : Loc} {K : Frag} {mg mb : Str → Option Value} {h : Heap}
theorem Cx.globD (c : Cx K mg mb h G) {x : Str} {pos : Pos} {v : Value} {d : PyData} (e : mg x = some v) (k : Nat) (er : rdK K k v = some d) (hl : G.env.kindOf x = some .globalImplicit := by rfl) (hd : (x == ("__debug__" : Str)) = false := by rfl) : Ev prog w n G ρ (.Name x pos) (.d d) := fun X h' F =>
  let ⟨e1, av⟩ := c.x F
  .name ((NameIs.global c.fn hl (c.gl ▸ c.base.g.keeps c.ext) e hd).mono F.ext) ((rdK_ok c.base av k v d er).ext e1)
end
end Mine
end

section
open PySem PySem.W PyProof.Rows PySem.Calls
set_option Elab.async false
set_option linter.unusedVariables false
set_option maxRecDepth 100000
namespace Mine
section
variable {prog : Program} {w : World} {n : Nat} {G : Ga} {ρ : Loc} {K : Frag} {mg mb : Str → Option Value} {h : Heap}
theorem Ev.join {o e : Expr} {apos pos : Pos} {y : Str} {a : AV} {ys : List Str} (p : Ev prog w n G ρ o (.d (.str y))) (q : Ev prog w n G ρ e a) (ha : a.lst? = some (ys.map .str)) (hz : (ys.map fun z => z.length).sum + ys.length * y.length ≤ 16777216)
    (hs : NoStar [e] = true := by rfl) (hbase : attributeBase o "join" G.env (eval o G.env) = eval o G.env := by rfl) (hline : (apos.endLine == pos.line) = true := by rfl) : Ev prog w n G ρ (.Call (.Attribute o "join" apos) [e] [] pos) (.d (.str (Txt.join y ys))) :=
  Ev.meth (f := .builtin "str.join") (as := [a]) p (EvS.cons q EvS.nil hs) (fun X h' F => MethR.str fun h => GM.join h) (fun _ _ _ => KeepF.builtin) (fun X h' F => CallR.join ha hz) hs hbase rfl hline
theorem Ev.scount {o e : Expr} {apos pos : Pos} {y z : Str} (p : Ev prog w n G ρ o (.d (.str y))) (q : Ev prog w n G ρ e (.d (.str z)))
    (hs : NoStar [e] = true := by rfl) (hbase : attributeBase o "count" G.env (eval o G.env) = eval o G.env := by rfl) (hline : (apos.endLine == pos.line) = true := by rfl) : Ev prog w n G ρ (.Call (.Attribute o "count" apos) [e] [] pos) (.d (.int (Txt.count y z))) :=
  Ev.meth (f := .builtin "str.count") (as := [.d (.str z)]) p (EvS.cons q EvS.nil hs) (fun X h' F => MethR.str fun h => GM.count h) (fun _ _ _ => KeepF.builtin) (fun X h' F => CallR.scount) hs hbase rfl hline
theorem Ev.sindex {o e : Expr} {apos pos : Pos} {y z : Str} {i : Nat} {rest : List Nat} (p : Ev prog w n G ρ o (.d (.str y))) (q : Ev prog w n G ρ e (.d (.str z))) (ho : Builtin.Str.occurrences y z 0 y.length 1 = i :: rest)
    (hs : NoStar [e] = true := by rfl) (hbase : attributeBase o "index" G.env (eval o G.env) = eval o G.env := by rfl) (hline : (apos.endLine == pos.line) = true := by rfl) : Ev prog w n G ρ (.Call (.Attribute o "index" apos) [e] [] pos) (.d (.int i)) :=
  Ev.meth (f := .builtin "str.index") (as := [.d (.str z)]) p (EvS.cons q EvS.nil hs) (fun X h' F => MethR.str fun h => GM.index h) (fun _ _ _ => KeepF.builtin) (fun X h' F => CallR.sindex ho) hs hbase rfl hline
theorem Cx.bcall1 (c : Cx K mg mb h G) {x : Str} {e : Expr} {p₁ pos : Pos} {f : String} {a r : AV} (g : mg x = none) (b : bootBuiltins x = some (.builtin f)) (hn : x ≠ "__name__") (q : Ev prog w n G ρ e a) (cr : ∀ X h', CallR prog w n X h' (.builtin f) [a] r)
    (hs : NoStar [e] = true := by rfl) (hl : G.env.kindOf x = some .globalImplicit := by rfl) (hd : (x == ("__debug__" : Str)) = false := by rfl) (he : eval (.Call (.Name x p₁) [e] [] pos) G.env = (do callWith pos (← eval (.Name x p₁) G.env) [] (backTo pos (starEach [e] G.env)) (backToKw pos (keywordEach [] G.env))) := by rfl) :
    Ev prog w n G ρ (.Call (.Name x p₁) [e] [] pos) r :=
  Ev.call (f := .builtin f) (as := [a]) (c.blt g b hn hl hd) (EvS.cons q EvS.nil hs) (fun _ _ _ => KeepF.builtin) (fun X h' F => cr X h') hs he
theorem Cx.bcall2 (c : Cx K mg mb h G) {x : Str} {e e₂ : Expr} {p₁ pos : Pos} {f : String} {a b r : AV} (g : mg x = none) (bb : bootBuiltins x = some (.builtin f)) (hn : x ≠ "__name__") (q : Ev prog w n G ρ e a) (q₂ : Ev prog w n G ρ e₂ b) (cr : ∀ X h', CallR prog w n X h' (.builtin f) [a, b] r)
    (hs : NoStar [e, e₂] = true := by rfl) (hs₂ : NoStar [e₂] = true := by rfl) (hl : G.env.kindOf x = some .globalImplicit := by rfl) (hd : (x == ("__debug__" : Str)) = false := by rfl) (he : eval (.Call (.Name x p₁) [e, e₂] [] pos) G.env = (do callWith pos (← eval (.Name x p₁) G.env) [] (backTo pos (starEach [e, e₂] G.env)) (backToKw pos (keywordEach [] G.env))) := by rfl) :
    Ev prog w n G ρ (.Call (.Name x p₁) [e, e₂] [] pos) r :=
  Ev.call (f := .builtin f) (as := [a, b]) (c.blt g bb hn hl hd) (EvS.cons q (EvS.cons q₂ EvS.nil hs₂) hs) (fun _ _ _ => KeepF.builtin) (fun X h' F => cr X h') hs he
theorem n_len : ("len" : Str) ≠ "__name__" := by decide +kernel
theorem n_divmod : ("divmod" : Str) ≠ "__name__" := by decide +kernel
theorem n_range : ("range" : Str) ≠ "__name__" := by decide +kernel
theorem n_enumerate : ("enumerate" : Str) ≠ "__name__" := by decide +kernel
theorem n_iter : ("iter" : Str) ≠ "__name__" := by decide +kernel
theorem Cx.len (c : Cx K mg mb h G) {e : Expr} {p₁ pos : Pos} {a : AV} {xs : List PyData} (g : mg "len" = none) (q : Ev prog w n G ρ e a) (ha : a.lst? = some xs) (hz : (xs.length : Int) < 2 ^ 63)
    (hs : NoStar [e] = true := by rfl) (hl : G.env.kindOf "len" = some .globalImplicit := by rfl) (he : eval (.Call (.Name "len" p₁) [e] [] pos) G.env = (do callWith pos (← eval (.Name "len" p₁) G.env) [] (backTo pos (starEach [e] G.env)) (backToKw pos (keywordEach [] G.env))) := by rfl) :
    Ev prog w n G ρ (.Call (.Name "len" p₁) [e] [] pos) (.d (.int xs.length)) := c.bcall1 g boot_len n_len q (fun X h' => CallR.len ha hz) hs hl rfl he
theorem Cx.divmod (c : Cx K mg mb h G) {e e₂ : Expr} {p₁ pos : Pos} {i j : Int} (g : mg "divmod" = none) (q : Ev prog w n G ρ e (.d (.int i))) (q₂ : Ev prog w n G ρ e₂ (.d (.int j))) (hb : j ≠ 0) (hp : Builtin.divisionGoesByPylong i j = false)
    (hs : NoStar [e, e₂] = true := by rfl) (hs₂ : NoStar [e₂] = true := by rfl) (hl : G.env.kindOf "divmod" = some .globalImplicit := by rfl) (he : eval (.Call (.Name "divmod" p₁) [e, e₂] [] pos) G.env = (do callWith pos (← eval (.Name "divmod" p₁) G.env) [] (backTo pos (starEach [e, e₂] G.env)) (backToKw pos (keywordEach [] G.env))) := by rfl) :
    Ev prog w n G ρ (.Call (.Name "divmod" p₁) [e, e₂] [] pos) (.d (.tuple [.int (i.fdiv j), .int (i.fmod j)])) := c.bcall2 g boot_divmod n_divmod q q₂ (fun X h' => CallR.divmod hb hp) hs hs₂ hl rfl he
theorem Cx.range (c : Cx K mg mb h G) {e target : Expr} {p₁ pos : Pos} {i : Int} {k : Nat} (g : mg "range" = none) (q : Ev prog w n G ρ e (.d (.int i))) (hi : i = k) (hk : k < 2 ^ 62) (strict : Prop)
    (hs : NoStar [e] = true := by rfl) (hl : G.env.kindOf "range" = some .globalImplicit := by rfl) (he : eval (.Call (.Name "range" p₁) [e] [] pos) G.env = (do callWith pos (← eval (.Name "range" p₁) G.env) [] (backTo pos (starEach [e] G.env)) (backToKw pos (keywordEach [] G.env))) := by rfl) :
    ∀ X h', FRx G ρ X h' → ItP prog w n X G.env h' target (.Call (.Name "range" p₁) [e] [] pos) strict (upto k) := fun X h' F => ItP.range F.xok ((c.blt g boot_range n_range hl) X h' F) (q X h' F) hi hk strict hs he
theorem Cx.enum (c : Cx K mg mb h G) {e : Expr} {elts : List Expr} {kk : Nat} {tp p₁ pos : Pos} {ds : List PyData} (g : mg "enumerate" = none) (q : Ev prog w n G ρ e (.d (.tuple ds))) (strict : Prop)
    (hs : NoStar [e] = true := by rfl) (hl : G.env.kindOf "enumerate" = some .globalImplicit := by rfl) (he : eval (.Call (.Name "enumerate" p₁) [e] [] pos) G.env = (do callWith pos (← eval (.Name "enumerate" p₁) G.env) [] (backTo pos (starEach [e] G.env)) (backToKw pos (keywordEach [] G.env))) := by rfl) :
    ∀ X h', FRx G ρ X h' → ItP prog w n X G.env h' (.Tuple elts kk tp) (.Call (.Name "enumerate" p₁) [e] [] pos) strict (numbered 0 ds) := fun X h' F => ItP.enum ((c.blt g boot_enumerate n_enumerate hl) X h' F) (q X h' F) strict hs he
theorem Ev.itList {e target : Expr} {ds : List PyData} (p : Ev prog w n G ρ e (.d (.list ds))) (strict : Prop) : ∀ X h', FRx G ρ X h' → ItP prog w n X G.env h' target e strict ds := fun X h' F => ItP.list (p X h' F) strict
theorem Ev.itTuple {e target : Expr} {ds : List PyData} (p : Ev prog w n G ρ e (.d (.tuple ds))) (strict : Prop) : ∀ X h', FRx G ρ X h' → ItP prog w n X G.env h' target e strict ds := fun X h' F => ItP.tuple (p X h' F) strict
theorem Ev.itStr {e target : Expr} {y : Str} (p : Ev prog w n G ρ e (.d (.str y))) (strict : Prop) : ∀ X h', FRx G ρ X h' → ItP prog w n X G.env h' target e strict (signs y) := fun X h' F => ItP.str (p X h' F) strict
theorem Ev.itLst {e target : Expr} {a : AV} {ds : List PyData} (p : Ev prog w n G ρ e a) (ha : a.lst? = some ds) : ∀ X h', FRx G ρ X h' → ItP prog w n X G.env h' target e False ds := fun X h' F => ItP.lst (p X h' F) ha
end
end Mine
end

section
open PySem PySem.W PyProof.Rows PySem.Calls
set_option Elab.async false
set_option linter.unusedVariables false
set_option maxRecDepth 100000
namespace Mine
section
variable {prog : Program} {w : World} {n : Nat} {G : Ga} {ρ : Loc}
theorem FRx.step {X : Addr → Prop} {h h' : Heap} {lg' : List (Addr × Obj)} (F : FRx G ρ X h) (ns : ∀ m, h.Ns G.env.locals m → h'.Ns G.env.locals m) (k : ∀ b o, b ≠ G.env.locals → ¬ InLg ρ.lg b → h.get? b = some o → h'.get? b = some o)
    (ok : ∀ p, InLg ρ.lg p → (h'.get? p).isSome = true) (hl : ∀ p ∈ lg', h'.get? p.1 = some p.2 ∧ (InLg ρ.lg p.1 ∨ h.get? p.1 = none)) : FRx G (ρ.led lg') (fun p => X p ∨ InLg lg' p) h' ∧ Mv X (fun p => X p ∨ InLg lg' p) h h' := by
  obtain ⟨m, cm, f, l, u, u0, ld⟩ := F.ex
  have lx : ∀ p, InLg ρ.lg p → X p := fun p ⟨q, hq, e⟩ => e ▸ (ld q hq).2.1
  have l0 : ∀ p, InLg ρ.lg p → G.h₀.get? p = none := fun p ⟨q, hq, e⟩ => e ▸ (ld q hq).2.2
  have nL : ∀ b, G.own b → h.get? b ≠ none := fun b z => by
    rcases z with rfl | ⟨y, z1, z2⟩
    · obtain ⟨oL, _, _, hL, _⟩ := f.ns; rw [hL]; exact fun z => nomatch z
    · obtain ⟨⟨oc, hc, _⟩, _⟩ := f.cell y b z1 z2; rw [hc]; exact fun z => nomatch z
  have xo' : ∀ p, (X p ∨ InLg lg' p) → ¬ G.own p := fun p z o => by
    rcases z with z | ⟨q, hq, rfl⟩
    · exact f.xo p z o
    · rcases (hl q hq).2 with z | z
      · exact f.xo _ (lx _ z) o
      · exact nL _ o z
  have keepX : ∀ b o, ¬ X b → b ≠ G.env.locals → h.get? b = some o → h'.get? b = some o := fun b o nx nl e => k b o nl (fun z => nx (lx b z)) e
  have mv : Mv X (fun p => X p ∨ InLg lg' p) h h' := ⟨fun b o e vs j d nx => keepX b o nx (fun z => by
      have := F.ownSeq e d; exact this (.inl z)) e, fun b o e z => by
    rcases z with z | ⟨q, hq, rfl⟩
    · exact z
    · rcases (hl q hq).2 with z | z
      · exact lx _ z
      · rw [e] at z; cases z⟩
  refine ⟨⟨m, cm, ⟨f.kind, fun b o e => ?_, ns m f.ns, fun x c a b => ⟨?_, (f.cell x c a b).2⟩, f.inj, f.has, f.fresh, fun p z => ?_, fun p z => ?_, fun p z => .inl (f.yx p z), f.y0, xo', fun p z => .inl (f.zx p z)⟩, fun x a q => ?_, u, fun x xs p q1 q2 => ?_, fun p hp => ⟨(hl p hp).1, .inr ⟨p, hp, rfl⟩, ?_⟩⟩, mv⟩
  · exact k b o (fun z => by rw [z, f.fresh] at e; cases e) (fun z => by rw [l0 b z] at e; cases e) (f.ext b o e)
  · obtain ⟨⟨oc, hc, hd⟩, _⟩ := f.cell x c a b
    refine ⟨oc, k c oc (fun z => ?_) (fun z => f.xo c (lx c z) (.inr ⟨x, a, b⟩)) hc, hd⟩
    obtain ⟨oL, _, _, hL, hd', _⟩ := f.ns
    rw [z, hL] at hc; cases hc; rw [hd'] at hd; cases hd
  · rcases z with z | ⟨q, hq, rfl⟩
    · by_cases y : InLg ρ.lg p
      · exact ok p y
      · obtain ⟨o, e⟩ := Option.isSome_iff_exists.mp (f.xok p z)
        rw [k p o (fun q => f.xo p z (.inl q)) y e]; rfl
    · rw [(hl q hq).1]; rfl
  · rcases z with z | ⟨q, hq, rfl⟩
    · exact f.xy p z
    · rcases (hl q hq).2 with z | z
      · exact .inr (l0 _ z)
      · exact .inr (none_of_ext f.ext z)
  · obtain ⟨v, h1, h2, h3⟩ := l x a q
    refine ⟨v, h1, ?_, h3⟩
    cases a with
    | own xs =>
      obtain ⟨c, vs, d1, d2, ⟨j, d3⟩, d4⟩ := h2
      subst d1
      have nl : ¬ InLg ρ.lg c := fun ⟨y, hy, e⟩ => (u0 x _ _ q h1).2.2 y hy e
      exact ⟨c, vs, rfl, .inl d2, ⟨j, k c _ (fun z => f.xo c d2 (.inl z)) nl d3⟩, d4.mv mv⟩
    | d t => exact h2.mvNo mv (fun _ z => by cases z)
    | arr t => exact VR.mvNo (a := .arr t) mv (fun _ z => by cases z) h2
    | v t => exact h2
  · obtain ⟨u1, u2, u3⟩ := u0 x xs p q1 q2
    refine ⟨u1, u2, fun q hq e => ?_⟩
    rcases (hl q hq).2 with ⟨y, hy, e'⟩ | z
    · exact u3 y hy (e'.trans e)
    · obtain ⟨v, h1, h2, _⟩ := l x _ q1
      have h1 : G.rd m cm x = some v := h1
      rw [q2] at h1; cases h1
      obtain ⟨c, vs, d1, _, ⟨j, d3⟩, _⟩ := h2
      cases d1
      rw [e, d3] at z; cases z
  · rcases (hl p hp).2 with z | z
    · exact l0 _ z
    · exact none_of_ext f.ext z

structure GoE (G : Ga) (ρ : Loc) (X : Addr → Prop) (s : Shared) (a : AV) (lg' : List (Addr × Obj)) (v : Value) (s' : Shared) : Prop where
  same : ∃ h' tk, s' = { s with heap := h', toks := tk }
  kept : Kept G X s.heap s'.heap
  fr : ∃ X', FRx G (ρ.led lg') X' s'.heap ∧ XNew X X' s.heap ∧ VR X' s'.heap v a
  no : ∀ xs, a ≠ .own xs
def EvM (prog : Program) (w : World) (n : Nat) (G : Ga) (ρ : Loc) (e : Expr) (Ψ : AV → List (Addr × Obj) → Prop) : Prop :=
  ∀ A, Rm n A → ∀ s X, FRx G ρ X s.heap → ∀ E, wpAny (model prog w) A (eval e G.env) (fun v s' => ∃ a lg', Ψ a lg' ∧ GoE G ρ X s a lg' v s') E s
structure GoS (G : Ga) (ρ : Loc) (X : Addr → Prop) (s : Shared) (as : List AV) (lg' : List (Addr × Obj)) (vs : List Value) (s' : Shared) : Prop where
  same : ∃ h' tk, s' = { s with heap := h', toks := tk }
  kept : Kept G X s.heap s'.heap
  fr : ∃ X', FRx G (ρ.led lg') X' s'.heap ∧ XNew X X' s.heap ∧ VRs X' s'.heap vs as
  no : ∀ a ∈ as, ∀ xs, a ≠ .own xs
def EvMS (prog : Program) (w : World) (n : Nat) (G : Ga) (ρ : Loc) (es : List Expr) (Ψ : List AV → List (Addr × Obj) → Prop) : Prop :=
  ∀ pos A, Rm n A → ∀ s X, FRx G ρ X s.heap → ∀ E, wpAny (model prog w) A (spliced (backTo pos (starEach es G.env))) (fun vs s' => ∃ as lg', Ψ as lg' ∧ GoS G ρ X s as lg' vs s') E s
theorem EvM.pure {e : Expr} {a : AV} {Ψ : AV → List (Addr × Obj) → Prop} (p : Ev prog w n G ρ e a) (no : ∀ xs, a ≠ .own xs) (q : Ψ a ρ.lg) : EvM prog w n G ρ e Ψ := fun A R s X F E =>
  (p X _ F).go R (Ext.refl _) fun v s₁ k₁ x₁ r₁ => ⟨a, ρ.lg, q, by obtain ⟨h', tk, e, _⟩ := k₁; exact ⟨h', tk, e⟩, Kept.ext x₁, ⟨X, F.mono x₁, XNew.refl, r₁⟩, no⟩
theorem EvM.d {e : Expr} {d : PyData} {Ψ : AV → List (Addr × Obj) → Prop} (p : Ev prog w n G ρ e (.d d)) (q : Ψ (.d d) ρ.lg) : EvM prog w n G ρ e Ψ := .pure p (fun _ z => by cases z) q
theorem EvM.v {e : Expr} {d : Value} {Ψ : AV → List (Addr × Obj) → Prop} (p : Ev prog w n G ρ e (.v d)) (q : Ψ (.v d) ρ.lg) : EvM prog w n G ρ e Ψ := .pure p (fun _ z => by cases z) q
theorem same_trans {s s₁ s₂ : Shared} (a : ∃ h' tk, s₁ = { s with heap := h', toks := tk }) (b : ∃ h' tk, s₂ = { s₁ with heap := h', toks := tk }) : ∃ h' tk, s₂ = { s with heap := h', toks := tk } := by
  obtain ⟨h, t, rfl⟩ := a
  obtain ⟨h', t', rfl⟩ := b
  exact ⟨h', t', rfl⟩
theorem Kp.same {s s₁ : Shared} (k : Kp s s₁) : ∃ h' tk, s₁ = { s with heap := h', toks := tk } := let ⟨h, t, e, _⟩ := k; ⟨h, t, e⟩
theorem EvMS.cons {e : Expr} {es : List Expr} {Ψ : List AV → List (Addr × Obj) → Prop} (p : EvM prog w n G ρ e (fun a lg => EvMS prog w n G (ρ.led lg) es (fun as lg' => Ψ (a :: as) lg'))) (hs : NoStar (e :: es) = true := by rfl) : EvMS prog w n G ρ (e :: es) Ψ := fun pos A R s X F E => by
  refine spliced_more (wpAny_mono (p A R s X F E) (fun v s₁ z => ?_) fun _ _ z => z) (starEach_cons (env := G.env) hs).1
  obtain ⟨a, lg, hΨ, sm, kp, ⟨X₁, F₁, xn, vr⟩, no⟩ := z
  refine wpAny_mono (hΨ pos A R s₁ X₁ F₁ E) (fun vs s₂ z => ?_) fun _ _ z => z
  obtain ⟨as, lg', h2, sm₂, kp₂, ⟨X₂, F₂, xn₂, vrs⟩, no₂⟩ := z
  refine ⟨a :: as, lg', h2, same_trans sm sm₂, kp.trans kp₂ xn, ⟨X₂, F₂, xn.trans xn₂ kp F₂.xo, .cons (vr.mvNo (F₁.mv kp₂ xn₂) no) vrs⟩, fun b hb => ?_⟩
  rcases List.mem_cons.mp hb with rfl | hb
  · exact no
  · exact no₂ b hb
theorem EvMS.pure {es : List Expr} {as : List AV} {Ψ : List AV → List (Addr × Obj) → Prop} (p : EvS prog w n G ρ es as) (no : ∀ a ∈ as, ∀ xs, a ≠ .own xs) (q : Ψ as ρ.lg) : EvMS prog w n G ρ es Ψ := fun pos A R s X F E =>
  wpAny_mono (p X _ F pos A R s (Ext.refl _) E) (fun vs s₁ z => ⟨as, ρ.lg, q, Kp.same z.1, Kept.ext (Kp.ext z.1), ⟨X, F.mono (Kp.ext z.1), XNew.refl, z.2⟩, no⟩) fun _ _ z => z
theorem GoE.of_call {X X₁ : Addr → Prop} {s s₁ s' : Shared} {lg lg' : List (Addr × Obj)} {a : AV} {v : Value} (sm : ∃ h' tk, s₁ = { s with heap := h', toks := tk }) (kp : Kept G X s.heap s₁.heap) (F₁ : FRx G (ρ.led lg) X₁ s₁.heap) (xn : XNew X X₁ s.heap)
    (z : CallPost s₁ X₁ lg a lg' v s') : GoE G ρ X s a lg' v s' := by
  obtain ⟨sm₂, kp₂, ld, vr, no, ok⟩ := z
  have lx : ∀ p, InLg lg p → X₁ p := fun p ⟨q, hq, e⟩ => e ▸ (F₁.led q hq).2.1
  obtain ⟨F₂, mv⟩ := F₁.step (h' := s'.heap) (lg' := lg') (fun m hm => hm.at' fun o e => kp₂ _ o e fun y => F₁.xo _ (lx _ y) (.inl rfl)) (fun b o _ nb e => kp₂ b o e nb) ok ld
  have xn₂ : XNew X₁ (fun p => X₁ p ∨ InLg lg' p) s₁.heap := fun p z => by
    rcases z with z | ⟨q, hq, rfl⟩
    · exact .inl z
    · exact (ld q hq).2.imp (lx _) id
  have kp₃ : Kept G X₁ s₁.heap s'.heap := fun b o e no nx => kp₂ b o e fun y => nx (lx b y)
  exact ⟨same_trans sm sm₂, kp.trans kp₃ xn, ⟨_, F₂, xn.trans xn₂ kp F₂.xo, vr⟩, no⟩
theorem EvM.call {fe : Expr} {es : List Expr} {pos : Pos} {f : Value} {Ψ : AV → List (Addr × Obj) → Prop} {h : Heap} (hx : ∀ X h', FRx G ρ X h' → ∀ lg X' h'', FRx G (ρ.led lg) X' h'' → Ext h h'' ∧ Av X' h) (p : Ev prog w n G ρ fe (.v f))
    (q : EvMS prog w n G ρ es (fun as lg => (∀ X h', FRx G (ρ.led lg) X h' → KeepF prog w h' f) ∧ CallL prog w n h f as lg Ψ)) (hs : NoStar es = true := by rfl)
    (he : eval (.Call fe es [] pos) G.env = (do callWith pos (← eval fe G.env) [] (backTo pos (starEach es G.env)) (backToKw pos (keywordEach [] G.env))) := by rfl) : EvM prog w n G ρ (.Call fe es [] pos) Ψ := fun A R s X F E => by
  refine Call_ ((p X _ F).go R (Ext.refl _) fun v s₁ k₁ x₁ r₁ => ?_) he
  cases r₁
  have F₁ := F.mono x₁
  refine callWith_of (P := fun hh => ∃ X lg, FRx G (ρ.led lg) X hh ∧ ∀ X h', FRx G (ρ.led lg) X h' → KeepF prog w h' f) (by rw [noStar_any hs]; rfl) (fun h' ⟨X, lg, F', kf⟩ => kf X h' F' h' (Ext.refl _)) (evalArgs_of hs (wpAny_mono (q pos A R s₁ X F₁ E) (fun vs s₂ z => ?_) fun _ _ z => z))
  obtain ⟨as, lg, ⟨kf, cl⟩, sm, kp, ⟨X₂, F₂, xn, vrs⟩, no⟩ := z
  refine ⟨⟨X₂, lg, F₂, kf⟩, ?_⟩
  obtain ⟨e1, av⟩ := hx X _ F lg X₂ _ F₂
  refine wpAny_mono (wpAny_call (cl A R s₂ X₂ e1 av F₂.xok (fun p hp => let ⟨a, b, _⟩ := F₂.led p hp; ⟨a, b⟩) vs vrs E)) (fun v s₃ z => ?_) fun _ _ z => z
  obtain ⟨a, lg', hΨ, z⟩ := z
  exact ⟨a, lg', hΨ, GoE.of_call (same_trans (Kp.same k₁) sm) ((Kept.ext x₁).trans kp XNew.refl) F₂ (xn.ext x₁) z⟩
theorem EvM.meth {o : Expr} {name : Str} {es : List Expr} {apos pos : Pos} {ov f : Value} {first : List Value} {fa : List AV} {Ψ : AV → List (Addr × Obj) → Prop} {h : Heap} (hx : ∀ X h', FRx G ρ X h' → ∀ lg X' h'', FRx G (ρ.led lg) X' h'' → Ext h h'' ∧ Av X' h) (p : Ev prog w n G ρ o (.v ov))
    (m : ∀ X s, FRx G ρ X s.heap → ∀ A pl (Q : Value × List Value → Shared → Prop) E, (∀ tk, Q (f, first) { s with toks := tk }) → wpAny (model prog w) A (getMethod ov name pl) Q E s) (hfa : fa = first.map AV.v)
    (q : EvMS prog w n G ρ es (fun as lg => (∀ X h', FRx G (ρ.led lg) X h' → KeepF prog w h' f) ∧ CallL prog w n h f (fa ++ as) lg Ψ)) (hs : NoStar es = true := by rfl) (hbase : attributeBase o name G.env (eval o G.env) = eval o G.env := by rfl) (hl : decide (es.length < 29) = true := by rfl) (hline : (apos.endLine == pos.line) = true := by rfl) :
    EvM prog w n G ρ (.Call (.Attribute o name apos) es [] pos) Ψ := fun A R s X F E => by
  refine MethodCall_ ((p X _ F).go R (Ext.refl _) fun v s₁ k₁ x₁ r₁ => ?_) (meth_he hbase hs hl hline)
  cases r₁
  have F₁ := F.mono x₁
  refine m X s₁ F₁ A _ _ E fun tk₁ => ?_
  show wpAny (model prog w) A (callWith pos f first (backTo pos (starEach es G.env)) []) _ E { s₁ with toks := tk₁ }
  refine callWith_of (P := fun hh => ∃ X lg, FRx G (ρ.led lg) X hh ∧ ∀ X h', FRx G (ρ.led lg) X h' → KeepF prog w h' f) (by rw [noStar_any hs]; rfl) (fun h' ⟨X, lg, F', kf⟩ => kf X h' F' h' (Ext.refl _)) (evalArgs_of hs (wpAny_mono (q pos A R { s₁ with toks := tk₁ } X F₁ E) (fun vs s₂ z => ?_) fun _ _ z => z))
  obtain ⟨as, lg, ⟨kf, cl⟩, sm, kp, ⟨X₂, F₂, xn, vrs⟩, no⟩ := z
  refine ⟨⟨X₂, lg, F₂, kf⟩, ?_⟩
  obtain ⟨e1, av⟩ := hx X _ F lg X₂ _ F₂
  have vf : VRs X₂ s₂.heap (first ++ vs) (fa ++ as) := by
    subst hfa
    clear m q cl no
    induction first with
    | nil => exact vrs
    | cons a r ih => exact .cons rfl ih
  refine wpAny_mono (wpAny_call (cl A R s₂ X₂ e1 av F₂.xok (fun p hp => let ⟨a, b, _⟩ := F₂.led p hp; ⟨a, b⟩) _ vf E)) (fun v s₃ z => ?_) fun _ _ z => z
  obtain ⟨a, lg', hΨ, z⟩ := z
  have sm₁ : ∃ h' tk, ({ s₁ with toks := tk₁ } : Shared) = { s with heap := h', toks := tk } := by
    obtain ⟨h', tk, e⟩ := Kp.same k₁
    exact ⟨h', tk₁, by rw [e]⟩
  exact ⟨a, lg', hΨ, GoE.of_call (same_trans sm₁ sm) ((Kept.ext x₁).trans kp XNew.refl) F₂ (xn.ext x₁) z⟩
theorem Ex1.assignM {x : Str} {e : Expr} {p₁ p₂ : Pos} {Φ : Out → Prop} (hx : G.sto x = true) (p : EvM prog w n G ρ e (fun a lg => Φ (.next ((ρ.led lg).set x a))))
    (hsw : swapsWith e (some (.Name x p₁)) p₂.line G.env = pure false := by rfl) : Ex1 prog w n G ρ (.Assign [.Name x p₁] e p₂) Φ := fun A R s X F E => by
  refine wpAny_Assign_Name (wpAny_mono (p A R s X F E) (fun v s₁ z => ?_) fun _ _ z => z) hsw
  obtain ⟨a, lg, hΦ, sm, kp, ⟨X₁, F₁, xn, vr⟩, no⟩ := z
  exact storeName_fr F₁ (Ga.sto_or hx).1 (Ga.sto_or hx).2 vr no fun h' tk k F' => ⟨_, hΦ, rfl, same_trans sm ⟨h', tk, rfl⟩, kp.trans k.k xn, X₁, F', xn⟩
theorem Ex1.retM {e : Expr} {pos : Pos} {Φ : Out → Prop} (p : EvM prog w n G ρ e (fun a lg => Φ (.ret a lg))) : Ex1 prog w n G ρ (.Return (some e) pos) Φ := fun A R s X F E => by
  refine wpAny_Return_some (wpAny_mono (p A R s X F E) (fun v s₁ z => ?_) fun _ _ z => z)
  obtain ⟨a, lg, hΦ, sm, kp, ⟨X₁, F₁, xn, vr⟩, no⟩ := z
  refine ⟨_, hΦ, v, rfl, sm, kp, F₁.ext, vr.mvNo (Mv.sub (F₁.led.x F₁.yx)) no, no, fun p hp => let ⟨a, _, c⟩ := F₁.led p hp; ⟨a, c⟩, fun p z => F₁.xok p (F₁.zx p z)⟩
end
end Mine
end

section
open PySem PySem.W PyProof.Rows PySem.Calls
set_option Elab.async false
set_option linter.unusedVariables false
set_option maxRecDepth 100000
namespace Mine
theorem callBorrowed_any {M : Model} {A : Around} {E : Value → Shared → Prop} {s : Shared} {f : Value} {pos : List Value} {Q : Value → Shared → Prop} (hc : codeAny M A (.call f ⟨pos, []⟩) (fun r s' => match r with | .ok (.ret v) => Q v s' | .ok _ => False | .error e => E e s') s) : wpAny M A (callBorrowed f pos) Q E s := fun Γ p hΓ => by
  unfold callBorrowed
  rw [Sem.wp_call]
  refine wpCode_mono (fun r s' z => ?_) (hc _ p rfl (hΓ.enter _ none p (by intro x; cases x)))
  rcases r with e | (v | _ | _ | _) <;> first | exact z | exact z.elim
theorem ci_slot : Slot "callable_iterator" "__next__" "callable_iterator.__next__" :=
  .of (owner := "callable_iterator") (n := "__next__") (by rw [typeLookup_type, builtinLookup_eq_fast]; kernel_rfl) (by decide +kernel) (by decide +kernel) (by decide +kernel)
    (by first | exact .inl (by decide +kernel) | exact .inr (by decide +kernel)) (by rw [isSubtype_type]; kernel_rfl)
theorem ci_iter_slot : Slot "callable_iterator" "__iter__" "callable_iterator.__iter__" :=
  .of (owner := "callable_iterator") (n := "__iter__") (by rw [typeLookup_type, builtinLookup_eq_fast]; kernel_rfl) (by decide +kernel) (by decide +kernel) (by decide +kernel)
        (by first | exact .inl (by decide +kernel) | exact .inr (by decide +kernel)) (by rw [isSubtype_type]; kernel_rfl)
theorem ci_entry : entryFor table "callable_iterator.__next__" = some Builtin.«callable_iterator.__next__» := entryFor_of_tree (by kernel_rfl)
theorem ci_args (a : Value) : argsOk "callable_iterator.__next__" ⟨[a], []⟩ := by
  unfold argsOk; kernel_rfl
theorem ci_args_iter (a : Value) : argsOk "callable_iterator.__iter__" ⟨[a], []⟩ := by
  unfold argsOk; kernel_rfl
theorem ci_entry_iter : entryFor table "callable_iterator.__iter__" = some Builtin.«dict_keyiterator.__iter__» :=
  entryFor_alias (id' := "dict_keyiterator.__iter__") (by kernel_rfl) (by first | rfl | decide +kernel | (unfold String.splitOn; simp +decide [String.splitOnAux])) (by decide +kernel) (by kernel_rfl)
theorem iter_args2 (a b : Value) : argsOk "iter" ⟨[a, b], []⟩ := by unfold argsOk; kernel_rfl
abbrev ciObj (q : Addr) (x : Str) (t : Tok) : Obj := { cls := .type "callable_iterator", data := .fields #[.ref q, .str x t, .bool false] }
abbrev ciEnd : Obj := { cls := .type "callable_iterator", data := .fields #[.none, .none, .bool true] }
section
variable {prog : Program} {w : World} {A : Around} {E : Value → Shared → Prop} {s : Shared}
theorem slotArgs0 {M : Model} {A : Around} {E : Value → Shared → Prop} {s : Shared} {a : Value} {Q : Value × List Value → Shared → Prop} (h : Q (a, []) s) : wpAny M A (slotArgs "__next__" 0 ⟨[a], []⟩) Q E s := wpAny_pure h
theorem stopIt {A : Around} {α : Type} {Q : α → Shared → Prop} (hh : A.handled = none) (hE : ∀ h' e, Ext s.heap h' → (∃ o, h'.get? e = some o ∧ o.cls = .type "StopIteration") → E (.ref e) { s with heap := h' }) : wpAny (model prog w) A (Builtin.SmallTypes.stopIteration : Sem α) Q E s := by
  unfold Builtin.SmallTypes.stopIteration
  show wpAny _ _ (newExc (.type "StopIteration") [] >>= _) _ _ _
  refine wpAny_bind ?_
  simp only [newExc, newTuple]
  refine wpAny_bind (wpAny_newObj_type ?_ (by size_fits))
  refine wpAny_bind (m := firstArgMember _ _) (wpAny_of_eq (a := Value.none) (by first | rfl | (simp only [firstArgMember]; rfl)) ?_)
  refine wpAny_newObj_type ?_ (by size_fits)
  simp only [raiseNew]
  refine wpAny_bind (wpAny_handled ?_)
  rw [hh]
  refine wpAny_bind (wpAny_pure (wpAny_throw ?_))
  exact hE _ _ ((Ext.push _ _).trans (Ext.push _ _)) ⟨_, Heap.get?_push_size _ rfl, rfl⟩
theorem eqStr {x y : Str} {t u : Tok} {Q : Bool → Shared → Prop} (h : Q (x == y) s) : wpAny (model prog w) A (eqBool (.str x t) (.str y u)) Q E s := by
  unfold eqBool
  refine wpAny_holding ?_
  by_cases e : (Value.str x t == Value.str y u) = true
  · rw [if_pos e]
    have : Value.str x t = Value.str y u := by simpa using e
    cases this
    exact wpAny_bind (wpAny_rule (wpAny_pure (by simpa using h)))
  · rw [if_neg e]
    refine wpAny_bind (PyProof.Rows.eq_str (Q := fun v s' => _) ?_)
    exact wpAny_pure h
theorem borrows_meth {q f : Addr} {self : Value} {of : Obj} {fd : FuncData} {Q : Bool → Shared → Prop} (hq : s.heap.get? q = some { cls := .type "method", data := .fields #[.ref f, self] }) (hf : s.heap.get? f = some of) (hd : of.data = .func fd) (h : Q true s) : wpAny (model prog w) A (borrowsExactly (.ref q)) Q E s := by
  unfold borrowsExactly
  refine wpAny_bind (wpAny_load hq ?_)
  show wpAny _ _ (if (Value.type "method" == Value.type "method") = true then _ else _) _ _ _
  rw [if_pos (by decide)]
  refine wpAny_bind (m := load f) (wpAny_load hf ?_)
  rw [hd]
  exact wpAny_pure h
theorem callEnd {it q f : Addr} {y : Str} {t : Tok} {self : Value} {of : Obj} {fd : FuncData} {busy : Code → Bool} {Q : Unit → Shared → Prop} (hit : s.heap.get? it = some (ciObj q y t)) (hq : s.heap.get? q = some { cls := .type "method", data := .fields #[.ref f, self] }) (hf : s.heap.get? f = some of) (hd : of.data = .func fd)
    (h : ∀ h', (∀ b o, b ≠ it → s.heap.get? b = some o → h'.get? b = some o) → h'.get? it = some ciEnd → Q () { s with heap := h' }) :
    wpAny (model prog w) A (do slotLetsGo "callable_iterator.__next__" (← field (.ref it) 0) busy; setField (.ref it) 0 .none; setField (.ref it) 1 .none; setField (.ref it) 2 (.bool true)) Q E s := by
  refine wpAny_bind (wpAny_field hit rfl rfl ?_)
  show wpAny _ _ (slotLetsGo "callable_iterator.__next__" (.ref q) busy >>= _) _ _ _
  unfold slotLetsGo
  refine wpAny_bind (wpAny_bind (borrows_meth hq hf hd ?_))
  rw [if_pos rfl]
  refine wpAny_pure ?_
  refine wpAny_bind (wpAny_setField hit rfl (Nat.zero_lt_succ _) ?_)
  have h1 := Heap.get?_update_self (Obj.mapFields fun x_1 => x_1.setIfInBounds 0 Value.none) hit rfl
  refine wpAny_bind (wpAny_setField (s := { s with heap := _ }) h1 rfl (by simp) ?_)
  have h2 := Heap.get?_update_self (Obj.mapFields fun x_1 => x_1.setIfInBounds 1 Value.none) h1 rfl
  refine wpAny_setField (s := { s with heap := _ }) h2 rfl (by simp) ?_
  have h3 := Heap.get?_update_self (Obj.mapFields fun x_1 => x_1.setIfInBounds 2 (Value.bool true)) h2 rfl
  refine h _ (fun b o nb e => ?_) h3
  exact (Heap.get?_update_ne _ _ _ _ nb).trans ((Heap.get?_update_ne _ _ _ _ nb).trans ((Heap.get?_update_ne _ _ _ _ nb).trans e))
theorem ci_next {it q f : Addr} {y : Str} {t : Tok} {self : Value} {of : Obj} {fd : FuncData} {Q : Option Value → Shared → Prop} (hh : A.handled = none) (hit : s.heap.get? it = some (ciObj q y t)) (hq : s.heap.get? q = some { cls := .type "method", data := .fields #[.ref f, self] }) (hf : s.heap.get? f = some of) (hd : of.data = .func fd)
    (hc : ∀ E' : Value → Shared → Prop, codeAny (model prog w) A.in1 (.call (.ref f) ⟨[self], []⟩) (fun r s₁ => match r with
      | .ok (.ret v) => ∃ x u, v = .str x u ∧ s₁.heap.get? it = some (ciObj q y t) ∧ s₁.heap.get? q = some { cls := .type "method", data := .fields #[.ref f, self] } ∧ s₁.heap.get? f = some of ∧
          (y ≠ x → Q (some (.str x u)) s₁) ∧ (y = x → ∀ h', (∀ b o, b ≠ it → s₁.heap.get? b = some o → h'.get? b = some o) → h'.get? it = some ciEnd → Q none { s₁ with heap := h' })
      | .ok _ => False
      | .error e => E' e s₁) s) : wpAny (model prog w) A (pyNext (.ref it)) Q E s := by
  have hT : s.TypeIs (.ref it) "callable_iterator" := ⟨_, hit, rfl⟩
  unfold pyNext
  refine wpAny_bind (wpAny_attempt (wpAny_callSpecial?_slot (name := Str.ofString "__next__") hT ci_slot (wpAny_call_entry ci_slot hT ci_entry ?_ (ci_args _))))
  unfold Builtin.«callable_iterator.__next__»
  refine wpAny_bind (slotArgs0 ?_)
  refine wpAny_bind (wpAny_field hit rfl rfl ?_)
  show wpAny _ _ (if (Value.bool false == Value.bool true) = true then _ else _) _ _ _
  rw [if_neg (by decide)]
  refine wpAny_bind (wpAny_field hit rfl rfl ?_)
  refine wpAny_bind (wpAny_attempt ?_)
  show wpAny _ _ (callOutOfASlot (.ref q) []) _ _ _
  unfold callOutOfASlot
  refine wpAny_bind (borrows_meth hq hf hd ?_)
  rw [if_pos rfl]
  refine callBorrowed_any (method_call hq (codeAny_mono (hc fun _ _ => False) fun r s₁ z => ?_))
  rcases r with e | (v | _ | _ | _) <;> first | exact z | exact z.elim | skip
  obtain ⟨x, u, rfl, g1, g2, g3, z1, z2⟩ := z
  show wpAny _ _ (field (.ref it) 2 >>= _) _ _ _
  refine wpAny_bind (wpAny_field g1 rfl rfl ?_)
  show wpAny _ _ (if (Value.bool false == Value.bool true) = true then _ else _) _ _ _
  rw [if_neg (by decide)]
  refine wpAny_bind (wpAny_field g1 rfl rfl ?_)
  refine wpAny_bind (wpAny_holding (eqStr ?_))
  by_cases e : y = x
  · subst e
    simp only [beq_self_eq_true, Bool.not_true, Bool.false_eq_true, if_false]
    refine wpAny_bind (wpAny_rule (wpAny_bind (callEnd g1 g2 g3 hd fun h' k ge => ?_)))
    refine stopIt hh fun h'' e₁ ex ⟨o, he, hc'⟩ => ?_
    show wpAny _ _ (isInstance (.ref e₁) (.type "StopIteration") >>= _) _ _ _
    refine wpAny_bind (wpAny_isInstance ⟨o, he, hc'⟩ isSubtype_stop ?_)
    rw [if_pos rfl]
    exact wpAny_pure (z2 rfl h'' (fun b o' nb q => ex b o' (k b o' nb q)) (ex _ _ ge))
  · have hb : (y == x) = false := by simpa using e
    rw [hb]
    simp only [Bool.not_false, if_true]
    exact wpAny_pure ⟨_, rfl, wpAny_pure (z1 e)⟩
theorem ci_done {it : Addr} {Q : Option Value → Shared → Prop} (hh : A.handled = none) (hit : s.heap.get? it = some ciEnd) (hQ : ∀ h', Ext s.heap h' → Q none { s with heap := h' }) : wpAny (model prog w) A (pyNext (.ref it)) Q E s := by
  have hT : s.TypeIs (.ref it) "callable_iterator" := ⟨_, hit, rfl⟩
  unfold pyNext
  refine wpAny_bind (wpAny_attempt (wpAny_callSpecial?_slot (name := Str.ofString "__next__") hT ci_slot (wpAny_call_entry ci_slot hT ci_entry ?_ (ci_args _))))
  unfold Builtin.«callable_iterator.__next__»
  refine wpAny_bind (slotArgs0 ?_)
  refine wpAny_bind (wpAny_field hit rfl rfl ?_)
  show wpAny _ _ (if (Value.bool true == Value.bool true) = true then _ else _) _ _ _
  rw [if_pos (by decide)]
  refine wpAny_bind (wpAny_rule (wpAny_bind (stopIt hh fun h'' e₁ ex ⟨o, he, hc'⟩ => ?_)))
  show wpAny _ _ (isInstance (.ref e₁) (.type "StopIteration") >>= _) _ _ _
  refine wpAny_bind (wpAny_isInstance ⟨o, he, hc'⟩ isSubtype_stop ?_)
  rw [if_pos rfl]
  exact wpAny_pure (hQ h'' ex)
theorem ci_self {it : Addr} {o : Obj} {Q : Value → Shared → Prop} (hit : s.heap.get? it = some o) (hc : o.cls = .type "callable_iterator") (h : Q (.ref it) s) : wpAny (model prog w) A (pyIter (.ref it)) Q E s := by
  have hT : s.TypeIs (.ref it) "callable_iterator" := ⟨_, hit, hc⟩
  refine wpAny_pyIter_slot hT ci_iter_slot (wpAny_call_entry ci_iter_slot hT ci_entry_iter ?_ (ci_args_iter _))
  show wpAny _ _ (ret (.ref it)) _ _ s
  exact wpAny_pure ⟨_, rfl, "callable_iterator", _, hT, ci_slot.lookup, h⟩
end
end Mine
end

section
open PySem PySem.W PyProof.Rows PySem.Calls
set_option Elab.async false
set_option linter.unusedVariables false
set_option maxRecDepth 100000
namespace Mine
def Exact : AV → Value → Prop
  | .v u, v => v = u
  | .d (.int i), v => ∃ t, v = .int i t
  | .d (.str x), v => ∃ t, v = .str x t
  | _, _ => False
def isExact : AV → Bool
  | .v _ => true
  | .d (.int _) => true
  | .d (.str _) => true
  | _ => false
theorem Exact.of {X : Addr → Prop} {h : Heap} {a : AV} {v : Value} (k : isExact a = true) (r : VR X h v a) : Exact a v := by
  cases a with
  | v u => exact r
  | d d =>
    cases d <;> first | (cases k; done) | skip
    · cases r; exact ⟨_, rfl⟩
    · cases r; exact ⟨_, rfl⟩
  | own _ => cases k
  | arr _ => cases k
section
variable {prog : Program} {w : World} {A : Around} {E : Value → Shared → Prop} {s : Shared} {K : Frag}
theorem kset {L x dx C : Addr} {m : Str → Option Value} {es : List DictEntry} {n : Nat} {name : Str} {v : Value} {Q : Unit → Shared → Prop} (hns : s.heap.Ns L m) (X : K.In s.heap) (hx : s.heap.get? x = some (instObj C dx)) (hd : s.heap.get? dx = some (dictOf es n)) (hL : dx ≠ L)
    (hs : findIn K (.ref C) "__setattr__" = some (some (.builtin "object.__setattr__"))) (hp : plainOver K C = true) (ht : takerIn K C name = some none) (hh : hasDictIn K C = true) (hl : (getL name es).isSome = true) (hz : (putL name (PyData.keyHash w.params name) (.str name (s.toks + 1)) v es).length ≤ 1000)
    (h : ∀ h', h'.Ns L m → (∀ b o, b ≠ L → b ≠ dx → s.heap.get? b = some o → h'.get? b = some o) → h'.get? dx = some (dictOf (putL name (PyData.keyHash w.params name) (.str name (s.toks + 1)) v es) (putN name es n)) → Q () { s with heap := h', toks := s.toks + 2 }) :
    wpAny (model prog w) A (setAttr (.ref x) name v) Q E s := by
  have I : InstAt s.heap x (instObj C dx) C (some (dictOf es n)) := ⟨hx, rfl, rfl, hd⟩
  let rest : List (Addr × Obj) := (List.range s.heap.objs.size).filterMap fun b => if b = L ∨ b = dx then none else (s.heap.get? b).map fun o => (b, o)
  have mem : ∀ p, p ∈ rest ↔ (p.1 ≠ L ∧ p.1 ≠ dx ∧ s.heap.get? p.1 = some p.2) := by
    intro p
    obtain ⟨b, o⟩ := p
    simp only [rest, List.mem_filterMap, List.mem_range]
    constructor
    · rintro ⟨c, hc, e⟩
      split at e
      · cases e
      · rename_i q
        cases g : s.heap.get? c with
        | none => rw [g] at e; cases e
        | some o' => rw [g] at e; cases e; exact ⟨fun z => q (.inl z), fun z => q (.inr z), g⟩
    · rintro ⟨h1, h2, h3⟩
      refine ⟨b, Heap.lt_size h3, ?_⟩
      have h1 : b ≠ L := h1
      have h2 : b ≠ dx := h2
      have h3 : s.heap.get? b = some o := h3
      rw [if_neg (by rintro (z | z) <;> contradiction), h3]; rfl
  have none0 : ∀ b, ({} : Heap).get? b = none := fun b => by
    cases e : ({} : Heap).get? b with
    | none => rfl
    | some o => exact absurd (Heap.lt_size e) (Nat.not_lt_zero _)
  have F : Fr {} L s.heap m := ⟨hns, fun b o e => (by rw [none0] at e; cases e), Nat.zero_le _⟩
  have N : News {} L s.heap ((dx, dictOf es n) :: rest) := fun p hp => by
    rcases List.mem_cons.mp hp with rfl | hp
    · exact ⟨hd, hL, none0 _⟩
    · obtain ⟨a, b, c⟩ := (mem p).mp hp; exact ⟨c, a, none0 _⟩
  refine set_plain X I hs (osa_dict (s := { s with toks := s.toks + 1 }) (pre := []) F N X I rfl hp ht hh (by rw [lookIn_dict]; exact hl) (fun _ h => nomatch h) (fun p hp => ((mem p).mp hp).2.1) (by rw [putName_dict]) rfl hz fun h' F' N' => ?_)
  exact h h' F'.ns (fun b o h1 h2 e => (N' (b, o) (List.mem_cons_of_mem _ ((mem (b, o)).mpr ⟨h1, h2, e⟩))).1) (N' _ (List.mem_cons_self ..)).1
end
section
variable {prog : Program} {w : World} {n : Nat} {G : Ga} {ρ : Loc} {K : Frag} {mg mb : Str → Option Value} {h : Heap}
theorem Cx.kin (c : Cx K mg mb h G) {X : Addr → Prop} {h' : Heap} (F : FRx G ρ X h') : K.In h' := c.base.inn.keeps (c.x F).1
theorem attr_he {o : Expr} {name : Str} {pos : Pos} {env : Env} (hbase : attributeBase o name env (eval o env) = eval o env) : eval (.Attribute o name pos) env = (do
      let v ← eval o env
      standAt pos.atName
      let r ← holding [v] (getAttr v name true)
      letTemporaryGo o v r
      pure r) := by rw [arm_eval_Attribute, hbase]
structure InstL (lg : List (Addr × Obj)) (x dx C : Addr) (es : List DictEntry) (k : Nat) : Prop where
  x : (x, instObj C dx) ∈ lg
  d : (dx, dictOf es k) ∈ lg
theorem InstL.at {X : Addr → Prop} {h' : Heap} {x dx C : Addr} {es : List DictEntry} {k : Nat} (I : InstL ρ.lg x dx C es k) (F : FRx G ρ X h') : InstAt h' x (instObj C dx) C (some (dictOf es k)) := ⟨(F.led _ I.x).1, rfl, rfl, (F.led _ I.d).1⟩
theorem Cx.attr (c : Cx K mg mb h G) {o : Expr} {name : Str} {pos : Pos} {x dx C : Addr} {es : List DictEntry} {k : Nat} {v : Value} (p : Ev prog w n G ρ o (.v (.ref x))) (I : InstL ρ.lg x dx C es k) (hga : findIn K (.ref C) "__getattribute__" = some (some (.builtin "object.__getattribute__"))) (hh : hasDictIn K C = true)
    (ha : findIn K (.ref C) name = some none) (hl : getL name es = some (some v)) (hv : handedIn v = true) (hbase : attributeBase o name G.env (eval o G.env) = eval o G.env := by rfl) : Ev prog w n G ρ (.Attribute o name pos) (.v v) := fun X h' F A R s x E => by
  refine Attribute_any_ ((p X h' F).go R x fun u s₁ k₁ x₁ r₁ => ?_) (attr_he hbase)
  cases r₁
  have F₁ := F.mono x₁
  exact get_value (c.kin F₁) (I.at F₁) hga (findObj_own hh ha rfl hl) hv ⟨k₁.trans (Kp.of s₁ (Ext.refl _)), rfl⟩
theorem Ev.ofInt {e : Expr} {i : Int} {t : Tok} (p : Ev prog w n G ρ e (.v (.int i t))) : Ev prog w n G ρ e (.d (.int i)) := fun X h' F A R s x E =>
  (p X h' F).go R x fun v s₁ k₁ x₁ r₁ => by cases r₁; exact ⟨k₁, .int _ _⟩
theorem Ev.ofStr {e : Expr} {i : Str} {t : Tok} (p : Ev prog w n G ρ e (.v (.str i t))) : Ev prog w n G ρ e (.d (.str i)) := fun X h' F A R s x E =>
  (p X h' F).go R x fun v s₁ k₁ x₁ r₁ => by cases r₁; exact ⟨k₁, .str _ _⟩
theorem Cx.minst (c : Cx K mg mb h G) {x dx C f : Addr} {es : List DictEntry} {k : Nat} {name : Str} (I : InstL ρ.lg x dx C es k) (hga : findIn K (.ref C) "__getattribute__" = some (some (.builtin "object.__getattribute__"))) (hk : findIn K (.ref C) "__getattr__" = some none)
    (hf : findIn K (.ref C) name = some (some (.ref f))) (ht : typeIn K (.ref f) = some (.type "function")) (hl : getL name es = some none) :
    ∀ X s, FRx G ρ X s.heap → ∀ A pl (Q : Value × List Value → Shared → Prop) E, (∀ tk, Q (.ref f, [.ref x]) { s with toks := tk }) → wpAny (model prog w) A (getMethod (.ref x) name pl) Q E s := fun X s F A pl Q E q =>
  method_fn (c.kin F) (I.at F) hga hk hf ht (by show (lookIn name (dictOf es k)).map _ = _; rw [lookIn_dict, hl]; rfl) (q s.toks)
def putLg (lg : List (Addr × Obj)) (d : Addr) (o : Obj) : List (Addr × Obj) := lg.map fun q => if q.1 = d then (d, o) else q
theorem putLg_mem {lg : List (Addr × Obj)} {d : Addr} {o : Obj} {p : Addr × Obj} (h : p ∈ putLg lg d o) : (p ∈ lg ∧ p.1 ≠ d) ∨ p = (d, o) := by
  obtain ⟨q, hq, e⟩ := List.mem_map.mp h
  split at e
  · exact .inr e.symm
  · rename_i z; subst e; exact .inl ⟨hq, z⟩
theorem putLg_in {lg : List (Addr × Obj)} {d : Addr} {o : Obj} {p : Addr} (h : InLg (putLg lg d o) p) : InLg lg p := by
  obtain ⟨q, hq, rfl⟩ := h
  obtain ⟨r, hr, e⟩ := List.mem_map.mp hq
  split at e
  · rename_i z; subst e; exact ⟨r, hr, z⟩
  · subst e; exact ⟨r, hr, rfl⟩
theorem GoE.put {X : Addr → Prop} {s : Shared} {d : Addr} {o' : Obj} {h' : Heap} {tk : Nat} {a : AV} {v : Value} (F : FRx G ρ X s.heap) (hd : InLg ρ.lg d) (ns : ∀ m, s.heap.Ns G.env.locals m → h'.Ns G.env.locals m) (k : ∀ b o, b ≠ G.env.locals → b ≠ d → s.heap.get? b = some o → h'.get? b = some o) (g : h'.get? d = some o')
    (vr : ∀ X' , (∀ p, X p → X' p) → Mv X X' s.heap h' → VR X' h' v a) (no : ∀ xs, a ≠ .own xs) : GoE G ρ X s a (putLg ρ.lg d o') v { s with heap := h', toks := tk } := by
  have lx : ∀ p, InLg ρ.lg p → X p := fun p ⟨q, hq, e⟩ => e ▸ (F.led q hq).2.1
  have hok : ∀ p, InLg ρ.lg p → (h'.get? p).isSome = true := fun p hp => by
    by_cases e : p = d
    · rw [e, g, Option.isSome_some]
    · obtain ⟨q, hq, rfl⟩ := hp
      rw [k q.1 q.2 (fun z => F.xo _ (lx _ ⟨q, hq, rfl⟩) (.inl z)) e (F.led q hq).1]; rfl
  have hl : ∀ p ∈ putLg ρ.lg d o', h'.get? p.1 = some p.2 ∧ (InLg ρ.lg p.1 ∨ s.heap.get? p.1 = none) := fun p hp => by
    rcases putLg_mem hp with ⟨h1, h2⟩ | rfl
    · exact ⟨k p.1 p.2 (fun z => F.xo _ (lx _ ⟨p, h1, rfl⟩) (.inl z)) h2 (F.led p h1).1, .inl ⟨p, h1, rfl⟩⟩
    · exact ⟨g, .inl hd⟩
  obtain ⟨F', mv⟩ := F.step (h' := h') (lg' := putLg ρ.lg d o') ns (fun b o h1 h2 e => k b o h1 (fun z => h2 (z ▸ hd)) e) hok hl
  refine ⟨⟨h', tk, rfl⟩, fun b o e h1 h2 => k b o (fun z => h1 (.inl z)) (fun z => h2 (z ▸ lx _ hd)) e, ⟨_, F', fun p z => ?_, vr _ (fun p z => .inl z) mv⟩, no⟩
  rcases z with z | z
  · exact .inl z
  · exact .inl (lx _ (putLg_in z))
structure SetOk (K : Frag) (C : Addr) (name : Str) : Prop where
  hs : findIn K (.ref C) "__setattr__" = some (some (.builtin "object.__setattr__"))
  hp : plainOver K C = true
  ht : takerIn K C name = some none
  hh : hasDictIn K C = true
theorem GoE.next {X : Addr → Prop} {s s' : Shared} {a : AV} {lg : List (Addr × Obj)} {v : Value} (g : GoE G ρ X s a lg v s') : Goes G X s (ρ.led lg) s' := ⟨g.same, g.kept, let ⟨X', F, xn, _⟩ := g.fr; ⟨X', F, xn⟩⟩
theorem Goes.trans' {X : Addr → Prop} {s s₁ s₂ : Shared} {ρ₁ ρ₂ : Loc} (sm : ∃ h' tk, s₁ = { s with heap := h', toks := tk }) (kp : Kept G X s.heap s₁.heap) {X₁ : Addr → Prop} (F₁ : FRx G ρ₁ X₁ s₁.heap) (xn : XNew X X₁ s.heap) (g : Goes G X₁ s₁ ρ₂ s₂) : Goes G X s ρ₂ s₂ := by
  obtain ⟨sm₂, kp₂, X₂, F₂, xn₂⟩ := g
  exact ⟨same_trans sm sm₂, kp.trans kp₂ xn, X₂, F₂, xn.trans xn₂ kp F₂.xo⟩
theorem Cx.setAttr (c : Cx K mg mb h G) {o e : Expr} {name : Str} {p₁ p₂ : Pos} {x dx C : Addr} {es : List DictEntry} {k : Nat} {Φ : Out → Prop} (S : SetOk K C name) (p : EvM prog w n G ρ e (fun a lg => isExact a = true ∧ Ev prog w n G (ρ.led lg) o (.v (.ref x)) ∧ InstL lg x dx C es k ∧ (getL name es).isSome = true ∧ es.length < 1000 ∧
      ∀ v t, Exact a v → Φ (.next (ρ.led (putLg lg dx (dictOf (putL name (PyData.keyHash w.params name) (.str name t) v es) (putN name es k)))))))
    (hsw : swapsWith e (some (.Attribute o name p₁)) p₂.line G.env = pure false := by rfl) : Ex1 prog w n G ρ (.Assign [.Attribute o name p₁] e p₂) Φ := fun A R s X F E => by
  refine plainObj_wpAny_Assign_Attribute (wpAny_mono (p A R s X F E) (fun v s₁ z => ?_) fun _ _ z => z) hsw
  obtain ⟨a, lg, ⟨hex, po, I, hl, hlen, hΦ⟩, sm, kp, ⟨X₁, F₁, xn, vr⟩, no⟩ := z
  have hv := Exact.of hex vr
  refine (po X₁ _ F₁).go R (Ext.refl _) fun u s₂ k₂ x₂ r₂ => ?_
  cases r₂
  have F₂ := F₁.mono x₂
  obtain ⟨m, cm, f, _⟩ := F₂.ex
  have hz : ∀ t : Tok, (putL name (PyData.keyHash w.params name) (.str name t) v es).length ≤ 1000 := fun t => by
    have : ∀ l : List DictEntry, (putL name (PyData.keyHash w.params name) (.str name t) v l).length ≤ l.length + 1 := by
      intro l
      induction l with
      | nil => simp [putL]
      | cons a r ih =>
        unfold putL
        split
        · simp
        · simpa using ih
    have := this es
    omega
  refine kset f.ns (c.kin F₂) (F₂.led _ I.x).1 (F₂.led _ I.d).1 (fun z => F₂.xo _ (F₂.led _ I.d).2.1 (.inl z)) S.hs S.hp S.ht S.hh hl (hz _) fun h' ns' kp' g' => ?_
  have G₁ : GoE G (ρ.led lg) X₁ s₂ (.v .none) _ .none _ := GoE.put (ρ := ρ.led lg) (s := s₂) (h' := h') (tk := s₂.toks + 2) F₂ ⟨_, I.d, rfl⟩ (fun m' hm' => (by
    -- the frame's names stand
    obtain ⟨o1, es1, ep1, q1, q2, q3, q4⟩ := f.ns
    obtain ⟨o2, es2, ep2, q5, q6, q7, q8⟩ := ns'
    obtain ⟨o3, es3, ep3, r1, r2, r3, r4⟩ := hm'
    rw [q1] at r1; cases r1
    rw [q2] at r2; cases r2
    exact ⟨o2, es2, ep2, q5, q6, q7, fun nm => by rw [q8, ← q4, r4]⟩)) kp' g' (fun X' _ _ => rfl) (fun _ z => by cases z)
  have := G₁.next.trans' (same_trans sm (Kp.same k₂)) (kp.trans (Kept.ext x₂) xn) F₂ (xn)
  exact ⟨_, hΦ _ _ hv, rfl, this⟩
end
end Mine
end

section
open PySem PySem.W PyProof.Rows PySem.Calls Builtin Builtin.ObjectAttr
set_option Elab.async false
set_option linter.unusedVariables false
set_option maxRecDepth 100000
namespace Mine
def NsObj (o : Obj) (m : Str → Option Value) : Prop := ∃ es ep, o.data = .dict es ep ∧ StrKeys es ∧ ∀ x, nsFind es x = m x
theorem fnt_sa : Slot "function" "__setattr__" "object.__setattr__" :=
  .of (owner := "object") (n := "__setattr__") (by rw [typeLookup_type, builtinLookup_eq_fast]; kernel_rfl) (by decide +kernel) (by decide +kernel) (by decide +kernel)
    (by first | exact .inl (by decide +kernel) | exact .inr (by decide +kernel)) (by rw [isSubtype_type]; kernel_rfl)
theorem fnt_mro : mroOf (.type "function") = pure [.type "function", .type "object"] := by kernel_rfl
theorem fnt_pass (self : Value) : PySem.refuseLoop self "__setattr__" [.type "function", .type "object"] = pure () := by kernel_rfl
theorem fnt_ga : typeLookup (.type "function") "__getattribute__" = pure (some (.builtin "object.__getattribute__")) := by rw [typeLookup_type, builtinLookup_eq_fast]; kernel_rfl
theorem fnt_gt : typeLookup (.type "function") "__getattr__" = pure none := by rw [typeLookup_type, builtinLookup_eq_fast]; kernel_rfl
theorem fnt_read : typeLookup (.type "function") "read" = pure none := by rw [typeLookup_type, builtinLookup_eq_fast]; kernel_rfl
theorem fnt_gaslot : Slot "function" "__getattribute__" "object.__getattribute__" :=
  .of (owner := "object") (n := "__getattribute__") (by rw [typeLookup_type, builtinLookup_eq_fast]; kernel_rfl) (by decide +kernel) (by decide +kernel) (by decide +kernel)
    (by first | exact .inl (by decide +kernel) | exact .inr (by decide +kernel)) (by rw [isSubtype_type]; kernel_rfl)
theorem fnt_gaentry : entryFor table "object.__getattribute__" = some Builtin.«object.__getattribute__» := entryFor_of_tree (by kernel_rfl)
abbrev fnObj (fd : FuncData) (sl : Array (Option Value)) (d : Option Addr) : Obj := ⟨.type "function", d, .func fd, sl⟩
section
variable {prog : Program} {w : World} {A : Around} {E : Value → Shared → Prop}
theorem fn_set {s : Shared} {st : Addr} {fd : FuncData} {sl : Array (Option Value)} {name : Str} {v : Value} {Q : Unit → Shared → Prop} (hx : s.heap.get? st = some (fnObj fd sl none)) (hB : typeLookup (.type "function") name = pure none)
    (hq : ∀ sd h' tk o, s.heap.get? sd = none → (∀ b o, b ≠ st → s.heap.get? b = some o → h'.get? b = some o) → h'.get? st = some (fnObj fd sl (some sd)) → h'.get? sd = some o → NsObj o (fun x => if x = name then some v else none) → Q () { s with heap := h', toks := tk }) :
    wpAny (model prog w) A (setAttr (.ref st) name v) Q E s := by
  have hT : s.TypeIs (.ref st) "function" := ⟨_, hx, rfl⟩
  unfold setAttr
  refine wpAny_bind (wpAny_mkText ?_)
  have hT' : Shared.TypeIs { s with toks := s.toks + 1 } (.ref st) "function" := ⟨_, hx, rfl⟩
  refine wpAny_bind (wpAny_callSpecial?_slot (name := "__setattr__") hT' fnt_sa (wpAny_call_entry fnt_sa hT' PySem.F.entry_object_sa ?_ (by unfold argsOk; kernel_rfl)))
  obtain ⟨h, g, d, t, os⟩ := s
  have hx : h.get? st = some (fnObj fd sl none) := hx
  have hpass := fnt_pass (.ref st)
  have hm := fnt_mro
  rw [osa_eq, refuse_eq]
  refine wpAny_bind (wpAny_bind (wpAny_bind (wpAny_loadPart hx (wpAny_pure ?_))))
  show wpAny _ _ (mroOf (.type "function") >>= _) _ _ _
  rw [hm]
  refine wpAny_bind (wpAny_pure ?_)
  rw [hpass]
  refine wpAny_pure ?_
  refine wpAny_bind (wpAny_bind (wpAny_loadPart hx (wpAny_pure ?_)))
  show wpAny _ _ (typeLookup (.type "function") name >>= _) _ _ _
  rw [hB]
  refine wpAny_bind (wpAny_pure ?_)
  refine wpAny_bind (wpAny_pure (a := (none : Option Value)) ?_)
  show wpAny _ _ (storeInOwnDict (.ref st) (.type "function") (.str name t) name v false) _ _ _
  unfold storeInOwnDict
  refine wpAny_bind (m := ownStreamTells _ _) (wpAny_of_eq (a := ()) (by kernel_rfl) ?_)
  show wpAny _ _ (if (Value.type "function" == Value.type "module") = true then _ else _) _ _ _
  rw [if_neg (by decide)]
  refine wpAny_bind ?_
  show wpAny _ _ (instanceDict st true) _ _ _
  unfold instanceDict
  refine wpAny_bind (wpAny_loadPart hx ?_)
  show wpAny _ _ (if (!true || !typeHasDict (.type "function")) = true then _ else _) _ _ _
  rw [if_neg (by decide +kernel)]
  have hx₁ : (h.push { cls := .type "dict", data := .dict #[] }).get? st = some (fnObj fd sl none) := Heap.get?_push_of_some _ hx
  have hxs : st ≠ h.objs.size := Nat.ne_of_lt (Heap.lt_size hx)
  refine wpAny_bind (wpAny_alloc' ?_)
  refine wpAny_bind (wpAny_update' hx₁ ?_)
  refine wpAny_pure ?_
  have hgd : ((h.push { cls := .type "dict", data := .dict #[] }).update st fun o => { cls := o.cls, dict := some h.objs.size, data := o.data, slots := o.slots }).get? h.objs.size
      = some { cls := .type "dict", data := .dict #[] } :=
    (Heap.get?_update_ne _ _ _ _ hxs.symm).trans (Heap.get?_push_at rfl rfl)
  have hnd : ((h.push { cls := .type "dict", data := .dict #[] }).update st fun o => { cls := o.cls, dict := some h.objs.size, data := o.data, slots := o.slots }).Ns h.objs.size (fun _ => none) :=
    ⟨_, #[], _, hgd, rfl, fun e he => absurd he (by simp), fun _ => rfl⟩
  show wpAny _ _ (storeInDict h.objs.size (.str name t) name v) _ _ _
  unfold storeInDict newKeyGuard
  refine wpAny_bind (wpAny_pure (wpAny_bind (wpAny_nsSet1 (Heap.Ns1.of_empty hnd) fun h' hn' hs => ?_)))
  obtain ⟨oD, esD, epD, hoD, hdD, hcD⟩ := hn'.count (Within.cons name v Within.nil)
  refine wpAny_bind (wpAny_lookBehind hoD (by rw [hdD]; exact pastItsLine_dict (Nat.le_trans hcD (by rw [List.length_cons, List.length_nil, sizeLine_eq]; omega))) ?_)
  refine wpAny_pure ⟨_, rfl, ?_⟩
  refine wpAny_pure ?_
  obtain ⟨o', es, ep, e1, e2, e3, eu, e4⟩ := hn'
  have := hq h.objs.size h' (t + 1 + 1) o' (Heap.get?_none_of_le (Nat.le_refl _)) (fun b ob hbx hb => (hs.2 b (Nat.ne_of_lt (Heap.lt_size hb))).trans ((Heap.get?_update_ne _ _ _ _ hbx).trans (Heap.get?_push_of_some _ hb)))
    ((hs.2 st hxs).trans (Heap.get?_update_self _ hx₁ rfl)) e1 ⟨es, ep, e2, e3, fun y => by rw [e4 y]⟩
  exact this
theorem fn_getMethod {s : Shared} {st sd : Addr} {fd : FuncData} {sl : Array (Option Value)} {od : Obj} {m : Str → Option Value} {name : Str} {v : Value} {pl : Sem Bool} {Q : Value × List Value → Shared → Prop} (hx : s.heap.get? st = some (fnObj fd sl (some sd))) (hd : s.heap.get? sd = some od) (hm : NsObj od m) (hv : m name = some v) (hh : handedIn v = true) (hc : copiedNames.contains name = false)
    (hB : typeLookup (.type "function") name = pure none) (q : ∀ tk, Q (v, []) { s with toks := tk }) : wpAny (model prog w) A (getMethod (.ref st) name pl) Q E s := by
  have hT : s.TypeIs (.ref st) "function" := ⟨_, hx, rfl⟩
  have hT' : Shared.TypeIs { s with toks := s.toks + 1 } (.ref st) "function" := ⟨_, hx, rfl⟩
  have hns : s.heap.Ns sd m := let ⟨es, ep, a, b, c⟩ := hm; ⟨od, es, ep, hd, a, b, c⟩
  unfold getMethod
  refine wpAny_bind (wpAny_specialOf hT fnt_ga ?_)
  show wpAny _ _ (if (Manifest.canonical "object.__getattribute__" != "object.__getattribute__") = true then _ else _) _ _ _
  rw [if_neg (by decide +kernel)]
  refine wpAny_bind (wpAny_specialOf hT fnt_gt ?_)
  show wpAny _ _ (if (none : Option Value).isSome = true then _ else _) _ _ _
  rw [if_neg (by decide)]
  refine wpAny_bind (wpAny_specialOf hT hB ?_)
  show wpAny _ _ (getAttr (.ref st) name false >>= _) _ _ _
  refine wpAny_bind ?_
  unfold getAttr getAttrBy
  refine wpAny_bind (wpAny_mkText (wpAny_holding (wpAny_bind (wpAny_bind (wpAny_loadPart (s := { s with toks := s.toks + 1 }) hx (wpAny_pure ?_))))))
  show wpAny _ _ (typeLookup (.type "function") "__getattribute__" >>= _) _ _ _
  rw [fnt_ga]
  refine wpAny_bind (wpAny_pure ?_)
  show wpAny _ _ (getAttrByItsOwn (.ref st) (.str name s.toks) (.type "function") (.builtin "object.__getattribute__") true false) _ _ _
  unfold getAttrByItsOwn hookBefore callGetattribute boundAndCalled
  refine wpAny_bind (wpAny_of_eq (show (if onTheHeap (.type "function") then typeLookup (.type "function") "__getattr__" else pure none) = pure none from rfl) ?_)
  refine wpAny_bind (wpAny_attempt (wpAny_holding ?_))
  show wpAny _ _ (bindSpecial (.builtin "object.__getattribute__") (.ref st) >>= _) _ _ _
  refine wpAny_bind (wpAny_of_eq (fnt_gaslot.bind _) ?_)
  refine wpAny_call_entry fnt_gaslot hT' fnt_gaentry ?_ (by unfold argsOk; kernel_rfl)
  unfold Builtin.«object.__getattribute__»
  obtain ⟨h, g, d, t, os⟩ := s
  have hx : h.get? st = some (fnObj fd sl (some sd)) := hx
  refine wpAny_bind (m := slotArgs "__getattribute__" 1 _) (wpAny_pure ?_)
  refine (wpAny_bind (wpAny_pure (wpAny_bind (wpAny_bind (wpAny_loadPart hx (wpAny_pure ?_))))))
  show wpAny _ _ (find (.ref st) (.type "function") name >>= _) _ _ _
  unfold find
  refine wpAny_bind ?_
  rw [hB]
  refine wpAny_bind (wpAny_pure (wpAny_bind (wpAny_pure (a := (none : Option Value)) (wpAny_bind (wpAny_pure (a := (none : Option (Value × Value))) ?_)))))
  show wpAny _ _ (ownThenClass (.ref st) name none none) _ _ _
  unfold ownThenClass inOwnDict ObjectAttr.ownDict
  refine wpAny_bind (wpAny_bind (wpAny_bind (wpAny_loadPart hx ?_)))
  show wpAny _ _ (instanceDict st false) _ _ _
  unfold instanceDict
  refine wpAny_bind (wpAny_loadPart hx ?_)
  refine wpAny_pure ?_
  show wpAny _ _ (nsGet sd name) _ _ _
  refine wpAny_nsGet hns ?_
  rw [hv]
  refine wpAny_bind (wpAny_rule (wpAny_pure ?_))
  refine wpAny_pure ⟨_, rfl, ?_⟩
  show wpAny _ _ (handedOut v) _ _ _
  rw [handedOut_of hh]
  exact wpAny_pure (wpAny_pure (q _))
end
end Mine
end

section
open PySem PySem.W PyProof.Rows PySem.Calls
set_option Elab.async false
set_option linter.unusedVariables false
set_option maxRecDepth 100000
namespace Mine
section
variable {prog : Program} {w : World} {n : Nat} {G : Ga} {ρ : Loc} {K : Frag} {mg mb : Str → Option Value} {h : Heap}
theorem GoE.grow {X : Addr → Prop} {s : Shared} {new : List (Addr × Obj)} {h' : Heap} {tk : Nat} {a : AV} {v : Value} (F : FRx G ρ X s.heap) (e : Ext s.heap h') (hn : ∀ p ∈ new, h'.get? p.1 = some p.2 ∧ s.heap.get? p.1 = none)
    (vr : ∀ X', VR X' h' v a) (no : ∀ xs, a ≠ .own xs) : GoE G ρ X s a (new ++ ρ.lg) v { s with heap := h', toks := tk } := by
  obtain ⟨F', mv⟩ := F.step (h' := h') (lg' := new ++ ρ.lg) (fun m hm => hm.keeps e) (fun b o _ _ q => e b o q) (fun p ⟨q, hq, z⟩ => by rw [← z, e _ _ (F.led q hq).1]; rfl) (fun p hp => by
    rcases List.mem_append.mp hp with hp | hp
    · exact ⟨(hn p hp).1, .inr (hn p hp).2⟩
    · exact ⟨e _ _ (F.led p hp).1, .inl ⟨p, hp, rfl⟩⟩)
  refine ⟨⟨h', tk, rfl⟩, Kept.ext e, ⟨_, F', fun p z => ?_, vr _⟩, no⟩
  rcases z with z | ⟨q, hq, rfl⟩
  · exact .inl z
  · rcases List.mem_append.mp hq with hq | hq
    · exact .inr (hn q hq).2
    · exact .inl (F.led q hq).2.1
theorem GoE.after {X X₁ : Addr → Prop} {s s₁ s₂ : Shared} {lg lg' : List (Addr × Obj)} {a : AV} {v : Value} (sm : ∃ h' tk, s₁ = { s with heap := h', toks := tk }) (kp : Kept G X s.heap s₁.heap) (F₁ : FRx G (ρ.led lg) X₁ s₁.heap) (xn : XNew X X₁ s.heap) (g : GoE G (ρ.led lg) X₁ s₁ a lg' v s₂) : GoE G ρ X s a lg' v s₂ := by
  obtain ⟨sm₂, kp₂, ⟨X₂, F₂, xn₂, vr⟩, no⟩ := g
  exact ⟨same_trans sm sm₂, kp.trans kp₂ xn, ⟨X₂, F₂, xn.trans xn₂ kp F₂.xo, vr⟩, no⟩
theorem GoE.after0 {X : Addr → Prop} {s s₁ s₂ : Shared} {lg' : List (Addr × Obj)} {a : AV} {v : Value} (k : Kp s s₁) (g : GoE G ρ X s₁ a lg' v s₂) : GoE G ρ X s a lg' v s₂ := by
  obtain ⟨sm₂, kp₂, ⟨X₂, F₂, xn₂, vr⟩, no⟩ := g
  exact ⟨same_trans (Kp.same k) sm₂, fun b o e h1 h2 => kp₂ b o (Kp.ext k b o e) h1 h2, ⟨X₂, F₂, xn₂.ext (Kp.ext k), vr⟩, no⟩
theorem Cx.bound (c : Cx K mg mb h G) {o : Expr} {name : Str} {pos : Pos} {x dx C f : Addr} {es : List DictEntry} {k : Nat} {Ψ : AV → List (Addr × Obj) → Prop} (p : Ev prog w n G ρ o (.v (.ref x))) (I : InstL ρ.lg x dx C es k) (hga : findIn K (.ref C) "__getattribute__" = some (some (.builtin "object.__getattribute__"))) (hk : findIn K (.ref C) "__getattr__" = some none)
    (hf : findObj K C (some (dictOf es k)) name = some (.bind (.builtin "function.__get__") (.ref f))) (ht : typeIn K (.ref f) = some (.type "function")) (q : ∀ a, ¬ InLg ρ.lg a → Ψ (.v (.ref a)) ([(a, methodObj (.ref f) (.ref x))] ++ ρ.lg)) (hbase : attributeBase o name G.env (eval o G.env) = eval o G.env := by rfl) : EvM prog w n G ρ (.Attribute o name pos) Ψ := fun A R s X F E => by
  refine Attribute_any_ ((p X _ F).go R (Ext.refl _) fun u s₁ k₁ x₁ r₁ => ?_) (attr_he hbase)
  cases r₁
  have F₁ := F.mono x₁
  refine get_bind (c.kin F₁) (I.at F₁) hga hf hk (wpAny_call (fn_get (s := { s₁ with toks := s₁.toks + 1 }) (c.kin F₁) ht ?_))
  refine wpAny_pure ?_
  refine ⟨_, _, q s₁.heap.objs.size (fun ⟨p, hp, e⟩ => by have := (F₁.led p hp).1; rw [e, get_size_none] at this; cases this), GoE.after0 k₁ (GoE.grow (s := s₁) (h' := s₁.heap.push _) (tk := s₁.toks + 1) F₁ (Ext.push _ _) (fun p hp => ?_) (fun X' => rfl) (fun _ z => by cases z))⟩
  cases List.mem_singleton.mp hp
  exact ⟨Heap.get?_push_size _ rfl, get_size_none _⟩
theorem meth_call_lookup : typeLookup (.type "method") "__call__" = pure (some (.builtin "method.__call__")) := by rw [typeLookup_type, builtinLookup_eq_fast]; kernel_rfl
theorem iter_entry : entryFor table "iter" = some Builtin.«iter» := entryFor_of_fast (by kernel_rfl)
theorem code_function_entry {A : Around} {s : Shared} {id : String} {b : Builtin} {args : List Value} {Q : Value → Shared → Prop} {E : Value → Shared → Prop} (hk : builtinKind id = none) (hp : plainId id = true)
    (hb : entryFor table id = some b) (ha : argsOk id ⟨args, []⟩)
    (hc : wpAny (model prog w) A.in1 (b ⟨args, []⟩) (fun fin s' => ∃ v, fin = .done (.ret v) ∧ Q v s') E s) : codeAny (model prog w) A (.call (.builtin id) ⟨args, []⟩) (fun r s' => match r with | .ok (.ret v) => Q v s' | .ok _ => False | .error e => E e s') s := by
  refine (codeAny_call_builtin hp hb ?_)
  have hfin := wpAny_mono hc (Q' := fun fin s' => match fin with
      | .done f => (match (Except.ok f : Result) with | .ok (.ret v) => Q v s' | .ok _ => False | .error e => E e s')
      | .again c' => c'.quiet = true ∧ codeAny (model prog w) A c' (fun r s' => match r with | .ok (.ret v) => Q v s' | .ok _ => False | .error e => E e s') s')
    (fun fin s' h' => by obtain ⟨v, rfl, hv⟩ := h'; exact hv) fun _ _ h' => h'
  simp only [checkBuiltinCall, hk]
  cases hsig : Manifest.signature? id with
  | none => exact wpAny_pure hfin
  | some sig =>
    simp only [argsOk, hsig] at ha
    have h2 : Bind.checkArgs id sig ⟨args, []⟩ = pure () := ha
    show wpAny _ A.in1 (Bind.checkArgs id sig ⟨args, []⟩) _ _ s
    rw [h2]; exact wpAny_pure hfin
theorem CallPost.grow {X : Addr → Prop} {s : Shared} {lg new : List (Addr × Obj)} {h' : Heap} {tk : Nat} {a : AV} {v : Value} (hlg : ∀ p ∈ lg, s.heap.get? p.1 = some p.2 ∧ X p.1) (e : Ext s.heap h') (hn : ∀ p ∈ new, h'.get? p.1 = some p.2 ∧ s.heap.get? p.1 = none)
    (vr : ∀ X', VR X' h' v a) (no : ∀ xs, a ≠ .own xs) : CallPost s X lg a (new ++ lg) v { s with heap := h', toks := tk } where
  same := ⟨h', tk, rfl⟩
  kept := fun b o q _ => e b o q
  led := fun p hp => by
    rcases List.mem_append.mp hp with hp | hp
    · exact ⟨(hn p hp).1, .inr (hn p hp).2⟩
    · exact ⟨e _ _ (hlg p hp).1, .inl ⟨p, hp, rfl⟩⟩
  vr := vr _
  no := no
  ok := fun p ⟨q, hq, z⟩ => by rw [← z, e _ _ (hlg q hq).1]; rfl
theorem CallL.iter {q : Addr} {f self : Value} {y : Str} {lg : List (Addr × Obj)} {Ψ : AV → List (Addr × Obj) → Prop} (hq : (q, methodObj f self) ∈ lg) (k : ∀ it t, ¬ InLg lg it → Ψ (.v (.ref it)) ([(it, ciObj q y t)] ++ lg)) : CallL prog w n h (.builtin "iter") [.v (.ref q), .d (.str y)] lg Ψ := fun A R s X x av xok hlg vs rs E => by
  cases rs with
  | cons r rs =>
    cases rs with
    | cons r' rs =>
      cases rs
      cases r
      cases r' with
      | str y t =>
        have hT : s.TypeIs (.ref q) "method" := ⟨_, (hlg _ hq).1, rfl⟩
        refine code_function_entry (Q := fun v s' => ∃ a lg', Ψ a lg' ∧ CallPost s X lg a lg' v s') (by decide +kernel) (by decide +kernel) iter_entry (iter_args2 _ _) ?_
        unfold Builtin.«iter»
        refine wpAny_bind (m := someArgs "iter" 1 2 _) (wpAny_of_eq (a := [Value.ref q, .str y t]) (by first | rfl | kernel_rfl!) ?_)
        refine wpAny_bind (wpAny_specialOf hT meth_call_lookup ?_)
        show wpAny _ _ (if (some (Value.builtin "method.__call__")).isNone = true then _ else _) _ _ _
        rw [if_neg (by decide)]
        refine wpAny_bind (wpAny_rule (wpAny_bind ?_))
        refine wpAny_newObj_type ?_ (by size_fits)
        refine wpAny_pure ⟨_, rfl, _, _, k s.heap.objs.size t (fun ⟨p, hp, e⟩ => by have := (hlg p hp).1; rw [e, get_size_none] at this; cases this), CallPost.grow (h' := s.heap.push _) (tk := s.toks) hlg (Ext.push _ _) (fun p hp => ?_) (fun _ => rfl) (fun _ z => by cases z)⟩
        cases List.mem_singleton.mp hp
        exact ⟨Heap.get?_push_size _ rfl, get_size_none _⟩
end
end Mine
end

section
open PySem PySem.W PyProof.Rows PySem.Calls
set_option Elab.async false
set_option linter.unusedVariables false
set_option maxRecDepth 100000
namespace Mine
abbrev lstObj (its : Array Value) (n : Nat) : Obj := { cls := .type "list", data := .seq its n }
section
variable {prog : Program} {w : World} {n : Nat} {G : Ga} {ρ : Loc} {K : Frag} {mg mb : Str → Option Value} {h : Heap}
theorem Ev.lsub {value slice : Expr} {pos : Pos} {l : Addr} {o : Obj} {items : Array Value} {k : Int} {j : Nat} {v : Value} (p : Ev prog w n G ρ value (.v (.ref l))) (hl : (l, o) ∈ ρ.lg) (hc : o.cls = .type "list") (hd : o.data = .seq items j) (q : Ev prog w n G ρ slice (.d (.int k))) (h0 : 0 ≤ k) (h1 : k < 2 ^ 63) (hx : items[k.toNat]? = some v)
    (hs : ∀ o i, ∃ ops, subscripted slice false o i = operate ops (getItem o i) := by intro o i; exact ⟨_, rfl⟩) : Ev prog w n G ρ (.Subscript value slice pos) (.v v) := fun X h F A R s x E => by
  refine Subscript_ ((p X h F).go R x fun va s₁ k₁ x₁ r₁ => (q X h F).go R x₁ fun vi s₂ k₂ x₂ r₂ => ?_)
  cases r₁
  cases r₂
  obtain ⟨ops, hs⟩ := hs (.ref l) (.int k ‹_›)
  have hL : s₂.heap.IsList l items := ⟨o, x₂ _ _ (F.led _ hl).1, hc, j, hd⟩
  exact tail_any hL.typeIs slot_list_getitem.lookup (wpAny_getItem_list hL h0 h1 hx ⟨k₁.trans k₂, rfl⟩) hs
theorem EvT.llist {e : Expr} {l : Addr} {o : Obj} {items : Array Value} {j : Nat} (p : Ev prog w n G ρ e (.v (.ref l))) (hl : (l, o) ∈ ρ.lg) (hc : o.cls = .type "list") (hd : o.data = .seq items j) (hz : (items.size : Int) < 2 ^ 63)
    (he : isTrue e G.env (eval e G.env) = (do let v ← eval e G.env; standAt e.pos; holding [v] (truthy v)) := by rfl) : EvT prog w n G ρ e (!items.isEmpty) := fun X h F A R s x E =>
  isTrue_plain ((p X h F).go R x fun v s' k x' r => by
    cases r
    exact wpAny_truthy_list ⟨o, x' _ _ (F.led _ hl).1, hc, j, hd⟩ hz ⟨k.trans (Kp.of s' (Ext.refl _)), rfl⟩) he
theorem Ex1.lset {o i e : Expr} {p₁ p₂ : Pos} {l : Addr} {ob : Obj} {items : Array Value} {k j : Int} {m : Nat} {Φ : Out → Prop} (pe : Ev prog w n G ρ e (.d (.int j))) (po : Ev prog w n G ρ o (.v (.ref l))) (pi : Ev prog w n G ρ i (.d (.int k))) (hl : (l, ob) ∈ ρ.lg) (hc : ob.cls = .type "list") (hd : ob.data = .seq items m)
    (h0 : 0 ≤ k) (h1 : k < 2 ^ 63) (h2 : k < items.size) (q : ∀ o' t, o'.cls = .type "list" → (∃ m', o'.data = .seq (items.setIfInBounds k.toNat (.int j t)) m') → Φ (.next (ρ.led (putLg ρ.lg l o'))))
    (hs : swapsWith e (some (.Subscript o i p₁)) p₂.line G.env = pure false := by rfl) : Ex1 prog w n G ρ (.Assign [.Subscript o i p₁] e p₂) Φ := fun A R s X F E => by
  refine wpAny_Assign_Subscript ((pe X _ F).go R (Ext.refl _) fun v s₁ k₁ x₁ r₁ => (po X _ F).go R x₁ fun vo s₂ k₂ x₂ r₂ => (pi X _ F).go R x₂ fun vi s₃ k₃ x₃ r₃ => ?_) hs
  cases r₁; cases r₂; cases r₃
  rename_i t u
  have F₃ := F.mono x₃
  refine wpAny_setItem_list ⟨ob, x₃ _ _ (F.led _ hl).1, hc, m, hd⟩ h0 h1 h2 fun h' hL hs' => ?_
  obtain ⟨o', g, c', m', d'⟩ := hL
  have kk := (k₁.trans k₂).trans k₃
  have G₁ : GoE G ρ X s₃ (.v .none) (putLg ρ.lg l o') .none { s₃ with heap := h' } := GoE.put (ρ := ρ) (s := s₃) (h' := h') (tk := s₃.toks) F₃ ⟨_, hl, rfl⟩ (fun mm hm => hm.sameBut hs' fun z => F.xo l (F.led _ hl).2.1 (.inl z.symm)) (fun b ob' _ nb q => (hs'.2 b nb).trans q) g (fun _ _ _ => rfl) (fun _ z => by cases z)
  exact ⟨_, q o' t c' ⟨m', d'⟩, rfl, (GoE.after0 kk G₁).next⟩
theorem EvM.lpop {o e : Expr} {apos pos : Pos} {l : Addr} {items : List Value} {m : Nat} {x : Str} {t : Tok} {Ψ : AV → List (Addr × Obj) → Prop} (po : Ev prog w n G ρ o (.v (.ref l))) (pe : Ev prog w n G ρ e (.d (.int 0))) (hl : (l, lstObj (Value.str x t :: items).toArray m) ∈ ρ.lg) (hz : (Value.str x t :: items).length ≤ sizeLine) (q : ∀ m', Ψ (.d (.str x)) (putLg ρ.lg l (lstObj items.toArray m')))
    (hs : NoStar [e] = true := by rfl) (hbase : attributeBase o "pop" G.env (eval o G.env) = eval o G.env := by rfl) (hline : (apos.endLine == pos.line) = true := by rfl) : EvM prog w n G ρ (.Call (.Attribute o "pop" apos) [e] [] pos) Ψ := fun A R s X F E => by
  refine MethodCall_ ((po X _ F).go R (Ext.refl _) fun v s₁ k₁ x₁ r₁ => ?_) (meth_he hbase hs rfl hline)
  cases r₁
  have F₁ := F.mono x₁
  have g₁ := (F₁.led _ hl).1
  refine getMethod_list_of PySem.F.slot_list_pop rfl ⟨_, g₁, rfl, m, rfl⟩ ⟨_, g₁, rfl⟩ ?_
  have ps : PuS prog w n X G.env s.heap [e] [.d (.int 0)] := .cons (pe X _ F) .nil (starEach_cons (env := G.env) hs).1
  refine callWith_of (P := fun _ => True) (by rw [noStar_any hs]; rfl) (fun h' _ => ⟨.machine, .inr (.inl rfl), Looks.of_pure rfl⟩) (evalArgs_of hs (wpAny_mono (ps pos A R s₁ x₁ E) (fun us s₂ z => ⟨trivial, ?_⟩) fun _ _ z => z))
  obtain ⟨k₂, r⟩ := z
  cases r with
  | cons r rs =>
    cases rs
    cases r with
    | int x' u =>
      have F₂ := F₁.mono (Kp.ext k₂)
      have g₂ := (F₂.led _ hl).1
      refine call_meets PySem.F.slot_list_pop ⟨_, g₂, rfl⟩ PySem.F.entry_list_pop (PySem.F.args_list_pop_2 _ _) (PySem.MeetsSeq.list_pop_at l _ m 0 u 0 (.str x t) (by decide) (by unfold seqIndex?; simp) (by simp) (by simpa using hz)) ⟨g₂, ?_⟩
      have hs' : Heap.SameBut l s₂.heap (s₂.heap.update l (Obj.mapSeq fun xs => xs.eraseIdxIfInBounds 0)) := Heap.SameBut.update ..
      have g' := PySem.IsL.update g₂ (fun xs => xs.eraseIdxIfInBounds 0)
      have er : (Value.str x t :: items).toArray.eraseIdxIfInBounds 0 = items.toArray := by simp [Array.eraseIdxIfInBounds]
      rw [er, if_neg (by simp)] at g'
      exact ⟨_, _, q (m + 1), GoE.after0 (k₁.trans k₂) (GoE.put (s := s₂) (h' := _) (tk := s₂.toks) F₂ ⟨_, hl, rfl⟩ (fun mm hm => hm.sameBut hs' fun z => F.xo l (F.led _ hl).2.1 (.inl z.symm)) (fun b ob' _ nb q => (hs'.2 b nb).trans q) g' (fun _ _ _ => .str _ _) (fun _ z => by cases z))⟩
theorem Cx.augAttr (c : Cx K mg mb h G) {o e : Expr} {name : Str} {p₁ p₂ : Pos} {x dx C : Addr} {es : List DictEntry} {k : Nat} {i j : Int} {t : Tok} {Φ : Out → Prop} (S : SetOk K C name) (hga : findIn K (.ref C) "__getattribute__" = some (some (.builtin "object.__getattribute__"))) (ha : findIn K (.ref C) name = some none)
    (po : Ev prog w n G ρ o (.v (.ref x))) (pe : Ev prog w n G ρ e (.d (.int j))) (I : InstL ρ.lg x dx C es k) (hl : getL name es = some (some (.int i t))) (hlen : es.length < 1000)
    (q : ∀ u t, Φ (.next (ρ.led (putLg ρ.lg dx (dictOf (putL name (PyData.keyHash w.params name) (.str name u) (.int (i + j) t) es) (putN name es k)))))) : Ex1 prog w n G ρ (.AugAssign (.Attribute o name p₁) .Add e p₂) Φ := fun A R s X F E => by
  refine wpAny_AugAssign_AttributeAny ((po X _ F).go R (Ext.refl _) fun u s₁ k₁ x₁ r₁ => ?_)
  cases r₁
  have F₁ := F.mono x₁
  refine get_value (c.kin F₁) (I.at F₁) hga (findObj_own S.hh ha rfl hl) rfl ?_
  refine (pe X _ F).go R (s := { s₁ with toks := s₁.toks + 1 }) x₁ fun v s₂ k₂ x₂ r₂ => ?_
  cases r₂
  refine iadd_int ?_
  have kk : Kp s { s₂ with toks := s₂.toks + 1 } := (k₁.trans (Kp.of s₁ (Ext.refl _))).trans (k₂.trans (Kp.of s₂ (Ext.refl _)))
  have F₃ : FRx G ρ X (Shared.heap { s₂ with toks := s₂.toks + 1 }) := F.mono x₂
  generalize hs₃ : ({ s₂ with toks := s₂.toks + 1 } : Shared) = s₃ at kk F₃
  obtain ⟨m, cm, f, _⟩ := F₃.ex
  have hz : ∀ t' : Tok, (putL name (PyData.keyHash w.params name) (.str name t') (.int (i + j) s₂.toks) es).length ≤ 1000 := fun t' => by
    have : ∀ l : List DictEntry, (putL name (PyData.keyHash w.params name) (.str name t') (.int (i + j) s₂.toks) l).length ≤ l.length + 1 := by
      intro l
      induction l with
      | nil => simp [putL]
      | cons a r ih =>
        unfold putL
        split
        · simp
        · simpa using ih
    have := this es
    omega
  refine kset f.ns (c.kin F₃) (F₃.led _ I.x).1 (F₃.led _ I.d).1 (fun z => F₃.xo _ (F₃.led _ I.d).2.1 (.inl z)) S.hs S.hp S.ht S.hh (by rw [hl]; rfl) (hz _) fun h' ns' kp' g' => ?_
  have G₁ : GoE G ρ X s₃ (.v .none) _ .none _ := GoE.put (ρ := ρ) (s := s₃) (h' := h') (tk := s₃.toks + 2) F₃ ⟨_, I.d, rfl⟩ (fun m' hm' => (by
    obtain ⟨o1, es1, ep1, q1, q2, q3, q4⟩ := f.ns
    obtain ⟨o2, es2, ep2, q5, q6, q7, q8⟩ := ns'
    obtain ⟨o3, es3, ep3, r1, r2, r3, r4⟩ := hm'
    rw [q1] at r1; cases r1
    rw [q2] at r2; cases r2
    exact ⟨o2, es2, ep2, q5, q6, q7, fun nm => by rw [q8, ← q4, r4]⟩)) kp' g' (fun X' _ _ => rfl) (fun _ z => by cases z)
  exact ⟨_, q _ _, rfl, (GoE.after0 kk G₁).next⟩
end
end Mine
end

section
open PySem PySem.W PyProof.Rows PySem.Calls
set_option Elab.async false
set_option linter.unusedVariables false
set_option maxRecDepth 100000
namespace Mine
section
variable {prog : Program} {w : World} {n : Nat} {G : Ga} {ρ : Loc} {K : Frag} {mg mb : Str → Option Value} {h : Heap}
def TurnI (J : Nat → Loc → Prop) (k : Nat) (B : Loc → Prop) (Φ : Out → Prop) : Out → Prop
  | .next ρ => ∃ k', k' < k ∧ J k' ρ
  | .cont ρ => ∃ k', k' < k ∧ J k' ρ
  | .brk ρ => B ρ
  | .ret d lg => Φ (.ret d lg)
def CiTurn (prog : Program) (w : World) (n : Nat) (G : Ga) (h : Heap) (x : Str) (it : Addr) (body orelse : List Stmt) (J : Nat → Loc → Prop) (B : Loc → Prop) (Φ : Out → Prop) (k : Nat) (ρ₁ : Loc) : Prop :=
  ((it, ciEnd) ∈ ρ₁.lg ∧ Ex prog w (n + 1) G ρ₁ orelse Φ) ∨
  ∃ q f self y t of fd, (it, ciObj q y t) ∈ ρ₁.lg ∧ (q, methodObj (.ref f) self) ∈ ρ₁.lg ∧ h.get? f = some of ∧ of.data = .func fd ∧
    CallL prog w n h (.ref f) [.v self] ρ₁.lg (fun a lg' => ∃ z, a = .d (.str z) ∧ (it, ciObj q y t) ∈ lg' ∧ (q, methodObj (.ref f) self) ∈ lg' ∧
      (y ≠ z → Ex prog w (n + 1) G ((ρ₁.led lg').set x (.d (.str z))) body (TurnI J k B Φ)) ∧ (y = z → Ex prog w (n + 1) G (ρ₁.led (putLg lg' it ciEnd)) orelse Φ))
theorem Ex1.forI {iter : Expr} {x : Str} {p₁ pos : Pos} {it : Addr} {body orelse : List Stmt} {Φ : Out → Prop} (c : Cx K mg mb h G) (J : Nat → Loc → Prop) (B : Loc → Prop) (k₀ : Nat) (hx : G.sto x = true) (p : Ev prog w (n + 1) G ρ iter (.v (.ref it))) (hit : ∃ o, (it, o) ∈ ρ.lg ∧ o.cls = .type "callable_iterator")
    (h0 : J k₀ ρ) (turn : ∀ k ρ₁, J k ρ₁ → CiTurn prog w n G h x it body orelse J B Φ k ρ₁) (brk : ∀ ρ₁, B ρ₁ → Φ (.next ρ₁)) (hs : ∀ x, foldedSetIterable iter G.env x = pure x := by intro _; rfl) : Ex1 prog w (n + 1) G ρ (.For (.Name x p₁) iter body orelse pos) Φ := fun A R s X F E => by
  refine wpAny_For ((p X _ F).go R (Ext.refl _) fun u s₀ k₀' x₀ r₀ => ?_) hs
  cases r₀
  obtain ⟨oi, hoi, hci⟩ := hit
  have F₀ := F.mono x₀
  refine ci_self (F₀.led _ hoi).1 hci ?_
  refine codeAny_forLoop_any (fun k s' => ∃ ρ₁ X₁, J k ρ₁ ∧ (∃ h' tk, s' = { s with heap := h', toks := tk }) ∧ Kept G X s.heap s'.heap ∧ FRx G ρ₁ X₁ s'.heap ∧ XNew X X₁ s.heap) (fun k s₁ inv => ?_) k₀ ⟨ρ, X, h0, Kp.same k₀', Kept.ext x₀, F₀, XNew.refl⟩
  obtain ⟨ρ₁, X₁, hJ, sm, kp, F₁, xn⟩ := inv
  rcases turn k ρ₁ hJ with ⟨hend, ex⟩ | ⟨q, f, self, y, t, of, fd, h1, h2, h3, h4, cl⟩
  · refine ci_done R.handled (F₁.led _ hend).1 fun h' e => ?_
    have k' : Kp s₁ { s₁ with heap := h' } := ⟨h', s₁.toks, rfl, e⟩
    refine wpAny_mono (ex A R _ X₁ (F₁.mono e) _) (fun fl s₂ z => ?_) fun _ _ z => z
    obtain ⟨o, po, z⟩ := z
    exact ⟨o, po, OutR.trans (s₁ := s₁) sm kp xn (z.kp k')⟩
  · refine ci_next (it := it) (q := q) (f := f) (self := self) (y := y) (t := t) (of := of) (fd := fd) R.handled (F₁.led _ h1).1 (F₁.led _ h2).1 ((c.x F₁).1 _ _ h3) h4 (fun E' => codeAny_mono (cl A.in1 R.in1 s₁ X₁ (c.x F₁).1 (c.x F₁).2 F₁.xok (fun p hp => let ⟨a, b, _⟩ := F₁.led p hp; ⟨a, b⟩) [self] (.cons rfl .nil) E') fun r s₂ z => ?_)
    rcases r with e | fl
    · exact z
    rcases fl with _ | _ | _ | v
    case' ret => skip
    all_goals first | exact z.elim | skip
    obtain ⟨a, lg', ⟨z', rfl, g1, g2, b1, b2⟩, post⟩ := z
    have vr' := post.vr
    have g := GoE.of_call (ρ := ρ₁) sm kp F₁ xn post
    obtain ⟨sm₂, kp₂, ⟨X₂, F₂, xn₂, vr⟩, no⟩ := g
    obtain ⟨u, rfl⟩ : ∃ u, v = .str z' u := by
      cases vr with
      | str _ u => exact ⟨u, rfl⟩
    refine ⟨z', u, rfl, (F₂.led _ g1).1, (F₂.led _ g2).1, (c.x F₂).1 _ _ h3, fun ne => ?_, fun e h' hk he => ?_⟩
    · -- a sign
      refine lot_ok (F₂.led _ g1).1 rfl rfl (by decide) (wpAny_assign_Name ?_)
      refine storeName_fr (a := .d (.str z')) F₂ (Ga.sto_or hx).1 (Ga.sto_or hx).2 (.str _ _) (fun _ z => by cases z) fun h₃ tk₃ k₃ F₃ => ?_
      refine wpAny_mono (b1 ne A R _ X₂ F₃ _) (fun fl s₄ z => ?_) fun _ _ z => z
      obtain ⟨o, po, z⟩ := z
      have z := OutR.trans (X := X) (s := s) (same_trans sm₂ ⟨h₃, tk₃, rfl⟩) (kp₂.trans k₃.k xn₂) xn₂ z
      have go : ∀ {ρ' : Loc}, Goes G X s ρ' s₄ → (∃ k', k' < k ∧ J k' ρ') → ∃ m, m < k ∧ ∃ ρ₁ X₁, J m ρ₁ ∧ (∃ h' tk, s₄ = { s with heap := h', toks := tk }) ∧ Kept G X s.heap s₄.heap ∧ FRx G ρ₁ X₁ s₄.heap ∧ XNew X X₁ s.heap := fun g ⟨k', hk', hJ'⟩ => by
        obtain ⟨sm, kp, X', F', xn⟩ := g
        exact ⟨k', hk', _, X', hJ', sm, kp, F', xn⟩
      cases o with
      | next ρ' => obtain ⟨rfl, g⟩ := z; exact go g po
      | cont ρ' => obtain ⟨rfl, g⟩ := z; exact go g po
      | brk ρ' => obtain ⟨rfl, g⟩ := z; exact ⟨_, brk _ po, rfl, g⟩
      | ret d lg => obtain ⟨v, rfl, g⟩ := z; exact ⟨_, po, v, rfl, g⟩
    · -- the end
      have G₁ : GoE G (ρ₁.led lg') X₂ s₂ (.v .none) (putLg lg' it ciEnd) .none { s₂ with heap := h' } := GoE.put (ρ := ρ₁.led lg') (s := s₂) (h' := h') (tk := s₂.toks) F₂ ⟨_, g1, rfl⟩ (fun mm hm => hm.at' fun o e => hk _ o (fun z => F₂.xo it (F₂.led _ g1).2.1 (.inl z.symm)) e) (fun b ob' _ nb q => hk b ob' nb q) he (fun _ _ _ => rfl) (fun _ z => by cases z)
      have G₂ := GoE.after (ρ := ρ₁) sm₂ kp₂ F₂ xn₂ G₁
      obtain ⟨sm₃, kp₃, ⟨X₃, F₃, xn₃, _⟩, _⟩ := G₂
      refine wpAny_mono (b2 e A R _ X₃ F₃ _) (fun fl s₄ z => ?_) fun _ _ z => z
      obtain ⟨o, po, z⟩ := z
      exact ⟨o, po, OutR.trans sm₃ kp₃ xn₃ z⟩
end
end Mine
end

section
open PySem PySem.W PyProof.Rows PySem.Calls
set_option Elab.async false
set_option linter.unusedVariables false
set_option maxRecDepth 100000
namespace Mine
abbrev fdMk (name qual : Str) (params : Arguments) (fb : FuncBody) (scope : Scope) (clos : List (Str × Addr)) (pm cdv ctv : Value) : FuncData :=
  { name, qualname := qual, params, body := fb, scope, globals := mainGlobals, closure := clos, defaults := .none, kwdefaults := .none, doc := .none, pyModule := pm, annotations := none, code := cdv, closureTuple := ctv, builtins := builtinsNs }
def noDoc : FuncBody → Bool
  | .stmts b => (docOf b).isNone
  | .expr _ => true
section
variable {M : Model} {A : Around} {E : Value → Shared → Prop} {s : Shared} {name qual : Str} {params : Arguments} {fb : FuncBody} {scope : Scope} {env : Env} {c P : Addr} {ps : Array Value} {pos : Pos} {firstLine : Nat} {mg : Str → Option Value}
  {clos : List (Str × Addr)} {Q : Value → Shared → Prop}
structure Made (s : Shared) (h' : Heap) (P : Addr) (ps : Array Value) (pos : Pos) (qual : Str) (c' P' : Addr) (oc : Obj) : Prop where
  x : Heap.ExtBut P s.heap h'
  c0 : s.heap.get? c' = none
  p0 : s.heap.get? P' = none
  c : h'.get? c' = some oc
  q : ∃ vs t, oc.data = .fields vs ∧ vs[1]? = some (.str qual t)
  hd : CodeHd h' c' P'
  p : h'.get? P' = some (tabObj #[])
  t : h'.get? P = some (tabObj (ps ++ #[rawInt pos.line, rawInt pos.col, .ref c']))
theorem mkFn (hcl : closureFor scope env = pure clos) (hge0 : env.globals = mainGlobals) (hg : s.heap.Ns mainGlobals mg) (hcode : env.code = .ref c) (C : CodeHd s.heap c P) (hP : s.heap.get? P = some (tabObj ps)) (ht : TriplesOk ps.toList)
    (hnf : codeAmong pos ps.toList = none) (hgP : mainGlobals ≠ P) (hb : s.heap.BuiltinsAt mg P) (hdoc : noDoc fb = true)
    (h : ∀ c' P' oc ctv h' tk, Made s h' P ps pos qual c' P' oc → Q (.ref h'.objs.size) { s with heap := h'.push { cls := .type "function", data := .func (fdMk name qual params fb scope clos ((mg "__name__").getD .none) (.ref c') ctv) }, toks := tk }) :
    wpAny M A (makeFunction name qual params fb scope env [] [] [] pos firstLine) Q E s := by
  rw [makeFunction_eq]
  simp only [List.zip_nil_right, List.filterMap_nil, List.isEmpty_nil, if_true, pure_bind]
  show wpAny M A (makeTail name qual params fb scope env .none .none none pos firstLine) Q E s
  obtain ⟨bm, ob, hbm, hne0, _, hneP, hbo, hcls, hdict, hdata⟩ := hb
  have made : ∀ {s₀ : Shared} {h' : Heap} {c' P' : Addr}, (∀ b o, s.heap.get? b = some o → s₀.heap.get? b = some o) → Heap.ExtBut P s₀.heap h' → s₀.heap.objs.size ≤ c' → c' < h'.objs.size → h'.CodeRec (.ref c') qual → h'.TableAt c P (ps ++ #[rawInt pos.line, rawInt pos.col, .ref c']) →
      s₀.heap.objs.size ≤ P' → h'.IsCode c' P' #[] → h'.TableAt c' P' #[] → s.heap.objs.size ≤ s₀.heap.objs.size → ∃ oc, Made s h' P ps pos qual c' P' oc := by
    intro s₀ h' c' P' k hx hge hlt hrec htb hP' hc' ht' hsz
    obtain ⟨c₂, oc, vs, t, e2, hoc, hd, hv⟩ := hrec
    cases e2
    exact ⟨oc, fun b o nb e => hx b o nb (k b o e), Heap.get?_none_of_le (Nat.le_trans hsz hge), Heap.get?_none_of_le (Nat.le_trans hsz hP'), hoc, ⟨vs, t, hd, hv⟩, CodeHd.of hc' ht', ht'.2, htb.2⟩
  unfold makeTail
  rw [hcl, hge0]
  refine wpAny_bind (wpAny_pure ?_)
  have fin : ∀ {ctv : Value} {s₀ : Shared} {docS : Sem Value}, docS = pure .none → (∃ h₀ tk, s₀ = { s with heap := h₀, toks := tk }) → (∀ b o, s.heap.get? b = some o → s₀.heap.get? b = some o) → s.heap.objs.size ≤ s₀.heap.objs.size → s₀.heap.get? P = some (tabObj ps) →
      wpAny M A (functionCode env pos firstLine name qual params scope fb >>= fun code => builtinsFor mainGlobals env.builtins >>= fun bi => (nsGet mainGlobals "__name__" >>= fun pmv => docS >>= fun doc => newObj (.type "function") (.func { name, qualname := qual, params, body := fb, scope, globals := mainGlobals, closure := clos, closureTuple := ctv, code := code, builtins := bi, defaults := .none, kwdefaults := .none, annotations := none, pyModule := pmv.getD .none, doc := doc }))) Q E s₀ := by
    intro ctv s₀ docS hdS sm k hsz hP₀
    refine wpAny_bind (wpAny_functionCodeX hcode ((C.keeps k).code hP₀ ht) ((C.keeps k).tab hP₀) hnf fun c' h' tk hx hge hlt _ hrec htb hnew => ?_)
    obtain ⟨P', hP', hc', ht'⟩ := hnew
    obtain ⟨oc, md⟩ := made k hx hge hlt hrec htb hP' hc' ht' hsz
    have hg' := (hg.keeps k).extBut hx hgP
    refine wpAny_bind (wpAny_builtinsFor hg' hbm hne0 (hx _ _ hneP (k _ _ hbo)) hcls hdict hdata ?_)
    refine wpAny_bind (wpAny_nsGet hg' ?_)
    obtain ⟨h₀, tk₀, rfl⟩ := sm
    have last := h c' P' oc ctv h' tk md
    rw [hdS]
    exact wpAny_bind (wpAny_pure (wpAny_newObj_type last (by size_fits)))
  cases fb with
  | expr e =>
    cases clos with
    | nil =>
      simp only [List.isEmpty_nil, if_true]
      refine wpAny_bind (wpAny_pure ?_)
      exact fin rfl ⟨s.heap, s.toks, rfl⟩ (fun _ _ e => e) (Nat.le_refl _) hP
    | cons q r =>
      simp only [List.isEmpty_cons, Bool.false_eq_true, if_false]
      refine wpAny_bind (wpAny_newTextTuple ?_)
      exact fin (s₀ := { s with heap := s.heap.push _ }) rfl ⟨_, _, rfl⟩ (fun b o e => Heap.get?_push_of_some _ e) (by rw [Heap.size_push]; omega) (Heap.get?_push_of_some _ hP)
  | stmts b =>
    have hdoc : (docOf b).isNone = true := hdoc
    have hd0 : docOf b = none := Option.isNone_iff_eq_none.mp hdoc
    have hd1 : (match docOf b with | some s => mkText s | none => pure .none : Sem Value) = pure .none := by rw [hd0]
    cases clos with
    | nil =>
      simp only [List.isEmpty_nil, if_true]
      refine wpAny_bind (wpAny_pure ?_)
      exact fin hd1 ⟨s.heap, s.toks, rfl⟩ (fun _ _ e => e) (Nat.le_refl _) hP
    | cons q r =>
      simp only [List.isEmpty_cons, Bool.false_eq_true, if_false]
      refine wpAny_bind (wpAny_newTextTuple ?_)
      exact fin (s₀ := { s with heap := s.heap.push _ }) hd1 ⟨_, _, rfl⟩ (fun b o e => Heap.get?_push_of_some _ e) (by rw [Heap.size_push]; omega) (Heap.get?_push_of_some _ hP)
end
end Mine
end

section
open PySem PySem.W PyProof.Rows PySem.Calls
set_option Elab.async false
set_option linter.unusedVariables false
set_option maxRecDepth 100000
namespace Mine
theorem CodeHd.of_obj {h h' : Heap} {c P : Addr} {oc : Obj} (x : CodeHd h c P) (g : h.get? c = some oc) (g' : h'.get? c = some oc) : CodeHd h' c P := by
  obtain ⟨o, vs, file, tf, flags, tg, inF, text, tt, e, r⟩ := x
  rw [g] at e; cases e
  exact ⟨oc, vs, file, tf, flags, tg, inF, text, tt, g', r⟩
section
variable {prog : Program} {w : World} {n : Nat} {G : Ga} {ρ : Loc} {K : Frag} {mg mb : Str → Option Value} {h : Heap}
theorem GoE.putGrow {X : Addr → Prop} {s : Shared} {new : List (Addr × Obj)} {d : Addr} {o' : Obj} {h' : Heap} {tk : Nat} {a : AV} {v : Value} (F : FRx G ρ X s.heap) (hd : InLg ρ.lg d) (k : ∀ b o, b ≠ d → s.heap.get? b = some o → h'.get? b = some o) (g : h'.get? d = some o')
    (hn : ∀ p ∈ new, h'.get? p.1 = some p.2 ∧ s.heap.get? p.1 = none) (vr : ∀ X', VR X' h' v a) (no : ∀ xs, a ≠ .own xs) : GoE G ρ X s a (new ++ putLg ρ.lg d o') v { s with heap := h', toks := tk } := by
  have lx : ∀ p, InLg ρ.lg p → X p := fun p ⟨q, hq, e⟩ => e ▸ (F.led q hq).2.1
  have hok : ∀ p, InLg ρ.lg p → (h'.get? p).isSome = true := fun p hp => by
    by_cases e : p = d
    · rw [e, g, Option.isSome_some]
    · obtain ⟨q, hq, rfl⟩ := hp
      rw [k q.1 q.2 e (F.led q hq).1]; rfl
  have hl : ∀ p ∈ new ++ putLg ρ.lg d o', h'.get? p.1 = some p.2 ∧ (InLg ρ.lg p.1 ∨ s.heap.get? p.1 = none) := fun p hp => by
    rcases List.mem_append.mp hp with hp | hp
    · exact ⟨(hn p hp).1, .inr (hn p hp).2⟩
    · rcases putLg_mem hp with ⟨h1, h2⟩ | rfl
      · exact ⟨k p.1 p.2 h2 (F.led p h1).1, .inl ⟨p, h1, rfl⟩⟩
      · exact ⟨g, .inl hd⟩
  obtain ⟨F', mv⟩ := F.step (h' := h') (lg' := new ++ putLg ρ.lg d o') (fun m hm => hm.at' fun o e => k _ o (fun z => F.xo d (lx _ hd) (.inl z.symm)) e) (fun b o h1 h2 e => k b o (fun z => h2 (z ▸ hd)) e) hok hl
  refine ⟨⟨h', tk, rfl⟩, fun b o e h1 h2 => k b o (fun z => h2 (z ▸ lx _ hd)) e, ⟨_, F', fun p z => ?_, vr _⟩, no⟩
  rcases z with z | ⟨q, hq, rfl⟩
  · exact .inl z
  · rcases (hl q hq).2 with z | z
    · exact .inl (lx _ z)
    · exact .inr z
theorem Cx.builtinsAt (c : Cx K mg mb h G) {X : Addr → Prop} {h' : Heap} (F : FRx G ρ X h') {P : Addr} {o : Obj} (hP : (P, o) ∈ ρ.lg) : h'.BuiltinsAt mg P ∧ mainGlobals ≠ P ∧ h'.Ns mainGlobals mg := by
  obtain ⟨e1, av⟩ := c.x F
  have h0 : h.get? P = none := av P (F.led _ hP).2.1
  obtain ⟨bm, ob, b1, b2, b3, b4, b5, b6⟩ := c.base.bm
  refine ⟨⟨bm, ob, b1, b2, fun q => ?_, fun q => ?_, e1 _ _ b3, b4, b5, b6⟩, fun q => ?_, c.base.g.keeps e1⟩
  · obtain ⟨o, es, ep, e, hd, _⟩ := c.base.g
    rw [q, e] at b3; cases b3; rw [hd] at b6; cases b6
  · rw [q, h0] at b3; cases b3
  · obtain ⟨o, es, ep, e, hd, _⟩ := c.base.g
    rw [q, h0] at e; cases e
structure FnMade (name qual : Str) (params : Arguments) (fb : FuncBody) (scope : Scope) (clos : List (Str × Addr)) (fo : Obj) (c' P' : Addr) (oc : Obj) : Prop where
  f : ∃ pm ctv, fo = { cls := .type "function", data := .func (fdMk name qual params fb scope clos pm (.ref c') ctv) }
  q : ∃ vs t, oc.data = .fields vs ∧ vs[1]? = some (.str qual t)
  hd : ∀ hh : Heap, hh.get? c' = some oc → CodeHd hh c' P'
theorem Cx.mkF (c : Cx K mg mb h G) {name qual : Str} {params : Arguments} {fb : FuncBody} {scope : Scope} {pos : Pos} {firstLine : Nat} {cc P : Addr} {ps : Array Value} {Ψ : AV → List (Addr × Obj) → Prop} (hcode : G.env.code = .ref cc) (hP : (P, tabObj ps) ∈ ρ.lg) (hC : ∀ X h', FRx G ρ X h' → CodeHd h' cc P) (ht : TriplesOk ps.toList) (hnf : codeAmong pos ps.toList = none)
    (hfree : ∀ x ∈ scope.names, x.2 = .free → (G.env.cells.lookup x.1).isSome = true) (hdoc : noDoc fb = true)
    (q : ∀ f fo c' P' oc, ¬ InLg ρ.lg f → ¬ InLg ρ.lg c' → ¬ InLg ρ.lg P' → FnMade name qual params fb scope (clOf scope G.env) fo c' P' oc → Ψ (.v (.ref f)) ([(f, fo), (c', oc), (P', tabObj #[])] ++ putLg ρ.lg P (tabObj (ps ++ #[rawInt pos.line, rawInt pos.col, .ref c'])))) :
    ∀ A s X, FRx G ρ X s.heap → ∀ E, wpAny (model prog w) A (makeFunction name qual params fb scope G.env [] [] [] pos firstLine) (fun v s' => ∃ a lg', Ψ a lg' ∧ GoE G ρ X s a lg' v s') E s := fun A s X F E => by
  obtain ⟨hb, hgP, hg⟩ := c.builtinsAt F hP
  refine mkFn (clos := clOf scope G.env) (closureFor_clOf hfree) c.gl hg hcode (hC X _ F) (F.led _ hP).1 ht hnf hgP hb hdoc fun c' P' oc ctv h' tk md => ?_
  have old : ∀ {b : Addr}, s.heap.get? b = none → ∀ {o : Obj}, h'.get? b = some o → (h'.push { cls := .type "function", data := .func (fdMk name qual params fb scope (clOf scope G.env) ((mg "__name__").getD .none) (.ref c') ctv) }).get? b = some o := fun _ _ e => Heap.get?_push_of_some _ e
  have f0 : s.heap.get? h'.objs.size = none := by
    cases e : s.heap.get? h'.objs.size with
    | none => rfl
    | some o =>
      by_cases z : h'.objs.size = P
      · rw [z] at e
        have := Heap.lt_size md.t
        rw [← z] at this; exact absurd this (Nat.lt_irrefl _)
      · exact absurd (Heap.lt_size (md.x _ _ z e)) (Nat.lt_irrefl _)
  have fr : ∀ {b : Addr}, s.heap.get? b = none → ¬ InLg ρ.lg b := fun e ⟨p, hp, z⟩ => by
    have := (F.led p hp).1
    rw [z, e] at this; cases this
  refine ⟨_, _, q h'.objs.size _ c' P' oc (fr f0) (fr md.c0) (fr md.p0) ⟨⟨(mg "__name__").getD .none, ctv, rfl⟩, md.q, fun hh g => CodeHd.of_obj md.hd md.c g⟩, GoE.putGrow (s := s) (h' := h'.push _) (tk := tk) F ⟨_, hP, rfl⟩ (fun b o nb e => Heap.get?_push_of_some _ (md.x b o nb e)) (Heap.get?_push_of_some _ md.t) (fun p hp => ?_) (fun _ => rfl) (fun _ z => by cases z)⟩
  rcases List.mem_cons.mp hp with rfl | hp
  · exact ⟨Heap.get?_push_size _ rfl, f0⟩
  · rcases List.mem_cons.mp hp with rfl | hp
    · exact ⟨Heap.get?_push_of_some _ md.c, md.c0⟩
    · cases List.mem_singleton.mp hp
      exact ⟨Heap.get?_push_of_some _ md.p, md.p0⟩
theorem Cx.defStmt (c : Cx K mg mb h G) {name : Str} {params : Arguments} {body : List Stmt} {scope : Scope} {pos : Pos} {cc P : Addr} {ps : Array Value} {Φ : Out → Prop} (hx : G.sto name = true) (hcode : G.env.code = .ref cc) (hP : (P, tabObj ps) ∈ ρ.lg) (hC : ∀ X h', FRx G ρ X h' → CodeHd h' cc P) (ht : TriplesOk ps.toList) (hnf : codeAmong pos ps.toList = none)
    (hfree : ∀ x ∈ scope.names, x.2 = .free → (G.env.cells.lookup x.1).isSome = true) (hdoc : noDoc (.stmts body) = true) (hd0 : params.defaults = []) (hk0 : params.kw_defaults = []) (ha : annTrees params none G.env = [])
    (q : ∀ f fo c' P' oc, ¬ InLg ρ.lg f → ¬ InLg ρ.lg c' → ¬ InLg ρ.lg P' → FnMade name (qualnameIn G.env name name) params (.stmts body) scope (clOf scope G.env) fo c' P' oc → Φ (.next ((ρ.led ([(f, fo), (c', oc), (P', tabObj #[])] ++ putLg ρ.lg P (tabObj (ps ++ #[rawInt pos.line, rawInt pos.col, .ref c'])))).set name (.v (.ref f))))) :
    Ex1 prog w n G ρ (.FunctionDef name params body [] none [] scope none name pos) Φ := fun A R s X F E => by
  refine nestDef_K hd0 hk0 ha (wpAny_mono (c.mkF (Ψ := fun a lg => Φ (.next ((ρ.led lg).set name a))) hcode hP hC ht hnf hfree hdoc q A s X F E) (fun v s₁ z => ?_) fun _ _ z => z)
  obtain ⟨a, lg, hΦ, sm, kp, ⟨X₁, F₁, xn, vr⟩, no⟩ := z
  exact storeName_fr F₁ (Ga.sto_or hx).1 (Ga.sto_or hx).2 vr no fun h' tk k F' => ⟨_, hΦ, rfl, same_trans sm ⟨h', tk, rfl⟩, kp.trans k.k xn, X₁, F', xn⟩
theorem Cx.lambda (c : Cx K mg mb h G) {params : Arguments} {body : Expr} {scope : Scope} {pos : Pos} {cc P : Addr} {ps : Array Value} {Ψ : AV → List (Addr × Obj) → Prop} (hcode : G.env.code = .ref cc) (hP : (P, tabObj ps) ∈ ρ.lg) (hC : ∀ X h', FRx G ρ X h' → CodeHd h' cc P) (ht : TriplesOk ps.toList) (hnf : codeAmong pos ps.toList = none)
    (hfree : ∀ x ∈ scope.names, x.2 = .free → (G.env.cells.lookup x.1).isSome = true) (hd0 : params.defaults = []) (hk0 : params.kw_defaults = [])
    (q : ∀ f fo c' P' oc, ¬ InLg ρ.lg f → ¬ InLg ρ.lg c' → ¬ InLg ρ.lg P' → FnMade "<lambda>" (G.env.qual ++ "<lambda>") params (.expr body) scope (clOf scope G.env) fo c' P' oc → Ψ (.v (.ref f)) ([(f, fo), (c', oc), (P', tabObj #[])] ++ putLg ρ.lg P (tabObj (ps ++ #[rawInt pos.line, rawInt pos.col, .ref c'])))) :
    EvM prog w n G ρ (.Lambda params body scope pos) Ψ := fun A R s X F E => by
  rw [arm_eval_Lambda, defaultsOf_eq, hd0, hk0]
  refine wpAny_bind (wpAny_pure (wpAny_bind (wpAny_holding (wpAny_pure ?_))))
  exact c.mkF hcode hP hC ht hnf hfree rfl q A s X F E
theorem Ex1.fnSet {o e : Expr} {name : Str} {p₁ p₂ : Pos} {st : Addr} {fd : FuncData} {sl : Array (Option Value)} {v : Value} {Φ : Out → Prop} (pe : Ev prog w n G ρ e (.v v)) (po : Ev prog w n G ρ o (.v (.ref st))) (hl : (st, fnObj fd sl none) ∈ ρ.lg) (hB : typeLookup (.type "function") name = pure none)
    (q : ∀ sd od, ¬ InLg ρ.lg sd → NsObj od (fun x => if x = name then some v else none) → Φ (.next (ρ.led ([(sd, od)] ++ putLg ρ.lg st (fnObj fd sl (some sd)))))) (hs : swapsWith e (some (.Attribute o name p₁)) p₂.line G.env = pure false := by rfl) : Ex1 prog w n G ρ (.Assign [.Attribute o name p₁] e p₂) Φ := fun A R s X F E => by
  refine plainObj_wpAny_Assign_Attribute ((pe X _ F).go R (Ext.refl _) fun u s₁ k₁ x₁ r₁ => (po X _ F).go R x₁ fun u₂ s₂ k₂ x₂ r₂ => ?_) hs
  cases r₁; cases r₂
  have F₂ := F.mono x₂
  refine fn_set (F₂.led _ hl).1 hB fun sd h' tk od h0 k g gd hod => ?_
  have G₁ : GoE G ρ X s₂ (.v .none) ([(sd, od)] ++ putLg ρ.lg st (fnObj fd sl (some sd))) .none { s₂ with heap := h', toks := tk } := GoE.putGrow (s := s₂) (h' := h') (tk := tk) F₂ ⟨_, hl, rfl⟩ k g (fun p hp => by cases List.mem_singleton.mp hp; exact ⟨gd, h0⟩) (fun _ => rfl) (fun _ z => by cases z)
  exact ⟨_, q sd od (fun ⟨p, hp, z⟩ => by have := (F₂.led p hp).1; rw [z, h0] at this; cases this) hod, rfl, (GoE.after0 (k₁.trans k₂) G₁).next⟩
theorem EvM.newList {pos : Pos} {Ψ : AV → List (Addr × Obj) → Prop} (q : ∀ l, ¬ InLg ρ.lg l → Ψ (.v (.ref l)) ([(l, lstObj #[] 0)] ++ ρ.lg)) : EvM prog w n G ρ (.List [] pos) Ψ := fun A R s X F E => by
  refine List_ (spliced_none ?_)
  refine wpAny_newObj_type ?_ (by size_fits)
  refine ⟨_, _, q s.heap.objs.size (fun ⟨p, hp, e⟩ => by have := (F.led p hp).1; rw [e, get_size_none] at this; cases this), GoE.grow (s := s) (h' := s.heap.push _) (tk := s.toks) F (Ext.push _ _) (fun p hp => ?_) (fun _ => rfl) (fun _ z => by cases z)⟩
  cases List.mem_singleton.mp hp
  exact ⟨Heap.get?_push_size _ rfl, get_size_none _⟩
end
end Mine
end

section
open PySem PySem.W PyProof.Rows PySem.Calls
set_option Elab.async false
set_option linter.unusedVariables false
set_option maxRecDepth 100000
namespace Mine
theorem Rm.under {n : Nat} {A : Around} (r : Rm (n + 1) A) {c : Code} (hw : c.weight ≤ 1) (hu : c.cUnits ≤ 8) : Rm n (A.under c) :=
  ⟨r.handled, by have := r.depth; show A.depth + c.weight + n < _; omega, by have := r.units; show A.units + c.cUnits + 8 * n + 100 < _; omega⟩
theorem vrs_mv {X X' : Addr → Prop} {h h' : Heap} (mv : Mv X X' h h') : ∀ {vs : List Value} {as : List AV}, (∀ x ∈ as, ∀ xs, x ≠ .own xs) → VRs X h vs as → VRs X' h' vs as
  | _, _, _, .nil => .nil
  | _, _, na, .cons a r => .cons (a.mvNo mv (na _ (List.mem_cons_self ..))) (vrs_mv mv (fun y hy => na y (List.mem_cons_of_mem _ hy)) r)
theorem CallL.mono {prog : Program} {w : World} {n k : Nat} {h : Heap} {f : Value} {as : List AV} {lg : List (Addr × Obj)} {Ψ Ψ' : AV → List (Addr × Obj) → Prop} (e : n ≤ k) (p : CallL prog w n h f as lg Ψ) (q : ∀ a lg, Ψ a lg → Ψ' a lg) : CallL prog w k h f as lg Ψ' := fun A R s X e' av xok hlg vs rs E =>
  codeAny_mono (p A (R.le e) s X e' av xok hlg vs rs E) fun r s' z => by
    rcases r with e | fl
    · exact z
    rcases fl with _ | _ | _ | v
    case' ret => skip
    all_goals first | exact z.elim | skip
    obtain ⟨a, lg', hΨ, post⟩ := z
    exact ⟨a, lg', q a lg' hΨ, post⟩
section
variable {prog : Program} {w : World} {n : Nat} {G : Ga} {ρ : Loc} {K : Frag} {mg mb : Str → Option Value} {h : Heap}
theorem CallL.cls_ {C fI : Addr} {as : List AV} {lg : List (Addr × Obj)} {Ψ : AV → List (Addr × Obj) → Prop} (X₀ : K.In h) (hm : makesIn K C = true) (hi : findIn K (.ref C) "__init__" = some (some (.ref fI))) (hf : typeIn K (.ref fI) = some (.type "function"))
    (na : ∀ x ∈ as, ∀ xs, x ≠ .own xs) (k : ∀ x dx, x ≠ dx → ¬ InLg lg x → ¬ InLg lg dx → CallL prog w n h (.ref fI) (.v (.ref x) :: as) ([(x, instObj C dx), (dx, emptyDict)] ++ lg) (fun a lg' => a = .d .none ∧ Ψ (.v (.ref x)) lg')) : CallL prog w (n + 1) h (.ref C) as lg Ψ := fun A R s X x av xok hlg vs rs E => by
  obtain ⟨hh, g, d, t, os⟩ := s
  have x : Ext h hh := x
  have XK : K.In hh := X₀.keeps x
  have e2 : Ext hh ((hh.push emptyDict).push (instObj C hh.objs.size)) := (Ext.push _ _).trans (Ext.push _ _)
  have g0 : hh.get? hh.objs.size = none := get_size_none _
  have g1 : hh.get? (hh.objs.size + 1) = none := Heap.get?_none_of_le (Nat.le_succ _)
  have gx : ((hh.push emptyDict).push (instObj C hh.objs.size)).get? (hh.objs.size + 1) = some (instObj C hh.objs.size) := by heap_get
  have gd : ((hh.push emptyDict).push (instObj C hh.objs.size)).get? hh.objs.size = some emptyDict := Heap.get?_push_of_some _ (Heap.get?_push_size _ rfl)
  let X₁ : Addr → Prop := fun p => X p ∨ p = hh.objs.size ∨ p = hh.objs.size + 1
  have hxn : ∀ b, h.get? b = none ∨ hh.get? b ≠ none := fun b => by
    cases e : h.get? b with
    | none => exact .inl rfl
    | some o => exact .inr (by rw [x b o e]; exact fun z => nomatch z)
  have av₁ : Av X₁ h := fun p z => by
    rcases z with z | rfl | rfl
    · exact av p z
    · exact (hxn _).elim id fun q => absurd g0 q
    · exact (hxn _).elim id fun q => absurd g1 q
  have xok₁ : XOk X₁ ((hh.push emptyDict).push (instObj C hh.objs.size)) := fun p z => by
    rcases z with z | rfl | rfl
    · exact XOk.ext (X := X) xok e2 p z
    · rw [gd]; rfl
    · rw [gx]; rfl
  have hlg₁ : ∀ p ∈ [(hh.objs.size + 1, instObj C hh.objs.size), (hh.objs.size, emptyDict)] ++ lg, ((hh.push emptyDict).push (instObj C hh.objs.size)).get? p.1 = some p.2 ∧ X₁ p.1 := fun p hp => by
    rcases List.mem_append.mp hp with hp | hp
    · rcases List.mem_cons.mp hp with rfl | hp
      · exact ⟨gx, .inr (.inr rfl)⟩
      · cases List.mem_singleton.mp hp; exact ⟨gd, .inr (.inl rfl)⟩
    · exact ⟨e2 _ _ (hlg p hp).1, .inl (hlg p hp).2⟩
  have mv : Mv X X₁ hh ((hh.push emptyDict).push (instObj C hh.objs.size)) := ⟨fun b o q _ _ _ _ => e2 b o q, fun b o q z => by
    rcases z with z | rfl | rfl
    · exact z
    · rw [g0] at q; cases q
    · rw [g1] at q; cases q⟩
  have rs₁ : VRs X₁ ((hh.push emptyDict).push (instObj C hh.objs.size)) (.ref (hh.objs.size + 1) :: vs) (.v (.ref (hh.objs.size + 1)) :: as) := by
    refine .cons rfl ?_
    have rs : VRs X hh vs as := rs
    exact vrs_mv mv na rs
  refine make_core (makes_of XK hm) (looks_findIn XK hi) (fun self => bind_fn XK self hf) (.inl rfl) (codeAny_mono (k (hh.objs.size + 1) hh.objs.size (Nat.succ_ne_self _) (fun ⟨p, hp, e⟩ => by have := (hlg p hp).1; rw [e] at this; exact absurd (this.symm.trans g1) (fun z => nomatch z)) (fun ⟨p, hp, e⟩ => by have := (hlg p hp).1; rw [e] at this; exact absurd (this.symm.trans g0) (fun z => nomatch z)) _ (R.under (Nat.le_of_ble_eq_true rfl) (Nat.le_of_ble_eq_true rfl)) ⟨(hh.push emptyDict).push (instObj C hh.objs.size), g, d, t, os⟩ X₁ (x.trans e2) av₁ xok₁ hlg₁ _ rs₁ E) fun r s' z => ?_)
  rcases r with e | fl
  · exact z
  rcases fl with _ | _ | _ | v
  case' ret => skip
  all_goals first | exact z.elim | skip
  obtain ⟨a, lg', ⟨rfl, hΨ⟩, ⟨sm, kp, ld, vr, no, ok⟩⟩ := z
  cases vr
  refine ⟨rfl, _, _, hΨ, ⟨sm, fun b o q nb => ?_, fun p hp => ⟨(ld p hp).1, ?_⟩, rfl, fun _ z => (by cases z), fun p ⟨q, hq, e⟩ => ok p ⟨q, List.mem_append_right _ hq, e⟩⟩⟩
  · refine kp b o (e2 b o q) fun ⟨p, hp, e⟩ => ?_
    rcases List.mem_append.mp hp with hp | hp
    · rcases List.mem_cons.mp hp with rfl | hp
      · have q : hh.get? b = some o := q
        rw [← e] at q; rw [g1] at q; cases q
      · cases List.mem_singleton.mp hp
        have q : hh.get? b = some o := q
        rw [← e] at q; rw [g0] at q; cases q
    · exact nb ⟨p, hp, e⟩
  · rcases (ld p hp).2 with ⟨q, hq, e⟩ | z
    · rcases List.mem_append.mp hq with hq | hq
      · rcases List.mem_cons.mp hq with rfl | hq
        · exact .inr (e ▸ g1)
        · cases List.mem_singleton.mp hq; exact .inr (e ▸ g0)
      · exact .inl ⟨q, hq, e⟩
    · exact .inr (none_of_ext e2 z)
theorem Ev.free {x : Str} {pos : Pos} {c : Addr} {oc : Obj} {v : Value} (hk : G.env.scope.kind = .function) (hl : G.env.kindOf x = some .free) (hc : G.env.cells.lookup x = some c) (hm : (c, oc) ∈ ρ.lg) (hd : oc.data = .cell (some v)) (h1 : (x == ("__debug__" : Str)) = false := by rfl) (h2 : (x == ("__classdict__" : Str)) = false := by rfl) : Ev prog w n G ρ (.Name x pos) (.v v) := fun X h' F =>
  .name (.free hk hl hc ⟨oc, (F.led _ hm).1, hd⟩ h1 h2) rfl
theorem Ex1.retCells {e : Expr} {pos : Pos} {x y : Str} {a b : AV} {Φ : Out → Prop} (hx : G.env.kindOf x = some .cell) (hy : G.env.kindOf y = some .cell) (hax : isExact a = true) (hby : isExact b = true) (gx : ρ.get x = some a) (gy : ρ.get y = some b)
    (p : EvM prog w n G ρ e (fun r lg => ∃ u, r = .v u ∧ ∀ c₁ o₁ v₁ c₂ o₂ v₂, G.env.cells.lookup x = some c₁ → G.env.cells.lookup y = some c₂ → o₁.data = .cell (some v₁) → Exact a v₁ → o₂.data = .cell (some v₂) → Exact b v₂ → (∀ p ∈ [(c₁, o₁), (c₂, o₂)] ++ lg, ∀ q ∈ [(c₁, o₁), (c₂, o₂)] ++ lg, p.1 = q.1 → p.2 = q.2) → Φ (.ret (.v u) ([(c₁, o₁), (c₂, o₂)] ++ lg)))) : Ex1 prog w n G ρ (.Return (some e) pos) Φ := fun A R s X F E => by
  refine wpAny_Return_some (wpAny_mono (p A R s X F E) (fun v s₁ z => ?_) fun _ _ z => z)
  obtain ⟨r, lg, ⟨u', rfl, hΦ⟩, sm, kp, ⟨X₁, F₁, xn, vr⟩, no⟩ := z
  obtain ⟨m, cm, f, l, u, u0, ld⟩ := F₁.ex
  obtain ⟨c₁, h1⟩ := Option.isSome_iff_exists.mp (f.has x hx)
  obtain ⟨c₂, h2⟩ := Option.isSome_iff_exists.mp (f.has y hy)
  obtain ⟨⟨o₁, g₁, d₁⟩, n₁⟩ := f.cell x c₁ hx h1
  obtain ⟨⟨o₂, g₂, d₂⟩, n₂⟩ := f.cell y c₂ hy h2
  obtain ⟨v₁, r₁, t₁, _⟩ := l x a gx
  obtain ⟨v₂, r₂, t₂, _⟩ := l y b gy
  unfold Ga.rd at r₁ r₂
  rw [hx] at r₁
  rw [hy] at r₂
  have r₁ : cm x = some v₁ := r₁
  have r₂ : cm y = some v₂ := r₂
  rw [r₁] at d₁
  rw [r₂] at d₂
  have at_ : ∀ p ∈ [(c₁, o₁), (c₂, o₂)] ++ lg, s₁.heap.get? p.1 = some p.2 := fun p hp => by
    rcases List.mem_append.mp hp with hp | hp
    · rcases List.mem_cons.mp hp with rfl | hp
      · exact g₁
      · cases List.mem_singleton.mp hp; exact g₂
    · exact (ld p hp).1
  refine ⟨_, hΦ c₁ o₁ v₁ c₂ o₂ v₂ h1 h2 d₁ (Exact.of hax t₁) d₂ (Exact.of hby t₂) (fun p hp q hq e => by
    have a := at_ p hp
    rw [e, at_ q hq] at a; exact (Option.some.inj a).symm), v, rfl, sm, kp, F₁.ext, vr, no, fun p hp => ?_, fun p z => F₁.xok p (F₁.zx p z)⟩
  rcases List.mem_append.mp hp with hp | hp
  · rcases List.mem_cons.mp hp with rfl | hp
    · exact ⟨g₁, n₁⟩
    · cases List.mem_singleton.mp hp; exact ⟨g₂, n₂⟩
  · obtain ⟨a, _, c⟩ := ld p hp; exact ⟨a, c⟩
end
end Mine
end

section
open PySem PySem.W PyProof.Rows PySem.Calls
set_option Elab.async false
set_option linter.unusedVariables false
set_option maxRecDepth 100000
namespace Mine
section
variable {prog : Program} {w : World} {n : Nat} {G : Ga} {ρ : Loc}
theorem Cmp.seq {X : Addr → Prop} {x y : Str} : Cmp prog w n X .Eq (.d (.str x)) (.d (.str y)) (x == y) := fun A R s va vb ra rb E => by
  cases ra; cases rb; exact PyProof.Rows.eq_str ⟨Kp.refl s, rfl⟩
theorem EvM.newList1 {k : Nat} {i : Int} {p₁ pos : Pos} {Ψ : AV → List (Addr × Obj) → Prop} (q : ∀ l t, ¬ InLg ρ.lg l → Ψ (.v (.ref l)) ([(l, lstObj #[.int i t] 0)] ++ ρ.lg)) : EvM prog w n G ρ (.List [.Constant (.int i) k p₁] pos) Ψ := fun A R s X F E => by
  refine List_ (spliced_more (wpAny_Constant_int ?_) rfl)
  refine spliced_none ?_
  refine wpAny_newObj_type ?_ (by size_fits)
  refine ⟨_, _, q s.heap.objs.size s.toks (fun ⟨p, hp, e⟩ => by have := (F.led p hp).1; rw [e, get_size_none] at this; cases this), GoE.grow (s := s) (h' := s.heap.push _) (tk := s.toks + 1) F (Ext.push _ _) (fun p hp => ?_) (fun _ => rfl) (fun _ z => by cases z)⟩
  cases List.mem_singleton.mp hp
  exact ⟨Heap.get?_push_size _ rfl, get_size_none _⟩
end
theorem sidx_in {len at_ : Nat} (h : at_ < len) : Builtin.Str.strSliceIndices (some (at_ : Int)) (some ((at_ : Int) + 1)) 1 len = [at_] := by
  unfold Builtin.Str.strSliceIndices sliceRange
  have e1 : (if (at_ : Int) < 0 then (at_ : Int) + (len : Int) else (at_ : Int)) = at_ := if_neg (by omega)
  have e2 : (if (at_ : Int) + 1 < 0 then (at_ : Int) + 1 + (len : Int) else (at_ : Int) + 1) = at_ + 1 := if_neg (by omega)
  have m1 : max 0 (min (at_ : Int) (len : Int)) = at_ := by omega
  have m2 : max 0 (min ((at_ : Int) + 1) (len : Int)) = at_ + 1 := by omega
  simp only [e1, e2, show ((1 : Int) > 0) = True from by simp, if_true, m1, m2]
  rw [if_pos (by omega)]
  have : ((at_ : Int) + 1 - at_ + 1 - 1) / 1 = 1 := by omega
  rw [this]
  simp [List.range_succ]
theorem sidx_out {len at_ : Nat} (h : len ≤ at_) : Builtin.Str.strSliceIndices (some (at_ : Int)) (some ((at_ : Int) + 1)) 1 len = [] := by
  unfold Builtin.Str.strSliceIndices sliceRange
  have e1 : (if (at_ : Int) < 0 then (at_ : Int) + (len : Int) else (at_ : Int)) = at_ := if_neg (by omega)
  have e2 : (if (at_ : Int) + 1 < 0 then (at_ : Int) + 1 + (len : Int) else (at_ : Int) + 1) = at_ + 1 := if_neg (by omega)
  have m1 : max 0 (min (at_ : Int) (len : Int)) = len := by omega
  have m2 : max 0 (min ((at_ : Int) + 1) (len : Int)) = len := by omega
  simp only [e1, e2, show ((1 : Int) > 0) = True from by simp, if_true, m1, m2]
  rw [if_neg (by omega)]
  rfl
theorem slice_one (x : Str) (at_ : Nat) : Txt.slice x (some (at_ : Int)) (some ((at_ : Int) + 1)) = (match x.cps.toList.drop at_ with | [] => Str.empty | c :: _ => ⟨#[c]⟩) := by
  obtain ⟨cps⟩ := x
  unfold Txt.slice
  have hlen : Str.length ⟨cps⟩ = cps.size := rfl
  by_cases h : at_ < cps.size
  · have hl : at_ < cps.toList.length := by simpa using h
    rw [hlen, sidx_in h, List.drop_eq_getElem_cons hl]
    by_cases h1 : cps.size = 1
    · have h0 : at_ = 0 := by omega
      subst h0
      rw [if_pos (by simp [h1])]
      have : cps.toList = [cps.toList[0]] := by
        match hc : cps.toList, hl with
        | [a], _ => rfl
        | [], hl => simp [hc] at hl
        | a :: b :: r, _ => have := congrArg List.length hc; simp at this; omega
      show (⟨cps⟩ : Str) = ⟨#[_]⟩
      have e : cps = #[cps.toList[0]] := by
        apply Array.toList_inj.mp
        exact this.trans rfl
      rw [← e]
    · rw [if_neg (by simp; omega)]
      simp [h]
  · have hl : cps.toList.drop at_ = [] := List.drop_eq_nil_of_le (by simp; omega)
    rw [hlen, sidx_out (by omega), hl]
    by_cases h1 : cps.size = 0
    · rw [if_pos (by simp [h1])]
      have : cps = #[] := Array.eq_empty_of_size_eq_zero h1
      subst this; rfl
    · rw [if_neg (by simp; omega)]
      rfl
def isWs (c : Nat) : Bool := c == 10 || c == 9 || c == 13 || c == 32
def gq : List Nat → List Nat → List Nat × List Nat
  | t, [] => (t, [])
  | t, c :: r => if c = 34 then (t, r) else if c = 92 then (match r with
    | [] => (t, [])
    | d :: r' => gq (t ++ [d]) r') else gq (t ++ [c]) r
def gb : List Nat → List Nat → List Nat × List Nat
  | t, [] => (t, [])
  | t, c :: r => if isWs c = true then (t, r) else if c = 92 then (match r with
    | [] => (t, [])
    | d :: r' => gb (t ++ [d]) r') else gb (t ++ [c]) r
def gt : List Nat → List Nat × List Nat
  | [] => ([], [])
  | c :: r => if isWs c = true then gt r else if c = 34 then gq [] r else if c = 92 then (match r with
    | [] => ([], [])
    | d :: r' => gb [d] r') else gb [c] r
def nls (l : List Nat) : Int := (l.count 10 : Nat)
structure MA where
  m : Addr
  d : Addr
  pb : Addr
  pl : Addr
  rd : Addr
  st : Addr
  sd : Addr
structure MTok where
  h1 : Int
  h2 : Int
  h3 : Int
  h4 : Int
  k1 : Tok
  k2 : Tok
  k3 : Tok
  k4 : Tok
  t1 : Tok
  t3 : Tok
abbrev wsStr : Str := "\n\t\r "
def esM (T : MTok) (line : Int) (st pb : Addr) : List DictEntry := [⟨T.h1, .str "lineno" T.k1, .int line T.t1⟩, ⟨T.h2, .str "instream" T.k2, .ref st⟩, ⟨T.h3, .str "whitespace" T.k3, .str wsStr T.t3⟩, ⟨T.h4, .str "pushback" T.k4, .ref pb⟩]
def sgn : List Nat → Str
  | [] => Str.empty
  | c :: _ => ⟨#[c]⟩
def ReadOk (prog : Program) (w : World) (h : Heap) (A : MA) (imm : List (Addr × Obj)) (text : Str) : Prop :=
  ∀ lg oP at_ t k, (∀ p ∈ imm, p ∈ lg) → (A.pl, oP) ∈ lg → oP.cls = .type "list" → oP.data = .seq #[.int (at_ : Nat) t] k →
    CallL prog w 1 h (.ref A.rd) [.d (.int 1)] lg (fun a lg' => a = .d (.str (sgn (text.cps.toList.drop at_))) ∧ ∃ oP' t' k', lg' = putLg lg A.pl oP' ∧ oP'.cls = .type "list" ∧ oP'.data = .seq #[.int ((at_ + 1 : Nat) : Int) t'] k')
theorem StrsAre.len : ∀ {vs : List Value} {ys : List Str}, StrsAre vs ys → vs.length = ys.length
  | _, _, .nil => rfl
  | _, _, .cons _ _ r => congrArg (· + 1) (StrsAre.len r)
structure Mach (prog : Program) (w : World) (h : Heap) (C : Addr) (A : MA) (imm : List (Addr × Obj)) (text : Str) (lg : List (Addr × Obj)) (rest : List Nat) (line : Int) (push : List Str) : Prop where
  sub : ∀ p ∈ imm, p ∈ lg
  m : (A.m, instObj C A.d) ∈ imm
  st : ∃ fd sl, (A.st, fnObj fd sl (some A.sd)) ∈ imm
  sd : ∃ od, (A.sd, od) ∈ imm ∧ NsObj od (fun x => if x = "read" then some (.ref A.rd) else none)
  rd : ∃ oc od fd sl, (A.rd, (⟨oc, od, .func fd, sl⟩ : Obj)) ∈ imm
  read : ReadOk prog w h A imm text
  tlen : text.length ≤ sizeLine
  d : ∃ T k, (A.d, dictOf (esM T line A.st A.pb) k) ∈ lg
  pb : ∃ vs k, (A.pb, lstObj vs.toArray k) ∈ lg ∧ StrsAre vs push
  pl : ∃ at_ oP t k, text.cps.toList.drop at_ = rest ∧ (A.pl, oP) ∈ lg ∧ oP.cls = .type "list" ∧ oP.data = .seq #[.int (at_ : Nat) t] k
  ne : ∀ p ∈ imm, p.1 ≠ A.d ∧ p.1 ≠ A.pb ∧ p.1 ≠ A.pl
  dd : A.d ≠ A.pb ∧ A.d ≠ A.pl ∧ A.pb ≠ A.pl
def Stay (A : MA) (lg lg' : List (Addr × Obj)) : Prop := ∀ p ∈ lg, p.1 ≠ A.d → p.1 ≠ A.pb → p.1 ≠ A.pl → p ∈ lg'
theorem Stay.trans {A : MA} {a b c : List (Addr × Obj)} (x : Stay A a b) (y : Stay A b c) : Stay A a c := fun p h h1 h2 h3 => y p (x p h h1 h2 h3) h1 h2 h3
theorem putLg_keep {lg : List (Addr × Obj)} {d : Addr} {o : Obj} {p : Addr × Obj} (h : p ∈ lg) (hn : p.1 ≠ d) : p ∈ putLg lg d o := List.mem_map.mpr ⟨p, h, if_neg hn⟩
theorem putLg_new {lg : List (Addr × Obj)} {d : Addr} {o o' : Obj} (h : (d, o') ∈ lg) : (d, o) ∈ putLg lg d o := List.mem_map.mpr ⟨_, h, if_pos rfl⟩
section
variable {prog : Program} {w : World} {h : Heap} {C : Addr} {A : MA} {imm lg : List (Addr × Obj)} {text : Str} {rest : List Nat} {line : Int} {push : List Str}
theorem putLg_stay {d : Addr} {o : Obj} (hd : d = A.d ∨ d = A.pb ∨ d = A.pl) : Stay A lg (putLg lg d o) := fun p hp h1 h2 h3 => putLg_keep hp (by rcases hd with rfl | rfl | rfl <;> assumption)
theorem Mach.putPl (M : Mach prog w h C A imm text lg rest line push) {oP' : Obj} {at_ : Nat} {t' : Tok} {k' : Nat} (hat : text.cps.toList.drop at_ = rest) (pc : oP'.cls = .type "list") (pd : oP'.data = .seq #[.int ((at_ + 1 : Nat) : Int) t'] k') : Mach prog w h C A imm text (putLg lg A.pl oP') rest.tail line push where
  sub := fun p hp => putLg_keep (M.sub p hp) (M.ne p hp).2.2
  m := M.m
  st := M.st
  sd := M.sd
  rd := M.rd
  read := M.read
  tlen := M.tlen
  d := let ⟨T, k, hd⟩ := M.d; ⟨T, k, putLg_keep hd M.dd.2.1⟩
  pb := let ⟨vs, k, hd, hv⟩ := M.pb; ⟨vs, k, putLg_keep hd M.dd.2.2, hv⟩
  pl := let ⟨_, _, _, _, _, hp, _, _⟩ := M.pl; ⟨at_ + 1, oP', t', k', by rw [← hat, List.tail_drop], putLg_new hp, pc, pd⟩
  ne := M.ne
  dd := M.dd
theorem Mach.putD (M : Mach prog w h C A imm text lg rest line push) {T' : MTok} {line' : Int} {k' : Nat} : Mach prog w h C A imm text (putLg lg A.d (dictOf (esM T' line' A.st A.pb) k')) rest line' push where
  sub := fun p hp => putLg_keep (M.sub p hp) (M.ne p hp).1
  m := M.m
  st := M.st
  sd := M.sd
  rd := M.rd
  read := M.read
  tlen := M.tlen
  d := let ⟨_, _, hd⟩ := M.d; ⟨T', k', putLg_new hd⟩
  pb := let ⟨vs, k, hd, hv⟩ := M.pb; ⟨vs, k, putLg_keep hd M.dd.1.symm, hv⟩
  pl := let ⟨at_, oP, t, k, hat, hp, pc, pd⟩ := M.pl; ⟨at_, oP, t, k, hat, putLg_keep hp M.dd.2.1.symm, pc, pd⟩
  ne := M.ne
  dd := M.dd
theorem Mach.putPb (M : Mach prog w h C A imm text lg rest line push) {vs : List Value} {push' : List Str} {k' : Nat} (hv : StrsAre vs push') : Mach prog w h C A imm text (putLg lg A.pb (lstObj vs.toArray k')) rest line push' where
  sub := fun p hp => putLg_keep (M.sub p hp) (M.ne p hp).2.1
  m := M.m
  st := M.st
  sd := M.sd
  rd := M.rd
  read := M.read
  tlen := M.tlen
  d := let ⟨T, k, hd⟩ := M.d; ⟨T, k, putLg_keep hd M.dd.1⟩
  pb := let ⟨_, _, hd, _⟩ := M.pb; ⟨vs, k', putLg_new hd, hv⟩
  pl := let ⟨at_, oP, t, k, hat, hp, pc, pd⟩ := M.pl; ⟨at_, oP, t, k, hat, putLg_keep hp M.dd.2.2.symm, pc, pd⟩
  ne := M.ne
  dd := M.dd
theorem nls_one (rest : List Nat) : nls (rest.take 1) = if (sgn rest == ("\n" : Str)) = true then 1 else 0 := by
  cases rest with
  | nil => rfl
  | cons c r =>
    unfold nls sgn
    have e : ("\n" : Str) = ⟨#[10]⟩ := by decide +kernel
    rw [e]
    by_cases h : c = 10
    · subst h; rfl
    · have : ((⟨#[c]⟩ : Str) == ⟨#[10]⟩) = false := by simp [h]
      rw [this]
      simp [h]
theorem esM_len (T : MTok) (line : Int) (st pb : Addr) : (esM T line st pb).length < 1000 := by show 4 < 1000; decide
theorem getL_line (T : MTok) (line : Int) (st pb : Addr) : getL "lineno" (esM T line st pb) = some (some (.int line T.t1)) := by rfl
theorem getL_ws (T : MTok) (line : Int) (st pb : Addr) : getL "whitespace" (esM T line st pb) = some (some (.str wsStr T.t3)) := by rfl
theorem getL_pb (T : MTok) (line : Int) (st pb : Addr) : getL "pushback" (esM T line st pb) = some (some (.ref pb)) := by rfl
theorem getL_rc (T : MTok) (line : Int) (st pb : Addr) : getL "_read_char" (esM T line st pb) = some none := by rfl
theorem getL_tok (T : MTok) (line : Int) (st pb : Addr) : getL "get_token" (esM T line st pb) = some none := by rfl
end
end Mine
end

section
open PySem PySem.W PyProof.Rows PySem.Calls
set_option Elab.async false
set_option linter.unusedVariables false
set_option maxRecDepth 100000
namespace Mine
theorem findObj_fn {K : Frag} {C a : Addr} {g : Value} {od : Obj} {name : Str} (hh : hasDictIn K C = true) (ha : findIn K (.ref C) name = some (some (.ref a))) (hg : specialIn K (.ref a) "__get__" = some (some g)) (ht : takesIn K (.ref a) = some false) (hc : copiedNames.contains name = false) (hl : lookIn name od = some none) :
    findObj K C (some od) name = some (.bind g (.ref a)) := by
  obtain ⟨cd, hcd, hd⟩ := any_some hh
  unfold findObj
  rw [hcd, Option.bind_some, ha, Option.bind_some]
  have ho : W.ownOf cd (some od) name = some none := by unfold W.ownOf; rw [if_pos hd]; exact hl
  simp only [hg, ht, ho, Option.bind_some, hc, Bool.false_and]; rfl
theorem Sub.led {a b : Loc} (s : Sub a b) (lg : List (Addr × Obj)) : Sub (a.led lg) (b.led lg) := ⟨s.1, rfl⟩
def NxP (P : Loc → Prop) : Out → Prop
  | .next ρ => P ρ
  | _ => False
theorem Ex.join {prog : Program} {w : World} {n : Nat} {G : Ga} {ρ : Loc} (P : Loc → Prop) {st : Stmt} {ss : List Stmt} {Φ : Out → Prop} (p : Ex1 prog w n G ρ st (NxP P)) (q : ∀ ρ, P ρ → Ex prog w n G ρ ss Φ) : Ex prog w n G ρ (st :: ss) Φ :=
  .cons (p.mono fun o e => by cases o <;> first | exact q _ e | exact e.elim)
theorem CiTurn.sub {prog : Program} {w : World} {n : Nat} {G : Ga} {h : Heap} {x : Str} {it : Addr} {body orelse : List Stmt} {J : Nat → Loc → Prop} {B : Loc → Prop} {Φ : Out → Prop} {k : Nat} {a b : Loc} (s : Sub a b) (t : CiTurn prog w n G h x it body orelse J B Φ k a) : CiTurn prog w n G h x it body orelse J B Φ k b := by
  have el := s.2
  rcases t with ⟨h1, h2⟩ | ⟨q, f, self, y, t, of, fd, h1, h2, h3, h4, cl⟩
  · exact .inl ⟨el ▸ h1, h2.sub s⟩
  · refine .inr ⟨q, f, self, y, t, of, fd, el ▸ h1, el ▸ h2, h3, h4, el ▸ cl.mono (Nat.le_refl _) fun a lg' ⟨z, e, g1, g2, b1, b2⟩ => ⟨z, e, g1, g2, fun ne => (b1 ne).sub ((s.led lg').set _ _), fun e => (b2 e).sub (s.led _)⟩⟩
theorem one_eq (c d : Nat) : ((⟨#[c]⟩ : Str) == ⟨#[d]⟩) = decide (c = d) := by
  by_cases h : c = d
  · subst h; simp
  · rw [decide_eq_false h]; simp [h]
theorem sgn_nil : Str.ofString "" = sgn [] := by decide +kernel
theorem sgn_cons (c : Nat) (r : List Nat) : Str.ofString "" ≠ sgn (c :: r) := by
  intro e
  have : (Str.ofString "").cps.size = 1 := by rw [e]; rfl
  revert this; decide +kernel
theorem quo_eq (c : Nat) : ((⟨#[c]⟩ : Str) == Str.ofString "\"") = decide (c = 34) := one_eq c 34
theorem bsl_eq (c : Nat) : ((⟨#[c]⟩ : Str) == Str.ofString "\\") = decide (c = 92) := one_eq c 92
theorem sgn_take (r : List Nat) : sgn r = ⟨(r.take 1).toArray⟩ := by cases r <;> rfl
theorem cat_sgn (tk r : List Nat) : (⟨tk.toArray⟩ : Str) ++ sgn r = ⟨(tk ++ r.take 1).toArray⟩ := by
  rw [sgn_take]; show (⟨tk.toArray ++ (r.take 1).toArray⟩ : Str) = _; simp
theorem gq_cons {t r : List Nat} {c : Nat} (h1 : c ≠ 34) (h2 : c ≠ 92) : gq t (c :: r) = gq (t ++ [c]) r := by
  conv => lhs; unfold gq
  rw [if_neg h1, if_neg h2]
theorem gb_cons {t r : List Nat} {c : Nat} (h1 : isWs c = false) (h2 : c ≠ 92) : gb t (c :: r) = gb (t ++ [c]) r := by
  conv => lhs; unfold gb
  rw [if_neg (by simp [h1]), if_neg h2]
theorem gt_cons {r : List Nat} {c : Nat} (h1 : isWs c = false) (h2 : c ≠ 34) (h3 : c ≠ 92) : gt (c :: r) = gb [c] r := by
  conv => lhs; unfold gt
  rw [if_neg (by simp [h1]), if_neg h2, if_neg h3]
theorem gq_end {t r : List Nat} : gq t (34 :: r) = (t, r) := by
  conv => lhs; unfold gq
  rw [if_pos rfl]
theorem gb_end {t r : List Nat} {c : Nat} (h1 : isWs c = true) : gb t (c :: r) = (t, r) := by
  conv => lhs; unfold gb
  rw [if_pos h1]
theorem gt_ws {r : List Nat} {c : Nat} (h1 : isWs c = true) : gt (c :: r) = gt r := by
  conv => lhs; unfold gt
  rw [if_pos h1]
theorem gt_quo {r : List Nat} : gt (34 :: r) = gq [] r := by
  conv => lhs; unfold gt
  rw [if_neg (by decide), if_pos rfl]
theorem gq_esc (t r : List Nat) : gq t (92 :: r) = gq (t ++ r.take 1) r.tail := by
  cases r with
  | nil => simp [gq]
  | cons d r => simp [gq]
theorem gb_esc (t r : List Nat) : gb t (92 :: r) = gb (t ++ r.take 1) r.tail := by
  cases r with
  | nil => simp [gb, isWs]
  | cons d r => simp [gb, isWs]
theorem gt_esc (r : List Nat) : gt (92 :: r) = gb (r.take 1) r.tail := by
  cases r with
  | nil => simp [gt, gb, isWs]
  | cons d r => simp [gt, isWs]
theorem nls_tail (r : List Nat) (L : Int) : L - nls r + nls (r.take 1) = L - nls r.tail := by
  have : nls r = nls (r.take 1) + nls r.tail := by
    unfold nls
    cases r with
    | nil => rfl
    | cons c r => simp only [List.tail_cons, List.take_succ_cons, List.take_zero, List.count_cons, List.count_nil]; omega
  omega
theorem ws_found (c : Nat) : (!(Builtin.Str.occurrences wsStr ⟨#[c]⟩ 0 wsStr.length 1).isEmpty) = isWs c := by
  rw [StrLaws.found_one]
  have : wsStr.cps.toList = [10, 9, 13, 32] := by decide +kernel
  rw [this, Bool.eq_iff_iff]
  simp [isWs, or_assoc]
section
variable {prog : Program} {w : World} {h : Heap} {C : Addr} {A : MA} {imm lg₀ lg : List (Addr × Obj)} {text : Str} {rest : List Nat} {line L : Int} {push : List Str} {it q f : Addr} {t : Tok}
theorem Mach.putOther (M : Mach prog w h C A imm text lg rest line push) {b : Addr} {o : Obj} (hb : ∀ p ∈ imm, p.1 ≠ b) (h1 : b ≠ A.d) (h2 : b ≠ A.pb) (h3 : b ≠ A.pl) : Mach prog w h C A imm text (putLg lg b o) rest line push where
  sub := fun p hp => putLg_keep (M.sub p hp) (hb p hp)
  m := M.m
  st := M.st
  sd := M.sd
  rd := M.rd
  read := M.read
  tlen := M.tlen
  d := let ⟨T, k, hd⟩ := M.d; ⟨T, k, putLg_keep hd h1.symm⟩
  pb := let ⟨vs, k, hd, hv⟩ := M.pb; ⟨vs, k, putLg_keep hd h2.symm, hv⟩
  pl := let ⟨at_, oP, t, k, hat, hp, pc, pd⟩ := M.pl; ⟨at_, oP, t, k, hat, putLg_keep hp h3.symm, pc, pd⟩
  ne := M.ne
  dd := M.dd
theorem Mach.more (M : Mach prog w h C A imm text lg rest line push) {lg' : List (Addr × Obj)} (s : ∀ p ∈ lg, p ∈ lg') : Mach prog w h C A imm text lg' rest line push where
  sub := fun p hp => s _ (M.sub p hp)
  m := M.m
  st := M.st
  sd := M.sd
  rd := M.rd
  read := M.read
  tlen := M.tlen
  d := let ⟨T, k, hd⟩ := M.d; ⟨T, k, s _ hd⟩
  pb := let ⟨vs, k, hd, hv⟩ := M.pb; ⟨vs, k, s _ hd, hv⟩
  pl := let ⟨at_, oP, t, k, hat, hp, pc, pd⟩ := M.pl; ⟨at_, oP, t, k, hat, s _ hp, pc, pd⟩
  ne := M.ne
  dd := M.dd
structure TkN (A : MA) (imm lg₀ : List (Addr × Obj)) (it q : Addr) : Prop where
  i0 : ¬ InLg lg₀ it
  q0 : ¬ InLg lg₀ q
  iq : it ≠ q
  im : ∀ p ∈ imm, p ∈ lg₀
  d : InLg lg₀ A.d
  pb : InLg lg₀ A.pb
  pl : InLg lg₀ A.pl
theorem TkN.of (M : Mach prog w h C A imm text lg rest line push) (hq : ¬ InLg lg q) (hi : ¬ InLg ([(q, methodObj (.ref f) (.ref A.m))] ++ lg) it) : TkN A imm lg it q where
  i0 := fun ⟨p, hp, e⟩ => hi ⟨p, List.mem_append_right _ hp, e⟩
  q0 := hq
  iq := fun e => hi ⟨_, List.mem_append_left _ (List.mem_singleton.mpr rfl), e.symm⟩
  im := M.sub
  d := let ⟨_, _, h⟩ := M.d; ⟨_, h, rfl⟩
  pb := let ⟨_, _, h, _⟩ := M.pb; ⟨_, h, rfl⟩
  pl := let ⟨_, _, _, _, _, h, _⟩ := M.pl; ⟨_, h, rfl⟩
theorem TkN.ne (N : TkN A imm lg₀ it q) {b : Addr} (h : InLg lg₀ b) : it ≠ b ∧ q ≠ b := ⟨fun e => N.i0 (e ▸ h), fun e => N.q0 (e ▸ h)⟩
structure Tk (prog : Program) (w : World) (h : Heap) (C : Addr) (A : MA) (imm : List (Addr × Obj)) (text : Str) (L : Int) (lg₀ : List (Addr × Obj)) (it q f : Addr) (o : Obj) (lg : List (Addr × Obj)) (r : List Nat) : Prop where
  M : Mach prog w h C A imm text lg r (L - nls r) []
  st : Stay A lg₀ lg
  q : (q, methodObj (.ref f) (.ref A.m)) ∈ lg
  it : (it, o) ∈ lg
theorem Tk.step {o : Obj} {lg' : List (Addr × Obj)} {r : List Nat} (N : TkN A imm lg₀ it q) (K : Tk prog w h C A imm text L lg₀ it q f o lg r) (M : Mach prog w h C A imm text lg' r.tail (L - nls r + nls (r.take 1)) []) (s : Stay A lg lg') : Tk prog w h C A imm text L lg₀ it q f o lg' r.tail where
  M := by rw [nls_tail] at M; exact M
  st := K.st.trans s
  q := s _ K.q (N.ne N.d).2 (N.ne N.pb).2 (N.ne N.pl).2
  it := s _ K.it (N.ne N.d).1 (N.ne N.pb).1 (N.ne N.pl).1
theorem Tk.fin {o o' : Obj} {r : List Nat} (N : TkN A imm lg₀ it q) (K : Tk prog w h C A imm text L lg₀ it q f o lg r) : Tk prog w h C A imm text L lg₀ it q f o' (putLg lg it o') r where
  M := K.M.putOther (fun p hp => (N.ne ⟨p, N.im p hp, rfl⟩).1.symm) (N.ne N.d).1 (N.ne N.pb).1 (N.ne N.pl).1
  st := fun p hp h1 h2 h3 => putLg_keep (K.st p hp h1 h2 h3) (N.ne ⟨p, hp, rfl⟩).1.symm
  q := putLg_keep K.q N.iq.symm
  it := putLg_new K.it
theorem Tk.start {o : Obj} (M : Mach prog w h C A imm text lg rest line []) (s : ∀ p ∈ lg, p ∈ lg₀) (hq : (q, methodObj (.ref f) (.ref A.m)) ∈ lg₀) (hi : (it, o) ∈ lg₀) : Tk prog w h C A imm text (line + nls rest) lg it q f o lg₀ rest where
  M := by have := M.more s; rw [show line + nls rest - nls rest = line by omega]; exact this
  st := fun p hp _ _ _ => s p hp
  q := hq
  it := hi
end
end Mine
end

section
open PySem PySem.W PyProof.Rows PySem.Calls
set_option Elab.async false
set_option linter.unusedVariables false
set_option maxRecDepth 100000
namespace Mine
def tblRows : List (List (Int × Str)) := [[(40960, "l"), (49152, "s"), (32768, "-"), (24576, "b"), (16384, "d"), (8192, "c"), (4096, "p")], [(256, "r")], [(128, "w")], [(2112, "s"), (2048, "S"), (64, "x")],
  [(32, "r")], [(16, "w")], [(1032, "s"), (1024, "S"), (8, "x")], [(4, "r")], [(2, "w")], [(513, "t"), (512, "T"), (1, "x")]]
def pairD (p : Int × Str) : PyData := .tuple [.int p.1, .str p.2]
def rowD (r : List (Int × Str)) : PyData := .tuple (r.map pairD)
def tblD : PyData := .tuple (tblRows.map rowD)
def hit (m : Int) (i : Nat) (b : Int) : Bool := if (i : Int) == 0 then Builtin.bitAnd m 61440 == b else Builtin.bitAnd m b == b
def pick (m : Int) (i : Nat) (r : List (Int × Str)) : Str := match r.find? (fun p => hit m i p.1) with
  | some p => p.2
  | none => if (i : Int) == 0 then "?" else "-"
def picks (m : Int) : Nat → List (List (Int × Str)) → List Str
  | _, [] => []
  | i, r :: rs => pick m i r :: picks m (i + 1) rs
def listing (m : Int) : Str := Txt.join "" (picks m 0 tblRows)
theorem picks_snoc (m : Int) : ∀ (i : Nat) (rs : List (List (Int × Str))) (r : List (Int × Str)), picks m i (rs ++ [r]) = picks m i rs ++ [pick m (i + rs.length) r]
  | i, [], r => rfl
  | i, x :: xs, r => by
    show pick m i x :: picks m (i + 1) (xs ++ [r]) = _
    rw [picks_snoc m (i + 1) xs r]
    show _ = pick m i x :: (picks m (i + 1) xs ++ [pick m (i + (xs.length + 1)) r])
    rw [show i + 1 + xs.length = i + (xs.length + 1) by omega]
theorem take_snoc {α : Type} {l : List α} {i : Nat} {a : α} (h : l[i]? = some a) : l.take (i + 1) = l.take i ++ [a] := by
  obtain ⟨hlt, e⟩ := List.getElem?_eq_some_iff.mp h
  rw [List.take_succ_eq_append_getElem hlt, e]
theorem picks_take (m : Int) {i : Nat} {r : List (Int × Str)} (h : tblRows[i]? = some r) : picks m 0 (tblRows.take (i + 1)) = picks m 0 (tblRows.take i) ++ [pick m i r] := by
  rw [take_snoc h, picks_snoc]
  have : (tblRows.take i).length = i := by
    rw [List.length_take]; have := (List.getElem?_eq_some_iff.mp h).1; omega
  rw [this, Nat.zero_add]
theorem find_take {α : Type} {p : α → Bool} {l : List α} {j : Nat} {a : α} (hn : ∀ x ∈ l.take j, p x = false) (h : l[j]? = some a) (ha : p a = true) : l.find? p = some a := by
  obtain ⟨hlt, e⟩ := List.getElem?_eq_some_iff.mp h
  rw [← List.take_append_drop j l, List.find?_append, List.find?_eq_none.mpr (fun x hx => by simp [hn x hx])]
  rw [List.drop_eq_getElem_cons hlt, e]
  simp [ha]
theorem picks_length (m : Int) : ∀ (k : Nat) (rs : List (List (Int × Str))), (picks m k rs).length = rs.length := by
  intro k rs
  induction rs generalizing k with
  | nil => rfl
  | cons a b ih => exact congrArg (· + 1) (ih (k + 1))
theorem pick_one (m : Int) (i : Nat) (r : List (Int × Str)) (h : r.all (fun p => p.2.length == 1) = true) : (pick m i r).length = 1 := by
  unfold pick
  split
  · rename_i p hp
    have := List.all_eq_true.mp h _ (List.mem_of_find?_eq_some hp)
    simpa using this
  · split <;> rfl
theorem picks_ones (m : Int) : ∀ (k : Nat) (rs : List (List (Int × Str))), (rs.all fun r => r.all fun p => p.2.length == 1) = true → ((picks m k rs).map fun z => z.length) = rs.map fun _ => 1 := by
  intro k rs
  induction rs generalizing k with
  | nil => intro _; rfl
  | cons a b ih =>
    intro h
    rw [List.all_cons, Bool.and_eq_true] at h
    show (pick m k a).length :: _ = _
    rw [pick_one m k a h.1]
    exact congrArg (1 :: ·) (ih (k + 1) h.2)
theorem picks_sum (m : Int) : ((picks m 0 tblRows).map fun z => z.length).sum = 10 := by
  rw [picks_ones m 0 tblRows (by decide)]; rfl
theorem len_succ {α : Type} {l : List α} {n : Nat} (h : l.length = n + 1) : ∃ a r, l = a :: r ∧ r.length = n := by
  cases l with
  | nil => exact absurd h (fun z => by cases z)
  | cons a r => exact ⟨a, r, rfl, Nat.succ.inj h⟩
theorem len_two {α : Type} {l : List α} (h : l.length = 2) : ∃ a b, l = [a, b] := by
  obtain ⟨a, r, rfl, h1⟩ := len_succ h
  obtain ⟨b, s, rfl, h2⟩ := len_succ h1
  exact ⟨a, b, by rw [List.length_eq_zero_iff.mp h2]⟩
theorem len_three {α : Type} {l : List α} (h : l.length = 3) : ∃ a b c, l = [a, b, c] := by
  obtain ⟨a, r, rfl, h1⟩ := len_succ h
  obtain ⟨b, c, rfl⟩ := len_two h1
  exact ⟨a, b, c, rfl⟩
theorem bind1 {fd : FuncData} {x : Str} (k : ∀ v : Value, bindArgs fd ⟨[v], []⟩ = pure [(x, v)]) : ∀ vs : List Value, vs.length = 1 → bindArgs fd ⟨vs, []⟩ = pure ([x].zip vs) := fun vs e => by
  obtain ⟨v, rfl⟩ := List.length_eq_one_iff.mp e
  exact k v
theorem bind2 {fd : FuncData} {x y : Str} (k : ∀ v u : Value, bindArgs fd ⟨[v, u], []⟩ = pure [(x, v), (y, u)]) : ∀ vs : List Value, vs.length = 2 → bindArgs fd ⟨vs, []⟩ = pure ([x, y].zip vs) := fun vs e => by
  obtain ⟨v, u, rfl⟩ := len_two e
  exact k v u
theorem notOwn_nil : ∀ x ∈ ([] : List AV), ∀ xs, x ≠ .own xs := fun _ h => nomatch h
theorem notOwn_d {d : PyData} {r : List AV} (k : ∀ x ∈ r, ∀ xs, x ≠ .own xs) : ∀ x ∈ AV.d d :: r, ∀ xs, x ≠ .own xs := fun x h xs e => by
  rcases List.mem_cons.mp h with rfl | h
  · cases e
  · exact k x h xs e
theorem notOwn_v {d : Value} {r : List AV} (k : ∀ x ∈ r, ∀ xs, x ≠ .own xs) : ∀ x ∈ AV.v d :: r, ∀ xs, x ≠ .own xs := fun x h xs e => by
  rcases List.mem_cons.mp h with rfl | h
  · cases e
  · exact k x h xs e
theorem notOwn_arr {d : List PyData} {r : List AV} (k : ∀ x ∈ r, ∀ xs, x ≠ .own xs) : ∀ x ∈ AV.arr d :: r, ∀ xs, x ≠ .own xs := fun x h xs e => by
  rcases List.mem_cons.mp h with rfl | h
  · cases e
  · exact k x h xs e
theorem nodup1 {x : Str} : [x].Nodup := by simp
end Mine
end

section
open PySem PySem.W PyProof.Rows
set_option Elab.async false
namespace Mine
def vw01 : Program := { PySem.Challenge.pw_oy0118_01 with main := { PySem.Challenge.pw_oy0118_01.main with body := PySem.Challenge.pw_oy0118_01.main.body.drop 36 } }
def ls01 : List Str := [Str.ofString "_wall", Str.ofString "S_IFMT", Str.ofString "S_IFDIR", Str.ofString "S_IFCHR", Str.ofString "S_IFBLK", Str.ofString "S_IFREG", Str.ofString "S_IFIFO", Str.ofString "S_IFLNK", Str.ofString "S_IFSOCK", Str.ofString "S_ISUID", Str.ofString "S_ISGID", Str.ofString "S_ISVTX", Str.ofString "S_IRUSR", Str.ofString "S_IWUSR", Str.ofString "S_IXUSR", Str.ofString "S_IRGRP", Str.ofString "S_IWGRP", Str.ofString "S_IXGRP", Str.ofString "S_IROTH", Str.ofString "S_IWOTH", Str.ofString "S_IXOTH", Str.ofString "_filemode_table", Str.ofString "filemode", Str.ofString "_initial_missing", Str.ofString "reduce", Str.ofString "_netrclex", Str.ofString "_law_rows", Str.ofString "_law_coded", Str.ofString "_law_written", Str.ofString "_law_sent", Str.ofString "_law_machine", Str.ofString "_law_reader"]
theorem leftO_boot {p q : Program} {loose : List Str} {Xt : Shared → Bool} {α : Type} {Yf : Shared → α} {Ya : World → α} {N : Nat} {g0 : Bool} (e : opening p = plainProg p.main.scope.names) (hN : Nat.ble 600 N = true) (f : ∀ s, fenceModules? p s = some s)
    (h : ∀ (w : World) (os : OsState), (topFrom treeTable p w N ⟨boot_heap w.params, Array.mk [], boot_drawn, boot_toks, os⟩).map (fun s => (openSeen q loose (importedModules p.main.body) Xt g0 s, Yf s)) = some (openGood q loose, Ya w)) : LeftO p q loose Xt Yf Ya N g0 := fun w => by
  obtain ⟨⟨hp, gs, d, k, os⟩, e1, e2⟩ := Option.map_eq_some_iff.mp (boot_open e hN f w)
  obtain ⟨rfl, rfl, rfl, rfl⟩ : hp = boot_heap w.params ∧ gs = Array.mk [] ∧ d = boot_drawn ∧ k = boot_toks := by simpa using e2
  unfold openEnds
  rw [e1]
  exact h w os
local macro_rules | `(tactic| o_head $H) => do
  let hw := Lean.mkIdent `hw
  let hc := Lean.mkIdent `hc
  `(tactic| (refine holds_open (q := vw01) (loose := ls01) (Xt := fun s => xlAt vw01 [] s && recOk (RowW.records (PySem.Challenge.rw_oy0118_01).row.toRowW) s) (XP := XL vw01 []) (Yf := Hook.obs $H) (Ya := Hook.val $H) (YP := Hook.says $H) (N := 2600) (leftO_boot (by kernel_rfl) (by rfl) (fun s => rfl) (by intro w os; kernel_rfl)) (Hook.of $H) (Hook.keeps $H) (fun s e => xl_of s (Bool.and_eq_true_iff.mp e).1) XL.keeps (by rfl) (by rfl) (by rfl) (fun s e => recFacts_of (Bool.and_eq_true_iff.mp e).2) (by rfl) (by first | assumption | decide +kernel) (by decide +kernel) ⟨rfl, rfl, rfl, rfl, rfl, by decide +kernel⟩ ?$hw ?$hc))
set_option maxRecDepth 100000 in
set_option maxHeartbeats 8000000 in
open_top hd for PySem.Challenge.rw_oy0118_01
end Mine
end

section
open PySem PySem.W PyProof.Rows PySem.Calls
set_option Elab.async false
set_option linter.unusedVariables false
set_option maxRecDepth 100000
namespace Mine
section
variable {prog : Program} {w : World} {mg mb : Str → Option Value} {h : Heap}
abbrev BB (w : World) := Base (hd.heap_39 w.params)
--@ S_IFMT=28 filemode=68 table=80
theorem S_IFMT_call (B : BB w mg mb h) {X : Addr → Prop} (av : Av X h) (m : Int) : CallR prog w 1 X h (.ref 28) [.d (.int m)] (.d (.int (Builtin.bitAnd m 61440))) := by
  refine CallR.def_ av (B.at rfl) rfl B.nolimit ⟨_, _, _, _, rfl, B.at rfl, rfl, rfl⟩ rfl rfl (names := [Str.ofString "mode"]) rfl nodup1 rfl rfl (notOwn_d notOwn_nil) (bind1 fun v => rfl) ?_
  rintro X ⟨_, h₀, _, Z⟩ C
  have c := Cx.called B C
  obtain ⟨⟨L, rfl⟩, hx, rfl, av⟩ := C
  exact Ex.cons (Ex1.ret (Ev.bin (Ev.name rfl) Ev.int fun X => Bin.and) rfl)
theorem g_S_IFMT (B : BB w mg mb h) : mg (Str.ofString "S_IFMT") = some (.ref 28) := B.mg rfl rfl
theorem g_table (B : BB w mg mb h) : mg (Str.ofString "_filemode_table") = some (.ref 61) := B.mg rfl rfl
theorem g_enumerate (B : BB w mg mb h) : mg (Str.ofString "enumerate") = none := B.mg rfl rfl
theorem d_table : rdK (hd.heap_39 w.params) 4 (.ref 61) = some tblD := by rfl
theorem filemode_call (B : BB w mg mb h) {X : Addr → Prop} (av : Av X h) (m : Int) : CallR prog w 2 X h (.ref 68) [.d (.int m)] (.d (.str (listing m))) := by
  refine CallR.def_ av (B.at rfl) rfl B.nolimit ⟨_, _, _, _, rfl, B.at rfl, rfl, rfl⟩ rfl rfl (names := [Str.ofString "mode"]) rfl nodup1 rfl rfl (notOwn_d notOwn_nil) (bind1 fun v => rfl) ?_
  rintro X ⟨_, h₀, _, Z⟩ C
  have c := Cx.called B C
  obtain ⟨⟨L, rfl⟩, hx, rfl, av⟩ := C
  let st : Nat → Loc := fun i => ⟨[(Str.ofString "mode", .d (.int m)), (Str.ofString "perm", .own ((picks m 0 (tblRows.take i)).map .str))], []⟩
  refine Ex.then_ (st 0) (Ex1.assignOwn rfl (ds := []) (fun _ _ _ => .nil) (Sub.of ⟨rfl, rfl, trivial⟩)) ?_
  refine Ex.then_ (st 10) (Ex1.forN st (fun X h' F => ItP.enum (ds := tblRows.map rowD) ((c.blt (g_enumerate B) boot_enumerate (by decide +kernel)) X h' F) ((c.globD (g_table B) 4 d_table) X h' F) True) rfl (Sub.refl _) (fun i d hd => ?_) (Sub.refl _)) ?_
  · obtain ⟨e, he1, rfl⟩ := numbered_get (tblRows.map rowD) 0 i d hd
    rw [List.getElem?_map] at he1
    obtain ⟨r, hr, rfl⟩ := Option.map_eq_some_iff.mp he1
    have hlen : ((picks m 0 (tblRows.take i)).map PyData.str).length ≤ sizeLine := by
      have : ∀ (k : Nat) (rs : List (List (Int × Str))), (picks m k rs).length = rs.length := by
        intro k rs
        induction rs generalizing k with
        | nil => rfl
        | cons a b ih => exact congrArg (· + 1) (ih (k + 1))
      rw [List.length_map, this, List.length_take]
      exact Nat.le_trans (Nat.min_le_right _ _) (by decide)
    have adv : ∀ {c : Str}, pick m i r = c → (picks m 0 (tblRows.take i)).map PyData.str ++ [.str c] = (picks m 0 (tblRows.take (i + 1))).map PyData.str := fun e => by
      rw [picks_take m hr, List.map_append, e]; rfl
    let ρi : Loc := ⟨[(Str.ofString "mode", .d (.int m)), (Str.ofString "perm", .own ((picks m 0 (tblRows.take i)).map .str)), (Str.ofString "index", .d (.int (i : Nat))), (Str.ofString "table", .d (rowD r))], []⟩
    refine ⟨ρi, by rw [Nat.zero_add]; rfl, Ex.cons (Ex1.forC (fun _ => ρi) (fun j => ∀ p ∈ r.take j, hit m i p.1 = false) (fun ρ' => Sub (st (i + 1)) ρ') (fun X h' F => ItP.tuple ((Ev.name (a := .d (rowD r)) rfl) X h' F) True) rfl (Sub.refl _) (fun _ h => by simp at h) (fun j d hd P => ?_) (fun P => ?_) (fun ρ₁ h => Ex.nil h))⟩
    · rw [List.getElem?_map] at hd
      obtain ⟨p, hp, rfl⟩ := Option.map_eq_some_iff.mp hd
      refine ⟨_, rfl, Ex.cons (Ex1.if_ (EvT.cmp (Ev.name (a := .d (.int (i : Nat))) rfl) Ev.int fun X => Cmp.ieq) (fun h0 => ?_) (fun h0 => ?_))⟩
      · refine Ex.cons (Ex1.if_ (EvT.cmp (c.call (c.glob (g_S_IFMT B)) (EvS.cons (Ev.name (a := .d (.int m)) rfl) EvS.nil) (B.at rfl) (fun X av => S_IFMT_call B av m)) (Ev.name (a := .d (.int p.1)) rfl) fun X => Cmp.ieq) (fun h1 => ?_) (fun h1 => ?_))
        · have hh : hit m i p.1 = true := by unfold hit; rw [h0]; exact h1
          refine Ex.cons (Ex1.append (d := .str p.2) rfl (Ev.name rfl) (Ex.cons (Ex1.brk ?_)) hlen)
          refine Sub.of ⟨rfl, ?_, trivial⟩
          show some (AV.own _) = some (AV.own _)
          rw [← adv (c := p.2) (by unfold pick; rw [find_take P hp hh])]
        · refine Ex.nil (Ex.nil (Ex.nil ⟨fun q hq => ?_, Sub.of ⟨rfl, rfl, rfl, rfl, trivial⟩⟩))
          have hh : hit m i p.1 = false := by unfold hit; rw [h0]; exact h1
          rw [take_snoc hp] at hq
          rcases List.mem_append.mp hq with hq | hq
          · exact P q hq
          · cases List.mem_singleton.mp hq; exact hh
      · refine Ex.cons (Ex1.if_ (EvT.cmp (Ev.bin (Ev.name (a := .d (.int m)) rfl) (Ev.name (a := .d (.int p.1)) rfl) fun X => Bin.and) (Ev.name (a := .d (.int p.1)) rfl) fun X => Cmp.ieq) (fun h1 => ?_) (fun h1 => ?_))
        · have hh : hit m i p.1 = true := by unfold hit; rw [h0]; exact h1
          refine Ex.cons (Ex1.append (d := .str p.2) rfl (Ev.name rfl) (Ex.cons (Ex1.brk ?_)) hlen)
          refine Sub.of ⟨rfl, ?_, trivial⟩
          show some (AV.own _) = some (AV.own _)
          rw [← adv (c := p.2) (by unfold pick; rw [find_take P hp hh])]
        · refine Ex.nil (Ex.nil (Ex.nil ⟨fun q hq => ?_, Sub.of ⟨rfl, rfl, rfl, rfl, trivial⟩⟩))
          have hh : hit m i p.1 = false := by unfold hit; rw [h0]; exact h1
          rw [take_snoc hp] at hq
          rcases List.mem_append.mp hq with hq | hq
          · exact P q hq
          · cases List.mem_singleton.mp hq; exact hh
    · have hf : r.find? (fun p => hit m i p.1) = none := List.find?_eq_none.mpr fun x hx => by
        have := P x (by rw [List.length_map, List.take_length]; exact hx)
        simp [this]
      refine Ex.cons (Ex1.if_ (EvT.cmp (Ev.name (a := .d (.int (i : Nat))) rfl) Ev.int fun X => Cmp.ieq) (fun h0 => ?_) (fun h0 => ?_))
      · refine Ex.cons (Ex1.append (d := .str "?") rfl Ev.str (Ex.nil (Ex.nil (Ex.nil ?_))) hlen)
        refine Sub.of ⟨rfl, ?_, trivial⟩
        show some (AV.own _) = some (AV.own _)
        rw [← adv (c := "?") (by unfold pick; rw [hf]; exact if_pos h0)]
      · refine Ex.cons (Ex1.append (d := .str "-") rfl Ev.str (Ex.nil (Ex.nil (Ex.nil ?_))) hlen)
        refine Sub.of ⟨rfl, ?_, trivial⟩
        show some (AV.own _) = some (AV.own _)
        rw [← adv (c := "-") (by unfold pick; rw [hf]; exact if_neg (by rw [h0]; decide))]
  · have e10 : tblRows.take 10 = tblRows := by decide
    refine Ex.eqL (ρ' := ⟨[(Str.ofString "mode", .d (.int m)), (Str.ofString "perm", .own ((picks m 0 tblRows).map .str))], []⟩) (by show Loc.mk _ _ = _; rw [e10]) ?_
    refine Ex.cons (Ex1.ret (d := .str (listing m)) ?_ rfl)
    refine Ev.meth (a := .d (.str "")) (f := .builtin "str.join") (as := [.own ((picks m 0 tblRows).map .str)]) (c := .d (.str (listing m))) ?_ ?_ ?_ ?_ ?_ ?_ ?_ ?_ ?_
    · exact Ev.str
    · exact EvS.cons (Ev.name rfl) EvS.nil
    · exact (fun X h' F => MethR.str fun h => GM.join h)
    · exact (fun _ _ _ => KeepF.builtin)
    · exact (fun X h' F => CallR.join (ys := picks m 0 tblRows) rfl (by rw [picks_sum, picks_length]; decide))
    · rfl
    · rfl
    · rfl
    · rfl
end
end Mine
end

section
open PySem PySem.W PyProof.Rows PySem.Calls
set_option Elab.async false
set_option linter.unusedVariables false
set_option maxRecDepth 100000
namespace Mine
section
variable {prog : Program} {w : World} {mg mb : Str → Option Value} {h : Heap}
theorem k_ga : findIn (hd.heap_39 w.params) (.ref 115) "__getattribute__" = some (some (.builtin "object.__getattribute__")) := by kernel_rfl
theorem k_gt : findIn (hd.heap_39 w.params) (.ref 115) "__getattr__" = some none := by kernel_rfl
theorem k_sa : findIn (hd.heap_39 w.params) (.ref 115) "__setattr__" = some (some (.builtin "object.__setattr__")) := by kernel_rfl
theorem k_dict : hasDictIn (hd.heap_39 w.params) 115 = true := by kernel_rfl
theorem k_over : plainOver (hd.heap_39 w.params) 115 = true := by kernel_rfl
theorem k_line : findIn (hd.heap_39 w.params) (.ref 115) "lineno" = some none := by kernel_rfl
theorem k_inst : findIn (hd.heap_39 w.params) (.ref 115) "instream" = some none := by kernel_rfl
theorem k_ws : findIn (hd.heap_39 w.params) (.ref 115) "whitespace" = some none := by kernel_rfl
theorem k_pb : findIn (hd.heap_39 w.params) (.ref 115) "pushback" = some none := by kernel_rfl
theorem k_rc : findIn (hd.heap_39 w.params) (.ref 115) "_read_char" = some (some (.ref 98)) := by kernel_rfl
theorem k_tok : findIn (hd.heap_39 w.params) (.ref 115) "get_token" = some (some (.ref 105)) := by kernel_rfl
theorem k_init : findIn (hd.heap_39 w.params) (.ref 115) "__init__" = some (some (.ref 91)) := by kernel_rfl
theorem k_makes : makesIn (hd.heap_39 w.params) 115 = true := by kernel_rfl
theorem k_keep : keepIn (hd.heap_39 w.params) (.ref 115) = true := by kernel_rfl
theorem t_rc : typeIn (hd.heap_39 w.params) (.ref 98) = some (.type "function") := by kernel_rfl
theorem t_tok : typeIn (hd.heap_39 w.params) (.ref 105) = some (.type "function") := by kernel_rfl
theorem t_init : typeIn (hd.heap_39 w.params) (.ref 91) = some (.type "function") := by kernel_rfl
theorem k_tl : takerIn (hd.heap_39 w.params) 115 "lineno" = some none := by unfold takerIn; rw [k_line]; rfl
theorem k_ti : takerIn (hd.heap_39 w.params) 115 "instream" = some none := by unfold takerIn; rw [k_inst]; rfl
theorem k_tw : takerIn (hd.heap_39 w.params) 115 "whitespace" = some none := by unfold takerIn; rw [k_ws]; rfl
theorem k_tp : takerIn (hd.heap_39 w.params) 115 "pushback" = some none := by unfold takerIn; rw [k_pb]; rfl
theorem so_line : SetOk (hd.heap_39 w.params) 115 "lineno" := ⟨k_sa, k_over, k_tl, k_dict⟩
theorem so_inst : SetOk (hd.heap_39 w.params) 115 "instream" := ⟨k_sa, k_over, k_ti, k_dict⟩
theorem so_ws : SetOk (hd.heap_39 w.params) 115 "whitespace" := ⟨k_sa, k_over, k_tw, k_dict⟩
theorem so_pb : SetOk (hd.heap_39 w.params) 115 "pushback" := ⟨k_sa, k_over, k_tp, k_dict⟩
theorem readChar (B : BB w mg mb h) {A : MA} {imm lg : List (Addr × Obj)} {text : Str} {rest : List Nat} {line : Int} {push : List Str} (M : Mach prog w h 115 A imm text lg rest line push) :
    CallL prog w 2 h (.ref 98) [.v (.ref A.m)] lg (fun a lg' => a = .d (.str (sgn rest)) ∧ Mach prog w h 115 A imm text lg' rest.tail (line + nls (rest.take 1)) push ∧ Stay A lg lg') := by
  refine CallL.def_ (B.at rfl) rfl B.nolimit ⟨_, _, _, _, rfl, B.at rfl, rfl, rfl⟩ rfl rfl (names := [Str.ofString "self"]) rfl nodup1 rfl rfl (notOwn_v notOwn_nil) (bind1 fun v => rfl) ?_
  rintro X ⟨_, h₀, _, Z⟩ C
  have c := Cx.called B C
  obtain ⟨⟨L, rfl⟩, hx, rfl, av⟩ := C
  obtain ⟨fdst, slst, mst⟩ := M.st
  obtain ⟨od, msd, nsd⟩ := M.sd
  obtain ⟨foc, fod, ffd, fsl, mrd⟩ := M.rd
  obtain ⟨T, kd, md⟩ := M.d
  obtain ⟨at_, oP, tP, kP, hat, mpl, pc, pd⟩ := M.pl
  have msub := M.sub
  have I : InstL lg A.m A.d 115 (esM T line A.st A.pb) kd := ⟨msub _ M.m, md⟩
  have hcall := M.read lg oP at_ tP kP msub mpl pc pd
  rw [hat] at hcall
  refine Ex.cons (Ex1.assignM rfl (EvM.meth (h := h) (ov := .ref A.st) (f := .ref A.rd) (first := []) (fa := []) (fun X h' F lg X' h'' F' => c.x F') (c.attr (v := .ref A.st) (Ev.name rfl) I k_ga k_dict k_inst rfl rfl) (fun X s F A' pl Q E q => fn_getMethod (F.led _ (msub _ mst)).1 (F.led _ (msub _ msd)).1 nsd (if_pos rfl) rfl (by decide +kernel) fnt_read q) rfl (EvMS.pure (EvS.cons Ev.int EvS.nil) (notOwn_d notOwn_nil) ⟨fun X h' F h'' e => keeps_F h'' ⟨_, _, _, _, e _ _ (F.led _ (msub _ mrd)).1⟩, hcall.mono (Nat.le_refl _) ?_⟩)))
  rintro a lg' ⟨rfl, oP', t', k', rfl, pc', pd'⟩
  have M' := M.putPl hat pc' pd'
  have I' : InstL (putLg lg A.pl oP') A.m A.d 115 (esM T line A.st A.pb) kd := ⟨M'.sub _ M.m, putLg_keep md M.dd.2.1⟩
  have st' : Stay A lg (putLg lg A.pl oP') := putLg_stay (.inr (.inr rfl))
  refine Ex.cons (Ex1.if_ (EvT.cmp (Ev.name (a := .d (.str (sgn rest))) rfl) Ev.str fun X => Cmp.seq) (fun hb => ?_) (fun hb => ?_))
  · refine Ex.cons (c.augAttr so_line k_ga k_line (Ev.name rfl) Ev.int I' (getL_line ..) (esM_len ..) fun u t => Ex.nil (Ex.cons (Ex1.ret (Ev.name (a := .d (.str (sgn rest))) rfl) ⟨rfl, ?_, ?_⟩)))
    · rw [nls_one, if_pos hb]
      exact M'.putD (T' := { T with t1 := t })
    · exact st'.trans (putLg_stay (.inl rfl))
  · refine Ex.nil (Ex.cons (Ex1.ret (Ev.name (a := .d (.str (sgn rest))) rfl) ⟨rfl, ?_, st'⟩))
    rw [nls_one, hb, if_neg (by decide), Int.add_zero]
    exact M'
end
end Mine
end

section
open PySem PySem.W PyProof.Rows PySem.Calls
set_option Elab.async false
set_option linter.unusedVariables false
set_option maxRecDepth 100000
namespace Mine
section
variable {prog : Program} {w : World} {mg mb : Str → Option Value} {h : Heap}
abbrev cn (A : MA) (it : Addr) (tk : List Nat) (lg : List (Addr × Obj)) : Loc := ⟨[(Str.ofString "self", .v (.ref A.m)), (Str.ofString "token", .d (.str ⟨tk.toArray⟩)), (Str.ofString "fiter", .v (.ref it))], lg⟩
theorem sg_rc : specialIn (hd.heap_39 w.params) (.ref 98) "__get__" = some (some (.builtin "function.__get__")) := by kernel_rfl
theorem tk_rc : takesIn (hd.heap_39 w.params) (.ref 98) = some false := by kernel_rfl
theorem k_rcb (es : List DictEntry) (k : Nat) (hl : getL "_read_char" es = some none) : findObj (hd.heap_39 w.params) 115 (some (dictOf es k)) "_read_char" = some (.bind (.builtin "function.__get__") (.ref 98)) :=
  findObj_fn k_dict k_rc sg_rc tk_rc (by decide +kernel) (by rw [lookIn_dict]; exact hl)
theorem g_iter (B : BB w mg mb h) : mg (Str.ofString "iter") = none := B.mg rfl rfl
theorem getTok (B : BB w mg mb h) {A : MA} {imm lg : List (Addr × Obj)} {text : Str} {rest : List Nat} {line : Int} {push : List Str} (M : Mach prog w h 115 A imm text lg rest line push) (hz : push.length ≤ 1000) (hr : rest.length ≤ text.length) :
    CallL prog w 4 h (.ref 105) [.v (.ref A.m)] lg (fun a lg' => match push with
      | s :: ps => a = .d (.str s) ∧ Mach prog w h 115 A imm text lg' rest line ps ∧ Stay A lg lg'
      | [] => a = .d (.str ⟨(gt rest).1.toArray⟩) ∧ Mach prog w h 115 A imm text lg' (gt rest).2 (line + nls rest - nls (gt rest).2) [] ∧ Stay A lg lg') := by
  refine CallL.def_ (B.at rfl) rfl B.nolimit ⟨_, _, _, _, rfl, B.at rfl, rfl, rfl⟩ rfl rfl (names := [Str.ofString "self"]) rfl nodup1 rfl rfl (notOwn_v notOwn_nil) (bind1 fun v => rfl) ?_
  rintro X ⟨_, h₀, _, Z⟩ C
  have c := Cx.called B C
  obtain ⟨⟨L, rfl⟩, hx, rfl, av⟩ := C
  obtain ⟨T, kd, md⟩ := M.d
  obtain ⟨vs, kpb, mpb, hpb⟩ := M.pb
  have I : InstL lg A.m A.d 115 (esM T line A.st A.pb) kd := ⟨M.sub _ M.m, md⟩
  have hlen := StrsAre.len hpb
  have bl : (vs.length : Int) ≤ 1000 := by omega
  refine Ex.cons (Ex1.if_ (EvT.llist (c.attr (v := .ref A.pb) (Ev.name rfl) I k_ga k_dict k_pb (getL_pb ..) rfl) mpb rfl rfl (by simp; omega)) (fun hb => ?_) (fun hb => ?_))
  · cases hpb with
    | nil => simp at hb
    | cons x t r =>
      refine Ex.cons (Ex1.retM (EvM.lpop (items := _) (m := kpb) (c.attr (v := .ref A.pb) (Ev.name rfl) I k_ga k_dict k_pb (getL_pb ..) rfl) Ev.int mpb (Nat.le_trans (by omega : _ ≤ 1000) (by decide)) fun m' => ⟨rfl, M.putPb r, putLg_stay (.inr (.inl rfl))⟩))
  · cases hpb with
    | cons x t r => simp at hb
    | nil =>
      refine Ex.nil (Ex.then_ ⟨[(Str.ofString "self", .v (.ref A.m)), (Str.ofString "token", .d (.str ⟨[].toArray⟩))], lg⟩ (Ex1.assign rfl Ev.str (fun _ z => by cases z) (Sub.of ⟨rfl, rfl, trivial⟩)) ?_)
      refine Ex.cons (Ex1.assignM rfl (EvM.call (h := h) (f := .builtin "iter") (fun X h' F lg X' h'' F' => c.x F') (c.blt (g_iter B) boot_iter n_iter) (EvMS.cons (c.bound (Ev.name rfl) I k_ga k_gt (k_rcb _ _ (getL_rc ..)) t_rc fun q nq => EvMS.pure (EvS.cons Ev.str EvS.nil) (notOwn_d notOwn_nil) ⟨fun _ _ _ => KeepF.builtin, CallL.iter (List.mem_cons_self ..) fun it t ni => ?_⟩))))
      have N : TkN A imm lg it q := TkN.of M nq ni
      have K0 : Tk prog w h 115 A imm text (line + nls rest) lg it q 98 (ciObj q (Str.ofString "") t) ([(it, ciObj q (Str.ofString "") t)] ++ ([(q, methodObj (.ref 98) (.ref A.m))] ++ lg)) rest := Tk.start M (fun p hp => List.mem_append_right _ (List.mem_append_right _ hp)) (List.mem_append_right _ (List.mem_cons_self ..)) (List.mem_cons_self ..)
      have hT : text.length ≤ sizeLine := M.tlen
      clear I md mpb hlen
      refine Ex.sub (ρ' := cn A it [] _) (Sub.of ⟨rfl, rfl, rfl, trivial⟩) ?_
      generalize hg : gt rest = TR
      obtain ⟨T₀, R₀⟩ := TR
      let J : Nat → Loc → Prop := fun k ρ => ∃ lg1, (∃ r, Tk prog w h 115 A imm text (line + nls rest) lg it q 98 (ciObj q (Str.ofString "") t) lg1 r ∧ k = r.length + 1 ∧ r.length ≤ text.length ∧ gt r = (T₀, R₀) ∧ Sub (cn A it [] lg1) ρ) ∨
        (k = 0 ∧ R₀ = [] ∧ Tk prog w h 115 A imm text (line + nls rest) lg it q 98 ciEnd lg1 [] ∧ Sub (cn A it T₀ lg1) ρ)
      refine Ex.cons (Ex1.forI c J (fun _ => False) (rest.length + 1) rfl (Ev.name rfl) ⟨_, List.mem_cons_self .., rfl⟩ ?_ ?_ (fun _ h => h.elim))
      · exact ⟨_, .inl ⟨rest, K0, rfl, hr, hg, Sub.refl _⟩⟩
      · rintro k ρ₁ ⟨lg1, ⟨r, K, rfl, hrl, hgr, s⟩ | ⟨rfl, rfl, K, s⟩⟩
        · refine CiTurn.sub s (.inr ⟨q, 98, .ref A.m, _, t, _, _, K.it, K.q, B.at rfl, rfl, (readChar B K.M).mono (Nat.le_refl _) ?_⟩)
          rintro _ lg2 ⟨rfl, M2, st2⟩
          have K2 := K.step N M2 st2
          refine ⟨_, rfl, K2.it, K2.q, fun ne => ?_, fun e => ?_⟩
          · cases r with
            | nil => exact absurd sgn_nil ne
            | cons ch r' =>
              obtain ⟨T2, kd2, md2⟩ := K2.M.d
              have I2 : InstL lg2 A.m A.d 115 (esM T2 _ A.st A.pb) kd2 := ⟨K2.M.sub _ M.m, md2⟩
              refine Ex.cons (Ex1.if_ (EvT.cmp (Ev.name (a := .d (.str ⟨#[ch]⟩)) rfl) (Ev.ofStr (c.attr (v := .str wsStr T2.t3) (Ev.name rfl) I2 k_ga k_dict k_ws (getL_ws ..) rfl)) (fun X => Cmp.inStr)) (fun hb => ?_) (fun hb => ?_))
              · rw [ws_found] at hb
                rw [gt_ws hb] at hgr
                exact Ex.cons (Ex1.cont ⟨_, Nat.lt_succ_self _, lg2, .inl ⟨r', K2, rfl, Nat.le_of_succ_le hrl, hgr, Sub.of ⟨rfl, rfl, rfl, trivial⟩⟩⟩)
              rw [ws_found] at hb
              have hrl' : r'.length + 1 ≤ text.length := hrl
              refine Ex.nil (Ex.cons (Ex1.if_ (EvT.cmp (Ev.name (a := .d (.str ⟨#[ch]⟩)) rfl) Ev.str fun X => Cmp.seq) (fun hq => ?_) (fun hq => ?_)))
              · rw [quo_eq, decide_eq_true_eq] at hq
                subst hq
                rw [gt_quo] at hgr
                let Jq : Nat → Loc → Prop := fun k ρ => ∃ lg1 tk r, Tk prog w h 115 A imm text (line + nls rest) lg it q 98 (ciObj q (Str.ofString "") t) lg1 r ∧ k = r.length + 1 ∧ tk.length + r.length ≤ text.length ∧ gq tk r = (T₀, R₀) ∧ Sub (cn A it tk lg1) ρ
                refine Ex.cons (Ex1.forI c Jq (fun _ => False) (r'.length + 1) rfl (Ev.name rfl) ⟨_, K2.it, rfl⟩ ⟨_, [], r', K2, rfl, by simp; omega, hgr, Sub.of ⟨rfl, rfl, rfl, trivial⟩⟩ ?_ (fun _ h => h.elim))
                rintro k ρ₁ ⟨lg3, tk, r, K, rfl, hl, hgr, s⟩
                refine CiTurn.sub s (.inr ⟨q, 98, .ref A.m, _, t, _, _, K.it, K.q, B.at rfl, rfl, (readChar B K.M).mono (Nat.le_refl _) ?_⟩)
                rintro _ lg4 ⟨rfl, M4, st4⟩
                have K4 := K.step N M4 st4
                refine ⟨_, rfl, K4.it, K4.q, fun ne => ?_, fun e => ?_⟩
                · cases r with
                  | nil => exact absurd sgn_nil ne
                  | cons ch r' =>
                    have hl' : tk.length + (r'.length + 1) ≤ text.length := hl
                    refine Ex.cons (Ex1.if_ (EvT.cmp (Ev.name (a := .d (.str ⟨#[ch]⟩)) rfl) Ev.str fun X => Cmp.seq) (fun hq => ?_) (fun hq => ?_))
                    · rw [quo_eq, decide_eq_true_eq] at hq
                      subst hq
                      rw [gq_end] at hgr
                      cases hgr
                      refine Ex.cons (Ex1.ret (Ev.name (a := .d (.str ⟨T₀.toArray⟩)) rfl) ⟨rfl, K4.M, K4.st⟩)
                    rw [quo_eq, decide_eq_false_iff_not] at hq
                    refine Ex.cons (Ex1.if_ (EvT.cmp (Ev.name (a := .d (.str ⟨#[ch]⟩)) rfl) Ev.str fun X => Cmp.seq) (fun hs => ?_) (fun hs => ?_))
                    · rw [bsl_eq, decide_eq_true_eq] at hs
                      subst hs
                      rw [gq_esc] at hgr
                      obtain ⟨T4, kd4, md4⟩ := K4.M.d
                      have I4 : InstL lg4 A.m A.d 115 (esM T4 _ A.st A.pb) kd4 := ⟨K4.M.sub _ M.m, md4⟩
                      refine Ex.cons (Ex1.assignM rfl (EvM.meth (h := h) (ov := .ref A.m) (f := .ref 98) (first := [.ref A.m]) (fa := [.v (.ref A.m)]) (fun X h' F lg X' h'' F' => c.x F') (Ev.name rfl) (c.minst I4 k_ga k_gt k_rc t_rc (getL_rc ..)) rfl (EvMS.pure EvS.nil notOwn_nil ⟨fun X h' F => Cx.keepF (B.at rfl) (c.x F).1, (readChar B K4.M).mono (by decide) ?_⟩)))
                      rintro _ lg5 ⟨rfl, M5, st5⟩
                      have K5 := K4.step N M5 st5
                      have hl5 : (r'.take 1).length + r'.tail.length = r'.length := by
                        cases r' with
                        | nil => rfl
                        | cons a b => simp only [List.take_succ_cons, List.take_zero, List.length_cons, List.length_nil, List.tail_cons]; omega
                      refine Ex.nil (Ex.nil (Ex.cons (Ex1.aug (a := .d (.str ⟨tk.toArray⟩)) (b := .d (.str (sgn r'))) rfl rfl (Ev.name rfl) (fun X => Inp.cat ?_) (fun _ z => by cases z) (Ex.nil ⟨_, ?_, lg5, tk ++ r'.take 1, r'.tail, K5, rfl, ?_, hgr, Sub.of ⟨rfl, ?_, rfl, trivial⟩⟩))))
                      · rw [sgn_take]
                        show (tk.toArray).size + (List.toArray (r'.take 1)).size ≤ sizeLine
                        simp only [List.size_toArray]
                        omega
                      · show r'.tail.length + 1 < r'.length + 1 + 1
                        simp only [List.length_tail]; omega
                      · rw [List.length_append]; omega
                      · rw [← cat_sgn]; rfl
                    · rw [bsl_eq, decide_eq_false_iff_not] at hs
                      rw [gq_cons hq hs] at hgr
                      refine Ex.nil (Ex.nil (Ex.cons (Ex1.aug (a := .d (.str ⟨tk.toArray⟩)) (b := .d (.str ⟨#[ch]⟩)) rfl rfl (Ev.name rfl) (fun X => Inp.cat ?_) (fun _ z => by cases z) (Ex.nil ⟨_, Nat.lt_succ_self _, lg4, tk ++ [ch], r', K4, rfl, ?_, hgr, Sub.of ⟨rfl, ?_, rfl, trivial⟩⟩))))
                      · show (tk.toArray).size + 1 ≤ sizeLine
                        simp only [List.size_toArray]; omega
                      · rw [List.length_append]; show tk.length + 1 + r'.length ≤ _; omega
                      · have := cat_sgn tk (ch :: r')
                        have : (⟨(tk ++ [ch]).toArray⟩ : Str) = ⟨tk.toArray⟩ ++ ⟨#[ch]⟩ := this.symm
                        rw [this]; rfl
                · cases r with
                  | cons ch r' => exact absurd e (sgn_cons _ _)
                  | nil =>
                    have hgr : ((tk, []) : List Nat × List Nat) = (T₀, R₀) := by rw [← hgr]; rfl
                    cases hgr
                    exact Ex.nil (Ex.nil (Ex.nil ⟨0, Nat.succ_pos _, _, .inr ⟨rfl, rfl, K4.fin (o' := ciEnd) N, Sub.of ⟨rfl, rfl, rfl, trivial⟩⟩⟩))
              · rw [quo_eq, decide_eq_false_iff_not] at hq
                let Jb : Nat → Loc → Prop := fun k ρ => ∃ lg1 tk r, Tk prog w h 115 A imm text (line + nls rest) lg it q 98 (ciObj q (Str.ofString "") t) lg1 r ∧ k = r.length + 1 ∧ tk.length + r.length ≤ text.length ∧ gb tk r = (T₀, R₀) ∧ Sub (cn A it tk lg1) ρ
                refine Ex.join (fun ρ => ∃ lg3 z r3, Tk prog w h 115 A imm text (line + nls rest) lg it q 98 (ciObj q (Str.ofString "") t) lg3 r3 ∧ gb z r3 = (T₀, R₀) ∧ z.length + r3.length ≤ text.length ∧ r3.length ≤ r'.length ∧ Sub ((cn A it [] lg3).set (Str.ofString "ch") (.d (.str ⟨z.toArray⟩))) ρ) (Ex1.if_ (EvT.cmp (Ev.name (a := .d (.str ⟨#[ch]⟩)) rfl) Ev.str fun X => Cmp.seq) (fun hs => ?_) (fun hs => ?_)) ?_
                · rw [bsl_eq, decide_eq_true_eq] at hs
                  subst hs
                  rw [gt_esc] at hgr
                  refine Ex.cons (Ex1.assignM rfl (EvM.meth (h := h) (ov := .ref A.m) (f := .ref 98) (first := [.ref A.m]) (fa := [.v (.ref A.m)]) (fun X h' F lg X' h'' F' => c.x F') (Ev.name rfl) (c.minst I2 k_ga k_gt k_rc t_rc (getL_rc ..)) rfl (EvMS.pure EvS.nil notOwn_nil ⟨fun X h' F => Cx.keepF (B.at rfl) (c.x F).1, (readChar B K2.M).mono (by decide) ?_⟩)))
                  rintro _ lg5 ⟨rfl, M5, st5⟩
                  have K5 := K2.step N M5 st5
                  have hl5 : (r'.take 1).length + r'.tail.length = r'.length := by
                    cases r' with
                    | nil => rfl
                    | cons a b => simp only [List.take_succ_cons, List.take_zero, List.length_cons, List.length_nil, List.tail_cons]; omega
                  refine Ex.nil ⟨lg5, r'.take 1, r'.tail, K5, hgr, by omega, by omega, Sub.of ⟨rfl, rfl, rfl, ?_, trivial⟩⟩
                  rw [← sgn_take]; rfl
                · rw [bsl_eq, decide_eq_false_iff_not] at hs
                  rw [gt_cons hb hq hs] at hgr
                  exact Ex.nil ⟨lg2, [ch], r', K2, hgr, by simp; omega, Nat.le_refl _, Sub.of ⟨rfl, rfl, rfl, rfl, trivial⟩⟩
                rintro ρ₂ ⟨lg3, z, r3, K3, hg3, hl3, hle, s3⟩
                refine Ex.sub s3 (Ex.then_ (cn A it z lg3) (Ex1.aug (a := .d (.str ⟨[].toArray⟩)) (b := .d (.str ⟨z.toArray⟩)) rfl rfl (Ev.name rfl) (fun X => Inp.cat ?_) (fun _ z => by cases z) (Sub.of ⟨rfl, ?_, rfl, trivial⟩)) ?_)
                · show 0 + z.toArray.size ≤ sizeLine
                  simp only [List.size_toArray]; omega
                · show some (AV.d (.str ((⟨#[]⟩ : Str) ++ ⟨z.toArray⟩))) = some (AV.d (.str ⟨z.toArray⟩))
                  have : ((⟨#[]⟩ : Str) ++ ⟨z.toArray⟩) = ⟨z.toArray⟩ := by show (⟨#[] ++ z.toArray⟩ : Str) = _; simp
                  rw [this]
                refine Ex.cons (Ex1.forI c Jb (fun _ => False) (r3.length + 1) rfl (Ev.name rfl) ⟨_, K3.it, rfl⟩ ⟨_, z, r3, K3, rfl, hl3, hg3, Sub.of ⟨rfl, rfl, rfl, trivial⟩⟩ ?_ (fun _ h => h.elim))
                rintro k ρ₁ ⟨lg3, tk, r, K, rfl, hl, hgr, s⟩
                refine CiTurn.sub s (.inr ⟨q, 98, .ref A.m, _, t, _, _, K.it, K.q, B.at rfl, rfl, (readChar B K.M).mono (Nat.le_refl _) ?_⟩)
                rintro _ lg4 ⟨rfl, M4, st4⟩
                have K4 := K.step N M4 st4
                refine ⟨_, rfl, K4.it, K4.q, fun ne => ?_, fun e => ?_⟩
                · cases r with
                  | nil => exact absurd sgn_nil ne
                  | cons ch r' =>
                    have hl' : tk.length + (r'.length + 1) ≤ text.length := hl
                    obtain ⟨T4, kd4, md4⟩ := K4.M.d
                    have I4 : InstL lg4 A.m A.d 115 (esM T4 _ A.st A.pb) kd4 := ⟨K4.M.sub _ M.m, md4⟩
                    refine Ex.cons (Ex1.if_ (EvT.cmp (Ev.name (a := .d (.str ⟨#[ch]⟩)) rfl) (Ev.ofStr (c.attr (v := .str wsStr T4.t3) (Ev.name rfl) I4 k_ga k_dict k_ws (getL_ws ..) rfl)) (fun X => Cmp.inStr)) (fun hw => ?_) (fun hw => ?_))
                    · rw [ws_found] at hw
                      rw [gb_end hw] at hgr
                      cases hgr
                      refine Ex.cons (Ex1.ret (Ev.name (a := .d (.str ⟨T₀.toArray⟩)) rfl) ⟨rfl, K4.M, K4.st⟩)
                    rw [ws_found] at hw
                    refine Ex.cons (Ex1.if_ (EvT.cmp (Ev.name (a := .d (.str ⟨#[ch]⟩)) rfl) Ev.str fun X => Cmp.seq) (fun hs => ?_) (fun hs => ?_))
                    · rw [bsl_eq, decide_eq_true_eq] at hs
                      subst hs
                      rw [gb_esc] at hgr
                      obtain ⟨T4, kd4, md4⟩ := K4.M.d
                      have I4 : InstL lg4 A.m A.d 115 (esM T4 _ A.st A.pb) kd4 := ⟨K4.M.sub _ M.m, md4⟩
                      refine Ex.cons (Ex1.assignM rfl (EvM.meth (h := h) (ov := .ref A.m) (f := .ref 98) (first := [.ref A.m]) (fa := [.v (.ref A.m)]) (fun X h' F lg X' h'' F' => c.x F') (Ev.name rfl) (c.minst I4 k_ga k_gt k_rc t_rc (getL_rc ..)) rfl (EvMS.pure EvS.nil notOwn_nil ⟨fun X h' F => Cx.keepF (B.at rfl) (c.x F).1, (readChar B K4.M).mono (by decide) ?_⟩)))
                      rintro _ lg5 ⟨rfl, M5, st5⟩
                      have K5 := K4.step N M5 st5
                      have hl5 : (r'.take 1).length + r'.tail.length = r'.length := by
                        cases r' with
                        | nil => rfl
                        | cons a b => simp only [List.take_succ_cons, List.take_zero, List.length_cons, List.length_nil, List.tail_cons]; omega
                      refine Ex.nil (Ex.nil (Ex.cons (Ex1.aug (a := .d (.str ⟨tk.toArray⟩)) (b := .d (.str (sgn r'))) rfl rfl (Ev.name rfl) (fun X => Inp.cat ?_) (fun _ z => by cases z) (Ex.nil ⟨_, ?_, lg5, tk ++ r'.take 1, r'.tail, K5, rfl, ?_, hgr, Sub.of ⟨rfl, ?_, rfl, trivial⟩⟩))))
                      · rw [sgn_take]
                        show (tk.toArray).size + (List.toArray (r'.take 1)).size ≤ sizeLine
                        simp only [List.size_toArray]
                        omega
                      · show r'.tail.length + 1 < r'.length + 1 + 1
                        simp only [List.length_tail]; omega
                      · rw [List.length_append]; omega
                      · rw [← cat_sgn]; rfl
                    · rw [bsl_eq, decide_eq_false_iff_not] at hs
                      rw [gb_cons hw hs] at hgr
                      refine Ex.nil (Ex.nil (Ex.cons (Ex1.aug (a := .d (.str ⟨tk.toArray⟩)) (b := .d (.str ⟨#[ch]⟩)) rfl rfl (Ev.name rfl) (fun X => Inp.cat ?_) (fun _ z => by cases z) (Ex.nil ⟨_, Nat.lt_succ_self _, lg4, tk ++ [ch], r', K4, rfl, ?_, hgr, Sub.of ⟨rfl, ?_, rfl, trivial⟩⟩))))
                      · show (tk.toArray).size + 1 ≤ sizeLine
                        simp only [List.size_toArray]; omega
                      · rw [List.length_append]; show tk.length + 1 + r'.length ≤ _; omega
                      · have := cat_sgn tk (ch :: r')
                        have : (⟨(tk ++ [ch]).toArray⟩ : Str) = ⟨tk.toArray⟩ ++ ⟨#[ch]⟩ := this.symm
                        rw [this]; rfl
                · cases r with
                  | cons ch r' => exact absurd e (sgn_cons _ _)
                  | nil =>
                    have hgr : ((tk, []) : List Nat × List Nat) = (T₀, R₀) := by rw [← hgr]; rfl
                    cases hgr
                    exact Ex.nil (Ex.nil (Ex.nil ⟨0, Nat.succ_pos _, _, .inr ⟨rfl, rfl, K4.fin (o' := ciEnd) N, Sub.of ⟨rfl, rfl, rfl, trivial⟩⟩⟩))
          · cases r with
            | cons ch r' => exact absurd e (sgn_cons _ _)
            | nil =>
              have hgr : (([], []) : List Nat × List Nat) = (T₀, R₀) := hgr
              cases hgr
              have K3 := K2.fin (o' := ciEnd) N
              refine Ex.nil (Ex.cons (Ex1.ret (Ev.name (a := .d (.str ⟨[].toArray⟩)) rfl) ⟨rfl, K3.M, K3.st⟩))
        · refine CiTurn.sub s (.inl ⟨K.it, Ex.nil (Ex.cons (Ex1.ret (Ev.name (a := .d (.str ⟨T₀.toArray⟩)) rfl) ⟨rfl, K.M, K.st⟩))⟩)
end
end Mine
end

section
open PySem PySem.W PyProof.Rows PySem.Calls
set_option Elab.async false
set_option linter.unusedVariables false
set_option maxRecDepth 100000
namespace Mine
theorem inLg_put {lg : List (Addr × Obj)} {d : Addr} {o : Obj} {p : Addr} (h : InLg lg p) : InLg (putLg lg d o) p := by
  obtain ⟨q, hq, rfl⟩ := h
  by_cases z : q.1 = d
  · exact ⟨_, List.mem_map.mpr ⟨q, hq, if_pos z⟩, z.symm⟩
  · exact ⟨q, List.mem_map.mpr ⟨q, hq, if_neg z⟩, rfl⟩
theorem freeAll {names : List (Str × NameKind)} {cells : List (Str × Addr)} (h : (names.all fun x => x.2 != .free || (cells.lookup x.1).isSome) = true) : ∀ x ∈ names, x.2 = .free → (cells.lookup x.1).isSome = true := fun x hx e => by
  have := List.all_eq_true.mp h x hx
  rw [e] at this
  simpa using this
theorem Ex.abs {prog : Program} {w : World} {n : Nat} {G : Ga} {ρ : Loc} {ss : List Stmt} {Φ : Out → Prop} (P : List (Addr × Obj) → Prop) (hp : P ρ.lg) (k : ∀ lg, P lg → Ex prog w n G (ρ.led lg) ss Φ) : Ex prog w n G ρ ss Φ := k _ hp
theorem ne_of_not {lg : List (Addr × Obj)} {p : Addr × Obj} {b : Addr} (h : p ∈ lg) (n : ¬ InLg lg b) : p.1 ≠ b := fun e => n ⟨p, h, e⟩
theorem noCell {names : List (Str × NameKind)} (h : (names.all fun x => x.2 != .cell) = true) : ∀ x ∈ names, x.2 ≠ .cell := fun x hx => by
  have := List.all_eq_true.mp h x hx
  simpa using this
theorem no_read {es : List DictEntry} {k : Nat} {o : Obj} {m : Str → Option Value} (hm : NsObj o m) (hr : (m "read").isSome = true) (he : nsFind es.toArray "read" = none) : o ≠ dictOf es k := fun e => by
  obtain ⟨es', ep, hd, _, hx⟩ := hm
  rw [e] at hd
  have hd : Data.dict es.toArray _ = Data.dict es' ep := hd
  cases hd
  rw [← hx, he] at hr
  cases hr
theorem KeepF.cls {prog : Program} {w : World} {K : Frag} {h : Heap} {C : Addr} (e : keepIn K (.ref C) = true) (X : K.In h) : KeepF prog w h (.ref C) := fun h' x => by
  obtain ⟨k, a, b⟩ := looks_keep (M := model prog w) e (X.keeps x)
  exact ⟨k, a.elim .inl fun z => .inr (.inl z), b⟩
section
variable {prog : Program} {w : World} {mg mb : Str → Option Value} {h : Heap}
theorem initM (B : BB w mg mb h) {x dx st : Addr} {lg : List (Addr × Obj)} (hx : (x, instObj 115 dx) ∈ lg) (hd : (dx, emptyDict) ∈ lg) (ne : x ≠ dx) :
    CallL prog w 1 h (.ref 91) [.v (.ref x), .v (.ref st)] lg (fun a lg' => a = .d .none ∧ (∃ T k pb, (dx, dictOf (esM T 1 st pb) k) ∈ lg' ∧ (pb, lstObj #[] 0) ∈ lg' ∧ ¬ InLg lg pb) ∧ ∀ p ∈ lg, p.1 ≠ dx → p ∈ lg') := by
  refine CallL.def_ (B.at rfl) rfl B.nolimit ⟨_, _, _, _, rfl, B.at rfl, rfl, rfl⟩ rfl rfl (names := [Str.ofString "self", Str.ofString "fp"]) rfl (by decide +kernel) rfl rfl (notOwn_v (notOwn_v notOwn_nil)) (bind2 fun v u => rfl) ?_
  rintro X ⟨_, h₀, _, Z⟩ C
  have c := Cx.called B C
  obtain ⟨⟨L, rfl⟩, hX, rfl, av⟩ := C
  refine Ex.cons (c.setAttr (x := x) (dx := dx) (C := 115) (es := []) (k := 0) so_line (EvM.d Ev.int ⟨rfl, Ev.name rfl, ⟨hx, hd⟩, rfl, Nat.le_of_ble_eq_true rfl, ?_⟩))
  rintro v t ⟨t1, rfl⟩
  refine Ex.cons (c.setAttr (x := x) (dx := dx) (C := 115) so_inst (EvM.v (d := .ref st) (Ev.name rfl) ⟨rfl, Ev.name rfl, ⟨putLg_keep hx ne, putLg_new hd⟩, rfl, Nat.le_of_ble_eq_true rfl, ?_⟩))
  rintro v t2 rfl
  refine Ex.cons (c.setAttr (x := x) (dx := dx) (C := 115) so_ws (EvM.d Ev.str ⟨rfl, Ev.name rfl, ⟨putLg_keep (putLg_keep hx ne) ne, putLg_new (putLg_new hd)⟩, rfl, Nat.le_of_ble_eq_true rfl, ?_⟩))
  rintro v t3 ⟨t4, rfl⟩
  refine Ex.cons (c.setAttr (x := x) (dx := dx) (C := 115) so_pb (EvM.newList fun pb npb => ⟨rfl, Ev.name rfl, ⟨List.mem_append_right _ (putLg_keep (putLg_keep (putLg_keep hx ne) ne) ne), List.mem_append_right _ (putLg_new (putLg_new (putLg_new hd)))⟩, rfl, Nat.le_of_ble_eq_true rfl, ?_⟩))
  rintro v t5 rfl
  have npb' : ¬ InLg lg pb := fun z => npb (inLg_put (inLg_put (inLg_put z)))
  have pd : pb ≠ dx := fun e => npb' (e ▸ ⟨_, hd, rfl⟩)
  refine Ex.nil ⟨rfl, ⟨⟨_, _, _, _, t, t2, t3, t5, t1, t4⟩, _, pb, putLg_new (List.mem_append_right _ (putLg_new (putLg_new (putLg_new hd)))), putLg_keep (List.mem_append_left _ (List.mem_singleton.mpr rfl)) pd, npb'⟩, fun p hp hn => putLg_keep (List.mem_append_right _ (putLg_keep (putLg_keep (putLg_keep hp hn) hn) hn)) hn⟩
theorem g_lex (B : BB w mg mb h) : mg (Str.ofString "_netrclex") = some (.ref 115) := B.mg rfl rfl
theorem lawMachine (B : BB w mg mb h) (hC : CodeHd h 149 145) {text : Str} (htl : text.length ≤ sizeLine) :
    CallL prog w 3 h (.ref 150) [.d (.str text)] [(145, tabObj #[])] (fun a lg' => ∃ A imm, a = .v (.ref A.m) ∧ Mach prog w h 115 A imm text lg' text.cps.toList 1 [] ∧ ∃ ps, (145, tabObj ps) ∈ imm) := by
  refine CallL.def_ (B.at rfl) rfl B.nolimit ⟨_, _, _, _, rfl, B.at rfl, rfl, rfl⟩ rfl rfl (names := [Str.ofString "text"]) rfl nodup1 rfl rfl (notOwn_d notOwn_nil) (bind1 fun v => rfl) ?_
  rintro X ⟨_, h₀, _, Z⟩ C
  have c := Cx.called B C
  obtain ⟨⟨L, rfl⟩, hX, rfl, av⟩ := C
  refine Ex.cons (Ex1.assignM rfl (EvM.newList1 fun l t nl => ?_))
  have l4 : l ≠ 145 := fun e => nl ⟨_, List.mem_cons_self .., e.symm⟩
  refine Ex.cons (c.defStmt (P := 145) (cc := 149) rfl rfl (List.mem_append_right _ (List.mem_cons_self ..)) (fun X h' F => hC.keeps (c.x F).1) trivial rfl (freeAll rfl) rfl rfl rfl rfl ?_)
  rintro f1 fo1 c1 P1 oc1 nf1 nc1 nP1 M1
  refine Ex.abs (fun lg => (l, lstObj #[.int 0 t] 0) ∈ lg ∧ (f1, fo1) ∈ lg ∧ (c1, oc1) ∈ lg ∧ (145, tabObj (#[] ++ #[rawInt 150, rawInt 4, .ref c1])) ∈ lg ∧ f1 ≠ 145 ∧ c1 ≠ 145)
    ⟨List.mem_append_right _ (putLg_keep (List.mem_append_left _ (List.mem_cons_self ..)) l4), List.mem_append_left _ (List.mem_cons_self ..), List.mem_append_left _ (List.mem_cons_of_mem _ (List.mem_cons_self ..)), List.mem_append_right _ (putLg_new (List.mem_append_right _ (List.mem_cons_self ..))), (ne_of_not (p := (145, tabObj #[])) (List.mem_append_right _ (List.mem_cons_self ..)) nf1).symm, (ne_of_not (p := (145, tabObj #[])) (List.mem_append_right _ (List.mem_cons_self ..)) nc1).symm⟩ ?_
  rintro lgA ⟨hl, hf1, hc1, h14, f14, c14⟩
  refine Ex.cons (Ex1.assignM rfl (c.lambda (P := 145) (cc := 149) rfl h14 (fun X h' F => hC.keeps (c.x F).1) trivial rfl (freeAll rfl) rfl rfl ?_))
  rintro f2 fo2 c2 P2 oc2 nf2 nc2 nP2 M2
  obtain ⟨pm2, ct2, rfl⟩ := M2.f
  refine Ex.cons (Ex1.fnSet (st := f2) (v := .ref f1) (Ev.name rfl) (Ev.name rfl) (List.mem_append_left _ (List.mem_cons_self ..)) fnt_read ?_)
  rintro sd od nsd hod
  refine Ex.abs (fun lg => (l, lstObj #[.int 0 t] 0) ∈ lg ∧ (f1, fo1) ∈ lg ∧ (c1, oc1) ∈ lg ∧ (∃ fd sl, (f2, fnObj fd sl (some sd)) ∈ lg) ∧ (sd, od) ∈ lg ∧ ∃ ps, (145, tabObj ps) ∈ lg) 
    ⟨List.mem_append_right _ (putLg_keep (List.mem_append_right _ (putLg_keep hl l4)) (ne_of_not hl nf2)), List.mem_append_right _ (putLg_keep (List.mem_append_right _ (putLg_keep hf1 f14)) (ne_of_not hf1 nf2)), List.mem_append_right _ (putLg_keep (List.mem_append_right _ (putLg_keep hc1 c14)) (ne_of_not hc1 nf2)), ⟨_, _, List.mem_append_right _ (putLg_new (List.mem_append_left _ (List.mem_cons_self ..)))⟩, List.mem_append_left _ (List.mem_cons_self ..), _, List.mem_append_right _ (putLg_keep (List.mem_append_right _ (putLg_new h14)) (fun e => ne_of_not h14 nf2 e))⟩ ?_
  clear hl hf1 hc1 h14 nf2 nc2 nP2 M2 nsd
  rintro lgB ⟨hl, hf1, hc1, ⟨fd2, sl2, hf2⟩, hsd, pst, htb⟩
  refine Ex.cons (Ex1.retCells (x := Str.ofString "place") (y := Str.ofString "text") rfl rfl rfl rfl rfl rfl (EvM.call (h := h) (f := .ref 115) (fun X h' F lg X' h'' F' => c.x F') (c.glob (g_lex B)) (EvMS.pure (EvS.cons (Ev.name (a := .v (.ref f2)) rfl) EvS.nil) (notOwn_v notOwn_nil) ⟨fun X h' F => KeepF.cls k_keep (c.kin F), CallL.cls_ (fI := 91) B.inn k_makes k_init t_init (notOwn_v notOwn_nil) fun x dx nx1 nx2 nx3 => (initM B (x := x) (dx := dx) (st := f2) (List.mem_append_left _ (List.mem_cons_self ..)) (List.mem_append_left _ (List.mem_cons_of_mem _ (List.mem_cons_self ..))) nx1).mono (Nat.le_refl _) ?_⟩)))
  rintro a lg' ⟨rfl, ⟨T, kd, pb, md, mpb, npb⟩, keep⟩
  refine ⟨rfl, _, rfl, ?_⟩
  rintro p1 o1 v1 p2 o2 v2 hp1 hp2 ho1 rfl ho2 ⟨t2, rfl⟩ fun_
  have kB : ∀ p ∈ lgB, p ∈ [(p1, o1), (p2, o2)] ++ lg' := fun p hp => List.mem_append_right _ (keep _ (List.mem_append_right _ hp) (ne_of_not hp nx3))
  have hm := List.mem_append_right [(p1, o1), (p2, o2)] (keep _ (List.mem_append_left _ (List.mem_cons_self ..)) nx1)
  have md := List.mem_append_right [(p1, o1), (p2, o2)] md
  have mpb := List.mem_append_right [(p1, o1), (p2, o2)] mpb
  have m1 : (p1, o1) ∈ [(p1, o1), (p2, o2)] ++ lg' := List.mem_append_left _ (List.mem_cons_self ..)
  have m2 : (p2, o2) ∈ [(p1, o1), (p2, o2)] ++ lg' := List.mem_append_left _ (List.mem_cons_of_mem _ (List.mem_cons_self ..))
  have hl := kB _ hl
  have hf1 := kB _ hf1
  have hc1 := kB _ hc1
  have hf2 := kB _ hf2
  have hsd := kB _ hsd
  have htb := kB _ htb
  clear npb keep kB
  generalize [(p1, o1), (p2, o2)] ++ lg' = lg at *
  obtain ⟨pm1, ct1, hfo⟩ := M1.f
  obtain ⟨vs1, tq, hq1, hq2⟩ := M1.q
  clear M1 nc1 nP1 nl nf1 f14 c14 nx2 nx3
  have df : ∀ {p q : Addr × Obj}, p ∈ lg → q ∈ lg → p.2 ≠ q.2 → p.1 ≠ q.1 := fun hp hq n e => n (fun_ _ hp _ hq e)
  have ne3 : ∀ {p : Addr × Obj}, p ∈ lg → (∀ o, (o = dictOf (esM T 1 f2 pb) kd ∨ o = lstObj #[] 0 ∨ o = lstObj #[.int 0 t] 0) → p.2 ≠ o) → p.1 ≠ dx ∧ p.1 ≠ pb ∧ p.1 ≠ l := fun hp h1 => ⟨df hp md (h1 _ (.inl rfl)), df hp mpb (h1 _ (.inr (.inl rfl))), df hp hl (h1 _ (.inr (.inr rfl)))⟩
  have n1 : p1 ≠ dx ∧ p1 ≠ pb ∧ p1 ≠ l := ne3 m1 fun o z e => by
    have e : o1 = o := e
    subst e
    rcases z with rfl | rfl | rfl <;> cases ho1
  have n2 : p2 ≠ dx ∧ p2 ≠ pb ∧ p2 ≠ l := ne3 m2 fun o z e => by
    have e : o2 = o := e
    subst e
    rcases z with rfl | rfl | rfl <;> cases ho2
  have n3 : c1 ≠ dx ∧ c1 ≠ pb ∧ c1 ≠ l := ne3 hc1 fun o z e => by
    have e : oc1 = o := e
    subst e
    rcases z with rfl | rfl | rfl <;> cases hq1
  have n4 : sd ≠ dx ∧ sd ≠ pb ∧ sd ≠ l := ne3 hsd fun o z e => by
    have e : od = o := e
    subst e
    rcases z with rfl | rfl | rfl
    · exact no_read hod (by rw [if_pos rfl]; rfl) rfl rfl
    · obtain ⟨_, _, e, _⟩ := hod; cases e
    · obtain ⟨_, _, e, _⟩ := hod; cases e
  have n5 := ne3 hm fun o z e => by rcases z with rfl | rfl | rfl <;> cases e
  have n6 := ne3 hf1 fun o z e => by
    have e : fo1 = o := e
    rw [hfo] at e
    rcases z with rfl | rfl | rfl <;> exact absurd (congrArg Obj.cls e) (by simp)
  have n7 := ne3 hf2 fun o z e => by rcases z with rfl | rfl | rfl <;> exact absurd (congrArg Obj.cls e) (by simp)
  have n8 := ne3 htb fun o z e => by rcases z with rfl | rfl | rfl <;> exact absurd (congrArg Obj.cls e) (by simp)
  refine ⟨⟨x, dx, pb, l, f1, f2, sd⟩, [(x, instObj 115 dx), (f2, fnObj fd2 sl2 (some sd)), (sd, od), (f1, fo1), (c1, oc1), (p1, o1), (p2, o2), (145, tabObj pst)], rfl, ?_, pst, List.mem_cons_of_mem _ (List.mem_cons_of_mem _ (List.mem_cons_of_mem _ (List.mem_cons_of_mem _ (List.mem_cons_of_mem _ (List.mem_cons_of_mem _ (List.mem_cons_of_mem _ (List.mem_cons_self ..)))))))⟩
  have hrd : ∃ oc od fd sl, fo1 = (⟨oc, od, .func fd, sl⟩ : Obj) := ⟨_, _, _, _, hfo⟩
  have c1' : ∀ {α : Type} {a b : α} {l : List α}, a ∈ l → a ∈ b :: l := List.mem_cons_of_mem _
  refine ⟨?_, List.mem_cons_self .., ⟨fd2, sl2, c1' (List.mem_cons_self ..)⟩, ⟨od, c1' (c1' (List.mem_cons_self ..)), hod⟩, (let ⟨a1, a2, a3, a4, e⟩ := hrd; ⟨a1, a2, a3, a4, by rw [← e]; exact c1' (c1' (c1' (List.mem_cons_self ..)))⟩), ?_, htl, ⟨T, kd, md⟩, ⟨[], 0, mpb, .nil⟩, ⟨0, _, t, 0, rfl, hl, rfl, rfl⟩, ?_, ⟨df md mpb (fun e => absurd (congrArg Obj.cls e) (by simp)), df md hl (fun e => absurd (congrArg Obj.cls e) (by simp)), df mpb hl (fun e => by cases e)⟩⟩
  · intro p hp
    simp only [List.mem_cons, List.not_mem_nil, or_false] at hp
    rcases hp with rfl | rfl | rfl | rfl | rfl | rfl | rfl | rfl <;> assumption
  · intro lg2 oP at_ t' k' hsub hpl pc pd
    have q1 : (f1, fo1) ∈ lg2 := hsub _ (c1' (c1' (c1' (List.mem_cons_self ..))))
    have q2 : (c1, oc1) ∈ lg2 := hsub _ (c1' (c1' (c1' (c1' (List.mem_cons_self ..)))))
    have q3 : (p1, o1) ∈ lg2 := hsub _ (c1' (c1' (c1' (c1' (c1' (List.mem_cons_self ..))))))
    have q4 : (p2, o2) ∈ lg2 := hsub _ (c1' (c1' (c1' (c1' (c1' (c1' (List.mem_cons_self ..)))))))
    have hd1 : fo1.data = _ := congrArg Obj.data hfo
    refine CallL.clo_ (n := 0) q1 hd1 B.nolimit (fun hh he => ⟨c1, oc1, vs1, tq, rfl, he _ q2, hq1, hq2⟩) rfl (names := [Str.ofString "size"]) rfl nodup1 rfl (noCell rfl) (notOwn_d notOwn_nil) (bind1 fun v => rfl) ?_
    rintro X2 ⟨_, h2, _, Z2⟩ C2
    have c2 := Cx.clos B C2
    obtain ⟨⟨L2, rfl⟩, hX2, rfl, av2⟩ := C2
    refine Ex.cons (Ex1.assign rfl (Ev.ofInt (Ev.lsub (Ev.free (v := .ref l) rfl rfl hp1 q3 ho1) hpl pc pd Ev.int (by decide) (by decide) rfl)) (fun _ z => by cases z) ?_)
    refine Ex.cons (Ex1.lset (Ev.bin (Ev.name (a := .d (.int at_)) rfl) (Ev.name (a := .d (.int 1)) rfl) fun _ => Bin.add) (Ev.free (v := .ref l) rfl rfl hp1 q3 ho1) Ev.int hpl pc pd (by decide) (by decide) (by simp) ?_)
    rintro o' t'' pc' ⟨m', pd'⟩
    have q4' : (p2, o2) ∈ putLg lg2 l o' := putLg_keep q4 n2.2.2
    refine Ex.cons (Ex1.ret (Ev.sliceS (l := some (at_ : Int)) (u := some ((at_ : Int) + 1)) (Ev.ofStr (Ev.free (v := .str text t2) rfl rfl hp2 q4' ho2)) (EvP.some (Ev.name rfl)) (EvP.some (Ev.bin (Ev.name (a := .d (.int at_)) rfl) (Ev.name (a := .d (.int 1)) rfl) fun _ => Bin.add)) htl) ⟨?_, o', t'', m', rfl, pc', pd'⟩)
    rw [slice_one]
    cases text.cps.toList.drop at_ <;> rfl
  · intro p hp
    simp only [List.mem_cons, List.not_mem_nil, or_false] at hp
    rcases hp with rfl | rfl | rfl | rfl | rfl | rfl | rfl | rfl <;> assumption
end
end Mine
end

section
open PySem PySem.W PyProof.Rows PySem.Calls
set_option Elab.async false
set_option linter.unusedVariables false
set_option maxRecDepth 100000
namespace Mine
theorem law_base {K : Frag} {mg mb : Str → Option Value} {h₁ : Heap} {tabs : List (Addr × Addr)} {p : Program} {loose : List Str} {mean : ExcName → Option Value} (X : K.In h₁) (T : Top p loose mean mg mb h₁) (hT : TabsAt tabs h₁) (hk : noTabs K = true) : Base K mg mb (ghostOf h₁ tabs) where
  inn := ghost_K hT X hk
  g := ghost_ns hT T.g
  b := ghost_ns hT T.b
  bb := T.builtins
  nolimit := let ⟨mc, a, r⟩ := T.nolimit; ⟨mc, ghost_ns hT a, r⟩
  bm := let ⟨bm, ob, a1, a2, a3, a4, r⟩ := T.bmain; ⟨bm, ob, a1, a2, ghost_get hT a3 (fun q => by rw [q] at a4; cases a4), a4, r⟩
theorem rdAll_ints {X : Addr → Prop} {h : Heap} : ∀ {vs : List Value} {ns : List Int}, IntsAre vs ns → RdAll X h vs (ns.map .int)
  | _, _, .nil => .nil
  | _, _, .cons n t r => .cons (.int _ _) (rdAll_ints r)
end Mine
end

section
open PySem PySem.W PyProof.Rows PySem.Calls
set_option Elab.async false
set_option linter.unusedVariables false
set_option maxRecDepth 100000
namespace Mine
theorem codeAny_call_cellsB {prog : Program} {w : World} {A : Around} {s : Shared} {R : Result → Shared → Prop} {a : Addr} {o : Obj} {fd : FuncData} {body : List Stmt} {vals : List Value} {binds : List (Str × Value)}
    (hroom : A.depth < recursionLimit) (ho : s.heap.get? a = some o) (hdata : o.data = .func fd) (hlim : s.heap.NoLimit) (hcd : s.heap.CodeRec fd.code fd.qualname)
    (hbody : fd.body = .stmts body) (hbind : BindsTo s fd ⟨vals, []⟩ binds) (hclo : fd.closure = [])
    (hkind : ∀ x ∈ binds, fd.scope.names.lookup x.1 = some .local ∨ (fd.scope.names.lookup x.1 = some .cell ∧ ((cellsFrom (s.heap.objs.size + 1) fd.scope.names []).lookup x.1).isSome = true))
    (h : ∀ s₁, InCallC s (callEnvC fd s.heap.objs.size a).locals (bindL (callEnvC fd s.heap.objs.size a).kindOf binds fun _ => none) (callEnvC fd s.heap.objs.size a).cells
        (bindC (callEnvC fd s.heap.objs.size a).kindOf binds fun _ => none) s₁ →
      wpAny (model prog w) (A.deeper (callEnvC fd s.heap.objs.size a)) (execs body (callEnvC fd s.heap.objs.size a)) (fun f s' => R (.ok (.ret (match f with | .ret v => v | _ => .none))) s')
        (fun e s' => wpAny (model prog w) (A.deeper (callEnvC fd s.heap.objs.size a)) (leaving (callEnvC fd s.heap.objs.size a) e) (fun _ s'' => R (.error e) s'') (fun e' s'' => R (.error e') s'') s') s₁)
    (hco : fd.scope.isCoroutine = false := by rfl) (hgen : fd.scope.isGenerator = false := by rfl) (hk : fd.scope.kind = .function := by rfl) :
    codeAny (model prog w) A (.call (.ref a) ⟨vals, []⟩) R s := by
  refine codeAny_call_function hroom ho hdata hco hgen hbody hcd ?_
  rw [hclo]
  refine hbind _ _ _ _ (wpAny_newFunctionEnv_cells hk hkind fun env he s' x => ?_)
  subst he
  exact ⟨hlim.keeps x.toInCall.keep, codeAny_func (h s' x)⟩
theorem CallL.defB {prog : Program} {w : World} {n : Nat} {h : Heap} {a : Addr} {o : Obj} {fd : FuncData} {body : List Stmt} {names : List Str} {as : List AV} {lg : List (Addr × Obj)} {Ψ : AV → List (Addr × Obj) → Prop} (ho : h.get? a = some o) (hdata : o.data = .func fd)
    (hlim : h.NoLimit) (hcd : h.CodeRec fd.code fd.qualname) (hbody : fd.body = .stmts body) (hclo : fd.closure = []) (hlen : names.length = as.length) (hnd : names.Nodup) (hpo : paramsOk fd names = true)
    (hco : cellsOk fd = true) (na : ∀ x ∈ as, ∀ xs, x ≠ .own xs) (hbind : ∀ (s : Shared) (vs : List Value), Ext h s.heap → vs.length = as.length → BindsTo s fd ⟨vs, []⟩ (names.zip vs)) 
    (hex : ∀ X G, Called h X lg fd a G → Ex prog w n G ⟨names.zip as, lg⟩ body (RetP Ψ))
    (hcor : fd.scope.isCoroutine = false := by rfl) (hgen : fd.scope.isGenerator = false := by rfl) (hk : fd.scope.kind = .function := by rfl) : CallL prog w (n + 1) h (.ref a) as lg Ψ := fun A R s X x av xok hlg vs rs E => by
  have hvl : vs.length = as.length := rs.length
  refine (codeAny_call_cellsB (fd := fd) (body := body) (binds := names.zip vs) R.lt (x _ _ ho) hdata (hlim.keeps x) ?_ hbody (hbind s vs x hvl) hclo (fun y hy => ?_) (fun s₁ I => ?_) hcor hgen hk)
  · obtain ⟨c, oc, fs, t, h1, h2, h3, h4⟩ := hcd
    exact ⟨c, oc, fs, t, h1, x _ _ h2, h3, h4⟩
  · have hm : y.1 ∈ names := (List.of_mem_zip hy).1
    have := List.all_eq_true.mp hpo _ hm
    simp only [Bool.and_eq_true, Bool.or_eq_true, beq_iff_eq] at this
    rcases this.1 with q | q
    · exact .inl q
    · exact .inr ⟨q.1, by rw [cellsFrom_lookup fd.scope.names _ 0 [] [] rfl]; exact q.2⟩
  · obtain ⟨⟨⟨h₁, tk₁, rfl⟩, hns, hkeep, hfresh⟩, hcell, hap, hab⟩ := I
    have kindE : ∀ y, (callEnvC fd s.heap.objs.size a).kindOf y = fd.scope.names.lookup y := fun y => rfl
    refine wpAny_mono (callL_start (G := ⟨callEnvC fd s.heap.objs.size a, hideAll s.heap (lg.map (·.1)), X, InLg lg⟩) (m := _) (cm := _) rfl (R.deeper _) xok hlg rs hlen na hk ⟨h₁, tk₁, rfl⟩ hkeep hns (get_size_none _) (fun y c q1 q2 => ⟨hcell y c q2, ?_⟩)
      (fun y z c q1 q2 q3 q4 => name_of_addr hap (mem_of_lookup q3) (mem_of_lookup q4)) (fun y q => ?_) (fun y v v1 => ?_) (hex X _ ⟨⟨_, rfl⟩, fun b o e => hideAll_get _ (x b o e) fun z => ?_, rfl, av⟩)) (fun fl s₂ z => ?_) fun _ _ z => z
    · have := hab y c (mem_of_lookup q2)
      exact Heap.get?_none_of_le (Nat.le_of_lt this)
    · have q : fd.scope.names.lookup y = some .cell := q
      obtain ⟨k, hkk⟩ : ∃ k, (y, k) ∈ fd.scope.names := ⟨_, mem_of_lookup q⟩
      have := List.all_eq_true.mp hco _ hkk
      simp only [Bool.or_eq_true, bne_iff_ne, ne_eq] at this
      rcases this with z | z
      · exact absurd q z
      · show ((cellsFrom (s.heap.objs.size + 1) fd.scope.names []).lookup y).isSome = true
        rw [cellsFrom_lookup fd.scope.names _ 0 [] [] rfl]; exact z
    · have hm : y ∈ names := (List.of_mem_zip (mem_of_lookup v1)).1
      have hp := List.all_eq_true.mp hpo _ hm
      simp only [Bool.and_eq_true, Bool.or_eq_true, beq_iff_eq, Bool.not_eq_true'] at hp
      refine ⟨?_, hp.2⟩
      unfold Ga.rd
      rw [kindE]
      rcases hp.1 with z | z
      · rw [z]; exact bindL_at _ z names vs _ hnd v1
      · rw [z.1]; exact bindC_at _ z.1 names vs _ hnd v1
    · obtain ⟨q, h1, h2⟩ := List.mem_map.mp z
      rw [← h2, av _ (hlg q h1).2] at e; cases e
    · obtain ⟨v, rfl, z⟩ := z; exact z
theorem binds3 {K : Frag} {h : Heap} {fd : FuncData} {x y z : Str} (X : K.In h) (k : ∀ v u t S, peek K S (bindArgs fd ⟨[v, u, t], []⟩) = some [(x, v), (y, u), (z, t)]) : ∀ (s : Shared) (vs : List Value), Ext h s.heap → vs.length = 3 → BindsTo s fd ⟨vs, []⟩ ([x, y, z].zip vs) := fun s vs e hl => by
  obtain ⟨v, u, t, rfl⟩ := len_three hl
  exact kp_binds (X.keeps e) (k v u t)
section
variable {prog : Program} {w : World} {n : Nat} {G : Ga} {ρ : Loc} {K : Frag} {mg mb : Str → Option Value} {h : Heap}
theorem EvT.isObj (c : Cx K mg mb h G) {l r : Expr} {pos : Pos} {xs : List PyData} {a : Addr} {o : Obj} (p : Ev prog w n G ρ l (.d (.list xs))) (q : Ev prog w n G ρ r (.v (.ref a))) (ho : h.get? a = some o) (hc : o.cls ≠ .type "list") (hm : behindInMarks .Is r = false := by rfl) : EvT prog w n G ρ (.Compare l [.Is] [r] pos) false := fun X h' F A R s x E => by
  refine wpAny_isTrue_Compare1 ((p X h' F).go R x fun va s₁ k₁ x₁ r₁ => (q X h' F).go R x₁ fun vb s₂ k₂ x₂ r₂ => ?_) hm
  cases r₂
  have r₁ := r₁.ext (Kp.ext k₂)
  obtain ⟨l', rfl, vs, ⟨ol, h1, h2, m, h3⟩, h6⟩ := r₁.lst rfl
  have ga := x₂ _ _ ((c.x F).1 _ _ ho)
  have ne : l' ≠ a := fun e => by subst e; rw [h1] at ga; cases ga; exact hc h2
  exact wpAny_is_ref_other ne h1 ga (by rw [h2]; simp) (wpAny_truthy_bool ⟨k₁.trans k₂, rfl⟩)
theorem iter_args1 (a : Value) : argsOk "iter" ⟨[a], []⟩ := by unfold argsOk; kernel_rfl
theorem CallL.iter1 {it : Addr} {o : Obj} {lg : List (Addr × Obj)} {Ψ : AV → List (Addr × Obj) → Prop} (hi : (it, o) ∈ lg) (hc : o.cls = .type "callable_iterator") (k : Ψ (.v (.ref it)) lg) : CallL prog w n h (.builtin "iter") [.v (.ref it)] lg Ψ := fun A R s X x av xok hlg vs rs E => by
  cases rs with
  | cons r rs =>
    cases rs
    cases r
    refine code_function_entry (Q := fun v s' => ∃ a lg', Ψ a lg' ∧ CallPost s X lg a lg' v s') (by decide +kernel) (by decide +kernel) iter_entry (iter_args1 _) ?_
    unfold Builtin.«iter»
    refine wpAny_bind (m := someArgs "iter" 1 2 _) (wpAny_of_eq (a := [Value.ref it]) (by first | rfl | kernel_rfl!) ?_)
    refine wpAny_bind (ci_self (hlg _ hi).1 hc ?_)
    exact wpAny_pure ⟨_, rfl, _, _, k, CallPost.grow (h' := s.heap) (tk := s.toks) (new := []) hlg (Ext.refl _) (fun p hp => nomatch hp) (fun _ => rfl) (fun _ z => by cases z)⟩
end
end Mine
end

section
open PySem PySem.W PyProof.Rows PySem.Calls
set_option Elab.async false
set_option linter.unusedVariables false
set_option maxRecDepth 100000
namespace Mine
structure LiO (o : Obj) (l : Addr) (i : Nat) : Prop where
  cls : o.cls = .type "list_iterator"
  data : o.data = .fields #[.ref l, .int i 0]
theorem li_end {prog : Program} {w : World} {A : Around} {E : Value → Shared → Prop} {s : Shared} {it l : Addr} {oi : Obj} {i : Nat} {items : Array Value} {Q : Option Value → Shared → Prop} (hh : A.handled = none) (hi : s.heap.get? it = some oi) (L : LiO oi l i) (hl : s.heap.IsList l items) (hx : items[i]? = none)
    (hQ : ∀ h' o', (∀ b o, b ≠ it → s.heap.get? b = some o → h'.get? b = some o) → h'.get? it = some o' → Q none { s with heap := h' }) : wpAny (model prog w) A (pyNext (.ref it)) Q E s := by
  have hd := L.data
  obtain ⟨ol, g1, _, m, g2⟩ := hl
  have ty : s.TypeIs (.ref it) "list_iterator" := ⟨oi, hi, L.cls⟩
  refine wpAny_bind (wpAny_attempt (wpAny_callSpecial?_slot (name := Str.ofString "__next__") ty slot_listiter_next (wpAny_call_entry slot_listiter_next ty entry_listiter_next ?_ (args_listiter_next _))))
  refine wpAny_bind (m := field (.ref it) 0) (wpAny_field hi hd (x := .ref l) rfl ?_)
  refine wpAny_bind (m := field (.ref it) 1) (wpAny_field hi hd (x := .int i 0) rfl ?_)
  refine wpAny_bind (m := seqItems? (.ref l)) (wpAny_seqItems g1 g2 ?_)
  simp only [Int.toNat_natCast, hx]
  refine wpAny_bind (wpAny_rule (wpAny_bind (wpAny_setField hi hd (by simp) ?_)))
  refine wpAny_bind (m := newExc (.type "StopIteration") []) ?_
  simp only [newExc, newTuple]
  refine wpAny_bind (wpAny_newObj_type ?_ (by size_fits))
  refine wpAny_bind (m := firstArgMember _ _) (wpAny_of_eq (a := Value.none) (by first | rfl | (simp only [firstArgMember]; rfl)) ?_)
  refine wpAny_newObj_type ?_ (by size_fits)
  simp only [raiseNew]
  refine wpAny_bind (wpAny_handled ?_)
  rw [show A.in1.handled = none from hh]
  refine wpAny_bind (wpAny_pure (wpAny_throw ?_))
  refine wpAny_bind (wpAny_isInstance (T := "StopIteration") (b := true) ⟨_, Heap.get?_push_size _ rfl, rfl⟩ isSubtype_stop ?_)
  refine wpAny_pure (hQ _ (Obj.mapFields (fun x => x.setIfInBounds 0 .none) oi) (fun b o nb e => (((Heap.SameBut.update ..).extBut.push _).push _) b o nb e) ?_)
  exact Heap.get?_push_of_some _ (Heap.get?_push_of_some _ (Heap.get?_update_self _ hi (Obj.isFreed_of_fields (Obj.data_mapFields hd _))))
section
variable {prog : Program} {w : World} {n : Nat} {G : Ga} {ρ : Loc} {K : Frag} {mg mb : Str → Option Value} {h : Heap}
theorem RdAll.abs {X : Addr → Prop} {h' : Heap} (e : Ext h h') (av : Av X h) : ∀ {vs : List Value} {ds : List PyData}, RdAll (fun _ => False) h vs ds → RdAll X h' vs ds := fun r =>
  r.mv ⟨fun b o q _ _ _ _ => e b o q, fun b o q z => by have := av b z; rw [q] at this; cases this⟩
theorem Ex1.forL {iter : Expr} {x : Str} {p₁ pos : Pos} {it l : Addr} {ol : Obj} {vs : Array Value} {nn : Nat} {ds : List PyData} {body orelse : List Stmt} {Φ : Out → Prop} (c : Cx K mg mb h G) (hl : h.get? l = some ol) (hc : ol.cls = .type "list") (hd : ol.data = .seq vs nn) (hr : RdAll (fun _ => False) h vs.toList ds)
    (J : Nat → Loc → Prop) (hx : G.sto x = true) (p : Ev prog w n G ρ iter (.v (.ref it))) (h0 : J 0 ρ) (hJ : ∀ i ρ₁, J i ρ₁ → ∃ o, (it, o) ∈ ρ₁.lg ∧ LiO o l i)
    (turn : ∀ i d ρ₁ o', ds[i]? = some d → J i ρ₁ → LiO o' l (i + 1) → Ex prog w n G ((ρ₁.led (putLg ρ₁.lg it o')).set x (.d d)) body (NxP (J (i + 1))))
    (fin : ∀ ρ₁ o', J ds.length ρ₁ → Ex prog w n G (ρ₁.led (putLg ρ₁.lg it o')) orelse Φ) (hs : ∀ x, foldedSetIterable iter G.env x = pure x := by intro _; rfl) : Ex1 prog w n G ρ (.For (.Name x p₁) iter body orelse pos) Φ := fun A R s X F E => by
  refine wpAny_For ((p X _ F).go R (Ext.refl _) fun u s₀ k₀' x₀ r₀ => ?_) hs
  cases r₀
  have F₀ := F.mono x₀
  obtain ⟨oi, hoi, L₀⟩ := hJ 0 ρ h0
  refine wpAny_pyIter_listiter (l := l) (i := 0) ⟨oi, (F₀.led _ hoi).1, L₀.cls, L₀.data⟩ ?_
  have hlen : vs.size = ds.length := by rw [← hr.length]; simp
  refine codeAny_forLoop_any (fun k s' => ∃ i ρ₁ X₁, k = ds.length + 1 - i ∧ i ≤ ds.length ∧ J i ρ₁ ∧ (∃ h' tk, s' = { s with heap := h', toks := tk }) ∧ Kept G X s.heap s'.heap ∧ FRx G ρ₁ X₁ s'.heap ∧ XNew X X₁ s.heap) (fun k s₁ inv => ?_) _ ⟨0, ρ, X, rfl, Nat.zero_le _, h0, Kp.same k₀', Kept.ext x₀, F₀, XNew.refl⟩
  obtain ⟨i, ρ₁, X₁, rfl, hi, hJi, sm, kp, F₁, xn⟩ := inv
  obtain ⟨oi, hoi, Li⟩ := hJ i ρ₁ hJi
  have gi := (F₁.led _ hoi).1
  have hli : s₁.heap.IsList l vs := ⟨ol, (c.x F₁).1 _ _ hl, hc, nn, hd⟩
  have stay : ∀ {h' : Heap} {o' : Obj}, (∀ b o, b ≠ it → s₁.heap.get? b = some o → h'.get? b = some o) → h'.get? it = some o' → GoE G ρ₁ X₁ s₁ (.v .none) (putLg ρ₁.lg it o') .none { s₁ with heap := h' } := fun hk he =>
    GoE.put (tk := s₁.toks) F₁ ⟨_, hoi, rfl⟩ (fun mm hm => hm.at' fun o e => hk _ o (fun z => F₁.xo it (F₁.led _ hoi).2.1 (.inl z.symm)) e) (fun b ob' _ nb q => hk b ob' nb q) he (fun _ _ _ => rfl) (fun _ z => by cases z)
  rcases Nat.lt_or_ge i ds.length with hlt | hge
  · obtain ⟨d, hdi⟩ : ∃ d, ds[i]? = some d := ⟨ds[i], by simp [hlt]⟩
    obtain ⟨v, hv, rv⟩ := hr.get hdi
    refine wpAny_pyNext_list_item (l := l) (i := i) ⟨oi, gi, Li.cls, Li.data⟩ hli (by simpa using hv) fun h' hit' hsb => ?_
    obtain ⟨o', he, hc', hd'⟩ := hit'
    have g := stay (h' := h') (fun b o nb e => (hsb.2 b nb).trans e) he
    obtain ⟨sm₂, kp₂, ⟨X₂, F₂, xn₂, _⟩, _⟩ := GoE.after (ρ := ρ₁) sm kp F₁ xn g
    refine lot_ok he hc' hd' (by decide) (wpAny_assign_Name ?_)
    have rd : Rd X₂ h' v d := (RdAll.abs (c.x F₂).1 (c.x F₂).2 hr).get hdi |>.elim fun v' z => by
      rw [hv] at z; obtain ⟨z1, z2⟩ := z; cases z1; exact z2
    refine storeName_fr (a := .d d) F₂ (Ga.sto_or hx).1 (Ga.sto_or hx).2 rd (fun _ z => by cases z) fun h₃ tk₃ k₃ F₃ => ?_
    refine wpAny_mono (turn i d ρ₁ o' hdi hJi ⟨hc', hd'⟩ A R _ X₂ F₃ _) (fun fl s₄ z => ?_) fun _ _ z => z
    obtain ⟨o, po, z⟩ := z
    have z := OutR.trans (X := X) (s := s) (same_trans sm₂ ⟨h₃, tk₃, rfl⟩) (kp₂.trans k₃.k xn₂) xn₂ z
    cases o with
    | next ρ' =>
      obtain ⟨rfl, ⟨sm', kp', X', F', xn'⟩⟩ := z
      exact ⟨ds.length + 1 - (i + 1), by omega, i + 1, ρ', X', rfl, hlt, po, sm', kp', F', xn'⟩
    | cont ρ' => exact po.elim
    | brk ρ' => exact po.elim
    | ret d lg => exact po.elim
  · have hin : i = ds.length := Nat.le_antisymm hi hge
    subst hin
    refine li_end R.handled gi Li hli (by rw [← hlen]; simp) fun h' o' hk he => ?_
    obtain ⟨sm₂, kp₂, ⟨X₂, F₂, xn₂, _⟩, _⟩ := GoE.after (ρ := ρ₁) sm kp F₁ xn (stay hk he)
    refine wpAny_mono (fin ρ₁ o' hJi A R _ X₂ F₂ _) (fun fl s₄ z => ?_) fun _ _ z => z
    obtain ⟨o, po, z⟩ := z
    exact ⟨o, po, OutR.trans sm₂ kp₂ xn₂ z⟩
theorem CallL.iterL {l : Addr} {ol : Obj} {vs : Array Value} {nn : Nat} {lg : List (Addr × Obj)} {Ψ : AV → List (Addr × Obj) → Prop} (hl : h.get? l = some ol) (hc : ol.cls = .type "list") (hd : ol.data = .seq vs nn) (k : ∀ it o, ¬ InLg lg it → LiO o l 0 → Ψ (.v (.ref it)) ([(it, o)] ++ lg)) : CallL prog w n h (.builtin "iter") [.v (.ref l)] lg Ψ := fun A R s X x av xok hlg vs' rs E => by
  cases rs with
  | cons r rs =>
    cases rs
    cases r
    refine code_function_entry (Q := fun v s' => ∃ a lg', Ψ a lg' ∧ CallPost s X lg a lg' v s') (by decide +kernel) (by decide +kernel) iter_entry (iter_args1 _) ?_
    unfold Builtin.«iter»
    refine wpAny_bind (m := someArgs "iter" 1 2 _) (wpAny_of_eq (a := [Value.ref l]) (by first | rfl | kernel_rfl!) ?_)
    refine wpAny_bind (wpAny_pyIter_list ⟨ol, x _ _ hl, hc, nn, hd⟩ ?_)
    refine wpAny_pure ⟨_, rfl, _, _, k s.heap.objs.size { cls := .type "list_iterator", data := .fields #[.ref l, .int 0 0] } (fun ⟨p, hp, e⟩ => by have := (hlg p hp).1; rw [e, get_size_none] at this; cases this) ⟨rfl, rfl⟩, CallPost.grow (h' := s.heap.push _) (tk := s.toks) hlg (Ext.push _ _) (fun p hp => ?_) (fun _ => rfl) (fun _ z => by cases z)⟩
    cases List.mem_singleton.mp hp
    exact ⟨Heap.get?_push_size _ rfl, get_size_none _⟩
noncomputable def outOf (s : Heap) (X : Addr → Prop) : Heap := hideAll s ((List.range s.objs.size).filter fun p => @decide (X p) (Classical.propDecidable _))
theorem outOf_av {s : Heap} {X : Addr → Prop} (xok : XOk X s) : Av X (outOf s X) := fun p hp => hideAll_none _ (List.mem_filter.mpr ⟨List.mem_range.mpr (by
  obtain ⟨o, ho⟩ := Option.isSome_iff_exists.mp (xok p hp)
  exact Heap.lt_size ho), @decide_eq_true _ (Classical.propDecidable _) hp⟩)
theorem outOf_get {s : Heap} {X : Addr → Prop} {p : Addr} {o : Obj} (e : s.get? p = some o) (hn : ¬ X p) : (outOf s X).get? p = some o := hideAll_get _ e fun z => hn (@of_decide_eq_true _ (Classical.propDecidable _) (List.mem_filter.mp z).2)
theorem CallL.list2 {f : Value} {a c : AV} {ds : List PyData} {lg : List (Addr × Obj)} {Ψ : AV → List (Addr × Obj) → Prop}
    (k : ∀ h₂ l ol vs nn, Ext h h₂ → h₂.get? l = some ol → ol.cls = .type "list" → ol.data = .seq vs nn → RdAll (fun _ => False) h₂ vs.toList ds → CallL prog w n h₂ f [a, .v (.ref l), c] lg Ψ) : CallL prog w n h f [a, .d (.list ds), c] lg Ψ := fun A R s X x av xok hlg vs' rs E => by
  cases rs with
  | cons r1 rs =>
    cases rs with
    | cons r2 rs =>
      cases r2 with
      | list h1 h2 h3 h4 h5 h6 =>
        rename_i a' o vs m
        exact k (outOf s.heap X) a' o vs m (fun b ob e => outOf_get (x b ob e) fun z => by rw [av b z] at e; cases e) (outOf_get h1 h5) h2 h3
          (h6.mv ⟨fun b ob e _ _ _ z => outOf_get e z, fun _ _ _ z => z.elim⟩) A R s X (fun b ob e => of_hideAll _ e) (outOf_av xok) xok hlg _ (.cons r1 (.cons rfl rs)) E
end
end Mine
end

section
open PySem PySem.W PyProof.Rows PySem.Calls
set_option Elab.async false
set_option linter.unusedVariables false
set_option maxRecDepth 100000
namespace Mine
section
variable {prog : Program} {w : World} {n : Nat} {G : Ga} {ρ : Loc} {K : Frag} {mg mb : Str → Option Value} {h : Heap}
theorem strs_rd {X : Addr → Prop} {h : Heap} : ∀ {vs : List Value} {ys : List Str}, StrsAre vs ys → RdAll X h vs (ys.map .str)
  | _, _, .nil => .nil
  | _, _, .cons x t r => .cons (.str _ _) (strs_rd r)
end
end Mine
end

section
open PySem PySem.W PyProof.Rows PySem.Calls
set_option Elab.async false
set_option linter.unusedVariables false
set_option maxRecDepth 100000
namespace Mine
section
variable {prog : Program} {w : World} {n : Nat} {G : Ga} {ρ : Loc} {K : Frag} {mg mb : Str → Option Value} {h : Heap}
theorem GoE.then_ {X : Addr → Prop} {s s₁ s₂ : Shared} {a b : AV} {lg : List (Addr × Obj)} {v u : Value} (g : GoE G ρ X s a lg v s₁) (k : Kp s₁ s₂) (vr : ∀ X', VR X' s₁.heap v a → VR X' s₂.heap u b) (no : ∀ xs, b ≠ .own xs) : GoE G ρ X s b lg u s₂ :=
  ⟨same_trans g.same (Kp.same k), g.kept.trans (Kept.ext (Kp.ext k)) XNew.refl, let ⟨X', F, xn, r⟩ := g.fr; ⟨X', F.mono (Kp.ext k), xn, vr X' r⟩, no⟩
theorem EvM.cmpL {l r : Expr} {op : CmpOp} {pos : Pos} {Ψ : AV → List (Addr × Obj) → Prop} (p : EvM prog w n G ρ l (fun a lg => ∃ b c, Ev prog w n G (ρ.led lg) r b ∧ (∀ X, Cmp prog w n X op a b c) ∧ Ψ (.d (.bool c)) lg)) (hm : behindInMarks op r = false := by rfl) :
    EvM prog w n G ρ (.Compare l [op] [r] pos) Ψ := fun A R s X F E => by
  refine wpAny_Compare1 (wpAny_mono (p A R s X F E) (fun va s₁ z => ?_) fun _ _ z => z) hm
  obtain ⟨a, lg, ⟨b, c, pr, o, hΨ⟩, g⟩ := z
  obtain ⟨X₁, F₁, xn, vr⟩ := g.fr
  refine (pr X₁ _ F₁).go R (Ext.refl _) fun vb s₂ k₂ x₂ r₂ => wpAny_mono (o X₁ A R s₂ va vb (vr.ext (Kp.ext k₂)) r₂ E) (fun v s' z => ?_) fun _ _ z => z
  exact ⟨_, lg, hΨ, g.then_ (k₂.trans z.1) (fun _ _ => z.2 ▸ .bool c) fun _ z => by cases z⟩
theorem EvM.and2 {e₁ e₂ : Expr} {pos : Pos} {Ψ : AV → List (Addr × Obj) → Prop} (p : EvM prog w n G ρ e₁ (fun a lg => ∃ b, a = .d (.bool b) ∧ (b = false → Ψ (.d (.bool false)) lg) ∧ (b = true → EvM prog w n G (ρ.led lg) e₂ Ψ))) :
    EvM prog w n G ρ (.BoolOp .And [e₁, e₂] pos) Ψ := fun A R s X F E => by
  refine BoolOp_and (wpAny_mono (p A R s X F E) (fun v s₁ z => ?_) fun _ _ z => z)
  obtain ⟨a, lg, ⟨b, rfl, hf, ht⟩, g⟩ := z
  obtain ⟨X₁, F₁, xn, vr⟩ := g.fr
  have hv : v = .bool b := by cases vr; rfl
  subst hv
  refine wpAny_truthy_bool ?_
  cases b with
  | false => exact ⟨_, lg, hf rfl, g⟩
  | true =>
    refine BoolOp_one (wpAny_mono (ht rfl A R s₁ X₁ F₁ E) (fun v s₂ z => ?_) fun _ _ z => z)
    obtain ⟨a, lg', hΨ, g'⟩ := z
    exact ⟨a, lg', hΨ, GoE.after (ρ := ρ) g.same g.kept F₁ xn g'⟩
end
end Mine
end

section
open PySem PySem.W PyProof.Rows PySem.Calls
set_option Elab.async false
set_option linter.unusedVariables false
set_option maxRecDepth 100000
namespace Mine
section
variable {prog : Program} {w : World} {n : Nat} {G : Ga} {ρ : Loc} {K : Frag} {mg mb : Str → Option Value} {h : Heap}
theorem Cx.lambdaHit (c : Cx K mg mb h G) {params : Arguments} {body : Expr} {scope : Scope} {pos : Pos} {cc P c' : Addr} {ps : Array Value} {Ψ : AV → List (Addr × Obj) → Prop} (hcode : G.env.code = .ref cc) (hP : (P, tabObj ps) ∈ ρ.lg) (hC : ∀ X h', FRx G ρ X h' → CodeHd h' cc P) (ht : TriplesOk ps.toList) (hf : codeAmong pos ps.toList = some (.ref c'))
    (hfree : ∀ x ∈ scope.names, x.2 = .free → (G.env.cells.lookup x.1).isSome = true) (hd0 : params.defaults = []) (hk0 : params.kw_defaults = [])
    (q : ∀ f fo, ¬ InLg ρ.lg f → (∃ pm ctv, fo = ({ cls := .type "function", data := .func (fdMk "<lambda>" (G.env.qual ++ "<lambda>") params (.expr body) scope (clOf scope G.env) pm (.ref c') ctv) } : Obj)) → Ψ (.v (.ref f)) ([(f, fo)] ++ ρ.lg)) :
    EvM prog w n G ρ (.Lambda params body scope pos) Ψ := fun A R s X F E => by
  rw [arm_eval_Lambda, defaultsOf_eq, hd0, hk0]
  refine wpAny_bind (wpAny_pure (wpAny_bind (wpAny_holding (wpAny_pure ?_))))
  obtain ⟨hb, hgP, hg⟩ := c.builtinsAt F hP
  refine kla_makeFunctionHit (mg := mg) (closureFor_clOf hfree) c.gl hg hcode (hC X _ F) (F.led _ hP).1 ht hf hb fun ctv h' tk hk hsz => ?_
  have f0 : s.heap.get? h'.objs.size = none := Heap.get?_none_of_le hsz
  refine ⟨_, _, q h'.objs.size _ (fun ⟨p, hp, e⟩ => by have := (F.led p hp).1; rw [e, f0] at this; cases this) ⟨(mg "__name__").getD .none, ctv, rfl⟩, GoE.grow (s := s) (h' := h'.push _) (tk := tk) F (fun b o e => Heap.get?_push_of_some _ (hk b o e)) (fun p hp => ?_) (fun _ => rfl) (fun _ z => by cases z)⟩
  cases List.mem_singleton.mp hp
  exact ⟨Heap.get?_push_size _ rfl, f0⟩
theorem call_fr {names : List Str} {as : List AV} {lg : List (Addr × Obj)} {s : Shared} {X : Addr → Prop} {vs : List Value} {h₁ : Heap} {genv : Env} {m : Str → Option Value}
    (xok : XOk X s.heap) (hlg : ∀ p ∈ lg, s.heap.get? p.1 = some p.2 ∧ X p.1) (rs : VRs X s.heap vs as) (hlen : names.length = as.length) (na : ∀ x ∈ as, ∀ xs, x ≠ .own xs)
    (hk : genv.scope.kind = .function) (keep : Ext s.heap h₁) (ns : h₁.Ns genv.locals m) (fr : s.heap.get? genv.locals = none) (noC : ∀ x, genv.kindOf x ≠ some .cell)
    (rd : ∀ x v, (names.zip vs).lookup x = some v → m x = some v ∧ genv.kindOf x = some .local ∧ (x == ("__debug__" : Str)) = false) : FRx ⟨genv, hideAll s.heap (lg.map (·.1)), X, InLg lg⟩ ⟨names.zip as, lg⟩ X h₁ := by
  have nhid : ∀ {b : Addr} {o : Obj}, s.heap.get? b = some o → ¬ InLg lg b → (hideAll s.heap (lg.map (·.1))).get? b = some o := fun e z => hideAll_get _ e fun q => z (let ⟨r, h1, h2⟩ := List.mem_map.mp q; ⟨r, h1, h2⟩)
  have none0 : ∀ {b : Addr}, s.heap.get? b = none → (hideAll s.heap (lg.map (·.1))).get? b = none := fun {b} e => by
    cases q : (hideAll s.heap (lg.map (·.1))).get? b with
    | none => rfl
    | some o => rw [of_hideAll _ q] at e; cases e
  refine ⟨m, fun _ => none, ⟨hk, fun b o e => keep b o (of_hideAll _ e), ns, fun x c q1 => absurd q1 (noC x), fun x y c q1 => absurd q1 (noC x), fun x q1 => absurd q1 (noC x), none0 fr, xok.ext keep, fun p z => .inl z, fun p z => z, fun p z => ?_, fun p z => ?_, fun p ⟨q, h1, e⟩ => e ▸ (hlg q h1).2⟩, fun y b q => ?_, fun y z ys zs v q1 => ?_, fun y ys p q1 => ?_, fun p hp => ⟨keep _ _ (hlg p hp).1, (hlg p hp).2, hideAll_none _ (List.mem_map_of_mem hp)⟩⟩
  · by_cases zz : InLg lg p
    · exact .inr zz
    · obtain ⟨o, q⟩ := Option.isSome_iff_exists.mp (xok p z)
      exact .inl (by rw [nhid q zz]; rfl)
  · have z' := xok p z
    rintro (rfl | ⟨y, z1, _⟩)
    · rw [show s.heap.get? genv.locals = none from fr] at z'; cases z'
    · exact noC y z1
  · obtain ⟨v, v1, v2⟩ := zip_lookup rs hlen q
    obtain ⟨r1, r2, r3⟩ := rd y v v1
    refine ⟨v, ?_, v2.ext keep, r3⟩
    unfold Ga.rd
    rw [r2]; exact r1
  · exact absurd rfl (na _ (List.of_mem_zip (mem_of_lookup q1)).2 ys)
  · exact absurd rfl (na _ (List.of_mem_zip (mem_of_lookup q1)).2 ys)
theorem CallL.lam_ {a : Addr} {o : Obj} {fd : FuncData} {body : Expr} {names : List Str} {as : List AV} {lg : List (Addr × Obj)} {d : PyData} (ho : (a, o) ∈ lg) (hdata : o.data = .func fd)
    (hlim : h.NoLimit) (hcd : ∀ hh : Heap, (∀ p ∈ lg, hh.get? p.1 = some p.2) → hh.CodeRec fd.code fd.qualname) (hbody : fd.body = .expr body) (hlen : names.length = as.length) (hnd : names.Nodup) (hpo : (names.all fun x => fd.scope.names.lookup x == some .local && !(x == ("__debug__" : Str))) = true)
    (hco : ∀ x ∈ fd.scope.names, x.2 ≠ .cell) (na : ∀ x ∈ as, ∀ xs, x ≠ .own xs) (hbind : ∀ vs : List Value, vs.length = as.length → bindArgs fd ⟨vs, []⟩ = pure (names.zip vs))
    (hex : ∀ X G, CalledC h X lg fd a G → Ev prog w n G ⟨names.zip as, lg⟩ body (.d d))
    (hcor : fd.scope.isCoroutine = false := by rfl) (hgen : fd.scope.isGenerator = false := by rfl) (hk : fd.scope.kind = .function := by rfl) : CallL prog w (n + 1) h (.ref a) as lg (fun a lg' => a = .d d ∧ lg' = lg) := fun A R s X x av xok hlg vs rs E => by
  have hvl : vs.length = as.length := rs.length
  have locs : ∀ x ∈ names, fd.scope.names.lookup x = some .local ∧ (x == ("__debug__" : Str)) = false := fun x hx => by
    have := List.all_eq_true.mp hpo _ hx
    simpa using this
  refine kla_callFunE R.lt (hlg _ ho).1 hdata hcor hgen hbody (hcd _ fun p hp => (hlg p hp).1) ?_
  rw [hbind vs hvl]
  refine wpAny_pure (wpAny_newFunctionEnv hco (fun y hy => (locs _ (List.of_mem_zip hy).1).1) (fun h₁ hns hsb => ?_) hk)
  have keep : Ext s.heap h₁ := fun b o e => hsb.extBut b o (Nat.ne_of_lt (Heap.lt_size e)) (Heap.get?_push_of_some _ e)
  refine ⟨(hlim.keeps x).keeps keep, kla_codeExpr ?_⟩
  have noC : ∀ y, fd.scope.names.lookup y ≠ some .cell := fun y z => hco _ (mem_of_lookup z) rfl
  have F : FRx ⟨closEnv fd s.heap.objs.size a, hideAll s.heap (lg.map (·.1)), X, InLg lg⟩ ⟨names.zip as, lg⟩ X h₁ := call_fr xok hlg rs hlen na hk keep hns (get_size_none _) (fun y => noC y) fun y v v1 => by
    obtain ⟨l1, l2⟩ := locs y (List.of_mem_zip (mem_of_lookup v1)).1
    exact ⟨zip_rev_lookup hnd v1, l1, l2⟩
  refine ((hex X _ ⟨⟨_, rfl⟩, fun b o e => hideAll_get _ (x b o e) fun z => ?_, rfl, av⟩) X _ F).go (R.deeper _) (s := { s with heap := h₁, toks := _ }) (Ext.refl _) fun v s₂ k x₂ r => ?_
  · obtain ⟨q, h1, h2⟩ := List.mem_map.mp z
    rw [← h2, av _ (hlg q h1).2] at e; cases e
  · obtain ⟨h₂, tk₂, rfl, e₂⟩ := k
    have ke : Ext s.heap h₂ := keep.trans e₂
    exact ⟨_, lg, ⟨rfl, rfl⟩, ⟨h₂, tk₂, rfl⟩, fun b o e _ => ke b o e, fun p hp => ⟨ke _ _ (hlg p hp).1, .inl ⟨p, hp, rfl⟩⟩, Rd.mv (Mv.sub fun b (z : X b ∨ InLg lg b) => z.elim id fun ⟨q, hq, e⟩ => e ▸ (hlg q hq).2) r, (fun _ z => by cases z), fun p ⟨q, hq, e⟩ => by rw [← e, ke _ _ (hlg q hq).1]; rfl⟩
end
end Mine
end

section
open PySem PySem.W PyProof.Rows PySem.Calls
set_option Elab.async false
set_option linter.unusedVariables false
set_option maxRecDepth 100000
namespace Mine
mutual
def noTup (k : Nat) : PyData → Bool
  | .list xs => noTups k xs
  | .tuple xs => xs.length != k && noTups k xs
  | _ => true
def noTups (k : Nat) : List PyData → Bool
  | [] => true
  | d :: ds => noTup k d && noTups k ds
end
mutual
theorem Rd.more {X : Addr → Prop} {h : Heap} {t : Addr} {o : Obj} {ts : Array Value} {m : Nat} (ht : h.get? t = some o) (hc : o.cls = .type "tuple") (hd : o.data = .seq ts m) : ∀ {v : Value} {d : PyData}, Rd X h v d → noTup ts.size d = true → Rd (fun p => X p ∨ p = t) h v d
  | _, _, .none, _ => .none
  | _, _, .bool b, _ => .bool b
  | _, _, .int i u, _ => .int i u
  | _, _, .str x u, _ => .str x u
  | _, _, .list a b c e n r, z => .list a b c e (fun q => q.elim n fun q => by
      rw [q, ht] at a
      have e := Option.some.inj a
      rw [← e, hc] at b
      exact absurd b (by simp)) (r.more ht hc hd (by simpa [noTup] using z))
  | _, _, .tuple (vs := vs) a b c n r, z => by
    have z := z
    unfold noTup at z
    rw [Bool.and_eq_true] at z
    refine .tuple a b c (fun q => q.elim n fun q => ?_) (r.more ht hc hd z.2)
    rw [q, ht] at a
    have e1 := Option.some.inj a
    rw [← e1, hd] at c
    cases c
    have := r.length
    have e : ts.toList.length = ts.size := by simp
    rw [e] at this
    simp [this] at z
theorem RdAll.more {X : Addr → Prop} {h : Heap} {t : Addr} {o : Obj} {ts : Array Value} {m : Nat} (ht : h.get? t = some o) (hc : o.cls = .type "tuple") (hd : o.data = .seq ts m) : ∀ {vs : List Value} {ds : List PyData}, RdAll X h vs ds → noTups ts.size ds = true → RdAll (fun p => X p ∨ p = t) h vs ds
  | _, _, .nil, _ => .nil
  | _, _, .cons a b, z => by
    unfold noTups at z
    rw [Bool.and_eq_true] at z
    exact .cons (a.more ht hc hd z.1) (b.more ht hc hd z.2)
end
section
variable {prog : Program} {w : World} {n : Nat} {G : Ga} {ρ : Loc} {K : Frag} {mg mb : Str → Option Value} {h : Heap}
def offLg (lg : List (Addr × Obj)) (t : Addr) : List (Addr × Obj) := lg.filter fun q => q.1 != t
theorem offLg_mem {lg : List (Addr × Obj)} {t : Addr} {p : Addr × Obj} : p ∈ offLg lg t ↔ p ∈ lg ∧ p.1 ≠ t := by unfold offLg; simp
theorem CallL.freeze {f : Value} {as : List AV} {lg : List (Addr × Obj)} {Ψ : AV → List (Addr × Obj) → Prop} {t : Addr} {o : Obj} {ts : Array Value} {m : Nat} (ht : (t, o) ∈ lg) (hc : o.cls = .type "tuple") (hd : o.data = .seq ts m) (na : ∀ x ∈ as, ∀ xs, x ≠ .own xs)
    (k : ∀ h₂, Ext h h₂ → h₂.get? t = some o → CallL prog w n h₂ f as (offLg lg t) (fun a lg' => ∃ d, a = .d d ∧ noTup ts.size d = true ∧ Ψ (.d d) ((t, o) :: lg'))) : CallL prog w n h f as lg Ψ := fun A R s X x av xok hlg vs rs E => by
  let X₂ : Addr → Prop := fun p => X p ∧ p ≠ t
  have gt := (hlg _ ht).1
  have xok₂ : XOk X₂ s.heap := fun p z => xok p z.1
  have nt : ¬ InLg (offLg lg t) t := fun ⟨q, hq, e⟩ => (offLg_mem.mp hq).2 e
  refine codeAny_mono (k (outOf s.heap X₂) (fun b ob e => outOf_get (x b ob e) fun z => by rw [av b z.1] at e; cases e) (outOf_get gt fun z => z.2 rfl) A R s X₂ (fun b ob e => of_hideAll _ e) (outOf_av xok₂) xok₂ (fun p hp => ⟨(hlg p (offLg_mem.mp hp).1).1, (hlg p (offLg_mem.mp hp).1).2, (offLg_mem.mp hp).2⟩) vs (vrs_mv (Mv.sub fun b z => z.1) na rs) E) fun r s' z => ?_
  cases r with
  | error e => exact z
  | ok fl => cases fl with
    | ret v =>
      obtain ⟨a, lg', ⟨d, rfl, hn, hΨ⟩, C⟩ := z
      have g' : s'.heap.get? t = some o := C.kept t o gt nt
      refine ⟨_, _, hΨ, ⟨C.same, fun b ob e nl => C.kept b ob e fun ⟨q, hq, e'⟩ => nl ⟨q, (offLg_mem.mp hq).1, e'⟩, fun p hp => ?_, ?_, (fun _ z => by cases z), fun p ⟨q, hq, e⟩ => ?_⟩⟩
      · rcases List.mem_cons.mp hp with rfl | hp
        · exact ⟨g', .inl ⟨_, ht, rfl⟩⟩
        · exact ⟨(C.led p hp).1, (C.led p hp).2.imp (fun ⟨q, hq, e⟩ => ⟨q, (offLg_mem.mp hq).1, e⟩) id⟩
      · have := Rd.more g' hc hd C.vr hn
        refine Rd.mv (Mv.sub fun b z => ?_) this
        by_cases e : b = t
        · exact .inr e
        · rcases z with z | ⟨q, hq, e'⟩
          · exact .inl (.inl ⟨z, e⟩)
          · rcases List.mem_cons.mp hq with rfl | hq
            · exact absurd e'.symm e
            · exact .inl (.inr ⟨q, hq, e'⟩)
      · by_cases z : q.1 = t
        · rw [← e, z, g']; rfl
        · exact C.ok p ⟨q, offLg_mem.mpr ⟨hq, z⟩, e⟩
    | _ => exact z
theorem Cx.baseTup (c : Cx K mg mb h G) {e : Expr} {t : Addr} {o : Obj} {ts : Array Value} {m : Nat} {ys : List Str} (p : Ev prog w n G ρ e (.v (.ref t))) (ht : h.get? t = some o) (hc : o.cls = .type "tuple") (hd : o.data = .seq ts m) (hs : StrsAre ts.toList ys) : Ev prog w n G ρ e (.d (.tuple (ys.map .str))) := fun X h' F A R s x E => by
  refine (p X h' F).go R x fun v s₁ k₁ x₁ r₁ => ?_
  cases r₁
  refine ⟨k₁, ?_⟩
  exact .tuple (x₁ _ _ ((c.x F).1 _ _ ht)) hc hd (fun z => by have := (c.x F).2 t z; rw [ht] at this; cases this) (strs_rd hs)
theorem EvM.tupS {es : List Expr} {ys : List Str} {k : Nat} {pos : Pos} {Ψ : AV → List (Addr × Obj) → Prop} (p : EvS prog w n G ρ es ((ys.map PyData.str).map .d)) (hz : ys.length ≤ sizeLine)
    (q : ∀ t ts, ¬ InLg ρ.lg t → StrsAre ts ys → Ψ (.v (.ref t)) ([(t, ({ cls := .type "tuple", data := .seq ts.toArray } : Obj))] ++ ρ.lg)) : EvM prog w n G ρ (.Tuple es k pos) Ψ := fun A R s X F E => by
  refine Tuple_ (wpAny_mono (p X _ F pos A R s (Ext.refl _) E) (fun vs s₁ z => ?_) fun _ _ z => z)
  have r := RdAll.strs z.2.rd
  have hl := StrsAre.len r
  have F₁ := F.mono (Kp.ext z.1)
  refine wpAny_newObj_type ?_ (by show vs.toArray.size ≤ sizeLine; rw [List.size_toArray, hl]; exact hz)
  refine ⟨_, _, q s₁.heap.objs.size vs (fun ⟨p, hp, e⟩ => by have := (F₁.led p hp).1; rw [e, get_size_none] at this; cases this) r, GoE.after0 z.1 (GoE.grow (s := s₁) (h' := s₁.heap.push _) (tk := s₁.toks) F₁ (Ext.push _ _) (fun p hp => ?_) (fun _ => rfl) (fun _ z => by cases z))⟩
  cases List.mem_singleton.mp hp
  exact ⟨Heap.get?_push_size _ rfl, get_size_none _⟩
end
end Mine
end

section
open PySem PySem.W PyProof.Rows PySem.Calls
set_option Elab.async false
set_option linter.unusedVariables false
set_option maxRecDepth 100000
namespace Mine
section
variable {prog : Program} {w : World} {n : Nat} {G : Ga} {ρ : Loc} {K : Frag} {mg mb : Str → Option Value} {h : Heap}
end
theorem law_doneT {prog : Program} {w : World} {n l : Nat} {f : Value} {s₁ : Shared} {ns : List Int} {vs : List Value} {cw : ClaimW} {cl : Str → Option Addr} {mean : ExcName → Option Value} {args : List WData} {tabs : List (Addr × Addr)} (hT : TabsAt tabs s₁.heap) (R : Rm n callerA) (hL : s₁.heap.IsList l vs.toArray) (hI : IntsAre vs ns) (hg : s₁.gens = #[])
    (hr : ∀ x, cw.raises args x = false) (hp : cw.post args (.bool true) args = true)
    (k : CallL prog w n (ghostOf s₁.heap tabs) f [.arr (ns.map .int)] (tabNews tabs) (fun a lg' => a = .d (.bool true) ∧ ∀ q ∈ tabs, ∃ ps, (q.2, tabObj ps) ∈ lg')) :
    codeAny (model prog w) callerA (.call f ⟨[.ref l], []⟩) (GoodWG cw cl mean args s₁) s₁ := by
  have lgT : ∀ p ∈ tabNews tabs, s₁.heap.get? p.1 = some p.2 ∧ p.1 ∈ tabs.map (·.2) := fun p hp => by
    obtain ⟨q, hq, rfl⟩ := List.mem_map.mp hp
    exact ⟨(hT q hq).2, List.mem_map_of_mem hq⟩
  have tabAt : ∀ b ∈ tabs.map (·.2), s₁.heap.get? b = some (tabObj #[]) ∧ ∃ q ∈ tabs, q.2 = b := fun b hb => by
    obtain ⟨q, hq, rfl⟩ := List.mem_map.mp hb
    exact ⟨(hT q hq).2, q, hq, rfl⟩
  refine codeAny_mono (k callerA R s₁ (fun p => p ∈ tabs.map (·.2)) (fun b o e => of_hideAll _ e) (fun p e => hideAll_none _ e) (fun p e => by rw [(tabAt p e).1]; rfl) lgT [.ref l] ?_ fun _ _ => False) fun r s' z => ?_
  · refine .cons ⟨l, vs.toArray, rfl, fun e => ?_, hL, rdAll_ints hI⟩ .nil
    obtain ⟨o, h1, h2, _⟩ := hL
    rw [(tabAt l e).1] at h1
    cases h1; cases h2
  · cases r with
    | error e => exact z.elim
    | ok fl => cases fl with
      | ret v =>
        obtain ⟨a, lg', ⟨rfl, hps⟩, C⟩ := z
        obtain ⟨h', tk, rfl⟩ := C.same
        have hv : v = .bool true := by cases C.vr; rfl
        subst hv
        have keep : ∀ b o, b ∉ tabs.map (·.2) → s₁.heap.get? b = some o → h'.get? b = some o := fun b o hb e => C.kept b o e fun ⟨q, hq, e2⟩ => hb (by
          obtain ⟨r, hr, rfl⟩ := List.mem_map.mp hq
          exact e2 ▸ List.mem_map_of_mem hr)
        refine ⟨.inl ⟨_, .bool true, [], rfl, hr, .bool true, hp, fun _ => ⟨List.nodup_nil, fun _ h => nomatch h⟩⟩, ⟨fun b o e => ?_, fun b o e => ?_⟩, rfl, .of_eq hg⟩
        · by_cases hb : b ∈ tabs.map (·.2)
          · obtain ⟨g, q, hq, rfl⟩ := tabAt b hb
            obtain ⟨ps, hps⟩ := hps q hq
            rw [g] at e
            cases e
            exact .inr (.inl ⟨((hT q hq).1.tab g).isCodeTable, rfl, #[], ps, rfl, by rw [Array.empty_append]; exact (C.led _ hps).1⟩)
          · exact .inl (keep b o hb e)
        · by_cases hb : b ∈ tabs.map (·.2)
          · obtain ⟨g, q, hq, rfl⟩ := tabAt b hb
            obtain ⟨ps, hps⟩ := hps q hq
            exact ⟨_, (C.led _ hps).1⟩
          · exact ⟨o, keep b o hb e⟩
      | _ => exact z.elim
end Mine
end

section
open PySem PySem.W PyProof.Rows PySem.Calls
set_option Elab.async false
set_option linter.unusedVariables false
set_option maxRecDepth 100000
namespace Mine
def tx (l : List Nat) : Str := ⟨l.toArray⟩
theorem tx_cat (a b : List Nat) : tx a ++ tx b = tx (a ++ b) := by
  show (⟨a.toArray ++ b.toArray⟩ : Str) = ⟨(a ++ b).toArray⟩
  simp
theorem tx_len (a : List Nat) : (tx a).length = a.length := by show a.toArray.size = _; simp
theorem tx_list (a : List Nat) : (tx a).cps.toList = a := rfl
theorem tx_inj {a b : List Nat} (h : tx a = tx b) : a = b := by have := congrArg (fun x : Str => x.cps.toList) h; exact this
def nums (l : List Nat) : List PyData := l.map fun i => .int (i : Nat)
def txts (l : List (List Nat)) : List PyData := l.map fun i => .str (tx i)
theorem canLay_nums (l : List Nat) : PyData.canLayAll0 (nums l) = true := by
  induction l with
  | nil => rfl
  | cons a r ih => show PyData.canLayAll0 (.int _ :: nums r) = true; rw [PyData.canLayAll0, ih]; rfl
theorem depth_nums (l : List Nat) : PyData.depthAll (nums l) = 0 := by
  induction l with
  | nil => rfl
  | cons a r ih => show PyData.depthAll (.int _ :: nums r) = 0; rw [PyData.depthAll, ih]; rfl
theorem shaped_nums (l : List Nat) : SeqAt.shaped (.list (nums l)) = true := by
  unfold SeqAt.shaped
  rw [PyData.canLay0, canLay_nums, PyData.depth, depth_nums]; rfl
theorem shaped_int (i : Int) : SeqAt.shaped (.int i) = true := by
  unfold SeqAt.shaped
  rw [PyData.canLay0, PyData.depth]; rfl
theorem countIn_nn (i : PyData) (l : List PyData) : 0 ≤ Spec.countIn i l := by
  induction l with
  | nil => exact Int.le_refl _
  | cons a r ih => unfold Spec.countIn; split <;> omega
theorem in_nums (i : Nat) (l : List Nat) : decide (Spec.countIn (.int (i : Nat)) (nums l) ≠ 0) = decide (i ∈ l) := by
  induction l with
  | nil => rfl
  | cons a r ih =>
    have h := countIn_nn (.int (i : Nat)) (nums r)
    have e : Spec.countIn (.int (i : Nat)) (nums (a :: r)) = (if Spec.same (.int (a : Nat)) (.int (i : Nat)) then 1 else 0) + Spec.countIn (.int (i : Nat)) (nums r) := by
      show Spec.countIn _ (.int (a : Nat) :: nums r) = _
      rw [Spec.countIn]
    have s : Spec.same (.int (a : Nat)) (.int (i : Nat)) = decide (a = i) := by
      rw [Spec.same]
      by_cases h : a = i
      · subst h; simp
      · rw [decide_eq_false h]; simp; omega
    rw [e, s]
    have ih : (Spec.countIn (.int (i : Nat)) (nums r) ≠ 0) ↔ i ∈ r := by simpa using decide_eq_decide.mp ih
    apply decide_eq_decide.mpr
    by_cases hq : a = i
    · subst hq; simp; omega
    · simp only [hq, decide_false, Bool.false_eq_true, if_false, Int.zero_add, List.mem_cons]
      rw [ih]
      constructor
      · exact .inr
      · rintro (z | z)
        · exact absurd z.symm hq
        · exact z
theorem noMix_nums (i : Int) (l : List Nat) : ∀ y ∈ nums l, SeqAt.noMix y (.int i) = true := fun y hy => by
  obtain ⟨k, _, rfl⟩ := List.mem_map.mp hy; rfl
theorem Cmp.inNums {prog : Program} {w : World} {n : Nat} {X : Addr → Prop} {a : AV} {i : Nat} {l : List Nat} (e : a.lst? = some (nums l)) : Cmp prog w n X .In (.d (.int (i : Nat))) a (decide (i ∈ l)) := by
  rw [← in_nums]; exact Cmp.inList e (shaped_nums l) (shaped_int _) (noMix_nums _ l)
def Plain (l : List Nat) : Prop := ∀ c ∈ l, c < 200
theorem strOk_tx {l : List Nat} (h : Plain l) : (PyData.str (tx l)).canLay0 = true := by
  rw [PyData.canLay0]
  show Array.all l.toArray (fun x => decide (x < 0x110000)) = true
  rw [List.all_toArray, List.all_eq_true]
  intro c hc
  have := h c hc
  exact decide_eq_true (by omega)
end Mine
end

section
open PySem PySem.W PyProof.Rows PySem.Calls
set_option Elab.async false
set_option linter.unusedVariables false
set_option maxRecDepth 100000
namespace Mine
theorem item_tx {l : List Nat} {k : Nat} (h : k < l.length) : Txt.item (tx l) (k : Int) = tx [l.getD k 0] := by
  unfold Txt.item Txt.charAt
  have e : seqIndex? (k : Int) (tx l).length = some k := by
    rw [tx_len]; unfold seqIndex?
    simp; omega
  rw [e]
  simp [tx, h]
section
variable {prog : Program} {w : World} {n : Nat} {G : Ga} {ρ : Loc} {X : Addr → Prop}
theorem Bin.fdivN {a b : Nat} (hb : 0 < b) (hs : b < 1073741824) : Bin prog w n X .FloorDiv (.d (.int (a : Nat))) (.d (.int (b : Nat))) (.d (.int ((a / b : Nat) : Int))) := by
  rw [Int.ofNat_fdiv]; exact Bin.fdiv (by omega) (PyProof.noPylong_small (by simpa using hs))
theorem Bin.fmodN {a b : Nat} (hb : 0 < b) : Bin prog w n X .Mod (.d (.int (a : Nat))) (.d (.int (b : Nat))) (.d (.int ((a % b : Nat) : Int))) := by
  rw [Int.ofNat_fmod]; exact Bin.fmod (by omega)
theorem Cmp.ieqN {a b : Nat} : Cmp prog w n X .Eq (.d (.int (a : Nat))) (.d (.int (b : Nat))) (decide (a = b)) := by
  have : decide (a = b) = ((a : Int) == (b : Int)) := by
    by_cases h : a = b
    · subst h; simp
    · rw [decide_eq_false h]; symm; simp; omega
  rw [this]; exact Cmp.ieq
theorem GetI.tx {l : List Nat} {k c : Nat} (h : l[k]? = some c) (hl : l.length < 100000) : GetI prog w n X (.d (.str (tx l))) (.d (.int (k : Nat))) (.d (.str (Mine.tx [c]))) := by
  have hk : k < l.length := by
    by_cases q : k < l.length
    · exact q
    · rw [List.getElem?_eq_none (by omega)] at h; cases h
  have e : c = l.getD k 0 := by simp [List.getD, h]
  rw [e, ← item_tx hk]
  exact GetI.str (Int.natCast_nonneg _) (by rw [tx_len]; omega) (by omega)
theorem Inp.tx {a b : List Nat} (hz : a.length + b.length ≤ 1000) : Inp prog w n X .Add (.d (.str (tx a))) (.d (.str (tx b))) (.d (.str (tx (a ++ b)))) := by
  rw [← tx_cat]; exact Inp.cat (by rw [tx_len, tx_len]; exact Nat.le_trans hz (by decide))
end
end Mine
end

section
open PySem PySem.W PyProof.Rows PySem.Calls
set_option Elab.async false
set_option linter.unusedVariables false
set_option maxRecDepth 100000
namespace Mine
theorem CompOk.of {G : Ga} {ρ : Loc} {scope : Scope} {target : Expr} (h6 : ∀ C, stoT ⟨compEnvC scope (clOf scope G.env) C G.env, {}, fun _ => False, fun _ => False⟩ target = true) (h1 : (scope.names.all fun x => x.2 != .free || G.env.kindOf x.1 == some .cell) = true := by rfl) (h2 : (scope.names.all fun x => x.2 != .cell) = true := by rfl) (h3 : scope.kind = .function := by rfl) (h4 : (scope.names.all fun x => x.2 != .local || scope.names.lookup x.1 == some .local) = true := by rfl)
    (h5 : (scope.names.all fun x => x.2 != .free || scope.names.lookup x.1 == some .free) = true := by rfl) (h7 : ((tnames target).all fun x => scope.names.lookup x == some .local) = true := by rfl) (h8 : ((tnames target).all fun y => ((capt G scope ρ).get y).isNone) = true := by rfl) : CompOk G ρ scope target where
  free := fun x hx e => by have := List.all_eq_true.mp h1 x hx; rw [e] at this; simpa using this
  cell := fun x hx => by have := List.all_eq_true.mp h2 x hx; simpa using this
  kind := h3
  names := fun x hx e => by have := List.all_eq_true.mp h4 x hx; rw [e] at this; simpa using this
  uni := fun x hx e => by have := List.all_eq_true.mp h5 x hx; rw [e] at this; simpa using this
  tgt := h6
  tloc := fun x hx => by have := List.all_eq_true.mp h7 x hx; simpa using this
  dis := fun x hx => by have := List.all_eq_true.mp h8 x hx; simpa using this
def fInt (k : Nat → Option PyData) : PyData → Option PyData
  | .int i => k i.toNat
  | _ => none
theorem fInt_nums (k : Nat → Option PyData) (l : List Nat) : (nums l).filterMap (fInt k) = l.filterMap k := by
  unfold nums
  rw [List.filterMap_map]
  rfl
theorem fInt_yes {q : Nat → Bool} {g : Nat → PyData} {i : Nat} (e : q i = true) : fInt (fun i => if q i = true then some (g i) else none) (.int (i : Nat)) = some (g i) := by
  show (if q i = true then some (g i) else none) = _
  rw [if_pos e]
theorem fInt_no {q : Nat → Bool} {g : Nat → PyData} {i : Nat} (e : q i = false) : fInt (fun i => if q i = true then some (g i) else none) (.int (i : Nat)) = none := by
  show (if q i = true then some (g i) else none) = _
  rw [if_neg (by rw [e]; simp)]
theorem nums_len (l : List Nat) : (nums l).length = l.length := by simp [nums]
theorem filterMap_if {α β : Type} (p : α → Bool) (g : α → β) (l : List α) : l.filterMap (fun a => if p a = true then some (g a) else none) = (l.filter p).map g := by
  induction l with
  | nil => rfl
  | cons a r ih =>
    rw [List.filterMap_cons, List.filter_cons]
    by_cases h : p a = true
    · simp [h, ih]
    · simp [h, ih]
end Mine
end

section
open PySem PySem.W PyProof.Rows PySem.Calls
set_option Elab.async false
set_option linter.unusedVariables false
set_option maxRecDepth 100000
namespace Mine
section
variable {prog : Program} {w : World} {mg mb : Str → Option Value} {h : Heap}
theorem g_missing (B : BB w mg mb h) : mg (Str.ofString "_initial_missing") = some (.ref 69) := B.mg rfl rfl
theorem g_iter' (B : BB w mg mb h) : mg (Str.ofString "iter") = none := B.mg rfl rfl
abbrev funObj (o : Obj) : Prop := ∃ oc od fd sl, o = (⟨oc, od, .func fd, sl⟩ : Obj)
def RedTurn (prog : Program) (w : World) (h : Heap) (n : Nat) (fa : Addr) (it : Addr) (I : Nat → PyData → List (Addr × Obj) → Prop) (Post : PyData → List (Addr × Obj) → Prop) (k : Nat) (v : PyData) (lg1 : List (Addr × Obj)) : Prop :=
  ∃ q f self y t of fd, (it, ciObj q y t) ∈ lg1 ∧ (q, methodObj (.ref f) self) ∈ lg1 ∧ h.get? f = some of ∧ of.data = .func fd ∧
    CallL prog w n h (.ref f) [.v self] lg1 (fun a lg2 => ∃ z, a = .d (.str z) ∧ (it, ciObj q y t) ∈ lg2 ∧ (q, methodObj (.ref f) self) ∈ lg2 ∧
      (y ≠ z → (∃ fo, (fa, fo) ∈ lg2 ∧ funObj fo) ∧ CallL prog w (n + 1) h (.ref fa) [.d v, .d (.str z)] lg2 (fun a lg3 => ∃ v', a = .d v' ∧ ∃ k', k' < k ∧ I k' v' lg3)) ∧ (y = z → Post v (putLg lg2 it ciEnd)))
theorem reduceI (B : BB w mg mb h) {n : Nat} {fa : Addr} {it : Addr} {xs : List PyData} {lg : List (Addr × Obj)} {I : Nat → PyData → List (Addr × Obj) → Prop} {Post : PyData → List (Addr × Obj) → Prop} {k₀ : Nat} (hit : ∃ o, (it, o) ∈ lg ∧ o.cls = .type "callable_iterator")
    (i0 : I k₀ (.list xs) lg) (turn : ∀ k v lg1, I k v lg1 → RedTurn prog w h n fa it I Post k v lg1) :
    CallL prog w (n + 2) h (.ref 77) [.v (.ref fa), .v (.ref it), .d (.list xs)] lg (fun a lg' => ∃ v, a = .d v ∧ Post v lg') := by
  refine CallL.defB (B.at rfl) rfl B.nolimit ⟨_, _, _, _, rfl, B.at rfl, rfl, rfl⟩ rfl rfl (names := [Str.ofString "function", Str.ofString "sequence", Str.ofString "initial"]) rfl (by decide +kernel) rfl rfl (notOwn_v (notOwn_v (notOwn_d notOwn_nil))) (binds3 B.inn fun v u t S => by rfl) ?_
  rintro X ⟨_, h₀, _, Z⟩ C
  have c := Cx.called B C
  obtain ⟨⟨L, rfl⟩, hx, rfl, av⟩ := C
  obtain ⟨oi, hoi, hci⟩ := hit
  refine Ex.then_ ⟨[(Str.ofString "function", .v (.ref fa)), (Str.ofString "initial", .d (.list xs)), (Str.ofString "it", .v (.ref it))], lg⟩ (Ex1.assignM rfl (EvM.call (h := h) (f := .builtin "iter") (fun X h' F lg X' h'' F' => c.x F') (c.blt (g_iter' B) boot_iter n_iter) (EvMS.pure (EvS.cons (Ev.name (a := .v (.ref it)) rfl) EvS.nil) (notOwn_v notOwn_nil) ⟨fun _ _ _ => KeepF.builtin, CallL.iter1 hoi hci (Sub.of ⟨rfl, rfl, rfl, trivial⟩)⟩))) ?_
  refine Ex.then_ ⟨[(Str.ofString "function", .v (.ref fa)), (Str.ofString "value", .d (.list xs)), (Str.ofString "it", .v (.ref it))], lg⟩ (Ex1.if_ (EvT.isObj c (Ev.name rfl) (c.glob (g_missing B)) (B.at rfl) (by simp)) (fun hb => by cases hb) fun _ => Ex.cons (Ex1.assign rfl (Ev.name (a := .d (.list xs)) rfl) (fun _ z => by cases z) (Ex.nil (Sub.of ⟨rfl, rfl, rfl, trivial⟩)))) ?_
  refine Ex.cons (Ex1.forI c (fun k ρ => ∃ d lg1, I k d lg1 ∧ Sub ⟨[(Str.ofString "function", .v (.ref fa)), (Str.ofString "value", .d d), (Str.ofString "it", .v (.ref it))], lg1⟩ ρ) (fun _ => False) k₀ rfl (Ev.name rfl) ⟨oi, hoi, hci⟩ ⟨_, _, i0, Sub.refl _⟩ ?_ (fun _ h => h.elim))
  rintro k ρ₁ ⟨d, lg1, hI, s⟩
  obtain ⟨q, f, self, y, t, of, fd, h1, h2, h3, h4, cl⟩ := turn k d lg1 hI
  refine CiTurn.sub s (.inr ⟨q, f, self, y, t, of, fd, h1, h2, h3, h4, cl.mono (Nat.le_refl _) ?_⟩)
  rintro a lg2 ⟨z, rfl, g1, g2, b1, b2⟩
  refine ⟨z, rfl, g1, g2, fun ne => ?_, fun e => ?_⟩
  · obtain ⟨⟨fo, hfo, oc, od, fdd, sl, rfl⟩, b1⟩ := b1 ne
    refine Ex.cons (Ex1.assignM rfl (EvM.call (h := h) (f := .ref fa) (fun X h' F lg X' h'' F' => c.x F') (Ev.name rfl) (EvMS.pure (EvS.cons (Ev.name (a := .d d) rfl) (EvS.cons (Ev.name (a := .d (.str z)) rfl) EvS.nil)) (notOwn_d (notOwn_d notOwn_nil)) ⟨fun X h' F h'' e => keeps_F h'' ⟨_, _, _, _, e _ _ (F.led _ hfo).1⟩, b1.mono (Nat.le_refl _) ?_⟩)))
    rintro a lg3 ⟨v', rfl, k', hk', hI'⟩
    exact Ex.nil ⟨k', hk', v', lg3, hI', Sub.of ⟨rfl, rfl, rfl, trivial⟩⟩
  · exact Ex.nil (Ex.cons (Ex1.ret (Ev.name (a := .d d) rfl) ⟨d, rfl, b2 e⟩))
theorem EvT.isObjI {n : Nat} {G : Ga} {ρ : Loc} {l r : Expr} {pos : Pos} {i : Int} {a : Addr} (p : Ev prog w n G ρ l (.d (.int i))) (q : Ev prog w n G ρ r (.v (.ref a))) (hm : behindInMarks .Is r = false := by rfl) : EvT prog w n G ρ (.Compare l [.Is] [r] pos) false := fun X h' F A R s x E => by
  refine wpAny_isTrue_Compare1 ((p X h' F).go R x fun va s₁ k₁ x₁ r₁ => (q X h' F).go R x₁ fun vb s₂ k₂ x₂ r₂ => ?_) hm
  cases r₂
  cases r₁
  exact wpAny_is_other rfl (fun e => by cases e) (wpAny_truthy_bool ⟨k₁.trans k₂, rfl⟩)
theorem reduceLam (B : BB w mg mb h) {n : Nat} {fa : Addr} {fo : Obj} {ds : List PyData} {lg : List (Addr × Obj)} (acc : Nat → Int) (hm : (fa, fo) ∈ lg) (hfo : funObj fo)
    (step : ∀ h₂, Ext h h₂ → ∀ i d lg', ds[i]? = some d → (∀ p ∈ lg, p ∈ lg') → CallL prog w (n + 1) h₂ (.ref fa) [.d (.int (acc i)), .d d] lg' (fun a lg'' => a = .d (.int (acc (i + 1))) ∧ lg'' = lg')) :
    CallL prog w (n + 2) h (.ref 77) [.v (.ref fa), .d (.list ds), .d (.int (acc 0))] lg (fun a lg' => a = .d (.int (acc ds.length)) ∧ ∀ p ∈ lg, p ∈ lg') := by
  refine CallL.list2 fun h₂ l ol vs nn e hl hc hd hr => ?_
  have B := B.ext e
  refine CallL.defB (B.at rfl) rfl B.nolimit ⟨_, _, _, _, rfl, B.at rfl, rfl, rfl⟩ rfl rfl (names := [Str.ofString "function", Str.ofString "sequence", Str.ofString "initial"]) rfl (by decide +kernel) rfl rfl (notOwn_v (notOwn_v (notOwn_d notOwn_nil))) (binds3 B.inn fun v u t S => by rfl) ?_
  rintro X ⟨_, h₀, _, Z⟩ C
  have c := Cx.called B C
  obtain ⟨⟨L, rfl⟩, hx, rfl, av⟩ := C
  refine Ex.cons (Ex1.assignM rfl (EvM.call (h := h₂) (f := .builtin "iter") (fun X h' F lg X' h'' F' => c.x F') (c.blt (g_iter' B) boot_iter n_iter) (EvMS.pure (EvS.cons (Ev.name (a := .v (.ref l)) rfl) EvS.nil) (notOwn_v notOwn_nil) ⟨fun _ _ _ => KeepF.builtin, CallL.iterL hl hc hd fun it o nit L0 => ?_⟩)))
  refine Ex.sub (ρ' := ⟨[(Str.ofString "function", .v (.ref fa)), (Str.ofString "initial", .d (.int (acc 0))), (Str.ofString "it", .v (.ref it))], [(it, o)] ++ lg⟩) (Sub.of ⟨rfl, rfl, rfl, trivial⟩) ?_
  refine Ex.then_ ⟨[(Str.ofString "function", .v (.ref fa)), (Str.ofString "value", .d (.int (acc 0))), (Str.ofString "it", .v (.ref it))], [(it, o)] ++ lg⟩ (Ex1.if_ (EvT.isObjI (Ev.name rfl) (c.glob (g_missing B))) (fun hb => by cases hb) fun _ => Ex.cons (Ex1.assign rfl (Ev.name (a := .d (.int (acc 0))) rfl) (fun _ z => by cases z) (Ex.nil (Sub.of ⟨rfl, rfl, rfl, trivial⟩)))) ?_
  have nit' : ∀ p ∈ lg, p.1 ≠ it := fun p hp e => nit ⟨p, hp, e⟩
  refine Ex.cons (Ex1.forL c hl hc hd hr (fun i ρ => ∃ lg1, (∀ p ∈ lg, p ∈ lg1) ∧ (∃ o, (it, o) ∈ lg1 ∧ LiO o l i) ∧ Sub ⟨[(Str.ofString "function", .v (.ref fa)), (Str.ofString "value", .d (.int (acc i))), (Str.ofString "it", .v (.ref it))], lg1⟩ ρ) rfl (Ev.name rfl) ⟨_, fun p hp => List.mem_append_right _ hp, ⟨o, List.mem_append_left _ (List.mem_singleton.mpr rfl), L0⟩, Sub.refl _⟩ ?_ ?_ ?_)
  · rintro i ρ₁ ⟨lg1, _, ⟨o, ho, Lo⟩, s⟩
    have e : lg1 = ρ₁.lg := s.2
    exact ⟨o, e ▸ ho, Lo⟩
  · rintro i d ρ₁ o' hdi ⟨lg1, hs, ⟨o, ho, Lo⟩, s⟩ L'
    have e1 : lg1 = ρ₁.lg := s.2
    rw [← e1]
    refine Ex.sub ((s.led (putLg lg1 it o')).set _ _) ?_
    have hf1 : (fa, fo) ∈ putLg lg1 it o' := putLg_keep (hs _ hm) (nit' _ hm)
    obtain ⟨oc, od, fdd, sl, rfl⟩ := hfo
    refine Ex.cons (Ex1.assignM rfl (EvM.call (h := h₂) (f := .ref fa) (fun X h' F lg X' h'' F' => c.x F') (Ev.name rfl) (EvMS.pure (EvS.cons (Ev.name (a := .d (.int (acc i))) rfl) (EvS.cons (Ev.name (a := .d d) rfl) EvS.nil)) (notOwn_d (notOwn_d notOwn_nil)) ⟨fun X h' F h'' e => keeps_F h'' ⟨_, _, _, _, e _ _ (F.led _ hf1).1⟩, (step h₂ e i d _ hdi fun p hp => putLg_keep (hs p hp) (nit' p hp)).mono (Nat.le_refl _) ?_⟩)))
    rintro a lg3 ⟨rfl, rfl⟩
    exact Ex.nil ⟨putLg lg1 it o', fun p hp => putLg_keep (hs p hp) (nit' p hp), ⟨o', putLg_new ho, L'⟩, Sub.of ⟨rfl, rfl, rfl, trivial⟩⟩
  · rintro ρ₁ o' ⟨lg1, hs, ⟨o, ho, Lo⟩, s⟩
    have e1 : lg1 = ρ₁.lg := s.2
    rw [← e1]
    refine Ex.nil (Ex.sub (s.led (putLg lg1 it o')) (Ex.cons (Ex1.ret (Ev.name (a := .d (.int (acc ds.length))) rfl) ⟨rfl, fun p hp => putLg_keep (hs p hp) (nit' p hp)⟩)))
end
end Mine
end

section
open PySem PySem.W PyProof.Rows PySem.Calls
set_option Elab.async false
set_option linter.unusedVariables false
set_option maxRecDepth 100000
namespace Mine
structure Row1 where
  code : Nat
  kind : Nat
  turned : List Nat
  manner : Nat
def row1D (r : Row1) : PyData := .tuple [.int (r.code : Nat), .int (r.kind : Nat), .list (nums r.turned), .int (r.manner : Nat)]
def rowC (m : Nat) : Nat := if m / 2048 % 3 = 2 ∧ m / 6144 % 12 = m / 73728 % 12 then 1 else m / 2048 % 3
def rowN (m : Nat) : Row1 := ⟨m % 128, m / 128 % 16, [m / 6144 % 12, m / 73728 % 12].take (rowC m), m / 884736⟩
def rowI (i : Int) : Row1 := rowN (i.fmod 3538944).toNat
def rows0 : List Row1 := [⟨72, 8, [], 1⟩, ⟨109, 4, [11], 2⟩, ⟨127, 15, [0, 9], 0⟩]
def rowsP (ns : List Int) (i : Nat) : List Row1 := rows0 ++ ((ns.take 7).take i).map rowI
def rowsOf (ns : List Int) : List Row1 := rows0 ++ (ns.take 7).map rowI
structure RowOk (r : Row1) : Prop where
  code : r.code < 128
  kind : r.kind < 16
  manner : r.manner < 4
  len : r.turned.length ≤ 2
  lt : ∀ p ∈ r.turned, p < 12
  nodup : r.turned.Nodup
theorem fmodN_lt (i : Int) {k : Nat} (hk : 0 < k) : (i.fmod k).toNat < k := by
  have h1 := Int.fmod_nonneg_of_pos i (show (0 : Int) < k by omega)
  have h2 := Int.fmod_lt_of_pos i (show (0 : Int) < k by omega)
  omega
theorem rowN_ok (m : Nat) (hm : m < 3538944) : RowOk (rowN m) := by
  have a1 : m / 6144 % 12 < 12 := Nat.mod_lt _ (by decide)
  have a2 : m / 73728 % 12 < 12 := Nat.mod_lt _ (by decide)
  have a3 : m / 2048 % 3 < 3 := Nat.mod_lt _ (by decide)
  refine ⟨Nat.mod_lt _ (by decide), Nat.mod_lt _ (by decide), show m / 884736 < 4 by omega, ?_, fun p hp => ?_, ?_⟩
  · show (List.take _ _).length ≤ 2
    rw [List.length_take]; exact Nat.min_le_right _ _
  · have := List.mem_of_mem_take hp
    simp only [List.mem_cons, List.not_mem_nil, or_false] at this
    rcases this with rfl | rfl <;> assumption
  · show (List.take (rowC m) [m / 6144 % 12, m / 73728 % 12]).Nodup
    unfold rowC
    split
    · exact by simp
    · rename_i h
      have : m / 2048 % 3 = 0 ∨ m / 2048 % 3 = 1 ∨ m / 2048 % 3 = 2 := by omega
      rcases this with e | e | e <;> rw [e]
      · exact List.nodup_nil
      · exact by simp
      · have : m / 6144 % 12 ≠ m / 73728 % 12 := fun z => h ⟨e, z⟩
        simp [this]
theorem rowsOf_ok (ns : List Int) : ∀ r ∈ rowsOf ns, RowOk r := fun r hr => by
  rcases List.mem_append.mp hr with hr | hr
  · unfold rows0 at hr
    simp only [List.mem_cons, List.not_mem_nil, or_false] at hr
    rcases hr with rfl | rfl | rfl <;> exact ⟨by decide, by decide, by decide, by decide, by decide, by decide⟩
  · obtain ⟨i, _, rfl⟩ := List.mem_map.mp hr
    exact rowN_ok _ (fmodN_lt i (by decide))
theorem rowsOf_len (ns : List Int) : (rowsOf ns).length ≤ 10 := by
  unfold rowsOf
  rw [List.length_append, List.length_map, List.length_take]
  show 3 + _ ≤ 10
  omega
theorem cut_take {α : Type} (xs : List α) (i : Nat) : cutL xs none (some (i : Int)) = xs.take i := by
  unfold cutL
  show (xs.take ((if (i : Int) < 0 then (i : Int) + xs.length else (i : Int)).toNat)).drop 0 = _
  rw [if_neg (by omega), Int.toNat_natCast]; rfl
section
variable {prog : Program} {w : World} {n : Nat} {mg mb : Str → Option Value} {h : Heap} {G : Ga} {ρ : Loc} {K : Frag}
theorem Cx.divmodN (c : Cx K mg mb h G) {e e₂ : Expr} {p₁ pos : Pos} {a b : Nat} (g : mg "divmod" = none) (q : Ev prog w n G ρ e (.d (.int (a : Nat)))) (q₂ : Ev prog w n G ρ e₂ (.d (.int (b : Nat)))) (hb : 0 < b) (hs' : b < 1073741824)
    (hs : NoStar [e, e₂] = true := by rfl) (hs₂ : NoStar [e₂] = true := by rfl) (hl : G.env.kindOf "divmod" = some .globalImplicit := by rfl) (he : eval (.Call (.Name "divmod" p₁) [e, e₂] [] pos) G.env = (do callWith pos (← eval (.Name "divmod" p₁) G.env) [] (backTo pos (starEach [e, e₂] G.env)) (backToKw pos (keywordEach [] G.env))) := by rfl) :
    Ev prog w n G ρ (.Call (.Name "divmod" p₁) [e, e₂] [] pos) (.d (.tuple [.int ((a / b : Nat) : Int), .int ((a % b : Nat) : Int)])) :=
  Ev.eq (c.divmod g q q₂ (by omega) (PyProof.noPylong_small (by simpa using hs')) hs hs₂ hl he) (by rw [← Int.ofNat_fdiv, ← Int.ofNat_fmod])
theorem g_divmod (B : BB w mg mb h) : mg (Str.ofString "divmod") = none := B.mg rfl rfl
set_option maxHeartbeats 2000000 in
theorem lawRows (B : BB w mg mb h) {X : Addr → Prop} (av : Av X h) (ns : List Int) (hn : ns.length ≤ 63) : CallR prog w 1 X h (.ref 126) [.arr (ns.map .int)] (.d (.list ((rowsOf ns).map row1D))) := by
  refine CallR.def_ av (B.at rfl) rfl B.nolimit ⟨_, _, _, _, rfl, B.at rfl, rfl, rfl⟩ rfl rfl (names := [Str.ofString "script"]) rfl nodup1 rfl rfl (notOwn_arr notOwn_nil) (bind1 fun v => rfl) ?_
  rintro X ⟨_, h₀, _, Z⟩ C
  have c := Cx.called B C
  obtain ⟨⟨L, rfl⟩, hx, rfl, av⟩ := C
  let st : Nat → Loc := fun i => ⟨[(Str.ofString "rows", .own ((rowsP ns i).map row1D))], []⟩
  have n7 : ((ns.map PyData.int).take 7) = (ns.take 7).map PyData.int := (List.map_take ..).symm
  refine Ex.then_ ⟨[(Str.ofString "script", .arr (ns.map .int)), (Str.ofString "rows", .own ((rowsP ns 0).map row1D))], []⟩ ?_ ?_
  · refine Ex1.assignOwn (ds := (rowsP ns 0).map row1D) ?_ ?_ ?_ ?_
    · rfl
    · refine EvS.cons ?_ (EvS.cons ?_ (EvS.cons ?_ EvS.nil))
      · exact Ev.tuple (EvS.cons Ev.int (EvS.cons Ev.int (EvS.cons (Ev.list (ds := []) EvS.nil (Nat.zero_le _)) (EvS.cons Ev.int EvS.nil)))) (show 4 ≤ sizeLine by decide)
      · exact Ev.tuple (EvS.cons Ev.int (EvS.cons Ev.int (EvS.cons (Ev.list (ds := nums [11]) (EvS.cons Ev.int EvS.nil) (show 1 ≤ sizeLine by decide)) (EvS.cons Ev.int EvS.nil)))) (show 4 ≤ sizeLine by decide)
      · exact Ev.tuple (EvS.cons Ev.int (EvS.cons Ev.int (EvS.cons (Ev.list (ds := nums [0, 9]) (EvS.cons Ev.int (EvS.cons Ev.int EvS.nil)) (show 2 ≤ sizeLine by decide)) (EvS.cons Ev.int EvS.nil)))) (show 4 ≤ sizeLine by decide)
    · exact Sub.of ⟨rfl, rfl, trivial⟩
    · show 3 ≤ sizeLine; decide
  refine Ex.then_ (st ((ns.take 7).map PyData.int).length) ?_ ?_
  · refine Ex1.forN (ds := (ns.take 7).map .int) st ?_ ?_ ?_ (fun i d hd => ?_) ?_ ?_
    · exact Ev.itList (Ev.eq (Ev.sliceL (a := .arr (ns.map .int)) (l := none) (u := some ((7 : Nat) : Int)) (Ev.name rfl) rfl EvP.none (EvP.some Ev.int) (.inl ⟨rfl, _, rfl, by decide⟩) (by rw [List.length_map]; exact Nat.le_trans hn (by decide))) (by rw [cut_take, n7])) True
    · rfl
    · exact Sub.of ⟨rfl, trivial⟩
    · rw [List.getElem?_map] at hd
      obtain ⟨x, hx', rfl⟩ := Option.map_eq_some_iff.mp hd
      have hP : rowsP ns (i + 1) = rowsP ns i ++ [rowI x] := by
        unfold rowsP
        rw [List.take_add_one, hx', List.map_append, List.append_assoc]; rfl
      have hlt := fmodN_lt x (k := 3538944) (by decide)
      have hcast : x.fmod 3538944 = (((x.fmod 3538944).toNat : Nat) : Int) := (Int.toNat_of_nonneg (Int.fmod_nonneg_of_pos x (by decide))).symm
      have hR : rowI x = rowN (x.fmod ((3538944 : Nat) : Int)).toNat := rfl
      refine ⟨_, rfl, ?_⟩
      refine Ex.sub (ρ' := ⟨[(Str.ofString "rows", .own ((rowsP ns i).map row1D)), (Str.ofString "number", .d (.int x))], []⟩) (Sub.of ⟨rfl, rfl, trivial⟩) ?_
      show Ex _ _ _ _ _ _ (Nx ⟨[(Str.ofString "rows", .own ((rowsP ns (i + 1)).map row1D))], []⟩)
      rw [hP, hR]
      have hlen : (rowsP ns i).length ≤ 10 := by
        unfold rowsP
        rw [List.length_append, List.length_map, List.length_take, List.length_take]
        show 3 + _ ≤ 10; omega
      generalize rowsP ns i = rs at hlen ⊢
      have hcast : x.fmod 3538944 = (((x.fmod ((3538944 : Nat) : Int)).toNat : Nat) : Int) := hcast
      generalize (x.fmod ((3538944 : Nat) : Int)).toNat = m at hcast hlt ⊢
      let b0 : List (Str × AV) := [(Str.ofString "rows", .own (rs.map row1D))]
      refine Ex.then_ ⟨b0 ++ [(Str.ofString "left", .d (.int ((m / 128 : Nat) : Int))), (Str.ofString "code", .d (.int ((m % 128 : Nat) : Int)))], []⟩ ?_ ?_
      · refine Ex1.assignT (d := .tuple [.int ((m / 128 : Nat) : Int), .int ((m % 128 : Nat) : Int)]) ?_ rfl rfl ?_
        · exact c.divmodN (b := 128) (g_divmod B) (Ev.eq (Ev.bin (Ev.name (a := .d (.int x)) rfl) Ev.int fun X => Bin.fmod (by decide)) (by rw [hcast])) Ev.int (by decide) (by decide)
        · exact Sub.of ⟨rfl, rfl, rfl, trivial⟩
      refine Ex.then_ ⟨b0 ++ [(Str.ofString "code", .d (.int ((m % 128 : Nat) : Int))), (Str.ofString "left", .d (.int ((m / 2048 : Nat) : Int))), (Str.ofString "kind", .d (.int ((m / 128 % 16 : Nat) : Int)))], []⟩ ?_ ?_
      · refine Ex1.assignT (d := .tuple [.int ((m / 2048 : Nat) : Int), .int ((m / 128 % 16 : Nat) : Int)]) ?_ rfl rfl ?_
        · exact Ev.eq (c.divmodN (b := 16) (g_divmod B) (Ev.name rfl) Ev.int (by decide) (by decide)) (by rw [Nat.div_div_eq_div_mul])
        · exact Sub.of ⟨rfl, rfl, rfl, rfl, trivial⟩
      refine Ex.then_ ⟨b0 ++ [(Str.ofString "code", .d (.int ((m % 128 : Nat) : Int))), (Str.ofString "left", .d (.int ((m / 6144 : Nat) : Int))), (Str.ofString "kind", .d (.int ((m / 128 % 16 : Nat) : Int))), (Str.ofString "count", .d (.int ((m / 2048 % 3 : Nat) : Int)))], []⟩ ?_ ?_
      · refine Ex1.assignT (d := .tuple [.int ((m / 6144 : Nat) : Int), .int ((m / 2048 % 3 : Nat) : Int)]) ?_ rfl rfl ?_
        · exact Ev.eq (c.divmodN (b := 3) (g_divmod B) (Ev.name rfl) Ev.int (by decide) (by decide)) (by rw [Nat.div_div_eq_div_mul])
        · exact Sub.of ⟨rfl, rfl, rfl, rfl, rfl, trivial⟩
      refine Ex.then_ ⟨b0 ++ [(Str.ofString "code", .d (.int ((m % 128 : Nat) : Int))), (Str.ofString "left", .d (.int ((m / 73728 : Nat) : Int))), (Str.ofString "kind", .d (.int ((m / 128 % 16 : Nat) : Int))), (Str.ofString "count", .d (.int ((m / 2048 % 3 : Nat) : Int))), (Str.ofString "first", .d (.int ((m / 6144 % 12 : Nat) : Int)))], []⟩ ?_ ?_
      · refine Ex1.assignT (d := .tuple [.int ((m / 73728 : Nat) : Int), .int ((m / 6144 % 12 : Nat) : Int)]) ?_ rfl rfl ?_
        · exact Ev.eq (c.divmodN (b := 12) (g_divmod B) (Ev.name rfl) Ev.int (by decide) (by decide)) (by rw [Nat.div_div_eq_div_mul])
        · exact Sub.of ⟨rfl, rfl, rfl, rfl, rfl, rfl, trivial⟩
      refine Ex.then_ ⟨b0 ++ [(Str.ofString "code", .d (.int ((m % 128 : Nat) : Int))), (Str.ofString "kind", .d (.int ((m / 128 % 16 : Nat) : Int))), (Str.ofString "count", .d (.int ((m / 2048 % 3 : Nat) : Int))), (Str.ofString "first", .d (.int ((m / 6144 % 12 : Nat) : Int))), (Str.ofString "manner", .d (.int ((m / 884736 : Nat) : Int))), (Str.ofString "second", .d (.int ((m / 73728 % 12 : Nat) : Int)))], []⟩ ?_ ?_
      · refine Ex1.assignT (d := .tuple [.int ((m / 884736 : Nat) : Int), .int ((m / 73728 % 12 : Nat) : Int)]) ?_ rfl rfl ?_
        · exact Ev.eq (c.divmodN (b := 12) (g_divmod B) (Ev.name rfl) Ev.int (by decide) (by decide)) (by rw [Nat.div_div_eq_div_mul])
        · exact Sub.of ⟨rfl, rfl, rfl, rfl, rfl, rfl, rfl, trivial⟩
      refine Ex.then_ ⟨b0 ++ [(Str.ofString "code", .d (.int ((m % 128 : Nat) : Int))), (Str.ofString "kind", .d (.int ((m / 128 % 16 : Nat) : Int))), (Str.ofString "count", .d (.int (rowC m : Nat))), (Str.ofString "first", .d (.int ((m / 6144 % 12 : Nat) : Int))), (Str.ofString "manner", .d (.int ((m / 884736 : Nat) : Int))), (Str.ofString "second", .d (.int ((m / 73728 % 12 : Nat) : Int)))], []⟩ ?_ ?_
      · refine Ex1.if_ (c := decide (m / 2048 % 3 = 2 ∧ m / 6144 % 12 = m / 73728 % 12)) ?_ (fun hb => ?_) (fun hb => ?_)
        · refine EvT.eq (EvT.and (EvT.cmp (Ev.name (a := .d (.int ((m / 2048 % 3 : Nat) : Int))) rfl) (Ev.int (i := (2 : Nat))) fun X => Cmp.ieqN) fun _ => EvT.and (EvT.cmp (Ev.name (a := .d (.int ((m / 6144 % 12 : Nat) : Int))) rfl) (Ev.name (a := .d (.int ((m / 73728 % 12 : Nat) : Int))) rfl) fun X => Cmp.ieqN) fun _ => EvT.and0) ?_
          rw [Bool.and_true, Bool.decide_and]
        · have hb := of_decide_eq_true hb
          refine Ex.cons (Ex1.assign (a := .d (.int ((1 : Nat) : Int))) rfl Ev.int (fun _ z => by cases z) (Ex.nil (Sub.of ⟨rfl, rfl, rfl, ?_, rfl, rfl, rfl, trivial⟩)))
          unfold rowC; rw [if_pos hb]; rfl
        · have hb := of_decide_eq_false hb
          refine Ex.nil (Sub.of ⟨rfl, rfl, rfl, ?_, rfl, rfl, rfl, trivial⟩)
          unfold rowC; rw [if_neg hb]; rfl
      refine Ex.cons (Ex1.append (xs := rs.map row1D) (d := row1D (rowN m)) rfl ?_ (Ex.nil (Sub.of ⟨?_, trivial⟩)) ?_)
      · refine Ev.tuple (EvS.cons (Ev.name (a := .d (.int ((m % 128 : Nat) : Int))) rfl) (EvS.cons (Ev.name (a := .d (.int ((m / 128 % 16 : Nat) : Int))) rfl) (EvS.cons ?_ (EvS.cons (Ev.name (a := .d (.int ((m / 884736 : Nat) : Int))) rfl) EvS.nil)))) (show 4 ≤ sizeLine by decide)
        refine Ev.eq (Ev.sliceL (l := none) (u := some ((rowC m : Nat) : Int)) (Ev.list (ds := nums [m / 6144 % 12, m / 73728 % 12]) (EvS.cons (Ev.name (a := .d (.int ((m / 6144 % 12 : Nat) : Int))) rfl) (EvS.cons (Ev.name (a := .d (.int ((m / 73728 % 12 : Nat) : Int))) rfl) EvS.nil)) (show 2 ≤ sizeLine by decide)) rfl EvP.none (EvP.some (Ev.name (a := .d (.int (rowC m : Nat))) rfl)) (.inl ⟨rfl, _, rfl, Int.natCast_nonneg _⟩) (show 2 ≤ sizeLine by decide)) ?_
        rw [cut_take]
        unfold nums
        rw [← List.map_take]; rfl
      · show some (AV.own (rs.map row1D ++ [row1D (rowN m)])) = some (AV.own ((rs ++ [rowN m]).map row1D))
        rw [List.map_append]; rfl
      · rw [List.length_map]; exact Nat.le_trans hlen (by decide)
    · exact Sub.refl _
    · intro _; rfl
  have e : rowsP ns ((ns.take 7).map PyData.int).length = rowsOf ns := by
    unfold rowsP rowsOf
    rw [List.length_map, List.take_length]
  show Ex _ _ _ _ ⟨[(Str.ofString "rows", .own ((rowsP ns ((ns.take 7).map PyData.int).length).map row1D))], []⟩ _ _
  rw [e]
  exact Ex.cons (Ex1.retOwn (xs := (rowsOf ns).map row1D) rfl rfl)
end
end Mine
end

section
open PySem PySem.W PyProof.Rows PySem.Calls
set_option Elab.async false
set_option linter.unusedVariables false
set_option maxRecDepth 100000
namespace Mine
theorem join_flat (l : List (List Nat)) : Txt.join "" (l.map tx) = tx l.flatten := by
  cases l with
  | nil => rfl
  | cons a r =>
    show (⟨(r.map tx).foldl (fun acc p => acc ++ (Str.ofString "").cps ++ p.cps) a.toArray⟩ : Str) = ⟨(a ++ r.flatten).toArray⟩
    have key : ∀ (r : List (List Nat)) (acc : List Nat), (r.map tx).foldl (fun acc p => acc ++ (Str.ofString "").cps ++ p.cps) acc.toArray = (acc ++ r.flatten).toArray := by
      intro r
      induction r with
      | nil => intro acc; simp
      | cons b r ih =>
        intro acc
        rw [List.map_cons, List.foldl_cons]
        have : acc.toArray ++ (Str.ofString "").cps ++ (tx b).cps = (acc ++ b).toArray := by
          have e : (Str.ofString "").cps = #[] := by decide +kernel
          rw [e]; simp [tx]
        rw [this, ih]; simp
    exact congrArg Str.mk (key r a)
theorem txts_strs (l : List (List Nat)) : txts l = (l.map tx).map PyData.str := by unfold txts; rw [List.map_map]; rfl
def placesL : List Nat := [3, 5, 6, 7, 9, 10, 11]
def dataF (code : Nat) : Nat × Nat → Option Nat := fun q => if code / 2 ^ q.2 % 2 = 1 then some q.1 else none
def dataL (code : Nat) : List Nat := (placesL.zipIdx 0).filterMap (dataF code)
def fCode (code : Nat) : PyData → Option PyData
  | .tuple [.int b, .int p] => if code / 2 ^ b.toNat % 2 = 1 then some (.int p) else none
  | _ => none
theorem fCode_at (code b p : Nat) : fCode code (.tuple [.int ((b : Nat) : Int), .int (p : Nat)]) = if code / 2 ^ b % 2 = 1 then some (.int (p : Nat)) else none := by
  show (if code / 2 ^ ((b : Nat) : Int).toNat % 2 = 1 then some (PyData.int (p : Nat)) else none) = _
  rw [Int.toNat_natCast]
theorem fCode_num (code : Nat) : ∀ (l : List Nat) (k : Nat), (numbered k (nums l)).filterMap (fCode code) = nums ((l.zipIdx k).filterMap (dataF code)) := by
  intro l
  induction l with
  | nil => intro k; rfl
  | cons a r ih =>
    intro k
    show List.filterMap (fCode code) (.tuple [.int (k : Nat), .int (a : Nat)] :: numbered (k + 1) (nums r)) = _
    rw [List.zipIdx_cons, List.filterMap_cons, List.filterMap_cons, fCode_at, ih (k + 1)]
    unfold dataF
    by_cases e : code / 2 ^ k % 2 = 1
    · simp [e, nums]
    · simp [e]
theorem dataL_len (code : Nat) : (dataL code).length ≤ 7 := by
  unfold dataL
  exact Nat.le_trans (List.length_filterMap_le ..) (by decide)
def oddC (c p : Nat) : Bool := decide (p / c % 2 = 1)
def stepC (l : List Nat) (c : Nat) : List Nat := if (l.filter (oddC c)).length % 2 = 1 then l ++ [c] else l
def checksL : List Nat := [1, 2, 4, 8]
def codedP (code i : Nat) : List Nat := (checksL.take i).foldl stepC (dataL code)
def codedL (code : Nat) : List Nat := if (codedP code 4).length % 2 = 1 then codedP code 4 ++ [0] else codedP code 4
theorem stepC_len (l : List Nat) (c : Nat) : (stepC l c).length ≤ l.length + 1 := by
  unfold stepC
  split
  · rw [List.length_append]; exact Nat.le_refl _
  · omega
theorem foldC_len (cs : List Nat) : ∀ l : List Nat, (cs.foldl stepC l).length ≤ l.length + cs.length := by
  induction cs with
  | nil => intro l; exact Nat.le_refl _
  | cons c r ih =>
    intro l
    rw [List.foldl_cons, List.length_cons]
    have := ih (stepC l c)
    have := stepC_len l c
    omega
theorem codedP_len (code i : Nat) : (codedP code i).length ≤ 11 := by
  unfold codedP
  have := foldC_len (checksL.take i) (dataL code)
  have h1 := dataL_len code
  have : (checksL.take i).length ≤ 4 := by rw [List.length_take]; exact Nat.min_le_right _ _
  omega
def wrL (l : List Nat) (m : Nat) : List Nat := if m = 0 then l ++ [32] else if m = 1 then [34] ++ l ++ [34] else if m = 2 then (l.map fun c => [92, c]).flatten ++ [10] else [10, 13] ++ l ++ [9]
theorem esc_len (l : List Nat) : ((l.map fun c => [92, c]).flatten).length = 2 * l.length := by
  induction l with
  | nil => rfl
  | cons a r ih => rw [List.map_cons, List.flatten_cons, List.length_append, ih, List.length_cons]; show 2 + 2 * r.length = 2 * (r.length + 1); omega
theorem signs_tx (l : List Nat) : signs (tx l) = l.map fun c => .str (tx [c]) := rfl
def fEsc : PyData → Option PyData
  | .str x => some (.str (tx [92] ++ x))
  | _ => none
theorem esc_map (l : List Nat) : (l.map fun c => PyData.str (tx [c])).filterMap fEsc = txts (l.map fun c => [92, c]) := by
  induction l with
  | nil => rfl
  | cons a r ih => rw [List.map_cons, List.filterMap_cons]; show PyData.str (tx [92] ++ tx [a]) :: _ = _; rw [ih, tx_cat]; rfl
section
variable {prog : Program} {w : World} {n : Nat} {X : Addr → Prop} {mg mb : Str → Option Value} {h : Heap}
theorem Bin.tx' {a b : List Nat} (hz : a.length + b.length ≤ 1000) : Bin prog w n X .Add (.d (.str (tx a))) (.d (.str (tx b))) (.d (.str (tx (a ++ b)))) := by
  rw [← tx_cat]; exact Bin.cat (by rw [tx_len, tx_len]; exact Nat.le_trans hz (by decide))
theorem Bin.powN {k : Nat} (hk : k ≤ 20) : Bin prog w n X .Pow (.d (.int 2)) (.d (.int (k : Nat))) (.d (.int ((2 ^ k : Nat) : Int))) := by
  have e : ((2 ^ k : Nat) : Int) = 2 ^ ((k : Nat) : Int).toNat := by rw [Int.toNat_natCast, Int.natCast_pow]; rfl
  rw [e]
  refine Bin.pow (Int.natCast_nonneg _) ?_
  have : Builtin.Int.intBits 2 = 2 := by decide +kernel
  rw [this]; omega
theorem g_enum (B : BB w mg mb h) : mg (Str.ofString "enumerate") = none := B.mg rfl rfl
theorem g_len (B : BB w mg mb h) : mg (Str.ofString "len") = none := B.mg rfl rfl
set_option maxHeartbeats 2000000 in
theorem lawCoded (B : BB w mg mb h) (av : Av X h) (code : Nat) : CallR prog w 1 X h (.ref 131) [.d (.int (code : Nat))] (.d (.list (nums (codedL code)))) := by
  refine CallR.def_ av (B.at rfl) rfl B.nolimit ⟨_, _, _, _, rfl, B.at rfl, rfl, rfl⟩ rfl rfl (names := [Str.ofString "code"]) rfl nodup1 rfl rfl (notOwn_d notOwn_nil) (bind1 fun v => rfl) ?_
  rintro X ⟨_, h₀, _, Z⟩ C
  have c := Cx.called B C
  obtain ⟨⟨L, rfl⟩, hx, rfl, av⟩ := C
  let st : Nat → Loc := fun i => ⟨[(Str.ofString "there", .own (nums (codedP code i)))], []⟩
  refine Ex.then_ (st 0) ?_ ?_
  · refine Ex1.assignComp (ds := numbered 0 (nums placesL)) true (fCode code) (CompOk.of fun C => rfl) ?_ (c.enum (g_enum B) (Ev.tuple (ds := nums placesL) (EvS.cons Ev.int (EvS.cons Ev.int (EvS.cons Ev.int (EvS.cons Ev.int (EvS.cons Ev.int (EvS.cons Ev.int (EvS.cons Ev.int EvS.nil))))))) (show 7 ≤ sizeLine by decide)) False) ?_ ?_ ?_
    · show 7 ≤ sizeLine; decide
    · rintro ⟨_, h₂, Y₂, Z₂⟩ o d hd
      have c₂ := c.comp o
      obtain ⟨⟨C, rfl⟩, _, _⟩ := o
      obtain ⟨i, hi⟩ := List.getElem?_of_mem hd
      obtain ⟨e, he, rfl⟩ := numbered_get _ _ _ _ hi
      have hi7 : i < 7 := (List.getElem?_eq_some_iff.mp he).1
      unfold nums at he
      rw [List.getElem?_map] at he
      obtain ⟨p, hp, rfl⟩ := Option.map_eq_some_iff.mp he
      rw [Nat.zero_add]
      have p7 : 2 ^ i ≤ 2 ^ 7 := Nat.pow_le_pow_right (by decide) (by omega)
      refine ⟨_, rfl, decide (code / 2 ^ i % 2 = 1), ?_, fun e => ?_, fun e => ⟨.int (p : Nat), ?_, Ev.name rfl⟩⟩
      · exact EvT.cmp (Ev.bin (b := .d (.int (2 : Nat))) (Ev.bin (a := .d (.int (code : Nat))) (b := .d (.int ((2 ^ i : Nat) : Int))) (Ev.name rfl) (Ev.bin Ev.int (Ev.name (a := .d (.int (i : Nat))) rfl) fun X => Bin.powN (by omega)) fun X => Bin.fdivN (Nat.two_pow_pos i) (Nat.lt_of_le_of_lt p7 (by decide))) Ev.int fun X => Bin.fmodN (by decide)) (Ev.int (i := (1 : Nat))) fun X => Cmp.ieqN
      · rw [fCode_at, if_neg (of_decide_eq_false e)]
      · rw [fCode_at, if_pos (of_decide_eq_true e)]
    · rfl
    · refine Sub.of ⟨?_, trivial⟩
      show some (AV.own _) = some (AV.own (nums (dataL code)))
      rw [fCode_num]; rfl
  refine Ex.then_ (st 4) ?_ ?_
  · refine Ex1.forN (ds := nums checksL) st ?_ ?_ ?_ (fun i d hd => ?_) ?_ ?_
    · exact Ev.itTuple (Ev.tuple (ds := nums checksL) (EvS.cons Ev.int (EvS.cons Ev.int (EvS.cons Ev.int (EvS.cons Ev.int EvS.nil)))) (show 4 ≤ sizeLine by decide)) True
    · rfl
    · exact Sub.refl _
    · unfold nums at hd
      rw [List.getElem?_map] at hd
      obtain ⟨ch, hch, rfl⟩ := Option.map_eq_some_iff.mp hd
      have hs : codedP code (i + 1) = stepC (codedP code i) ch := by
        unfold codedP
        rw [List.take_add_one, hch, List.foldl_append]; rfl
      have c0 : 0 < ch ∧ ch < 1073741824 := by
        have : ∀ c ∈ checksL, 0 < c ∧ c < 1073741824 := by decide
        exact this ch (List.mem_of_getElem? hch)
      have hl := codedP_len code i
      refine ⟨_, rfl, ?_⟩
      refine Ex.sub (ρ' := ⟨[(Str.ofString "there", .own (nums (codedP code i))), (Str.ofString "check", .d (.int (ch : Nat)))], []⟩) (Sub.of ⟨rfl, rfl, trivial⟩) ?_
      show Ex _ _ _ _ _ _ (Nx ⟨[(Str.ofString "there", .own (nums (codedP code (i + 1))))], []⟩)
      rw [hs]
      generalize codedP code i = l at hl ⊢
      have fl : (l.filter (oddC ch)).length ≤ 11 := Nat.le_trans (List.length_filter_le ..) hl
      refine Ex.cons (Ex1.if_ (c := decide ((l.filter (oddC ch)).length % 2 = 1)) ?_ (fun hb => ?_) (fun hb => ?_))
      · refine EvT.cmp (Ev.bin (a := .d (.int ((l.filter (oddC ch)).length : Nat))) (b := .d (.int (2 : Nat))) ?_ Ev.int fun X => Bin.fmodN (by decide)) (Ev.int (i := (1 : Nat))) fun X => Cmp.ieqN
        refine Ev.eq (c.len (g_len B) (a := .d (.list (nums (l.filter (oddC ch))))) ?_ rfl (by rw [nums_len]; omega)) (by rw [nums_len])
        refine Ev.eq (Ev.comp (ds := nums l) (fInt fun p => if oddC ch p = true then some (.int (p : Nat)) else none) (CompOk.of fun C => rfl) ?_ (Ev.itLst (Ev.name (a := .own (nums l)) rfl) rfl) ?_) ?_
        · rw [nums_len]; exact Nat.le_trans hl (by decide)
        · rintro ⟨_, h₂, Y₂, Z₂⟩ o d hd
          have c₂ := c.comp o
          obtain ⟨⟨C, rfl⟩, _, _⟩ := o
          obtain ⟨p, hp, rfl⟩ := List.mem_map.mp hd
          refine ⟨_, rfl, oddC ch p, ?_, fun e => fInt_no e, fun e => ⟨.int (p : Nat), fInt_yes (g := fun p => .int (p : Nat)) e, Ev.name rfl⟩⟩
          exact EvT.cmp (Ev.bin (b := .d (.int (2 : Nat))) (Ev.bin (a := .d (.int (p : Nat))) (b := .d (.int (ch : Nat))) (Ev.name rfl) (Ev.name rfl) fun X => Bin.fdivN c0.1 c0.2) Ev.int fun X => Bin.fmodN (by decide)) (Ev.int (i := (1 : Nat))) fun X => Cmp.ieqN
        · rw [fInt_nums, filterMap_if]; rfl
      · have hb := of_decide_eq_true hb
        refine Ex.cons (Ex1.append (xs := nums l) (d := .int (ch : Nat)) rfl (Ev.name rfl) (Ex.nil (Ex.nil (Sub.of ⟨?_, trivial⟩))) (by rw [nums_len]; exact Nat.le_trans hl (by decide)))
        show some (AV.own (nums l ++ [.int (ch : Nat)])) = some (AV.own (nums (stepC l ch)))
        unfold stepC nums
        rw [if_pos hb, List.map_append]; rfl
      · have hb := of_decide_eq_false hb
        refine Ex.nil (Ex.nil (Sub.of ⟨?_, trivial⟩))
        unfold stepC
        rw [if_neg hb]; rfl
    · exact Sub.refl _
    · intro _; rfl
  have hl := codedP_len code 4
  show Ex _ _ _ _ ⟨[(Str.ofString "there", .own (nums (codedP code 4)))], []⟩ _ _
  unfold codedL
  generalize codedP code 4 = l at hl ⊢
  refine Ex.then_ ⟨[(Str.ofString "there", .own (nums (if l.length % 2 = 1 then l ++ [0] else l)))], []⟩ ?_ ?_
  · refine Ex1.if_ (c := decide (l.length % 2 = 1)) ?_ (fun hb => ?_) (fun hb => ?_)
    · refine EvT.cmp (Ev.bin (a := .d (.int (l.length : Nat))) (b := .d (.int (2 : Nat))) ?_ Ev.int fun X => Bin.fmodN (by decide)) (Ev.int (i := (1 : Nat))) fun X => Cmp.ieqN
      exact Ev.eq (c.len (g_len B) (Ev.name (a := .own (nums l)) rfl) rfl (by rw [nums_len]; omega)) (by rw [nums_len])
    · have hb := of_decide_eq_true hb
      refine Ex.cons (Ex1.append (xs := nums l) (d := .int (0 : Nat)) rfl Ev.int (Ex.nil (Sub.of ⟨?_, trivial⟩)) (by rw [nums_len]; exact Nat.le_trans hl (by decide)))
      show some (AV.own (nums l ++ [.int (0 : Nat)])) = _
      unfold nums
      rw [if_pos hb, List.map_append]; rfl
    · have hb := of_decide_eq_false hb
      refine Ex.nil (Sub.of ⟨?_, trivial⟩)
      rw [if_neg hb]; rfl
  · exact Ex.cons (Ex1.retOwn rfl rfl)
set_option maxHeartbeats 2000000 in
theorem lawWritten (B : BB w mg mb h) (av : Av X h) (l : List Nat) (m : Nat) (hl : l.length ≤ 10) : CallR prog w 1 X h (.ref 136) [.d (.str (tx l)), .d (.int (m : Nat))] (.d (.str (tx (wrL l m)))) := by
  refine CallR.def_ av (B.at rfl) rfl B.nolimit ⟨_, _, _, _, rfl, B.at rfl, rfl, rfl⟩ rfl rfl (names := [Str.ofString "listing", Str.ofString "manner"]) rfl (by decide +kernel) rfl rfl (notOwn_d (notOwn_d notOwn_nil)) (bind2 fun v u => rfl) ?_
  rintro X ⟨_, h₀, _, Z⟩ C
  have c := Cx.called B C
  obtain ⟨⟨L, rfl⟩, hx, rfl, av⟩ := C
  unfold wrL
  refine Ex.cons (Ex1.if_ (c := decide (m = 0)) (EvT.cmp (Ev.name (a := .d (.int (m : Nat))) rfl) (Ev.int (i := (0 : Nat))) fun X => Cmp.ieqN) (fun hb => ?_) (fun hb => Ex.nil ?_))
  · rw [if_pos (of_decide_eq_true hb)]
    exact Ex.cons (Ex1.ret (d := .str (tx (l ++ [32]))) (Ev.bin (a := .d (.str (tx l))) (b := .d (.str (tx [32]))) (Ev.name rfl) Ev.str fun X => Bin.tx' (by show _ + 1 ≤ 1000; omega)) rfl)
  rw [if_neg (of_decide_eq_false hb)]
  refine Ex.cons (Ex1.if_ (c := decide (m = 1)) (EvT.cmp (Ev.name (a := .d (.int (m : Nat))) rfl) (Ev.int (i := (1 : Nat))) fun X => Cmp.ieqN) (fun hb => ?_) (fun hb => Ex.nil ?_))
  · rw [if_pos (of_decide_eq_true hb)]
    refine Ex.cons (Ex1.ret (d := .str (tx ([34] ++ l ++ [34]))) ?_ rfl)
    exact Ev.bin (a := .d (.str (tx ([34] ++ l)))) (b := .d (.str (tx [34]))) (Ev.bin (a := .d (.str (tx [34]))) (b := .d (.str (tx l))) Ev.str (Ev.name rfl) fun X => Bin.tx' (by show 1 + _ ≤ 1000; omega)) Ev.str fun X => Bin.tx' (by rw [List.length_append]; show 1 + _ + 1 ≤ 1000; omega)
  rw [if_neg (of_decide_eq_false hb)]
  refine Ex.cons (Ex1.if_ (c := decide (m = 2)) (EvT.cmp (Ev.name (a := .d (.int (m : Nat))) rfl) (Ev.int (i := (2 : Nat))) fun X => Cmp.ieqN) (fun hb => ?_) (fun hb => Ex.nil ?_))
  · rw [if_pos (of_decide_eq_true hb)]
    have el := esc_len l
    refine Ex.cons (Ex1.ret (d := .str (tx ((l.map fun c => [92, c]).flatten ++ [10]))) ?_ rfl)
    refine Ev.bin (a := .d (.str (tx (l.map fun c => [92, c]).flatten))) (b := .d (.str (tx [10]))) ?_ Ev.str fun X => Bin.tx' (by show _ + 1 ≤ 1000; omega)
    refine Ev.eq (Ev.join (y := Str.ofString "") (a := .d (.list (txts (l.map fun c => [92, c])))) (ys := (l.map fun c => [92, c]).map tx) Ev.str ?_ ?_ ?_) ?_
    · refine Ev.eq (Ev.comp (ds := signs (tx l)) fEsc (CompOk.of fun C => rfl) ?_ (Ev.itStr (Ev.name rfl) False) ?_) ?_
      · rw [signs_tx, List.length_map]; exact Nat.le_trans hl (by decide)
      · rintro ⟨_, h₂, Y₂, Z₂⟩ o d hd
        have c₂ := c.comp o
        obtain ⟨⟨C, rfl⟩, _, _⟩ := o
        obtain ⟨p, hp, rfl⟩ := List.mem_map.mp hd
        exact ⟨_, rfl, true, rfl, (fun e => by cases e), fun _ => ⟨.str (tx [92] ++ tx [p]), rfl, Ev.eq (Ev.bin (a := .d (.str (tx [92]))) (b := .d (.str (tx [p]))) Ev.str (Ev.name rfl) fun X => Bin.tx' (show 1 + 1 ≤ 1000 by decide)) (by rw [tx_cat])⟩⟩
      · rw [signs_tx, esc_map]
    · exact congrArg some (txts_strs _)
    · have e0 : (Str.ofString "").length = 0 := by decide +kernel
      rw [e0, Nat.mul_zero, Nat.add_zero, List.map_map]
      have : ((fun z : Str => z.length) ∘ tx) = List.length := funext fun l => tx_len l
      rw [this, ← List.length_flatten]; omega
    · rw [join_flat]
  rw [if_neg (of_decide_eq_false hb)]
  refine Ex.cons (Ex1.ret (d := .str (tx ([10, 13] ++ l ++ [9]))) ?_ rfl)
  exact Ev.bin (a := .d (.str (tx ([10, 13] ++ l)))) (b := .d (.str (tx [9]))) (Ev.bin (a := .d (.str (tx [10, 13]))) (b := .d (.str (tx l))) Ev.str (Ev.name rfl) fun X => Bin.tx' (by show 2 + _ ≤ 1000; omega)) Ev.str fun X => Bin.tx' (by rw [List.length_append]; show 2 + _ + 1 ≤ 1000; omega)
end
end Mine
end

section
open PySem PySem.W PyProof.Rows PySem.Calls
set_option Elab.async false
set_option linter.unusedVariables false
set_option maxRecDepth 100000
namespace Mine
def kindsL : List Nat := [63, 112, 99, 63, 100, 63, 98, 63, 45, 63, 108, 63, 115, 63, 63, 63]
def kindL (k : Nat) : Nat := kindsL.getD k 63
theorem and_nat (m b : Nat) : (Builtin.bitAnd (m : Int) (b : Int) == (b : Int)) = decide (m &&& b = b) := by
  rw [bitAnd_pp (by omega) (by omega)]
  simp only [Int.toNat_natCast]
  by_cases h : m &&& b = b
  · rw [decide_eq_true h, h]; simp
  · rw [decide_eq_false h]; simp; omega
theorem and_one (m k : Nat) : decide (m &&& 2 ^ k = 2 ^ k) = m.testBit k := by
  rw [Bool.eq_iff_iff, decide_eq_true_eq]
  constructor
  · intro h
    have := congrArg (fun x => x.testBit k) h
    simpa [Nat.testBit_and, Nat.testBit_two_pow_self] using this
  · intro h
    apply Nat.eq_of_testBit_eq
    intro i
    rw [Nat.testBit_and, Nat.testBit_two_pow]
    by_cases e : k = i
    · subst e; simp [h]
    · simp [e]
theorem and_two (m j k : Nat) (hjk : j ≠ k) : decide (m &&& (2 ^ j ||| 2 ^ k) = (2 ^ j ||| 2 ^ k)) = (m.testBit j && m.testBit k) := by
  rw [Bool.eq_iff_iff, decide_eq_true_eq]
  constructor
  · intro h
    have a := congrArg (fun x => x.testBit j) h
    have b := congrArg (fun x => x.testBit k) h
    simp [Nat.testBit_and, Nat.testBit_or, Nat.testBit_two_pow] at a b
    simp [a, b]
  · intro h
    rw [Bool.and_eq_true] at h
    apply Nat.eq_of_testBit_eq
    intro i
    rw [Nat.testBit_and, Nat.testBit_or, Nat.testBit_two_pow, Nat.testBit_two_pow]
    by_cases e : j = i
    · subst e; simp [h.1]
    · by_cases e' : k = i
      · subst e'; simp [h.2]
      · simp [e, e']
theorem hit_one (m i k : Nat) (hi : i ≠ 0) : hit (m : Int) i ((2 ^ k : Nat) : Int) = m.testBit k := by
  unfold hit
  rw [if_neg (by simp; omega), and_nat, and_one]
theorem hit_two (m i j k : Nat) (hi : i ≠ 0) (hjk : j ≠ k) : hit (m : Int) i ((2 ^ j ||| 2 ^ k : Nat) : Int) = (m.testBit j && m.testBit k) := by
  unfold hit
  rw [if_neg (by simp; omega), and_nat, and_two _ _ _ hjk]
theorem pickB1 (m i k : Nat) (x : Str) (hi : i ≠ 0) : pick (m : Int) i [(((2 ^ k : Nat) : Int), x)] = if m.testBit k = true then x else "-" := by
  unfold pick
  rw [List.find?_cons, hit_one _ _ _ hi]
  cases m.testBit k
  · have : ((i : Int) == 0) = false := by simp; omega
    simp [this]
  · rfl
theorem pickB3 (m i j k : Nat) (x y z : Str) (hi : i ≠ 0) (hjk : j ≠ k) : pick (m : Int) i [(((2 ^ j ||| 2 ^ k : Nat) : Int), x), (((2 ^ j : Nat) : Int), y), (((2 ^ k : Nat) : Int), z)] = if m.testBit j = true then (if m.testBit k = true then x else y) else (if m.testBit k = true then z else "-") := by
  unfold pick
  rw [List.find?_cons, hit_two _ _ _ _ hi hjk, List.find?_cons, hit_one _ _ _ hi, List.find?_cons, hit_one _ _ _ hi]
  have : ((i : Int) == 0) = false := by simp; omega
  cases m.testBit j <;> cases m.testBit k <;> simp [this]
theorem and_kind (q r : Nat) (hq : q < 16) (hr : r < 4096) : (q * 4096 + r) &&& 61440 = q * 4096 := by
  apply Nat.eq_of_testBit_eq
  intro i
  rw [Nat.testBit_and, Nat.mul_comm q 4096]
  have a := Nat.testBit_two_pow_mul_add q (i := 12) (b := r) hr i
  have b := Nat.testBit_two_pow_mul_add 15 (i := 12) (b := 0) (by decide) i
  have c := Nat.testBit_two_pow_mul_add q (i := 12) (b := 0) (by decide) i
  rw [show (4096 : Nat) = 2 ^ 12 from rfl, a, show (61440 : Nat) = 2 ^ 12 * 15 + 0 from rfl, b]
  rw [Nat.add_zero] at c
  rw [c]
  by_cases h : i < 12
  · simp [h]
  · simp only [h, if_false]
    rw [← Nat.testBit_and, show (15 : Nat) = 2 ^ 4 - 1 from rfl, Nat.and_two_pow_sub_one_eq_mod, Nat.mod_eq_of_lt hq]
def kindRow : List (Int × Str) := [(40960, "l"), (49152, "s"), (32768, "-"), (24576, "b"), (16384, "d"), (8192, "c"), (4096, "p")]
theorem pick_kind (m : Nat) (hm : m < 65536) : pick (m : Int) 0 kindRow = tx [kindL (m / 4096)] := by
  have e : Builtin.bitAnd (m : Int) 61440 = ((m / 4096 * 4096 : Nat) : Int) := by
    have h := and_kind (m / 4096) (m % 4096) (by omega) (Nat.mod_lt _ (by decide))
    rw [show m / 4096 * 4096 + m % 4096 = m by omega] at h
    rw [bitAnd_pp (by omega) (by decide)]
    simp only [Int.toNat_natCast]
    exact congrArg Int.ofNat h
  have hq : m / 4096 < 16 := by omega
  have : ∀ b : Int, hit (m : Int) 0 b = (((m / 4096 * 4096 : Nat) : Int) == b) := fun b => by unfold hit; rw [if_pos (by rfl), e]
  unfold pick
  simp only [this]
  generalize m / 4096 = q at hq
  revert q
  decide +kernel
theorem join_ones (l : List Nat) : Txt.join "" (l.map fun c => tx [c]) = tx l := by
  cases l with
  | nil => rfl
  | cons a r =>
    show (⟨(r.map fun c => tx [c]).foldl (fun acc p => acc ++ (Str.ofString "").cps ++ p.cps) #[a]⟩ : Str) = ⟨(a :: r).toArray⟩
    have key : ∀ (r : List Nat) (acc : List Nat), (r.map fun c => tx [c]).foldl (fun acc p => acc ++ (Str.ofString "").cps ++ p.cps) acc.toArray = (acc ++ r).toArray := by
      intro r
      induction r with
      | nil => intro acc; simp
      | cons b r ih =>
        intro acc
        rw [List.map_cons, List.foldl_cons]
        have : acc.toArray ++ (Str.ofString "").cps ++ (tx [b]).cps = (acc ++ [b]).toArray := by
          have e : (Str.ofString "").cps = #[] := by decide +kernel
          rw [e]; simp [tx]
        rw [this, ih]; simp
    exact congrArg Str.mk (key r [a])

def triL (m share above mark upper : Nat) : List Nat := [if 4 ≤ m / share % 8 then 114 else 45, if 2 ≤ m / share % 8 % 4 then 119 else 45, if m / above % 2 = 0 then (if m / share % 8 % 2 = 1 then 120 else 45) else (if m / share % 8 % 2 = 1 then mark else upper)]
def shareL : List Nat := [64, 8, 1]
def aboveL : List Nat := [2048, 1024, 512]
def markL : List Nat := [115, 115, 116]
def upperL : List Nat := [83, 83, 84]
def triI (m i : Nat) : List Nat := triL m (shareL.getD i 0) (aboveL.getD i 0) (markL.getD i 0) (upperL.getD i 0)
def sgP (m i : Nat) : List Nat := kindL (m / 4096) :: (List.range i).flatMap (triI m)
def sgL (m : Nat) : List Nat := sgP m 3
theorem sgP_succ (m i : Nat) : sgP m (i + 1) = sgP m i ++ triI m i := by unfold sgP; rw [List.range_succ, List.flatMap_append]; simp
theorem triI_len (m i : Nat) : (triI m i).length = 3 := rfl
theorem sgP_len (m i : Nat) : (sgP m i).length = 3 * i + 1 := by
  induction i with
  | zero => rfl
  | succ i ih => rw [sgP_succ, List.length_append, ih, triI_len]; omega
theorem bit_d (m k : Nat) : m.testBit k = decide (m / 2 ^ k % 2 = 1) := Nat.testBit_eq_decide_div_mod_eq
theorem bit2 (q : Nat) : q / 4 % 2 = 1 ↔ 4 ≤ q % 8 := by omega
theorem bit1 (q : Nat) : q / 2 % 2 = 1 ↔ 2 ≤ q % 8 % 4 := by omega
theorem bit0 (q : Nat) : q % 2 = 1 ↔ q % 8 % 2 = 1 := by omega
theorem sg_r (m k i : Nat) (hi : i ≠ 0) (x : Str) (hx : x = tx [114]) : pick (m : Int) i [(((2 ^ (k + 2) : Nat) : Int), x)] = tx [if 4 ≤ m / 2 ^ k % 8 then 114 else 45] := by
  rw [pickB1 _ _ _ _ hi, bit_d, Nat.pow_add, ← Nat.div_div_eq_div_mul, hx]
  by_cases q : 4 ≤ m / 2 ^ k % 8
  · rw [if_pos q, if_pos (decide_eq_true ((bit2 _).mpr q))]
  · rw [if_neg q, if_neg (by rw [decide_eq_true_eq]; exact fun z => q ((bit2 _).mp z))]; rfl
theorem sg_w (m k i : Nat) (hi : i ≠ 0) (x : Str) (hx : x = tx [119]) : pick (m : Int) i [(((2 ^ (k + 1) : Nat) : Int), x)] = tx [if 2 ≤ m / 2 ^ k % 8 % 4 then 119 else 45] := by
  rw [pickB1 _ _ _ _ hi, bit_d, Nat.pow_add, ← Nat.div_div_eq_div_mul, hx]
  by_cases q : 2 ≤ m / 2 ^ k % 8 % 4
  · rw [if_pos q, if_pos (decide_eq_true ((bit1 _).mpr q))]
  · rw [if_neg q, if_neg (by rw [decide_eq_true_eq]; exact fun z => q ((bit1 _).mp z))]; rfl
theorem sg_x (m a k i lo up : Nat) (hi : i ≠ 0) (hak : a ≠ k) (x y z : Str) (hx : x = tx [lo]) (hy : y = tx [up]) (hz : z = tx [120]) : pick (m : Int) i [(((2 ^ a ||| 2 ^ k : Nat) : Int), x), (((2 ^ a : Nat) : Int), y), (((2 ^ k : Nat) : Int), z)] = tx [if m / 2 ^ a % 2 = 0 then (if m / 2 ^ k % 8 % 2 = 1 then 120 else 45) else (if m / 2 ^ k % 8 % 2 = 1 then lo else up)] := by
  rw [pickB3 _ _ _ _ _ _ _ hi hak, bit_d, bit_d, hx, hy, hz]
  have e0 := bit0 (m / 2 ^ k)
  by_cases p : m / 2 ^ a % 2 = 0
  · rw [if_pos p, if_neg (by rw [decide_eq_true_eq]; omega)]
    by_cases q : m / 2 ^ k % 8 % 2 = 1
    · rw [if_pos q, if_pos (decide_eq_true (e0.mpr q))]
    · rw [if_neg q, if_neg (by rw [decide_eq_true_eq]; exact fun z => q (e0.mp z))]; rfl
  · rw [if_neg p, if_pos (decide_eq_true (by omega))]
    by_cases q : m / 2 ^ k % 8 % 2 = 1
    · rw [if_pos q, if_pos (decide_eq_true (e0.mpr q))]
    · rw [if_neg q, if_neg (by rw [decide_eq_true_eq]; exact fun z => q (e0.mp z))]
theorem listing_sg (m : Nat) (hm : m < 65536) : listing (m : Int) = tx (sgL m) := by
  unfold listing
  rw [← join_ones]
  congr 1
  show [pick _ 0 kindRow, pick _ 1 [(((2 ^ (6 + 2) : Nat) : Int), _)], pick _ 2 [(((2 ^ (6 + 1) : Nat) : Int), _)], pick _ 3 [(((2 ^ 11 ||| 2 ^ 6 : Nat) : Int), _), (((2 ^ 11 : Nat) : Int), _), (((2 ^ 6 : Nat) : Int), _)], pick _ 4 [(((2 ^ (3 + 2) : Nat) : Int), _)], pick _ 5 [(((2 ^ (3 + 1) : Nat) : Int), _)], pick _ 6 [(((2 ^ 10 ||| 2 ^ 3 : Nat) : Int), _), (((2 ^ 10 : Nat) : Int), _), (((2 ^ 3 : Nat) : Int), _)], pick _ 7 [(((2 ^ (0 + 2) : Nat) : Int), _)], pick _ 8 [(((2 ^ (0 + 1) : Nat) : Int), _)], pick _ 9 [(((2 ^ 9 ||| 2 ^ 0 : Nat) : Int), _), (((2 ^ 9 : Nat) : Int), _), (((2 ^ 0 : Nat) : Int), _)]] = [tx [_], tx [_], tx [_], tx [_], tx [_], tx [_], tx [_], tx [_], tx [_], tx [_]]
  rw [pick_kind m hm, sg_r m 6 1 (by decide) _ (by decide +kernel), sg_w m 6 2 (by decide) _ (by decide +kernel), sg_x m 11 6 3 115 83 (by decide) (by decide) _ _ _ (by decide +kernel) (by decide +kernel) (by decide +kernel),
    sg_r m 3 4 (by decide) _ (by decide +kernel), sg_w m 3 5 (by decide) _ (by decide +kernel), sg_x m 10 3 6 115 83 (by decide) (by decide) _ _ _ (by decide +kernel) (by decide +kernel) (by decide +kernel),
    sg_r m 0 7 (by decide) _ (by decide +kernel), sg_w m 0 8 (by decide) _ (by decide +kernel), sg_x m 9 0 9 116 84 (by decide) (by decide) _ _ _ (by decide +kernel) (by decide +kernel) (by decide +kernel)]
  rfl
end Mine
end

section
open PySem PySem.W PyProof.Rows
namespace Mine
theorem nat_xor (x : Nat) : ∀ y, x + y = (x ^^^ y) + 2 * (x &&& y) := by
  induction x using Nat.strongRecOn with
  | ind x ih =>
    intro y
    by_cases hx : x = 0
    · subst hx; simp
    · have h := ih (x / 2) (by omega) (y / 2)
      have e1 : (x ^^^ y) / 2 = (x / 2) ^^^ (y / 2) := Nat.xor_div_two
      have e2 : (x &&& y) / 2 = (x / 2) &&& (y / 2) := Nat.and_div_two
      have e3 : (x ^^^ y) % 2 = (x % 2) ^^^ (y % 2) := by
        have := Nat.xor_mod_two_pow (a := x) (b := y) (n := 1)
        rwa [show 2 ^ 1 = 2 from rfl] at this
      have e4 : (x &&& y) % 2 = (x % 2) * (y % 2) := by
        have := Nat.and_mod_two_pow (a := x) (b := y) (n := 1)
        rw [show 2 ^ 1 = 2 from rfl] at this
        rw [this]
        rcases Nat.mod_two_eq_zero_or_one x with a | a <;> rcases Nat.mod_two_eq_zero_or_one y with b | b <;> rw [a, b] <;> rfl
      rw [← e1, ← e2] at h
      rcases Nat.mod_two_eq_zero_or_one x with a | a <;> rcases Nat.mod_two_eq_zero_or_one y with b | b <;> rw [a, b] at e3 e4
      · have e3' : (x ^^^ y) % 2 = 0 := e3
        have e4' : (x &&& y) % 2 = 0 := e4
        omega
      · have e3' : (x ^^^ y) % 2 = 1 := e3
        have e4' : (x &&& y) % 2 = 0 := e4
        omega
      · have e3' : (x ^^^ y) % 2 = 1 := e3
        have e4' : (x &&& y) % 2 = 0 := e4
        omega
      · have e3' : (x ^^^ y) % 2 = 0 := e3
        have e4' : (x &&& y) % 2 = 1 := e4
        omega
theorem bitXor_nat (a b : Nat) : Builtin.bitXor (a : Int) (b : Int) = ((a ^^^ b : Nat) : Int) := by
  rw [bitXor_and, bitAnd_pp (by omega) (by omega)]
  have := nat_xor a b
  simp only [Int.toNat_natCast]
  omega
end Mine
end

section
open PySem PySem.W PyProof.Rows PySem.Calls PySem.StrLaws Builtin.Str
set_option Elab.async false
set_option linter.unusedVariables false
set_option maxRecDepth 100000
namespace Mine
theorem occ_run (x : Str) (c limit : Nat) : ∀ (k lo : Nat) (st : Array Nat × Nat), lo + k = x.length + 1 → st.snd ≤ lo → st.fst.size + k ≤ limit → (forIn (List.range' lo k) st (occBody x ⟨#[c]⟩ x.length limit)).run.fst.size = st.fst.size + (x.cps.toList.drop lo).count c := by
  intro k
  induction k with
  | zero =>
    intro lo st h1 h2 h3
    have q : x.length = x.cps.toList.length := by simp [Str.length]
    have : x.cps.toList.drop lo = [] := List.drop_eq_nil_of_le (by omega)
    rw [this]; rfl
  | succ k ih =>
    intro lo st h1 h2 h3
    rw [List.range'_succ, List.forIn_cons]
    have so := subAt_one x c lo
    unfold occBody
    by_cases hc : lo + (⟨#[c]⟩ : Str).length ≤ x.length ∧ subAt x ⟨#[c]⟩ lo = true
    · rw [if_pos ⟨⟨⟨by omega, h2⟩, hc.1⟩, hc.2⟩]
      have e := so.mp hc
      obtain ⟨hlt, e2⟩ := List.getElem?_eq_some_iff.mp e
      have := ih (lo + 1) (st.fst.push lo, lo + 1) (by omega) (Nat.le_refl _) (by simp; omega)
      refine Eq.trans this ?_
      rw [List.drop_eq_getElem_cons hlt, e2, List.count_cons_self, Array.size_push]
      omega
    · rw [if_neg (fun z => hc ⟨z.1.2, z.2⟩)]
      have := ih (lo + 1) (st.fst, st.snd) (by omega) (by show st.snd ≤ lo + 1; omega) (by show st.fst.size + k ≤ limit; omega)
      refine Eq.trans this ?_
      by_cases hlt : lo < x.cps.toList.length
      · rw [List.drop_eq_getElem_cons hlt, List.count_cons_of_ne]
        intro z
        exact hc (so.mpr (List.getElem?_eq_some_iff.mpr ⟨hlt, z⟩))
      · rw [List.drop_eq_nil_of_le (by omega), List.drop_eq_nil_of_le (by omega)]
theorem count_tx (l : List Nat) (c : Nat) : Txt.count (tx l) (tx [c]) = ((l.count c : Nat) : Int) := by
  unfold Txt.count
  show (((occurrences (tx l) ⟨#[c]⟩ 0 (tx l).length ((tx l).length + 1)).length : Nat) : Int) = _
  rw [occ_eq, Array.length_toList, occ_run (tx l) c _ _ 0 _ (by simp) (Nat.le_refl _) (by simp)]
  simp [tx_list]
end Mine
end

section
open PySem PySem.W PyProof.Rows PySem.Calls
set_option Elab.async false
set_option linter.unusedVariables false
set_option maxRecDepth 100000
namespace Mine
theorem sgL_len (m : Nat) : (sgL m).length = 10 := sgP_len m 3
def turnP (cd t : List Nat) (i : Nat) : Bool := decide (i ∈ cd) != decide (i ∈ t)
def rightsP (cd t : List Nat) : Nat → Nat
  | 0 => 0
  | i + 1 => rightsP cd t i + if turnP cd t i = true then 2 ^ i else 0
theorem rightsP_lt (cd t : List Nat) (i : Nat) : rightsP cd t i < 2 ^ i := by
  induction i with
  | zero => exact Nat.one_pos
  | succ i ih =>
    unfold rightsP
    rw [Nat.pow_succ]
    split <;> omega
def modeR (r : Row1) : Nat := r.kind * 4096 + rightsP (codedL r.code) r.turned 12
theorem modeR_lt {r : Row1} (o : RowOk r) : modeR r < 65536 := by
  have h1 := rightsP_lt (codedL r.code) r.turned 12
  have h2 := o.kind
  unfold modeR
  omega
def chunk1 (r : Row1) : List Nat := wrL (sgL (modeR r)) r.manner
theorem wrL_len (l : List Nat) (m : Nat) : (wrL l m).length ≤ 2 * l.length + 3 := by
  unfold wrL
  have := esc_len l
  split
  · rw [List.length_append]; show _ + 1 ≤ _; omega
  · split
    · rw [List.length_append, List.length_append]; show 1 + _ + 1 ≤ _; omega
    · split
      · rw [List.length_append]; show _ + 1 ≤ _; omega
      · rw [List.length_append, List.length_append]; show 2 + _ + 1 ≤ _; omega
theorem chunk1_len (r : Row1) : (chunk1 r).length ≤ 23 := by
  have := wrL_len (sgL (modeR r)) r.manner
  rw [sgL_len] at this
  exact this
theorem flat1_len (rs : List Row1) : (rs.flatMap chunk1).length ≤ 23 * rs.length := by
  induction rs with
  | nil => exact Nat.le_refl _
  | cons r rs ih => rw [List.flatMap_cons, List.length_append, List.length_cons]; have := chunk1_len r; omega
def xorP (t : List Nat) (i : Nat) : Nat := (t.take i).foldl (· ^^^ ·) 0
def xorL (t : List Nat) : Nat := t.foldl (· ^^^ ·) 0
def dueCode (r : Row1) : Int := if r.turned.length < 2 then (r.code : Nat) else -1
def dueR (r : Row1) (text : List Nat) : PyData := .tuple [.str (tx [kindL r.kind]), .int (r.turned.length : Nat), .int (dueCode r), .int (xorL r.turned : Nat), .int (1 + (text.count 10 : Nat))]
def textP (rs : List Row1) (i : Nat) : List Nat := (rs.take i).flatMap chunk1
def dueP (rs : List Row1) (i : Nat) : List PyData := (List.range i).map fun j => dueR (rs.getD j ⟨0, 0, [], 0⟩) (textP rs (j + 1))
section
variable {prog : Program} {w : World} {n : Nat} {X : Addr → Prop} {mg mb : Str → Option Value} {h : Heap}
theorem g_range (B : BB w mg mb h) : mg (Str.ofString "range") = none := B.mg rfl rfl
theorem g_filemode (B : BB w mg mb h) : mg (Str.ofString "filemode") = some (.ref 68) := B.mg rfl rfl
theorem g_coded (B : BB w mg mb h) : mg (Str.ofString "_law_coded") = some (.ref 131) := B.mg rfl rfl
theorem g_written (B : BB w mg mb h) : mg (Str.ofString "_law_written") = some (.ref 136) := B.mg rfl rfl
theorem Inp.addN {a b : Nat} : Inp prog w n X .Add (.d (.int (a : Nat))) (.d (.int (b : Nat))) (.d (.int ((a + b : Nat) : Int))) := by
  rw [Int.natCast_add]; exact Inp.add
theorem Bin.xorN {a b : Nat} : Bin prog w n X .BitXor (.d (.int (a : Nat))) (.d (.int (b : Nat))) (.d (.int ((a ^^^ b : Nat) : Int))) := by
  rw [← bitXor_nat]; exact Bin.xor
theorem upto_get {k i : Nat} {d : PyData} (hd : (upto k)[i]? = some d) : i < k ∧ d = .int (i : Nat) := by
  unfold upto at hd
  rw [List.getElem?_map] at hd
  obtain ⟨j, hj, rfl⟩ := Option.map_eq_some_iff.mp hd
  obtain ⟨hlt, e⟩ := List.getElem?_eq_some_iff.mp hj
  rw [List.length_range] at hlt
  rw [List.getElem_range] at e
  subst e
  exact ⟨hlt, rfl⟩
theorem nums_get {l : List Nat} {i : Nat} {d : PyData} (hd : (nums l)[i]? = some d) : ∃ p, l[i]? = some p ∧ d = .int (p : Nat) := by
  unfold nums at hd
  rw [List.getElem?_map] at hd
  obtain ⟨p, hp, rfl⟩ := Option.map_eq_some_iff.mp hd
  exact ⟨p, hp, rfl⟩
theorem xorP_succ {t : List Nat} {i p : Nat} (hp : t[i]? = some p) : xorP t (i + 1) = xorP t i ^^^ p := by
  unfold xorP
  rw [List.take_add_one, hp, List.foldl_append]; rfl
theorem dueP_len (rs : List Row1) (i : Nat) : (dueP rs i).length = i := by simp [dueP]
set_option maxHeartbeats 4000000 in
theorem lawSent (B : BB w mg mb h) (av : Av X h) (rs : List Row1) (ok : ∀ r ∈ rs, RowOk r) (hn : rs.length ≤ 10) : CallR prog w 3 X h (.ref 143) [.d (.list (rs.map row1D))] (.d (.tuple [.str (tx (rs.flatMap chunk1)), .list (dueP rs rs.length)])) := by
  refine CallR.def_ av (B.at rfl) rfl B.nolimit ⟨_, _, _, _, rfl, B.at rfl, rfl, rfl⟩ rfl rfl (names := [Str.ofString "rows"]) rfl nodup1 rfl rfl (notOwn_d notOwn_nil) (bind1 fun v => rfl) ?_
  rintro X ⟨_, h₀, _, Z⟩ C
  have c := Cx.called B C
  obtain ⟨⟨L, rfl⟩, hx, rfl, av⟩ := C
  let st : Nat → Loc := fun i => ⟨[(Str.ofString "text", .d (.str (tx (textP rs i)))), (Str.ofString "due", .own (dueP rs i))], []⟩
  refine Ex.then_ ⟨[(Str.ofString "rows", .d (.list (rs.map row1D))), (Str.ofString "text", .d (.str (tx [])))], []⟩ (Ex1.assign rfl Ev.str (fun _ z => by cases z) (Sub.of ⟨rfl, rfl, trivial⟩)) ?_
  refine Ex.then_ ⟨[(Str.ofString "rows", .d (.list (rs.map row1D))), (Str.ofString "text", .d (.str (tx []))), (Str.ofString "due", .own [])], []⟩ (Ex1.assignOwn rfl (ds := []) (fun _ _ _ => .nil) (Sub.of ⟨rfl, rfl, rfl, trivial⟩)) ?_
  refine Ex.then_ (st (rs.map row1D).length) ?_ ?_
  · refine Ex1.forN (ds := rs.map row1D) st ?_ ?_ ?_ (fun i d hd => ?_) ?_ ?_
    · exact Ev.itList (Ev.name rfl) True
    · rfl
    · exact Sub.of ⟨rfl, rfl, trivial⟩
    · rw [List.getElem?_map] at hd
      obtain ⟨r, hr, rfl⟩ := Option.map_eq_some_iff.mp hd
      have hlt := (List.getElem?_eq_some_iff.mp hr).1
      have o := ok r (List.mem_of_getElem? hr)
      have ht : textP rs (i + 1) = textP rs i ++ chunk1 r := by
        unfold textP
        rw [List.take_add_one, hr, List.flatMap_append]
        simp
      have hdu : dueP rs (i + 1) = dueP rs i ++ [dueR r (textP rs i ++ chunk1 r)] := by
        have e : rs.getD i ⟨0, 0, [], 0⟩ = r := by simp [List.getD, hr]
        unfold dueP
        rw [List.range_succ, List.map_append, List.map_cons, List.map_nil, e, ht]
      have tl : (textP rs i).length ≤ 230 := by
        have := flat1_len (rs.take i)
        rw [List.length_take] at this
        unfold textP
        omega
      have dl : (dueP rs i).length ≤ 10 := by rw [dueP_len]; omega
      refine ⟨_, rfl, ?_⟩
      refine Ex.sub (ρ' := ⟨[(Str.ofString "text", .d (.str (tx (textP rs i)))), (Str.ofString "due", .own (dueP rs i)), (Str.ofString "code", .d (.int (r.code : Nat))), (Str.ofString "kind", .d (.int (r.kind : Nat))), (Str.ofString "turned", .d (.list (nums r.turned))), (Str.ofString "manner", .d (.int (r.manner : Nat)))], []⟩) (Sub.of ⟨rfl, rfl, rfl, rfl, rfl, rfl, trivial⟩) ?_
      show Ex _ _ _ _ _ _ (Nx ⟨[(Str.ofString "text", .d (.str (tx (textP rs (i + 1))))), (Str.ofString "due", .own (dueP rs (i + 1)))], []⟩)
      rw [ht, hdu]
      generalize textP rs i = tp at tl ⊢
      generalize dueP rs i = du at dl ⊢
      let b0 : List (Str × AV) := [(Str.ofString "text", .d (.str (tx tp))), (Str.ofString "due", .own du), (Str.ofString "code", .d (.int (r.code : Nat))), (Str.ofString "kind", .d (.int (r.kind : Nat))), (Str.ofString "turned", .d (.list (nums r.turned))), (Str.ofString "manner", .d (.int (r.manner : Nat)))]
      let cd := codedL r.code
      refine Ex.then_ ⟨b0 ++ [(Str.ofString "there", AV.d (.list (nums cd)))], []⟩ ?_ ?_
      · refine Ex1.assign (a := .d (.list (nums cd))) rfl ?_ (fun _ z => by cases z) (Sub.of ⟨rfl, rfl, rfl, rfl, rfl, rfl, rfl, trivial⟩)
        exact c.call (c.glob (g_coded B)) (EvS.cons (Ev.name (a := .d (.int (r.code : Nat))) rfl) EvS.nil) (B.at rfl) fun X av => (lawCoded B av r.code).le (by decide)
      let st2 : Nat → Loc := fun j => ⟨b0 ++ [(Str.ofString "there", AV.d (.list (nums cd))), (Str.ofString "mode", AV.d (.int ((r.kind * 4096 + rightsP cd r.turned j : Nat) : Int)))], []⟩
      refine Ex.then_ (st2 0) ?_ ?_
      · refine Ex1.assign (a := .d (.int ((r.kind * 4096 : Nat) : Int))) rfl ?_ (fun _ z => by cases z) (Sub.of ⟨rfl, rfl, rfl, rfl, rfl, rfl, rfl, rfl, trivial⟩)
        exact Ev.eq (Ev.bin (Ev.name (a := .d (.int (r.kind : Nat))) rfl) (Ev.int (i := (4096 : Nat))) fun X => Bin.mul (IntMulOk.of_right (show Builtin.Int.intBits ((4096 : Nat) : Int) ≤ 64 by decide +kernel))) (by rw [Int.natCast_mul])
      refine Ex.then_ (st2 12) ?_ ?_
      · refine Ex1.forN (ds := upto 12) st2 ?_ ?_ ?_ (fun j d hd => ?_) ?_ ?_
        · exact c.range (k := 12) (g_range B) Ev.int rfl (by decide) True
        · rfl
        · exact Sub.refl _
        · obtain ⟨hj, rfl⟩ := upto_get hd
          refine ⟨_, rfl, ?_⟩
          refine Ex.sub (ρ' := ⟨b0 ++ [(Str.ofString "there", AV.d (.list (nums cd))), (Str.ofString "mode", AV.d (.int ((r.kind * 4096 + rightsP cd r.turned j : Nat) : Int))), (Str.ofString "place", AV.d (.int (j : Nat)))], []⟩) (Sub.of ⟨rfl, rfl, rfl, rfl, rfl, rfl, rfl, rfl, rfl, trivial⟩) ?_
          show Ex _ _ _ _ _ _ (Nx ⟨b0 ++ [(Str.ofString "there", AV.d (.list (nums cd))), (Str.ofString "mode", AV.d (.int ((r.kind * 4096 + (rightsP cd r.turned j + if turnP cd r.turned j = true then 2 ^ j else 0) : Nat) : Int)))], []⟩)
          rw [← Nat.add_assoc]
          generalize r.kind * 4096 + rightsP cd r.turned j = md
          refine Ex.cons (Ex1.if_ (c := turnP cd r.turned j) ?_ (fun hb => ?_) (fun hb => ?_))
          · refine EvT.cmp (Ev.cmp (Ev.name (a := .d (.int (j : Nat))) rfl) (Ev.name (a := .d (.list (nums cd))) rfl) fun X => Cmp.inNums rfl) (Ev.cmp (Ev.name (a := .d (.int (j : Nat))) rfl) (Ev.name (a := .d (.list (nums r.turned))) rfl) fun X => Cmp.inNums rfl) fun X => Cmp.bne
          · rw [if_pos hb]
            refine Ex.cons (Ex1.aug (a := .d (.int (md : Nat))) (b := .d (.int ((2 ^ j : Nat) : Int))) (c := .d (.int ((md + 2 ^ j : Nat) : Int))) rfl rfl ?_ (fun X => Inp.addN) (fun _ z => by cases z) (Ex.nil (Ex.nil (Sub.of ⟨rfl, rfl, rfl, rfl, rfl, rfl, rfl, rfl, trivial⟩))))
            exact Ev.bin Ev.int (Ev.name (a := .d (.int (j : Nat))) rfl) fun X => Bin.powN (by omega)
          · rw [hb]
            exact Ex.nil (Ex.nil (Sub.of ⟨rfl, rfl, rfl, rfl, rfl, rfl, rfl, rfl, trivial⟩))
        · exact Sub.refl _
        · intro _; rfl
      have hm := modeR_lt o
      have cl := chunk1_len r
      refine Ex.then_ ⟨[(Str.ofString "text", .d (.str (tx (tp ++ chunk1 r)))), (Str.ofString "due", .own du), (Str.ofString "code", .d (.int (r.code : Nat))), (Str.ofString "kind", .d (.int (r.kind : Nat))), (Str.ofString "turned", .d (.list (nums r.turned)))], []⟩ ?_ ?_
      · refine Ex1.aug (a := .d (.str (tx tp))) (b := .d (.str (tx (chunk1 r)))) (c := .d (.str (tx (tp ++ chunk1 r)))) rfl rfl ?_ (fun X => Inp.tx (by omega)) (fun _ z => by cases z) (Sub.of ⟨rfl, rfl, rfl, rfl, rfl, trivial⟩)
        refine c.call (c.glob (g_written B)) (EvS.cons (a := .d (.str (tx (sgL (modeR r))))) ?_ (EvS.cons (Ev.name (a := .d (.int (r.manner : Nat))) rfl) EvS.nil)) (B.at rfl) fun X av => (lawWritten B av _ _ (by rw [sgL_len]; exact Nat.le_refl _)).le (by decide)
        exact Ev.eq (c.call (c.glob (g_filemode B)) (EvS.cons (Ev.name (a := .d (.int (modeR r : Nat))) rfl) EvS.nil) (B.at rfl) fun X av => filemode_call B av _) (by rw [listing_sg _ hm])
      let st3 : Nat → Loc := fun j => ⟨[(Str.ofString "text", .d (.str (tx (tp ++ chunk1 r)))), (Str.ofString "due", .own du), (Str.ofString "code", .d (.int (r.code : Nat))), (Str.ofString "kind", .d (.int (r.kind : Nat))), (Str.ofString "turned", .d (.list (nums r.turned))), (Str.ofString "told", .d (.int (xorP r.turned j : Nat)))], []⟩
      refine Ex.then_ (st3 0) (Ex1.assign (a := .d (.int (0 : Nat))) rfl Ev.int (fun _ z => by cases z) (Sub.of ⟨rfl, rfl, rfl, rfl, rfl, rfl, trivial⟩)) ?_
      refine Ex.then_ (st3 (nums r.turned).length) ?_ ?_
      · refine Ex1.forN (ds := nums r.turned) st3 ?_ ?_ ?_ (fun j d hd => ?_) ?_ ?_
        · exact Ev.itList (Ev.name rfl) True
        · rfl
        · exact Sub.refl _
        · obtain ⟨p, hp, rfl⟩ := nums_get hd
          refine ⟨_, rfl, Ex.cons (Ex1.assign (a := .d (.int ((xorP r.turned j ^^^ p : Nat) : Int))) rfl (Ev.bin (Ev.name (a := .d (.int (xorP r.turned j : Nat))) rfl) (Ev.name (a := .d (.int (p : Nat))) rfl) fun X => Bin.xorN) (fun _ z => by cases z) (Ex.nil (Sub.of ⟨rfl, rfl, rfl, rfl, rfl, ?_, trivial⟩)))⟩
          rw [xorP_succ hp]; rfl
        · exact Sub.refl _
        · intro _; rfl
      rw [nums_len]
      have hxor : xorP r.turned r.turned.length = xorL r.turned := by unfold xorP xorL; rw [List.take_length]
      show Ex _ _ _ _ ⟨[(Str.ofString "text", .d (.str (tx (tp ++ chunk1 r)))), (Str.ofString "due", .own du), (Str.ofString "code", .d (.int (r.code : Nat))), (Str.ofString "kind", .d (.int (r.kind : Nat))), (Str.ofString "turned", .d (.list (nums r.turned))), (Str.ofString "told", .d (.int (xorP r.turned r.turned.length : Nat)))], []⟩ _ _
      rw [hxor]
      refine Ex.then_ ⟨[(Str.ofString "text", .d (.str (tx (tp ++ chunk1 r)))), (Str.ofString "due", .own du), (Str.ofString "code", .d (.int (r.code : Nat))), (Str.ofString "turned", .d (.list (nums r.turned))), (Str.ofString "told", .d (.int (xorL r.turned : Nat))), (Str.ofString "sign", .d (.str (tx [kindL r.kind])))], []⟩ ?_ ?_
      · refine Ex1.assign (a := .d (.str (tx [kindL r.kind]))) rfl ?_ (fun _ z => by cases z) (Sub.of ⟨rfl, rfl, rfl, rfl, rfl, rfl, trivial⟩)
        refine Ev.sub (a := .d (.str (tx kindsL))) (i := .d (.int (r.kind : Nat))) Ev.str (Ev.name rfl) (fun X => GetI.tx (c := kindL r.kind) ?_ (by decide)) (by intro o i; exact ⟨_, rfl⟩)
        unfold kindL List.getD
        rw [List.getElem?_eq_getElem (show r.kind < kindsL.length from o.kind)]; rfl
      have hlen := o.len
      refine Ex.cons (Ex1.append (xs := du) (d := dueR r (tp ++ chunk1 r)) rfl ?_ (Ex.nil (Sub.of ⟨rfl, rfl, trivial⟩)) (Nat.le_trans dl (by decide)))
      refine Ev.tuple (EvS.cons (Ev.name (a := .d (.str (tx [kindL r.kind]))) rfl) (EvS.cons ?_ (EvS.cons ?_ (EvS.cons (Ev.name (a := .d (.int (xorL r.turned : Nat))) rfl) (EvS.cons ?_ EvS.nil))))) (show 5 ≤ sizeLine by decide)
      · exact Ev.eq (c.len (g_len B) (Ev.name (a := .d (.list (nums r.turned))) rfl) rfl (by rw [nums_len]; omega)) (by rw [nums_len])
      · refine Ev.eq (Ev.ifExp (c := decide (r.turned.length < 2)) (x := .d (.int (r.code : Nat))) (y := .d (.int (-1))) ?_ (fun _ => Ev.name rfl) (fun _ => Ev.neg Ev.int)) ?_
        · refine EvT.eq (EvT.cmp (c.len (g_len B) (Ev.name (a := .d (.list (nums r.turned))) rfl) rfl (by rw [nums_len]; omega)) Ev.int fun X => Cmp.ilt) ?_
          rw [nums_len]
          exact decide_eq_decide.mpr (by omega)
        · unfold dueCode
          by_cases e : r.turned.length < 2 <;> simp [e]
      · exact Ev.bin Ev.int (Ev.eq (Ev.scount (y := tx (tp ++ chunk1 r)) (z := tx [10]) (Ev.name rfl) Ev.str) (by rw [count_tx])) fun X => Bin.add
    · exact Sub.refl _
    · intro _; rfl
  rw [List.length_map]
  have e : textP rs rs.length = rs.flatMap chunk1 := by unfold textP; rw [List.take_length]
  show Ex _ _ _ _ ⟨[(Str.ofString "text", .d (.str (tx (textP rs rs.length)))), (Str.ofString "due", .own (dueP rs rs.length))], []⟩ _ _
  rw [e]
  refine Ex.thaw ?_
  exact Ex.cons (Ex1.ret (d := .tuple [.str (tx (rs.flatMap chunk1)), .list (dueP rs rs.length)]) (Ev.tuple (EvS.cons (Ev.name (a := .d (.str (tx (rs.flatMap chunk1)))) rfl) (EvS.cons (Ev.name (a := .d (.list (dueP rs rs.length))) rfl) EvS.nil)) (show 2 ≤ sizeLine by decide)) rfl)
end
end Mine
end

section
open PySem PySem.W PyProof.Rows PySem.Calls
set_option Elab.async false
set_option linter.unusedVariables false
set_option maxRecDepth 100000
namespace Mine
def plainS (c : Nat) : Bool := !isWs c && c != 34 && c != 92
theorem plainS_of {c : Nat} (h : plainS c = true) : isWs c = false ∧ c ≠ 34 ∧ c ≠ 92 := by
  unfold plainS at h
  simp only [Bool.and_eq_true, Bool.not_eq_true', bne_iff_ne, ne_eq] at h
  exact ⟨h.1.1, h.1.2, h.2⟩
theorem kind_plain (k : Nat) : plainS (kindL k) = true := by
  unfold kindL List.getD
  cases e : kindsL[k]? with
  | none => rfl
  | some c =>
    have : ∀ c ∈ kindsL, plainS c = true := by decide
    exact this c (List.mem_of_getElem? e)
theorem tri_plain (m i : Nat) (hi : i < 3) : ∀ c ∈ triI m i, plainS c = true := by
  have h : ∀ i < 3, plainS (markL.getD i 0) = true ∧ plainS (upperL.getD i 0) = true := by decide
  obtain ⟨h1, h2⟩ := h i hi
  intro c hc
  unfold triI triL at hc
  simp only [List.mem_cons, List.not_mem_nil, or_false] at hc
  rcases hc with rfl | rfl | rfl
  · split <;> decide
  · split <;> decide
  · split
    · split <;> decide
    · split
      · exact h1
      · exact h2
theorem sg_plain (m : Nat) : ∀ c ∈ sgL m, plainS c = true := by
  intro c hc
  unfold sgL sgP at hc
  rcases List.mem_cons.mp hc with rfl | hc
  · exact kind_plain _
  · obtain ⟨i, hi, hc⟩ := List.mem_flatMap.mp hc
    exact tri_plain m i (List.mem_range.mp hi) c hc
theorem gb_run (rest : List Nat) (z : Nat) (hz : isWs z = true) : ∀ (l tk : List Nat), (∀ c ∈ l, plainS c = true) → gb tk (l ++ z :: rest) = (tk ++ l, rest) := by
  intro l
  induction l with
  | nil => intro tk _; rw [List.append_nil]; exact gb_end hz
  | cons c r ih =>
    intro tk h
    obtain ⟨a, b, d⟩ := plainS_of (h c (List.mem_cons_self ..))
    show gb tk (c :: (r ++ z :: rest)) = _
    rw [gb_cons a d, ih _ fun x hx => h x (List.mem_cons_of_mem _ hx), List.append_assoc]; rfl
theorem gq_run (rest : List Nat) : ∀ (l tk : List Nat), (∀ c ∈ l, plainS c = true) → gq tk (l ++ 34 :: rest) = (tk ++ l, rest) := by
  intro l
  induction l with
  | nil => intro tk _; rw [List.append_nil]; exact gq_end ..
  | cons c r ih =>
    intro tk h
    obtain ⟨a, b, d⟩ := plainS_of (h c (List.mem_cons_self ..))
    show gq tk (c :: (r ++ 34 :: rest)) = _
    rw [gq_cons b d, ih _ fun x hx => h x (List.mem_cons_of_mem _ hx), List.append_assoc]; rfl
theorem gb_escs (rest : List Nat) : ∀ (l tk : List Nat), gb tk ((l.map fun c => [92, c]).flatten ++ 10 :: rest) = (tk ++ l, rest) := by
  intro l
  induction l with
  | nil => intro tk; rw [List.append_nil]; exact gb_end (by decide)
  | cons c r ih =>
    intro tk
    show gb tk (92 :: c :: ((r.map fun c => [92, c]).flatten ++ 10 :: rest)) = _
    rw [gb_esc]
    show gb (tk ++ [c]) ((r.map fun c => [92, c]).flatten ++ 10 :: rest) = _
    rw [ih, List.append_assoc]; rfl
theorem gt_bare (l rest : List Nat) (z : Nat) (hz : isWs z = true) (hp : ∀ c ∈ l, plainS c = true) (hl : l ≠ []) : gt (l ++ z :: rest) = (l, rest) := by
  cases l with
  | nil => exact absurd rfl hl
  | cons c r =>
    obtain ⟨a, b, d⟩ := plainS_of (hp c (List.mem_cons_self ..))
    show gt (c :: (r ++ z :: rest)) = _
    rw [gt_cons a b d, gb_run rest z hz r [c] fun x hx => hp x (List.mem_cons_of_mem _ hx)]; rfl
theorem gt_wr (l rest : List Nat) (m : Nat) (hp : ∀ c ∈ l, plainS c = true) (hl : l ≠ []) : gt (wrL l m ++ rest) = (l, rest) := by
  unfold wrL
  split
  · rw [List.append_assoc]; exact gt_bare l rest 32 (by decide) hp hl
  · split
    · rw [List.append_assoc, List.append_assoc]
      show gt (34 :: (l ++ 34 :: rest)) = _
      rw [gt_quo, gq_run rest _ [] hp]; rfl
    · split
      · rw [List.append_assoc]
        cases l with
        | nil => exact absurd rfl hl
        | cons c r =>
          show gt (92 :: c :: ((r.map fun c => [92, c]).flatten ++ 10 :: rest)) = _
          rw [gt_esc]
          show gb [c] ((r.map fun c => [92, c]).flatten ++ 10 :: rest) = _
          rw [gb_escs]; rfl
      · rw [List.append_assoc, List.append_assoc]
        show gt (10 :: 13 :: (l ++ 9 :: rest)) = _
        rw [gt_ws (by decide), gt_ws (by decide)]
        exact gt_bare l rest 9 (by decide) hp hl
theorem gt_flat1 (r : Row1) (rs : List Row1) : gt ((r :: rs).flatMap chunk1) = (sgL (modeR r), rs.flatMap chunk1) := by
  rw [List.flatMap_cons]
  exact gt_wr _ _ _ (sg_plain _) (fun e => by have := sgL_len (modeR r); rw [e] at this; cases this)
end Mine
end

section
open PySem PySem.W PyProof.Rows PySem.Calls
set_option Elab.async false
set_option linter.unusedVariables false
set_option maxRecDepth 100000
namespace Mine
def ordL : List Nat := [8, 7, 6, 11, 5, 4, 3, 10, 2, 1, 0, 9]
def xorR (l : List Nat) : Nat := l.foldr (· ^^^ ·) 0
theorem xorL_acc (l : List Nat) : ∀ a, l.foldl (· ^^^ ·) a = a ^^^ xorR l := by
  induction l with
  | nil => intro a; exact (Nat.xor_zero a).symm
  | cons b r ih => intro a; rw [List.foldl_cons, ih]; show a ^^^ b ^^^ xorR r = a ^^^ (b ^^^ xorR r); rw [Nat.xor_assoc]
theorem xorL_R (l : List Nat) : xorL l = xorR l := by unfold xorL; rw [xorL_acc, Nat.zero_xor]
theorem xorR_lin (a b : Nat → Bool) (l : List Nat) : xorR (l.filter fun p => a p != b p) = xorR (l.filter a) ^^^ xorR (l.filter b) := by
  induction l with
  | nil => show (0 : Nat) = 0 ^^^ 0; rw [Nat.xor_self]
  | cons p r ih =>
    have cns : ∀ x y : List Nat, xorR (p :: x) = p ^^^ xorR x := fun x _ => rfl
    rw [List.filter_cons, List.filter_cons, List.filter_cons]
    cases ha : a p <;> cases hb : b p <;> simp only [bne_self_eq_false, Bool.false_eq_true, if_false, if_true, Bool.true_bne, Bool.false_bne, Bool.not_false, Bool.not_true, cns _ []]
    · exact ih
    · rw [ih]; rw [← Nat.xor_assoc, Nat.xor_comm p, Nat.xor_assoc]
    · rw [ih, Nat.xor_assoc]
    · rw [ih, Nat.xor_comm p (xorR (r.filter a)), Nat.xor_assoc, ← Nat.xor_assoc p p, Nat.xor_self, Nat.zero_xor]
theorem len_lin (a b : Nat → Bool) (l : List Nat) : (l.filter fun p => a p != b p).length % 2 = ((l.filter a).length + (l.filter b).length) % 2 := by
  induction l with
  | nil => rfl
  | cons p r ih =>
    rw [List.filter_cons, List.filter_cons, List.filter_cons]
    cases ha : a p <;> cases hb : b p <;> simp only [bne_self_eq_false, Bool.false_eq_true, if_false, if_true, Bool.true_bne, Bool.false_bne, Bool.not_false, Bool.not_true, List.length_cons] <;> omega
theorem rights_bit (cd t : List Nat) (i : Nat) : ∀ p, (rightsP cd t i).testBit p = (decide (p < i) && turnP cd t p) := by
  induction i with
  | zero => intro p; unfold rightsP; simp
  | succ i ih =>
    intro p
    have hl := rightsP_lt cd t i
    unfold rightsP
    by_cases e : turnP cd t i = true
    · rw [if_pos e, Nat.add_comm]
      rcases Nat.lt_trichotomy p i with h | h | h
      · rw [Nat.testBit_two_pow_add_gt h, ih]
        have : decide (p < i) = decide (p < i + 1) := decide_eq_decide.mpr (by omega)
        rw [this]
      · subst h
        rw [Nat.testBit_two_pow_add_eq, ih, e]; simp
      · rw [Nat.testBit_lt_two_pow (show 2 ^ i + rightsP cd t i < 2 ^ p from Nat.lt_of_lt_of_le (show 2 ^ i + rightsP cd t i < 2 ^ (i + 1) by rw [Nat.pow_succ]; omega) (Nat.pow_le_pow_right (by decide) h))]
        rw [decide_eq_false (by omega)]; rfl
    · rw [if_neg e, Nat.add_zero, ih]
      by_cases h : p = i
      · subst h
        have e : turnP cd t p = false := by simpa using e
        rw [e]; simp
      · have : decide (p < i) = decide (p < i + 1) := decide_eq_decide.mpr (by omega)
        rw [this]
theorem mode_bit (r : Row1) (p : Nat) (hp : p < 12) : (modeR r).testBit p = turnP (codedL r.code) r.turned p := by
  unfold modeR
  have h12 := rightsP_lt (codedL r.code) r.turned 12
  have hb := rights_bit (codedL r.code) r.turned 12 p
  generalize rightsP (codedL r.code) r.turned 12 = x at h12 hb ⊢
  have e : r.kind * 4096 + x = 2 ^ 12 * r.kind + x := by omega
  rw [e, Nat.testBit_two_pow_mul_add _ h12, if_pos hp, hb, decide_eq_true hp, Bool.true_and]
end Mine
end

section
open PySem PySem.W PyProof.Rows PySem.Calls
set_option Elab.async false
set_option linter.unusedVariables false
set_option maxRecDepth 100000
namespace Mine
def tabL (place : Nat) : List Nat := if place % 3 = 0 then [45, 114] else if place % 3 = 1 then [45, 119] else if place = 8 then [45, 120, 84, 116] else [45, 120, 83, 115]
def upB (b : Nat → Bool) (place : Nat) : Bool := decide (place % 3 = 2) && b (11 - place / 3)
def figN (b : Nat → Bool) (place : Nat) : Nat := (if b (8 - place) = true then 1 else 0) + (if upB b place = true then 2 else 0)
theorem fig_odd (b : Nat → Bool) (place : Nat) : decide (figN b place % 2 = 1) = b (8 - place) := by
  unfold figN
  cases b (8 - place) <;> cases upB b place <;> rfl
theorem fig_two (b : Nat → Bool) (place : Nat) : decide (2 ≤ figN b place) = upB b place := by
  unfold figN
  cases b (8 - place) <;> cases upB b place <;> rfl
theorem tab0 {place : Nat} (h : place % 3 = 0) : tabL place = [45, 114] := if_pos h
theorem tab1 {place : Nat} (h : place % 3 = 1) : tabL place = [45, 119] := by
  unfold tabL
  rw [if_neg (show ¬ place % 3 = 0 by omega), if_pos h]
theorem tab2 {place : Nat} (h : place % 3 = 2) : (tabL place).length = 4 := by
  unfold tabL
  rw [if_neg (show ¬ place % 3 = 0 by omega), if_neg (show ¬ place % 3 = 1 by omega)]
  split <;> rfl
theorem up_no (b : Nat → Bool) {place : Nat} (h : ¬ place % 3 = 2) : upB b place = false := by
  unfold upB
  rw [decide_eq_false h, Bool.false_and]
theorem fig_lt (b : Nat → Bool) (place : Nat) : figN b place < (tabL place).length := by
  have : place % 3 = 0 ∨ place % 3 = 1 ∨ place % 3 = 2 := by omega
  rcases this with h | h | h
  · rw [tab0 h]
    unfold figN
    rw [up_no b (by omega)]
    cases b (8 - place) <;> decide
  · rw [tab1 h]
    unfold figN
    rw [up_no b (by omega)]
    cases b (8 - place) <;> decide
  · rw [tab2 h]
    unfold figN
    cases b (8 - place) <;> cases upB b place <;> decide
theorem bit_r (m k : Nat) : m.testBit (k + 2) = decide (4 ≤ m / 2 ^ k % 8) := by
  rw [bit_d, Nat.pow_add, ← Nat.div_div_eq_div_mul]; exact decide_eq_decide.mpr (bit2 _)
theorem bit_w (m k : Nat) : m.testBit (k + 1) = decide (2 ≤ m / 2 ^ k % 8 % 4) := by
  rw [bit_d, Nat.pow_add, ← Nat.div_div_eq_div_mul]; exact decide_eq_decide.mpr (bit1 _)
theorem bit_x (m k : Nat) : m.testBit k = decide (m / 2 ^ k % 8 % 2 = 1) := by
  rw [bit_d]; exact decide_eq_decide.mpr (bit0 _)
theorem sgn_r (m k place : Nat) (h : 8 - place = k + 2) (h3 : place % 3 = 0) : (if 4 ≤ m / 2 ^ k % 8 then 114 else 45) = (tabL place).getD (figN m.testBit place) 0 := by
  rw [tab0 h3]
  unfold figN
  rw [up_no m.testBit (by omega), h, bit_r]
  by_cases e : 4 ≤ m / 2 ^ k % 8
  · rw [if_pos e, decide_eq_true e]; rfl
  · rw [if_neg e, decide_eq_false e]; rfl
theorem sgn_w (m k place : Nat) (h : 8 - place = k + 1) (h3 : place % 3 = 1) : (if 2 ≤ m / 2 ^ k % 8 % 4 then 119 else 45) = (tabL place).getD (figN m.testBit place) 0 := by
  rw [tab1 h3]
  unfold figN
  rw [up_no m.testBit (by omega), h, bit_w]
  by_cases e : 2 ≤ m / 2 ^ k % 8 % 4
  · rw [if_pos e, decide_eq_true e]; rfl
  · rw [if_neg e, decide_eq_false e]; rfl
theorem sgn_x (m k a place lo up : Nat) (h : 8 - place = k) (h3 : place % 3 = 2) (ha : 11 - place / 3 = a) (ht : tabL place = [45, 120, up, lo]) : (if m / 2 ^ a % 2 = 0 then (if m / 2 ^ k % 8 % 2 = 1 then 120 else 45) else (if m / 2 ^ k % 8 % 2 = 1 then lo else up)) = (tabL place).getD (figN m.testBit place) 0 := by
  rw [ht]
  unfold figN upB
  rw [decide_eq_true h3, Bool.true_and, h, ha, bit_x m k, bit_d m a]
  by_cases e : m / 2 ^ a % 2 = 0
  · rw [if_pos e, decide_eq_false (show ¬ m / 2 ^ a % 2 = 1 by omega)]
    by_cases e1 : m / 2 ^ k % 8 % 2 = 1
    · rw [if_pos e1, decide_eq_true e1]; rfl
    · rw [if_neg e1, decide_eq_false e1]; rfl
  · rw [if_neg e, decide_eq_true (show m / 2 ^ a % 2 = 1 by omega)]
    by_cases e1 : m / 2 ^ k % 8 % 2 = 1
    · rw [if_pos e1, decide_eq_true e1]; rfl
    · rw [if_neg e1, decide_eq_false e1]; rfl
theorem sgn_at (m place : Nat) (hp : place < 9) : (sgL m).getD (1 + place) 0 = (tabL place).getD (figN m.testBit place) 0 := by
  have : place = 0 ∨ place = 1 ∨ place = 2 ∨ place = 3 ∨ place = 4 ∨ place = 5 ∨ place = 6 ∨ place = 7 ∨ place = 8 := by omega
  rcases this with rfl | rfl | rfl | rfl | rfl | rfl | rfl | rfl | rfl
  · exact sgn_r m 6 0 rfl rfl
  · exact sgn_w m 6 1 rfl rfl
  · exact sgn_x m 6 11 2 115 83 rfl rfl rfl rfl
  · exact sgn_r m 3 3 rfl rfl
  · exact sgn_w m 3 4 rfl rfl
  · exact sgn_x m 3 10 5 115 83 rfl rfl rfl rfl
  · exact sgn_r m 0 6 rfl rfl
  · exact sgn_w m 0 7 rfl rfl
  · exact sgn_x m 0 9 8 116 84 rfl rfl rfl rfl
theorem tab_occ : ∀ place < 9, ∀ f < (tabL place).length, Builtin.Str.occurrences (tx (tabL place)) (tx [(tabL place).getD f 0]) 0 (tx (tabL place)).length 1 = [f] := by decide +kernel
def stepB (b : Nat → Bool) (place : Nat) : List Nat := (if b (8 - place) = true then [8 - place] else []) ++ (if upB b place = true then [11 - place / 3] else [])
def thereB (b : Nat → Bool) (i : Nat) : List Nat := (List.range i).flatMap (stepB b)
theorem thereB_succ (b : Nat → Bool) (i : Nat) : thereB b (i + 1) = thereB b i ++ stepB b i := by unfold thereB; rw [List.range_succ, List.flatMap_append]; simp
theorem thereB_len (b : Nat → Bool) (i : Nat) : (thereB b i).length ≤ 2 * i := by
  induction i with
  | zero => exact Nat.le_refl _
  | succ i ih =>
    rw [thereB_succ, List.length_append]
    have : (stepB b i).length ≤ 2 := by unfold stepB; split <;> split <;> simp
    omega
theorem ord_if (b : Nat → Bool) (p : Nat) (l : List Nat) : (p :: l).filter b = (if b p = true then [p] else []) ++ l.filter b := by
  rw [List.filter_cons]; cases b p <;> rfl
theorem thereB_ord (b : Nat → Bool) : thereB b 9 = ordL.filter b := by
  unfold ordL
  simp only [ord_if, List.filter_nil, List.append_nil]
  show (stepB b 0 ++ (stepB b 1 ++ (stepB b 2 ++ (stepB b 3 ++ (stepB b 4 ++ (stepB b 5 ++ (stepB b 6 ++ (stepB b 7 ++ (stepB b 8 ++ []))))))))) = _
  unfold stepB upB
  simp
theorem ord_lt : ∀ p ∈ ordL, p < 12 := by decide
theorem ord_mem : ∀ p < 12, p ∈ ordL := by decide
def codeW (there : List Nat) (odd found : Nat) (i : Nat) : Nat := match i with
  | 0 => 0
  | i + 1 => codeW there odd found i + if (decide (placesL.getD i 0 ∈ there) != (decide (odd = 1) && decide (placesL.getD i 0 = found))) = true then 2 ^ i else 0
theorem codeW_congr {t1 t2 : List Nat} {o1 f1 o2 f2 : Nat} (i : Nat) (h : ∀ j < i, (decide (placesL.getD j 0 ∈ t1) != (decide (o1 = 1) && decide (placesL.getD j 0 = f1))) = (decide (placesL.getD j 0 ∈ t2) != (decide (o2 = 1) && decide (placesL.getD j 0 = f2)))) : codeW t1 o1 f1 i = codeW t2 o2 f2 i := by
  induction i with
  | zero => rfl
  | succ i ih =>
    unfold codeW
    rw [ih fun j hj => h j (Nat.lt_succ_of_lt hj), h i (Nat.lt_succ_self i)]
theorem ham : ∀ code < 128, xorR (ordL.filter fun p => decide (p ∈ codedL code)) = 0 ∧ (ordL.filter fun p => decide (p ∈ codedL code)).length % 2 = 0 ∧ codeW (codedL code) 0 0 7 = code := by decide +kernel
theorem one_t : ∀ a < 12, xorR (ordL.filter fun p => decide (p ∈ [a])) = a ∧ (ordL.filter fun p => decide (p ∈ [a])).length = 1 := by decide +kernel
theorem two_t : ∀ a < 12, ∀ b < 12, a ≠ b → xorR (ordL.filter fun p => decide (p ∈ [a, b])) = a ^^^ b ∧ (ordL.filter fun p => decide (p ∈ [a, b])).length = 2 ∧ a ^^^ b ≠ 0 := by decide +kernel
end Mine
end

section
open PySem PySem.W PyProof.Rows PySem.Calls
set_option Elab.async false
set_option linter.unusedVariables false
set_option maxRecDepth 100000
namespace Mine
def ansD (word there : List Nat) (line : Int) : PyData :=
  if there.length % 2 = 0 ∧ xorL there ≠ 0 then .tuple [.str (tx [word.getD 0 0]), .int 2, .int (-1), .int (xorL there : Nat), .int line]
  else .tuple [.str (tx [word.getD 0 0]), .int (there.length % 2 : Nat), .int (codeW there (there.length % 2) (xorL there) 7 : Nat), .int (xorL there : Nat), .int line]
theorem there_turn (r : Row1) : thereB (modeR r).testBit 9 = ordL.filter (turnP (codedL r.code) r.turned) := by
  rw [thereB_ord]
  exact List.filter_congr fun p hp => mode_bit r p (ord_lt p hp)
theorem in_there (cd t : List Nat) {p : Nat} (hp : p < 12) : decide (p ∈ ordL.filter (turnP cd t)) = (decide (p ∈ cd) != decide (p ∈ t)) := by
  have : (p ∈ ordL.filter (turnP cd t)) ↔ turnP cd t p = true := by
    rw [List.mem_filter]
    exact ⟨fun h => h.2, fun h => ⟨ord_mem p hp, h⟩⟩
  show _ = turnP cd t p
  by_cases e : turnP cd t p = true
  · rw [decide_eq_true (this.mpr e), e]
  · rw [decide_eq_false (fun z => e (this.mp z))]
    exact (Bool.eq_false_iff.mpr e).symm
theorem places_lt : ∀ j < 7, placesL.getD j 0 < 12 := by decide
theorem kind_of (r : Row1) : (sgL (modeR r)).getD 0 0 = kindL r.kind := by
  show kindL (modeR r / 4096) = _
  have := rightsP_lt (codedL r.code) r.turned 12
  have e : modeR r / 4096 = r.kind := by unfold modeR; omega
  rw [e]
theorem ans_due (r : Row1) (o : RowOk r) (text : List Nat) : ansD (sgL (modeR r)) (thereB (modeR r).testBit 9) (1 + (text.count 10 : Nat)) = dueR r text := by
  obtain ⟨h1, h2, h3⟩ := ham r.code o.code
  have hx : xorR (ordL.filter (turnP (codedL r.code) r.turned)) = xorR (ordL.filter fun p => decide (p ∈ codedL r.code)) ^^^ xorR (ordL.filter fun p => decide (p ∈ r.turned)) := xorR_lin _ _ _
  have hl : (ordL.filter (turnP (codedL r.code) r.turned)).length % 2 = ((ordL.filter fun p => decide (p ∈ codedL r.code)).length + (ordL.filter fun p => decide (p ∈ r.turned)).length) % 2 := len_lin _ _ _
  have hin := fun j (hj : j < 7) => in_there (codedL r.code) r.turned (places_lt j hj)
  rw [h1, Nat.zero_xor] at hx
  rw [there_turn]
  unfold ansD dueR dueCode
  rw [kind_of, xorL_R, xorL_R, hx]
  have ht := o.len
  have hlt := o.lt
  have hnd := o.nodup
  generalize hd : ordL.filter (turnP (codedL r.code) r.turned) = there at *
  generalize codedL r.code = cd at *
  generalize r.turned = t at *
  match t, ht, hlt, hnd with
  | [], _, _, _ =>
    have e0 : (ordL.filter fun p => decide (p ∈ ([] : List Nat))) = [] := by decide
    rw [e0] at hl ⊢
    have hl : there.length % 2 = 0 := by rw [hl]; simpa using h2
    rw [hl, if_neg (fun z => z.2 rfl)]
    have hc : codeW there 0 (xorR []) 7 = r.code := by
      rw [← h3]
      refine codeW_congr 7 fun j hj => ?_
      rw [hin j hj]
      simp
    rw [hc]; rfl
  | [a], _, hlt, _ =>
    obtain ⟨x1, x2⟩ := one_t a (hlt a (List.mem_cons_self ..))
    rw [x2] at hl
    have hl : there.length % 2 = 1 := by omega
    rw [x1, hl, if_neg (fun z => by cases z.1)]
    have hc : codeW there 1 a 7 = r.code := by
      rw [← h3]
      refine codeW_congr 7 fun j hj => ?_
      rw [hin j hj]
      have : decide (placesL.getD j 0 ∈ [a]) = decide (placesL.getD j 0 = a) := decide_eq_decide.mpr (by simp)
      rw [this]
      cases decide (placesL.getD j 0 ∈ cd) <;> cases decide (placesL.getD j 0 = a) <;> rfl
    rw [hc, show xorR [a] = a from Nat.xor_zero a]; rfl
  | [a, b], _, hlt, hnd =>
    have ne : a ≠ b := by simpa using hnd
    obtain ⟨x1, x2, x3⟩ := two_t a (hlt a (List.mem_cons_self ..)) b (hlt b (List.mem_cons_of_mem _ (List.mem_cons_self ..))) ne
    rw [x2] at hl
    have hl : there.length % 2 = 0 := by omega
    rw [x1, hl, if_pos ⟨rfl, x3⟩]
    rw [show xorR [a, b] = a ^^^ b from by show a ^^^ (b ^^^ 0) = _; rw [Nat.xor_zero]]; rfl
  | _ :: _ :: _ :: _, ht, _, _ => exact absurd ht (by simp)
end Mine
end

section
open PySem PySem.W PyProof.Rows PySem.Calls
set_option Elab.async false
set_option linter.unusedVariables false
set_option maxRecDepth 100000
namespace Mine
section
variable {prog : Program} {w : World} {n : Nat} {G : Ga} {ρ : Loc} {K : Frag} {mg mb : Str → Option Value} {h : Heap}
theorem CallL.apart {f : Value} {as : List AV} {lg : List (Addr × Obj)} {Ψ : AV → List (Addr × Obj) → Prop} (k : (∀ p ∈ lg, ∀ q ∈ lg, p.1 = q.1 → p.2 = q.2) → CallL prog w n h f as lg Ψ) : CallL prog w n h f as lg Ψ := fun A R s X x av xok hlg vs rs E =>
  k (fun p hp q hq e => by
    have a := (hlg p hp).1
    rw [e, (hlg q hq).1] at a
    exact (Option.some.inj a).symm) A R s X x av xok hlg vs rs E
def CodeQ (qual : Str) (oc : Obj) : Prop := ∃ vs t, oc.data = .fields vs ∧ vs[1]? = some (.str qual t)
def LamT (pos : Pos) (qual : Str) (av : List Addr) (P : Addr) (lg : List (Addr × Obj)) : Prop :=
  (P, tabObj #[]) ∈ lg ∨ ∃ c oc, (P, tabObj #[rawInt pos.line, rawInt pos.col, .ref c]) ∈ lg ∧ (c, oc) ∈ lg ∧ c ≠ P ∧ CodeQ qual oc ∧ c ∉ av
theorem LamT.in_ {pos : Pos} {qual : Str} {av : List Addr} {P : Addr} {lg : List (Addr × Obj)} (x : LamT pos qual av P lg) : ∃ ps, (P, tabObj ps) ∈ lg :=
  x.elim (fun a => ⟨_, a⟩) fun ⟨c, oc, a, _⟩ => ⟨_, a⟩
theorem LamT.stay {pos : Pos} {qual : Str} {av : List Addr} {P : Addr} {lg lg' : List (Addr × Obj)} (x : LamT pos qual av P lg) (hP : P ∉ av) (s : ∀ p ∈ lg, p.1 ∉ av → p ∈ lg') : LamT pos qual av P lg' :=
  x.elim (fun a => .inl (s _ a hP)) fun ⟨c, oc, a, b, d, e, f⟩ => .inr ⟨c, oc, s _ a hP, s _ b f, d, e, f⟩
theorem LamT.sub {pos : Pos} {qual : Str} {av : List Addr} {P : Addr} {lg lg' : List (Addr × Obj)} (x : LamT pos qual av P lg) (s : ∀ p ∈ lg, p ∈ lg') : LamT pos qual av P lg' :=
  x.elim (fun a => .inl (s _ a)) fun ⟨c, oc, a, b, d, e, f⟩ => .inr ⟨c, oc, s _ a, s _ b, d, e, f⟩
theorem CallL.widen' {f : Value} {as : List AV} {lg ext : List (Addr × Obj)} {Ψ : AV → List (Addr × Obj) → Prop} (k : CallL prog w n h f as lg Ψ) (ap : ∀ p ∈ ext, ¬ InLg lg p.1) : CallL prog w n h f as (ext ++ lg) (fun a lg' => ∃ lg'', Ψ a lg'' ∧ lg' = ext ++ lg'' ∧ ∀ p ∈ lg'', ¬ InLg ext p.1) := fun A R s X x av xok hlg vs rs E => by
  refine codeAny_mono (k A R s X x av xok (fun p hp => hlg p (List.mem_append_right _ hp)) vs rs E) fun r s' z => ?_
  cases r with
  | error e => exact z
  | ok fl => cases fl with
    | ret v =>
      obtain ⟨a, lg', hΨ, C⟩ := z
      have ke : ∀ p ∈ ext, s'.heap.get? p.1 = some p.2 := fun p hp => C.kept _ _ (hlg p (List.mem_append_left _ hp)).1 (ap p hp)
      refine ⟨a, _, ⟨lg', hΨ, rfl, fun p hp ⟨q, hq, e⟩ => ?_⟩, ⟨C.same, fun b ob e nl => C.kept b ob e fun ⟨q, hq, e'⟩ => nl ⟨q, List.mem_append_right _ hq, e'⟩, fun p hp => ?_, C.vr.mvNo (Mv.sub fun b z => ?_) C.no, C.no, fun p ⟨q, hq, e⟩ => ?_⟩⟩
      · rcases (C.led p hp).2 with z | z
        · exact ap q hq (e ▸ z)
        · rw [← e, (hlg q (List.mem_append_left _ hq)).1] at z; cases z
      · rcases List.mem_append.mp hp with hp | hp
        · exact ⟨ke p hp, .inl ⟨p, List.mem_append_left _ hp, rfl⟩⟩
        · exact ⟨(C.led p hp).1, (C.led p hp).2.imp (fun ⟨q, hq, e⟩ => ⟨q, List.mem_append_right _ hq, e⟩) id⟩
      · rcases z with z | ⟨q, hq, rfl⟩
        · exact .inl z
        · rcases List.mem_append.mp hq with hq | hq
          · exact .inl (hlg q (List.mem_append_left _ hq)).2
          · exact .inr ⟨q, hq, rfl⟩
      · rcases List.mem_append.mp hq with hq | hq
        · rw [← e, ke q hq]; rfl
        · exact C.ok p ⟨q, hq, e⟩
    | _ => exact z
theorem Cx.lambdaT (c : Cx K mg mb h G) {params : Arguments} {body : Expr} {scope : Scope} {pos : Pos} {cc P : Addr} {Ψ : AV → List (Addr × Obj) → Prop} (hcode : G.env.code = .ref cc) {av : List Addr} (hav : ∀ b ∈ av, InLg ρ.lg b) (hL : LamT pos (G.env.qual ++ "<lambda>") av P ρ.lg) (hC : ∀ X h', FRx G ρ X h' → CodeHd h' cc P)
    (hfree : ∀ x ∈ scope.names, x.2 = .free → (G.env.cells.lookup x.1).isSome = true) (hd0 : params.defaults = []) (hk0 : params.kw_defaults = [])
    (q : ∀ f pm c' ctv oc lg', ¬ InLg ρ.lg f → (f, ({ cls := .type "function", data := .func (fdMk "<lambda>" (G.env.qual ++ "<lambda>") params (.expr body) scope (clOf scope G.env) pm (.ref c') ctv) } : Obj)) ∈ lg' → (c', oc) ∈ lg' → CodeQ (G.env.qual ++ "<lambda>") oc → LamT pos (G.env.qual ++ "<lambda>") av P lg' → (∀ p ∈ ρ.lg, p.1 ≠ P → p ∈ lg') → Ψ (.v (.ref f)) lg') :
    EvM prog w n G ρ (.Lambda params body scope pos) Ψ := by
  rcases hL with hP | ⟨c', oc, hP, hc, ne, hq, nav⟩
  · refine c.lambda hcode hP hC trivial rfl hfree hd0 hk0 ?_
    rintro f fo c' P' oc nf nc nP M
    obtain ⟨pm, ctv, rfl⟩ := M.f
    have cP : c' ≠ P := fun e => nc ⟨_, hP, e.symm⟩
    have m1 : ∀ {p : Addr × Obj}, p ∈ [(f, ({ cls := .type "function", data := .func (fdMk "<lambda>" (G.env.qual ++ "<lambda>") params (.expr body) scope (clOf scope G.env) pm (.ref c') ctv) } : Obj)), (c', oc), (P', tabObj #[])] → p ∈ [(f, ({ cls := .type "function", data := .func (fdMk "<lambda>" (G.env.qual ++ "<lambda>") params (.expr body) scope (clOf scope G.env) pm (.ref c') ctv) } : Obj)), (c', oc), (P', tabObj #[])] ++ putLg ρ.lg P (tabObj (#[] ++ #[rawInt pos.line, rawInt pos.col, .ref c'])) := fun z => List.mem_append_left _ z
    exact q f pm c' ctv oc _ nf (m1 (List.mem_cons_self ..)) (m1 (List.mem_cons_of_mem _ (List.mem_cons_self ..))) M.q (.inr ⟨c', oc, List.mem_append_right _ (putLg_new hP), m1 (List.mem_cons_of_mem _ (List.mem_cons_self ..)), cP, M.q, fun z => nc (hav _ z)⟩) fun p hp hn => List.mem_append_right _ (putLg_keep hp hn)
  · refine c.lambdaHit (c' := c') hcode hP hC (by simp [TriplesOk, rawInt]) (by simp [codeAmong, rawInt]) hfree hd0 hk0 ?_
    rintro f fo nf ⟨pm, ctv, rfl⟩
    exact q f pm c' ctv oc _ nf (List.mem_append_left _ (List.mem_cons_self ..)) (List.mem_append_right _ hc) hq (.inr ⟨c', oc, List.mem_append_right _ hP, List.mem_append_right _ hc, ne, hq, nav⟩) fun p hp _ => List.mem_append_right _ hp
end
end Mine
end

section
open PySem PySem.W PyProof.Rows PySem.Calls
set_option Elab.async false
set_option linter.unusedVariables false
set_option maxRecDepth 100000
namespace Mine
def defBody : Stmt → List Stmt
  | .FunctionDef _ _ b _ _ _ _ _ _ _ => b
  | _ => []
def defParams : Stmt → Arguments
  | .FunctionDef _ p _ _ _ _ _ _ _ _ => p
  | _ => { posonlyargs := [], args := [], vararg := none, kwonlyargs := [], kw_defaults := [], kwarg := none, defaults := [] }
def defScope : Stmt → Scope
  | .FunctionDef _ _ _ _ _ _ s _ _ _ => s
  | _ => { kind := .function, names := [], isGenerator := false, isCoroutine := false, more := [] }
def toldSt : Stmt := (defBody (PySem.Challenge.pw_oy0118_01.main.body.getD 35 (.Pass ⟨0, 0, 0, 0⟩))).getD 1 (.Pass ⟨0, 0, 0, 0⟩)
def tabsL : List Str := (List.range 9).map fun p => tx (tabL p)
theorem tabs_get {i : Nat} {d : PyData} (hd : (tabsL.map PyData.str)[i]? = some d) : i < 9 ∧ d = .str (tx (tabL i)) := by
  unfold tabsL at hd
  rw [List.map_map, List.getElem?_map] at hd
  obtain ⟨j, hj, rfl⟩ := Option.map_eq_some_iff.mp hd
  obtain ⟨hlt, e⟩ := List.getElem?_eq_some_iff.mp hj
  rw [List.length_range] at hlt
  rw [List.getElem_range] at e
  subst e
  exact ⟨hlt, rfl⟩
theorem noTups_append (k : Nat) : ∀ (a b : List PyData), noTups k a = true → noTups k b = true → noTups k (a ++ b) = true
  | [], _, _, y => y
  | d :: a, b, x, y => by
    rw [List.cons_append]
    unfold noTups at x ⊢
    rw [Bool.and_eq_true] at x ⊢
    exact ⟨x.1, noTups_append k a b x.2 y⟩
theorem ans_noTup (wd th : List Nat) (line : Int) : noTup 9 (ansD wd th line) = true := by
  unfold ansD
  split <;> rfl
theorem nums_snoc (l : List Nat) (i : Nat) : nums (l ++ [i]) = nums l ++ [.int (i : Nat)] := by unfold nums; rw [List.map_append]; rfl
theorem LamT.off {pos : Pos} {qual : Str} {av : List Addr} {P : Addr} {lg lg' : List (Addr × Obj)} (x : LamT pos qual av P lg) (s : ∀ p ∈ lg, (∃ ps, p.2 = tabObj ps) ∨ CodeQ qual p.2 → p ∈ lg') : LamT pos qual av P lg' :=
  x.elim (fun a => .inl (s _ a (.inl ⟨_, rfl⟩))) fun ⟨c, oc, a, b, d, e, f⟩ => .inr ⟨c, oc, s _ a (.inl ⟨_, rfl⟩), s _ b (.inr e), d, e, f⟩
section
variable {prog : Program} {w : World} {n : Nat} {X : Addr → Prop} {mg mb : Str → Option Value} {h : Heap}
theorem Bin.addN {a b : Nat} : Bin prog w n X .Add (.d (.int (a : Nat))) (.d (.int (b : Nat))) (.d (.int ((a + b : Nat) : Int))) := by
  rw [Int.natCast_add]; exact Bin.add
theorem Bin.subN {a b : Nat} (hb : b ≤ a) : Bin prog w n X .Sub (.d (.int (a : Nat))) (.d (.int (b : Nat))) (.d (.int ((a - b : Nat) : Int))) := by
  rw [Int.natCast_sub hb]; exact Bin.sub
theorem Cmp.igeN {a b : Nat} : Cmp prog w n X .GtE (.d (.int (a : Nat))) (.d (.int (b : Nat))) (decide (b ≤ a)) := by
  have : decide (b ≤ a) = decide ((b : Int) ≤ (a : Int)) := decide_eq_decide.mpr (by omega)
  rw [this]; exact Cmp.ige
theorem Cmp.ineN {a b : Nat} : Cmp prog w n X .NotEq (.d (.int (a : Nat))) (.d (.int (b : Nat))) (decide (a ≠ b)) := by
  have : decide (a ≠ b) = ((a : Int) != (b : Int)) := by
    by_cases h : a = b
    · subst h; simp
    · rw [decide_eq_true h]; symm; simp; omega
  rw [this]; exact Cmp.ine
theorem g_reduce (B : BB w mg mb h) : mg (Str.ofString "reduce") = some (.ref 77) := B.mg rfl rfl
def ToldC (prog : Program) (w : World) (h : Heap) (mch f P : Addr) (pos : Pos) (qual : Str) (imm : List (Addr × Obj)) : Prop :=
  ∀ lg av m T line st pb dx kd xs, (∀ p ∈ imm, p ∈ lg) → (∀ b ∈ av, InLg lg b ∧ ∀ p ∈ imm, p.1 ≠ b) → LamT pos qual av P lg → (mch, instObj 115 dx) ∈ lg → (dx, dictOf (esM T line st pb) kd) ∈ lg → xs.length ≤ 100 → noTups 9 xs = true →
    CallL prog w 3 h (.ref f) [.d (.list xs), .d (.str (tx (sgL m)))] lg (fun a lg' => a = .d (.list (xs ++ [ansD (sgL m) (thereB m.testBit 9) line])) ∧ LamT pos qual av P lg' ∧ ∀ p ∈ lg, p.1 ≠ P → p ∈ lg')
set_option maxHeartbeats 4000000 in
theorem told_ok (B : BB w mg mb h) {mch f c P p1 p2 t : Addr} {fo oc o1 o2 : Obj} {q0 : Str} {ts : List Value} {clos : List (Str × Addr)} {pst : Array Value}
    (M : FnMade (Str.ofString "told") q0 (defParams toldSt) (.stmts (defBody toldSt)) (defScope toldSt) clos fo c P oc)
    (hp1 : clos.lookup (Str.ofString "machine") = some p1) (hp2 : clos.lookup (Str.ofString "tables") = some p2) (ho1 : o1.data = .cell (some (.ref mch))) (ho2 : o2.data = .cell (some (.ref t))) (hts : StrsAre ts tabsL)
    (n1 : p1 ≠ P) (n2 : p2 ≠ P) (nc : c ≠ P) :
    ToldC prog w h mch f P ⟨168, 23, 168, 59⟩ ((q0 ++ ".<locals>.") ++ "<lambda>") [(f, fo), (c, oc), (p1, o1), (p2, o2), (t, { cls := .type "tuple", data := .seq ts.toArray }), (152, tabObj pst)] := by
  intro lg av m T line st pb dx kd xs hsub hav hL hx hd hxs hnt
  refine CallL.apart fun fun_ => ?_
  have c1' : ∀ {α : Type} {a b : α} {l : List α}, a ∈ l → a ∈ b :: l := List.mem_cons_of_mem _
  obtain ⟨pm, ctv, hfo⟩ := M.f
  obtain ⟨vs1, tq, hq1, hq2⟩ := M.q
  have mF := hsub _ (List.mem_cons_self ..)
  have mC := hsub _ (c1' (List.mem_cons_self ..))
  have m1 := hsub _ (c1' (c1' (List.mem_cons_self ..)))
  have m2 := hsub _ (c1' (c1' (c1' (List.mem_cons_self ..))))
  have mT := hsub _ (c1' (c1' (c1' (c1' (List.mem_cons_self ..)))))
  have m5 := (hav · · |>.2 _ (c1' (c1' (c1' (c1' (List.mem_cons_self ..))))))
  have df : ∀ {p : Addr × Obj}, p ∈ lg → p.2 ≠ { cls := .type "tuple", data := .seq ts.toArray } → p.1 ≠ t := fun hp hn e => hn (fun_ _ hp _ mT e)
  have off : ∀ {p : Addr × Obj}, p ∈ lg → p.2 ≠ { cls := .type "tuple", data := .seq ts.toArray } → p ∈ offLg lg t := fun hp hn => offLg_mem.mpr ⟨hp, df hp hn⟩
  refine CallL.freeze (t := t) (ts := ts.toArray) mT rfl rfl (notOwn_d (notOwn_d notOwn_nil)) fun h₂ e2 gt => ?_
  have B2 := B.ext e2
  have kF : (f, fo) ∈ offLg lg t := off mF fun e => by
    have e : fo = _ := e
    rw [hfo] at e
    exact absurd (congrArg Obj.cls e) (by simp)
  have kC : (c, oc) ∈ offLg lg t := off mC fun e => by
    have e : oc = _ := e
    rw [e] at hq1; cases hq1
  have k1 : (p1, o1) ∈ offLg lg t := off m1 fun e => by
    have e : o1 = _ := e
    rw [e] at ho1; cases ho1
  have k2 : (p2, o2) ∈ offLg lg t := off m2 fun e => by
    have e : o2 = _ := e
    rw [e] at ho2; cases ho2
  have kx : (mch, instObj 115 dx) ∈ offLg lg t := off hx fun e => by cases e
  have kd' : (dx, dictOf (esM T line st pb) kd) ∈ offLg lg t := off hd fun e => absurd (congrArg Obj.cls e) (by simp)
  have kL : LamT ⟨168, 23, 168, 59⟩ ((q0 ++ ".<locals>.") ++ "<lambda>") av P (offLg lg t) := hL.off fun p hp z => off hp fun e => by
    rcases z with ⟨ps, z⟩ | ⟨vs, tt, z, _⟩
    · rw [z] at e; exact absurd (congrArg Obj.cls e) (by simp)
    · rw [e] at z; cases z
  have kav : ∀ b ∈ av, InLg (offLg lg t) b := fun b hb => by
    obtain ⟨⟨q, hq, rfl⟩, hn⟩ := hav b hb
    exact ⟨q, offLg_mem.mpr ⟨hq, (hn _ (c1' (c1' (c1' (c1' (List.mem_cons_self ..)))))).symm⟩, rfl⟩
  have koff : ∀ lg3 : List (Addr × Obj), (∀ p ∈ offLg lg t, p.1 ≠ P → p ∈ lg3) → ∀ p ∈ lg, p.1 ≠ P → p ∈ (t, ({ cls := .type "tuple", data := .seq ts.toArray } : Obj)) :: lg3 := fun lg3 s p hp hn => by
    by_cases z : p.1 = t
    · have := fun_ _ hp _ mT z
      obtain ⟨a, o⟩ := p
      cases z; cases this
      exact List.mem_cons_self ..
    · exact c1' (s p (offLg_mem.mpr ⟨hp, z⟩) hn)
  have kP1 : mch ≠ P := by
    obtain ⟨ps, hP⟩ := hL.in_
    exact fun e => by cases fun_ _ hx _ hP e
  have kP2 : dx ≠ P := by
    obtain ⟨ps, hP⟩ := hL.in_
    exact fun e => absurd (congrArg Obj.cls (fun_ _ hd _ hP e)) (by simp)
  clear hL hx hd off df hsub hav m5 mF mC m1 m2
  generalize hlg0 : offLg lg t = lg0 at *
  have hd1 : fo.data = _ := congrArg Obj.data hfo
  have tsz : ts.toArray.size = 9 := by
    have := StrsAre.len hts
    rw [List.size_toArray, this]; rfl
  refine CallL.clo_ (n := 2) kF hd1 B2.nolimit (fun hh he => ⟨c, oc, vs1, tq, rfl, he _ kC, hq1, hq2⟩) rfl (names := [Str.ofString "answers", Str.ofString "word"]) rfl (by decide +kernel) rfl (noCell rfl) (notOwn_d (notOwn_d notOwn_nil)) (bind2 fun v u => rfl) ?_
  rintro X2 ⟨_, h2, _, Z2⟩ C2
  have c2 := Cx.clos B2 C2
  obtain ⟨⟨L2, rfl⟩, hX2, rfl, av2⟩ := C2
  have nz : ∀ (l : List Nat), l.length ≤ 20 → (nums l).length ≤ sizeLine := fun l hl => by rw [nums_len]; exact Nat.le_trans hl (by decide)
  let b0 : List (Str × AV) := [(Str.ofString "answers", .d (.list xs)), (Str.ofString "word", .d (.str (tx (sgL m))))]
  let sta : Nat → Loc := fun i => ⟨b0 ++ [(Str.ofString "there", AV.own (nums (thereB m.testBit i)))], lg0⟩
  refine Ex.then_ (sta 0) (Ex1.assignOwn rfl (ds := []) (fun _ _ _ => .nil) (Sub.of ⟨rfl, rfl, rfl, trivial⟩)) ?_
  refine Ex.then_ (sta 9) ?_ ?_
  · refine Ex1.forN (ds := numbered 0 (tabsL.map .str)) sta ?_ ?_ ?_ (fun i d hd => ?_) ?_ ?_
    · exact c2.enum (g_enum B2) (Cx.baseTup c2 (Ev.free (v := .ref t) rfl rfl hp2 k2 ho2) gt rfl rfl hts) True
    · rfl
    · exact Sub.refl _
    · obtain ⟨e, he, rfl⟩ := numbered_get _ 0 i d hd
      obtain ⟨hi, rfl⟩ := tabs_get he
      have tl : (thereB m.testBit i).length ≤ 18 := Nat.le_trans (thereB_len _ i) (by omega)
      have hstep := thereB_succ m.testBit i
      refine ⟨⟨b0 ++ [(Str.ofString "there", AV.own (nums (thereB m.testBit i))), (Str.ofString "place", AV.d (.int (i : Nat))), (Str.ofString "table", AV.d (.str (tx (tabL i))))], lg0⟩, by rw [Nat.zero_add]; rfl, ?_⟩
      show Ex _ _ _ _ _ _ (Nx ⟨b0 ++ [(Str.ofString "there", AV.own (nums (thereB m.testBit (i + 1))))], lg0⟩)
      rw [hstep]
      unfold stepB
      rw [← List.append_assoc]
      generalize thereB m.testBit i = th at tl ⊢
      refine Ex.then_ ⟨b0 ++ [(Str.ofString "there", AV.own (nums th)), (Str.ofString "place", AV.d (.int (i : Nat))), (Str.ofString "figure", AV.d (.int (figN m.testBit i : Nat)))], lg0⟩ ?_ ?_
      · refine Ex1.assign (a := .d (.int (figN m.testBit i : Nat))) rfl ?_ (fun _ z => by cases z) (Sub.of ⟨rfl, rfl, rfl, rfl, rfl, trivial⟩)
        refine Ev.sindex (y := tx (tabL i)) (z := tx [(tabL i).getD (figN m.testBit i) 0]) (rest := []) (Ev.name rfl) ?_ ?_
        · refine Ev.sub (a := .d (.str (tx (sgL m)))) (i := .d (.int ((1 + i : Nat) : Int))) (Ev.name rfl) (Ev.bin (Ev.int (i := (1 : Nat))) (Ev.name (a := .d (.int (i : Nat))) rfl) fun X => Bin.addN) (fun X => GetI.tx ?_ ?_) (by intro o i; exact ⟨_, rfl⟩)
          · rw [← sgn_at m i hi, List.getD_eq_getElem?_getD, List.getElem?_eq_getElem (show 1 + i < (sgL m).length by rw [sgL_len]; omega)]; rfl
          · rw [sgL_len]; decide
        · exact tab_occ i hi _ (fig_lt _ i)
      refine Ex.then_ ⟨b0 ++ [(Str.ofString "there", AV.own (nums (th ++ if m.testBit (8 - i) = true then [8 - i] else []))), (Str.ofString "place", AV.d (.int (i : Nat))), (Str.ofString "figure", AV.d (.int (figN m.testBit i : Nat)))], lg0⟩ ?_ ?_
      · refine Ex1.if_ (c := m.testBit (8 - i)) (EvT.eq (EvT.cmp (Ev.bin (Ev.name (a := .d (.int (figN m.testBit i : Nat))) rfl) (Ev.int (i := (2 : Nat))) fun X => Bin.fmodN (by decide)) (Ev.int (i := (1 : Nat))) fun X => Cmp.ieqN) (fig_odd _ i)) (fun hb => ?_) (fun hb => ?_)
        · rw [if_pos hb, nums_snoc]
          exact Ex.cons (Ex1.append (xs := nums th) (d := .int ((8 - i : Nat) : Int)) rfl (Ev.bin (Ev.int (i := (8 : Nat))) (Ev.name (a := .d (.int (i : Nat))) rfl) fun X => Bin.subN (by omega)) (Ex.nil (Sub.of ⟨rfl, rfl, rfl, rfl, rfl, trivial⟩)) (nz _ (by omega)))
        · rw [hb, if_neg (by decide), List.append_nil]
          exact Ex.nil (Sub.of ⟨rfl, rfl, rfl, rfl, rfl, trivial⟩)
      have tl2 : (th ++ if m.testBit (8 - i) = true then [8 - i] else []).length ≤ 19 := by rw [List.length_append]; split <;> simp <;> omega
      generalize (th ++ if m.testBit (8 - i) = true then [8 - i] else []) = th2 at tl2 ⊢
      refine Ex.cons (Ex1.if_ (c := upB m.testBit i) (EvT.eq (EvT.cmp (Ev.name (a := .d (.int (figN m.testBit i : Nat))) rfl) (Ev.int (i := (2 : Nat))) fun X => Cmp.igeN) (fig_two _ i)) (fun hb => ?_) (fun hb => ?_))
      · rw [if_pos hb, nums_snoc]
        exact Ex.cons (Ex1.append (xs := nums th2) (d := .int ((11 - i / 3 : Nat) : Int)) rfl (Ev.bin (Ev.int (i := (11 : Nat))) (Ev.bin (Ev.name (a := .d (.int (i : Nat))) rfl) (Ev.int (i := (3 : Nat))) fun X => Bin.fdivN (by decide) (by decide)) fun X => Bin.subN (by omega)) (Ex.nil (Ex.nil (Sub.of ⟨rfl, rfl, rfl, trivial⟩))) (nz _ (by omega)))
      · rw [hb, if_neg (by decide), List.append_nil]
        exact Ex.nil (Ex.nil (Sub.of ⟨rfl, rfl, rfl, trivial⟩))
    · exact Sub.refl _
    · intro _; rfl
  refine Ex.thaw ?_
  have tl : (thereB m.testBit 9).length ≤ 18 := thereB_len _ 9
  refine Ex.sub (ρ' := ⟨b0 ++ [(Str.ofString "there", AV.d (.list (nums (thereB m.testBit 9))))], lg0⟩) (Sub.of ⟨rfl, rfl, rfl, trivial⟩) ?_
  generalize thereB m.testBit 9 = th at tl ⊢
  refine Ex.cons (Ex1.assignM rfl (EvM.call (h := h₂) (f := .ref 77) (fun X h' F lg X' h'' F' => c2.x F') (c2.glob (g_reduce B2)) (EvMS.cons (c2.lambdaT (cc := c) (P := P) rfl kav kL (fun X h' F => M.hd _ (F.led _ kC).1) (freeAll rfl) rfl rfl ?_))))
  rintro f2 pm2 c2' ctv2 oc2 lg2 nf2 mf2 mc2 ⟨vs2, tt2, hv1, hv2⟩ hL2 keep2
  refine EvMS.pure (as := [.d (.list (nums th)), .d (.int (xorP th 0 : Nat))]) (EvS.cons (Ev.name rfl) (EvS.cons Ev.int EvS.nil)) (notOwn_d (notOwn_d notOwn_nil)) ⟨fun X h' F => Cx.keepF (B2.at rfl) (c2.x F).1, (reduceLam B2 (n := 0) (fun i => ((xorP th i : Nat) : Int)) mf2 ⟨_, _, _, _, rfl⟩ ?_).mono (Nat.le_refl _) ?_⟩
  · intro h₃ e3 i d lg' hdi s'
    obtain ⟨p, hp, rfl⟩ := nums_get hdi
    refine CallL.lam_ (n := 0) (s' _ mf2) rfl (B2.ext e3).nolimit (fun hh he => ⟨c2', oc2, vs2, tt2, rfl, he _ (s' _ mc2), hv1, hv2⟩) rfl (names := [Str.ofString "number", Str.ofString "place"]) rfl (by decide +kernel) rfl (noCell rfl) (notOwn_d (notOwn_d notOwn_nil)) (bind2 fun v u => rfl) ?_
    intro X3 G3 C3
    rw [xorP_succ hp]
    exact Ev.bin (Ev.name (a := .d (.int (xorP th i : Nat))) rfl) (Ev.name (a := .d (.int (p : Nat))) rfl) fun X => Bin.xorN
  rintro a lg3 ⟨rfl, s3⟩
  have hxor : xorP th (nums th).length = xorL th := by rw [nums_len]; unfold xorP xorL; rw [List.take_length]
  have j1 := s3 _ (keep2 _ k1 n1)
  have jx := s3 _ (keep2 _ kx kP1)
  have jd := s3 _ (keep2 _ kd' kP2)
  have jL := hL2.sub s3
  have jall := koff lg3 fun p hp hn => s3 _ (keep2 p hp hn)
  rw [hxor]
  clear hxor s3 keep2 hL2 mf2 mc2 nf2 hv1 hv2 koff
  let b1 : List (Str × AV) := [(Str.ofString "answers", .d (.list xs)), (Str.ofString "word", .d (.str (tx (sgL m)))), (Str.ofString "there", AV.d (.list (nums th))), (Str.ofString "found", AV.d (.int (xorL th : Nat)))]
  refine Ex.sub (ρ' := ⟨b1, lg3⟩) (Sub.of ⟨rfl, rfl, rfl, rfl, trivial⟩) ?_
  refine Ex.then_ ⟨b1 ++ [(Str.ofString "odd", AV.d (.int (th.length % 2 : Nat)))], lg3⟩ ?_ ?_
  · refine Ex1.assign (a := .d (.int (th.length % 2 : Nat))) rfl ?_ (fun _ z => by cases z) (Sub.of ⟨rfl, rfl, rfl, rfl, rfl, trivial⟩)
    exact Ev.bin (Ev.eq (c2.len (g_len B2) (Ev.name (a := .d (.list (nums th))) rfl) rfl (by rw [nums_len]; omega)) (by rw [nums_len])) (Ev.int (i := (2 : Nat))) fun X => Bin.fmodN (by decide)
  have I : InstL lg3 mch dx 115 (esM T line st pb) kd := ⟨jx, jd⟩
  have hw0 : (sgL m)[0]? = some ((sgL m).getD 0 0) := by rw [List.getD_eq_getElem?_getD, List.getElem?_eq_getElem (show 0 < (sgL m).length by rw [sgL_len]; decide)]; rfl
  have hwl : (sgL m).length < 100000 := by rw [sgL_len]; decide
  have fin : ∃ d, AV.d (.list (xs ++ [ansD (sgL m) th line])) = .d d ∧ noTup ts.toArray.size d = true ∧ (AV.d d = .d (.list (xs ++ [ansD (sgL m) th line])) ∧ LamT ⟨168, 23, 168, 59⟩ ((q0 ++ ".<locals>.") ++ "<lambda>") av P ((t, { cls := .type "tuple", data := .seq ts.toArray }) :: lg3) ∧ ∀ p ∈ lg, p.1 ≠ P → p ∈ (t, ({ cls := .type "tuple", data := .seq ts.toArray } : Obj)) :: lg3) := by
    refine ⟨_, rfl, ?_, rfl, jL.sub fun p hp => c1' hp, jall⟩
    rw [tsz]
    show noTups 9 (xs ++ [_]) = true
    exact noTups_append 9 _ _ hnt (by unfold noTups; rw [ans_noTup]; rfl)
  have hsz : xs.length + 1 ≤ sizeLine := Nat.le_trans (Nat.add_le_add_right hxs 1) (by decide)
  refine Ex.cons (Ex1.if_ (c := decide (th.length % 2 = 0 ∧ xorL th ≠ 0)) ?_ (fun hb => ?_) (fun hb => Ex.nil ?_))
  · refine EvT.eq (EvT.and (b := decide (th.length % 2 = 0)) (c := decide (xorL th ≠ 0)) (EvT.cmp (Ev.name (a := .d (.int (th.length % 2 : Nat))) rfl) (Ev.int (i := (0 : Nat))) fun X => Cmp.ieqN) fun _ => EvT.eq (EvT.and (c := true) (EvT.cmp (Ev.name (a := .d (.int (xorL th : Nat))) rfl) (Ev.int (i := (0 : Nat))) fun X => Cmp.ineN) fun _ => EvT.and0) (Bool.and_true _)) ?_
    by_cases e1 : th.length % 2 = 0 <;> by_cases e2 : xorL th = 0 <;> simp [e1, e2]
  · have hb := of_decide_eq_true hb
    have hans : ansD (sgL m) th line = .tuple [.str (tx [(sgL m).getD 0 0]), .int 2, .int (-1), .int (xorL th : Nat), .int line] := if_pos hb
    refine Ex.cons (Ex1.ret (d := .list (xs ++ [ansD (sgL m) th line])) ?_ fin)
    rw [hans]
    refine Ev.bin (a := .d (.list xs)) (b := .d (.list [.tuple [.str (tx [(sgL m).getD 0 0]), .int 2, .int (-1), .int (xorL th : Nat), .int line]])) (Ev.name rfl) ?_ fun X => Bin.catL rfl rfl hsz
    refine Ev.list (ds := [.tuple [.str (tx [(sgL m).getD 0 0]), .int 2, .int (-1), .int (xorL th : Nat), .int line]]) (EvS.cons (Ev.tuple (ds := [.str (tx [(sgL m).getD 0 0]), .int 2, .int (-1), .int (xorL th : Nat), .int line]) ?_ (show 5 ≤ sizeLine by decide)) EvS.nil) (show 1 ≤ sizeLine by decide)
    refine EvS.cons ?_ (EvS.cons Ev.int (EvS.cons (Ev.neg Ev.int) (EvS.cons (Ev.name (a := .d (.int (xorL th : Nat))) rfl) (EvS.cons ?_ EvS.nil))))
    · exact Ev.sub (a := .d (.str (tx (sgL m)))) (i := .d (.int ((0 : Nat) : Int))) (Ev.name rfl) (Ev.int (i := (0 : Nat))) (fun X => GetI.tx hw0 hwl) (by intro o i; exact ⟨_, rfl⟩)
    · exact Ev.ofInt (c2.attr (v := .int line T.t1) (Ev.free (v := .ref mch) rfl rfl hp1 j1 ho1) I k_ga k_dict k_line (getL_line ..) rfl)
  have hb : ¬ (th.length % 2 = 0 ∧ xorL th ≠ 0) := of_decide_eq_false hb
  have hans : ansD (sgL m) th line = .tuple [.str (tx [(sgL m).getD 0 0]), .int (th.length % 2 : Nat), .int (codeW th (th.length % 2) (xorL th) 7 : Nat), .int (xorL th : Nat), .int line] := if_neg hb
  clear hb
  refine Ex.sub (ρ' := ⟨[(Str.ofString "answers", .d (.list xs)), (Str.ofString "word", .d (.str (tx (sgL m)))), (Str.ofString "there", AV.d (.list (nums th))), (Str.ofString "found", AV.d (.int (xorL th : Nat))), (Str.ofString "odd", AV.d (.int (th.length % 2 : Nat)))], lg3⟩) (Sub.of ⟨rfl, rfl, rfl, rfl, rfl, trivial⟩) ?_
  generalize th.length % 2 = odd at hans ⊢
  generalize xorL th = found at hans ⊢
  let b2 : List (Str × AV) := [(Str.ofString "answers", .d (.list xs)), (Str.ofString "word", .d (.str (tx (sgL m)))), (Str.ofString "there", AV.d (.list (nums th))), (Str.ofString "found", AV.d (.int (found : Nat))), (Str.ofString "odd", AV.d (.int (odd : Nat)))]
  let st2 : Nat → Loc := fun j => ⟨b2 ++ [(Str.ofString "code", AV.d (.int (codeW th odd found j : Nat)))], lg3⟩
  refine Ex.then_ (st2 0) (Ex1.assign (a := .d (.int (0 : Nat))) rfl Ev.int (fun _ z => by cases z) (Sub.of ⟨rfl, rfl, rfl, rfl, rfl, rfl, trivial⟩)) ?_
  refine Ex.then_ (st2 7) ?_ ?_
  · refine Ex1.forN (ds := numbered 0 (nums placesL)) st2 ?_ ?_ ?_ (fun i d hd => ?_) ?_ ?_
    · exact c2.enum (g_enum B2) (Ev.tuple (ds := nums placesL) (EvS.cons Ev.int (EvS.cons Ev.int (EvS.cons Ev.int (EvS.cons Ev.int (EvS.cons Ev.int (EvS.cons Ev.int (EvS.cons Ev.int EvS.nil))))))) (show 7 ≤ sizeLine by decide)) True
    · rfl
    · exact Sub.refl _
    · obtain ⟨e, he, rfl⟩ := numbered_get _ 0 i d hd
      obtain ⟨p, hp, rfl⟩ := nums_get he
      have hi7 : i < 7 := (List.getElem?_eq_some_iff.mp hp).1
      have hpl : placesL.getD i 0 = p := by rw [List.getD_eq_getElem?_getD, hp]; rfl
      refine ⟨⟨b2 ++ [(Str.ofString "code", AV.d (.int (codeW th odd found i : Nat))), (Str.ofString "bit", AV.d (.int (i : Nat))), (Str.ofString "place", AV.d (.int (p : Nat)))], lg3⟩, by rw [Nat.zero_add]; rfl, ?_⟩
      show Ex _ _ _ _ _ _ (Nx ⟨b2 ++ [(Str.ofString "code", AV.d (.int (codeW th odd found (i + 1) : Nat)))], lg3⟩)
      have hcs : codeW th odd found (i + 1) = codeW th odd found i + if (decide (p ∈ th) != (decide (odd = 1) && decide (p = found))) = true then 2 ^ i else 0 := by rw [← hpl]; rfl
      rw [hcs]
      clear hcs
      generalize codeW th odd found i = cw
      refine Ex.cons (Ex1.if_ (c := (decide (p ∈ th) != (decide (odd = 1) && decide (p = found)))) ?_ (fun hb => ?_) (fun hb => ?_))
      · refine EvT.cmp (Ev.cmp (Ev.name (a := .d (.int (p : Nat))) rfl) (Ev.name (a := .d (.list (nums th))) rfl) fun X => Cmp.inNums rfl) (Ev.and2 (Ev.cmp (Ev.name (a := .d (.int (odd : Nat))) rfl) (Ev.int (i := (1 : Nat))) fun X => Cmp.ieqN) fun _ => Ev.cmp (Ev.name (a := .d (.int (p : Nat))) rfl) (Ev.name (a := .d (.int (found : Nat))) rfl) fun X => Cmp.ieqN) fun X => Cmp.bne
      · rw [if_pos hb]
        refine Ex.cons (Ex1.aug (a := .d (.int (cw : Nat))) (b := .d (.int ((2 ^ i : Nat) : Int))) (c := .d (.int ((cw + 2 ^ i : Nat) : Int))) rfl rfl ?_ (fun X => Inp.addN) (fun _ z => by cases z) (Ex.nil (Ex.nil (Sub.of ⟨rfl, rfl, rfl, rfl, rfl, rfl, trivial⟩))))
        exact Ev.bin Ev.int (Ev.name (a := .d (.int (i : Nat))) rfl) fun X => Bin.powN (by omega)
      · rw [hb, if_neg (by decide), Nat.add_zero]
        exact Ex.nil (Ex.nil (Sub.of ⟨rfl, rfl, rfl, rfl, rfl, rfl, trivial⟩))
    · exact Sub.refl _
    · intro _; rfl
  show Ex _ _ _ _ ⟨b2 ++ [(Str.ofString "code", AV.d (.int (codeW th odd found 7 : Nat)))], lg3⟩ _ _
  generalize codeW th odd found 7 = cw at hans ⊢
  refine Ex.cons (Ex1.ret (d := .list (xs ++ [ansD (sgL m) th line])) ?_ fin)
  rw [hans]
  refine Ev.bin (a := .d (.list xs)) (b := .d (.list [.tuple [.str (tx [(sgL m).getD 0 0]), .int (odd : Nat), .int (cw : Nat), .int (found : Nat), .int line]])) (Ev.name rfl) ?_ fun X => Bin.catL rfl rfl hsz
  refine Ev.list (ds := [.tuple [.str (tx [(sgL m).getD 0 0]), .int (odd : Nat), .int (cw : Nat), .int (found : Nat), .int line]]) (EvS.cons (Ev.tuple (ds := [.str (tx [(sgL m).getD 0 0]), .int (odd : Nat), .int (cw : Nat), .int (found : Nat), .int line]) ?_ (show 5 ≤ sizeLine by decide)) EvS.nil) (show 1 ≤ sizeLine by decide)
  refine EvS.cons ?_ (EvS.cons (Ev.name (a := .d (.int (odd : Nat))) rfl) (EvS.cons (Ev.name (a := .d (.int (cw : Nat))) rfl) (EvS.cons (Ev.name (a := .d (.int (found : Nat))) rfl) (EvS.cons ?_ EvS.nil))))
  · exact Ev.sub (a := .d (.str (tx (sgL m)))) (i := .d (.int ((0 : Nat) : Int))) (Ev.name rfl) (Ev.int (i := (0 : Nat))) (fun X => GetI.tx hw0 hwl) (by intro o i; exact ⟨_, rfl⟩)
  · exact Ev.ofInt (c2.attr (v := .int line T.t1) (Ev.free (v := .ref mch) rfl rfl hp1 j1 ho1) I k_ga k_dict k_line (getL_line ..) rfl)
end
end Mine
end

section
open PySem PySem.W PyProof.Rows PySem.Calls
set_option Elab.async false
set_option linter.unusedVariables false
set_option maxRecDepth 100000
namespace Mine
theorem FnMade.with {name qual : Str} {params : Arguments} {fb : FuncBody} {scope : Scope} {clos : List (Str × Addr)} {fo oc : Obj} {c' P' : Addr} {R : Prop} (M : FnMade name qual params fb scope clos fo c' P' oc) (k : ∀ q0, FnMade name q0 params fb scope clos fo c' P' oc → R) : R := k _ M
section
variable {prog : Program} {w : World} {mg mb : Str → Option Value} {h : Heap}
set_option maxHeartbeats 4000000 in
theorem lawReader (B : BB w mg mb h) (hC : CodeHd h 156 152) (mch : Addr) :
    CallL prog w 1 h (.ref 157) [.v (.ref mch)] [(152, tabObj #[])] (fun a lg' => ∃ f P pos qual imm fo, a = .v (.ref f) ∧ (f, fo) ∈ imm ∧ funObj fo ∧ (∀ p ∈ imm, p ∈ lg' ∧ p.1 ≠ P) ∧ (P, tabObj #[]) ∈ lg' ∧ (∃ ps, (152, tabObj ps) ∈ imm) ∧ ToldC prog w h mch f P pos qual imm) := by
  refine CallL.def_ (B.at rfl) rfl B.nolimit ⟨_, _, _, _, rfl, B.at rfl, rfl, rfl⟩ rfl rfl (names := [Str.ofString "machine"]) rfl nodup1 rfl rfl (notOwn_v notOwn_nil) (bind1 fun v => rfl) ?_
  rintro X ⟨_, h₀, _, Z⟩ C
  have c := Cx.called B C
  obtain ⟨⟨L, rfl⟩, hX, rfl, av⟩ := C
  refine Ex.cons ?_
  refine @Ex1.assignM prog w 0 _ _ _ _ _ _ _ ?_ ?_ ?_
  · rfl
  rotate_left
  · rfl
  refine @EvM.tupS prog w 0 _ _ _ tabsL _ _ _ ?_ ?_ ?_
  · exact EvS.cons Ev.str (EvS.cons Ev.str (EvS.cons Ev.str (EvS.cons Ev.str (EvS.cons Ev.str (EvS.cons Ev.str (EvS.cons Ev.str (EvS.cons Ev.str (EvS.cons Ev.str EvS.nil))))))))
  · show 9 ≤ sizeLine; decide
  intro t ts nt hts
  refine Ex.cons (c.defStmt (P := 152) (cc := 156) rfl rfl (List.mem_append_right _ (List.mem_cons_self ..)) (fun X h' F => hC.keeps (c.x F).1) trivial rfl (freeAll rfl) rfl rfl rfl rfl ?_)
  rintro f fo cd P oc nf nc nP M
  have c1' : ∀ {α : Type} {a b : α} {l : List α}, a ∈ l → a ∈ b :: l := List.mem_cons_of_mem _
  have t152 : t ≠ 152 := fun e => nt ⟨_, List.mem_cons_self .., e.symm⟩
  have tP : t ≠ P := fun e => nP ⟨_, List.mem_append_left _ (List.mem_cons_self ..), e⟩
  have n152 : 152 ≠ P := fun e => nP ⟨_, List.mem_append_right _ (List.mem_cons_self ..), e⟩
  refine Ex.abs (fun lg => (f, fo) ∈ lg ∧ (cd, oc) ∈ lg ∧ (P, tabObj #[]) ∈ lg ∧ (t, ({ cls := .type "tuple", data := .seq ts.toArray } : Obj)) ∈ lg ∧ ∃ ps, (152, tabObj ps) ∈ lg)
    ⟨List.mem_append_left _ (List.mem_cons_self ..), List.mem_append_left _ (c1' (List.mem_cons_self ..)), List.mem_append_left _ (c1' (c1' (List.mem_cons_self ..))), List.mem_append_right _ (putLg_keep (List.mem_append_left _ (List.mem_cons_self ..)) t152), _, List.mem_append_right _ (putLg_new (List.mem_append_right _ (List.mem_cons_self ..)))⟩ ?_
  clear nf nc nP nt
  rintro lg ⟨mf, mc, mP, mt, pst, m152⟩
  refine Ex.cons (Ex1.retCells (x := Str.ofString "machine") (y := Str.ofString "tables") rfl rfl rfl rfl rfl rfl (EvM.v (Ev.name rfl) ⟨.ref f, rfl, ?_⟩))
  rintro p1 o1 v1 p2 o2 v2 hp1 hp2 ho1 rfl ho2 rfl fun_
  obtain ⟨pm, ctv, hfo⟩ := M.f
  obtain ⟨vs1, tq, hq1, hq2⟩ := M.q
  refine M.with fun q0 M => ?_
  have rr : ∀ {p : Addr × Obj}, p ∈ lg → p ∈ [(p1, o1), (p2, o2)] ++ lg := fun z => List.mem_append_right _ z
  have m1 : (p1, o1) ∈ [(p1, o1), (p2, o2)] ++ lg := List.mem_append_left _ (List.mem_cons_self ..)
  have m2 : (p2, o2) ∈ [(p1, o1), (p2, o2)] ++ lg := List.mem_append_left _ (c1' (List.mem_cons_self ..))
  have nP : ∀ {p : Addr × Obj}, p ∈ [(p1, o1), (p2, o2)] ++ lg → p.2 ≠ tabObj #[] → p.1 ≠ P := fun hp hn e => hn (fun_ _ hp _ (rr mP) e)
  have n1 : p1 ≠ P := nP m1 fun e => by
    have e : o1 = _ := e
    rw [e] at ho1; cases ho1
  have n2 : p2 ≠ P := nP m2 fun e => by
    have e : o2 = _ := e
    rw [e] at ho2; cases ho2
  have n3 : cd ≠ P := nP (rr mc) fun e => by
    have e : oc = _ := e
    rw [e] at hq1; cases hq1; cases hq2
  have n4 : f ≠ P := nP (rr mf) fun e => by
    have e : fo = _ := e
    rw [hfo] at e
    exact absurd (congrArg Obj.cls e) (by simp)
  refine ⟨f, P, ⟨168, 23, 168, 59⟩, (q0 ++ ".<locals>.") ++ "<lambda>", [(f, fo), (cd, oc), (p1, o1), (p2, o2), (t, { cls := .type "tuple", data := .seq ts.toArray }), (152, tabObj pst)], fo, rfl, List.mem_cons_self .., ⟨_, _, _, _, hfo⟩, ?_, rr mP, ⟨_, c1' (c1' (c1' (c1' (c1' (List.mem_cons_self ..)))))⟩, told_ok B M hp1 hp2 ho1 ho2 hts n1 n2 n3⟩
  intro p hp
  simp only [List.mem_cons, List.not_mem_nil, or_false] at hp
  rcases hp with rfl | rfl | rfl | rfl | rfl | rfl
  · exact ⟨rr mf, n4⟩
  · exact ⟨rr mc, n3⟩
  · exact ⟨m1, n1⟩
  · exact ⟨m2, n2⟩
  · exact ⟨rr mt, tP⟩
  · exact ⟨rr m152, n152⟩
end
end Mine
end

section
open PySem PySem.W PyProof.Rows PySem.Calls
set_option Elab.async false
set_option linter.unusedVariables false
set_option maxRecDepth 100000
namespace Mine
theorem CallL.same {prog : Program} {w : World} {n : Nat} {h : Heap} {f : Value} {as : List AV} {lg lg2 : List (Addr × Obj)} {Ψ : AV → List (Addr × Obj) → Prop} (s : ∀ p, p ∈ lg ↔ p ∈ lg2) (k : CallL prog w n h f as lg Ψ) : CallL prog w n h f as lg2 Ψ := fun A R st X x av xok hlg vs rs E => by
  refine codeAny_mono (k A R st X x av xok (fun p hp => hlg p ((s p).mp hp)) vs rs E) fun r s' z => ?_
  cases r with
  | error e => exact z
  | ok fl => cases fl with
    | ret v =>
      obtain ⟨a, lg', hΨ, C⟩ := z
      have si : ∀ b, InLg lg b ↔ InLg lg2 b := fun b => ⟨fun ⟨q, hq, e⟩ => ⟨q, (s q).mp hq, e⟩, fun ⟨q, hq, e⟩ => ⟨q, (s q).mpr hq, e⟩⟩
      exact ⟨a, lg', hΨ, ⟨C.same, fun b ob e nl => C.kept b ob e fun z => nl ((si b).mp z), fun p hp => ⟨(C.led p hp).1, (C.led p hp).2.imp (si _).mp id⟩, C.vr, C.no, fun p z => C.ok p ((si p).mpr z)⟩⟩
    | _ => exact z
theorem due_noTup (r : Row1) (l : List Nat) : noTup 9 (dueR r l) = true := rfl
theorem dueP_noTups (rs : List Row1) (i : Nat) : noTups 9 (dueP rs i) = true := by
  unfold dueP
  generalize List.range i = l
  induction l with
  | nil => rfl
  | cons a r ih => rw [List.map_cons]; unfold noTups; rw [due_noTup, ih]; rfl
theorem dueP_succ {rs : List Row1} {i : Nat} {r : Row1} (hr : rs[i]? = some r) : dueP rs (i + 1) = dueP rs i ++ [dueR r (textP rs (i + 1))] := by
  have e : rs.getD i ⟨0, 0, [], 0⟩ = r := by simp [List.getD, hr]
  unfold dueP
  rw [List.range_succ, List.map_append, List.map_cons, List.map_nil, e]
theorem text_cut (rs : List Row1) (i : Nat) : rs.flatMap chunk1 = textP rs i ++ (rs.drop i).flatMap chunk1 := by
  unfold textP
  rw [← List.flatMap_append, List.take_append_drop]
section
variable {prog : Program} {w : World} {mg mb : Str → Option Value} {h : Heap} {A : MA} {imm lg lg' immR : List (Addr × Obj)} {text : Str} {L : Int} {it q f P : Addr} {t : Tok} {pos : Pos} {qual : Str} {r r' : List Nat}
theorem Mach.but {C : Addr} {rest : List Nat} {line : Int} {push : List Str} (M : Mach prog w h C A imm text lg rest line push) (hi : ∀ p ∈ imm, p.1 ≠ P) (h1 : A.d ≠ P) (h2 : A.pb ≠ P) (h3 : A.pl ≠ P) (s : ∀ p ∈ lg, p.1 ≠ P → p ∈ lg') : Mach prog w h C A imm text lg' rest line push where
  sub := fun p hp => s _ (M.sub p hp) (hi p hp)
  m := M.m
  st := M.st
  sd := M.sd
  rd := M.rd
  read := M.read
  tlen := M.tlen
  d := let ⟨T, k, hd⟩ := M.d; ⟨T, k, s _ hd h1⟩
  pb := let ⟨vs, k, hd, hv⟩ := M.pb; ⟨vs, k, s _ hd h2, hv⟩
  pl := let ⟨at_, oP, t, k, hat, hp, pc, pd⟩ := M.pl; ⟨at_, oP, t, k, hat, s _ hp h3, pc, pd⟩
  ne := M.ne
  dd := M.dd
structure TrN (A : MA) (imm immR : List (Addr × Obj)) (it q P : Addr) : Prop where
  pd : A.d ≠ P
  pp : A.pb ≠ P
  pl : A.pl ≠ P
  pi : it ≠ P
  pq : q ≠ P
  im : ∀ p ∈ imm, p.1 ≠ P ∧ p.1 ≠ it
  imR : ∀ p ∈ immR, p.1 ≠ P ∧ p.1 ≠ A.d ∧ p.1 ≠ A.pb ∧ p.1 ≠ A.pl ∧ p.1 ≠ it
  q : q ≠ A.d ∧ q ≠ A.pb ∧ q ≠ A.pl
  i : it ≠ A.d ∧ it ≠ A.pb ∧ it ≠ A.pl
structure Tr (prog : Program) (w : World) (h : Heap) (A : MA) (imm immR : List (Addr × Obj)) (text : Str) (L : Int) (it q P : Addr) (t : Tok) (pos : Pos) (qual : Str) (lg : List (Addr × Obj)) (r : List Nat) : Prop where
  M : Mach prog w h 115 A imm text lg r (L - nls r) []
  im : ∀ p ∈ immR, p ∈ lg
  lam : LamT pos qual [A.d, A.pb, A.pl, it] P lg
  hq : (q, methodObj (.ref 105) (.ref A.m)) ∈ lg
  hit : (it, ciObj q (Str.ofString "") t) ∈ lg
  len : r.length ≤ text.length
theorem Tr.tok (N : TrN A imm immR it q P) (K : Tr prog w h A imm immR text L it q P t pos qual lg r) (M : Mach prog w h 115 A imm text lg' r' (L - nls r') []) (s : Stay A lg lg') (l : r'.length ≤ text.length) : Tr prog w h A imm immR text L it q P t pos qual lg' r' where
  M := M
  im := fun p hp => s _ (K.im p hp) (N.imR p hp).2.1 (N.imR p hp).2.2.1 (N.imR p hp).2.2.2.1
  lam := K.lam.stay (by simp only [List.mem_cons, List.not_mem_nil, or_false, not_or]; exact ⟨N.pd.symm, N.pp.symm, N.pl.symm, N.pi.symm⟩) fun p hp hn => by
    simp only [List.mem_cons, List.not_mem_nil, or_false, not_or] at hn
    exact s _ hp hn.1 hn.2.1 hn.2.2.1
  hq := s _ K.hq N.q.1 N.q.2.1 N.q.2.2
  hit := s _ K.hit N.i.1 N.i.2.1 N.i.2.2
  len := l
theorem Tr.told (N : TrN A imm immR it q P) (K : Tr prog w h A imm immR text L it q P t pos qual lg r) (lam : LamT pos qual [A.d, A.pb, A.pl, it] P lg') (s : ∀ p ∈ lg, p.1 ≠ P → p ∈ lg') : Tr prog w h A imm immR text L it q P t pos qual lg' r where
  M := K.M.but (fun p hp => (N.im p hp).1) N.pd N.pp N.pl s
  im := fun p hp => s _ (K.im p hp) (N.imR p hp).1
  lam := lam
  hq := s _ K.hq N.pq
  hit := s _ K.hit N.pi
  len := K.len
theorem readAll (B : BB w mg mb h) (N : TrN A imm immR it q P) {fo : Obj} (hf : (f, fo) ∈ immR) (hfo : funObj fo) (td : ToldC prog w h A.m f P pos qual immR) (rs : List Row1) (ok : ∀ r ∈ rs, RowOk r) (hn : rs.length ≤ 10) (hL : L = 1 + nls (rs.flatMap chunk1)) (K : Tr prog w h A imm immR text L it q P t pos qual lg (rs.flatMap chunk1)) :
    CallL prog w 6 h (.ref 77) [.v (.ref f), .v (.ref it), .d (.list [])] lg (fun a lg' => a = .d (.list (dueP rs rs.length)) ∧ Mach prog w h 115 A imm text lg' [] L [] ∧ ∀ p ∈ immR, p ∈ lg') := by
  have B105 : ∃ o fd, h.get? 105 = some o ∧ o.data = .func fd := ⟨_, _, B.at rfl, rfl⟩
  obtain ⟨o105, fd105, h105, d105⟩ := B105
  refine (reduceI B (n := 4) (fa := f) (it := it) (xs := []) (lg := lg) (I := fun k v lg1 => ∃ i, i + k = rs.length ∧ v = .list (dueP rs i) ∧ Tr prog w h A imm immR text L it q P t pos qual lg1 ((rs.drop i).flatMap chunk1)) (Post := fun v lg' => v = .list (dueP rs rs.length) ∧ ∃ lg2, Tr prog w h A imm immR text L it q P t pos qual lg2 [] ∧ lg' = putLg lg2 it ciEnd) (k₀ := rs.length) ⟨_, K.hit, rfl⟩ ⟨0, Nat.zero_add _, rfl, K⟩ ?_).mono (Nat.le_refl _) ?_
  · rintro k v lg1 ⟨i, hik, rfl, K⟩
    refine ⟨q, 105, .ref A.m, Str.ofString "", t, o105, fd105, K.hit, K.hq, h105, d105, ?_⟩
    by_cases hlt : i < rs.length
    · have hr : rs[i]? = some rs[i] := List.getElem?_eq_getElem hlt
      have hdr : rs.drop i = rs[i] :: rs.drop (i + 1) := List.drop_eq_getElem_cons hlt
      have o := ok _ (List.getElem_mem hlt)
      generalize rs[i] = r at hr hdr o
      have hgt : gt ((rs.drop i).flatMap chunk1) = (sgL (modeR r), (rs.drop (i + 1)).flatMap chunk1) := by rw [hdr]; exact gt_flat1 ..
      have hl : ((rs.drop (i + 1)).flatMap chunk1).length ≤ text.length := by
        have := K.len
        rw [hdr, List.flatMap_cons, List.length_append] at this
        omega
      refine (getTok B K.M (Nat.zero_le _) K.len).mono (Nat.le_refl _) ?_
      rintro a lg2 ⟨rfl, M2, s2⟩
      rw [hgt] at M2
      rw [hgt]
      have M2 : Mach prog w h 115 A imm text lg2 ((rs.drop (i + 1)).flatMap chunk1) (L - nls ((rs.drop (i + 1)).flatMap chunk1)) [] := by
        rw [show L - nls ((rs.drop (i + 1)).flatMap chunk1) = L - nls ((rs.drop i).flatMap chunk1) + nls ((rs.drop i).flatMap chunk1) - nls ((rs.drop (i + 1)).flatMap chunk1) by omega]; exact M2
      have K2 := K.tok N M2 s2 hl
      refine ⟨_, rfl, K2.hit, K2.hq, fun _ => ⟨⟨fo, K2.im _ hf, hfo⟩, ?_⟩, fun e => ?_⟩
      · obtain ⟨T, kd, md⟩ := M2.d
        have hline : L - nls ((rs.drop (i + 1)).flatMap chunk1) = 1 + ((textP rs (i + 1)).count 10 : Nat) := by
          rw [hL, text_cut rs (i + 1)]
          unfold nls
          rw [List.count_append]
          omega
        have := td lg2 [A.d, A.pb, A.pl, it] (modeR r) T _ _ _ _ _ (dueP rs i) K2.im (fun b hb => ?_) K2.lam (M2.sub _ M2.m) md (by rw [dueP_len]; omega) (dueP_noTups rs i)
        · refine this.mono (by decide) ?_
          rintro a lg3 ⟨rfl, hlam, s3⟩
          refine ⟨_, rfl, rs.length - (i + 1), by omega, i + 1, by omega, ?_, K2.told N hlam s3⟩
          rw [hline, ans_due r o, dueP_succ hr]
        · simp only [List.mem_cons, List.not_mem_nil, or_false] at hb
          rcases hb with rfl | rfl | rfl | rfl
          · exact ⟨⟨_, md, rfl⟩, fun p hp => (N.imR p hp).2.1⟩
          · obtain ⟨vs, k, hp, _⟩ := M2.pb
            exact ⟨⟨_, hp, rfl⟩, fun p hp => (N.imR p hp).2.2.1⟩
          · obtain ⟨_, _, _, _, _, hp, _⟩ := M2.pl
            exact ⟨⟨_, hp, rfl⟩, fun p hp => (N.imR p hp).2.2.2.1⟩
          · exact ⟨⟨_, K2.hit, rfl⟩, fun p hp => (N.imR p hp).2.2.2.2⟩
      · have e : tx [] = tx (sgL (modeR r)) := e
        have := congrArg List.length (tx_inj e)
        rw [sgL_len] at this
        cases this
    · have hi : i = rs.length := by omega
      subst hi
      have K : Tr prog w h A imm immR text L it q P t pos qual lg1 [] := by rw [List.drop_length] at K; exact K
      rw [List.drop_length] at *
      refine (getTok B K.M (Nat.zero_le _) K.len).mono (Nat.le_refl _) ?_
      rintro a lg2 ⟨rfl, M2, s2⟩
      have M2 : Mach prog w h 115 A imm text lg2 [] (L - nls [] + nls [] - nls []) [] := M2
      have K2 := K.tok N (r' := []) (by rw [show L - nls [] = L - nls [] + nls [] - nls [] by omega]; exact M2) s2 K.len
      exact ⟨_, rfl, K2.hit, K2.hq, fun ne => absurd rfl ne, fun _ => ⟨rfl, lg2, K2, rfl⟩⟩
  · rintro a lg' ⟨v, rfl, rfl, lg2, K2, rfl⟩
    refine ⟨rfl, ?_, fun p hp => putLg_keep (K2.im p hp) (N.imR p hp).2.2.2.2⟩
    have := K2.M.putOther (b := it) (o := ciEnd) (fun p hp => (N.im p hp).2) N.i.1 N.i.2.1 N.i.2.2
    rw [show L - nls [] = L by show L - 0 = L; omega] at this
    exact this
end
end Mine
end

section
open PySem PySem.W PyProof.Rows PySem.Calls
set_option Elab.async false
set_option linter.unusedVariables false
set_option maxRecDepth 100000
namespace Mine
theorem kind_lt (k : Nat) : kindL k < 200 := by
  unfold kindL List.getD
  cases e : kindsL[k]? with
  | none => exact (show 63 < 200 by decide)
  | some c =>
    have : ∀ c ∈ kindsL, c < 200 := by decide
    exact this c (List.mem_of_getElem? e)
theorem canLay_due (r : Row1) (l : List Nat) : (dueR r l).canLay0 = true := by
  unfold dueR
  rw [PyData.canLay0, PyData.canLayAll0, strOk_tx (l := [kindL r.kind]) (fun c hc => by cases List.mem_singleton.mp hc; exact kind_lt _)]
  rfl
theorem depth_due (r : Row1) (l : List Nat) : (dueR r l).depth ≤ 1 := by
  unfold dueR
  simp [PyData.depth, PyData.depthAll]
theorem eqv_due (r : Row1) (l : List Nat) : PyData.eqv (dueR r l) (dueR r l) = true := by
  unfold dueR
  simp [PyData.eqv, PyData.eqvAll]
theorem canLay_dueP (rs : List Row1) (i : Nat) : PyData.canLayAll0 (dueP rs i) = true := by
  unfold dueP
  generalize List.range i = l
  induction l with
  | nil => rfl
  | cons a r ih => rw [List.map_cons, PyData.canLayAll0, ih, canLay_due]; rfl
theorem depth_dueP (rs : List Row1) (i : Nat) : PyData.depthAll (dueP rs i) ≤ 1 := by
  unfold dueP
  generalize List.range i = l
  induction l with
  | nil => exact Nat.zero_le _
  | cons a r ih =>
    rw [List.map_cons, PyData.depthAll]
    have := depth_due (rs.getD a ⟨0, 0, [], 0⟩) (textP rs (a + 1))
    omega
theorem shaped_dueP (rs : List Row1) (i : Nat) : SeqAt.shaped (.list (dueP rs i)) = true := by
  unfold SeqAt.shaped
  rw [PyData.canLay0, canLay_dueP, PyData.depth]
  have := depth_dueP rs i
  exact decide_eq_true (by omega)
theorem eqv_dueP (rs : List Row1) (i : Nat) : PyData.eqv (.list (dueP rs i)) (.list (dueP rs i)) = true := by
  rw [PyData.eqv]
  unfold dueP
  generalize List.range i = l
  induction l with
  | nil => rfl
  | cons a r ih => rw [List.map_cons, PyData.eqvAll, ih, eqv_due]; rfl
section
variable {prog : Program} {w : World} {mg mb : Str → Option Value} {h : Heap}
theorem g_rows (B : BB w mg mb h) : mg (Str.ofString "_law_rows") = some (.ref 126) := B.mg rfl rfl
theorem g_sent (B : BB w mg mb h) : mg (Str.ofString "_law_sent") = some (.ref 143) := B.mg rfl rfl
theorem g_machine (B : BB w mg mb h) : mg (Str.ofString "_law_machine") = some (.ref 150) := B.mg rfl rfl
theorem g_reader (B : BB w mg mb h) : mg (Str.ofString "_law_reader") = some (.ref 157) := B.mg rfl rfl
theorem sg_tok : specialIn (hd.heap_39 w.params) (.ref 105) "__get__" = some (some (.builtin "function.__get__")) := by kernel_rfl
theorem tk_tok : takesIn (hd.heap_39 w.params) (.ref 105) = some false := by kernel_rfl
theorem k_tokb (es : List DictEntry) (k : Nat) (hl : getL "get_token" es = some none) : findObj (hd.heap_39 w.params) 115 (some (dictOf es k)) "get_token" = some (.bind (.builtin "function.__get__") (.ref 105)) :=
  findObj_fn k_dict k_tok sg_tok tk_tok (by decide +kernel) (by rw [lookIn_dict]; exact hl)
set_option maxHeartbeats 4000000 in
theorem lawLaw (B : BB w mg mb h) (hC1 : CodeHd h 156 152) (hC2 : CodeHd h 149 145) (ns : List Int) (hn : ns.length ≤ 63) : CallL prog w 7 h (.ref 164) [.arr (ns.map .int)] [(152, tabObj #[]), (145, tabObj #[])] (fun a lg' => a = .d (.bool true) ∧ (∃ ps, (152, tabObj ps) ∈ lg') ∧ ∃ ps, (145, tabObj ps) ∈ lg') := by
  refine CallL.def_ (B.at rfl) rfl B.nolimit ⟨_, _, _, _, rfl, B.at rfl, rfl, rfl⟩ rfl rfl (names := [Str.ofString "script"]) rfl nodup1 rfl rfl (notOwn_arr notOwn_nil) (bind1 fun v => rfl) ?_
  rintro X ⟨_, h₀, _, Z⟩ C
  have c := Cx.called B C
  obtain ⟨⟨L, rfl⟩, hx, rfl, av⟩ := C
  have ok := rowsOf_ok ns
  have hl10 := rowsOf_len ns
  have hrows := fun X (av : Av X h) => lawRows (prog := prog) B av ns hn
  generalize rowsOf ns = rs at ok hl10 hrows
  let b1 : List (Str × AV) := [(Str.ofString "text", .d (.str (tx (rs.flatMap chunk1)))), (Str.ofString "due", .d (.list (dueP rs rs.length)))]
  refine Ex.then_ ⟨b1, [(152, tabObj #[]), (145, tabObj #[])]⟩ ?_ ?_
  · refine Ex1.assignT (d := .tuple [.str (tx (rs.flatMap chunk1)), .list (dueP rs rs.length)]) ?_ rfl rfl ?_
    · exact c.call (c.glob (g_sent B)) (EvS.cons (c.call (c.glob (g_rows B)) (EvS.cons (Ev.name (a := .arr (ns.map .int)) rfl) EvS.nil) (B.at rfl) fun X av => (hrows X av).le (by decide)) EvS.nil) (B.at rfl) fun X av => (lawSent B av rs ok hl10).le (by decide)
    · exact Sub.of ⟨rfl, rfl, trivial⟩
  clear hrows
  have tl : (rs.flatMap chunk1).length ≤ 230 := by have := flat1_len rs; omega
  -- machine
  refine Ex.cons (Ex1.assignM rfl (EvM.call (h := h) (f := .ref 150) (fun X h' F lg X' h'' F' => c.x F') (c.glob (g_machine B)) (EvMS.pure (EvS.cons (Ev.name (a := .d (.str (tx (rs.flatMap chunk1)))) rfl) EvS.nil) (notOwn_d notOwn_nil) ⟨fun X h' F => Cx.keepF (B.at rfl) (c.x F).1, ((lawMachine B hC2 (by rw [tx_len]; exact Nat.le_trans tl (by decide))).widen' (ext := [(152, tabObj #[])]) ?_).mono (by decide) ?_⟩)))
  · intro p hp
    cases List.mem_singleton.mp hp
    rintro ⟨q, hq, e⟩
    cases List.mem_singleton.mp hq
    cases e
  rintro a lgW ⟨lg1, ⟨A, imm, rfl, M, pst, htb⟩, rfl, ap1⟩
  rw [tx_list] at M
  let b2 : List (Str × AV) := [(Str.ofString "text", .d (.str (tx (rs.flatMap chunk1)))), (Str.ofString "due", .d (.list (dueP rs rs.length))), (Str.ofString "machine", .v (.ref A.m))]
  refine Ex.sub (ρ' := ⟨b2, [(152, tabObj #[])] ++ lg1⟩) (Sub.of ⟨rfl, rfl, rfl, trivial⟩) ?_
  -- answers
  refine Ex.cons (Ex1.assignM rfl (EvM.call (h := h) (f := .ref 77) (fun X h' F lg X' h'' F' => c.x F') (c.glob (g_reduce B)) (EvMS.cons (EvM.call (h := h) (f := .ref 157) (fun X h' F lg X' h'' F' => c.x F') (c.glob (g_reader B)) (EvMS.pure (EvS.cons (Ev.name (a := .v (.ref A.m)) rfl) EvS.nil) (notOwn_v notOwn_nil) ⟨fun X h' F => Cx.keepF (B.at rfl) (c.x F).1, (CallL.same (fun p => by show p ∈ lg1 ++ [(152, tabObj #[])] ↔ p ∈ [(152, tabObj #[])] ++ lg1; rw [List.mem_append, List.mem_append]; exact or_comm) ((lawReader B hC1 A.m).widen' (ext := lg1) ap1)).mono (by decide) ?_⟩)))))
  rintro a lgW ⟨lg2, ⟨f, P, pos, qual, immR, fo, rfl, hf, hfo, hsub, hP, ⟨pst2, h152⟩, td⟩, rfl, ap2⟩
  have hM1 := M.more (lg' := lg1 ++ lg2) fun p hp => List.mem_append_left _ hp
  obtain ⟨T, kd, md⟩ := hM1.d
  have I : InstL (lg1 ++ lg2) A.m A.d 115 (esM T 1 A.st A.pb) kd := ⟨hM1.sub _ hM1.m, md⟩
  refine EvMS.cons (EvM.call (h := h) (f := .builtin "iter") (fun X h' F lg X' h'' F' => c.x F') (c.blt (g_iter' B) boot_iter n_iter) (EvMS.cons (c.bound (Ev.name rfl) I k_ga k_gt (k_tokb _ _ (getL_tok ..)) t_tok fun q nq => EvMS.pure (EvS.cons Ev.str EvS.nil) (notOwn_d notOwn_nil) ⟨fun _ _ _ => KeepF.builtin, CallL.iter (List.mem_cons_self ..) fun it t ni => ?_⟩)))
  have N := TkN.of M (fun z => nq (let ⟨p, hp, e⟩ := z; ⟨p, List.mem_append_left _ hp, e⟩)) (fun z => ni (let ⟨p, hp, e⟩ := z; ⟨p, (List.mem_append.mp hp).elim (fun y => List.mem_append_left _ y) (fun y => List.mem_append_right _ (List.mem_append_left _ y)), e⟩))
  have rr : ∀ {p : Addr × Obj}, p ∈ lg1 ++ lg2 → p ∈ [(it, ciObj q (Str.ofString "") t)] ++ ([(q, methodObj (.ref 105) (.ref A.m))] ++ (lg1 ++ lg2)) := fun z => List.mem_append_right _ (List.mem_append_right _ z)
  have TN : TrN A imm immR it q P := {
    pd := fun e => ap2 _ hP (e ▸ N.d)
    pp := fun e => ap2 _ hP (e ▸ N.pb)
    pl := fun e => ap2 _ hP (e ▸ N.pl)
    pi := fun e => ni ⟨_, List.mem_append_right _ (List.mem_append_right _ hP), e.symm⟩
    pq := fun e => nq ⟨_, List.mem_append_right _ hP, e.symm⟩
    im := fun p hp => ⟨fun e => ap2 _ hP (e ▸ ⟨p, M.sub p hp, rfl⟩), fun e => ni ⟨p, List.mem_append_right _ (List.mem_append_left _ (M.sub p hp)), e⟩⟩
    imR := fun p hp => ⟨(hsub p hp).2, fun e => ap2 _ (hsub p hp).1 (e ▸ N.d), fun e => ap2 _ (hsub p hp).1 (e ▸ N.pb), fun e => ap2 _ (hsub p hp).1 (e ▸ N.pl), fun e => ni ⟨p, List.mem_append_right _ (List.mem_append_right _ (hsub p hp).1), e⟩⟩
    q := ⟨(N.ne N.d).2, (N.ne N.pb).2, (N.ne N.pl).2⟩
    i := ⟨(N.ne N.d).1, (N.ne N.pb).1, (N.ne N.pl).1⟩ }
  refine EvMS.pure (as := [.d (.list [])]) (EvS.cons (Ev.list (ds := []) EvS.nil (Nat.zero_le _)) EvS.nil) (notOwn_d notOwn_nil) ⟨fun X h' F => Cx.keepF (B.at rfl) (c.x F).1, (readAll B (L := 1 + nls (rs.flatMap chunk1)) (text := tx (rs.flatMap chunk1)) (t := t) TN hf hfo td rs ok hl10 rfl ?_).mono (Nat.le_refl _) ?_⟩
  · exact { M := by rw [show (1 : Int) + nls (rs.flatMap chunk1) - nls (rs.flatMap chunk1) = 1 by omega]; exact hM1.more fun p hp => rr hp
            im := fun p hp => rr (List.mem_append_right _ (hsub p hp).1)
            lam := .inl (rr (List.mem_append_right _ hP))
            hq := List.mem_append_right _ (List.mem_append_left _ (List.mem_singleton.mpr rfl))
            hit := List.mem_append_left _ (List.mem_singleton.mpr rfl)
            len := by rw [tx_len]; exact Nat.le_refl _ }
  rintro a lg3 ⟨rfl, M3, s3⟩
  have n152 := TN.imR _ h152
  clear I md hM1 N TN ap1 ap2 nq ni M rr
  refine Ex.sub (ρ' := ⟨[(Str.ofString "due", .d (.list (dueP rs rs.length))), (Str.ofString "machine", .v (.ref A.m)), (Str.ofString "answers", .d (.list (dueP rs rs.length)))], lg3⟩) (Sub.of ⟨rfl, rfl, rfl, trivial⟩) ?_
  have sh := shaped_dueP rs rs.length
  have ev := eqv_dueP rs rs.length
  generalize dueP rs rs.length = du at sh ev ⊢
  obtain ⟨T3, kd3, md3⟩ := M3.d
  have I : InstL lg3 A.m A.d 115 (esM T3 (1 + nls (rs.flatMap chunk1)) A.st A.pb) kd3 := ⟨M3.sub _ M3.m, md3⟩
  refine Ex.cons (Ex1.retM (EvM.and2 (EvM.cmpL (EvM.d (Ev.name (a := .d (.list du)) rfl) ⟨.d (.list du), true, Ev.name rfl, fun X => ?_, true, rfl, (fun z => by cases z), fun _ => ?_⟩))))
  · have := Cmp.eq (prog := prog) (w := w) (n := 6) (X := X) sh sh
    rw [ev] at this; exact this
  refine EvM.cmpL (EvM.meth (h := h) (ov := .ref A.m) (f := .ref 105) (first := [.ref A.m]) (fa := [.v (.ref A.m)]) (fun X h' F lg X' h'' F' => c.x F') (Ev.name rfl) (c.minst I k_ga k_gt k_tok t_tok (getL_tok ..)) rfl (EvMS.pure EvS.nil notOwn_nil ⟨fun X h' F => Cx.keepF (B.at rfl) (c.x F).1, (getTok B M3 (Nat.zero_le _) (Nat.zero_le _)).mono (by decide) ?_⟩))
  rintro a lg4 ⟨rfl, M4, s4⟩
  refine ⟨.d (.str (Str.ofString "")), true, Ev.str, fun X => ?_, rfl, ⟨pst2, ?_⟩, pst, M4.sub _ htb⟩
  · exact Cmp.seq (prog := prog) (w := w) (n := 6) (X := X) (x := Str.ofString "") (y := Str.ofString "")
  · exact s4 _ (s3 _ h152) n152.2.1 n152.2.2.1 n152.2.2.2.1
end
end Mine
end

section
open PySem PySem.W PyProof.Rows PySem.Calls
set_option Elab.async false
namespace Mine
theorem rm_caller : Rm 7 callerA := ⟨rfl, by decide +kernel, by decide +kernel⟩
set_option maxRecDepth 100000 in
set_option maxHeartbeats 8000000 in
theorem cw01 : PySem.Challenge.rw_oy0118_01.Holds := by
  refine hd ?_
  k_fill
  intro w s₀ s₁ mg mb G Y fa o pm cd doc dV kV ho hd hcd hD hmg hg args vals as hpre hlay hrd hwl hlo
  have KX := km_in_of Y
  km_tabs Y
  have X := (Ground.X G).1
  have V := (Ground.X G).2
  refine Ground.open G ?_
  intro T B D TE TW
  try (refine guard_noD D (by decide +kernel) ?_; clear D)
  have hmg' := hmg
  km_lay T hmg ho hd cd
  wrow_args hpre hlay hrd hwl hlo
  all_goals (
    first | refine callC_kw (enter_call ?_) | refine enter_call ?_
    w_top on)
  have BB0 := law_base KX T hT9 (by kernel_rfl)
  have hfa : mg (Str.ofString "law") = some (.ref 164) := BB0.mg rfl rfl
  have hfa2 : some (Value.ref fa) = some (Value.ref 164) := hmg'.symm.trans hfa
  cases hfa2
  rename IntsAre _ _ => hI
  rename Heap.IsList _ _ _ => hL
  rename ¬ _ => hn
  have hC := ghost_code hT9
  refine law_doneT hT9 rm_caller hL hI hg ?_ ?_ ((lawLaw BB0 hC.1 hC.2.1 _ ?_).mono (Nat.le_refl _) ?_)
  · intro x; rfl
  · refine postW_of (by wrow_shape) (by wtm_val) (by str_meet; first | done | w_fin)
  · omega
  · rintro a lg' ⟨rfl, h1, h2⟩
    refine ⟨rfl, fun q hq => ?_⟩
    simp only [List.mem_cons, List.not_mem_nil, or_false] at hq
    rcases hq with rfl | rfl
    · exact h1
    · exact h2
end Mine
end

theorem PySem.Challenge.cw_oy0118_01_holds : PySem.Challenge.rw_oy0118_01.Holds := by
  exact Mine.cw01
