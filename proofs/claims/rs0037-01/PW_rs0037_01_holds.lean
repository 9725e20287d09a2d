import PyProof.Rows.All
import Wide.All
import OpenK.AllK
import Wide.FinOn
import PySem.Challenge.RW_rs0037_01
open PySem PySem.W PyProof.Rows PySem.Spec
set_option Elab.async false
set_option maxRecDepth 100000
set_option linter.unusedVariables false
set_option linter.unusedSimpArgs false
namespace Mine

abbrev Pg : Program := PySem.Challenge.rw_rs0037_01.row.prog
abbrev Kp (h h' : Heap) : Prop := ∀ b o, h.get? b = some o → h'.get? b = some o

theorem Kp.refl (h : Heap) : Kp h h := fun _ _ e => e
theorem Kp.trans {h h' h'' : Heap} (a : Kp h h') (b : Kp h' h'') : Kp h h'' := fun x o e => b x o (a x o e)
theorem Kp.push (h : Heap) (o : Obj) : Kp h (h.push o) := fun _ _ e => Heap.get?_push_of_some _ e

theorem ks_refl (s : Shared) : Keeps s s := ⟨s.heap, s.toks, rfl, fun _ _ e => e⟩
theorem ks_trans {s s' s'' : Shared} (a : Keeps s s') (b : Keeps s' s'') : Keeps s s'' := by
  obtain ⟨h, t, rfl, k⟩ := a
  obtain ⟨h2, t2, rfl, k2⟩ := b
  exact ⟨h2, t2, rfl, fun x o e => k2 x o (k x o e)⟩
theorem ks_tok (s : Shared) (t : Nat) : Keeps s { s with toks := t } := ⟨s.heap, t, rfl, fun _ _ e => e⟩
theorem ks_heap {s s' : Shared} (a : Keeps s s') : Kp s.heap s'.heap := by obtain ⟨h, t, rfl, k⟩ := a; exact k
theorem ks_mk {s : Shared} {h' : Heap} {t : Nat} (k : Kp s.heap h') : Keeps s { s with heap := h', toks := t } := ⟨h', t, rfl, k⟩

/-- the data of the walk -/
inductive D where
  | int (x : Int)
  | str (x : Str)
  | bool (b : Bool)
  | flt (b : UInt64)
  | il (l : List Int)
  | sl (l : List Str)
  | ql (l : List Int)
  | val (v : Value)
  | rng (n : Int)

def Den : D → Value → Heap → Prop
  | .int x, v, _ => ∃ t, v = .int x t
  | .str x, v, _ => ∃ t, v = .str x t
  | .bool b, v, _ => v = .bool b
  | .flt b, v, _ => ∃ t, v = .float b t
  | .il l, v, h => ∃ a vs, v = .ref a ∧ h.IsList a (List.toArray vs) ∧ IntsAre vs l
  | .sl l, v, h => ∃ a vs, v = .ref a ∧ h.IsList a (List.toArray vs) ∧ StrsAre vs l
  | .ql l, v, h => ∃ a vs, v = .ref a ∧ h.PlainList a (List.toArray vs) ∧ IntsAre vs l
  | .val u, v, _ => v = u
  | .rng n, v, h => ∃ a t₁ t₂ t₃, v = .ref a ∧ IsRange h a 0 n 1 t₁ t₂ t₃

theorem Den.keep {d : D} {v : Value} {h h' : Heap} (x : Den d v h) (k : Kp h h') : Den d v h' := by
  cases d with
  | il l => obtain ⟨a, vs, e, hl, hi⟩ := x; exact ⟨a, vs, e, (let ⟨o, ho, r⟩ := hl; ⟨o, k _ _ ho, r⟩), hi⟩
  | sl l => obtain ⟨a, vs, e, hl, hi⟩ := x; exact ⟨a, vs, e, (let ⟨o, ho, r⟩ := hl; ⟨o, k _ _ ho, r⟩), hi⟩
  | ql l => obtain ⟨a, vs, e, ⟨n, hl⟩, hi⟩ := x; exact ⟨a, vs, e, ⟨n, k _ _ hl⟩, hi⟩
  | rng n => obtain ⟨a, t₁, t₂, t₃, e, hr⟩ := x; exact ⟨a, t₁, t₂, t₃, e, k _ _ hr⟩
  | _ => exact x

/-- an address that holds neither a sequence nor fields -/
def Plainly (h : Heap) (a : Addr) : Prop := ∀ o, h.get? a = some o → (∀ xs n, o.data ≠ .seq xs n) ∧ (∀ fs, o.data ≠ .fields fs)
theorem plainly_ns {h : Heap} {a : Addr} {m} (n : h.Ns a m) : Plainly h a := by
  obtain ⟨o, es, ep, ho, hd, _⟩ := n
  intro o' e
  rw [ho] at e; cases e
  exact ⟨fun xs n hx => (by rw [hd] at hx; cases hx), fun fs hx => (by rw [hd] at hx; cases hx)⟩
theorem plainly_cell {h : Heap} {a : Addr} {v} (n : h.IsCell a v) : Plainly h a := by
  obtain ⟨o, ho, hd⟩ := n
  intro o' e
  rw [ho] at e; cases e
  exact ⟨fun xs n hx => (by rw [hd] at hx; cases hx), fun fs hx => (by rw [hd] at hx; cases hx)⟩
theorem Den.but {d : D} {v : Value} {h h' : Heap} {a : Addr} (x : Den d v h) (p : Plainly h a) (k : Heap.ExtBut a h h') : Den d v h' := by
  cases d with
  | il l =>
    obtain ⟨b, vs, e, ⟨o, ho, hc, n, hd⟩, hi⟩ := x
    have hne : b ≠ a := by rintro rfl; exact (p o ho).1 _ _ hd
    exact ⟨b, vs, e, ⟨o, k b _ hne ho, hc, n, hd⟩, hi⟩
  | sl l =>
    obtain ⟨b, vs, e, ⟨o, ho, hc, n, hd⟩, hi⟩ := x
    have hne : b ≠ a := by rintro rfl; exact (p o ho).1 _ _ hd
    exact ⟨b, vs, e, ⟨o, k b _ hne ho, hc, n, hd⟩, hi⟩
  | ql l =>
    obtain ⟨b, vs, e, ⟨n, ho⟩, hi⟩ := x
    have hne : b ≠ a := by rintro rfl; exact (p _ ho).1 _ _ rfl
    exact ⟨b, vs, e, ⟨n, k b _ hne ho⟩, hi⟩
  | rng n =>
    obtain ⟨b, t₁, t₂, t₃, e, hr⟩ := x
    have hne : b ≠ a := by rintro rfl; exact (p _ hr).2 _ rfl
    exact ⟨b, t₁, t₂, t₃, e, k b _ hne hr⟩
  | _ => exact x

inductive DenAll (h : Heap) : List D → List Value → Prop
  | nil : DenAll h [] []
  | cons {d v ds vs} : Den d v h → DenAll h ds vs → DenAll h (d :: ds) (v :: vs)
theorem DenAll.keep {ds : List D} {vs : List Value} {h h' : Heap} (x : DenAll h ds vs) (k : Kp h h') : DenAll h' ds vs := by
  induction x with
  | nil => exact .nil
  | cons a _ ih => exact .cons (a.keep k) ih

/-! the program's defs, read off the row -/
def stAt (i : Nat) : Stmt := (Pg.main.body[i]?).getD (.Pass default)
def parAt (i : Nat) : Arguments := match stAt i with | .FunctionDef _ p _ _ _ _ _ _ _ _ => p | _ => default
def bodyAt (i : Nat) : List Stmt := match stAt i with | .FunctionDef _ _ b _ _ _ _ _ _ _ => b | _ => []
def scoAt (i : Nat) : Scope := match stAt i with | .FunctionDef _ _ _ _ _ _ s _ _ _ => s | _ => default
def fnD (i : Nat) (nm : Str) (pm : Value) (c : Addr) (doc : Value) : FuncData := Calls.docDef nm (parAt i) (bodyAt i) (scoAt i) pm (.ref c) doc

def gTab : List (Str × Value) := [("_strcoll", .ref 21), ("_strip_padding", .ref 28), ("median", .ref 48), ("median_low", .ref 55), ("median_high", .ref 62), ("_law_line", .ref 69), ("_law_pushed", .ref 76), ("_law_lower", .ref 81), ("_law_upper", .ref 86)]
def bTab : List (Str × Value) := [("len", .builtin "len"), ("sum", .builtin "sum"), ("min", .builtin "min"), ("max", .builtin "max"), ("sorted", .builtin "sorted"), ("range", .type "range"), ("type", .type "type"), ("int", .type "int"), ("float", .type "float")]
def fTab : List (Addr × Nat) := [(21, 1), (28, 2), (48, 5), (55, 6), (62, 7), (69, 9), (76, 10), (81, 11), (86, 12)]

structure Wd (h : Heap) : Prop where
  nolimit : h.NoLimit
  glob : ∃ mg mb, h.Ns mainGlobals mg ∧ h.Ns builtinsNs mb ∧ (∀ q ∈ gTab, mg q.1 = some q.2) ∧ (∀ q ∈ bTab, mg q.1 = none ∧ mb q.1 = some q.2)
  fns : ∀ q ∈ fTab, ∃ o nm pm c doc, h.get? q.1 = some o ∧ o.data = .func (fnD q.2 nm pm c doc) ∧ h.CodeRec (.ref c) nm
theorem Wd.keep {h h' : Heap} (x : Wd h) (k : Kp h h') : Wd h' :=
  ⟨x.nolimit.keeps k, (let ⟨mg, mb, a, b, r⟩ := x.glob; ⟨mg, mb, a.keeps k, b.keeps k, r⟩),
    fun q hq => let ⟨o, nm, pm, c, doc, a, b, cc⟩ := x.fns q hq; ⟨o, nm, pm, c, doc, k _ _ a, b, cc.keeps k⟩⟩

structure Good (env : Env) : Prop where
  k : env.scope.kind = .function
  g : env.globals = mainGlobals
  b : env.builtins = builtinsNs

/-- a name of the frame's own, or of a cell's -/
def Loads (env : Env) (h : Heap) (x : Str) (v : Value) : Prop :=
  (env.kindOf x = some .local ∧ ∃ m, h.Ns env.locals m ∧ m x = some v) ∨ (env.kindOf x = some .cell ∧ ∃ c, env.cells.lookup x = some c ∧ h.IsCell c (some v))
theorem Loads.keep {env : Env} {h h' : Heap} {x : Str} {v : Value} (l : Loads env h x v) (k : Kp h h') : Loads env h' x v := by
  rcases l with ⟨a, m, b, c⟩ | ⟨a, m, b, c⟩
  · exact .inl ⟨a, m, b.keeps k, c⟩
  · exact .inr ⟨a, m, b, c.keeps k⟩
theorem Loads.load {M : Model} {A : Around} {E : Value → Shared → Prop} {s : Shared} {env : Env} {x : Str} {v : Value} {Q : Value → Shared → Prop} (g : Good env) (l : Loads env s.heap x v) (h : Q v s) :
    wpAny M A (loadName env x) Q E s := by
  rcases l with ⟨a, m, b, c⟩ | ⟨a, m, b, c⟩
  · exact wpAny_loadName_local g.k a b c h
  · exact wpAny_loadName_cell g.k a b c h

abbrev Cx := List (Str × D)
structure Nms (env : Env) (G : Cx) (s : Shared) : Prop where
  good : Good env
  wd : Wd s.heap
  nm : ∀ q ∈ G, ∃ v, Loads env s.heap q.1 v ∧ Den q.2 v s.heap
theorem Nms.keep {env : Env} {G : Cx} {s s' : Shared} (n : Nms env G s) (k : Keeps s s') : Nms env G s' :=
  ⟨n.good, n.wd.keep (ks_heap k), fun q hq => let ⟨v, a, b⟩ := n.nm q hq; ⟨v, a.keep (ks_heap k), b.keep (ks_heap k)⟩⟩
theorem Nms.of_lookup {env : Env} {G : Cx} {s : Shared} {x : Str} {d : D} (n : Nms env G s) (h : G.lookup x = some d) : ∃ v, Loads env s.heap x v ∧ Den d v s.heap := n.nm (x, d) (mem_of_lookup h)

structure Room (n : Nat) (A : Around) : Prop where
  handled : A.handled = none
  depth : A.depth + n < 500
  units : A.units + 10 * n < 5000
theorem Room.deeper {n : Nat} {A : Around} (r : Room (n + 1) A) (env : Env) : Room n (A.deeper env) :=
  ⟨r.handled, by have := r.depth; show A.depth + 1 + n < 500; omega, by have := r.units; show A.units + 3 + 10 * n < 5000; omega⟩
theorem Room.le {n m : Nat} {A : Around} (r : Room n A) (h : m ≤ n) : Room m A := ⟨r.handled, by have := r.depth; omega, by have := r.units; omega⟩
theorem Room.rl {n : Nat} {A : Around} (r : Room n A) : A.depth < recursionLimit := by have := r.depth; unfold recursionLimit; omega
theorem Room.un {n : Nat} {A : Around} (r : Room n A) : A.units + 64 < cLine := by have := r.units; unfold cLine; omega

/-- an expression has a datum; the heap but grows -/
def Ev (w : World) (A : Around) (env : Env) (G : Cx) (e : Expr) (d : D) : Prop :=
  ∀ s E, Nms env G s → wpAny (model Pg w) A (eval e env) (fun v s' => Den d v s'.heap ∧ Keeps s s') E s
def Evs (w : World) (A : Around) (env : Env) (G : Cx) (pos : Pos) (es : List Expr) (ds : List D) : Prop :=
  ∀ s E, Nms env G s → wpAny (model Pg w) A (spliced (backTo pos (starEach es env))) (fun vs s' => DenAll s'.heap ds vs ∧ Keeps s s') E s
def Tr (w : World) (A : Around) (env : Env) (G : Cx) (e : Expr) (b : Bool) : Prop :=
  ∀ s E, Nms env G s → wpAny (model Pg w) A (isTrue e env (eval e env)) (fun r s' => r = b ∧ Keeps s s') E s

section
variable {w : World} {A : Around} {env : Env} {G : Cx}

theorem Ev.name {x : Str} {pos : Pos} {d : D} (h : G.lookup x = some d) (hd : (x == ("__debug__" : Str)) = false := by decide) : Ev w A env G (.Name x pos) d := by
  intro s E n
  obtain ⟨v, l, dn⟩ := n.of_lookup h
  exact wpAny_Name (l.load n.good ⟨dn, ks_refl s⟩) hd

theorem Ev.glob {x : Str} {pos : Pos} {v : Value} (hk : env.kindOf x = some .globalImplicit) (h : gTab.lookup x = some v) (hd : (x == ("__debug__" : Str)) = false := by decide) : Ev w A env G (.Name x pos) (.val v) := by
  intro s E n
  obtain ⟨mg, mb, a, b, c, d⟩ := n.wd.glob
  exact Calls.Name_function_global n.good.k hk (Calls.loadGlobal_global (by rw [n.good.g]; exact a) (c _ (mem_of_lookup h)) ⟨rfl, ks_refl s⟩) hd

theorem Ev.built {x : Str} {pos : Pos} {v : Value} (hk : env.kindOf x = some .globalImplicit) (h : bTab.lookup x = some v) (hd : (x == ("__debug__" : Str)) = false := by decide) : Ev w A env G (.Name x pos) (.val v) := by
  intro s E n
  obtain ⟨mg, mb, a, b, c, d⟩ := n.wd.glob
  have := d _ (mem_of_lookup h)
  exact Calls.Name_function_global n.good.k hk (Calls.loadGlobal_builtin (by rw [n.good.g]; exact a) this.1 (by rw [n.good.b]; exact b) this.2 ⟨rfl, ks_refl s⟩) hd

theorem Ev.cint {i : Int} {k : Nat} {pos : Pos} : Ev w A env G (.Constant (.int i) k pos) (.int i) := fun s _ _ => wpAny_Constant_int ⟨⟨_, rfl⟩, ks_tok s _⟩
theorem Ev.cstr {x : Str} {k : Nat} {pos : Pos} : Ev w A env G (.Constant (.str x) k pos) (.str x) := fun s _ _ => wpAny_Constant_str ⟨⟨_, rfl⟩, ks_tok s _⟩
theorem Ev.cbool {b : Bool} {k : Nat} {pos : Pos} : Ev w A env G (.Constant (.bool b) k pos) (.bool b) := fun s _ _ => wpAny_Constant_bool ⟨rfl, ks_refl s⟩

/-- the two values of two expressions, one behind the other -/
theorem Ev.two {a b : Expr} {d₁ d₂ : D} (ha : Ev w A env G a d₁) (hb : Ev w A env G b d₂) {s : Shared} {E : Value → Shared → Prop} (n : Nms env G s) {R : Value → Value → Shared → Prop}
    (h : ∀ v₁ v₂ s', Keeps s s' → Nms env G s' → Den d₁ v₁ s'.heap → Den d₂ v₂ s'.heap → R v₁ v₂ s') :
    wpAny (model Pg w) A (eval a env) (fun v₁ s₁ => wpAny (model Pg w) A (eval b env) (fun v₂ s₂ => R v₁ v₂ s₂) E s₁) E s :=
  wpAny_mono (ha s E n) (fun v₁ s₁ h₁ => wpAny_mono (hb s₁ E (n.keep h₁.2)) (fun v₂ s₂ h₂ =>
    h v₁ v₂ s₂ (ks_trans h₁.2 h₂.2) (n.keep (ks_trans h₁.2 h₂.2)) (h₁.1.keep (ks_heap h₂.2)) h₂.1) fun _ _ e => e) fun _ _ e => e

/-- an operator upon two data -/
def Bo (w : World) (A : Around) (op : Operator) (d₁ d₂ d : D) : Prop :=
  ∀ s E v₁ v₂, Wd s.heap → Den d₁ v₁ s.heap → Den d₂ v₂ s.heap → wpAny (model Pg w) A (binaryOp op v₁ v₂) (fun v s' => Den d v s'.heap ∧ Keeps s s') E s
def Co (w : World) (A : Around) (op : CmpOp) (d₁ d₂ : D) (b : Bool) : Prop :=
  ∀ s E v₁ v₂, Wd s.heap → Den d₁ v₁ s.heap → Den d₂ v₂ s.heap → wpAny (model Pg w) A (compareOp op v₁ v₂) (fun v s' => v = .bool b ∧ Keeps s s') E s

theorem Ev.bin {l r : Expr} {op : Operator} {pos : Pos} {d₁ d₂ d : D} (hl : Ev w A env G l d₁) (hr : Ev w A env G r d₂) (ho : Bo w A op d₁ d₂ d) : Ev w A env G (.BinOp l op r pos) d := by
  intro s E n
  refine wpAny_BinOp (Ev.two hl hr n fun v₁ v₂ s' k n' a b => ?_)
  exact wpAny_mono (ho s' E v₁ v₂ n'.wd a b) (fun v s₂ h => ⟨h.1, ks_trans k h.2⟩) fun _ _ e => e

theorem Ev.cmp {l r : Expr} {op : CmpOp} {pos : Pos} {d₁ d₂ : D} {b : Bool} (hl : Ev w A env G l d₁) (hr : Ev w A env G r d₂) (ho : Co w A op d₁ d₂ b) (hm : behindInMarks op r = false := by with_unfolding_all rfl) :
    Ev w A env G (.Compare l [op] [r] pos) (.bool b) := by
  intro s E n
  refine wpAny_Compare1 (Ev.two hl hr n fun v₁ v₂ s' k n' a b => ?_) hm
  exact wpAny_mono (ho s' E v₁ v₂ n'.wd a b) (fun v s₂ h => ⟨h.1, ks_trans k h.2⟩) fun _ _ e => e

theorem Tr.cmp {l r : Expr} {op : CmpOp} {pos : Pos} {d₁ d₂ : D} {b : Bool} (hl : Ev w A env G l d₁) (hr : Ev w A env G r d₂) (ho : Co w A op d₁ d₂ b) (hm : behindInMarks op r = false := by with_unfolding_all rfl) :
    Tr w A env G (.Compare l [op] [r] pos) b := by
  intro s E n
  refine wpAny_isTrue_Compare1 (Ev.two hl hr n fun v₁ v₂ s' k n' a b => ?_) hm
  refine wpAny_mono (ho s' E v₁ v₂ n'.wd a b) (fun v s₂ h => ?_) fun _ _ e => e
  obtain ⟨rfl, h2⟩ := h
  exact wpAny_truthy_bool ⟨rfl, ks_trans k h2⟩

theorem Ev.ite {t b o : Expr} {pos : Pos} {c : Bool} {d : D} (ht : Tr w A env G t c) (hb : c = true → Ev w A env G b d) (ho : c = false → Ev w A env G o d) : Ev w A env G (.IfExp t b o pos) d := by
  intro s E n
  refine wpAny_IfExp (wpAny_mono (ht s E n) (fun r s₁ h => ?_) fun _ _ e => e)
  obtain ⟨rfl, k⟩ := h
  cases r with
  | true => exact wpAny_mono (hb rfl s₁ E (n.keep k)) (fun v s₂ h => ⟨h.1, ks_trans k h.2⟩) fun _ _ e => e
  | false => exact wpAny_mono (ho rfl s₁ E (n.keep k)) (fun v s₂ h => ⟨h.1, ks_trans k h.2⟩) fun _ _ e => e

theorem Evs.nil {pos : Pos} : Evs w A env G pos [] [] := fun s _ _ => args_nil ⟨.nil, ks_refl s⟩
theorem Evs.cons {pos : Pos} {e : Expr} {es : List Expr} {d : D} {ds : List D} (h : Ev w A env G e d) (hs : Evs w A env G pos es ds)
    (he : starEach (e :: es) env = (false, eval e env) :: starEach es env := by rfl) : Evs w A env G pos (e :: es) (d :: ds) := by
  intro s E n
  refine args_cons (wpAny_mono (h s E n) (fun v s₁ h₁ => ?_) fun _ _ e => e) he
  exact wpAny_mono (hs s₁ E (n.keep h₁.2)) (fun vs s₂ h₂ => ⟨.cons (h₁.1.keep (ks_heap h₂.2)) h₂.1, ks_trans h₁.2 h₂.2⟩) fun _ _ e => e
end
end Mine
namespace Mine

def mkS (l : List Nat) : Str := ⟨l.toArray⟩
theorem mkS_cps (l : List Nat) : (mkS l).cps.toList = l := by simp [mkS]
theorem mkS_len (l : List Nat) : (mkS l).length = l.length := by simp [mkS, Str.length]
theorem mkS_app (a b : List Nat) : mkS a ++ mkS b = mkS (a ++ b) := by
  show (⟨(mkS a).cps ++ (mkS b).cps⟩ : Str) = _
  simp [mkS]
theorem mkS_inj {a b : List Nat} (h : mkS a = mkS b) : a = b := by
  have := congrArg (fun x : Str => x.cps.toList) h
  simpa [mkS] using this
theorem mkS_self (x : Str) : mkS x.cps.toList = x := by simp [mkS]

section
variable {w : World} {A : Around}

theorem Bo.addI {a b : Int} : Bo w A .Add (.int a) (.int b) (.int (a + b)) := by
  rintro s E v₁ v₂ - ⟨t, rfl⟩ ⟨u, rfl⟩
  exact PyProof.Rows.add_int ⟨⟨_, rfl⟩, ks_tok s _⟩
theorem Bo.subI {a b : Int} : Bo w A .Sub (.int a) (.int b) (.int (a - b)) := by
  rintro s E v₁ v₂ - ⟨t, rfl⟩ ⟨u, rfl⟩
  exact PyProof.Rows.sub_int ⟨⟨_, rfl⟩, ks_tok s _⟩
theorem Bo.modI {a b : Int} (hb : 0 < b) : Bo w A .Mod (.int a) (.int b) (.int (a % b)) := by
  rintro s E v₁ v₂ - ⟨t, rfl⟩ ⟨u, rfl⟩
  refine PyProof.Rows.mod_int' (by omega) ⟨⟨s.toks, ?_⟩, ks_tok s _⟩
  rw [Int.fmod_eq_emod_of_nonneg _ (by omega)]
theorem Bo.fdivI {a b : Int} (hb : 0 < b) (h0 : 0 ≤ a) (h1 : a < 1000000) (h2 : b < 1000) : Bo w A .FloorDiv (.int a) (.int b) (.int (a / b)) := by
  rintro s E v₁ v₂ - ⟨t, rfl⟩ ⟨u, rfl⟩
  refine PyProof.Rows.floordiv_int (by omega) ⟨⟨s.toks, ?_⟩, ks_tok s _⟩ (Or.inl (PyProof.noPylong_small (by omega)))
  rw [Int.fdiv_eq_ediv_of_nonneg _ (by omega)]
theorem Bo.subB {p q : Bool} : Bo w A .Sub (.bool p) (.bool q) (.int (p.toInt - q.toInt)) := by
  rintro s E v₁ v₂ - rfl rfl
  refine PyProof.Rows.sub_bool ⟨⟨s.toks, ?_⟩, ks_tok s _⟩
  cases p <;> cases q <;> rfl
theorem Bo.addS {a b : List Nat} (h : a.length + b.length ≤ 16777216) : Bo w A .Add (.str (mkS a)) (.str (mkS b)) (.str (mkS (a ++ b))) := by
  rintro s E v₁ v₂ - ⟨t, rfl⟩ ⟨u, rfl⟩
  exact KOpn.add (by rw [mkS_len, mkS_len]; exact h) fun t' k _ => ⟨⟨t', by rw [mkS_app]⟩, ks_tok s _⟩

theorem fold_rep (k : Nat) (c : Nat) (acc : Array Nat) : (List.replicate k (#[c] : Array Nat)).foldl (· ++ ·) acc = acc ++ (List.replicate k c).toArray := by
  induction k generalizing acc with
  | zero => simp
  | succ k ih =>
    rw [List.replicate_succ, List.foldl_cons, ih, List.replicate_succ]
    apply Array.toList_inj.mp
    simp [List.replicate_succ]
theorem mul_one (c : Nat) (n : Int) : Txt.mul (mkS [c]) n = mkS (List.replicate n.toNat c) := by
  unfold Txt.mul
  by_cases h : n < 1
  · rw [if_pos h]
    have : n.toNat = 0 := by omega
    rw [this]; rfl
  · rw [if_neg h]
    by_cases h1 : n = 1
    · subst h1; rfl
    · rw [if_neg (by simp [mkS, Str.length, h1])]
      show (⟨(List.replicate n.toNat (#[c] : Array Nat)).foldl (· ++ ·) #[]⟩ : Str) = _
      rw [fold_rep]; simp [mkS]
theorem Bo.mulS {c : Nat} {n : Int} (hlo : -1000000 ≤ n) (hhi : n ≤ 1000000) : Bo w A .Mult (.str (mkS [c])) (.int n) (.str (mkS (List.replicate n.toNat c))) := by
  rintro s E v₁ v₂ - ⟨t, rfl⟩ ⟨u, rfl⟩
  refine SB.mul (mulOk_of 16 1048576 (by simp [mkS, Str.length]) (by omega) (by omega) (by decide) (by decide)) fun t' k => ⟨⟨t', ?_⟩, ks_tok s _⟩
  rw [mul_one]

theorem isList_push {h : Heap} {items : Array Value} : (h.push { cls := .type "list", data := .seq items }).IsList h.objs.size items := ⟨_, Heap.get?_push_size _ rfl, rfl, 0, rfl⟩

/-- a list's object, its class and data put in -/
theorem list_obj {h : Heap} {a : Addr} {its : Array Value} (x : h.IsList a its) : ∃ d n sl, h.get? a = some { cls := .type "list", dict := d, data := .seq its n, slots := sl } := by
  rcases x with ⟨o, g, c, n, e⟩
  refine ⟨o.dict, n, o.slots, g.trans ?_⟩
  rw [← c, ← e]

theorem add_raw {s : Shared} {E : Value → Shared → Prop} {l b : Addr} {vs ws : List Value} {Q : Value → Shared → Prop} (hl : s.heap.IsList l vs.toArray) (hb : s.heap.IsList b ws.toArray)
    (h : ∀ h', Kp s.heap h' → h'.IsList s.heap.objs.size (vs ++ ws).toArray → Q (.ref s.heap.objs.size) { s with heap := h' })
    (hsz : vs.length + ws.length ≤ sizeLine) : wpAny (model Pg w) A (binaryOp .Add (.ref l) (.ref b)) Q E s := by
  have ⟨_, _, _, g₁⟩ := list_obj hl
  have ⟨_, _, _, g₂⟩ := list_obj hb
  have fit : vs.toArray.size + ws.toArray.size ≤ sizeLine := by rwa [List.size_toArray, List.size_toArray]
  have both : vs.toArray ++ ws.toArray = (vs ++ ws).toArray := List.append_toArray vs ws
  have here := h (s.heap.push { cls := .type "list", data := .seq (vs.toArray ++ ws.toArray) }) (Kp.push _ _) (by rw [← both]; exact isList_push)
  exact wpAny_binaryOp_concat hl.typeIs hb.typeIs noFill_list_add seq_list_add
    (call_meets PySem.F.slot_list_add hl.typeIs PySem.F.entry_list_add (PySem.F.args_list_add_2 ..) (list_addW _ _ _ _ _ _ _ _ _ _ fit) ⟨g₁, g₂, here⟩)

theorem Bo.addL {a b : List Int} (hz : a.length + b.length ≤ 1000000) : Bo w A .Add (.il a) (.il b) (.il (a ++ b)) := by
  rintro s E v₁ v₂ - ⟨l, vs, rfl, hl, hi⟩ ⟨l2, ws, rfl, hl2, hi2⟩
  refine add_raw hl hl2 (fun h' k il => ⟨⟨_, _, rfl, il, hi.append hi2⟩, ⟨h', s.toks, rfl, k⟩⟩) ?_
  rw [hi.length, hi2.length, sizeLine_eq]; omega

theorem strsAre_rep {v : Value} {x : Str} {t : Tok} (hv : v = .str x t) : ∀ k : Nat, StrsAre ((List.replicate k [v]).flatten) (List.replicate k x)
  | 0 => .nil
  | k + 1 => by subst hv; rw [List.replicate_succ, List.flatten_cons, List.replicate_succ]; exact .cons x t (strsAre_rep rfl k)
theorem Bo.mulL {x : Str} {n : Int} (hlo : 0 ≤ n) (hhi : n ≤ 1000000) : Bo w A .Mult (.sl [x]) (.int n) (.sl (List.replicate n.toNat x)) := by
  rintro s E v₁ v₂ - ⟨l, vs, rfl, hl, hi⟩ ⟨u, rfl⟩
  obtain ⟨v, t, rfl, hv⟩ : ∃ v t, vs = [v] ∧ v = .str x t := by cases hi with | cons _ t r => cases r; exact ⟨_, t, rfl, rfl⟩
  have ⟨d, k, sl, g⟩ := list_obj hl
  have ti := fun s' : Shared => typeIs_int s' n u
  -- the int declines; then the list repeats itself
  have rep := lm_list_mul_any l [v].toArray k d sl n u (by simp [Builtin.List.listFitsIndex]; omega) (by simp; omega) (by simp [Builtin.List.listTooLong, sizeLine]; omega)
  have no := lm_int_rmul_list_any n u l [v].toArray k d sl
  apply wpAny_binaryOp_repeat_ref (by decide) hl.typeIs ti noFill_list_mul PySem.F.fills_int_mul PySem.F.slot_int_rmul repeat_list PySem.F.slot_int_index.lookup
  apply call_meets PySem.F.slot_int_rmul (ti s) PySem.F.entry_int_rmul (PySem.F.args_int_rmul_2 ..) no
  refine ⟨g, rfl, hl.typeIs, ?_⟩
  apply call_meets PySem.F.slot_list_mul hl.typeIs PySem.F.entry_list_mul (PySem.F.args_list_mul_2 ..) rep
  refine ⟨g, ⟨_, (List.replicate n.toNat [v]).flatten, rfl, ?_, strsAre_rep hv _⟩, ⟨_, s.toks, rfl, Kp.push _ _⟩⟩
  rw [listMul_foldl_if]
  exact isList_push

theorem Co.eqI {a b : Int} : Co w A .Eq (.int a) (.int b) (decide (a = b)) := by
  rintro s E v₁ v₂ - ⟨t, rfl⟩ ⟨u, rfl⟩
  refine PyProof.Rows.eq_int ⟨?_, ks_refl s⟩
  congr 1
theorem Co.neI {a b : Int} : Co w A .NotEq (.int a) (.int b) (!decide (a = b)) := by
  rintro s E v₁ v₂ - ⟨t, rfl⟩ ⟨u, rfl⟩
  refine PySem.P.ne_int ⟨?_, ks_refl s⟩
  congr 1
theorem Co.ltI {a b : Int} : Co w A .Lt (.int a) (.int b) (decide (a < b)) := by
  rintro s E v₁ v₂ - ⟨t, rfl⟩ ⟨u, rfl⟩
  exact PyProof.Rows.lt_int ⟨rfl, ks_refl s⟩
theorem Co.gtI {a b : Int} : Co w A .Gt (.int a) (.int b) (decide (b < a)) := by
  rintro s E v₁ v₂ - ⟨t, rfl⟩ ⟨u, rfl⟩
  exact PyProof.Rows.gt_int ⟨rfl, ks_refl s⟩
theorem Co.neB {a b : Bool} : Co w A .NotEq (.bool a) (.bool b) (a != b) := by
  rintro s E v₁ v₂ - rfl rfl
  exact PyProof.Rows.ne_bool ⟨rfl, ks_refl s⟩
theorem Co.eqS {a b : Str} : Co w A .Eq (.str a) (.str b) (decide (a = b)) := by
  rintro s E v₁ v₂ - ⟨t, rfl⟩ ⟨u, rfl⟩
  refine PyProof.Rows.eq_str ⟨?_, ks_refl s⟩
  congr 1
theorem Co.ltS {a b : List Nat} : Co w A .Lt (.str (mkS a)) (.str (mkS b)) (decide (a < b)) := by
  rintro s E v₁ v₂ - ⟨t, rfl⟩ ⟨u, rfl⟩
  refine PyProof.Rows.lt_str ⟨?_, ks_refl s⟩
  simp only [mkS_cps]
theorem Co.gtS {a b : List Nat} : Co w A .Gt (.str (mkS a)) (.str (mkS b)) (decide (b < a)) := by
  rintro s E v₁ v₂ - ⟨t, rfl⟩ ⟨u, rfl⟩
  refine PySem.P.gt_str ⟨?_, ks_refl s⟩
  simp only [mkS_cps]
theorem Co.neL {n : Nat} {a b : List Int} (hr : Room n A) : Co w A .NotEq (.il a) (.il b) (!decide (a = b)) := by
  rintro s E v₁ v₂ - ⟨l, vs, rfl, hl, hi⟩ ⟨l2, ws, rfl, hl2, hi2⟩
  exact ke_ne_ints hl hl2 hi hi2 hr.un ⟨rfl, ks_refl s⟩
end
end Mine
namespace Mine

theorem subd (slice : Expr) (o i : Value) : ∃ ops, subscripted slice false o i = operate ops (getItem o i) := by
  unfold subscripted
  split
  · exact ⟨_, rfl⟩
  · rename_i h; exact absurd h (by simp)
  · exact ⟨_, rfl⟩

section
variable {w : World} {A : Around} {env : Env} {G : Cx}

/-- getItem upon two data -/
def Gi (w : World) (A : Around) (T : String) (d₁ d₂ d : D) : Prop :=
  ∀ s E v₁ v₂, Den d₁ v₁ s.heap → Den d₂ v₂ s.heap → s.TypeIs v₁ T ∧ wpAny (model Pg w) A (getItem v₁ v₂) (fun v s' => Den d v s'.heap ∧ Keeps s s') E s

theorem Ev.sub {T id : String} {value slice : Expr} {pos : Pos} {d₁ d₂ d : D} (hl : typeLookup (.type T) "__getitem__" = pure (some (.builtin id))) (hv : Ev w A env G value d₁) (hs : Ev w A env G slice d₂) (hg : Gi w A T d₁ d₂ d) :
    Ev w A env G (.Subscript value slice pos) d := by
  intro s E n
  refine Subscript_ (Ev.two hv hs n fun v₁ v₂ s' k n' a b => ?_)
  obtain ⟨ops, ho⟩ := subd slice v₁ v₂
  obtain ⟨hT, hw⟩ := hg s' E v₁ v₂ a b
  exact tail_any hT hl (wpAny_mono hw (fun v s₂ h => ⟨h.1, ks_trans k h.2⟩) fun _ _ e => e) ho

theorem intsAre_get : ∀ {vs : List Value} {ns : List Int} {i : Nat} {x : Int}, IntsAre vs ns → ns[i]? = some x → ∃ t, vs[i]? = some (.int x t)
  | _, _, 0, _, .cons n t r, h => by simp at h; subst h; exact ⟨t, rfl⟩
  | _, _, i + 1, _, .cons n t r, h => by simp at h; obtain ⟨t', e⟩ := intsAre_get r h; exact ⟨t', by simpa using e⟩
theorem Gi.il {l : List Int} {k x : Int} (h0 : 0 ≤ k) (h1 : k < 1000000) (hx : l[k.toNat]? = some x) : Gi w A "list" (.il l) (.int k) (.int x) := by
  rintro s E v₁ v₂ ⟨a, vs, rfl, hl, hi⟩ ⟨u, rfl⟩
  obtain ⟨t, e⟩ := intsAre_get hi hx
  exact ⟨(Heap.IsList.typeIs hl), wpAny_getItem_list hl h0 (by omega) (by simpa using e) ⟨⟨t, rfl⟩, ks_refl s⟩⟩
theorem Gi.sl {l : List Str} {k : Int} {x : Str} (h0 : 0 ≤ k) (h1 : k < 1000000) (hx : l[k.toNat]? = some x) : Gi w A "list" (.sl l) (.int k) (.str x) := by
  rintro s E v₁ v₂ ⟨a, vs, rfl, hl, hi⟩ ⟨u, rfl⟩
  obtain ⟨t, e⟩ := StrsAre.get hi _ _ hx
  exact ⟨(Heap.IsList.typeIs hl), wpAny_getItem_list hl h0 (by omega) (by simpa using e) ⟨⟨t, rfl⟩, ks_refl s⟩⟩
theorem Gi.str {l : List Nat} {k : Int} {c : Nat} (h0 : 0 ≤ k) (h1 : k < 1000000) (hx : l[k.toNat]? = some c) : Gi w A "str" (.str (mkS l)) (.int k) (.str (mkS [c])) := by
  rintro s E v₁ v₂ ⟨t, rfl⟩ ⟨u, rfl⟩
  refine ⟨typeIs_str _ _ _, PySem.P.getItem_str (c := c) ?_ ?_ ⟨⟨_, rfl⟩, ks_tok s _⟩⟩
  · simp; omega
  · have hlt : k.toNat < l.length := (List.getElem?_eq_some_iff.mp hx).1
    have e : seqIndex? k (mkS l).length = some k.toNat := by
      unfold seqIndex?
      have hn : ¬ k < 0 := by omega
      have h2 : k < (l.length : Int) := by omega
      simp [mkS_len, hn, h0, h2]
    rw [e]
    simpa [mkS] using hx

theorem Ev.itemL {value slice : Expr} {pos : Pos} {l : List Int} {k x : Int} (hv : Ev w A env G value (.il l)) (hs : Ev w A env G slice (.int k)) (h0 : 0 ≤ k) (h1 : k < 1000000) (hx : l[k.toNat]? = some x) : Ev w A env G (.Subscript value slice pos) (.int x) :=
  Ev.sub PySem.F.slot_list_getitem.lookup hv hs (Gi.il h0 h1 hx)
theorem Ev.itemS {value slice : Expr} {pos : Pos} {l : List Str} {k : Int} {x : Str} (hv : Ev w A env G value (.sl l)) (hs : Ev w A env G slice (.int k)) (h0 : 0 ≤ k) (h1 : k < 1000000) (hx : l[k.toNat]? = some x) : Ev w A env G (.Subscript value slice pos) (.str x) :=
  Ev.sub PySem.F.slot_list_getitem.lookup hv hs (Gi.sl h0 h1 hx)
theorem Ev.itemT {value slice : Expr} {pos : Pos} {l : List Nat} {k : Int} {c : Nat} (hv : Ev w A env G value (.str (mkS l))) (hs : Ev w A env G slice (.int k)) (h0 : 0 ≤ k) (h1 : k < 1000000) (hx : l[k.toNat]? = some c) : Ev w A env G (.Subscript value slice pos) (.str (mkS [c])) :=
  Ev.sub PySem.F.slot_str_getitem.lookup hv hs (Gi.str h0 h1 hx)

/-- a part of a slice -/
def EvP (w : World) (A : Around) (env : Env) (G : Cx) (o : Option Expr) (p : Option Int) : Prop :=
  ∀ s E, Nms env G s → wpAny (model Pg w) A (evalPart o env) (fun v s' => IsPart v p ∧ Keeps s s') E s
theorem EvP.none : EvP w A env G none none := fun s _ _ => wpAny_evalPart_none ⟨.none, ks_refl s⟩
theorem EvP.some {e : Expr} {i : Int} (h : Ev w A env G e (.int i)) : EvP w A env G (some e) (some i) := fun s E n =>
  wpAny_evalPart_some (wpAny_mono (h s E n) (fun v s' h => by obtain ⟨⟨t, rfl⟩, k⟩ := h; exact ⟨.int _ _, k⟩) fun _ _ e => e)

theorem Ev.slice {T id : String} {value : Expr} {lo hi st : Option Expr} {p pos : Pos} {d₁ d : D} {l u k : Option Int} (hl : typeLookup (.type T) "__getitem__" = pure (some (.builtin id)))
    (hv : Ev w A env G value d₁) (h1 : EvP w A env G lo l) (h2 : EvP w A env G hi u) (h3 : EvP w A env G st k)
    (hg : ∀ s E v₁ a vl vu vk, Den d₁ v₁ s.heap → s.heap.IsSliceOf a vl vu vk → IsPart vl l → IsPart vu u → IsPart vk k → s.TypeIs v₁ T ∧ wpAny (model Pg w) A (getItem v₁ (.ref a)) (fun v s' => Den d v s'.heap ∧ Keeps s s') E s) :
    Ev w A env G (.Subscript value (.Slice lo hi st p) pos) d := by
  intro s E n
  refine Subscript_ (wpAny_mono (hv s E n) (fun v₁ s₁ q₁ => wpAny_Slice (wpAny_mono (h1 s₁ E (n.keep q₁.2)) (fun vl s₂ q₂ => wpAny_mono (h2 s₂ E (n.keep (ks_trans q₁.2 q₂.2))) (fun vu s₃ q₃ =>
    wpAny_mono (h3 s₃ E (n.keep (ks_trans (ks_trans q₁.2 q₂.2) q₃.2))) (fun vk s₄ q₄ => ?_) fun _ _ e => e) fun _ _ e => e) fun _ _ e => e)) fun _ _ e => e)
  have k4 := ks_trans (ks_trans (ks_trans q₁.2 q₂.2) q₃.2) q₄.2
  have k5 : Keeps s₄ { s₄ with heap := s₄.heap.push { cls := .type "slice", data := .fields #[vl, vu, vk] } } := ⟨_, s₄.toks, rfl, Kp.push _ _⟩
  obtain ⟨ops, ho⟩ := subd (.Slice lo hi st p) v₁ (.ref s₄.heap.objs.size)
  have kk := ks_heap (ks_trans (ks_trans (ks_trans q₂.2 q₃.2) q₄.2) k5)
  obtain ⟨hT, hw⟩ := hg { s₄ with heap := s₄.heap.push { cls := .type "slice", data := .fields #[vl, vu, vk] } } E v₁ s₄.heap.objs.size vl vu vk (q₁.1.keep kk) ⟨_, Heap.get?_push_size _ rfl, rfl, rfl⟩ q₂.1 q₃.1 q₄.1
  exact tail_any hT hl (wpAny_mono hw (fun v s₂ h => ⟨h.1, ks_trans (ks_trans k4 k5) h.2⟩) fun _ _ e => e) ho

theorem Ev.sliceL {value : Expr} {lo hi st : Option Expr} {p pos : Pos} {xs ys : List Int} {l u k : Option Int}
    (hv : Ev w A env G value (.il xs)) (h1 : EvP w A env G lo l) (h2 : EvP w A env G hi u) (h3 : EvP w A env G st k) (h0 : k ≠ some 0) (hz : xs.length < 1000000)
    (hp : ∀ vs, IntsAre vs xs → IntsAre (slicePick vs.toArray l u k).toList ys) : Ev w A env G (.Subscript value (.Slice lo hi st p) pos) (.il ys) := by
  refine Ev.slice PySem.F.slot_list_getitem.lookup hv h1 h2 h3 ?_
  rintro s E v₁ a vl vu vk ⟨b, vs, rfl, hl, hi'⟩ hs pl pu pk
  refine ⟨(Heap.IsList.typeIs hl), wpAny_getItem_list_slice hl hs pl pu pk h0 ⟨⟨_, (slicePick vs.toArray l u k).toList, rfl, ?_, hp vs hi'⟩, ⟨_, s.toks, rfl, Kp.push _ _⟩⟩ ?_⟩
  · rw [Array.toArray_toList]; exact isList_push
  · rw [List.size_toArray, (IntsAre.length hi'), sizeLine_eq]; omega
theorem Ev.sliceS {value : Expr} {lo hi st : Option Expr} {p pos : Pos} {xs ys : List Str} {l u k : Option Int}
    (hv : Ev w A env G value (.sl xs)) (h1 : EvP w A env G lo l) (h2 : EvP w A env G hi u) (h3 : EvP w A env G st k) (h0 : k ≠ some 0) (hz : xs.length < 1000000)
    (hp : ∀ vs, StrsAre vs xs → StrsAre (slicePick vs.toArray l u k).toList ys) : Ev w A env G (.Subscript value (.Slice lo hi st p) pos) (.sl ys) := by
  refine Ev.slice PySem.F.slot_list_getitem.lookup hv h1 h2 h3 ?_
  rintro s E v₁ a vl vu vk ⟨b, vs, rfl, hl, hi'⟩ hs pl pu pk
  refine ⟨(Heap.IsList.typeIs hl), wpAny_getItem_list_slice hl hs pl pu pk h0 ⟨⟨_, (slicePick vs.toArray l u k).toList, rfl, ?_, hp vs hi'⟩, ⟨_, s.toks, rfl, Kp.push _ _⟩⟩ ?_⟩
  · rw [Array.toArray_toList]; exact isList_push
  · rw [List.size_toArray, (StrsAre.len_eq hi'), sizeLine_eq]; omega

theorem strsAre_rev {vs : List Value} {ns : List Str} (h : StrsAre vs ns) : StrsAre vs.reverse ns.reverse := by
  induction h with
  | nil => exact .nil
  | cons y t _ ih => simpa using ih.append' (.cons y t .nil)

theorem Ev.revL {value st : Expr} {p pos : Pos} {xs : List Int} (hv : Ev w A env G value (.il xs)) (h3 : Ev w A env G st (.int (-1))) (hz : xs.length < 1000000) :
    Ev w A env G (.Subscript value (.Slice none none (some st) p) pos) (.il xs.reverse) :=
  Ev.sliceL hv EvP.none EvP.none (EvP.some h3) (by decide) hz fun vs hi => by rw [krv_pick]; exact hi.reverse
theorem Ev.revS {value st : Expr} {p pos : Pos} {xs : List Str} (hv : Ev w A env G value (.sl xs)) (h3 : Ev w A env G st (.int (-1))) (hz : xs.length < 1000000) :
    Ev w A env G (.Subscript value (.Slice none none (some st) p) pos) (.sl xs.reverse) :=
  Ev.sliceS hv EvP.none EvP.none (EvP.some h3) (by decide) hz fun vs hi => by rw [krv_pick]; exact strsAre_rev hi
theorem Ev.fromL {value lo : Expr} {p pos : Pos} {xs : List Int} {i : Int} (hv : Ev w A env G value (.il xs)) (h1 : Ev w A env G lo (.int i)) (h0 : 0 ≤ i) (hz : xs.length < 1000000) :
    Ev w A env G (.Subscript value (.Slice (some lo) none none p) pos) (.il (xs.drop i.toNat)) :=
  Ev.sliceL hv (EvP.some h1) EvP.none EvP.none (by decide) hz fun vs hi => slice_ints_fromW hi h0
theorem Ev.uptoL {value hi : Expr} {p pos : Pos} {xs : List Int} {i : Int} (hv : Ev w A env G value (.il xs)) (h1 : Ev w A env G hi (.int i)) (h0 : 0 ≤ i) (hz : xs.length < 1000000) :
    Ev w A env G (.Subscript value (.Slice none (some hi) none p) pos) (.il (xs.take i.toNat)) :=
  Ev.sliceL hv EvP.none (EvP.some h1) EvP.none (by decide) hz fun vs hi => slice_ints_uptoW hi h0

/-- list displays -/
theorem Ev.listI {es : List Expr} {pos : Pos} {ds : List D} {xs : List Int} (h : Evs w A env G pos es ds) (hd : ds = xs.map D.int) (hz : xs.length < 1000000) : Ev w A env G (.List es pos) (.il xs) := by
  subst hd
  intro s E n
  refine wpAny_List (wpAny_mono (h s E n) (fun vs s₁ q => ?_) fun _ _ e => e)
  obtain ⟨hd, k⟩ := q
  have hi : IntsAre vs xs := by
    clear hz h
    induction xs generalizing vs with
    | nil => cases hd; exact .nil
    | cons x xs ih => cases hd with | cons a r => obtain ⟨t, rfl⟩ := a; exact .cons x t (ih _ r)
  exact ⟨by rw [(IntsAre.length hi), sizeLine_eq]; omega, ⟨_, vs, rfl, isList_push, hi⟩, ks_trans k ⟨_, s₁.toks, rfl, Kp.push _ _⟩⟩
theorem Ev.listS {es : List Expr} {pos : Pos} {ds : List D} {xs : List Str} (h : Evs w A env G pos es ds) (hd : ds = xs.map D.str) (hz : xs.length < 1000000) : Ev w A env G (.List es pos) (.sl xs) := by
  subst hd
  intro s E n
  refine wpAny_List (wpAny_mono (h s E n) (fun vs s₁ q => ?_) fun _ _ e => e)
  obtain ⟨hd, k⟩ := q
  have hi : StrsAre vs xs := by
    clear hz h
    induction xs generalizing vs with
    | nil => cases hd; exact .nil
    | cons x xs ih => cases hd with | cons a r => obtain ⟨t, rfl⟩ := a; exact .cons x t (ih _ r)
  exact ⟨by rw [(StrsAre.len_eq hi), sizeLine_eq]; omega, ⟨_, vs, rfl, isList_push, hi⟩, ks_trans k ⟨_, s₁.toks, rfl, Kp.push _ _⟩⟩

/-- calls -/
def Cl (w : World) (A : Around) (f : Value) (ds : List D) (d : D) : Prop :=
  ∀ s E vs, Wd s.heap → DenAll s.heap ds vs → wpAny (model Pg w) A (call f vs) (fun v s' => Den d v s'.heap ∧ Keeps s s') E s

theorem Ev.callB {x : Str} {np pos : Pos} {e : Expr} {es : List Expr} {id : String} {ds : List D} {d : D} (hf : Ev w A env G (.Name x np) (.val (.builtin id))) (ha : Evs w A env G pos (e :: es) ds) (hc : Cl w A (.builtin id) ds d)
    (he : starEach (e :: es) env = (false, eval e env) :: starEach es env := by rfl) (hp : (backTo pos (starEach es env)).any (·.1) = false := by rfl) : Ev w A env G (.Call (.Name x np) (e :: es) [] pos) d := by
  intro s E n
  refine Call_Name rfl (wpAny_mono (hf s E n) (fun f s₁ q => ?_) fun _ _ e => e)
  obtain ⟨hv, k⟩ := q
  cases hv
  refine callWith_builtin1 (wpAny_mono (ha s₁ E (n.keep k)) (fun vs s₂ q₂ => ?_) fun _ _ e => e) he hp
  exact wpAny_mono (hc s₂ E vs (n.keep (ks_trans k q₂.2)).wd q₂.1) (fun v s₃ q₃ => ⟨q₃.1, ks_trans (ks_trans k q₂.2) q₃.2⟩) fun _ _ e => e
theorem Ev.callT {x : Str} {np pos : Pos} {e : Expr} {es : List Expr} {T : String} {ds : List D} {d : D} (hf : Ev w A env G (.Name x np) (.val (.type T))) (ha : Evs w A env G pos (e :: es) ds) (hc : Cl w A (.type T) ds d)
    (he : starEach (e :: es) env = (false, eval e env) :: starEach es env := by rfl) (hp : (backTo pos (starEach es env)).any (·.1) = false := by rfl) : Ev w A env G (.Call (.Name x np) (e :: es) [] pos) d := by
  intro s E n
  refine Call_Name rfl (wpAny_mono (hf s E n) (fun f s₁ q => ?_) fun _ _ e => e)
  obtain ⟨hv, k⟩ := q
  cases hv
  refine PyProof.Rows.callWith_type1 (wpAny_mono (ha s₁ E (n.keep k)) (fun vs s₂ q₂ => ?_) fun _ _ e => e) he hp
  exact wpAny_mono (hc s₂ E vs (n.keep (ks_trans k q₂.2)).wd q₂.1) (fun v s₃ q₃ => ⟨q₃.1, ks_trans (ks_trans k q₂.2) q₃.2⟩) fun _ _ e => e
theorem Ev.callF {x : Str} {np pos : Pos} {e : Expr} {es : List Expr} {f i : Nat} {ds : List D} {d : D} (hf : Ev w A env G (.Name x np) (.val (.ref f))) (ha : Evs w A env G pos (e :: es) ds) (hc : Cl w A (.ref f) ds d)
    (hi : (f, i) ∈ fTab) (he : starEach (e :: es) env = (false, eval e env) :: starEach es env := by rfl) : Ev w A env G (.Call (.Name x np) (e :: es) [] pos) d := by
  intro s E n
  refine Call_Name rfl (wpAny_mono (hf s E n) (fun f s₁ q => ?_) fun _ _ e => e)
  obtain ⟨hv, k⟩ := q
  cases hv
  obtain ⟨o, nm, pm, c, doc, ho, hd, _⟩ := (n.keep k).wd.fns _ hi
  refine callWith_def hd (wpAny_mono (ha s₁ E (n.keep k)) (fun vs s₂ q₂ => ⟨ks_heap q₂.2 _ _ ho, ?_⟩) fun _ _ e => e) he
  exact wpAny_mono (hc s₂ E vs (n.keep (ks_trans k q₂.2)).wd q₂.1) (fun v s₃ q₃ => ⟨q₃.1, ks_trans (ks_trans k q₂.2) q₃.2⟩) fun _ _ e => e
end
end Mine
namespace Mine

theorem all1 {h : Heap} {d : D} {vs : List Value} (x : DenAll h [d] vs) : ∃ v, vs = [v] ∧ Den d v h := by
  cases x with | cons a r => cases r; exact ⟨_, rfl, a⟩
theorem all2 {h : Heap} {d e : D} {vs : List Value} (x : DenAll h [d, e] vs) : ∃ v u, vs = [v, u] ∧ Den d v h ∧ Den e u h := by
  cases x with | cons a r => obtain ⟨u, rfl, b⟩ := all1 r; exact ⟨_, u, rfl, a, b⟩
theorem all3 {h : Heap} {d e f : D} {vs : List Value} (x : DenAll h [d, e, f] vs) : ∃ v u t, vs = [v, u, t] ∧ Den d v h ∧ Den e u h ∧ Den f t h := by
  cases x with | cons a r => obtain ⟨u, t, rfl, b, c⟩ := all2 r; exact ⟨_, u, t, rfl, a, b, c⟩

section
variable {w : World} {A : Around} {env : Env} {G : Cx}

theorem Cl.lenI {l : List Int} (hz : l.length < 1000000) : Cl w A (.builtin "len") [.il l] (.int l.length) := by
  intro s E vs _ hd
  obtain ⟨v, rfl, a, us, rfl, hl, hi⟩ := all1 hd
  refine len_list hl ?_ ⟨⟨s.toks + 1, ?_⟩, ks_tok s _⟩
  · rw [List.size_toArray, (IntsAre.length hi)]; omega
  · rw [List.size_toArray, (IntsAre.length hi)]
theorem Cl.lenS {l : List Str} (hz : l.length < 1000000) : Cl w A (.builtin "len") [.sl l] (.int l.length) := by
  intro s E vs _ hd
  obtain ⟨v, rfl, a, us, rfl, hl, hi⟩ := all1 hd
  refine len_list hl ?_ ⟨⟨s.toks + 1, ?_⟩, ks_tok s _⟩
  · rw [List.size_toArray, (StrsAre.len_eq hi)]; omega
  · rw [List.size_toArray, (StrsAre.len_eq hi)]
theorem Cl.lenT {l : List Nat} (hz : l.length < 1000000) : Cl w A (.builtin "len") [.str (mkS l)] (.int l.length) := by
  intro s E vs _ hd
  obtain ⟨v, rfl, t, rfl⟩ := all1 hd
  refine PySem.P.len_str ?_ ⟨⟨s.toks + 1, ?_⟩, ks_tok s _⟩
  · rw [mkS_len]; omega
  · rw [mkS_len]

theorem ints_items {vs : List Value} {ns : List Int} (hi : IntsAre vs ns) : ∃ xs : Array (Int × Tok), vs.toArray = intItems xs ∧ ns = xs.toList.map (·.1) := by
  obtain ⟨xs, hx⟩ := hi.allInts.items
  refine ⟨xs, hx, ?_⟩
  rw [← nums_intItems, ← hx]
  exact (show numsOf vs.toArray.toList = ns from hi.numsOf).symm

theorem Cl.sum {n : Nat} {l : List Int} (hr : Room n A) : Cl w A (.builtin "sum") [.il l] (.int l.sum) := by
  intro s E vs _ hd
  obtain ⟨v, rfl, a, us, rfl, hl, hi⟩ := all1 hd
  obtain ⟨xs, hx, e1⟩ := ints_items hi
  rw [hx] at hl
  refine sum_intListG hr.handled hl fun h' tk t' hk => ?_
  have e2 : preSum (numAt xs) xs.size = l.sum := by rw [preSum_eq, List.take_of_length_le (by simp), e1]
  rw [e2]
  exact ⟨⟨t', rfl⟩, ⟨h', tk, rfl, hk⟩⟩

theorem Cl.min2 {n : Nat} {a b : Int} (hr : Room n A) : Cl w A (.builtin "min") [.int a, .int b] (.int (min a b)) := by
  intro s E vs _ hd
  obtain ⟨v, u, rfl, ⟨t, rfl⟩, ⟨t', rfl⟩⟩ := all2 hd
  refine min_two_ints hr.handled fun h' tk hk => ⟨?_, ⟨h', tk, rfl, hk⟩⟩
  by_cases c : b < a
  · rw [if_pos c]; exact ⟨t', by rw [Int.min_eq_right (by omega)]⟩
  · rw [if_neg c]; exact ⟨t, by rw [Int.min_eq_left (by omega)]⟩
theorem Cl.max2 {n : Nat} {a b : Int} (hr : Room n A) : Cl w A (.builtin "max") [.int a, .int b] (.int (max a b)) := by
  intro s E vs _ hd
  obtain ⟨v, u, rfl, ⟨t, rfl⟩, ⟨t', rfl⟩⟩ := all2 hd
  refine max_two_ints hr.handled fun h' tk hk => ⟨?_, ⟨h', tk, rfl, hk⟩⟩
  by_cases c : b > a
  · rw [if_pos c]; exact ⟨t', by rw [Int.max_eq_right (by omega)]⟩
  · rw [if_neg c]; exact ⟨t, by rw [Int.max_eq_left (by omega)]⟩

theorem Cl.minL {n : Nat} {l : List Int} {M : Int} (hr : Room n A) (hm : M ∈ l) (hle : ∀ a ∈ l, M ≤ a) : Cl w A (.builtin "min") [.il l] (.int M) := by
  intro s E vs _ hd
  obtain ⟨v, rfl, a, us, rfl, hl, hi⟩ := all1 hd
  obtain ⟨xs, hx, e1⟩ := ints_items hi
  have hsz : 0 < xs.size := by
    have h3 := List.length_pos_of_mem hm; rw [e1, List.length_map, Array.length_toList] at h3; exact h3
  rw [hx] at hl
  refine min_intList hr.handled hl hsz fun v h' tk hv hk => ⟨?_, ⟨h', tk, rfl, hk⟩⟩
  obtain ⟨t, rfl⟩ := intItems_at hv
  obtain ⟨h1, h2⟩ := argBest_lt (numAt xs) (xs.size - 1)
  refine ⟨t, ?_⟩
  have q1 : numAt xs (argBest (fun i j => decide (numAt xs i < numAt xs j)) (xs.size - 1)) ∈ l := by
    rw [e1, numAt_eq]; exact getD_mem (by rw [List.length_map, Array.length_toList]; omega)
  have q2 := hle _ q1
  rw [e1] at hm
  obtain ⟨j, hj, e⟩ := mem_getD hm
  rw [List.length_map, Array.length_toList] at hj
  have q3 := h2 j (by omega)
  rw [numAt_eq xs j, e] at q3
  congr 1; omega
theorem Cl.maxL {n : Nat} {l : List Int} {M : Int} (hr : Room n A) (hm : M ∈ l) (hle : ∀ a ∈ l, a ≤ M) : Cl w A (.builtin "max") [.il l] (.int M) := by
  intro s E vs _ hd
  obtain ⟨v, rfl, a, us, rfl, hl, hi⟩ := all1 hd
  obtain ⟨xs, hx, e1⟩ := ints_items hi
  have hsz : 0 < xs.size := by
    have h3 := List.length_pos_of_mem hm; rw [e1, List.length_map, Array.length_toList] at h3; exact h3
  rw [hx] at hl
  refine max_intList hr.handled hl hsz fun v h' tk hv hk => ⟨?_, ⟨h', tk, rfl, hk⟩⟩
  obtain ⟨t, rfl⟩ := intItems_at hv
  obtain ⟨h1, h2⟩ := argBest_gt (numAt xs) (xs.size - 1)
  refine ⟨t, ?_⟩
  have q1 : numAt xs (argBest (fun i j => decide (numAt xs i > numAt xs j)) (xs.size - 1)) ∈ l := by
    rw [e1, numAt_eq]; exact getD_mem (by rw [List.length_map, Array.length_toList]; omega)
  have q2 := hle _ q1
  rw [e1] at hm
  obtain ⟨j, hj, e⟩ := mem_getD hm
  rw [List.length_map, Array.length_toList] at hj
  have q3 := h2 j (by omega)
  rw [numAt_eq xs j, e] at q3
  congr 1; omega

/-- two rising rows of the same items are one -/
theorem rise_eq {α : Type} {le : α → α → Prop} (anti : ∀ a b, le a b → le b a → a = b) : ∀ {l₁ l₂ : List α}, l₁.Perm l₂ → l₁.Pairwise le → l₂.Pairwise le → l₁ = l₂
  | [], l₂, p, _, _ => (List.Perm.nil_eq p)
  | x :: r, [], p, _, _ => absurd p.length_eq (by simp)
  | x :: r, y :: q, p, h₁, h₂ => by
    have hx : x ∈ y :: q := p.mem_iff.mp (List.mem_cons_self ..)
    have hy : y ∈ x :: r := p.mem_iff.mpr (List.mem_cons_self ..)
    have e : x = y := by
      rcases List.mem_cons.mp hx with e | hx'
      · exact e
      · rcases List.mem_cons.mp hy with e | hy'
        · exact e.symm
        · exact anti _ _ ((List.pairwise_cons.mp h₁).1 _ hy') ((List.pairwise_cons.mp h₂).1 _ hx')
    subst e
    rw [rise_eq anti (List.Perm.cons_inv p) (List.pairwise_cons.mp h₁).2 (List.pairwise_cons.mp h₂).2]

theorem sorted_new {s : Shared} {vs : List Value} {out : Array Value} : Kp s.heap (sortedAll s.heap vs out) ∧ (sortedAll s.heap vs out).IsList (s.heap.objs.size + 1) out :=
  ⟨fun _ _ => sortedAll_old, let ⟨e, he⟩ := sortedAll_at s.heap vs out; ⟨_, he, rfl, e, rfl⟩⟩

theorem Cl.sortI {l l' : List Int} (hp : l'.Perm l) (hs : l'.Pairwise (· ≤ ·)) (hz : l.length < 64) : Cl w A (.builtin "sorted") [.il l] (.il l') := by
  intro s E vs _ hd
  obtain ⟨v, rfl, a, us, rfl, hl, hi⟩ := all1 hd
  refine sorted_ints hl hi (by rw [(IntsAre.length hi)]; exact hz) fun out ns' a1 a2 a3 => ?_
  have e : ns' = l' := rise_eq (fun a b h1 h2 => Int.le_antisymm h1 h2) (a2.trans hp.symm) a3 hs
  subst e
  obtain ⟨k, il⟩ := sorted_new (s := s) (vs := us) (out := out)
  exact ⟨⟨_, out.toList, rfl, by rw [Array.toArray_toList]; exact il, a1⟩, ⟨_, s.toks, rfl, k⟩⟩

theorem Cl.range {n : Int} : Cl w A (.type "range") [.int n] (.rng n) := by
  intro s E vs _ hd
  obtain ⟨v, rfl, t, rfl⟩ := all1 hd
  exact call_range_1 ⟨⟨_, _, _, _, rfl, Heap.get?_push_size _ rfl⟩, ⟨_, _, rfl, Kp.push _ _⟩⟩
theorem Cl.typeI {n : Int} : Cl w A (.type "type") [.int n] (.val (.type "int")) := by
  intro s E vs _ hd
  obtain ⟨v, rfl, t, rfl⟩ := all1 hd
  exact call_type_of (typeIs_int _ _ _) (by decide +kernel) ⟨rfl, ks_refl s⟩
theorem Cl.typeF {b : UInt64} : Cl w A (.type "type") [.flt b] (.val (.type "float")) := by
  intro s E vs _ hd
  obtain ⟨v, rfl, t, rfl⟩ := all1 hd
  exact call_type_of (typeIs_float _ _ _) (by decide +kernel) ⟨rfl, ks_refl s⟩

theorem Co.isT {X Y : String} : Co w A .Is (.val (.type X)) (.val (.type Y)) (Value.type X == Value.type Y) := by
  rintro s E v₁ v₂ - rfl rfl
  exact wpAny_pure (a := Value.bool (Value.type X == Value.type Y)) ⟨rfl, ks_refl s⟩
theorem Co.isNotT {X Y : String} : Co w A .IsNot (.val (.type X)) (.val (.type Y)) (!(Value.type X == Value.type Y)) := by
  rintro s E v₁ v₂ - rfl rfl
  exact isnot_type ⟨rfl, ks_refl s⟩

/-- slices of texts -/
theorem made_str {x : Str} {t : Tok} {s : Shared} {l u st : Option (Int × Tok)} {ys : List Nat} (hz : x.length ≤ 1000000)
    (hp : (slicePicked x l u st).filterMap (x.cps[·]?) = ys) (hn : ys.length ≤ x.length) (hone : ((st.map (·.1)).getD 1 == 1 && (slicePicked x l u st).length == x.length) = true → x = mkS ys) :
    (sliceMade x t l u st).post (fun v s' => Den (.str (mkS ys)) v s'.heap ∧ Keeps s s') s := by
  unfold sliceMade
  split
  · rename_i h
    exact ⟨⟨t, by rw [← hone h]⟩, ks_refl s⟩
  · refine ⟨?_, ⟨s.toks, ?_⟩, ks_tok s _⟩
    · rw [hp]; show (mkS ys).length ≤ sizeLine; rw [mkS_len, sizeLine_eq]; omega
    · rw [hp]; rfl

theorem isPart_value {v : Value} {i : Option Int} (h : IsPart v i) : ∃ p, v = partValue p ∧ p.map (·.1) = i := by
  cases h with
  | none => exact ⟨none, rfl, rfl⟩
  | int i t => exact ⟨some (i, t), rfl, rfl⟩

theorem Ev.revT {value st : Expr} {p pos : Pos} {l : List Nat} (hv : Ev w A env G value (.str (mkS l))) (h3 : Ev w A env G st (.int (-1))) (hz : l.length < 1000000) :
    Ev w A env G (.Subscript value (.Slice none none (some st) p) pos) (.str (mkS l.reverse)) := by
  refine Ev.slice PySem.F.slot_str_getitem.lookup hv EvP.none EvP.none (EvP.some h3) ?_
  rintro s E v₁ a vl vu vk ⟨t, rfl⟩ ⟨o, ho, hc, hd⟩ pl pu pk
  obtain ⟨p1, rfl, e1⟩ := isPart_value pl
  obtain ⟨p2, rfl, e2⟩ := isPart_value pu
  obtain ⟨p3, rfl, e3⟩ := isPart_value pk
  refine ⟨typeIs_str _ _ _, wpAny_getItem_str_slice (l := p1) (u := p2) (st := p3) ⟨o, ho, hc, hd⟩ (by rw [e3]; rfl) (made_str (by rw [mkS_len]; omega) ?_ (by rw [mkS_len, List.length_reverse]; exact Nat.le_refl _) ?_)⟩
  · unfold slicePicked
    rw [e1, e2, e3]
    show (Builtin.Str.strSliceIndices none none (-1) (mkS l).length).filterMap _ = _
    rw [picked_rev, krv_range, List.filterMap_reverse]
    have := krv_all (mkS l).cps
    rw [mkS_cps] at this
    exact congrArg List.reverse this
  · intro h; rw [e3] at h; simp at h

theorem Ev.cutT {value lo up : Expr} {p pos : Pos} {l : List Nat} {a b : Nat} {i j : Int} (hv : Ev w A env G value (.str (mkS l))) (h1 : Ev w A env G lo (.int i)) (h2 : Ev w A env G up (.int j)) (hi : i = (a : Int)) (hj : j = (b : Int)) (hab : a ≤ b) (hb : b ≤ l.length) (hz : l.length < 1000000) :
    Ev w A env G (.Subscript value (.Slice (some lo) (some up) none p) pos) (.str (mkS ((l.drop a).take (b - a)))) := by
  subst hi hj
  refine Ev.slice PySem.F.slot_str_getitem.lookup hv (EvP.some h1) (EvP.some h2) EvP.none ?_
  rintro s E v₁ a vl vu vk ⟨t, rfl⟩ ⟨o, ho, hc, hd⟩ pl pu pk
  obtain ⟨p1, rfl, e1⟩ := isPart_value pl
  obtain ⟨p2, rfl, e2⟩ := isPart_value pu
  obtain ⟨p3, rfl, e3⟩ := isPart_value pk
  have hb' : b ≤ (mkS l).length := by rw [mkS_len]; exact hb
  refine ⟨typeIs_str _ _ _, wpAny_getItem_str_slice (l := p1) (u := p2) (st := p3) ⟨o, ho, hc, hd⟩ (by rw [e3]; rfl) (made_str (by rw [mkS_len]; omega) ?_ (by rw [mkS_len, List.length_take, List.length_drop]; omega) ?_)⟩
  · unfold slicePicked
    rw [e1, e2, e3]
    show List.filterMap _ (Builtin.Str.strSliceIndices _ _ 1 _) = _
    rw [StrLaws.sliced_plain (mkS l) hab hb', mkS_cps]
  · intro h
    rw [e3] at h
    unfold slicePicked at h
    rw [e1, e2, e3] at h
    rw [show (none : Option Int).getD 1 = 1 from rfl, StrLaws.strSliceIndices_plain hab hb'] at h
    simp [mkS_len] at h
    rename_i a0
    have ha : a0 = 0 := by omega
    have hbl : b = l.length := by omega
    subst ha hbl
    simp
end
end Mine
namespace Mine

/-! comprehensions -/
def clo (env : Env) : List (Str × NameKind) → List (Str × Addr) → List (Str × Addr)
  | [], acc => acc
  | (n, k) :: r, acc => if k == .free then clo env r ((n, (env.cells.lookup n).getD 0) :: acc) else clo env r acc

theorem closureFor_eq {scope : Scope} {env : Env} (h : ∀ x ∈ scope.names, x.2 = .free → (env.cells.lookup x.1).isSome = true) : closureFor scope env = pure (clo env scope.names []) := by
  have key : ∀ (names : List (Str × NameKind)) (acc : List (Str × Addr)), (∀ x ∈ names, x.2 = .free → (env.cells.lookup x.1).isSome = true) →
      (forIn names acc (fun (p : Str × NameKind) (cs : List (Str × Addr)) => (if p.2 == .free then (do let a ← cellOf env p.1; pure (ForInStep.yield ((p.1, a) :: cs))) else pure (ForInStep.yield cs) : Sem _))) = pure (clo env names acc) := by
    intro names
    induction names with
    | nil => intro acc _; rfl
    | cons p r ih =>
      intro acc hp
      obtain ⟨n, k⟩ := p
      rw [List.forIn_cons]
      unfold clo
      by_cases hk : (k == .free) = true
      · simp only [hk, if_true]
        have hs := hp (n, k) (List.mem_cons_self ..) (by simpa using hk)
        obtain ⟨c, hc⟩ := Option.isSome_iff_exists.mp hs
        have e : cellOf env n = pure c := by unfold cellOf; rw [hc]
        simp only at hc
        rw [e, hc]
        exact ih _ fun x hx => hp x (List.mem_cons_of_mem _ hx)
      · simp only [hk]
        exact ih _ fun x hx => hp x (List.mem_cons_of_mem _ hx)
  unfold closureFor
  have := key scope.names [] h
  show (forIn scope.names [] _ >>= fun cs => pure cs) = _
  rw [show (forIn scope.names ([] : List (Str × Addr)) (fun (p : Str × NameKind) (cs : List (Str × Addr)) => (if p.2 == .free then (do let a ← cellOf env p.1; pure (ForInStep.yield ((p.1, a) :: cs))) else pure (ForInStep.yield cs) : Sem _))) = pure (clo env scope.names []) from this]
  rfl

theorem clo_entry {env : Env} : ∀ (names : List (Str × NameKind)) (acc : List (Str × Addr)) (y : Str) (a : Addr), (y, a) ∈ clo env names acc → a = (env.cells.lookup y).getD 0 ∨ (y, a) ∈ acc
  | [], _, _, _, h => .inr h
  | (n, k) :: r, acc, y, a, h => by
    unfold clo at h
    split at h
    · rcases clo_entry r _ y a h with h | h
      · exact .inl h
      · rcases List.mem_cons.mp h with e | h
        · cases e; exact .inl rfl
        · exact .inr h
    · exact clo_entry r _ y a h
theorem clo_acc {env : Env} : ∀ (names : List (Str × NameKind)) (acc : List (Str × Addr)) (q : Str × Addr), q ∈ acc → q ∈ clo env names acc
  | [], _, _, h => h
  | (n, k) :: r, acc, q, h => by
    unfold clo
    split
    · exact clo_acc r _ q (List.mem_cons_of_mem _ h)
    · exact clo_acc r _ q h
theorem clo_has {env : Env} : ∀ (names : List (Str × NameKind)) (acc : List (Str × Addr)) (y : Str), (y, NameKind.free) ∈ names → ∃ a, (y, a) ∈ clo env names acc
  | (n, k) :: r, acc, y, h => by
    unfold clo
    rcases List.mem_cons.mp h with e | h
    · cases e
      exact ⟨_, clo_acc r _ _ (List.mem_cons_self ..)⟩
    · split
      · exact clo_has r _ y h
      · exact clo_has r _ y h
theorem lookup_some_of_mem {α : Type} : ∀ {l : List (Str × α)} {n : Str} {c : α}, (n, c) ∈ l → ∃ c', l.lookup n = some c'
  | (k, v) :: r, n, c, h => by
    rw [List.lookup_cons]
    cases hb : n == k with
    | true => exact ⟨v, rfl⟩
    | false =>
      rcases List.mem_cons.mp h with e | h
      · cases e; simp at hb
      · exact lookup_some_of_mem h
theorem clo_lookup {env : Env} {names : List (Str × NameKind)} {y : Str} {c : Addr} (h : (y, NameKind.free) ∈ names) (hc : env.cells.lookup y = some c) : (clo env names []).lookup y = some c := by
  obtain ⟨a, ha⟩ := clo_has (env := env) names [] y h
  obtain ⟨c', hc'⟩ := lookup_some_of_mem ha
  rw [hc']
  rcases clo_entry names [] y c' (mem_of_lookup hc') with e | e
  · rw [e, hc]; rfl
  · cases e

/-- a map that keeps each name keeps what is looked up, mapped -/
theorem lookup_map_keep {f : Str × NameKind → Str × NameKind} (hf : ∀ q, (f q).1 = q.1) {x : Str} {k : NameKind} {l : List (Str × NameKind)} (h : l.lookup x = some k) : (l.map f).lookup x = some (f (x, k)).2 := by
  induction l with
  | nil => exact nomatch h
  | cons q r ih =>
    have e : f q = (q.1, (f q).2) := by rw [← hf q]
    rw [List.map_cons, e, List.lookup_cons]
    rw [List.lookup_cons] at h
    by_cases hx : (x == q.1) = true
    · rw [hx] at h ⊢
      have : x = q.1 := by simpa using hx
      obtain ⟨a, b⟩ := q
      cases h; cases this; rfl
    · rw [Bool.not_eq_true] at hx
      rw [hx] at h ⊢
      exact ih h
theorem relabel_cell {scope : Scope} {env : Env} {x : Str} (hk : env.scope.kind = .function) (h : scope.names.lookup x = some .free) (hc : env.kindOf x = some .cell) : (relabel scope env).names.lookup x = some .cell := by
  refine (lookup_map_keep (fun q => ?_) h).trans ?_
  · dsimp only; split <;> rfl
  · simp [hk, hc]

/-- what a comprehension's block sees of the names around it -/
def cG (scope : Scope) (env : Env) (G : Cx) : Cx := G.filter fun q => scope.names.lookup q.1 == some .free && env.kindOf q.1 == some .cell
abbrev cE (scope : Scope) (env : Env) (C : Addr) : Env := compEnvC scope (clo env scope.names []) C env

theorem good_comp {scope : Scope} {env : Env} {C : Addr} (g : Good env) (hk : scope.kind = .function) : Good (cE scope env C) := ⟨hk, g.g, g.b⟩
theorem nms_comp {scope : Scope} {env : Env} {C : Addr} {G : Cx} {s : Shared} {m : Str → Option Value} {x : Str} {d : D} {v : Value} (n : Nms env G s) (hk : scope.kind = .function)
    (hx : scope.names.lookup x = some .local) (hn : s.heap.Ns C m) (hm : m x = some v) (hd : Den d v s.heap) : Nms (cE scope env C) ((x, d) :: cG scope env G) s := by
  refine ⟨good_comp n.good hk, n.wd, fun q hq => ?_⟩
  rcases List.mem_cons.mp hq with rfl | hq
  · exact ⟨v, .inl ⟨lookup_relabel_local hx, m, hn, hm⟩, hd⟩
  · obtain ⟨hq, hf⟩ := List.mem_filter.mp hq
    simp only [Bool.and_eq_true, beq_iff_eq] at hf
    obtain ⟨u, hl, hd'⟩ := n.nm q hq
    refine ⟨u, ?_, hd'⟩
    rcases hl with ⟨a, _⟩ | ⟨a, c, b, ce⟩
    · rw [hf.2] at a; cases a
    · exact .inr ⟨relabel_cell n.good.k hf.1 hf.2, c, clo_lookup (mem_of_lookup hf.1) b, ce⟩

def Imm (d : D) (v : Value) : Prop := ∀ h, Den d v h
def dec : Value → Option D
  | .int x _ => some (.int x)
  | .str x _ => some (.str x)
  | _ => none
def Pl : D → Prop
  | .int _ => True
  | .str _ => True
  | _ => False
theorem imm_dec {d : D} {v : Value} (p : Pl d) (i : Imm d v) : dec v = some d := by
  cases d with
  | int x => obtain ⟨t, rfl⟩ := i {}; rfl
  | str x => obtain ⟨t, rfl⟩ := i {}; rfl
  | _ => cases p
theorem imm_of_den {d : D} {v : Value} {h : Heap} (p : Pl d) (i : Den d v h) : Imm d v := by
  cases d with
  | int x => exact fun _ => i
  | str x => exact fun _ => i
  | _ => cases p

def iota (n : Nat) : List Int := (List.range n).map fun (i : Nat) => (i : Int)
theorem iota_len (n : Nat) : (iota n).length = n := by simp [iota]
theorem iota_get {n i : Nat} (h : i < n) : (iota n)[i]? = some (i : Int) := by simp [iota, h]
theorem mem_iota {n : Nat} {a : Int} : a ∈ iota n ↔ 0 ≤ a ∧ a < n := by
  unfold iota
  constructor
  · intro h; obtain ⟨i, hi, rfl⟩ := List.mem_map.mp h; have := List.mem_range.mp hi; omega
  · rintro ⟨h0, h1⟩; exact List.mem_map.mpr ⟨a.toNat, List.mem_range.mpr (by omega), by omega⟩
/-- what a source hands out -/
inductive Src : D → List D → Prop
  | il (xs : List Int) : Src (.il xs) (xs.map .int)
  | sl (xs : List Str) : Src (.sl xs) (xs.map .str)
  | rng (n : Nat) : n < 1000000 → Src (.rng n) ((iota n).map .int)
theorem Src.pl {d : D} {l : List D} (s : Src d l) : ∀ e ∈ l, Pl e := by
  cases s with
  | il xs => intro e he; obtain ⟨_, _, rfl⟩ := List.mem_map.mp he; trivial
  | sl xs => intro e he; obtain ⟨_, _, rfl⟩ := List.mem_map.mp he; trivial
  | rng n h => intro e he; obtain ⟨_, _, rfl⟩ := List.mem_map.mp he; trivial

theorem intsAre_at : ∀ {vs : List Value} {ns : List Int} {i : Nat} {v : Value}, IntsAre vs ns → vs[i]? = some v → ∃ x t, ns[i]? = some x ∧ v = .int x t
  | _, _, 0, _, .cons n t r, h => by simp at h; exact ⟨n, t, rfl, h.symm⟩
  | _, _, i + 1, _, .cons n t r, h => by simp at h; obtain ⟨x, t', e, e'⟩ := intsAre_at r h; exact ⟨x, t', by simpa using e, e'⟩
theorem strsAre_at : ∀ {vs : List Value} {ns : List Str} {i : Nat} {v : Value}, StrsAre vs ns → vs[i]? = some v → ∃ x t, ns[i]? = some x ∧ v = .str x t
  | _, _, 0, _, .cons n t r, h => by simp at h; exact ⟨n, t, rfl, h.symm⟩
  | _, _, i + 1, _, .cons n t r, h => by simp at h; obtain ⟨x, t', e, e'⟩ := strsAre_at r h; exact ⟨x, t', by simpa using e, e'⟩

def IterOf (w : World) (A : Around) (items : List D) (s : Shared) (it : Value) (s₂ : Shared) : Prop :=
  ∃ I fp wr P St, it = .ref I ∧ Walks Pg w A I fp wr items.length P St ∧ St 0 s₂.heap ∧ (∀ b ∈ fp, b < s₂.heap.objs.size) ∧
      (∀ i u, P i u → ∃ d, items[i]? = some d ∧ Imm d u) ∧ (∀ b, b < s.heap.objs.size → b ∉ wr) ∧ Keeps s s₂

theorem src_iter {w : World} {A : Around} {n : Nat} {dsrc : D} {items : List D} {v : Value} {s : Shared} {E : Value → Shared → Prop} (hr : Room n A) (S : Src dsrc items) (hd : Den dsrc v s.heap) :
    wpAny (model Pg w) A (pyIter v) (IterOf w A items s) E s := by
  have notI : ∀ b, b < s.heap.objs.size → b ∉ [s.heap.objs.size] := fun b hb hm => by
    rcases List.mem_cons.mp hm with e | hm
    · omega
    · cases hm
  cases S with
  | il xs =>
    obtain ⟨a, vs, rfl, hl, hi⟩ := hd
    have hax : a < s.heap.objs.size := by obtain ⟨_, e, _⟩ := hl; exact Heap.lt_size e
    have hsz : vs.toArray.size = (xs.map D.int).length := by rw [List.size_toArray, (IntsAre.length hi), List.length_map]
    refine wpAny_pyIter_list hl ⟨s.heap.objs.size, [s.heap.objs.size, a], [s.heap.objs.size], (fun i v => vs.toArray[i]? = some v), _, rfl, hsz ▸ Walks.list hr.handled s.heap.objs.size a (Nat.ne_of_lt hax) vs.toArray,
      ⟨⟨_, Heap.get?_push_size _ rfl, rfl, rfl⟩, hl.push _⟩, ?_, fun i u hu => ?_, notI, ⟨_, s.toks, rfl, Kp.push _ _⟩⟩
    · intro b hb
      show b < (s.heap.push _).objs.size
      rw [Heap.size_push]
      rcases List.mem_cons.mp hb with rfl | hb
      · exact Nat.lt_succ_self _
      · rcases List.mem_cons.mp hb with rfl | hb
        · exact Nat.lt_succ_of_lt hax
        · cases hb
    · obtain ⟨x, t, e, rfl⟩ := intsAre_at hi (by simpa using hu)
      exact ⟨.int x, by simp [e], fun _ => ⟨t, rfl⟩⟩
  | sl xs =>
    obtain ⟨a, vs, rfl, hl, hi⟩ := hd
    have hax : a < s.heap.objs.size := by obtain ⟨_, e, _⟩ := hl; exact Heap.lt_size e
    have hsz : vs.toArray.size = (xs.map D.str).length := by rw [List.size_toArray, (StrsAre.len_eq hi), List.length_map]
    refine wpAny_pyIter_list hl ⟨s.heap.objs.size, [s.heap.objs.size, a], [s.heap.objs.size], (fun i v => vs.toArray[i]? = some v), _, rfl, hsz ▸ Walks.list hr.handled s.heap.objs.size a (Nat.ne_of_lt hax) vs.toArray,
      ⟨⟨_, Heap.get?_push_size _ rfl, rfl, rfl⟩, hl.push _⟩, ?_, fun i u hu => ?_, notI, ⟨_, s.toks, rfl, Kp.push _ _⟩⟩
    · intro b hb
      show b < (s.heap.push _).objs.size
      rw [Heap.size_push]
      rcases List.mem_cons.mp hb with rfl | hb
      · exact Nat.lt_succ_self _
      · rcases List.mem_cons.mp hb with rfl | hb
        · exact Nat.lt_succ_of_lt hax
        · cases hb
    · obtain ⟨x, t, e, rfl⟩ := strsAre_at hi (by simpa using hu)
      exact ⟨.str x, by simp [e], fun _ => ⟨t, rfl⟩⟩
  | rng k hk =>
    obtain ⟨a, t₁, t₂, t₃, rfl, hrg⟩ := hd
    have hsz : k = ((iota k).map D.int).length := by rw [List.length_map, iota_len]
    have hrs : Builtin.Range.rangeSize 0 k 1 = (k : Int) := by rw [rangeSize_one]; split <;> omega
    have W : Walks Pg w A s.heap.objs.size [s.heap.objs.size] [s.heap.objs.size] ((iota k).map D.int).length _ _ := hsz ▸ Walks.range hr.handled s.heap.objs.size 0 1 k
    refine wpAny_pyIter_range hrg (small_one (by decide) (by decide) (by omega) (by omega)) ⟨s.heap.objs.size, [s.heap.objs.size], [s.heap.objs.size], (fun i v => i < k ∧ ∃ t, v = .int (0 + i * 1) t), _, rfl,
      { W with item := fun i s Q E hi st hQ => W.item i s Q E hi st fun v h' tk hp => hQ v h' tk ⟨by rw [hsz]; exact hi, hp⟩ }, ?_, ?_, fun i u hu => ?_, notI, ⟨_, s.toks, rfl, Kp.push _ _⟩⟩
    · rw [hrs]
      have e1 : (0 + ((0 : Nat) : Int) * 1 : Int) = 0 := by simp
      have e2 : ((((iota k).map D.int).length : Int) - ((0 : Nat) : Int)) = (k : Int) := by rw [← hsz]; simp
      show IsRangeIter _ _ (0 + ((0 : Nat) : Int) * 1) ((((iota k).map D.int).length : Int) - ((0 : Nat) : Int)) 1
      rw [e1, e2]
      exact Heap.get?_push_size _ rfl
    · intro b hb
      show b < (s.heap.push _).objs.size
      rw [Heap.size_push]
      rcases List.mem_cons.mp hb with rfl | hb
      · exact Nat.lt_succ_self _
      · cases hb
    · obtain ⟨hlt, t, rfl⟩ := hu
      exact ⟨.int i, by simp [iota_get hlt], fun _ => ⟨t, by simp⟩⟩
end Mine
namespace Mine

theorem paired_out {items : List D} {g : D → D} (hpl : ∀ e ∈ items, Pl e) : ∀ (vs ys : List Value), vs.length = items.length → (∀ (j : Nat) (v : Value), vs[j]? = some v → ∃ d, items[j]? = some d ∧ Imm d v) →
    Paired (fun v y => ∃ d, dec v = some d ∧ Imm (g d) y) vs ys → ∀ h, DenAll h (items.map g) ys := by
  induction items with
  | nil =>
    intro vs ys hl _ hp h
    have e : vs = [] := List.eq_nil_of_length_eq_zero (by simpa using hl)
    subst e
    cases hp
    exact .nil
  | cons d r ih =>
    intro vs ys hl hP hp h
    cases hp with
    | nil => simp at hl
    | cons hF hr =>
      rename_i v y vs' ys'
      obtain ⟨d', e, hi⟩ := hF
      obtain ⟨d₀, e₀, hi₀⟩ := hP 0 v rfl
      simp at e₀
      subst e₀
      rw [imm_dec (hpl d (List.mem_cons_self ..)) hi₀] at e
      cases e
      refine .cons (hi h) (ih (fun e he => hpl e (List.mem_cons_of_mem _ he)) vs' ys' (by simpa using hl) (fun j v hj => ?_) hr h)
      obtain ⟨d₁, e₁, hi₁⟩ := hP (j + 1) v (by simpa using hj)
      exact ⟨d₁, by simpa using e₁, hi₁⟩

section
variable {w : World} {A : Around} {env : Env} {G : Cx} {n : Nat} {elt iter : Expr} {x : Str} {px pos : Pos} {scope : Scope}

structure ScOk (scope : Scope) (env : Env) (x : Str) : Prop where
  cell : (scope.names.all fun y => y.2 != .cell) = true
  kind : scope.kind = .function
  names : (scope.names.all fun y => y.2 != .local || scope.names.lookup y.1 == some .local) = true
  hx : scope.names.lookup x = some .local
  free : (scope.names.all fun y => y.2 != .free || (env.cells.lookup y.1).isSome) = true

theorem Ev.compG {dsrc : D} {items : List D} {g : D → D} (hr : Room n A) (S : Src dsrc items) (hz : items.length < 1000000) (O : ScOk scope env x) (hi : Ev w A env G iter dsrc)
    (helt : ∀ d ∈ items, ∀ C, Ev w A (cE scope env C) ((x, d) :: cG scope env G) elt (g d)) (hg : ∀ d ∈ items, Pl (g d))
    (hs : ∀ x, foldedSetIterable iter env x = pure x) : ∀ s E, Nms env G s →
      wpAny (model Pg w) A (eval (.ListComp elt [⟨.Name x px, iter, [], 0⟩] scope pos) env) (fun v s' => (∃ a ys, v = .ref a ∧ s'.heap.IsList a (List.toArray ys) ∧ DenAll s'.heap (items.map g) ys) ∧ Keeps s s') E s := by
  intro s E nm
  have hclos : closureFor scope env = pure (clo env scope.names []) := closureFor_eq fun y hy hf => by
    have := List.all_eq_true.mp O.free y hy
    rw [hf] at this
    simpa using this
  refine wpAny_ListComp_free (fun _ => true) (fun v y => ∃ d, dec v = some d ∧ Imm (g d) y) hclos (fun y hy => by simpa using List.all_eq_true.mp O.cell y hy) O.kind
    (fun y hy hl => by have := List.all_eq_true.mp O.names y hy; rw [hl] at this; simpa using this) O.hx (wpAny_mono (hi s E nm) (fun xv s₁ q₁ => wpAny_mono (src_iter hr S q₁.1) (fun it s₂ q₂ => ?_) fun _ _ e => e) fun _ _ e => e) hs
  obtain ⟨I, fp, wr, P, St, rfl, W, hst, hfp, hP, hwr, hk₂⟩ := q₂
  have k02 := ks_trans q₁.2 hk₂
  have hold : ∀ s₃ : Shared, (∀ b o, b ∉ wr → s₂.heap.get? b = some o → s₃.heap.get? b = some o) → Kp s₁.heap s₃.heap := fun s₃ h b o e => h b o (hwr b (Heap.lt_size e)) (ks_heap hk₂ b o e)
  refine ⟨I, fp, wr, items.length, P, St, rfl, W, by rw [sizeLine_eq]; omega, hst, hfp, ⟨?_, ?_⟩, ?_⟩
  · intro C i v s₃ m₃ E' _ hPv hn hm hk _
    exact wpAny_pure ⟨rfl, ks_refl s₃⟩
  · intro C i v s₃ m₃ E' _ hPv _ hn hm hk _
    obtain ⟨d, hd, him⟩ := hP i v hPv
    have hmem : d ∈ items := List.mem_of_getElem? hd
    have nm1 := nm.keep q₁.2
    have nm3 : Nms env G s₃ := ⟨nm1.good, nm1.wd.keep (hold s₃ hk), fun q hq => let ⟨v, a, b⟩ := nm1.nm q hq; ⟨v, a.keep (hold s₃ hk), b.keep (hold s₃ hk)⟩⟩
    refine wpAny_mono (helt d hmem C s₃ E' (nms_comp nm3 O.kind O.hx hn hm (him _))) (fun y s₄ q₄ => ⟨⟨d, imm_dec (S.pl d hmem) him, imm_of_den (hg d hmem) q₄.1⟩, q₄.2⟩) fun _ _ e => e
  · intro D h' tk ys vs hnew hlD _ hlen hPv hF hk
    have hF' : Paired (fun v y => ∃ d, dec v = some d ∧ Imm (g d) y) vs ys.toList := by rw [List.filter_eq_self.mpr (fun _ _ => rfl)] at hF; exact hF
    refine ⟨⟨D, ys.toList, rfl, by rw [Array.toArray_toList]; exact hlD, paired_out S.pl vs ys.toList hlen (fun j v hj => hP j v (hPv j v hj)) hF' h'⟩, ?_⟩
    obtain ⟨h1, t1, rfl, k1⟩ := q₁.2
    obtain ⟨h2, t2, e2, k2⟩ := hk₂
    subst e2
    exact ⟨h', tk, rfl, fun b o e => hk b o (hwr b (Heap.lt_size (k1 b o e))) (k2 b o (k1 b o e))⟩

theorem den_ints {h : Heap} : ∀ {xs : List Int} {ys : List Value}, DenAll h (xs.map .int) ys → IntsAre ys xs
  | [], _, .nil => .nil
  | x :: r, _, .cons a q => by obtain ⟨t, rfl⟩ := a; exact .cons x t (den_ints q)
theorem den_strs {h : Heap} : ∀ {xs : List Str} {ys : List Value}, DenAll h (xs.map .str) ys → StrsAre ys xs
  | [], _, .nil => .nil
  | x :: r, _, .cons a q => by obtain ⟨t, rfl⟩ := a; exact .cons x t (den_strs q)

def liftI {α : Type} (k : α → D) (f : Int → α) : D → D
  | .int a => k (f a)
  | d => d
def liftS {α : Type} (k : α → D) (f : Str → α) : D → D
  | .str a => k (f a)
  | d => d

theorem Ev.compII {dsrc : D} {xs : List Int} (f : Int → Int) (hr : Room n A) (S : Src dsrc (xs.map .int)) (hz : xs.length < 1000000) (O : ScOk scope env x) (hi : Ev w A env G iter dsrc)
    (helt : ∀ a ∈ xs, ∀ C, Ev w A (cE scope env C) ((x, .int a) :: cG scope env G) elt (.int (f a))) (hs : ∀ x, foldedSetIterable iter env x = pure x := by intro _; rfl) :
    Ev w A env G (.ListComp elt [⟨.Name x px, iter, [], 0⟩] scope pos) (.il (xs.map f)) := by
  intro s E nm
  refine wpAny_mono (Ev.compG (g := liftI .int f) hr S (by simpa using hz) O hi (fun d hd C => ?_) (fun d hd => ?_) hs s E nm) (fun v s' q => ?_) fun _ _ e => e
  · obtain ⟨a, ha, rfl⟩ := List.mem_map.mp hd; exact helt a ha C
  · obtain ⟨a, ha, rfl⟩ := List.mem_map.mp hd; trivial
  · obtain ⟨⟨a, ys, rfl, hl, hd⟩, k⟩ := q
    refine ⟨⟨a, ys, rfl, hl, den_ints (h := s'.heap) ?_⟩, k⟩
    rw [List.map_map] at hd ⊢
    exact hd
theorem Ev.compIS {dsrc : D} {xs : List Int} (f : Int → Str) (hr : Room n A) (S : Src dsrc (xs.map .int)) (hz : xs.length < 1000000) (O : ScOk scope env x) (hi : Ev w A env G iter dsrc)
    (helt : ∀ a ∈ xs, ∀ C, Ev w A (cE scope env C) ((x, .int a) :: cG scope env G) elt (.str (f a))) (hs : ∀ x, foldedSetIterable iter env x = pure x := by intro _; rfl) :
    Ev w A env G (.ListComp elt [⟨.Name x px, iter, [], 0⟩] scope pos) (.sl (xs.map f)) := by
  intro s E nm
  refine wpAny_mono (Ev.compG (g := liftI .str f) hr S (by simpa using hz) O hi (fun d hd C => ?_) (fun d hd => ?_) hs s E nm) (fun v s' q => ?_) fun _ _ e => e
  · obtain ⟨a, ha, rfl⟩ := List.mem_map.mp hd; exact helt a ha C
  · obtain ⟨a, ha, rfl⟩ := List.mem_map.mp hd; trivial
  · obtain ⟨⟨a, ys, rfl, hl, hd⟩, k⟩ := q
    refine ⟨⟨a, ys, rfl, hl, den_strs (h := s'.heap) ?_⟩, k⟩
    rw [List.map_map] at hd ⊢
    exact hd
theorem Ev.compSI {dsrc : D} {xs : List Str} (f : Str → Int) (hr : Room n A) (S : Src dsrc (xs.map .str)) (hz : xs.length < 1000000) (O : ScOk scope env x) (hi : Ev w A env G iter dsrc)
    (helt : ∀ a ∈ xs, ∀ C, Ev w A (cE scope env C) ((x, .str a) :: cG scope env G) elt (.int (f a))) (hs : ∀ x, foldedSetIterable iter env x = pure x := by intro _; rfl) :
    Ev w A env G (.ListComp elt [⟨.Name x px, iter, [], 0⟩] scope pos) (.il (xs.map f)) := by
  intro s E nm
  refine wpAny_mono (Ev.compG (g := liftS .int f) hr S (by simpa using hz) O hi (fun d hd C => ?_) (fun d hd => ?_) hs s E nm) (fun v s' q => ?_) fun _ _ e => e
  · obtain ⟨a, ha, rfl⟩ := List.mem_map.mp hd; exact helt a ha C
  · obtain ⟨a, ha, rfl⟩ := List.mem_map.mp hd; trivial
  · obtain ⟨⟨a, ys, rfl, hl, hd⟩, k⟩ := q
    refine ⟨⟨a, ys, rfl, hl, den_ints (h := s'.heap) ?_⟩, k⟩
    rw [List.map_map] at hd ⊢
    exact hd
theorem Ev.compSS {dsrc : D} {xs : List Str} (f : Str → Str) (hr : Room n A) (S : Src dsrc (xs.map .str)) (hz : xs.length < 1000000) (O : ScOk scope env x) (hi : Ev w A env G iter dsrc)
    (helt : ∀ a ∈ xs, ∀ C, Ev w A (cE scope env C) ((x, .str a) :: cG scope env G) elt (.str (f a))) (hs : ∀ x, foldedSetIterable iter env x = pure x := by intro _; rfl) :
    Ev w A env G (.ListComp elt [⟨.Name x px, iter, [], 0⟩] scope pos) (.sl (xs.map f)) := by
  intro s E nm
  refine wpAny_mono (Ev.compG (g := liftS .str f) hr S (by simpa using hz) O hi (fun d hd C => ?_) (fun d hd => ?_) hs s E nm) (fun v s' q => ?_) fun _ _ e => e
  · obtain ⟨a, ha, rfl⟩ := List.mem_map.mp hd; exact helt a ha C
  · obtain ⟨a, ha, rfl⟩ := List.mem_map.mp hd; trivial
  · obtain ⟨⟨a, ys, rfl, hl, hd⟩, k⟩ := q
    refine ⟨⟨a, ys, rfl, hl, den_strs (h := s'.heap) ?_⟩, k⟩
    rw [List.map_map] at hd ⊢
    exact hd

/-- a comprehension whose test lets nothing through -/
theorem Ev.compNone {dsrc : D} {xs : List Int} {c : Expr} (hr : Room n A) (S : Src dsrc (xs.map .int)) (hz : xs.length < 1000000) (O : ScOk scope env x) (hi : Ev w A env G iter dsrc)
    (htest : ∀ a ∈ xs, ∀ C, Tr w A (cE scope env C) ((x, .int a) :: cG scope env G) c false) (hs : ∀ x, foldedSetIterable iter env x = pure x := by intro _; rfl) :
    Ev w A env G (.ListComp elt [⟨.Name x px, iter, [c], 0⟩] scope pos) (.il []) := by
  intro s E nm
  have hclos : closureFor scope env = pure (clo env scope.names []) := closureFor_eq fun y hy hf => by
    have := List.all_eq_true.mp O.free y hy
    rw [hf] at this
    simpa using this
  refine wpAny_ListComp_free (fun _ => false) (fun v y => False) hclos (fun y hy => by simpa using List.all_eq_true.mp O.cell y hy) O.kind
    (fun y hy hl => by have := List.all_eq_true.mp O.names y hy; rw [hl] at this; simpa using this) O.hx (wpAny_mono (hi s E nm) (fun xv s₁ q₁ => wpAny_mono (src_iter hr S q₁.1) (fun it s₂ q₂ => ?_) fun _ _ e => e) fun _ _ e => e) hs
  obtain ⟨I, fp, wr, P, St, rfl, W, hst, hfp, hP, hwr, hk₂⟩ := q₂
  have hold : ∀ s₃ : Shared, (∀ b o, b ∉ wr → s₂.heap.get? b = some o → s₃.heap.get? b = some o) → Kp s₁.heap s₃.heap := fun s₃ h b o e => h b o (hwr b (Heap.lt_size e)) (ks_heap hk₂ b o e)
  refine ⟨I, fp, wr, (xs.map D.int).length, P, St, rfl, W, by rw [sizeLine_eq, List.length_map]; omega, hst, hfp, ⟨?_, ?_⟩, ?_⟩
  · intro C i v s₃ m₃ E' _ hPv hn hm hk _
    obtain ⟨d, hd, him⟩ := hP i v hPv
    obtain ⟨a, ha, rfl⟩ := List.mem_map.mp (List.mem_of_getElem? hd)
    have nm1 := nm.keep q₁.2
    have nm3 : Nms env G s₃ := ⟨nm1.good, nm1.wd.keep (hold s₃ hk), fun q hq => let ⟨v, a, b⟩ := nm1.nm q hq; ⟨v, a.keep (hold s₃ hk), b.keep (hold s₃ hk)⟩⟩
    rw [List.forIn_cons]
    simp only [if_true]
    refine wpAny_bind (wpAny_bind (wpAny_mono (htest a ha C s₃ E' (nms_comp nm3 O.kind O.hx hn hm (him _))) (fun r s₄ q₄ => ?_) fun _ _ e => e))
    obtain ⟨rfl, k₄⟩ := q₄
    exact wpAny_pure (wpAny_pure ⟨rfl, k₄⟩)
  · intro C i v s₃ m₃ E' _ hPv h _ _ _ _
    cases h
  · intro D h' tk ys vs hnew hlD _ hlen hPv hF hk
    have e : ys.toList = [] := by
      have : (vs.filter fun _ => false) = [] := by simp
      rw [this] at hF
      generalize ys.toList = l at hF
      cases hF; rfl
    refine ⟨⟨D, [], rfl, ?_, .nil⟩, ?_⟩
    · rw [← e, Array.toArray_toList]; exact hlD
    · obtain ⟨h1, t1, rfl, k1⟩ := q₁.2
      obtain ⟨h2, t2, e2, k2⟩ := hk₂
      subst e2
      exact ⟨h', tk, rfl, fun b o e => hk b o (hwr b (Heap.lt_size (k1 b o e))) (k2 b o (k1 b o e))⟩
end
end Mine
namespace Mine

theorem strs_canLay : ∀ ns : List Str, (∀ x ∈ ns, PyData.strOk x = true) → PyData.canLayAll0 (ns.map PyData.str) = true
  | [], _ => rfl
  | x :: r, h => by simp [PyData.canLayAll0, PyData.canLay0, strs_canLay r fun y hy => h y (List.mem_cons_of_mem _ hy), h x (List.mem_cons_self ..)]
theorem strs_depth : ∀ ns : List Str, PyData.depthAll (ns.map PyData.str) = 0
  | [] => rfl
  | _ :: r => by simp [PyData.depthAll, PyData.depth, strs_depth r]
theorem strs_shaped (ns : List Str) (h : ∀ x ∈ ns, PyData.strOk x = true) : SeqAt.shaped (.list (ns.map PyData.str)) = true := by
  simp [SeqAt.shaped, PyData.canLay0, PyData.depth, strs_canLay ns h, strs_depth]
theorem strs_same (ns ms : List Str) : PySem.Spec.same (.list (ns.map PyData.str)) (.list (ms.map PyData.str)) = decide (ns = ms) := by
  rw [PySem.Spec.same]
  induction ns generalizing ms with
  | nil => cases ms <;> simp [PySem.Spec.sameAll]
  | cons a r ih =>
    cases ms with
    | nil => simp [PySem.Spec.sameAll]
    | cons b t =>
      rw [List.map_cons, List.map_cons, PySem.Spec.sameAll, PySem.Spec.same, ih, Bool.eq_iff_iff]
      simp

/-- the order of texts -/
theorem lex_anti {a b : List Nat} (h1 : ¬ b < a) (h2 : ¬ a < b) : a = b := List.le_antisymm (List.not_lt.mp h1) (List.not_lt.mp h2)
theorem rising_pairwise : ∀ (p : Str) (l : List Str), risingS p l = true → (p :: l).Pairwise (fun a b => ¬ b.cps.toList < a.cps.toList)
  | p, [], _ => by simp
  | p, x :: r, h => by
    have h' : (!ltCps x.cps.toList p.cps.toList && risingS x r) = true := h
    rw [Bool.and_eq_true, Bool.not_eq_true', ltCps_eq, decide_eq_false_iff_not] at h'
    have ih := rising_pairwise x r h'.2
    refine List.pairwise_cons.mpr ⟨fun y hy => ?_, ih⟩
    rcases List.mem_cons.mp hy with rfl | hy
    · exact h'.1
    · have q := (List.pairwise_cons.mp ih).1 y hy
      exact List.not_lt.mpr (List.le_trans (List.not_lt.mp h'.1) (List.not_lt.mp q))

section
variable {w : World} {A : Around} {env : Env} {G : Cx} {n : Nat}

theorem Co.neS {a b : List Str} (hr : Room n A) (ha : ∀ x ∈ a, PyData.strOk x = true) (hb : ∀ x ∈ b, PyData.strOk x = true) : Co w A .NotEq (.sl a) (.sl b) (!decide (a = b)) := by
  rintro s E v₁ v₂ - ⟨l, vs, rfl, hl, hi⟩ ⟨l2, ws, rfl, hl2, hi2⟩
  exact ne_dataH_same (reads_newData hl (lm_carried_strs hi)) (reads_newData hl2 (lm_carried_strs hi2)) (strs_shaped _ ha) (strs_shaped _ hb) hr.un
    (SeqAt.noMix_of_shape (.list .str) rfl _ _ (list_map_has fun _ => rfl) (list_map_has fun _ => rfl)) (by rw [strs_same]; exact ⟨rfl, ks_refl s⟩)

theorem Cl.sortS {l l' : List Str} (hp : l'.Perm l) (hs : l'.Pairwise (fun a b => ¬ b.cps.toList < a.cps.toList)) (hz : l.length < 64) : Cl w A (.builtin "sorted") [.sl l] (.sl l') := by
  intro s E vs _ hd
  obtain ⟨v, rfl, a, us, rfl, hl, hi⟩ := all1 hd
  refine sorted_strs hl hi (by rw [(StrsAre.len_eq hi)]; exact hz) fun out ss' a1 a2 a3 => ?_
  have hpw : ss'.Pairwise (fun a b => ¬ b.cps.toList < a.cps.toList) := by
    cases ss' with
    | nil => exact .nil
    | cons x r => exact rising_pairwise x r a3
  have e : ss' = l' := rise_eq (fun a b h1 h2 => by rw [← mkS_self a, ← mkS_self b, lex_anti h1 h2]) (a2.trans hp.symm) hpw hs
  subst e
  obtain ⟨k, il⟩ := sorted_new (s := s) (vs := us) (out := out)
  exact ⟨⟨_, out.toList, rfl, by rw [Array.toArray_toList]; exact il, a1⟩, ⟨_, s.toks, rfl, k⟩⟩

theorem Ev.neg {x : Expr} {pos : Pos} {i : Int} (h : Ev w A env G x (.int i)) : Ev w A env G (.UnaryOp .USub x pos) (.int (-i)) := by
  intro s E nm
  refine wpAny_UnaryOp (wpAny_mono (h s E nm) (fun v s₁ q => ?_) fun _ _ e => e)
  obtain ⟨⟨t, rfl⟩, k⟩ := q
  exact PyProof.Rows.neg_int ⟨⟨_, rfl⟩, ks_trans k (ks_tok _ _)⟩

theorem Tr.nameI {x : Str} {pos : Pos} {i : Int} (h : Ev w A env G (.Name x pos) (.int i)) : Tr w A env G (.Name x pos) (!decide (i = 0)) := by
  intro s E nm
  refine wpAny_isTrue_value (wpAny_mono (h s E nm) (fun v s₁ q => ?_) fun _ _ e => e)
  obtain ⟨⟨t, rfl⟩, k⟩ := q
  refine PyProof.Rows.truthy_int ⟨?_, k⟩
  by_cases hi : i = 0 <;> simp [hi]

def TrA (w : World) (A : Around) (env : Env) (G : Cx) (es : List Expr) (b : Bool) : Prop :=
  ∀ s E, Nms env G s → wpAny (model Pg w) A (allTrue .And es env) (fun r s' => r = b ∧ Keeps s s') E s
theorem TrA.nil : TrA w A env G [] true := fun s E _ => wpAny_allTrue_And_nil ⟨rfl, ks_refl s⟩
theorem TrA.cons {x : Expr} {r : List Expr} {b c : Bool} (h : Tr w A env G x b) (hr : b = true → TrA w A env G r c) : TrA w A env G (x :: r) (b && c) := by
  intro s E nm
  refine wpAny_allTrue_And_cons (wpAny_mono (h s E nm) (fun v s₁ q => ?_) fun _ _ e => e)
  obtain ⟨rfl, k⟩ := q
  cases v with
  | true => exact wpAny_mono (hr rfl s₁ E (nm.keep k)) (fun v s₂ q => ⟨by rw [q.1]; rfl, ks_trans k q.2⟩) fun _ _ e => e
  | false => exact ⟨rfl, k⟩
theorem Tr.and {es : List Expr} {pos : Pos} {b : Bool} (h : TrA w A env G es b) : Tr w A env G (.BoolOp .And es pos) b := fun s E nm => wpAny_isTrue_BoolOp (h s E nm)
def TrO (w : World) (A : Around) (env : Env) (G : Cx) (es : List Expr) (b : Bool) : Prop :=
  ∀ s E, Nms env G s → wpAny (model Pg w) A (allTrue .Or es env) (fun r s' => r = b ∧ Keeps s s') E s
theorem TrO.nil : TrO w A env G [] false := fun s E _ => wpAny_allTrue_Or_nil ⟨rfl, ks_refl s⟩
theorem TrO.cons {x : Expr} {r : List Expr} {c : Bool} (h : Tr w A env G x false) (hr : TrO w A env G r c) : TrO w A env G (x :: r) c := by
  intro s E nm
  refine wpAny_allTrue_Or_cons (wpAny_mono (h s E nm) (fun v s₁ q => ?_) fun _ _ e => e)
  obtain ⟨rfl, k⟩ := q
  exact wpAny_mono (hr s₁ E (nm.keep k)) (fun v s₂ q => ⟨q.1, ks_trans k q.2⟩) fun _ _ e => e
theorem Tr.or {es : List Expr} {pos : Pos} {b : Bool} (h : TrO w A env G es b) : Tr w A env G (.BoolOp .Or es pos) b := fun s E nm => wpAny_isTrue_BoolOp (h s E nm)

theorem Ev.and2 {x y : Expr} {pos : Pos} {b : Bool} (hx : Ev w A env G x (.bool true)) (hy : Ev w A env G y (.bool b)) : Ev w A env G (.BoolOp .And [x, y] pos) (.bool b) := by
  intro s E nm
  refine wpAny_And2 (wpAny_mono (hx s E nm) (fun v s₁ q => ?_) fun _ _ e => e)
  obtain ⟨rfl, k⟩ := q
  refine wpAny_truthy_bool ?_
  exact wpAny_mono (hy s₁ E (nm.keep k)) (fun v s₂ q => ⟨q.1, ks_trans k q.2⟩) fun _ _ e => e

/-- a plain list by its name -/
theorem Ev.nameQ {x : Str} {pos : Pos} {l : List Int} (h : Ev w A env G (.Name x pos) (.ql l)) : Ev w A env G (.Name x pos) (.il l) := by
  intro s E nm
  refine wpAny_mono (h s E nm) (fun v s₁ q => ?_) fun _ _ e => e
  obtain ⟨⟨a, vs, rfl, hp, hi⟩, k⟩ := q
  exact ⟨⟨a, vs, rfl, let ⟨n, e⟩ := hp; ⟨_, e, rfl, n, rfl⟩, hi⟩, k⟩

theorem Ev.count {x : Str} {np apos pos : Pos} {e : Expr} {l : List Int} {k : Int} (hq : Ev w A env G (.Name x np) (.ql l)) (he : Ev w A env G e (.int k)) (hline : (apos.endLine == pos.line) = true)
    (hst : starEach [e] env = [(false, eval e env)] := by rfl) : Ev w A env G (.Call (.Attribute (.Name x np) (Str.ofString "count") apos) [e] [] pos) (.int (l.count k : Nat)) := by
  intro s E nm
  refine wpAny_Call_method (T := "list") (id := "list.count") rfl (by rw [hst]; rfl) hline PySem.F.plainAttrs_list PySem.F.slot_list_count PySem.F.type_list_count (wpAny_mono (hq s E nm) (fun v s₁ q => ?_) fun _ _ e => e)
  obtain ⟨⟨a, vs, rfl, ⟨c, hp⟩, hi⟩, kk⟩ := q
  refine ⟨⟨_, hp, rfl⟩, fun b hb => ?_, ?_⟩
  · cases hb; exact ⟨_, hp, rfl⟩
  refine callWith_method1 (args_cons (wpAny_mono (he s₁ E (nm.keep kk)) (fun v s₂ q₂ => args_nil ?_) fun _ _ e => e) hst) hst
  obtain ⟨⟨t, rfl⟩, k₂⟩ := q₂
  have hl : s₂.heap.IsList a vs.toArray := ⟨_, ks_heap k₂ _ _ hp, rfl, c, rfl⟩
  exact count_list_ints hl hi ⟨⟨_, rfl⟩, ks_trans (ks_trans kk k₂) (ks_tok _ _)⟩

/-! floats -/
def halfF (a : Int) : UInt64 := Float64.ofFrac (decide (a < 0) != decide ((2 : Int) < 0)) a.natAbs 2
def dblF (b : UInt64) : UInt64 := Float64.mul (Float64.ofInt 2) b
theorem half_ok : ∀ n : Nat, n < 64 → Float64.isInf (halfF n) = false ∧ Float64.cmpInt (dblF (halfF n)) n = some Ordering.eq := by decide +kernel
theorem Bo.half {a : Int} (h0 : 0 ≤ a) (h1 : a < 64) : Bo w A .Div (.int a) (.int 2) (.flt (halfF a)) := by
  rintro s E v₁ v₂ - ⟨t, rfl⟩ ⟨u, rfl⟩
  obtain ⟨m, rfl⟩ : ∃ m : Nat, a = m := ⟨a.toNat, by omega⟩
  have := (half_ok m (by omega)).1
  refine PySem.AutoIntOps.truediv_2 (by decide) ?_ ⟨⟨_, rfl⟩, ks_tok s _⟩
  show ¬ Float64.isInf (halfF m) = true
  rw [this]; decide
theorem Bo.dbl {b : UInt64} : Bo w A .Mult (.int 2) (.flt b) (.flt (dblF b)) := by
  rintro s E v₁ v₂ - ⟨t, rfl⟩ ⟨u, rfl⟩
  exact PySem.AutoFloatOps.mul_if_1 (by decide +kernel) ⟨⟨_, rfl⟩, ks_tok s _⟩
theorem Co.neF {b : UInt64} {n : Int} : Co w A .NotEq (.flt b) (.int n) (Float64.cmpInt b n != some Ordering.eq) := by
  rintro s E v₁ v₂ - ⟨t, rfl⟩ ⟨u, rfl⟩
  exact PyProof.Rows.ne_fi ⟨rfl, ks_refl s⟩
end
end Mine
namespace Mine

/-! frames and statements -/
def stK (env : Env) (x : Str) : Bool := match env.kindOf x with
  | some .local => true
  | some .cell => (env.cells.lookup x).isSome
  | _ => false

/-- what else must stand: it does not hang on namespaces or cells -/
structure Stb where
  p : Heap → Prop
  k : ∀ h h', p h → Kp h h' → p h'
  b : ∀ h h' a, p h → Plainly h a → Heap.ExtBut a h h' → p h'
def J0 : Stb := ⟨fun _ => True, fun _ _ _ _ => trivial, fun _ _ _ _ _ _ => trivial⟩
structure Bs where
  s : Shared
  J : Stb

structure Fs (s₀ : Bs) (env : Env) (G : Cx) (s : Shared) : Prop where
  good : Good env
  wd : Wd s₀.s.heap
  j : s₀.J.p s.heap
  st : ∃ m cm, InCallC s₀.s env.locals m env.cells cm s ∧ ∀ q ∈ G, ∃ v, ((env.kindOf q.1 = some .local ∧ m q.1 = some v) ∨ (env.kindOf q.1 = some .cell ∧ (env.cells.lookup q.1).isSome = true ∧ cm q.1 = some v)) ∧ Den q.2 v s.heap

theorem Fs.nms {s₀ : Bs} {s : Shared} {env : Env} {G : Cx} (F : Fs s₀ env G s) : Nms env G s := by
  obtain ⟨m, cm, x, h⟩ := F.st
  refine ⟨F.good, F.wd.keep x.toInCall.keep, fun q hq => ?_⟩
  obtain ⟨v, hv, hd⟩ := h q hq
  refine ⟨v, ?_, hd⟩
  rcases hv with ⟨a, b⟩ | ⟨a, b, c⟩
  · exact .inl ⟨a, m, x.toInCall.ns, b⟩
  · obtain ⟨ad, hc⟩ := Option.isSome_iff_exists.mp b
    exact .inr ⟨a, ad, hc, c ▸ x.cell _ _ hc⟩
theorem Fs.keep {s₀ : Bs} {s s' : Shared} {env : Env} {G : Cx} (F : Fs s₀ env G s) (k : Keeps s s') : Fs s₀ env G s' := by
  obtain ⟨m, cm, x, h⟩ := F.st
  obtain ⟨h', tk, rfl, kk⟩ := k
  exact ⟨F.good, F.wd, s₀.J.k _ _ F.j kk, m, cm, x.kept kk, fun q hq => let ⟨v, a, b⟩ := h q hq; ⟨v, a, b.keep kk⟩⟩
theorem Fs.sub {s₀ : Bs} {s : Shared} {env : Env} {G G' : Cx} (F : Fs s₀ env G s) (h : G' ⊆ G) : Fs s₀ env G' s := by
  obtain ⟨m, cm, x, q⟩ := F.st
  exact ⟨F.good, F.wd, F.j, m, cm, x, fun p hp => q p (h hp)⟩
theorem Fs.done {s₀ : Bs} {s : Shared} {env : Env} {G : Cx} (F : Fs s₀ env G s) : Keeps s₀.s s := by
  obtain ⟨m, cm, x, _⟩ := F.st
  exact x.done

theorem Fs.store {M : Model} {A : Around} {E : Value → Shared → Prop} {s₀ : Bs} {s : Shared} {env : Env} {G : Cx} {x : Str} {v : Value} {d : D} {Q : Unit → Shared → Prop} (F : Fs s₀ env G s) (hd : Den d v s.heap) (hk : stK env x = true)
    (hx : (G.all fun q => q.1 != x) = true) (h : ∀ s', Fs s₀ env ((x, d) :: G) s' → Q () s') : wpAny M A (storeName env x v) Q E s := by
  obtain ⟨m, cm, X, hG⟩ := F.st
  have hne : ∀ q ∈ G, q.1 ≠ x := fun q hq => by simpa using List.all_eq_true.mp hx q hq
  unfold stK at hk
  split at hk
  · rename_i hl
    refine wpAny_storeName_local hl X.toInCall.ns (fun h' hn' hs' => h _ ⟨F.good, F.wd, s₀.J.b _ _ _ F.j (plainly_ns X.toInCall.ns) hs'.extBut, fun y => if y = x then some v else m y, cm,
      ⟨⟨?_, hn', fun b o e => ?_, X.toInCall.fresh⟩, fun k c hc => ?_, X.apart, X.above⟩, fun q hq => ?_⟩) (by rw [F.good.k]; rfl)
    · obtain ⟨h₁, tk, rfl⟩ := X.toInCall.same
      exact ⟨h', _, rfl⟩
    · exact hs'.extBut b o (Nat.ne_of_lt (Nat.lt_of_lt_of_le (Heap.lt_size e) X.toInCall.fresh)) (X.toInCall.keep b o e)
    · exact (X.cell k c hc).sameBut hs' (Nat.ne_of_gt (X.above k c (mem_of_lookup hc)))
    · rcases List.mem_cons.mp hq with rfl | hq
      · exact ⟨v, .inl ⟨hl, by simp⟩, hd.but (plainly_ns X.toInCall.ns) hs'.extBut⟩
      · obtain ⟨u, hu, hdu⟩ := hG q hq
        refine ⟨u, ?_, hdu.but (plainly_ns X.toInCall.ns) hs'.extBut⟩
        rcases hu with ⟨a, b⟩ | hu
        · exact .inl ⟨a, (if_neg (hne q hq)).trans b⟩
        · exact .inr hu
  · rename_i hl
    obtain ⟨c, hc⟩ := Option.isSome_iff_exists.mp hk
    have hLc := X.above x c (mem_of_lookup hc)
    refine wpAny_storeName_cell F.good.k hl hc (X.cell x c hc) fun h' hc' hs' => h _ ⟨F.good, F.wd, s₀.J.b _ _ _ F.j (plainly_cell (X.cell x c hc)) hs'.extBut, m, fun y => if y = x then some v else cm y,
      ⟨⟨?_, X.toInCall.ns.sameBut hs' (Nat.ne_of_lt hLc), fun b o e => ?_, X.toInCall.fresh⟩, fun k c' hk' => ?_, X.apart, X.above⟩, fun q hq => ?_⟩
    · obtain ⟨h₁, tk, rfl⟩ := X.toInCall.same
      exact ⟨h', _, rfl⟩
    · exact hs'.extBut b o (Nat.ne_of_lt (Nat.lt_trans (Nat.lt_of_lt_of_le (Heap.lt_size e) X.toInCall.fresh) hLc)) (X.toInCall.keep b o e)
    · by_cases hkn : k = x
      · subst hkn
        rw [hc] at hk'; cases hk'
        simpa using hc'
      · show Heap.IsCell _ _ (if k = x then some v else cm k)
        rw [if_neg hkn]
        exact (X.cell k c' hk').sameBut hs' fun e => hkn (name_of_addr X.apart (mem_of_lookup hk') (e ▸ mem_of_lookup hc))
    · rcases List.mem_cons.mp hq with rfl | hq
      · exact ⟨v, .inr ⟨hl, hk, by simp⟩, hd.but (plainly_cell (X.cell x c hc)) hs'.extBut⟩
      · obtain ⟨u, hu, hdu⟩ := hG q hq
        refine ⟨u, ?_, hdu.but (plainly_cell (X.cell x c hc)) hs'.extBut⟩
        rcases hu with hu | ⟨a, b, e⟩
        · exact .inl hu
        · exact .inr ⟨a, b, (if_neg (hne q hq)).trans e⟩
  · cases hk

/-- statements that hand back a datum -/
def Ex (w : World) (A : Around) (env : Env) (s₀ : Bs) (G : Cx) (b : List Stmt) (d : D) : Prop :=
  ∀ s E, Fs s₀ env G s → wpAny (model Pg w) A (execs b env) (fun f s' => ∃ v, f = .ret v ∧ Den d v s'.heap ∧ Keeps s₀.s s') E s
/-- statements that go on -/
def Ex1 (w : World) (A : Around) (env : Env) (s₀ : Bs) (G : Cx) (st : Stmt) (G' : Cx) : Prop :=
  ∀ s E, Fs s₀ env G s → wpAny (model Pg w) A (exec st env) (fun f s' => f = .next ∧ Fs s₀ env G' s') E s
def Exn (w : World) (A : Around) (env : Env) (s₀ : Bs) (G : Cx) (b : List Stmt) (G' : Cx) : Prop :=
  ∀ s E, Fs s₀ env G s → wpAny (model Pg w) A (execs b env) (fun f s' => f = .next ∧ Fs s₀ env G' s') E s

section
variable {w : World} {A : Around} {env : Env} {s₀ : Bs} {G G' G₁ : Cx} {d : D}

theorem Ex.cons {st : Stmt} {b : List Stmt} (h : Ex1 w A env s₀ G st G') (hb : Ex w A env s₀ G' b d) : Ex w A env s₀ G (st :: b) d := by
  intro s E F
  refine wpAny_execs_cons (wpAny_mono (h s E F) (fun f s' q => ?_) fun _ _ e => e)
  obtain ⟨rfl, F'⟩ := q
  exact hb s' E F'
theorem Exn.nil : Exn w A env s₀ G [] G := fun s E F => wpAny_execs_nil ⟨rfl, F⟩
theorem Exn.cons {st : Stmt} {b : List Stmt} (h : Ex1 w A env s₀ G st G₁) (hb : Exn w A env s₀ G₁ b G') : Exn w A env s₀ G (st :: b) G' := by
  intro s E F
  refine wpAny_execs_cons (wpAny_mono (h s E F) (fun f s' q => ?_) fun _ _ e => e)
  obtain ⟨rfl, F'⟩ := q
  exact hb s' E F'
theorem Exn.to {b : List Stmt} (h : Exn w A env s₀ G b G₁) (hs : G' ⊆ G₁) : Exn w A env s₀ G b G' := fun s E F => wpAny_mono (h s E F) (fun f s' q => ⟨q.1, q.2.sub hs⟩) fun _ _ e => e
theorem Ex.of {b : List Stmt} (h : Ex w A env s₀ G' b d) (hs : G' ⊆ G) : Ex w A env s₀ G b d := fun s E F => h s E (F.sub hs)

theorem Ex.castG {b : List Stmt} (e : G = G') (h : Ex w A env s₀ G' b d) : Ex w A env s₀ G b d := e ▸ h
theorem Ex.ret {e : Expr} {pos : Pos} {r : List Stmt} (h : Ev w A env G e d) : Ex w A env s₀ G (.Return (some e) pos :: r) d := by
  intro s E F
  refine wpAny_execs_cons (wpAny_Return_some (wpAny_mono (h s E F.nms) (fun v s' q => ?_) fun _ _ e => e))
  exact ⟨v, rfl, q.1, ks_trans F.done q.2⟩

theorem Ex1.assign {x : Str} {px pos : Pos} {e : Expr} {d₁ : D} (h : Ev w A env G e d₁) (hk : stK env x = true) (hs : G₁ ⊆ G) (hx : (G₁.all fun q => q.1 != x) = true)
    (hsw : swapsWith e (some (.Name x px)) pos.line env = pure false) : Ex1 w A env s₀ G (.Assign [.Name x px] e pos) ((x, d₁) :: G₁) := by
  intro s E F
  refine wpAny_Assign_Name (wpAny_mono (h s E F.nms) (fun v s' q => ?_) fun _ _ e => e) hsw
  exact ((F.keep q.2).sub hs).store q.1 hk hx fun s'' F' => ⟨rfl, F'⟩

theorem Ex1.aug {x : Str} {px pos : Pos} {op : Operator} {e : Expr} {a b c : Int} (hv : G.lookup x = some (.int a)) (h : Ev w A env G e (.int b))
    (ho : ∀ s E t u, wpAny (model Pg w) A (inplaceOp op (.int a t) (.int b u)) (fun v s' => Den (.int c) v s'.heap ∧ Keeps s s') E s) (hk : stK env x = true) (hs : G₁ ⊆ G) (hx : (G₁.all fun q => q.1 != x) = true) :
    Ex1 w A env s₀ G (.AugAssign (.Name x px) op e pos) ((x, .int c) :: G₁) := by
  intro s E F
  obtain ⟨v, l, t, rfl⟩ := F.nms.of_lookup hv
  refine wpAny_AugAssign_Name (l.load F.good (wpAny_mono (h s E F.nms) (fun v s' q => ?_) fun _ _ e => e))
  obtain ⟨⟨u, rfl⟩, k⟩ := q
  refine wpAny_mono (ho s' E t u) (fun v s'' q => ?_) fun _ _ e => e
  exact ((F.keep (ks_trans k q.2)).sub hs).store q.1 hk hx fun s3 F' => ⟨rfl, F'⟩
theorem Ex1.augAdd {x : Str} {px pos : Pos} {e : Expr} {a b : Int} (c : Int) (hc : c = a + b) (hv : G.lookup x = some (.int a)) (h : Ev w A env G e (.int b)) (hk : stK env x = true) (hs : G₁ ⊆ G) (hx : (G₁.all fun q => q.1 != x) = true) :
    Ex1 w A env s₀ G (.AugAssign (.Name x px) .Add e pos) ((x, .int c) :: G₁) := hc ▸ Ex1.aug hv h (fun s E t u => PyProof.Rows.iadd_int ⟨⟨_, rfl⟩, ks_tok s _⟩) hk hs hx
theorem Ex1.augSub {x : Str} {px pos : Pos} {e : Expr} {a b : Int} (c : Int) (hc : c = a - b) (hv : G.lookup x = some (.int a)) (h : Ev w A env G e (.int b)) (hk : stK env x = true) (hs : G₁ ⊆ G) (hx : (G₁.all fun q => q.1 != x) = true) :
    Ex1 w A env s₀ G (.AugAssign (.Name x px) .Sub e pos) ((x, .int c) :: G₁) := hc ▸ Ex1.aug hv h (fun s E t u => PyProof.Rows.isub_int ⟨⟨_, rfl⟩, ks_tok s _⟩) hk hs hx

theorem Ex1.ifF {t : Expr} {b : List Stmt} {pos : Pos} (h : Tr w A env G t false) : Ex1 w A env s₀ G (.If t b [] pos) G := by
  intro s E F
  refine wpAny_If (wpAny_mono (h s E F.nms) (fun r s' q => ?_) fun _ _ e => e)
  obtain ⟨rfl, k⟩ := q
  exact wpAny_execs_nil ⟨rfl, F.keep k⟩
theorem Ex.ifT {t : Expr} {b o r : List Stmt} {pos : Pos} (h : Tr w A env G t true) (hb : Ex w A env s₀ G b d) : Ex w A env s₀ G (.If t b o pos :: r) d := by
  intro s E F
  refine wpAny_execs_cons (wpAny_If (wpAny_mono (h s E F.nms) (fun c s' q => ?_) fun _ _ e => e))
  obtain ⟨rfl, k⟩ := q
  refine wpAny_mono (hb s' E (F.keep k)) (fun f s'' q => ?_) fun _ _ e => e
  obtain ⟨v, rfl, q⟩ := q
  exact ⟨v, rfl, q⟩
theorem Ex.ifE {t : Expr} {b o r : List Stmt} {pos : Pos} (h : Tr w A env G t false) (hb : Ex w A env s₀ G o d) : Ex w A env s₀ G (.If t b o pos :: r) d := by
  intro s E F
  refine wpAny_execs_cons (wpAny_If (wpAny_mono (h s E F.nms) (fun c s' q => ?_) fun _ _ e => e))
  obtain ⟨rfl, k⟩ := q
  refine wpAny_mono (hb s' E (F.keep k)) (fun f s'' q => ?_) fun _ _ e => e
  obtain ⟨v, rfl, q⟩ := q
  exact ⟨v, rfl, q⟩

/-- a while that goes N turns -/
theorem Ex1.while {t : Expr} {b : List Stmt} {pos : Pos} (Gi : Nat → Cx) (N : Nat) (go : ∀ i, i < N → Tr w A env (Gi i) t true) (step : ∀ i, i < N → Exn w A env s₀ (Gi i) b (Gi (i + 1))) (stop : Tr w A env (Gi N) t false) :
    Ex1 w A env s₀ (Gi 0) (.While t b [] pos) (Gi N) := by
  intro s E F
  refine wpAny_While (codeAny_whileLoop (fun k s' => ∃ i, i ≤ N ∧ k = N - i ∧ Fs s₀ env (Gi i) s') ?_ N ⟨0, Nat.zero_le _, rfl, F⟩)
  rintro k s' ⟨i, hi, rfl, F'⟩
  by_cases hlt : i < N
  · refine wpAny_mono (go i hlt s' _ F'.nms) (fun r s₂ q => ?_) fun _ _ e => e
    obtain ⟨rfl, k⟩ := q
    simp only [if_true]
    refine wpAny_mono (step i hlt s₂ _ (F'.keep k)) (fun f s₃ q => ?_) fun _ _ e => e
    obtain ⟨rfl, F3⟩ := q
    exact ⟨N - (i + 1), by omega, i + 1, by omega, rfl, F3⟩
  · have e : i = N := by omega
    subst e
    refine wpAny_mono (stop s' _ F'.nms) (fun r s₂ q => ?_) fun _ _ e => e
    obtain ⟨rfl, k⟩ := q
    simp only [Bool.false_eq_true, if_false]
    exact wpAny_execs_nil ⟨rfl, F'.keep k⟩

theorem bindL_other {k : Str → Option NameKind} : ∀ {binds : List (Str × Value)} {m : Str → Option Value} {x : Str}, x ∉ binds.map (·.1) → bindL k binds m x = m x
  | [], _, _, _ => rfl
  | (n, v) :: r, m, x, h => by
    unfold bindL
    rw [List.map_cons, List.mem_cons, not_or] at h
    rw [bindL_other h.2]
    split
    · show (if x = n then some v else m x) = m x; rw [if_neg h.1]
    · rfl
theorem bindL_get {k : Str → Option NameKind} : ∀ {binds : List (Str × Value)} {m : Str → Option Value} {x : Str} {v : Value}, (binds.map (·.1)).Nodup → (x, v) ∈ binds → k x = some .local → bindL k binds m x = some v
  | (n, u) :: r, m, x, v, hn, h, hk => by
    unfold bindL
    rw [List.map_cons, List.nodup_cons] at hn
    rcases List.mem_cons.mp h with e | h
    · cases e
      rw [bindL_other hn.1, if_pos hk]; simp
    · exact bindL_get hn.2 h hk
theorem bindC_other {k : Str → Option NameKind} : ∀ {binds : List (Str × Value)} {m : Str → Option Value} {x : Str}, x ∉ binds.map (·.1) → bindC k binds m x = m x
  | [], _, _, _ => rfl
  | (n, v) :: r, m, x, h => by
    unfold bindC
    rw [List.map_cons, List.mem_cons, not_or] at h
    rw [bindC_other h.2]
    split
    · rfl
    · show (if x = n then some v else m x) = m x; rw [if_neg h.1]
theorem bindC_get {k : Str → Option NameKind} : ∀ {binds : List (Str × Value)} {m : Str → Option Value} {x : Str} {v : Value}, (binds.map (·.1)).Nodup → (x, v) ∈ binds → k x = some .cell → bindC k binds m x = some v
  | (n, u) :: r, m, x, v, hn, h, hk => by
    unfold bindC
    rw [List.map_cons, List.nodup_cons] at hn
    rcases List.mem_cons.mp h with e | h
    · cases e
      rw [bindC_other hn.1, if_neg (by rw [hk]; decide)]; simp
    · exact bindC_get hn.2 h hk

theorem denAll_zip {h : Heap} : ∀ {xs : List Str} {ds : List D} {vs : List Value}, DenAll h ds vs → ∀ q ∈ xs.zip ds, ∃ v, (q.1, v) ∈ xs.zip vs ∧ Den q.2 v h
  | [], _, _, _, q, hq => by simp at hq
  | x :: xs, _, _, .nil, q, hq => by simp at hq
  | x :: xs, _, _, .cons a r, q, hq => by
    rw [List.zip_cons_cons] at hq
    rcases List.mem_cons.mp hq with rfl | hq
    · exact ⟨_, by simp, a⟩
    · obtain ⟨v, h1, h2⟩ := denAll_zip r q hq
      exact ⟨v, by rw [List.zip_cons_cons]; exact List.mem_cons_of_mem _ h1, h2⟩
theorem denAll_len {h : Heap} : ∀ {ds : List D} {vs : List Value}, DenAll h ds vs → vs.length = ds.length
  | _, _, .nil => rfl
  | _, _, .cons a r => by simp [denAll_len r]

abbrev fE (i : Nat) (nm : Str) (pm : Value) (c : Addr) (doc : Value) (L f : Addr) : Env := callEnvC (fnD i nm pm c doc) L f

/-- a call of a def of the text's -/
theorem Cl.fn {n f i : Nat} {ds : List D} (xs : List Str) (hi : (f, i) ∈ fTab) (hr : Room (n + 1) A)
    (hb : ∀ vs nm pm c doc, vs.length = xs.length → bindArgs (fnD i nm pm c doc) ⟨vs, []⟩ = pure (xs.zip vs)) (hlen : ds.length = xs.length) (hnd : xs.Nodup)
    (hk : (scoAt i).kind = .function) (hco : (scoAt i).isCoroutine = false) (hgen : (scoAt i).isGenerator = false)
    (hkind : (xs.all fun x => (scoAt i).names.lookup x == some .local || (scoAt i).names.lookup x == some .cell) = true)
    (body : ∀ (s₀ : Bs) nm pm c doc L, Ex w (A.deeper (fE i nm pm c doc L f)) (fE i nm pm c doc L f) s₀ (xs.zip ds) (bodyAt i) d) : Cl w A (.ref f) ds d := by
  intro s E vs hw hd
  obtain ⟨o, nm, pm, c, doc, ho, hdat, hcd⟩ := hw.fns _ hi
  have hl := denAll_len hd
  have hfst : (xs.zip vs).map (·.1) = xs := List.map_fst_zip (by omega)
  have hkb : ((xs.zip vs).all fun y => (scoAt i).names.lookup y.1 == some .local || (scoAt i).names.lookup y.1 == some .cell) = true :=
    List.all_eq_true.mpr fun y hy => List.all_eq_true.mp hkind y.1 (hfst ▸ List.mem_map_of_mem (f := (·.1)) hy)
  refine wpAny_call (codeAny_call_cells (fd := fnD i nm pm c doc) (body := bodyAt i) hr.rl ho hdat hw.nolimit hcd rfl (hb vs nm pm c doc (by omega)) rfl (kindsX hkb _) (fun s₁ X => ?_) hco hgen hk)
  have F : Fs ⟨s, J0⟩ (fE i nm pm c doc s.heap.objs.size f) (xs.zip ds) s₁ := by
    refine ⟨⟨hk, rfl, rfl⟩, hw, trivial, _, _, X, fun q hq => ?_⟩
    obtain ⟨v, hm, hdv⟩ := denAll_zip (xs := xs) hd q hq
    refine ⟨v, ?_, hdv.keep X.toInCall.keep⟩
    rcases kindsX hkb (s.heap.objs.size + 1) _ hm with h1 | ⟨h1, h2⟩
    · exact .inl ⟨h1, bindL_get (by rw [hfst]; exact hnd) hm h1⟩
    · exact .inr ⟨h1, h2, bindC_get (by rw [hfst]; exact hnd) hm h1⟩
  refine wpAny_mono (body ⟨s, J0⟩ nm pm c doc s.heap.objs.size s₁ _ F) (fun fl s' q => ?_) fun _ _ e => e
  obtain ⟨v, rfl, h1, h2⟩ := q
  exact ⟨h1, h2⟩
end
end Mine
namespace Mine
section
variable {w : World} {A : Around} {n : Nat}

def cmpS (a b : List Nat) : Int := (decide (b < a)).toInt - (decide (a < b)).toInt

theorem f_strcoll {a b : List Nat} (hr : Room (n + 1) A) : Cl w A (.ref 21) [.str (mkS a), .str (mkS b)] (.int (cmpS a b)) := by
  refine Cl.fn ["a", "b"] (i := 1) (by simp [fTab]) hr (fun vs nm pm c doc h => ?_) rfl (by decide) rfl rfl rfl rfl (fun s₀ nm pm c doc L => ?_)
  · match vs, h with
    | [u, v], _ => rfl
  · exact Ex.ret (Ev.bin (Ev.cmp (Ev.name rfl) (Ev.name rfl) Co.gtS) (Ev.cmp (Ev.name rfl) (Ev.name rfl) Co.ltS) Bo.subB)

theorem sp_is : (Str.ofString " ") = mkS [32] := by decide +kernel
theorem Ev.csp {env : Env} {G : Cx} {k : Nat} {pos : Pos} : Ev w A env G (.Constant (.str (Str.ofString " ")) k pos) (.str (mkS [32])) := by
  rw [← sp_is]; exact Ev.cstr
theorem Co.eqT {a b : List Nat} : Co w A .Eq (.str (mkS a)) (.str (mkS b)) (decide (a = b)) := by
  have h : decide (mkS a = mkS b) = decide (a = b) := by
    by_cases e : a = b
    · subst e; simp
    · have : ¬ mkS a = mkS b := fun h => e (mkS_inj h)
      simp [e, this]
  rw [← h]; exact Co.eqS

def bl (n : Nat) : List Nat := List.replicate n 32
theorem bl_len (n : Nat) : (bl n).length = n := by simp [bl]

theorem f_line {a room : Nat} {wd : List Nat} (hr : Room (n + 1) A) (h1 : a ≤ room) (h2 : room < 1000) (h3 : wd.length < 1000) :
    Cl w A (.ref 69) [.int a, .int room, .str (mkS wd)] (.str (mkS (bl a ++ wd ++ bl (room - a)))) := by
  refine Cl.fn ["ahead", "room", "word"] (i := 9) (by simp [fTab]) hr (fun vs nm pm c doc h => ?_) rfl (by decide) rfl rfl rfl rfl (fun s₀ nm pm c doc L => ?_)
  · match vs, h with
    | [u, v, t], _ => rfl
  · have e : ((room : Int) - (a : Int)).toNat = room - a := by omega
    refine Ex.ret (Ev.bin (Ev.bin (Ev.bin Ev.csp (Ev.name rfl) (Bo.mulS (by omega) (by omega))) (Ev.name rfl) (Bo.addS ?_)) (Ev.bin Ev.csp (Ev.bin (Ev.name rfl) (Ev.name rfl) Bo.subI) (Bo.mulS (by omega) (by omega))) ?_)
    · simp; omega
    · have := Bo.addS (w := w) (A := A.deeper (fE 9 nm pm c doc L 69)) (a := bl a ++ wd) (b := bl (room - a)) (by simp [bl]; omega)
      rw [e]; exact this
end
end Mine
namespace Mine

theorem Tr.cast {w : World} {A : Around} {env : Env} {G : Cx} {e : Expr} {b b' : Bool} (h : Tr w A env G e b) (hb : b = b') : Tr w A env G e b' := hb ▸ h
theorem Ev.castI {w : World} {A : Around} {env : Env} {G : Cx} {e : Expr} {a b : Int} (h : Ev w A env G e (.int a)) (hb : a = b) : Ev w A env G e (.int b) := hb ▸ h

/-! a word between blanks -/
structure Wrd (wd : List Nat) : Prop where
  fst : ∃ c, wd[0]? = some c ∧ c ≠ 32
  lst : ∃ c, wd[wd.length - 1]? = some c ∧ c ≠ 32
  len : wd.length < 1000
theorem Wrd.pos {wd : List Nat} (h : Wrd wd) : 0 < wd.length := by
  obtain ⟨c, e, _⟩ := h.fst
  exact (List.getElem?_eq_some_iff.mp e).1

def ln (a b : Nat) (wd : List Nat) : List Nat := bl a ++ wd ++ bl b
theorem ln_len (a b : Nat) (wd : List Nat) : (ln a b wd).length = a + wd.length + b := by simp [ln, bl]; omega
theorem ln_left {a b i : Nat} {wd : List Nat} (h : i < a) : (ln a b wd)[i]? = some 32 := by
  unfold ln bl
  rw [List.getElem?_append_left (by simp; omega), List.getElem?_append_left (by simp; omega)]
  simp [h]
theorem ln_mid {a b i : Nat} {wd : List Nat} (h : i < wd.length) : (ln a b wd)[a + i]? = wd[i]? := by
  unfold ln bl
  rw [List.getElem?_append_left (by simp; omega), List.getElem?_append_right (by simp)]
  simp
theorem ln_right {a b j : Nat} {wd : List Nat} (h : j < b) : (ln a b wd)[a + wd.length + b - 1 - j]? = some 32 := by
  unfold ln bl
  rw [List.getElem?_append_right (by simp; omega)]
  have : a + wd.length + b - 1 - j - (List.replicate a 32 ++ wd).length = b - 1 - j := by simp; omega
  rw [this, List.getElem?_replicate, if_pos (by omega)]
theorem ln_cut {a b i j : Nat} {wd : List Nat} (hi : i ≤ a) (hj : j ≤ b) : ((ln a b wd).drop i).take (a + wd.length + b - j - i) = ln (a - i) (b - j) wd := by
  unfold ln bl
  rw [List.append_assoc, List.drop_append_of_le_length (by simp; exact hi), List.drop_replicate]
  rw [List.take_append, List.take_of_length_le (by simp; omega), List.take_append, List.take_of_length_le (by simp; omega)]
  simp only [List.length_replicate, List.take_replicate, List.append_assoc]
  congr 2
  congr 1
  omega

section
variable {w : World} {A : Around} {n : Nat}

theorem f_strip {a b k : Nat} {wd : List Nat} (hr : Room (n + 1) A) (hw : Wrd wd) (ha : a < 1000) (hb : b < 1000) :
    Cl w A (.ref 28) [.str (mkS (ln a b wd)), .int k] (.str (mkS (ln (a - min a k) (b - min b (k - min a k)) wd))) := by
  have hwl := hw.len
  have hwp := hw.pos
  have hl := ln_len a b wd
  refine Cl.fn ["s", "amount"] (i := 2) (by simp [fTab]) hr (fun vs nm pm c doc h => ?_) rfl (by decide) rfl rfl rfl rfl (fun s₀ nm pm c doc L => ?_)
  · match vs, h with
    | [u, v], _ => rfl
  refine Ex.cons (Ex1.assign Ev.cint rfl (List.Subset.refl _) rfl rfl) ?_
  refine Ex.castG (G' := [("lpos", .int ((0 : Nat) : Int)), ("s", .str (mkS (ln a b wd))), ("amount", .int ((k : Int) - ((0 : Nat) : Int)))]) (by simp) ?_
  refine Ex.cons (Ex1.while (fun i => [("lpos", .int (i : Int)), ("s", .str (mkS (ln a b wd))), ("amount", .int ((k : Int) - (i : Int)))]) (min a k) (fun i hi => ?_) (fun i hi => ?_) ?_) ?_
  · refine (Tr.and (TrA.cons (Tr.nameI (Ev.name rfl)) fun _ => TrA.cons (Tr.cmp (Ev.itemT (c := 32) (Ev.name rfl) (Ev.name rfl) (by omega) (by omega) ?_) Ev.csp Co.eqT) fun _ => TrA.nil)).cast ?_
    · rw [Int.toNat_natCast]; exact ln_left (by omega)
    · have : ¬ ((k : Int) - (i : Int) = 0) := by omega
      simp [this]
  · refine Exn.to (Exn.cons (Ex1.augAdd (G₁ := [("s", .str (mkS (ln a b wd))), ("amount", .int ((k : Int) - (i : Int)))]) ((i + 1 : Nat) : Int) (by omega) rfl Ev.cint rfl (by simp) rfl)
      (Exn.cons (Ex1.augSub (G₁ := [("lpos", .int ((i + 1 : Nat) : Int)), ("s", .str (mkS (ln a b wd)))]) ((k : Int) - ((i + 1 : Nat) : Int)) (by omega) rfl Ev.cint rfl (by simp) rfl) Exn.nil)) (by simp)
  · by_cases hk : k ≤ a
    · refine (Tr.and (TrA.cons (c := true) (Tr.nameI (Ev.name rfl)) fun h => absurd h ?_)).cast ?_
      · simp; omega
      · simp; omega
    · obtain ⟨c0, e0, n0⟩ := hw.fst
      refine (Tr.and (TrA.cons (Tr.nameI (Ev.name rfl)) fun _ => TrA.cons (Tr.cmp (Ev.itemT (c := c0) (Ev.name rfl) (Ev.name rfl) (by omega) (by omega) ?_) Ev.csp Co.eqT) fun _ => TrA.nil)).cast ?_
      · rw [Int.toNat_natCast, Nat.min_eq_left (by omega)]
        have := ln_mid (a := a) (b := b) (wd := wd) (i := 0) hwp
        rw [Nat.add_zero] at this
        rw [this, e0]
      · simp [n0]
  refine Ex.cons (Ex1.assign (G₁ := [("lpos", .int ((min a k : Nat) : Int)), ("s", .str (mkS (ln a b wd))), ("amount", .int ((k : Int) - ((min a k : Nat) : Int)))])
    ((Ev.bin (Ev.callB (Ev.built rfl rfl) (Evs.cons (Ev.name rfl) Evs.nil) (Cl.lenT (l := ln a b wd) (by omega))) Ev.cint Bo.subI)) rfl (List.Subset.refl _) rfl rfl) ?_
  generalize hm : min a k = m
  have hma : m ≤ a := by omega
  have hmk : m ≤ k := by omega
  refine Ex.castG (G' := [("rpos", .int (((a + wd.length + b : Nat) : Int) - 1 - ((0 : Nat) : Int))), ("lpos", .int (m : Int)), ("s", .str (mkS (ln a b wd))), ("amount", .int ((k : Int) - (m : Int) - ((0 : Nat) : Int)))]) (by rw [hl]; simp) ?_
  refine Ex.cons (Ex1.while (fun j => [("rpos", .int (((a + wd.length + b : Nat) : Int) - 1 - (j : Int))), ("lpos", .int (m : Int)), ("s", .str (mkS (ln a b wd))), ("amount", .int ((k : Int) - (m : Int) - (j : Int)))]) (min b (k - m)) (fun j hj => ?_) (fun j hj => ?_) ?_) ?_
  · refine (Tr.and (TrA.cons (Tr.nameI (Ev.name rfl)) fun _ => TrA.cons (Tr.cmp (Ev.itemT (c := 32) (Ev.name rfl) (Ev.name rfl) (by omega) (by omega) ?_) Ev.csp Co.eqT) fun _ => TrA.nil)).cast ?_
    · have e : (((a + wd.length + b : Nat) : Int) - 1 - (j : Int)).toNat = a + wd.length + b - 1 - j := by omega
      rw [e]; exact ln_right (by omega)
    · have : ¬ ((k : Int) - (m : Int) - (j : Int) = 0) := by omega
      simp [this]
  · refine Exn.to (Exn.cons (Ex1.augSub (G₁ := [("lpos", .int (m : Int)), ("s", .str (mkS (ln a b wd))), ("amount", .int ((k : Int) - (m : Int) - (j : Int)))]) (((a + wd.length + b : Nat) : Int) - 1 - ((j + 1 : Nat) : Int)) (by omega) rfl Ev.cint rfl (by simp) rfl)
      (Exn.cons (Ex1.augSub (G₁ := [("rpos", .int (((a + wd.length + b : Nat) : Int) - 1 - ((j + 1 : Nat) : Int))), ("lpos", .int (m : Int)), ("s", .str (mkS (ln a b wd)))]) ((k : Int) - (m : Int) - ((j + 1 : Nat) : Int)) (by omega) rfl Ev.cint rfl (by simp) rfl) Exn.nil)) (by simp)
  · by_cases hk : k - m ≤ b
    · refine (Tr.and (TrA.cons (c := true) (Tr.nameI (Ev.name rfl)) fun h => absurd h ?_)).cast ?_
      · simp; omega
      · simp; omega
    · obtain ⟨c0, e0, n0⟩ := hw.lst
      refine (Tr.and (TrA.cons (Tr.nameI (Ev.name rfl)) fun _ => TrA.cons (Tr.cmp (Ev.itemT (c := c0) (Ev.name rfl) (Ev.name rfl) (by omega) (by omega) ?_) Ev.csp Co.eqT) fun _ => TrA.nil)).cast ?_
      · have e : (((a + wd.length + b : Nat) : Int) - 1 - ((min b (k - m) : Nat) : Int)).toNat = a + (wd.length - 1) := by omega
        rw [e, ln_mid (by omega), e0]
      · simp [n0]
  refine Ex.ret ?_
  have hc := ln_cut (a := a) (b := b) (i := m) (j := min b (k - m)) (wd := wd) hma (Nat.min_le_left _ _)
  rw [← hc]
  exact Ev.cutT (a := m) (b := a + wd.length + b - min b (k - m)) (Ev.name rfl) (Ev.name rfl) (Ev.bin (Ev.name rfl) Ev.cint Bo.addI) rfl (by omega) (by omega) (by omega) (by omega)
end
end Mine
namespace Mine

theorem Wrd.rev {wd : List Nat} (h : Wrd wd) : Wrd wd.reverse := by
  have hp := h.pos
  obtain ⟨c, e, n⟩ := h.fst
  obtain ⟨c', e', n'⟩ := h.lst
  refine ⟨⟨c', ?_, n'⟩, ⟨c, ?_, n⟩, by rw [List.length_reverse]; exact h.len⟩
  · rw [List.getElem?_reverse hp]; simpa using e'
  · rw [List.length_reverse, List.getElem?_reverse (by omega)]
    have : wd.length - 1 - (wd.length - 1) = 0 := by omega
    rw [this]; exact e
theorem ln_rev (a b : Nat) (wd : List Nat) : (ln a b wd).reverse = ln b a wd.reverse := by
  unfold ln bl; simp
theorem ln_app (a b c : Nat) (wd : List Nat) : ln a b wd ++ bl c = ln a (b + c) wd := by
  unfold ln bl; rw [List.append_assoc, List.replicate_append_replicate]
theorem app_ln (a b c : Nat) (wd : List Nat) : bl c ++ ln a b wd = ln (c + a) b wd := by
  unfold ln bl; rw [← List.append_assoc, ← List.append_assoc, List.replicate_append_replicate]

/-- a push between two walls -/
def stp (room a : Nat) (p : Int) : Nat := (max 0 (min (room : Int) ((a : Int) + p))).toNat
theorem stp_le (room a : Nat) (p : Int) : stp room a p ≤ room := by unfold stp; omega

section
variable {w : World} {A : Around} {n : Nat}

theorem Cl.cast {f : Value} {ds : List D} {d d' : D} (h : Cl w A f ds d) (e : d = d') : Cl w A f ds d' := e ▸ h

theorem f_pushed {a room : Nat} {p : Int} {wd : List Nat} (hr : Room (n + 2) A) (hw : Wrd wd) (ha : a ≤ room) (hroom : room < 1000) (hp : -1000 < p) (hp' : p < 1000) :
    Cl w A (.ref 76) [.str (mkS (ln a (room - a) wd)), .int p, .int room] (.str (mkS (ln (stp room a p) (room - stp room a p) wd))) := by
  have hwl := hw.len
  refine Cl.fn ["line", "push", "room"] (i := 10) (by simp [fTab]) hr (fun vs nm pm c doc h => ?_) rfl (by decide) rfl rfl rfl rfl (fun s₀ nm pm c doc L => ?_)
  · match vs, h with
    | [u, v, t], _ => rfl
  have hr' := hr.deeper (fE 10 nm pm c doc L 76)
  by_cases hneg : p < 0
  · refine Ex.ifT ((Tr.cmp (Ev.name rfl) Ev.cint Co.ltI).cast (by simp [hneg])) (Ex.ret ?_)
    obtain ⟨k, hk⟩ : ∃ k : Nat, -p = k := ⟨(-p).toNat, by omega⟩
    have e : ln (stp room a p) (room - stp room a p) wd = ln (a - min a k) (room - a - min (room - a) (k - min a k)) wd ++ List.replicate (min (-p) (room : Int)).toNat 32 := by
      have := ln_app (a - min a k) (room - a - min (room - a) (k - min a k)) (min k room) wd
      rw [show (min (-p) (room : Int)).toNat = min k room by omega]
      refine Eq.trans ?_ this.symm
      have e1 : stp room a p = a - min a k := by unfold stp; omega
      rw [e1]
      congr 1
      omega
    rw [e]
    refine Ev.bin (Ev.callF (i := 2) (Ev.glob rfl rfl) (Evs.cons (Ev.name rfl) (Evs.cons ((Ev.neg (Ev.name rfl)).castI hk) Evs.nil)) (f_strip (a := a) (b := room - a) (k := k) hr' hw (by omega) (by omega)) (by simp [fTab])) 
      (Ev.bin Ev.csp (Ev.callB (Ev.built rfl rfl) (Evs.cons (Ev.neg (Ev.name rfl)) (Evs.cons (Ev.name rfl) Evs.nil)) (Cl.min2 hr')) (Bo.mulS (by omega) (by omega))) (Bo.addS ?_)
    rw [ln_len]; simp; omega
  · refine Ex.cons (Ex1.ifF ((Tr.cmp (Ev.name rfl) Ev.cint Co.ltI).cast (by simp; omega))) (Ex.ret ?_)
    obtain ⟨k, hk⟩ : ∃ k : Nat, p = k := ⟨p.toNat, by omega⟩
    have e : ln (stp room a p) (room - stp room a p) wd = List.replicate (min p (room : Int)).toNat 32 ++ (ln (room - a - min (room - a) k) (a - min a (k - min (room - a) k)) wd.reverse).reverse := by
      rw [ln_rev, List.reverse_reverse]
      rw [show (min p (room : Int)).toNat = min k room by omega]
      refine Eq.trans ?_ (app_ln _ _ _ _).symm
      have e1 : stp room a p = min k room + (a - min a (k - min (room - a) k)) := by unfold stp; omega
      rw [← e1]
      congr 1
      unfold stp; omega
    rw [e]
    refine Ev.bin (Ev.bin Ev.csp (Ev.callB (Ev.built rfl rfl) (Evs.cons (Ev.name rfl) (Evs.cons (Ev.name rfl) Evs.nil)) (Cl.min2 hr')) (Bo.mulS (by omega) (by omega)))
      (Ev.revT (Ev.callF (i := 2) (Ev.glob rfl rfl) (Evs.cons (Ev.revT (Ev.name rfl) (Ev.neg Ev.cint) (by rw [ln_len]; omega)) (Evs.cons ((Ev.name rfl).castI hk) Evs.nil))
        (by rw [ln_rev]; exact f_strip (a := room - a) (b := a) (k := k) hr' hw.rev (by omega) (by omega)) (by simp [fTab])) (Ev.neg Ev.cint) ?_) (Bo.addS ?_)
    · rw [ln_len, List.length_reverse]; omega
    · rw [List.length_reverse, ln_len, List.length_reverse, List.length_replicate]; omega

/-! the middle ones -/
theorem f_median_odd {l l' : List Int} {x : Int} (hr : Room (n + 1) A) (hp : l'.Perm l) (hs : l'.Pairwise (· ≤ ·)) (hz : l.length < 64) (ho : l.length % 2 = 1) (hx : l'[l.length / 2]? = some x) :
    Cl w A (.ref 48) [.il l] (.int x) := by
  have hl := hp.length_eq
  refine Cl.fn ["data"] (i := 5) (by simp [fTab]) hr (fun vs nm pm c doc h => ?_) rfl (by decide) rfl rfl rfl rfl (fun s₀ nm pm c doc L => ?_)
  · match vs, h with
    | [u], _ => rfl
  refine Ex.cons (Ex1.assign (G₁ := []) (Ev.callB (Ev.built rfl rfl) (Evs.cons (Ev.name rfl) Evs.nil) (Cl.sortI hp hs hz)) rfl (by simp) rfl rfl) ?_
  refine Ex.cons (Ex1.assign (Ev.callB (Ev.built rfl rfl) (Evs.cons (Ev.name rfl) Evs.nil) (Cl.lenI (l := l') (by omega))) rfl (List.Subset.refl _) rfl rfl) ?_
  refine Ex.cons (Ex1.ifF ((Tr.cmp (Ev.name rfl) Ev.cint Co.eqI).cast (decide_eq_false (by omega)))) ?_
  refine Ex.ifT ((Tr.cmp (Ev.bin (Ev.name rfl) Ev.cint (Bo.modI (by decide))) Ev.cint Co.eqI).cast (by simp; omega)) (Ex.ret ?_)
  refine Ev.itemL (Ev.name rfl) (Ev.bin (Ev.name rfl) Ev.cint (Bo.fdivI (by decide) (by omega) (by omega) (by decide))) (by omega) (by omega) ?_
  rw [← hx]; congr 1; omega

theorem f_median_even {l l' : List Int} {x y : Int} (hr : Room (n + 1) A) (hp : l'.Perm l) (hs : l'.Pairwise (· ≤ ·)) (hz : l.length < 64) (ho : l.length % 2 = 0) (h0 : 0 < l.length) (hx : l'[l.length / 2 - 1]? = some x) (hy : l'[l.length / 2]? = some y)
    (h1 : 0 ≤ x + y) (h2 : x + y < 64) : Cl w A (.ref 48) [.il l] (.flt (halfF (x + y))) := by
  have hl := hp.length_eq
  refine Cl.fn ["data"] (i := 5) (by simp [fTab]) hr (fun vs nm pm c doc h => ?_) rfl (by decide) rfl rfl rfl rfl (fun s₀ nm pm c doc L => ?_)
  · match vs, h with
    | [u], _ => rfl
  refine Ex.cons (Ex1.assign (G₁ := []) (Ev.callB (Ev.built rfl rfl) (Evs.cons (Ev.name rfl) Evs.nil) (Cl.sortI hp hs hz)) rfl (by simp) rfl rfl) ?_
  refine Ex.cons (Ex1.assign (Ev.callB (Ev.built rfl rfl) (Evs.cons (Ev.name rfl) Evs.nil) (Cl.lenI (l := l') (by omega))) rfl (List.Subset.refl _) rfl rfl) ?_
  refine Ex.cons (Ex1.ifF ((Tr.cmp (Ev.name rfl) Ev.cint Co.eqI).cast (decide_eq_false (by omega)))) ?_
  refine Ex.ifE ((Tr.cmp (Ev.bin (Ev.name rfl) Ev.cint (Bo.modI (by decide))) Ev.cint Co.eqI).cast (by simp; omega)) ?_
  refine Ex.cons (Ex1.assign (Ev.bin (Ev.name rfl) Ev.cint (Bo.fdivI (by decide) (by omega) (by omega) (by decide))) rfl (List.Subset.refl _) rfl rfl) (Ex.ret ?_)
  refine Ev.bin (Ev.bin (Ev.itemL (x := x) (Ev.name rfl) (Ev.bin (Ev.name rfl) Ev.cint Bo.subI) (by omega) (by omega) ?_) (Ev.itemL (x := y) (Ev.name rfl) (Ev.name rfl) (by omega) (by omega) ?_) Bo.addI) Ev.cint (Bo.half h1 h2)
  · rw [← hx]; congr 1; omega
  · rw [← hy]; congr 1; omega

theorem f_low {l l' : List Str} {x : Str} (hr : Room (n + 1) A) (hp : l'.Perm l) (hs : l'.Pairwise (fun a b => ¬ b.cps.toList < a.cps.toList)) (hz : l.length < 64) (h0 : 0 < l.length) (hx : l'[(l.length - 1) / 2]? = some x) :
    Cl w A (.ref 55) [.sl l] (.str x) := by
  have hl := hp.length_eq
  refine Cl.fn ["data"] (i := 6) (by simp [fTab]) hr (fun vs nm pm c doc h => ?_) rfl (by decide) rfl rfl rfl rfl (fun s₀ nm pm c doc L => ?_)
  · match vs, h with
    | [u], _ => rfl
  refine Ex.cons (Ex1.assign (G₁ := []) (Ev.callB (Ev.built rfl rfl) (Evs.cons (Ev.name rfl) Evs.nil) (Cl.sortS hp hs hz)) rfl (by simp) rfl rfl) ?_
  refine Ex.cons (Ex1.assign (Ev.callB (Ev.built rfl rfl) (Evs.cons (Ev.name rfl) Evs.nil) (Cl.lenS (l := l') (by omega))) rfl (List.Subset.refl _) rfl rfl) ?_
  refine Ex.cons (Ex1.ifF ((Tr.cmp (Ev.name rfl) Ev.cint Co.eqI).cast (decide_eq_false (by omega)))) ?_
  by_cases ho : l.length % 2 = 1
  · refine Ex.ifT ((Tr.cmp (Ev.bin (Ev.name rfl) Ev.cint (Bo.modI (by decide))) Ev.cint Co.eqI).cast (by simp; omega)) (Ex.ret ?_)
    refine Ev.itemS (Ev.name rfl) (Ev.bin (Ev.name rfl) Ev.cint (Bo.fdivI (by decide) (by omega) (by omega) (by decide))) (by omega) (by omega) ?_
    rw [← hx]; congr 1; omega
  · refine Ex.ifE ((Tr.cmp (Ev.bin (Ev.name rfl) Ev.cint (Bo.modI (by decide))) Ev.cint Co.eqI).cast (by simp; omega)) (Ex.ret ?_)
    refine Ev.itemS (Ev.name rfl) (Ev.bin (Ev.bin (Ev.name rfl) Ev.cint (Bo.fdivI (by decide) (by omega) (by omega) (by decide))) Ev.cint Bo.subI) (by omega) (by omega) ?_
    rw [← hx]; congr 1; omega

theorem f_high {l l' : List Str} {x : Str} (hr : Room (n + 1) A) (hp : l'.Perm l) (hs : l'.Pairwise (fun a b => ¬ b.cps.toList < a.cps.toList)) (hz : l.length < 64) (h0 : 0 < l.length) (hx : l'[l.length / 2]? = some x) :
    Cl w A (.ref 62) [.sl l] (.str x) := by
  have hl := hp.length_eq
  refine Cl.fn ["data"] (i := 7) (by simp [fTab]) hr (fun vs nm pm c doc h => ?_) rfl (by decide) rfl rfl rfl rfl (fun s₀ nm pm c doc L => ?_)
  · match vs, h with
    | [u], _ => rfl
  refine Ex.cons (Ex1.assign (G₁ := []) (Ev.callB (Ev.built rfl rfl) (Evs.cons (Ev.name rfl) Evs.nil) (Cl.sortS hp hs hz)) rfl (by simp) rfl rfl) ?_
  refine Ex.cons (Ex1.assign (Ev.callB (Ev.built rfl rfl) (Evs.cons (Ev.name rfl) Evs.nil) (Cl.lenS (l := l') (by omega))) rfl (List.Subset.refl _) rfl rfl) ?_
  refine Ex.cons (Ex1.ifF ((Tr.cmp (Ev.name rfl) Ev.cint Co.eqI).cast (decide_eq_false (by omega)))) (Ex.ret ?_)
  refine Ev.itemS (Ev.name rfl) (Ev.bin (Ev.name rfl) Ev.cint (Bo.fdivI (by decide) (by omega) (by omega) (by decide))) (by omega) (by omega) ?_
  rw [← hx]; congr 1; omega
end
end Mine
namespace Mine

def lmin : List Int → Int
  | [] => 0
  | x :: r => r.foldl min x
def lmax : List Int → Int
  | [] => 0
  | x :: r => r.foldl max x
theorem foldl_min (r : List Int) : ∀ x : Int, (r.foldl min x = x ∨ r.foldl min x ∈ r) ∧ r.foldl min x ≤ x ∧ ∀ a ∈ r, r.foldl min x ≤ a := by
  induction r with
  | nil => intro x; simp
  | cons y r ih =>
    intro x
    rw [List.foldl_cons]
    obtain ⟨h1, h2, h3⟩ := ih (min x y)
    refine ⟨?_, by omega, fun a ha => ?_⟩
    · rcases h1 with h1 | h1
      · rw [h1]
        rcases Int.le_total x y with h | h
        · left; omega
        · right; rw [Int.min_eq_right h]; simp
      · right; exact List.mem_cons_of_mem _ h1
    · rcases List.mem_cons.mp ha with rfl | ha
      · omega
      · exact h3 a ha
theorem foldl_max (r : List Int) : ∀ x : Int, (r.foldl max x = x ∨ r.foldl max x ∈ r) ∧ x ≤ r.foldl max x ∧ ∀ a ∈ r, a ≤ r.foldl max x := by
  induction r with
  | nil => intro x; simp
  | cons y r ih =>
    intro x
    rw [List.foldl_cons]
    obtain ⟨h1, h2, h3⟩ := ih (max x y)
    refine ⟨?_, by omega, fun a ha => ?_⟩
    · rcases h1 with h1 | h1
      · rw [h1]
        rcases Int.le_total x y with h | h
        · right; rw [Int.max_eq_right h]; simp
        · left; omega
      · right; exact List.mem_cons_of_mem _ h1
    · rcases List.mem_cons.mp ha with rfl | ha
      · omega
      · exact h3 a ha
theorem lmin_mem : ∀ {l : List Int}, l ≠ [] → lmin l ∈ l
  | x :: r, _ => by
    rcases (foldl_min r x).1 with h | h
    · show r.foldl min x ∈ _; rw [h]; simp
    · exact List.mem_cons_of_mem _ h
theorem lmin_le : ∀ {l : List Int}, ∀ a ∈ l, lmin l ≤ a
  | x :: r, a, h => by
    rcases List.mem_cons.mp h with rfl | h
    · exact (foldl_min r a).2.1
    · exact (foldl_min r x).2.2 a h
theorem lmax_mem : ∀ {l : List Int}, l ≠ [] → lmax l ∈ l
  | x :: r, _ => by
    rcases (foldl_max r x).1 with h | h
    · show r.foldl max x ∈ _; rw [h]; simp
    · exact List.mem_cons_of_mem _ h
theorem le_lmax : ∀ {l : List Int}, ∀ a ∈ l, a ≤ lmax l
  | x :: r, a, h => by
    rcases List.mem_cons.mp h with rfl | h
    · exact (foldl_max r a).2.1
    · exact (foldl_max r x).2.2 a h

def lowAt (t : List Int) (room : Int) (i : Int) : Int := lmin ([t.getD i.toNat 0] ++ (t.drop i.toNat).map fun x => room + x)
def lowF (t : List Int) (room : Int) : Int := lmax ((iota t.length).map (lowAt t room))
def highAt (t : List Int) (room : Int) (i : Int) : Int := lmax ([room + t.getD i.toNat 0] ++ t.drop i.toNat)
def highF (t : List Int) (room : Int) : Int := lmin ((iota t.length).map (highAt t room))

section
variable {w : World} {A : Around} {n : Nat}

theorem f_lower {t : List Int} {room : Int} (hr : Room (n + 1) A) (ht : t ≠ []) (hz : t.length < 1000) : Cl w A (.ref 81) [.il t, .int room] (.int (lowF t room)) := by
  refine Cl.fn ["tails", "room"] (i := 11) (by simp [fTab]) hr (fun vs nm pm c doc h => ?_) rfl (by decide) rfl rfl rfl rfl (fun s₀ nm pm c doc L => ?_)
  · match vs, h with
    | [u, v], _ => rfl
  have hr' := hr.deeper (fE 11 nm pm c doc L 81)
  have hne : (iota t.length).map (lowAt t room) ≠ [] := by
    intro h
    have := congrArg List.length h
    rw [List.length_map, iota_len] at this
    exact ht (List.eq_nil_of_length_eq_zero (by simpa using this))
  refine Ex.ret (Ev.callB (Ev.built rfl rfl) (Evs.cons (Ev.compII (xs := iota t.length) (lowAt t room) hr' (Src.rng t.length (by omega)) (by rw [iota_len]; omega) ⟨rfl, rfl, rfl, rfl, rfl⟩
    (Ev.callT (Ev.built rfl rfl) (Evs.cons (Ev.callB (Ev.built rfl rfl) (Evs.cons (Ev.name rfl) Evs.nil) (Cl.lenI (l := t) (by omega))) Evs.nil) Cl.range) fun i hi C => ?_) Evs.nil) (Cl.maxL hr' (lmax_mem hne) le_lmax))
  obtain ⟨h0, h1⟩ := mem_iota.mp hi
  have hlt : i.toNat < t.length := by omega
  have hg : t[i.toNat]? = some (t.getD i.toNat 0) := by simp [hlt]
  refine Ev.callB (Ev.built rfl rfl) (Evs.cons (Ev.bin (Ev.listI (xs := [t.getD i.toNat 0]) (Evs.cons (Ev.itemL (Ev.name rfl) (Ev.name rfl) h0 (by omega) hg) Evs.nil) rfl (by simp))
    (Ev.compII (xs := t.drop i.toNat) (fun x => room + x) hr' (Src.il _) (by rw [List.length_drop]; omega) ⟨rfl, rfl, rfl, rfl, rfl⟩ (Ev.fromL (Ev.name rfl) (Ev.name rfl) h0 (by omega)) fun x hx C' => ?_) (Bo.addL ?_)) Evs.nil) (Cl.minL hr' (lmin_mem ?_) lmin_le)
  · exact Ev.bin (Ev.name rfl) (Ev.name rfl) Bo.addI
  · simp; omega
  · simp

theorem f_upper {t : List Int} {room : Int} (hr : Room (n + 1) A) (ht : t ≠ []) (hz : t.length < 1000) : Cl w A (.ref 86) [.il t, .int room] (.int (highF t room)) := by
  refine Cl.fn ["tails", "room"] (i := 12) (by simp [fTab]) hr (fun vs nm pm c doc h => ?_) rfl (by decide) rfl rfl rfl rfl (fun s₀ nm pm c doc L => ?_)
  · match vs, h with
    | [u, v], _ => rfl
  have hr' := hr.deeper (fE 12 nm pm c doc L 86)
  have hne : (iota t.length).map (highAt t room) ≠ [] := by
    intro h
    have := congrArg List.length h
    rw [List.length_map, iota_len] at this
    exact ht (List.eq_nil_of_length_eq_zero (by simpa using this))
  refine Ex.ret (Ev.callB (Ev.built rfl rfl) (Evs.cons (Ev.compII (xs := iota t.length) (highAt t room) hr' (Src.rng t.length (by omega)) (by rw [iota_len]; omega) ⟨rfl, rfl, rfl, rfl, rfl⟩
    (Ev.callT (Ev.built rfl rfl) (Evs.cons (Ev.callB (Ev.built rfl rfl) (Evs.cons (Ev.name rfl) Evs.nil) (Cl.lenI (l := t) (by omega))) Evs.nil) Cl.range) fun i hi C => ?_) Evs.nil) (Cl.minL hr' (lmin_mem hne) lmin_le))
  obtain ⟨h0, h1⟩ := mem_iota.mp hi
  have hlt : i.toNat < t.length := by omega
  have hg : t[i.toNat]? = some (t.getD i.toNat 0) := by simp [hlt]
  refine Ev.callB (Ev.built rfl rfl) (Evs.cons (Ev.bin (Ev.listI (xs := [room + t.getD i.toNat 0]) (Evs.cons (Ev.bin (Ev.name rfl) (Ev.itemL (Ev.name rfl) (Ev.name rfl) h0 (by omega) hg) Bo.addI) Evs.nil) rfl (by simp))
    (Ev.fromL (Ev.name rfl) (Ev.name rfl) h0 (by omega)) (Bo.addL ?_)) Evs.nil) (Cl.maxL hr' (lmax_mem ?_) le_lmax)
  · simp; omega
  · simp
end
end Mine
namespace Mine

/-! plain mathematics: a walk between two walls -/
def tls : List Int → List Int
  | [] => [0]
  | p :: ps => (p + ps.sum) :: tls ps
theorem tls_len : ∀ ps : List Int, (tls ps).length = ps.length + 1
  | [] => rfl
  | p :: ps => by simp [tls, tls_len ps]
theorem tls_ne (ps : List Int) : tls ps ≠ [] := by cases ps <;> simp [tls]
theorem tls_head : ∀ ps : List Int, (tls ps)[0]? = some ps.sum
  | [] => by simp [tls]
  | p :: ps => by simp [tls]
theorem iota_succ (n : Nat) : iota (n + 1) = 0 :: (iota n).map (· + 1) := by
  unfold iota
  rw [List.range_succ_eq_map]
  simp
theorem tls_eq : ∀ ps : List Int, (iota (ps.length + 1)).map (fun i => (ps.drop i.toNat).sum) = tls ps
  | [] => by simp [iota, tls]
  | p :: ps => by
    rw [List.length_cons, iota_succ, List.map_cons, List.map_map]
    show (((p :: ps).drop 0).sum :: _) = (p + ps.sum) :: tls ps
    rw [← tls_eq ps]
    congr 1
    apply List.map_congr_left
    intro i hi
    have h := mem_iota.mp hi
    have e : (i + 1).toNat = i.toNat + 1 := by omega
    simp [Function.comp, e]

theorem lmin_cons {a : Int} {l : List Int} (h : l ≠ []) : lmin (a :: l) = min a (lmin l) := by
  have h1 := lmin_mem (l := a :: l) (by simp)
  have h2 := lmin_le (l := a :: l) a (by simp)
  have h3 := lmin_le (l := a :: l) (lmin l) (List.mem_cons_of_mem _ (lmin_mem h))
  rcases List.mem_cons.mp h1 with e | e
  · omega
  · have := lmin_le (l := l) _ e; omega
theorem lmax_cons {a : Int} {l : List Int} (h : l ≠ []) : lmax (a :: l) = max a (lmax l) := by
  have h1 := lmax_mem (l := a :: l) (by simp)
  have h2 := le_lmax (l := a :: l) a (by simp)
  have h3 := le_lmax (l := a :: l) (lmax l) (List.mem_cons_of_mem _ (lmax_mem h))
  rcases List.mem_cons.mp h1 with e | e
  · omega
  · have := le_lmax (l := l) _ e; omega
theorem lmin_add {R : Int} {l : List Int} (h : l ≠ []) : lmin (l.map fun x => R + x) = R + lmin l := by
  have hn : l.map (fun x => R + x) ≠ [] := by simpa using h
  obtain ⟨x, hx, e⟩ := List.mem_map.mp (lmin_mem hn)
  have h1 := lmin_le (l := l) x hx
  have h2 := lmin_le (l := l.map fun x => R + x) (R + lmin l) (List.mem_map.mpr ⟨_, lmin_mem h, rfl⟩)
  omega

theorem lowF_cons {t0 R : Int} {t : List Int} (h : t ≠ []) : lowF (t0 :: t) R = max (min t0 (R + lmin (t0 :: t))) (lowF t R) := by
  unfold lowF
  rw [List.length_cons, iota_succ, List.map_cons, List.map_map]
  have e : (iota t.length).map (lowAt (t0 :: t) R ∘ (· + 1)) = (iota t.length).map (lowAt t R) := by
    apply List.map_congr_left
    intro i hi
    have := mem_iota.mp hi
    have e : (i + 1).toNat = i.toNat + 1 := by omega
    simp [lowAt, e]
  rw [e, lmax_cons (by
    intro h'
    have := congrArg List.length h'
    rw [List.length_map, iota_len] at this
    exact h (List.eq_nil_of_length_eq_zero (by simpa using this)))]
  congr 1
  show lmin (t0 :: ((t0 :: t).map fun x => R + x)) = _
  rw [lmin_cons (by simp), lmin_add (by simp)]
theorem highF_cons {t0 R : Int} {t : List Int} (h : t ≠ []) : highF (t0 :: t) R = min (max (R + t0) (lmax (t0 :: t))) (highF t R) := by
  unfold highF
  rw [List.length_cons, iota_succ, List.map_cons, List.map_map]
  have e : (iota t.length).map (highAt (t0 :: t) R ∘ (· + 1)) = (iota t.length).map (highAt t R) := by
    apply List.map_congr_left
    intro i hi
    have := mem_iota.mp hi
    have e : (i + 1).toNat = i.toNat + 1 := by omega
    simp [highAt, e]
  rw [e, lmin_cons (by
    intro h'
    have := congrArg List.length h'
    rw [List.length_map, iota_len] at this
    exact h (List.eq_nil_of_length_eq_zero (by simpa using this)))]
  congr 1
  show lmax ((R + t0) :: (t0 :: t)) = _
  rw [lmax_cons (by simp)]

structure WI (R S lo hi mn mx : Int) : Prop where
  le : lo ≤ hi
  up : hi ≤ R + S ∨ lo = hi
  dn : S ≤ lo ∨ lo = hi
  mS : mn ≤ S
  Sm : S ≤ mx
  hm : R + mn ≤ hi
  lm : lo ≤ mx
  wide : hi - lo = max 0 (R - (mx - mn))
  z : 0 ≤ lo
  r : hi ≤ R
  n0 : mn ≤ 0
  x0 : 0 ≤ mx

theorem WI.step {R S lo hi mn mx p t0 lo2 hi2 mn2 mx2 : Int} (h : WI R S lo hi mn mx) (ht : t0 = p + S) (hmn : mn2 = min t0 mn) (hmx : mx2 = max t0 mx) (hlo : lo2 = max (min t0 (R + mn2)) lo) (hhi : hi2 = min (max (R + t0) mx2) hi) : WI R t0 lo2 hi2 mn2 mx2 := by
  obtain ⟨h1, h2, h3, h4, h5, h6, h7, h8, h9, h10, h11, h12⟩ := h
  subst hlo hhi hmn hmx
  constructor <;> omega
theorem WI.push {R S lo hi mn mx p t0 lo2 hi2 mn2 mx2 x : Int} (h : WI R S lo hi mn mx) (ht : t0 = p + S) (hmn : mn2 = min t0 mn) (hmx : mx2 = max t0 mx) (hlo : lo2 = max (min t0 (R + mn2)) lo) (hhi : hi2 = min (max (R + t0) mx2) hi)
    (hx : 0 ≤ x) (hxR : x ≤ R) : max lo (min hi (max 0 (min R (x + p)) + S)) = max lo2 (min hi2 (x + t0)) := by
  obtain ⟨h1, h2, h3, h4, h5, h6, h7, h8, h9, h10, h11, h12⟩ := h
  subst hlo hhi hmn hmx
  omega

theorem walk_inv (R : Nat) : ∀ ps : List Int, WI R ps.sum (lowF (tls ps) R) (highF (tls ps) R) (lmin (tls ps)) (lmax (tls ps))
  | [] => by
    have e1 : lowF (tls []) R = min 0 ((R : Int) + 0) := rfl
    have e2 : highF (tls []) R = max ((R : Int) + 0) 0 := rfl
    have e3 : lmin (tls []) = 0 := rfl
    have e4 : lmax (tls []) = 0 := rfl
    rw [e1, e2, e3, e4]
    constructor <;> simp <;> omega
  | p :: ps => by
    have ih := walk_inv R ps
    have hn := tls_ne ps
    have e : (p :: ps).sum = p + ps.sum := by simp
    rw [e]
    show WI R (p + ps.sum) (lowF ((p + ps.sum) :: tls ps) R) (highF ((p + ps.sum) :: tls ps) R) (lmin ((p + ps.sum) :: tls ps)) (lmax ((p + ps.sum) :: tls ps))
    exact ih.step rfl (lmin_cons hn) (lmax_cons hn) (lowF_cons hn) (highF_cons hn)

theorem walk_at (R : Nat) : ∀ (ps : List Int) (a : Nat), a ≤ R → ((ps.foldl (stp R) a : Nat) : Int) = max (lowF (tls ps) R) (min (highF (tls ps) R) ((a : Int) + ps.sum))
  | [], a, h => by
    have e1 : lowF (tls []) R = min 0 ((R : Int) + 0) := rfl
    have e2 : highF (tls []) R = max ((R : Int) + 0) 0 := rfl
    rw [e1, e2]
    simp; omega
  | p :: ps, a, h => by
    have ih := walk_inv R ps
    have hn := tls_ne ps
    rw [List.foldl_cons, walk_at R ps (stp R a p) (stp_le R a p)]
    have e : (p :: ps).sum = p + ps.sum := by simp
    rw [e]
    have es : ((stp R a p : Nat) : Int) = max 0 (min (R : Int) ((a : Int) + p)) := by unfold stp; omega
    rw [es]
    exact ih.push rfl (lmin_cons hn) (lmax_cons hn) (lowF_cons hn) (highF_cons hn) (by omega) (by omega)
theorem walk_le (R : Nat) : ∀ (ps : List Int) (a : Nat), a ≤ R → ps.foldl (stp R) a ≤ R
  | [], a, h => h
  | p :: ps, a, h => by rw [List.foldl_cons]; exact walk_le R ps _ (stp_le R a p)
end Mine
namespace Mine

/-! plain facts of the lines -/
theorem pre_lt (k : Nat) (x y : List Nat) : (bl k ++ x < bl k ++ y) ↔ x < y := by
  induction k with
  | zero => simp [bl]
  | succ k ih =>
    have e : ∀ z, bl (k + 1) ++ z = 32 :: (bl k ++ z) := fun z => by simp [bl, List.replicate_succ]
    rw [e, e, List.cons_lt_cons_iff]
    simp [ih]
theorem ln_split {p q R : Nat} {c : Nat} {wr : List Nat} (h : p < q) : ln q (R - q) (c :: wr) = bl p ++ 32 :: (bl (q - p - 1) ++ (c :: wr) ++ bl (R - q)) := by
  unfold ln
  have e : bl q = bl p ++ (32 :: bl (q - p - 1)) := by
    unfold bl
    rw [show q = p + ((q - p - 1) + 1) by omega, ← List.replicate_append_replicate, List.replicate_succ]
    congr 3
    omega
  rw [e]; simp
theorem ln_at (p R c : Nat) (wr : List Nat) : ln p (R - p) (c :: wr) = bl p ++ c :: (wr ++ bl (R - p)) := by
  unfold ln; simp

def sd (c : Nat) : Int := if 32 < c then 1 else -1
theorem sd_cases (c : Nat) : sd c = 1 ∨ sd c = -1 := by unfold sd; split <;> simp
theorem lt_lines {p q R c : Nat} {wr : List Nat} (h : p < q) : (ln p (R - p) (c :: wr) < ln q (R - q) (c :: wr)) ↔ (c < 32 ∨ (c = 32 ∧ wr ++ bl (R - p) < bl (q - p - 1) ++ (c :: wr) ++ bl (R - q))) := by
  rw [ln_split h, ln_at, pre_lt, List.cons_lt_cons_iff]
theorem gt_lines {p q R c : Nat} {wr : List Nat} (h : p < q) : (ln q (R - q) (c :: wr) < ln p (R - p) (c :: wr)) ↔ (32 < c ∨ (32 = c ∧ bl (q - p - 1) ++ (c :: wr) ++ bl (R - q) < wr ++ bl (R - p))) := by
  rw [ln_split h, ln_at, pre_lt, List.cons_lt_cons_iff]
theorem cmp_lt {p q R c : Nat} {wr : List Nat} (hc : c ≠ 32) (h : p < q) : cmpS (ln p (R - p) (c :: wr)) (ln q (R - q) (c :: wr)) = sd c := by
  unfold cmpS sd
  by_cases h1 : 32 < c
  · have a : ln q (R - q) (c :: wr) < ln p (R - p) (c :: wr) := (gt_lines h).mpr (.inl h1)
    have b : ¬ ln p (R - p) (c :: wr) < ln q (R - q) (c :: wr) := fun x => by
      rcases (lt_lines h).mp x with h2 | ⟨h2, _⟩ <;> omega
    simp [a, b, h1]
  · have a : ln p (R - p) (c :: wr) < ln q (R - q) (c :: wr) := (lt_lines h).mpr (.inl (by omega))
    have b : ¬ ln q (R - q) (c :: wr) < ln p (R - p) (c :: wr) := fun x => by
      rcases (gt_lines h).mp x with h2 | ⟨h2, _⟩ <;> omega
    simp [a, b, h1]
theorem lt_self (x : List Nat) : ¬ x < x := List.lt_irrefl x
theorem cmp_self (x : List Nat) : cmpS x x = 0 := by
  unfold cmpS
  simp [lt_self x]
theorem pre_bl {n : Nat} (wd : List Nat) (h : 0 < n) : wd < wd ++ bl n := by
  induction wd with
  | nil =>
    obtain ⟨k, rfl⟩ : ∃ k, n = k + 1 := ⟨n - 1, by omega⟩
    simp [bl, List.replicate_succ]
  | cons x r ih => rw [List.cons_append, List.cons_lt_cons_iff]; exact .inr ⟨rfl, ih⟩
theorem cmp_word {p R c : Nat} {wr : List Nat} (hc : c ≠ 32) (hR : 0 < R) : cmpS (c :: wr) (ln p (R - p) (c :: wr)) = if 0 < p then sd c else -1 := by
  by_cases hp : 0 < p
  · rw [if_pos hp]
    have e : ln p (R - p) (c :: wr) = 32 :: (bl (p - 1) ++ (c :: wr) ++ bl (R - p)) := by
      have := ln_split (p := 0) (q := p) (R := R) (c := c) (wr := wr) hp
      simpa [bl] using this
    rw [e]
    unfold cmpS sd
    by_cases h1 : 32 < c
    · have a : 32 :: (bl (p - 1) ++ (c :: wr) ++ bl (R - p)) < c :: wr := List.cons_lt_cons_iff.mpr (.inl h1)
      have b : ¬ c :: wr < 32 :: (bl (p - 1) ++ (c :: wr) ++ bl (R - p)) := fun h => by
        rcases List.cons_lt_cons_iff.mp h with h2 | ⟨h2, _⟩ <;> omega
      rw [decide_eq_true a, decide_eq_false b, if_pos h1]; rfl
    · have a : c :: wr < 32 :: (bl (p - 1) ++ (c :: wr) ++ bl (R - p)) := List.cons_lt_cons_iff.mpr (.inl (by omega))
      have b : ¬ 32 :: (bl (p - 1) ++ (c :: wr) ++ bl (R - p)) < c :: wr := fun h => by
        rcases List.cons_lt_cons_iff.mp h with h2 | ⟨h2, _⟩ <;> omega
      rw [decide_eq_true a, decide_eq_false b, if_neg h1]; rfl
  · have : p = 0 := by omega
    subst this
    rw [if_neg (by omega)]
    have e : ln 0 (R - 0) (c :: wr) = (c :: wr) ++ bl R := by simp [ln, bl]
    rw [e]
    unfold cmpS
    have a := pre_bl (c :: wr) hR
    have b : ¬ (c :: wr) ++ bl R < c :: wr := fun h => lt_self _ (List.lt_trans a h)
    rw [decide_eq_false b, decide_eq_true a]; rfl

/-- how many blanks a line opens with -/
def unl (x : Str) : Nat := (x.cps.toList.takeWhile (· == 32)).length
theorem unl_ln {a b : Nat} {wd : List Nat} (h : Wrd wd) : unl (mkS (ln a b wd)) = a := by
  unfold unl
  rw [mkS_cps]
  obtain ⟨c, e, n⟩ := h.fst
  cases wd with
  | nil => simp at e
  | cons x r =>
    simp at e
    subst e
    unfold ln bl
    rw [List.append_assoc, List.takeWhile_append_of_pos (by simp)]
    simp [n]

/-! the walk's places -/
section
variable {R : Nat} {ps : List Int}
def at' (R : Nat) (ps : List Int) (a : Nat) : Nat := ps.foldl (stp R) a
theorem at_eq {a : Nat} (h : a ≤ R) : ((at' R ps a : Nat) : Int) = max (lowF (tls ps) R) (min (highF (tls ps) R) ((a : Int) + ps.sum)) := walk_at R ps a h
theorem at_le {a : Nat} (h : a ≤ R) : at' R ps a ≤ R := walk_le R ps a h
theorem at_step {a : Nat} (h : a + 1 ≤ R) : at' R ps (a + 1) = at' R ps a ∨ at' R ps (a + 1) = at' R ps a + 1 := by
  have h1 := at_eq (ps := ps) (a := a) (R := R) (by omega)
  have h2 := at_eq (ps := ps) (a := a + 1) (R := R) h
  have hi := (walk_inv R ps).le
  omega
theorem at_mono : ∀ {a b : Nat}, a ≤ b → b ≤ R → at' R ps a ≤ at' R ps b
  | a, b, h, hb => by
    have h1 := at_eq (ps := ps) (a := a) (R := R) (by omega)
    have h2 := at_eq (ps := ps) (a := b) (R := R) hb
    omega
theorem at_wide : ((at' R ps R : Nat) : Int) - (at' R ps 0 : Nat) = max 0 ((R : Int) - (lmax (tls ps) - lmin (tls ps))) := by
  have w := walk_inv R ps
  have h1 := at_eq (ps := ps) (a := 0) (R := R) (by omega)
  have h2 := at_eq (ps := ps) (a := R) (R := R) (by omega)
  obtain ⟨w1, w2, w3, w4, w5, w6, w7, w8, w9, w10, w11, w12⟩ := w
  omega

theorem count_steps (f : Nat → Nat) (s : Int) (hs : s ≠ 0) : ∀ n : Nat, (∀ a, a < n → f (a + 1) = f a ∨ f (a + 1) = f a + 1) →
    ((((iota n).map fun a => if f a.toNat < f (a.toNat + 1) then s else 0).count s : Nat) : Int) = (f n : Int) - f 0 ∧
    ((((iota n).map fun a => if f a.toNat < f (a.toNat + 1) then s else 0).count 0 : Nat) : Int) = (n : Int) - ((f n : Int) - f 0)
  | 0, _ => by simp [iota]
  | n + 1, h => by
    obtain ⟨h1, h2⟩ := count_steps f s hs n fun a ha => h a (by omega)
    have e : iota (n + 1) = iota n ++ [(n : Int)] := by unfold iota; rw [List.range_succ, List.map_append]; rfl
    rw [e, List.map_append, List.count_append, List.count_append]
    have hn := h n (by omega)
    have ne : ¬ (0 : Int) = s := fun h => hs h.symm
    rcases hn with hn | hn
    · have : ¬ f n < f (n + 1) := by omega
      simp only [List.map_cons, List.map_nil, Int.toNat_natCast, this, if_false]
      rw [List.count_singleton, List.count_singleton]
      simp [hs, ne]
      omega
    · have : f n < f (n + 1) := by omega
      simp only [List.map_cons, List.map_nil, Int.toNat_natCast, this, if_true]
      rw [List.count_singleton, List.count_singleton]
      simp [hs, ne]
      omega
end

theorem sort3 {lo y hi : Int} (h : lo ≤ hi) : ∃ l' : List Int, l'.Perm [lo, y, hi] ∧ l'.Pairwise (· ≤ ·) ∧ l'[1]? = some (max lo (min hi y)) := by
  by_cases h1 : y ≤ lo
  · refine ⟨[y, lo, hi], List.Perm.swap _ _ _, by simp; omega, ?_⟩
    simp; omega
  · by_cases h2 : y ≤ hi
    · refine ⟨[lo, y, hi], List.Perm.refl _, by simp; omega, ?_⟩
      simp; omega
    · refine ⟨[lo, hi, y], (List.Perm.swap _ _ _).cons _, by simp; omega, ?_⟩
      simp; omega
end Mine
namespace Mine

section
variable {w : World} {A : Around} {env : Env} {s₀ : Bs} {G G₁ : Cx} {n : Nat} {elt iter : Expr} {x y : Str} {px py pos spos : Pos} {scope : Scope}

/-- a comprehension stored in a name of the frame's own, on one row -/
theorem Ex1.compG {dsrc : D} {items : List D} {g : D → D} (hr : Room n A) (S : Src dsrc items) (hz : items.length < 1000000) (O : ScOk scope env x) (hi : Ev w A env G iter dsrc)
    (helt : ∀ d ∈ items, ∀ C, Ev w A (cE scope env C) ((x, d) :: cG scope env G) elt (g d)) (hg : ∀ d ∈ items, Pl (g d)) (out : D)
    (hout : ∀ h D ys, h.PlainList D (List.toArray ys) → DenAll h (items.map g) ys → Den out (.ref D) h)
    (hsw : swapsWith (.ListComp elt [⟨.Name x px, iter, [], 0⟩] scope pos) (some (.Name y py)) spos.line env = pure true) (hy : env.kindOf y = some .local)
    (hG : G₁ ⊆ G) (hyG : (G₁.all fun q => q.1 != y) = true) (hs : ∀ x, foldedSetIterable iter env x = pure x) :
    Ex1 w A env s₀ G (.Assign [.Name y py] (.ListComp elt [⟨.Name x px, iter, [], 0⟩] scope pos) spos) ((y, out) :: G₁) := by
  intro s E F
  have nm := F.nms
  have hne : ∀ q ∈ G₁, q.1 ≠ y := fun q hq => by simpa using List.all_eq_true.mp hyG q hq
  have hclos : closureFor scope env = pure (clo env scope.names []) := closureFor_eq fun y hy hf => by
    have := List.all_eq_true.mp O.free y hy
    rw [hf] at this
    simpa using this
  refine wpAny_Assign_ListComp_free (fun _ => true) (fun v y => ∃ d, dec v = some d ∧ Imm (g d) y) hsw hclos (fun y hy => by simpa using List.all_eq_true.mp O.cell y hy) O.kind
    (fun y hy hl => by have := List.all_eq_true.mp O.names y hy; rw [hl] at this; simpa using this) O.hx hy (by rw [F.good.k]; rfl) (wpAny_mono (hi s E nm) (fun xv s₁ q₁ => wpAny_mono (src_iter hr S q₁.1) (fun it s₂ q₂ => ?_) fun _ _ e => e) fun _ _ e => e) hs
  obtain ⟨I, fp, wr, P, St, rfl, W, hst, hfp, hP, hwr, hk₂⟩ := q₂
  have hold : ∀ s₃ : Shared, (∀ b o, b ∉ wr → s₂.heap.get? b = some o → s₃.heap.get? b = some o) → Kp s₁.heap s₃.heap := fun s₃ h b o e => h b o (hwr b (Heap.lt_size e)) (ks_heap hk₂ b o e)
  have F1 := F.keep q₁.2
  obtain ⟨m, cm, X, hm⟩ := F1.st
  have hLw : env.locals ∉ wr := hwr _ X.toInCall.ns.lt
  refine ⟨I, fp, wr, items.length, P, St, m, rfl, W, by rw [sizeLine_eq]; omega, hst, hfp, hLw, X.toInCall.ns.keeps (ks_heap hk₂), ⟨?_, ?_⟩, ?_⟩
  · intro C i v s₃ m₃ E' _ hPv hn hm hk _
    exact wpAny_pure ⟨rfl, ks_refl s₃⟩
  · intro C i v s₃ m₃ E' _ hPv _ hn hm hk _
    obtain ⟨d, hd, him⟩ := hP i v hPv
    have hmem : d ∈ items := List.mem_of_getElem? hd
    have nm1 := nm.keep q₁.2
    have nm3 : Nms env G s₃ := ⟨nm1.good, nm1.wd.keep (hold s₃ hk), fun q hq => let ⟨v, a, b⟩ := nm1.nm q hq; ⟨v, a.keep (hold s₃ hk), b.keep (hold s₃ hk)⟩⟩
    refine wpAny_mono (helt d hmem C s₃ E' (nms_comp nm3 O.kind O.hx hn hm (him _))) (fun y s₄ q₄ => ⟨⟨d, imm_dec (S.pl d hmem) him, imm_of_den (hg d hmem) q₄.1⟩, q₄.2⟩) fun _ _ e => e
  · intro D h' tk ys vs hnew hlD hplD hlen hPv hF hns hk
    have hF' : Paired (fun v y => ∃ d, dec v = some d ∧ Imm (g d) y) vs ys.toList := by rw [List.filter_eq_self.mpr (fun _ _ => rfl)] at hF; exact hF
    have hb1 : ∀ b o, b ≠ env.locals → s₁.heap.get? b = some o → h'.get? b = some o := fun b o hb e => hk b o hb (hwr b (Heap.lt_size e)) (ks_heap hk₂ b o e)
    have hx1 : Heap.ExtBut env.locals s₁.heap h' := fun b o hb e => hb1 b o hb e
    obtain ⟨h2, t2, e2, k2⟩ := hk₂
    subst e2
    refine ⟨rfl, F.good, F.wd, s₀.J.b _ _ _ F1.j (plainly_ns X.toInCall.ns) hx1, fun z => if z = y then some (.ref D) else m z, cm, ⟨⟨?_, hns, fun b o e => ?_, X.toInCall.fresh⟩, fun k c hc => ?_, X.apart, X.above⟩, fun q hq => ?_⟩
    · obtain ⟨h₁, tk₁, e₁⟩ := X.toInCall.same
      subst e₁
      exact ⟨h', tk, rfl⟩
    · exact hb1 b o (Nat.ne_of_lt (Nat.lt_of_lt_of_le (Heap.lt_size e) X.toInCall.fresh)) (X.toInCall.keep b o e)
    · obtain ⟨oc, hoc, hd⟩ := X.cell k c hc
      exact ⟨oc, hb1 c oc (Nat.ne_of_gt (X.above k c (mem_of_lookup hc))) hoc, hd⟩
    · rcases List.mem_cons.mp hq with rfl | hq
      · refine ⟨.ref D, .inl ⟨hy, by simp⟩, hout h' D ys.toList (by rw [Array.toArray_toList]; exact hplD) (paired_out S.pl vs ys.toList hlen (fun j v hj => hP j v (hPv j v hj)) hF' h')⟩
      · obtain ⟨u, hu, hdu⟩ := hm q (hG hq)
        refine ⟨u, ?_, hdu.but (plainly_ns X.toInCall.ns) hx1⟩
        rcases hu with ⟨a, b⟩ | hu
        · exact .inl ⟨a, (if_neg (hne q hq)).trans b⟩
        · exact .inr hu

theorem Ex1.compII {dsrc : D} {xs : List Int} (f : Int → Int) (hr : Room n A) (S : Src dsrc (xs.map .int)) (hz : xs.length < 1000000) (O : ScOk scope env x) (hi : Ev w A env G iter dsrc)
    (helt : ∀ a ∈ xs, ∀ C, Ev w A (cE scope env C) ((x, .int a) :: cG scope env G) elt (.int (f a)))
    (hsw : swapsWith (.ListComp elt [⟨.Name x px, iter, [], 0⟩] scope pos) (some (.Name y py)) spos.line env = pure true) (hy : env.kindOf y = some .local)
    (hG : G₁ ⊆ G) (hyG : (G₁.all fun q => q.1 != y) = true) (hs : ∀ x, foldedSetIterable iter env x = pure x := by intro _; rfl) :
    Ex1 w A env s₀ G (.Assign [.Name y py] (.ListComp elt [⟨.Name x px, iter, [], 0⟩] scope pos) spos) ((y, .ql (xs.map f)) :: G₁) := by
  refine Ex1.compG (g := liftI .int f) hr S (by simpa using hz) O hi (fun d hd C => ?_) (fun d hd => ?_) _ (fun h D ys hp hd => ?_) hsw hy hG hyG hs
  · obtain ⟨a, ha, rfl⟩ := List.mem_map.mp hd; exact helt a ha C
  · obtain ⟨a, ha, rfl⟩ := List.mem_map.mp hd; trivial
  · refine ⟨D, ys, rfl, hp, den_ints (h := h) ?_⟩
    rw [List.map_map] at hd ⊢
    exact hd
theorem Ex1.compSI {dsrc : D} {xs : List Str} (f : Str → Int) (hr : Room n A) (S : Src dsrc (xs.map .str)) (hz : xs.length < 1000000) (O : ScOk scope env x) (hi : Ev w A env G iter dsrc)
    (helt : ∀ a ∈ xs, ∀ C, Ev w A (cE scope env C) ((x, .str a) :: cG scope env G) elt (.int (f a)))
    (hsw : swapsWith (.ListComp elt [⟨.Name x px, iter, [], 0⟩] scope pos) (some (.Name y py)) spos.line env = pure true) (hy : env.kindOf y = some .local)
    (hG : G₁ ⊆ G) (hyG : (G₁.all fun q => q.1 != y) = true) (hs : ∀ x, foldedSetIterable iter env x = pure x := by intro _; rfl) :
    Ex1 w A env s₀ G (.Assign [.Name y py] (.ListComp elt [⟨.Name x px, iter, [], 0⟩] scope pos) spos) ((y, .ql (xs.map f)) :: G₁) := by
  refine Ex1.compG (g := liftS .int f) hr S (by simpa using hz) O hi (fun d hd C => ?_) (fun d hd => ?_) _ (fun h D ys hp hd => ?_) hsw hy hG hyG hs
  · obtain ⟨a, ha, rfl⟩ := List.mem_map.mp hd; exact helt a ha C
  · obtain ⟨a, ha, rfl⟩ := List.mem_map.mp hd; trivial
  · refine ⟨D, ys, rfl, hp, den_ints (h := h) ?_⟩
    rw [List.map_map] at hd ⊢
    exact hd
end
end Mine
namespace Mine

theorem Den.iter {d : D} {v : Value} {h h' : Heap} {I : Addr} {o : Obj} (x : Den d v h) (ho : h.get? I = some o) (hc : o.cls = .type "list_iterator") (k : Heap.ExtBut I h h') : Den d v h' := by
  have ne1 : (Value.type "list_iterator") ≠ (Value.type "list") := by decide +kernel
  have ne2 : (Value.type "list_iterator") ≠ (Value.type "range") := by decide +kernel
  cases d with
  | il l =>
    obtain ⟨b, vs, e, ⟨o', ho', hc', n, hd⟩, hi⟩ := x
    have hne : b ≠ I := by rintro rfl; rw [ho] at ho'; cases ho'; rw [hc] at hc'; exact ne1 hc'
    exact ⟨b, vs, e, ⟨o', k b _ hne ho', hc', n, hd⟩, hi⟩
  | sl l =>
    obtain ⟨b, vs, e, ⟨o', ho', hc', n, hd⟩, hi⟩ := x
    have hne : b ≠ I := by rintro rfl; rw [ho] at ho'; cases ho'; rw [hc] at hc'; exact ne1 hc'
    exact ⟨b, vs, e, ⟨o', k b _ hne ho', hc', n, hd⟩, hi⟩
  | ql l =>
    obtain ⟨b, vs, e, ⟨n, ho'⟩, hi⟩ := x
    have hne : b ≠ I := by rintro rfl; rw [ho] at ho'; cases ho'; exact ne1 hc.symm
    exact ⟨b, vs, e, ⟨n, k b _ hne ho'⟩, hi⟩
  | rng n =>
    obtain ⟨b, t₁, t₂, t₃, e, hr⟩ := x
    have hne : b ≠ I := by
      rintro rfl
      have hr' : h.get? b = _ := hr
      rw [ho] at hr'; cases hr'; exact ne2 hc.symm
    exact ⟨b, t₁, t₂, t₃, e, k b _ hne hr⟩
  | _ => exact x

theorem Fs.iter {b : Bs} {env : Env} {G : Cx} {s : Shared} {I : Addr} {o : Obj} {fs : Array Value} {h' : Heap} (F : Fs b env G s) (ho : s.heap.get? I = some o) (hc : o.cls = .type "list_iterator") (hd : o.data = .fields fs)
    (hnew : b.s.heap.get? I = none) (hk : Heap.ExtBut I s.heap h') (J : Stb) (hJ : J.p h') : Fs ⟨b.s, J⟩ env G { s with heap := h' } := by
  obtain ⟨m, cm, X, hG⟩ := F.st
  have hL : env.locals ≠ I := by
    intro e
    obtain ⟨o', es, ep, ho', hd', _⟩ := X.toInCall.ns
    rw [e, ho] at ho'; cases ho'; rw [hd] at hd'; cases hd'
  refine ⟨F.good, F.wd, hJ, m, cm, ⟨⟨?_, X.toInCall.ns.extBut hk hL, fun b' o' e => ?_, X.toInCall.fresh⟩, fun k c hc' => ?_, X.apart, X.above⟩, fun q hq => ?_⟩
  · obtain ⟨h₁, tk, e⟩ := X.toInCall.same
    subst e
    exact ⟨h', tk, rfl⟩
  · exact hk b' o' (by rintro rfl; rw [hnew] at e; cases e) (X.toInCall.keep b' o' e)
  · obtain ⟨oc, hoc, hdc⟩ := X.cell k c hc'
    refine ⟨oc, hk c oc ?_ hoc, hdc⟩
    rintro rfl
    rw [ho] at hoc; cases hoc; rw [hd] at hdc; cases hdc
  · obtain ⟨v, hv, hdv⟩ := hG q hq
    exact ⟨v, hv, hdv.iter ho hc hk⟩

def JI (I l : Addr) (its : Array Value) (i : Nat) : Stb where
  p := fun h => h.IsListIter I l i ∧ h.IsList l its
  k := fun h h' x k => ⟨let ⟨o, ho, r⟩ := x.1; ⟨o, k _ _ ho, r⟩, let ⟨o, ho, r⟩ := x.2; ⟨o, k _ _ ho, r⟩⟩
  b := fun h h' a x p k => by
    obtain ⟨⟨o, ho, hc, hd⟩, ⟨o', ho', hc', n, hd'⟩⟩ := x
    refine ⟨⟨o, k _ _ ?_ ho, hc, hd⟩, ⟨o', k _ _ ?_ ho', hc', n, hd'⟩⟩
    · rintro rfl; exact (p o ho).2 _ hd
    · rintro rfl; exact (p o' ho').1 _ _ hd'

section
variable {w : World} {A : Around} {env : Env} {G G₁ : Cx} {n : Nat} {iter : Expr} {x : Str} {px pos : Pos} {body : List Stmt}

theorem Ex1.forI {s₀ : Shared} {xs : List Int} (hr : Room n A) (hi : Ev w A env G iter (.il xs)) (Gi : Nat → Cx) (h0 : Gi 0 ⊆ G) (hk : stK env x = true) (hx : ∀ i, ((Gi i).all fun q => q.1 != x) = true)
    (step : ∀ (b : Bs) i a, xs[i]? = some a → Exn w A env b ((x, .int a) :: Gi i) body (Gi (i + 1))) (hs : ∀ x, foldedSetIterable iter env x = pure x := by intro _; rfl) :
    Ex1 w A env ⟨s₀, J0⟩ G (.For (.Name x px) iter body [] pos) (Gi xs.length) := by
  intro s E F
  rw [exec_For]
  refine wpAny_bind (wpAny_standAt (wpAny_bind (wpAny_mono (hi s E F.nms) (fun v s₁ q₁ => ?_) fun _ _ e => e)))
  refine wpAny_bind (wpAny_of_eq (hs v) (wpAny_bind (wpAny_standAt ?_)))
  obtain ⟨⟨l, vs, rfl, hl, hvs⟩, k₁⟩ := q₁
  have F1 := F.keep k₁
  refine wpAny_bind (wpAny_holding (wpAny_pyIter_list hl ?_))
  have hnew : s₀.heap.get? s₁.heap.objs.size = none := by
    cases e : s₀.heap.get? s₁.heap.objs.size with
    | none => rfl
    | some o => exact absurd (Heap.lt_size (ks_heap F1.done _ _ e)) (Nat.lt_irrefl _)
  have F2 : Fs ⟨s₀, JI s₁.heap.objs.size l vs.toArray 0⟩ env (Gi 0) { s₁ with heap := s₁.heap.push { cls := .type "list_iterator", data := .fields #[.ref l, .int 0 0] } } := by
    have F3 := (F1.sub h0).keep (s' := { s₁ with heap := s₁.heap.push { cls := .type "list_iterator", data := .fields #[.ref l, .int 0 0] } }) ⟨_, s₁.toks, rfl, Kp.push _ _⟩
    exact ⟨F3.good, F3.wd, ⟨⟨_, Heap.get?_push_size _ rfl, rfl, rfl⟩, hl.push _⟩, F3.st⟩
  generalize s₁.heap.objs.size = I at *
  refine wpAny_runOwn (codeAny_forLoop (fun k s' => ∃ i, i ≤ xs.length ∧ k = xs.length + 1 - i ∧ Fs ⟨s₀, JI I l vs.toArray i⟩ env (Gi i) s') ?_ (xs.length + 1) ⟨0, Nat.zero_le _, rfl, F2⟩)
  rintro k s' ⟨i, hile, rfl, F'⟩
  obtain ⟨hit, hl'⟩ := F'.j
  obtain ⟨o, ho, hc, hd⟩ := id hit
  by_cases hlt : i < xs.length
  · have hgx : xs[i]? = some xs[i] := by simp [hlt]
    obtain ⟨t, hgv⟩ := intsAre_get hvs hgx
    refine wpAny_pyNext_list_item hit hl' (by simpa using hgv) fun h' hit' hsb => ?_
    have hl2 : h'.IsList l vs.toArray := by
      obtain ⟨o', ho', hc', n', hd'⟩ := hl'
      exact ⟨o', (hsb.2 l (by rintro rfl; rw [ho] at ho'; cases ho'; rw [hd] at hd'; cases hd')).trans ho', hc', n', hd'⟩
    have F3 := F'.iter ho hc hd hnew hsb.extBut (JI I l vs.toArray (i + 1)) ⟨hit', hl2⟩
    refine wpAny_assign_Name (F3.store (d := .int xs[i]) ⟨t, rfl⟩ hk (hx i) fun s4 F4 => ?_)
    refine wpAny_mono (step ⟨s₀, JI I l vs.toArray (i + 1)⟩ i xs[i] hgx s4 _ F4) (fun f s5 q => ?_) fun _ _ e => e
    obtain ⟨rfl, F5⟩ := q
    exact ⟨xs.length + 1 - (i + 1), by omega, i + 1, by omega, rfl, F5⟩
  · have e : i = xs.length := by omega
    subst e
    refine wpAny_pyNext_list_end hr.handled hit hl' (by simp [(IntsAre.length hvs)]) fun h' hk' => ?_
    refine wpAny_execs_nil ⟨rfl, ?_⟩
    exact F'.iter ho hc hd hnew hk' J0 trivial
end
end Mine
namespace Mine

def wTab : List Str := [Str.ofString "x", Str.ofString "\t", Str.ofString "a b", Str.ofString "\u00a0"]
theorem word_ok (k : Nat) (h : k < 4) : ∃ c wr, Wrd (c :: wr) ∧ c ≠ 32 ∧ (∀ x ∈ c :: wr, x < 0x110000) ∧ wTab[k]? = some (mkS (c :: wr)) := by
  have h0 : Str.ofString "x" = mkS [120] := by decide +kernel
  have h1 : Str.ofString "\t" = mkS [9] := by decide +kernel
  have h2 : Str.ofString "a b" = mkS [97, 32, 98] := by decide +kernel
  have h3 : Str.ofString "\u00a0" = mkS [160] := by decide +kernel
  match k, h with
  | 0, _ => exact ⟨120, [], ⟨⟨120, rfl, by decide⟩, ⟨120, rfl, by decide⟩, by decide⟩, by decide, by decide, by rw [← h0]; rfl⟩
  | 1, _ => exact ⟨9, [], ⟨⟨9, rfl, by decide⟩, ⟨9, rfl, by decide⟩, by decide⟩, by decide, by decide, by rw [← h1]; rfl⟩
  | 2, _ => exact ⟨97, [32, 98], ⟨⟨97, rfl, by decide⟩, ⟨98, rfl, by decide⟩, by decide⟩, by decide, by decide, by rw [← h2]; rfl⟩
  | 3, _ => exact ⟨160, [], ⟨⟨160, rfl, by decide⟩, ⟨160, rfl, by decide⟩, by decide⟩, by decide, by decide, by rw [← h3]; rfl⟩

/-- the line with p blanks ahead -/
def Ln (R : Nat) (wd : List Nat) (p : Nat) : Str := mkS (ln p (R - p) wd)
def Lns (R : Nat) (wd : List Nat) (ps : List Int) : List Str := (iota (R + 1)).map fun a => Ln R wd (at' R ps a.toNat)

section
variable {w : World} {A : Around} {n : Nat}

theorem law_head {s₀ : Shared} {nm : Str} {pm doc : Value} {c L f : Nat} (hr : Room (n + 4) A) {ns : List Int} (hlen : ns.length ≤ 63)
    (rest : ∀ (R : Nat) (cc : Nat) (wr : List Nat) (ps : List Int), 2 ≤ R → R ≤ 10 → Wrd (cc :: wr) → cc ≠ 32 → (∀ x ∈ cc :: wr, x < 0x110000) → ps.length ≤ 9 → (∀ p ∈ ps, -3 ≤ p ∧ p ≤ 3) →
      Ex w A (fE 13 nm pm c doc L f) ⟨s₀, J0⟩ [("lines", .sl (Lns R (cc :: wr) [])), ("pushes", .il ps), ("word", .str (mkS (cc :: wr))), ("room", .int R)] ((bodyAt 13).drop 4) (.bool true)) :
    Ex w A (fE 13 nm pm c doc L f) ⟨s₀, J0⟩ [("script", .il ns)] (bodyAt 13) (.bool true) := by
  obtain ⟨R, hR, h2, h10⟩ : ∃ R : Nat, 2 + (ns.sum + 3) % 9 = (R : Int) ∧ 2 ≤ R ∧ R ≤ 10 := ⟨(2 + (ns.sum + 3) % 9).toNat, by omega, by omega, by omega⟩
  obtain ⟨cc, wr, hw, hc, hok, hg⟩ := word_ok (ns.length % 4) (by omega)
  refine Ex.cons (Ex1.assign ((Ev.bin Ev.cint (Ev.bin (Ev.bin (Ev.callB (Ev.built rfl rfl) (Evs.cons (Ev.name rfl) Evs.nil) (Cl.sum hr)) Ev.cint Bo.addI) Ev.cint (Bo.modI (by decide))) Bo.addI).castI hR) rfl (List.Subset.refl _) rfl rfl) ?_
  refine Ex.cons (Ex1.assign (d₁ := .str (mkS (cc :: wr))) (Ev.itemS (l := wTab) (k := ((ns.length % 4 : Nat) : Int)) (Ev.listS (Evs.cons Ev.cstr (Evs.cons Ev.cstr (Evs.cons Ev.cstr (Evs.cons Ev.cstr Evs.nil)))) rfl (by decide))
    ((Ev.bin (Ev.callB (Ev.built rfl rfl) (Evs.cons (Ev.name rfl) Evs.nil) (Cl.lenI (l := ns) (by omega))) Ev.cint (Bo.modI (by decide))).castI (by omega)) (by omega) (by omega) (by rw [Int.toNat_natCast]; exact hg)) rfl (List.Subset.refl _) rfl rfl) ?_
  refine Ex.cons (Ex1.assign (d₁ := .il ([2, -3, 1] ++ (ns.take 6).map fun x => x % 7 - 3)) (Ev.bin (Ev.listI (xs := [2, -3, 1]) (Evs.cons Ev.cint (Evs.cons (Ev.neg Ev.cint) (Evs.cons Ev.cint Evs.nil))) rfl (by decide))
    (Ev.compII (xs := ns.take 6) (fun x => x % 7 - 3) hr (Src.il _) (by rw [List.length_take]; omega) ⟨rfl, rfl, rfl, rfl, rfl⟩ (Ev.uptoL (Ev.name rfl) Ev.cint (by decide) (by omega)) fun a ha C => 
      Ev.bin (Ev.bin (Ev.name rfl) Ev.cint (Bo.modI (by decide))) Ev.cint Bo.subI) (Bo.addL (by simp; omega))) rfl (List.Subset.refl _) rfl rfl) ?_
  refine Ex.of (G' := [("pushes", .il ([2, -3, 1] ++ (ns.take 6).map fun x => x % 7 - 3)), ("word", .str (mkS (cc :: wr))), ("room", .int R)]) ?_ (by simp)
  have hpl : ([2, -3, 1] ++ (ns.take 6).map fun x => x % 7 - 3 : List Int).length ≤ 9 := by simp; omega
  have hpb : ∀ p ∈ ([2, -3, 1] ++ (ns.take 6).map fun x => x % 7 - 3 : List Int), -3 ≤ p ∧ p ≤ 3 := by
    intro p hp
    rcases List.mem_append.mp hp with h | h
    · simp at h; omega
    · obtain ⟨a, _, rfl⟩ := List.mem_map.mp h; omega
  generalize ([2, -3, 1] ++ (ns.take 6).map fun x => x % 7 - 3 : List Int) = ps at hpl hpb ⊢
  refine Ex.cons (Ex1.assign (d₁ := .sl (Lns R (cc :: wr) [])) (Ev.compIS (xs := iota (R + 1)) (fun a => Ln R (cc :: wr) (at' R [] a.toNat)) hr (Src.rng (R + 1) (by omega)) (by rw [iota_len]; omega) ⟨rfl, rfl, rfl, rfl, rfl⟩
    (Ev.callT (Ev.built rfl rfl) (Evs.cons ((Ev.bin (Ev.name rfl) Ev.cint Bo.addI).castI (by omega)) Evs.nil) Cl.range) fun a ha C => ?_) rfl (List.Subset.refl _) rfl rfl) (rest R cc wr ps h2 h10 hw hc hok hpl hpb)
  obtain ⟨a0, a1⟩ := mem_iota.mp ha
  obtain ⟨k, rfl⟩ : ∃ k : Nat, a = k := ⟨a.toNat, by omega⟩
  exact Ev.callF (i := 9) (Ev.glob rfl rfl) (Evs.cons (Ev.name rfl) (Evs.cons (Ev.name rfl) (Evs.cons (Ev.name rfl) Evs.nil))) (f_line (n := n + 3) hr (by omega) (by omega) hw.len) (by simp [fTab])
end
end Mine
namespace Mine
section
variable {w : World} {A : Around} {n : Nat}

def Plc (R : Nat) (ps : List Int) : List Int := (iota (R + 1)).map fun a => ((at' R ps a.toNat : Nat) : Int)
def stpS (R : Nat) (wd : List Nat) (p : Int) (x : Str) : Str := Ln R wd (stp R (unl x) p)

theorem at_nil (R a : Nat) : at' R [] a = a := rfl
theorem at_snoc (R : Nat) (ps : List Int) (p : Int) (a : Nat) : at' R (ps ++ [p]) a = stp R (at' R ps a) p := by unfold at'; rw [List.foldl_append]; rfl
theorem take_snoc {ps : List Int} {i : Nat} {p : Int} (h : ps[i]? = some p) : ps.take (i + 1) = ps.take i ++ [p] := by
  rw [List.take_add_one, h]; rfl

theorem law_loop {s₀ : Shared} {nm : Str} {pm doc : Value} {c L f : Nat} (hr : Room (n + 4) A) {R cc : Nat} {wr : List Nat} {ps : List Int} (h2 : 2 ≤ R) (h10 : R ≤ 10) (hw : Wrd (cc :: wr)) (hpl : ps.length ≤ 9) (hpb : ∀ p ∈ ps, -3 ≤ p ∧ p ≤ 3)
    (rest : Ex w A (fE 13 nm pm c doc L f) ⟨s₀, J0⟩ [("places", .ql (Plc R ps)), ("tails", .il (tls ps)), ("lines", .sl (Lns R (cc :: wr) ps)), ("word", .str (mkS (cc :: wr))), ("room", .int R)] ((bodyAt 13).drop 9) (.bool true)) :
    Ex w A (fE 13 nm pm c doc L f) ⟨s₀, J0⟩ [("lines", .sl (Lns R (cc :: wr) [])), ("pushes", .il ps), ("word", .str (mkS (cc :: wr))), ("room", .int R)] ((bodyAt 13).drop 4) (.bool true) := by
  refine Ex.cons (Ex1.forI hr (Ev.name rfl) (fun i => [("lines", .sl (Lns R (cc :: wr) (ps.take i))), ("pushes", .il ps), ("word", .str (mkS (cc :: wr))), ("room", .int R)]) (by simp) rfl (fun i => rfl) (fun b i p hp => ?_)) ?_
  · have hp3 := hpb p (List.mem_of_getElem? hp)
    have e : Lns R (cc :: wr) (ps.take (i + 1)) = (Lns R (cc :: wr) (ps.take i)).map (stpS R (cc :: wr) p) := by
      unfold Lns
      rw [List.map_map]
      apply List.map_congr_left
      intro a ha
      show Ln R (cc :: wr) _ = Ln R (cc :: wr) (stp R (unl (mkS (ln _ _ _))) p)
      rw [unl_ln hw, take_snoc hp, at_snoc]
    rw [e]
    refine Exn.to (Exn.cons (Ex1.assign (G₁ := [("pushes", .il ps), ("word", .str (mkS (cc :: wr))), ("room", .int R)]) (Ev.compSS (xs := Lns R (cc :: wr) (ps.take i)) (stpS R (cc :: wr) p) hr (Src.sl _) (by unfold Lns; rw [List.length_map, iota_len]; omega) ⟨rfl, rfl, rfl, rfl, rfl⟩ (Ev.name rfl) fun x hx C => ?_) rfl (by simp) rfl rfl) Exn.nil) (by simp)
    obtain ⟨a, ha, rfl⟩ := List.mem_map.mp hx
    obtain ⟨a0, a1⟩ := mem_iota.mp ha
    have hle : at' R (ps.take i) a.toNat ≤ R := at_le (by omega)
    have e2 : stpS R (cc :: wr) p (Ln R (cc :: wr) (at' R (ps.take i) a.toNat)) = Ln R (cc :: wr) (stp R (at' R (ps.take i) a.toNat) p) := by
      unfold stpS
      show Ln R (cc :: wr) (stp R (unl (mkS (ln _ _ _))) p) = _
      rw [unl_ln hw]
    rw [e2]
    exact Ev.callF (i := 10) (Ev.glob rfl rfl) (Evs.cons (Ev.name rfl) (Evs.cons (Ev.name rfl) (Evs.cons (Ev.name rfl) Evs.nil))) (f_pushed (n := n + 2) hr hw hle (by omega) (by omega) (by omega)) (by simp [fTab])
  rw [List.take_of_length_le (Nat.le_refl _)]
  refine Ex.cons (Ex1.assign (d₁ := .il (tls ps)) (by
    rw [← tls_eq ps]
    exact Ev.compII (xs := iota (ps.length + 1)) (fun i => (ps.drop i.toNat).sum) hr (Src.rng (ps.length + 1) (by omega)) (by rw [iota_len]; omega) ⟨rfl, rfl, rfl, rfl, rfl⟩
      (Ev.callT (Ev.built rfl rfl) (Evs.cons ((Ev.bin (Ev.callB (Ev.built rfl rfl) (Evs.cons (Ev.name rfl) Evs.nil) (Cl.lenI (l := ps) (by omega))) Ev.cint Bo.addI).castI (by omega)) Evs.nil) Cl.range) fun a ha C =>
        Ev.callB (Ev.built rfl rfl) (Evs.cons (Ev.fromL (Ev.name rfl) (Ev.name rfl) (mem_iota.mp ha).1 (by omega)) Evs.nil) (Cl.sum hr)) rfl (List.Subset.refl _) rfl rfl) ?_
  have htl := tls_len ps
  refine Ex.cons (Ex1.assign (Ev.callF (i := 11) (Ev.glob rfl rfl) (Evs.cons (Ev.name rfl) (Evs.cons (Ev.name rfl) Evs.nil)) (f_lower (n := n + 3) hr (tls_ne ps) (by omega)) (by simp [fTab])) rfl (List.Subset.refl _) rfl rfl) ?_
  refine Ex.cons (Ex1.assign (Ev.callF (i := 12) (Ev.glob rfl rfl) (Evs.cons (Ev.name rfl) (Evs.cons (Ev.name rfl) Evs.nil)) (f_upper (n := n + 3) hr (tls_ne ps) (by omega)) (by simp [fTab])) rfl (List.Subset.refl _) rfl rfl) ?_
  refine Ex.cons (Ex1.compII (xs := iota (R + 1)) (fun a => ((at' R ps a.toNat : Nat) : Int)) hr (Src.rng (R + 1) (by omega)) (by rw [iota_len]; omega) ⟨rfl, rfl, rfl, rfl, rfl⟩
    (Ev.callT (Ev.built rfl rfl) (Evs.cons ((Ev.bin (Ev.name rfl) Ev.cint Bo.addI).castI (by omega)) Evs.nil) Cl.range) (fun a ha C => ?_) rfl rfl (List.Subset.refl _) rfl) (Ex.of rest (by unfold Plc; simp))
  obtain ⟨a0, a1⟩ := mem_iota.mp ha
  have e := at_eq (R := R) (ps := ps) (a := a.toNat) (by omega)
  rw [Int.toNat_of_nonneg a0] at e
  obtain ⟨l', p1, p2, p3⟩ := sort3 (lo := lowF (tls ps) R) (y := a + ps.sum) (hi := highF (tls ps) R) (walk_inv R ps).le
  rw [e]
  exact Ev.callF (i := 5) (Ev.glob rfl rfl) (Evs.cons (Ev.listI (xs := [lowF (tls ps) R, a + ps.sum, highF (tls ps) R]) (Evs.cons (Ev.name rfl) (Evs.cons (Ev.bin (Ev.name rfl) (Ev.itemL (Ev.name rfl) Ev.cint (by decide) (by decide) (tls_head ps)) Bo.addI) (Evs.cons (Ev.name rfl) Evs.nil))) rfl (by simp)) Evs.nil)
    (f_median_odd (n := n + 3) hr p1 p2 (by simp) (by simp) (by simpa using p3)) (by simp [fTab])
end
end Mine
namespace Mine

theorem iota_lt (n : Nat) : (iota n).Pairwise (· < ·) := by
  unfold iota
  rw [List.pairwise_map]
  exact List.pairwise_lt_range.imp fun h => by omega
theorem map_iota_pairwise {α : Type} {r : α → α → Prop} {n : Nat} {g : Int → α} (h : ∀ a b : Nat, a < b → b < n → r (g a) (g b)) : ((iota n).map g).Pairwise r := by
  rw [List.pairwise_map]
  refine (iota_lt n).imp_of_mem ?_
  intro a b ha hb hab
  obtain ⟨a0, a1⟩ := mem_iota.mp ha
  obtain ⟨b0, b1⟩ := mem_iota.mp hb
  have := h a.toNat b.toNat (by omega) (by omega)
  rwa [Int.toNat_of_nonneg a0, Int.toNat_of_nonneg b0] at this

section
variable {R cc : Nat} {wr : List Nat} {ps : List Int}
theorem Lns_len : (Lns R (cc :: wr) ps).length = R + 1 := by unfold Lns; rw [List.length_map, iota_len]
theorem Plc_len : (Plc R ps).length = R + 1 := by unfold Plc; rw [List.length_map, iota_len]
theorem Lns_get {k : Nat} (h : k ≤ R) : (Lns R (cc :: wr) ps)[k]? = some (Ln R (cc :: wr) (at' R ps k)) := by
  unfold Lns
  rw [List.getElem?_map, iota_get (by omega)]
  simp
theorem Plc_get {k : Nat} (h : k ≤ R) : (Plc R ps)[k]? = some ((at' R ps k : Nat) : Int) := by
  unfold Plc
  rw [List.getElem?_map, iota_get (by omega)]
  simp
theorem Plc_rise : (Plc R ps).Pairwise (· ≤ ·) := by
  refine map_iota_pairwise fun a b hab hb => ?_
  simp only [Int.toNat_natCast]
  have := at_mono (R := R) (ps := ps) (a := a) (b := b) (by omega) (by omega)
  omega
def rsg (R cc : Nat) (wr : List Nat) (ps : List Int) : List Str := if 32 < cc then (Lns R (cc :: wr) ps).reverse else Lns R (cc :: wr) ps
theorem rsg_len : (rsg R cc wr ps).length = R + 1 := by unfold rsg; split <;> simp [Lns_len]
theorem rsg_perm : (rsg R cc wr ps).Perm (Lns R (cc :: wr) ps) := by
  unfold rsg; split
  · exact List.reverse_perm _
  · exact List.Perm.refl _
theorem rsg_rise (hc : cc ≠ 32) : (rsg R cc wr ps).Pairwise (fun a b => ¬ b.cps.toList < a.cps.toList) := by
  unfold rsg
  split
  · rename_i h
    rw [List.pairwise_reverse]
    refine map_iota_pairwise fun a b hab hb => ?_
    simp only [Int.toNat_natCast, Ln, mkS_cps]
    have hm := at_mono (R := R) (ps := ps) (a := a) (b := b) (by omega) (by omega)
    rcases Nat.lt_or_ge (at' R ps a) (at' R ps b) with h1 | h1
    · intro x
      rcases (lt_lines h1).mp x with h2 | ⟨h2, _⟩ <;> omega
    · have e : at' R ps a = at' R ps b := by omega
      rw [e]; exact lt_self _
  · rename_i h
    refine map_iota_pairwise fun a b hab hb => ?_
    simp only [Int.toNat_natCast, Ln, mkS_cps]
    have hm := at_mono (R := R) (ps := ps) (a := a) (b := b) (by omega) (by omega)
    rcases Nat.lt_or_ge (at' R ps a) (at' R ps b) with h1 | h1
    · intro x
      rcases (gt_lines h1).mp x with h2 | ⟨h2, _⟩ <;> omega
    · have e : at' R ps a = at' R ps b := by omega
      rw [e]; exact lt_self _

theorem strOk_mk {l : List Nat} (h : ∀ x ∈ l, x < 0x110000) : PyData.strOk (mkS l) = true := by
  unfold PyData.strOk mkS
  simp only [List.all_toArray, List.all_eq_true, decide_eq_true_eq]
  exact h
theorem strOk_ln {a b : Nat} {wd : List Nat} (h : ∀ x ∈ wd, x < 0x110000) : PyData.strOk (mkS (ln a b wd)) = true := by
  refine strOk_mk fun x hx => ?_
  unfold ln bl at hx
  rcases List.mem_append.mp hx with hx | hx
  · rcases List.mem_append.mp hx with hx | hx
    · rw [List.eq_of_mem_replicate hx]; decide
    · exact h x hx
  · rw [List.eq_of_mem_replicate hx]; decide
theorem Lns_ok (h : ∀ x ∈ cc :: wr, x < 0x110000) : ∀ x ∈ Lns R (cc :: wr) ps, PyData.strOk x = true := by
  intro x hx
  obtain ⟨a, _, rfl⟩ := List.mem_map.mp hx
  exact strOk_ln h
theorem Plc_lines : (Plc R ps).map (fun a => Ln R (cc :: wr) a.toNat) = Lns R (cc :: wr) ps := by
  unfold Plc Lns
  rw [List.map_map]
  apply List.map_congr_left
  intro a ha
  simp
def sgn (R cc : Nat) (ps : List Int) (a : Int) : Int := if at' R ps a.toNat < at' R ps (a.toNat + 1) then sd cc else 0
def hdS (cc : Nat) (x : Str) : Int := if 0 < unl x then sd cc else -1
theorem heads_eq (hw : Wrd (cc :: wr)) : (Lns R (cc :: wr) ps).map (hdS cc) = (Plc R ps).map (fun a => if 0 < a then sd cc else -1) := by
  unfold Plc Lns
  rw [List.map_map, List.map_map]
  apply List.map_congr_left
  intro a ha
  show hdS cc (mkS (ln _ _ _)) = _
  unfold hdS
  rw [unl_ln hw]
  simp
theorem sgn_count : ((((iota R).map (sgn R cc ps)).count (sd cc) : Nat) : Int) = max 0 ((R : Int) - (lmax (tls ps) - lmin (tls ps))) ∧ ((((iota R).map (sgn R cc ps)).count 0 : Nat) : Int) = (R : Int) - max 0 ((R : Int) - (lmax (tls ps) - lmin (tls ps))) := by
  have h := count_steps (at' R ps) (sd cc) (by rcases sd_cases cc with h | h <;> omega) R fun a ha => at_step (by omega)
  rw [at_wide] at h
  exact h
end
end Mine
namespace Mine
section
variable {w : World} {A : Around} {n : Nat}

theorem Bo.mul2 {b : Int} : Bo w A .Mult (.int 2) (.int b) (.int (2 * b)) := by
  rintro s E v₁ v₂ - ⟨t, rfl⟩ ⟨u, rfl⟩
  exact PyProof.Rows.mul_int ⟨⟨_, rfl⟩, ks_tok s _⟩ (IntMulOk.of_left (by decide +kernel))
theorem Ev.castB {env : Env} {G : Cx} {e : Expr} {a b : Bool} (h : Ev w A env G e (.bool a)) (hb : a = b) : Ev w A env G e (.bool b) := hb ▸ h
theorem Ev.castS {env : Env} {G : Cx} {e : Expr} {a b : List Str} (h : Ev w A env G e (.sl a)) (hb : a = b) : Ev w A env G e (.sl b) := hb ▸ h
theorem Ev.castT {env : Env} {G : Cx} {e : Expr} {a b : Str} (h : Ev w A env G e (.str a)) (hb : a = b) : Ev w A env G e (.str b) := hb ▸ h

abbrev GA (R cc : Nat) (wr : List Nat) (ps : List Int) : Cx := [("places", .ql (Plc R ps)), ("tails", .il (tls ps)), ("lines", .sl (Lns R (cc :: wr) ps)), ("word", .str (mkS (cc :: wr))), ("room", .int R)]
abbrev GB (R cc : Nat) (wr : List Nat) (ps : List Int) : Cx := ("side", .int (sd cc)) :: ("rest", .int ((R - R / 2 : Nat) : Int)) :: ("half", .int ((R / 2 : Nat) : Int)) :: GA R cc wr ps

theorem law_mid {s₀ : Shared} {nm : Str} {pm doc : Value} {c L f : Nat} (hr : Room (n + 4) A) {R cc : Nat} {wr : List Nat} {ps : List Int} (h2 : 2 ≤ R) (h10 : R ≤ 10) (hw : Wrd (cc :: wr)) (hc : cc ≠ 32) (hok : ∀ x ∈ cc :: wr, x < 0x110000)
    (rest : Ex w A (fE 13 nm pm c doc L f) ⟨s₀, J0⟩ (GB R cc wr ps) ((bodyAt 13).drop 17) (.bool true)) :
    Ex w A (fE 13 nm pm c doc L f) ⟨s₀, J0⟩ (GA R cc wr ps) ((bodyAt 13).drop 9) (.bool true) := by
  have hll : (Lns R (cc :: wr) ps).length = R + 1 := Lns_len
  have hrl : (rsg R cc wr ps).length = R + 1 := rsg_len
  obtain ⟨xl, hxl⟩ : ∃ x, (rsg R cc wr ps)[R / 2]? = some x := ⟨_, List.getElem?_eq_getElem (by omega)⟩
  obtain ⟨xh, hxh⟩ : ∃ x, (rsg R cc wr ps)[R - R / 2]? = some x := ⟨_, List.getElem?_eq_getElem (by omega)⟩
  refine Ex.cons (Ex1.assign (Ev.listS (xs := [xl, xh]) (Evs.cons (Ev.callF (i := 6) (Ev.glob rfl rfl) (Evs.cons (Ev.name rfl) Evs.nil) (f_low (n := n + 3) (x := xl) hr rsg_perm (rsg_rise hc) (by omega) (by omega) (by rw [hll, ← hxl]; congr 1)) (by simp [fTab]))
    (Evs.cons (Ev.callF (i := 7) (Ev.glob rfl rfl) (Evs.cons (Ev.name rfl) Evs.nil) (f_high (n := n + 3) (x := xh) hr rsg_perm (rsg_rise hc) (by omega) (by omega) (by rw [hll, ← hxh]; congr 1; omega)) (by simp [fTab])) Evs.nil)) rfl (by simp)) rfl (List.Subset.refl _) rfl rfl) ?_
  -- the lines are those of the places
  refine Ex.cons (Ex1.ifF ((Tr.cmp (Ev.name rfl) ((Ev.compIS (xs := Plc R ps) (fun a => Ln R (cc :: wr) a.toNat) hr (Src.il _) (by rw [Plc_len]; omega) ⟨rfl, rfl, rfl, rfl, rfl⟩ (Ev.nameQ (Ev.name rfl)) (fun a ha C => ?_)).castS Plc_lines) (Co.neS hr (Lns_ok hok) (Lns_ok hok))).cast (by simp))) ?_
  · obtain ⟨k, hk, rfl⟩ := List.mem_map.mp ha
    obtain ⟨k0, k1⟩ := mem_iota.mp hk
    have hle : at' R ps k.toNat ≤ R := at_le (by omega)
    exact Ev.callF (i := 9) (Ev.glob rfl rfl) (Evs.cons (Ev.name rfl) (Evs.cons (Ev.name rfl) (Evs.cons (Ev.name rfl) Evs.nil))) (f_line (n := n + 3) hr hle (by omega) hw.len) (by simp [fTab])
  -- one blank more than the field has
  refine Ex.cons (Ex1.ifF ((Tr.cmp (Ev.compSS (xs := Lns R (cc :: wr) ps) (fun _ => mkS (cc :: wr)) hr (Src.sl _) (by omega) ⟨rfl, rfl, rfl, rfl, rfl⟩ (Ev.name rfl) (fun x hx C => ?_))
    (Ev.bin (Ev.listS (xs := [mkS (cc :: wr)]) (Evs.cons (Ev.name rfl) Evs.nil) rfl (by simp)) (Ev.bin (Ev.name rfl) Ev.cint Bo.addI) (Bo.mulL (by omega) (by omega))) (Co.neS hr ?_ ?_)).cast ?_)) ?_
  · obtain ⟨k, hk, rfl⟩ := List.mem_map.mp hx
    obtain ⟨k0, k1⟩ := mem_iota.mp hk
    have hle : at' R ps k.toNat ≤ R := at_le (by omega)
    refine Ev.callF (i := 2) (Ev.glob rfl rfl) (Evs.cons (Ev.name rfl) (Evs.cons ((Ev.bin (Ev.name rfl) Ev.cint Bo.addI).castI (b := ((R + 1 : Nat) : Int)) (by omega)) Evs.nil)) (Cl.cast (f_strip (n := n + 3) (a := at' R ps k.toNat) (b := R - at' R ps k.toNat) (k := R + 1) hr hw (by omega) (by omega)) ?_) (by simp [fTab])
    have e1 : at' R ps k.toNat - min (at' R ps k.toNat) (R + 1) = 0 := by omega
    have e2 : R - at' R ps k.toNat - min (R - at' R ps k.toNat) (R + 1 - min (at' R ps k.toNat) (R + 1)) = 0 := by omega
    rw [e1, e2]
    simp [ln, bl]
  · intro x hx
    obtain ⟨_, _, rfl⟩ := List.mem_map.mp hx
    exact strOk_mk hok
  · intro x hx
    rw [List.eq_of_mem_replicate hx]
    exact strOk_mk hok
  · have e : ((R : Int) + 1).toNat = R + 1 := by omega
    rw [e, List.map_const', hll]; simp
  refine Ex.cons (Ex1.assign ((Ev.bin (Ev.name rfl) Ev.cint (Bo.fdivI (by decide) (by omega) (by omega) (by decide))).castI (b := ((R / 2 : Nat) : Int)) (by omega)) rfl (List.Subset.refl _) rfl rfl) ?_
  refine Ex.cons (Ex1.assign ((Ev.bin (Ev.name rfl) (Ev.name rfl) Bo.subI).castI (b := ((R - R / 2 : Nat) : Int)) (by omega)) rfl (List.Subset.refl _) rfl rfl) ?_
  refine Ex.cons (Ex1.assign (d₁ := .int (sd cc)) (Ev.ite ((Tr.cmp (Ev.name rfl) Ev.csp Co.gtS).cast (b' := decide (32 < cc)) ?_) (fun h => ?_) (fun h => ?_)) rfl (List.Subset.refl _) rfl rfl) ?_
  · rw [decide_eq_decide, List.cons_lt_cons_iff]
    constructor
    · rintro (h | ⟨h, _⟩) <;> omega
    · exact .inl
  · have : sd cc = 1 := by unfold sd; rw [if_pos (of_decide_eq_true h)]
    rw [this]; exact Ev.cint
  · have : sd cc = -1 := by unfold sd; rw [if_neg (of_decide_eq_false h)]
    rw [this]; exact Ev.neg Ev.cint
  refine Ex.cons (Ex1.assign (d₁ := .sl (rsg R cc wr ps)) (Ev.ite (Tr.cmp (Ev.name rfl) Ev.cint Co.eqI) (fun h => ?_) (fun h => ?_)) rfl (List.Subset.refl _) rfl rfl) ?_
  · have h1 : 32 < cc := by
      have := of_decide_eq_true h
      unfold sd at this
      split at this
      · assumption
      · omega
    refine (Ev.revS (Ev.name rfl) (Ev.neg Ev.cint) (by omega)).castS ?_
    unfold rsg; rw [if_pos h1]
  · have h1 : ¬ 32 < cc := by
      have := of_decide_eq_false h
      unfold sd at this
      split at this
      · exact absurd rfl this
      · assumption
    refine Ev.castS (Ev.name rfl) ?_
    unfold rsg; rw [if_neg h1]
  refine Ex.cons (Ex1.ifF ((Tr.cmp (Ev.name rfl) (Ev.listS (xs := [xl, xh]) (Evs.cons (Ev.itemS (Ev.name rfl) (Ev.name rfl) (by omega) (by omega) (by rw [Int.toNat_natCast]; exact hxl)) (Evs.cons (Ev.itemS (Ev.name rfl) (Ev.name rfl) (by omega) (by omega) (by rw [Int.toNat_natCast]; exact hxh)) Evs.nil)) rfl (by simp)) (Co.neS hr ?_ ?_)).cast (by simp))) ?_
  · intro x hx
    have hm : x ∈ Lns R (cc :: wr) ps := by
      simp at hx
      rcases hx with rfl | rfl
      · exact rsg_perm.mem_iff.mp (List.mem_of_getElem? hxl)
      · exact rsg_perm.mem_iff.mp (List.mem_of_getElem? hxh)
    exact Lns_ok hok x hm
  · intro x hx
    have hm : x ∈ Lns R (cc :: wr) ps := by
      simp at hx
      rcases hx with rfl | rfl
      · exact rsg_perm.mem_iff.mp (List.mem_of_getElem? hxl)
      · exact rsg_perm.mem_iff.mp (List.mem_of_getElem? hxh)
    exact Lns_ok hok x hm
  exact Ex.of rest (by simp)
end
end Mine
namespace Mine
section
variable {w : World} {A : Around} {n : Nat}

theorem law_med {s₀ : Shared} {nm : Str} {pm doc : Value} {c L f : Nat} (hr : Room (n + 4) A) {R cc : Nat} {wr : List Nat} {ps : List Int} (h2 : 2 ≤ R) (h10 : R ≤ 10)
    (rest : Ex w A (fE 13 nm pm c doc L f) ⟨s₀, J0⟩ (GB R cc wr ps) ((bodyAt 13).drop 20) (.bool true)) :
    Ex w A (fE 13 nm pm c doc L f) ⟨s₀, J0⟩ (GB R cc wr ps) ((bodyAt 13).drop 17) (.bool true) := by
  have hpl : (Plc R ps).length = R + 1 := Plc_len
  have hrl : (Plc R ps).reverse.length = R + 1 := by rw [List.length_reverse, hpl]
  have hg1 := Plc_get (R := R) (ps := ps) (k := R / 2) (by omega)
  have hg2 := Plc_get (R := R) (ps := ps) (k := R - R / 2) (by omega)
  have hb1 : at' R ps (R / 2) ≤ R := at_le (by omega)
  have hb2 : at' R ps (R - R / 2) ≤ R := at_le (by omega)
  refine Ex.cons (Ex1.assign (Ev.revL (Ev.nameQ (Ev.name rfl)) (Ev.neg Ev.cint) (by omega)) rfl (List.Subset.refl _) rfl rfl) ?_
  by_cases hpar : R % 2 = 0
  · have e : R - R / 2 = R / 2 := by omega
    refine Ex.cons (Ex1.assign (d₁ := .int ((at' R ps (R / 2) : Nat) : Int)) (Ev.callF (i := 5) (Ev.glob rfl rfl) (Evs.cons (Ev.name rfl) Evs.nil) (f_median_odd (n := n + 3) hr (List.reverse_perm _).symm Plc_rise (by omega) (by omega) (by rw [hrl, ← hg1]; congr 1; omega)) (by simp [fTab])) rfl (List.Subset.refl _) rfl rfl) ?_
    refine Ex.cons (Ex1.ifF (Tr.or (TrO.cons ((Tr.cmp (Ev.name rfl) (Ev.revL (Ev.nameQ (Ev.name rfl)) (Ev.neg Ev.cint) (by omega)) (Co.neL hr)).cast (by simp))
      (TrO.cons ((Tr.cmp (Ev.bin Ev.cint (Ev.name rfl) Bo.mul2) (Ev.bin (Ev.itemL (Ev.nameQ (Ev.name rfl)) (Ev.name rfl) (by omega) (by omega) (by rw [Int.toNat_natCast]; exact hg1)) (Ev.itemL (Ev.nameQ (Ev.name rfl)) (Ev.name rfl) (by omega) (by omega) (by rw [Int.toNat_natCast]; exact hg2)) Bo.addI) Co.neI).cast (by rw [e]; simp; omega))
        (TrO.cons ((Tr.cmp (Ev.cmp (Ev.callT (Ev.built rfl rfl) (Evs.cons (Ev.name rfl) Evs.nil) Cl.typeI) (Ev.built rfl rfl) Co.isT) (Ev.cmp (Ev.name rfl) (Ev.name rfl) Co.neI) Co.neB).cast ?_) TrO.nil))))) (Ex.of rest (by simp))
    rw [show (Value.type "int" == Value.type "float") = false by decide +kernel, e]
    simp
  · have e : R - R / 2 = R / 2 + 1 := by omega
    refine Ex.cons (Ex1.assign (d₁ := .flt (halfF (((at' R ps (R / 2) : Nat) : Int) + ((at' R ps (R - R / 2) : Nat) : Int)))) (Ev.callF (i := 5) (Ev.glob rfl rfl) (Evs.cons (Ev.name rfl) Evs.nil) (f_median_even (n := n + 3) hr (List.reverse_perm _).symm Plc_rise (by omega) (by omega) (by omega) (by rw [hrl, ← hg1]; congr 1; omega) (by rw [hrl, ← hg2]; congr 1; omega) (by omega) (by omega)) (by simp [fTab])) rfl (List.Subset.refl _) rfl rfl) ?_
    refine Ex.cons (Ex1.ifF (Tr.or (TrO.cons ((Tr.cmp (Ev.name rfl) (Ev.revL (Ev.nameQ (Ev.name rfl)) (Ev.neg Ev.cint) (by omega)) (Co.neL hr)).cast (by simp))
      (TrO.cons ((Tr.cmp (Ev.bin Ev.cint (Ev.name rfl) Bo.dbl) (Ev.bin (Ev.itemL (Ev.nameQ (Ev.name rfl)) (Ev.name rfl) (by omega) (by omega) (by rw [Int.toNat_natCast]; exact hg1)) (Ev.itemL (Ev.nameQ (Ev.name rfl)) (Ev.name rfl) (by omega) (by omega) (by rw [Int.toNat_natCast]; exact hg2)) Bo.addI) Co.neF).cast ?_)
        (TrO.cons ((Tr.cmp (Ev.cmp (Ev.callT (Ev.built rfl rfl) (Evs.cons (Ev.name rfl) Evs.nil) Cl.typeF) (Ev.built rfl rfl) Co.isT) (Ev.cmp (Ev.name rfl) (Ev.name rfl) Co.neI) Co.neB).cast ?_) TrO.nil))))) (Ex.of rest (by simp))
    · have := (half_ok (at' R ps (R / 2) + at' R ps (R - R / 2)) (by omega)).2
      rw [Int.natCast_add] at this
      rw [this]; rfl
    · rw [show (Value.type "float" == Value.type "float") = true by decide +kernel]
      have : ¬ (((R / 2 : Nat) : Int) = ((R - R / 2 : Nat) : Int)) := by omega
      rw [decide_eq_false this]; rfl

theorem law_end {s₀ : Shared} {nm : Str} {pm doc : Value} {c L f : Nat} (hr : Room (n + 4) A) {R cc : Nat} {wr : List Nat} {ps : List Int} (h2 : 2 ≤ R) (h10 : R ≤ 10) (hw : Wrd (cc :: wr)) (hc : cc ≠ 32) (hpl : ps.length ≤ 9) :
    Ex w A (fE 13 nm pm c doc L f) ⟨s₀, J0⟩ (GB R cc wr ps) ((bodyAt 13).drop 20) (.bool true) := by
  have hll : (Lns R (cc :: wr) ps).length = R + 1 := Lns_len
  have hplc : (Plc R ps).length = R + 1 := Plc_len
  have htl := tls_len ps
  refine Ex.cons (Ex1.compII (xs := iota R) (sgn R cc ps) hr (Src.rng R (by omega)) (by rw [iota_len]; omega) ⟨rfl, rfl, rfl, rfl, rfl⟩ (Ev.callT (Ev.built rfl rfl) (Evs.cons (Ev.name rfl) Evs.nil) Cl.range) (fun a ha C => ?_) rfl rfl (List.Subset.refl _) rfl) ?_
  · obtain ⟨a0, a1⟩ := mem_iota.mp ha
    have g1 := Lns_get (R := R) (cc := cc) (wr := wr) (ps := ps) (k := a.toNat) (by omega)
    have g2 := Lns_get (R := R) (cc := cc) (wr := wr) (ps := ps) (k := a.toNat + 1) (by omega)
    have e : (a + 1).toNat = a.toNat + 1 := by omega
    refine Ev.castI (Ev.callF (i := 1) (Ev.glob rfl rfl) (Evs.cons (Ev.itemS (Ev.name rfl) (Ev.name rfl) a0 (by omega) g1) (Evs.cons (Ev.itemS (Ev.name rfl) (Ev.bin (Ev.name rfl) Ev.cint Bo.addI) (by omega) (by omega) (by rw [e]; exact g2)) Evs.nil)) (f_strcoll (n := n + 3) hr) (by simp [fTab])) ?_
    unfold sgn
    rcases at_step (R := R) (ps := ps) (a := a.toNat) (by omega) with h | h
    · rw [h, if_neg (Nat.lt_irrefl _)]; exact cmp_self _
    · rw [if_pos (by omega)]; exact cmp_lt hc (by omega)
  refine Ex.cons (Ex1.compSI (xs := Lns R (cc :: wr) ps) (hdS cc) hr (Src.sl _) (by omega) ⟨rfl, rfl, rfl, rfl, rfl⟩ (Ev.name rfl) (fun x hx C => ?_) rfl rfl (List.Subset.refl _) rfl) ?_
  · obtain ⟨k, hk, rfl⟩ := List.mem_map.mp hx
    refine Ev.castI (Ev.callF (i := 1) (Ev.glob rfl rfl) (Evs.cons (Ev.name rfl) (Evs.cons (Ev.name rfl) Evs.nil)) (f_strcoll (n := n + 3) hr) (by simp [fTab])) ?_
    rw [cmp_word hc (by omega)]
    show _ = hdS cc (mkS (ln _ _ _))
    unfold hdS
    rw [unl_ln hw]
  refine Ex.cons (Ex1.ifF ((Tr.cmp (Ev.compNone (xs := (iota R).map (sgn R cc ps) ++ (Lns R (cc :: wr) ps).map (hdS cc)) hr (Src.il _) (by simp [iota_len]; omega) ⟨rfl, rfl, rfl, rfl, rfl⟩ (Ev.bin (Ev.nameQ (Ev.name rfl)) (Ev.nameQ (Ev.name rfl)) (Bo.addL (by simp [iota_len]; omega)))
    (fun a ha C => (Tr.cmp (Ev.callT (Ev.built rfl rfl) (Evs.cons (Ev.name rfl) Evs.nil) Cl.typeI) (Ev.built rfl rfl) Co.isNotT).cast (by decide +kernel))) (Ev.listI (xs := []) Evs.nil rfl (by simp)) (Co.neL hr)).cast (by simp))) ?_
  refine Ex.cons (Ex1.ifF ((Tr.cmp (Ev.nameQ (Ev.name rfl)) (Ev.compII (xs := Plc R ps) (fun a => if 0 < a then sd cc else -1) hr (Src.il _) (by omega) ⟨rfl, rfl, rfl, rfl, rfl⟩ (Ev.nameQ (Ev.name rfl)) (fun a ha C => ?_)) (Co.neL hr)).cast ?_)) ?_
  · refine Ev.ite (Tr.cmp (Ev.name rfl) Ev.cint Co.gtI) (fun h => ?_) (fun h => ?_)
    · rw [if_pos (of_decide_eq_true h)]; exact Ev.name rfl
    · rw [if_neg (of_decide_eq_false h)]; exact Ev.neg Ev.cint
  · rw [heads_eq hw]; simp
  have hn := tls_ne ps
  refine Ex.cons (Ex1.assign (Ev.callB (Ev.built rfl rfl) (Evs.cons Ev.cint (Evs.cons (Ev.bin (Ev.name rfl) (Ev.bin (Ev.callB (Ev.built rfl rfl) (Evs.cons (Ev.name rfl) Evs.nil) (Cl.maxL hr (lmax_mem hn) le_lmax)) (Ev.callB (Ev.built rfl rfl) (Evs.cons (Ev.name rfl) Evs.nil) (Cl.minL hr (lmin_mem hn) lmin_le)) Bo.subI) Bo.subI) Evs.nil)) (Cl.max2 hr)) rfl (List.Subset.refl _) rfl rfl) ?_
  obtain ⟨c1, c2⟩ := sgn_count (R := R) (cc := cc) (ps := ps)
  refine Ex.ret (Ev.and2 ((Ev.cmp (Ev.count (Ev.name rfl) (Ev.name rfl) rfl) (Ev.name rfl) Co.eqI).castB ?_) ((Ev.cmp (Ev.count (Ev.name rfl) Ev.cint rfl) (Ev.bin (Ev.name rfl) (Ev.name rfl) Bo.subI) Co.eqI).castB ?_))
  · exact decide_eq_true c1
  · exact decide_eq_true c2

theorem law_body {s₀ : Shared} {nm : Str} {pm doc : Value} {c L f : Nat} (hr : Room (n + 4) A) {ns : List Int} (hlen : ns.length ≤ 63) : Ex w A (fE 13 nm pm c doc L f) ⟨s₀, J0⟩ [("script", .il ns)] (bodyAt 13) (.bool true) :=
  law_head hr hlen fun R cc wr ps h2 h10 hw hc hok hpl hpb => law_loop hr h2 h10 hw hpl hpb (law_mid hr h2 h10 hw hc hok (law_med hr h2 h10 (law_end hr h2 h10 hw hc hpl)))
end
end Mine
namespace Mine

theorem law_call {w : World} {A : Around} {E : Value → Shared → Prop} {s : Shared} {fa l c : Addr} {o : Obj} {nm : Str} {pm doc : Value} {vs : List Value} {ns : List Int} (hr : Room 5 A) (hw : Wd s.heap)
    (ho : s.heap.get? fa = some o) (hdat : o.data = .func (fnD 13 nm pm c doc)) (hcd : s.heap.CodeRec (.ref c) nm) (hl : s.heap.IsList l vs.toArray) (hi : IntsAre vs ns) (hlen : ns.length ≤ 63) :
    wpAny (model Pg w) A (call (.ref fa) [.ref l]) (fun v s' => v = .bool true ∧ Keeps s s') E s := by
  refine wpAny_call (codeAny_call_cells (fd := fnD 13 nm pm c doc) (body := bodyAt 13) (binds := [("script", .ref l)]) hr.rl ho hdat hw.nolimit hcd rfl rfl rfl (kindsX (by rfl) _) (fun s₁ X => ?_) rfl rfl rfl)
  have F : Fs ⟨s, J0⟩ (fE 13 nm pm c doc s.heap.objs.size fa) [("script", .il ns)] s₁ := by
    refine ⟨⟨rfl, rfl, rfl⟩, hw, trivial, _, _, X, fun q hq => ?_⟩
    rw [List.mem_singleton] at hq
    subst hq
    exact ⟨.ref l, .inl ⟨rfl, bindL_get (by simp) (List.mem_singleton.mpr rfl) rfl⟩, ⟨l, vs, rfl, (let ⟨o, ho, r⟩ := hl; ⟨o, X.toInCall.keep _ _ ho, r⟩), hi⟩⟩
  refine wpAny_mono (law_body (n := 0) (hr.deeper _) hlen s₁ _ F) (fun fl s' q => ?_) fun _ _ e => e
  obtain ⟨v, rfl, h1, h2⟩ := q
  exact ⟨h1, h2⟩

theorem wd_of {K : Frag} {h : Heap} {mg mb : Str → Option Value} (X : K.In h) (hn : h.NoLimit) (hg : h.Ns mainGlobals mg) (hb : h.Ns builtinsNs mb) (hbo : ∀ x : Str, x ≠ "__name__" → mb x = bootBuiltins x)
    (h1 : (gTab.all fun q => match nsIn K mainGlobals q.1, q.2 with | some (some (.ref a)), .ref b => a == b | _, _ => false) = true)
    (h2 : (bTab.all fun q => match nsIn K mainGlobals q.1 with | some none => true | _ => false) = true)
    (h3 : ∀ q ∈ fTab, ∃ o nm pm c doc oc vs t, K.lookup q.1 = some o ∧ o.data = .func (fnD q.2 nm pm c doc) ∧ K.lookup c = some oc ∧ oc.data = .fields vs ∧ vs[1]? = some (.str nm t)) : Wd h := by
  refine ⟨hn, ⟨mg, mb, hg, hb, fun q hq => ?_, fun q hq => ⟨?_, ?_⟩⟩, fun q hq => ?_⟩
  · have := List.all_eq_true.mp h1 q hq
    obtain ⟨x, v⟩ := q
    simp only at this ⊢
    split at this
    · rename_i a b e1
      have e : a = b := by simpa using this
      subst e
      exact mg_of X hg e1
    · cases this
  · have := List.all_eq_true.mp h2 q hq
    split at this
    · rename_i e1; exact mg_none_of X hg e1
    · cases this
  · have hall : (bTab.all fun q => decide (bootBuiltins q.1 = some q.2) && decide (q.1 ≠ "__name__")) = true := by decide +kernel
    have := List.all_eq_true.mp hall q hq
    rw [Bool.and_eq_true, decide_eq_true_eq, decide_eq_true_eq] at this
    rw [hbo _ this.2, this.1]
  · obtain ⟨o, nm, pm, c, doc, oc, vs, t, a1, a2, a3, a4, a5⟩ := h3 q hq
    exact ⟨o, nm, pm, c, doc, X _ _ a1, a2, c, oc, vs, t, rfl, X _ _ a3, a4, a5⟩
end Mine
namespace Mine
theorem room5 : Room 5 callerA := ⟨rfl, by decide, by decide⟩
end Mine
open Mine
set_option maxHeartbeats 8000000 in
theorem PySem.Challenge.cw_rs0037_01_holds : PySem.Challenge.rw_rs0037_01.Holds := by
  w_on
  o_law
  k_head
  (case hw => w_witness2)
  intro w s₀ s₁ mg mb G Y fa o pm cd doc dV kV ho hd hcd hD hmg hg args vals as hpre hlay hrd hwl hlo
  have KX := kIn_of Y
  refine Ground.open G ?_
  intro T B D TE TW
  have hwd : Wd s₁.heap := by
    refine wd_of KX T.nolimit T.g T.b T.builtins (by rfl) (by rfl) ?_
    intro q hq
    simp only [fTab, List.mem_cons, List.not_mem_nil, or_false] at hq
    rcases hq with rfl | rfl | rfl | rfl | rfl | rfl | rfl | rfl | rfl <;> exact ⟨_, _, _, _, _, _, _, _, rfl, rfl, rfl, rfl, rfl⟩
  have he := Dflts.none hD rfl
  subst he
  have he := Dflts.noKw hD
  subst he
  obtain ⟨c, oc, vsc, tc, rfl, hc1, hc2, hc3⟩ := hcd
  wrow_args hpre hlay hrd hwl hlo
  refine wpAny_mono (law_call room5 hwd ho (fd_plain hd) ⟨c, oc, vsc, tc, rfl, hc1, hc2, hc3⟩ (by assumption) (by assumption) (by omega)) (fun v s' q => ?_) fun _ _ e => e
  obtain ⟨rfl, h', tk, rfl, hk⟩ := q
  refine GoodW.toG ⟨.inl ⟨.bool true, .bool true, [], rfl, ?_, ?_, ?_, ?_⟩, hk, rfl, hg⟩
  · intro cls; rfl
  · exact .bool true
  · exact postW_of (by wrow_shape) (by wtm_val) (by first | rfl | w_fin)
  · exact unshared_nil
