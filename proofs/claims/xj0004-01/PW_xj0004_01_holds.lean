import PyProof.Rows.All
import Wide.All
import OpenK.AllK
import Wide.FinOn
import PyProof.WalksPairs
import PyProof.StrLawsTight
import KE.KLcPair
import PySem.Challenge.RW_xj0004_01
set_option Elab.async false
section
open PySem PySem.W PyProof.Rows PySem.Calls
namespace Mine

inductive PV where
  | none
  | bool (b : Bool)
  | int (i : Int)
  | str (x : Str)
  | tup (l : List PV)
  | lst (l : List PV)

noncomputable abbrev tupObj (vs : List Value) (n : Nat) : Obj := { cls := .type "tuple", data := .seq vs.toArray n }
noncomputable abbrev lstObj (vs : List Value) (n : Nat) : Obj := { cls := .type "list", data := .seq vs.toArray n }

mutual
inductive Rd (h : Heap) (X : Addr → Prop) : Value → PV → Prop
  | none : Rd h X Value.none .none
  | bool (b : Bool) : Rd h X (.bool b) (.bool b)
  | int (i : Int) (t : Tok) : Rd h X (.int i t) (.int i)
  | str (x : Str) (t : Tok) : Rd h X (.str x t) (.str x)
  | tup {a : Addr} {vs : List Value} {n : Nat} {ps : List PV} : h.get? a = some (tupObj vs n) → ¬ X a → RdL h X vs ps → Rd h X (.ref a) (.tup ps)
  | lst {a : Addr} {vs : List Value} {n : Nat} {ps : List PV} : h.get? a = some (lstObj vs n) → ¬ X a → RdL h X vs ps → Rd h X (.ref a) (.lst ps)
inductive RdL (h : Heap) (X : Addr → Prop) : List Value → List PV → Prop
  | nil : RdL h X [] []
  | cons {v : Value} {vs : List Value} {p : PV} {ps : List PV} : Rd h X v p → RdL h X vs ps → RdL h X (v :: vs) (p :: ps)
end

mutual
theorem Rd.mono {h h' : Heap} {X X' : Addr → Prop} (hk : ∀ b o, ¬ X b → h.get? b = some o → h'.get? b = some o ∧ ¬ X' b) : ∀ {v : Value} {p : PV}, Rd h X v p → Rd h' X' v p
  | _, _, .none => .none
  | _, _, .bool b => .bool b
  | _, _, .int i t => .int i t
  | _, _, .str x t => .str x t
  | _, _, .tup e n r => .tup (hk _ _ n e).1 (hk _ _ n e).2 (RdL.mono hk r)
  | _, _, .lst e n r => .lst (hk _ _ n e).1 (hk _ _ n e).2 (RdL.mono hk r)
theorem RdL.mono {h h' : Heap} {X X' : Addr → Prop} (hk : ∀ b o, ¬ X b → h.get? b = some o → h'.get? b = some o ∧ ¬ X' b) : ∀ {vs : List Value} {ps : List PV}, RdL h X vs ps → RdL h' X' vs ps
  | _, _, .nil => .nil
  | _, _, .cons r rs => .cons (Rd.mono hk r) (RdL.mono hk rs)
end

theorem Rd.keep {s s' : Shared} {X : Addr → Prop} {v : Value} {p : PV} (r : Rd s.heap X v p) (k : Keeps s s') : Rd s'.heap X v p := by
  obtain ⟨h, tk, rfl, k⟩ := k
  exact r.mono fun b o n e => ⟨k b o e, n⟩
theorem RdL.keep {s s' : Shared} {X : Addr → Prop} {v : List Value} {p : List PV} (r : RdL s.heap X v p) (k : Keeps s s') : RdL s'.heap X v p := by
  obtain ⟨h, tk, rfl, k⟩ := k
  exact r.mono fun b o n e => ⟨k b o e, n⟩
theorem Rd.narrow {h : Heap} {X X' : Addr → Prop} {v : Value} {p : PV} (r : Rd h X' v p) (k : ∀ a, X a → X' a) : Rd h X v p := r.mono fun b _ n e => ⟨e, fun x => n (k b x)⟩
theorem RdL.narrow {h : Heap} {X X' : Addr → Prop} {v : List Value} {p : List PV} (r : RdL h X' v p) (k : ∀ a, X a → X' a) : RdL h X v p := r.mono fun b _ n e => ⟨e, fun x => n (k b x)⟩
theorem RdL.length {h : Heap} {X : Addr → Prop} : ∀ {vs : List Value} {ps : List PV}, RdL h X vs ps → vs.length = ps.length
  | _, _, .nil => rfl
  | _, _, .cons _ r => by simp [RdL.length r]
theorem RdL.get {h : Heap} {X : Addr → Prop} : ∀ {vs : List Value} {ps : List PV}, RdL h X vs ps → ∀ {i : Nat} {p : PV}, ps[i]? = some p → ∃ v, vs[i]? = some v ∧ Rd h X v p
  | _, _, .nil, _, _, e => by simp at e
  | _, _, .cons r rs, 0, _, e => ⟨_, rfl, by simp at e; exact e ▸ r⟩
  | _, _, .cons r rs, i + 1, _, e => by simpa using rs.get (i := i) (by simpa using e)
theorem RdL.get' {h : Heap} {X : Addr → Prop} : ∀ {vs : List Value} {ps : List PV}, RdL h X vs ps → ∀ {i : Nat} {v : Value}, vs[i]? = some v → ∃ p, ps[i]? = some p ∧ Rd h X v p
  | _, _, .nil, _, _, e => by simp at e
  | _, _, .cons r rs, 0, _, e => ⟨_, rfl, by simp at e; exact e ▸ r⟩
  | _, _, .cons r rs, i + 1, _, e => by simpa using rs.get' (i := i) (by simpa using e)
theorem RdL.append {h : Heap} {X : Addr → Prop} : ∀ {vs us : List Value} {ps qs : List PV}, RdL h X vs ps → RdL h X us qs → RdL h X (vs ++ us) (ps ++ qs)
  | _, _, _, _, .nil, r => r
  | _, _, _, _, .cons a b, r => .cons a (b.append r)
theorem RdL.drop {h : Heap} {X : Addr → Prop} : ∀ {vs : List Value} {ps : List PV}, RdL h X vs ps → ∀ i : Nat, RdL h X (vs.drop i) (ps.drop i)
  | _, _, r, 0 => r
  | _, _, .nil, _ + 1 => .nil
  | _, _, .cons _ b, i + 1 => b.drop i
theorem RdL.take {h : Heap} {X : Addr → Prop} : ∀ {vs : List Value} {ps : List PV}, RdL h X vs ps → ∀ i : Nat, RdL h X (vs.take i) (ps.take i)
  | _, _, _, 0 => .nil
  | _, _, .nil, _ + 1 => .nil
  | _, _, .cons a b, i + 1 => .cons a (b.take i)
theorem RdL.one {h : Heap} {X : Addr → Prop} {v : Value} {p : PV} (r : Rd h X v p) : RdL h X [v] [p] := .cons r .nil
theorem RdL.all {h : Heap} {X : Addr → Prop} : ∀ {vs : List Value} {ps : List PV}, vs.length = ps.length → (∀ (i : Nat) (v : Value) (p : PV), vs[i]? = some v → ps[i]? = some p → Rd h X v p) → RdL h X vs ps
  | [], [], _, _ => .nil
  | _ :: _, _ :: _, l, k => .cons (k 0 _ _ rfl rfl) (RdL.all (by simpa using l) fun i v p a b => k (i + 1) v p (by simpa using a) (by simpa using b))

theorem keeps_refl (s : Shared) : Keeps s s := ⟨s.heap, s.toks, rfl, fun _ _ e => e⟩
theorem keeps_trans {a b c : Shared} (x : Keeps a b) (y : Keeps b c) : Keeps a c := by
  obtain ⟨h, t, rfl, k⟩ := x
  obtain ⟨h', t', rfl, k'⟩ := y
  exact ⟨h', t', rfl, fun p o e => k' p o (k p o e)⟩
theorem keeps_heap {a b : Shared} (x : Keeps a b) {p : Addr} {o : Obj} (e : a.heap.get? p = some o) : b.heap.get? p = some o := by
  obtain ⟨h, t, rfl, k⟩ := x
  exact k p o e
theorem keeps_toks (s : Shared) (t : Nat) : Keeps s { s with toks := t } := ⟨s.heap, t, rfl, fun _ _ e => e⟩
theorem keeps_push (s : Shared) (o : Obj) : Keeps s { s with heap := s.heap.push o } := ⟨_, s.toks, rfl, fun _ _ e => Heap.get?_push_of_some _ e⟩

noncomputable def VarAt (h : Heap) (env : Env) (x : Str) (v : Value) : Prop :=
  (env.kindOf x = some .local ∧ ∃ m, h.Ns env.locals m ∧ m x = some v) ∨ (env.kindOf x = some .cell ∧ ∃ c, env.cells.lookup x = some c ∧ h.IsCell c (some v))
theorem VarAt.keep {s s' : Shared} {env : Env} {x : Str} {v : Value} (r : VarAt s.heap env x v) (k : Keeps s s') : VarAt s'.heap env x v := by
  obtain ⟨h, tk, rfl, k⟩ := k
  rcases r with ⟨a, m, n, e⟩ | ⟨a, c, b, e⟩
  · exact .inl ⟨a, m, n.keeps k, e⟩
  · exact .inr ⟨a, c, b, e.keeps k⟩

inductive VK where
  | pv (p : PV)
  | raw (v : Value)
noncomputable def VK.holds (h : Heap) (X : Addr → Prop) (v : Value) : VK → Prop
  | .pv p => Rd h X v p
  | .raw u => v = u
theorem VK.holds_mono {h h' : Heap} {X X' : Addr → Prop} (hk : ∀ b o, ¬ X b → h.get? b = some o → h'.get? b = some o ∧ ¬ X' b) {v : Value} {k : VK} (r : k.holds h X v) : k.holds h' X' v := by
  cases k with
  | pv p => exact Rd.mono hk r
  | raw u => exact r

structure EnvOk (env : Env) : Prop where
  kind : env.scope.kind = .function
  globals : env.globals = mainGlobals
  builtins : env.builtins = builtinsNs

structure Cok (h₀ : Heap) (env : Env) (X : Addr → Prop) (Γ : List (Str × VK)) (h : Heap) : Prop where
  ok : EnvOk env
  gd : ∀ b o, h₀.get? b = some o → h.get? b = some o
  xok : ∀ a, X a → h₀.get? a = none ∧ (h.get? a).isSome = true
  has : ∀ x k, Γ.lookup x = some k → ∃ v, VarAt h env x v ∧ k.holds h X v

structure Room (A : Around) (n : Nat) : Prop where
  handled : A.handled = none
  depth : A.depth + n < recursionLimit
  units : A.units + 20 * n < cLine

theorem Room.le {A : Around} {n m : Nat} (r : Room A n) (h : m ≤ n) : Room A m := ⟨r.handled, by have := r.depth; omega, by have := r.units; omega⟩
theorem Room.deeper {A : Around} {n : Nat} (env : Env) (r : Room A (n + 1)) : Room (A.deeper env) n := ⟨r.handled, by show A.depth + 1 + n < _; have := r.depth; omega, by show A.units + 3 + _ < _; have := r.units; omega⟩
theorem Room.in1 {A : Around} {n : Nat} (r : Room A (n + 1)) : Room A.in1 n := ⟨r.handled, by show A.depth + n < _; have := r.depth; omega, by show A.units + 1 + _ < _; have := r.units; omega⟩
theorem Room.u {A : Around} {n : Nat} (r : Room A n) : A.units < cLine := by have := r.units; omega
theorem Room.d {A : Around} {n : Nat} (r : Room A n) : A.depth < recursionLimit := by have := r.depth; omega

theorem Cok.keep {h₀ : Heap} {env : Env} {X : Addr → Prop} {Γ : List (Str × VK)} {s s' : Shared} (c : Cok h₀ env X Γ s.heap) (k : Keeps s s') : Cok h₀ env X Γ s'.heap := by
  refine ⟨c.ok, fun b o e => keeps_heap k (c.gd b o e), fun a x => ⟨(c.xok a x).1, ?_⟩, fun x q e => ?_⟩
  · obtain ⟨o, ho⟩ := Option.isSome_iff_exists.mp (c.xok a x).2
    rw [keeps_heap k ho]; rfl
  · obtain ⟨v, hv, r⟩ := c.has x q e
    exact ⟨v, hv.keep k, VK.holds_mono (fun b o n e => ⟨keeps_heap k e, n⟩) r⟩

noncomputable abbrev NoE : Value → Shared → Prop := fun _ _ => False

section
variable {prog : Program} {w : World} {h₀ : Heap}

noncomputable def Ex (prog : Program) (w : World) (h₀ : Heap) (n : Nat) (env : Env) (X : Addr → Prop) (Γ : List (Str × VK)) (e : Expr) (p : PV) : Prop :=
  ∀ A s, Room A n → Cok h₀ env X Γ s.heap → wpAny (model prog w) A (eval e env) (fun v s' => Keeps s s' ∧ Rd s'.heap X v p) NoE s
noncomputable def ExL (prog : Program) (w : World) (h₀ : Heap) (n : Nat) (env : Env) (X : Addr → Prop) (Γ : List (Str × VK)) (pos : Pos) (es : List Expr) (ps : List PV) : Prop :=
  ∀ A s, Room A n → Cok h₀ env X Γ s.heap → wpAny (model prog w) A (spliced (backTo pos (starEach es env))) (fun vs s' => Keeps s s' ∧ RdL s'.heap X vs ps) NoE s
structure XOk (h₀ : Heap) (X : Addr → Prop) (h : Heap) : Prop where
  gd : ∀ b o, h₀.get? b = some o → h.get? b = some o
  xok : ∀ a, X a → h₀.get? a = none ∧ (h.get? a).isSome = true
theorem Cok.x {env : Env} {X : Addr → Prop} {Γ : List (Str × VK)} {h : Heap} (c : Cok h₀ env X Γ h) : XOk h₀ X h := ⟨c.gd, c.xok⟩
theorem XOk.keep {X : Addr → Prop} {s s' : Shared} (c : XOk h₀ X s.heap) (k : Keeps s s') : XOk h₀ X s'.heap := by
  refine ⟨fun b o e => keeps_heap k (c.gd b o e), fun a x => ⟨(c.xok a x).1, ?_⟩⟩
  obtain ⟨o, ho⟩ := Option.isSome_iff_exists.mp (c.xok a x).2
  rw [keeps_heap k ho]; rfl
theorem XOk.new {X : Addr → Prop} {h : Heap} (c : XOk h₀ X h) : ¬ X h.objs.size := fun x => by
  obtain ⟨o, ho⟩ := Option.isSome_iff_exists.mp (c.xok _ x).2
  exact absurd (Heap.lt_size ho) (Nat.lt_irrefl _)
noncomputable def Fn (prog : Program) (w : World) (h₀ : Heap) (n : Nat) (f : Value) (ps : List PV) (p : PV) : Prop :=
  ∀ X A s vs, XOk h₀ X s.heap → Room A n → RdL s.heap X vs ps → wpAny (model prog w) A (call f vs []) (fun v s' => Keeps s s' ∧ Rd s'.heap X v p) NoE s
noncomputable def Bn (prog : Program) (w : World) (h₀ : Heap) (op : Operator) (p q r : PV) : Prop :=
  ∀ X A s a b, XOk h₀ X s.heap → Room A 4 → Rd s.heap X a p → Rd s.heap X b q → wpAny (model prog w) A (binaryOp op a b) (fun v s' => Keeps s s' ∧ Rd s'.heap X v r) NoE s
noncomputable def Cm (prog : Program) (w : World) (h₀ : Heap) (op : CmpOp) (p q r : PV) : Prop :=
  ∀ X A s a b, XOk h₀ X s.heap → Room A 4 → Rd s.heap X a p → Rd s.heap X b q → wpAny (model prog w) A (compareOp op a b) (fun v s' => Keeps s s' ∧ Rd s'.heap X v r) NoE s

variable {n : Nat} {env : Env} {X : Addr → Prop} {Γ : List (Str × VK)} {A : Around} {s : Shared}

theorem seq_keep {α β : Type} {t : Sem α} {R : α → Shared → Prop} {Q : α → Shared → Prop} (h : wpAny (model prog w) A t R NoE s) (k : ∀ a s', R a s' → Q a s') : wpAny (model prog w) A t Q NoE s :=
  wpAny_mono h k fun _ _ e => e

theorem VarAt.load {x : Str} {v : Value} {Q : Value → Shared → Prop} {E : Value → Shared → Prop} (r : VarAt s.heap env x v) (hk : EnvOk env) (h : Q v s) : wpAny (model prog w) A (loadName env x) Q E s := by
  rcases r with ⟨a, m, nn, e⟩ | ⟨a, c, b, e⟩
  · exact wpAny_loadName_local hk.kind a nn e h
  · exact wpAny_loadName_cell hk.kind a b e h

theorem Ex_int {i : Int} {k : Nat} {pos : Pos} : Ex prog w h₀ n env X Γ (.Constant (.int i) k pos) (.int i) :=
  fun _ s _ _ => by refine wpAny_Constant_int ?_; exact ⟨keeps_toks s _, .int i _⟩
theorem Ex_str {x : Str} {k : Nat} {pos : Pos} : Ex prog w h₀ n env X Γ (.Constant (.str x) k pos) (.str x) :=
  fun _ s _ _ => by refine wpAny_Constant_str ?_; exact ⟨keeps_toks s _, .str x _⟩
theorem Ex_name {x : Str} {pos : Pos} {p : PV} (hx : Γ.lookup x = some (.pv p)) (hd : (x == ("__debug__" : Str)) = false) : Ex prog w h₀ n env X Γ (.Name x pos) p := by
  intro A s R C
  obtain ⟨v, hv, r⟩ := C.has x _ hx
  exact wpAny_Name (hv.load C.ok ⟨keeps_refl s, r⟩) hd
theorem Ex_bin {l r : Expr} {op : Operator} {pos : Pos} {p q o : PV} (hl : Ex prog w h₀ n env X Γ l p) (hr : Ex prog w h₀ n env X Γ r q) (hb : Bn prog w h₀ op p q o) (hn : 4 ≤ n := by decide) :
    Ex prog w h₀ n env X Γ (.BinOp l op r pos) o := by
  intro A s R C
  refine wpAny_BinOp (wpAny_mono (hl A s R C) (fun a s₁ h₁ => wpAny_mono (hr A s₁ R (C.keep h₁.1)) (fun b s₂ h₂ => ?_) fun _ _ e => e) fun _ _ e => e)
  exact wpAny_mono (hb X A s₂ a b ((C.keep h₁.1).keep h₂.1).x (R.le hn) (h₁.2.keep h₂.1) h₂.2) (fun v s₃ h₃ => ⟨keeps_trans h₁.1 (keeps_trans h₂.1 h₃.1), h₃.2⟩) fun _ _ e => e
theorem Ex_cmp {l r : Expr} {op : CmpOp} {pos : Pos} {p q o : PV} (hl : Ex prog w h₀ n env X Γ l p) (hr : Ex prog w h₀ n env X Γ r q) (hb : Cm prog w h₀ op p q o) (hm : behindInMarks op r = false := by kernel_rfl!) (hn : 4 ≤ n := by decide) :
    Ex prog w h₀ n env X Γ (.Compare l [op] [r] pos) o := by
  intro A s R C
  refine wpAny_Compare1 (wpAny_mono (hl A s R C) (fun a s₁ h₁ => wpAny_mono (hr A s₁ R (C.keep h₁.1)) (fun b s₂ h₂ => ?_) fun _ _ e => e) fun _ _ e => e) hm
  exact wpAny_mono (hb X A s₂ a b ((C.keep h₁.1).keep h₂.1).x (R.le hn) (h₁.2.keep h₂.1) h₂.2) (fun v s₃ h₃ => ⟨keeps_trans h₁.1 (keeps_trans h₂.1 h₃.1), h₃.2⟩) fun _ _ e => e
theorem ExL_nil {pos : Pos} : ExL prog w h₀ n env X Γ pos [] [] := fun _ s _ _ => by refine args_nil ?_; exact ⟨keeps_refl s, .nil⟩
theorem ExL_cons {pos : Pos} {e : Expr} {es : List Expr} {p : PV} {ps : List PV} (h : Ex prog w h₀ n env X Γ e p) (hs : ExL prog w h₀ n env X Γ pos es ps)
    (he : starEach (e :: es) env = (false, eval e env) :: starEach es env := by kernel_rfl!) : ExL prog w h₀ n env X Γ pos (e :: es) (p :: ps) := by
  intro A s R C
  refine args_cons (wpAny_mono (h A s R C) (fun a s₁ h₁ => wpAny_mono (hs A s₁ R (C.keep h₁.1)) (fun b s₂ h₂ => ?_) fun _ _ e => e) fun _ _ e => e) he
  exact ⟨keeps_trans h₁.1 h₂.1, .cons (h₁.2.keep h₂.1) h₂.2⟩
theorem newTuple_rd {vs : List Value} {ps : List PV} (c : XOk h₀ X s.heap) (r : RdL s.heap X vs ps) (hsz : ps.length ≤ sizeLine) : wpAny (model prog w) A (newTuple vs) (fun v s' => Keeps s s' ∧ Rd s'.heap X v (.tup ps)) NoE s := by
  refine wpAny_newObj_type ⟨keeps_push s _, .tup (Heap.get?_push_size _ rfl) c.new (r.mono fun b o nn e => ⟨Heap.get?_push_of_some _ e, nn⟩)⟩ ?_
  show vs.toArray.size ≤ sizeLine
  rw [List.size_toArray, r.length]; exact hsz
theorem newList_rd {vs : List Value} {ps : List PV} (c : XOk h₀ X s.heap) (r : RdL s.heap X vs ps) (hsz : ps.length ≤ sizeLine) : wpAny (model prog w) A (newList vs) (fun v s' => Keeps s s' ∧ Rd s'.heap X v (.lst ps)) NoE s := by
  refine wpAny_newObj_type ⟨keeps_push s _, .lst (Heap.get?_push_size _ rfl) c.new (r.mono fun b o nn e => ⟨Heap.get?_push_of_some _ e, nn⟩)⟩ ?_
  show vs.toArray.size ≤ sizeLine
  rw [List.size_toArray, r.length]; exact hsz
theorem Ex_tuple {es : List Expr} {k : Nat} {pos : Pos} {ps : List PV} (h : ExL prog w h₀ n env X Γ pos es ps) (hsz : ps.length ≤ 1000) : Ex prog w h₀ n env X Γ (.Tuple es k pos) (.tup ps) := by
  intro A s R C
  refine Tuple_ (wpAny_mono (h A s R C) (fun vs s₁ h₁ => ?_) fun _ _ e => e)
  exact wpAny_mono (newTuple_rd (C.keep h₁.1).x h₁.2 (by rw [sizeLine_eq]; omega)) (fun v s₂ h₂ => ⟨keeps_trans h₁.1 h₂.1, h₂.2⟩) fun _ _ e => e
theorem Ex_list {es : List Expr} {pos : Pos} {ps : List PV} (h : ExL prog w h₀ n env X Γ pos es ps) (hsz : ps.length ≤ 1000) : Ex prog w h₀ n env X Γ (.List es pos) (.lst ps) := by
  intro A s R C
  refine List_ (wpAny_mono (h A s R C) (fun vs s₁ h₁ => ?_) fun _ _ e => e)
  exact wpAny_mono (newList_rd (C.keep h₁.1).x h₁.2 (by rw [sizeLine_eq]; omega)) (fun v s₂ h₂ => ⟨keeps_trans h₁.1 h₂.1, h₂.2⟩) fun _ _ e => e

end
end Mine
end
section
open PySem PySem.W PyProof.Rows PySem.Calls
namespace Mine

mutual
noncomputable def PV.py : PV → PyData
  | .none => .none
  | .bool b => .bool b
  | .int i => .int i
  | .str x => .str x
  | .tup l => .tuple (PV.pys l)
  | .lst l => .list (PV.pys l)
noncomputable def PV.pys : List PV → List PyData
  | [] => []
  | p :: l => PV.py p :: PV.pys l
end
mutual
theorem Rd.py {h : Heap} {X : Addr → Prop} : ∀ {v : Value} {p : PV}, Rd h X v p → ∃ as, Reads h v p.py as
  | _, _, .none => ⟨_, Reads.none⟩
  | _, _, .bool b => ⟨_, Reads.bool b⟩
  | _, _, .int i t => ⟨_, Reads.int i t⟩
  | _, _, .str x t => ⟨_, Reads.str x t⟩
  | _, _, .tup e _ r => by
    obtain ⟨as, q⟩ := RdL.py r
    rw [PV.py]
    exact ⟨as, reads_tuple_at e rfl rfl (by simpa using q)⟩
  | _, _, .lst e _ r => by
    obtain ⟨as, q⟩ := RdL.py r
    rw [PV.py]
    exact ⟨_, reads_list_at e rfl rfl (by simpa using q)⟩
theorem RdL.py {h : Heap} {X : Addr → Prop} : ∀ {vs : List Value} {ps : List PV}, RdL h X vs ps → ∃ as, ReadsAll h vs (PV.pys ps) as
  | _, _, .nil => ⟨_, ReadsAll.nil⟩
  | _, _, .cons r rs => by
    obtain ⟨as, q⟩ := Rd.py r
    obtain ⟨bs, p⟩ := RdL.py rs
    rw [PV.pys]
    exact ⟨_, ReadsAll.cons q p⟩
end

theorem Rd.isList {h : Heap} {X : Addr → Prop} {v : Value} {ps : List PV} (r : Rd h X v (.lst ps)) : ∃ a vs n, v = .ref a ∧ h.get? a = some (lstObj vs n) ∧ RdL h X vs ps := by
  cases r with
  | lst e _ q => exact ⟨_, _, _, rfl, e, q⟩
theorem Rd.isInt {h : Heap} {X : Addr → Prop} {v : Value} {i : Int} (r : Rd h X v (.int i)) : ∃ t, v = .int i t := by
  cases r with
  | int _ t => exact ⟨t, rfl⟩
theorem Rd.isStr {h : Heap} {X : Addr → Prop} {v : Value} {x : Str} (r : Rd h X v (.str x)) : ∃ t, v = .str x t := by
  cases r with
  | str _ t => exact ⟨t, rfl⟩
theorem Rd.isBool {h : Heap} {X : Addr → Prop} {v : Value} {b : Bool} (r : Rd h X v (.bool b)) : v = .bool b := by
  cases r with
  | bool _ => rfl
theorem lst_isList {h : Heap} {a : Addr} {vs : List Value} {n : Nat} (e : h.get? a = some (lstObj vs n)) : h.IsList a vs.toArray := ⟨_, e, rfl, n, rfl⟩

section
variable {prog : Program} {w : World} {h₀ : Heap}

theorem Bn_addI {a b : Int} : Bn prog w h₀ .Add (.int a) (.int b) (.int (a + b)) := by
  intro X A s v u c R r q
  obtain ⟨t, rfl⟩ := r.isInt
  obtain ⟨t', rfl⟩ := q.isInt
  refine add_int ?_
  exact ⟨keeps_toks s _, .int _ _⟩
theorem Bn_subI {a b : Int} : Bn prog w h₀ .Sub (.int a) (.int b) (.int (a - b)) := by
  intro X A s v u c R r q
  obtain ⟨t, rfl⟩ := r.isInt
  obtain ⟨t', rfl⟩ := q.isInt
  refine sub_int ?_
  exact ⟨keeps_toks s _, .int _ _⟩
theorem Bn_subB {a b : Bool} : Bn prog w h₀ .Sub (.bool a) (.bool b) (.int (a.toInt - b.toInt)) := by
  intro X A s v u c R r q
  obtain rfl := r.isBool
  obtain rfl := q.isBool
  refine sub_bool ?_
  have e : ∀ b : Bool, b2i b = b.toInt := by intro b; cases b <;> rfl
  rw [e, e]
  exact ⟨keeps_toks s _, .int _ _⟩
theorem Bn_mod {a b : Int} (hb : b ≠ 0) : Bn prog w h₀ .Mod (.int a) (.int b) (.int (a.fmod b)) := by
  intro X A s v u c R r q
  obtain ⟨t, rfl⟩ := r.isInt
  obtain ⟨t', rfl⟩ := q.isInt
  refine mod_int hb ?_
  exact ⟨keeps_toks s _, .int _ _⟩
theorem Bn_div {a b : Int} (hb : b ≠ 0) (hs : Builtin.divisionGoesByPylong a b = false) : Bn prog w h₀ .FloorDiv (.int a) (.int b) (.int (a.fdiv b)) := by
  intro X A s v u c R r q
  obtain ⟨t, rfl⟩ := r.isInt
  obtain ⟨t', rfl⟩ := q.isInt
  refine floordiv_int hb ?_ (.inl hs)
  exact ⟨keeps_toks s _, .int _ _⟩
theorem Bn_addS {x y : Str} (hsz : x.length + y.length ≤ 100000) : Bn prog w h₀ .Add (.str x) (.str y) (.str (x ++ y)) := by
  intro X A s v u c R r q
  obtain ⟨t, rfl⟩ := r.isStr
  obtain ⟨t', rfl⟩ := q.isStr
  refine SBL.add (fun t' k _ => ?_) (by rw [sizeLine_eq]; omega)
  exact ⟨keeps_toks s _, .str _ _⟩
theorem Bn_mulS {x : Str} {i : Int} (hm : MulOk x i) : Bn prog w h₀ .Mult (.str x) (.int i) (.str (Txt.mul x i)) := by
  intro X A s v u c R r q
  obtain ⟨t, rfl⟩ := r.isStr
  obtain ⟨t', rfl⟩ := q.isInt
  refine SB.mul hm fun t' k => ?_
  exact ⟨keeps_toks s _, .str _ _⟩
theorem Bn_addL {p q : List PV} (hsz : p.length + q.length ≤ 100000) : Bn prog w h₀ .Add (.lst p) (.lst q) (.lst (p ++ q)) := by
  intro X A s v u c R r r'
  obtain ⟨a, vs, k, rfl, e, q1⟩ := r.isList
  obtain ⟨b, us, k', rfl, e', q2⟩ := r'.isList
  refine P.add_list e e' ?_ (by simp only [List.size_toArray, q1.length, q2.length, sizeLine_eq]; omega)
  refine ⟨keeps_push s _, .lst (vs := vs ++ us) (n := 0) ?_ c.new ((q1.append q2).mono fun b o nn e => ⟨Heap.get?_push_of_some _ e, nn⟩)⟩
  rw [Heap.get?_push_size _ rfl]; simp

theorem Cm_eqI {a b : Int} : Cm prog w h₀ .Eq (.int a) (.int b) (.bool (a == b)) := by
  intro X A s v u c R r q
  obtain ⟨t, rfl⟩ := r.isInt
  obtain ⟨t', rfl⟩ := q.isInt
  refine eq_int ?_
  exact ⟨keeps_refl s, .bool _⟩
theorem Cm_ltI {a b : Int} : Cm prog w h₀ .Lt (.int a) (.int b) (.bool (decide (a < b))) := by
  intro X A s v u c R r q
  obtain ⟨t, rfl⟩ := r.isInt
  obtain ⟨t', rfl⟩ := q.isInt
  refine lt_int ?_
  exact ⟨keeps_refl s, .bool _⟩
theorem Cm_gtI {a b : Int} : Cm prog w h₀ .Gt (.int a) (.int b) (.bool (decide (b < a))) := by
  intro X A s v u c R r q
  obtain ⟨t, rfl⟩ := r.isInt
  obtain ⟨t', rfl⟩ := q.isInt
  refine gt_int ?_
  exact ⟨keeps_refl s, .bool _⟩
theorem Cm_eqS {a b : Str} : Cm prog w h₀ .Eq (.str a) (.str b) (.bool (a == b)) := by
  intro X A s v u c R r q
  obtain ⟨t, rfl⟩ := r.isStr
  obtain ⟨t', rfl⟩ := q.isStr
  refine eq_str ?_
  exact ⟨keeps_refl s, .bool _⟩
theorem Cm_ltS {a b : Str} : Cm prog w h₀ .Lt (.str a) (.str b) (.bool (decide (a.cps.toList < b.cps.toList))) := by
  intro X A s v u c R r q
  obtain ⟨t, rfl⟩ := r.isStr
  obtain ⟨t', rfl⟩ := q.isStr
  refine PyProof.Rows.lt_str ?_
  exact ⟨keeps_refl s, .bool _⟩
theorem Cm_gtS {a b : Str} : Cm prog w h₀ .Gt (.str a) (.str b) (.bool (decide (b.cps.toList < a.cps.toList))) := by
  intro X A s v u c R r q
  obtain ⟨t, rfl⟩ := r.isStr
  obtain ⟨t', rfl⟩ := q.isStr
  refine P.gt_str ?_
  exact ⟨keeps_refl s, .bool _⟩
theorem Cm_eqD {p q : PV} (hp : SeqAt.shaped p.py = true) (hq : SeqAt.shaped q.py = true) : Cm prog w h₀ .Eq p q (.bool (PyData.eqv p.py q.py)) := by
  intro X A s v u c R r q
  obtain ⟨as, r⟩ := r.py
  obtain ⟨bs, q⟩ := q.py
  refine eq_dataH r q hp hq (by have := R.units; omega) ?_
  exact ⟨keeps_refl s, .bool _⟩
theorem Cm_neD {p q : PV} (hp : SeqAt.shaped p.py = true) (hq : SeqAt.shaped q.py = true) : Cm prog w h₀ .NotEq p q (.bool (!PyData.eqv p.py q.py)) := by
  intro X A s v u c R r q
  obtain ⟨as, r⟩ := r.py
  obtain ⟨bs, q⟩ := q.py
  refine ne_dataH r q hp hq (by have := R.units; omega) ?_
  exact ⟨keeps_refl s, .bool _⟩
theorem Cm_inD {p : PV} {l : List PV} (hl : PyData.canLayAll0 (PV.pys l) = true) (hp : p.py.canLay0 = true) (hd : p.py.depth ≤ 8) : Cm prog w h₀ .In p (.lst l) (.bool ((PV.pys l).any fun y => PyData.eqv y p.py)) := by
  intro X A s v u c R r q
  obtain ⟨as, r⟩ := r.py
  obtain ⟨bs, q⟩ := q.py
  rw [PV.py] at q
  refine SeqAt.in_list_reads q r hl hp (by have := R.units; omega) ?_
  exact ⟨keeps_refl s, .bool _⟩
theorem Cm_notInD {p : PV} {l : List PV} (hl : PyData.canLayAll0 (PV.pys l) = true) (hp : p.py.canLay0 = true) (hd : p.py.depth ≤ 8) : Cm prog w h₀ .NotIn p (.lst l) (.bool (!(PV.pys l).any fun y => PyData.eqv y p.py)) := by
  intro X A s v u c R r q
  obtain ⟨as, r⟩ := r.py
  obtain ⟨bs, q⟩ := q.py
  rw [PV.py] at q
  refine SeqAt.notIn_list_reads q r hl hp (by have := R.units; omega) ?_
  exact ⟨keeps_refl s, .bool _⟩
end
end Mine
end
section
open PySem PySem.W PyProof.Rows PySem.Calls
namespace Mine

theorem ns_unique {h : Heap} {a : Addr} {m m' : Str → Option Value} (x : h.Ns a m) (y : h.Ns a m') : m = m' := funext fun n => Heap.Ns.agree x y n
theorem ns_some {h : Heap} {a : Addr} {m : Str → Option Value} (x : h.Ns a m) : (h.get? a).isSome = true := by
  obtain ⟨o, es, ep, e, _⟩ := x
  rw [e]; rfl
theorem cell_some {h : Heap} {a : Addr} {v : Option Value} (x : h.IsCell a v) : (h.get? a).isSome = true := by
  obtain ⟨o, e, _⟩ := x
  rw [e]; rfl
theorem ns_ne_cell {h : Heap} {a c : Addr} {m : Str → Option Value} {v : Option Value} (x : h.Ns a m) (y : h.IsCell c v) : c ≠ a := by
  rintro rfl
  obtain ⟨o, es, ep, e, d, _⟩ := x
  obtain ⟨o', e', d'⟩ := y
  rw [e] at e'; cases e'
  rw [d] at d'; cases d'

structure Frm (env : Env) (h : Heap) : Prop where
  ns : ∃ m, h.Ns env.locals m
  cell : ∀ n c, env.cells.lookup n = some c → ∃ v, h.IsCell c v
  apart : env.cells.Pairwise fun x y => x.2 ≠ y.2

structure MutH where
  a : Addr
  cls : Value
  dict : Option Addr
noncomputable abbrev MutH.obj (q : MutH) (vs : List Value) (k : Nat) : Obj := { cls := q.cls, dict := q.dict, data := .seq vs.toArray k }

structure Ext (s₀ : Shared) (X B : Addr → Prop) (hB : Heap) (X' B' : Addr → Prop) (hB' : Heap) : Prop where
  sub : ∀ a, X a → X' a
  new : ∀ a, X' a → X a ∨ s₀.heap.get? a = none
  fix : ∀ b o, B b → hB.get? b = some o → B' b ∧ hB'.get? b = some o
theorem Ext.refl {s₀ : Shared} {X B : Addr → Prop} {hB : Heap} : Ext s₀ X B hB X B hB := ⟨fun _ q => q, fun _ q => .inl q, fun _ _ q e => ⟨q, e⟩⟩
theorem Ext.trans {s₀ : Shared} {X B X' B' X'' B'' : Addr → Prop} {hB hB' hB'' : Heap} (x : Ext s₀ X B hB X' B' hB') (y : Ext s₀ X' B' hB' X'' B'' hB'') : Ext s₀ X B hB X'' B'' hB'' :=
  ⟨fun a q => y.sub a (x.sub a q), fun a q => (y.new a q).elim (x.new a) .inr, fun b o q e => let ⟨q', e'⟩ := x.fix b o q e; y.fix b o q' e'⟩

structure Sta (h₀ : Heap) (s₀ : Shared) (env : Env) (X B : Addr → Prop) (hB : Heap) (Γ : List (Str × VK)) (Λ : List (MutH × List PV)) (s : Shared) : Prop where
  same : ∃ h tk, s = { s₀ with heap := h, toks := tk }
  old : ∀ b o, ¬ X b → s₀.heap.get? b = some o → s.heap.get? b = some o
  fixd : ∀ b o, B b → hB.get? b = some o → s.heap.get? b = some o
  cok : Cok h₀ env X Γ s.heap
  frm : Frm env s.heap
  ownL : X env.locals ∧ ¬ B env.locals
  ownC : ∀ n c, env.cells.lookup n = some c → X c ∧ ¬ B c
  muts : ∀ q ∈ Λ, X q.1.a ∧ ¬ B q.1.a ∧ ∃ vs k, s.heap.get? q.1.a = some (q.1.obj vs k) ∧ RdL s.heap X vs q.2
  nodup : (Λ.map (·.1.a)).Nodup

section
variable {h₀ : Heap} {s₀ : Shared} {env : Env} {X B : Addr → Prop} {hB : Heap} {Γ : List (Str × VK)} {Λ : List (MutH × List PV)} {s s' : Shared}

theorem Frm.keep (F : Frm env s.heap) (k : Keeps s s') : Frm env s'.heap := by
  obtain ⟨h, tk, rfl, k⟩ := k
  obtain ⟨⟨m, hm⟩, c, a⟩ := F
  exact ⟨⟨m, hm.keeps k⟩, fun n d e => let ⟨v, hv⟩ := c n d e; ⟨v, hv.keeps k⟩, a⟩
theorem Sta.keep (S : Sta h₀ s₀ env X B hB Γ Λ s) (k : Keeps s s') : Sta h₀ s₀ env X B hB Γ Λ s' := by
  have k' := k
  obtain ⟨h, tk, rfl, kk⟩ := k
  obtain ⟨h1, t1, rfl⟩ := S.same
  exact ⟨⟨h, tk, rfl⟩, fun b o n e => kk b o (S.old b o n e), fun b o n e => kk b o (S.fixd b o n e), S.cok.keep k', S.frm.keep k', S.ownL, S.ownC,
    fun q hq => let ⟨a, b, vs, n, e, r⟩ := S.muts q hq; ⟨a, b, vs, n, kk _ _ e, r.keep k'⟩, S.nodup⟩

theorem Sta.turn1 (S : Sta h₀ s₀ env X B hB Γ Λ s) {c : Addr} {h' : Heap} {tk : Nat} (hX : X c) (hBn : ¬ B c) (hs : Heap.SameBut c s.heap h') (hlive : (h'.get? c).isSome = true)
    (Γ' : List (Str × VK)) (Λ' : List (MutH × List PV)) (hF : Frm env h')
    (hΓ : ∀ y k, Γ'.lookup y = some k → ∃ v, VarAt h' env y v ∧ k.holds h' X v)
    (hΛ : ∀ q ∈ Λ', (q ∈ Λ ∧ q.1.a ≠ c) ∨ (X q.1.a ∧ ¬ B q.1.a ∧ ∃ vs k, h'.get? q.1.a = some (q.1.obj vs k) ∧ RdL h' X vs q.2)) (hnd : (Λ'.map (·.1.a)).Nodup) :
    Sta h₀ s₀ env X B hB Γ' Λ' { s with heap := h', toks := tk } := by
  obtain ⟨h1, t1, rfl⟩ := S.same
  have kk : ∀ b, b ≠ c → h'.get? b = h1.get? b := hs.2
  have mono : ∀ b o, ¬ X b → h1.get? b = some o → h'.get? b = some o ∧ ¬ X b := fun b o n e => ⟨(kk b fun q => n (q ▸ hX)).trans e, n⟩
  refine ⟨⟨h', tk, rfl⟩, fun b o n e => ?_, fun b o n e => ?_, ⟨S.cok.ok, fun b o e => ?_, fun a x => ⟨(S.cok.xok a x).1, ?_⟩, hΓ⟩, hF, S.ownL, S.ownC, fun q hq => ?_, hnd⟩
  · exact (kk b fun q => n (q ▸ hX)).trans (S.old b o n e)
  · exact (kk b fun q => hBn (q ▸ n)).trans (S.fixd b o n e)
  · exact (kk b fun q => by have := (S.cok.xok c hX).1; rw [← q, e] at this; cases this).trans (S.cok.gd b o e)
  · by_cases q : a = c
    · subst q; exact hlive
    · show (h'.get? a).isSome = true
      rw [kk a q]; exact (S.cok.xok a x).2
  · rcases hΛ q hq with ⟨m, ne⟩ | r
    · obtain ⟨a, b, vs, k, e, r⟩ := S.muts q m
      exact ⟨a, b, vs, k, (kk _ ne).trans e, r.mono mono⟩
    · exact r

theorem lookup_cons_ne {x y : Str} {k : VK} {Γ : List (Str × VK)} (h : y ≠ x) : ((x, k) :: Γ).lookup y = Γ.lookup y := by
  rw [List.lookup_cons]
  have : (y == x) = false := by simpa using h
  rw [this]
theorem lookup_cons_eq {x : Str} {k : VK} {Γ : List (Str × VK)} : ((x, k) :: Γ).lookup x = some k := by
  rw [List.lookup_cons]
  have : (x == x) = true := by simp
  rw [this]

noncomputable def CanStore (env : Env) (x : Str) : Prop := env.kindOf x = some .local ∨ (env.kindOf x = some .cell ∧ ∃ c, env.cells.lookup x = some c)

theorem Sta.storeK {prog : Program} {w : World} {A : Around} {x : Str} {v : Value} {k : VK} {Q : Unit → Shared → Prop} {E : Value → Shared → Prop} (S : Sta h₀ s₀ env X B hB Γ Λ s) (hx : CanStore env x) (r : k.holds s.heap X v)
    (h : ∀ s', Sta h₀ s₀ env X B hB ((x, k) :: Γ) Λ s' → Q () s') : wpAny (model prog w) A (storeName env x v) Q E s := by
  obtain ⟨m, hm⟩ := S.frm.ns
  have hk := S.cok.ok.kind
  rcases hx with hl | ⟨hl, c, hc⟩
  · refine wpAny_storeName_local hl hm (fun h' hn hs => h _ ?_) (by rw [hk]; rfl)
    have mono : ∀ b o, ¬ X b → s.heap.get? b = some o → h'.get? b = some o ∧ ¬ X b := fun b o n e => ⟨(hs.2 b fun q => n (q ▸ S.ownL.1)).trans e, n⟩
    have cells : ∀ n c v, env.cells.lookup n = some c → s.heap.IsCell c v → h'.IsCell c v := fun n c v _ hv => hv.sameBut hs (ns_ne_cell hm hv)
    refine S.turn1 S.ownL.1 S.ownL.2 hs (ns_some hn) _ _ ⟨⟨_, hn⟩, fun n c e => let ⟨v, hv⟩ := S.frm.cell n c e; ⟨v, cells n c v e hv⟩, S.frm.apart⟩ (fun y k' e => ?_) (fun q hq => .inl ⟨hq, ?_⟩) S.nodup
    · by_cases hy : y = x
      · subst hy
        rw [lookup_cons_eq] at e
        cases e
        exact ⟨v, .inl ⟨hl, _, hn, by simp⟩, VK.holds_mono mono r⟩
      · rw [lookup_cons_ne hy] at e
        obtain ⟨u, hu, ru⟩ := S.cok.has y k' e
        refine ⟨u, ?_, VK.holds_mono mono ru⟩
        rcases hu with ⟨a, m', n', e'⟩ | ⟨a, c, e', hv⟩
        · exact .inl ⟨a, _, hn, by simp only [if_neg hy]; rw [ns_unique hm n']; exact e'⟩
        · exact .inr ⟨a, c, e', cells _ _ _ e' hv⟩
    · intro e
      obtain ⟨_, _, vs, n, e1, _⟩ := S.muts q hq
      obtain ⟨o, es, ep, e2, d, _⟩ := hm
      rw [e, e2] at e1; cases e1; cases d
  · obtain ⟨v₀, hv₀⟩ := S.frm.cell x c hc
    refine wpAny_storeName_cell hk hl hc hv₀ fun h' hn hs => h _ ?_
    have own := S.ownC x c hc
    have mono : ∀ b o, ¬ X b → s.heap.get? b = some o → h'.get? b = some o ∧ ¬ X b := fun b o n e => ⟨(hs.2 b fun q => n (q ▸ own.1)).trans e, n⟩
    have cells : ∀ n c' v, n ≠ x → env.cells.lookup n = some c' → s.heap.IsCell c' v → h'.IsCell c' v := fun n c' v hne hc' hv => hv.sameBut hs fun q => hne (name_of_addr S.frm.apart (mem_of_lookup hc') (q ▸ mem_of_lookup hc))
    have hL : env.locals ≠ c := fun q => ns_ne_cell hm hv₀ q.symm
    have hm' : h'.Ns env.locals m := hm.sameBut hs hL
    have key := S.turn1 (tk := s.toks) own.1 own.2 hs (cell_some hn) ((x, k) :: Γ) Λ ⟨⟨_, hm'⟩, fun n c' e => ?_, S.frm.apart⟩ (fun y k' e => ?_) (fun q hq => .inl ⟨hq, ?_⟩) S.nodup
    · exact key
    · by_cases hn' : n = x
      · subst hn'; rw [hc] at e; cases e; exact ⟨_, hn⟩
      · obtain ⟨v, hv⟩ := S.frm.cell n c' e
        exact ⟨v, cells n c' v hn' e hv⟩
    · by_cases hy : y = x
      · subst hy
        rw [lookup_cons_eq] at e
        cases e
        exact ⟨v, .inr ⟨hl, c, hc, hn⟩, VK.holds_mono mono r⟩
      · rw [lookup_cons_ne hy] at e
        obtain ⟨u, hu, ru⟩ := S.cok.has y k' e
        refine ⟨u, ?_, VK.holds_mono mono ru⟩
        rcases hu with ⟨a, m', n', e'⟩ | ⟨a, c', e', hv⟩
        · exact .inl ⟨a, _, hm', by rw [ns_unique hm n']; exact e'⟩
        · exact .inr ⟨a, c', e', cells y c' _ hy e' hv⟩
    · intro e
      obtain ⟨_, _, vs, n, e1, _⟩ := S.muts q hq
      obtain ⟨o, e2, d⟩ := hv₀
      rw [e, e2] at e1; cases e1; cases d

theorem Sta.weak (S : Sta h₀ s₀ env X B hB Γ Λ s) {Γ' : List (Str × VK)} (h : ∀ y k, Γ'.lookup y = some k → Γ.lookup y = some k) : Sta h₀ s₀ env X B hB Γ' Λ s :=
  ⟨S.same, S.old, S.fixd, ⟨S.cok.ok, S.cok.gd, S.cok.xok, fun y k e => S.cok.has y k (h y k e)⟩, S.frm, S.ownL, S.ownC, S.muts, S.nodup⟩
theorem sub_of {Γ : List (Str × VK)} : ∀ {Γ' : List (Str × VK)}, (∀ q ∈ Γ', Γ.lookup q.1 = some q.2) → ∀ y k, Γ'.lookup y = some k → Γ.lookup y = some k
  | [], _, _, _, e => by simp at e
  | (x, k) :: r, h, y, k', e => by
    by_cases q : y = x
    · subst q
      rw [lookup_cons_eq] at e
      cases e
      exact h _ (.head _)
    · rw [lookup_cons_ne q] at e
      exact sub_of (fun p hp => h p (.tail _ hp)) y k' e
end

section
variable {prog : Program} {w : World} {h₀ : Heap} {s₀ : Shared} {n : Nat} {env : Env} {X B : Addr → Prop} {hB : Heap} {Γ : List (Str × VK)} {Λ : List (MutH × List PV)} {A : Around} {s : Shared} {Q : Flow → Shared → Prop}

theorem St_nil (h : Q .next s) : wpAny (model prog w) A (execs [] env) Q NoE s := wpAny_execs_nil h
theorem St_assign {x : Str} {px pos : Pos} {e : Expr} {rest : List Stmt} {p : PV} (S : Sta h₀ s₀ env X B hB Γ Λ s) (R : Room A n) (he : Ex prog w h₀ n env X Γ e p) (hx : CanStore env x)
    (h : ∀ s', Sta h₀ s₀ env X B hB ((x, .pv p) :: Γ) Λ s' → wpAny (model prog w) A (execs rest env) Q NoE s')
    (hsw : swapsWith e (some (.Name x px)) pos.line env = pure false := by kernel_rfl!) :
    wpAny (model prog w) A (execs (.Assign [.Name x px] e pos :: rest) env) Q NoE s := by
  refine wpAny_execs_cons (wpAny_Assign_Name (wpAny_mono (he A s R S.cok) (fun v s₁ h₁ => ?_) fun _ _ e => e) hsw)
  exact (S.keep h₁.1).storeK hx (k := .pv p) h₁.2 fun s' S' => h s' S'
theorem St_ret {e : Expr} {pos : Pos} {rest : List Stmt} {p : PV} (S : Sta h₀ s₀ env X B hB Γ Λ s) (R : Room A n) (he : Ex prog w h₀ n env X Γ e p)
    (h : ∀ v s', Sta h₀ s₀ env X B hB Γ Λ s' → Rd s'.heap X v p → Q (.ret v) s') : wpAny (model prog w) A (execs (.Return (some e) pos :: rest) env) Q NoE s := by
  refine wpAny_execs_cons (wpAny_Return_some (wpAny_mono (he A s R S.cok) (fun v s₁ h₁ => ?_) fun _ _ e => e))
  exact h v s₁ (S.keep h₁.1) h₁.2
noncomputable def Ts (prog : Program) (w : World) (h₀ : Heap) (n : Nat) (env : Env) (X : Addr → Prop) (Γ : List (Str × VK)) (e : Expr) (b : Bool) : Prop :=
  ∀ A s, Room A n → Cok h₀ env X Γ s.heap → wpAny (model prog w) A (isTrue e env (eval e env)) (fun c s' => Keeps s s' ∧ c = b) NoE s
theorem Ts_bool {e : Expr} {b : Bool} (h : Ex prog w h₀ n env X Γ e (.bool b)) (he : isTrue e env (eval e env) = (do let v ← eval e env; standAt e.pos; holding [v] (truthy v)) := by kernel_rfl!) : Ts prog w h₀ n env X Γ e b := by
  intro A s R C
  refine wpAny_isTrue_value (wpAny_mono (h A s R C) (fun v s₁ h₁ => ?_) fun _ _ e => e) he
  obtain rfl := h₁.2.isBool
  exact wpAny_truthy_bool ⟨h₁.1, rfl⟩
theorem Ts_cmp {l r : Expr} {op : CmpOp} {pos : Pos} {p q : PV} {b : Bool} (hl : Ex prog w h₀ n env X Γ l p) (hr : Ex prog w h₀ n env X Γ r q) (hb : Cm prog w h₀ op p q (.bool b)) (hm : behindInMarks op r = false := by kernel_rfl!) (hn : 4 ≤ n := by decide) :
    Ts prog w h₀ n env X Γ (.Compare l [op] [r] pos) b := by
  intro A s R C
  refine wpAny_isTrue_Compare1 ?_ hm
  refine wpAny_mono (hl A s R C) (fun a s₁ h₁ => wpAny_mono (hr A s₁ R (C.keep h₁.1)) (fun b' s₂ h₂ => ?_) fun _ _ e => e) fun _ _ e => e
  refine wpAny_mono (hb X A s₂ a b' ((C.keep h₁.1).keep h₂.1).x (R.le hn) (h₁.2.keep h₂.1) h₂.2) (fun v s₃ h₃ => ?_) fun _ _ e => e
  obtain rfl := h₃.2.isBool
  exact wpAny_truthy_bool ⟨keeps_trans h₁.1 (keeps_trans h₂.1 h₃.1), rfl⟩
noncomputable def Then (prog : Program) (w : World) (A : Around) (rest : List Stmt) (env : Env) (Q : Flow → Shared → Prop) (f : Flow) (s : Shared) : Prop := match f with
  | .next => wpAny (model prog w) A (execs rest env) Q NoE s
  | f => Q f s
theorem St_if {t : Expr} {body orelse rest : List Stmt} {pos : Pos} {b : Bool} (S : Sta h₀ s₀ env X B hB Γ Λ s) (R : Room A n) (ht : Ts prog w h₀ n env X Γ t b)
    (h : ∀ s', Sta h₀ s₀ env X B hB Γ Λ s' → wpAny (model prog w) A (execs (if b then body else orelse) env) (Then prog w A rest env Q) NoE s') :
    wpAny (model prog w) A (execs (.If t body orelse pos :: rest) env) Q NoE s := by
  refine wpAny_execs_cons (wpAny_If (wpAny_mono (ht A s R S.cok) (fun c s₁ h₁ => ?_) fun _ _ e => e))
  obtain ⟨k, rfl⟩ := h₁
  have := h s₁ (S.keep k)
  cases c
  · exact wpAny_mono this (fun f s q => by cases f <;> exact q) fun _ _ e => e
  · exact wpAny_mono this (fun f s q => by cases f <;> exact q) fun _ _ e => e
theorem St_aug {x : Str} {px pos : Pos} {op : Operator} {e : Expr} {rest : List Stmt} {p q r : PV} (S : Sta h₀ s₀ env X B hB Γ Λ s) (R : Room A n) (hx : CanStore env x) (hp : Γ.lookup x = some (.pv p)) (he : Ex prog w h₀ n env X Γ e q)
    (hi : ∀ s a b, Rd s.heap X a p → Rd s.heap X b q → XOk h₀ X s.heap → wpAny (model prog w) A (inplaceOp op a b) (fun v s' => Keeps s s' ∧ Rd s'.heap X v r) NoE s)
    (h : ∀ s', Sta h₀ s₀ env X B hB ((x, .pv r) :: Γ) Λ s' → wpAny (model prog w) A (execs rest env) Q NoE s') :
    wpAny (model prog w) A (execs (.AugAssign (.Name x px) op e pos :: rest) env) Q NoE s := by
  obtain ⟨v, hv, rv⟩ := S.cok.has x _ hp
  refine wpAny_execs_cons (wpAny_AugAssign_Name (hv.load S.cok.ok (wpAny_mono (he A s R S.cok) (fun u s₁ h₁ => ?_) fun _ _ e => e)))
  refine wpAny_mono (hi s₁ v u (Rd.keep rv h₁.1) h₁.2 (S.cok.keep h₁.1).x) (fun y s₂ h₂ => ?_) fun _ _ e => e
  exact ((S.keep h₁.1).keep h₂.1).storeK hx (k := .pv r) h₂.2 fun s' S' => h s' S'
end
end Mine
end
section
open PySem PySem.W PyProof.Rows PySem.Calls
namespace Mine

structure ItW (prog : Program) (w : World) (A : Around) (X : Addr → Prop) (items : List PV) (s s₂ : Shared) (I : Addr) (fp wr : List Addr) (P : Nat → Value → Prop) (St : Nat → Heap → Prop) : Prop where
  walks : Walks prog w A I fp wr items.length P St
  st : St 0 s₂.heap
  lt : ∀ b ∈ fp, b < s₂.heap.objs.size
  fresh : ∀ b ∈ wr, s.heap.get? b = none
  live : ∀ i h, St i h → ∀ b ∈ wr, (h.get? b).isSome = true
  off : ∀ b ∈ fp, b ∈ wr ∨ ¬ X b
  item : ∀ i v p, P i v → items[i]? = some p → ∀ (h' : Heap) (X' : Addr → Prop), (∀ b, X' b → X b ∨ s.heap.get? b = none) → (∀ b o, ¬ X' b → s.heap.get? b = some o → h'.get? b = some o) → Rd h' X' v p
noncomputable def ItX (prog : Program) (w : World) (A : Around) (X : Addr → Prop) (items : List PV) (s : Shared) (it : Value) (s₂ : Shared) : Prop :=
  Keeps s s₂ ∧ ∃ I fp wr P St, it = .ref I ∧ ItW prog w A X items s s₂ I fp wr P St
noncomputable def It (prog : Program) (w : World) (h₀ : Heap) (n : Nat) (env : Env) (X : Addr → Prop) (Γ : List (Str × VK)) (e : Expr) (items : List PV) : Prop :=
  ∀ A s, Room A n → Cok h₀ env X Γ s.heap → wpAny (model prog w) A (eval e env) (fun v s₁ => Keeps s s₁ ∧ wpAny (model prog w) A (pyIter v) (ItX prog w A X items s₁) NoE s₁) NoE s

section
variable {prog : Program} {w : World} {h₀ : Heap} {n : Nat} {env : Env} {X : Addr → Prop} {Γ : List (Str × VK)} {A : Around} {s : Shared}

theorem iter_list {v : Value} {ps : List PV} (hh : A.handled = none) (r : Rd s.heap X v (.lst ps)) : wpAny (model prog w) A (pyIter v) (ItX prog w A X ps s) NoE s := by
  have r0 := r
  obtain ⟨a, vs, k, rfl, e, rs⟩ := r.isList
  have nX : ¬ X a := by cases r0 with | lst _ q _ => exact q
  have hl := lst_isList e
  have hne : a ≠ s.heap.objs.size := Nat.ne_of_lt (Heap.lt_size e)
  refine wpAny_pyIter_list hl ?_
  have W := Walks.list (prog := prog) (w := w) hh s.heap.objs.size a hne vs.toArray
  have hsz : vs.toArray.size = ps.length := by simp [rs.length]
  rw [hsz] at W
  refine ⟨keeps_push s _, _, _, _, _, _, rfl, W, ⟨⟨_, Heap.get?_push_size _ rfl, rfl, rfl⟩, hl.push _⟩, ?_, ?_, ?_, ?_, ?_⟩
  · intro b hb
    rw [Heap.size_push]
    simp only [List.mem_cons, List.not_mem_nil, or_false] at hb
    rcases hb with rfl | rfl
    · exact Nat.lt_succ_self _
    · exact Nat.lt_succ_of_lt (Heap.lt_size e)
  · intro b hb
    simp only [List.mem_cons, List.not_mem_nil, or_false] at hb
    subst hb
    cases q : s.heap.get? s.heap.objs.size with
    | none => rfl
    | some o => exact absurd (Heap.lt_size q) (Nat.lt_irrefl _)
  · intro i h st b hb
    simp only [List.mem_cons, List.not_mem_nil, or_false] at hb
    subst hb
    obtain ⟨⟨o, ho, _⟩, _⟩ := st
    rw [ho]; rfl
  · intro b hb
    simp only [List.mem_cons, List.not_mem_nil, or_false] at hb ⊢
    rcases hb with rfl | rfl
    · exact .inl rfl
    · exact .inr nX
  · intro i v p hP hi h' X' hX hk
    have hv : vs[i]? = some v := by simpa using hP
    obtain ⟨p', hp', rv⟩ := rs.get' hv
    rw [hi] at hp'; cases hp'
    refine rv.mono fun b o nb eb => ?_
    have nb' : ¬ X' b := fun q => by
      rcases hX b q with q | q
      · exact nb q
      · rw [eb] at q; cases q
    exact ⟨hk b o nb' eb, nb'⟩
theorem It_list {e : Expr} {ps : List PV} (h : Ex prog w h₀ n env X Γ e (.lst ps)) : It prog w h₀ n env X Γ e ps := by
  intro A s R C
  refine wpAny_mono (h A s R C) (fun v s₁ h₁ => ?_) fun _ _ e => e
  exact ⟨h₁.1, iter_list R.handled h₁.2⟩

noncomputable def rangePV (a c : Int) (k : Nat) : List PV := (List.range k).map fun (i : Nat) => .int (a + (i : Int) * c)
theorem iter_range {r : Addr} {a b c : Int} {t u v : Tok} {k : Nat} (hh : A.handled = none) (hr : IsRange s.heap r a b c t u v) (hs : Builtin.Range.small a b c = true) (hk : Builtin.Range.rangeSize a b c = k) :
    wpAny (model prog w) A (pyIter (.ref r)) (ItX prog w A X (rangePV a c k) s) NoE s := by
  refine wpAny_pyIter_range hr hs ?_
  have W := Walks.range (prog := prog) (w := w) hh s.heap.objs.size a c k
  have hlen : (rangePV a c k).length = k := by simp [rangePV]
  rw [← hlen] at W
  refine ⟨keeps_push s _, _, _, _, _, _, rfl, W, ?_, ?_, ?_, ?_, ?_, ?_⟩
  · show IsRangeIter _ _ _ _ _
    rw [hlen, hk]; simpa using Heap.get?_push_size _ rfl
  · intro b hb
    rw [Heap.size_push]
    simp only [List.mem_cons, List.not_mem_nil, or_false] at hb
    subst hb
    exact Nat.lt_succ_self _
  · intro b hb
    simp only [List.mem_cons, List.not_mem_nil, or_false] at hb
    subst hb
    cases q : s.heap.get? s.heap.objs.size with
    | none => rfl
    | some o => exact absurd (Heap.lt_size q) (Nat.lt_irrefl _)
  · intro i h st b hb
    simp only [List.mem_cons, List.not_mem_nil, or_false] at hb
    subst hb
    have st' : h.get? s.heap.objs.size = some _ := st
    rw [st']; rfl
  · intro b hb
    exact .inl hb
  · rintro i v p ⟨t, rfl⟩ hi h' X' _ _
    have : p = .int (a + i * c) := by
      unfold rangePV at hi
      rw [List.getElem?_map] at hi
      obtain ⟨j, hj, rfl⟩ := Option.map_eq_some_iff.mp hi
      obtain ⟨hl, rfl⟩ := List.getElem?_eq_some_iff.mp hj
      simp
    rw [this]
    exact .int _ _
end

section
variable {prog : Program} {w : World} {h₀ : Heap} {s₀ : Shared} {n : Nat} {env : Env} {X B : Addr → Prop} {hB : Heap} {Γ : List (Str × VK)} {Λ : List (MutH × List PV)} {A : Around} {s : Shared} {Q : Flow → Shared → Prop}

theorem VarAt.wr {h h' : Heap} {wr : List Addr} {x : Str} {v : Value} (r : VarAt h env x v) (hk : ∀ b o, b ∉ wr → h.get? b = some o → h'.get? b = some o) (hL : env.locals ∉ wr) (hC : ∀ n c, env.cells.lookup n = some c → c ∉ wr) : VarAt h' env x v := by
  rcases r with ⟨a, m, nn, e⟩ | ⟨a, c, b, e⟩
  · exact .inl ⟨a, m, nn.at' fun o q => hk _ o hL q, e⟩
  · obtain ⟨o, ho, hd⟩ := e
    exact .inr ⟨a, c, b, o, hk _ o (hC _ _ b) ho, hd⟩
theorem Frm.wr {h h' : Heap} {wr : List Addr} (F : Frm env h) (hk : ∀ b o, b ∉ wr → h.get? b = some o → h'.get? b = some o) (hL : env.locals ∉ wr) (hC : ∀ n c, env.cells.lookup n = some c → c ∉ wr) : Frm env h' := by
  obtain ⟨⟨m, hm⟩, c, a⟩ := F
  exact ⟨⟨m, hm.at' fun o q => hk _ o hL q⟩, fun n d e => let ⟨v, o, ho, hd⟩ := c n d e; ⟨v, o, hk _ o (hC _ _ e) ho, hd⟩, a⟩

theorem Sta.wr (S : Sta h₀ s₀ env X B hB Γ Λ s) {wr : List Addr} {h' : Heap} {tk : Nat} (hk : ∀ b o, b ∉ wr → s.heap.get? b = some o → h'.get? b = some o) (hX : ∀ b ∈ wr, X b ∧ (h'.get? b).isSome = true)
    (hBw : ∀ b o, B b → hB.get? b = some o → b ∉ wr) (hL : env.locals ∉ wr) (hC : ∀ n c, env.cells.lookup n = some c → c ∉ wr) (hM : ∀ q ∈ Λ, q.1.a ∉ wr) : Sta h₀ s₀ env X B hB Γ Λ { s with heap := h', toks := tk } := by
  obtain ⟨h1, t1, rfl⟩ := S.same
  have mono : ∀ b o, ¬ X b → h1.get? b = some o → h'.get? b = some o ∧ ¬ X b := fun b o nb e => ⟨hk b o (fun q => nb (hX b q).1) e, nb⟩
  refine ⟨⟨h', tk, rfl⟩, fun b o nb e => (mono b o nb (S.old b o nb e)).1, fun b o nb e => hk b o (hBw b o nb e) (S.fixd b o nb e), ⟨S.cok.ok, fun b o e => ?_, fun a x => ⟨(S.cok.xok a x).1, ?_⟩, fun x k e => ?_⟩, S.frm.wr hk hL hC, S.ownL, S.ownC, fun q hq => ?_, S.nodup⟩
  · exact hk b o (fun q => by have := (S.cok.xok b (hX b q).1).1; rw [e] at this; cases this) (S.cok.gd b o e)
  · by_cases q : a ∈ wr
    · exact (hX a q).2
    · obtain ⟨o, ho⟩ := Option.isSome_iff_exists.mp (S.cok.xok a x).2
      show (h'.get? a).isSome = true
      rw [hk a o q ho]; rfl
  · obtain ⟨v, hv, r⟩ := S.cok.has x k e
    exact ⟨v, hv.wr hk hL hC, VK.holds_mono mono r⟩
  · obtain ⟨a, b, vs, k, e, r⟩ := S.muts q hq
    exact ⟨a, b, vs, k, hk _ _ (hM q hq) e, r.mono mono⟩

theorem Sta.grow (S : Sta h₀ s₀ env X B hB Γ Λ s) {s₂ : Shared} {X' : Addr → Prop} (k : Keeps s s₂) (hX : ∀ a, X a → X' a) (hX' : ∀ a, X' a → X a ∨ s.heap.get? a = none ∧ (s₂.heap.get? a).isSome = true) :
    Sta h₀ s₀ env X' B hB Γ Λ s₂ := by
  have S₂ := S.keep k
  have mono : ∀ b o, ¬ X b → s.heap.get? b = some o → s₂.heap.get? b = some o ∧ ¬ X' b := fun b o nb e => ⟨keeps_heap k e, fun q => by
    rcases hX' b q with q | q
    · exact nb q
    · rw [e] at q; cases q.1⟩
  refine ⟨S₂.same, fun b o nb e => S₂.old b o (fun q => nb (hX b q)) e, S₂.fixd, ⟨S₂.cok.ok, S₂.cok.gd, fun a x => ?_, fun x q e => ?_⟩, S₂.frm, ⟨hX _ S.ownL.1, S.ownL.2⟩, fun n c e => ⟨hX _ (S.ownC n c e).1, (S.ownC n c e).2⟩, fun q hq => ?_, S.nodup⟩
  · rcases hX' a x with q | q
    · exact S₂.cok.xok a q
    · refine ⟨?_, q.2⟩
      cases e : h₀.get? a with
      | none => rfl
      | some o => have := S.cok.gd a o e; rw [q.1] at this; cases this
  · obtain ⟨v, hv, r⟩ := S.cok.has x q e
    exact ⟨v, hv.keep k, VK.holds_mono mono r⟩
  · obtain ⟨a, b, vs, m, e, r⟩ := S.muts q hq
    exact ⟨hX _ a, b, vs, m, keeps_heap k e, r.mono mono⟩
theorem Sta.fix (S : Sta h₀ s₀ env X B hB Γ Λ s) {B' : Addr → Prop} {hB' : Heap} (hB1 : ∀ b o, B' b → hB'.get? b = some o → s.heap.get? b = some o) (hB2 : ¬ B' env.locals) (hB3 : ∀ n c, env.cells.lookup n = some c → ¬ B' c) (hB4 : ∀ q ∈ Λ, ¬ B' q.1.a) :
    Sta h₀ s₀ env X B' hB' Γ Λ s :=
  ⟨S.same, S.old, hB1, S.cok, S.frm, ⟨S.ownL.1, hB2⟩, fun n c e => ⟨(S.ownC n c e).1, hB3 n c e⟩, fun q hq => let ⟨a, _, r⟩ := S.muts q hq; ⟨a, hB4 q hq, r⟩, S.nodup⟩
theorem Sta.shrink (S : Sta h₀ s₀ env X B hB Γ Λ s) {Y : Addr → Prop} (hX : ∀ a, Y a → X a) (h0 : ∀ a, X a → Y a ∨ s₀.heap.get? a = none) (hL : Y env.locals) (hC : ∀ n c, env.cells.lookup n = some c → Y c) (hM : ∀ q ∈ Λ, Y q.1.a) : Sta h₀ s₀ env Y B hB Γ Λ s := by
  refine ⟨S.same, fun b o nb e => S.old b o (fun q => ?_) e, S.fixd, ⟨S.cok.ok, S.cok.gd, fun a x => S.cok.xok a (hX a x), fun x q e => ?_⟩, S.frm, ⟨hL, S.ownL.2⟩, fun n c e => ⟨hC n c e, (S.ownC n c e).2⟩, fun q hq => ?_, S.nodup⟩
  · rcases h0 b q with q | q
    · exact nb q
    · rw [q] at e; cases e
  · obtain ⟨v, hv, r⟩ := S.cok.has x q e
    exact ⟨v, hv, VK.holds_mono (fun b o nb e => ⟨e, fun y => nb (hX b y)⟩) r⟩
  · obtain ⟨a, b, vs, m, e, r⟩ := S.muts q hq
    exact ⟨hM q hq, b, vs, m, e, r.narrow hX⟩

theorem Sta.leave (S : Sta h₀ s₀ env X B hB Γ Λ s) {Y : Addr → Prop} {wr : List Addr} {h' : Heap} {tk : Nat} (hk : ∀ b o, b ∉ wr → s.heap.get? b = some o → h'.get? b = some o) (hX : ∀ a, Y a → X a) (hwX : ∀ b ∈ wr, X b) (hwY : ∀ b ∈ wr, ¬ Y b)
    (h0 : ∀ a, X a → Y a ∨ s₀.heap.get? a = none) (hBw : ∀ b o, B b → hB.get? b = some o → b ∉ wr) (hL : env.locals ∉ wr) (hC : ∀ n c, env.cells.lookup n = some c → c ∉ wr) (hM : ∀ q ∈ Λ, q.1.a ∉ wr)
    (hLY : Y env.locals) (hCY : ∀ n c, env.cells.lookup n = some c → Y c) (hMY : ∀ q ∈ Λ, Y q.1.a) : Sta h₀ s₀ env Y B hB Γ Λ { s with heap := h', toks := tk } := by
  obtain ⟨h1, t1, rfl⟩ := S.same
  have mono : ∀ b o, ¬ X b → h1.get? b = some o → h'.get? b = some o ∧ ¬ Y b := fun b o nb e => ⟨hk b o (fun q => nb (hwX b q)) e, fun y => nb (hX b y)⟩
  refine ⟨⟨h', tk, rfl⟩, fun b o nb e => ?_, fun b o nb e => hk b o (hBw b o nb e) (S.fixd b o nb e), ⟨S.cok.ok, fun b o e => ?_, fun a x => ⟨(S.cok.xok a (hX a x)).1, ?_⟩, fun x k e => ?_⟩, S.frm.wr hk hL hC, ⟨hLY, S.ownL.2⟩, fun n c e => ⟨hCY n c e, (S.ownC n c e).2⟩, fun q hq => ?_, S.nodup⟩
  · by_cases x : X b
    · rcases h0 b x with y | y
      · exact absurd y nb
      · rw [y] at e; cases e
    · exact (mono b o x (S.old b o x e)).1
  · exact hk b o (fun q => by have := (S.cok.xok b (hwX b q)).1; rw [e] at this; cases this) (S.cok.gd b o e)
  · obtain ⟨o, ho⟩ := Option.isSome_iff_exists.mp (S.cok.xok a (hX a x)).2
    show (h'.get? a).isSome = true
    rw [hk a o (fun q => hwY a q x) ho]; rfl
  · obtain ⟨v, hv, r⟩ := S.cok.has x k e
    exact ⟨v, hv.wr hk hL hC, VK.holds_mono mono r⟩
  · obtain ⟨a, b, vs, k, e, r⟩ := S.muts q hq
    exact ⟨hMY q hq, b, vs, k, hk _ _ (hM q hq) e, r.mono mono⟩

noncomputable def Turn (h₀ : Heap) (s₀ : Shared) (env : Env) (X B : Addr → Prop) (hB : Heap) {G : Type} (P : Nat → G → Prop) (Γf : G → List (Str × VK)) (Λf : G → List (MutH × List PV)) (i : Nat) (Q : Flow → Shared → Prop) (f : Flow) (s : Shared) : Prop := match f with
  | .next => ∃ g, P i g ∧ Sta h₀ s₀ env X B hB (Γf g) (Λf g) s
  | .cont => ∃ g, P i g ∧ Sta h₀ s₀ env X B hB (Γf g) (Λf g) s
  | .brk => False
  | .ret v => Q (.ret v) s

theorem none_of_keeps_rev {a b : Shared} (k : Keeps a b) {p : Addr} (e : b.heap.get? p = none) : a.heap.get? p = none := by
  cases q : a.heap.get? p with
  | none => rfl
  | some o => rw [keeps_heap k q] at e; cases e

theorem St_for {G : Type} {x : Str} {px pos : Pos} {iter : Expr} {body rest : List Stmt} {items : List PV} (P : Nat → G → Prop) (Γf : G → List (Str × VK)) (Λf : G → List (MutH × List PV)) (Ms : List MutH) (g₀ : G)
    (S : Sta h₀ s₀ env X B hB Γ Λ s) (R : Room A n) (hit : It prog w h₀ n env X Γ iter items) (hx : CanStore env x)
    (hΓ : ∀ y k, (Γf g₀).lookup y = some k → Γ.lookup y = some k) (hΛ : Λf g₀ = Λ) (hP : P 0 g₀) (hMs : ∀ g, (Λf g).map (·.1) = Ms)
    (turn : ∀ i g p X' B' hB' s', Ext s₀ X B hB X' B' hB' → P i g → items[i]? = some p → Sta h₀ s₀ env X' B' hB' ((x, .pv p) :: Γf g) (Λf g) s' →
      wpAny (model prog w) A (execs body env) (Turn h₀ s₀ env X' B' hB' P Γf Λf (i + 1) Q) NoE s')
    (done : ∀ g s', P items.length g → Sta h₀ s₀ env X B hB (Γf g) (Λf g) s' → wpAny (model prog w) A (execs rest env) Q NoE s')
    (hs : ∀ x, foldedSetIterable iter env x = pure x := by intro _; kernel_rfl!) :
    wpAny (model prog w) A (execs (.For (.Name x px) iter body [] pos :: rest) env) Q NoE s := by
  refine wpAny_execs_cons (wpAny_For (wpAny_mono (hit A s R S.cok) (fun v s₁ h₁ => wpAny_mono h₁.2 (fun it s₂ h₂ => ?_) fun _ _ e => e) fun _ _ e => e) hs)
  obtain ⟨k₂, I, fp, wr, Pi, St, rfl, W⟩ := h₂
  have k₁ := h₁.1
  have S₂ := (S.keep k₁).keep k₂
  have frs : ∀ b ∈ wr, s.heap.get? b = none := fun b hb => none_of_keeps_rev k₁ (W.fresh b hb)
  have liveL : (s.heap.get? env.locals).isSome = true := (S.cok.xok _ S.ownL.1).2
  have hL : env.locals ∉ wr := fun q => by rw [frs _ q] at liveL; cases liveL
  have hC : ∀ n c, env.cells.lookup n = some c → c ∉ wr := fun n c e q => by
    have := (S.cok.xok _ (S.ownC n c e).1).2
    rw [frs _ q] at this; cases this
  have hMw : ∀ q ∈ Ms, q.a ∉ wr ∧ X q.a := fun q hq => by
    rw [← hMs g₀, hΛ] at hq
    obtain ⟨q', hq', rfl⟩ := List.mem_map.mp hq
    have hXa := (S.muts q' hq').1
    refine ⟨fun e => ?_, hXa⟩
    have := (S.cok.xok _ hXa).2
    rw [frs _ e] at this; cases this
  have hM : ∀ g, ∀ q ∈ Λf g, q.1.a ∉ wr ∧ X q.1.a := fun g q hq => hMw q.1 (by rw [← hMs g]; exact List.mem_map_of_mem hq)
  have hBw : ∀ b o, B b → hB.get? b = some o → b ∉ wr := fun b o hb e q => by
    have := S.fixd b o hb e
    rw [frs _ q] at this; cases this
  let X' : Addr → Prop := fun a => X a ∨ a ∈ wr
  have hfp : ∀ b ∈ fp, b ∈ wr ∨ ¬ X b := W.off
  have h0w : ∀ b ∈ wr, h₀.get? b = none := fun b hb => by
    cases q : h₀.get? b with
    | none => rfl
    | some o => have := S.cok.gd b o q; rw [frs b hb] at this; cases this
  let J : Nat → Shared → Prop := fun m s' => ∃ i g, m = items.length - i ∧ i ≤ items.length ∧ P i g ∧ St i s'.heap ∧ (∀ b o, ¬ X' b → s₁.heap.get? b = some o → s'.heap.get? b = some o) ∧ Sta h₀ s₀ env X' B hB (Γf g) (Λf g) s'
  have S₂' : Sta h₀ s₀ env X' B hB (Γf g₀) (Λf g₀) s₂ := by
    rw [hΛ]
    refine (S.weak hΓ).grow (keeps_trans k₁ k₂) (fun a q => .inl q) fun a q => ?_
    rcases q with q | q
    · exact .inl q
    · exact .inr ⟨frs a q, W.live 0 _ W.st a q⟩
  have x'0 : ∀ a, X' a → X a ∨ s.heap.get? a = none := fun a q => q.imp id fun q => frs a q
  have s0w : ∀ a, X' a → X a ∨ s₀.heap.get? a = none := fun a q => by
    by_cases xa : X a
    · exact .inl xa
    · refine .inr ?_
      cases e : s₀.heap.get? a with
      | none => rfl
      | some o =>
        have := S.old a o xa e
        rcases q with q | q
        · exact absurd q xa
        · rw [frs a q] at this; cases this
  have fpL : env.locals ∉ fp := fun q => (hfp _ q).elim hL fun y => y S.ownL.1
  have fpC : ∀ n c, env.cells.lookup n = some c → c ∉ fp := fun n c e q => (hfp _ q).elim (hC n c e) fun y => y (S.ownC n c e).1
  refine codeAny_forLoop J ?_ (items.length - 0) ⟨0, g₀, rfl, Nat.zero_le _, hP, W.st, fun b o _ e => keeps_heap k₂ e, S₂'⟩
  rintro m s' ⟨i, g, rfl, hi, hPi, hst, hkp, S'⟩
  by_cases hlt : i < items.length
  · refine wpAny_mono (W.walks.item i s' _ NoE hlt hst fun v h' tk hPv hst' hk => ?_) (fun _ _ q => q) fun _ _ e => e.elim
    have hX1 : ∀ b ∈ wr, X' b ∧ (h'.get? b).isSome = true := fun b hb => ⟨.inr hb, W.live _ _ hst' b hb⟩
    have S1 := S'.wr (tk := tk) hk hX1 hBw hL hC fun q hq => (hM g q hq).1
    have hkp1 : ∀ b o, ¬ X' b → s₁.heap.get? b = some o → h'.get? b = some o := fun b o nb e => hk b o (fun q => nb (.inr q)) (hkp b o nb e)
    obtain ⟨p, hp⟩ : ∃ p, items[i]? = some p := ⟨_, List.getElem?_eq_getElem hlt⟩
    have rv : Rd h' X' v p := W.item i v p hPv hp h' X' (fun b q => q.imp id fun q => W.fresh b q) hkp1
    let B' : Addr → Prop := fun b => B b ∨ b ∈ fp ∨ ¬ X' b
    have S4 : Sta h₀ s₀ env X' B' h' (Γf g) (Λf g) { s' with heap := h', toks := tk } :=
      S1.fix (fun b o _ e => e) (fun q => q.elim S.ownL.2 fun q => q.elim fpL fun q => q S1.ownL.1) (fun n c e q => q.elim (S.ownC n c e).2 fun q => q.elim (fpC n c e) fun q => q (S1.ownC n c e).1)
        (fun q hq y => y.elim (S1.muts q hq).2.1 fun y => y.elim (fun y => (hfp _ y).elim (hM g q hq).1 fun z => z (hM g q hq).2) fun y => y (S1.muts q hq).1)
    refine wpAny_assign_Name (S4.storeK (k := .pv p) hx rv fun s₃ S₃ => ?_)
    refine wpAny_mono (turn i g p X' B' h' s₃ ⟨fun a q => .inl q, s0w, fun b o hb e => ⟨.inl hb, S1.fixd b o hb e⟩⟩ hPi hp S₃) (fun f s₅ q => ?_) fun _ _ e => e.elim
    have fin : (∃ g, P (i + 1) g ∧ Sta h₀ s₀ env X' B' h' (Γf g) (Λf g) s₅) → ∃ m, m < items.length - i ∧ J m s₅ := by
      rintro ⟨g', hP', S₅⟩
      refine ⟨items.length - (i + 1), by omega, i + 1, g', rfl, hlt, hP', W.walks.frame _ _ _ hst' fun b hb o e => S₅.fixd b o (.inr (.inl hb)) e, fun b o nb e => S₅.fixd b o (.inr (.inr nb)) (hkp1 b o nb e), ?_⟩
      exact S₅.fix (fun b o hb e => S₅.fixd b o (.inl hb) (S1.fixd b o hb e)) S.ownL.2 (fun n c e => (S.ownC n c e).2) fun q hq y => (S₅.muts q hq).2.1 (.inl y)
    cases f with
    | next => exact fin q
    | cont => exact fin q
    | brk => exact q.elim
    | ret v => exact q
  · have hin : i = items.length := by omega
    subst hin
    refine wpAny_mono (W.walks.done s' _ NoE hst fun h' tk hk => ?_) (fun _ _ q => q) fun _ _ e => e.elim
    refine wpAny_execs_nil (done g _ hPi ?_)
    refine S'.leave hk (fun a q => .inl q) (fun b hb => .inr hb) (fun b hb y => ?_) s0w hBw hL hC (fun q hq => (hM g q hq).1) S.ownL.1 (fun n c e => (S.ownC n c e).1) fun q hq => (hM g q hq).2
    have := (S.cok.xok b y).2
    rw [frs b hb] at this; cases this
end
end Mine
end
section
open PySem PySem.W PyProof.Rows PySem.Calls
namespace Mine

noncomputable def clOf (scope : Scope) (env : Env) : List (Str × Addr) := (scope.names.foldl (fun acc (q : Str × NameKind) => if q.2 == .free then (match env.cells.lookup q.1 with | some c => (q.1, c) :: acc | none => acc) else acc) [])
theorem clOf_go (env : Env) : ∀ (names : List (Str × NameKind)) (acc : List (Str × Addr)), (names.all fun q => q.2 != .free || (env.cells.lookup q.1).isSome) = true →
    (forIn names acc fun (q : Str × NameKind) (cs : List (Str × Addr)) => (if q.2 == .free then (do let a ← cellOf env q.1; pure (.yield ((q.1, a) :: cs))) else pure (.yield cs) : Sem (ForInStep (List (Str × Addr))))) =
      pure (names.foldl (fun acc (q : Str × NameKind) => if q.2 == .free then (match env.cells.lookup q.1 with | some c => (q.1, c) :: acc | none => acc) else acc) acc)
  | [], acc, _ => rfl
  | (x, k) :: r, acc, h => by
    simp only [List.all_cons, Bool.and_eq_true, Bool.or_eq_true, bne_iff_ne] at h
    rw [List.forIn_cons, List.foldl_cons]
    by_cases hk : k = .free
    · subst hk
      rcases h.1 with q | q
      · exact absurd rfl q
      · obtain ⟨c, hc⟩ := Option.isSome_iff_exists.mp q
        have : cellOf env x = pure c := by unfold cellOf; rw [hc]
        simp only [beq_self_eq_true, if_true, this, hc]
        exact clOf_go env r _ (by simpa using h.2)
    · have e : (k == NameKind.free) = false := by simpa using hk
      simp only [e, Bool.false_eq_true, if_false]
      exact clOf_go env r _ (by simpa using h.2)
theorem closure_clOf {scope : Scope} {env : Env} (h : (scope.names.all fun q => q.2 != .free || (env.cells.lookup q.1).isSome) = true) : closureFor scope env = pure (clOf scope env) := by
  unfold closureFor
  have := clOf_go env scope.names [] h
  unfold clOf
  rw [← this]
  simp only [bind_pure]
theorem clOf_lookup_go (env : Env) : ∀ (names : List (Str × NameKind)) (acc : List (Str × Addr)) (y : Str) (c : Addr), env.cells.lookup y = some c → (acc.lookup y = some c ∨ (acc.lookup y = none ∧ (y, NameKind.free) ∈ names)) →
    (names.foldl (fun acc (q : Str × NameKind) => if q.2 == .free then (match env.cells.lookup q.1 with | some c => (q.1, c) :: acc | none => acc) else acc) acc).lookup y = some c
  | [], acc, y, c, _, h => by
    rcases h with h | h
    · exact h
    · exact absurd h.2 (by simp)
  | (x, k) :: r, acc, y, c, hc, h => by
    rw [List.foldl_cons]
    refine clOf_lookup_go env r _ y c hc ?_
    by_cases hk : k = .free
    · subst hk
      simp only [beq_self_eq_true, if_true]
      by_cases hy : y = x
      · subst hy
        rw [hc]
        exact .inl (by simp)
      · have ne : (y == x) = false := by simpa using hy
        cases hx : env.cells.lookup x with
        | none =>
          rcases h with h | h
          · exact .inl h
          · refine .inr ⟨h.1, ?_⟩
            have := h.2
            simp only [List.mem_cons, Prod.mk.injEq] at this
            rcases this with q | q
            · exact absurd q.1 hy
            · exact q
        | some d =>
          simp only [List.lookup_cons, ne]
          rcases h with h | h
          · exact .inl h
          · refine .inr ⟨h.1, ?_⟩
            have := h.2
            simp only [List.mem_cons, Prod.mk.injEq] at this
            rcases this with q | q
            · exact absurd q.1 hy
            · exact q
    · have e : (k == NameKind.free) = false := by simpa using hk
      simp only [e, Bool.false_eq_true, if_false]
      rcases h with h | h
      · exact .inl h
      · refine .inr ⟨h.1, ?_⟩
        have := h.2
        simp only [List.mem_cons, Prod.mk.injEq] at this
        rcases this with q | q
        · exact absurd q.2.symm hk
        · exact q
theorem clOf_lookup {scope : Scope} {env : Env} {y : Str} {c : Addr} (h : env.cells.lookup y = some c) (hy : scope.names.lookup y = some .free) : (clOf scope env).lookup y = some c :=
  clOf_lookup_go env scope.names [] y c h (.inr ⟨rfl, mem_of_lookup hy⟩)
theorem relabel_free {env : Env} (hk : env.scope.kind = .function) : ∀ {names : List (Str × NameKind)} {y : Str}, names.lookup y = some .free → env.kindOf y = some .cell →
    (names.map fun (n, k) => if (k == NameKind.free && env.scope.kind == .function && env.kindOf n == some .cell) then (n, NameKind.cell) else (n, k)).lookup y = some .cell
  | [], _, h, _ => by simp at h
  | (n, k) :: r, y, h, hc => by
    have ih := @relabel_free env hk r y
    show List.lookup y ((if (k == NameKind.free && env.scope.kind == .function && env.kindOf n == some .cell) = true then (n, NameKind.cell) else (n, k)) :: _) = _
    cases hx : y == n with
    | true =>
      simp only [List.lookup_cons, hx] at h
      cases h
      have : y = n := by simpa using hx
      subst this
      rw [if_pos (by rw [hk, hc]; rfl)]
      simp [List.lookup_cons]
    | false =>
      simp only [List.lookup_cons, hx] at h
      by_cases hq : (k == NameKind.free && env.scope.kind == .function && env.kindOf n == some .cell) = true
      · rw [if_pos hq]; simp only [List.lookup_cons, hx]; exact ih h hc
      · rw [if_neg hq]; simp only [List.lookup_cons, hx]; exact ih h hc

noncomputable def Sees (scope : Scope) (env : Env) (Γ Γc : List (Str × VK)) : Prop := ∀ q ∈ Γc, Γ.lookup q.1 = some q.2 ∧ env.kindOf q.1 = some .cell ∧ scope.names.lookup q.1 = some .free
theorem mem_of_lookupK {x : Str} {k : VK} : ∀ {Γ : List (Str × VK)}, Γ.lookup x = some k → (x, k) ∈ Γ
  | (y, q) :: r, h => by
    by_cases e : x = y
    · subst e
      rw [lookup_cons_eq] at h; cases h; exact .head _
    · rw [lookup_cons_ne e] at h
      exact .tail _ (mem_of_lookupK h)

section
variable {prog : Program} {w : World} {h₀ : Heap} {n : Nat} {env : Env} {X : Addr → Prop} {Γ : List (Str × VK)} {A : Around} {s : Shared}

noncomputable def Tss (prog : Program) (w : World) (h₀ : Heap) (n : Nat) (env : Env) (X : Addr → Prop) (Γ : List (Str × VK)) (ifs : List Expr) (b : Bool) : Prop :=
  ∀ A s, Room A n → Cok h₀ env X Γ s.heap → wpAny (model prog w) A (forIn ifs true fun c r => if r = true then do let ok ← isTrue c env (eval c env); pure (ForInStep.yield ok) else pure (ForInStep.yield r)) (fun c s' => Keeps s s' ∧ c = b) NoE s
theorem Tss_nil : Tss prog w h₀ n env X Γ [] true := fun _ s _ _ => by refine wpAny_tests_nil ?_; exact ⟨keeps_refl s, rfl⟩
theorem Tss_one {c : Expr} {b : Bool} (h : Ts prog w h₀ n env X Γ c b) : Tss prog w h₀ n env X Γ [c] b := fun A s R C => wpAny_tests_one (h A s R C)

theorem assign_rd {x : Str} {px : Pos} {cenv : Env} {v : Value} {Q : Unit → Shared → Prop} {m : Str → Option Value} (hx : cenv.kindOf x = some .local) (hk : cenv.scope.kind = .function) (hn : s.heap.Ns cenv.locals m)
    (h : ∀ h', h'.Ns cenv.locals (fun y => if y = x then some v else m y) → Heap.SameBut cenv.locals s.heap h' → Q () { s with heap := h', toks := s.toks + 1 }) : wpAny (model prog w) A (assign (.Name x px) cenv v) Q NoE s :=
  wpAny_assign_Name (wpAny_storeName_local hx hn h (by rw [hk]; rfl))

theorem comp_block {elt iter : Expr} {x : Str} {px : Pos} {ifs : List Expr} {scope : Scope} {pos : Pos} {items : List PV} {Γc : List (Str × VK)} {p : PV → Bool} {f : PV → PV} {s₁ s₂ : Shared} {I : Addr} {fp wr : List Addr} {Pi : Nat → Value → Prop} {St : Nat → Heap → Prop}
    {RR : Value → Addr → Result → Shared → Prop} (R : Room A n)
    (W : ItW prog w A X items s₁ s₂ I fp wr Pi St) (k₂ : Keeps s₁ s₂) (C : Cok h₀ env X Γ s₁.heap) (hsz : items.length ≤ 1000)
    (hcell : ∀ y ∈ scope.names, y.2 ≠ .cell) (hkind : scope.kind = .function) (hx : scope.names.lookup x = some .local) (hs : Sees scope env Γ Γc)
    (test : ∀ q ∈ items, ∀ D X', Tss prog w h₀ n (compEnvC scope (clOf scope env) D env) X' ((x, .pv q) :: Γc) ifs (p q))
    (helt : ∀ q ∈ items, p q = true → ∀ D X', Ex prog w h₀ n (compEnvC scope (clOf scope env) D env) X' ((x, .pv q) :: Γc) elt (f q))
    (hRR : ∀ D Cc h' tk, s₁.heap.get? Cc = none → (∃ m, h'.Ns Cc m) → (∀ b o, s₁.heap.get? b = some o → h'.get? b = some o) → Rd h' (fun a => X a ∨ a = Cc) (.ref D) (.lst ((items.filter p).map f)) → RR (.ref D) Cc (.ok .next) { s₂ with heap := h', toks := tk }) :
    wpAny (model prog w) A (newList []) (fun acc s₃ => wpAny (model prog w) A (newFunctionEnv scope env.globals (clOf scope env) [] env.qual none .none (some env)) (fun cenv s₄ =>
      codeAny (model prog w) A (.compStart (.ListComp elt [⟨.Name x px, iter, ifs, 0⟩] scope pos) 0 (.ref I) acc { cenv with scope := relabel scope env }) (RR acc cenv.locals) s₄) NoE s₃) NoE s₂ := by
  refine wpAny_newObj_type (wpAny_newFunctionEnv hcell (by intro y hy; simp at hy) (fun h₁ hns₁ hsb₁ => ?_) hkind)
  dsimp only at hns₁ hsb₁ ⊢
  obtain ⟨H₂, t₂, rfl, k₂⟩ := k₂
  dsimp only at hns₁ hsb₁ ⊢
  generalize hH2 : H₂.push { cls := .type "list", dict := none, data := .seq ([] : List Value).toArray } = H2 at hns₁ hsb₁ ⊢
  have hC : H2.objs.size = H₂.objs.size + 1 := by rw [← hH2, Heap.size_push]
  generalize hD : H₂.objs.size = D at hC
  generalize hCc : H2.objs.size = Cc at hC hns₁ hsb₁ ⊢
  have hDC : D ≠ Cc := by omega
  have below : ∀ b o, H₂.get? b = some o → b ≠ Cc ∧ b ≠ D := fun b o e => by
    have h1 : @LT.lt Nat _ b H₂.objs.size := Heap.lt_size e
    rw [hD] at h1
    exact ⟨Nat.ne_of_lt (by rw [hC]; exact Nat.lt_succ_of_lt h1), Nat.ne_of_lt h1⟩
  have old : ∀ b o, H₂.get? b = some o → h₁.get? b = some o := fun b o e => hsb₁.extBut b o (below b o e).1 (Heap.get?_push_of_some _ (by rw [← hH2]; exact Heap.get?_push_of_some _ e))
  have hacc : h₁.get? D = some (lstObj [] 0) := hsb₁.extBut _ _ hDC (Heap.get?_push_of_some _ (by rw [← hD, ← hH2]; exact Heap.get?_push_size _ rfl))
  have fresh1 : ∀ a, a = D ∨ a = Cc ∨ a ∈ wr → s₁.heap.get? a = none := fun a ha => by
    rcases ha with rfl | rfl | ha
    · cases e : s₁.heap.get? a with
      | none => rfl
      | some o => exact absurd rfl (below _ _ (k₂ _ _ e)).2
    · cases e : s₁.heap.get? a with
      | none => rfl
      | some o => exact absurd rfl (below _ _ (k₂ _ _ e)).1
    · exact W.fresh a ha
  have fpne : ∀ b ∈ fp, b ≠ D ∧ b ≠ Cc := fun b hb => by
    have h1 : @LT.lt Nat _ b H₂.objs.size := W.lt b hb
    rw [hD] at h1
    exact ⟨Nat.ne_of_lt h1, Nat.ne_of_lt (by rw [hC]; exact Nat.lt_succ_of_lt h1)⟩
  have wrfp : ∀ b ∈ wr, b ∈ fp := W.walks.sub
  let X' : Addr → Prop := fun a => X a ∨ a = D ∨ a = Cc ∨ a ∈ wr
  have X'1 : ∀ b, X' b → X b ∨ s₁.heap.get? b = none := fun b q => q.imp id fun q => fresh1 b q
  have live1 : ∀ a, X a → (s₁.heap.get? a).isSome = true := fun a q => (C.xok a q).2
  let cenv := compEnvC scope (clOf scope env) Cc env
  have J0 : St 0 h₁ := W.walks.frame _ _ _ W.st fun b _ o e => old b o e
  have cokOf : ∀ (h' : Heap) (q : PV) (v : Value) (i : Nat), St i h' → (∀ b o, ¬ X' b → s₁.heap.get? b = some o → h'.get? b = some o) → (∀ b o, X b → s₁.heap.get? b = some o → h'.get? b = some o) → (h'.get? D).isSome = true →
      (∃ m, h'.Ns Cc m ∧ m x = some v) → Rd h' X' v q → Cok h₀ cenv X' ((x, .pv q) :: Γc) h' := by
    intro h' q v i hst hk hkX hDl hm hv
    have all : ∀ b o, s₁.heap.get? b = some o → h'.get? b = some o := fun b o e => by
      by_cases xb : X b
      · exact hkX b o xb e
      · refine hk b o (fun z => ?_) e
        rcases z with z | z
        · exact xb z
        · rw [fresh1 b z] at e; cases e
    refine ⟨⟨by show scope.kind = _; exact hkind, C.ok.globals, C.ok.builtins⟩, fun b o e => all b o (C.gd b o e), fun a z => ?_, fun y k e => ?_⟩
    · rcases z with z | z
      · refine ⟨(C.xok a z).1, ?_⟩
        obtain ⟨o, ho⟩ := Option.isSome_iff_exists.mp (live1 a z)
        rw [all a o ho]; rfl
      · refine ⟨?_, ?_⟩
        · cases e : h₀.get? a with
          | none => rfl
          | some o => have := C.gd a o e; rw [fresh1 a z] at this; cases this
        · rcases z with rfl | rfl | z
          · exact hDl
          · obtain ⟨m, hm, _⟩ := hm; exact ns_some hm
          · exact W.live _ _ hst a z
    · by_cases hy : y = x
      · subst hy
        rw [lookup_cons_eq] at e; cases e
        obtain ⟨m, hm, hv'⟩ := hm
        exact ⟨v, .inl ⟨lookup_relabel_local hx, m, hm, hv'⟩, hv⟩
      · rw [lookup_cons_ne hy] at e
        obtain ⟨e1, e2, e3⟩ := hs _ (mem_of_lookupK e)
        obtain ⟨u, hu, ru⟩ := C.has y k e1
        refine ⟨u, ?_, VK.holds_mono (fun b o nb eb => ⟨all b o eb, fun z => ?_⟩) ru⟩
        · rcases hu with ⟨a, _⟩ | ⟨_, c, hc, o, ho, hd⟩
          · rw [e2] at a; cases a
          · exact .inr ⟨relabel_free C.ok.kind e3 e2, c, clOf_lookup hc e3, o, all _ _ ho, hd⟩
        · rcases z with z | z
          · exact nb z
          · rw [fresh1 b z] at eb; cases eb
  have loop : ∀ s₃ : Shared, s₃ = { s₁ with heap := h₁, toks := t₂ + ([] : List (Str × Value)).length } →
      codeAny (model prog w) A (.compLoop (.ListComp elt [⟨.Name x px, iter, ifs, 0⟩] scope pos) 0 (.ref I) (.ref D) cenv) (RR (.ref D) Cc) s₃ := by
    rintro s₃ rfl
    refine codeAny_compLoop_tests (fun m s' => ∃ h' tk i vs k, s' = { s₁ with heap := h', toks := tk } ∧ m = items.length - i ∧ i ≤ items.length ∧ St i h' ∧ (∃ m, h'.Ns Cc m) ∧ h'.get? D = some (lstObj vs k) ∧
      RdL h' X' vs (((items.take i).filter p).map f) ∧ (∀ b o, b ≠ D → b ≠ Cc → b ∉ wr → s₁.heap.get? b = some o → h'.get? b = some o)) ?_ (items.length - 0)
      ⟨h₁, _, 0, [], 0, rfl, rfl, Nat.zero_le _, J0, ⟨_, hns₁⟩, hacc, .nil, fun b o _ _ _ e => old b o (k₂ b o e)⟩
    rintro m s' ⟨h', tk, i, vs, k, rfl, rfl, hi, hst, ⟨m, hm⟩, hDo, hrd, hkp⟩
    by_cases hlt : i < items.length
    · refine wpAny_mono (W.walks.item i _ _ NoE hlt hst fun v h2 tk2 hPv hst2 hk2 => ?_) (fun _ _ q => q) fun _ _ e => e.elim
      have hk2D : h2.get? D = some (lstObj vs k) := hk2 D _ (fun q => (fpne _ (wrfp _ q)).1 rfl) hDo
      have hm2 : h2.Ns Cc m := hm.at' fun o e => hk2 Cc o (fun q => (fpne _ (wrfp _ q)).2 rfl) e
      obtain ⟨q, hq⟩ : ∃ q, items[i]? = some q := ⟨_, List.getElem?_eq_getElem hlt⟩
      have hmem : q ∈ items := List.mem_of_getElem? hq
      have hkp2 : ∀ b o, b ≠ D → b ≠ Cc → b ∉ wr → s₁.heap.get? b = some o → h2.get? b = some o := fun b o a1 a2 a3 e => hk2 b o a3 (hkp b o a1 a2 a3 e)
      refine wpAny_mono (assign_rd (cenv := cenv) (lookup_relabel_local hx) (by show scope.kind = _; exact hkind) hm2 fun h3 hn3 hs3 => ?_) (fun _ _ z => z) fun _ _ e => e.elim
      have hs3' : ∀ b o, b ≠ Cc → h2.get? b = some o → h3.get? b = some o := fun b o nb e => hs3.extBut b o nb e
      have hkp3 : ∀ b o, b ≠ D → b ≠ Cc → b ∉ wr → s₁.heap.get? b = some o → h3.get? b = some o := fun b o a1 a2 a3 e => hs3' b o a2 (hkp2 b o a1 a2 a3 e)
      have hst3 : St (i + 1) h3 := W.walks.frame _ _ _ hst2 fun b hb o e => hs3' b o (fpne b hb).2 e
      have hk3D : h3.get? D = some (lstObj vs k) := hs3' D _ hDC hk2D
      have mono3 : ∀ b o, ¬ X' b → h'.get? b = some o → h3.get? b = some o ∧ ¬ X' b := fun b o nb e => ⟨hs3' b o (fun z => nb (.inr (.inr (.inl z)))) (hk2 b o (fun z => nb (.inr (.inr (.inr z)))) e), nb⟩
      have notX : ∀ b o, s₁.heap.get? b = some o → b ≠ D ∧ b ≠ Cc ∧ b ∉ wr := fun b o e => by
        refine ⟨fun z => ?_, fun z => ?_, fun z => ?_⟩ <;> (have := fresh1 b (by first | exact .inl z | exact .inr (.inl z) | exact .inr (.inr z)); rw [this] at e; cases e)
      have all3 : ∀ b o, s₁.heap.get? b = some o → h3.get? b = some o := fun b o e => let ⟨a1, a2, a3⟩ := notX b o e; hkp3 b o a1 a2 a3 e
      have rv : Rd h3 X' v q := W.item i v q hPv hq h3 X' X'1 fun b o nb e => all3 b o e
      have ck := cokOf h3 q v (i + 1) hst3 (fun b o _ e => all3 b o e) (fun b o _ e => all3 b o e) (by rw [hk3D]; rfl) ⟨_, hn3, by simp⟩ rv
      have htk : items.take (i + 1) = items.take i ++ [q] := by rw [List.take_add_one, hq]; rfl
      refine wpAny_mono (test q hmem Cc X' A _ R ck) (fun c s₄ h₄ => ?_) fun _ _ e => e.elim
      obtain ⟨k₄, rfl⟩ := h₄
      have ck₄ := ck.keep k₄
      have k₄' := k₄
      obtain ⟨h4, tk4, rfl, kk4⟩ := k₄
      have step : ∀ (s₅ : Shared) (h5 : Heap) (tk5 : Nat) (vs' : List Value) (k' : Nat), s₅ = { s₁ with heap := h5, toks := tk5 } → (∀ b o, b ≠ D → h4.get? b = some o → h5.get? b = some o) → h5.get? D = some (lstObj vs' k') →
          RdL h5 X' vs' (((items.take (i + 1)).filter p).map f) → ∃ m, m < items.length - i ∧ ∃ h' tk i vs k, s₅ = { s₁ with heap := h', toks := tk } ∧ m = items.length - i ∧ i ≤ items.length ∧ St i h' ∧ (∃ m, h'.Ns Cc m) ∧ h'.get? D = some (lstObj vs k) ∧
            RdL h' X' vs (((items.take i).filter p).map f) ∧ (∀ b o, b ≠ D → b ≠ Cc → b ∉ wr → s₁.heap.get? b = some o → h'.get? b = some o) := by
        intro s₅ h5 tk5 vs' k' e5 hk5 hD5 hr5
        refine ⟨items.length - (i + 1), by omega, h5, tk5, i + 1, vs', k', e5, rfl, hlt, W.walks.frame _ _ _ hst3 fun b hb o e => hk5 b o (fpne b hb).1 (kk4 b o e), ?_, hD5, hr5, fun b o a1 a2 a3 e => hk5 b o a1 (kk4 b o (hkp3 b o a1 a2 a3 e))⟩
        exact ⟨_, (hn3.keeps kk4).at' fun o e => hk5 Cc o (Ne.symm hDC) e⟩
      have rd4 : RdL h4 X' vs (((items.take i).filter p).map f) := hrd.mono fun b o nb e => ⟨kk4 b o (mono3 b o nb e).1, nb⟩
      cases hpq : p q with
      | false =>
        simp only [Bool.false_eq_true, if_false]
        refine step _ h4 tk4 vs k rfl (fun b o _ e => e) (kk4 _ _ hk3D) ?_
        rw [htk, List.filter_append, List.map_append]
        simpa [hpq] using rd4
      | true =>
        simp only [if_true]
        refine wpAny_mono (helt q hmem hpq Cc X' A _ R ck₄) (fun y s₅ h₅ => ?_) fun _ _ e => e.elim
        obtain ⟨⟨h5, tk5, rfl, kk5⟩, ry⟩ := h₅
        have hD5 : h5.get? D = some (lstObj vs k) := kk5 _ _ (kk4 _ _ hk3D)
        have hsz2 : vs.length ≤ 1000 := by
          have a1 := hrd.length
          rw [List.length_map] at a1
          have a2 : ((items.take i).filter p).length ≤ (items.take i).length := List.length_filter_le _ _
          rw [List.length_take] at a2
          omega
        have hl5 : h5.IsList D vs.toArray := lst_isList hD5
        refine wpAny_list_append_plain (hsz := by simp only [List.size_toArray, sizeLine_eq]; omega) ⟨k, hD5⟩ fun h6 hl6 hs6 => ?_
        obtain ⟨k6, hD6⟩ := hl6
        have hk6 : ∀ b o, b ≠ D → h5.get? b = some o → h6.get? b = some o := fun b o nb e => hs6.extBut b o nb e
        have m6 : ∀ b o, ¬ X' b → h5.get? b = some o → h6.get? b = some o ∧ ¬ X' b := fun b o nb e => ⟨hk6 b o (fun z => nb (.inr (.inl z))) e, nb⟩
        refine step _ h6 tk5 (vs ++ [y]) k6 rfl (fun b o nb e => hk6 b o nb (kk5 b o e)) (by rw [hD6]; simp) ?_
        rw [htk, List.filter_append, List.map_append]
        have r1 : RdL h6 X' vs (((items.take i).filter p).map f) := (rd4.mono fun b o nb e => ⟨kk5 b o e, nb⟩ : RdL h5 X' vs _).mono m6
        have r2 : RdL h6 X' [y] [f q] := .one (ry.mono m6)
        simpa [hpq] using r1.append r2
    · have hin : i = items.length := by omega
      subst hin
      refine wpAny_mono (W.walks.done _ _ NoE hst fun h2 tk2 hk2 => ?_) (fun _ _ q => q) fun _ _ e => e.elim
      rw [List.take_length] at hrd
      refine hRR D Cc h2 tk2 (fresh1 _ (.inr (.inl rfl))) ⟨m, hm.at' fun o e => hk2 Cc o (fun q => (fpne _ (wrfp _ q)).2 rfl) e⟩ (fun b o e => ?_) ?_
      · have nb : b ≠ D ∧ b ≠ Cc ∧ b ∉ wr := by
          refine ⟨fun z => ?_, fun z => ?_, fun z => ?_⟩ <;> (have := fresh1 b (by first | exact .inl z | exact .inr (.inl z) | exact .inr (.inr z)); rw [this] at e; cases e)
        exact hk2 b o nb.2.2 (hkp b o nb.1 nb.2.1 nb.2.2 e)
      · refine .lst (hk2 D _ (fun q => (fpne _ (wrfp _ q)).1 rfl) hDo) (fun z => ?_) (hrd.mono fun b o nb e => ⟨hk2 b o (fun z => nb (.inr (.inr (.inr z)))) e, fun z => z.elim (fun z => nb (.inl z)) fun z => nb (.inr (.inr (.inl z)))⟩)
        rcases z with z | z
        · have := live1 _ z
          rw [fresh1 D (.inl rfl)] at this; cases this
        · exact hDC z
  exact codeAny_compStart_list (loop _ rfl) (W.walks.self 0 _ _ _ J0 (loop _ rfl))

theorem names_cell {names : List (Str × NameKind)} (h : (names.all fun q => q.2 != .cell) = true) : ∀ y ∈ names, y.2 ≠ .cell := fun y hy => by simpa using List.all_eq_true.mp h y hy
theorem names_local {names : List (Str × NameKind)} (h : (names.all fun q => q.2 != .local || names.lookup q.1 == some .local) = true) : ∀ y ∈ names, y.2 = .local → names.lookup y.1 = some .local := fun y hy hl => by
  have := List.all_eq_true.mp h y hy
  rw [hl] at this
  simpa using this
theorem Ex_comp {elt iter : Expr} {x : Str} {px : Pos} {ifs : List Expr} {scope : Scope} {pos : Pos} {items : List PV} (Γc : List (Str × VK)) (p : PV → Bool) (f : PV → PV)
    (hit : It prog w h₀ n env X Γ iter items) (hsz : items.length ≤ 1000) (hs : Sees scope env Γ Γc)
    (test : ∀ q ∈ items, ∀ D X', Tss prog w h₀ n (compEnvC scope (clOf scope env) D env) X' ((x, .pv q) :: Γc) ifs (p q))
    (helt : ∀ q ∈ items, p q = true → ∀ D X', Ex prog w h₀ n (compEnvC scope (clOf scope env) D env) X' ((x, .pv q) :: Γc) elt (f q))
    (hcell' : (scope.names.all fun q => q.2 != .cell) = true := by kernel_rfl!) (hkind : scope.kind = .function := by kernel_rfl!) (hx : scope.names.lookup x = some .local := by kernel_rfl!)
    (hnames' : (scope.names.all fun q => q.2 != .local || scope.names.lookup q.1 == some .local) = true := by kernel_rfl!)
    (hfree : (scope.names.all fun q => q.2 != .free || (env.cells.lookup q.1).isSome) = true := by kernel_rfl!)
    (hfs : ∀ x, foldedSetIterable iter env x = pure x := by intro _; kernel_rfl!) :
    Ex prog w h₀ n env X Γ (.ListComp elt [⟨.Name x px, iter, ifs, 0⟩] scope pos) (.lst ((items.filter p).map f)) := by
  intro A s R C
  have hcell := names_cell hcell'
  have hnames := names_local hnames'
  rw [eval_ListComp]
  refine wpAny_comprehension_free (use := none) rfl hfs (closure_clOf hfree) hkind hnames (wpAny_mono (hit A s R C) (fun xv s₁ h₁ => wpAny_mono h₁.2 (fun it s₂ h₂ => ?_) fun _ _ e => e.elim) fun _ _ e => e.elim)
  obtain ⟨k₂, I, fp, wr, Pi, St, rfl, W⟩ := h₂
  refine comp_block (RR := fun acc Cc => compPost (model prog w) A NoE none _ acc Cc) R W k₂ (C.keep h₁.1) hsz hcell hkind hx hs test helt ?_
  intro D Cc h' tk hCc ⟨m, hm⟩ hkp hrd
  refine ⟨m, hm, fun h'' hs'' => ?_⟩
  have kk : ∀ b o, s₁.heap.get? b = some o → h''.get? b = some o := fun b o e => hs''.extBut b o (fun z => by rw [← z, e] at hCc; cases hCc) (hkp b o e)
  obtain ⟨H₂, t₂, rfl, k₂⟩ := k₂
  refine ⟨keeps_trans h₁.1 ⟨h'', tk, rfl, kk⟩, ?_⟩
  exact hrd.mono fun b o nb e => ⟨hs''.extBut b o (fun z => nb (.inr z)) e, fun z => nb (.inl z)⟩
end

section
variable {prog : Program} {w : World} {h₀ : Heap} {s₀ : Shared} {n : Nat} {env : Env} {X B : Addr → Prop} {hB : Heap} {Γ : List (Str × VK)} {Λ : List (MutH × List PV)} {A : Around} {s : Shared} {Q : Flow → Shared → Prop}

theorem St_comp {y : Str} {py spos : Pos} {elt iter : Expr} {x : Str} {px : Pos} {ifs : List Expr} {scope : Scope} {pos : Pos} {rest : List Stmt} {items : List PV} (Γc : List (Str × VK)) (p : PV → Bool) (f : PV → PV)
    (S : Sta h₀ s₀ env X B hB Γ Λ s) (R : Room A n)
    (hit : It prog w h₀ n env X Γ iter items) (hsz : items.length ≤ 1000) (hs : Sees scope env Γ Γc)
    (test : ∀ q ∈ items, ∀ D X', Tss prog w h₀ n (compEnvC scope (clOf scope env) D env) X' ((x, .pv q) :: Γc) ifs (p q))
    (helt : ∀ q ∈ items, p q = true → ∀ D X', Ex prog w h₀ n (compEnvC scope (clOf scope env) D env) X' ((x, .pv q) :: Γc) elt (f q))
    (hy : env.kindOf y = some .local)
    (h : ∀ s', Sta h₀ s₀ env X B hB ((y, .pv (.lst ((items.filter p).map f))) :: Γ) Λ s' → wpAny (model prog w) A (execs rest env) Q NoE s')
    (hsw : swapsWith (.ListComp elt [⟨.Name x px, iter, ifs, 0⟩] scope pos) (some (.Name y py)) spos.line env = pure true := by kernel_rfl!)
    (hcell' : (scope.names.all fun q => q.2 != .cell) = true := by kernel_rfl!) (hkind : scope.kind = .function := by kernel_rfl!) (hx : scope.names.lookup x = some .local := by kernel_rfl!)
    (hnames' : (scope.names.all fun q => q.2 != .local || scope.names.lookup q.1 == some .local) = true := by kernel_rfl!)
    (hfree : (scope.names.all fun q => q.2 != .free || (env.cells.lookup q.1).isSome) = true := by kernel_rfl!)
    (hfs : ∀ x, foldedSetIterable iter env x = pure x := by intro _; kernel_rfl!) :
    wpAny (model prog w) A (execs (.Assign [.Name y py] (.ListComp elt [⟨.Name x px, iter, ifs, 0⟩] scope pos) spos :: rest) env) Q NoE s := by
  refine wpAny_execs_cons ?_
  have hcell := names_cell hcell'
  have hnames := names_local hnames'
  rw [exec_Assign_Name_used _ _ _ _ hsw]
  refine wpAny_bind (wpAny_standAt (wpAny_bind ?_))
  show wpAny _ A (do let _ ← comprehension (.ListComp elt [⟨.Name x px, iter, ifs, 0⟩] scope pos) scope env _ (newList []) false (eval iter env) (some (assign (.Name y py) env))) _ _ s
  refine wpAny_bind (wpAny_mono (wpAny_comprehension_free (use := some (assign (.Name y py) env)) (Q := fun _ s' => wpAny (model prog w) A (execs rest env) Q NoE s') rfl hfs (closure_clOf hfree) hkind hnames
    (wpAny_mono (hit A s R S.cok) (fun xv s₁ h₁ => wpAny_mono h₁.2 (fun it s₂ h₂ => ?_) fun _ _ e => e.elim) fun _ _ e => e.elim)) (fun _ s' hq => wpAny_pure (wpAny_pure hq)) fun _ _ e => e)
  obtain ⟨k₂, I, fp, wr, Pi, St, rfl, W⟩ := h₂
  refine comp_block (RR := fun acc Cc => compPost (model prog w) A NoE (some (assign (.Name y py) env)) _ acc Cc) R W k₂ (S.cok.keep h₁.1) hsz hcell hkind hx hs test helt ?_
  intro D Cc h' tk hCc ⟨m, hm⟩ hkp hrd
  obtain ⟨H₂, t₂, rfl, k₂⟩ := k₂
  have hCl : (h'.get? Cc).isSome = true := ns_some hm
  have S₁ := S.keep h₁.1
  have S' : Sta h₀ s₀ env (fun a => X a ∨ a = Cc) B hB Γ Λ { s₁ with heap := h', toks := tk } :=
    S₁.grow ⟨h', tk, rfl, hkp⟩ (fun a q => .inl q) fun a q => q.imp id fun q => by subst q; exact ⟨hCc, hCl⟩
  have hLC : env.locals ≠ Cc := fun q => by
    have := (S₁.cok.xok _ S₁.ownL.1).2
    rw [q, hCc] at this; cases this
  refine wpAny_assign_Name ?_
  obtain ⟨ml, hml⟩ := S'.frm.ns
  have hk := S.cok.ok.kind
  refine wpAny_storeName_local hy hml (fun h2 hn2 hs2 => ?_) (by rw [hk]; rfl)
  refine ⟨m, hm.sameBut hs2 (Ne.symm hLC), fun h3 hs3 => ?_⟩
  have S2 : Sta h₀ s₀ env (fun a => X a ∨ a = Cc) B hB ((y, .pv (.lst ((items.filter p).map f))) :: Γ) Λ { s₁ with heap := h2, toks := tk + 1 } := by
    have mono : ∀ b o, ¬ (X b ∨ b = Cc) → h'.get? b = some o → h2.get? b = some o ∧ ¬ (X b ∨ b = Cc) := fun b o nn e => ⟨(hs2.2 b fun q => nn (q ▸ S'.ownL.1)).trans e, nn⟩
    have cells : ∀ n c v, env.cells.lookup n = some c → h'.IsCell c v → h2.IsCell c v := fun n c v _ hv => hv.sameBut hs2 (ns_ne_cell hml hv)
    refine S'.turn1 S'.ownL.1 S'.ownL.2 hs2 (ns_some hn2) _ _ ⟨⟨_, hn2⟩, fun n c e => let ⟨v, hv⟩ := S'.frm.cell n c e; ⟨v, cells n c v e hv⟩, S'.frm.apart⟩ (fun z k' e => ?_) (fun q hq => .inl ⟨hq, ?_⟩) S'.nodup
    · by_cases hz : z = y
      · subst hz
        rw [lookup_cons_eq] at e
        cases e
        exact ⟨_, .inl ⟨hy, _, hn2, by simp⟩, Rd.mono mono hrd⟩
      · rw [lookup_cons_ne hz] at e
        obtain ⟨u, hu, ru⟩ := S'.cok.has z k' e
        refine ⟨u, ?_, VK.holds_mono mono ru⟩
        rcases hu with ⟨a, m', n', e'⟩ | ⟨a, c, e', hv⟩
        · exact .inl ⟨a, _, hn2, by simp only [if_neg hz]; rw [ns_unique hml n']; exact e'⟩
        · exact .inr ⟨a, c, e', cells _ _ _ e' hv⟩
    · intro e
      obtain ⟨_, _, vs, n, e1, _⟩ := S'.muts q hq
      obtain ⟨o, es, ep, e2, d, _⟩ := hml
      rw [e] at e1
      have e1' : h'.get? env.locals = some _ := e1
      rw [e2] at e1'; cases e1'; cases d
  have notC : ∀ a, X a → a ≠ Cc := fun a q z => by
    have := (S₁.cok.xok a q).2
    rw [z, hCc] at this; cases this
  have S3 := S2.leave (tk := tk + 1) (Y := X) (wr := [Cc]) (fun b o nb e => hs3.extBut b o (fun z => nb (by simp [z])) e) (fun a q => .inl q) (fun b hb => .inr (by simpa using hb)) (fun b hb q => notC b q (by simpa using hb))
    (fun a q => q.imp id fun q => by
      subst q
      cases e : s₀.heap.get? a with
      | none => rfl
      | some o => have := S₁.old a o (fun z => notC a z rfl) e; rw [hCc] at this; cases this)
    (fun b o hb e q => by
      have := S₁.fixd b o hb e
      rw [List.mem_singleton.mp q, hCc] at this; cases this)
    (fun q => hLC (List.mem_singleton.mp q)) (fun n c e q => notC c (S.ownC n c e).1 (List.mem_singleton.mp q)) (fun q hq z => notC _ (S.muts q hq).1 (List.mem_singleton.mp z)) S.ownL.1 (fun n c e => (S.ownC n c e).1) fun q hq => (S.muts q hq).1
  exact h _ S3

theorem St_while {G : Type} {t : Expr} {pos : Pos} {body rest : List Stmt} (P : Nat → G → Prop) (Γf : G → List (Str × VK)) (Λf : G → List (MutH × List PV)) (m₀ : Nat) (g₀ : G)
    (S : Sta h₀ s₀ env X B hB Γ Λ s)
    (hΓ : ∀ y k, (Γf g₀).lookup y = some k → Γ.lookup y = some k) (hΛ : Λf g₀ = Λ) (hP : P m₀ g₀)
    (turn : ∀ m g s', P m g → Sta h₀ s₀ env X B hB (Γf g) (Λf g) s' → ∃ b, wpAny (model prog w) A (isTrue t env (eval t env)) (fun c s₂ => Keeps s' s₂ ∧ c = b) NoE s' ∧
      (b = true → ∀ s₂, Sta h₀ s₀ env X B hB (Γf g) (Λf g) s₂ → wpAny (model prog w) A (execs body env) (fun f s₃ => (f = .next ∨ f = .cont) ∧ ∃ m' g', m' < m ∧ P m' g' ∧ Sta h₀ s₀ env X B hB (Γf g') (Λf g') s₃) NoE s₂) ∧
      (b = false → ∀ s₂, Sta h₀ s₀ env X B hB (Γf g) (Λf g) s₂ → wpAny (model prog w) A (execs rest env) Q NoE s₂)) :
    wpAny (model prog w) A (execs (.While t body [] pos :: rest) env) Q NoE s := by
  refine wpAny_execs_cons (wpAny_While ?_)
  refine codeAny_whileLoop (fun m s' => ∃ g, P m g ∧ Sta h₀ s₀ env X B hB (Γf g) (Λf g) s') ?_ m₀ ⟨g₀, hP, by rw [hΛ]; exact S.weak hΓ⟩
  rintro m s' ⟨g, hPg, S'⟩
  obtain ⟨b, ht, h1, h2⟩ := turn m g s' hPg S'
  refine wpAny_mono ht (fun c s₂ q => ?_) fun _ _ e => e.elim
  obtain ⟨k, rfl⟩ := q
  cases c with
  | true =>
    simp only [if_true]
    refine wpAny_mono (h1 rfl s₂ (S'.keep k)) (fun f s₃ q => ?_) fun _ _ e => e.elim
    obtain ⟨hf, m', g', hm, hP', S₃⟩ := q
    rcases hf with rfl | rfl <;> exact ⟨m', hm, g', hP', S₃⟩
  | false =>
    simp only [Bool.false_eq_true, if_false]
    exact wpAny_execs_nil (h2 rfl s₂ (S'.keep k))
end
end Mine
end
section
open PySem PySem.W PyProof.Rows PySem.Calls
namespace Mine

structure Glb (h₀ : Heap) (mg mb : Str → Option Value) : Prop where
  g : h₀.Ns mainGlobals mg
  b : h₀.Ns builtinsNs mb
  boot : ∀ x : Str, x ≠ "__name__" → mb x = bootBuiltins x
  lim : h₀.NoLimit
structure DefAt (h₀ : Heap) (mg : Str → Option Value) (name : Str) (params : Arguments) (body : List Stmt) (scope : Scope) (a : Addr) : Prop where
  nm : mg name = some (.ref a)
  at_ : ∃ o pm code doc, h₀.get? a = some o ∧ o.data = .func (docDef name params body scope pm code doc) ∧ h₀.CodeRec code name

inductive HL (h : Heap) (X : Addr → Prop) : List Value → List VK → Prop
  | nil : HL h X [] []
  | cons {v : Value} {vs : List Value} {k : VK} {ks : List VK} : k.holds h X v → HL h X vs ks → HL h X (v :: vs) (k :: ks)
theorem HL.length {h : Heap} {X : Addr → Prop} : ∀ {vs : List Value} {ks : List VK}, HL h X vs ks → vs.length = ks.length
  | _, _, .nil => rfl
  | _, _, .cons _ r => by simp [r.length]
theorem HL.of_rdl {h : Heap} {X : Addr → Prop} : ∀ {vs : List Value} {ps : List PV}, RdL h X vs ps → HL h X vs (ps.map .pv)
  | _, _, .nil => .nil
  | _, _, .cons r rs => .cons r (HL.of_rdl rs)

theorem bindL_not {kindOf : Str → Option NameKind} : ∀ {binds : List (Str × Value)} {m : Str → Option Value} {x : Str}, x ∉ binds.map (·.1) → bindL kindOf binds m x = m x
  | [], _, _, _ => rfl
  | (y, v) :: r, m, x, h => by
    simp only [List.map_cons, List.mem_cons, not_or] at h
    unfold bindL
    rw [bindL_not h.2]
    split
    · simp [h.1]
    · rfl
theorem bindC_not {kindOf : Str → Option NameKind} : ∀ {binds : List (Str × Value)} {m : Str → Option Value} {x : Str}, x ∉ binds.map (·.1) → bindC kindOf binds m x = m x
  | [], _, _, _ => rfl
  | (y, v) :: r, m, x, h => by
    simp only [List.map_cons, List.mem_cons, not_or] at h
    unfold bindC
    rw [bindC_not h.2]
    split
    · rfl
    · simp [h.1]
theorem bindL_at {kindOf : Str → Option NameKind} : ∀ {binds : List (Str × Value)} {m : Str → Option Value} {x : Str} {v : Value}, (binds.map (·.1)).Nodup → (x, v) ∈ binds → kindOf x = some .local → bindL kindOf binds m x = some v
  | (y, u) :: r, m, x, v, hn, hm, hk => by
    simp only [List.map_cons, List.nodup_cons] at hn
    unfold bindL
    rcases List.mem_cons.mp hm with e | e
    · cases e
      rw [if_pos hk, bindL_not hn.1]
      simp
    · exact bindL_at hn.2 e hk
theorem bindC_at {kindOf : Str → Option NameKind} : ∀ {binds : List (Str × Value)} {m : Str → Option Value} {x : Str} {v : Value}, (binds.map (·.1)).Nodup → (x, v) ∈ binds → kindOf x ≠ some .local → bindC kindOf binds m x = some v
  | (y, u) :: r, m, x, v, hn, hm, hk => by
    simp only [List.map_cons, List.nodup_cons] at hn
    unfold bindC
    rcases List.mem_cons.mp hm with e | e
    · cases e
      rw [if_neg hk, bindC_not hn.1]
      simp
    · exact bindC_at hn.2 e hk
theorem zip_lookup {h : Heap} {X : Addr → Prop} : ∀ {names : List Str} {vs : List Value} {ks : List VK} {x : Str} {k : VK}, HL h X vs ks → (names.zip ks).lookup x = some k → ∃ v, (x, v) ∈ names.zip vs ∧ k.holds h X v
  | [], _, _, _, _, _, e => by simp at e
  | y :: names, _, _, x, k, .nil, e => by simp at e
  | y :: names, _, _, x, k, .cons hv r, e => by
    rw [List.zip_cons_cons] at e
    by_cases hx : x = y
    · subst hx
      rw [lookup_cons_eq] at e
      cases e
      exact ⟨_, .head _, hv⟩
    · rw [lookup_cons_ne hx] at e
      obtain ⟨v, hm, hq⟩ := zip_lookup r e
      exact ⟨v, .tail _ hm, hq⟩
theorem zip_fst : ∀ {names : List Str} {vs : List Value}, names.length = vs.length → (names.zip vs).map (·.1) = names
  | [], [], _ => rfl
  | _ :: _, _ :: _, h => by simp [zip_fst (by simpa using h)]

noncomputable def XIn (X : Addr → Prop) (env : Env) : Addr → Prop := fun b => X b ∨ b = env.locals ∨ ∃ n, env.cells.lookup n = some b

section
variable {prog : Program} {w : World} {h₀ : Heap} {mg mb : Str → Option Value}

theorem enter {A : Around} {s : Shared} {n : Nat} {X M : Addr → Prop} {name : Str} {params : Arguments} {body : List Stmt} {scope : Scope} {a : Addr} {vs : List Value} {ks : List VK} {Q : Value → Shared → Prop}
    (G : Glb h₀ mg mb) (D : DefAt h₀ mg name params body scope a) (C : XOk h₀ X s.heap) (R : Room A n) (hv : HL s.heap X vs ks) (names : List Str) (hlen : names.length = ks.length)
    (hbind : ∀ pm code doc vs, vs.length = names.length → bindArgs (docDef name params body scope pm code doc) ⟨vs, []⟩ = pure (names.zip vs))
    (hnd : names.Nodup) (hkind : (names.all fun x => scope.names.lookup x == some .local || (scope.names.lookup x == some .cell)) = true)
    (h : ∀ code s₁, Sta h₀ s (callEnvC (docDef name params body scope .none code .none) s.heap.objs.size a) (XIn X (callEnvC (docDef name params body scope .none code .none) s.heap.objs.size a)) (fun b => X b ∧ ¬ M b) s.heap (names.zip ks) [] s₁ →
      wpAny (model prog w) (A.deeper (callEnvC (docDef name params body scope .none code .none) s.heap.objs.size a)) (execs body (callEnvC (docDef name params body scope .none code .none) s.heap.objs.size a))
        (fun f s' => Q (match f with | .ret v => v | _ => .none) s') NoE s₁)
    (hco : scope.isCoroutine = false := by kernel_rfl!) (hgen : scope.isGenerator = false := by kernel_rfl!) (hk : scope.kind = .function := by kernel_rfl!) :
    wpAny (model prog w) A (call (.ref a) vs []) Q NoE s := by
  obtain ⟨hname, o, pm, code, doc, ho, hd, hcd⟩ := D
  refine wpAny_call ?_
  have hb := hbind pm code doc vs (by rw [hv.length, hlen])
  have henv : callEnvC (docDef name params body scope pm code doc) s.heap.objs.size a = callEnvC (docDef name params body scope .none code .none) s.heap.objs.size a := rfl
  refine codeAny_call_cells (fd := docDef name params body scope pm code doc) (body := body) R.d (C.gd _ _ ho) hd (G.lim.keeps C.gd) (hcd.keeps C.gd) rfl hb rfl (fun q hq => ?_) (fun s₁ I => ?_) hco hgen hk
  · have hq1 : q.1 ∈ names := (List.of_mem_zip (by exact hq)).1
    have := List.all_eq_true.mp hkind q.1 hq1
    rcases Bool.or_eq_true_iff.mp this with e | e
    · exact .inl (show scope.names.lookup q.1 = some .local by simpa using e)
    · have e' : scope.names.lookup q.1 = some .cell := by simpa using e
      exact .inr ⟨e', cellsFrom_some _ _ _ (.inl e')⟩
  · rw [henv] at I ⊢
    generalize hE : callEnvC (docDef name params body scope .none code .none) s.heap.objs.size a = env at I
    have hh := h code s₁
    rw [hE] at hh
    refine wpAny_mono (hh ?_) (fun f s' q => q) fun _ _ e => e.elim
    have eL : env.locals = s.heap.objs.size := by rw [← hE]; rfl
    have freshL : s.heap.get? env.locals = none := by
      cases e : s.heap.get? env.locals with
      | none => rfl
      | some o => exact absurd (Heap.lt_size e) (by rw [eL]; exact Nat.lt_irrefl _)
    have aboveC : ∀ n c, (n, c) ∈ env.cells → s.heap.get? c = none := fun n c hm => by
      cases e : s.heap.get? c with
      | none => rfl
      | some o =>
        have h1 : @LT.lt Nat _ c s.heap.objs.size := Heap.lt_size e
        have h2 : @LT.lt Nat _ env.locals c := I.above n c hm
        rw [eL] at h2
        exact absurd (Nat.lt_trans h1 h2) (Nat.lt_irrefl _)
    have fresh : ∀ b, b = env.locals ∨ (∃ n, env.cells.lookup n = some b) → s.heap.get? b = none := fun b q => by
      rcases q with rfl | ⟨n, q⟩
      · exact freshL
      · exact aboveC n b (mem_of_lookup q)
    have notX : ∀ b, b = env.locals ∨ (∃ n, env.cells.lookup n = some b) → ¬ X b := fun b q x => by
      have := (C.xok b x).2
      rw [fresh b q] at this; cases this
    have keep := I.toInCall.keep
    have mono : ∀ b o, ¬ X b → s.heap.get? b = some o → s₁.heap.get? b = some o ∧ ¬ XIn X env b := fun b o nb e => ⟨keep b o e, fun z => by
      rcases z with z | z
      · exact nb z
      · rw [fresh b z] at e; cases e⟩
    refine ⟨I.toInCall.same, fun b o nb e => keep b o e, fun b o _ e => keep b o e, ⟨⟨by rw [← hE]; exact hk, by rw [← hE]; rfl, by rw [← hE]; rfl⟩, fun b o e => keep b o (C.gd b o e), fun b q => ?_, fun x k e => ?_⟩, ⟨⟨_, I.toInCall.ns⟩, fun n c e => ⟨_, I.cell n c e⟩, I.apart⟩,
      ⟨.inr (.inl rfl), fun q => notX _ (.inl rfl) q.1⟩, fun n c e => ⟨.inr (.inr ⟨n, e⟩), fun q => notX _ (.inr ⟨n, e⟩) q.1⟩, fun q hq => (nomatch hq), List.nodup_nil⟩
    · rcases q with q | q
      · refine ⟨(C.xok b q).1, ?_⟩
        obtain ⟨o, ho⟩ := Option.isSome_iff_exists.mp (C.xok b q).2
        rw [keep b o ho]; rfl
      · refine ⟨?_, ?_⟩
        · cases e : h₀.get? b with
          | none => rfl
          | some o => have := C.gd b o e; rw [fresh b q] at this; cases this
        · rcases q with rfl | ⟨n, q⟩
          · exact ns_some I.toInCall.ns
          · exact cell_some (I.cell n b q)
    · obtain ⟨v, hm, hq⟩ := zip_lookup hv e
      refine ⟨v, ?_, VK.holds_mono mono hq⟩
      have hx : x ∈ names := (List.of_mem_zip hm).1
      have hnd' : ((names.zip vs).map (·.1)).Nodup := by rw [zip_fst (by rw [hv.length, hlen])]; exact hnd
      have hkx := List.all_eq_true.mp hkind x hx
      have ekind : env.kindOf x = scope.names.lookup x := by rw [← hE]; rfl
      rcases Bool.or_eq_true_iff.mp hkx with q | q
      · have q' : env.kindOf x = some .local := by rw [ekind]; simpa using q
        exact .inl ⟨q', _, I.toInCall.ns, bindL_at hnd' hm q'⟩
      · have q' : env.kindOf x = some .cell := by rw [ekind]; simpa using q
        have hcl : env.cells = cellsFrom (s.heap.objs.size + 1) scope.names [] := by rw [← hE]; rfl
        obtain ⟨c, hc⟩ := Option.isSome_iff_exists.mp (cellsFrom_some (x := x) scope.names (s.heap.objs.size + 1) [] (.inl (by rw [← ekind]; exact q')))
        rw [← hcl] at hc
        refine .inr ⟨q', c, hc, ?_⟩
        have := I.cell x c hc
        rwa [bindC_at hnd' hm (by rw [q']; decide)] at this

noncomputable def retv : Flow → Value
  | .ret v => v
  | _ => .none
structure Ret (s₀ : Shared) (X B : Addr → Prop) (hB : Heap) (p : PV) (f : Flow) (s' : Shared) : Prop where
  same : ∃ h tk, s' = { s₀ with heap := h, toks := tk }
  old : ∀ b o, ¬ X b → s₀.heap.get? b = some o → s'.heap.get? b = some o
  fixd : ∀ b o, B b → hB.get? b = some o → s'.heap.get? b = some o
  rd : Rd s'.heap X (retv f) p
theorem Sta.ret {s₀ : Shared} {env : Env} {X X' B B' : Addr → Prop} {hB hB' : Heap} {Γ : List (Str × VK)} {Λ : List (MutH × List PV)} {s : Shared} {p : PV} {v : Value} (S : Sta h₀ s₀ env X' B' hB' Γ Λ s)
    (hX : ∀ a, X' a → X a ∨ s₀.heap.get? a = none) (hfx : ∀ b o, B b → hB.get? b = some o → s.heap.get? b = some o) (r : Rd s.heap X v p) : Ret s₀ X B hB p (.ret v) s :=
  ⟨S.same, fun b o nb e => S.old b o (fun q => (hX b q).elim nb fun q => by rw [q] at e; cases e) e, hfx, r⟩
theorem Sta.ret0 {s₀ : Shared} {env : Env} {X B : Addr → Prop} {hB : Heap} {Γ : List (Str × VK)} {Λ : List (MutH × List PV)} {s : Shared} {p : PV} {v : Value} (S : Sta h₀ s₀ env X B hB Γ Λ s) (r : Rd s.heap X v p) : Ret s₀ X B hB p (.ret v) s :=
  S.ret (fun _ q => .inl q) S.fixd r

theorem Sta.retE {s₀ : Shared} {env : Env} {X X' B B' : Addr → Prop} {hB hB' : Heap} {Γ : List (Str × VK)} {Λ : List (MutH × List PV)} {s : Shared} {p : PV} {v : Value} (E : Ext s₀ X B hB X' B' hB') (S : Sta h₀ s₀ env X' B' hB' Γ Λ s) (r : Rd s.heap X v p) : Ret s₀ X B hB p (.ret v) s :=
  S.ret E.new (fun b o q e => let ⟨q', e'⟩ := E.fix b o q e; S.fixd b o q' e') r
theorem Sta.retX {s₀ : Shared} {env : Env} {X X' B B' : Addr → Prop} {hB hB' : Heap} {Γ : List (Str × VK)} {Λ : List (MutH × List PV)} {s : Shared} {p : PV} {v : Value} (E : Ext s₀ X B hB X' B' hB') (S : Sta h₀ s₀ env X' B' hB' Γ Λ s) (r : Rd s.heap X' v p) : Ret s₀ X B hB p (.ret v) s :=
  S.retE E (r.narrow E.sub)
noncomputable def Body (prog : Program) (w : World) (h₀ : Heap) (n : Nat) (name : Str) (params : Arguments) (body : List Stmt) (scope : Scope) (a : Addr) (Γ : List (Str × VK)) (p : PV) : Prop :=
  ∀ A s₀ L code X B hB s₁, Room A n → Sta h₀ s₀ (callEnvC (docDef name params body scope .none code .none) L a) X B hB Γ [] s₁ →
    wpAny (model prog w) A (execs body (callEnvC (docDef name params body scope .none code .none) L a)) (Ret s₀ X B hB p) NoE s₁

theorem Fn_def {n : Nat} {name : Str} {params : Arguments} {body : List Stmt} {scope : Scope} {a : Addr} {ps : List PV} {p : PV} (G : Glb h₀ mg mb) (D : DefAt h₀ mg name params body scope a) (names : List Str) (hlen : names.length = ps.length)
    (h : Body prog w h₀ n name params body scope a (names.zip (ps.map .pv)) p)
    (hbind : ∀ pm code doc vs, vs.length = names.length → bindArgs (docDef name params body scope pm code doc) ⟨vs, []⟩ = pure (names.zip vs))
    (hnd : names.Nodup) (hkind : (names.all fun x => scope.names.lookup x == some .local || (scope.names.lookup x == some .cell)) = true)
    (hco : scope.isCoroutine = false := by kernel_rfl!) (hgen : scope.isGenerator = false := by kernel_rfl!) (hk : scope.kind = .function := by kernel_rfl!) : Fn prog w h₀ (n + 1) (.ref a) ps p := by
  intro X A s vs C R r
  refine enter (M := fun _ => False) G D C R (HL.of_rdl r) names (by simpa using hlen) hbind hnd hkind (fun code s₁ S => ?_) hco hgen hk
  refine wpAny_mono (h _ _ _ code _ _ _ s₁ (R.deeper _) S) (fun f s' q => ?_) fun _ _ e => e.elim
  obtain ⟨⟨h', tk, rfl⟩, q1, q2, q3⟩ := q
  have keep : ∀ b o, s.heap.get? b = some o → h'.get? b = some o := fun b o e => by
    by_cases x : X b
    · exact q2 b o ⟨x, fun z => z⟩ e
    · refine q1 b o (fun z => ?_) e
      rcases z with z | z
      · exact x z
      · -- new in the call
        have live := S.cok.xok b (.inr z)
        have : s.heap.get? b = none := by
          cases e' : s.heap.get? b with
          | none => rfl
          | some o' =>
            exfalso
            have hlt : @LT.lt Nat _ b s.heap.objs.size := Heap.lt_size e'
            rcases z with rfl | ⟨n, z⟩
            · exact Nat.lt_irrefl _ hlt
            · have hge : ∀ (names : List (Str × NameKind)) (k : Nat) (acc : List (Str × Addr)), (∀ n c, acc.lookup n = some c → k ≤ c ∨ s.heap.objs.size < c) → s.heap.objs.size < k → ∀ n c, (cellsFrom k names acc).lookup n = some c → s.heap.objs.size < c := by
                intro names
                induction names with
                | nil =>
                  intro k acc hacc hk n c hc
                  rcases hacc n c hc with q | q
                  · exact Nat.lt_of_lt_of_le hk q
                  · exact q
                | cons p r ih =>
                  obtain ⟨y, kd⟩ := p
                  intro k acc hacc hk n c hc
                  unfold cellsFrom at hc
                  split at hc
                  · refine ih (k + 1) _ (fun n c hc => ?_) (Nat.lt_succ_of_lt hk) n c hc
                    by_cases hy : n == y
                    · simp only [List.lookup_cons, hy] at hc
                      cases hc
                      exact .inr hk
                    · have hy' : (n == y) = false := by simpa using hy
                      simp only [List.lookup_cons, hy'] at hc
                      rcases hacc n c hc with q | q
                      · exact .inr (Nat.lt_of_lt_of_le hk q)
                      · exact .inr q
                  · exact ih k acc hacc hk n c hc
              have := hge scope.names (s.heap.objs.size + 1) [] (fun n c hc => by simp at hc) (Nat.lt_succ_self _) n b z
              exact Nat.lt_irrefl _ (Nat.lt_trans hlt this)
        rw [this] at e; cases e
  refine ⟨⟨h', tk, rfl, keep⟩, ?_⟩
  have q3' : Rd h' X (retv f) p := q3.narrow fun a q => .inl q
  cases f <;> exact q3'

variable {n : Nat} {env : Env} {X : Addr → Prop} {Γ : List (Str × VK)}

theorem Ex_glob {x : Str} {pos : Pos} {A : Around} {s : Shared} {v : Value} {Q : Value → Shared → Prop} (G : Glb h₀ mg mb) (C : Cok h₀ env X Γ s.heap) (hx : env.kindOf x = some .globalImplicit) (hv : mg x = some v) (h : Q v s) (hd : (x == ("__debug__" : Str)) = false) :
    wpAny (model prog w) A (eval (.Name x pos) env) Q NoE s :=
  Name_function_global C.ok.kind hx (loadGlobal_global (by rw [C.ok.globals]; exact G.g.keeps C.gd) hv h) hd
theorem Ex_boot {x : Str} {pos : Pos} {A : Around} {s : Shared} {v : Value} {Q : Value → Shared → Prop} (G : Glb h₀ mg mb) (C : Cok h₀ env X Γ s.heap) (hx : env.kindOf x = some .globalImplicit) (hm : mg x = none) (hn : x ≠ "__name__") (hv : bootBuiltins x = some v) (h : Q v s) (hd : (x == ("__debug__" : Str)) = false) :
    wpAny (model prog w) A (eval (.Name x pos) env) Q NoE s :=
  Name_function_global C.ok.kind hx (loadGlobal_builtin (by rw [C.ok.globals]; exact G.g.keeps C.gd) hm (by rw [C.ok.builtins]; exact G.b.keeps C.gd) ((G.boot x hn).trans hv) h) hd

theorem Ex_callF {f : Str} {fp pos : Pos} {e : Expr} {es : List Expr} {a : Addr} {ps : List PV} {p : PV} {params : Arguments} {body : List Stmt} {scope : Scope} (G : Glb h₀ mg mb) (D : DefAt h₀ mg f params body scope a) (hf : env.kindOf f = some .globalImplicit)
    (hd : (f == ("__debug__" : Str)) = false) (has : ExL prog w h₀ n env X Γ pos (e :: es) ps) (hF : Fn prog w h₀ n (.ref a) ps p)
    (hst : starEach (e :: es) env = (false, eval e env) :: starEach es env := by kernel_rfl!)
    (he : eval (.Call (.Name f fp) (e :: es) [] pos) env = (do callWith pos (← eval (.Name f fp) env) [] (backTo pos (starEach (e :: es) env)) (backToKw pos (keywordEach [] env))) := by kernel_rfl!) :
    Ex prog w h₀ n env X Γ (.Call (.Name f fp) (e :: es) [] pos) p := by
  intro A s R C
  obtain ⟨hname, o, pm, code, doc, ho, hd', hcd⟩ := D
  refine Call_ (Ex_glob G C hf hname ?_ hd) he
  refine callWith_def hd' (wpAny_mono (has A s R C) (fun vs s₁ h₁ => ?_) fun _ _ e => e) hst
  refine ⟨keeps_heap h₁.1 (C.gd _ _ ho), ?_⟩
  exact wpAny_mono (hF X A s₁ vs (C.keep h₁.1).x R h₁.2) (fun v s₂ h₂ => ⟨keeps_trans h₁.1 h₂.1, h₂.2⟩) fun _ _ e => e
theorem Ex_callB {f : Str} {fp pos : Pos} {e : Expr} {es : List Expr} {id : String} {ps : List PV} {p : PV} (G : Glb h₀ mg mb) (hm : mg f = none) (hb : bootBuiltins f = some (.builtin id)) (hf : env.kindOf f = some .globalImplicit)
    (hn : f ≠ "__name__") (hd : (f == ("__debug__" : Str)) = false) (has : ExL prog w h₀ n env X Γ pos (e :: es) ps) (hF : Fn prog w h₀ n (.builtin id) ps p)
    (hst : starEach (e :: es) env = (false, eval e env) :: starEach es env := by kernel_rfl!) (hpl : (backTo pos (starEach es env)).any (·.1) = false := by kernel_rfl!)
    (he : eval (.Call (.Name f fp) (e :: es) [] pos) env = (do callWith pos (← eval (.Name f fp) env) [] (backTo pos (starEach (e :: es) env)) (backToKw pos (keywordEach [] env))) := by kernel_rfl!) :
    Ex prog w h₀ n env X Γ (.Call (.Name f fp) (e :: es) [] pos) p := by
  intro A s R C
  refine Call_ (Ex_boot G C hf hm hn hb ?_ hd) he
  refine callWith_builtin1 (wpAny_mono (has A s R C) (fun vs s₁ h₁ => ?_) fun _ _ e => e) hst hpl
  exact wpAny_mono (hF X A s₁ vs (C.keep h₁.1).x R h₁.2) (fun v s₂ h₂ => ⟨keeps_trans h₁.1 h₂.1, h₂.2⟩) fun _ _ e => e

theorem It_range {fp pos : Pos} {es : List Expr} {e : Expr} {a c : Int} {k : Nat} {ps : List PV} (G : Glb h₀ mg mb) (hm : mg "range" = none) (hf : env.kindOf "range" = some .globalImplicit)
    (has : ExL prog w h₀ n env X Γ pos (e :: es) ps)
    (hr : ∀ X A s vs, RdL s.heap X vs ps → wpAny (model prog w) A (call (.type "range") vs []) (fun v s' => Keeps s s' ∧ ∃ r b t u q, v = .ref r ∧ IsRange s'.heap r a b c t u q ∧ Builtin.Range.small a b c = true ∧ Builtin.Range.rangeSize a b c = (k : Int)) NoE s)
    (hst : starEach (e :: es) env = (false, eval e env) :: starEach es env := by kernel_rfl!) (hpl : (backTo pos (starEach es env)).any (·.1) = false := by kernel_rfl!)
    (he : eval (.Call (.Name "range" fp) (e :: es) [] pos) env = (do callWith pos (← eval (.Name "range" fp) env) [] (backTo pos (starEach (e :: es) env)) (backToKw pos (keywordEach [] env))) := by kernel_rfl!) :
    It prog w h₀ n env X Γ (.Call (.Name "range" fp) (e :: es) [] pos) (rangePV a c k) := by
  intro A s R C
  refine Call_ (Ex_boot G C hf hm (by decide) boot_range ?_ (by decide)) he
  refine callWith_type1 (wpAny_mono (has A s R C) (fun vs s₁ h₁ => ?_) fun _ _ e => e) hst hpl
  refine wpAny_mono (hr X A s₁ vs h₁.2) (fun v s₂ h₂ => ?_) fun _ _ e => e
  obtain ⟨k₂, r, b, t, u, q, rfl, h3, h4, h5⟩ := h₂
  exact ⟨keeps_trans h₁.1 k₂, iter_range R.handled h3 h4 h5⟩
theorem range1 {b : Int} (hb : 0 ≤ b) (hb' : b < 2 ^ 40) (X : Addr → Prop) (A : Around) (s : Shared) (vs : List Value) (r : RdL s.heap X vs [.int b]) :
    wpAny (model prog w) A (call (.type "range") vs []) (fun v s' => Keeps s s' ∧ ∃ r b' t u q, v = .ref r ∧ IsRange s'.heap r 0 b' 1 t u q ∧ Builtin.Range.small 0 b' 1 = true ∧ Builtin.Range.rangeSize 0 b' 1 = (b.toNat : Int)) NoE s := by
  cases r with
  | cons r rs =>
    cases rs
    obtain ⟨t, rfl⟩ := r.isInt
    refine call_range_1 ⟨⟨_, _, rfl, fun _ _ e => Heap.get?_push_of_some _ e⟩, _, _, _, _, _, rfl, IsRange.new .., small_one (by omega) (by omega) (by omega) (by omega), ?_⟩
    rw [rangeSize_one]
    split <;> omega
theorem range2 {a b : Int} (ha : 0 ≤ a) (ha' : a < 2 ^ 40) (hb : 0 ≤ b) (hb' : b < 2 ^ 40) (X : Addr → Prop) (A : Around) (s : Shared) (vs : List Value) (r : RdL s.heap X vs [.int a, .int b]) :
    wpAny (model prog w) A (call (.type "range") vs []) (fun v s' => Keeps s s' ∧ ∃ r b' t u q, v = .ref r ∧ IsRange s'.heap r a b' 1 t u q ∧ Builtin.Range.small a b' 1 = true ∧ Builtin.Range.rangeSize a b' 1 = ((b - a).toNat : Int)) NoE s := by
  cases r with
  | cons r rs =>
    cases rs with
    | cons r2 rs =>
      cases rs
      obtain ⟨t, rfl⟩ := r.isInt
      obtain ⟨t', rfl⟩ := r2.isInt
      refine call_range_2 ⟨⟨_, _, rfl, fun _ _ e => Heap.get?_push_of_some _ e⟩, _, _, _, _, _, rfl, IsRange.new .., small_one (by omega) (by omega) (by omega) (by omega), ?_⟩
      rw [rangeSize_one]
      split <;> omega
theorem small_down {a : Int} (ha : -1 ≤ a) (ha' : a < 2 ^ 40) : Builtin.Range.small a (-1) (-1) = true ∧ Builtin.Range.rangeSize a (-1) (-1) = ((a + 1).toNat : Int) := by
  have e : Builtin.Range.rangeSize a (-1) (-1) = ((a + 1).toNat : Int) := by
    unfold Builtin.Range.rangeSize
    simp only [show ¬ ((-1 : Int) > 0) by decide, if_false, Int.neg_neg, Int.ediv_one]
    split <;> omega
  refine ⟨?_, e⟩
  unfold Builtin.Range.small
  rw [e]
  simp only [Builtin.Range.rangeFitsLong, Bool.and_eq_true, Bool.or_eq_true, decide_eq_true_eq, beq_iff_eq, show ¬ ((-1 : Int) > 0) by decide, if_false]
  omega
theorem range3 {a : Int} (ha : -1 ≤ a) (ha' : a < 2 ^ 40) (X : Addr → Prop) (A : Around) (s : Shared) (vs : List Value) (r : RdL s.heap X vs [.int a, .int (-1), .int (-1)]) :
    wpAny (model prog w) A (call (.type "range") vs []) (fun v s' => Keeps s s' ∧ ∃ r b' t u q, v = .ref r ∧ IsRange s'.heap r a b' (-1) t u q ∧ Builtin.Range.small a b' (-1) = true ∧ Builtin.Range.rangeSize a b' (-1) = ((a + 1).toNat : Int)) NoE s := by
  cases r with
  | cons r rs =>
    cases rs with
    | cons r2 rs =>
      cases rs with
      | cons r3 rs =>
        cases rs
        obtain ⟨t, rfl⟩ := r.isInt
        obtain ⟨t', rfl⟩ := r2.isInt
        obtain ⟨t3, rfl⟩ := r3.isInt
        refine call_range_3 (by decide) ⟨⟨_, _, rfl, fun _ _ e => Heap.get?_push_of_some _ e⟩, _, _, _, _, _, rfl, IsRange.new .., (small_down ha ha').1, (small_down ha ha').2⟩ (.inl (PyProof.noPylong_small (by omega)))
end
end Mine
end
section
open PySem PySem.W PyProof.Rows PySem.Calls
namespace Mine

noncomputable def notSlice : Expr → Bool
  | .Slice .. => false
  | _ => true
theorem subscripted_plain {slice : Expr} {o i : Value} (h : notSlice slice = true) : subscripted slice false o i = operate [o, i] (getItem o i) := by
  cases slice <;> first | rfl | cases h

noncomputable def pickIdx (lo hi st : Option Int) (n : Nat) : List Nat := sliceRange (sliceBounds lo hi st n).1 (sliceBounds lo hi st n).2.1 (sliceBounds lo hi st n).2.2
noncomputable def pickL {α : Type} (l : List α) (lo hi st : Option Int) : List α := (pickIdx lo hi st l.length).filterMap (l[·]?)
theorem RdL.filterMap {h : Heap} {X : Addr → Prop} {vs : List Value} {ps : List PV} (r : RdL h X vs ps) : ∀ idx : List Nat, RdL h X (idx.filterMap (vs[·]?)) (idx.filterMap (ps[·]?))
  | [] => .nil
  | i :: idx => by
    have ih := r.filterMap idx
    rw [List.filterMap_cons, List.filterMap_cons]
    cases e : ps[i]? with
    | none =>
      have : vs[i]? = none := by
        rw [List.getElem?_eq_none_iff] at e ⊢
        rw [r.length]; exact e
      rw [this]; exact ih
    | some p =>
      obtain ⟨v, hv, rv⟩ := r.get e
      rw [hv]; exact .cons rv ih
theorem slicePick_eq (vs : List Value) (lo hi st : Option Int) : slicePick vs.toArray lo hi st = (pickL vs lo hi st).toArray := by
  unfold slicePick pickL pickIdx
  simp
theorem pickIdx_run {lo hi : Option Int} {n a b : Nat} (e : sliceBounds lo hi none n = ((a : Int), (b : Int), 1)) : pickIdx lo hi none n = (List.range (b - a)).map (a + ·) := by
  unfold pickIdx
  rw [e]
  exact sliceRange_one a b
theorem pick_list {α : Type} (l : List α) (a : Nat) (k : Nat) : ((List.range k).map (a + ·)).filterMap (l[·]?) = (l.drop a).take k := by
  have := pick_run l.toArray a k
  simpa using this
theorem pickL_from {α : Type} (l : List α) (a : Nat) : pickL l (some a) none none = l.drop a := by
  unfold pickL
  rw [pickIdx_run (a := min a l.length) (b := l.length) (by rw [sliceBounds_plain]; simp [clipAt_nat])]
  rw [pick_list]
  by_cases h : a ≤ l.length
  · rw [Nat.min_eq_left h]; exact List.take_of_length_le (by simp)
  · rw [Nat.min_eq_right (by omega), List.drop_of_length_le (i := l.length) (Nat.le_refl _), List.drop_of_length_le (i := a) (by omega)]; simp
theorem pickL_upto {α : Type} (l : List α) (b : Nat) : pickL l none (some b) none = l.take b := by
  unfold pickL
  rw [pickIdx_run (a := 0) (b := min b l.length) (by rw [sliceBounds_plain]; simp [clipAt_nat])]
  rw [pick_list]
  simp only [List.drop_zero, Nat.sub_zero]
  by_cases h : b ≤ l.length
  · rw [Nat.min_eq_left h]
  · rw [Nat.min_eq_right (by omega), List.take_of_length_le (i := b) (by omega), List.take_of_length_le (Nat.le_refl _)]
theorem pickL_all {α : Type} (l : List α) : pickL l none none none = l := by
  unfold pickL
  rw [pickIdx_run (a := 0) (b := l.length) (by rw [sliceBounds_plain]; simp)]
  rw [pick_list]
  simp

section
variable {prog : Program} {w : World} {h₀ : Heap} {mg mb : Str → Option Value} {n : Nat} {env : Env} {X : Addr → Prop} {Γ : List (Str × VK)}

inductive Pt (prog : Program) (w : World) (h₀ : Heap) (n : Nat) (env : Env) (X : Addr → Prop) (Γ : List (Str × VK)) : Option Expr → Option Int → Prop
  | none : Pt prog w h₀ n env X Γ .none .none
  | some {e : Expr} {i : Int} : Ex prog w h₀ n env X Γ e (.int i) → Pt prog w h₀ n env X Γ (.some e) (.some i)
theorem Pt.run {e : Option Expr} {i : Option Int} (h : Pt prog w h₀ n env X Γ e i) {A : Around} {s : Shared} (R : Room A n) (C : Cok h₀ env X Γ s.heap) :
    wpAny (model prog w) A (evalPart e env) (fun v s' => Keeps s s' ∧ IsPart v i) NoE s := by
  cases h with
  | none => exact wpAny_pure ⟨keeps_refl s, .none⟩
  | some h =>
    refine wpAny_mono (h A s R C) (fun v s' q => ?_) fun _ _ e => e
    obtain ⟨t, rfl⟩ := q.2.isInt
    exact ⟨q.1, .int _ t⟩

theorem Ex_item {value slice : Expr} {pos : Pos} {ps : List PV} {i : Int} {p : PV} (hv : Ex prog w h₀ n env X Γ value (.lst ps)) (hi : Ex prog w h₀ n env X Γ slice (.int i)) (h0 : 0 ≤ i) (hp : ps[i.toNat]? = some p) (h63 : i < 2 ^ 63 := by omega)
    (hs : notSlice slice = true := by kernel_rfl!) : Ex prog w h₀ n env X Γ (.Subscript value slice pos) p := by
  intro A s R C
  refine Subscript_ (wpAny_mono (hv A s R C) (fun v s₁ h₁ => wpAny_mono (hi A s₁ R (C.keep h₁.1)) (fun k s₂ h₂ => ?_) fun _ _ e => e) fun _ _ e => e)
  obtain ⟨a, vs, m, rfl, e, rs⟩ := (h₁.2.keep h₂.1).isList
  obtain ⟨t, rfl⟩ := h₂.2.isInt
  have hl := lst_isList e
  obtain ⟨v, hv', rv⟩ := rs.get hp
  exact tail_any hl.typeIs slot_list_getitem.lookup (wpAny_getItem_list hl h0 h63 (by simpa using hv') ⟨keeps_trans h₁.1 h₂.1, rv⟩) (subscripted_plain hs)
theorem Ex_sign {value slice : Expr} {pos : Pos} {x : Str} {i : Int} {c : Nat} (hv : Ex prog w h₀ n env X Γ value (.str x)) (hi : Ex prog w h₀ n env X Γ slice (.int i)) (h63 : -(2 ^ 63) ≤ i ∧ i < 2 ^ 63) (hp : (seqIndex? i x.length).bind (x.cps[·]?) = some c)
    (hs : notSlice slice = true := by kernel_rfl!) : Ex prog w h₀ n env X Γ (.Subscript value slice pos) (.str ⟨#[c]⟩) := by
  intro A s R C
  refine Subscript_ (wpAny_mono (hv A s R C) (fun v s₁ h₁ => wpAny_mono (hi A s₁ R (C.keep h₁.1)) (fun k s₂ h₂ => ?_) fun _ _ e => e) fun _ _ e => e)
  obtain ⟨t', rfl⟩ := h₁.2.isStr
  obtain ⟨t, rfl⟩ := h₂.2.isInt
  refine tail_any (typeIs_str _ x t') slot_str_getitem.lookup (PyProof.Rows.getItem_str (by rw [decide_eq_false (by omega), decide_eq_false (by omega)]; rfl) hp ?_) (subscripted_plain hs)
  exact ⟨keeps_trans (keeps_trans h₁.1 h₂.1) (keeps_toks _ _), .str _ _⟩
theorem Ex_slice {value : Expr} {lo hi : Option Expr} {i j : Option Int} {sp pos : Pos} {ps : List PV} (hv : Ex prog w h₀ n env X Γ value (.lst ps)) (hlo : Pt prog w h₀ n env X Γ lo i) (hhi : Pt prog w h₀ n env X Γ hi j) (hsz : ps.length ≤ 100000)
    (ht : ∀ o r, letTemporaryGo value o r = pure () := by intro _ _; kernel_rfl!) : Ex prog w h₀ n env X Γ (.Subscript value (.Slice lo hi none sp) pos) (.lst (pickL ps i j none)) := by
  intro A s R C
  refine wpAny_Subscript_list_slice (wpAny_mono (hv A s R C) (fun v s₁ h₁ => wpAny_mono (hlo.run R (C.keep h₁.1)) (fun vl s₂ h₂ => wpAny_mono (hhi.run R ((C.keep h₁.1).keep h₂.1)) (fun vu s₃ h₃ => ?_) fun _ _ e => e) fun _ _ e => e) fun _ _ e => e) ht
  have k3 := keeps_trans h₁.1 (keeps_trans h₂.1 h₃.1)
  obtain ⟨a, vs, m, rfl, e, rs⟩ := ((h₁.2.keep h₂.1).keep h₃.1).isList
  have hl := lst_isList e
  refine ⟨a, vs.toArray, i, j, rfl, hl, by simp only [List.size_toArray, rs.length, sizeLine_eq]; omega, h₂.2, h₃.2, ?_⟩
  have kp : Keeps s₃ { s₃ with heap := (s₃.heap.push { cls := Value.type "slice", data := Data.fields #[vl, vu, Value.none] }).push { cls := Value.type "list", data := Data.seq (slicePick vs.toArray i j none) } } :=
    ⟨_, _, rfl, fun _ _ e => Heap.get?_push_of_some _ (Heap.get?_push_of_some _ e)⟩
  refine ⟨keeps_trans k3 kp, ?_⟩
  have nx : ¬ X (s₃.heap.objs.size + 1) := by
    have c2 := ((C.keep k3).keep (keeps_push s₃ { cls := Value.type "slice", data := Data.fields #[vl, vu, Value.none] })).x.new
    rwa [Heap.size_push] at c2
  refine .lst (vs := pickL vs i j none) (n := 0) ?_ nx ?_
  · rw [slicePick_eq]
    have := Heap.get?_push_size (o := lstObj (pickL vs i j none) 0) (s₃.heap.push { cls := Value.type "slice", data := Data.fields #[vl, vu, Value.none] }) rfl
    rwa [Heap.size_push] at this
  · have : RdL s₃.heap X (pickL vs i j none) (pickL ps i j none) := by
      unfold pickL; rw [rs.length]; exact rs.filterMap _
    exact this.keep kp
theorem Ex_sliceK {value st : Expr} {lo hi : Option Expr} {i j : Option Int} {k : Int} {sp pos : Pos} {ps : List PV} (hv : Ex prog w h₀ n env X Γ value (.lst ps)) (hlo : Pt prog w h₀ n env X Γ lo i) (hhi : Pt prog w h₀ n env X Γ hi j) (hst : Ex prog w h₀ n env X Γ st (.int k)) (hk : k ≠ 0) (hsz : ps.length ≤ 100000)
    (ht : ∀ o r, letTemporaryGo value o r = pure () := by intro _ _; kernel_rfl!) : Ex prog w h₀ n env X Γ (.Subscript value (.Slice lo hi (some st) sp) pos) (.lst (pickL ps i j (some k))) := by
  intro A s R C
  refine wpAny_Subscript_Slice_step slot_list_getitem.lookup (wpAny_mono (hv A s R C) (fun v s₁ h₁ => ?_) fun _ _ e => e) ht
  refine wpAny_Slice (wpAny_mono (hlo.run R (C.keep h₁.1)) (fun vl s₂ h₂ => wpAny_mono (hhi.run R ((C.keep h₁.1).keep h₂.1)) (fun vu s₃ h₃ => wpAny_mono (hst A s₃ R (((C.keep h₁.1).keep h₂.1).keep h₃.1)) (fun vk s₄ h₄ => ?_) fun _ _ e => e) fun _ _ e => e) fun _ _ e => e)
  have k4 := keeps_trans h₁.1 (keeps_trans h₂.1 (keeps_trans h₃.1 h₄.1))
  obtain ⟨a, vs, m, rfl, e, rs⟩ := (((h₁.2.keep h₂.1).keep h₃.1).keep h₄.1).isList
  obtain ⟨tk, rfl⟩ := h₄.2.isInt
  have kp1 := keeps_push s₄ { cls := Value.type "slice", data := Data.fields #[vl, vu, .int k tk] }
  have e1 := keeps_heap kp1 e
  have hl := lst_isList e1
  refine ⟨hl.typeIs, ?_⟩
  refine wpAny_getItem_list_slice hl (Heap.IsSliceOf.new _ _ _ _) h₂.2 h₃.2 (.int k tk) (by simpa using hk) ?_ (by simp only [List.size_toArray, rs.length, sizeLine_eq]; omega)
  have kp2 := keeps_push { s₄ with heap := s₄.heap.push { cls := Value.type "slice", data := Data.fields #[vl, vu, .int k tk] } } { cls := Value.type "list", data := Data.seq (slicePick vs.toArray i j (some k)) }
  refine ⟨keeps_trans k4 (keeps_trans kp1 kp2), ?_⟩
  have c2 := ((C.keep k4).keep kp1).x.new
  refine .lst (vs := pickL vs i j (some k)) (n := 0) ?_ c2 ?_
  · rw [slicePick_eq]
    exact Heap.get?_push_size (o := lstObj (pickL vs i j (some k)) 0) _ rfl
  · have : RdL s₄.heap X (pickL vs i j (some k)) (pickL ps i j (some k)) := by
      unfold pickL; rw [rs.length]; exact rs.filterMap _
    exact (this.keep kp1).keep kp2
theorem Ex_sliceS {value : Expr} {lo hi : Option Expr} {i j : Option Int} {sp pos : Pos} {x : Str} (hv : Ex prog w h₀ n env X Γ value (.str x)) (hlo : Pt prog w h₀ n env X Γ lo i) (hhi : Pt prog w h₀ n env X Γ hi j) (hsz : x.length ≤ 100000)
    (ht : ∀ o r, letTemporaryGo value o r = pure () := by intro _ _; kernel_rfl!) : Ex prog w h₀ n env X Γ (.Subscript value (.Slice lo hi none sp) pos) (.str (Txt.slice x i j)) := by
  intro A s R C
  refine wpAny_Subscript_str_slice (wpAny_mono (hv A s R C) (fun v s₁ h₁ => wpAny_mono (hlo.run R (C.keep h₁.1)) (fun vl s₂ h₂ => wpAny_mono (hhi.run R ((C.keep h₁.1).keep h₂.1)) (fun vu s₃ h₃ => ?_) fun _ _ e => e) fun _ _ e => e) fun _ _ e => e) ht
  have k3 := keeps_trans h₁.1 (keeps_trans h₂.1 h₃.1)
  obtain ⟨t, rfl⟩ := h₁.2.isStr
  have part : ∀ {v : Value} {i : Option Int}, IsPart v i → ∃ l : Option (Int × Tok), v = partValue l ∧ l.map (·.1) = i := by
    intro v i h
    cases h with
    | none => exact ⟨none, rfl, rfl⟩
    | int i t => exact ⟨some (i, t), rfl, rfl⟩
  obtain ⟨l, rfl, hl⟩ := part h₂.2
  obtain ⟨u, rfl, hu⟩ := part h₃.2
  refine ⟨x, t, l, u, rfl, rfl, rfl, ?_⟩
  have hm : sliceMade x t l u none = (if ((1 : Int) == 1 && (Builtin.Str.strSliceIndices i j 1 x.length).length == x.length) = true then .val (.str x t) else .str ⟨((Builtin.Str.strSliceIndices i j 1 x.length).filterMap (x.cps[·]?)).toArray⟩) := by
    subst hl hu; rfl
  have le := Txt.slice_le x i j
  rw [hm]
  unfold Txt.slice at le ⊢
  split
  · exact ⟨keeps_trans k3 (keeps_push _ _), .str _ _⟩
  · rename_i hn
    rw [if_neg hn] at le
    refine ⟨?_, ?_⟩
    · rw [sizeLine_eq]; omega
    · exact ⟨keeps_trans k3 (keeps_trans (keeps_push _ _) (keeps_toks _ _)), .str _ _⟩

theorem Fn_len {ps : List PV} (hsz : ps.length ≤ 100000) : Fn prog w h₀ n (.builtin "len") [.lst ps] (.int ps.length) := by
  intro X A s vs C R r
  cases r with
  | cons r rs =>
    cases rs
    obtain ⟨a, us, m, rfl, e, rs⟩ := r.isList
    refine call_len_list (lst_isList e) (by simp only [List.size_toArray, rs.length]; omega) ?_
    have : ((us.toArray.size : Nat) : Int) = (ps.length : Int) := by simp [rs.length]
    rw [this]
    exact ⟨keeps_toks s _, .int _ _⟩
theorem Fn_lenS {x : Str} (hsz : x.length ≤ 100000) : Fn prog w h₀ n (.builtin "len") [.str x] (.int x.length) := by
  intro X A s vs C R r
  cases r with
  | cons r rs =>
    cases rs
    obtain ⟨t, rfl⟩ := r.isStr
    refine len_str (by omega) ?_
    exact ⟨keeps_toks s _, .int _ _⟩
theorem Fn_max {a b : Int} : Fn prog w h₀ n (.builtin "max") [.int a, .int b] (.int (max a b)) := by
  intro X A s vs C R r
  cases r with
  | cons r rs =>
    cases rs with
    | cons r2 rs =>
      cases rs
      obtain ⟨t, rfl⟩ := r.isInt
      obtain ⟨t', rfl⟩ := r2.isInt
      refine max_two_ints R.handled fun h' tk hk => ⟨⟨h', tk, rfl, hk⟩, ?_⟩
      split
      · rw [Int.max_eq_right (by omega)]; exact .int _ _
      · rw [Int.max_eq_left (by omega)]; exact .int _ _
theorem Fn_min {a b : Int} : Fn prog w h₀ n (.builtin "min") [.int a, .int b] (.int (min a b)) := by
  intro X A s vs C R r
  cases r with
  | cons r rs =>
    cases rs with
    | cons r2 rs =>
      cases rs
      obtain ⟨t, rfl⟩ := r.isInt
      obtain ⟨t', rfl⟩ := r2.isInt
      refine min_two_ints R.handled fun h' tk hk => ⟨⟨h', tk, rfl, hk⟩, ?_⟩
      split
      · rw [Int.min_eq_right (by omega)]; exact .int _ _
      · rw [Int.min_eq_left (by omega)]; exact .int _ _

noncomputable def iPV (l : List Int) : List PV := l.map .int
theorem iPV_of {h : Heap} {X : Addr → Prop} : ∀ {vs : List Value} {l : List Int}, RdL h X vs (iPV l) → ∃ xs : List (Int × Tok), xs.map (·.1) = l ∧ vs = xs.map fun p => .int p.1 p.2
  | [], [], _ => ⟨[], rfl, rfl⟩
  | _ :: _, i :: l, .cons r rs => by
    obtain ⟨t, rfl⟩ := Rd.isInt r
    obtain ⟨xs, h1, h2⟩ := iPV_of rs
    exact ⟨(i, t) :: xs, by simp [h1], by simp [h2]⟩
theorem preSum_eq (val : Nat → Int) (l : List Int) (h : ∀ i x, l[i]? = some x → val i = x) : ∀ k, k ≤ l.length → preSum val k = (l.take k).sum
  | 0, _ => by simp [preSum]
  | k + 1, hk => by
    have ih := preSum_eq val l h k (by omega)
    have e : l[k]? = some l[k] := List.getElem?_eq_getElem (by omega)
    rw [List.take_add_one, e]
    show preSum val k + val k = _
    rw [ih, h k _ e, List.sum_append]
    simp only [Option.toList_some, List.sum_cons, List.sum_nil, Int.add_zero]
theorem Fn_sum {l : List Int} : Fn prog w h₀ n (.builtin "sum") [.lst (iPV l)] (.int l.sum) := by
  intro X A s vs C R r
  cases r with
  | cons r rs =>
    cases rs
    obtain ⟨a, us, m, rfl, e, rs⟩ := r.isList
    obtain ⟨xs, h1, h2⟩ := iPV_of rs
    have hlen : us.length = l.length := by rw [rs.length]; simp [iPV]
    have hl := lst_isList e
    have hne : a ≠ s.heap.objs.size := Nat.ne_of_lt (Heap.lt_size e)
    refine call_sum_walkAnyS (wpAny_pyIter_list hl ?_)
    have W := Walks.list (prog := prog) (w := w) (A := A.in1) R.handled s.heap.objs.size a hne us.toArray
    refine ⟨_, _, _, _, _, _, _, fun i => (l[i]?).getD 0, rfl, W.toS, ⟨⟨_, Heap.get?_push_size _ rfl, rfl, rfl⟩, hl.push _⟩, fun b hb => ?_, fun i v hP => ?_, fun s' t' hm => ?_⟩
    · rw [Heap.size_push]
      simp only [List.mem_cons, List.not_mem_nil, or_false] at hb
      rcases hb with rfl | rfl
      · exact Nat.lt_succ_self _
      · exact Nat.lt_succ_of_lt (Heap.lt_size e)
    · have hv : us[i]? = some v := by simpa using hP
      rw [h2, List.getElem?_map] at hv
      obtain ⟨p, hp, rfl⟩ := Option.map_eq_some_iff.mp hv
      refine ⟨p.2, ?_⟩
      have : l[i]? = some p.1 := by rw [← h1, List.getElem?_map, hp]; rfl
      simp [this]
    · have hs : preSum (fun i => (l[i]?).getD 0) us.toArray.size = l.sum := by
        rw [preSum_eq _ l (fun i x hx => by simp [hx]) _ (by simp [hlen])]
        rw [List.take_of_length_le (by simp [hlen])]
      rw [hs]
      refine ⟨⟨s'.heap, s'.toks, ?_, fun b o eb => hm.heap b o (fun hb => ?_) (Heap.get?_push_of_some _ eb)⟩, .int _ _⟩
      · have h1 := hm.gens; have h2 := hm.drawn; have h3 := hm.os
        obtain ⟨x1, x2, x3, x4, x5⟩ := s'
        simp only at h1 h2 h3
        subst h1 h2 h3
        rfl
      · simp only [List.mem_cons, List.not_mem_nil, or_false] at hb
        rw [hb] at eb
        exact absurd (Heap.lt_size eb) (Nat.lt_irrefl _)
end
end Mine
end
section
open PySem PySem.W PyProof.Rows PySem.Calls
namespace Mine

noncomputable def fnB (i : Nat) : List Stmt := match PySem.Challenge.pw_xj0004_01.main.body[i]? with | some (.FunctionDef _ _ b _ _ _ _ _ _ _) => b | _ => []
noncomputable def fnA (i : Nat) : Arguments := match PySem.Challenge.pw_xj0004_01.main.body[i]? with | some (.FunctionDef _ a _ _ _ _ _ _ _ _) => a | _ => ⟨[], [], none, [], [], none, []⟩
noncomputable def fnS (i : Nat) : Scope := match PySem.Challenge.pw_xj0004_01.main.body[i]? with | some (.FunctionDef _ _ _ _ _ _ s _ _ _) => s | _ => default

theorem lookup_ne {x y : Str} {k k' : VK} {Γ : List (Str × VK)} (h : (y == x) = false) (e : Γ.lookup y = some k) : ((x, k') :: Γ).lookup y = some k := by
  rw [List.lookup_cons, h]; exact e
theorem canLocal {env : Env} {x : Str} (h : env.kindOf x = some .local) : CanStore env x := .inl h
theorem canCell {env : Env} {x : Str} (h : env.kindOf x = some .cell) (c : (env.cells.lookup x).isSome = true) : CanStore env x := .inr ⟨h, Option.isSome_iff_exists.mp c⟩

section
variable {prog : Program} {w : World} {h₀ : Heap} {n : Nat} {env : Env} {X : Addr → Prop} {Γ : List (Str × VK)}
theorem Ex_eq {e : Expr} {p q : PV} (h : Ex prog w h₀ n env X Γ e p) (he : p = q) : Ex prog w h₀ n env X Γ e q := he ▸ h
theorem Ts_eq {e : Expr} {p q : Bool} (h : Ts prog w h₀ n env X Γ e p) (he : p = q) : Ts prog w h₀ n env X Γ e q := he ▸ h
end

end Mine
end
section
open PySem PySem.W PyProof.Rows PySem.Calls
namespace Mine

section
variable {prog : Program} {w : World} {h₀ : Heap} {mg mb : Str → Option Value} {n : Nat} {env : Env} {X : Addr → Prop} {Γ : List (Str × VK)}

theorem Ex_neg {i : Int} {k : Nat} {p pos : Pos} : Ex prog w h₀ n env X Γ (.UnaryOp .USub (.Constant (.int i) k p) pos) (.int (-i)) := by
  intro A s R C
  refine UnaryOp_ (wpAny_Constant_int ?_)
  refine PyProof.Rows.neg_int ?_
  exact ⟨keeps_trans (keeps_toks s _) (keeps_toks _ _), .int _ _⟩
theorem Ex_if {t b o : Expr} {pos : Pos} {c : Bool} {p q : PV} (ht : Ts prog w h₀ n env X Γ t c) (hb : c = true → Ex prog w h₀ n env X Γ b p) (ho : c = false → Ex prog w h₀ n env X Γ o q) : Ex prog w h₀ n env X Γ (.IfExp t b o pos) (if c then p else q) := by
  intro A s R C
  refine IfExp_ (wpAny_mono (ht A s R C) (fun c' s₁ h₁ => ?_) fun _ _ e => e)
  obtain ⟨k, rfl⟩ := h₁
  cases c' with
  | true => exact wpAny_mono (hb rfl A s₁ R (C.keep k)) (fun v s₂ h₂ => ⟨keeps_trans k h₂.1, h₂.2⟩) fun _ _ e => e
  | false => exact wpAny_mono (ho rfl A s₁ R (C.keep k)) (fun v s₂ h₂ => ⟨keeps_trans k h₂.1, h₂.2⟩) fun _ _ e => e

theorem Ex_listRange {fp rp pos rpos : Pos} {e : Expr} {es : List Expr} {a c : Int} {k : Nat} {ps : List PV} (G : Glb h₀ mg mb) (hm : mg "range" = none) (hl : mg "list" = none) (hf : env.kindOf "range" = some .globalImplicit) (hf' : env.kindOf "list" = some .globalImplicit)
    (has : ExL prog w h₀ n env X Γ rpos (e :: es) ps) (hk : k ≤ 1000)
    (hr : ∀ X A s vs, RdL s.heap X vs ps → wpAny (model prog w) A (call (.type "range") vs []) (fun v s' => Keeps s s' ∧ ∃ r b t u q, v = .ref r ∧ IsRange s'.heap r a b c t u q ∧ Builtin.Range.small a b c = true ∧ Builtin.Range.rangeSize a b c = (k : Int)) NoE s)
    (hst : starEach (e :: es) env = (false, eval e env) :: starEach es env := by kernel_rfl!) (hpl : (backTo rpos (starEach es env)).any (·.1) = false := by kernel_rfl!)
    (he : eval (.Call (.Name "range" rp) (e :: es) [] rpos) env = (do callWith rpos (← eval (.Name "range" rp) env) [] (backTo rpos (starEach (e :: es) env)) (backToKw rpos (keywordEach [] env))) := by kernel_rfl!)
    (he' : eval (.Call (.Name "list" fp) [.Call (.Name "range" rp) (e :: es) [] rpos] [] pos) env = (do callWith pos (← eval (.Name "list" fp) env) [] (backTo pos (starEach [.Call (.Name "range" rp) (e :: es) [] rpos] env)) (backToKw pos (keywordEach [] env))) := by kernel_rfl!) :
    Ex prog w h₀ n env X Γ (.Call (.Name "list" fp) [.Call (.Name "range" rp) (e :: es) [] rpos] [] pos) (.lst (rangePV a c k)) := by
  intro A s R C
  refine Call_ (Ex_boot G C hf' hl (by decide) boot_list ?_ (by decide)) he'
  refine callWith_type1 (args_cons ?_ rfl) rfl rfl
  refine Call_ (Ex_boot G C hf hm (by decide) boot_range ?_ (by decide)) he
  refine callWith_type1 (wpAny_mono (has A s R C) (fun vs s₁ h₁ => ?_) fun _ _ e => e) hst hpl
  refine wpAny_mono (hr X A s₁ vs h₁.2) (fun v s₂ h₂ => ?_) fun _ _ e => e
  obtain ⟨k₂, r, b, t, u, q, rfl, h3, h4, h5⟩ := h₂
  refine args_nil ?_
  have k12 := keeps_trans h₁.1 k₂
  refine call_list_range R.handled h3 h4 h5 (by omega) fun h' tk acc' c' hkp hacc hit => ?_
  have kk : Keeps s₂ { s₂ with heap := h', toks := tk } := ⟨h', tk, rfl, hkp⟩
  refine ⟨keeps_trans k12 kk, ?_⟩
  refine .lst (vs := acc'.toList) (n := c') (by simpa using hacc) (C.keep k12).x.new ?_
  obtain ⟨hlen, hP⟩ := hit
  refine RdL.all (by simp [rangePV, hlen]) fun i v p hv hp => ?_
  have hi : i < k := by
    have := (List.getElem?_eq_some_iff.mp hv).1
    simp only [Array.length_toList, hlen] at this
    exact this
  obtain ⟨t, rfl⟩ := hP i v (by simpa using hv)
  have : p = .int (a + i * c) := by
    unfold rangePV at hp
    rw [List.getElem?_map] at hp
    obtain ⟨j, hj, rfl⟩ := Option.map_eq_some_iff.mp hp
    obtain ⟨hl, rfl⟩ := List.getElem?_eq_some_iff.mp hj
    simp
  rw [this]
  exact .int _ _

noncomputable def minL : List Int → Int
  | [] => 0
  | x :: l => l.foldl min x
theorem foldl_min (l : List Int) : ∀ x : Int, l.foldl min x ≤ x ∧ (∀ y ∈ l, l.foldl min x ≤ y) ∧ (l.foldl min x = x ∨ l.foldl min x ∈ l) := by
  induction l with
  | nil => intro x; simp
  | cons y l ih =>
    intro x
    obtain ⟨h1, h2, h3⟩ := ih (min x y)
    rw [List.foldl_cons]
    refine ⟨by omega, fun z hz => ?_, ?_⟩
    · rcases List.mem_cons.mp hz with rfl | hz
      · omega
      · exact h2 z hz
    · rcases h3 with h3 | h3
      · rw [h3]
        rcases Int.le_total x y with q | q
        · rw [Int.min_eq_left q]; exact .inl rfl
        · rw [Int.min_eq_right q]; exact .inr (.head _)
      · exact .inr (.tail _ h3)
theorem minL_spec {l : List Int} (h : l ≠ []) : minL l ∈ l ∧ ∀ y ∈ l, minL l ≤ y := by
  cases l with
  | nil => exact absurd rfl h
  | cons x l =>
    obtain ⟨h1, h2, h3⟩ := foldl_min l x
    refine ⟨?_, fun y hy => ?_⟩
    · show l.foldl min x ∈ _
      rcases h3 with h3 | h3
      · rw [h3]; exact .head _
      · exact .tail _ h3
    · rcases List.mem_cons.mp hy with rfl | hy
      · exact h1
      · exact h2 y hy
theorem Fn_minL {l : List Int} (hne : l ≠ []) : Fn prog w h₀ n (.builtin "min") [.lst (iPV l)] (.int (minL l)) := by
  intro X A s vs C R r
  cases r with
  | cons r rs =>
    cases rs
    obtain ⟨a, us, m, rfl, e, rs⟩ := r.isList
    obtain ⟨xs, h1, h2⟩ := iPV_of rs
    have hl : s.heap.IsList a (intItems xs.toArray) := by
      have := lst_isList e
      rw [h2] at this
      simpa [intItems] using this
    have hpos : 0 < xs.toArray.size := by
      have : l.length = xs.length := by rw [← h1]; simp
      have h3 : l.length ≠ 0 := fun q => hne (List.length_eq_zero_iff.mp q)
      simp; omega
    refine min_intList R.handled hl hpos fun v h' tk hv hk => ⟨⟨h', tk, rfl, hk⟩, ?_⟩
    have hb := argBest_lt (numAt xs.toArray) (xs.toArray.size - 1)
    generalize hj : argBest (fun i j => decide (numAt xs.toArray i < numAt xs.toArray j)) (xs.toArray.size - 1) = j at hv hb
    have hnum : ∀ i x, l[i]? = some x → numAt xs.toArray i = x := by
      intro i x hx
      rw [← h1, List.getElem?_map] at hx
      obtain ⟨p, hp, rfl⟩ := Option.map_eq_some_iff.mp hx
      unfold numAt
      simp [hp]
    rw [intItems, Array.getElem?_map] at hv
    obtain ⟨p, hp, rfl⟩ := Option.map_eq_some_iff.mp hv
    have hp' : xs[j]? = some p := by simpa using hp
    have hlj : l[j]? = some p.1 := by rw [← h1, List.getElem?_map, hp']; rfl
    have : p.1 = minL l := by
      obtain ⟨m1, m2⟩ := minL_spec hne
      have a1 : minL l ≤ p.1 := m2 _ (List.mem_of_getElem? hlj)
      obtain ⟨i, hi⟩ := List.getElem?_of_mem m1
      have hil : i < l.length := (List.getElem?_eq_some_iff.mp hi).1
      have hlen : l.length = xs.length := by rw [← h1]; simp
      have := hb.2 i (by simp; omega)
      rw [hnum j _ hlj, hnum i _ hi] at this
      omega
    rw [this]
    exact .int _ _
end

section
variable {prog : Program} {w : World} {h₀ : Heap} {s₀ : Shared} {n : Nat} {env : Env} {X B : Addr → Prop} {hB : Heap} {Γ : List (Str × VK)} {Λ : List (MutH × List PV)} {A : Around} {s : Shared} {Q : Flow → Shared → Prop}

noncomputable abbrev lstH (a : Addr) : MutH := ⟨a, .type "list", none⟩

theorem St_new {x : Str} {px pos lp : Pos} {es : List Expr} {rest : List Stmt} {ps : List PV} (S : Sta h₀ s₀ env X B hB Γ Λ s) (R : Room A n) (he : ExL prog w h₀ n env X Γ lp es ps) (hx : CanStore env x) (hsz : ps.length ≤ 1000)
    (h : ∀ a s', ¬ X a → Ext s₀ X B hB (fun b => X b ∨ b = a) (fun b => B b ∧ b ≠ a) hB → Sta h₀ s₀ env (fun b => X b ∨ b = a) (fun b => B b ∧ b ≠ a) hB ((x, .raw (.ref a)) :: Γ) ((lstH a, ps) :: Λ) s' → wpAny (model prog w) A (execs rest env) Q NoE s')
    (hsw : swapsWith (.List es lp) (some (.Name x px)) pos.line env = pure false := by kernel_rfl!) :
    wpAny (model prog w) A (execs (.Assign [.Name x px] (.List es lp) pos :: rest) env) Q NoE s := by
  refine wpAny_execs_cons (wpAny_Assign_Name (List_ (wpAny_mono (he A s R S.cok) (fun vs s₁ h₁ => ?_) fun _ _ e => e)) hsw)
  have S₁ := S.keep h₁.1
  refine wpAny_newObj_type ?_ (by show vs.toArray.size ≤ sizeLine; rw [List.size_toArray, h₁.2.length, sizeLine_eq]; omega)
  have fr : s₁.heap.get? s₁.heap.objs.size = none := by
    cases e : s₁.heap.get? s₁.heap.objs.size with
    | none => rfl
    | some o => exact absurd (Heap.lt_size e) (Nat.lt_irrefl _)
  have fr0 : s₀.heap.get? s₁.heap.objs.size = none := by
    cases e : s₀.heap.get? s₁.heap.objs.size with
    | none => rfl
    | some o =>
      have hn := S₁.cok.x.new
      rw [S₁.old _ o hn e] at fr; cases fr
  have kp := keeps_push s₁ (lstObj vs 0)
  have hob : (s₁.heap.push (lstObj vs 0)).get? s₁.heap.objs.size = some (lstObj vs 0) := Heap.get?_push_size _ rfl
  have S₂ : Sta h₀ s₀ env (fun b => X b ∨ b = s₁.heap.objs.size) B hB Γ Λ { s₁ with heap := s₁.heap.push (lstObj vs 0) } :=
    S₁.grow kp (fun a q => .inl q) fun a q => q.imp id fun q => by subst q; exact ⟨fr, by rw [hob]; rfl⟩
  have nB : ∀ b o, B b → hB.get? b = some o → b ≠ s₁.heap.objs.size := fun b o hb e q => by
    subst q
    rw [S₁.fixd _ o hb e] at fr; cases fr
  have rd1 : RdL (s₁.heap.push (lstObj vs 0)) (fun b => X b ∨ b = s₁.heap.objs.size) vs ps := h₁.2.mono fun b o nb e => ⟨Heap.get?_push_of_some _ e, fun q => q.elim nb fun q => by rw [q, fr] at e; cases e⟩
  have live : ∀ b, X b → b ≠ s₁.heap.objs.size := fun b hb q => by
    have := (S₁.cok.xok b hb).2
    rw [q, fr] at this; cases this
  have S₃ : Sta h₀ s₀ env (fun b => X b ∨ b = s₁.heap.objs.size) (fun b => B b ∧ b ≠ s₁.heap.objs.size) hB Γ ((lstH s₁.heap.objs.size, ps) :: Λ) { s₁ with heap := s₁.heap.push (lstObj vs 0) } := by
    refine ⟨S₂.same, S₂.old, fun b o q e => S₂.fixd b o q.1 e, S₂.cok, S₂.frm, ⟨S₂.ownL.1, fun q => S₂.ownL.2 q.1⟩, fun n c e => ⟨(S₂.ownC n c e).1, fun q => (S₂.ownC n c e).2 q.1⟩, fun q hq => ?_, ?_⟩
    · rcases List.mem_cons.mp hq with rfl | hq
      · exact ⟨.inr rfl, fun q => q.2 rfl, vs, 0, hob, rd1⟩
      · obtain ⟨x1, x2, x3⟩ := S₂.muts q hq
        exact ⟨x1, fun q => x2 q.1, x3⟩
    · refine List.nodup_cons.mpr ⟨fun q => ?_, S₂.nodup⟩
      obtain ⟨q', hq', e⟩ := List.mem_map.mp q
      exact live _ (S₁.muts q' hq').1 e
  exact S₃.storeK hx (k := .raw _) rfl fun s' S' => h _ s' (fun q => live _ q rfl) ⟨fun c q => .inl q, fun c q => q.imp id fun q => (congrArg s₀.heap.get? q).trans fr0, fun c o q e => ⟨⟨q, nB c o q e⟩, e⟩⟩ S'

theorem St_append {o : Expr} {e : Expr} {apos pos spos : Pos} {rest : List Stmt} {a : Addr} {ps : List PV} {p : PV} (Λ₁ Λ₂ : List (MutH × List PV)) (S : Sta h₀ s₀ env X B hB Γ (Λ₁ ++ (lstH a, ps) :: Λ₂) s) (R : Room A n)
    (ho : wpAny (model prog w) A (eval o env) (fun v s' => Keeps s s' ∧ v = .ref a) NoE s) (he : Ex prog w h₀ n env X Γ e p) (hsz : ps.length ≤ 1000)
    (h : ∀ s', Sta h₀ s₀ env X B hB Γ (Λ₁ ++ (lstH a, ps ++ [p]) :: Λ₂) s' → wpAny (model prog w) A (execs rest env) Q NoE s')
    (hbase : attributeBase o "append" env (eval o env) = eval o env := by kernel_rfl!)
    (hfew : ((backTo pos (starEach [e] env)).all (fun x => !x.1) && (backToKw pos (keywordEach [] env)).all (fun x => x.1.isSome)
      && decide (([e] : List Expr).length + ([] : List Keyword).length + (if ([] : List Keyword).isEmpty then 0 else 1) < 30)) = true := by kernel_rfl!)
    (hline : (apos.endLine == pos.line) = true := by kernel_rfl!)
    (htrees : backTo pos (starEach [e] env) = [(false, eval e env)] := by kernel_rfl!)
    (hi : interactive env = false := by kernel_rfl!) (hs : swapsWith (.Call (.Attribute o "append" apos) [e] [] pos) none spos.line env = pure false := by kernel_rfl!) :
    wpAny (model prog w) A (execs (.Expr (.Call (.Attribute o "append" apos) [e] [] pos) spos :: rest) env) Q NoE s := by
  refine wpAny_execs_cons (wpAny_Expr (wpAny_Call_append hbase hfew hline htrees (wpAny_mono ho (fun v s₁ h₁ => ?_) fun _ _ e => e)) hi hs)
  obtain ⟨k₁, rfl⟩ := h₁
  have S₁ := S.keep k₁
  obtain ⟨hXa, hBa, vs, k, eo, rs⟩ := S₁.muts (lstH a, ps) (List.mem_append_right _ (.head _))
  refine ⟨a, vs.toArray, rfl, ⟨_, k, eo, rfl, rfl, rfl⟩, wpAny_mono (he A s₁ R S₁.cok) (fun y s₂ h₂ => ?_) fun _ _ e => e⟩
  have S₂ := S₁.keep h₂.1
  have eo2 := keeps_heap h₂.1 eo
  have rs2 := rs.keep h₂.1
  refine wpAny_list_append_plain (hsz := by simp only [List.size_toArray, rs.length, sizeLine_eq]; omega) ⟨k, eo2⟩ fun h3 hl3 hs3 => ?_
  obtain ⟨k3, e3⟩ := hl3
  refine h _ ?_
  have mono : ∀ b o, ¬ X b → s₂.heap.get? b = some o → h3.get? b = some o ∧ ¬ X b := fun b o nb e => ⟨(hs3.2 b fun q => nb (q ▸ hXa)).trans e, nb⟩
  have e3' : h3.get? a = some (lstObj (vs ++ [y]) k3) := by rw [e3]; simp
  have neL : env.locals ≠ a := fun q => by
    obtain ⟨m, o, es, ep, e1, d, _⟩ := S₂.frm.ns
    rw [q, eo2] at e1; cases e1; cases d
  have neC : ∀ n c, env.cells.lookup n = some c → c ≠ a := fun n c hc q => by
    obtain ⟨v, o, e1, d⟩ := S₂.frm.cell n c hc
    rw [q, eo2] at e1; cases e1; cases d
  have hkeep : ∀ b, b ≠ a → h3.get? b = s₂.heap.get? b := hs3.2
  refine S₂.turn1 (tk := s₂.toks) hXa hBa hs3 (by rw [e3']; rfl) _ _ ⟨?_, fun n c hc => ?_, S₂.frm.apart⟩ (fun y' k' e' => ?_) (fun q hq => ?_) ?_
  · obtain ⟨m, hm⟩ := S₂.frm.ns
    exact ⟨m, hm.sameBut hs3 neL⟩
  · obtain ⟨v, hv⟩ := S₂.frm.cell n c hc
    exact ⟨v, hv.sameBut hs3 (neC n c hc)⟩
  · obtain ⟨u, hu, ru⟩ := S₂.cok.has y' k' e'
    refine ⟨u, ?_, VK.holds_mono mono ru⟩
    rcases hu with ⟨x1, m', n', e''⟩ | ⟨x1, c, e'', hv⟩
    · exact .inl ⟨x1, m', n'.sameBut hs3 neL, e''⟩
    · exact .inr ⟨x1, c, e'', hv.sameBut hs3 (neC _ c e'')⟩
  · have nd := S₂.nodup
    rw [List.map_append, List.map_cons, List.nodup_append] at nd
    have hnd2 := List.nodup_cons.mp nd.2.1
    rcases List.mem_append.mp hq with hq | hq
    · refine .inl ⟨List.mem_append_left _ hq, fun z => ?_⟩
      exact nd.2.2 q.1.a (List.mem_map_of_mem hq) a (.head _) z
    · rcases List.mem_cons.mp hq with rfl | hq
      · exact .inr ⟨hXa, hBa, vs ++ [y], k3, e3', (rs2.mono mono).append (.one (h₂.2.mono mono))⟩
      · refine .inl ⟨List.mem_append_right _ (.tail _ hq), fun z => ?_⟩
        exact hnd2.1 (z ▸ List.mem_map_of_mem (f := fun q : MutH × List PV => q.1.a) hq)
  · have nd := S₂.nodup
    simpa using nd
end
end Mine
end
section
open PySem PySem.W PyProof.Rows PySem.Calls
namespace Mine

structure Nms (mg : Str → Option Value) : Prop where
  sum : mg "sum" = none
  range : mg "range" = none
  len : mg "len" = none
  list : mg "list" = none
  min : mg "min" = none
  max : mg "max" = none
  enum : mg "enumerate" = none
  isi : mg "isinstance" = none
  bool : mg "bool" = none
  super : mg "super" = none

theorem vlen1 {l : List Value} (h : l.length = 1) : ∃ a, l = [a] := List.length_eq_one_iff.mp h
theorem vlen2 {l : List Value} (h : l.length = 2) : ∃ a b, l = [a, b] := by
  cases l with
  | nil => cases h
  | cons a l =>
    obtain ⟨b, rfl⟩ := vlen1 (Nat.succ.inj h)
    exact ⟨a, b, rfl⟩
theorem vlen3 {l : List Value} (h : l.length = 3) : ∃ a b c, l = [a, b, c] := by
  cases l with
  | nil => cases h
  | cons a l =>
    obtain ⟨b, c, rfl⟩ := vlen2 (Nat.succ.inj h)
    exact ⟨a, b, c, rfl⟩
theorem vlen4 {l : List Value} (h : l.length = 4) : ∃ a b c d, l = [a, b, c, d] := by
  cases l with
  | nil => cases h
  | cons a l =>
    obtain ⟨b, c, d, rfl⟩ := vlen3 (Nat.succ.inj h)
    exact ⟨a, b, c, d, rfl⟩
theorem side2 {p : Prop} (h : p) (_ : True) : p := h
theorem Sees_nil {scope : Scope} {env : Env} {Γ : List (Str × VK)} : Sees scope env Γ [] := fun _ h => nomatch h
theorem Sees_cons {scope : Scope} {env : Env} {Γ Γc : List (Str × VK)} {x : Str} {k : VK} (ha : Γ.lookup x = some k) (hc : env.kindOf x = some .cell) (hd : scope.names.lookup x = some .free) (hb : Sees scope env Γ Γc) : Sees scope env Γ ((x, k) :: Γc) := by
  intro q hq
  rcases List.mem_cons.mp hq with rfl | hq
  · exact ⟨ha, hc, hd⟩
  · exact hb q hq
noncomputable def PV.toI : PV → Int
  | .int i => i
  | _ => 0
theorem pickL_map {α β : Type} (f : α → β) (l : List α) (a b c : Option Int) : pickL (l.map f) a b c = (pickL l a b c).map f := by
  unfold pickL
  rw [List.length_map]
  induction pickIdx a b c l.length with
  | nil => rfl
  | cons i r ih =>
    rw [List.filterMap_cons, List.filterMap_cons, List.getElem?_map]
    cases l[i]? with
    | none => exact ih
    | some x => exact congrArg (f x :: ·) ih

theorem mem_rangePV {a c : Int} {k : Nat} {q : PV} (h : q ∈ rangePV a c k) : ∃ i : Nat, i < k ∧ q = .int (a + (i : Int) * c) := by
  unfold rangePV at h
  obtain ⟨i, hi, rfl⟩ := List.mem_map.mp h
  exact ⟨i, by simpa using hi, rfl⟩
theorem rangePV_length (a c : Int) (k : Nat) : (rangePV a c k).length = k := by simp [rangePV]

noncomputable def sPV (l : List Str) : List PV := l.map .str
theorem iPV_length (l : List Int) : (iPV l).length = l.length := by simp [iPV]
theorem sPV_length (l : List Str) : (sPV l).length = l.length := by simp [sPV]

section
variable {prog : Program} {w : World} {h₀ : Heap} {mg mb : Str → Option Value} {n : Nat} {env : Env} {X : Addr → Prop} {Γ : List (Str × VK)}

theorem Ex_itemP {value slice : Expr} {pos : Pos} {ps : List PV} {i : Int} (hv : Ex prog w h₀ n env X Γ value (.lst ps)) (hi : Ex prog w h₀ n env X Γ slice (.int i)) (h0 : 0 ≤ i ∧ i < 1000) (hl : i.toNat < ps.length)
    (hs : notSlice slice = true := by kernel_rfl!) : Ex prog w h₀ n env X Γ (.Subscript value slice pos) (ps.getD i.toNat .none) :=
  Ex_item hv hi h0.1 (by rw [List.getD_eq_getElem?_getD, List.getElem?_eq_getElem hl]; rfl) (by have := h0.2; omega) hs
theorem Ex_itemI {value slice : Expr} {pos : Pos} {l : List Int} {i : Int} (hv : Ex prog w h₀ n env X Γ value (.lst (iPV l))) (hi : Ex prog w h₀ n env X Γ slice (.int i)) (h0 : 0 ≤ i ∧ i < 1000) (hl : i.toNat < l.length)
    (hs : notSlice slice = true := by kernel_rfl!) : Ex prog w h₀ n env X Γ (.Subscript value slice pos) (.int (l.getD i.toNat 0)) :=
  Ex_item hv hi h0.1 (by rw [iPV, List.getElem?_map, List.getD_eq_getElem?_getD, List.getElem?_eq_getElem hl]; rfl) (by have := h0.2; omega) hs
theorem Ex_itemT {value slice : Expr} {pos : Pos} {l : List Str} {i : Int} (hv : Ex prog w h₀ n env X Γ value (.lst (sPV l))) (hi : Ex prog w h₀ n env X Γ slice (.int i)) (h0 : 0 ≤ i ∧ i < 1000) (hl : i.toNat < l.length)
    (hs : notSlice slice = true := by kernel_rfl!) : Ex prog w h₀ n env X Γ (.Subscript value slice pos) (.str (l.getD i.toNat "")) :=
  Ex_item hv hi h0.1 (by rw [sPV, List.getElem?_map, List.getD_eq_getElem?_getD, List.getElem?_eq_getElem hl]; rfl) (by have := h0.2; omega) hs

theorem Ex_sum {fp pos : Pos} {e : Expr} {l : List Int} (G : Glb h₀ mg mb) (N : Nms mg) (hf : env.kindOf "sum" = some .globalImplicit) (has : ExL prog w h₀ n env X Γ pos [e] [.lst (iPV l)])
    (hst : starEach [e] env = (false, eval e env) :: starEach [] env := by kernel_rfl!) (hpl : (backTo pos (starEach [] env)).any (·.1) = false := by kernel_rfl!)
    (he : eval (.Call (.Name "sum" fp) [e] [] pos) env = (do callWith pos (← eval (.Name "sum" fp) env) [] (backTo pos (starEach [e] env)) (backToKw pos (keywordEach [] env))) := by kernel_rfl!) :
    Ex prog w h₀ n env X Γ (.Call (.Name "sum" fp) [e] [] pos) (.int l.sum) :=
  Ex_callB G N.sum PyProof.Rows.boot_sum hf (by decide) (by decide) has Fn_sum hst hpl he
theorem Ex_len {fp pos : Pos} {e : Expr} {ps : List PV} (G : Glb h₀ mg mb) (N : Nms mg) (hf : env.kindOf "len" = some .globalImplicit) (has : ExL prog w h₀ n env X Γ pos [e] [.lst ps]) (hsz : ps.length ≤ 100000)
    (hst : starEach [e] env = (false, eval e env) :: starEach [] env := by kernel_rfl!) (hpl : (backTo pos (starEach [] env)).any (·.1) = false := by kernel_rfl!)
    (he : eval (.Call (.Name "len" fp) [e] [] pos) env = (do callWith pos (← eval (.Name "len" fp) env) [] (backTo pos (starEach [e] env)) (backToKw pos (keywordEach [] env))) := by kernel_rfl!) :
    Ex prog w h₀ n env X Γ (.Call (.Name "len" fp) [e] [] pos) (.int ps.length) :=
  Ex_callB G N.len PySem.boot_len hf (by decide) (by decide) has (Fn_len hsz) hst hpl he
theorem Ex_lenI {fp pos : Pos} {e : Expr} {l : List Int} (G : Glb h₀ mg mb) (N : Nms mg) (hf : env.kindOf "len" = some .globalImplicit) (has : ExL prog w h₀ n env X Γ pos [e] [.lst (iPV l)]) (hsz : l.length ≤ 100000)
    (hst : starEach [e] env = (false, eval e env) :: starEach [] env := by kernel_rfl!) (hpl : (backTo pos (starEach [] env)).any (·.1) = false := by kernel_rfl!)
    (he : eval (.Call (.Name "len" fp) [e] [] pos) env = (do callWith pos (← eval (.Name "len" fp) env) [] (backTo pos (starEach [e] env)) (backToKw pos (keywordEach [] env))) := by kernel_rfl!) :
    Ex prog w h₀ n env X Γ (.Call (.Name "len" fp) [e] [] pos) (.int l.length) := by
  have := Ex_len G N hf has (by rw [iPV_length]; exact hsz) hst hpl he
  rwa [iPV_length] at this
theorem Ex_lenT {fp pos : Pos} {e : Expr} {l : List Str} (G : Glb h₀ mg mb) (N : Nms mg) (hf : env.kindOf "len" = some .globalImplicit) (has : ExL prog w h₀ n env X Γ pos [e] [.lst (sPV l)]) (hsz : l.length ≤ 100000)
    (hst : starEach [e] env = (false, eval e env) :: starEach [] env := by kernel_rfl!) (hpl : (backTo pos (starEach [] env)).any (·.1) = false := by kernel_rfl!)
    (he : eval (.Call (.Name "len" fp) [e] [] pos) env = (do callWith pos (← eval (.Name "len" fp) env) [] (backTo pos (starEach [e] env)) (backToKw pos (keywordEach [] env))) := by kernel_rfl!) :
    Ex prog w h₀ n env X Γ (.Call (.Name "len" fp) [e] [] pos) (.int l.length) := by
  have := Ex_len G N hf has (by rw [sPV_length]; exact hsz) hst hpl he
  rwa [sPV_length] at this
theorem Ex_lenS {fp pos : Pos} {e : Expr} {x : Str} (G : Glb h₀ mg mb) (N : Nms mg) (hf : env.kindOf "len" = some .globalImplicit) (has : ExL prog w h₀ n env X Γ pos [e] [.str x]) (hsz : x.length ≤ 100000)
    (hst : starEach [e] env = (false, eval e env) :: starEach [] env := by kernel_rfl!) (hpl : (backTo pos (starEach [] env)).any (·.1) = false := by kernel_rfl!)
    (he : eval (.Call (.Name "len" fp) [e] [] pos) env = (do callWith pos (← eval (.Name "len" fp) env) [] (backTo pos (starEach [e] env)) (backToKw pos (keywordEach [] env))) := by kernel_rfl!) :
    Ex prog w h₀ n env X Γ (.Call (.Name "len" fp) [e] [] pos) (.int x.length) :=
  Ex_callB G N.len PySem.boot_len hf (by decide) (by decide) has (Fn_lenS hsz) hst hpl he
theorem Ex_max {fp pos : Pos} {e e' : Expr} {a b : Int} (G : Glb h₀ mg mb) (N : Nms mg) (hf : env.kindOf "max" = some .globalImplicit) (has : ExL prog w h₀ n env X Γ pos [e, e'] [.int a, .int b])
    (hst : starEach [e, e'] env = (false, eval e env) :: starEach [e'] env := by kernel_rfl!) (hpl : (backTo pos (starEach [e'] env)).any (·.1) = false := by kernel_rfl!)
    (he : eval (.Call (.Name "max" fp) [e, e'] [] pos) env = (do callWith pos (← eval (.Name "max" fp) env) [] (backTo pos (starEach [e, e'] env)) (backToKw pos (keywordEach [] env))) := by kernel_rfl!) :
    Ex prog w h₀ n env X Γ (.Call (.Name "max" fp) [e, e'] [] pos) (.int (max a b)) :=
  Ex_callB G N.max PyProof.Rows.Boot.max hf (by decide) (by decide) has Fn_max hst hpl he
theorem Ex_min {fp pos : Pos} {e e' : Expr} {a b : Int} (G : Glb h₀ mg mb) (N : Nms mg) (hf : env.kindOf "min" = some .globalImplicit) (has : ExL prog w h₀ n env X Γ pos [e, e'] [.int a, .int b])
    (hst : starEach [e, e'] env = (false, eval e env) :: starEach [e'] env := by kernel_rfl!) (hpl : (backTo pos (starEach [e'] env)).any (·.1) = false := by kernel_rfl!)
    (he : eval (.Call (.Name "min" fp) [e, e'] [] pos) env = (do callWith pos (← eval (.Name "min" fp) env) [] (backTo pos (starEach [e, e'] env)) (backToKw pos (keywordEach [] env))) := by kernel_rfl!) :
    Ex prog w h₀ n env X Γ (.Call (.Name "min" fp) [e, e'] [] pos) (.int (min a b)) :=
  Ex_callB G N.min PyProof.Rows.boot_min hf (by decide) (by decide) has Fn_min hst hpl he
theorem Ex_minL {fp pos : Pos} {e : Expr} {l : List Int} (G : Glb h₀ mg mb) (N : Nms mg) (hf : env.kindOf "min" = some .globalImplicit) (has : ExL prog w h₀ n env X Γ pos [e] [.lst (iPV l)]) (hl : l ≠ [])
    (hst : starEach [e] env = (false, eval e env) :: starEach [] env := by kernel_rfl!) (hpl : (backTo pos (starEach [] env)).any (·.1) = false := by kernel_rfl!)
    (he : eval (.Call (.Name "min" fp) [e] [] pos) env = (do callWith pos (← eval (.Name "min" fp) env) [] (backTo pos (starEach [e] env)) (backToKw pos (keywordEach [] env))) := by kernel_rfl!) :
    Ex prog w h₀ n env X Γ (.Call (.Name "min" fp) [e] [] pos) (.int (minL l)) :=
  Ex_callB G N.min PyProof.Rows.boot_min hf (by decide) (by decide) has (Fn_minL hl) hst hpl he
theorem Ex_sliceKI {value st : Expr} {lo hi : Option Expr} {i j : Option Int} {k : Int} {sp pos : Pos} {l : List Int} (hv : Ex prog w h₀ n env X Γ value (.lst (iPV l))) (hlo : Pt prog w h₀ n env X Γ lo i) (hhi : Pt prog w h₀ n env X Γ hi j) (hst : Ex prog w h₀ n env X Γ st (.int k)) (hk : k ≠ 0) (hsz : l.length ≤ 100000)
    (ht : ∀ o r, letTemporaryGo value o r = pure () := by intro _ _; kernel_rfl!) : Ex prog w h₀ n env X Γ (.Subscript value (.Slice lo hi (some st) sp) pos) (.lst (iPV (pickL l i j (some k)))) := by
  have := Ex_sliceK (sp := sp) (pos := pos) hv hlo hhi hst hk (by rw [iPV_length]; exact hsz) ht
  rwa [iPV, pickL_map] at this
theorem Ex_sliceI {value : Expr} {lo hi : Option Expr} {i j : Option Int} {sp pos : Pos} {l : List Int} (hv : Ex prog w h₀ n env X Γ value (.lst (iPV l))) (hlo : Pt prog w h₀ n env X Γ lo i) (hhi : Pt prog w h₀ n env X Γ hi j) (hsz : l.length ≤ 100000)
    (ht : ∀ o r, letTemporaryGo value o r = pure () := by intro _ _; kernel_rfl!) : Ex prog w h₀ n env X Γ (.Subscript value (.Slice lo hi none sp) pos) (.lst (iPV (pickL l i j none))) := by
  have := Ex_slice (sp := sp) (pos := pos) hv hlo hhi (by rw [iPV_length]; exact hsz) ht
  rwa [iPV, pickL_map] at this
theorem Ex_sliceT {value : Expr} {lo hi : Option Expr} {i j : Option Int} {sp pos : Pos} {l : List Str} (hv : Ex prog w h₀ n env X Γ value (.lst (sPV l))) (hlo : Pt prog w h₀ n env X Γ lo i) (hhi : Pt prog w h₀ n env X Γ hi j) (hsz : l.length ≤ 100000)
    (ht : ∀ o r, letTemporaryGo value o r = pure () := by intro _ _; kernel_rfl!) : Ex prog w h₀ n env X Γ (.Subscript value (.Slice lo hi none sp) pos) (.lst (sPV (pickL l i j none))) := by
  have := Ex_slice (sp := sp) (pos := pos) hv hlo hhi (by rw [sPV_length]; exact hsz) ht
  rwa [sPV, pickL_map] at this
theorem Fn_of {n : Nat} {name : Str} {params : Arguments} {body : List Stmt} {scope : Scope} {a : Addr} {ps : List PV} {p : PV} {Γ : List (Str × VK)} (names : List Str) (G : Glb h₀ mg mb) (D : DefAt h₀ mg name params body scope a) (hΓ : names.zip (ps.map .pv) = Γ) (hlen : names.length = ps.length)
    (h : Body prog w h₀ n name params body scope a Γ p)
    (hbind : ∀ pm code doc vs, vs.length = names.length → bindArgs (docDef name params body scope pm code doc) ⟨vs, []⟩ = pure (names.zip vs))
    (hnd : names.Nodup) (hkind : (names.all fun x => scope.names.lookup x == some .local || (scope.names.lookup x == some .cell)) = true)
    (hco : scope.isCoroutine = false := by kernel_rfl!) (hgen : scope.isGenerator = false := by kernel_rfl!) (hk : scope.kind = .function := by kernel_rfl!) : Fn prog w h₀ (n + 1) (.ref a) ps p := by
  subst hΓ
  exact Fn_def G D names hlen h hbind hnd hkind hco hgen hk
theorem It_r1 {fp pos : Pos} {e : Expr} {b : Int} (G : Glb h₀ mg mb) (N : Nms mg) (hf : env.kindOf "range" = some .globalImplicit) (has : ExL prog w h₀ n env X Γ pos [e] [.int b]) (hb : 0 ≤ b ∧ b < 1000)
    (hst : starEach [e] env = (false, eval e env) :: starEach [] env := by kernel_rfl!) (hpl : (backTo pos (starEach [] env)).any (·.1) = false := by kernel_rfl!)
    (he : eval (.Call (.Name "range" fp) [e] [] pos) env = (do callWith pos (← eval (.Name "range" fp) env) [] (backTo pos (starEach [e] env)) (backToKw pos (keywordEach [] env))) := by kernel_rfl!) :
    It prog w h₀ n env X Γ (.Call (.Name "range" fp) [e] [] pos) (rangePV 0 1 b.toNat) :=
  It_range G N.range hf has (range1 hb.1 (by have := hb.2; omega)) hst hpl he
theorem It_r2 {fp pos : Pos} {e e' : Expr} {a b : Int} (G : Glb h₀ mg mb) (N : Nms mg) (hf : env.kindOf "range" = some .globalImplicit) (has : ExL prog w h₀ n env X Γ pos [e, e'] [.int a, .int b]) (hb : 0 ≤ a ∧ a < 1000 ∧ 0 ≤ b ∧ b < 1000)
    (hst : starEach [e, e'] env = (false, eval e env) :: starEach [e'] env := by kernel_rfl!) (hpl : (backTo pos (starEach [e'] env)).any (·.1) = false := by kernel_rfl!)
    (he : eval (.Call (.Name "range" fp) [e, e'] [] pos) env = (do callWith pos (← eval (.Name "range" fp) env) [] (backTo pos (starEach [e, e'] env)) (backToKw pos (keywordEach [] env))) := by kernel_rfl!) :
    It prog w h₀ n env X Γ (.Call (.Name "range" fp) [e, e'] [] pos) (rangePV a 1 (b - a).toNat) :=
  It_range G N.range hf has (range2 (by omega) (by omega) (by omega) (by omega)) hst hpl he
theorem It_r3 {fp pos : Pos} {e e' e'' : Expr} {a : Int} (G : Glb h₀ mg mb) (N : Nms mg) (hf : env.kindOf "range" = some .globalImplicit) (has : ExL prog w h₀ n env X Γ pos [e, e', e''] [.int a, .int (-1), .int (-1)]) (hb : -1 ≤ a ∧ a < 1000)
    (hst : starEach [e, e', e''] env = (false, eval e env) :: starEach [e', e''] env := by kernel_rfl!) (hpl : (backTo pos (starEach [e', e''] env)).any (·.1) = false := by kernel_rfl!)
    (he : eval (.Call (.Name "range" fp) [e, e', e''] [] pos) env = (do callWith pos (← eval (.Name "range" fp) env) [] (backTo pos (starEach [e, e', e''] env)) (backToKw pos (keywordEach [] env))) := by kernel_rfl!) :
    It prog w h₀ n env X Γ (.Call (.Name "range" fp) [e, e', e''] [] pos) (rangePV a (-1) (a + 1).toNat) :=
  It_range G N.range hf has (range3 (by omega) (by omega)) hst hpl he
end
end Mine
end
section
open PySem PySem.W PyProof.Rows PySem.Calls
namespace Mine

noncomputable def rangeI (a c : Int) (k : Nat) : List Int := (List.range k).map fun (i : Nat) => a + (i : Int) * c
theorem rangePV_eq (a c : Int) (k : Nat) : rangePV a c k = iPV (rangeI a c k) := by simp [rangePV, iPV, rangeI]
theorem filter_iPV (l : List Int) (p : PV → Bool) : (iPV l).filter p = iPV (l.filter fun i => p (.int i)) := by
  induction l with
  | nil => rfl
  | cons x l ih =>
    show List.filter p (PV.int x :: iPV l) = _
    rw [List.filter_cons, List.filter_cons, ih]
    split <;> rfl
theorem map_iPV (l : List Int) (f : PV → PV) : (iPV l).map f = l.map fun i => f (.int i) := by simp [iPV]

theorem mem_range0 {k : Nat} {q : PV} (h : q ∈ rangePV 0 1 k) : ∃ i : Nat, i < k ∧ q = .int i := by
  obtain ⟨i, hi, rfl⟩ := mem_rangePV h
  exact ⟨i, hi, congrArg PV.int (by omega)⟩
theorem rangePV_at {a c : Int} {k i : Nat} {q : PV} (h : (rangePV a c k)[i]? = some q) : i < k ∧ q = .int (a + (i : Int) * c) := by
  unfold rangePV at h
  rw [List.getElem?_map] at h
  obtain ⟨j, hj, rfl⟩ := Option.map_eq_some_iff.mp h
  obtain ⟨hl, rfl⟩ := List.getElem?_eq_some_iff.mp hj
  simp at hl
  exact ⟨hl, by simp⟩
theorem iPV_at {l : List Int} {i : Nat} {p : PV} (h : (iPV l)[i]? = some p) : ∃ x, l[i]? = some x ∧ p = .int x := by
  rw [iPV, List.getElem?_map] at h
  obtain ⟨x, e, rfl⟩ := Option.map_eq_some_iff.mp h
  exact ⟨x, e, rfl⟩
theorem iPV_at_lt {l : List Int} {i : Nat} {p : PV} (h : (iPV l)[i]? = some p) : i < l.length := by
  have := (List.getElem?_eq_some_iff.mp h).1
  rwa [iPV_length] at this
noncomputable def Sub (Γ Γ' : List (Str × VK)) : Prop := ∀ q ∈ Γ', Γ.lookup q.1 = some q.2
theorem Sub_nil {Γ : List (Str × VK)} : Sub Γ [] := fun _ h => nomatch h
theorem Sub_cons {Γ Γ' : List (Str × VK)} {x : Str} {k : VK} (ha : Γ.lookup x = some k) (hb : Sub Γ Γ') : Sub Γ ((x, k) :: Γ') := by
  intro q hq
  rcases List.mem_cons.mp hq with rfl | hq
  · exact ha
  · exact hb q hq
theorem Sub_consq {Γ Γ' : List (Str × VK)} {x : Str} {k k' : VK} (ha : Γ.lookup x = some k') (hk : k' = k) (hb : Sub Γ Γ') : Sub Γ ((x, k) :: Γ') := Sub_cons (hk ▸ ha) hb
theorem Sub.go {Γ Γ' : List (Str × VK)} (h : Sub Γ Γ') : ∀ y k, Γ'.lookup y = some k → Γ.lookup y = some k := sub_of h

section
variable {prog : Program} {w : World} {h₀ : Heap} {s₀ : Shared} {n : Nat} {env : Env} {X B : Addr → Prop} {hB : Heap} {Γ : List (Str × VK)} {Λ : List (MutH × List PV)} {A : Around} {s : Shared} {Q : Flow → Shared → Prop}

theorem Sta.weakS (S : Sta h₀ s₀ env X B hB Γ Λ s) {Γ' : List (Str × VK)} (h : Sub Γ Γ') : Sta h₀ s₀ env X B hB Γ' Λ s := S.weak h.go

noncomputable def Rw (prog : Program) (w : World) (h₀ : Heap) (n : Nat) (env : Env) (X : Addr → Prop) (Γ : List (Str × VK)) (e : Expr) (v : Value) : Prop :=
  ∀ A s, Room A n → Cok h₀ env X Γ s.heap → wpAny (model prog w) A (eval e env) (fun u s' => Keeps s s' ∧ u = v) NoE s
theorem Rw_name {x : Str} {pos : Pos} {v : Value} (hx : Γ.lookup x = some (.raw v)) (hd : (x == ("__debug__" : Str)) = false) : Rw prog w h₀ n env X Γ (.Name x pos) v := by
  intro A s R C
  obtain ⟨u, hv, r⟩ := C.has x _ hx
  exact wpAny_Name (hv.load C.ok ⟨keeps_refl s, r⟩) hd

theorem St_app0 {x : Str} {px : Pos} {e : Expr} {apos pos spos : Pos} {rest : List Stmt} {a : Addr} {ps : List PV} {p : PV} {Λ₂ : List (MutH × List PV)} (S : Sta h₀ s₀ env X B hB Γ ((lstH a, ps) :: Λ₂) s) (R : Room A n)
    (ho : Rw prog w h₀ n env X Γ (.Name x px) (.ref a)) (he : Ex prog w h₀ n env X Γ e p) (hsz : ps.length ≤ 1000)
    (h : ∀ s', Sta h₀ s₀ env X B hB Γ ((lstH a, ps ++ [p]) :: Λ₂) s' → wpAny (model prog w) A (execs rest env) Q NoE s')
    (hbase : attributeBase (.Name x px) "append" env (eval (.Name x px) env) = eval (.Name x px) env := by kernel_rfl!)
    (hfew : ((backTo pos (starEach [e] env)).all (fun x => !x.1) && (backToKw pos (keywordEach [] env)).all (fun x => x.1.isSome)
      && decide (([e] : List Expr).length + ([] : List Keyword).length + (if ([] : List Keyword).isEmpty then 0 else 1) < 30)) = true := by kernel_rfl!)
    (hline : (apos.endLine == pos.line) = true := by kernel_rfl!)
    (htrees : backTo pos (starEach [e] env) = [(false, eval e env)] := by kernel_rfl!)
    (hi : interactive env = false := by kernel_rfl!) (hs : swapsWith (.Call (.Attribute (.Name x px) "append" apos) [e] [] pos) none spos.line env = pure false := by kernel_rfl!) :
    wpAny (model prog w) A (execs (.Expr (.Call (.Attribute (.Name x px) "append" apos) [e] [] pos) spos :: rest) env) Q NoE s :=
  St_append [] Λ₂ S R (ho A s R S.cok) he hsz h hbase hfew hline htrees hi hs
theorem St_compq {y : Str} {py spos : Pos} {elt iter : Expr} {x : Str} {px : Pos} {ifs : List Expr} {scope : Scope} {pos : Pos} {rest : List Stmt} {items ps : List PV} (Γc : List (Str × VK)) (p : PV → Bool) (f : PV → PV)
    (S : Sta h₀ s₀ env X B hB Γ Λ s) (R : Room A n)
    (hit : It prog w h₀ n env X Γ iter items) (hsz : items.length ≤ 1000) (hs : Sees scope env Γ Γc) (hq : (items.filter p).map f = ps)
    (test : ∀ q ∈ items, ∀ D X', Tss prog w h₀ n (compEnvC scope (clOf scope env) D env) X' ((x, .pv q) :: Γc) ifs (p q))
    (helt : ∀ q ∈ items, p q = true → ∀ D X', Ex prog w h₀ n (compEnvC scope (clOf scope env) D env) X' ((x, .pv q) :: Γc) elt (f q))
    (hy : env.kindOf y = some .local)
    (h : ∀ s', Sta h₀ s₀ env X B hB ((y, .pv (.lst ps)) :: Γ) Λ s' → wpAny (model prog w) A (execs rest env) Q NoE s')
    (hsw : swapsWith (.ListComp elt [⟨.Name x px, iter, ifs, 0⟩] scope pos) (some (.Name y py)) spos.line env = pure true := by kernel_rfl!)
    (hcell' : (scope.names.all fun q => q.2 != .cell) = true := by kernel_rfl!) (hkind : scope.kind = .function := by kernel_rfl!) (hx : scope.names.lookup x = some .local := by kernel_rfl!)
    (hnames' : (scope.names.all fun q => q.2 != .local || scope.names.lookup q.1 == some .local) = true := by kernel_rfl!)
    (hfree : (scope.names.all fun q => q.2 != .free || (env.cells.lookup q.1).isSome) = true := by kernel_rfl!)
    (hfs : ∀ x, foldedSetIterable iter env x = pure x := by intro _; kernel_rfl!) :
    wpAny (model prog w) A (execs (.Assign [.Name y py] (.ListComp elt [⟨.Name x px, iter, ifs, 0⟩] scope pos) spos :: rest) env) Q NoE s := by
  subst hq
  exact St_comp Γc p f S R hit hsz hs test helt hy h hsw hcell' hkind hx hnames' hfree hfs
theorem St_retOwn {x : Str} {px pos : Pos} {rest : List Stmt} {a : Addr} {ps : List PV} {X₀ : Addr → Prop} (S : Sta h₀ s₀ env X B hB Γ Λ s) (R : Room A n) (hx : Γ.lookup x = some (.raw (.ref a))) (hm : (lstH a, ps) ∈ Λ) (hX : ∀ b, X₀ b → X b) (ha : ¬ X₀ a)
    (h : ∀ s', Sta h₀ s₀ env X B hB Γ Λ s' → Rd s'.heap X₀ (.ref a) (.lst ps) → Q (.ret (.ref a)) s') (hd : (x == ("__debug__" : Str)) = false) : wpAny (model prog w) A (execs (.Return (some (.Name x px)) pos :: rest) env) Q NoE s := by
  refine wpAny_execs_cons (wpAny_Return_some (wpAny_mono (Rw_name hx hd A s R S.cok) (fun v s₁ h₁ => ?_) fun _ _ e => e))
  obtain ⟨k, rfl⟩ := h₁
  have S₁ := S.keep k
  obtain ⟨_, _, vs, m, e, r⟩ := S₁.muts _ hm
  exact h s₁ S₁ (.lst e ha (r.narrow hX))
theorem Ex_compq {elt iter : Expr} {x : Str} {px : Pos} {ifs : List Expr} {scope : Scope} {pos : Pos} {items ps : List PV} (Γc : List (Str × VK)) (p : PV → Bool) (f : PV → PV)
    (hit : It prog w h₀ n env X Γ iter items) (hsz : items.length ≤ 1000) (hs : Sees scope env Γ Γc) (hq : (items.filter p).map f = ps)
    (test : ∀ q ∈ items, ∀ D X', Tss prog w h₀ n (compEnvC scope (clOf scope env) D env) X' ((x, .pv q) :: Γc) ifs (p q))
    (helt : ∀ q ∈ items, p q = true → ∀ D X', Ex prog w h₀ n (compEnvC scope (clOf scope env) D env) X' ((x, .pv q) :: Γc) elt (f q))
    (hcell' : (scope.names.all fun q => q.2 != .cell) = true := by kernel_rfl!) (hkind : scope.kind = .function := by kernel_rfl!) (hx : scope.names.lookup x = some .local := by kernel_rfl!)
    (hnames' : (scope.names.all fun q => q.2 != .local || scope.names.lookup q.1 == some .local) = true := by kernel_rfl!)
    (hfree : (scope.names.all fun q => q.2 != .free || (env.cells.lookup q.1).isSome) = true := by kernel_rfl!)
    (hfs : ∀ x, foldedSetIterable iter env x = pure x := by intro _; kernel_rfl!) :
    Ex prog w h₀ n env X Γ (.ListComp elt [⟨.Name x px, iter, ifs, 0⟩] scope pos) (.lst ps) := by
  subst hq
  exact Ex_comp Γc p f hit hsz hs test helt hcell' hkind hx hnames' hfree hfs
theorem Fn.le {n m : Nat} {f : Value} {ps : List PV} {p : PV} (h : Fn prog w h₀ n f ps p) (hm : n ≤ m) : Fn prog w h₀ m f ps p := fun X A s vs C R r => h X A s vs C (R.le hm) r
theorem Ts_and {x y : Expr} {pos : Pos} {a b : Bool} (hx : Ts prog w h₀ n env X Γ x a) (hy : a = true → Ts prog w h₀ n env X Γ y b) : Ts prog w h₀ n env X Γ (.BoolOp .And [x, y] pos) (a && b) := by
  intro A s R C
  refine wpAny_isTrue_BoolOp (wpAny_allTrue_And_cons (wpAny_mono (hx A s R C) (fun c s₁ h₁ => ?_) fun _ _ e => e))
  obtain ⟨k, rfl⟩ := h₁
  cases c with
  | false => exact ⟨k, rfl⟩
  | true =>
    refine wpAny_allTrue_And_cons (wpAny_mono (hy rfl A s₁ R (C.keep k)) (fun d s₂ h₂ => ?_) fun _ _ e => e)
    obtain ⟨k2, rfl⟩ := h₂
    cases d with
    | false => exact ⟨keeps_trans k k2, rfl⟩
    | true => exact wpAny_allTrue_And_nil ⟨keeps_trans k k2, rfl⟩
theorem Ts_int {e : Expr} {i : Int} (h : Ex prog w h₀ n env X Γ e (.int i)) (he : isTrue e env (eval e env) = (do let v ← eval e env; standAt e.pos; holding [v] (truthy v)) := by kernel_rfl!) : Ts prog w h₀ n env X Γ e (i != 0) := by
  intro A s R C
  refine wpAny_isTrue_value (wpAny_mono (h A s R C) (fun v s₁ h₁ => ?_) fun _ _ e => e) he
  obtain ⟨t, rfl⟩ := h₁.2.isInt
  exact truthy_int ⟨h₁.1, rfl⟩
theorem St_whileT {G : Type} {t : Expr} {pos : Pos} {body rest : List Stmt} (P : Nat → G → Prop) (tb : Nat → G → Bool) (Γf : G → List (Str × VK)) (Λf : G → List (MutH × List PV)) (m₀ : Nat) (g₀ : G)
    (S : Sta h₀ s₀ env X B hB Γ Λ s) (R : Room A n) (hΓ : Sub Γ (Γf g₀)) (hΛ : Λf g₀ = Λ) (hP : P m₀ g₀)
    (hts : ∀ m g, P m g → Ts prog w h₀ n env X (Γf g) t (tb m g))
    (turn : ∀ m g s', P m g → tb m g = true → Sta h₀ s₀ env X B hB (Γf g) (Λf g) s' → wpAny (model prog w) A (execs body env) (fun f s₃ => (f = .next ∨ f = .cont) ∧ ∃ m' g', m' < m ∧ P m' g' ∧ Sta h₀ s₀ env X B hB (Γf g') (Λf g') s₃) NoE s')
    (done : ∀ m g s', P m g → tb m g = false → Sta h₀ s₀ env X B hB (Γf g) (Λf g) s' → wpAny (model prog w) A (execs rest env) Q NoE s') :
    wpAny (model prog w) A (execs (.While t body [] pos :: rest) env) Q NoE s :=
  St_while P Γf Λf m₀ g₀ S hΓ.go hΛ hP fun m g s' hPg S' => ⟨tb m g, hts m g hPg A s' R S'.cok, fun h s₂ S₂ => turn m g s₂ hPg h S₂, fun h s₂ S₂ => done m g s₂ hPg h S₂⟩
end
end Mine
end
section
open PySem PySem.W PyProof.Rows PySem.Calls
namespace Mine
set_option maxRecDepth 100000
set_option maxHeartbeats 4000000

noncomputable def dt (v : Nat) : Str := ⟨Array.replicate v 46⟩
noncomputable def sp (v : Nat) : Str := ⟨Array.replicate v 32⟩
noncomputable def piece (q : Nat × Nat) : PV := .tup [.str (sp q.1), .str (dt q.2)]
theorem fold_one (c n : Nat) : ∀ a : Array Nat, (List.replicate n (#[c] : Array Nat)).foldl (· ++ ·) a = a ++ Array.replicate n c := by
  induction n with
  | zero => intro a; simp
  | succ n ih =>
    intro a
    rw [List.replicate_succ, List.foldl_cons, ih]
    apply Array.toList_inj.mp
    simp [List.replicate_succ]
theorem mul_one_cp (c : Nat) (n : Int) : Txt.mul ⟨#[c]⟩ n = ⟨Array.replicate n.toNat c⟩ := by
  unfold Txt.mul
  split
  · rename_i h
    rw [show n.toNat = 0 by omega]
    rfl
  · split
    · rename_i h1 h2
      have : n = 1 := by
        simp only [Bool.or_eq_true, beq_iff_eq] at h2
        rcases h2 with h2 | h2
        · exact h2
        · exact absurd h2 (by show ¬ ((1 : Nat) = 0); decide)
      subst this
      rfl
    · rw [fold_one]
      simp
theorem mul_dot (n : Int) : Txt.mul "." n = dt n.toNat := mul_one_cp 46 n
theorem mul_sp (n : Int) : Txt.mul " " n = sp n.toNat := mul_one_cp 32 n
theorem mulOk_one (c : Nat) {n : Int} (h1 : -1000 < n) (h2 : n < 1000) : MulOk ⟨#[c]⟩ n := by
  have e : Str.length (⟨#[c]⟩ : Str) = 1 := rfl
  refine ⟨?_, fun h _ => ?_, fun h _ => ?_⟩
  · simp; omega
  · rw [e]
    have : (1 : Int) ≤ (2 ^ 63 - 1) / n := by
      rw [Int.le_ediv_iff_mul_le (by omega)]
      omega
    omega
  · rw [e]
    unfold Builtin.Str.tooLong
    simp only [sizeLine_eq]
    simp; omega
theorem mulOk_dot {n : Int} (h : -1000 < n ∧ n < 1000) : MulOk "." n := mulOk_one 46 h.1 h.2
theorem mulOk_sp {n : Int} (h : -1000 < n ∧ n < 1000) : MulOk " " n := mulOk_one 32 h.1 h.2

section
variable {prog : Program} {w : World} {h₀ : Heap} {mg mb : Str → Option Value} {n : Nat} {env : Env} {X : Addr → Prop} {Γ : List (Str × VK)} {A : Around}
theorem Bn_dot {i : Int} (h : -1000 < i ∧ i < 1000) : Bn prog w h₀ .Mult (.str ".") (.int i) (.str (dt i.toNat)) := mul_dot i ▸ Bn_mulS (mulOk_dot h)
theorem Bn_sp {i : Int} (h : -1000 < i ∧ i < 1000) : Bn prog w h₀ .Mult (.str " ") (.int i) (.str (sp i.toNat)) := mul_sp i ▸ Bn_mulS (mulOk_sp h)
theorem Ip_addI {a b : Int} (s : Shared) (v u : Value) (r : Rd s.heap X v (.int a)) (q : Rd s.heap X u (.int b)) (_ : XOk h₀ X s.heap) : wpAny (model prog w) A (inplaceOp .Add v u) (fun v s' => Keeps s s' ∧ Rd s'.heap X v (.int (a + b))) NoE s := by
  obtain ⟨t, rfl⟩ := r.isInt
  obtain ⟨t', rfl⟩ := q.isInt
  exact wpAny_iadd_int ⟨keeps_toks s _, .int _ _⟩
theorem Ip_subI {a b : Int} (s : Shared) (v u : Value) (r : Rd s.heap X v (.int a)) (q : Rd s.heap X u (.int b)) (_ : XOk h₀ X s.heap) : wpAny (model prog w) A (inplaceOp .Sub v u) (fun v s' => Keeps s s' ∧ Rd s'.heap X v (.int (a - b))) NoE s := by
  obtain ⟨t, rfl⟩ := r.isInt
  obtain ⟨t', rfl⟩ := q.isInt
  exact isub_int ⟨keeps_toks s _, .int _ _⟩
theorem Ip_addS {a b : Str} (hsz : a.length + b.length ≤ 100000) (s : Shared) (v u : Value) (r : Rd s.heap X v (.str a)) (q : Rd s.heap X u (.str b)) (_ : XOk h₀ X s.heap) : wpAny (model prog w) A (inplaceOp .Add v u) (fun v s' => Keeps s s' ∧ Rd s'.heap X v (.str (a ++ b))) NoE s := by
  obtain ⟨t, rfl⟩ := r.isStr
  obtain ⟨t', rfl⟩ := q.isStr
  exact PyProof.Rows.iadd_str (fun t' k => ⟨keeps_toks s _, .str _ _⟩) (by rw [sizeLine_eq]; omega)
end
end Mine
end
section
open PySem PySem.W PyProof.Rows PySem.Calls
namespace Mine
set_option maxRecDepth 100000
set_option maxHeartbeats 4000000

noncomputable def PV.toS : PV → Str
  | .str x => x
  | _ => ""
noncomputable def PV.toL : PV → List PV
  | .tup l => l
  | _ => []
noncomputable def PV.toPc (q : PV) : Nat × Nat := ((q.toL.getD 0 .none).toS.length, (q.toL.getD 1 .none).toS.length)
theorem toPc_piece (q : Nat × Nat) : (piece q).toPc = q := by
  show ((Array.replicate q.1 32).size, (Array.replicate q.2 46).size) = q
  rw [Array.size_replicate, Array.size_replicate]
noncomputable def pcPV (l : List (Nat × Nat)) : List PV := l.map piece
theorem pcPV_length (l : List (Nat × Nat)) : (pcPV l).length = l.length := by simp [pcPV]
theorem dt_inj {a b : Nat} : dt a = dt b ↔ a = b := by
  refine ⟨fun h => ?_, fun h => h ▸ rfl⟩
  have := congrArg (fun x : Str => x.cps.size) h
  simpa [dt] using this
theorem sp_inj {a b : Nat} : sp a = sp b ↔ a = b := by
  refine ⟨fun h => ?_, fun h => h ▸ rfl⟩
  have := congrArg (fun x : Str => x.cps.size) h
  simpa [sp] using this
theorem eqv_piece (a b : Nat × Nat) : PyData.eqv (piece a).py (piece b).py = decide (a = b) := by
  obtain ⟨a1, a2⟩ := a
  obtain ⟨b1, b2⟩ := b
  simp only [piece, PV.py, PV.pys, PyData.eqv, PyData.eqvAll, Bool.and_true, Prod.mk.injEq]
  rw [Bool.eq_iff_iff]
  simp [dt_inj, sp_inj]
theorem eqv_pcs : ∀ l m : List (Nat × Nat), PyData.eqvAll (PV.pys (pcPV l)) (PV.pys (pcPV m)) = decide (l = m)
  | [], [] => rfl
  | [], b :: m => rfl
  | a :: l, [] => rfl
  | a :: l, b :: m => by
    show (PyData.eqv (piece a).py (piece b).py && PyData.eqvAll (PV.pys (pcPV l)) (PV.pys (pcPV m))) = _
    rw [eqv_piece, eqv_pcs l m, Bool.eq_iff_iff]
    simp
theorem eqv_ints : ∀ l m : List Int, PyData.eqvAll (PV.pys (iPV l)) (PV.pys (iPV m)) = decide (l = m)
  | [], [] => rfl
  | [], b :: m => rfl
  | a :: l, [] => rfl
  | a :: l, b :: m => by
    show ((a == b) && PyData.eqvAll (PV.pys (iPV l)) (PV.pys (iPV m))) = _
    rw [eqv_ints l m, Bool.eq_iff_iff]
    simp
theorem eqv_strs : ∀ l m : List Str, PyData.eqvAll (PV.pys (sPV l)) (PV.pys (sPV m)) = decide (l = m)
  | [], [] => rfl
  | [], b :: m => rfl
  | a :: l, [] => rfl
  | a :: l, b :: m => by
    show ((a == b) && PyData.eqvAll (PV.pys (sPV l)) (PV.pys (sPV m))) = _
    rw [eqv_strs l m, Bool.eq_iff_iff]
    simp
theorem ok_rep (c v : Nat) (h : c < 0x110000) : PyData.strOk ⟨Array.replicate v c⟩ = true := by
  unfold PyData.strOk
  rw [Array.all_replicate]
  split
  · rfl
  · simpa using h
theorem lay_piece (a : Nat × Nat) : (piece a).py.canLay0 = true := by
  show ((PyData.strOk (sp a.1)) && ((PyData.strOk (dt a.2)) && true)) = true
  rw [show PyData.strOk (sp a.1) = true from ok_rep 32 a.1 (by decide), show PyData.strOk (dt a.2) = true from ok_rep 46 a.2 (by decide)]
  rfl
theorem dep_piece (a : Nat × Nat) : (piece a).py.depth = 1 := rfl
theorem lay_pcs : ∀ l : List (Nat × Nat), PyData.canLayAll0 (PV.pys (pcPV l)) = true
  | [] => rfl
  | a :: l => by
    show ((piece a).py.canLay0 && PyData.canLayAll0 (PV.pys (pcPV l))) = true
    rw [lay_piece, lay_pcs l]; rfl
theorem dep_pcs : ∀ l : List (Nat × Nat), PyData.depthAll (PV.pys (pcPV l)) ≤ 1
  | [] => Nat.zero_le _
  | a :: l => by
    show max (piece a).py.depth (PyData.depthAll (PV.pys (pcPV l))) ≤ 1
    rw [dep_piece]
    have := dep_pcs l
    omega
theorem shaped_pcs (l : List (Nat × Nat)) : SeqAt.shaped (PV.lst (pcPV l)).py = true := by
  unfold SeqAt.shaped
  rw [Bool.and_eq_true]
  refine ⟨lay_pcs l, decide_eq_true ?_⟩
  show PyData.depthAll (PV.pys (pcPV l)) + 1 ≤ 64
  have := dep_pcs l
  omega
theorem lay_ints : ∀ l : List Int, PyData.canLayAll0 (PV.pys (iPV l)) = true
  | [] => rfl
  | a :: l => by
    show (true && PyData.canLayAll0 (PV.pys (iPV l))) = true
    rw [lay_ints l]; rfl
theorem dep_ints : ∀ l : List Int, PyData.depthAll (PV.pys (iPV l)) = 0
  | [] => rfl
  | a :: l => by
    show max 0 (PyData.depthAll (PV.pys (iPV l))) = 0
    rw [dep_ints l]; rfl
theorem shaped_ints (l : List Int) : SeqAt.shaped (PV.lst (iPV l)).py = true := by
  unfold SeqAt.shaped
  rw [Bool.and_eq_true]
  refine ⟨lay_ints l, decide_eq_true ?_⟩
  show PyData.depthAll (PV.pys (iPV l)) + 1 ≤ 64
  rw [dep_ints l]; decide
theorem lay_strs : ∀ l : List Str, (∀ x ∈ l, PyData.strOk x = true) → PyData.canLayAll0 (PV.pys (sPV l)) = true
  | [], _ => rfl
  | a :: l, h => by
    show (PyData.strOk a && PyData.canLayAll0 (PV.pys (sPV l))) = true
    rw [h a (.head _), lay_strs l fun x hx => h x (.tail _ hx)]; rfl
theorem dep_strs : ∀ l : List Str, PyData.depthAll (PV.pys (sPV l)) = 0
  | [] => rfl
  | a :: l => by
    show max 0 (PyData.depthAll (PV.pys (sPV l))) = 0
    rw [dep_strs l]; rfl
theorem shaped_strs (l : List Str) (h : ∀ x ∈ l, PyData.strOk x = true) : SeqAt.shaped (PV.lst (sPV l)).py = true := by
  unfold SeqAt.shaped
  rw [Bool.and_eq_true]
  refine ⟨lay_strs l h, decide_eq_true ?_⟩
  show PyData.depthAll (PV.pys (sPV l)) + 1 ≤ 64
  rw [dep_strs l]; decide
theorem any_pcs (l : List (Nat × Nat)) (a : Nat × Nat) : ((PV.pys (pcPV l)).any fun y => PyData.eqv y (piece a).py) = decide (a ∈ l) := by
  induction l with
  | nil => rfl
  | cons b l ih =>
    show (PyData.eqv (piece b).py (piece a).py || (PV.pys (pcPV l)).any fun y => PyData.eqv y (piece a).py) = _
    rw [ih, eqv_piece, Bool.eq_iff_iff, Bool.or_eq_true, decide_eq_true_eq, decide_eq_true_eq, decide_eq_true_eq, List.mem_cons]
    exact or_congr eq_comm Iff.rfl
section
variable {prog : Program} {w : World} {h₀ : Heap}
theorem Cm_inP {l : List (Nat × Nat)} {a : Nat × Nat} : Cm prog w h₀ .In (piece a) (.lst (pcPV l)) (.bool (decide (a ∈ l))) :=
  any_pcs l a ▸ Cm_inD (lay_pcs l) (lay_piece a) (by rw [dep_piece]; decide)
theorem Cm_notInP {l : List (Nat × Nat)} {a : Nat × Nat} : Cm prog w h₀ .NotIn (piece a) (.lst (pcPV l)) (.bool (!decide (a ∈ l))) :=
  any_pcs l a ▸ Cm_notInD (lay_pcs l) (lay_piece a) (by rw [dep_piece]; decide)
theorem Cm_eqP {l m : List (Nat × Nat)} : Cm prog w h₀ .Eq (.lst (pcPV l)) (.lst (pcPV m)) (.bool (decide (l = m))) :=
  eqv_pcs l m ▸ Cm_eqD (shaped_pcs l) (shaped_pcs m)
theorem Cm_eqLI {l m : List Int} : Cm prog w h₀ .Eq (.lst (iPV l)) (.lst (iPV m)) (.bool (decide (l = m))) :=
  eqv_ints l m ▸ Cm_eqD (shaped_ints l) (shaped_ints m)
theorem Cm_neLI {l m : List Int} : Cm prog w h₀ .NotEq (.lst (iPV l)) (.lst (iPV m)) (.bool (!decide (l = m))) :=
  eqv_ints l m ▸ Cm_neD (shaped_ints l) (shaped_ints m)
theorem Cm_eqLS {l m : List Str} (hl : ∀ x ∈ l, PyData.strOk x = true) (hm : ∀ x ∈ m, PyData.strOk x = true) : Cm prog w h₀ .Eq (.lst (sPV l)) (.lst (sPV m)) (.bool (decide (l = m))) :=
  eqv_strs l m ▸ Cm_eqD (shaped_strs l hl) (shaped_strs m hm)
end
end Mine
end
section
set_option compiler.extract_closed false
open PySem PySem.W PyProof.Rows PySem.Calls
namespace Mine
local macro_rules | `(tactic| walk_at "san") => `(tactic| all_goals (try (refine' side2 _ _; rotate_left; exact trivial)))
local macro_rules | `(tactic| walk_at "lk") => `(tactic| first | with_reducible exact lookup_cons_eq | (with_reducible refine' lookup_ne (by kernel_rfl!) ?hlk2_lookupne; (case hlk2_lookupne => walk_at "lk")))
local macro_rules | `(tactic| walk_at "st") => `(tactic| first | exact canLocal (by kernel_rfl!) | exact canCell (by kernel_rfl!) (by kernel_rfl!))
local macro_rules | `(tactic| walk_at "bn") => `(tactic| first
  | with_reducible exact Bn_addI | with_reducible exact Bn_subI | with_reducible exact Bn_subB | with_reducible refine' Bn_addL ?_
  | with_reducible exact Bn_mod (by decide) | with_reducible refine' Bn_addS ?_ | with_reducible refine' Bn_dot ?_ | with_reducible refine' Bn_sp ?_ | with_reducible refine' Bn_mulS ?_ | with_reducible refine' Bn_div (by decide) ?_ | with_reducible refine' Bn_mod ?_)
local macro_rules | `(tactic| walk_at "cm") => `(tactic| first
  | with_reducible exact Cm_eqI | with_reducible exact Cm_ltI | with_reducible exact Cm_gtI | with_reducible exact Cm_eqS | with_reducible exact Cm_ltS | with_reducible exact Cm_gtS
  | with_reducible exact Cm_inP | with_reducible exact Cm_notInP | with_reducible exact Cm_eqP | with_reducible exact Cm_eqLI | with_reducible exact Cm_neLI | with_reducible refine' Cm_eqLS ?_ ?_ | with_reducible refine' Cm_eqD ?_ ?_ | with_reducible refine' Cm_neD ?_ ?_ | with_reducible refine' Cm_inD ?_ ?_ ?_ | with_reducible refine' Cm_notInD ?_ ?_ ?_)
local macro_rules | `(tactic| walk_at "pt") => `(tactic| ((first
  | with_reducible exact Pt.none
  | (with_reducible refine' Pt.some ?ha_ptsome; case' ha_ptsome => walk_at "ex")); walk_at "san"))
local macro_rules | `(tactic| walk_at "ex") => `(tactic| ((first
  | with_reducible exact Ex_int
  | with_reducible exact Ex_str
  | with_reducible exact Ex_neg
  | (with_reducible refine' Ex_name ?ha_exname (by kernel_rfl!); (case ha_exname => walk_at "lk"))
  | (with_reducible refine' Ex_bin ?ha_exbin ?hb_exbin ?hc_exbin; (case' ha_exbin => walk_at "ex"); (case' hb_exbin => walk_at "ex"); (case' hc_exbin => walk_at "bn"))
  | (with_reducible refine' Ex_cmp ?ha_excmp ?hb_excmp ?hc_excmp; (case' ha_excmp => walk_at "ex"); (case' hb_excmp => walk_at "ex"); (case' hc_excmp => walk_at "cm"))
  | (with_reducible refine' Ex_tuple ?ha_extuple ?hb_extuple; (case' ha_extuple => walk_at "exl"); (case hb_extuple => exact Nat.le_of_ble_eq_true (by kernel_rfl!)))
  | (with_reducible refine' Ex_list ?ha_exlist ?hb_exlist; (case' ha_exlist => walk_at "exl"); (case hb_exlist => exact Nat.le_of_ble_eq_true (by kernel_rfl!)))
  | (with_reducible refine' Ex_sliceKI ?ha_exsliceki ?hb_exsliceki ?hc_exsliceki ?hd_exsliceki ?hk_exsliceki ?he_exsliceki (by intro _ _; kernel_rfl!); (case' ha_exsliceki => walk_at "ex"); (case' hb_exsliceki => walk_at "pt"); (case' hc_exsliceki => walk_at "pt"); (case' hd_exsliceki => walk_at "ex"))
  | (with_reducible refine' Ex_sliceI ?ha_exslicei ?hb_exslicei ?hc_exslicei ?he_exslicei (by intro _ _; kernel_rfl!); (case' ha_exslicei => walk_at "ex"); (case' hb_exslicei => walk_at "pt"); (case' hc_exslicei => walk_at "pt"))
  | (with_reducible refine' Ex_sliceT ?ha_exslicet ?hb_exslicet ?hc_exslicet ?he_exslicet (by intro _ _; kernel_rfl!); (case' ha_exslicet => walk_at "ex"); (case' hb_exslicet => walk_at "pt"); (case' hc_exslicet => walk_at "pt"))
  | (with_reducible refine' Ex_sliceK ?ha_exslicek ?hb_exslicek ?hc_exslicek ?hd_exslicek ?hk_exslicek ?he_exslicek (by intro _ _; kernel_rfl!); (case' ha_exslicek => walk_at "ex"); (case' hb_exslicek => walk_at "pt"); (case' hc_exslicek => walk_at "pt"); (case' hd_exslicek => walk_at "ex"))
  | (with_reducible refine' Ex_slice ?ha_exslice ?hb_exslice ?hc_exslice ?he_exslice (by intro _ _; kernel_rfl!); (case' ha_exslice => walk_at "ex"); (case' hb_exslice => walk_at "pt"); (case' hc_exslice => walk_at "pt"))
  | (with_reducible refine' Ex_sliceS ?ha_exslices ?hb_exslices ?hc_exslices ?he_exslices (by intro _ _; kernel_rfl!); (case' ha_exslices => walk_at "ex"); (case' hb_exslices => walk_at "pt"); (case' hc_exslices => walk_at "pt"))
  | (with_reducible refine' Ex_itemI ?ha_exitemi ?hb_exitemi ?h0_exitemi ?hl_exitemi; (case' ha_exitemi => walk_at "ex"); (case' hb_exitemi => walk_at "ex"))
  | (with_reducible refine' Ex_itemT ?ha_exitemt ?hb_exitemt ?h0_exitemt ?hl_exitemt; (case' ha_exitemt => walk_at "ex"); (case' hb_exitemt => walk_at "ex"))
  | (with_reducible refine' Ex_itemP ?ha_exitemp ?hb_exitemp ?h0_exitemp ?hl_exitemp; (case' ha_exitemp => walk_at "ex"); (case' hb_exitemp => walk_at "ex"))
  | (with_reducible refine' Ex_if ?ht_exif ?ha_exif ?hb_exif; (case' ht_exif => walk_at "ts"); (case' ha_exif => (intro _; walk_at "ex")); (case' hb_exif => (intro _; walk_at "ex")))
  | (with_reducible refine' Ex_sum (by assumption) (by assumption) (by kernel_rfl!) ?ha_exsum; (case' ha_exsum => walk_at "exl"))
  | (with_reducible refine' Ex_lenI (by assumption) (by assumption) (by kernel_rfl!) ?ha_exleni ?hsz_exleni; (case' ha_exleni => walk_at "exl"))
  | (with_reducible refine' Ex_lenT (by assumption) (by assumption) (by kernel_rfl!) ?ha_exlent ?hsz_exlent; (case' ha_exlent => walk_at "exl"))
  | (with_reducible refine' Ex_len (by assumption) (by assumption) (by kernel_rfl!) ?ha_exlen ?hsz_exlen; (case' ha_exlen => walk_at "exl"))
  | (with_reducible refine' Ex_lenS (by assumption) (by assumption) (by kernel_rfl!) ?ha_exlens ?hsz_exlens; (case' ha_exlens => walk_at "exl"))
  | (with_reducible refine' Ex_max (by assumption) (by assumption) (by kernel_rfl!) ?ha_exmax; (case' ha_exmax => walk_at "exl"))
  | (with_reducible refine' Ex_min (by assumption) (by assumption) (by kernel_rfl!) ?ha_exmin; (case' ha_exmin => walk_at "exl"))); walk_at "san"))
local macro_rules | `(tactic| walk_at "ts") => `(tactic| ((first
  | (with_reducible refine' Ts_cmp ?ha_tscmp ?hb_tscmp ?hc_tscmp; (case' ha_tscmp => walk_at "ex"); (case' hb_tscmp => walk_at "ex"); (case' hc_tscmp => walk_at "cm"))
  | (with_reducible refine' Ts_bool ?ha_tsbool; case' ha_tsbool => walk_at "ex")); walk_at "san"))
local macro_rules | `(tactic| walk_at "exl") => `(tactic| ((first
  | with_reducible exact ExL_nil
  | (with_reducible refine' ExL_cons ?ha_exlcons ?hb_exlcons; (case' ha_exlcons => walk_at "ex"); (case' hb_exlcons => walk_at "exl"))); walk_at "san"))
local macro_rules | `(tactic| walk_at "sees") => `(tactic| first
  | with_reducible exact Sees_nil
  | (with_reducible refine' Sees_cons ?ha_seescons (by kernel_rfl!) (by kernel_rfl!) ?hb_seescons; (case ha_seescons => walk_at "lk"); (case hb_seescons => walk_at "sees")))
local macro_rules | `(tactic| walk_at "it") => `(tactic| ((first
  | (with_reducible refine' It_r1 (by assumption) (by assumption) (by kernel_rfl!) ?ha_itr1 ?hb_itr1; (case' ha_itr1 => walk_at "exl"))
  | (with_reducible refine' It_r2 (by assumption) (by assumption) (by kernel_rfl!) ?ha_itr2 ?hb_itr2; (case' ha_itr2 => walk_at "exl"))
  | (with_reducible refine' It_r3 (by assumption) (by assumption) (by kernel_rfl!) ?ha_itr3 ?hb_itr3; (case' ha_itr3 => walk_at "exl"))
  | (with_reducible refine' It_list ?ha_itlist; case' ha_itlist => walk_at "ex")); walk_at "san"))
local macro_rules | `(tactic| walk_at "exq") => `(tactic| (with_reducible refine' Ex_eq ?h_exeq ?q_exeq; (case' h_exeq => walk_at "ex")))
local macro_rules | `(tactic| walk_at "tsq") => `(tactic| (with_reducible refine' Ts_eq ?h_tseq ?q_tseq; (case' h_tseq => walk_at "ts")))
local macro_rules | `(tactic| walk_at "sub") => `(tactic| first
  | with_reducible exact Sub_nil
  | (with_reducible refine' Sub_cons ?ha_subcons ?hb_subcons; (case ha_subcons => walk_at "lk"); (case hb_subcons => walk_at "sub")))
local macro_rules | `(tactic| walk_at "rw") => `(tactic| (with_reducible refine' Rw_name ?ha_rwname (by kernel_rfl!); (case ha_rwname => walk_at "lk")))
local macro_rules | `(tactic| walk_at "subq") => `(tactic| first
  | with_reducible exact Sub_nil
  | (with_reducible refine' Sub_consq ?ha_subq ?hk_subq ?hb_subq; (case ha_subq => walk_at "lk"); (case hk_subq => first | with_reducible rfl | exact congrArg (fun z => VK.pv (PV.int z)) (by omega) | rfl); (case hb_subq => walk_at "subq")))
section
set_option maxRecDepth 100000
set_option maxHeartbeats 4000000

noncomputable def baseL : List Int := [5, 8, 2, 12, 7, 1, 4, 6, 1, 3, 0, 5, 2, 4]
noncomputable def numF (ns : List Int) (k : Nat) : Int := baseL.getD k 0 + (pickL ns (some k) none (some 14)).sum
noncomputable def numsF (ns : List Int) : List Int := (List.range 14).map (numF ns)

section
variable {prog : Program} {w : World} {h₀ : Heap} {mg mb : Str → Option Value}

theorem numbers_body (G : Glb h₀ mg mb) (N : Nms mg) (a : Addr) (ns : List Int) (hlen : ns.length ≤ 63) :
    Body prog w h₀ 20 "_law_numbers" (fnA 14) (fnB 14) (fnS 14) a [("script", .pv (.lst (iPV ns)))] (.lst (iPV (numsF ns))) := by
  intro A s₀ L code X B hB s₁ R S
  conv in execs (fnB 14) _ => arg 1; whnf
  with_reducible refine' St_assign (p := .lst (iPV baseL)) S R ?e ?x fun s₂ S₂ => ?_
  case e =>
    walk_at "exq"
    rfl
  case x => walk_at "st"
  with_reducible refine' St_ret S₂ R ?e fun v s' S' r => S'.ret0 r
  with_reducible refine' Ex_eq ?h ?q
  case' h =>
    with_reducible refine' Ex_comp [("base", _), ("script", _)] (fun _ => true) (fun q => .int (numF ns q.toI.toNat)) ?i ?n ?s (fun q _ D X' => Tss_nil) (fun q hq _ D X' => ?f)
    case' i => walk_at "it"
    case' s => walk_at "sees"
  case n => decide
  case i => decide
  case q =>
    rw [List.filter_eq_self.mpr (by intro _ _; rfl)]
    simp [rangePV, iPV, numsF, PV.toI]
  obtain ⟨i, hi, rfl⟩ := mem_rangePV hq
  have hi : i < 14 := hi
  have e0 : (0 : Int) + (i : Int) * 1 = (i : Int) := by omega
  rw [e0]
  walk_at "exq"
  · decide
  · omega
  · omega
  · simp [baseL]; omega
  · simp [numF, PV.toI]

theorem numbers_fn (G : Glb h₀ mg mb) (N : Nms mg) (a : Addr) (D : DefAt h₀ mg "_law_numbers" (fnA 14) (fnB 14) (fnS 14) a) (ns : List Int) (hlen : ns.length ≤ 63) :
    Fn prog w h₀ 21 (.ref a) [.lst (iPV ns)] (.lst (iPV (numsF ns))) := by
  with_reducible refine' Fn_of ["script"] G D ?hz ?hl (numbers_body G N a ns hlen) ?hb ?hn ?hk ?h1 ?h2 ?h3
  case hz => rfl
  case hl => rfl
  case hn => decide
  case hb =>
    intro pm code doc vs hv
    obtain ⟨x, rfl⟩ := vlen1 hv
    kernel_rfl!
  all_goals kernel_rfl!
end
end
section
set_option maxRecDepth 100000
set_option maxHeartbeats 4000000

theorem sm {j : Nat} (h : j < 1000) : 0 ≤ (j : Int) ∧ (j : Int) < 1000 := ⟨Int.natCast_nonneg j, Int.ofNat_lt.mpr h⟩
theorem sm2 {j : Nat} (h : j < 1000) : -1000 < (j : Int) ∧ (j : Int) < 1000 := ⟨Int.lt_of_lt_of_le (by decide) (Int.natCast_nonneg j), Int.ofNat_lt.mpr h⟩
theorem sm1 {j : Nat} (h : j + 1 < 1000) : 0 ≤ (j : Int) + 1 ∧ (j : Int) + 1 < 1000 := sm (j := j + 1) h
theorem sm3 {j : Nat} (h : j + 1 < 1000) : -1000 < (j : Int) + 1 ∧ (j : Int) + 1 < 1000 := sm2 (j := j + 1) h
theorem tn {j n : Nat} (h : j < n) : (j : Int).toNat < n := by rw [Int.toNat_natCast]; exact h
theorem tn1 {j n : Nat} (h : j + 1 < n) : ((j : Int) + 1).toNat < n := tn (j := j + 1) h
theorem tn_eq (j : Nat) : ((j : Int) + 1).toNat = j + 1 := Int.toNat_natCast (j + 1)
noncomputable def freeF (row : List Int) : List Int := ([0, 1, 2] : List Int).filter fun k => decide (row.getD k.toNat 0 < row.getD (k + 1).toNat 0)
noncomputable def rowF (row : List Int) (k : Int) : List Int := pickL row none (some k) none ++ [row.getD (k + 1).toNat 0, row.getD k.toNat 0] ++ pickL row (some (k + 2)) none none
noncomputable def stepK (g : List Int × List Int) (x : Int) : List Int × List Int :=
  let fr := freeF g.1
  let k := fr.getD (x.fmod fr.length).toNat 0
  (rowF g.1 k, g.2 ++ [k + 1])
noncomputable def kindsF (l : List Int) : List Int := (l.foldl stepK ([1, 2, 3, 4], [])).2
noncomputable def reachK : Nat → List (List Int × List Int)
  | 0 => [([1, 2, 3, 4], [])]
  | i + 1 => (reachK i).flatMap fun g => (freeF g.1).map fun k => (rowF g.1 k, g.2 ++ [k + 1])
theorem reachK_ok : ((List.range 6).all fun i => (reachK i).all fun g => decide (freeF g.1 ≠ []) && decide (g.1.length = 4) && decide (g.2.length = i)) = true := by decide +kernel
theorem reachK_at {i : Nat} (hi : i < 6) {g : List Int × List Int} (hg : g ∈ reachK i) : freeF g.1 ≠ [] ∧ g.1.length = 4 ∧ g.2.length = i := by
  have := List.all_eq_true.mp (List.all_eq_true.mp reachK_ok i (List.mem_range.mpr hi)) g hg
  simpa [and_assoc] using this
theorem stepK_reach {i : Nat} (hi : i < 6) {g : List Int × List Int} (hg : g ∈ reachK i) (x : Int) : stepK g x ∈ reachK (i + 1) := by
  obtain ⟨h1, h2, h3⟩ := reachK_at hi hg
  refine List.mem_flatMap.mpr ⟨g, hg, List.mem_map.mpr ⟨_, ?_, rfl⟩⟩
  have hp : 0 < (freeF g.1).length := List.length_pos_iff.mpr h1
  have a1 := Int.fmod_nonneg_of_pos x (show (0 : Int) < ((freeF g.1).length : Int) by omega)
  have a2 := Int.fmod_lt_of_pos x (show (0 : Int) < ((freeF g.1).length : Int) by omega)
  have : (x.fmod (freeF g.1).length).toNat < (freeF g.1).length := by omega
  rw [List.getD_eq_getElem?_getD, List.getElem?_eq_getElem this]
  exact List.getElem_mem this

section
variable {prog : Program} {w : World} {h₀ : Heap} {mg mb : Str → Option Value}

theorem kinds_body (G : Glb h₀ mg mb) (N : Nms mg) (a : Addr) (l : List Int) (hlen : l.length = 6) :
    Body prog w h₀ 20 "_law_kinds" (fnA 15) (fnB 15) (fnS 15) a [("numbers", .pv (.lst (iPV l)))] (.lst (iPV (kindsF l))) := by
  intro A s₀ L code X B hB s₁ R S
  conv in execs (fnB 15) _ => arg 1; whnf
  with_reducible refine' St_assign (p := .lst (iPV [1, 2, 3, 4])) S R ?e1 ?x1 fun s₂ S₂ => ?_
  case e1 =>
    walk_at "exq"
    rfl
  case x1 => walk_at "st"
  with_reducible refine' St_new S₂ R ?e2 ?x2 ?sz2 fun b s₃ nXb E₃ S₃ => ?_
  case e2 => walk_at "exl"
  case x2 => walk_at "st"
  case sz2 => decide
  with_reducible refine' St_for (G := List Int × List Int) (fun i g => g = (l.take i).foldl stepK ([1, 2, 3, 4], []) ∧ i ≤ 6 ∧ g ∈ reachK i) (fun g => [("row", .pv (.lst (iPV g.1))), ("kinds", .raw (.ref b))]) (fun g => [(lstH b, iPV g.2)]) [lstH b] ([1, 2, 3, 4], []) S₃ R ?it3 ?x3 ?g3 rfl ?p3 (fun _ => rfl) ?turn ?done
  case it3 => walk_at "it"
  case x3 => walk_at "st"
  case g3 => exact Sub.go (by walk_at "sub")
  case p3 => exact ⟨rfl, by decide, .head _⟩
  case done =>
    intro g s' hP S'
    obtain ⟨hg, hi, hr⟩ := hP
    refine' St_retOwn (a := b) (ps := iPV (kindsF l)) (X₀ := X) S' R ?lk ?mm (fun b q => .inl q) ?na ?rr (by decide +kernel)
    case lk => walk_at "lk"
    case mm =>
      rw [iPV_length, List.take_length] at hg
      rw [hg]
      exact .head _
    case na => exact nXb
    case rr => exact fun s' S' r => S'.retE E₃ r
  case turn =>
    intro i g p X' B' hB' s' E₄ hP hp S'
    obtain ⟨hg, hi, hr⟩ := hP
    have hi6 : i < 6 := by have := iPV_at_lt hp; omega
    obtain ⟨h1, h2, h3⟩ := reachK_at hi6 hr
    obtain ⟨x, hx, rfl⟩ := iPV_at hp
    have hpos : 0 < (freeF g.1).length := List.length_pos_iff.mpr h1
    have hle : (freeF g.1).length ≤ 3 := List.length_filter_le _ _
    have a1 := Int.fmod_nonneg_of_pos x (show (0 : Int) < ((freeF g.1).length : Int) by omega)
    have a2 := Int.fmod_lt_of_pos x (show (0 : Int) < ((freeF g.1).length : Int) by omega)
    with_reducible refine' St_compq (ps := iPV (freeF g.1)) [("row", _)] (fun q => decide (g.1.getD q.toI.toNat 0 < g.1.getD (q.toI + 1).toNat 0)) (fun q => q) S' R ?it4 ?sz4 ?se4 ?q4 ?t4 ?f4 ?y4 fun s₄ S₄ => ?_
    case' it4 => walk_at "it"
    case' se4 => walk_at "sees"
    case it4 => decide
    case sz4 => decide
    case q4 =>
      rw [rangePV_eq, filter_iPV, List.map_id']
      rfl
    case t4 =>
      intro q hq D X2
      obtain ⟨j, hj, rfl⟩ := mem_range0 hq
      have hj : j < 3 := hj
      refine Tss_one ?_
      walk_at "tsq"
      have hj3 : j < g.1.length := by rw [h2]; exact Nat.lt_trans hj (by decide)
      have hj4 : j + 1 < g.1.length := by rw [h2]; exact Nat.succ_lt_succ hj
      all_goals (try (first | with_reducible exact tn hj3 | with_reducible exact tn1 hj4 | with_reducible exact sm (Nat.lt_trans hj (by decide)) | with_reducible exact sm1 (Nat.lt_trans (Nat.succ_lt_succ hj) (by decide)) | omega))
      rfl
    case f4 =>
      intro q hq _ D X2
      walk_at "ex"
    case y4 => kernel_rfl!
    have hk : (freeF g.1).getD (x.fmod (freeF g.1).length).toNat 0 ∈ freeF g.1 := by
      have : (x.fmod (freeF g.1).length).toNat < (freeF g.1).length := by omega
      rw [List.getD_eq_getElem?_getD, List.getElem?_eq_getElem this]
      exact List.getElem_mem this
    have hk3 : 0 ≤ (freeF g.1).getD (x.fmod (freeF g.1).length).toNat 0 ∧ (freeF g.1).getD (x.fmod (freeF g.1).length).toNat 0 < 3 := by
      have := (List.mem_filter.mp hk).1
      generalize (freeF g.1).getD (x.fmod (freeF g.1).length).toNat 0 = z at this
      simp at this
      omega
    have hst : stepK g x = (rowF g.1 ((freeF g.1).getD (x.fmod (freeF g.1).length).toNat 0), g.2 ++ [(freeF g.1).getD (x.fmod (freeF g.1).length).toNat 0 + 1]) := rfl
    have hrow : rowF g.1 ((freeF g.1).getD (x.fmod (freeF g.1).length).toNat 0) = (stepK g x).1 := rfl
    have hnext := stepK_reach hi6 hr x
    generalize hkd : (freeF g.1).getD (x.fmod (freeF g.1).length).toNat 0 = k at hk hk3 hst hrow
    with_reducible refine' St_assign (p := .int k) S₄ R ?e5 ?x5 fun s₅ S₅ => ?_
    case' e5 => walk_at "exq"
    case x5 => walk_at "st"
    any_goals omega
    · exact congrArg PV.int hkd
    obtain ⟨kn, rfl⟩ := Int.eq_ofNat_of_zero_le hk3.1
    have pl1 : (pickL g.1 none (some (kn : Int)) none).length ≤ 4 := by rw [pickL_upto, List.length_take, h2]; exact Nat.min_le_right _ _
    have pl2 : (pickL g.1 (some ((kn : Int) + 2)) none none).length ≤ 4 := by
      rw [show (kn : Int) + 2 = ((kn + 2 : Nat) : Int) from rfl, pickL_from, List.length_drop, h2]; exact Nat.sub_le _ _
    with_reducible refine' St_assign (p := .lst (iPV (rowF g.1 kn))) S₅ R ?e6 ?x6 fun s₆ S₆ => ?_
    case' e6 => walk_at "exq"
    case x6 => walk_at "st"
    have hk9 : kn < 3 := Int.ofNat_lt.mp hk3.2
    have hk4 : kn < g.1.length := by rw [h2]; exact Nat.lt_trans hk9 (by decide)
    have hk5 : kn + 1 < g.1.length := by rw [h2]; exact Nat.succ_lt_succ hk9
    any_goals (first | with_reducible exact tn hk4 | with_reducible exact tn1 hk5 | with_reducible exact sm (Nat.lt_trans hk9 (by decide)) | with_reducible exact sm1 (Nat.lt_trans (Nat.succ_lt_succ hk9) (by decide)) | omega | (simp only [List.length_append, iPV_length, List.length_cons, List.length_nil]; omega))
    · simp [rowF, iPV]
    with_reducible refine' St_app0 S₆ R ?o7 ?e7 ?z7 fun s₇ S₇ => ?_
    case o7 => walk_at "rw"
    case' e7 => walk_at "ex"
    case z7 =>
      rw [iPV_length]
      omega
    refine St_nil ⟨stepK g x, ⟨?_, by omega, hnext⟩, ?_⟩
    · rw [List.take_add_one, hx, List.foldl_append, ← hg]
      rfl
    · rw [hst]
      have e8 : iPV (g.2 ++ [(kn : Int) + 1]) = iPV g.2 ++ [.int ((kn : Int) + 1)] := by simp [iPV]
      show Sta _ _ _ _ _ _ _ [(lstH b, iPV (g.2 ++ [(kn : Int) + 1]))] _
      rw [e8]
      exact S₇.weakS (by walk_at "sub")

theorem kinds_fn (G : Glb h₀ mg mb) (N : Nms mg) (a : Addr) (D : DefAt h₀ mg "_law_kinds" (fnA 15) (fnB 15) (fnS 15) a) (l : List Int) (hlen : l.length = 6) :
    Fn prog w h₀ 21 (.ref a) [.lst (iPV l)] (.lst (iPV (kindsF l))) := by
  with_reducible refine' Fn_of ["numbers"] G D ?hz ?hl (kinds_body G N a l hlen) ?hb ?hn ?hk ?h1 ?h2 ?h3
  case hz => rfl
  case hl => rfl
  case hn => decide
  case hb =>
    intro pm code doc vs hv
    obtain ⟨x, rfl⟩ := vlen1 hv
    kernel_rfl!
  all_goals kernel_rfl!
end
end
section
set_option maxRecDepth 100000
set_option maxHeartbeats 4000000

noncomputable def bI (b : Bool) : Int := b.toInt
noncomputable def mateGo (low : Int) : List Int → Nat → Int → Option Nat
  | [], _, _ => none
  | x :: xs, q, over => if over + ((x == low + 1).toInt - (x == low).toInt) = 0 then some q else mateGo low xs (q + 1) (over + ((x == low + 1).toInt - (x == low).toInt))
noncomputable def mateF (vs : List Int) (low : Int) (p : Nat) : Nat × Nat := match mateGo low (vs.drop p) p 0 with
  | some q => (q, low.toNat)
  | none => (0, 0)

section
variable {prog : Program} {w : World} {h₀ : Heap} {mg mb : Str → Option Value}

theorem mate_body (G : Glb h₀ mg mb) (N : Nms mg) (a : Addr) (vs : List Int) (p : Nat) (low : Int) (hlen : vs.length ≤ 8) (hp : p ≤ vs.length) (hlow : 0 ≤ low ∧ low ≤ 3) :
    Body prog w h₀ 20 "_law_mate" (fnA 16) (fnB 16) (fnS 16) a [("values", .pv (.lst (iPV vs))), ("p", .pv (.int p)), ("low", .pv (.int low))] (piece (mateF vs low p)) := by
  intro A s₀ L code X B hB s₁ R S
  conv in execs (fnB 16) _ => arg 1; whnf
  with_reducible refine' St_assign S R ?e1 ?x1 fun s₂ S₂ => ?_
  case e1 => walk_at "ex"
  case x1 => walk_at "st"
  with_reducible refine' St_for (G := Int) (fun i o => mateGo low (vs.drop p) p 0 = mateGo low (vs.drop (p + i)) (p + i) o) (fun o => [("over", .pv (.int o)), ("values", .pv (.lst (iPV vs))), ("p", .pv (.int p)), ("low", .pv (.int low))]) (fun _ => []) [] 0 S₂ R ?it3 ?x3 ?g3 rfl ?p3 (fun _ => rfl) ?turn ?done
  case' it3 => walk_at "it"
  case x3 => walk_at "st"
  case g3 => exact Sub.go (by walk_at "sub")
  case p3 => rfl
  case turn =>
    intro i o q X' B' hB' s' E₃ hP hq S'
    obtain ⟨hi, rfl⟩ := rangePV_at hq
    have hi : i < vs.length - p := by omega
    rw [show (p : Int) + (i : Int) * 1 = ((p + i : Nat) : Int) by omega] at S'
    have hpi : p + i < vs.length := by omega
    have hdr : vs.drop (p + i) = vs.getD (p + i) 0 :: vs.drop (p + i + 1) := by
      rw [List.drop_eq_getElem_cons hpi, List.getD_eq_getElem?_getD, List.getElem?_eq_getElem hpi]; rfl
    rw [hdr, mateGo] at hP
    generalize hv : vs.getD (p + i) 0 = v at hP
    with_reducible refine' St_aug S' R ?x4 ?l4 ?e4 Ip_addI fun s₄ S₄ => ?_
    case x4 => walk_at "st"
    case l4 => walk_at "lk"
    case' e4 => walk_at "ex"
    any_goals omega
    with_reducible refine' St_if S₄ R ?t5 fun s₅ S₅ => ?_
    case' t5 => walk_at "ts"
    rw [show ((p + i : Nat) : Int).toNat = p + i by omega, hv] at S₅
    rw [show ((p + i : Nat) : Int).toNat = p + i by omega, hv]
    generalize ho : o + ((v == low + 1).toInt - (v == low).toInt) = o' at *
    by_cases h0 : o' = 0
    · subst h0
      rw [if_pos rfl] at hP
      simp only [beq_self_eq_true, if_true]
      with_reducible refine' St_ret (p := piece (p + i, low.toNat)) S₅ R ?e6 fun v6 s₆ S₆ r6 => ?f6
      case' e6 => walk_at "exq"
      any_goals omega
      case q_exeq => rw [show ((p + i : Nat) : Int).toNat = p + i by omega]; rfl
      have hm : mateF vs low p = (p + i, low.toNat) := by unfold mateF; rw [hP]
      show Ret s₀ X B hB (piece (mateF vs low p)) (.ret v6) s₆
      rw [hm]
      exact S₆.retX E₃ r6
    · rw [if_neg h0] at hP
      rw [if_neg (by simpa using h0)]
      refine St_nil (St_nil ⟨o', ?_, S₅.weakS (by walk_at "sub")⟩)
      rw [hP]; rfl
  case done =>
    intro o s' hP S'
    rw [rangePV_length] at hP
    rw [List.drop_of_length_le (i := p + ((vs.length : Int) - (p : Int)).toNat) (by omega)] at hP
    have hm : mateF vs low p = (0, 0) := by unfold mateF; rw [hP]; rfl
    rw [hm]
    with_reducible refine' St_ret S' R ?e7 fun v6 s₆ S₆ r6 => S₆.ret0 r6
    case' e7 => walk_at "exq"
    rfl
  all_goals omega

theorem mate_fn (G : Glb h₀ mg mb) (N : Nms mg) (a : Addr) (D : DefAt h₀ mg "_law_mate" (fnA 16) (fnB 16) (fnS 16) a) (vs : List Int) (p : Nat) (low : Int) (hlen : vs.length ≤ 8) (hp : p ≤ vs.length) (hlow : 0 ≤ low ∧ low ≤ 3) :
    Fn prog w h₀ 21 (.ref a) [.lst (iPV vs), .int p, .int low] (piece (mateF vs low p)) := by
  with_reducible refine' Fn_of ["values", "p", "low"] G D ?hz ?hl (mate_body G N a vs p low hlen hp hlow) ?hb ?hn ?hk ?h1 ?h2 ?h3
  case hz => rfl
  case hl => rfl
  case hn => decide
  case hb =>
    intro pm code doc vs hv
    obtain ⟨x, y, z, rfl⟩ := vlen3 hv
    kernel_rfl!
  all_goals kernel_rfl!
end
end
section
set_option maxRecDepth 100000
set_option maxHeartbeats 4000000

noncomputable def natPV (l : List Nat) : List PV := l.map fun (i : Nat) => .int (i : Int)
theorem range_down (n : Nat) : rangePV ((n : Int) - 1) (-1) n = natPV (List.range n).reverse := by
  apply List.ext_getElem
  · simp [rangePV, natPV]
  · intro i h1 h2
    have hi : i < n := by simpa [rangePV] using h1
    simp only [rangePV, natPV, List.getElem_map, List.getElem_range, List.getElem_reverse, List.length_range]
    exact congrArg PV.int (by omega)
theorem natPV_comp (l : List Nat) (p : PV → Bool) (f : PV → PV) : ((natPV l).filter p).map f = (l.filter fun (i : Nat) => p (.int (i : Int))).map fun (i : Nat) => f (.int (i : Int)) := by
  unfold natPV
  rw [List.filter_map, List.map_map]
  rfl
theorem mem_natPV {l : List Nat} {q : PV} (h : q ∈ natPV l) : ∃ i : Nat, i ∈ l ∧ q = .int (i : Int) := by
  obtain ⟨i, hi, rfl⟩ := List.mem_map.mp h
  exact ⟨i, hi, rfl⟩
theorem natPV_length (l : List Nat) : (natPV l).length = l.length := by simp [natPV]

noncomputable def matesF (vs : List Int) (low : Int) : List (Nat × Nat) := ((List.range vs.length).reverse.filter fun p => vs.getD p 0 == low + 1).map fun p => mateF vs low p
noncomputable def lowsF (vs : List Int) (low : Int) : List (Nat × Nat) := ((List.range vs.length).reverse.filter fun p => vs.getD p 0 == low).map fun p => (p, low.toNat)
noncomputable def leftF (vs : List Int) (low : Int) : List (Nat × Nat) := (lowsF vs low).filter fun q => !decide (q ∈ matesF vs low)

section
variable {prog : Program} {w : World} {h₀ : Heap} {mg mb : Str → Option Value}

theorem Ex_listDown {env : Env} {X : Addr → Prop} {Γ : List (Str × VK)} {n : Nat} {fp rp pos rpos : Pos} {e e' e'' : Expr} {k : Nat} (G : Glb h₀ mg mb) (N : Nms mg) (hf : env.kindOf "range" = some .globalImplicit) (hf' : env.kindOf "list" = some .globalImplicit)
    (has : ExL prog w h₀ n env X Γ rpos [e, e', e''] [.int ((k : Int) - 1), .int (-1), .int (-1)]) (hk : k ≤ 1000)
    (hst : starEach [e, e', e''] env = (false, eval e env) :: starEach [e', e''] env := by kernel_rfl!) (hpl : (backTo rpos (starEach [e', e''] env)).any (·.1) = false := by kernel_rfl!)
    (he : eval (.Call (.Name "range" rp) [e, e', e''] [] rpos) env = (do callWith rpos (← eval (.Name "range" rp) env) [] (backTo rpos (starEach [e, e', e''] env)) (backToKw rpos (keywordEach [] env))) := by kernel_rfl!)
    (he' : eval (.Call (.Name "list" fp) [.Call (.Name "range" rp) [e, e', e''] [] rpos] [] pos) env = (do callWith pos (← eval (.Name "list" fp) env) [] (backTo pos (starEach [.Call (.Name "range" rp) [e, e', e''] [] rpos] env)) (backToKw pos (keywordEach [] env))) := by kernel_rfl!) :
    Ex prog w h₀ n env X Γ (.Call (.Name "list" fp) [.Call (.Name "range" rp) [e, e', e''] [] rpos] [] pos) (.lst (natPV (List.range k).reverse)) := by
  rw [← range_down]
  refine Ex_listRange G N.range N.list hf hf' has hk (fun X A s vs r => ?_) hst hpl he he'
  have := range3 (prog := prog) (w := w) (a := (k : Int) - 1) (by omega) (by omega) X A s vs r
  rwa [show ((k : Int) - 1 + 1).toNat = k by omega] at this
theorem due_body (G : Glb h₀ mg mb) (N : Nms mg) (a am : Addr) (Dm : DefAt h₀ mg "_law_mate" (fnA 16) (fnB 16) (fnS 16) am) (vs : List Int) (low : Int) (hlen : vs.length ≤ 8) (hlow : 0 ≤ low ∧ low ≤ 3) :
    Body prog w h₀ 21 "_law_due" (fnA 17) (fnB 17) (fnS 17) a [("values", .pv (.lst (iPV vs))), ("low", .pv (.int low))] (.tup [.lst (pcPV (matesF vs low)), .lst (pcPV (leftF vs low))]) := by
  intro A s₀ L code X B hB s₁ R S
  conv in execs (fnB 17) _ => arg 1; whnf
  with_reducible refine' St_assign S R ?e1 ?x1 fun s₂ S₂ => ?_
  case' e1 =>
    with_reducible refine' Ex_listDown (k := vs.length) G N ?f1 ?f2 ?has1 ?hk1
    case f1 => kernel_rfl!
    case f2 => kernel_rfl!
    case' has1 => walk_at "exl"
  any_goals omega
  case x1 => walk_at "st"
  with_reducible refine' St_assign (p := .lst (pcPV (matesF vs low))) S₂ R ?e2 ?x2 fun s₃ S₃ => ?_
  case x2 => walk_at "st"
  case' e2 =>
    with_reducible refine' Ex_compq [("low", _), ("values", _)] (fun q => vs.getD q.toI.toNat 0 == low + 1) (fun q => piece (mateF vs low q.toI.toNat)) ?i3 ?n3 ?s3 ?q3 ?t3 ?f3
    case' i3 => walk_at "it"
    case' s3 => walk_at "sees"
    case n3 => rw [natPV_length]; simp; omega
    case q3 =>
      rw [natPV_comp]
      unfold pcPV matesF
      rw [List.map_map]
      rfl
    case t3 =>
      intro q hq D X2
      obtain ⟨j, hj, rfl⟩ := mem_natPV hq
      have hj : j < vs.length := by simpa using hj
      refine Tss_one ?_
      walk_at "tsq"
      all_goals (try omega)
      rfl
    case f3 =>
      intro q hq _ D X2
      obtain ⟨j, hj, rfl⟩ := mem_natPV hq
      have hj : j < vs.length := by simpa using hj
      with_reducible refine' Ex_callF G Dm ?f4 ?d4 ?has4 ?fn4
      case f4 => kernel_rfl!
      case d4 => kernel_rfl!
      case' has4 => walk_at "exl"
      case fn4 => exact mate_fn G N am Dm vs j low hlen (by omega) hlow
  with_reducible refine' St_compq (ps := pcPV (lowsF vs low)) [("low", _), ("values", _)] (fun q => vs.getD q.toI.toNat 0 == low) (fun q => piece (q.toI.toNat, low.toNat)) S₃ R ?i5 ?n5 ?s5 ?q5 ?t5 ?f5 ?y5 fun s₄ S₄ => ?_
  case' i5 => walk_at "it"
  case' s5 => walk_at "sees"
  case n5 => rw [natPV_length]; simp; omega
  case y5 => kernel_rfl!
  case q5 =>
    rw [natPV_comp]
    unfold pcPV lowsF
    rw [List.map_map]
    rfl
  case t5 =>
    intro q hq D X2
    obtain ⟨j, hj, rfl⟩ := mem_natPV hq
    have hj : j < vs.length := by simpa using hj
    refine Tss_one ?_
    walk_at "tsq"
    all_goals (try omega)
    rfl
  case f5 =>
    intro q hq _ D X2
    obtain ⟨j, hj, rfl⟩ := mem_natPV hq
    have hj : j < vs.length := by simpa using hj
    walk_at "exq"
    all_goals (try omega)
    rfl
  with_reducible refine' St_ret S₄ R ?e6 fun v6 s₆ S₆ r6 => S₆.ret0 r6
  with_reducible refine' Ex_tuple ?l6 ?z6
  case z6 => exact Nat.le_of_ble_eq_true (by kernel_rfl!)
  with_reducible refine' ExL_cons ?a7 ?b7 ?c7
  case c7 => kernel_rfl!
  case a7 => walk_at "ex"
  with_reducible refine' ExL_cons ?a8 ExL_nil ?c8
  case c8 => kernel_rfl!
  with_reducible refine' Ex_compq [("mates", _)] (fun q => !decide (q.toPc ∈ matesF vs low)) (fun q => q) ?i9 ?n9 ?s9 ?q9 ?t9 ?f9
  case' i9 => walk_at "it"
  case' s9 => walk_at "sees"
  case n9 =>
    rw [pcPV_length]
    unfold lowsF
    rw [List.length_map]
    have := List.length_filter_le (fun p => vs.getD p 0 == low) (List.range vs.length).reverse
    rw [List.length_reverse, List.length_range] at this
    omega
  case q9 =>
    rw [List.map_id']
    unfold pcPV leftF
    rw [List.filter_map]
    congr 1
    apply List.filter_congr
    intro q _
    rw [Function.comp, toPc_piece]
  case t9 =>
    intro q hq D X2
    obtain ⟨z, hz, rfl⟩ := List.mem_map.mp hq
    refine Tss_one ?_
    walk_at "tsq"
    rw [toPc_piece]
  case f9 =>
    intro q hq _ D X2
    walk_at "ex"

theorem due_fn (G : Glb h₀ mg mb) (N : Nms mg) (a am : Addr) (D : DefAt h₀ mg "_law_due" (fnA 17) (fnB 17) (fnS 17) a) (Dm : DefAt h₀ mg "_law_mate" (fnA 16) (fnB 16) (fnS 16) am) (vs : List Int) (low : Int) (hlen : vs.length ≤ 8) (hlow : 0 ≤ low ∧ low ≤ 3) :
    Fn prog w h₀ 22 (.ref a) [.lst (iPV vs), .int low] (.tup [.lst (pcPV (matesF vs low)), .lst (pcPV (leftF vs low))]) := by
  with_reducible refine' Fn_of ["values", "low"] G D ?hz ?hl (due_body G N a am Dm vs low hlen hlow) ?hb ?hn ?hk ?h1 ?h2 ?h3
  case hz => rfl
  case hl => rfl
  case hn => decide
  case hb =>
    intro pm code doc vs hv
    obtain ⟨x, y, rfl⟩ := vlen2 hv
    kernel_rfl!
  all_goals kernel_rfl!
end
end
section
set_option maxRecDepth 100000
set_option maxHeartbeats 4000000

noncomputable def collF (a b : Str) : Int := (decide (b.cps.toList < a.cps.toList)).toInt - (decide (a.cps.toList < b.cps.toList)).toInt
noncomputable def padS (a : Nat) (mid : List Nat) (b : Nat) : Str := ⟨(List.replicate a 32 ++ mid ++ List.replicate b 32).toArray⟩

theorem sign_sp (d : Nat) : ((⟨#[d]⟩ : Str) == " ") = (d == 32) := by
  rw [Bool.eq_iff_iff, beq_iff_eq, beq_iff_eq]
  constructor
  · intro h
    have := congrArg (fun x : Str => x.cps[0]?) h
    have h2 : (some d : Option Nat) = some 32 := this
    exact Option.some.inj h2
  · rintro rfl; rfl
section
variable {prog : Program} {w : World} {h₀ : Heap} {mg mb : Str → Option Value}

theorem coll_body (a : Addr) (x y : Str) :
    Body prog w h₀ 20 "_strcoll" (fnA 11) (fnB 11) (fnS 11) a [("a", .pv (.str x)), ("b", .pv (.str y))] (.int (collF x y)) := by
  intro A s₀ L code X B hB s₁ R S
  conv in execs (fnB 11) _ => arg 1; whnf
  with_reducible refine' St_ret S R ?e1 fun v s' S' r => S'.ret0 r
  walk_at "exq"
  rfl
theorem coll_fn (G : Glb h₀ mg mb) (a : Addr) (D : DefAt h₀ mg "_strcoll" (fnA 11) (fnB 11) (fnS 11) a) (x y : Str) :
    Fn prog w h₀ 21 (.ref a) [.str x, .str y] (.int (collF x y)) := by
  with_reducible refine' Fn_of ["a", "b"] G D ?hz ?hl (coll_body a x y) ?hb ?hn ?hk ?h1 ?h2 ?h3
  case hz => rfl
  case hl => rfl
  case hn => decide
  case hb =>
    intro pm code doc vs hv
    obtain ⟨x, y, rfl⟩ := vlen2 hv
    kernel_rfl!
  all_goals kernel_rfl!

theorem padS_len (a : Nat) (mid : List Nat) (b : Nat) : (padS a mid b).length = a + mid.length + b := by
  simp [padS, Str.length]; omega
theorem strip_body (G : Glb h₀ mg mb) (N : Nms mg) (a : Addr) (p k : Nat) (mid : List Nat) (b : Nat) (hp : p ≤ 100) (hk : k ≤ 100) (hb : b ≤ 100) (hm : mid.length ≤ 100) (hne : mid ≠ []) (h1 : mid.head? ≠ some 32) (h2 : mid.getLast? ≠ some 32) :
    Body prog w h₀ 20 "_strip_padding" (fnA 12) (fnB 12) (fnS 12) a [("s", .pv (.str (padS p mid b))), ("amount", .pv (.int ((p + k : Nat) : Int)))] (.str (padS 0 mid (b - k))) := by
  intro A s₀ L code X B hB s₁ R S
  conv in execs (fnB 12) _ => arg 1; whnf
  with_reducible refine' St_assign S R ?e1 ?x1 fun s₂ S₂ => ?_
  case e1 => walk_at "ex"
  case x1 => walk_at "st"
  obtain ⟨M, hM⟩ : ∃ M, mid.length = M + 1 := by
    cases mid with
    | nil => exact absurd rfl hne
    | cons d ms => exact ⟨ms.length, rfl⟩
  have lenE : (padS p mid b).length = p + (M + 1) + b := by rw [padS_len, hM]
  have L1 : ∀ i, i < p → (padS p mid b).cps[i]? = some 32 := by
    intro i hi
    simp only [padS, List.getElem?_toArray]
    rw [List.append_assoc, List.getElem?_append_left (by simpa using hi)]
    simp [hi]
  have L2 : ∃ d, (padS p mid b).cps[p]? = some d ∧ d ≠ 32 := by
    cases mid with
    | nil => exact absurd rfl hne
    | cons d ms =>
      refine ⟨d, ?_, by simpa using h1⟩
      simp only [padS, List.getElem?_toArray]
      rw [List.append_assoc, List.getElem?_append_right (by simp)]
      simp
  have L3 : ∀ t, t < b → (padS p mid b).cps[p + (M + 1) + t]? = some 32 := by
    intro t ht
    have e : p + (M + 1) = (List.replicate p 32 ++ mid).length := by simp [hM]
    simp only [padS, List.getElem?_toArray]
    rw [e, List.getElem?_append_right (Nat.le_add_right _ _), Nat.add_sub_cancel_left, List.getElem?_replicate_of_lt ht]
  have L4 : ∃ d, (padS p mid b).cps[p + M]? = some d ∧ d ≠ 32 := by
    have hlt : M < mid.length := hM ▸ Nat.lt_succ_self M
    refine ⟨mid[M], ?_, ?_⟩
    · simp only [padS, List.getElem?_toArray]
      rw [List.append_assoc, List.getElem?_append_right (by simp), List.length_replicate, Nat.add_sub_cancel_left]
      rw [List.getElem?_append_left hlt, List.getElem?_eq_getElem hlt]
    · intro e
      apply h2
      rw [List.getLast?_eq_getElem?, hM, Nat.add_sub_cancel, List.getElem?_eq_getElem hlt, e]
  have sI : ∀ i : Nat, i < (padS p mid b).length → (seqIndex? (i : Int) (padS p mid b).length) = some i := by
    intro i hi
    rw [seqIndex_of (Int.natCast_nonneg i) (Int.ofNat_lt.mpr hi), Int.toNat_natCast]
  have idx : ∀ i : Nat, i ≤ 400 → -(2 ^ 63) ≤ (i : Int) ∧ (i : Int) < 2 ^ 63 := fun i hi => by omega
  have test : ∀ a b : Nat, ((a : Int) != 0 && decide (b ≠ 0)) = decide (a ≠ 0 ∧ b ≠ 0) := by
    intro a b
    cases a <;> simp
    omega
  with_reducible refine' St_whileT (G := Nat × Nat) (fun m g => g.1 + g.2 = p ∧ g.2 = m) (fun _ g => decide (g.2 ≠ 0)) (fun g => [("lpos", .pv (.int (g.1 : Int))), ("amount", .pv (.int ((g.2 + k : Nat) : Int))), ("s", .pv (.str (padS p mid b)))]) (fun _ => []) p (0, p) S₂ R ?g3 rfl ?p3 ?t3 ?turn ?done
  case g3 =>
    dsimp only
    walk_at "subq"
  case p3 => exact ⟨Nat.zero_add p, rfl⟩
  case t3 =>
    intro m g hP
    obtain ⟨i, r⟩ := g
    obtain ⟨hi, -⟩ := hP
    dsimp only at hi ⊢
    obtain ⟨d, hd, hd2⟩ : ∃ d, (padS p mid b).cps[i]? = some d ∧ (d == 32) = decide (r ≠ 0) := by
      by_cases h : r = 0
      · obtain ⟨d, hd, h3⟩ := L2
        exact ⟨d, by rw [show i = p by rw [← hi, h]; rfl]; exact hd, by simp [h3, h]⟩
      · exact ⟨32, L1 i (by omega), by simp [h]⟩
    with_reducible refine' Ts_eq (Ts_and ?a3 fun _ => ?b3) ?q3
    case a3 =>
      with_reducible refine' Ts_int ?a4 ?a5
      case a4 => walk_at "ex"
      case a5 => kernel_rfl!
    case b3 =>
      with_reducible refine' Ts_cmp ?a6 ?b6 ?c6 ?d6 ?e6
      case a6 =>
        with_reducible refine' Ex_sign (c := d) ?a7 ?b7 ?c7 ?d7 ?e7
        case a7 => walk_at "ex"
        case b7 => walk_at "ex"
        case e7 => kernel_rfl!
        case c7 => exact idx i (by omega)
        case d7 => rw [sI i (by omega)]; exact hd
      case b6 => walk_at "ex"
      case c6 => walk_at "cm"
      case d6 => kernel_rfl!
      case e6 => decide
    case q3 =>
      rw [sign_sp, hd2, test]
      exact decide_eq_decide.mpr ⟨fun h => h.2, fun h => ⟨by omega, h⟩⟩
  case turn =>
    intro m g s' hP ht S'
    obtain ⟨i, r⟩ := g
    obtain ⟨hi, rfl⟩ := hP
    dsimp only at hi ht S' ⊢
    obtain ⟨r, rfl⟩ : ∃ r', r = r' + 1 := Nat.exists_eq_succ_of_ne_zero (by simpa using ht)
    with_reducible refine' St_aug S' R ?x4 ?l4 ?e4 Ip_addI fun s₄ S₄ => ?_
    case x4 => walk_at "st"
    case l4 => walk_at "lk"
    case e4 => walk_at "ex"
    with_reducible refine' St_aug S₄ R ?x5 ?l5 ?e5 Ip_subI fun s₅ S₅ => ?_
    case x5 => walk_at "st"
    case l5 => walk_at "lk"
    case e5 => walk_at "ex"
    refine St_nil ⟨.inl rfl, r, (i + 1, r), Nat.lt_succ_self r, ⟨by omega, rfl⟩, S₅.weakS ?_⟩
    dsimp only
    walk_at "subq"
  case done =>
    intro m g s' hP ht S'
    obtain ⟨i, r⟩ := g
    obtain ⟨hi, rfl⟩ := hP
    dsimp only at hi ht S' ⊢
    obtain rfl : r = 0 := by simpa using ht
    obtain rfl : i = p := hi
    with_reducible refine' St_assign (p := .int ((i + M + b : Nat) : Int)) S' R (Ex_eq ?e6 ?q6) ?x6 fun s₆ S₆ => ?_
    case' e6 => walk_at "ex"
    case x6 => walk_at "st"
    case q6 => exact congrArg PV.int (by rw [lenE]; omega)
    case e6 => rw [lenE]; omega
    with_reducible refine' St_whileT (G := Nat × Nat × Nat) (fun m g => g.1 + g.2.1 = b ∧ g.1 + g.2.2 = k ∧ g.2.2 = m) (fun _ g => decide (g.2.2 ≠ 0 ∧ g.2.1 ≠ 0)) (fun g => [("rpos", .pv (.int ((i + M + g.2.1 : Nat) : Int))), ("amount", .pv (.int (g.2.2 : Int))), ("s", .pv (.str (padS i mid b))), ("lpos", .pv (.int (i : Int)))]) (fun _ => []) k (0, b, k) S₆ R ?g7 rfl ?p7 ?t7 ?turn7 ?done7
    case g7 =>
      dsimp only
      walk_at "subq"
    case p7 => exact ⟨Nat.zero_add b, Nat.zero_add k, rfl⟩
    case t7 =>
      intro m g hP
      obtain ⟨j, t, u⟩ := g
      obtain ⟨hj1, hj2, -⟩ := hP
      dsimp only at hj1 hj2 ⊢
      obtain ⟨d, hd, hd2⟩ : ∃ d, (padS i mid b).cps[i + M + t]? = some d ∧ (d == 32) = decide (t ≠ 0) := by
        cases t with
        | zero =>
          obtain ⟨d, hd, h3⟩ := L4
          exact ⟨d, hd, by simp [h3]⟩
        | succ t => exact ⟨32, by rw [show i + M + (t + 1) = i + (M + 1) + t by omega]; exact L3 t (by omega), by simp⟩
      with_reducible refine' Ts_eq (Ts_and ?a8 fun _ => ?b8) ?q8
      case a8 =>
        with_reducible refine' Ts_int ?a9 ?a10
        case a9 => walk_at "ex"
        case a10 => kernel_rfl!
      case b8 =>
        with_reducible refine' Ts_cmp ?a11 ?b11 ?c11 ?d11 ?e11
        case a11 =>
          with_reducible refine' Ex_sign (c := d) ?a12 ?b12 ?c12 ?d12 ?e12
          case a12 => walk_at "ex"
          case b12 => walk_at "ex"
          case e12 => kernel_rfl!
          case c12 => exact idx _ (by omega)
          case d12 => rw [sI (i + M + t) (by omega)]; exact hd
        case b11 => walk_at "ex"
        case c11 => walk_at "cm"
        case d11 => kernel_rfl!
        case e11 => decide
      case q8 => rw [sign_sp, hd2, test]
    case turn7 =>
      intro m g s' hP ht S'
      obtain ⟨j, t, u⟩ := g
      obtain ⟨hj1, hj2, rfl⟩ := hP
      dsimp only at hj1 hj2 ht S' ⊢
      have ht := of_decide_eq_true ht
      obtain ⟨t, rfl⟩ : ∃ r', t = r' + 1 := Nat.exists_eq_succ_of_ne_zero ht.2
      obtain ⟨u, rfl⟩ : ∃ r', u = r' + 1 := Nat.exists_eq_succ_of_ne_zero ht.1
      with_reducible refine' St_aug S' R ?x13 ?l13 ?e13 Ip_subI fun s₄ S₄ => ?_
      case x13 => walk_at "st"
      case l13 => walk_at "lk"
      case e13 => walk_at "ex"
      with_reducible refine' St_aug S₄ R ?x14 ?l14 ?e14 Ip_subI fun s₅ S₅ => ?_
      case x14 => walk_at "st"
      case l14 => walk_at "lk"
      case e14 => walk_at "ex"
      refine St_nil ⟨.inl rfl, u, (j + 1, t, u), Nat.lt_succ_self u, ⟨by dsimp only; omega, by dsimp only; omega, rfl⟩, S₅.weakS ?_⟩
      dsimp only
      walk_at "subq"
    case done7 =>
      intro m g s' hP ht S'
      obtain ⟨j, t, u⟩ := g
      obtain ⟨hj1, hj2, rfl⟩ := hP
      dsimp only at hj1 hj2 ht S' ⊢
      have ht := of_decide_eq_false ht
      have htb : t = b - k := by omega
      with_reducible refine' St_ret S' R ?e15 fun v s'' S'' r => S''.ret0 r
      case' e15 => walk_at "exq"
      any_goals (rw [lenE]; omega)
      have hcl := eq_of_beq (slice_closes (x := padS i mid b) (i := (i : Int)) (j := ((i + M + t : Nat) : Int) + 1) (by
        have : (padS i mid b).cps.toList.length = i + (M + 1) + b := by simpa [Str.length] using lenE
        omega))
      rw [hcl]
      congr 1
      unfold padS
      congr 1
      apply Array.toList_inj.mp
      simp only [List.toList_toArray, Int.toNat_natCast]
      rw [show (((i + M + t : Nat) : Int) + 1 - (i : Int)).toNat = mid.length + t by rw [hM]; omega, ← htb]
      rw [List.append_assoc, List.drop_append_of_le_length (by simp), List.drop_of_length_le (by simp), List.nil_append]
      rw [List.take_append]
      simp
      rw [Nat.min_eq_left (hj1 ▸ Nat.le_add_left t j), List.take_of_length_le (Nat.le_add_right _ _)]

theorem strip_fn (G : Glb h₀ mg mb) (N : Nms mg) (a : Addr) (D : DefAt h₀ mg "_strip_padding" (fnA 12) (fnB 12) (fnS 12) a) (p k : Nat) (mid : List Nat) (b : Nat) (hp : p ≤ 100) (hk : k ≤ 100) (hb : b ≤ 100) (hm : mid.length ≤ 100) (hne : mid ≠ []) (h1 : mid.head? ≠ some 32) (h2 : mid.getLast? ≠ some 32) :
    Fn prog w h₀ 21 (.ref a) [.str (padS p mid b), .int ((p + k : Nat) : Int)] (.str (padS 0 mid (b - k))) := by
  with_reducible refine' Fn_of ["s", "amount"] G D ?hz ?hl (strip_body G N a p k mid b hp hk hb hm hne h1 h2) ?hb ?hn ?hk ?h1 ?h2 ?h3
  case hz => rfl
  case hl => rfl
  case hn => decide
  case hb =>
    intro pm code doc vs hv
    obtain ⟨x, y, rfl⟩ := vlen2 hv
    kernel_rfl!
  all_goals kernel_rfl!
end
end
section
set_option maxRecDepth 100000

theorem slot_sub : Slot "re.Pattern" "sub" "re.Pattern.sub" :=
  .of (owner := "re.Pattern") (n := "sub") (by rw [typeLookup_type, builtinLookup_eq_fast]; kernel_rfl) (by decide +kernel) (by decide +kernel) (by decide +kernel)
    (by first | exact .inl (by decide +kernel) | exact .inr (by decide +kernel)) (by rw [isSubtype_type]; kernel_rfl)
theorem type_sub : typeOf (.builtin "re.Pattern.sub") = pure (.type "method_descriptor") := by show builtinType _ = _; rw [builtinType_eq_fast]; kernel_rfl
theorem entry_sub : entryFor table "re.Pattern.sub" = some Builtin.«re.Pattern.sub» := entryFor_of_tree (by kernel_rfl)
theorem entry_subLoop : entryFor table "re.Pattern.sub.loop" = some Builtin.«re.Pattern.sub.loop» := entryFor_of_tree (by kernel_rfl)
theorem plain_rePattern : PlainAttrs "re.Pattern" :=
  ⟨⟨"object.__getattribute__", by rw [typeLookup_type, builtinLookup_eq_fast]; kernel_rfl, by decide +kernel⟩, by rw [typeLookup_type, builtinLookup_eq_fast]; kernel_rfl⟩
theorem args_sub (a b c : Value) : argsOk "re.Pattern.sub" ⟨[a, b, c], []⟩ := by
  unfold argsOk
  rw [signature?_of (id := "re.Pattern.sub") (n := ['b', 'u', 's']) (o := ['n', 'r', 'e', 't', 't', 'a', 'P', '.', 'e', 'r']) (by kernel_rfl) (rows := Manifest.sig_re_Pattern) (by kernel_rfl)]
  kernel_rfl
end
section
set_option maxRecDepth 100000
open PySem.Sre

noncomputable def c1 : Array Nat := #[14, 4, 0, 1, 1, 6, 1, 16, 46, 1]
noncomputable def m1 (text : Array Nat) (s : Nat) (o : Bool) (seen : Sre.Seen) (pc pos handed : Nat) (ans : Option Bool) : M :=
  { code := c1, text := text, lim := text.size, start := s, lastStart := text.size, pc := pc, pos := pos, handed := handed, outermost := o, marks := #[], frames := [{ wait := .nextStart, pc := 5, pos := s, outermost := o }], weight := 1, answer := ans, seen := seen }
noncomputable def e1 (text : Array Nat) (s : Nat) (o : Bool) (seen : Sre.Seen) (handed : Nat) (ans : Bool) (out : Option Sre.Outcome) : M :=
  { code := c1, text := text, lim := text.size, start := s, lastStart := text.size, pc := 5, pos := s, handed := handed, outermost := o, marks := #[], frames := [], weight := 0, answer := some ans, seen := seen, outcome := out }

theorem step1_at (text : Array Nat) (s : Nat) (o : Bool) (seen : Sre.Seen) (hd : Nat) :
    (m1 text s o seen 5 s hd none).step = if (s == 0 || text.getD (s - 1) 0 == 10) = true then m1 text s o ((seen.add 6).add 44) 7 s hd none else m1 text s o ((seen.add 6).add 44) 5 s hd (some false) := by
  rfl
theorem step1_lit (text : Array Nat) (s : Nat) (o : Bool) (seen : Sre.Seen) (hd : Nat) :
    (m1 text s o seen 7 s hd none).step = if s ≥ text.size then m1 text s o (seen.add 16) 7 s hd (some false) else
      match (Except.ok (text.getD s 0 == 46, seen.add 16) : Except String (Bool × Sre.Seen)) with
      | .error why => (m1 text s o (seen.add 16) 7 s hd none).stick why
      | .ok (false, sn) => m1 text s o sn 7 s hd (some false)
      | .ok (true, sn) => m1 text s o sn 9 (s + 1) hd none := by
  rfl
theorem step1_ok (text : Array Nat) (s : Nat) (o : Bool) (seen : Sre.Seen) (hd : Nat) :
    (m1 text s o seen 9 (s + 1) hd none).step = m1 text s o (seen.add 1) 9 (s + 1) (s + 1) (some true) := by
  cases o <;> rfl
theorem step1_won (text : Array Nat) (s : Nat) (o : Bool) (seen : Sre.Seen) (hd pc pos : Nat) :
    (m1 text s o seen pc pos hd (some true)).step = e1 text s o seen hd true none := by
  rfl
theorem step1_lost (text : Array Nat) (s : Nat) (o : Bool) (seen : Sre.Seen) (hd pc pos : Nat) :
    (m1 text s o seen pc pos hd (some false)).step = if s < text.size then m1 text (s + 1) false seen 5 (s + 1) (s + 1) none else e1 text s o seen hd false none := by
  rfl
theorem step1_fin (text : Array Nat) (s : Nat) (o : Bool) (seen : Sre.Seen) (hd : Nat) (a : Bool) : (e1 text s o seen hd a none).step = e1 text s o seen hd a (some (if a then .matched else .failed)) := by
  rfl

noncomputable def itr (n : Nat) (m : M) : M := Nat.rec m (fun _ r => M.step r) n
theorem itr_succ (n : Nat) (m : M) : itr (n + 1) m = (itr n m).step := rfl
theorem itr_zero (m : M) : itr 0 m = m := rfl
theorem itr_add (a b : Nat) (m : M) : itr (a + b) m = itr b (itr a m) := by
  induction b with
  | zero => rfl
  | succ b ih => rw [← Nat.add_assoc, itr_succ, ih]; rfl
theorem step_stop {m : M} (h : m.outcome.isSome = true) : m.step = m := by
  unfold M.step
  rw [if_pos h]
theorem itr_stop {m : M} (h : m.outcome.isSome = true) : ∀ n, itr n m = m
  | 0 => rfl
  | n + 1 => by rw [itr_succ, itr_stop h n, step_stop h]
theorem itr_one_add (n : Nat) (m : M) : itr (n + 1) m = itr n m.step := by
  rw [Nat.add_comm, itr_add]; rfl
theorem runFor_itr : ∀ (n : Nat) (m : M), m.runFor n = itr n m
  | 0, _ => rfl
  | n + 1, m => by
    show (if m.outcome.isSome = true then m else M.runFor n m.step) = _
    by_cases h : m.outcome.isSome = true
    · rw [if_pos h, itr_stop h]
    · rw [if_neg h, runFor_itr n, itr_one_add]

noncomputable def nx (P : Nat → Bool) : Nat → Nat → Option Nat
  | 0, _ => none
  | k + 1, s => if P s then some s else nx P k (s + 1)
noncomputable def P1 (text : Array Nat) (i : Nat) : Bool := (i == 0 || text.getD (i - 1) 0 == 10) && text.getD i 0 == 46

structure Won (m : M) (i e : Nat) : Prop where
  out : m.outcome = some .matched
  start : m.start = i
  handed : m.handed = e
theorem run1 (text : Array Nat) : ∀ (k s : Nat) (o : Bool) (seen : Sre.Seen) (hd : Nat), s + k = text.size → ∃ n, n ≤ 5 * k + 6 ∧
    match nx (P1 text) k s with
    | some i => Won (itr n (m1 text s o seen 5 s hd none)) i (i + 1)
    | none => (itr n (m1 text s o seen 5 s hd none)).outcome = some .failed
  | 0, s, o, seen, hd, hs => by
    have lost : ∀ (n : Nat) (m : M), (∃ sn pc pos, itr n m = m1 text s o sn pc pos hd (some false)) → (itr (n + 2) m).outcome = some .failed := by
      rintro n m ⟨sn, pc, pos, e⟩
      rw [itr_succ, itr_succ, e, step1_lost, if_neg (by omega), step1_fin]
      rfl
    by_cases h : (s == 0 || text.getD (s - 1) 0 == 10) = true
    · refine ⟨4, by omega, lost 2 _ ⟨((seen.add 6).add 44).add 16, 7, s, ?_⟩⟩
      rw [itr_succ, itr_succ, itr_zero, step1_at, if_pos h, step1_lit, if_pos (by omega)]
    · refine ⟨3, by omega, lost 1 _ ⟨(seen.add 6).add 44, 5, s, ?_⟩⟩
      rw [itr_succ, itr_zero, step1_at, if_neg h]
  | k + 1, s, o, seen, hd, hs => by
    have next : ∀ (n : Nat), n ≤ 2 → P1 text s = false → (∃ sn pc pos, itr n (m1 text s o seen 5 s hd none) = m1 text s o sn pc pos hd (some false)) → ∃ n', n' ≤ 5 * (k + 1) + 6 ∧
        match nx (P1 text) (k + 1) s with
        | some i => Won (itr n' (m1 text s o seen 5 s hd none)) i (i + 1)
        | none => (itr n' (m1 text s o seen 5 s hd none)).outcome = some .failed := by
      rintro n hn hP ⟨sn, pc, pos, e⟩
      obtain ⟨n2, h2, h3⟩ := run1 text k (s + 1) false sn (s + 1) (by omega)
      refine ⟨n + 1 + n2, by omega, ?_⟩
      have : itr (n + 1 + n2) (m1 text s o seen 5 s hd none) = itr n2 (m1 text (s + 1) false sn 5 (s + 1) (s + 1) none) := by
        rw [itr_add, itr_succ, e, step1_lost, if_pos (by omega)]
      rw [this]
      unfold nx
      rw [hP]
      exact h3
    by_cases h : (s == 0 || text.getD (s - 1) 0 == 10) = true
    · cases h2 : (text.getD s 0 == 46) with
      | false =>
        refine next 2 (by omega) (by unfold P1; rw [h2, Bool.and_false]) ⟨seen.add 6 |>.add 44 |>.add 16, 7, s, ?_⟩
        rw [itr_succ, itr_succ, itr_zero, step1_at, if_pos h, step1_lit, if_neg (by omega), h2]
      | true =>
        refine ⟨5, by omega, ?_⟩
        have hP : P1 text s = true := by unfold P1; rw [h, h2]; rfl
        unfold nx
        rw [hP]
        have : itr 5 (m1 text s o seen 5 s hd none) = e1 text s o ((((seen.add 6).add 44).add 16).add 1) (s + 1) true (some .matched) := by
          rw [itr_succ, itr_succ, itr_succ, itr_succ, itr_succ, itr_zero, step1_at, if_pos h, step1_lit, if_neg (by omega), h2]
          show M.step (M.step (M.step (m1 _ _ _ _ _ _ _ _))) = _
          rw [step1_ok, step1_won, step1_fin]
          rfl
        rw [this]
        exact ⟨rfl, rfl, rfl⟩
    · refine next 1 (by omega) ?_ ⟨(seen.add 6).add 44, 5, s, ?_⟩
      · unfold P1
        rw [show (s == 0 || text.getD (s - 1) 0 == 10) = false by simpa using h]; rfl
      · rw [itr_succ, itr_zero, step1_at, if_neg h]
theorem search1 (text : Array Nat) (s : Nat) (hs : s ≤ text.size) : ∃ n, n ≤ 5 * text.size + 20 ∧
    match nx (P1 text) (text.size - s) s with
    | some i => Won (itr n (forSearch c1 text 0 s text.size false)) i (i + 1)
    | none => (itr n (forSearch c1 text 0 s text.size false)).outcome = some .failed := by
  by_cases h : text.size - s < 1
  · refine ⟨1, by omega, ?_⟩
    have hz : text.size - s = 0 := by omega
    rw [hz]
    have e : forSearch c1 text 0 s text.size false = if (decide (s > text.size) || decide (text.size - s < 1)) = true then M.say { code := c1, text, lim := text.size, start := s, pc := 5, pos := s, handed := s, marks := #[], seen := ({} : Sre.Seen).add 14 } false else m1 text s true (({} : Sre.Seen).add 14) 5 s s none := by
      rfl
    rw [e, if_pos (by simp; omega)]
    rfl
  · have e : forSearch c1 text 0 s text.size false = if (decide (s > text.size) || decide (text.size - s < 1)) = true then M.say { code := c1, text, lim := text.size, start := s, pc := 5, pos := s, handed := s, marks := #[], seen := ({} : Sre.Seen).add 14 } false else m1 text s true (({} : Sre.Seen).add 14) 5 s s none := by
      rfl
    rw [e, if_neg (by simp; omega)]
    obtain ⟨n, h1, h2⟩ := run1 text (text.size - s) s true (({} : Sre.Seen).add 14) s (by omega)
    exact ⟨n, by omega, h2⟩
end
section
set_option maxRecDepth 100000
open PySem.Sre

noncomputable def c2 : Array Nat := #[14, 9, 4, 1, 2, 16, 10, 16, 13, 0, 7, 7, 16, 13, 16, 10, 15, 18, 5, 16, 10, 15, 13, 11, 16, 13, 5, 5, 0, 16, 10, 1, 15, 2, 0, 1]
noncomputable def fs (s : Nat) (o : Bool) : Sre.Frame := { wait := .nextStart, pc := 10, pos := s, outermost := o }
noncomputable def fb (a s : Nat) (o : Bool) : Sre.Frame := { wait := .nextBranch, pc := a, pos := s, outermost := o }
noncomputable def fl (s : Nat) (o : Bool) : Sre.Frame := { wait := .lookNot, pc := 26, pos := s, outermost := o }
noncomputable def m2 (text : Array Nat) (s : Nat) (seen : Sre.Seen) (fr : List Sre.Frame) (wt pc pos hd : Nat) (om : Bool) (ans : Option Bool) : M :=
  { code := c2, text := text, lim := text.size, start := s, lastStart := text.size, pc := pc, pos := pos, handed := hd, outermost := om, marks := #[], frames := fr, weight := wt, answer := ans, seen := seen }
noncomputable def e2 (text : Array Nat) (s : Nat) (o : Bool) (seen : Sre.Seen) (handed : Nat) (ans : Bool) (out : Option Sre.Outcome) : M :=
  { code := c2, text := text, lim := text.size, start := s, lastStart := text.size, pc := 10, pos := s, handed := handed, outermost := o, marks := #[], frames := [], weight := 0, answer := some ans, seen := seen, outcome := out }

section
variable (text : Array Nat) (s p : Nat) (seen : Sre.Seen) (fr : List Sre.Frame) (wt hd : Nat) (o : Bool)
theorem st_branch : (m2 text s seen [fs s o] 1 10 s hd o none).step = m2 text s (seen.add 7) [fb 11 s o, fs s o] 2 12 s s o none := rfl
noncomputable def litTo (pc to v : Nat) : M := if p ≥ text.size then m2 text s (seen.add 16) fr wt pc p hd o (some false) else
  match (Except.ok (text.getD p 0 == v, seen.add 16) : Except String (Bool × Sre.Seen)) with
  | .error why => (m2 text s (seen.add 16) fr wt pc p hd o none).stick why
  | .ok (false, sn) => m2 text s sn fr wt pc p hd o (some false)
  | .ok (true, sn) => m2 text s sn fr wt to (p + 1) hd o none
theorem st_lit12 : (m2 text s seen fr wt 12 p hd o none).step = litTo text s p seen fr wt hd o 12 14 13 := rfl
theorem st_lit14 : (m2 text s seen fr wt 14 p hd o none).step = litTo text s p seen fr wt hd o 14 16 10 := rfl
theorem st_lit19 : (m2 text s seen fr wt 19 p hd o none).step = litTo text s p seen fr wt hd o 19 21 10 := rfl
theorem st_lit24 : (m2 text s seen fr wt 24 p hd o none).step = litTo text s p seen fr wt hd o 24 26 13 := rfl
theorem st_lit29 : (m2 text s seen fr wt 29 p hd o none).step = litTo text s p seen fr wt hd o 29 31 10 := rfl
theorem st_jump16 : (m2 text s seen fr wt 16 p hd o none).step = m2 text s (seen.add 15) fr wt 35 p hd o none := rfl
theorem st_jump21 : (m2 text s seen fr wt 21 p hd o none).step = m2 text s (seen.add 15) fr wt 35 p hd o none := rfl
theorem st_jump32 : (m2 text s seen fr wt 32 p hd o none).step = m2 text s (seen.add 15) fr wt 35 p hd o none := rfl
theorem st_ok : (m2 text s seen fr wt 35 p hd o none).step = m2 text s (seen.add 1) fr wt 35 p p o (some true) := by cases o <;> rfl
theorem st_look : (m2 text s seen [fb 23 s o, fs s o] 2 26 p hd o none).step = m2 text s (seen.add 5) [fl p o, fb 23 s o, fs s o] 3 29 p p false none := rfl
theorem st_lookNo (pc q : Nat) : (m2 text s seen [fl p o, fb 23 s o, fs s o] 3 pc q hd false (some false)).step = m2 text s seen [fb 23 s o, fs s o] 2 32 p hd o none := rfl
theorem st_no11 (pc : Nat) : (m2 text s seen [fb 11 s o, fs s o] 2 pc p hd o (some false)).step = m2 text s seen [fb 18 s o, fs s o] 2 19 s s o none := rfl
theorem st_no18 (pc : Nat) : (m2 text s seen [fb 18 s o, fs s o] 2 pc p hd o (some false)).step = m2 text s seen [fb 23 s o, fs s o] 2 24 s s o none := rfl
theorem st_yes (a pc : Nat) : (m2 text s seen [fb a s o, fs s o] 2 pc p hd o (some true)).step = m2 text s seen [fs s o] 1 a s hd o (some true) := rfl
theorem st_won (pc : Nat) : (m2 text s seen [fs s o] 1 pc p hd o (some true)).step = e2 text s o seen hd true none := rfl
theorem st_fin (a : Bool) : (e2 text s o seen hd a none).step = e2 text s o seen hd a (some (if a then .matched else .failed)) := rfl
theorem lit_yes {pc to v : Nat} (h : p < text.size) (e : text.getD p 0 = v) : litTo text s p seen fr wt hd o pc to v = m2 text s (seen.add 16) fr wt to (p + 1) hd o none := by
  unfold litTo
  rw [if_neg (by omega), show (text.getD p 0 == v) = true by simpa using e]
theorem lit_no {pc to v : Nat} (h : p ≥ text.size ∨ text.getD p 0 ≠ v) : litTo text s p seen fr wt hd o pc to v = m2 text s (seen.add 16) fr wt pc p hd o (some false) := by
  unfold litTo
  by_cases h1 : p ≥ text.size
  · rw [if_pos h1]
  · rw [if_neg h1, show (text.getD p 0 == v) = false by simpa using h.resolve_left h1]
end

noncomputable def P2 (text : Array Nat) (i : Nat) : Bool := text.getD i 0 == 10 || text.getD i 0 == 13
noncomputable def len2 (text : Array Nat) (i : Nat) : Nat := if text.getD i 0 = 13 ∧ i + 1 < text.size ∧ text.getD (i + 1) 0 = 10 then 2 else 1

theorem run2_at (text : Array Nat) (s : Nat) (seen : Sre.Seen) (hd : Nat) (o : Bool) (h : s < text.size) (hP : P2 text s = true) :
    ∃ n, n ≤ 20 ∧ Won (itr n (m2 text s seen [fs s o] 1 10 s hd o none)) s (s + len2 text s) := by
  by_cases h13 : text.getD s 0 = 13
  · by_cases h10 : s + 1 < text.size ∧ text.getD (s + 1) 0 = 10
    · refine ⟨8, by omega, ?_⟩
      rw [show len2 text s = 2 by unfold len2; rw [if_pos ⟨h13, h10.1, h10.2⟩]]
      iterate 8 rw [itr_succ]
      rw [itr_zero, st_branch, st_lit12, lit_yes text s s _ _ _ _ _ h h13, st_lit14, lit_yes text s (s + 1) _ _ _ _ _ h10.1 h10.2, st_jump16, st_ok, st_yes, st_won, st_fin]
      exact ⟨rfl, rfl, rfl⟩
    · have h10' : s + 1 ≥ text.size ∨ text.getD (s + 1) 0 ≠ 10 := by
        by_cases q : s + 1 < text.size
        · exact .inr fun e => h10 ⟨q, e⟩
        · exact .inl (by omega)
      refine ⟨16, by omega, ?_⟩
      rw [show len2 text s = 1 by unfold len2; rw [if_neg fun q => h10 q.2]]
      iterate 16 rw [itr_succ]
      rw [itr_zero, st_branch, st_lit12, lit_yes text s s _ _ _ _ _ h h13, st_lit14, lit_no text s (s + 1) _ _ _ _ _ h10', st_no11, st_lit19, lit_no text s s _ _ _ _ _ (.inr (by omega)), st_no18, st_lit24, lit_yes text s s _ _ _ _ _ h h13,
        st_look, st_lit29, lit_no text s (s + 1) _ _ _ _ _ h10', st_lookNo, st_jump32, st_ok, st_yes, st_won, st_fin]
      exact ⟨rfl, rfl, rfl⟩
  · have h10 : text.getD s 0 = 10 := by
      unfold P2 at hP
      rcases Bool.or_eq_true_iff.mp hP with q | q
      · simpa using q
      · exact absurd (by simpa using q) h13
    refine ⟨9, by omega, ?_⟩
    rw [show len2 text s = 1 by unfold len2; rw [if_neg fun q => h13 q.1]]
    iterate 9 rw [itr_succ]
    rw [itr_zero, st_branch, st_lit12, lit_no text s s _ _ _ _ _ (.inr (by omega)), st_no11, st_lit19, lit_yes text s s _ _ _ _ _ h h10, st_jump21, st_ok, st_yes, st_won, st_fin]
    exact ⟨rfl, rfl, rfl⟩

theorem inSet2 (c : Nat) (seen : Sre.Seen) : inSet c2 c 36 5 true seen = if (c == 10) = true then .ok (true, seen.add 16) else if (c == 13) = true then .ok (true, (seen.add 16).add 16) else .ok (false, ((seen.add 16).add 16).add 0) := by
  rfl
theorem admitted2 (m : M) (text : Array Nat) (hc : m.code = c2) (ht : m.text = text) (hl : m.lim = text.size) : ∀ (k fuel s : Nat) (seen : Sre.Seen), s + k = text.size → k < fuel →
    ∃ sn, M.admitted m fuel s seen = .ok (nx (P2 text) k s, sn)
  | 0, fuel + 1, s, seen, h, hf => by
    refine ⟨seen, ?_⟩
    show (if s ≥ m.lim then _ else _) = _
    rw [if_pos (by omega)]
    rfl
  | k + 1, fuel + 1, s, seen, h, hf => by
    have hs : ¬ s ≥ m.lim := by omega
    have e : M.admitted m (fuel + 1) s seen = match inSet m.code (m.text.getD s 0) m.code.size 5 true seen with
      | .ok (true, seen) => .ok (some s, seen)
      | .ok (false, seen) => M.admitted m fuel (s + 1) seen
      | .error why => .error why := by
      show (if s ≥ m.lim then _ else _) = _
      rw [if_neg hs]
      generalize inSet m.code (m.text.getD s 0) m.code.size 5 true seen = z
      rcases z with _ | ⟨b, sn⟩
      · rfl
      · cases b <;> rfl
    rw [e, hc, ht, show c2.size = 36 from rfl, inSet2]
    unfold nx P2
    by_cases h1 : (text.getD s 0 == 10) = true
    · rw [if_pos h1, h1]
      exact ⟨_, rfl⟩
    · by_cases h2 : (text.getD s 0 == 13) = true
      · rw [if_neg h1, if_pos h2, h2, Bool.or_true]
        exact ⟨_, rfl⟩
      · rw [if_neg h1, if_neg h2, show (text.getD s 0 == 10) = false by simpa using h1, show (text.getD s 0 == 13) = false by simpa using h2]
        exact admitted2 m text hc ht hl k fuel (s + 1) _ (by omega) (by omega)
theorem nx_at {P : Nat → Bool} : ∀ {k s i : Nat}, nx P k s = some i → P i = true ∧ s ≤ i ∧ i < s + k
  | k + 1, s, i, h => by
    unfold nx at h
    by_cases hp : P s = true
    · rw [if_pos hp] at h
      cases h
      exact ⟨hp, Nat.le_refl _, by omega⟩
    · rw [if_neg hp] at h
      obtain ⟨a, b, c⟩ := nx_at h
      exact ⟨a, by omega, by omega⟩
theorem search2 (text : Array Nat) (s : Nat) (hs : s ≤ text.size) : ∃ n, n ≤ 5 * text.size + 20 ∧
    match nx (P2 text) (text.size - s) s with
    | some i => Won (itr n (forSearch c2 text 0 s text.size false)) i (i + len2 text i)
    | none => (itr n (forSearch c2 text 0 s text.size false)).outcome = some .failed := by
  let m : M := { code := c2, text, lim := text.size, start := s, pc := 10, pos := s, handed := s, marks := #[], seen := ({} : Sre.Seen).add 14, lastStart := text.size }
  by_cases h : text.size - s < 1
  · refine ⟨1, by omega, ?_⟩
    have hz : text.size - s = 0 := by omega
    rw [hz]
    have e : forSearch c2 text 0 s text.size false = if (decide (s > text.size) || decide (text.size - s < 1)) = true then M.say { code := c2, text, lim := text.size, start := s, pc := 10, pos := s, handed := s, marks := #[], seen := ({} : Sre.Seen).add 14 } false else m.attemptFrom s true := by
      rfl
    rw [e, if_pos (by simp; omega)]
    rfl
  · have e : forSearch c2 text 0 s text.size false = if (decide (s > text.size) || decide (text.size - s < 1)) = true then M.say { code := c2, text, lim := text.size, start := s, pc := 10, pos := s, handed := s, marks := #[], seen := ({} : Sre.Seen).add 14 } false else m.attemptFrom s true := by
      rfl
    rw [e, if_neg (by simp; omega)]
    have e2 : m.attemptFrom s true = match M.admitted m (text.size + 1 - s) s m.seen with
      | .ok (some s, seen) => ({ m with mustAdvance := false, seen }).attemptAt s true
      | .ok (none, seen) => ({ m with seen }).say false
      | .error why => m.stick why := by rfl
    obtain ⟨sn, ha⟩ := admitted2 m text rfl rfl rfl (text.size - s) (text.size + 1 - s) s m.seen (by omega) (by omega)
    rw [e2, ha]
    cases hn : nx (P2 text) (text.size - s) s with
    | none => exact ⟨1, by omega, rfl⟩
    | some i =>
      obtain ⟨h1, h2, h3⟩ := nx_at hn
      obtain ⟨n, g1, g2⟩ := run2_at text i sn i true (by omega) h1
      exact ⟨n, by omega, g2⟩
end
section
set_option maxRecDepth 100000
open PySem.Sre PySem.Builtin.Re

section
variable {M : Model} {A : Around} {E : Value → Shared → Prop} {s : Shared}
theorem reDrive_succ (turns : Nat) (m : Sre.M) : reDrive (turns + 1) m = if (m.runFor reTurnSteps).outcome.isSome = true then pure (m.runFor reTurnSteps) else (do rule "sre.turn"; reDrive turns (m.runFor reTurnSteps)) := rfl
theorem wpAny_reDrive {Q : Sre.M → Shared → Prop} (j : Nat) : ∀ (turns : Nat) (m : Sre.M), (itr (4 * j) m).outcome.isSome = true → j ≤ turns → 1 ≤ turns → Q (itr (4 * j) m) s → wpAny M A (reDrive turns m) Q E s := by
  induction j with
  | zero =>
    intro turns m h _ h1 hq
    rw [Nat.mul_zero, itr_zero] at h hq
    obtain ⟨k, rfl⟩ : ∃ k, turns = k + 1 := ⟨turns - 1, by omega⟩
    have e : m.runFor reTurnSteps = m := by rw [runFor_itr, itr_stop h]
    rw [reDrive_succ, e, if_pos h]
    exact wpAny_pure hq
  | succ j ih =>
    intro turns m h hj h1 hq
    obtain ⟨k, rfl⟩ : ∃ k, turns = k + 1 := ⟨turns - 1, by omega⟩
    have e4 : itr (4 * (j + 1)) m = itr (4 * j) (m.runFor reTurnSteps) := by
      rw [runFor_itr, ← itr_add]
      congr 1
      rw [show reTurnSteps = 4 from rfl]
      omega
    rw [e4] at h hq
    rw [reDrive_succ]
    by_cases h' : (m.runFor reTurnSteps).outcome.isSome = true
    · rw [if_pos h']
      refine wpAny_pure ?_
      rw [itr_stop h'] at hq
      exact hq
    · rw [if_neg h']
      refine wpAny_bind (wpAny_rule ?_)
      by_cases hk : 1 ≤ k
      · exact ih k _ h (by omega) hk hq
      · have : j = 0 := by omega
        subst this
        exact absurd h h'
theorem wpAny_rules (f : Nat → Bool) (g : Nat → String) {Q : PUnit → Shared → Prop} : ∀ (l : List Nat), Q ⟨⟩ s → wpAny M A (forIn l PUnit.unit fun i _ => if f i = true then (do rule (g i); pure (ForInStep.yield PUnit.unit)) else pure (ForInStep.yield PUnit.unit)) Q E s
  | [], h => by rw [List.forIn_nil]; exact wpAny_pure h
  | i :: l, h => by
    rw [List.forIn_cons]
    by_cases c : f i = true
    · rw [if_pos c]
      refine wpAny_bind (wpAny_bind (wpAny_rule (wpAny_pure ?_)))
      exact wpAny_rules f g l h
    · rw [if_neg c]
      refine wpAny_bind (wpAny_pure ?_)
      exact wpAny_rules f g l h
theorem wpAny_reRun {Q : Option Sre.M → Shared → Prop} (m : Sre.M) (n : Nat) (hn : n ≤ 1000000) {r : Option (Nat × Nat)}
    (h : match r with | some p => Won (itr n m) p.1 p.2 | none => (itr n m).outcome = some .failed)
    (hq : match r with | some p => (∀ m', Won m' p.1 p.2 → Q (some m') s) | none => Q none s) : wpAny M A (reRunToEnd m) Q E s := by
  have some' : (itr n m).outcome.isSome = true := by
    cases r with
    | none => rw [h]; rfl
    | some p => rw [h.out]; rfl
  have big : itr (4 * n) m = itr n m := by
    rw [show 4 * n = n + 3 * n by omega, itr_add, itr_stop some']
  unfold reRunToEnd
  refine wpAny_bind (wpAny_reDrive n (2 ^ 64) m (by rw [big]; exact some') (by omega) (by omega) ?_)
  rw [big]
  refine wpAny_bind ?_
  refine wpAny_rules (fun i => (itr n m).seen.has i) (fun i => Sre.names.getD i "") _ ?_
  cases r with
  | none => rw [h]; exact wpAny_pure hq
  | some p => rw [h.out]; exact wpAny_pure (hq _ h)
end
end
section
set_option maxRecDepth 100000
open PySem.Sre PySem.Builtin.Re PySem.Builtin

structure PatAt (h : Heap) (P : Addr) (code : Array Nat) : Prop where
  at_ : ∃ pat fl t1 t2 t3 C vs k, h.get? P = some { cls := .type "re.Pattern", data := .fields #[pat, .int fl t1, .int 0 t2, .none, .none, .ref C, .int 0 t3] } ∧ h.get? C = some { cls := .type "tuple", data := .seq vs k } ∧ (vs.map reRawOf).map (·.toNat) = code
theorem PatAt.keeps {h h' : Heap} {P : Addr} {code : Array Nat} (p : PatAt h P code) (k : ∀ b o, h.get? b = some o → h'.get? b = some o) : PatAt h' P code := by
  obtain ⟨pat, fl, t1, t2, t3, C, vs, n, e1, e2, e3⟩ := p
  exact ⟨pat, fl, t1, t2, t3, C, vs, n, k _ _ e1, k _ _ e2, e3⟩

section
variable {M : Model} {A : Around} {E : Value → Shared → Prop} {s : Shared}
theorem wpAny_target {P : Addr} {code : Array Nat} {x : Str} {t : Tok} {Q : ReTarget → Shared → Prop} (p : PatAt s.heap P code)
    (h : Q { pattern := .ref P, string := .str x t, code, text := x.cps, kind := 0, groups := 0, pos := 0, lim := x.cps.size } s) : wpAny M A (reWholeTarget (.ref P) (.str x t)) Q E s := by
  obtain ⟨hh, g, d, tk, os⟩ := s
  obtain ⟨pat, fl, t1, t2, t3, C, vs, n, e1, e2, rfl⟩ := p
  unfold reWholeTarget
  refine wpAny_bind (wpAny_fieldsOf e1 rfl ?_)
  unfold reTextOf
  wp_walk
  exact h
theorem str_noCall : typeLookup (.type "str") "__call__" = pure none := by rw [typeLookup_type, builtinLookup_eq_fast]; kernel_rfl
theorem named_sub (a b : Value) : reNamed "re.Pattern.sub" "sub" ["repl", "string", "count"] 2 [a, b] [] = pure [some a, some b, none] := by kernel_rfl
theorem sub_start {P : Addr} {code : Array Nat} {x r : Str} {t u : Tok} {Q : Fin → Shared → Prop} (p : PatAt s.heap P code) (hr : r.cps.contains 92 = false)
    (h : ∀ h', (∀ b o, s.heap.get? b = some o → h'.get? b = some o) → h'.get? s.heap.objs.size = some (lstObj [] 0) →
      Q (.again (.builtin "re.Pattern.sub.loop" ⟨[.ref P, .str x t, .str r u, rawInt 0, rawInt 0, rawInt 0, rawInt 0, rawInt 0, .bool false, .ref s.heap.objs.size, .bool false], []⟩)) { s with heap := h' }) :
    wpAny M A («re.Pattern.sub» ⟨[.ref P, .str r u, .str x t], []⟩) Q E s := by
  unfold «re.Pattern.sub» reSubstitute
  have nc := str_noCall
  obtain ⟨hh, g, d, tk, os⟩ := s
  refine wpAny_bind (wpAny_of_eq (named_sub _ _) ?_)
  dsimp only
  refine wpAny_bind (wpAny_pure (wpAny_bind (wpAny_specialOf (typeIs_str _ _ _) str_noCall ?_)))
  simp only [Option.isSome_none, Bool.false_eq_true, if_false]
  have e1 : asStr? (.str r u) = pure (some r) := rfl
  refine wpAny_bind (wpAny_of_eq e1 ?_)
  dsimp only
  refine wpAny_bind (wpAny_pure ?_)
  rw [hr]
  simp only [Bool.not_false, if_true]
  refine wpAny_bind (wpAny_pure ?_)
  dsimp only
  refine wpAny_bind (wpAny_holding (wpAny_target p ?_))
  rw [if_neg (by decide)]
  refine wpAny_bind (wpAny_newObj_type ?_ ?_)
  · exact wpAny_pure (h _ (fun _ _ e => Heap.get?_push_of_some _ e) (Heap.get?_push_size _ rfl))
  · exact Nat.zero_le _

noncomputable def subGo (text : Array Nat) (P : Nat → Bool) (len : Nat → Nat) (r : Str) : Nat → Nat → List Str
  | 0, _ => []
  | f + 1, d => match nx P (text.size - d) d with
    | some i => (if d < i then [⟨text.extract d i⟩] else []) ++ [r] ++ subGo text P len r f (i + len i)
    | none => if d < text.size then [⟨text.extract d text.size⟩] else []
noncomputable def catS : List Str → Str
  | [] => Str.empty
  | x :: l => x ++ catS l
theorem str_nil_append (x : Str) : ("" : Str) ++ x = x := by
  have e : ("" : Str) = Str.empty := by kernel_rfl
  rw [e]
  show Str.append _ _ = _
  unfold Str.append
  cases x; simp [Str.empty]
theorem join_cat : ∀ l : List Str, Str.join "" l = catS l
  | [] => rfl
  | [x] => (PySem.Str.append_empty x).symm
  | x :: y :: l => by
    show x ++ ("" : Str) ++ Str.join "" (y :: l) = x ++ catS (y :: l)
    rw [join_cat (y :: l), Str.append_assoc, str_nil_append]
theorem push_lst {D : Addr} {vs : List Value} {k : Nat} {v : Value} {Q : Unit → Shared → Prop} (hD : s.heap.get? D = some (lstObj vs k)) (hsz : vs.length ≤ 10000)
    (h : ∀ h' k', (∀ b, b ≠ D → h'.get? b = s.heap.get? b) → h'.get? D = some (lstObj (vs ++ [v]) k') → Q () { s with heap := h' }) : wpAny M A (updateSeq D (·.push v)) Q E s := by
  refine wpAny_updateSeq hD rfl (h _ (k + 1) (fun b hb => Heap.get?_update_ne _ _ _ _ hb) ?_) (by rw [List.size_toArray, sizeLine_eq]; omega) (by simp [sizeLine_eq]; omega)
  rw [Heap.get?_update_self _ hD rfl]
  simp [Obj.mapSeq]
theorem catS_tok (l : List (Str × Tok)) {Q : Value → Shared → Prop} (hsz : (catS (l.map (·.1))).length ≤ 16000000) (h : ∀ t k, Q (.str (catS (l.map (·.1))) t) { s with toks := k }) : (joinMade "" l).post Q s := by
  have g : ∀ l : List (Str × Tok), Builtin.Str.glued "" (l.map (·.1)) = catS (l.map (·.1)) := fun l => by rw [StrLaws.glued_eq_join, join_cat]
  match l, hsz, h with
  | [], hsz, h => exact ⟨by decide, h _ _⟩
  | [p], hsz, h =>
    show Q (.str p.1 p.2) s
    have := h p.2 s.toks
    rw [show catS ([p].map (·.1)) = p.1 from PySem.Str.append_empty _] at this
    exact this
  | p :: q :: l, hsz, h =>
    refine ⟨?_, ?_⟩
    · rw [g, sizeLine_eq]; omega
    · rw [g]; exact h _ _

theorem subGo_none {text : Array Nat} {P : Nat → Bool} {len : Nat → Nat} {r : Str} {f d : Nat} (h : nx P (text.size - d) d = none) : subGo text P len r (f + 1) d = if d < text.size then [⟨text.extract d text.size⟩] else [] := by
  show (match nx P (text.size - d) d with | some i => _ | none => _) = _
  rw [h]
theorem subGo_some {text : Array Nat} {P : Nat → Bool} {len : Nat → Nat} {r : Str} {f d i : Nat} (h : nx P (text.size - d) d = some i) : subGo text P len r (f + 1) d = (if d < i then [⟨text.extract d i⟩] else []) ++ [r] ++ subGo text P len r f (i + len i) := by
  show (match nx P (text.size - d) d with | some i => _ | none => _) = _
  rw [h]
theorem catS_app (a b : List Str) : catS (a ++ b) = catS a ++ catS b := by
  induction a with
  | nil =>
    show catS b = Str.empty ++ catS b
    show _ = Str.append _ _
    unfold Str.append
    cases catS b; simp [Str.empty]
  | cons x a ih =>
    show x ++ catS (a ++ b) = x ++ catS a ++ catS b
    rw [ih, Str.append_assoc]
theorem len_foldl (l : List Str) : ∀ a : Nat, (l.toArray).foldl (fun x y => x + y.length + Str.length "") a = a + (catS l).length := by
  have e : Str.length "" = 0 := by kernel_rfl
  intro a
  rw [List.foldl_toArray, e]
  induction l generalizing a with
  | nil => rfl
  | cons x l ih =>
    rw [List.foldl_cons, ih]
    show _ = a + (x ++ catS l).length
    rw [PySem.strLen_append]; omega
theorem sub_loop {prog : Program} {w : World} {P : Addr} {code : Array Nat} {x r : Str} {t u : Tok} {D : Addr} {R : Result → Shared → Prop} (hx : x.length ≤ 200) (hr : r.length ≤ 10) (Pf : Nat → Bool) (len : Nat → Nat)
    (hsearch : ∀ d, d ≤ x.length → ∃ n, n ≤ 1000000 ∧ match nx Pf (x.length - d) d with
      | some i => Won (itr n (forSearch code x.cps 0 d x.length false)) i (i + len i)
      | none => (itr n (forSearch code x.cps 0 d x.length false)).outcome = some .failed)
    (hpos : ∀ i, Pf i = true → i < x.length → 0 < len i ∧ i + len i ≤ x.length) : ∀ (f d n : Nat) (s : Shared) (ps : List (Str × Tok)) (k : Nat) (a1 a2 a3 a4 a5 : Tok), d ≤ x.length → x.length - d < f →
    PatAt s.heap P code → s.heap.get? D = some (lstObj (strValues ps) k) → (∀ o, s.heap.get? P = some o → P ≠ D) → ps.length + 2 * (x.length - d) ≤ 1000 → (catS (ps.map (·.1))).length + 11 * (x.length - d) ≤ 10000 →
    (∀ h' tk t', (∀ b o, b ≠ D → s.heap.get? b = some o → h'.get? b = some o) → R (.ok (.ret (.str (catS (ps.map (·.1) ++ subGo x.cps Pf len r f d)) t'))) { s with heap := h', toks := tk }) →
    codeAny (model prog w) A (.builtin "re.Pattern.sub.loop" ⟨[.ref P, .str x t, .str r u, .int 0 a1, .int 0 a2, .int (n : Int) a3, .int (d : Int) a4, .int (d : Int) a5, .bool false, .ref D, .bool false], []⟩) R s := by
  intro f
  induction f with
  | zero => intros; omega
  | succ f ih =>
  intro d n s ps k a1 a2 a3 a4 a5 hd hf p hD hPD hps hcat hR
  refine codeAny_builtin entry_subLoop ?_
  unfold «re.Pattern.sub.loop»
  dsimp only
  refine wpAny_bind (wpAny_target p ?_)
  rw [if_pos (show ((0 : Int) == 0) = true from rfl)]
  unfold reLiteralCannotBeTurned
  refine wpAny_bind (wpAny_bind (wpAny_of_eq (show asStr? (.str r u) = pure (some r) from rfl) ?_))
  rw [if_neg (show ¬ (some r).isNone = true from fun e => nomatch e)]
  refine wpAny_pure ?_
  refine wpAny_bind ?_
  rw [if_neg (show ¬ ((0 : Int) != 0 && decide ((n : Int) ≥ 0)) = true from by simp)]
  unfold reNextFound
  obtain ⟨nn, hn, hs⟩ := hsearch d hd
  rw [show ((d : Int)).toNat = d from rfl]
  have hlenps : (strValues ps).length ≤ 1000 := by simp [strValues]; omega
  cases hf' : nx Pf (x.length - d) d with
  | none =>
    rw [hf'] at hs
    rw [subGo_none hf'] at hR
    refine wpAny_reRun (r := none) _ nn hn hs ?_
    dsimp only
    have fin : ∀ (s1 : Shared) (h1 : Heap) (k1 : Nat) (qs : List (Str × Tok)) (t1 : Tok), s1 = { s with heap := h1, toks := t1 } → (∀ b o, b ≠ D → s.heap.get? b = some o → h1.get? b = some o) → h1.get? D = some (lstObj (strValues qs) k1) →
        qs.map (·.1) = ps.map (·.1) ++ (if d < x.cps.size then [⟨x.cps.extract d x.cps.size⟩] else []) → (catS (qs.map (·.1))).length ≤ 20000 → qs.length ≤ 2000 → wpAny (model prog w) (A.under (.builtin "re.Pattern.sub.loop" ⟨[.ref P, .str x t, .str r u, .int 0 a1, .int 0 a2, .int (n : Int) a3, .int (d : Int) a4, .int (d : Int) a5, .bool false, .ref D, .bool false], []⟩))
          (do
            let joiner ← reSlice x.cps 0 0 0
            let z ← seqItems? (.ref D)
            if (z.getD #[]).isEmpty = true then do
                let text ← pure joiner
                if false = true then do
                    let q ← holding [text] do
                        let i ← mkInt n
                        newTuple [text, i]
                    ret q
                  else ret text
              else do
                let text ← call (Value.builtin (if ((0 : Nat) == 0) = true then "str.join" else "bytes.join")) [joiner, .ref D]
                if false = true then do
                    let q ← holding [text] do
                        let i ← mkInt n
                        newTuple [text, i]
                    ret q
                  else ret text)
          (fun fin s' => match fin with | .done f => R (.ok f) s' | .again c' => c'.quiet = true ∧ codeAny (model prog w) A c' R s') (fun e s' => R (.error e) s') s1 := by
      rintro s1 h1 k1 qs t1 rfl hk1 hD1 hqs hlen hql
      have ej : (⟨x.cps.extract 0 0⟩ : Str) = "" := by
        have e : ("" : Str) = Str.empty := by kernel_rfl
        rw [e]
        simp [Str.empty]
      refine wpAny_bind ?_
      unfold reSlice
      rw [if_pos (show ((0 : Nat) == 0) = true from rfl), ej]
      refine wpAny_mkStr ?_ (by decide)
      refine wpAny_bind (wpAny_seqItems hD1 rfl ?_)
      rw [← hqs] at hR
      cases qs with
      | nil =>
        rw [if_pos (show ((some (strValues []).toArray).getD #[]).isEmpty = true from rfl)]
        refine wpAny_bind (wpAny_pure ?_)
        rw [if_neg Bool.false_ne_true]
        exact wpAny_pure (hR h1 _ _ hk1)
      | cons q qs =>
        rw [if_neg (show ¬ ((some (strValues (q :: qs)).toArray).getD #[]).isEmpty = true from by simp [strValues]), if_pos (show ((0 : Nat) == 0) = true from rfl)]
        refine wpAny_bind (call_meets PySem.F.slot_str_join (typeIs_str _ _ _) PySem.F.entry_str_join (PySem.F.args_str_join_2 _ _) (meets_str_join_list "" _ D (q :: qs) ?_) ⟨⟨_, hD1, rfl, _, rfl⟩, ?_⟩)
        · rw [len_foldl]
          unfold Builtin.Str.tooLong
          rw [sizeLine_eq]
          simp only [decide_eq_false_iff_not]
          omega
        · refine catS_tok (q :: qs) (by omega) fun t' k' => ?_
          show wpAny _ _ (if false = true then _ else ret _) _ _ _
          rw [if_neg Bool.false_ne_true]
          exact wpAny_pure (hR h1 _ _ hk1)
    by_cases hdx : d < x.cps.size
    · rw [if_pos hdx]
      refine wpAny_bind ?_
      unfold reSlice
      rw [if_pos (show ((0 : Nat) == 0) = true from rfl)]
      have hxs : x.cps.size ≤ 200 := hx
      have exl : Str.length ⟨x.cps.extract d x.cps.size⟩ ≤ x.length - d := by
        show (x.cps.extract d x.cps.size).size ≤ x.cps.size - d
        rw [Array.size_extract]; omega
      refine wpAny_mkStr ?_ (Nat.le_trans exl (by rw [sizeLine_eq]; omega))
      refine wpAny_bind (push_lst hD (by omega) fun h1 k1 hk1 hD1 => ?_)
      refine fin _ h1 k1 (ps ++ [(⟨x.cps.extract d x.cps.size⟩, s.toks)]) _ rfl (fun b o hb e => by rw [hk1 b hb]; exact e) (by rw [hD1]; simp [strValues]) (by rw [if_pos hdx]; simp) ?_ (by simp; omega)
      rw [List.map_append, catS_app, PySem.strLen_append]
      rw [show catS (List.map (fun x => x.fst) [((⟨x.cps.extract d x.cps.size⟩ : Str), s.toks)]) = ⟨x.cps.extract d x.cps.size⟩ from PySem.Str.append_empty _]
      omega
    · rw [if_neg hdx]
      exact fin _ s.heap k ps s.toks rfl (fun _ _ _ e => e) hD (by rw [if_neg hdx, List.append_nil]) (by omega) (by omega)
  | some i =>
    rw [hf'] at hs
    refine wpAny_reRun (r := some (i, i + len i)) _ nn hn hs ?_
    intro m' hw
    dsimp only
    obtain ⟨hP, hdi, hix⟩ := nx_at hf'
    have hix : i < x.length := by omega
    obtain ⟨hl1, hl2⟩ := hpos i hP hix
    rw [hw.start, hw.handed]
    rw [subGo_some hf'] at hR
    have last : ∀ (s1 : Shared) (h1 : Heap) (k1 : Nat) (qs : List (Str × Tok)) (t1 : Tok), s1 = { s with heap := h1, toks := t1 } → (∀ b o, b ≠ D → s.heap.get? b = some o → h1.get? b = some o) → h1.get? D = some (lstObj (strValues qs) k1) →
        qs.map (·.1) = ps.map (·.1) ++ (if d < i then [⟨x.cps.extract d i⟩] else []) → (catS (qs.map (·.1))).length ≤ (catS (ps.map (·.1))).length + (i - d) → qs.length ≤ ps.length + 1 →
        wpAny (model prog w) (A.under (.builtin "re.Pattern.sub.loop" ⟨[.ref P, .str x t, .str r u, .int 0 a1, .int 0 a2, .int (n : Int) a3, .int (d : Int) a4, .int (d : Int) a5, .bool false, .ref D, .bool false], []⟩))
          (do
            updateSeq D (·.push (.str r u))
            PySem.again (.builtin "re.Pattern.sub.loop" ⟨[.ref P, .str x t, .str r u, rawInt 0, rawInt 0, rawInt ((n : Int) + 1), rawInt ((i + len i : Nat) : Int), rawInt ((i + len i : Nat) : Int), .bool (i + len i == i), .ref D, .bool false], []⟩))
          (fun fin s' => match fin with | .done f => R (.ok f) s' | .again c' => c'.quiet = true ∧ codeAny (model prog w) A c' R s') (fun e s' => R (.error e) s') s1 := by
      rintro s1 h1 k1 qs t1 rfl hk1 hD1 hqs hlen hql
      refine wpAny_bind (push_lst hD1 (by simp [strValues]; omega) fun h2 k2 hk2 hD2 => ?_)
      refine wpAny_pure ⟨Code.quiet_builtin _ (by decide +kernel), ?_⟩
      rw [show (i + len i == i) = false by simp; omega]
      have p2 : PatAt h2 P code := by
        obtain ⟨pat, fl, t1, t2, t3, C, vs, n, e1, e2, e3⟩ := p
        have hC : C ≠ D := by
          rintro rfl
          rw [hD] at e2
          simp at e2
        exact ⟨pat, fl, t1, t2, t3, C, vs, n, by rw [hk2 _ (hPD _ e1)]; exact hk1 _ _ (hPD _ e1) e1, by rw [hk2 _ hC]; exact hk1 _ _ hC e2, e3⟩
      have ecat : (catS ((qs ++ [(r, u)]).map (·.1))).length = (catS (qs.map (·.1))).length + r.length := by
        rw [List.map_append, catS_app, PySem.strLen_append]
        rw [show catS (List.map (fun x => x.fst) [(r, u)]) = r from PySem.Str.append_empty _]
      refine ih (i + len i) (n + 1) _ (qs ++ [(r, u)]) k2 0 0 0 0 0 hl2 (by omega) p2 (by rw [hD2]; simp [strValues]) (fun o _ => ?_) (by simp; omega) (by rw [ecat]; omega) fun h' tk t' hk' => ?_
      · obtain ⟨pat, fl, t1, t2, t3, C, vs, n, e1, e2, e3⟩ := p
        exact hPD _ e1
      · have := hR h' tk t' (fun b o hb e => hk' b o hb (by rw [hk2 b hb]; exact hk1 b o hb e))
        rw [List.map_append, hqs, List.append_assoc]
        rw [List.append_assoc] at this
        simpa using this
    rw [if_pos (show ((0 : Int) == 0) = true from rfl)]
    by_cases hdi' : d < i
    · rw [if_pos hdi']
      refine wpAny_bind ?_
      unfold reSlice
      rw [if_pos (show ((0 : Nat) == 0) = true from rfl)]
      have hxs : x.cps.size ≤ 200 := hx
      have exl : Str.length ⟨x.cps.extract d i⟩ ≤ i - d := by
        show (x.cps.extract d i).size ≤ i - d
        rw [Array.size_extract]; omega
      refine wpAny_mkStr ?_ (Nat.le_trans exl (by rw [sizeLine_eq]; omega))
      refine wpAny_bind (push_lst hD (by omega) fun h1 k1 hk1 hD1 => ?_)
      refine wpAny_bind (wpAny_pure ?_)
      rw [if_pos (show (Value.str r u != Value.none) = true from rfl)]
      refine last _ h1 k1 (ps ++ [(⟨x.cps.extract d i⟩, s.toks)]) _ rfl (fun b o hb e => by rw [hk1 b hb]; exact e) (by rw [hD1]; simp [strValues]) (by rw [if_pos hdi']; simp) ?_ (by simp)
      rw [List.map_append, catS_app, PySem.strLen_append]
      rw [show catS (List.map (fun x => x.fst) [((⟨x.cps.extract d i⟩ : Str), s.toks)]) = ⟨x.cps.extract d i⟩ from PySem.Str.append_empty _]
      omega
    · rw [if_neg hdi']
      refine wpAny_bind (wpAny_pure ?_)
      rw [if_pos (show (Value.str r u != Value.none) = true from rfl)]
      exact last _ s.heap k ps s.toks rfl (fun _ _ _ e => e) hD (by rw [if_neg hdi', List.append_nil]) (by omega) (by omega)
end
end
section
set_option maxRecDepth 100000
set_option maxHeartbeats 4000000
open PySem.Sre PySem.Builtin.Re PySem.Builtin

noncomputable def subF (P : Array Nat → Nat → Bool) (len : Array Nat → Nat → Nat) (r x : Str) : Str := catS (subGo x.cps (P x.cps) (len x.cps) r (x.length + 1) 0)
structure PatOk (code : Array Nat) (P : Array Nat → Nat → Bool) (len : Array Nat → Nat → Nat) : Prop where
  search : ∀ (x : Array Nat) (d : Nat), x.size ≤ 200 → d ≤ x.size → ∃ n, n ≤ 1000000 ∧ match nx (P x) (x.size - d) d with
      | some i => Won (itr n (forSearch code x 0 d x.size false)) i (i + len x i)
      | none => (itr n (forSearch code x 0 d x.size false)).outcome = some .failed
  pos : ∀ (x : Array Nat) (i : Nat), P x i = true → i < x.size → 0 < len x i ∧ i + len x i ≤ x.size
theorem ok1 : PatOk c1 P1 (fun _ _ => 1) where
  search x d hx hd := by
    obtain ⟨n, h1, h2⟩ := search1 x d hd
    exact ⟨n, by omega, h2⟩
  pos x i _ h := ⟨by omega, by omega⟩
theorem ok2 : PatOk c2 P2 len2 where
  search x d hx hd := by
    obtain ⟨n, h1, h2⟩ := search2 x d hd
    exact ⟨n, by omega, h2⟩
  pos x i _ h := by
    have : len2 x i = 1 ∨ (len2 x i = 2 ∧ i + 1 < x.size) := by
      by_cases q : x.getD i 0 = 13 ∧ i + 1 < x.size ∧ x.getD (i + 1) 0 = 10
      · exact .inr ⟨by unfold len2; rw [if_pos q], q.2.1⟩
      · exact .inl (by unfold len2; rw [if_neg q])
    omega

section
variable {prog : Program} {w : World} {h₀ : Heap} {mg mb : Str → Option Value} {n : Nat} {env : Env} {X : Addr → Prop} {Γ : List (Str × VK)}
theorem sub_call {P : Addr} {code : Array Nat} {Pf : Array Nat → Nat → Bool} {len : Array Nat → Nat → Nat} {x r : Str} (hP : PatAt h₀ P code) (ok : PatOk code Pf len) (hx : x.length ≤ 200) (hr : r.length ≤ 10) (h92 : r.cps.contains 92 = false)
    {A : Around} {s : Shared} (C : XOk h₀ X s.heap) {pos : Pos} {a : Sem Value} {args : List (Bool × Sem Value)} (hplain : args.any (·.1) = false)
    (ha : wpAny (model prog w) A (spliced ((false, a) :: args)) (fun vs s' => Keeps s s' ∧ RdL s'.heap X vs [.str r, .str x]) NoE s) :
    wpAny (model prog w) A (callWith pos (.builtin "re.Pattern.sub") [.ref P] ((false, a) :: args) []) (fun v s' => Keeps s s' ∧ Rd s'.heap X v (.str (subF Pf len r x))) NoE s := by
  refine method_meetsIn slot_sub entry_sub (by simpa using hplain) (Calls.evalArgs_plain (wpAny_mono ha (fun vs s₁ h₁ => ?_) fun _ _ e => e))
  obtain ⟨k₁, rs⟩ := h₁
  cases rs with
  | cons r1 rs =>
    cases rs with
    | cons r2 rs =>
      cases rs
      obtain ⟨u, rfl⟩ := r1.isStr
      obtain ⟨t, rfl⟩ := r2.isStr
      have p1 : PatAt s₁.heap P code := hP.keeps fun b o e => keeps_heap k₁ (C.gd b o e)
      have hty : s₁.TypeIs (.ref P) "re.Pattern" := by
        obtain ⟨pat, fl, t1, t2, t3, C, vs, n, e1, e2, e3⟩ := p1
        exact ⟨_, e1, rfl⟩
      refine ⟨rfl, hty, args_sub _ _ _, fun A R s => PatAt s.heap P code ∧ ∀ h' tk t', (∀ b o, s.heap.get? b = some o → h'.get? b = some o) → R (.ok (.ret (.str (subF Pf len r x) t'))) { s with heap := h', toks := tk }, ?_, p1, fun h' tk t' hk => ?_⟩
      · rintro A R s ⟨p, hR⟩
        refine sub_start p h92 fun h1 hk1 hD => ?_
        refine ⟨Code.quiet_builtin _ (by decide +kernel), ?_⟩
        have p1 : PatAt h1 P code := p.keeps hk1
        refine sub_loop (w := w) (prog := prog) hx hr (Pf x.cps) (len x.cps) (fun d hd => ok.search x.cps d hx hd) (fun i hi hl => ok.pos x.cps i hi hl) (x.length + 1) 0 0 _ [] 0 0 0 0 0 0 (Nat.zero_le _) (by omega) p1 hD (fun o _ => ?_) (by simp; omega) (by show 0 + _ ≤ _; omega) fun h' tk t' hk' => ?_
        · obtain ⟨pat, fl, t1, t2, t3, C, vs, n, e1, e2, e3⟩ := p
          exact Nat.ne_of_lt (Heap.lt_size e1)
        · exact hR h' tk t' fun b o e => hk' b o (Nat.ne_of_lt (Heap.lt_size e)) (hk1 b o e)
      · exact ⟨keeps_trans k₁ ⟨h', tk, rfl, hk⟩, .str _ _⟩
theorem Ex_sub {gx : Str} {gp apos pos : Pos} {e1 e2 : Expr} {P : Addr} {code : Array Nat} {Pf : Array Nat → Nat → Bool} {len : Array Nat → Nat → Nat} {x r : Str} (G : Glb h₀ mg mb) (hg : mg gx = some (.ref P)) (hP : PatAt h₀ P code) (ok : PatOk code Pf len) (hx : x.length ≤ 200) (hr : r.length ≤ 10) (h92 : r.cps.contains 92 = false)
    (hf : env.kindOf gx = some .globalImplicit) (hd : (gx == ("__debug__" : Str)) = false) (has : ExL prog w h₀ n env X Γ pos [e1, e2] [.str r, .str x])
    (hbase : attributeBase (.Name gx gp) "sub" env (eval (.Name gx gp) env) = eval (.Name gx gp) env := by kernel_rfl!)
    (hfew : ((backTo pos (starEach [e1, e2] env)).all (fun x => !x.1) && (backToKw pos (keywordEach [] env)).all (fun x => x.1.isSome)
      && decide (([e1, e2] : List Expr).length + ([] : List Keyword).length + (if ([] : List Keyword).isEmpty then 0 else 1) < 30)) = true := by kernel_rfl!)
    (hline : (apos.endLine == pos.line) = true := by kernel_rfl!) (hst : starEach [e1, e2] env = (false, eval e1 env) :: starEach [e2] env := by kernel_rfl!) (hpl : (backTo pos (starEach [e2] env)).any (·.1) = false := by kernel_rfl!) :
    Ex prog w h₀ n env X Γ (.Call (.Attribute (.Name gx gp) "sub" apos) [e1, e2] [] pos) (.str (subF Pf len r x)) := by
  intro A s R C
  refine wpAny_Call_method_lateS hbase hfew hline (Ex_glob G C hf hg ?_ hd)
  have p1 : PatAt s.heap P code := hP.keeps C.gd
  refine ⟨"re.Pattern", "re.Pattern.sub", plain_rePattern, slot_sub, type_sub, ?_, ?_, ?_⟩
  · obtain ⟨pat, fl, t1, t2, t3, C, vs, n, e1, e2, e3⟩ := p1
    exact ⟨_, e1, rfl⟩
  · rintro a ha
    cases ha
    obtain ⟨pat, fl, t1, t2, t3, C, vs, n, e1, e2, e3⟩ := p1
    exact ⟨_, e1, rfl⟩
  · have hh := has A s R C
    rw [hst] at hh ⊢
    exact sub_call hP ok hx hr h92 C.x hpl hh
end
end
section
set_option maxRecDepth 100000
set_option maxHeartbeats 4000000

noncomputable def crlf : Str := "\r\n"
noncomputable def quoteF (x : Str) : Str := subF P1 (fun _ _ => 1) ".." (subF P2 len2 "\r\n" x)
structure Pats (h₀ : Heap) (mg : Str → Option Value) : Prop where
  p1 : ∃ P, mg "_twin_re_1" = some (.ref P) ∧ PatAt h₀ P c1
  p2 : ∃ P, mg "_twin_re_2" = some (.ref P) ∧ PatAt h₀ P c2
  cr : ∃ t, mg "CRLF" = some (.str "\r\n" t)
section
variable {prog : Program} {w : World} {h₀ : Heap} {mg mb : Str → Option Value}

theorem quote_body (G : Glb h₀ mg mb) (N : Pats h₀ mg) (a : Addr) (x : Str) (hx : x.length ≤ 200) (hy : (subF P2 len2 "\r\n" x).length ≤ 200) :
    Body prog w h₀ 20 "quotedata" (fnA 6) (fnB 6) (fnS 6) a [("data", .pv (.str x))] (.str (quoteF x)) := by
  intro A s₀ L code X B hB s₁ R S
  unfold quoteF
  obtain ⟨P, hP, pa⟩ := N.p1
  obtain ⟨P', hP', pa'⟩ := N.p2
  obtain ⟨tc, hc⟩ := N.cr
  conv in execs (fnB 6) _ => arg 1; whnf
  with_reducible refine' St_ret S R ?e1 fun v s' S' r => S'.ret0 r
  with_reducible refine' Ex_sub G hP pa ok1 hy ?r1 ?r2 ?f1 ?d1 ?l1
  case r1 => decide +kernel
  case r2 => decide +kernel
  case f1 => kernel_rfl!
  case d1 => kernel_rfl!
  with_reducible refine' ExL_cons ?a2 ?b2 ?c2
  case c2 => kernel_rfl!
  case a2 => walk_at "ex"
  with_reducible refine' ExL_cons ?a3 ExL_nil ?c3
  case c3 => kernel_rfl!
  with_reducible refine' Ex_sub G hP' pa' ok2 hx ?r4 ?r5 ?f4 ?d4 ?l4
  case r4 => decide +kernel
  case r5 => decide +kernel
  case f4 => kernel_rfl!
  case d4 => kernel_rfl!
  with_reducible refine' ExL_cons ?a5 ?b5 ?c5
  case c5 => kernel_rfl!
  case a5 =>
    intro A s R C
    refine Ex_glob G C (by kernel_rfl!) hc ⟨keeps_refl s, .str _ _⟩ (by kernel_rfl!)
  walk_at "exl"
theorem quote_fn (G : Glb h₀ mg mb) (N : Pats h₀ mg) (a : Addr) (D : DefAt h₀ mg "quotedata" (fnA 6) (fnB 6) (fnS 6) a) (x : Str) (hx : x.length ≤ 200) (hy : (subF P2 len2 "\r\n" x).length ≤ 200) :
    Fn prog w h₀ 21 (.ref a) [.str x] (.str (quoteF x)) := by
  with_reducible refine' Fn_of ["data"] G D ?hz ?hl (quote_body G N a x hx hy) ?hb ?hn ?hk ?h1 ?h2 ?h3
  case hz => rfl
  case hl => rfl
  case hn => decide
  case hb =>
    intro pm code doc vs hv
    obtain ⟨x, rfl⟩ := vlen1 hv
    kernel_rfl!
  all_goals kernel_rfl!
end
end
section
set_option maxRecDepth 100000

theorem lk_list_push : typeLookup (.type "list") "push" = pure none := by rw [typeLookup_type, builtinLookup_eq_fast]; kernel_rfl
theorem lk_list_popfrom : typeLookup (.type "list") "pop_from" = pure none := by rw [typeLookup_type, builtinLookup_eq_fast]; kernel_rfl
theorem lk_list_count : typeLookup (.type "list") "part_count" = pure none := by rw [typeLookup_type, builtinLookup_eq_fast]; kernel_rfl

structure Cls (h : Heap) (C N : Addr) (mN : Str → Option Value) : Prop where
  obj : ∃ nm q bs sn sub ab col dd k0 k1 k2 k3 k5, h.get? C = some (excClassObj nm q C N bs [.type "list", .type "object"] true sn sub ab col dd k0 k1 k2 k3 k5 "list.__new__")
  ns : h.Ns N mN
  ga : mN "__getattribute__" = none
  gh : mN "__getattr__" = none
theorem Cls.keeps {h h' : Heap} {C N : Addr} {mN : Str → Option Value} (c : Cls h C N mN) (k : ∀ b o, h.get? b = some o → h'.get? b = some o) : Cls h' C N mN := by
  obtain ⟨⟨nm, q, bs, sn, sub, ab, col, dd, k0, k1, k2, k3, k5, e⟩, n, g, gh⟩ := c
  exact ⟨⟨nm, q, bs, sn, sub, ab, col, dd, k0, k1, k2, k3, k5, k _ _ e⟩, n.keeps k, g, gh⟩

section
variable {prog : Program} {w : World} {A : Around} {E : Value → Shared → Prop} {h : Heap} {g : Array GenState} {d : Drawn} {t : Nat} {os : OsState}
variable {C N x : Addr} {mN mA : Str → Option Value} {name : Str} {v : Value}

set_option maxHeartbeats 1000000 in
theorem acc_method {pl : Sem Bool} {f : Addr} {of : Obj} {Q : Value × List Value → Shared → Prop} (c : Cls h C N mN)
    (hf : mN name = some (.ref f)) (hfo : h.get? f = some of) (hfc : of.cls = .type "function") {y : Option Value} (hB : typeLookup (.type "list") name = pure y)
    (I : h.Inst x C mA) (hsh : mA name = none) (hq : Q (.ref f, [.ref x]) ⟨h, g, d, t, os⟩) :
    wpAny (model prog w) A (getMethod (.ref x) name pl) Q E ⟨h, g, d, t, os⟩ := by
  obtain ⟨⟨nm, q, bs, sn, sub, ab, col, dd, k0, k1, k2, k3, k5, hC⟩, hn, hng, hnh⟩ := c
  obtain ⟨o, hx, hc, hnc, hd⟩ := I
  have hB' := fun (_ : Unit) => hB
  clear hB
  unfold getMethod specialOf
  repeat (first | (with_reducible refine wpAny_loadPart_at hx ?_; rw [hc]) | (with_reducible refine wpAny_typeLookup_exc hC hn PySem.F.mro_list PySem.list_getattribute ?_; rw [hng]) | (with_reducible refine wpAny_typeLookup_exc hC hn PySem.F.mro_list PySem.list_getattr_none ?_; rw [hnh]) | (with_reducible refine wpAny_typeLookup_exc hC hn PySem.F.mro_list (hB' ()) ?_; rw [hf]) | (with_reducible refine wpAny_typeOf (T := "function") ⟨_, hfo, hfc⟩ ?_) | simp only [PySem.canon_list_getattribute, Bool.false_eq_true, if_false] | wp_step)
  rcases hd with ⟨hdn, _⟩ | ⟨dx, hdx, _, hns⟩
  · rw [hdn]
    repeat wp_step
    exact hq
  · rw [hdx]
    repeat (first | (with_reducible refine wpAny_nsGet hns.ns ?_; rw [hsh]) | wp_step)
    exact hq
set_option maxHeartbeats 1000000 in
theorem acc_builtin {pl : Sem Bool} {id : String} {Q : Value × List Value → Shared → Prop} (c : Cls h C N mN)
    (hf : mN name = none) (slot : Slot "list" name id) (hty : typeOf (.builtin id) = pure (.type "method_descriptor"))
    (I : h.Inst x C mA) (hsh : mA name = none) (hq : Q (.builtin id, [.ref x]) ⟨h, g, d, t, os⟩) :
    wpAny (model prog w) A (getMethod (.ref x) name pl) Q E ⟨h, g, d, t, os⟩ := by
  obtain ⟨⟨nm, q, bs, sn, sub, ab, col, dd, k0, k1, k2, k3, k5, hC⟩, hn, hng, hnh⟩ := c
  obtain ⟨o, hx, hc, hnc, hd⟩ := I
  have hB' := fun (_ : Unit) => slot.lookup
  have hty' := fun (_ : Unit) => hty
  clear hty slot
  unfold getMethod specialOf
  repeat (first | (with_reducible refine wpAny_loadPart_at hx ?_; rw [hc]) | (with_reducible refine wpAny_typeLookup_exc hC hn PySem.F.mro_list PySem.list_getattribute ?_; rw [hng]) | (with_reducible refine wpAny_typeLookup_exc hC hn PySem.F.mro_list PySem.list_getattr_none ?_; rw [hnh]) | (with_reducible refine wpAny_typeLookup_exc hC hn PySem.F.mro_list (hB' ()) ?_; rw [hf]) | (with_reducible refine wpAny_of_eq (hty' ()) ?_) | simp only [PySem.canon_list_getattribute, Bool.false_eq_true, if_false] | wp_step)
  rcases hd with ⟨hdn, _⟩ | ⟨dx, hdx, _, hns⟩
  · rw [hdn]
    repeat wp_step
    exact hq
  · rw [hdx]
    repeat (first | (with_reducible refine wpAny_nsGet hns.ns ?_; rw [hsh]) | wp_step)
    exact hq
end
end
section
set_option maxRecDepth 100000

noncomputable abbrev accObj (C d : Addr) (vs : List Value) (k : Nat) : Obj := { cls := .ref C, dict := some d, data := .seq vs.toArray k }
section
variable {prog : Program} {w : World} {A : Around} {E : Value → Shared → Prop} {h : Heap} {g : Array GenState} {d : Drawn} {t : Nat} {os : OsState}
variable {C N x dx : Addr} {mN mA : Str → Option Value} {name : Str} {v : Value} {vs : List Value} {k : Nat}

theorem upd_acc {M : Model} {f : Array Value → Array Value} {ws : List Value} {Q : Unit → Shared → Prop} (hx : h.get? x = some (accObj C dx vs k)) (hsz : vs.length ≤ 10000) (hf : f vs.toArray = ws.toArray) (hsz' : ws.length ≤ 10001)
    (hq : ∀ h' k', (∀ b, b ≠ x → h'.get? b = h.get? b) → h'.get? x = some (accObj C dx ws k') → Q () ⟨h', g, d, t, os⟩) : wpAny M A (updateSeq x f) Q E ⟨h, g, d, t, os⟩ := by
  refine wpAny_updateSeq hx rfl ?_ (by rw [List.size_toArray, sizeLine_eq]; omega) (by rw [hf, List.size_toArray, sizeLine_eq]; omega)
  refine hq _ (if ws.toArray.size == vs.toArray.size then k else k + 1) (fun b hb => Heap.get?_update_ne _ _ _ _ hb) ?_
  rw [Heap.get?_update_self _ hx rfl]
  simp only [Obj.mapSeq, hf]
theorem acc_check {M : Model} {id n : String} {rest : List Value} {Q : Unit → Shared → Prop} (c : Cls h C N mN) (hx : h.get? x = some (accObj C dx vs k)) (hsplit : splitId id = some ("list", n))
    (hkind : builtinKind id = some .slot ∨ builtinKind id = some .method) (ha : argsOk id ⟨.ref x :: rest, []⟩) (hq : Q () ⟨h, g, d, t, os⟩) :
    wpAny M A (checkBuiltinCall id ⟨.ref x :: rest, []⟩) Q E ⟨h, g, d, t, os⟩ := by
  obtain ⟨⟨nm, q, bs, sn, sub, ab, col, dd, k0, k1, k2, k3, k5, hC⟩, hn, hng, hnh⟩ := c
  have hcB : (Value.ref C :: [Value.type "list", Value.type "object"]).contains (.type "list") = true := by
    rw [List.contains_cons, show [Value.type "list", Value.type "object"].contains (.type "list") = true from by decide, Bool.or_true]
  rcases hkind with hk | hk
  all_goals
    simp only [checkBuiltinCall, hk, hsplit]
    refine wpAny_bind ?_
    unfold isInstance
    repeat (first | (with_reducible refine wpAny_loadPart_at hx ?_) | (with_reducible refine wpAny_isSubtype_exc hC ?_; rw [hcB]) | wp_step)
    cases hsig : Manifest.signature? id with
    | none => exact wpAny_pure hq
    | some sig =>
      simp only [argsOk, hsig] at ha
      have h2 : Bind.checkArgs id sig ⟨.ref x :: rest, []⟩ = pure () := ha
      show wpAny M A (Bind.checkArgs id sig ⟨.ref x :: rest, []⟩) Q E _
      rw [h2]; exact wpAny_pure hq
theorem call_acc {id n : String} {B : Builtin} {rest : List Value} {Q : Value → Shared → Prop} (c : Cls h C N mN) (hx : h.get? x = some (accObj C dx vs k)) (hsplit : splitId id = some ("list", n))
    (hkind : builtinKind id = some .slot ∨ builtinKind id = some .method) (ha : argsOk id ⟨.ref x :: rest, []⟩) (plain : plainId id = true) (entry : entryFor table id = some B)
    (hB : wpAny (model prog w) A.in1 (B ⟨.ref x :: rest, []⟩) (fun fin s' => ∃ v, fin = .done (.ret v) ∧ Q v s') E ⟨h, g, d, t, os⟩) : wpAny (model prog w) A (call (.builtin id) (.ref x :: rest)) Q E ⟨h, g, d, t, os⟩ := by
  refine wpAny_call (codeAny_call_builtin plain entry (acc_check c hx hsplit hkind ha (wpAny_mono hB (fun fin s' hq => ?_) fun _ _ e => e)))
  obtain ⟨v, rfl, hq⟩ := hq
  exact hq

theorem t_append {v : Value} {Q : Fin → Shared → Prop} (hx : h.get? x = some (accObj C dx vs k)) (hsz : vs.length ≤ 1000)
    (hq : ∀ h' k', (∀ b, b ≠ x → h'.get? b = h.get? b) → h'.get? x = some (accObj C dx (vs ++ [v]) k') → Q (.done (.ret .none)) ⟨h', g, d, t, os⟩) : wpAny (model prog w) A (Builtin.«list.append» ⟨[.ref x, v], []⟩) Q E ⟨h, g, d, t, os⟩ := by
  unfold Builtin.«list.append» Builtin.List.listUpdate
  repeat (first | (refine wpAny_bind (upd_acc (ws := vs ++ [v]) hx (by omega) (by simp) (by simp; omega) fun h' k' h1 h2 => ?_)) | wp_step)
  exact hq h' k' h1 h2
theorem t_len {Q : Fin → Shared → Prop} (hx : h.get? x = some (accObj C dx vs k)) (hq : ∀ t', Q (.done (.ret (.int vs.length t'))) ⟨h, g, d, t + 1, os⟩) : wpAny (model prog w) A (Builtin.«list.__len__» ⟨[.ref x], []⟩) Q E ⟨h, g, d, t, os⟩ := by
  unfold Builtin.«list.__len__»
  repeat (first | wp_step)
  rw [List.size_toArray]
  exact hq _
theorem t_init {Q : Fin → Shared → Prop} (hx : h.get? x = some (accObj C dx [] k))
    (hq : ∀ h' k', (∀ b, b ≠ x → h'.get? b = h.get? b) → h'.get? x = some (accObj C dx [] k') → Q (.done (.ret .none)) ⟨h', g, d, t, os⟩) : wpAny (model prog w) A (Builtin.«list.__init__» ⟨[.ref x], []⟩) Q E ⟨h, g, d, t, os⟩ := by
  unfold Builtin.«list.__init__» Builtin.List.listUpdate Builtin.List.listItems
  repeat (first | (refine wpAny_bind (upd_acc (ws := []) hx (by simp) (by simp) (by simp) fun h' k' h1 h2 => ?_)) | (refine wpAny_bind (wpAny_letGo ?_)) | wp_step)
  exact hq h' k' h1 h2
theorem t_pop {v : Value} {Q : Fin → Shared → Prop} (hx : h.get? x = some (accObj C dx (vs ++ [v]) k)) (hsz : vs.length ≤ 1000)
    (hq : ∀ h' k', (∀ b, b ≠ x → h'.get? b = h.get? b) → h'.get? x = some (accObj C dx vs k') → Q (.done (.ret v)) ⟨h', g, d, t, os⟩) : wpAny (model prog w) A (Builtin.«list.pop» ⟨[.ref x], []⟩) Q E ⟨h, g, d, t, os⟩ := by
  have e : ((seqIndex? (-1) (vs ++ [v]).toArray.size).bind fun k => Option.map (fun x => (k, x)) (vs ++ [v]).toArray[k]?) = some (vs.length, v) := by
    have e1 : seqIndex? (-1) (vs ++ [v]).toArray.size = some vs.length := by
      unfold seqIndex?
      simp
      omega
    rw [e1]
    simp
  unfold Builtin.«list.pop» Builtin.List.listUpdate Builtin.List.listItems
  repeat (first | wp_step)
  rw [e]
  dsimp only
  refine wpAny_bind (upd_acc (ws := vs) hx (by simp; omega) ?_ (by omega) fun h' k' h1 h2 => ?_)
  · apply Array.toList_inj.mp
    rw [Array.eraseIdxIfInBounds]
    rw [dif_pos (by simp)]
    simp [List.eraseIdx_append_of_length_le]
  · exact wpAny_pure (hq h' k' h1 h2)
end
end
section
set_option maxRecDepth 100000

section
variable {prog : Program} {w : World} {A : Around} {E : Value → Shared → Prop} {h : Heap} {g : Array GenState} {d : Drawn} {t : Nat} {os : OsState}
variable {C N x dx : Addr} {mN mA : Str → Option Value} {name : Str} {v : Value} {vs : List Value} {k : Nat}

theorem acc_typeOf {M : Model} {Q : Value → Shared → Prop} (hx : h.get? x = some (accObj C dx vs k)) (hq : Q (.ref C) ⟨h, g, d, t, os⟩) : wpAny M A (typeOf (.ref x)) Q E ⟨h, g, d, t, os⟩ := by
  simp only [typeOf]
  exact wpAny_bind (wpAny_load hx (wpAny_pure hq))
theorem acc_special {M : Model} {y : Option Value} {Q : Option Value → Shared → Prop} (c : Cls h C N mN) (hx : h.get? x = some (accObj C dx vs k)) (hn : mN name = none) (hB : typeLookup (.type "list") name = pure y)
    (hq : Q y ⟨h, g, d, t, os⟩) : wpAny M A (specialOf (.ref x) name) Q E ⟨h, g, d, t, os⟩ := by
  obtain ⟨⟨nm, q, bs, sn, sub, ab, col, dd, k0, k1, k2, k3, k5, hC⟩, hN, hng, hnh⟩ := c
  unfold specialOf
  refine wpAny_bind (acc_typeOf hx (wpAny_typeLookup_exc hC hN PySem.F.mro_list hB ?_))
  rw [hn]
  exact hq
theorem acc_key {M : Model} {v : Value} {Q : Value → Shared → Prop} (c : Cls h C N mN) (hx : h.get? x = some (accObj C dx vs k)) (hq : Q v ⟨h, g, d, t, os⟩) : wpAny M A (sequenceKey (.ref x) v name) Q E ⟨h, g, d, t, os⟩ := by
  obtain ⟨⟨nm, q, bs, sn, sub, ab, col, dd, k0, k1, k2, k3, k5, hC⟩, hN, hng, hnh⟩ := c
  unfold sequenceKey
  refine wpAny_bind (acc_typeOf hx ?_)
  dsimp only
  have no : ∀ l : List String, (∀ n ∈ l, n ≠ "list" ∧ n ≠ "object") → ∀ {Q : Bool → Shared → Prop}, Q false ⟨h, g, d, t, os⟩ → wpAny M A (l.anyM fun n => isSubtype (.ref C) (.type n)) Q E ⟨h, g, d, t, os⟩ := by
    intro l
    induction l with
    | nil => intro _ Q hq; exact wpAny_pure hq
    | cons n l ih =>
      intro hl Q hq
      rw [List.anyM]
      refine wpAny_bind (wpAny_isSubtype_exc hC ?_)
      have : (Value.ref C :: [Value.type "list", Value.type "object"]).contains (.type n) = false := by
        obtain ⟨h1, h2⟩ := hl n (.head _)
        simp [h1, h2]
      rw [this]
      exact ih (fun m hm => hl m (.tail _ hm)) hq
  refine wpAny_bind (no seqItemTypes (by decide) ?_)
  exact wpAny_pure hq

theorem acc_parts {sl : Addr} {lo : Int} {tk : Tok} {Q : Value × Value × Value → Shared → Prop} {M : Model} (hs : h.get? sl = some { cls := .type "slice", data := .fields #[.int lo tk, .none, .none] })
    (hq : Q (rawPart (some lo), rawPart none, rawPart none) ⟨h, g, d, t, os⟩) : wpAny M A (Builtin.List.listSliceParts (.ref sl)) Q E ⟨h, g, d, t, os⟩ := by
  rw [listSliceParts_eq]
  refine wpAny_bind (wpAny_field hs rfl (x := .none) rfl (wpAny_bind (wpAny_listPart .none ?_)))
  rw [if_neg (show ¬ ((rawPart none == rawInt 0) = true) from Bool.false_ne_true)]
  refine wpAny_bind (wpAny_field hs rfl (x := .int lo tk) rfl (wpAny_bind (wpAny_listPart (.int lo tk) ?_)))
  exact wpAny_bind (wpAny_field hs rfl (x := .none) rfl (wpAny_bind (wpAny_listPart .none (wpAny_pure hq))))
theorem acc_getslice {sl : Addr} {tk : Tok} {Q : Value → Shared → Prop} (c : Cls h C N mN) (hg : mN "__getitem__" = none) (hx : h.get? x = some (accObj C dx vs k)) (hsz : vs.length ≤ 1000)
    (hs : h.get? sl = some { cls := .type "slice", data := .fields #[.int 0 tk, .none, .none] })
    (hq : Q (.ref h.objs.size) ⟨h.push (lstObj vs 0), g, d, t, os⟩) : wpAny (model prog w) A (getItem (.ref x) (.ref sl)) Q E ⟨h, g, d, t, os⟩ := by
  have hTs : (⟨h, g, d, t, os⟩ : Shared).TypeIs (.ref sl) "slice" := ⟨_, hs, rfl⟩
  unfold getItem
  refine wpAny_holding ?_
  refine wpAny_bind (acc_key c hx ?_)
  refine wpAny_bind ?_
  unfold callSpecial?
  refine wpAny_bind (acc_special c hx hg slot_list_getitem.lookup ?_)
  dsimp only
  refine wpAny_holding (wpAny_bind (wpAny_of_eq (slot_list_getitem.bind _) ?_))
  refine wpAny_bind (call_acc c hx (n := "__getitem__") (by decide +kernel) (.inr (by decide +kernel)) (args_list_getitem _ _) (by decide +kernel) entry_list_getitem ?_)
  show wpAny _ _ (Builtin.List.listSubscript? (.ref sl) >>= _) _ _ _
  refine wpAny_bind ?_
  unfold Builtin.List.listSubscript?
  refine wpAny_bind (wpAny_specialOf hTs slice_no_index ?_)
  simp only [Option.isNone_none, if_true]
  refine wpAny_pure ?_
  show wpAny _ _ (typeOf (.ref sl) >>= _) _ _ _
  refine wpAny_bind (wpAny_typeOf hTs ?_)
  rw [if_neg (by decide)]
  refine wpAny_bind (acc_parts hs ?_)
  dsimp only
  refine wpAny_bind (m := Builtin.List.listItems (.ref x)) ?_
  unfold Builtin.List.listItems
  refine wpAny_bind (wpAny_seqItems hx rfl (wpAny_pure ?_))
  refine wpAny_bind (wpAny_of_eq (sliceIndices_raw (some 0) none none vs.toArray.size (by simp)) ?_)
  refine wpAny_bind (wpAny_newObj_type (wpAny_pure ⟨_, rfl, wpAny_pure (wpAny_pure ?_)⟩) ?_)
  · have : ((sliceRange (sliceBounds (some 0) none none vs.toArray.size).1 (sliceBounds (some 0) none none vs.toArray.size).2.1 (sliceBounds (some 0) none none vs.toArray.size).2.2).filterMap (vs.toArray[·]?)).toArray = vs.toArray := by
      have e : slicePick vs.toArray (some 0) none none = (pickL vs (some ((0 : Nat) : Int)) none none).toArray := slicePick_eq vs (some 0) none none
      rw [pickL_from] at e
      exact e
    rw [this]
    exact hq
  · refine Nat.le_trans (slicePick_size_le vs.toArray (some 0) none none) ?_
    rw [List.size_toArray, sizeLine_eq]; omega
theorem acc_clear {sl e : Addr} {tk : Tok} {k2 : Nat} {Q : Unit → Shared → Prop} (c : Cls h C N mN) (hg : mN "__setitem__" = none) (hx : h.get? x = some (accObj C dx vs k)) (hsz : vs.length ≤ 1000)
    (hs : h.get? sl = some { cls := .type "slice", data := .fields #[.int 0 tk, .none, .none] }) (he : h.get? e = some (lstObj [] k2)) (hne : x ≠ e)
    (hq : ∀ h' k', (∀ b, b ≠ x → h'.get? b = h.get? b) → h'.get? x = some (accObj C dx [] k') → Q () ⟨h', g, d, t, os⟩) : wpAny (model prog w) A (setItem (.ref x) (.ref sl) (.ref e)) Q E ⟨h, g, d, t, os⟩ := by
  have hTs : (⟨h, g, d, t, os⟩ : Shared).TypeIs (.ref sl) "slice" := ⟨_, hs, rfl⟩
  have hTe : (⟨h, g, d, t, os⟩ : Shared).TypeIs (.ref e) "list" := ⟨_, he, rfl⟩
  unfold setItem
  refine wpAny_holding ?_
  refine wpAny_bind (acc_key c hx ?_)
  refine wpAny_bind ?_
  unfold callSpecial?
  refine wpAny_bind (acc_special c hx hg PySem.F.slot_list_setitem.lookup ?_)
  dsimp only
  refine wpAny_holding (wpAny_bind (wpAny_of_eq (PySem.F.slot_list_setitem.bind _) ?_))
  refine wpAny_bind (call_acc c hx (n := "__setitem__") (by decide +kernel) (.inl (by decide +kernel)) (PySem.F.args_list_setitem_3 _ _ _) (by decide +kernel) PySem.F.entry_list_setitem ?_)
  show wpAny _ _ (Builtin.List.listSubscript? (.ref sl) >>= _) _ _ _
  refine wpAny_bind ?_
  unfold Builtin.List.listSubscript?
  refine wpAny_bind (wpAny_specialOf hTs slice_no_index ?_)
  simp only [Option.isNone_none, if_true]
  refine wpAny_pure ?_
  show wpAny _ _ (typeOf (.ref sl) >>= _) _ _ _
  refine wpAny_bind (wpAny_typeOf hTs ?_)
  rw [if_neg (by decide)]
  refine wpAny_bind (acc_parts hs ?_)
  dsimp only
  rw [if_neg (show ¬ Builtin.List.listSameRef (.ref x) (.ref e) = true from by simpa [Builtin.List.listSameRef] using hne)]
  unfold Builtin.List.listAllItems
  refine wpAny_bind ?_
  refine wpAny_bind (wpAny_typeOf hTe ?_)
  rw [if_pos (by decide)]
  unfold Builtin.List.listItems
  refine wpAny_bind (wpAny_seqItems he rfl (wpAny_pure ?_))
  refine wpAny_bind (wpAny_bind (wpAny_seqItems hx rfl (wpAny_pure ?_)))
  refine wpAny_bind (wpAny_of_eq (sliceIndices_raw (some 0) none none vs.toArray.size (by simp)) ?_)
  have e1 : sliceBounds (some 0) none none vs.toArray.size = ((0 : Int), (vs.length : Int), (1 : Int)) := by
    unfold sliceBounds
    simp
    omega
  rw [e1]
  dsimp only
  rw [if_pos (show ((1 : Int) == 1) = true from rfl)]
  refine wpAny_bind (wpAny_rule ?_)
  rw [if_neg (show ¬ Builtin.List.listTooLong (vs.toArray.size + ([] : List Value).toArray.size) = true from by
    unfold Builtin.List.listTooLong
    simp [sizeLine_eq]; omega)]
  unfold Builtin.List.listUpdate
  refine wpAny_bind (upd_acc (ws := []) hx (by omega) ?_ (by simp) fun h' k' h1 h2 => ?_)
  · apply Array.toList_inj.mp
    simp
  · exact wpAny_bind (wpAny_letGo (wpAny_pure ⟨_, rfl, wpAny_pure (wpAny_pure (hq h' k' h1 h2))⟩))
end
end
section
set_option maxRecDepth 100000

noncomputable def acSt : List Stmt := match PySem.Challenge.pw_xj0004_01.main.body[(9 : Nat)]? with | some (.ClassDef _ _ _ b _ _ _ _ _ _ _) => b | _ => []
noncomputable def acB (i : Nat) : List Stmt := match acSt[i]? with | some (.FunctionDef _ _ b _ _ _ _ _ _ _) => b | _ => []
noncomputable def acA (i : Nat) : Arguments := match acSt[i]? with | some (.FunctionDef _ a _ _ _ _ _ _ _ _) => a | _ => ⟨[], [], none, [], [], none, []⟩
noncomputable def acS (i : Nat) : Scope := match acSt[i]? with | some (.FunctionDef _ _ _ _ _ _ s _ _ _) => s | _ => default

structure Meth (h₀ : Heap) (f : Addr) (name qual : Str) (params : Arguments) (body : List Stmt) (scope : Scope) (cl : List (Str × Addr)) (dV : Value) : Prop where
  at_ : ∃ o pm doc cda ct oc vs tf, h₀.get? f = some o ∧ o.cls = .type "function" ∧ o.data = .func (fnX name qual params body scope cl dV .none doc pm none (.ref cda) ct) ∧ h₀.CodeRec (.ref cda) qual ∧
    h₀.get? cda = some oc ∧ oc.data = .fields vs ∧ vs[2]? = some (.str "/claim/cut.py" tf)

section
variable {prog : Program} {w : World} {h₀ : Heap} {mg mb : Str → Option Value} {A : Around} {s : Shared}
theorem call_meth {f : Addr} {name qual : Str} {params : Arguments} {body : List Stmt} {scope : Scope} {cl : List (Str × Addr)} {dV : Value} {vals : List Value} {binds : List (Str × Value)} {Q : Value → Shared → Prop}
    (G : Glb h₀ mg mb) (M : Meth h₀ f name qual params body scope cl dV) (gd : ∀ b o, h₀.get? b = some o → s.heap.get? b = some o) (hroom : A.depth < recursionLimit)
    (hbind : ∀ doc pm cdv ct, BindsTo s (fnX name qual params body scope cl dV .none doc pm none cdv ct) ⟨vals, []⟩ binds)
    (hloc : ∀ x ∈ binds, scope.names.lookup x.1 = some .local)
    (h : ∀ cda ct doc pm oc vs tf h₁, h₀.get? cda = some oc → oc.data = .fields vs → vs[2]? = some (.str "/claim/cut.py" tf) → (∃ o, h₀.get? f = some o ∧ o.data = .func (fnX name qual params body scope cl dV .none doc pm none (.ref cda) ct)) →
      h₁.Ns s.heap.objs.size (fun x => binds.reverse.lookup x) → (∀ b o, s.heap.get? b = some o → h₁.get? b = some o) →
      _root_.PySem.wpAt (model prog w) (A.deeper (callEnv (fnX name qual params body scope cl dV .none doc pm none (.ref cda) ct) s.heap.objs.size f)) (.func body (callEnv (fnX name qual params body scope cl dV .none doc pm none (.ref cda) ct) s.heap.objs.size f))
        (execs body (callEnv (fnX name qual params body scope cl dV .none doc pm none (.ref cda) ct) s.heap.objs.size f)) (fun fl s' => Q (retv fl) s') NoE { s with heap := h₁, toks := s.toks + binds.length })
    (hcell : ∀ x ∈ scope.names, x.2 ≠ .cell) (hco : scope.isCoroutine = false := by kernel_rfl!) (hgen : scope.isGenerator = false := by kernel_rfl!) (hk : scope.kind = .function := by kernel_rfl!) : wpAny (model prog w) A (call (.ref f) vals) Q NoE s := by
  obtain ⟨o, pm, doc, cda, ct, oc, vs, tf, ho, hc, hd, hcd, h1, h2, h3⟩ := M.at_
  refine wpAny_call (ks_codeAny_call_defAt hroom (gd _ _ ho) hd (G.lim.keeps gd) (hcd.keeps gd) rfl (hbind _ _ _ _) hcell hloc (fun h₁ hns hk₁ => ?_) hco hgen hk)
  refine ks_wpAt_mono (h cda ct doc pm oc vs tf h₁ h1 h2 h3 ⟨o, ho, hd⟩ hns hk₁) (fun fl s' q => ?_) fun _ _ e => e.elim
  cases fl <;> exact q

theorem lookup_mem {α : Type} : ∀ {l : List (Str × α)} {x : Str} {v : α}, (l.map (·.1)).Nodup → (x, v) ∈ l → l.lookup x = some v
  | (y, u) :: l, x, v, hn, hm => by
    simp only [List.map_cons, List.nodup_cons] at hn
    rcases List.mem_cons.mp hm with e | e
    · cases e
      rw [List.lookup_cons]
      simp
    · have : x ≠ y := fun q => hn.1 (q ▸ List.mem_map_of_mem (f := fun p : Str × α => p.1) e)
      rw [List.lookup_cons]
      have : (x == y) = false := by simpa using this
      rw [this]
      exact lookup_mem hn.2 e
theorem lookup_rev {α : Type} {l : List (Str × α)} {x : Str} {v : α} (hn : (l.map (·.1)).Nodup) (hm : (x, v) ∈ l) : l.reverse.lookup x = some v := by
  refine lookup_mem ?_ (by simpa using hm)
  rw [List.map_reverse]
  exact (List.pairwise_reverse).mpr (hn.imp fun h => Ne.symm h)
theorem Call_getm {env : Env} {E : Value → Shared → Prop} {o : Expr} {name : Str} {apos pos : Pos} {args : List Expr} {Q : Value → Shared → Prop}
    (h : wpAny (model prog w) A (eval o env) (fun ov s₁ => ∀ pl, wpAny (model prog w) A (getMethod ov name pl) (fun fx s₂ => wpAny (model prog w) A (callWith pos fx.1 fx.2 (backTo pos (starEach args env)) []) Q E s₂) E s₁) E s)
    (hbase : attributeBase o name env (eval o env) = eval o env := by kernel_rfl!)
    (hfew : ((backTo pos (starEach args env)).all (fun x => !x.1) && (backToKw pos (keywordEach [] env)).all (fun x => x.1.isSome)
      && decide (args.length + ([] : List Keyword).length + (if ([] : List Keyword).isEmpty then 0 else 1) < 30)) = true := by kernel_rfl!)
    (hline : (apos.endLine == pos.line) = true := by kernel_rfl!) :
    wpAny (model prog w) A (eval (.Call (.Attribute o name apos) args [] pos) env) Q E s := by
  rw [arm_eval_Call, hbase]
  refine wpAny_bind (wpAny_mono h (fun ov s₁ h₁ => ?_) fun _ _ e => e)
  refine wpAny_bind (wpAny_standAt ?_)
  have hform : methodCallForm (args.length + ([] : List Keyword).length) (backTo pos (starEach args env)) (backToKw pos (keywordEach [] env)) = true := hfew
  have hpos : methodCallPos true o env apos pos = pure pos := by unfold methodCallPos; simp [hline]
  unfold methodCall
  rw [hform]
  refine wpAny_bind (wpAny_holding (wpAny_mono (h₁ _) (fun fx s₂ h₂ => ?_) fun _ _ e => e))
  exact wpAny_bind (wpAny_of_eq hpos h₂)
theorem meth_cok {env : Env} {X : Addr → Prop} {names : List Str} {vals : List Value} {ks : List VK} {h₁ : Heap} {Γ : List (Str × VK)} (hΓ : names.zip ks = Γ) (hk : EnvOk env) (hL : env.locals = s.heap.objs.size) (hl : HL s.heap X vals ks) (hlen : names.length = ks.length)
    (hns : h₁.Ns s.heap.objs.size (fun y => ((names.zip vals).reverse).lookup y)) (hnd : names.Nodup) (hkind : ∀ n ∈ names, env.kindOf n = some .local) (keep : ∀ b o, s.heap.get? b = some o → h₁.get? b = some o) (C : XOk h₀ X s.heap) :
    Cok h₀ env (fun b => X b ∨ b = s.heap.objs.size) Γ h₁ := by
  subst hΓ
  have fr : s.heap.get? s.heap.objs.size = none := by
    cases e : s.heap.get? s.heap.objs.size with
    | none => rfl
    | some o => exact absurd (Heap.lt_size e) (Nat.lt_irrefl _)
  refine ⟨hk, fun b o e => keep b o (C.gd b o e), fun a q => ?_, fun x q e => ?_⟩
  · rcases q with q | rfl
    · refine ⟨(C.xok a q).1, ?_⟩
      obtain ⟨o, ho⟩ := Option.isSome_iff_exists.mp (C.xok a q).2
      rw [keep a o ho]; rfl
    · refine ⟨?_, ns_some hns⟩
      cases e : h₀.get? s.heap.objs.size with
      | none => rfl
      | some o => rw [C.gd _ o e] at fr; cases fr
  · obtain ⟨v, hm, hv⟩ := zip_lookup hl e
    refine ⟨v, .inl ⟨hkind x (List.of_mem_zip hm).1, _, hL ▸ hns, ?_⟩, VK.holds_mono (fun b o nb eb => ⟨keep b o eb, fun z => ?_⟩) hv⟩
    · exact lookup_rev (by rw [zip_fst (by rw [hl.length, hlen])]; exact hnd) hm
    · rcases z with z | rfl
      · exact nb z
      · rw [fr] at eb; cases eb

theorem callWith_bf {env : Env} {E : Value → Shared → Prop} {pos : Pos} {id : String} {first : List Value} {e : Expr} {rest : List Expr} {Q : Value → Shared → Prop}
    (h : wpAny (model prog w) A (spliced (backTo pos (starEach (e :: rest) env))) (fun vs s₁ => wpAny (model prog w) A (call (.builtin id) (first ++ vs)) Q E s₁) E s)
    (he : starEach (e :: rest) env = (false, eval e env) :: starEach rest env := by kernel_rfl!)
    (hplain : (backTo pos (starEach rest env)).any (·.1) = false := by kernel_rfl!) :
    wpAny (model prog w) A (callWith pos (.builtin id) first (backTo pos (starEach (e :: rest) env)) []) Q E s :=
  callWith_method1 h he hplain
theorem callWith_bf0 {E : Value → Shared → Prop} {env : Env} {pos : Pos} {id : String} {first : List Value} {Q : Value → Shared → Prop} (h : wpAny (model prog w) A (call (.builtin id) first) Q E s) :
    wpAny (model prog w) A (callWith pos (.builtin id) first (backTo pos (starEach [] env)) []) Q E s :=
  callWith_method0 h
theorem ExL.run {n : Nat} {env : Env} {X : Addr → Prop} {Γ : List (Str × VK)} {pos : Pos} {es : List Expr} {ps : List PV} {Q : List Value → Shared → Prop} (h : ExL prog w h₀ n env X Γ pos es ps) (R : Room A n) (C : Cok h₀ env X Γ s.heap)
    (hq : ∀ vs s', Keeps s s' → RdL s'.heap X vs ps → Q vs s') : wpAny (model prog w) A (spliced (backTo pos (starEach es env))) Q NoE s :=
  wpAny_mono (h A s R C) (fun vs s' h => hq vs s' h.1 h.2) fun _ _ e => e
structure MRes (s s' : Shared) (x C dx : Addr) (X : Addr → Prop) (qs : List PV) (v : Value) (p : PV) : Prop where
  same : ∃ h tk, s' = { s with heap := h, toks := tk }
  keep : ∀ b o, b ≠ x → s.heap.get? b = some o → s'.heap.get? b = some o
  self : ∃ ws k, s'.heap.get? x = some (accObj C dx ws k) ∧ RdL s'.heap X ws qs
  rd : Rd s'.heap X v p
structure AccAt (h : Heap) (X : Addr → Prop) (x C N dx : Addr) (mN : Str → Option Value) (qs : List PV) : Prop where
  cls : Cls h C N mN
  self : ∃ ws k, h.get? x = some (accObj C dx ws k) ∧ RdL h X ws qs
  xX : X x
  dict : ∃ mA, h.Ns1 dx mA ∧ ∀ nm : Str, nm ≠ "_initial_size" → mA nm = none
  ne : dx ≠ x
theorem AccAt.inst {h : Heap} {X : Addr → Prop} {x C N dx : Addr} {mN : Str → Option Value} {qs : List PV} (a : AccAt h X x C N dx mN qs) : ∃ mA, h.Inst x C mA ∧ ∀ nm : Str, nm ≠ "_initial_size" → mA nm = none := by
  obtain ⟨ws, k, e, r⟩ := a.self
  obtain ⟨mA, hn, hz⟩ := a.dict
  exact ⟨mA, ⟨_, e, rfl, (fun c q => nomatch q), .inr ⟨dx, rfl, a.ne, hn⟩⟩, hz⟩
theorem AccAt.keeps {h h' : Heap} {X X' : Addr → Prop} {x C N dx : Addr} {mN : Str → Option Value} {qs : List PV} (a : AccAt h X x C N dx mN qs) (k : ∀ b o, h.get? b = some o → h'.get? b = some o) (hX : ∀ b, X b → X' b) (hX' : ∀ b, X' b → X b ∨ h.get? b = none) : AccAt h' X' x C N dx mN qs := by
  obtain ⟨ws, n, e, r⟩ := a.self
  obtain ⟨mA, hn, hz⟩ := a.dict
  exact ⟨a.cls.keeps k, ⟨ws, n, k _ _ e, r.mono fun b o nb eb => ⟨k b o eb, fun z => (hX' b z).elim nb fun z => by rw [z] at eb; cases eb⟩⟩, hX _ a.xX, ⟨mA, hn.keeps k, hz⟩, a.ne⟩
end
end
section
set_option maxRecDepth 100000
set_option maxHeartbeats 4000000

section
variable {prog : Program} {w : World} {h₀ : Heap} {mg mb : Str → Option Value} {A : Around} {s : Shared}
theorem push_call {f x C N dx : Addr} {mN : Str → Option Value} {X : Addr → Prop} {qs : List PV} {u v : Value} {p q : PV} (G : Glb h₀ mg mb) (M : Meth h₀ f "push" "_Accumulator.push" (acA 1) (acB 1) (acS 1) [] .none) (hap : mN "append" = none)
    (C0 : XOk h₀ X s.heap) (R : Room A 6) (a : AccAt s.heap X x C N dx mN qs) (hsz : qs.length ≤ 100) (rp : Rd s.heap X u p) (rq : Rd s.heap X v q) :
    wpAny (model prog w) A (call (.ref f) [.ref x, u, v]) (fun r s' => MRes s s' x C dx X (qs ++ [.tup [p, q]]) r .none) NoE s := by
  refine call_meth (binds := (["self", "fws", "string"] : List Str).zip [.ref x, u, v]) G M C0.gd R.d (fun doc pm cdv ct => .of_eq (by kernel_rfl!)) ?_ (fun cda ct doc pm oc vs tf h₁ _ _ _ _ hns keep => ?_) ?_
  · intro y hy
    simp only [List.zip_cons_cons, List.mem_cons, List.zip_nil_left, List.not_mem_nil, or_false] at hy
    rcases hy with rfl | rfl | rfl <;> kernel_rfl!
  · have C1 := meth_cok (h₀ := h₀) (env := callEnv (fnX "push" "_Accumulator.push" (acA 1) (acB 1) (acS 1) [] .none .none doc pm none (.ref cda) ct) s.heap.objs.size f) (names := ["self", "fws", "string"]) (vals := [.ref x, u, v]) (ks := [.raw (.ref x), .pv p, .pv q]) (Γ := [("self", .raw (.ref x)), ("fws", .pv p), ("string", .pv q)]) rfl ⟨by kernel_rfl!, rfl, rfl⟩ rfl (.cons rfl (.cons rp (.cons rq .nil))) rfl hns (by decide) (by
      intro n hn
      simp only [List.mem_cons, List.not_mem_nil, or_false] at hn
      rcases hn with rfl | rfl | rfl <;> kernel_rfl!) keep C0
    refine wpAt_of_wpAny ?_
    conv in execs (acB 1) _ => arg 1; whnf
    refine wpAny_execs_cons (wpAny_Expr ?_ (by kernel_rfl!) (by kernel_rfl!))
    refine Call_getm ?_
    obtain ⟨v1, hv1, hv2⟩ := C1.has "self" (.raw (.ref x)) (by walk_at "lk")
    obtain rfl : v1 = .ref x := hv2
    refine wpAny_Name (hv1.load C1.ok fun pl => ?_) (by kernel_rfl!)
    have a1 := a.keeps keep (fun _ q => q) fun _ q => .inl q
    obtain ⟨mA, I, hz⟩ := a1.inst
    refine acc_builtin a1.cls hap PySem.F.slot_list_append PySem.F.type_list_append I (hz _ (by decide +kernel)) ?_
    have Rd' : Room (A.deeper (callEnv (fnX "push" "_Accumulator.push" (acA 1) (acB 1) (acS 1) [] .none .none doc pm none (.ref cda) ct) s.heap.objs.size f)) 4 := (R.le (by omega)).deeper (n := 4) _
    refine callWith_bf ?_
    with_reducible refine' ExL.run (ps := [.tup [p, q]]) ?ex Rd' C1 fun us s2 k2 r2 => ?_
    case ex => walk_at "exl"
    cases r2 with
    | cons r2 rn =>
    cases rn
    rename_i y
    obtain ⟨h2, t2, rfl, kk2⟩ := k2
    have a2 := a.keeps (X' := X) (fun b o e => kk2 b o (keep b o e)) (fun _ q => q) fun _ q => .inl q
    obtain ⟨ws, k, ex, rx⟩ := a2.self
    have hws := rx.length
    refine call_acc a2.cls ex (n := "append") (by decide +kernel) (.inr (by decide +kernel)) (PySem.F.args_list_append_2 _ _) (by decide +kernel) PySem.F.entry_list_append ?_
    refine t_append ex (by omega) fun h3 k3 hk3 hx3 => ⟨.none, rfl, ?_⟩
    refine wpAny_execs_nil ?_
    have m3 : ∀ b o, ¬ X b → h2.get? b = some o → h3.get? b = some o ∧ ¬ X b := fun b o nb e => ⟨by rw [hk3 b fun q => nb (q ▸ a.xX)]; exact e, nb⟩
    exact ⟨⟨h3, _, rfl⟩, fun b o hb e => by show h3.get? b = some o; rw [hk3 b hb]; exact kk2 b o (keep b o e), ⟨_, k3, hx3, (rx.mono m3).append (.one ((r2.narrow fun _ q => .inl q).mono m3))⟩, .none⟩
  · have : (acS 1).names.all (fun x => x.2 != .cell) = true := by kernel_rfl!
    exact names_cell this
end
end
section
set_option maxRecDepth 100000
set_option maxHeartbeats 4000000

section
variable {prog : Program} {w : World} {h₀ : Heap} {mg mb : Str → Option Value} {A : Around} {s : Shared}
theorem VarAt.loc {h : Heap} {env : Env} {x : Str} {v : Value} {m : Str → Option Value} (hk : env.kindOf x = some .local) (hn : h.Ns env.locals m) (hv : m x = some v) : VarAt h env x v := .inl ⟨hk, m, hn, hv⟩
theorem acc_inPython {C N x dx : Addr} {mN : Str → Option Value} {X : Addr → Prop} {qs : List PV} {E : Value → Shared → Prop} {Q : Bool → Shared → Prop} (a : AccAt s.heap X x C N dx mN qs) (hg : mN "__getitem__" = none) (hq : Q false s) : wpAny (model prog w) A (getitemInPython (.ref x)) Q E s := by
  obtain ⟨ws, k, ex, rx⟩ := a.self
  obtain ⟨hh, g, d, t, os⟩ := s
  unfold getitemInPython
  exact wpAny_bind (acc_special a.cls ex hg slot_list_getitem.lookup (wpAny_pure hq))
theorem binds_i {T x : Addr} {o : Obj} {t : Tok} {n : Nat} {doc pm cdv ct : Value} (hT1 : s.heap.get? T = some o) (hT2 : o.data = .seq #[.int 0 t] n) :
    BindsTo s (fnX "pop_from" "_Accumulator.pop_from" (acA 2) (acB 2) (acS 2) [] (.ref T) .none doc pm none cdv ct) ⟨[.ref x], []⟩ ((["self", "i"] : List Str).zip [.ref x, .int 0 t]) := by
  conv in acA 2 => whnf
  exact .of_defaults (T := T) (items := #[.int 0 t]) rfl hT1 hT2 rfl rfl
theorem popfrom_call {f T x C N dx : Addr} {mN : Str → Option Value} {X : Addr → Prop} {qs : List PV} (G : Glb h₀ mg mb) (M : Meth h₀ f "pop_from" "_Accumulator.pop_from" (acA 2) (acB 2) (acS 2) [] (.ref T))
    (hT : ∃ o n t, h₀.get? T = some o ∧ o.data = .seq #[.int 0 t] n) (hg : mN "__getitem__" = none) (hs : mN "__setitem__" = none)
    (C0 : XOk h₀ X s.heap) (R : Room A 6) (a : AccAt s.heap X x C N dx mN qs) (hsz : qs.length ≤ 100) :
    wpAny (model prog w) A (call (.ref f) [.ref x]) (fun r s' => MRes s s' x C dx X [] r (.lst qs)) NoE s := by
  obtain ⟨oT, nT, tT, hT1, hT2⟩ := hT
  refine call_meth (binds := (["self", "i"] : List Str).zip [.ref x, .int 0 tT]) G M C0.gd R.d (fun doc pm cdv ct => binds_i (C0.gd _ _ hT1) hT2) ?_ (fun cda ct doc pm oc vs tf h₁ _ _ _ _ hns keep => ?_) ?_
  · intro y hy
    simp only [List.zip_cons_cons, List.mem_cons, List.zip_nil_left, List.not_mem_nil, or_false] at hy
    rcases hy with rfl | rfl <;> kernel_rfl!
  · have C1 := meth_cok (h₀ := h₀) (env := callEnv (fnX "pop_from" "_Accumulator.pop_from" (acA 2) (acB 2) (acS 2) [] (.ref T) .none doc pm none (.ref cda) ct) s.heap.objs.size f) (names := ["self", "i"]) (vals := [.ref x, .int 0 tT]) (ks := [.raw (.ref x), .pv (.int 0)]) (Γ := [("self", .raw (.ref x)), ("i", .pv (.int 0))]) rfl ⟨by kernel_rfl!, rfl, rfl⟩ rfl (.cons rfl (.cons (.int 0 tT) .nil)) rfl hns (by decide) (by
      intro n hn
      simp only [List.mem_cons, List.not_mem_nil, or_false] at hn
      rcases hn with rfl | rfl <;> kernel_rfl!) keep C0
    refine wpAt_of_wpAny ?_
    conv in execs (acB 2) _ => arg 1; whnf
    refine wpAny_execs_cons (wpAny_Assign_Name (Subscript_ ?_) (by kernel_rfl!))
    obtain ⟨v1, hv1, hv2⟩ := C1.has "self" (.raw (.ref x)) (by walk_at "lk")
    obtain rfl : v1 = .ref x := hv2
    refine wpAny_Name (hv1.load C1.ok ?_) (by kernel_rfl!)
    have ki : (callEnv (fnX "pop_from" "_Accumulator.pop_from" (acA 2) (acB 2) (acS 2) [] (.ref T) .none doc pm none (.ref cda) ct) s.heap.objs.size f).kindOf "i" = some .local := by kernel_rfl!
    have ks : (callEnv (fnX "pop_from" "_Accumulator.pop_from" (acA 2) (acB 2) (acS 2) [] (.ref T) .none doc pm none (.ref cda) ct) s.heap.objs.size f).kindOf "self" = some .local := by kernel_rfl!
    have kp : (callEnv (fnX "pop_from" "_Accumulator.pop_from" (acA 2) (acB 2) (acS 2) [] (.ref T) .none doc pm none (.ref cda) ct) s.heap.objs.size f).kindOf "popped" = some .local := by kernel_rfl!
    have hL : (callEnv (fnX "pop_from" "_Accumulator.pop_from" (acA 2) (acB 2) (acS 2) [] (.ref T) .none doc pm none (.ref cda) ct) s.heap.objs.size f).locals = s.heap.objs.size := rfl
    have hi : ∀ (h : Heap) (m : Str → Option Value), h.Ns s.heap.objs.size m → m "i" = some (.int 0 tT) → VarAt h _ "i" (.int 0 tT) := fun h m hn hm => VarAt.loc ki (hL ▸ hn) hm
    refine wpAny_Slice (show wpAny _ _ (eval (.Name "i" _) _) _ _ _ from ?_)
    refine wpAny_Name ((hi _ _ hns rfl).load C1.ok (wpAny_pure (wpAny_pure ?_))) (by kernel_rfl!)
    have a2 := a.keeps (X' := X) (h' := h₁.push { cls := .type "slice", data := .fields #[.int 0 tT, .none, .none] }) (fun b o e => Heap.get?_push_of_some _ (keep b o e)) (fun _ q => q) fun _ q => .inl q
    unfold subscriptTail
    refine wpAny_bind (acc_inPython a2 hg ?_)
    obtain ⟨ws, k, ex, rx⟩ := a2.self
    have hws := rx.length
    refine wpAny_bind (wpAny_operating (acc_getslice a2.cls hg ex (by omega) (Heap.get?_push_size _ rfl) ?_))
    refine wpAny_bind (wpAny_of_eq (show letTemporaryGo (.Name "self" _) _ _ = pure () from rfl) (wpAny_pure ?_))
    have frL : s.heap.get? s.heap.objs.size = none := by
      cases e : s.heap.get? s.heap.objs.size with
      | none => rfl
      | some o => exact absurd (Heap.lt_size e) (Nat.lt_irrefl _)
    have neL : ∀ b o, s.heap.get? b = some o → b ≠ s.heap.objs.size := fun b o e q => by rw [q, frL] at e; cases e
    have LP : s.heap.objs.size < h₁.objs.size := by
      obtain ⟨o, ho⟩ := Option.isSome_iff_exists.mp (ns_some hns)
      exact Heap.lt_size ho
    generalize hH2 : (h₁.push { cls := Value.type "slice", data := Data.fields #[Value.int 0 tT, Value.none, Value.none] }) = H2
    have hns2 : H2.Ns s.heap.objs.size (fun y => (((["self", "i"] : List Str).zip [Value.ref x, .int 0 tT]).reverse).lookup y) := hns.keeps fun b o e => hH2 ▸ Heap.get?_push_of_some _ e
    have keep2 : ∀ b o, s.heap.get? b = some o → H2.get? b = some o := fun b o e => hH2 ▸ Heap.get?_push_of_some _ (keep b o e)
    have hP : s.heap.objs.size < H2.objs.size := by rw [← hH2, Heap.size_push]; omega
    show wpAny _ _ (storeName _ "popped" (.ref H2.objs.size)) _ _ { s with heap := H2.push (lstObj ws 0), toks := _ }
    refine wpAny_storeName_local kp (hL ▸ hns2.keeps fun b o e => Heap.get?_push_of_some _ e) (fun h3 hn3 hs3 => ?_) (by kernel_rfl!)
    have keep3 : ∀ b o, s.heap.get? b = some o → h3.get? b = some o := fun b o e => hs3.extBut b o (neL b o e) (Heap.get?_push_of_some _ (keep2 b o e))
    have pop3 : h3.get? H2.objs.size = some (lstObj ws 0) := hs3.extBut _ _ (fun q => absurd (show s.heap.objs.size < H2.objs.size from hP) (by rw [q, hL]; exact Nat.lt_irrefl _)) (Heap.get?_push_size _ rfl)
    have a3 := a.keeps (X' := X) keep3 (fun _ q => q) fun _ q => .inl q
    refine wpAny_execs_cons (wpAny_Assign_Subscript ?_ (by kernel_rfl!))
    refine List_ (args_nil (wpAny_newObj_type ?_ (Nat.zero_le _)))
    have nsE : ∀ {h' : Heap}, (∀ b o, h3.get? b = some o → h'.get? b = some o) → VarAt h' (callEnv (fnX "pop_from" "_Accumulator.pop_from" (acA 2) (acB 2) (acS 2) [] (.ref T) .none doc pm none (.ref cda) ct) s.heap.objs.size f) "self" (.ref x) ∧
        VarAt h' (callEnv (fnX "pop_from" "_Accumulator.pop_from" (acA 2) (acB 2) (acS 2) [] (.ref T) .none doc pm none (.ref cda) ct) s.heap.objs.size f) "i" (.int 0 tT) ∧ VarAt h' (callEnv (fnX "pop_from" "_Accumulator.pop_from" (acA 2) (acB 2) (acS 2) [] (.ref T) .none doc pm none (.ref cda) ct) s.heap.objs.size f) "popped" (.ref H2.objs.size) :=
      fun k => ⟨VarAt.loc ks (hn3.keeps k) rfl, VarAt.loc ki (hn3.keeps k) rfl, VarAt.loc kp (hn3.keeps k) rfl⟩
    refine wpAny_Name ((nsE fun b o e => Heap.get?_push_of_some _ e).1.load C1.ok ?_) (by kernel_rfl!)
    refine wpAny_Slice (show wpAny _ _ (eval (.Name "i" _) _) _ _ _ from ?_)
    refine wpAny_Name ((nsE fun b o e => Heap.get?_push_of_some _ e).2.1.load C1.ok (wpAny_pure (wpAny_pure ?_))) (by kernel_rfl!)
    generalize hH4 : h3.push (lstObj [] 0) = H4
    have keep4 : ∀ b o, h3.get? b = some o → H4.get? b = some o := fun b o e => hH4 ▸ Heap.get?_push_of_some _ e
    have e4 : H4.get? h3.objs.size = some (lstObj [] 0) := hH4 ▸ Heap.get?_push_size _ rfl
    have keep5 : ∀ b o, h3.get? b = some o → (H4.push { cls := .type "slice", data := .fields #[.int 0 tT, .none, .none] }).get? b = some o := fun b o e => Heap.get?_push_of_some _ (keep4 b o e)
    have a5 := a3.keeps (X' := X) keep5 (fun _ q => q) fun _ q => .inl q
    obtain ⟨ws5, k5, ex5, rx5⟩ := a5.self
    have hws5 := rx5.length
    obtain ⟨o3, ho3⟩ : ∃ o, h3.get? x = some o := by
      obtain ⟨ws3, k3, ex3, _⟩ := a3.self
      exact ⟨_, ex3⟩
    have nxE : x ≠ h3.objs.size := Nat.ne_of_lt (Heap.lt_size ho3)
    refine acc_clear a5.cls hs ex5 (by omega) (Heap.get?_push_size _ rfl) (Heap.get?_push_of_some _ e4) nxE fun h6 k6 hk6 hx6 => ?_
    have keep6 : ∀ b o, b ≠ x → h3.get? b = some o → h6.get? b = some o := fun b o nb e => by rw [hk6 b nb]; exact keep5 b o e
    have hn6 : h6.Ns s.heap.objs.size _ := hn3.at' fun o e => keep6 _ o (fun q => neL x _ (a.self.choose_spec.choose_spec.1) q.symm) e
    refine wpAny_execs_cons (wpAny_Return_some (wpAny_Name ((VarAt.loc kp (hL ▸ hn6) rfl).load C1.ok ?_) (by kernel_rfl!)))
    have nX2 : ¬ X H2.objs.size := fun q => by
      obtain ⟨o, ho⟩ := Option.isSome_iff_exists.mp (C0.xok _ q).2
      have h1 : @LT.lt Nat _ H2.objs.size s.heap.objs.size := Heap.lt_size ho
      exact absurd (Nat.lt_trans hP h1) (Nat.lt_irrefl _)
    have m6 : ∀ b o, ¬ X b → s.heap.get? b = some o → h6.get? b = some o ∧ ¬ X b := fun b o nb e => ⟨keep6 b o (fun q => nb (q ▸ a.xX)) (keep3 b o e), nb⟩
    obtain ⟨ws0, k0, ex0, rx0⟩ := a.self
    have : ws0 = ws := by
      have h1 := keep2 x _ ex0
      rw [← hH2] at h1
      rw [ex] at h1
      simp at h1
      exact h1.1.symm
    subst this
    exact ⟨⟨h6, _, rfl⟩, fun b o hb e => keep6 b o hb (keep3 b o e), ⟨[], k6, hx6, .nil⟩, .lst (keep6 _ _ (fun q => nX2 (q ▸ a.xX)) pop3) nX2 (rx0.mono m6)⟩
  · have : (acS 2).names.all (fun x => x.2 != .cell) = true := by kernel_rfl!
    exact names_cell this
end
end
section
set_option maxRecDepth 100000

section
variable {prog : Program} {w : World} {A : Around} {E : Value → Shared → Prop} {h : Heap} {g : Array GenState} {d : Drawn} {t : Nat} {os : OsState}
variable {C N x dx : Addr} {mN mA : Str → Option Value} {name : Str} {v : Value} {vs : List Value} {k : Nat}

theorem acc_isInstance {M : Model} {Q : Bool → Shared → Prop} (c : Cls h C N mN) (hx : h.get? x = some (accObj C dx vs k)) (hq : Q true ⟨h, g, d, t, os⟩) : wpAny M A (isInstance (.ref x) (.type "list")) Q E ⟨h, g, d, t, os⟩ := by
  obtain ⟨⟨nm, q, bs, sn, sub, ab, col, dd, k0, k1, k2, k3, k5, hC⟩, hn, hng, hnh⟩ := c
  have hcB : (Value.ref C :: [Value.type "list", Value.type "object"]).contains (.type "list") = true := by
    rw [List.contains_cons, show [Value.type "list", Value.type "object"].contains (.type "list") = true from by decide, Bool.or_true]
  unfold isInstance
  repeat (first | (with_reducible refine wpAny_loadPart_at hx ?_) | (with_reducible refine wpAny_isSubtype_exc hC ?_; rw [hcB]) | wp_step)
  exact hq
theorem t_get_len {Q : PySem.Fin → Shared → Prop} (c : Cls h C N mN) (hx : h.get? x = some (accObj C dx vs k))
    (hq : Q (.done (.ret (.ref h.objs.size))) ⟨h.push { cls := .type "method-wrapper", data := .fields #[.builtin "list.__len__", .ref x] }, g, d, t, os⟩) :
    wpAny (model prog w) A (Builtin.«wrapper_descriptor.__get__» ⟨[.builtin "list.__len__", .ref x, .ref C], []⟩) Q E ⟨h, g, d, t, os⟩ := by
  unfold Builtin.«wrapper_descriptor.__get__»
  refine wpAny_bind (wpAny_of_eq (a := (.builtin "list.__len__", some (.ref x), some (.ref C))) (by kernel_rfl) ?_)
  change wpAny _ _ ((?c : Sem Unit) >>= fun _ => (newFields "method-wrapper" [.builtin "list.__len__", .ref x] >>= fun m => ret m)) _ _ _
  refine wpAny_bind ?_
  change wpAny _ _ (_ >>= _) _ _ _
  refine wpAny_bind (wpAny_of_eq (a := (("__len__" : Str), Value.type "list")) (by kernel_rfl) ?_)
  dsimp only
  refine wpAny_bind (acc_isInstance c hx ?_)
  rw [if_neg (by decide)]
  refine wpAny_pure ?_
  unfold newFields
  exact wpAny_bind (wpAny_newObj_type (wpAny_pure hq) (by size_fits))
theorem t_get_init {Q : PySem.Fin → Shared → Prop} (c : Cls h C N mN) (hx : h.get? x = some (accObj C dx vs k))
    (hq : Q (.done (.ret (.ref h.objs.size))) ⟨h.push { cls := .type "method-wrapper", data := .fields #[.builtin "list.__init__", .ref x] }, g, d, t, os⟩) :
    wpAny (model prog w) A (Builtin.«wrapper_descriptor.__get__» ⟨[.builtin "list.__init__", .ref x, .ref C], []⟩) Q E ⟨h, g, d, t, os⟩ := by
  unfold Builtin.«wrapper_descriptor.__get__»
  refine wpAny_bind (wpAny_of_eq (a := (.builtin "list.__init__", some (.ref x), some (.ref C))) (by kernel_rfl) ?_)
  change wpAny _ _ ((?c : Sem Unit) >>= fun _ => (newFields "method-wrapper" [.builtin "list.__init__", .ref x] >>= fun m => ret m)) _ _ _
  refine wpAny_bind ?_
  change wpAny _ _ (_ >>= _) _ _ _
  refine wpAny_bind (wpAny_of_eq (a := (("__init__" : Str), Value.type "list")) (by kernel_rfl) ?_)
  dsimp only
  refine wpAny_bind (acc_isInstance c hx ?_)
  rw [if_neg (by decide)]
  refine wpAny_pure ?_
  unfold newFields
  exact wpAny_bind (wpAny_newObj_type (wpAny_pure hq) (by size_fits))
theorem t_get_pop {Q : PySem.Fin → Shared → Prop} (c : Cls h C N mN) (hx : h.get? x = some (accObj C dx vs k))
    (hq : Q (.done (.ret (.ref h.objs.size))) ⟨h.push { cls := .type "builtin_function_or_method", data := .fields #[.builtin "list.pop", .ref x] }, g, d, t, os⟩) :
    wpAny (model prog w) A (Builtin.«method_descriptor.__get__» ⟨[.builtin "list.pop", .ref x, .ref C], []⟩) Q E ⟨h, g, d, t, os⟩ := by
  unfold Builtin.«method_descriptor.__get__»
  refine wpAny_bind (wpAny_of_eq (a := (.builtin "list.pop", some (.ref x), some (.ref C))) (by kernel_rfl) ?_)
  dsimp only
  rw [if_neg (by decide +kernel)]
  change wpAny _ _ ((?c : Sem Unit) >>= fun _ => (newFields "builtin_function_or_method" [.builtin "list.pop", .ref x] >>= fun m => ret m)) _ _ _
  refine wpAny_bind ?_
  change wpAny _ _ (_ >>= _) _ _ _
  refine wpAny_bind (wpAny_of_eq (a := (("pop" : Str), Value.type "list")) (by kernel_rfl) ?_)
  dsimp only
  refine wpAny_bind (acc_isInstance c hx ?_)
  rw [if_neg (by decide)]
  refine wpAny_pure ?_
  unfold newFields
  exact wpAny_bind (wpAny_newObj_type (wpAny_pure hq) (by size_fits))
end
theorem own_list_len : classOwn (.type "list") "__len__" = pure (some (.builtin "list.__len__")) := by kernel_rfl
theorem own_list_init : classOwn (.type "list") "__init__" = pure (some (.builtin "list.__init__")) := by kernel_rfl
theorem own_list_pop : classOwn (.type "list") "pop" = pure (some (.builtin "list.pop")) := by kernel_rfl
theorem type_list_len : typeOf (.builtin "list.__len__") = pure (.type "wrapper_descriptor") := by show builtinType _ = _; rw [builtinType_eq_fast]; kernel_rfl
theorem type_list_init : typeOf (.builtin "list.__init__") = pure (.type "wrapper_descriptor") := by show builtinType _ = _; rw [builtinType_eq_fast]; kernel_rfl
theorem slot_wrap_get : Slot "wrapper_descriptor" "__get__" "wrapper_descriptor.__get__" :=
  .of (owner := "wrapper_descriptor") (n := "__get__") (by rw [typeLookup_type, builtinLookup_eq_fast]; kernel_rfl) (by decide +kernel) (by decide +kernel) (by decide +kernel)
    (by first | exact .inl (by decide +kernel) | exact .inr (by decide +kernel)) (by rw [isSubtype_type]; kernel_rfl)
theorem slot_meth_get : Slot "method_descriptor" "__get__" "method_descriptor.__get__" :=
  .of (owner := "method_descriptor") (n := "__get__") (by rw [typeLookup_type, builtinLookup_eq_fast]; kernel_rfl) (by decide +kernel) (by decide +kernel) (by decide +kernel)
    (by first | exact .inl (by decide +kernel) | exact .inr (by decide +kernel)) (by rw [isSubtype_type]; kernel_rfl)
theorem entry_wrap_get : entryFor table "wrapper_descriptor.__get__" = some Builtin.«wrapper_descriptor.__get__» := entryFor_of_tree (by kernel_rfl)
theorem entry_meth_get : entryFor table "method_descriptor.__get__" = some Builtin.«method_descriptor.__get__» := entryFor_of_tree (by kernel_rfl)
theorem args_wrap_get (a b c : Value) : argsOk "wrapper_descriptor.__get__" ⟨[a, b, c], []⟩ := by unfold argsOk; kernel_rfl
theorem args_meth_get (a b c : Value) : argsOk "method_descriptor.__get__" ⟨[a, b, c], []⟩ := by unfold argsOk; kernel_rfl
end
section
set_option maxRecDepth 100000

noncomputable abbrev supObj (C x : Addr) : Obj := { cls := .type "super", dict := none, data := .fields #[.ref C, .ref x, .ref C], slots := #[] }
structure Bound (prog : Program) (w : World) (name : Str) (id BT D gid : String) (G : Builtin) : Prop where
  own : classOwn (.type "list") name = pure (some (.builtin id))
  ty : typeOf (.builtin id) = pure (.type D)
  slot : Slot D "__get__" gid
  entry : entryFor table gid = some G
  args : ∀ a b c : Value, argsOk gid ⟨[a, b, c], []⟩
  ncls : (name == ("__class__" : Str)) = false
  tree : ∀ {A : Around} {E : Value → Shared → Prop} {h : Heap} {g : Array GenState} {d : Drawn} {t : Nat} {os : OsState} {C N x dx : Addr} {mN : Str → Option Value} {vs : List Value} {k : Nat} {Q : PySem.Fin → Shared → Prop}, Cls h C N mN → h.get? x = some (accObj C dx vs k) →
    Q (.done (.ret (.ref h.objs.size))) ⟨h.push { cls := .type BT, data := .fields #[.builtin id, .ref x] }, g, d, t, os⟩ → wpAny (model prog w) A (G ⟨[.builtin id, .ref x, .ref C], []⟩) Q E ⟨h, g, d, t, os⟩
section
variable {prog : Program} {w : World} {A : Around} {E : Value → Shared → Prop} {h : Heap} {g : Array GenState} {d : Drawn} {t : Nat} {os : OsState}
variable {C N x dx so : Addr} {mN mA : Str → Option Value} {name : Str} {v : Value} {vs : List Value} {k : Nat} {id BT D gid : String} {G : Builtin}
theorem bound_len : Bound prog w "__len__" "list.__len__" "method-wrapper" "wrapper_descriptor" "wrapper_descriptor.__get__" Builtin.«wrapper_descriptor.__get__» :=
  ⟨own_list_len, type_list_len, slot_wrap_get, entry_wrap_get, args_wrap_get, by decide, fun c hx hq => t_get_len c hx hq⟩
theorem bound_init : Bound prog w "__init__" "list.__init__" "method-wrapper" "wrapper_descriptor" "wrapper_descriptor.__get__" Builtin.«wrapper_descriptor.__get__» :=
  ⟨own_list_init, type_list_init, slot_wrap_get, entry_wrap_get, args_wrap_get, by decide, fun c hx hq => t_get_init c hx hq⟩
theorem bound_pop : Bound prog w "pop" "list.pop" "builtin_function_or_method" "method_descriptor" "method_descriptor.__get__" Builtin.«method_descriptor.__get__» :=
  ⟨own_list_pop, PySem.F.type_list_pop, slot_meth_get, entry_meth_get, args_meth_get, by decide, fun c hx hq => t_get_pop c hx hq⟩

theorem sup_ga {tk : Tok} {Q : PySem.Fin → Shared → Prop} (b : Bound prog w name id BT D gid G) (c : Cls h C N mN) (ho : Looks (model prog w) h (opaqueClassAbove (.ref C)) none) (hx : h.get? x = some (accObj C dx vs k)) (hxC : x ≠ C)
    (hso : h.get? so = some (supObj C x)) (hq : Q (.done (.ret (.ref h.objs.size))) ⟨h.push { cls := .type BT, data := .fields #[.builtin id, .ref x] }, g, d, t, os⟩) :
    wpAny (model prog w) A (Builtin.«super.__getattribute__» ⟨[.ref so, .str name tk], []⟩) Q E ⟨h, g, d, t, os⟩ := by
  have hne : (Value.ref x == Value.ref C) = false := by simp [hxC]
  have hdt : (supObj C x).data = .fields #[.ref C, .ref x, .ref C] := rfl
  have f0 : (#[.ref C, .ref x, .ref C] : Array Value)[0]? = some (.ref C) := rfl
  have f1 : (#[.ref C, .ref x, .ref C] : Array Value)[1]? = some (.ref x) := rfl
  have f2 : (#[.ref C, .ref x, .ref C] : Array Value)[2]? = some (.ref C) := rfl
  have hmro : ∀ {Q : List Value → Shared → Prop}, Q [.ref C, .type "list", .type "object"] ⟨h, g, d, t, os⟩ → wpAny (model prog w) A (mroOf (.ref C)) Q E ⟨h, g, d, t, os⟩ := by
    intro Q hq
    obtain ⟨⟨nm, q, bs, sn, sub, ab, col, dd, k0, k1, k2, k3, k5, hC⟩, hn, hng, hnh⟩ := c
    exact wpAny_mroOf_exc hC hq
  have hdrop : List.drop 1 (List.dropWhile (fun x => x != Value.ref C) [Value.ref C, Value.type "list", Value.type "object"]) = [Value.type "list", Value.type "object"] := by
    rw [List.dropWhile_cons]
    simp
  unfold Builtin.«super.__getattribute__»
  have hcls := b.ncls
  repeat (first
    | (with_reducible refine wpAny_field hso hdt f0 ?_) | (with_reducible refine wpAny_field hso hdt f1 ?_) | (with_reducible refine wpAny_field hso hdt f2 ?_)
    | (with_reducible refine ks_wpAny_notOpaque ho ?_)
    | (with_reducible refine hmro ?_; rw [hdrop, List.forIn_cons]; refine wpAny_bind (wpAny_bind (wpAny_bind (wpAny_of_eq b.own ?_))))
    | (with_reducible refine wpAny_of_eq b.ty ?_)
    | (with_reducible refine wpAny_of_eq b.slot.lookup ?_)
    | (with_reducible refine wpAny_call_entry b.slot (show Shared.TypeIs _ (.builtin id) D from b.ty) b.entry ?_ (b.args _ _ _))
    | (simp only [hcls, hne, Bool.or_false, Bool.false_eq_true, if_false])
    | wp_step
    | dsimp only)
  refine codeAny_call_builtin b.slot.plain b.entry (b.slot.check _ _ _ _ _ _ _ _ (show Shared.TypeIs _ (.builtin id) D from b.ty) (b.args _ _ _) (b.tree c hx ?_))
  repeat wp_step
  exact hq
theorem sup_method {pl : Sem Bool} {Q : Value × List Value → Shared → Prop} (b : Bound prog w name id BT D gid G) (c : Cls h C N mN) (ho : Looks (model prog w) h (opaqueClassAbove (.ref C)) none) (hx : h.get? x = some (accObj C dx vs k)) (hxC : x ≠ C)
    (hso : h.get? so = some (supObj C x)) (hq : Q (.ref h.objs.size, []) ⟨h.push { cls := .type BT, data := .fields #[.builtin id, .ref x] }, g, d, t + 1, os⟩) :
    wpAny (model prog w) A (getMethod (.ref so) name pl) Q E ⟨h, g, d, t, os⟩ := by
  have hlk := F.ks_slot_super_ga.lookup
  have hcan := F.ks_canon_super_ga
  have hT : ∀ t', (⟨h, g, d, t', os⟩ : Shared).TypeIs (.ref so) "super" := fun _ => ⟨_, hso, rfl⟩
  unfold getMethod
  refine wpAny_bind (wpAny_specialOf (hT _) hlk ?_)
  show wpAny _ _ (if (Manifest.canonical "super.__getattribute__" != "object.__getattribute__") = true then _ else _) _ _ _
  rw [if_pos hcan]
  unfold getAttr getAttrBy
  refine wpAny_bind (wpAny_bind (wpAny_mkText (wpAny_holding (wpAny_bind (wpAny_typeOf (hT _) (wpAny_bind (wpAny_of_eq hlk ?_)))))))
  show wpAny _ _ (getAttrByItsOwn (.ref so) (.str name t) (.type "super") (.builtin "super.__getattribute__") true false) _ _ _
  unfold getAttrByItsOwn hookBefore callGetattribute boundAndCalled
  refine wpAny_bind (wpAny_of_eq (show (if onTheHeap (.type "super") then typeLookup (.type "super") "__getattr__" else pure none) = pure none from rfl) ?_)
  refine wpAny_bind (wpAny_attempt (wpAny_holding ?_))
  show wpAny _ _ (bindSpecial (.builtin "super.__getattribute__") (.ref so) >>= _) _ _ _
  refine wpAny_bind (wpAny_of_eq (F.ks_slot_super_ga.bind _) ?_)
  refine wpAny_mono (Q := fun v s' => v = .ref h.objs.size ∧ s' = ⟨h.push { cls := .type BT, data := .fields #[.builtin id, .ref x] }, g, d, t + 1, os⟩) (E := fun _ _ => False)
    (wpAny_call_entry F.ks_slot_super_ga (hT _) F.ks_entry_super_ga (sup_ga b c ho hx hxC hso ⟨_, rfl, rfl, rfl⟩) (F.ks_gaArgs_super _ _)) (fun v s' hv => ?_) fun _ _ z => z.elim
  obtain ⟨rfl, rfl⟩ := hv
  exact wpAny_pure (wpAny_pure hq)
end
end
section
set_option maxRecDepth 100000
section
variable {prog : Program} {w : World} {A : Around} {E : Value → Shared → Prop} {h : Heap} {g : Array GenState} {d : Drawn} {t : Nat} {os : OsState}
variable {C N x dx m : Addr} {mN mA : Str → Option Value} {name : Str} {v : Value} {vs : List Value} {k : Nat} {id BT : String} {B : Builtin}

theorem callWith_bound {env : Env} {pos : Pos} {Q : Value → Shared → Prop} (hBT : BT = "method-wrapper" ∨ BT = "builtin_function_or_method") (hm : h.get? m = some { cls := .type BT, data := .fields #[.builtin id, .ref x] })
    (hchk : wpAny (model prog w) A.in1 (checkBoundCall id ⟨[.ref x], []⟩) (fun _ s' => s' = ⟨h, g, d, t, os⟩) (fun _ _ => False) ⟨h, g, d, t, os⟩) (plain : plainId id = true) (entry : entryFor table id = some B)
    (hB : wpAny (model prog w) A.in1 (B ⟨[.ref x], []⟩) (fun fin s' => ∃ v, fin = .done (.ret v) ∧ Q v s') E ⟨h, g, d, t, os⟩) :
    wpAny (model prog w) A (callWith pos (.ref m) [] (backTo pos (starEach [] env)) []) Q E ⟨h, g, d, t, os⟩ := by
  show wpAny _ A (callWith pos (.ref m) [] [] []) Q E _
  unfold callWith
  refine wpAny_bind (wpAny_holding (PySem.evalArgs_none ?_))
  refine wpAny_bind (wpAny_standAt ?_)
  show wpAny _ _ (keeperOf (.ref m) >>= _) _ _ _
  unfold keeperOf
  rcases hBT with rfl | rfl
  all_goals
    repeat (any_goals (first | with_reducible refine wpAny_load' hm ?_ | wp_step))
    refine codeAny_of_tree ?_
    show wpAny _ A.in1 (callAny (.ref m) ⟨[], []⟩) _ _ _
    unfold callAny
    refine wpAny_bind (wpAny_load' hm ?_)
    dsimp only
    rw [if_pos (by decide)]
    simp only [List.getElem?_toArray, List.getElem?_cons_zero, List.getElem?_cons_succ]
    rw [if_pos (by decide)]
    refine wpAny_bind (wpAny_mono hchk (fun _ s' e => ?_) fun _ _ e => e.elim)
    subst e
    refine wpAny_pure ⟨plainId_quiet plain _, codeAny_builtin entry ?_⟩
    rw [Around.under_plainId plain _]
    refine wpAny_mono hB (fun fin s' q => ?_) fun _ _ e => e
    obtain ⟨v, rfl, q⟩ := q
    exact wpAny_bind (wpAny_holding (wpAny_point (wpAny_pure q)))

theorem chk_len (x : Addr) : checkBoundCall "list.__len__" ⟨[.ref x], []⟩ = pure () := by kernel_rfl
theorem chk_init (x : Addr) : checkBoundCall "list.__init__" ⟨[.ref x], []⟩ = pure () := by kernel_rfl
theorem chk_pop {M : Model} {A : Around} {Q : Unit → Shared → Prop} (c : Cls h C N mN) (hx : h.get? x = some (accObj C dx vs k)) (hqn : ∃ o cd, h.get? C = some o ∧ o.data = .cls cd ∧ cd.qualname = "_Accumulator" ∧ o.cls = .type "type")
    (hq : Q () ⟨h, g, d, t, os⟩) : wpAny M A (checkBoundCall "list.pop" ⟨[.ref x], []⟩) Q E ⟨h, g, d, t, os⟩ := by
  obtain ⟨⟨nm, q, bs, sn, sub, ab, col, dd, k0, k1, k2, k3, k5, hC⟩, hn, hng, hnh⟩ := c
  obtain ⟨oC, cd, hC', hcd, hqn, hct⟩ := hqn
  have hcB : (Value.ref C :: [Value.type "list", Value.type "object"]).contains (.type "module") = false := by simp
  unfold checkBoundCall
  rw [show Manifest.signature? "list.pop" = some ⟨.positional, "list.pop", "pop", .self, [⟨"index", .posOnly, false⟩]⟩ from by kernel_rfl]
  rw [show builtinKind "list.pop" = some .method from by decide +kernel]
  dsimp only
  rw [if_neg (by decide)]
  refine wpAny_bind ?_
  have hinst : wpAny M A (isInstance (.ref x) (.type "module")) (fun b s' => b = false ∧ s' = ⟨h, g, d, t, os⟩) E ⟨h, g, d, t, os⟩ := by
    unfold isInstance
    repeat (first | (with_reducible refine wpAny_loadPart_at hx ?_) | (with_reducible refine wpAny_isSubtype_exc hC ?_; rw [hcB]) | wp_step)
    exact ⟨rfl, rfl⟩
  refine wpAny_mono hinst (fun b s' hb => ?_) fun _ _ e => e
  obtain ⟨rfl, rfl⟩ := hb
  rw [if_neg (by decide +kernel)]
  refine wpAny_bind (ks_wpAny_isType_inst hx (fun c q => nomatch q) ?_)
  rw [if_neg Bool.false_ne_true]
  refine wpAny_bind (acc_typeOf hx ?_)
  dsimp only
  refine wpAny_bind ?_
  unfold classData
  refine wpAny_bind (wpAny_load hC' ?_)
  rw [hcd]
  dsimp only
  refine wpAny_pure (wpAny_bind ?_)
  simp only [typeOf]
  refine wpAny_bind (wpAny_load hC' (wpAny_pure ?_))
  rw [hct, if_pos (by decide), hqn]
  exact wpAny_of_eq (by kernel_rfl) hq
end
end
section
set_option maxRecDepth 100000
section
variable {prog : Program} {w : World} {A : Around} {E : Value → Shared → Prop} {h₀ : Heap} {mg mb : Str → Option Value} {s : Shared}

theorem Call_getmAt {env : Env} {c : Code} {o : Expr} {name : Str} {apos pos : Pos} {args : List Expr} {Q : Value → Shared → Prop}
    (h : _root_.PySem.wpAt (model prog w) A c (attributeBase o name env (eval o env)) (fun ov s₁ => ∀ pl, wpAny (model prog w) A (getMethod ov name pl) (fun fx s₂ => wpAny (model prog w) A (callWith pos fx.1 fx.2 (backTo pos (starEach args env)) []) Q E s₂) E s₁) E s)
    (hfew : ((backTo pos (starEach args env)).all (fun x => !x.1) && (backToKw pos (keywordEach [] env)).all (fun x => x.1.isSome)
      && decide (args.length + ([] : List Keyword).length + (if ([] : List Keyword).isEmpty then 0 else 1) < 30)) = true := by kernel_rfl!)
    (hline : (apos.endLine == pos.line) = true := by kernel_rfl!) :
    _root_.PySem.wpAt (model prog w) A c (eval (.Call (.Attribute o name apos) args [] pos) env) Q E s := by
  rw [arm_eval_Call]
  refine _root_.PySem.wpAt_bind (ks_wpAt_mono h (fun ov s₁ h₁ => ?_) fun _ _ e => e)
  refine _root_.PySem.wpAt_of_wpAny (wpAny_bind (wpAny_standAt ?_))
  have hform : methodCallForm (args.length + ([] : List Keyword).length) (backTo pos (starEach args env)) (backToKw pos (keywordEach [] env)) = true := hfew
  have hpos : methodCallPos true o env apos pos = pure pos := by unfold methodCallPos; simp [hline]
  unfold methodCall
  rw [hform]
  refine wpAny_bind (wpAny_holding (wpAny_mono (h₁ _) (fun fx s₂ h₂ => ?_) fun _ _ e => e))
  exact wpAny_bind (wpAny_of_eq hpos h₂)

structure SupOk (prog : Program) (w : World) (h₀ : Heap) (mg : Str → Option Value) (C cc : Addr) : Prop where
  file : (prog.main.file == ("/claim/cut.py" : Str)) = true
  top : (prog.main.scope.names.lookup ("super" : Str)).isSome = false
  opaq : Looks (model prog w) h₀ (opaqueClassAbove (.ref C)) none
  cell : h₀.IsCell cc (some (.ref C))
  nosup : mg "super" = none
  qn : ∃ o cd, h₀.get? C = some o ∧ o.data = .cls cd ∧ cd.qualname = "_Accumulator" ∧ o.cls = .type "type"
theorem super_call {env : Env} {body : List Stmt} {p0 p1 apos pos : Pos} {f cc C N x dx : Addr} {mN : Str → Option Value} {X : Addr → Prop} {qs : List PV} {name : Str} {id BT D gid : String} {G B : Builtin} {fd : FuncData} {of oc : Obj} {ar : Arg} {vs : Array Value} {tf : Tok} {cda : Addr} {Q : Value → Shared → Prop}
    (K : Glb h₀ mg mb) (U : SupOk prog w h₀ mg C cc) (b : Bound prog w name id BT D gid G) (hBT : BT = "method-wrapper" ∨ BT = "builtin_function_or_method") (a : AccAt s.heap X x C N dx mN qs) (hxC : x ≠ C) (gd : ∀ b o, h₀.get? b = some o → s.heap.get? b = some o)
    (hk : EnvOk env) (hks : env.kindOf "super" = some .globalImplicit) (hkc : env.kindOf "__class__" = some .free) (hcl : env.cells.lookup ("__class__" : Str) = some cc)
    (hfu : env.func = some f) (hf : s.heap.get? f = some of) (hfd : of.data = .func fd) (hp : (fd.params.posonlyargs ++ fd.params.args).head? = some ar) (hself : VarAt s.heap env ar.arg (.ref x))
    (hco : env.code = .ref cda) (hcc : s.heap.get? cda = some oc) (hoc : oc.data = .fields vs) (hvs : vs[2]? = some (.str "/claim/cut.py" tf))
    (plain : plainId id = true) (entry : entryFor table id = some B)
    (hchk : ∀ h' tk, (∀ b o, s.heap.get? b = some o → h'.get? b = some o) → wpAny (model prog w) A.in1 (checkBoundCall id ⟨[.ref x], []⟩) (fun _ s' => s' = { s with heap := h', toks := tk }) (fun _ _ => False) { s with heap := h', toks := tk })
    (hB : ∀ h' tk, (∀ b o, s.heap.get? b = some o → h'.get? b = some o) → wpAny (model prog w) A.in1 (B ⟨[.ref x], []⟩) (fun fin s' => ∃ v, fin = .done (.ret v) ∧ Q v s') E { s with heap := h', toks := tk })
    (hfew : ((backTo pos (starEach [] env)).all (fun x => !x.1) && (backToKw pos (keywordEach [] env)).all (fun x => x.1.isSome)
      && decide (([] : List Expr).length + ([] : List Keyword).length + (if ([] : List Keyword).isEmpty then 0 else 1) < 30)) = true := by kernel_rfl!)
    (hline : (apos.endLine == pos.line) = true := by kernel_rfl!) :
    _root_.PySem.wpAt (model prog w) A (.func body env) (eval (.Call (.Attribute (.Call (.Name "super" p0) [] [] p1) name apos) [] [] pos) env) Q E s := by
  refine Call_getmAt ?_ hfew hline
  obtain ⟨hh, g, d, t, os⟩ := s
  obtain ⟨oC, cd, hC1, hC2, hC3, hC4⟩ := U.qn
  obtain ⟨ws, k, ex, rx⟩ := a.self
  refine ks_wpAt_super_base hks hkc b.ncls hfu hf hfd hp hco hcc hoc hvs U.file U.top ?_
  refine ks_loadName_global hk.kind hks (loadGlobal_builtin (by rw [hk.globals]; exact K.g.keeps gd) U.nosup (by rw [hk.builtins]; exact K.b.keeps gd) ((K.boot _ (by decide)).trans PyProof.Rows.Boot.super) ⟨rfl, ?_⟩)
  refine wpAny_loadName_free hk.kind hkc hcl (U.cell.keeps gd) ?_
  refine hself.load hk ?_
  refine ks_wpAny_isType_cls (gd _ _ hC1) hC2 ⟨rfl, ?_⟩
  refine ks_wpAny_call_super (gd _ _ hC1) hC2 ex rfl (fun c e => nomatch e) ?_ (fun h' e kk => ?_)
  · intro A Q E s' k' q
    obtain ⟨nm, qq, bs, sn, sub, ab, col, dd, k0, k1, k2, k3, k5, hC⟩ := a.cls.obj
    obtain ⟨hh', g', d', t', os'⟩ := s'
    refine wpAny_isSubtype_exc (k' _ _ hC) ?_
    rw [List.contains_cons]
    simpa using q
  · intro pl
    have ex' := kk _ _ ex
    refine sup_method b (a.cls.keeps kk) ((U.opaq.keeps gd).keeps kk) ex' hxC e ?_
    dsimp only
    have kk2 : ∀ b o, hh.get? b = some o → (h'.push { cls := .type BT, data := .fields #[.builtin id, .ref x] }).get? b = some o := fun b o e => Heap.get?_push_of_some _ (kk b o e)
    exact callWith_bound hBT (Heap.get?_push_size _ rfl) (hchk _ _ kk2) plain entry (hB _ _ kk2)
end
end
section
set_option maxRecDepth 100000
set_option maxHeartbeats 4000000
noncomputable def acAr (i : Nat) : Arg := ((acA i).posonlyargs ++ (acA i).args).headD ⟨"", none, default⟩
section
variable {prog : Program} {w : World} {h₀ : Heap} {mg mb : Str → Option Value} {A : Around} {s : Shared}

theorem count_call {f cc x C N dx : Addr} {mN : Str → Option Value} {X : Addr → Prop} {qs : List PV} (G : Glb h₀ mg mb) (U : SupOk prog w h₀ mg C cc) (M : Meth h₀ f "part_count" "_Accumulator.part_count" (acA 8) (acB 8) (acS 8) [("__class__", cc)] .none)
    (C0 : XOk h₀ X s.heap) (R : Room A 6) (a : AccAt s.heap X x C N dx mN qs) (hxC : x ≠ C) :
    wpAny (model prog w) A (call (.ref f) [.ref x]) (fun r s' => Keeps s s' ∧ ∃ t, r = .int (qs.length : Int) t) NoE s := by
  refine call_meth (binds := (["self"] : List Str).zip [.ref x]) G M C0.gd R.d (fun doc pm cdv ct => .of_eq (by kernel_rfl!)) ?_ (fun cda ct doc pm oc vs tf h₁ hc1 hc2 hc3 hf hns keep => ?_) ?_
  · intro y hy
    simp only [List.zip_cons_cons, List.mem_cons, List.zip_nil_left, List.not_mem_nil, or_false] at hy
    rcases hy with rfl
    kernel_rfl!
  · obtain ⟨of, hf1, hf2⟩ := hf
    have C1 := meth_cok (h₀ := h₀) (env := callEnv (fnX "part_count" "_Accumulator.part_count" (acA 8) (acB 8) (acS 8) [("__class__", cc)] .none .none doc pm none (.ref cda) ct) s.heap.objs.size f) (names := ["self"]) (vals := [.ref x]) (ks := [.raw (.ref x)]) (Γ := [("self", .raw (.ref x))]) rfl ⟨by kernel_rfl!, rfl, rfl⟩ rfl (.cons rfl .nil) rfl hns (by decide) (by
      intro n hn
      simp only [List.mem_cons, List.not_mem_nil, or_false] at hn
      rcases hn with rfl; kernel_rfl!) keep C0
    obtain ⟨v1, hv1, hv2⟩ := C1.has "self" (.raw (.ref x)) (by walk_at "lk")
    obtain rfl : v1 = .ref x := hv2
    have a1 := a.keeps keep (fun _ q => q) fun _ q => .inl q
    have gd1 : ∀ b o, h₀.get? b = some o → h₁.get? b = some o := fun b o e => keep b o (C0.gd b o e)
    conv in execs (acB 8) _ => arg 1; whnf
    refine ks_wpAt_execs_cons (ks_wpAt_Return_some ?_)
    refine super_call (s := { s with heap := h₁, toks := _ }) (ar := acAr 8) G U bound_len (.inl rfl) a1 hxC gd1 C1.ok (by kernel_rfl!) (by kernel_rfl!) (by kernel_rfl!) rfl (gd1 _ _ hf1) hf2 (by kernel_rfl!) ?_ rfl (gd1 _ _ hc1) hc2 hc3 (by decide +kernel) PySem.F.entry_list_len ?_ ?_ (by kernel_rfl!) (by kernel_rfl!)
    · rw [show (acAr 8).arg = "self" by kernel_rfl!]
      exact hv1
    · intro h' tk kk
      exact wpAny_of_eq (chk_len x) rfl
    · intro h' tk kk
      obtain ⟨ws, k, ex, rx⟩ := a1.self
      refine t_len (kk _ _ ex) fun t' => ⟨_, rfl, ?_⟩
      rw [rx.length]
      exact ⟨⟨h', _, rfl, fun b o e => kk b o (keep b o e)⟩, t', rfl⟩
  · have : (acS 8).names.all (fun x => x.2 != .cell) = true := by kernel_rfl!
    exact names_cell this
end
end
section
set_option maxRecDepth 100000
set_option maxHeartbeats 4000000
section
variable {prog : Program} {w : World} {h₀ : Heap} {mg mb : Str → Option Value} {A : Around} {s : Shared}

theorem pop_call {f fC cc x C N dx : Addr} {mN : Str → Option Value} {X : Addr → Prop} {qs : List PV} (G : Glb h₀ mg mb) (U : SupOk prog w h₀ mg C cc) (M : Meth h₀ f "pop" "_Accumulator.pop" (acA 3) (acB 3) (acS 3) [("__class__", cc)] .none)
    (MC : Meth h₀ fC "part_count" "_Accumulator.part_count" (acA 8) (acB 8) (acS 8) [("__class__", cc)] .none) (hpc : mN "part_count" = some (.ref fC))
    (C0 : XOk h₀ X s.heap) (R : Room A 8) (a : AccAt s.heap X x C N dx mN qs) (hxC : x ≠ C) (hsz : qs.length ≤ 100) :
    wpAny (model prog w) A (call (.ref f) [.ref x]) (fun r s' => MRes s s' x C dx X qs.dropLast r (qs.getLastD (.tup [.str "", .str ""]))) NoE s := by
  refine call_meth (binds := (["self"] : List Str).zip [.ref x]) G M C0.gd R.d (fun doc pm cdv ct => .of_eq (by kernel_rfl!)) ?_ (fun cda ct doc pm oc vs tf h₁ hc1 hc2 hc3 hf hns keep => ?_) ?_
  · intro y hy
    simp only [List.zip_cons_cons, List.mem_cons, List.zip_nil_left, List.not_mem_nil, or_false] at hy
    rcases hy with rfl
    kernel_rfl!
  · obtain ⟨of, hf1, hf2⟩ := hf
    have C1 := meth_cok (h₀ := h₀) (env := callEnv (fnX "pop" "_Accumulator.pop" (acA 3) (acB 3) (acS 3) [("__class__", cc)] .none .none doc pm none (.ref cda) ct) s.heap.objs.size f) (names := ["self"]) (vals := [.ref x]) (ks := [.raw (.ref x)]) (Γ := [("self", .raw (.ref x))]) rfl ⟨by kernel_rfl!, rfl, rfl⟩ rfl (.cons rfl .nil) rfl hns (by decide) (by
      intro n hn
      simp only [List.mem_cons, List.not_mem_nil, or_false] at hn
      rcases hn with rfl; kernel_rfl!) keep C0
    obtain ⟨v1, hv1, hv2⟩ := C1.has "self" (.raw (.ref x)) (by walk_at "lk")
    obtain rfl : v1 = .ref x := hv2
    have a1 := a.keeps (X' := X) keep (fun _ q => q) fun _ q => .inl q
    have gd1 : ∀ b o, h₀.get? b = some o → h₁.get? b = some o := fun b o e => keep b o (C0.gd b o e)
    have R' : Room (A.deeper (callEnv (fnX "pop" "_Accumulator.pop" (acA 3) (acB 3) (acS 3) [("__class__", cc)] .none .none doc pm none (.ref cda) ct) s.heap.objs.size f)) 7 := R.deeper (n := 7) _
    conv in execs (acB 3) _ => arg 1; whnf
    refine ks_wpAt_execs_cons (_root_.PySem.wpAt_of_wpAny (wpAny_If (wpAny_isTrue_Compare1 ?_ (by kernel_rfl!))))
    refine Call_getm ?_
    refine wpAny_Name (hv1.load C1.ok fun pl => ?_) (by kernel_rfl!)
    obtain ⟨mA, I, hz⟩ := a1.inst
    obtain ⟨o, pm', doc', cda', ct', oc', vs', tf', e1, e2, e3, e4⟩ := MC.at_
    refine acc_method a1.cls hpc (gd1 _ _ e1) e2 lk_list_count I (hz _ (by decide +kernel)) ?_
    refine callWith_meth0 e3 (gd1 _ _ e1) ?_
    have X1 : XOk h₀ X h₁ := ⟨gd1, fun b q => ⟨(C0.xok b q).1, by obtain ⟨o, ho⟩ := Option.isSome_iff_exists.mp (C0.xok b q).2; rw [keep b o ho]; rfl⟩⟩
    refine wpAny_mono (count_call (s := { s with heap := h₁, toks := _ }) G U MC X1 (R'.le (by omega)) a1 hxC) (fun r s2 h2 => ?_) fun _ _ e => e
    obtain ⟨k2, t2, rfl⟩ := h2
    have C2 := C1.keep k2
    obtain ⟨hh, tk, rfl, kk2⟩ := k2
    refine wpAny_Constant_int ?_
    refine wpAny_mono (Cm_eqI (prog := prog) (w := w) (h₀ := h₀) (a := (qs.length : Int)) (b := 0) X _ _ _ _ ⟨C2.gd, fun b q => C2.xok b (.inl q)⟩ (R'.le (by omega)) (.int _ _) (.int _ _)) (fun c s3 h3 => ?_) fun _ _ e => e
    obtain ⟨k3, r3⟩ := h3
    obtain rfl := r3.isBool
    refine wpAny_truthy_bool ?_
    have C3 := C2.keep (keeps_trans (keeps_toks _ _) k3)
    obtain ⟨h3, tk3, rfl, kk3⟩ := k3
    have keep3 : ∀ b o, s.heap.get? b = some o → h3.get? b = some o := fun b o e => kk3 b o (kk2 b o (keep b o e))
    have a3 := a.keeps (X' := X) keep3 (fun _ q => q) fun _ q => .inl q
    have gd3 : ∀ b o, h₀.get? b = some o → h3.get? b = some o := fun b o e => keep3 b o (C0.gd b o e)
    have hself3 : VarAt h3 _ "self" (.ref x) := (hv1.keep (s := { s with heap := h₁ }) (s' := { s with heap := h3 }) ⟨h3, _, rfl, fun b o e => kk3 b o (kk2 b o e)⟩)
    rcases List.eq_nil_or_concat qs with rfl | ⟨qs', q, rfl⟩
    · rw [show ((([] : List PV).length : Int) == 0) = true from rfl, if_pos rfl]
      refine wpAny_execs_cons (wpAny_Return_some ?_)
      refine wpAny_mono ((?ex : Ex prog w h₀ 7 _ _ _ _ (.tup [.str "", .str ""])) _ _ R' C3) (fun v s4 h4 => ?_) fun _ _ e => e
      case ex => walk_at "ex"
      obtain ⟨⟨h4, tk4, rfl, kk4⟩, r4⟩ := h4
      have a4 := a3.keeps (X' := X) kk4 (fun _ q => q) fun _ q => .inl q
      exact ⟨⟨h4, tk4, rfl⟩, fun b o _ e => kk4 b o (keep3 b o e), a4.self, r4.narrow fun _ q => .inl q⟩
    · rw [show (((qs'.concat q).length : Int) == 0) = false by simp; omega, if_neg Bool.false_ne_true]
      refine wpAny_execs_nil ?_
      refine ks_wpAt_execs_cons (ks_wpAt_Return_some ?_)
      obtain ⟨ws, k, ex, rx⟩ := a3.self
      rw [List.concat_eq_append] at rx hsz
      obtain ⟨ws', y, rfl⟩ : ∃ ws' y, ws = ws' ++ [y] := by
        rcases List.eq_nil_or_concat ws with rfl | ⟨ws', y, rfl⟩
        · have := rx.length; simp at this
        · exact ⟨ws', y, List.concat_eq_append⟩
      refine super_call (s := { s with heap := h3, toks := _ }) (ar := acAr 3) G U bound_pop (.inr rfl) a3 hxC gd3 C1.ok (by kernel_rfl!) (by kernel_rfl!) (by kernel_rfl!) rfl (gd3 _ _ hf1) hf2 (by kernel_rfl!) ?_ rfl (gd3 _ _ hc1) hc2 hc3 (by decide +kernel) PySem.F.entry_list_pop ?_ ?_ (by kernel_rfl!) (by kernel_rfl!)
      · rw [show (acAr 3).arg = "self" by kernel_rfl!]
        exact hself3
      · intro h' tk kk
        exact chk_pop (a3.cls.keeps kk) (kk _ _ ex) (by
          obtain ⟨o, cd, z1, z2, z3, z4⟩ := U.qn
          exact ⟨o, cd, kk _ _ (gd3 _ _ z1), z2, z3, z4⟩) rfl
      · intro h' tk kk
        have hlen := rx.length
        simp only [List.length_append, List.length_cons, List.length_nil] at hlen hsz
        refine t_pop (kk _ _ ex) (by omega) fun h5 k5 hk5 hx5 => ⟨_, rfl, ?_⟩
        have m5 : ∀ b o, ¬ X b → h3.get? b = some o → h5.get? b = some o ∧ ¬ X b := fun b o nb e => ⟨by rw [hk5 b fun q => nb (q ▸ a.xX)]; exact kk b o e, nb⟩
        have rx1 : RdL h3 X ws' qs' := by
          have := rx.take qs'.length
          rwa [List.take_left' (by omega), List.take_left' rfl] at this
        have rx2 : Rd h3 X y q := by
          obtain ⟨v, hv, hr⟩ := rx.get (i := qs'.length) (p := q) (by simp)
          rw [show qs'.length = ws'.length by omega] at hv
          simp at hv
          exact hv ▸ hr
        refine ⟨⟨h5, _, rfl⟩, fun b o hb e => ?_, ⟨ws', k5, hx5, ?_⟩, ?_⟩
        · show h5.get? b = some o
          rw [hk5 b hb]; exact kk b o (keep3 b o e)
        · rw [List.concat_eq_append, List.dropLast_concat]
          exact rx1.mono m5
        · rw [List.concat_eq_append, List.getLastD_concat]
          exact rx2.mono m5
  · have : (acS 3).names.all (fun x => x.2 != .cell) = true := by kernel_rfl!
    exact names_cell this
end
end
section
set_option maxRecDepth 100000
set_option maxHeartbeats 4000000
theorem store_list : StoreFacts "list" [.type "list", .type "object"] "object.__setattr__" "object" where
  mro := PySem.F.mro_list
  slot := .of (owner := "object") (n := "__setattr__") (by rw [typeLookup_type, builtinLookup_eq_fast]; kernel_rfl) (by decide +kernel) (by decide +kernel) (by decide +kernel)
    (by first | exact .inl (by decide +kernel) | exact .inr (by decide +kernel)) (by rw [isSubtype_type]; kernel_rfl)
  entry := PySem.F.entry_object_sa
  kind := by decide +kernel
  split := by decide +kernel
  hasOwner := by decide +kernel
  args := fun a b c => by unfold argsOk; kernel_rfl
  passes := fun self => by kernel_rfl
theorem lk_list_isz : typeLookup (.type "list") "_initial_size" = pure none := by rw [typeLookup_type, builtinLookup_eq_fast]; kernel_rfl
section
variable {prog : Program} {w : World} {h₀ : Heap} {mg mb : Str → Option Value} {A : Around} {s : Shared}
theorem binds_init {T x : Addr} {o : Obj} {t : Tok} {n : Nat} {doc pm cdv ct : Value} {cc : Addr} (hT1 : s.heap.get? T = some o) (hT2 : o.data = .seq #[.int 0 t] n) :
    BindsTo s (fnX "__init__" "_Accumulator.__init__" (acA 0) (acB 0) (acS 0) [("__class__", cc)] (.ref T) .none doc pm none cdv ct) ⟨[.ref x], []⟩ ((["self", "initial_size"] : List Str).zip [.ref x, .int 0 t]) := by
  conv in acA 0 => whnf
  exact .of_defaults (T := T) (items := #[.int 0 t]) rfl hT1 hT2 rfl rfl
theorem init_call {f T cc x C N dx : Addr} {mN : Str → Option Value} {X : Addr → Prop} (G : Glb h₀ mg mb) (U : SupOk prog w h₀ mg C cc) (M : Meth h₀ f "__init__" "_Accumulator.__init__" (acA 0) (acB 0) (acS 0) [("__class__", cc)] (.ref T))
    (hT : ∃ o n t, h₀.get? T = some o ∧ o.data = .seq #[.int 0 t] n) (hsa : mN "__setattr__" = none) (his : mN "_initial_size" = none)
    (hc0 : Cls h₀ C N mN) (C0 : XOk h₀ X s.heap) (R : Room A 6) (a : AccAt s.heap X x C N dx mN []) (he : ∀ mA, s.heap.Ns1 dx mA → mA = fun _ => none) (hxC : x ≠ C) (hd0 : h₀.get? dx = none) :
    wpAny (model prog w) A (call (.ref f) [.ref x]) (fun r s' => r = .none ∧ (∃ h tk, s' = { s with heap := h, toks := tk }) ∧ (∀ b o, b ≠ x → b ≠ dx → s.heap.get? b = some o → s'.heap.get? b = some o) ∧ AccAt s'.heap X x C N dx mN []) NoE s := by
  obtain ⟨oT, nT, tT, hT1, hT2⟩ := hT
  refine call_meth (binds := (["self", "initial_size"] : List Str).zip [.ref x, .int 0 tT]) G M C0.gd R.d (fun doc pm cdv ct => binds_init (C0.gd _ _ hT1) hT2) ?_ (fun cda ct doc pm oc vs tf h₁ hc1 hc2 hc3 hf hns keep => ?_) ?_
  · intro y hy
    simp only [List.zip_cons_cons, List.mem_cons, List.zip_nil_left, List.not_mem_nil, or_false] at hy
    rcases hy with rfl | rfl <;> kernel_rfl!
  · obtain ⟨of, hf1, hf2⟩ := hf
    have C1 := meth_cok (h₀ := h₀) (env := callEnv (fnX "__init__" "_Accumulator.__init__" (acA 0) (acB 0) (acS 0) [("__class__", cc)] (.ref T) .none doc pm none (.ref cda) ct) s.heap.objs.size f) (names := ["self", "initial_size"]) (vals := [.ref x, .int 0 tT]) (ks := [.raw (.ref x), .pv (.int 0)]) (Γ := [("self", .raw (.ref x)), ("initial_size", .pv (.int 0))]) rfl ⟨by kernel_rfl!, rfl, rfl⟩ rfl (.cons rfl (.cons (.int 0 tT) .nil)) rfl hns (by decide) (by
      intro n hn
      simp only [List.mem_cons, List.not_mem_nil, or_false] at hn
      rcases hn with rfl | rfl <;> kernel_rfl!) keep C0
    conv in execs (acB 0) _ => arg 1; whnf
    have frL : s.heap.get? s.heap.objs.size = none := by
      cases e : s.heap.get? s.heap.objs.size with
      | none => rfl
      | some o => exact absurd (Heap.lt_size e) (Nat.lt_irrefl _)
    have neL : ∀ b o, s.heap.get? b = some o → b ≠ s.heap.objs.size := fun b o e q => by rw [q, frL] at e; cases e
    obtain ⟨ws0, k0, ex0, rx0⟩ := a.self
    obtain rfl : ws0 = [] := by cases rx0; rfl
    obtain ⟨mA0, hd0', hz0⟩ := a.dict
    have hxL := neL _ _ ex0
    have hdL : dx ≠ s.heap.objs.size := by
      obtain ⟨o, es, ep, e, r⟩ := hd0'
      exact neL _ _ e
    have a1 := a.keeps (X' := X) keep (fun _ q => q) fun _ q => .inl q
    have ex1 := keep _ _ ex0
    have hd1 : h₁.Ns1 dx mA0 := hd0'.keeps keep
    have hm0 : mA0 = fun _ => none := he _ hd0'
    subst hm0
    obtain ⟨v1, hv1, hv2⟩ := C1.has "self" (.raw (.ref x)) (by walk_at "lk")
    obtain rfl : v1 = .ref x := hv2
    have ki : (callEnv (fnX "__init__" "_Accumulator.__init__" (acA 0) (acB 0) (acS 0) [("__class__", cc)] (.ref T) .none doc pm none (.ref cda) ct) s.heap.objs.size f).kindOf "initial_size" = some .local := by kernel_rfl!
    have ks : (callEnv (fnX "__init__" "_Accumulator.__init__" (acA 0) (acB 0) (acS 0) [("__class__", cc)] (.ref T) .none doc pm none (.ref cda) ct) s.heap.objs.size f).kindOf "self" = some .local := by kernel_rfl!
    refine ks_wpAt_execs_cons (ks_wpAt_Assign_Attr (_root_.PySem.wpAt_of_wpAny ?_) (by kernel_rfl!))
    refine wpAny_Name ((VarAt.loc ki hns rfl).load C1.ok (v := .int 0 tT) ?_) (by kernel_rfl!)
    refine wpAny_Name (hv1.load C1.ok ?_) (by kernel_rfl!)
    obtain ⟨⟨nm, qq, bs, sn, sub, ab, col, dd, k1, k2, k3, k4, k5, hC⟩, hN, hga, hgh⟩ := a1.cls
    refine store_attr (ns := []) store_list hC hN hsa his lk_list_isz hxC (mA := fun _ => none) ⟨_, ex1, rfl, (fun c q => nomatch q), .inr ⟨dx, rfl, a.ne, hd1⟩⟩ (fun h2 tk2 I2 hk2 hs2 => ?_) (fun n hn => absurd rfl hn) (by decide)
    have keepA : ∀ b o, b ≠ x → b ≠ dx → h₁.get? b = some o → h2.get? b = some o := fun b o nb nd e => hk2 b o nb (fun o₀ d' e₀ ed => by
      rw [ex1] at e₀; cases e₀
      have : some dx = some d' := ed
      exact fun q => nd (q.trans (Option.some.inj this).symm)) e
    have ex2 : h2.get? x = some (accObj C dx [] k0) := by
      obtain ⟨o₁, e1, e2, e3, e4, e5⟩ := hs2 _ ex1
      obtain ⟨c1, c2, c3, c4⟩ := o₁
      have := e5 dx rfl
      simp only at e2 e3 e4 this
      subst e2 e3 e4 this
      exact e1
    have hd2 : h2.Ns1 dx (fun y => if y = "_initial_size" then some (.int 0 tT) else none) := by
      obtain ⟨o', e', _, _, hd'⟩ := I2
      rw [ex2] at e'; cases e'
      rcases hd' with ⟨q, _⟩ | ⟨d', q, _, hns'⟩
      · cases q
      · obtain rfl := Option.some.inj q
        exact hns'
    have hns2 := hns.at' fun o e => keepA _ o (Ne.symm hxL) (Ne.symm hdL) e
    have gd2 : ∀ b o, h₀.get? b = some o → h2.get? b = some o := fun b o e => by
      refine keepA b o (fun q => ?_) (fun q => by rw [q, hd0] at e; cases e) (keep b o (C0.gd b o e))
      have := (C0.xok x a.xX).1
      rw [q, this] at e; cases e
    have a2 : AccAt h2 X x C N dx mN [] := ⟨hc0.keeps gd2, ⟨[], k0, ex2, .nil⟩, a.xX, ⟨_, hd2, fun nm hnm => if_neg hnm⟩, a.ne⟩
    show _root_.PySem.wpAt _ _ _ _ _ _ { s with heap := h2, toks := tk2 }
    refine ks_wpAt_execs_cons (ks_wpAt_Expr_any ?_ (by kernel_rfl!) (by kernel_rfl!))
    refine super_call (s := { s with heap := h2, toks := _ }) (ar := acAr 0) G U bound_init (.inl rfl) a2 hxC gd2 C1.ok (by kernel_rfl!) (by kernel_rfl!) (by kernel_rfl!) rfl (gd2 _ _ hf1) hf2 (by kernel_rfl!) ?_ rfl (gd2 _ _ hc1) hc2 hc3 (by decide +kernel) PySem.F.entry_list_init ?_ ?_ (by kernel_rfl!) (by kernel_rfl!)
    · rw [show (acAr 0).arg = "self" by kernel_rfl!]
      exact VarAt.loc ks hns2 rfl
    · intro h' tk kk
      exact wpAny_of_eq (chk_init x) rfl
    · intro h' tk kk
      refine t_init (kk _ _ ex2) fun h5 k5 hk5 hx5 => ⟨_, rfl, ?_⟩
      refine _root_.PySem.wpAt_of_wpAny (wpAny_execs_nil ⟨rfl, ⟨h5, tk, rfl⟩, fun b o nb nd e => ?_, ?_⟩)
      · show h5.get? b = some o
        rw [hk5 b nb]; exact kk b o (keepA b o nb nd (keep b o e))
      · have gd5 : ∀ b o, h₀.get? b = some o → h5.get? b = some o := fun b o e => by
          rw [hk5 b fun q => by have := (C0.xok x a.xX).1; rw [q, this] at e; cases e]
          exact kk b o (gd2 b o e)
        refine ⟨hc0.keeps gd5, ⟨[], k5, hx5, .nil⟩, a.xX, ⟨fun y => if y = "_initial_size" then some (.int 0 tT) else none, ?_, fun nm hnm => if_neg hnm⟩, a.ne⟩
        · obtain ⟨o, es, ep, e, r⟩ := hd2
          exact ⟨o, es, ep, by rw [hk5 dx a.ne]; exact kk _ _ e, r⟩
  · have : (acS 0).names.all (fun x => x.2 != .cell) = true := by kernel_rfl!
    exact names_cell this
end
end
section
set_option maxRecDepth 100000
section
variable {prog : Program} {w : World} {A : Around} {E : Value → Shared → Prop} {h : Heap} {g : Array GenState} {d : Drawn} {t : Nat} {os : OsState}
variable {C N x dx : Addr} {mN mA : Str → Option Value} {name : Str} {v : Value} {vs : List Value} {k : Nat}
theorem new_split : splitId "list.__new__" = some ("list", "__new__") := by decide +kernel
theorem new_kind : builtinKind "list.__new__" = some .builtinFn := by decide +kernel
theorem code_acc_new {R : Result → Shared → Prop} (c : Cls h C N mN)
    (hq : R (.ok (.ret (.ref (h.objs.size + 1)))) ⟨(h.push { cls := .type "dict", data := .dict #[] }).push (accObj C h.objs.size [] 0), g, d, t, os⟩) :
    codeAny (model prog w) A (.builtin "list.__new__" ⟨[.ref C], []⟩) R ⟨h, g, d, t, os⟩ := by
  obtain ⟨⟨nm, q, bs, sn, sub, ab, col, dd, k0, k1, k2, k3, k5, hC⟩, hn, hng, hnh⟩ := c
  have hcB : (Value.ref C :: [Value.type "list", Value.type "object"]).contains (.type "list") = true := by
    rw [List.contains_cons, show [Value.type "list", Value.type "object"].contains (.type "list") = true from by decide, Bool.or_true]
  refine codeAny_builtin_stack PySem.F.entry_list_new rfl fun p st => ?_
  have hown := owner_list_new
  simp only [hown]
  repeat (any_goals (first | (with_reducible refine ks_wpAny_isType_cls hC rfl ?_) | (with_reducible refine wpAny_isSubtype_exc hC ?_; rw [hcB]) | with_reducible refine wpAny_loadPart_at hC ?_ | wp_step))
  show R _ _
  rw [Heap.size_push]
  exact hq
noncomputable def newSig : Manifest.Signature := ⟨.any, "list", "list", .cls, [⟨"args", .varPos, false⟩, ⟨"kwargs", .varKw, false⟩]⟩
theorem new_sig : Manifest.signature? "list.__new__" = some newSig := by kernel_rfl
theorem new_args (C : Addr) : Bind.checkArgs "list.__new__" newSig ⟨[.ref C], []⟩ = pure () := by kernel_rfl
theorem acc_new_check {M : Model} {Q : Unit → Shared → Prop} (c : Cls h C N mN) (hq : Q () ⟨h, g, d, t, os⟩) : wpAny M A (checkBuiltinCall "list.__new__" ⟨[.ref C], []⟩) Q E ⟨h, g, d, t, os⟩ := by
  obtain ⟨⟨nm, q, bs, sn, sub, ab, col, dd, k0, k1, k2, k3, k5, hC⟩, hn, hng, hnh⟩ := c
  have hcB : (Value.ref C :: [Value.type "list", Value.type "object"]).contains (.type "list") = true := by
    rw [List.contains_cons, show [Value.type "list", Value.type "object"].contains (.type "list") = true from by decide, Bool.or_true]
  simp only [checkBuiltinCall, new_kind, new_split, new_sig]
  repeat (first | (with_reducible refine wpAny_of_eq (new_args C) ?_) | (with_reducible refine ks_wpAny_isType_cls hC rfl ?_) | with_reducible refine wpAny_loadPart_at hC ?_ | (with_reducible refine wpAny_isSubtype_exc hC ?_; rw [hcB]) | with_reducible refine wpAny_staticBase_exc hC ?_ | with_reducible refine wpAny_madeBy_exc hC ?_ | simp only [bne_self_eq_false, Bool.false_eq_true, if_false] | wp_step)
  exact hq
theorem acc_type_call {fI : Addr} {oI : Obj} {Q : PySem.Fin → Shared → Prop} (c : Cls h C N mN) (hi : mN "__init__" = some (.ref fI)) (hfI : h.get? fI = some oI) (hfc : oI.cls = .type "function")
    (hq : ∀ h', (∀ b o, h.get? b = some o → h'.get? b = some o) → h'.get? (h.objs.size + 1) = some (accObj C h.objs.size [] 0) → h'.get? h.objs.size = some { cls := .type "dict", data := .dict #[] } →
      wpAny (model prog w) A (call (.ref fI) [.ref (h.objs.size + 1)]) (fun r s' => r = .none ∧ Q (.done (.ret (.ref (h.objs.size + 1)))) s') E ⟨h', g, d, t, os⟩) :
    wpAny (model prog w) A (Builtin.«type.__call__» ⟨[.ref C], []⟩) Q E ⟨h, g, d, t, os⟩ := by
  have c' := c
  obtain ⟨⟨nm, q, bs, sn, sub, ab, col, dd, k0, k1, k2, k3, k5, hC⟩, hn, hng, hnh⟩ := c
  repeat (first | with_reducible refine wpAny_loadPart_at hC ?_ | with_reducible refine wpAny_madeBy_exc hC ?_ | wp_step)
  refine codeAny_call_builtin_code (Code.quiet_builtin _ (by decide +kernel)) (acc_new_check c' ?_)
  refine code_acc_new c' ?_
  show wpAny _ _ _ _ _ _
  have kk : ∀ b o, h.get? b = some o → ((h.push { cls := .type "dict", data := .dict #[] }).push (accObj C h.objs.size [] 0)).get? b = some o := fun b o e => Heap.get?_push_of_some _ (Heap.get?_push_of_some _ e)
  have hC₁ := kk _ _ hC
  have hfI₁ := kk _ _ hfI
  have hn₁ := hn.keeps kk
  have hget : ((h.push { cls := .type "dict", data := .dict #[] }).push (accObj C h.objs.size [] 0)).get? (h.objs.size + 1) = some (accObj C h.objs.size [] 0) := by
    have := Heap.get?_push_size (o := accObj C h.objs.size [] 0) (h.push { cls := .type "dict", data := .dict #[] }) rfl
    rwa [Heap.size_push] at this
  have hgd : ((h.push { cls := .type "dict", data := .dict #[] }).push (accObj C h.objs.size [] 0)).get? h.objs.size = some { cls := .type "dict", data := .dict #[] } :=
    Heap.get?_push_of_some _ (Heap.get?_push_at rfl rfl)
  have hcC : (Value.ref C :: [Value.type "list", Value.type "object"]).contains (.ref C) = true := by simp
  have fin := hq _ kk hget hgd
  generalize (h.push { cls := .type "dict", data := .dict #[] }).push (accObj C h.objs.size [] 0) = H at *
  unfold isInstance
  repeat (first | with_reducible refine wpAny_loadPart_at hget ?_ | (with_reducible refine wpAny_isSubtype_exc hC₁ ?_; rw [hcC]) | wp_step)
  show wpAny _ _ (typeLookup (.ref C) _) _ _ _
  refine wpAny_typeLookup_exc hC₁ hn₁ PySem.F.mro_list PySem.F.slot_list_init.lookup ?_
  rw [hi]
  refine wpAny_holding (wpAny_bind ?_)
  unfold bindSpecial
  refine wpAny_bind (wpAny_typeOf (T := "function") ⟨_, hfI₁, hfc⟩ ?_)
  rw [if_pos (by decide)]
  refine wpAny_pure (wpAny_bind (wpAny_mono fin (fun r s' hr => ?_) fun _ _ x => x))
  obtain ⟨rfl, hQ⟩ := hr
  wp_walk
  exact hQ

theorem acc_call {fI : Addr} {oI : Obj} {Q : Value → Shared → Prop} (c : Cls h C N mN) (hi : mN "__init__" = some (.ref fI)) (hfI : h.get? fI = some oI) (hfc : oI.cls = .type "function")
    (hq : ∀ h', (∀ b o, h.get? b = some o → h'.get? b = some o) → h'.get? (h.objs.size + 1) = some (accObj C h.objs.size [] 0) → h'.get? h.objs.size = some { cls := .type "dict", data := .dict #[] } →
      wpAny (model prog w) (A.under (.builtin "type.__call__" ⟨[.ref C], []⟩)) (call (.ref fI) [.ref (h.objs.size + 1)]) (fun r s' => r = .none ∧ Q (.ref (h.objs.size + 1)) s') E ⟨h', g, d, t, os⟩) :
    codeAny (model prog w) A (.call (.ref C) ⟨[], []⟩) (wants Q E) ⟨h, g, d, t, os⟩ := by
  have c' := c
  obtain ⟨⟨nm, q, bs, sn, sub, ab, col, dd, k0, k1, k2, k3, k5, hC⟩, hn, hng, hnh⟩ := c
  have f1 := tc_lookup
  have f2 := tc_bind (.ref C)
  have hT : (⟨h, g, d, t, os⟩ : Shared).TypeIs (.ref C) "type" := ⟨_, hC, rfl⟩
  refine codeAny_of_tree ?_
  show wpAny _ _ (callAny (.ref C) _) _ _ _
  repeat (any_goals (first | assumption | with_reducible refine wpAny_loadPart_at hC ?_ | wp_step))
  refine ⟨rfl, ?_⟩
  refine codeAny_call_builtin_at (Code.quiet_builtin _ (by decide +kernel)) entry_typeCall (wpAny_check_type_call_sub hC (acc_type_call c' hi hfI hfc fun h' k1 k2 k3 => ?_))
  exact hq h' k1 k2 k3
theorem callWith_acc {env : Env} {pos : Pos} {Q : Value → Shared → Prop} (c : Cls h C N mN) (hq : codeAny (model prog w) A (.call (.ref C) ⟨[], []⟩) (wants Q E) ⟨h, g, d, t, os⟩) :
    wpAny (model prog w) A (callWith pos (.ref C) [] (backTo pos (starEach [] env)) []) Q E ⟨h, g, d, t, os⟩ := by
  obtain ⟨⟨nm, q, bs, sn, sub, ab, col, dd, k0, k1, k2, k3, k5, hC⟩, hn, hng, hnh⟩ := c
  show wpAny _ A (callWith pos (.ref C) [] [] []) Q E _
  unfold callWith
  refine wpAny_bind (wpAny_holding (PySem.evalArgs_none ?_))
  have f1 := tc_lookup
  have hT : (⟨h, g, d, t, os⟩ : Shared).TypeIs (.ref C) "type" := ⟨_, hC, rfl⟩
  refine wpAny_bind (wpAny_standAt ?_)
  show wpAny _ _ (keeperOf (.ref C) >>= _) _ _ _
  unfold keeperOf specialOf
  repeat (any_goals (first | assumption | with_reducible refine wpAny_loadPart_at hC ?_ | with_reducible refine wpAny_load' hC ?_ | wp_step))
  refine codeAny_mono hq fun r s' hr => ?_
  cases r with
  | error e => exact hr
  | ok fl =>
    cases fl with
    | ret v => exact wpAny_bind (wpAny_holding (wpAny_point (wpAny_pure hr)))
    | _ => exact hr.elim
end
end
section
set_option maxRecDepth 100000
set_option maxHeartbeats 4000000

noncomputable abbrev accH (x C d : Addr) : MutH := ⟨x, .ref C, some d⟩
section
variable {prog : Program} {w : World} {h₀ : Heap} {mg mb : Str → Option Value} {s₀ : Shared} {n : Nat} {env : Env} {X B : Addr → Prop} {hB : Heap} {Γ : List (Str × VK)} {Λ Λ₁ Λ₂ : List (MutH × List PV)} {A : Around} {s : Shared} {Q : Flow → Shared → Prop}

theorem Sta.mut {H : MutH} {ps ps' : List PV} {h' : Heap} {tk : Nat} (S : Sta h₀ s₀ env X B hB Γ (Λ₁ ++ (H, ps) :: Λ₂) s) (hk : ∀ b o, b ≠ H.a → s.heap.get? b = some o → h'.get? b = some o)
    (hs : ∃ vs k, h'.get? H.a = some (H.obj vs k) ∧ RdL h' X vs ps') : Sta h₀ s₀ env X B hB Γ (Λ₁ ++ (H, ps') :: Λ₂) { s with heap := h', toks := tk } := by
  obtain ⟨hXa, hBa, vs0, k0, e0, r0⟩ := S.muts (H, ps) (List.mem_append_right _ (.head _))
  have neL : env.locals ∉ [H.a] := fun q => by
    obtain ⟨m, o, es, ep, e1, d, _⟩ := S.frm.ns
    rw [List.mem_singleton.mp q] at e1
    have e0' : s.heap.get? H.a = _ := e0
    rw [e0'] at e1; cases e1; cases d
  have neC : ∀ n c, env.cells.lookup n = some c → c ∉ [H.a] := fun n c hc q => by
    obtain ⟨v, o, e1, d⟩ := S.frm.cell n c hc
    rw [List.mem_singleton.mp q] at e1
    have e0' : s.heap.get? H.a = _ := e0
    rw [e0'] at e1; cases e1; cases d
  obtain ⟨h1, t1, rfl⟩ := S.same
  have hk' : ∀ b o, b ∉ [H.a] → h1.get? b = some o → h'.get? b = some o := fun b o nb e => hk b o (fun q => nb (by simp [q])) e
  have mono : ∀ b o, ¬ X b → h1.get? b = some o → h'.get? b = some o ∧ ¬ X b := fun b o nb e => ⟨hk b o (fun q => nb (q ▸ hXa)) e, nb⟩
  refine ⟨⟨h', tk, rfl⟩, fun b o nb e => (mono b o nb (S.old b o nb e)).1, fun b o nb e => hk b o (fun q => hBa (q ▸ nb)) (S.fixd b o nb e), ⟨S.cok.ok, fun b o e => ?_, fun a x => ⟨(S.cok.xok a x).1, ?_⟩, fun x k e => ?_⟩, S.frm.wr hk' neL neC, S.ownL, S.ownC, fun q hq => ?_, ?_⟩
  · exact hk b o (fun q => by have := (S.cok.xok _ hXa).1; rw [← q, e] at this; cases this) (S.cok.gd b o e)
  · by_cases q : a = H.a
    · subst q
      obtain ⟨vs, k, e, _⟩ := hs
      show (h'.get? _).isSome = true
      rw [e]; rfl
    · obtain ⟨o, ho⟩ := Option.isSome_iff_exists.mp (S.cok.xok a x).2
      show (h'.get? a).isSome = true
      rw [hk a o q ho]; rfl
  · obtain ⟨v, hv, r⟩ := S.cok.has x k e
    exact ⟨v, hv.wr hk' neL neC, VK.holds_mono mono r⟩
  · have nd := S.nodup
    rw [List.map_append, List.map_cons, List.nodup_append] at nd
    have hnd2 := List.nodup_cons.mp nd.2.1
    have other : ∀ q ∈ Λ₁ ++ (H, ps) :: Λ₂, q.1.a ≠ H.a → X q.1.a ∧ ¬ B q.1.a ∧ ∃ vs k, h'.get? q.1.a = some (q.1.obj vs k) ∧ RdL h' X vs q.2 := fun q hq ne => by
      obtain ⟨a, b, vs, k, e, r⟩ := S.muts q hq
      exact ⟨a, b, vs, k, hk _ _ ne e, r.mono mono⟩
    rcases List.mem_append.mp hq with hq | hq
    · exact other q (List.mem_append_left _ hq) fun z => nd.2.2 q.1.a (List.mem_map_of_mem hq) H.a (.head _) z
    · rcases List.mem_cons.mp hq with rfl | hq
      · exact ⟨hXa, hBa, hs⟩
      · exact other q (List.mem_append_right _ (.tail _ hq)) fun z => hnd2.1 (z ▸ List.mem_map_of_mem (f := fun q : MutH × List PV => q.1.a) hq)
  · have nd := S.nodup
    simpa using nd
noncomputable def DictAt (h : Heap) (dx : Addr) : Prop := ∃ mA, h.Ns1 dx mA ∧ ∀ nm : Str, nm ≠ "_initial_size" → mA nm = none
theorem Sta.acc {x C N dx : Addr} {mN : Str → Option Value} {qs : List PV} (S : Sta h₀ s₀ env X B hB Γ Λ s) (hc0 : Cls h₀ C N mN) (hb : B dx) (hd : DictAt hB dx) (ne : dx ≠ x) (hm : (accH x C dx, qs) ∈ Λ) : AccAt s.heap X x C N dx mN qs := by
  obtain ⟨hX, _, vs, k, e, r⟩ := S.muts _ hm
  obtain ⟨mA, hn, hz⟩ := hd
  exact ⟨hc0.keeps S.cok.gd, ⟨vs, k, e, r⟩, hX, ⟨mA, PySem.Heap.Ns1.at hn fun o e => S.fixd dx o hb e, hz⟩, ne⟩
theorem DictAt.ext {X' B' : Addr → Prop} {hB' : Heap} {dx : Addr} (E : Ext s₀ X B hB X' B' hB') (hb : B dx) (hd : DictAt hB dx) : B' dx ∧ DictAt hB' dx := by
  obtain ⟨mA, hn, hz⟩ := hd
  have hn' := hn
  obtain ⟨o, es, ep, e, r⟩ := hn'
  exact ⟨(E.fix dx o hb e).1, mA, PySem.Heap.Ns1.at hn fun o e => (E.fix dx o hb e).2, hz⟩

noncomputable def Em (prog : Program) (w : World) (h₀ : Heap) (n : Nat) (s₀ : Shared) (env : Env) (X B : Addr → Prop) (hB : Heap) (Γ : List (Str × VK)) (Λ : List (MutH × List PV)) (e : Expr) (Λ' : List (MutH × List PV)) (p : PV) : Prop :=
  ∀ A s, Room A n → Sta h₀ s₀ env X B hB Γ Λ s → wpAny (model prog w) A (eval e env) (fun v s' => Sta h₀ s₀ env X B hB Γ Λ' s' ∧ Rd s'.heap X v p) NoE s
theorem St_assignM {x : Str} {px pos : Pos} {e : Expr} {rest : List Stmt} {p : PV} {Λ' : List (MutH × List PV)} (S : Sta h₀ s₀ env X B hB Γ Λ s) (R : Room A n) (he : Em prog w h₀ n s₀ env X B hB Γ Λ e Λ' p) (hx : CanStore env x)
    (h : ∀ s', Sta h₀ s₀ env X B hB ((x, .pv p) :: Γ) Λ' s' → wpAny (model prog w) A (execs rest env) Q NoE s')
    (hsw : swapsWith e (some (.Name x px)) pos.line env = pure false := by kernel_rfl!) :
    wpAny (model prog w) A (execs (.Assign [.Name x px] e pos :: rest) env) Q NoE s := by
  refine wpAny_execs_cons (wpAny_Assign_Name (wpAny_mono (he A s R S) (fun v s₁ h₁ => ?_) fun _ _ e => e) hsw)
  exact h₁.1.storeK hx (k := .pv p) h₁.2 fun s' S' => h s' S'
theorem St_exprM {pos : Pos} {e : Expr} {rest : List Stmt} {Λ' : List (MutH × List PV)} (S : Sta h₀ s₀ env X B hB Γ Λ s) (R : Room A n) (he : Em prog w h₀ n s₀ env X B hB Γ Λ e Λ' .none)
    (h : ∀ s', Sta h₀ s₀ env X B hB Γ Λ' s' → wpAny (model prog w) A (execs rest env) Q NoE s')
    (hi : interactive env = false := by kernel_rfl!) (hs : swapsWith e none pos.line env = pure false := by kernel_rfl!) : wpAny (model prog w) A (execs (.Expr e pos :: rest) env) Q NoE s := by
  refine wpAny_execs_cons (wpAny_Expr (wpAny_mono (he A s R S) (fun v s₁ h₁ => ?_) fun _ _ e => e) hi hs)
  obtain ⟨S₁, r⟩ := h₁
  cases r
  exact h _ S₁

structure AccN (prog : Program) (w : World) (h₀ : Heap) (mg : Str → Option Value) (C N cc : Addr) (mN : Str → Option Value) : Prop where
  cls : Cls h₀ C N mN
  glob : mg "_Accumulator" = some (.ref C)
  sup : SupOk prog w h₀ mg C cc
  none : mN "append" = none ∧ mN "__getitem__" = none ∧ mN "__setitem__" = none ∧ mN "__setattr__" = none ∧ mN "_initial_size" = none
  init : ∃ f T, mN "__init__" = some (.ref f) ∧ Meth h₀ f "__init__" "_Accumulator.__init__" (acA 0) (acB 0) (acS 0) [("__class__", cc)] (.ref T) ∧ ∃ o n t, h₀.get? T = some o ∧ o.data = .seq #[.int 0 t] n
  push : ∃ f, mN "push" = some (.ref f) ∧ Meth h₀ f "push" "_Accumulator.push" (acA 1) (acB 1) (acS 1) [] .none
  popf : ∃ f T, mN "pop_from" = some (.ref f) ∧ Meth h₀ f "pop_from" "_Accumulator.pop_from" (acA 2) (acB 2) (acS 2) [] (.ref T) ∧ ∃ o n t, h₀.get? T = some o ∧ o.data = .seq #[.int 0 t] n
  pop : ∃ f, mN "pop" = some (.ref f) ∧ Meth h₀ f "pop" "_Accumulator.pop" (acA 3) (acB 3) (acS 3) [("__class__", cc)] .none
  count : ∃ f, mN "part_count" = some (.ref f) ∧ Meth h₀ f "part_count" "_Accumulator.part_count" (acA 8) (acB 8) (acS 8) [("__class__", cc)] .none

variable {x C N dx cc : Addr} {mN : Str → Option Value} {qs : List PV}
theorem Sta.res {v : Value} {p : PV} {qs' : List PV} {s' : Shared} (S : Sta h₀ s₀ env X B hB Γ (Λ₁ ++ (accH x C dx, qs) :: Λ₂) s) (r : MRes s s' x C dx X qs' v p) : Sta h₀ s₀ env X B hB Γ (Λ₁ ++ (accH x C dx, qs') :: Λ₂) s' := by
  obtain ⟨⟨h', tk, rfl⟩, hk, hs, _⟩ := r
  exact S.mut hk hs
theorem callWith_m0 {pos : Pos} {f : Addr} {v : Value} {Q : Value → Shared → Prop} {name qual : Str} {params : Arguments} {body : List Stmt} {scope : Scope} {cl : List (Str × Addr)} {dV : Value} (M : Meth h₀ f name qual params body scope cl dV) (gd : ∀ b o, h₀.get? b = some o → s.heap.get? b = some o)
    (h : wpAny (model prog w) A (call (.ref f) [v]) Q NoE s) : wpAny (model prog w) A (callWith pos (.ref f) [v] (backTo pos (starEach [] env)) []) Q NoE s := by
  obtain ⟨o, pm', doc', cda', ct', oc', vs', tf', e1, e2, e3, e4⟩ := M.at_
  exact callWith_meth0 e3 (gd _ _ e1) h
theorem Em_pop {y : Str} {py apos pos : Pos} (G : Glb h₀ mg mb) (K : AccN prog w h₀ mg C N cc mN) (hx : Γ.lookup y = some (.raw (.ref x))) (hd : (y == ("__debug__" : Str)) = false) (hb : B dx) (hdd : DictAt hB dx) (ne : dx ≠ x) (hsz : qs.length ≤ 100)
    (hbase : attributeBase (.Name y py) "pop" env (eval (.Name y py) env) = eval (.Name y py) env := by kernel_rfl!)
    (hfew : ((backTo pos (starEach [] env)).all (fun x => !x.1) && (backToKw pos (keywordEach [] env)).all (fun x => x.1.isSome)
      && decide (([] : List Expr).length + ([] : List Keyword).length + (if ([] : List Keyword).isEmpty then 0 else 1) < 30)) = true := by kernel_rfl!)
    (hline : (apos.endLine == pos.line) = true := by kernel_rfl!) (hn : 8 ≤ n := by decide) :
    Em prog w h₀ n s₀ env X B hB Γ (Λ₁ ++ (accH x C dx, qs) :: Λ₂) (.Call (.Attribute (.Name y py) "pop" apos) [] [] pos) (Λ₁ ++ (accH x C dx, qs.dropLast) :: Λ₂) (qs.getLastD (.tup [.str "", .str ""])) := by
  intro A s R S
  obtain ⟨f, hf, M⟩ := K.pop
  obtain ⟨fC, hfC, MC⟩ := K.count
  refine Call_getm ?_ hbase hfew hline
  refine wpAny_mono (Rw_name hx hd A s R S.cok) (fun v s₁ h₁ => ?_) fun _ _ e => e
  obtain ⟨k₁, rfl⟩ := h₁
  have S₁ := S.keep k₁
  intro pl
  have a := S₁.acc K.cls hb hdd ne (List.mem_append_right _ (.head _))
  obtain ⟨mA, I, hz⟩ := a.inst
  obtain ⟨o, pm', doc', cda', ct', oc', vs', tf', e1, e2, e3, e4⟩ := M.at_
  have hxC : x ≠ C := fun q => by
    obtain ⟨nm, qq, bs, sn, sub, ab, col, dd, k0, k1, k2, k3, k5, hC⟩ := K.cls.obj
    have := (S₁.cok.xok x a.xX).1
    rw [q, hC] at this; cases this
  obtain ⟨hh, g, d, t, os⟩ := s₁
  refine acc_method a.cls hf (S₁.cok.gd _ _ e1) e2 PySem.F.slot_list_pop.lookup I (hz _ (by decide +kernel)) ?_
  refine callWith_m0 M S₁.cok.gd (wpAny_mono (pop_call G K.sup M MC hfC S₁.cok.x (R.le hn) a hxC hsz) (fun r s' q => ⟨S₁.res q, q.rd⟩) fun _ _ e => e)
theorem Em_popf {y : Str} {py apos pos : Pos} (G : Glb h₀ mg mb) (K : AccN prog w h₀ mg C N cc mN) (hx : Γ.lookup y = some (.raw (.ref x))) (hd : (y == ("__debug__" : Str)) = false) (hb : B dx) (hdd : DictAt hB dx) (ne : dx ≠ x) (hsz : qs.length ≤ 100)
    (hbase : attributeBase (.Name y py) "pop_from" env (eval (.Name y py) env) = eval (.Name y py) env := by kernel_rfl!)
    (hfew : ((backTo pos (starEach [] env)).all (fun x => !x.1) && (backToKw pos (keywordEach [] env)).all (fun x => x.1.isSome)
      && decide (([] : List Expr).length + ([] : List Keyword).length + (if ([] : List Keyword).isEmpty then 0 else 1) < 30)) = true := by kernel_rfl!)
    (hline : (apos.endLine == pos.line) = true := by kernel_rfl!) (hn : 8 ≤ n := by decide) :
    Em prog w h₀ n s₀ env X B hB Γ (Λ₁ ++ (accH x C dx, qs) :: Λ₂) (.Call (.Attribute (.Name y py) "pop_from" apos) [] [] pos) (Λ₁ ++ (accH x C dx, []) :: Λ₂) (.lst qs) := by
  intro A s R S
  obtain ⟨f, T, hf, M, hT⟩ := K.popf
  refine Call_getm ?_ hbase hfew hline
  refine wpAny_mono (Rw_name hx hd A s R S.cok) (fun v s₁ h₁ => ?_) fun _ _ e => e
  obtain ⟨k₁, rfl⟩ := h₁
  have S₁ := S.keep k₁
  intro pl
  have a := S₁.acc K.cls hb hdd ne (List.mem_append_right _ (.head _))
  obtain ⟨mA, I, hz⟩ := a.inst
  obtain ⟨o, pm', doc', cda', ct', oc', vs', tf', e1, e2, e3, e4⟩ := M.at_
  obtain ⟨hh, g, d, t, os⟩ := s₁
  refine acc_method a.cls hf (S₁.cok.gd _ _ e1) e2 lk_list_popfrom I (hz _ (by decide +kernel)) ?_
  refine callWith_m0 M S₁.cok.gd (wpAny_mono (popfrom_call G M hT K.none.2.1 K.none.2.2.1 S₁.cok.x (R.le (by omega)) a hsz) (fun r s' q => ⟨S₁.res q, q.rd⟩) fun _ _ e => e)
theorem Em_push {y : Str} {py apos pos : Pos} {e1 e2 : Expr} {p q : PV} (G : Glb h₀ mg mb) (K : AccN prog w h₀ mg C N cc mN) (hx : Γ.lookup y = some (.raw (.ref x))) (hd : (y == ("__debug__" : Str)) = false) (hb : B dx) (hdd : DictAt hB dx) (ne : dx ≠ x) (hsz : qs.length ≤ 100)
    (has : ExL prog w h₀ n env X Γ pos [e1, e2] [p, q])
    (hbase : attributeBase (.Name y py) "push" env (eval (.Name y py) env) = eval (.Name y py) env := by kernel_rfl!)
    (hfew : ((backTo pos (starEach [e1, e2] env)).all (fun x => !x.1) && (backToKw pos (keywordEach [] env)).all (fun x => x.1.isSome)
      && decide (([e1, e2] : List Expr).length + ([] : List Keyword).length + (if ([] : List Keyword).isEmpty then 0 else 1) < 30)) = true := by kernel_rfl!)
    (hline : (apos.endLine == pos.line) = true := by kernel_rfl!) (hst : starEach [e1, e2] env = (false, eval e1 env) :: starEach [e2] env := by kernel_rfl!) (hn : 8 ≤ n := by decide) :
    Em prog w h₀ n s₀ env X B hB Γ (Λ₁ ++ (accH x C dx, qs) :: Λ₂) (.Call (.Attribute (.Name y py) "push" apos) [e1, e2] [] pos) (Λ₁ ++ (accH x C dx, qs ++ [.tup [p, q]]) :: Λ₂) .none := by
  intro A s R S
  obtain ⟨f, hf, M⟩ := K.push
  refine Call_getm ?_ hbase hfew hline
  refine wpAny_mono (Rw_name hx hd A s R S.cok) (fun v s₁ h₁ => ?_) fun _ _ e => e
  obtain ⟨k₁, rfl⟩ := h₁
  have S₁ := S.keep k₁
  intro pl
  have a := S₁.acc K.cls hb hdd ne (List.mem_append_right _ (.head _))
  obtain ⟨mA, I, hz⟩ := a.inst
  obtain ⟨o, pm', doc', cda', ct', oc', vs', tf', e1, e2, e3, e4⟩ := M.at_
  obtain ⟨hh, g, d, t, os⟩ := s₁
  refine acc_method a.cls hf (S₁.cok.gd _ _ e1) e2 lk_list_push I (hz _ (by decide +kernel)) ?_
  refine callWith_meth e3 e1 ?_ hst
  refine wpAny_mono (has A _ R S₁.cok) (fun us s₂ h₂ => ?_) fun _ _ e => e
  obtain ⟨k₂, r₂⟩ := h₂
  have S₂ := S₁.keep k₂
  have a2 := S₂.acc K.cls hb hdd ne (List.mem_append_right _ (.head _))
  refine ⟨S₂.cok.gd, ?_⟩
  cases r₂ with
  | cons ra r₂ =>
  cases r₂ with
  | cons rb r₂ =>
  cases r₂
  exact wpAny_mono (push_call G M K.none.1 S₂.cok.x (R.le (by omega)) a2 hsz ra rb) (fun r s' q => ⟨S₂.res q, q.rd⟩) fun _ _ e => e
end
end
section
set_option maxRecDepth 100000
set_option maxHeartbeats 4000000

theorem acc_units (C : Addr) : (Code.builtin "type.__call__" ⟨[.ref C], []⟩).cUnits ≤ 20 := Nat.le_of_ble_eq_true (by kernel_rfl!)
theorem Room.make {A : Around} {n : Nat} {C : Addr} (r : Room A (n + 1)) : Room (A.under (.builtin "type.__call__" ⟨[.ref C], []⟩)) n := by
  refine ⟨r.handled, ?_, ?_⟩
  · show A.depth + 1 + n < _
    have := r.depth; omega
  · show A.units + (Code.builtin "type.__call__" ⟨[.ref C], []⟩).cUnits + _ < _
    have := r.units
    have := acc_units C
    omega
section
variable {prog : Program} {w : World} {h₀ : Heap} {mg mb : Str → Option Value} {s₀ : Shared} {n : Nat} {env : Env} {X B : Addr → Prop} {hB : Heap} {Γ : List (Str × VK)} {Λ Λ₁ Λ₂ : List (MutH × List PV)} {A : Around} {s : Shared} {Q : Flow → Shared → Prop}
variable {C N cc : Addr} {mN : Str → Option Value}
theorem St_make {y : Str} {py gp cpos pos : Pos} {rest : List Stmt} (S : Sta h₀ s₀ env X B hB Γ Λ s) (R : Room A n) (G : Glb h₀ mg mb) (K : AccN prog w h₀ mg C N cc mN) (hf : env.kindOf "_Accumulator" = some .globalImplicit) (hx : CanStore env y)
    (h : ∀ x dx B' hB' s', ¬ X x → Ext s₀ X B hB (fun b => X b ∨ b = x) B' hB' → B' dx → DictAt hB' dx → dx ≠ x → Sta h₀ s₀ env (fun b => X b ∨ b = x) B' hB' ((y, .raw (.ref x)) :: Γ) ((accH x C dx, []) :: Λ) s' → wpAny (model prog w) A (execs rest env) Q NoE s')
    (hsw : swapsWith (.Call (.Name "_Accumulator" gp) [] [] cpos) (some (.Name y py)) pos.line env = pure false := by kernel_rfl!)
    (he : eval (.Call (.Name "_Accumulator" gp) [] [] cpos) env = (do callWith cpos (← eval (.Name "_Accumulator" gp) env) [] (backTo cpos (starEach [] env)) (backToKw cpos (keywordEach [] env))) := by kernel_rfl!) (hn : 8 ≤ n := by decide) :
    wpAny (model prog w) A (execs (.Assign [.Name y py] (.Call (.Name "_Accumulator" gp) [] [] cpos) pos :: rest) env) Q NoE s := by
  obtain ⟨f, T, hi, M, hT⟩ := K.init
  obtain ⟨o, pm', doc', cda', ct', oc', vs', tf', e1, e2, e3, e4⟩ := M.at_
  refine wpAny_execs_cons (wpAny_Assign_Name (Call_ (Ex_glob G S.cok hf K.glob ?_ (by decide +kernel)) he) hsw)
  have S0 := S
  obtain ⟨hh, t0, rfl⟩ := S.same
  refine callWith_acc (K.cls.keeps S.cok.gd) (acc_call (K.cls.keeps S.cok.gd) hi (S.cok.gd _ _ e1) e2 fun h1 k1 ex ed => ?_)
  have frx : hh.get? (hh.objs.size + 1) = none := by
    cases e : hh.get? (hh.objs.size + 1) with
    | none => rfl
    | some o => exact absurd (Heap.lt_size e) (by show ¬ hh.objs.size + 1 < hh.objs.size; omega)
  have frd : hh.get? hh.objs.size = none := by
    cases e : hh.get? hh.objs.size with
    | none => rfl
    | some o => exact absurd (Heap.lt_size e) (Nat.lt_irrefl _)
  have ned : hh.objs.size ≠ hh.objs.size + 1 := by omega
  have kp : Keeps { s₀ with heap := hh, toks := t0 } { s₀ with heap := h1, toks := t0 } := ⟨h1, t0, rfl, k1⟩
  have S1 : Sta h₀ s₀ env (fun b => X b ∨ b = hh.objs.size + 1) B hB Γ Λ { s₀ with heap := h1, toks := t0 } :=
    S.grow kp (fun a q => .inl q) fun a q => q.imp id fun q => by subst q; exact ⟨frx, by rw [ex]; rfl⟩
  have a : AccAt h1 (fun b => X b ∨ b = hh.objs.size + 1) (hh.objs.size + 1) C N hh.objs.size mN [] :=
    ⟨K.cls.keeps S1.cok.gd, ⟨[], 0, ex, .nil⟩, .inr rfl, ⟨fun _ => none, ?ns1, fun _ _ => rfl⟩, ned⟩
  case ns1 => exact Heap.Ns1.of_empty ⟨_, #[], _, ed, rfl, fun e he => absurd he (by simp), fun _ => rfl⟩
  have neX : ∀ b, X b → b ≠ hh.objs.size + 1 ∧ b ≠ hh.objs.size := fun b q => by
    have := (S.cok.xok b q).2
    refine ⟨fun z => ?_, fun z => ?_⟩
    · rw [z] at this
      have f : (Heap.get? hh (hh.objs.size + 1)).isSome = true := this
      rw [frx] at f; cases f
    · rw [z] at this
      have f : (Heap.get? hh hh.objs.size).isSome = true := this
      rw [frd] at f; cases f
  have ne0 : ∀ b, s₀.heap.get? b ≠ none → b ≠ hh.objs.size + 1 ∧ b ≠ hh.objs.size := fun b q => by
    by_cases xb : X b
    · exact neX b xb
    · cases e : s₀.heap.get? b with
      | none => exact absurd e q
      | some o =>
        have e' : hh.get? b = some o := S.old b o xb e
        exact ⟨fun z => (by rw [z, frx] at e'; cases e'), fun z => (by rw [z, frd] at e'; cases e')⟩
  have hd0 : h₀.get? hh.objs.size = none := by
    cases e : h₀.get? hh.objs.size with
    | none => rfl
    | some o =>
      have e' : hh.get? _ = some o := S.cok.gd _ o e
      rw [frd] at e'; cases e'
  have hxC : hh.objs.size + 1 ≠ C := fun q => by
    obtain ⟨nm, qq, bs, sn, sub, ab, col, dd, k0, k1, k2, k3, k5, hC⟩ := K.cls.obj
    have e' : hh.get? C = some _ := S.cok.gd _ _ hC
    rw [← q, frx] at e'; cases e'
  have emp : ∀ mA, h1.Ns1 hh.objs.size mA → mA = fun _ => none := fun mA hm => by
    obtain ⟨mA0, hm0, _⟩ : ∃ mA0, h1.Ns1 hh.objs.size mA0 ∧ mA0 = fun _ => none := ⟨_, Heap.Ns1.of_empty ⟨_, #[], _, ed, rfl, fun e he => absurd he (by simp), fun _ => rfl⟩, rfl⟩
    have := ns_unique hm.ns hm0.ns
    rw [this]; assumption
  refine wpAny_mono (init_call G K.sup M hT K.none.2.2.2.1 K.none.2.2.2.2 K.cls S1.cok.x (Room.make (n := 6) (R.le (by omega))) a emp hxC hd0) (fun r s2 h2 => ?_) fun _ _ e => e
  obtain ⟨rfl, ⟨h2, t2, rfl⟩, k2, a2⟩ := h2
  refine ⟨rfl, ?_⟩
  have S1' : Sta h₀ s₀ env (fun b => X b ∨ b = hh.objs.size + 1 ∨ b = hh.objs.size) B hB Γ Λ { s₀ with heap := h1, toks := t0 } :=
    S.grow kp (fun a q => .inl q) fun a q => q.imp id fun q => by
      rcases q with q | q
      · subst q; exact ⟨frx, by rw [ex]; rfl⟩
      · subst q; exact ⟨frd, by rw [ed]; rfl⟩
  obtain ⟨ws2, k22, ex2, rx2⟩ := a2.self
  obtain ⟨mA2, hm2, hz2⟩ := a2.dict
  obtain ⟨od, es, ep, ed2, rd2⟩ := hm2
  have hBne : ∀ b o, B b → hB.get? b = some o → b ≠ hh.objs.size + 1 ∧ b ≠ hh.objs.size := fun b o hb e => by
    have e' : hh.get? b = some o := S.fixd b o hb e
    exact ⟨fun z => (by rw [z, frx] at e'; cases e'), fun z => (by rw [z, frd] at e'; cases e')⟩
  have mem2 : ∀ b, b ∈ [hh.objs.size + 1, hh.objs.size] ↔ b = hh.objs.size + 1 ∨ b = hh.objs.size := fun b => by simp
  have nin : ∀ b, b ≠ hh.objs.size + 1 ∧ b ≠ hh.objs.size → b ∉ [hh.objs.size + 1, hh.objs.size] := fun b q z => ((mem2 b).mp z).elim q.1 q.2
  have S2 := S1'.wr (wr := [hh.objs.size + 1, hh.objs.size]) (h' := h2) (tk := t2) (fun b o nb e => k2 b o (fun z => nb ((mem2 b).mpr (.inl z))) (fun z => nb ((mem2 b).mpr (.inr z))) e)
    (fun b hb => ⟨.inr ((mem2 b).mp hb), by
      rcases (mem2 b).mp hb with rfl | rfl
      · rw [ex2]; rfl
      · rw [ed2]; rfl⟩) (fun b o hb e => nin b (hBne b o hb e)) (nin _ (neX _ S.ownL.1)) (fun n c e => nin _ (neX _ (S.ownC n c e).1)) (fun q hq => nin _ (neX _ (S.muts q hq).1))
  have S3 := S2.shrink (Y := fun b => X b ∨ b = hh.objs.size + 1) (fun a q => q.imp id .inl) (fun a q => by
    rcases q with q | q | q
    · exact .inl (.inl q)
    · exact .inl (.inr q)
    · refine .inr ?_
      cases e : s₀.heap.get? a with
      | none => rfl
      | some o => exact absurd q (ne0 a (by rw [e]; simp)).2) (.inl S.ownL.1) (fun n c e => .inl (S.ownC n c e).1) (fun q hq => .inl (S.muts q hq).1)
  have S4 := S3.fix (B' := fun b => (B b ∧ b ≠ hh.objs.size + 1) ∨ b = hh.objs.size) (hB' := h2) (fun b o _ e => e) (fun q => q.elim (fun q => S.ownL.2 q.1) (neX _ S.ownL.1).2) (fun n c e q => q.elim (fun q => (S.ownC n c e).2 q.1) (neX _ (S.ownC n c e).1).2) (fun q hq z => z.elim (fun z => (S.muts q hq).2.1 z.1) (neX _ (S.muts q hq).1).2)
  have S5 : Sta h₀ s₀ env (fun b => X b ∨ b = hh.objs.size + 1) (fun b => (B b ∧ b ≠ hh.objs.size + 1) ∨ b = hh.objs.size) h2 Γ ((accH (hh.objs.size + 1) C hh.objs.size, []) :: Λ) { s₀ with heap := h2, toks := t2 } := by
    refine ⟨S4.same, S4.old, S4.fixd, S4.cok, S4.frm, S4.ownL, S4.ownC, fun q hq => ?_, ?_⟩
    · rcases List.mem_cons.mp hq with rfl | hq
      · exact ⟨.inr rfl, fun z => z.elim (fun z => z.2 rfl) (fun z => ned z.symm), ws2, k22, ex2, rx2⟩
      · exact S4.muts q hq
    · refine List.nodup_cons.mpr ⟨fun q => ?_, S4.nodup⟩
      obtain ⟨q', hq', e⟩ := List.mem_map.mp q
      exact (neX _ (S.muts q' hq').1).1 e
  refine S5.storeK hx (k := .raw _) rfl fun s' S' => ?_
  refine h _ _ _ _ s' (fun q => (neX _ q).1 rfl) ⟨fun b q => .inl q, fun b q => q.imp id fun q => ?_, fun b o hb e => ⟨.inl ⟨hb, (hBne b o hb e).1⟩, S2.fixd b o hb e⟩⟩ (.inr rfl) ⟨mA2, ⟨od, es, ep, ed2, rd2⟩, hz2⟩ ned S'
  cases e : s₀.heap.get? b with
  | none => rfl
  | some o => exact absurd q (ne0 b (by rw [e]; simp)).1
end
end
section
set_option maxRecDepth 100000
set_option maxHeartbeats 4000000
section
variable {prog : Program} {w : World} {h₀ : Heap} {mg mb : Str → Option Value} {s₀ : Shared} {n : Nat} {env : Env} {X B : Addr → Prop} {hB : Heap} {Γ : List (Str × VK)} {Λ Λ' Λ₁ Λ₂ Λ₃ Λ₄ : List (MutH × List PV)} {A : Around} {s : Shared} {Q : Flow → Shared → Prop}

theorem St_appM {x : Str} {px : Pos} {e : Expr} {apos pos spos : Pos} {rest : List Stmt} {a : Addr} {ps : List PV} {p : PV} (S : Sta h₀ s₀ env X B hB Γ Λ s) (R : Room A n) (hx : Γ.lookup x = some (.raw (.ref a))) (hd : (x == ("__debug__" : Str)) = false)
    (hm : (lstH a, ps) ∈ Λ) (he : Em prog w h₀ n s₀ env X B hB Γ Λ e (Λ₃ ++ (lstH a, ps) :: Λ₄) p) (hsz : ps.length ≤ 1000)
    (h : ∀ s', Sta h₀ s₀ env X B hB Γ (Λ₃ ++ (lstH a, ps ++ [p]) :: Λ₄) s' → wpAny (model prog w) A (execs rest env) Q NoE s')
    (hbase : attributeBase (.Name x px) "append" env (eval (.Name x px) env) = eval (.Name x px) env := by kernel_rfl!)
    (hfew : ((backTo pos (starEach [e] env)).all (fun x => !x.1) && (backToKw pos (keywordEach [] env)).all (fun x => x.1.isSome)
      && decide (([e] : List Expr).length + ([] : List Keyword).length + (if ([] : List Keyword).isEmpty then 0 else 1) < 30)) = true := by kernel_rfl!)
    (hline : (apos.endLine == pos.line) = true := by kernel_rfl!)
    (htrees : backTo pos (starEach [e] env) = [(false, eval e env)] := by kernel_rfl!)
    (hi : interactive env = false := by kernel_rfl!) (hs : swapsWith (.Call (.Attribute (.Name x px) "append" apos) [e] [] pos) none spos.line env = pure false := by kernel_rfl!) :
    wpAny (model prog w) A (execs (.Expr (.Call (.Attribute (.Name x px) "append" apos) [e] [] pos) spos :: rest) env) Q NoE s := by
  refine wpAny_execs_cons (wpAny_Expr (wpAny_Call_append hbase hfew hline htrees (wpAny_mono (Rw_name hx hd A s R S.cok) (fun v s₁ h₁ => ?_) fun _ _ e => e)) hi hs)
  obtain ⟨k₁, rfl⟩ := h₁
  have S₁ := S.keep k₁
  obtain ⟨hXa, hBa, vs, k, eo, rs⟩ := S₁.muts _ hm
  refine ⟨a, vs.toArray, rfl, ⟨_, k, eo, rfl, rfl, rfl⟩, wpAny_mono (he A s₁ R S₁) (fun y s₂ h₂ => ?_) fun _ _ e => e⟩
  obtain ⟨S₂, ry⟩ := h₂
  obtain ⟨_, _, vs2, k2, eo2, rs2⟩ := S₂.muts (lstH a, ps) (List.mem_append_right _ (.head _))
  have hlen2 : vs2.length = ps.length := rs2.length
  refine wpAny_list_append_plain (hsz := by simp only [List.size_toArray, sizeLine_eq]; omega) ⟨k2, eo2⟩ fun h3 hl3 hs3 => ?_
  obtain ⟨k3, e3⟩ := hl3
  have e3' : h3.get? a = some (lstObj (vs2 ++ [y]) k3) := by rw [e3]; simp
  have mono : ∀ b o, ¬ X b → s₂.heap.get? b = some o → h3.get? b = some o ∧ ¬ X b := fun b o nb e => ⟨(hs3.2 b fun q => nb (q ▸ hXa)).trans e, nb⟩
  exact h _ (S₂.mut (H := lstH a) (fun b o nb e => (hs3.2 b nb).trans e) ⟨_, k3, e3', (rs2.mono mono).append (.one (ry.mono mono))⟩)

theorem upd_lst {M : Model} {E : Value → Shared → Prop} {a : Addr} {vs ws : List Value} {k : Nat} {f : Array Value → Array Value} {Q : Unit → Shared → Prop} (hx : s.heap.get? a = some (lstObj vs k)) (hsz : vs.length ≤ 10000) (hf : f vs.toArray = ws.toArray) (hsz' : ws.length ≤ 20000)
    (hq : ∀ h' k', (∀ b, b ≠ a → h'.get? b = s.heap.get? b) → h'.get? a = some (lstObj ws k') → Q () { s with heap := h' }) : wpAny M A (updateSeq a f) Q E s := by
  refine wpAny_updateSeq hx rfl ?_ (by rw [List.size_toArray, sizeLine_eq]; omega) (by rw [hf, List.size_toArray, sizeLine_eq]; omega)
  refine hq _ (if ws.toArray.size == vs.toArray.size then k else k + 1) (fun b hb => Heap.get?_update_ne _ _ _ _ hb) ?_
  rw [Heap.get?_update_self _ hx rfl]
  simp only [Obj.mapSeq, hf]
theorem t_extend {E : Value → Shared → Prop} {a b : Addr} {vs us : List Value} {k j : Nat} {Q : PySem.Fin → Shared → Prop} (ha : s.heap.get? a = some (lstObj vs k)) (hb : s.heap.get? b = some (lstObj us j)) (h1 : vs.length ≤ 1000) (h2 : us.length ≤ 1000)
    (hq : ∀ h' k', (∀ c, c ≠ a → h'.get? c = s.heap.get? c) → h'.get? a = some (lstObj (vs ++ us) k') → Q (.done (.ret .none)) { s with heap := h' }) : wpAny (model prog w) A (Builtin.«list.extend» ⟨[.ref a, .ref b], []⟩) Q E s := by
  have hTb : s.TypeIs (.ref b) "list" := ⟨_, hb, rfl⟩
  unfold Builtin.«list.extend»
  refine wpAny_bind (wpAny_of_eq (a := (.ref a, .ref b)) (by kernel_rfl) ?_)
  dsimp only
  unfold Builtin.List.listExtendWith
  refine wpAny_bind (wpAny_typeOf hTb ?_)
  rw [if_pos (by simp)]
  unfold Builtin.List.listItems Builtin.List.listUpdate
  refine wpAny_bind (wpAny_bind (wpAny_seqItems hb rfl (wpAny_pure ?_)))
  refine wpAny_bind (wpAny_bind (wpAny_seqItems ha rfl (wpAny_pure ?_)))
  rw [if_neg (by simp [Builtin.List.listTooLong, sizeLine_eq]; intros; omega)]
  refine wpAny_bind (upd_lst (ws := vs ++ us) ha (by omega) (by simp) (by simp; omega) fun h' k' e1 e2 => ?_)
  exact wpAny_pure (hq h' k' e1 e2)
end
end
section
set_option maxRecDepth 100000
set_option maxHeartbeats 4000000
section
variable {prog : Program} {w : World} {h₀ : Heap} {mg mb : Str → Option Value} {s₀ : Shared} {n : Nat} {env : Env} {X B : Addr → Prop} {hB : Heap} {Γ : List (Str × VK)} {Λ Λ' Λ₁ Λ₂ Λ₃ Λ₄ : List (MutH × List PV)} {A : Around} {s : Shared} {Q : Flow → Shared → Prop}

theorem Em_ext {x : Str} {px : Pos} {e : Expr} {apos pos : Pos} {a : Addr} {ps qs : List PV} (hx : Γ.lookup x = some (.raw (.ref a))) (hd : (x == ("__debug__" : Str)) = false)
    (he : ExL prog w h₀ n env X Γ pos [e] [.lst qs]) (hsz : ps.length ≤ 1000) (hsz2 : qs.length ≤ 1000)
    (hbase : attributeBase (.Name x px) "extend" env (eval (.Name x px) env) = eval (.Name x px) env := by kernel_rfl!)
    (hfew : ((backTo pos (starEach [e] env)).all (fun x => !x.1) && (backToKw pos (keywordEach [] env)).all (fun x => x.1.isSome)
      && decide (([e] : List Expr).length + ([] : List Keyword).length + (if ([] : List Keyword).isEmpty then 0 else 1) < 30)) = true := by kernel_rfl!)
    (hline : (apos.endLine == pos.line) = true := by kernel_rfl!) (hst : starEach [e] env = (false, eval e env) :: starEach [] env := by kernel_rfl!) :
    Em prog w h₀ n s₀ env X B hB Γ (Λ₁ ++ (lstH a, ps) :: Λ₂) (.Call (.Attribute (.Name x px) "extend" apos) [e] [] pos) (Λ₁ ++ (lstH a, ps ++ qs) :: Λ₂) .none := by
  intro A s R S
  refine Call_getm ?_ hbase hfew hline
  refine wpAny_mono (Rw_name hx hd A s R S.cok) (fun v s₁ h₁ => ?_) fun _ _ e => e
  obtain ⟨k₁, rfl⟩ := h₁
  have S₁ := S.keep k₁
  intro pl
  obtain ⟨hXa, hBa, vs, k, eo, rs⟩ := S₁.muts (lstH a, ps) (List.mem_append_right _ (.head _))
  refine getMethod_list_of PySem.F.slot_list_extend PySem.F.type_list_extend (lst_isList eo) ?_ ?_
  · exact ⟨_, eo, rfl⟩
  refine callWith_bf ?_ hst
  refine wpAny_mono (he A _ R S₁.cok) (fun us s₂ h₂ => ?_) fun _ _ e => e
  obtain ⟨k₂, r₂⟩ := h₂
  have S₂ := S₁.keep k₂
  cases r₂ with
  | cons ra r₂ =>
  cases r₂
  have ra0 := ra
  obtain ⟨b, us, j, rfl, eb, rb⟩ := ra.isList
  have nX : ¬ X b := by cases ra0 with | lst _ q _ => exact q
  have eo2 := keeps_heap k₂ eo
  have rs2 := rs.keep k₂
  refine wpAny_call_entry PySem.F.slot_list_extend ⟨_, eo2, rfl⟩ PySem.F.entry_list_extend ?_ (PySem.F.args_list_extend_2 _ _)
  refine t_extend eo2 eb (by rw [rs2.length]; exact hsz) (by rw [rb.length]; exact hsz2) fun h' k' e1 e2 => ?_
  have mono : ∀ c o, ¬ X c → s₂.heap.get? c = some o → h'.get? c = some o ∧ ¬ X c := fun c o nb e => ⟨(e1 c fun q => nb (q ▸ hXa)).trans e, nb⟩
  refine ⟨_, rfl, ?_, .none⟩
  exact S₂.mut (H := lstH a) (fun b o nb e => (e1 b nb).trans e) ⟨_, k', e2, (rs2.mono mono).append (rb.mono mono)⟩

theorem Sta.adopt {a : Addr} {vs : List Value} {k : Nat} {ps : List PV} (S : Sta h₀ s₀ env X B hB Γ Λ s) (hX : X a) (hBa : ¬ B a) (e : s.heap.get? a = some (lstObj vs k)) (r : RdL s.heap X vs ps) (hne : ∀ q ∈ Λ, q.1.a ≠ a) : Sta h₀ s₀ env X B hB Γ ((lstH a, ps) :: Λ) s := by
  refine ⟨S.same, S.old, S.fixd, S.cok, S.frm, S.ownL, S.ownC, fun q hq => ?_, List.nodup_cons.mpr ⟨fun q => ?_, S.nodup⟩⟩
  · rcases List.mem_cons.mp hq with rfl | hq
    · exact ⟨hX, hBa, vs, k, e, r⟩
    · exact S.muts q hq
  · obtain ⟨q', hq', e⟩ := List.mem_map.mp q
    exact hne q' hq' e
end
end
section

structure ItP (prog : Program) (w : World) (A : Around) (X : Addr → Prop) (items : List (PV × PV)) (s s₂ : Shared) (I : Addr) (fp wr : List Addr) (St : Nat → Heap → Prop) : Prop where
  sub : ∀ b ∈ wr, b ∈ fp
  frame : ∀ i h h', St i h → (∀ b ∈ fp, ∀ o, h.get? b = some o → h'.get? b = some o) → St i h'
  step : ∀ i p q (s' : Shared) (elts : List Expr) (k : Nat) (tp : Pos), items[i]? = some (p, q) → St i s'.heap → (∀ b o, s.heap.get? b = some o → s'.heap.get? b = some o) →
    wpAny (model prog w) A (pyNext (.ref I)) (fun r s₁ => ∃ T, r = some (.ref T) ∧ wpAny (model prog w) A (letOwnedTupleGo (.Tuple elts k tp) (.ref I) (.ref T)) (fun _ s₂ => ∃ v₁ v₂ h' tk, s₂ = { s' with heap := h', toks := tk } ∧ St (i + 1) h' ∧ h'.IsTuple T #[v₁, v₂] ∧
      (∀ b o, b ∉ wr → s'.heap.get? b = some o → h'.get? b = some o) ∧
      ∀ (h'' : Heap) (X' : Addr → Prop), (∀ b, X' b → X b ∨ s.heap.get? b = none) → (∀ b o, ¬ X' b → s.heap.get? b = some o → h''.get? b = some o) → Rd h'' X' v₁ p ∧ Rd h'' X' v₂ q) NoE s₁) NoE s'
  done : ∀ s' : Shared, St items.length s'.heap → wpAny (model prog w) A (pyNext (.ref I)) (fun r s₁ => r = none ∧ ∃ h' tk, s₁ = { s' with heap := h', toks := tk } ∧ ∀ b o, b ∉ wr → s'.heap.get? b = some o → h'.get? b = some o) NoE s'
  self : ∀ i (s : Shared) (Q : Value → Shared → Prop) (E : Value → Shared → Prop), St i s.heap → Q (.ref I) s → wpAny (model prog w) A (pyIter (.ref I)) Q E s
  st : St 0 s₂.heap
  lt : ∀ b ∈ fp, b < s₂.heap.objs.size
  fresh : ∀ b ∈ wr, s.heap.get? b = none
  live : ∀ i h, St i h → ∀ b ∈ wr, (h.get? b).isSome = true
noncomputable def ItPX (prog : Program) (w : World) (A : Around) (X : Addr → Prop) (items : List (PV × PV)) (s : Shared) (it : Value) (s₂ : Shared) : Prop :=
  Keeps s s₂ ∧ ∃ I fp wr St, it = .ref I ∧ ItP prog w A X items s s₂ I fp wr St
noncomputable def ItPr (prog : Program) (w : World) (h₀ : Heap) (n : Nat) (env : Env) (X : Addr → Prop) (Γ : List (Str × VK)) (e : Expr) (items : List (PV × PV)) : Prop :=
  ∀ A s, Room A n → Cok h₀ env X Γ s.heap → wpAny (model prog w) A (eval e env) (fun v s₁ => wpAny (model prog w) A (pyIter v) (ItPX prog w A X items s) NoE s₁) NoE s

section
variable {prog : Program} {w : World} {h₀ : Heap} {n : Nat} {env : Env} {X : Addr → Prop} {Γ : List (Str × VK)} {A : Around} {s : Shared}

theorem comp_blockP {elt iter : Expr} {x y : Str} {px py tp : Pos} {kt : Nat} {scope : Scope} {pos : Pos} {items : List (PV × PV)} {Γc : List (Str × VK)} {f : PV × PV → PV} {s₁ s₂ : Shared} {I : Addr} {fp wr : List Addr} {St : Nat → Heap → Prop}
    {RR : Value → Addr → Result → Shared → Prop} (R : Room A n)
    (W : ItP prog w A X items s₁ s₂ I fp wr St) (k₂ : Keeps s₁ s₂) (C : Cok h₀ env X Γ s₁.heap) (hsz : items.length ≤ 1000)
    (hcell : ∀ y ∈ scope.names, y.2 ≠ .cell) (hkind : scope.kind = .function) (hx : scope.names.lookup x = some .local) (hy : scope.names.lookup y = some .local) (hs : Sees scope env Γ Γc)
    (helt : ∀ q ∈ items, ∀ D X', Ex prog w h₀ n (compEnvC scope (clOf scope env) D env) X' ((y, .pv q.2) :: (x, .pv q.1) :: Γc) elt (f q))
    (hRR : ∀ D Cc h' tk, s₁.heap.get? Cc = none → (∃ m, h'.Ns Cc m) → (∀ b o, s₁.heap.get? b = some o → h'.get? b = some o) → Rd h' (fun a => X a ∨ a = Cc) (.ref D) (.lst (items.map f)) → RR (.ref D) Cc (.ok .next) { s₂ with heap := h', toks := tk }) :
    wpAny (model prog w) A (newList []) (fun acc s₃ => wpAny (model prog w) A (newFunctionEnv scope env.globals (clOf scope env) [] env.qual none .none (some env)) (fun cenv s₄ =>
      codeAny (model prog w) A (.compStart (.ListComp elt [⟨.Tuple [.Name x px, .Name y py] kt tp, iter, [], 0⟩] scope pos) 0 (.ref I) acc { cenv with scope := relabel scope env }) (RR acc cenv.locals) s₄) NoE s₃) NoE s₂ := by
  refine wpAny_newObj_type (wpAny_newFunctionEnv hcell (by intro y hy; simp at hy) (fun h₁ hns₁ hsb₁ => ?_) hkind)
  dsimp only at hns₁ hsb₁ ⊢
  obtain ⟨H₂, t₂, rfl, k₂⟩ := k₂
  dsimp only at hns₁ hsb₁ ⊢
  generalize hH2 : H₂.push { cls := .type "list", dict := none, data := .seq ([] : List Value).toArray } = H2 at hns₁ hsb₁ ⊢
  have hC : H2.objs.size = H₂.objs.size + 1 := by rw [← hH2, Heap.size_push]
  generalize hD : H₂.objs.size = D at hC
  generalize hCc : H2.objs.size = Cc at hC hns₁ hsb₁ ⊢
  have hDC : D ≠ Cc := by omega
  have below : ∀ b o, H₂.get? b = some o → b ≠ Cc ∧ b ≠ D := fun b o e => by
    have h1 : @LT.lt Nat _ b H₂.objs.size := Heap.lt_size e
    rw [hD] at h1
    exact ⟨Nat.ne_of_lt (by rw [hC]; exact Nat.lt_succ_of_lt h1), Nat.ne_of_lt h1⟩
  have old : ∀ b o, H₂.get? b = some o → h₁.get? b = some o := fun b o e => hsb₁.extBut b o (below b o e).1 (Heap.get?_push_of_some _ (by rw [← hH2]; exact Heap.get?_push_of_some _ e))
  have hacc : h₁.get? D = some (lstObj [] 0) := hsb₁.extBut _ _ hDC (Heap.get?_push_of_some _ (by rw [← hD, ← hH2]; exact Heap.get?_push_size _ rfl))
  have fresh1 : ∀ a, a = D ∨ a = Cc ∨ a ∈ wr → s₁.heap.get? a = none := fun a ha => by
    rcases ha with rfl | rfl | ha
    · cases e : s₁.heap.get? a with
      | none => rfl
      | some o => exact absurd rfl (below _ _ (k₂ _ _ e)).2
    · cases e : s₁.heap.get? a with
      | none => rfl
      | some o => exact absurd rfl (below _ _ (k₂ _ _ e)).1
    · exact W.fresh a ha
  have fpne : ∀ b ∈ fp, b ≠ D ∧ b ≠ Cc := fun b hb => by
    have h1 : @LT.lt Nat _ b H₂.objs.size := W.lt b hb
    rw [hD] at h1
    exact ⟨Nat.ne_of_lt h1, Nat.ne_of_lt (by rw [hC]; exact Nat.lt_succ_of_lt h1)⟩
  have wrfp : ∀ b ∈ wr, b ∈ fp := W.sub
  let X' : Addr → Prop := fun a => X a ∨ a = D ∨ a = Cc ∨ a ∈ wr
  have X'1 : ∀ b, X' b → X b ∨ s₁.heap.get? b = none := fun b q => q.imp id fun q => fresh1 b q
  have live1 : ∀ a, X a → (s₁.heap.get? a).isSome = true := fun a q => (C.xok a q).2
  let cenv := compEnvC scope (clOf scope env) Cc env
  have J0 : St 0 h₁ := W.frame _ _ _ W.st fun b _ o e => old b o e
  have cokOf : ∀ (h' : Heap) (q : PV × PV) (v u : Value) (i : Nat), St i h' → (∀ b o, ¬ X' b → s₁.heap.get? b = some o → h'.get? b = some o) → (∀ b o, X b → s₁.heap.get? b = some o → h'.get? b = some o) → (h'.get? D).isSome = true →
      (∃ m, h'.Ns Cc m ∧ ∃ m₀ : Str → Option Value, (∀ z, m z = if z = y then some u else if z = x then some v else m₀ z)) → Rd h' X' v q.1 → Rd h' X' u q.2 → Cok h₀ cenv X' ((y, .pv q.2) :: (x, .pv q.1) :: Γc) h' := by
    intro h' q v u i hst hk hkX hDl hm hv hu
    have all : ∀ b o, s₁.heap.get? b = some o → h'.get? b = some o := fun b o e => by
      by_cases xb : X b
      · exact hkX b o xb e
      · refine hk b o (fun z => ?_) e
        rcases z with z | z
        · exact xb z
        · rw [fresh1 b z] at e; cases e
    refine ⟨⟨by show scope.kind = _; exact hkind, C.ok.globals, C.ok.builtins⟩, fun b o e => all b o (C.gd b o e), fun a z => ?_, fun z₁ k e => ?_⟩
    · rcases z with z | z
      · refine ⟨(C.xok a z).1, ?_⟩
        obtain ⟨o, ho⟩ := Option.isSome_iff_exists.mp (live1 a z)
        rw [all a o ho]; rfl
      · refine ⟨?_, ?_⟩
        · cases e : h₀.get? a with
          | none => rfl
          | some o => have := C.gd a o e; rw [fresh1 a z] at this; cases this
        · rcases z with rfl | rfl | z
          · exact hDl
          · obtain ⟨m, hm, _⟩ := hm; exact ns_some hm
          · exact W.live _ _ hst a z
    · obtain ⟨m, hm, m₀, hv'⟩ := hm
      by_cases hzy : z₁ = y
      · subst hzy
        rw [lookup_cons_eq] at e; cases e
        exact ⟨u, .inl ⟨lookup_relabel_local hy, m, hm, by rw [hv', if_pos rfl]⟩, hu⟩
      · rw [lookup_cons_ne hzy] at e
        by_cases hzx : z₁ = x
        · subst hzx
          rw [lookup_cons_eq] at e; cases e
          exact ⟨v, .inl ⟨lookup_relabel_local hx, m, hm, by rw [hv', if_neg hzy, if_pos rfl]⟩, hv⟩
        rw [lookup_cons_ne hzx] at e
        obtain ⟨e1, e2, e3⟩ := hs _ (mem_of_lookupK e)
        obtain ⟨u, hu, ru⟩ := C.has z₁ k e1
        refine ⟨u, ?_, VK.holds_mono (fun b o nb eb => ⟨all b o eb, fun z => ?_⟩) ru⟩
        · rcases hu with ⟨a, _⟩ | ⟨_, c, hc, o, ho, hd⟩
          · rw [e2] at a; cases a
          · exact .inr ⟨relabel_free C.ok.kind e3 e2, c, clOf_lookup hc e3, o, all _ _ ho, hd⟩
        · rcases z with z | z
          · exact nb z
          · rw [fresh1 b z] at eb; cases eb
  have loop : ∀ s₃ : Shared, s₃ = { s₁ with heap := h₁, toks := t₂ + ([] : List (Str × Value)).length } →
      codeAny (model prog w) A (.compLoop (.ListComp elt [⟨.Tuple [.Name x px, .Name y py] kt tp, iter, [], 0⟩] scope pos) 0 (.ref I) (.ref D) cenv) (RR (.ref D) Cc) s₃ := by
    rintro s₃ rfl
    refine LCp.codeAny_compLoop_pair (fun m s' => ∃ h' tk i vs k, s' = { s₁ with heap := h', toks := tk } ∧ m = items.length - i ∧ i ≤ items.length ∧ St i h' ∧ (∃ m, h'.Ns Cc m) ∧ h'.get? D = some (lstObj vs k) ∧
      RdL h' X' vs ((items.take i).map f) ∧ (∀ b o, b ≠ D → b ≠ Cc → b ∉ wr → s₁.heap.get? b = some o → h'.get? b = some o)) ?_ (items.length - 0)
      ⟨h₁, _, 0, [], 0, rfl, rfl, Nat.zero_le _, J0, ⟨_, hns₁⟩, hacc, .nil, fun b o _ _ _ e => old b o (k₂ b o e)⟩
    rintro m s' ⟨h', tk, i, vs, k, rfl, rfl, hi, hst, ⟨m, hm⟩, hDo, hrd, hkp⟩
    by_cases hlt : i < items.length
    · obtain ⟨q, hq⟩ : ∃ q, items[i]? = some q := ⟨_, List.getElem?_eq_getElem hlt⟩
      have notX : ∀ b o, s₁.heap.get? b = some o → b ≠ D ∧ b ≠ Cc ∧ b ∉ wr := fun b o e => by
        refine ⟨fun z => ?_, fun z => ?_, fun z => ?_⟩ <;> (have := fresh1 b (by first | exact .inl z | exact .inr (.inl z) | exact .inr (.inr z)); rw [this] at e; cases e)
      refine wpAny_mono (W.step i q.1 q.2 { s₁ with heap := h', toks := tk } [.Name x px, .Name y py] kt tp hq hst fun b o e => let ⟨a1, a2, a3⟩ := notX b o e; hkp b o a1 a2 a3 e) (fun r s₂' hr => ?_) fun _ _ e => e.elim
      obtain ⟨T, rfl, hr⟩ := hr
      refine wpAny_mono hr (fun _ s₃' hr => ?_) fun _ _ e => e.elim
      obtain ⟨v, u, h2, tk2, rfl, hst2, hT2, hk2, hread⟩ := hr
      have hk2D : h2.get? D = some (lstObj vs k) := hk2 D _ (fun q => (fpne _ (wrfp _ q)).1 rfl) hDo
      have hm2 : h2.Ns Cc m := hm.at' fun o e => hk2 Cc o (fun q => (fpne _ (wrfp _ q)).2 rfl) e
      have hmem : q ∈ items := List.mem_of_getElem? hq
      have hkp2 : ∀ b o, b ≠ D → b ≠ Cc → b ∉ wr → s₁.heap.get? b = some o → h2.get? b = some o := fun b o a1 a2 a3 e => hk2 b o a3 (hkp b o a1 a2 a3 e)
      refine wpAny_mono (wpAny_assign_Tuple (E := NoE) (Q := fun _ s' => ∃ h3 tk3 m3, s' = { s₁ with heap := h3, toks := tk3 } ∧ h3.Ns Cc m3 ∧ (∀ z, m3 z = if z = y then some u else if z = x then some v else m z) ∧ (∀ b o, b ≠ Cc → h2.get? b = some o → h3.get? b = some o)) R.handled hT2 rfl rfl fun ha hea => ?_) (fun _ s₄ hr3 => ?_) fun _ _ e => e.elim
      · have ka : ∀ b o, h2.get? b = some o → ha.get? b = some o := fun b o e => hea b o (Nat.ne_of_lt (Heap.lt_size e)) e
        refine assignInOrder_cons (assign_rd (cenv := cenv) (lookup_relabel_local hx) (by show scope.kind = _; exact hkind) (hm2.keeps ka) fun hb hnb hsb => ?_)
        refine assignInOrder_cons (assign_rd (cenv := cenv) (lookup_relabel_local hy) (by show scope.kind = _; exact hkind) hnb fun hc hnc hsc => ?_)
        exact assignInOrder_nil ⟨hc, _, _, rfl, hnc, fun z => rfl, fun b o nb e => hsc.extBut b o nb (hsb.extBut b o nb (ka b o e))⟩
      obtain ⟨h3, tk3, m3, rfl, hn3, hm3, hs3'⟩ := hr3
      have hkp3 : ∀ b o, b ≠ D → b ≠ Cc → b ∉ wr → s₁.heap.get? b = some o → h3.get? b = some o := fun b o a1 a2 a3 e => hs3' b o a2 (hkp2 b o a1 a2 a3 e)
      have hst3 : St (i + 1) h3 := W.frame _ _ _ hst2 fun b hb o e => hs3' b o (fpne b hb).2 e
      have hk3D : h3.get? D = some (lstObj vs k) := hs3' D _ hDC hk2D
      have mono3 : ∀ b o, ¬ X' b → h'.get? b = some o → h3.get? b = some o ∧ ¬ X' b := fun b o nb e => ⟨hs3' b o (fun z => nb (.inr (.inr (.inl z)))) (hk2 b o (fun z => nb (.inr (.inr (.inr z)))) e), nb⟩
      have all3 : ∀ b o, s₁.heap.get? b = some o → h3.get? b = some o := fun b o e => let ⟨a1, a2, a3⟩ := notX b o e; hkp3 b o a1 a2 a3 e
      obtain ⟨rv, ru⟩ := hread h3 X' X'1 fun b o nb e => all3 b o e
      have ck := cokOf h3 q v u (i + 1) hst3 (fun b o _ e => all3 b o e) (fun b o _ e => all3 b o e) (by rw [hk3D]; rfl) ⟨m3, hn3, m, hm3⟩ rv ru
      have htk : items.take (i + 1) = items.take i ++ [q] := by rw [List.take_add_one, hq]; rfl
      have step : ∀ (s₅ : Shared) (h5 : Heap) (tk5 : Nat) (vs' : List Value) (k' : Nat), s₅ = { s₁ with heap := h5, toks := tk5 } → (∀ b o, b ≠ D → h3.get? b = some o → h5.get? b = some o) → h5.get? D = some (lstObj vs' k') →
          RdL h5 X' vs' ((items.take (i + 1)).map f) → ∃ m, m < items.length - i ∧ ∃ h' tk i vs k, s₅ = { s₁ with heap := h', toks := tk } ∧ m = items.length - i ∧ i ≤ items.length ∧ St i h' ∧ (∃ m, h'.Ns Cc m) ∧ h'.get? D = some (lstObj vs k) ∧
            RdL h' X' vs ((items.take i).map f) ∧ (∀ b o, b ≠ D → b ≠ Cc → b ∉ wr → s₁.heap.get? b = some o → h'.get? b = some o) := by
        intro s₅ h5 tk5 vs' k' e5 hk5 hD5 hr5
        refine ⟨items.length - (i + 1), by omega, h5, tk5, i + 1, vs', k', e5, rfl, hlt, W.frame _ _ _ hst3 fun b hb o e => hk5 b o (fpne b hb).1 e, ?_, hD5, hr5, fun b o a1 a2 a3 e => hk5 b o a1 (hkp3 b o a1 a2 a3 e)⟩
        exact ⟨_, hn3.at' fun o e => hk5 Cc o (Ne.symm hDC) e⟩
      have rd4 : RdL h3 X' vs ((items.take i).map f) := hrd.mono fun b o nb e => ⟨(mono3 b o nb e).1, nb⟩
      · refine wpAny_mono (helt q hmem Cc X' A _ R ck) (fun y s₅ h₅ => ?_) fun _ _ e => e.elim
        obtain ⟨⟨h5, tk5, rfl, kk5⟩, ry⟩ := h₅
        have hD5 : h5.get? D = some (lstObj vs k) := kk5 _ _ hk3D
        have hsz2 : vs.length ≤ 1000 := by
          have a1 := hrd.length
          rw [List.length_map] at a1
          have a2 := a1
          rw [List.length_take] at a2
          omega
        have hl5 : h5.IsList D vs.toArray := lst_isList hD5
        refine wpAny_list_append_plain (hsz := by simp only [List.size_toArray, sizeLine_eq]; omega) ⟨k, hD5⟩ fun h6 hl6 hs6 => ?_
        obtain ⟨k6, hD6⟩ := hl6
        have hk6 : ∀ b o, b ≠ D → h5.get? b = some o → h6.get? b = some o := fun b o nb e => hs6.extBut b o nb e
        have m6 : ∀ b o, ¬ X' b → h5.get? b = some o → h6.get? b = some o ∧ ¬ X' b := fun b o nb e => ⟨hk6 b o (fun z => nb (.inr (.inl z))) e, nb⟩
        refine step _ h6 tk5 (vs ++ [y]) k6 rfl (fun b o nb e => hk6 b o nb (kk5 b o e)) (by rw [hD6]; simp) ?_
        rw [htk, List.map_append]
        have r1 : RdL h6 X' vs ((items.take i).map f) := (rd4.mono fun b o nb e => ⟨kk5 b o e, nb⟩ : RdL h5 X' vs _).mono m6
        have r2 : RdL h6 X' [y] [f q] := .one (ry.mono m6)
        exact r1.append r2
    · have hin : i = items.length := by omega
      subst hin
      refine wpAny_mono (W.done { s₁ with heap := h', toks := tk } hst) (fun r s₂' hr => ?_) fun _ _ e => e.elim
      obtain ⟨rfl, h2, tk2, rfl, hk2⟩ := hr
      rw [List.take_length] at hrd
      refine hRR D Cc h2 tk2 (fresh1 _ (.inr (.inl rfl))) ⟨m, hm.at' fun o e => hk2 Cc o (fun q => (fpne _ (wrfp _ q)).2 rfl) e⟩ (fun b o e => ?_) ?_
      · have nb : b ≠ D ∧ b ≠ Cc ∧ b ∉ wr := by
          refine ⟨fun z => ?_, fun z => ?_, fun z => ?_⟩ <;> (have := fresh1 b (by first | exact .inl z | exact .inr (.inl z) | exact .inr (.inr z)); rw [this] at e; cases e)
        exact hk2 b o nb.2.2 (hkp b o nb.1 nb.2.1 nb.2.2 e)
      · refine .lst (hk2 D _ (fun q => (fpne _ (wrfp _ q)).1 rfl) hDo) (fun z => ?_) (hrd.mono fun b o nb e => ⟨hk2 b o (fun z => nb (.inr (.inr (.inr z)))) e, fun z => z.elim (fun z => nb (.inl z)) fun z => nb (.inr (.inr (.inl z)))⟩)
        rcases z with z | z
        · have := live1 _ z
          rw [fresh1 D (.inl rfl)] at this; cases this
        · exact hDC z
  exact codeAny_compStart_list (loop _ rfl) (W.self 0 _ _ _ J0 (loop _ rfl))

theorem Ex_compP {elt iter : Expr} {x y : Str} {px py tp : Pos} {kt : Nat} {scope : Scope} {pos : Pos} {items : List (PV × PV)} (Γc : List (Str × VK)) (f : PV × PV → PV)
    (hit : ItPr prog w h₀ n env X Γ iter items) (hsz : items.length ≤ 1000) (hs : Sees scope env Γ Γc)
    (helt : ∀ q ∈ items, ∀ D X', Ex prog w h₀ n (compEnvC scope (clOf scope env) D env) X' ((y, .pv q.2) :: (x, .pv q.1) :: Γc) elt (f q))
    (hcell' : (scope.names.all fun q => q.2 != .cell) = true := by kernel_rfl!) (hkind : scope.kind = .function := by kernel_rfl!) (hx : scope.names.lookup x = some .local := by kernel_rfl!) (hy : scope.names.lookup y = some .local := by kernel_rfl!)
    (hnames' : (scope.names.all fun q => q.2 != .local || scope.names.lookup q.1 == some .local) = true := by kernel_rfl!)
    (hfree : (scope.names.all fun q => q.2 != .free || (env.cells.lookup q.1).isSome) = true := by kernel_rfl!)
    (hfs : ∀ x, foldedSetIterable iter env x = pure x := by intro _; kernel_rfl!) :
    Ex prog w h₀ n env X Γ (.ListComp elt [⟨.Tuple [.Name x px, .Name y py] kt tp, iter, [], 0⟩] scope pos) (.lst (items.map f)) := by
  intro A s R C
  have hcell := names_cell hcell'
  have hnames := names_local hnames'
  rw [eval_ListComp]
  refine wpAny_comprehension_free (use := none) rfl hfs (closure_clOf hfree) hkind hnames (wpAny_mono (hit A s R C) (fun xv s₁ h₁ => wpAny_mono h₁ (fun it s₂ h₂ => ?_) fun _ _ e => e.elim) fun _ _ e => e.elim)
  obtain ⟨k₂, I, fp, wr, St, rfl, W⟩ := h₂
  refine comp_blockP (RR := fun acc Cc => compPost (model prog w) A NoE none _ acc Cc) R W k₂ C hsz hcell hkind hx hy hs helt ?_
  intro D Cc h' tk hCc ⟨m, hm⟩ hkp hrd
  refine ⟨m, hm, fun h'' hs'' => ?_⟩
  have kk : ∀ b o, s.heap.get? b = some o → h''.get? b = some o := fun b o e => hs''.extBut b o (fun z => by rw [← z, e] at hCc; cases hCc) (hkp b o e)
  obtain ⟨H₂, t₂, rfl, k₂⟩ := k₂
  refine ⟨⟨h'', tk, rfl, kk⟩, ?_⟩
  exact hrd.mono fun b o nb e => ⟨hs''.extBut b o (fun z => nb (.inr z)) e, fun z => nb (.inl z)⟩
end
section
variable {prog : Program} {w : World} {h₀ : Heap} {s₀ : Shared} {n : Nat} {env : Env} {X B : Addr → Prop} {hB : Heap} {Γ : List (Str × VK)} {Λ : List (MutH × List PV)} {A : Around} {s : Shared} {Q : Flow → Shared → Prop}

theorem St_compP {y : Str} {py spos : Pos} {elt iter : Expr} {x x₂ : Str} {px px₂ tp : Pos} {kt : Nat} {scope : Scope} {pos : Pos} {rest : List Stmt} {items : List (PV × PV)} (Γc : List (Str × VK)) (f : PV × PV → PV)
    (S : Sta h₀ s₀ env X B hB Γ Λ s) (R : Room A n)
    (hit : ItPr prog w h₀ n env X Γ iter items) (hsz : items.length ≤ 1000) (hs : Sees scope env Γ Γc)
    (helt : ∀ q ∈ items, ∀ D X', Ex prog w h₀ n (compEnvC scope (clOf scope env) D env) X' ((x₂, .pv q.2) :: (x, .pv q.1) :: Γc) elt (f q))
    (hy : env.kindOf y = some .local)
    (h : ∀ s', Sta h₀ s₀ env X B hB ((y, .pv (.lst (items.map f))) :: Γ) Λ s' → wpAny (model prog w) A (execs rest env) Q NoE s')
    (hsw : swapsWith (.ListComp elt [⟨.Tuple [.Name x px, .Name x₂ px₂] kt tp, iter, [], 0⟩] scope pos) (some (.Name y py)) spos.line env = pure true := by kernel_rfl!)
    (hcell' : (scope.names.all fun q => q.2 != .cell) = true := by kernel_rfl!) (hkind : scope.kind = .function := by kernel_rfl!) (hx : scope.names.lookup x = some .local := by kernel_rfl!) (hx₂ : scope.names.lookup x₂ = some .local := by kernel_rfl!)
    (hnames' : (scope.names.all fun q => q.2 != .local || scope.names.lookup q.1 == some .local) = true := by kernel_rfl!)
    (hfree : (scope.names.all fun q => q.2 != .free || (env.cells.lookup q.1).isSome) = true := by kernel_rfl!)
    (hfs : ∀ x, foldedSetIterable iter env x = pure x := by intro _; kernel_rfl!) :
    wpAny (model prog w) A (execs (.Assign [.Name y py] (.ListComp elt [⟨.Tuple [.Name x px, .Name x₂ px₂] kt tp, iter, [], 0⟩] scope pos) spos :: rest) env) Q NoE s := by
  refine wpAny_execs_cons ?_
  have hcell := names_cell hcell'
  have hnames := names_local hnames'
  rw [exec_Assign_Name_used _ _ _ _ hsw]
  refine wpAny_bind (wpAny_standAt (wpAny_bind ?_))
  show wpAny _ A (do let _ ← comprehension (.ListComp elt [⟨.Tuple [.Name x px, .Name x₂ px₂] kt tp, iter, [], 0⟩] scope pos) scope env _ (newList []) false (eval iter env) (some (assign (.Name y py) env))) _ _ s
  refine wpAny_bind (wpAny_mono (wpAny_comprehension_free (use := some (assign (.Name y py) env)) (Q := fun _ s' => wpAny (model prog w) A (execs rest env) Q NoE s') rfl hfs (closure_clOf hfree) hkind hnames
    (wpAny_mono (hit A s R S.cok) (fun xv s₁ h₁ => wpAny_mono h₁ (fun it s₂ h₂ => ?_) fun _ _ e => e.elim) fun _ _ e => e.elim)) (fun _ s' hq => wpAny_pure (wpAny_pure hq)) fun _ _ e => e)
  obtain ⟨k₂, I, fp, wr, St, rfl, W⟩ := h₂
  refine comp_blockP (RR := fun acc Cc => compPost (model prog w) A NoE (some (assign (.Name y py) env)) _ acc Cc) R W k₂ S.cok hsz hcell hkind hx hx₂ hs helt ?_
  intro D Cc h' tk hCc ⟨m, hm⟩ hkp hrd
  obtain ⟨H₂, t₂, rfl, k₂⟩ := k₂
  have hCl : (h'.get? Cc).isSome = true := ns_some hm
  have S₁ := S
  have S' : Sta h₀ s₀ env (fun a => X a ∨ a = Cc) B hB Γ Λ { s with heap := h', toks := tk } :=
    S₁.grow ⟨h', tk, rfl, hkp⟩ (fun a q => .inl q) fun a q => q.imp id fun q => by subst q; exact ⟨hCc, hCl⟩
  have hLC : env.locals ≠ Cc := fun q => by
    have := (S₁.cok.xok _ S₁.ownL.1).2
    rw [q, hCc] at this; cases this
  refine wpAny_assign_Name ?_
  obtain ⟨ml, hml⟩ := S'.frm.ns
  have hk := S.cok.ok.kind
  refine wpAny_storeName_local hy hml (fun h2 hn2 hs2 => ?_) (by rw [hk]; rfl)
  refine ⟨m, hm.sameBut hs2 (Ne.symm hLC), fun h3 hs3 => ?_⟩
  have S2 : Sta h₀ s₀ env (fun a => X a ∨ a = Cc) B hB ((y, .pv (.lst (items.map f))) :: Γ) Λ { s with heap := h2, toks := tk + 1 } := by
    have mono : ∀ b o, ¬ (X b ∨ b = Cc) → h'.get? b = some o → h2.get? b = some o ∧ ¬ (X b ∨ b = Cc) := fun b o nn e => ⟨(hs2.2 b fun q => nn (q ▸ S'.ownL.1)).trans e, nn⟩
    have cells : ∀ n c v, env.cells.lookup n = some c → h'.IsCell c v → h2.IsCell c v := fun n c v _ hv => hv.sameBut hs2 (ns_ne_cell hml hv)
    refine S'.turn1 S'.ownL.1 S'.ownL.2 hs2 (ns_some hn2) _ _ ⟨⟨_, hn2⟩, fun n c e => let ⟨v, hv⟩ := S'.frm.cell n c e; ⟨v, cells n c v e hv⟩, S'.frm.apart⟩ (fun z k' e => ?_) (fun q hq => .inl ⟨hq, ?_⟩) S'.nodup
    · by_cases hz : z = y
      · subst hz
        rw [lookup_cons_eq] at e
        cases e
        exact ⟨_, .inl ⟨hy, _, hn2, by simp⟩, Rd.mono mono hrd⟩
      · rw [lookup_cons_ne hz] at e
        obtain ⟨u, hu, ru⟩ := S'.cok.has z k' e
        refine ⟨u, ?_, VK.holds_mono mono ru⟩
        rcases hu with ⟨a, m', n', e'⟩ | ⟨a, c, e', hv⟩
        · exact .inl ⟨a, _, hn2, by simp only [if_neg hz]; rw [ns_unique hml n']; exact e'⟩
        · exact .inr ⟨a, c, e', cells _ _ _ e' hv⟩
    · intro e
      obtain ⟨_, _, vs, n, e1, _⟩ := S'.muts q hq
      obtain ⟨o, es, ep, e2, d, _⟩ := hml
      rw [e] at e1
      have e1' : h'.get? env.locals = some _ := e1
      rw [e2] at e1'; cases e1'; cases d
  have notC : ∀ a, X a → a ≠ Cc := fun a q z => by
    have := (S₁.cok.xok a q).2
    rw [z, hCc] at this; cases this
  have S3 := S2.leave (tk := tk + 1) (Y := X) (wr := [Cc]) (fun b o nb e => hs3.extBut b o (fun z => nb (by simp [z])) e) (fun a q => .inl q) (fun b hb => .inr (by simpa using hb)) (fun b hb q => notC b q (by simpa using hb))
    (fun a q => q.imp id fun q => by
      subst q
      cases e : s₀.heap.get? a with
      | none => rfl
      | some o => have := S₁.old a o (fun z => notC a z rfl) e; rw [hCc] at this; cases this)
    (fun b o hb e q => by
      have := S₁.fixd b o hb e
      rw [List.mem_singleton.mp q, hCc] at this; cases this)
    (fun q => hLC (List.mem_singleton.mp q)) (fun n c e q => notC c (S.ownC n c e).1 (List.mem_singleton.mp q)) (fun q hq z => notC _ (S.muts q hq).1 (List.mem_singleton.mp z)) S.ownL.1 (fun n c e => (S.ownC n c e).1) fun q hq => (S.muts q hq).1
  exact h _ S3

end
end
section

theorem rd_pair {h : Heap} {X : Addr → Prop} {v : Value} {p q : PV} (r : Rd h X v (.tup [p, q])) : ∃ a v₁ v₂ n, v = .ref a ∧ h.get? a = some (tupObj [v₁, v₂] n) ∧ ¬ X a ∧ Rd h X v₁ p ∧ Rd h X v₂ q := by
  cases r with
  | tup e n rs =>
    cases rs with
    | cons r1 rs =>
      cases rs with
      | cons r2 rs =>
        cases rs
        exact ⟨_, _, _, _, rfl, e, n, r1, r2⟩
section
variable {prog : Program} {w : World} {h₀ : Heap} {mg mb : Str → Option Value} {n : Nat} {env : Env} {X : Addr → Prop} {Γ : List (Str × VK)} {A : Around} {s : Shared}

theorem iterP_list {v : Value} {ps : List (PV × PV)} (hh : A.handled = none) (r : Rd s.heap X v (.lst (ps.map fun q => .tup [q.1, q.2]))) : wpAny (model prog w) A (pyIter v) (ItPX prog w A X ps s) NoE s := by
  have r0 := r
  obtain ⟨a, vs, k, rfl, e, rs⟩ := r.isList
  have hl := lst_isList e
  have hne : a ≠ s.heap.objs.size := Nat.ne_of_lt (Heap.lt_size e)
  refine wpAny_pyIter_list hl ?_
  have W := Walks.list (prog := prog) (w := w) hh s.heap.objs.size a hne vs.toArray
  have hsz : vs.toArray.size = ps.length := by simp [rs.length]
  rw [hsz] at W
  refine ⟨keeps_push s _, _, _, _, _, rfl, ⟨W.sub, W.frame, ?_, ?_, W.self, ⟨⟨_, Heap.get?_push_size _ rfl, rfl, rfl⟩, hl.push _⟩, ?_, ?_, ?_⟩⟩
  · intro i p q s' elts kk tp hi hst hk
    have hlt : i < ps.length := (List.getElem?_eq_some_iff.mp hi).1
    refine W.item i s' _ _ hlt hst fun v h' tk hP hst' hk' => ?_
    have hv : vs[i]? = some v := by simpa using hP
    have hi' : (ps.map fun q => PV.tup [q.1, q.2])[i]? = some (.tup [p, q]) := by rw [List.getElem?_map, hi]; rfl
    obtain ⟨p', hp', rv⟩ := rs.get' hv
    rw [hi'] at hp'; cases hp'
    obtain ⟨T, v₁, v₂, n, rfl, eT, nX, r1, r2⟩ := rd_pair rv
    refine ⟨T, rfl, ?_⟩
    refine wpAny_letOwnedTupleGo_listiter hst'.1 ?_
    have Tw : T ∉ [s.heap.objs.size] := fun z => absurd (Heap.lt_size eT) (by rw [List.mem_singleton.mp z]; exact Nat.lt_irrefl _)
    refine ⟨v₁, v₂, h', tk, rfl, hst', ⟨_, hk' T _ Tw (hk T _ eT), rfl, n, rfl⟩, hk', fun h'' X' hX hkk => ?_⟩
    have m : ∀ b o, ¬ X b → s.heap.get? b = some o → h''.get? b = some o ∧ ¬ X' b := fun b o nb eb => by
      have nb' : ¬ X' b := fun q => by
        rcases hX b q with q | q
        · exact nb q
        · rw [eb] at q; cases q
      exact ⟨hkk b o nb' eb, nb'⟩
    exact ⟨r1.mono m, r2.mono m⟩
  · intro s' hst
    exact W.done s' _ _ hst fun h' tk hk' => ⟨rfl, h', tk, rfl, hk'⟩
  · intro b hb
    rw [Heap.size_push]
    simp only [List.mem_cons, List.not_mem_nil, or_false] at hb
    rcases hb with rfl | rfl
    · exact Nat.lt_succ_self _
    · exact Nat.lt_succ_of_lt (Heap.lt_size e)
  · intro b hb
    simp only [List.mem_cons, List.not_mem_nil, or_false] at hb
    subst hb
    cases q : s.heap.get? s.heap.objs.size with
    | none => rfl
    | some o => exact absurd (Heap.lt_size q) (Nat.lt_irrefl _)
  · intro i h st b hb
    simp only [List.mem_cons, List.not_mem_nil, or_false] at hb
    subst hb
    obtain ⟨⟨o, ho, _⟩, _⟩ := st
    rw [ho]; rfl
theorem ItPr_list {x : Str} {px : Pos} {ps : List (PV × PV)} (hx : Γ.lookup x = some (.pv (.lst (ps.map fun q => .tup [q.1, q.2])))) (hd : (x == ("__debug__" : Str)) = false) : ItPr prog w h₀ n env X Γ (.Name x px) ps := by
  intro A s R C
  obtain ⟨v, hv, r⟩ := C.has x _ hx
  exact wpAny_Name (hv.load C.ok (iterP_list R.handled r)) hd

noncomputable def enumPV (ps : List PV) : List (PV × PV) := (List.range ps.length).map fun (i : Nat) => (.int (i : Int), ps.getD i .none)
theorem enumPV_length (ps : List PV) : (enumPV ps).length = ps.length := by simp [enumPV]
theorem enumPV_at {ps : List PV} {i : Nat} {p q : PV} (h : (enumPV ps)[i]? = some (p, q)) : p = .int (i : Int) ∧ ps[i]? = some q := by
  unfold enumPV at h
  rw [List.getElem?_map] at h
  obtain ⟨j, hj, e⟩ := Option.map_eq_some_iff.mp h
  obtain ⟨hl, rfl⟩ := List.getElem?_eq_some_iff.mp hj
  simp only [List.getElem_range, Prod.mk.injEq] at e
  simp only [List.length_range] at hl
  refine ⟨e.1.symm, ?_⟩
  rw [← e.2, List.getD_eq_getElem?_getD, List.getElem?_eq_getElem hl]; rfl
theorem ItPr_enum {fp pos : Pos} {x : Str} {px : Pos} {ps : List PV} (G : Glb h₀ mg mb) (N : Nms mg) (hf : env.kindOf "enumerate" = some .globalImplicit) (hx : Γ.lookup x = some (.pv (.lst ps))) (hd : (x == ("__debug__" : Str)) = false)
    (hst : starEach [.Name x px] env = (false, eval (.Name x px) env) :: starEach [] env := by kernel_rfl!) (hpl : (backTo pos (starEach [] env)).any (·.1) = false := by kernel_rfl!)
    (he : eval (.Call (.Name "enumerate" fp) [.Name x px] [] pos) env = (do callWith pos (← eval (.Name "enumerate" fp) env) [] (backTo pos (starEach [.Name x px] env)) (backToKw pos (keywordEach [] env))) := by kernel_rfl!) :
    ItPr prog w h₀ n env X Γ (.Call (.Name "enumerate" fp) [.Name x px] [] pos) (enumPV ps) := by
  intro A s R C
  obtain ⟨v, hv, r⟩ := C.has x _ hx
  refine Call_ (Ex_boot G C hf N.enum (by decide) boot_enumerate ?_ (by decide)) he
  refine callWith_type1 (args_cons (wpAny_Name (hv.load C.ok (args_nil ?_)) hd) hst) hst hpl
  have r0 : Rd s.heap X v (.lst ps) := r
  obtain ⟨a, vs, k, rfl, e, rs⟩ := r0.isList
  have nX : ¬ X a := by cases r0 with | lst _ q _ => exact q
  have hl := lst_isList e
  refine call_enumerate_list hl fun h' he hit hsz hk => ?_
  have k₂ : Keeps s { s with heap := h' } := ⟨h', s.toks, rfl, hk⟩
  refine wpAny_pyIter_enum he ?_
  generalize hit0 : s.heap.objs.size = it at *
  have hlt : @LT.lt Nat _ a it := hit0 ▸ Heap.lt_size e
  have al : a ≠ it := Nat.ne_of_lt hlt
  have ale : a ≠ it + 1 := Nat.ne_of_lt (Nat.lt_succ_of_lt hlt)
  have W := WalksT.enumerate (prog := prog) (w := w) (A := A) R.handled (it + 1) it a (Nat.succ_ne_self _) ale al vs.toArray
  have hsz2 : vs.toArray.size = (enumPV ps).length := by rw [enumPV_length]; simp [rs.length]
  rw [hsz2] at W
  have fr : ∀ b, it ≤ b → s.heap.get? b = none := fun b hb => by
    cases q : s.heap.get? b with
    | none => rfl
    | some o => exact absurd (Heap.lt_size q) (by rw [hit0]; exact Nat.not_lt.mpr hb)
  refine ⟨k₂, _, _, _, _, rfl, ⟨W.sub, W.frame, ?_, ?_, W.self, ⟨⟨_, he⟩, hit, hl.at fun o e => hk a o e⟩, ?_, ?_, ?_⟩⟩
  · intro i p q s' elts kk tp hi hst hkk
    have hlt : i < (enumPV ps).length := (List.getElem?_eq_some_iff.mp hi).1
    obtain ⟨rfl, hq⟩ := enumPV_at hi
    refine W.item i s' _ _ hlt hst fun T vals h1 tk1 hP hT0 hT hM hk1 => ⟨T, rfl, ?_⟩
    obtain ⟨t, xx, hxx, rfl⟩ := hP
    have hv : vs[i]? = some xx := by simpa using hxx
    obtain ⟨q', hq', rv⟩ := rs.get' hv
    rw [hq] at hq'; cases hq'
    refine W.go elts kk tp i T _ _ _ hM fun h2 hst2 hk2 => ?_
    have hTw := W.apart i T h1 hM
    refine ⟨_, _, h2, tk1, rfl, hst2, hT.at fun o e => hk2 T o hTw e, fun b o nb e => hk2 b o nb (hk1 b o nb e), fun h'' X' hX hk3 => ⟨.int _ _, ?_⟩⟩
    refine rv.mono fun b o nb eb => ?_
    have nb' : ¬ X' b := fun q => by
      rcases hX b q with q | q
      · exact nb q
      · rw [eb] at q; cases q
    exact ⟨hk3 b o nb' eb, nb'⟩
  · intro s' hst
    exact W.done s' _ _ hst fun h' tk hk' => ⟨rfl, h', tk, rfl, hk'⟩
  · intro b hb
    show @LT.lt Nat _ b h'.objs.size
    rw [hsz]
    simp only [List.mem_cons, List.not_mem_nil, or_false] at hb
    rcases hb with rfl | rfl | rfl <;> omega
  · intro b hb
    simp only [List.mem_cons, List.not_mem_nil, or_false] at hb
    rcases hb with rfl | rfl
    · exact fr _ (Nat.le_succ _)
    · exact fr _ (Nat.le_refl _)
  · intro i h st b hb
    obtain ⟨⟨old, h1⟩, ⟨o, h2, _⟩, _⟩ := st
    simp only [List.mem_cons, List.not_mem_nil, or_false] at hb
    rcases hb with rfl | rfl
    · have h1' : h.get? _ = some _ := h1
      rw [h1']; rfl
    · rw [h2]; rfl

theorem Ex_isBool {fp bp pos : Pos} {e : Expr} {i : Int} (G : Glb h₀ mg mb) (N : Nms mg) (hf : env.kindOf "isinstance" = some .globalImplicit) (hb : env.kindOf "bool" = some .globalImplicit) (he : Ex prog w h₀ n env X Γ e (.int i))
    (hst : starEach [e, .Name "bool" bp] env = (false, eval e env) :: starEach [.Name "bool" bp] env := by kernel_rfl!) (hpl : (backTo pos (starEach [.Name "bool" bp] env)).any (·.1) = false := by kernel_rfl!)
    (hst2 : starEach [.Name "bool" bp] env = (false, eval (.Name "bool" bp) env) :: starEach [] env := by kernel_rfl!)
    (hee : eval (.Call (.Name "isinstance" fp) [e, .Name "bool" bp] [] pos) env = (do callWith pos (← eval (.Name "isinstance" fp) env) [] (backTo pos (starEach [e, .Name "bool" bp] env)) (backToKw pos (keywordEach [] env))) := by kernel_rfl!) :
    Ex prog w h₀ n env X Γ (.Call (.Name "isinstance" fp) [e, .Name "bool" bp] [] pos) (.bool false) := by
  intro A s R C
  refine Call_ (Ex_boot G C hf N.isi (by decide) (by decide +kernel : bootBuiltins "isinstance" = some (.builtin "isinstance")) ?_ (by decide)) hee
  refine callWith_builtin1 (args_cons (wpAny_mono (he A s R C) (fun v s₁ h₁ => ?_) fun _ _ e => e) hst) hst hpl
  obtain ⟨t, rfl⟩ := h₁.2.isInt
  refine args_cons (Ex_boot G (C.keep h₁.1) hb N.bool (by decide) (by decide +kernel : bootBuiltins "bool" = some (.type "bool")) (args_nil ?_) (by decide)) hst2
  refine IsiPair.int_bool ?_
  exact ⟨keeps_trans h₁.1 (keeps_toks _ _), .bool _⟩
end
end
section
set_option maxRecDepth 100000
set_option maxHeartbeats 4000000

noncomputable def leftStep (low : Nat) (st : List (Nat × Nat) × List (Nat × Nat)) (p v : Nat) : List (Nat × Nat) × List (Nat × Nat) :=
  if v = low then (st.1 ++ [(p, v)], st.2) else if v = low + 1 then (st.1.dropLast, st.2 ++ [st.1.getLastD (0, 0)]) else st
noncomputable def leftRun (vs : List Nat) (low : Nat) : List Nat → List (Nat × Nat) × List (Nat × Nat) → List (Nat × Nat) × List (Nat × Nat)
  | [], st => st
  | p :: ps, st => leftRun vs low ps (leftStep low st p (vs.getD p 0))
noncomputable def leftEnd (vs : List Nat) (low : Nat) : List (Nat × Nat) × List (Nat × Nat) := leftRun vs low (List.range vs.length).reverse ([], [])
theorem leftRun_snoc (vs : List Nat) (low : Nat) : ∀ (ps : List Nat) (p : Nat) (st : List (Nat × Nat) × List (Nat × Nat)), leftRun vs low (ps ++ [p]) st = leftStep low (leftRun vs low ps st) p (vs.getD p 0)
  | [], _, _ => rfl
  | _ :: ps, p, st => leftRun_snoc vs low ps p _
theorem leftStep_len (low : Nat) (st : List (Nat × Nat) × List (Nat × Nat)) (p v : Nat) : (leftStep low st p v).1.length ≤ st.1.length + 1 ∧ (leftStep low st p v).2.length ≤ st.2.length + 1 := by
  unfold leftStep
  split
  · simp
  · split
    · simp; omega
    · simp
theorem leftRun_len (vs : List Nat) (low : Nat) : ∀ (ps : List Nat) (st : List (Nat × Nat) × List (Nat × Nat)), (leftRun vs low ps st).1.length ≤ st.1.length + ps.length ∧ (leftRun vs low ps st).2.length ≤ st.2.length + ps.length
  | [], _ => by simp [leftRun]
  | p :: ps, st => by
    have h1 := leftStep_len low st p (vs.getD p 0)
    have h2 := leftRun_len vs low ps (leftStep low st p (vs.getD p 0))
    simp only [leftRun, List.length_cons]
    omega
theorem leftRun_le (vs : List Nat) (low : Nat) (ps : List Nat) (h : ps.length ≤ 8) : (leftRun vs low ps ([], [])).1.length ≤ 8 ∧ (leftRun vs low ps ([], [])).2.length ≤ 8 := by
  have h1 := leftRun_len vs low ps ([], [])
  rw [List.length_nil, Nat.zero_add] at h1
  exact ⟨Nat.le_trans h1.1 h, Nat.le_trans h1.2 h⟩
theorem down_at {n i : Nat} (h : i < n) : (n : Int) - 1 + (i : Int) * (-1) = ((n - 1 - i : Nat) : Int) := by omega
theorem down_lt {n i : Nat} (h : i < n) : n - 1 - i < n := by omega
theorem down_ps (n : Nat) : ((n : Int) - 1 + 1).toNat = n := by rw [Int.sub_add_cancel]; rfl
theorem leftRun_pos (vs : List Nat) (low b : Nat) : ∀ (ps : List Nat) (st : List (Nat × Nat) × List (Nat × Nat)), (∀ p ∈ ps, p < b) → (∀ q ∈ st.1, q.1 < b) → ∀ q ∈ (leftRun vs low ps st).1, q.1 < b
  | [], st, _, h => h
  | p :: ps, st, hp, h => by
    refine leftRun_pos vs low b ps _ (fun x hx => hp x (.tail _ hx)) fun q hq => ?_
    unfold leftStep at hq
    split at hq
    · rcases List.mem_append.mp hq with hq | hq
      · exact h q hq
      · rw [List.mem_singleton.mp hq]; exact hp p (.head _)
    · split at hq
      · exact h q (List.dropLast_subset _ hq)
      · exact h q hq
theorem leftPos (vs : List Nat) (low : Nat) (q : Nat × Nat) (h : q ∈ (leftEnd vs low).1) : q.1 < vs.length :=
  leftRun_pos vs low vs.length _ ([], []) (fun p hp => by simpa using hp) (fun q hq => nomatch hq) q h
theorem pc_last (l : List (Nat × Nat)) : (pcPV l).getLastD (.tup [.str "", .str ""]) = piece (l.getLastD (0, 0)) := by
  unfold pcPV
  cases l with
  | nil => rfl
  | cons a l =>
    rw [List.getLastD_eq_getLast?, List.getLastD_eq_getLast?, List.getLast?_map]
    cases h : (a :: l).getLast? with
    | none => simp at h
    | some q => rfl
theorem pc_dropLast (l : List (Nat × Nat)) : (pcPV l).dropLast = pcPV l.dropLast := by
  unfold pcPV; rw [List.map_dropLast]
theorem pc_append (l k : List (Nat × Nat)) : pcPV (l ++ k) = pcPV l ++ pcPV k := by simp [pcPV]

noncomputable def sgn (a b : Nat) : Int := if a < b then -1 else if b < a then 1 else 0
theorem coll_ok : ((List.range 6).all fun v => (List.range 6).all fun l => decide (collF (dt v) (dt l) = sgn v l) && decide (collF (dt v ++ "a") (dt l ++ "a") = sgn l v)) = true := by decide +kernel
theorem coll_at {v l : Nat} (hv : v < 6) (hl : l < 6) : collF (dt v) (dt l) = sgn v l ∧ collF (dt v ++ "a") (dt l ++ "a") = sgn l v := by
  have := List.all_eq_true.mp (List.all_eq_true.mp coll_ok v (List.mem_range.mpr hv)) l (List.mem_range.mpr hl)
  simpa using this

noncomputable def dots (vs : List Nat) : List Str := vs.map dt
noncomputable def PV.toStr : PV → Str
  | .str x => x
  | _ => ""
theorem sp_len (v : Nat) : (sp v).length = v := by simp [sp, Str.length]
theorem dt_len (v : Nat) : (dt v).length = v := by simp [dt, Str.length]
theorem dots_length (vs : List Nat) : (dots vs).length = vs.length := by simp [dots]
theorem dots_at {vs : List Nat} {p : Nat} (h : p < vs.length) : (dots vs).getD p "" = dt (vs.getD p 0) := by
  simp [dots, h]

section
variable {prog : Program} {w : World} {h₀ : Heap} {mg mb : Str → Option Value} {C N cc : Addr} {mN : Str → Option Value}

theorem cellsFrom_ge (N : Nat) : ∀ (names : List (Str × NameKind)) (k : Nat) (acc : List (Str × Addr)), (∀ n c, acc.lookup n = some c → N < c) → N < k → ∀ n c, (cellsFrom k names acc).lookup n = some c → N < c
  | [], k, acc, hacc, hk, n, c, hc => hacc n c hc
  | (y, kd) :: r, k, acc, hacc, hk, n, c, hc => by
    unfold cellsFrom at hc
    split at hc
    · refine cellsFrom_ge N r (k + 1) _ (fun n c hc => ?_) (Nat.lt_succ_of_lt hk) n c hc
      by_cases hy : n == y
      · simp only [List.lookup_cons, hy] at hc
        cases hc
        exact hk
      · have hy' : (n == y) = false := by simpa using hy
        simp only [List.lookup_cons, hy'] at hc
        exact hacc n c hc
    · exact cellsFrom_ge N r k acc hacc hk n c hc
theorem XIn_new {s : Shared} {X : Addr → Prop} {name : Str} {params : Arguments} {body : List Stmt} {scope : Scope} {a : Addr} {b : Addr} {code : Value} (h : XIn X (callEnvC (docDef name params body scope .none code .none) s.heap.objs.size a) b) : X b ∨ s.heap.get? b = none := by
  rcases h with h | h | ⟨n, h⟩
  · exact .inl h
  · refine .inr ?_
    have h' : b = s.heap.objs.size := h
    rw [h']
    exact Heap.get?_none_of_le (Nat.le_refl _)
  · refine .inr ?_
    have h' : (cellsFrom (s.heap.objs.size + 1) scope.names []).lookup n = some b := h
    exact Heap.get?_none_of_le (Nat.le_of_lt (cellsFrom_ge s.heap.objs.size _ _ _ (fun n c hc => by simp at hc) (Nat.lt_succ_self _) n b h'))

structure LeftRes (s s' : Shared) (off : Addr) (X : Addr → Prop) (qs : List PV) (v : Value) (p : PV) : Prop where
  same : ∃ h tk, s' = { s with heap := h, toks := tk }
  keep : ∀ b o, b ≠ off → s.heap.get? b = some o → s'.heap.get? b = some o
  self : ∃ ws k, s'.heap.get? off = some (lstObj ws k) ∧ RdL s'.heap X ws qs
  rd : Rd s'.heap X v p

theorem left_call {a ac off : Addr} {A : Around} {s : Shared} {X : Addr → Prop} {u v : Value} {ops : List PV} {ws : List Value} {k : Nat} (G : Glb h₀ mg mb) (N' : Nms mg) (K : AccN prog w h₀ mg C N cc mN)
    (D : DefAt h₀ mg "_law_left" (fnA 18) (fnB 18) (fnS 18) a) (Dc : DefAt h₀ mg "_strcoll" (fnA 11) (fnB 11) (fnS 11) ac) (vs : List Nat) (low : Nat) (hlen : vs.length ≤ 8) (hlow : low ≤ 3) (hvs : ∀ x ∈ vs, x < 6)
    (C0 : XOk h₀ X s.heap) (R : Room A 22) (hX : X off) (e : s.heap.get? off = some (lstObj ws k)) (rw : RdL s.heap X ws ops) (hops : ops.length ≤ 200) (ru : Rd s.heap X u (.lst (sPV (dots vs)))) (rv : Rd s.heap X v (.int (low : Int))) :
    wpAny (model prog w) A (call (.ref a) [u, v, .ref off]) (fun r s' => LeftRes s s' off X (ops ++ pcPV (leftEnd vs low).2 ++ pcPV (leftEnd vs low).1) r (.lst (iPV ((leftEnd vs low).1.map fun q => (q.1 : Int))))) NoE s := by
  refine enter (M := fun _ => False) (ks := [.pv (.lst (sPV (dots vs))), .pv (.int (low : Int)), .raw (.ref off)]) G D C0 R (.cons ru (.cons rv (.cons rfl .nil))) ["word", "low", "off"] rfl ?hbind (by decide) (by kernel_rfl!) (fun code s₁ S => ?body)
  case hbind =>
    intro pm code doc vs hv
    obtain ⟨x, y, z, rfl⟩ := vlen3 hv
    kernel_rfl!
  case body =>
    replace R := R.deeper (n := 21) (callEnvC (docDef "_law_left" (fnA 18) (fnB 18) (fnS 18) .none code .none) s.heap.objs.size a)
    generalize hA : A.deeper _ = A' at *
    conv in execs (fnB 18) _ => arg 1; whnf
    replace S : Sta h₀ s (callEnvC (docDef "_law_left" (fnA 18) (fnB 18) (fnS 18) .none code .none) s.heap.objs.size a) (XIn X (callEnvC (docDef "_law_left" (fnA 18) (fnB 18) (fnS 18) .none code .none) s.heap.objs.size a)) (fun b => X b ∧ ¬ False) s.heap
      [("word", .pv (.lst (sPV (dots vs)))), ("low", .pv (.int (low : Int))), ("off", .raw (.ref off))] [] s₁ := S
    have S0 := S
    have S := S.fix (B' := fun b => X b ∧ b ≠ off) (hB' := s.heap) (fun b o q e => S.fixd b o ⟨q.1, id⟩ e) (fun q => S.ownL.2 ⟨q.1, id⟩) (fun n c e q => (S.ownC n c e).2 ⟨q.1, id⟩) (fun q hq => nomatch hq)
    have fo : s₁.heap.get? off = some (lstObj ws k) := S0.fixd off _ ⟨hX, id⟩ e
    have rwS : RdL s₁.heap (XIn X (callEnvC (docDef "_law_left" (fnA 18) (fnB 18) (fnS 18) .none code .none) s.heap.objs.size a)) ws ops := rw.mono fun b o nb eb => by
      have nb2 : ¬ XIn X (callEnvC (docDef "_law_left" (fnA 18) (fnB 18) (fnS 18) .none code .none) s.heap.objs.size a) b := fun z => by
        rcases XIn_new z with z | z
        · exact nb z
        · rw [eb] at z; cases z
      exact ⟨S0.old b o nb2 eb, nb2⟩
    have S := S.adopt (.inl hX) (fun q => q.2 rfl) fo rwS (fun q hq => nomatch hq)
    clear S0 fo rwS
    with_reducible refine' St_make S R G K ?hf1 ?hx1 (fun pa dx B' hB' s₂ nX E₂ hb hdd hne S₂ => ?c1) ?sw1 ?he1 ?hn1
    case hf1 => kernel_rfl!
    case hx1 => walk_at "st"
    case sw1 => kernel_rfl!
    case he1 => kernel_rfl!
    case hn1 => decide
    have hw : (sPV (dots vs)).length = vs.length := by rw [sPV_length, dots_length]
    with_reducible refine' St_for (G := List (Nat × Nat) × List (Nat × Nat)) (fun i g => g = leftRun vs low ((List.range vs.length).reverse.take i) ([], [])) (fun _ => [("pile", .raw (.ref pa)), ("word", .pv (.lst (sPV (dots vs)))), ("low", .pv (.int (low : Int))), ("off", .raw (.ref off))]) (fun g => [(accH pa C dx, pcPV g.1), (lstH off, ops ++ pcPV g.2)]) [accH pa C dx, lstH off] ([], []) S₂ R ?it3 ?x3 ?g3 ?l3 ?p3 (fun _ => rfl) ?turn ?done
    case' it3 => walk_at "it"
    case x3 => walk_at "st"
    case g3 => exact Sub.go (by walk_at "sub")
    case l3 => simp [pcPV]
    case p3 => rfl
    case turn =>
      intro i g q X' B' hB' s' E₃ hP hq S'
      obtain ⟨hi, rfl⟩ := rangePV_at hq
      rw [dots_length] at hi
      have hi : i < vs.length := Nat.lt_of_lt_of_eq hi (down_ps _)
      have hdd' := DictAt.ext E₃ hb hdd
      obtain ⟨hb3, hdd3⟩ := hdd'
      have hpos : ((dots vs).length : Int) - 1 + (i : Int) * (-1) = ((vs.length - 1 - i : Nat) : Int) := by rw [dots_length]; exact down_at hi
      rw [hpos] at S'
      generalize hp : vs.length - 1 - i = p at S'
      have hpl : p < vs.length := hp ▸ down_lt hi
      have hv6 : vs.getD p 0 < 6 := by
        rw [List.getD_eq_getElem?_getD, List.getElem?_eq_getElem hpl]
        exact hvs _ (List.getElem_mem hpl)
      have hpw : (dots vs).getD ((p : Nat) : Int).toNat "" = dt (vs.getD p 0) := dots_at hpl
      have hL : g.1.length ≤ 8 ∧ g.2.length ≤ 8 := by
        rw [hP]
        refine leftRun_le vs low _ (Nat.le_trans (List.length_take_le' _ _) ?_)
        rw [List.length_reverse, List.length_range]
        exact hlen
      have hnext : leftStep low g p (vs.getD p 0) = leftRun vs low ((List.range vs.length).reverse.take (i + 1)) ([], []) := by
        have : (List.range vs.length).reverse[i]? = some p := by
          rw [List.getElem?_reverse (by simpa using hi)]
          simp only [List.length_range]
          rw [List.getElem?_range (down_lt hi), hp]
        rw [List.take_add_one, this]
        show _ = leftRun vs low (_ ++ [p]) _
        rw [leftRun_snoc, ← hP]
      have hp8 : p < 1000 := Nat.lt_of_lt_of_le hpl (Nat.le_trans hlen (by decide))
      have hl9 : low + 1 < 1000 := Nat.lt_of_le_of_lt (Nat.succ_le_succ hlow) (by decide)
      have hpd : (p : Int).toNat < (dots vs).length := by rw [dots_length]; exact tn hpl
      have hl6 : low < 6 := Nat.lt_of_le_of_lt hlow (by decide)
      have hl7 : low + 1 < 6 := Nat.lt_of_le_of_lt (Nat.succ_le_succ hlow) (by decide)
      clear hlen hlow hpos hi hw hP
      generalize vs.getD p 0 = x at hv6 hpw hnext
      with_reducible refine' St_assign (p := .lst (iPV [sgn x low, sgn (low + 1) x])) S' R ?e4 ?x4 fun s₄ S₄ => ?_
      case x4 => walk_at "st"
      case e4 =>
        refine' Ex_eq (p := .lst [.int (sgn x low), .int (sgn (low + 1) x)]) ?e5 rfl
        with_reducible refine' Ex_list ?l5 ?z5
        case z5 => exact Nat.le_of_ble_eq_true (by kernel_rfl!)
        with_reducible refine' ExL_cons ?a6 (ExL_cons ?a7 ExL_nil ?c7) ?c6
        case c6 => kernel_rfl!
        case c7 => kernel_rfl!
        case a6 =>
          with_reducible refine' Ex_eq (Ex_callF G Dc ?f8 ?d8 ?as8 ?fn8 ?st8 ?he8) ?q8
          case f8 => kernel_rfl!
          case d8 => kernel_rfl!
          case st8 => kernel_rfl!
          case he8 => kernel_rfl!
          case' as8 => walk_at "exl"
          case fn8 => exact coll_fn G ac Dc _ _
          case q8 => rw [hpw, Int.toNat_natCast, (coll_at hv6 hl6).1]
          all_goals (first | with_reducible exact sm hp8 | with_reducible exact sm2 (Nat.lt_of_succ_lt hl9) | with_reducible exact hpd | omega)
        case a7 =>
          with_reducible refine' Ex_eq (Ex_callF G Dc ?f8b ?d8b ?as8b ?fn8b ?st8b ?he8b) ?q8b
          case f8b => kernel_rfl!
          case d8b => kernel_rfl!
          case st8b => kernel_rfl!
          case he8b => kernel_rfl!
          case' as8b => walk_at "exl"
          case fn8b => exact coll_fn G ac Dc _ _
          case q8b =>
            rw [hpw, tn_eq, (coll_at hv6 hl7).2]
          all_goals (first | with_reducible exact sm hp8 | with_reducible exact sm2 (Nat.lt_of_succ_lt hl9) | with_reducible exact sm3 hl9 | with_reducible exact hpd | omega | (rw [tn_eq]; exact Nat.le_trans (Nat.le_of_lt hl9) (by decide)) | (rw [dt_len]; show _ + 1 ≤ _; omega) | (rw [hpw, dt_len]; show _ + 1 ≤ _; omega))
      with_reducible refine' St_if S₄ R ?t9 fun s₅ S₅ => ?_
      case t9 =>
        with_reducible refine' Ts_eq (q := false) (Ts_cmp ?a10 ?b10 ?c10 ?m10 ?n10) ?q10
        case m10 => kernel_rfl!
        case n10 => decide
        case a10 =>
          with_reducible refine' Ex_compq (ps := iPV []) [] (fun _ => false) (fun q => q) ?i11 ?n11 ?s11 ?q11 ?t11 ?f11
          case i11 => walk_at "it"
          case s11 => walk_at "sees"
          case n11 => simp [iPV]
          case q11 => simp [iPV]
          case t11 =>
            intro q hq D X2
            obtain ⟨z, hz, rfl⟩ := List.mem_map.mp hq
            refine Tss_one ?_
            with_reducible refine' Ts_bool ?a12 ?b12
            case b12 => kernel_rfl!
            case a12 =>
              with_reducible refine' Ex_isBool (i := z) G N' ?f13 ?g13 ?e13
              case f13 => kernel_rfl!
              case g13 => kernel_rfl!
              case e13 => walk_at "ex"
          case f11 =>
            intro q hq hf D X2
            cases hf
        case b10 =>
          refine' Ex_eq (p := .lst []) (q := .lst (iPV [])) ?e14 rfl
          walk_at "ex"
        case c10 => walk_at "cm"
        case q10 => rfl
      rw [if_neg (by decide)]
      refine St_nil ?_
      show wpAny _ _ (execs _ _) _ _ _
      with_reducible refine' St_if S₅ R ?t15 fun s₆ S₆ => ?_
      case t15 =>
        with_reducible refine' Ts_eq (q := decide (x = low)) (Ts_cmp ?a16 ?b16 ?c16 ?m16 ?n16) ?q16
        case m16 => kernel_rfl!
        case n16 => decide
        case a16 => walk_at "ex"
        case b16 =>
          refine' Ex_eq (p := .lst [.int 0, .int 1]) (q := .lst (iPV [0, 1])) ?e17 rfl
          walk_at "ex"
        case c16 => walk_at "cm"
        case q16 =>
          rw [decide_eq_decide]
          unfold sgn
          constructor
          · intro h
            simp only [List.cons.injEq] at h
            have := h.1
            split at this
            · omega
            · split at this <;> omega
          · rintro rfl
            rw [if_neg (by omega), if_neg (by omega), if_neg (by omega), if_pos (by omega)]
      by_cases hx : x = low
      · rw [if_pos (by simpa using hx)]
        with_reducible refine' St_exprM S₆ R (Em_push (p := .str (sp p)) (q := .str (dt x)) (Λ₁ := []) G K ?lk21 ?d21 hb3 hdd3 hne ?z21 ?as21 ?ba21 ?few21 ?li21 ?st21 ?n21) (fun s₇ S₇ => ?c21) ?i21 ?s21
        case lk21 => walk_at "lk"
        case d21 => decide +kernel
        case z21 => rw [pcPV_length]; omega
        case as21 =>
          with_reducible refine' ExL_cons (Ex_eq ?a22 ?q22) (ExL_cons (Ex_eq ?a23 ?q23) ExL_nil ?c23) ?c22
          case c22 => kernel_rfl!
          case c23 => kernel_rfl!
          case' a22 => walk_at "ex"
          case q22 => rfl
          case' a23 => walk_at "ex"
          case q23 => rw [hpw]
          all_goals (first | with_reducible exact sm hp8 | with_reducible exact sm2 hp8 | with_reducible exact hpd | omega)
        case ba21 => kernel_rfl!
        case few21 => kernel_rfl!
        case li21 => kernel_rfl!
        case st21 => kernel_rfl!
        case n21 => decide
        case i21 => kernel_rfl!
        case s21 => kernel_rfl!
        refine St_nil ?_
        show wpAny _ _ (execs _ _) _ _ _
        with_reducible refine' St_if S₇ R ?t18c fun s₈ S₈ => ?_
        case t18c =>
          with_reducible refine' Ts_eq (q := decide (x = low + 1)) (Ts_cmp ?a19c ?b19c ?c19c ?m19c ?n19c) ?q19c
          case m19c => kernel_rfl!
          case n19c => decide
          case a19c => walk_at "ex"
          case b19c =>
            refine' Ex_eq (p := .lst [.int 1, .int 0]) (q := .lst (iPV [1, 0])) ?e20c rfl
            walk_at "ex"
          case c19c => walk_at "cm"
          case q19c =>
            rw [decide_eq_decide]
            unfold sgn
            constructor
            · intro h
              simp only [List.cons.injEq] at h
              have := h.2.1
              split at this
              · omega
              · split at this <;> omega
            · rintro rfl
              rw [if_neg (by omega), if_pos (by omega), if_neg (by omega), if_neg (by omega)]
        rw [if_neg (by simp; omega)]
        refine St_nil (St_nil ⟨_, hnext, ?_⟩)
        have e1 : leftStep low g p x = (g.1 ++ [(p, x)], g.2) := by unfold leftStep; rw [if_pos hx]
        rw [e1]
        show Sta _ _ _ _ _ _ _ [(accH pa C dx, pcPV (g.1 ++ [(p, x)])), (lstH off, ops ++ pcPV g.2)] _
        rw [pc_append]
        exact S₈.weakS (by walk_at "sub")
      · rw [if_neg (by simpa using hx)]
        refine St_nil ?_
        show wpAny _ _ (execs _ _) _ _ _
        with_reducible refine' St_if S₆ R ?t18b fun s₇ S₇ => ?_
        case t18b =>
          with_reducible refine' Ts_eq (q := decide (x = low + 1)) (Ts_cmp ?a19b ?b19b ?c19b ?m19b ?n19b) ?q19b
          case m19b => kernel_rfl!
          case n19b => decide
          case a19b => walk_at "ex"
          case b19b =>
            refine' Ex_eq (p := .lst [.int 1, .int 0]) (q := .lst (iPV [1, 0])) ?e20b rfl
            walk_at "ex"
          case c19b => walk_at "cm"
          case q19b =>
            rw [decide_eq_decide]
            unfold sgn
            constructor
            · intro h
              simp only [List.cons.injEq] at h
              have := h.2.1
              split at this
              · omega
              · split at this <;> omega
            · rintro rfl
              rw [if_neg (by omega), if_pos (by omega), if_neg (by omega), if_neg (by omega)]
        by_cases hx2 : x = low + 1
        · rw [if_pos (by simpa using hx2)]
          with_reducible refine' St_appM (a := off) (ps := ops ++ pcPV g.2) (Λ₃ := [(accH pa C dx, (pcPV g.1).dropLast)]) (Λ₄ := []) (p := (pcPV g.1).getLastD (.tup [.str "", .str ""])) S₇ R ?lk24 ?d24 ?m24 ?em24 ?z24 (fun s₉ S₉ => ?c24) ?ba24 ?few24 ?li24 ?tr24 ?i24 ?s24
          case m24 => exact .tail _ (.head _)
          case em24 =>
            exact Em_pop (Λ₁ := []) (Λ₂ := [(lstH off, ops ++ pcPV g.2)]) G K (by walk_at "lk") (by decide +kernel) hb3 hdd3 hne (by rw [pcPV_length]; omega) (by kernel_rfl!) (by kernel_rfl!) (by kernel_rfl!) (by decide)
          case lk24 => walk_at "lk"
          case d24 => decide +kernel
          case z24 => rw [List.length_append, pcPV_length]; omega
          case ba24 => kernel_rfl!
          case few24 => kernel_rfl!
          case li24 => kernel_rfl!
          case tr24 => kernel_rfl!
          case i24 => kernel_rfl!
          case s24 => kernel_rfl!
          refine St_nil (St_nil ⟨_, hnext, ?_⟩)
          have e1 : leftStep low g p x = (g.1.dropLast, g.2 ++ [g.1.getLastD (0, 0)]) := by unfold leftStep; rw [if_neg hx, if_pos hx2]
          rw [e1]
          show Sta _ _ _ _ _ _ _ [(accH pa C dx, pcPV g.1.dropLast), (lstH off, ops ++ pcPV (g.2 ++ [g.1.getLastD (0, 0)]))] _
          rw [pc_append, ← List.append_assoc, ← pc_dropLast]
          have e2 : pcPV [g.1.getLastD (0, 0)] = [(pcPV g.1).getLastD (.tup [.str "", .str ""])] := by rw [pc_last]; rfl
          rw [e2]
          exact S₉.weakS (by walk_at "sub")
        · rw [if_neg (by simpa using hx2)]
          refine St_nil (St_nil ⟨_, hnext, ?_⟩)
          have e1 : leftStep low g p x = g := by unfold leftStep; rw [if_neg hx, if_neg hx2]
          rw [e1]
          exact S₇.weakS (by walk_at "sub")
    case done =>
      intro g s' hP S'
      obtain rfl : g = leftEnd vs low := by
        rw [hP, rangePV_length]
        unfold leftEnd
        congr 1
        rw [List.take_of_length_le]
        rw [List.length_reverse, List.length_range, dots_length, down_ps]
        exact Nat.le_refl _
      generalize hle : leftEnd vs low = g at S' ⊢
      have hL : g.1.length ≤ 8 ∧ g.2.length ≤ 8 := by
        rw [← hle]
        refine leftRun_le vs low _ ?_
        rw [List.length_reverse, List.length_range]
        exact hlen
      clear hP
      with_reducible refine' St_assignM (p := .lst (pcPV g.1)) (Λ' := [(accH pa C dx, []), (lstH off, ops ++ pcPV g.2)]) S' R ?em30 ?x30 (fun s₁₀ S₁₀ => ?c30) ?sw30
      case em30 => exact Em_popf (Λ₁ := []) (Λ₂ := [(lstH off, ops ++ pcPV g.2)]) G K (by walk_at "lk") (by decide +kernel) hb hdd hne (by rw [pcPV_length]; omega) (by kernel_rfl!) (by kernel_rfl!) (by kernel_rfl!) (by decide)
      case x30 => walk_at "st"
      case sw30 => kernel_rfl!
      with_reducible refine' St_exprM (Λ' := [(accH pa C dx, []), (lstH off, ops ++ pcPV g.2 ++ pcPV g.1)]) S₁₀ R ?em31 (fun s₁₁ S₁₁ => ?c31) ?i31 ?s31
      case i31 => kernel_rfl!
      case s31 => kernel_rfl!
      case em31 =>
        refine Em_ext (Λ₁ := [(accH pa C dx, [])]) (Λ₂ := []) (by walk_at "lk") (by decide +kernel) ?el31 (by rw [List.length_append, pcPV_length]; omega) (by rw [pcPV_length]; omega) (by kernel_rfl!) (by kernel_rfl!) (by kernel_rfl!) (by kernel_rfl!)
        walk_at "exl"
      with_reducible refine' St_ret S₁₁ R (Ex_eq (q := .lst (iPV (g.1.map fun q => (q.1 : Int)))) ?e32 ?q32) fun v32 s₁₂ S₁₂ r₁₂ => ?c32
      case' e32 =>
        with_reducible refine' Ex_compP (items := g.1.map fun q => (.str (sp q.1), .str (dt q.2))) [] (fun q => .int ((q.1.toStr).length : Int)) ?i33 ?n33 ?s33 ?f33 ?ce33 ?k33 ?hx33 ?hy33 ?hn33 ?hf33 ?hfs33
        case ce33 => kernel_rfl!
        case k33 => kernel_rfl!
        case hx33 => kernel_rfl!
        case hy33 => kernel_rfl!
        case hn33 => kernel_rfl!
        case hf33 => kernel_rfl!
        case hfs33 => intro _; kernel_rfl!
        case n33 => rw [List.length_map]; omega
        case s33 => walk_at "sees"
        case i33 =>
          refine ItPr_list ?lk34 (by decide +kernel)
          have e34 : (g.1.map fun q => (PV.str (sp q.1), PV.str (dt q.2))).map (fun q => PV.tup [q.1, q.2]) = pcPV g.1 := by rw [List.map_map]; rfl
          rw [e34]
          walk_at "lk"
        case f33 =>
          intro q hq D X2
          obtain ⟨z, hz, rfl⟩ := List.mem_map.mp hq
          walk_at "exq"
          · rw [sp_len]
            have : g.1 = (leftEnd vs low).1 := by rw [hle]
            have := leftPos vs low z (by rw [← this]; exact hz)
            omega
          · rfl
      case q32 =>
        rw [List.map_map]
        unfold iPV
        rw [List.map_map]
        congr 1
        apply List.map_congr_left
        intro q _
        show PV.int ((sp q.1).length : Int) = _
        rw [sp_len]; rfl
      refine ⟨S₁₂.same, fun b o nb eb => ?_, ?_, r₁₂.narrow fun b q => .inl (.inl q)⟩
      · by_cases xb : X b
        · obtain ⟨f1, f2⟩ := E₂.fix b o ⟨xb, nb⟩ eb
          exact S₁₂.fixd b o f1 f2
        · refine S₁₂.old b o (fun z => ?_) eb
          rcases E₂.new b z with z | z
          · rcases XIn_new z with z | z
            · exact xb z
            · rw [eb] at z; cases z
          · rw [eb] at z; cases z
      · obtain ⟨_, _, ws', k', e', r'⟩ := S₁₂.muts (lstH off, ops ++ pcPV g.2 ++ pcPV g.1) (.tail _ (.head _))
        exact ⟨ws', k', e', r'.narrow fun b q => .inl (.inl q)⟩
    all_goals (first | omega | (rw [dots_length]; omega))
end
end
section

noncomputable def tl (x : Str) : List Nat := x.cps.toList
theorem tl_app (a b : Str) : tl (a ++ b) = tl a ++ tl b := by simp [tl, Str.cps_append]
theorem tl_len (x : Str) : (tl x).length = x.length := by simp [tl, Str.length]
theorem tl_inj {a b : Str} (h : tl a = tl b) : a = b := Str.ext' (Array.toList_inj.mp h)
theorem nx_hit {P : Nat → Bool} {k s : Nat} (h : P s = true) : nx P (k + 1) s = some s := by
  show (if P s then some s else nx P k (s + 1)) = _
  rw [if_pos h]
theorem nx_skip {P : Nat → Bool} {k s : Nat} (h : P s = false) : nx P (k + 1) s = nx P k (s + 1) := by
  show (if P s then some s else nx P k (s + 1)) = _
  rw [if_neg (by rw [h]; exact Bool.false_ne_true)]
section
variable {text : Array Nat} {P : Nat → Bool} {len : Nat → Nat} {r : Str}
theorem catS_cons (x : Str) (l : List Str) : tl (catS (x :: l)) = tl x ++ tl (catS l) := tl_app x (catS l)
theorem catS_nil : tl (catS []) = [] := rfl
theorem subGo_end {f d : Nat} (h : text.size ≤ d) : tl (catS (subGo text P len r (f + 1) d)) = [] := by
  rw [subGo_none (by rw [show text.size - d = 0 by omega]; rfl), if_neg (by omega)]; rfl
theorem subGo_hit {f d : Nat} (h : d < text.size) (hP : P d = true) : tl (catS (subGo text P len r (f + 1) d)) = tl r ++ tl (catS (subGo text P len r f (d + len d))) := by
  have : nx P (text.size - d) d = some d := by rw [show text.size - d = (text.size - d - 1) + 1 by omega]; exact nx_hit hP
  rw [subGo_some this, if_neg (by omega), List.nil_append, List.singleton_append, catS_cons]
theorem ext_cons {d i : Nat} (h : d < i) (hi : i ≤ text.size) : (text.extract d i).toList = text.getD d 0 :: (text.extract (d + 1) i).toList := by
  simp only [Array.toList_extract]
  have : d < text.toList.length := by simp; omega
  rw [List.extract_eq_take_drop, List.extract_eq_take_drop, List.drop_eq_getElem_cons this, show i - d = (i - (d + 1)) + 1 by omega, List.take_succ_cons]
  simp [Array.getD, show d < text.size by omega]
theorem subGo_skip {f d : Nat} (h : d < text.size) (hP : P d = false) : tl (catS (subGo text P len r (f + 1) d)) = text.getD d 0 :: tl (catS (subGo text P len r (f + 1) (d + 1))) := by
  have e : nx P (text.size - d) d = nx P (text.size - (d + 1)) (d + 1) := by rw [show text.size - d = (text.size - (d + 1)) + 1 by omega]; exact nx_skip hP
  cases hn : nx P (text.size - (d + 1)) (d + 1) with
  | none =>
    rw [subGo_none (e.trans hn), subGo_none hn, if_pos h, catS_cons, catS_nil, List.append_nil]
    show (text.extract d text.size).toList = _
    rw [ext_cons h (Nat.le_refl _)]
    split
    · rw [catS_cons, catS_nil, List.append_nil]; rfl
    · rename_i h2
      rw [catS_nil]
      have : text.extract (d + 1) text.size = #[] := Array.extract_empty_of_size_le_start (by omega)
      rw [this]
  | some i =>
    obtain ⟨h1, h2, h3⟩ := nx_at hn
    rw [subGo_some (e.trans hn), subGo_some hn, if_pos (by omega), List.append_assoc, List.append_assoc, List.singleton_append, List.singleton_append, catS_cons]
    show (text.extract d i).toList ++ _ = _
    rw [ext_cons (by omega) (by omega)]
    split
    · simp only [catS_cons, List.cons_append, List.nil_append]; rfl
    · rename_i h4
      have : text.extract (d + 1) i = #[] := Array.extract_empty_of_stop_le_start (by omega)
      rw [this, List.nil_append]; rfl
end

noncomputable def sub1 : Bool → List Nat → List Nat
  | _, [] => []
  | b, c :: cs => if (b && c == 46) = true then 46 :: 46 :: sub1 false cs else c :: sub1 (c == 10) cs
noncomputable def sub2 : List Nat → List Nat
  | [] => []
  | [c] => if (c == 10 || c == 13) = true then [13, 10] else [c]
  | c :: d :: cs => if (c == 13 && d == 10) = true then 13 :: 10 :: sub2 cs else if (c == 10 || c == 13) = true then 13 :: 10 :: sub2 (d :: cs) else c :: sub2 (d :: cs)

theorem drop_cons_getD {text : Array Nat} {d : Nat} (h : d < text.size) : text.toList.drop d = text.getD d 0 :: text.toList.drop (d + 1) := by
  have : d < text.toList.length := by simpa using h
  rw [List.drop_eq_getElem_cons this]
  simp [Array.getD, h]
theorem sub1_ok (text : Array Nat) : ∀ (k f d : Nat), k = text.size - d → k < f → tl (catS (subGo text (P1 text) (fun _ => 1) ".." f d)) = sub1 (d == 0 || text.getD (d - 1) 0 == 10) (text.toList.drop d)
  | 0, f + 1, d, hk, _ => by
    rw [subGo_end (by omega), List.drop_of_length_le (by simp; omega)]; rfl
  | k + 1, f + 1, d, hk, hf => by
    have hd : d < text.size := by omega
    rw [drop_cons_getD hd]
    by_cases hP : P1 text d = true
    · rw [subGo_hit hd hP, sub1_ok text k f (d + 1) (by omega) (by omega)]
      have h46 : text.getD d 0 = 46 := by
        unfold P1 at hP
        simp only [Bool.and_eq_true, beq_iff_eq] at hP
        exact hP.2
      show _ = if ((d == 0 || text.getD (d - 1) 0 == 10) && text.getD d 0 == 46) = true then _ else _
      rw [if_pos (show ((d == 0 || text.getD (d - 1) 0 == 10) && text.getD d 0 == 46) = true from hP)]
      show [46, 46] ++ _ = _
      rw [show (d + 1 - 1) = d by omega, h46]
      rfl
    · have hP' : P1 text d = false := by simpa using hP
      rw [subGo_skip hd hP', sub1_ok text k (f + 1) (d + 1) (by omega) (by omega)]
      show _ = if ((d == 0 || text.getD (d - 1) 0 == 10) && text.getD d 0 == 46) = true then _ else _
      rw [if_neg (show ¬ ((d == 0 || text.getD (d - 1) 0 == 10) && text.getD d 0 == 46) = true from hP), show (d + 1 - 1) = d by omega]
      rfl
theorem len2_pos (text : Array Nat) (d : Nat) : 1 ≤ len2 text d := by
  unfold len2
  by_cases h : text.getD d 0 = 13 ∧ d + 1 < text.size ∧ text.getD (d + 1) 0 = 10
  · rw [if_pos h]; omega
  · rw [if_neg h]; omega
theorem sub2_ok (text : Array Nat) : ∀ (k f d : Nat), text.size - d ≤ k → k < f → tl (catS (subGo text (P2 text) (len2 text) "\r\n" f d)) = sub2 (text.toList.drop d)
  | 0, f + 1, d, hk, _ => by
    rw [subGo_end (by omega), List.drop_of_length_le (by simp; omega)]; rfl
  | k + 1, f + 1, d, hk, hf => by
    by_cases hd0 : text.size ≤ d
    · rw [subGo_end (by omega), List.drop_of_length_le (by simp; omega)]; rfl
    have hd : d < text.size := by omega
    rw [drop_cons_getD hd]
    by_cases hP : P2 text d = true
    · rw [subGo_hit hd hP, sub2_ok text k f (d + len2 text d) (by have := len2_pos text d; omega) (by omega)]
      show [13, 10] ++ _ = _
      by_cases h2 : text.getD d 0 = 13 ∧ d + 1 < text.size ∧ text.getD (d + 1) 0 = 10
      · have : len2 text d = 2 := by unfold len2; rw [if_pos h2]
        rw [this, drop_cons_getD h2.2.1]
        show _ = if (text.getD d 0 == 13 && text.getD (d + 1) 0 == 10) = true then _ else _
        rw [if_pos (by simp [h2.1, h2.2.2])]
        rfl
      · have : len2 text d = 1 := by unfold len2; rw [if_neg h2]
        rw [this]
        by_cases hd1 : d + 1 < text.size
        · rw [drop_cons_getD hd1]
          show _ = if (text.getD d 0 == 13 && text.getD (d + 1) 0 == 10) = true then _ else if (text.getD d 0 == 10 || text.getD d 0 == 13) = true then _ else _
          rw [if_neg (by simp only [Bool.and_eq_true, beq_iff_eq]; intro q; exact h2 ⟨q.1, hd1, q.2⟩), if_pos (show (text.getD d 0 == 10 || text.getD d 0 == 13) = true from hP)]
          rfl
        · have : text.toList.drop (d + 1) = [] := List.drop_of_length_le (by simp; omega)
          rw [this]
          show _ = if (text.getD d 0 == 10 || text.getD d 0 == 13) = true then _ else _
          rw [if_pos (show (text.getD d 0 == 10 || text.getD d 0 == 13) = true from hP)]
          rfl
    · have hP' : P2 text d = false := by simpa using hP
      have h13 : ¬ (text.getD d 0 == 10 || text.getD d 0 == 13) = true := hP
      rw [subGo_skip hd hP', sub2_ok text k (f + 1) (d + 1) (by omega) (by omega)]
      by_cases hd1 : d + 1 < text.size
      · rw [drop_cons_getD hd1]
        show _ = if (text.getD d 0 == 13 && text.getD (d + 1) 0 == 10) = true then _ else if (text.getD d 0 == 10 || text.getD d 0 == 13) = true then _ else _
        rw [if_neg h13, if_neg (by
          intro q
          apply h13
          simp only [Bool.and_eq_true] at q
          rw [q.1, Bool.or_true])]
      · have : text.toList.drop (d + 1) = [] := List.drop_of_length_le (by simp; omega)
        rw [this]
        show _ = if (text.getD d 0 == 10 || text.getD d 0 == 13) = true then _ else _
        rw [if_neg h13]
        rfl
theorem subF1 (x : Str) : tl (subF P1 (fun _ _ => 1) ".." x) = sub1 true (tl x) := by
  unfold subF
  rw [sub1_ok x.cps (x.cps.size - 0) (x.length + 1) 0 rfl (by show x.cps.size - 0 < x.cps.size + 1; omega)]
  rfl
theorem subF2 (x : Str) : tl (subF P2 len2 "\r\n" x) = sub2 (tl x) := by
  unfold subF
  rw [sub2_ok x.cps (x.cps.size - 0) (x.length + 1) 0 (Nat.le_refl _) (by show x.cps.size - 0 < x.cps.size + 1; omega)]
  rfl
theorem quote_tl (x : Str) : tl (quoteF x) = sub1 true (sub2 (tl x)) := by
  unfold quoteF
  rw [subF1, subF2]
end
section

noncomputable def jn : List (List Nat) → List Nat
  | [] => []
  | [r] => r
  | r :: r' :: rs => r ++ 13 :: 10 :: jn (r' :: rs)
noncomputable def sepL (k : Nat) : List Nat := if k % 3 = 0 then [10] else if k % 3 = 1 then [13] else [13, 10]
noncomputable def mailGo (low : Nat) : Nat → List (List Nat) → List Nat
  | _, [] => []
  | k, r :: rs => sepL (k + low) ++ (r ++ mailGo low (k + 1) rs)
noncomputable def Clean (r : List Nat) : Prop := 10 ∉ r ∧ 13 ∉ r
noncomputable def q1 : List Nat → List Nat
  | [] => []
  | c :: cs => if c = 46 then 46 :: 46 :: cs else c :: cs

theorem sub2_other {c : Nat} (h1 : c ≠ 10) (h2 : c ≠ 13) (cs : List Nat) : sub2 (c :: cs) = c :: sub2 cs := by
  cases cs with
  | nil => simp [sub2, h1, h2]
  | cons d cs => simp [sub2, h1, h2]
theorem sub2_lf (cs : List Nat) : sub2 (10 :: cs) = 13 :: 10 :: sub2 cs := by
  cases cs with
  | nil => simp [sub2]
  | cons d cs => simp [sub2]
theorem sub2_crlf (cs : List Nat) : sub2 (13 :: 10 :: cs) = 13 :: 10 :: sub2 cs := by simp [sub2]
theorem sub2_cr {cs : List Nat} (h : cs.head? ≠ some 10) : sub2 (13 :: cs) = 13 :: 10 :: sub2 cs := by
  cases cs with
  | nil => simp [sub2]
  | cons d cs =>
    have : d ≠ 10 := by simpa using h
    simp [sub2, this]
theorem sub2_row {r : List Nat} (h : Clean r) (t : List Nat) : sub2 (r ++ t) = r ++ sub2 t := by
  induction r with
  | nil => rfl
  | cons c r ih =>
    have h1 : c ≠ 10 := fun e => h.1 (e ▸ .head _)
    have h2 : c ≠ 13 := fun e => h.2 (e ▸ .head _)
    rw [List.cons_append, sub2_other h1 h2, ih ⟨fun e => h.1 (.tail _ e), fun e => h.2 (.tail _ e)⟩]; rfl
theorem mail_head (low k : Nat) (r : List Nat) (rs : List (List Nat)) (hr : Clean r) (hk : k % 3 ≠ 0 ∨ r ≠ []) (hkl : k % 3 = (k' + low) % 3) : (r ++ mailGo low k' rs).head? ≠ some 10 := by
  cases r with
  | cons c r =>
    have h1 : c ≠ 10 := fun e => hr.1 (e ▸ .head _)
    simpa using h1
  | nil =>
    have hk0 : (k' + low) % 3 ≠ 0 := by
      rcases hk with h | h
      · omega
      · exact absurd rfl h
    cases rs with
    | nil => simp [mailGo]
    | cons r' rs =>
      show (sepL (k' + low) ++ _).head? ≠ _
      unfold sepL
      rw [if_neg hk0]
      split <;> simp
theorem sub2_mail (low : Nat) : ∀ (rs : List (List Nat)) (r : List Nat) (k : Nat), Clean r → (∀ x ∈ rs, Clean x) → sub2 (r ++ mailGo low k rs) = jn (r :: rs)
  | [], r, k, hr, _ => by
    rw [sub2_row hr]
    show r ++ sub2 [] = r
    simp [sub2]
  | r' :: rs, r, k, hr, hrs => by
    rw [sub2_row hr]
    show r ++ sub2 (sepL (k + low) ++ (r' ++ mailGo low (k + 1) rs)) = r ++ 13 :: 10 :: jn (r' :: rs)
    have ih := sub2_mail low rs r' (k + 1) (hrs _ (.head _)) fun x hx => hrs x (.tail _ hx)
    congr 1
    unfold sepL
    split
    · rw [← ih]; exact sub2_lf _
    · split
      · rename_i h1 h2
        rw [← ih]
        refine sub2_cr ?_
        refine mail_head (k' := k + 1) low (k + 1 + low) r' rs (hrs _ (.head _)) (.inl (by omega)) rfl
      · rw [← ih]; exact sub2_crlf _

theorem sub1_row {r : List Nat} (h : 10 ∉ r) (t : List Nat) : sub1 false (r ++ t) = r ++ sub1 false t := by
  induction r with
  | nil => rfl
  | cons c r ih =>
    have h1 : c ≠ 10 := fun e => h (e ▸ .head _)
    have e : (c == 10) = false := by simpa using h1
    show (if (false && c == 46) = true then _ else c :: sub1 (c == 10) (r ++ t)) = _
    rw [if_neg (by simp), e, ih fun e => h (.tail _ e)]; rfl
theorem sub1_start {r : List Nat} (h : 10 ∉ r) (t : List Nat) (ht : r = [] → t.head? ≠ some 46 ∧ t.head? ≠ some 10) : sub1 true (r ++ t) = q1 r ++ sub1 false t := by
  cases r with
  | nil =>
    cases t with
    | nil => rfl
    | cons d t =>
      obtain ⟨h1, h2⟩ := ht rfl
      have h1 : d ≠ 46 := by simpa using h1
      have h2 : d ≠ 10 := by simpa using h2
      simp [sub1, q1, h1]
  | cons c r =>
    have h1 : c ≠ 10 := fun e => h (e ▸ .head _)
    have h3 : 10 ∉ r := fun e => h (.tail _ e)
    by_cases hc : c = 46
    · subst hc
      show (if (true && (46 : Nat) == 46) = true then 46 :: 46 :: sub1 false (r ++ t) else _) = _
      rw [if_pos (by decide), sub1_row h3]; rfl
    · have e : (c == 10) = false := by simpa using h1
      show (if (true && c == 46) = true then _ else c :: sub1 (c == 10) (r ++ t)) = _
      rw [if_neg (by simpa using hc), e, sub1_row h3]
      have : q1 (c :: r) = c :: r := by show (if c = 46 then _ else _) = _; rw [if_neg hc]
      rw [this]; rfl
theorem sub1_jn : ∀ (rs : List (List Nat)) (r : List Nat), Clean r → (∀ x ∈ rs, Clean x) → sub1 true (jn (r :: rs)) = jn ((r :: rs).map q1)
  | [], r, hr, _ => by
    show sub1 true r = q1 r
    have := sub1_start hr.1 [] fun _ => ⟨by simp, by simp⟩
    rw [List.append_nil] at this
    rw [this]
    show q1 r ++ [] = _
    rw [List.append_nil]
  | r' :: rs, r, hr, hrs => by
    show sub1 true (r ++ 13 :: 10 :: jn (r' :: rs)) = q1 r ++ 13 :: 10 :: jn ((r' :: rs).map q1)
    rw [sub1_start hr.1 _ fun _ => ⟨by simp, by simp⟩, ← sub1_jn rs r' (hrs _ (.head _)) fun x hx => hrs x (.tail _ hx)]
    rfl
theorem quote_mail (low : Nat) (x : Str) (r : List Nat) (rs : List (List Nat)) (hr : Clean r) (hrs : ∀ x ∈ rs, Clean x) (hx : tl x = r ++ mailGo low 1 rs) : tl (quoteF x) = jn ((r :: rs).map q1) := by
  rw [quote_tl, hx, sub2_mail low rs r 1 hr hrs, sub1_jn rs r hr hrs]
theorem q1_clean {r : List Nat} (h : Clean r) : Clean (q1 r) := by
  cases r with
  | nil => exact h
  | cons c r =>
    show Clean (if c = 46 then 46 :: 46 :: r else c :: r)
    split
    · rename_i e
      subst e
      refine ⟨fun q => ?_, fun q => ?_⟩
      · rcases List.mem_cons.mp q with q | q
        · cases q
        · exact h.1 q
      · rcases List.mem_cons.mp q with q | q
        · cases q
        · exact h.2 q
    · exact h

open PySem.StrLaws PySem.Builtin PySem.Builtin.Str in
theorem at_crlf (x : Str) (k : Nat) : At x "\r\n" x.length k ↔ (tl x)[k]? = some 13 ∧ (tl x)[k + 1]? = some 10 := by
  unfold At
  rw [StrLaws.subAt_eq]
  have e2 : Str.length "\r\n" = 2 := rfl
  rw [e2]
  have e3 : (Str.cps "\r\n").toList = [13, 10] := rfl
  rw [e3, beq_iff_eq]
  have hl := tl_len x
  show _ ∧ List.take 2 (List.drop k (tl x)) = _ ↔ _
  constructor
  · rintro ⟨h1, h2⟩
    have a0 := congrArg (·[0]?) h2
    have a1 := congrArg (·[1]?) h2
    simp only [List.getElem?_take, List.getElem?_drop] at a0 a1
    exact ⟨by simpa using a0, by simpa using a1⟩
  · rintro ⟨h1, h2⟩
    have hk : k + 1 < (tl x).length := (List.getElem?_eq_some_iff.mp h2).1
    refine ⟨by omega, ?_⟩
    rw [List.drop_eq_getElem_cons (by omega), List.drop_eq_getElem_cons hk]
    have b0 := (List.getElem?_eq_some_iff.mp h1).2
    have b1 := (List.getElem?_eq_some_iff.mp h2).2
    simp [b0, b1]
open PySem.StrLaws PySem.Builtin PySem.Builtin.Str in
theorem parts_jn (x : Str) : ∀ (rs : List (List Nat)) (r : List Nat) (a f : Nat) (cuts : List Nat), 13 ∉ r → (∀ y ∈ rs, 13 ∉ y) → (tl x).drop a = jn (r :: rs) → a ≤ x.length → ChainG x "\r\n" x.length a cuts f → (∀ k, f ≤ k → ¬ At x "\r\n" x.length k) →
    (partsFrom x 2 a cuts).map tl = r :: rs
  | [], r, a, f, cuts, hr, _, hx, ha, hc, hf => by
    have hx : (tl x).drop a = r := hx
    have no : ∀ k, a ≤ k → ¬ At x "\r\n" x.length k := fun k hk h => by
      have h1 := ((at_crlf x k).mp h).1
      have : r[k - a]? = some 13 := by rw [← hx, List.getElem?_drop, show a + (k - a) = k by omega]; exact h1
      exact hr (List.mem_of_getElem? this)
    cases cuts with
    | nil =>
      show [tl (strSub x a x.length)] = [r]
      rw [← hx]
      congr 1
      show (strSub x a x.length).cps.toList = _
      rw [strSub_toList]
      exact List.take_of_length_le (by rw [List.length_drop]; have := tl_len x; unfold tl at this; omega)
    | cons c cs => exact absurd hc.2.1 (no c hc.1)
  | r' :: rs, r, a, f, cuts, hr, hrs, hx, ha, hc, hf => by
    have hx : (tl x).drop a = r ++ 13 :: 10 :: jn (r' :: rs) := hx
    have hlen := tl_len x
    have hL : (tl x).length - a = r.length + (2 + (jn (r' :: rs)).length) := by rw [← List.length_drop, hx]; simp; omega
    have hat : At x "\r\n" x.length (a + r.length) := by
      refine (at_crlf x _).mpr ⟨?_, ?_⟩
      · rw [← List.getElem?_drop, hx, List.getElem?_append_right (Nat.le_refl _)]; simp
      · rw [Nat.add_assoc, ← List.getElem?_drop, hx, List.getElem?_append_right (by omega)]; simp
    have no : ∀ k, a ≤ k → k < a + r.length → ¬ At x "\r\n" x.length k := fun k hk hk2 h => by
      have h1 := ((at_crlf x k).mp h).1
      have : r[k - a]? = some 13 := by
        have e : (r ++ 13 :: 10 :: jn (r' :: rs))[k - a]? = some 13 := by rw [← hx, List.getElem?_drop, show a + (k - a) = k by omega]; exact h1
        rwa [List.getElem?_append_left (by omega)] at e
      exact hr (List.mem_of_getElem? this)
    cases cuts with
    | nil =>
      have e : f = a := hc
      exact absurd hat (hf _ (by omega))
    | cons c cs =>
      obtain ⟨h1, h2, h3, h4⟩ := hc
      have hcE : c = a + r.length := by
        rcases Nat.lt_trichotomy c (a + r.length) with h | h | h
        · exact absurd h2 (no c h1 h)
        · exact h
        · exact absurd hat (h3 _ (by omega) h)
      subst hcE
      have hx2 : (tl x).drop (a + r.length + 2) = jn (r' :: rs) := by
        rw [Nat.add_assoc, ← List.drop_drop, hx, ← List.drop_drop, List.drop_left]; rfl
      have ih := parts_jn x rs r' (a + r.length + 2) f cs (hrs _ (.head _)) (fun y hy => hrs y (.tail _ hy)) hx2 (by omega) h4 hf
      show tl (strSub x a (a + r.length)) :: (partsFrom x 2 (a + r.length + 2) cs).map tl = _
      rw [ih]
      congr 1
      show (strSub x a (a + r.length)).cps.toList = _
      rw [strSub_toList]
      show List.take (a + r.length - a) (List.drop a (tl x)) = r
      rw [hx, show a + r.length - a = r.length by omega, List.take_left]
open PySem.StrLaws PySem.Builtin PySem.Builtin.Str in
theorem split_jn (x : Str) (r : List Nat) (rs : List (List Nat)) (hr : 13 ∉ r) (hrs : ∀ y ∈ rs, 13 ∉ y) (hx : tl x = jn (r :: rs)) : (Txt.split x "\r\n").map tl = r :: rs := by
  obtain ⟨f, hG, hn⟩ := occ_tight x "\r\n" (by decide)
  have key := parts_jn x rs r 0 f _ hr hrs (by rw [List.drop_zero]; exact hx) (Nat.zero_le _) hG hn
  unfold Txt.split
  split
  · rename_i hc
    have : x.length < 2 := by
      rw [Bool.or_eq_true, decide_eq_true_eq, decide_eq_true_eq] at hc
      rcases hc with h | h
      · exact h
      · have h1 : Str.strKind "\r\n" = 1 := by decide +kernel
        rw [h1] at h
        unfold Str.strKind at h
        split at h
        · omega
        · split at h <;> omega
    cases rs with
    | nil =>
      show [tl x] = [r]
      rw [hx]; rfl
    | cons r' rs =>
      have h2 := tl_len x
      rw [hx] at h2
      simp [jn] at h2
      omega
  · split
    · rename_i he
      have e0 : occurrences x "\r\n" 0 x.length (x.length + 1) = [] := List.isEmpty_iff.mp he
      rw [e0] at key
      have e1 : partsFrom x 2 0 [] = [x] := by show [strSub x 0 x.length] = [x]; rw [sub_whole]
      rw [e1] at key
      exact key
    · rw [partsBetween_eq]
      exact key
end
section
set_option maxRecDepth 100000
section
variable {prog : Program} {w : World} {h₀ : Heap} {mg mb : Str → Option Value} {n : Nat} {env : Env} {X : Addr → Prop} {Γ : List (Str × VK)} {A : Around} {s : Shared}
theorem rdl_strValues {h : Heap} : ∀ l : List (Str × Tok), RdL h X (strValues l) (sPV (l.map (·.1)))
  | [] => .nil
  | p :: r => .cons (.str p.1 p.2) (rdl_strValues r)
theorem new_strs {l : List (Str × Tok)} {xs : List Str} {k : Nat} (C : XOk h₀ X s.heap) (e : l.map (·.1) = xs) :
    Keeps s { s with heap := s.heap.push { cls := .type "list", data := .seq (strValues l).toArray }, toks := k } ∧ Rd (s.heap.push { cls := .type "list", data := .seq (strValues l).toArray }) X (.ref s.heap.objs.size) (.lst (sPV xs)) := by
  subst e
  exact ⟨⟨_, k, rfl, fun _ _ e => Heap.get?_push_of_some _ e⟩, .lst (vs := strValues l) (n := 0) (Heap.get?_push_size _ rfl) C.new (rdl_strValues l)⟩
open PySem.Builtin PySem.Builtin.Str in
theorem split_call {x y : Str} {t u : Tok} (C : XOk h₀ X s.heap) (hy : (y.length == 0) = false) (hsz : x.length ≤ 1000) :
    wpAny (model prog w) A (call (.builtin "str.split") [.str x t, .str y u]) (fun v s' => Keeps s s' ∧ Rd s'.heap X v (.lst (sPV (Txt.split x y)))) NoE s := by
  have hs : x.length ≤ sizeLine := by rw [sizeLine_eq]; omega
  have hn : (partsBetween x (occurrences x y 0 x.length (x.length + 1)) y.length).length ≤ sizeLine := by
    have e1 := StrLaws.occ_length_le x y 0 x.length (x.length + 1)
    rw [length_partsBetween, sizeLine_eq]; omega
  cases h1 : (decide (x.length < y.length) || decide (Str.strKind x < Str.strKind y))
  · cases hf : (occurrences x y 0 x.length (x.length + 1)).isEmpty
    · refine call_meets F.slot_str_split (typeIs_str _ _ _) F.entry_str_split (F.args_str_split_2 _ _) (meets_str_split_sep x y t u h1 hy hf hs hn) ?_
      show wants _ _ _ { s with toks := _, heap := s.heap.push { cls := .type "list", data := .seq (strsFrom s.toks (partsBetween x (occurrences x y 0 x.length (x.length + 1)) y.length)).toArray } }
      rw [strsFrom_eq]
      exact new_strs C ((numbered_texts _ _).trans ((if_neg (ne_true_of_eq_false h1)).trans (if_neg (ne_true_of_eq_false hf))).symm)
    · exact call_meets F.slot_str_split (typeIs_str _ _ _) F.entry_str_split (F.args_str_split_2 _ _) (meets_str_split_not_found x y t u h1 hy hf)
        (new_strs (l := [(x, t)]) C ((if_neg (ne_true_of_eq_false h1)).trans (if_pos hf)).symm)
  · exact call_meets F.slot_str_split (typeIs_str _ _ _) F.entry_str_split (F.args_str_split_2 _ _) (meets_str_split_cannot_occur x y t u h1)
      (new_strs (l := [(x, t)]) C (if_pos h1).symm)
theorem Ex_split {o e : Expr} {apos pos : Pos} {x y : Str} (ho : Ex prog w h₀ n env X Γ o (.str x)) (has : ExL prog w h₀ n env X Γ pos [e] [.str y]) (hy : (y.length == 0) = false) (hsz : x.length ≤ 1000)
    (hbase : attributeBase o "split" env (eval o env) = eval o env := by kernel_rfl!)
    (hfew : ((backTo pos (starEach [e] env)).all (fun x => !x.1) && (backToKw pos (keywordEach [] env)).all (fun x => x.1.isSome)
      && decide (([e] : List Expr).length + ([] : List Keyword).length + (if ([] : List Keyword).isEmpty then 0 else 1) < 30)) = true := by kernel_rfl!)
    (hline : (apos.endLine == pos.line) = true := by kernel_rfl!) (hst : starEach [e] env = (false, eval e env) :: starEach [] env := by kernel_rfl!) :
    Ex prog w h₀ n env X Γ (.Call (.Attribute o "split" apos) [e] [] pos) (.lst (sPV (Txt.split x y))) := by
  intro A s R C
  refine Call_getm (wpAny_mono (ho A s R C) (fun v s₁ h₁ => fun pl => ?_) fun _ _ e => e) hbase hfew hline
  obtain ⟨t, rfl⟩ := h₁.2.isStr
  refine GM.split ?_
  refine callWith_bf (ExL.run has R (C.keep h₁.1) fun us s₂ k₂ r₂ => ?_) hst
  cases r₂ with
  | cons r1 r₂ =>
  cases r₂
  obtain ⟨u, rfl⟩ := r1.isStr
  exact wpAny_mono (split_call ((C.keep h₁.1).keep k₂).x hy hsz) (fun v s₃ h₃ => ⟨keeps_trans h₁.1 (keeps_trans k₂ h₃.1), h₃.2⟩) fun _ _ e => e
end
end
section
set_option maxRecDepth 100000
set_option maxHeartbeats 4000000

noncomputable def tb (v : Nat) : Str := ⟨Array.replicate v 9⟩
theorem mul_tab (n : Int) : Txt.mul "\t" n = tb n.toNat := mul_one_cp 9 n
theorem tb_len (v : Nat) : (tb v).length = v := by simp [tb, Str.length]
theorem mulOk_c (c : Nat) {n : Int} (h : -1000 < n ∧ n < 1000) : MulOk ⟨#[c]⟩ n := mulOk_one c h.1 h.2
noncomputable def aheadF (bare : List Nat) (low p : Nat) : Nat := if p ∈ bare then 0 else 1 + (p + low) % 2
theorem ahead_le (bare : List Nat) (low p : Nat) : aheadF bare low p ≤ 2 := by
  unfold aheadF
  split <;> omega
noncomputable def rowS (vs bare : List Nat) (low p : Nat) : Str := sp (aheadF bare low p) ++ tb (min 1 (aheadF bare low p)) ++ dt (vs.getD p 0) ++ sp (p % 3)
noncomputable def rowsF (vs bare : List Nat) (low : Nat) (rest : List Str) : List Str := (List.range vs.length).map (rowS vs bare low) ++ rest
noncomputable def bumpF (vs bare : List Nat) : List Nat := (List.range vs.length).map fun p => vs.getD p 0 + if p ∈ bare then 1 else 0
noncomputable def qS (x : Str) : Str := ⟨(q1 (tl x)).toArray⟩
noncomputable def nats (l : List Nat) : List Int := l.map fun (i : Nat) => (i : Int)
theorem nats_mem {l : List Nat} {p : Nat} : ((p : Int) ∈ nats l) ↔ p ∈ l := by
  unfold nats
  rw [List.mem_map]
  constructor
  · rintro ⟨q, hq, e⟩
    have : q = p := by omega
    exact this ▸ hq
  · exact fun h => ⟨p, h, rfl⟩
theorem nats_length (l : List Nat) : (nats l).length = l.length := by simp [nats]
theorem any_ints (l : List Int) (a : Int) : ((PV.pys (iPV l)).any fun y => PyData.eqv y (PV.int a).py) = decide (a ∈ l) := by
  induction l with
  | nil => rfl
  | cons b l ih =>
    show ((b == a) || (PV.pys (iPV l)).any fun y => PyData.eqv y (PV.int a).py) = _
    rw [ih, Bool.eq_iff_iff, Bool.or_eq_true, beq_iff_eq, decide_eq_true_eq, decide_eq_true_eq, List.mem_cons]
    exact or_congr eq_comm Iff.rfl
theorem rangePV0 (n : Nat) : rangePV 0 1 n = natPV (List.range n) := by
  unfold rangePV natPV
  apply List.map_congr_left
  intro i _
  exact congrArg PV.int (by omega)
theorem min1_nat (a : Nat) : (min 1 (a : Int)).toNat = min 1 a := by omega
theorem min1_int (a : Nat) : min 1 (a : Int) = ((min 1 a : Nat) : Int) := by omega
theorem min1_succ (a : Nat) : min 1 (1 + a) = 1 := by omega
theorem mod3_nat (j : Nat) : ((j : Int).fmod 3) = ((j % 3 : Nat) : Int) := by rw [Int.fmod_eq_emod_of_nonneg _ (by decide)]; rfl
theorem one_mul_add (i : Nat) : (1 : Int) + (i : Int) * 1 = ((i + 1 : Nat) : Int) := by omega
theorem zero_mul_add (i : Nat) : (0 : Int) + (i : Int) * 1 = (i : Int) := by omega
theorem mem_range0' {n : Nat} {q : PV} (h : q ∈ rangePV 0 1 ((n : Int)).toNat) : ∃ i : Nat, i < n ∧ q = .int i := by rw [Int.toNat_natCast] at h; exact mem_range0 h
theorem range_at' {n i : Nat} {q : PV} (h : (rangePV 0 1 ((n : Int)).toNat)[i]? = some q) : i < n ∧ q = .int (i : Int) := by
  rw [Int.toNat_natCast] at h
  obtain ⟨a, b⟩ := rangePV_at h
  exact ⟨a, b.trans (congrArg PV.int (zero_mul_add i))⟩
theorem pad_hi (v a b : Nat) : (((0 + (v + 1) + (a - b) : Nat) : Int) - max 0 ((a : Int) - (b : Int))) = ((v + 1 : Nat) : Int) := by omega
theorem ahead_mod (j low : Nat) : 1 + ((j : Int) + (low : Int)).fmod 2 = ((1 + (j + low) % 2 : Nat) : Int) := by rw [Int.fmod_eq_emod_of_nonneg _ (by decide)]; omega
noncomputable def sepS (k : Nat) : Str := if k % 3 = 0 then "\n" else if k % 3 = 1 then "\r" else "\r\n"
theorem sepS_tl (k : Nat) : tl (sepS k) = sepL k := by
  unfold sepS sepL
  split
  · rfl
  · split <;> rfl
theorem sepS_len (k : Nat) : (sepS k).length ≤ 2 := by
  rw [← tl_len, sepS_tl]
  unfold sepL
  split
  · decide
  · split <;> decide
theorem sepS_at (k : Nat) : ([.str "\n", .str "\r", .str "\r\n"] : List PV)[((k : Int) % 3).toNat]? = some (.str (sepS k)) := by
  have h : ((k : Int) % 3).toNat = k % 3 := rfl
  rw [h]
  unfold sepS
  have : k % 3 < 3 := Nat.mod_lt _ (by decide)
  generalize k % 3 = r at this
  match r, this with
  | 0, _ => rfl
  | 1, _ => rfl
  | 2, _ => rfl
theorem mailGo_snoc (low : Nat) : ∀ (l : List (List Nat)) (k : Nat) (r : List Nat), mailGo low k (l ++ [r]) = mailGo low k l ++ (sepL (k + l.length + low) ++ r)
  | [], k, r => by simp [mailGo]
  | x :: l, k, r => by
    show sepL (k + low) ++ (x ++ mailGo low (k + 1) (l ++ [r])) = sepL (k + low) ++ (x ++ mailGo low (k + 1) l) ++ _
    rw [mailGo_snoc low l (k + 1) r, List.length_cons, show k + 1 + l.length + low = k + (l.length + 1) + low by omega]
    simp only [List.append_assoc]
theorem rowS_tl (vs bare : List Nat) (low p : Nat) : tl (rowS vs bare low p) = List.replicate (aheadF bare low p) 32 ++ List.replicate (min 1 (aheadF bare low p)) 9 ++ List.replicate (vs.getD p 0) 46 ++ List.replicate (p % 3) 32 := by
  unfold rowS
  rw [tl_app, tl_app, tl_app]
  simp [tl, sp, tb, dt]
theorem row_clean (vs bare : List Nat) (low p : Nat) : Clean (tl (rowS vs bare low p)) := by
  rw [rowS_tl]
  unfold Clean
  simp only [List.mem_append, List.mem_replicate]
  omega
theorem map_tl_inj : ∀ {l m : List Str}, l.map tl = m.map tl → l = m
  | [], [], _ => rfl
  | [], _ :: _, h => by simp at h
  | _ :: _, [], h => by simp at h
  | a :: l, b :: m, h => by
    simp only [List.map_cons, List.cons.injEq] at h
    rw [tl_inj h.1, map_tl_inj h.2]
noncomputable def midF (bare : List Nat) (v p : Nat) : List Nat := if p ∈ bare then List.replicate (v + 1) 46 else 9 :: List.replicate v 46
theorem mid_ok (bare : List Nat) (v p : Nat) (hv : 1 ≤ v) : midF bare v p ≠ [] ∧ (midF bare v p).head? ≠ some 32 ∧ (midF bare v p).getLast? ≠ some 32 ∧ (midF bare v p).length = v + 1 := by
  unfold midF
  obtain ⟨v, rfl⟩ : ∃ u, v = u + 1 := ⟨v - 1, by omega⟩
  split
  · refine ⟨by simp, by simp [List.replicate_succ], ?_, by simp⟩
    rw [List.getLast?_replicate]; simp
  · refine ⟨by simp, by simp, ?_, by simp⟩
    rw [List.getLast?_cons, List.getLast?_replicate]; simp
theorem padS_tl (a : Nat) (mid : List Nat) (b : Nat) : tl (padS a mid b) = List.replicate a 32 ++ mid ++ List.replicate b 32 := by simp [tl, padS]
theorem qrow (vs bare : List Nat) (low p : Nat) (hv : 1 ≤ vs.getD p 0) : qS (rowS vs bare low p) = padS (aheadF bare low p) (midF bare (vs.getD p 0) p) (p % 3) := by
  apply tl_inj
  rw [padS_tl]
  have : tl (qS (rowS vs bare low p)) = q1 (tl (rowS vs bare low p)) := by simp [tl, qS]
  rw [this, rowS_tl]
  generalize vs.getD p 0 = v at hv
  obtain ⟨v, rfl⟩ : ∃ u, v = u + 1 := ⟨v - 1, by omega⟩
  unfold midF aheadF
  by_cases h : p ∈ bare
  · rw [if_pos h, if_pos h]
    simp [q1, List.replicate_succ]
  · rw [if_neg h, if_neg h, show 1 + (p + low) % 2 = (p + low) % 2 + 1 by omega]
    rw [Nat.add_comm _ 1, min1_succ, Nat.add_comm 1]
    simp [q1, List.replicate_succ]
theorem q1_len (r : List Nat) : (q1 r).length ≤ r.length + 1 := by
  cases r with
  | nil => exact Nat.zero_le _
  | cons c r =>
    show (if c = 46 then 46 :: 46 :: r else c :: r).length ≤ _
    split
    · simp
    · simp
theorem jn_len : ∀ (l : List (List Nat)) (b : Nat), (∀ x ∈ l, x.length ≤ b) → (jn l).length ≤ l.length * (b + 2)
  | [], _, _ => Nat.zero_le _
  | [r], b, h => by
    have := h r (.head _)
    show r.length ≤ 1 * (b + 2)
    omega
  | r :: r' :: l, b, h => by
    have h1 := h r (.head _)
    have h2 := jn_len (r' :: l) b fun x hx => h x (.tail _ hx)
    show (r ++ 13 :: 10 :: jn (r' :: l)).length ≤ _
    rw [List.length_append, List.length_cons, List.length_cons, List.length_cons, Nat.succ_mul]
    omega
section
variable {prog : Program} {w : World} {h₀ : Heap} {mg mb : Str → Option Value}
theorem Bn_tab {i : Int} (h : -1000 < i ∧ i < 1000) : Bn prog w h₀ .Mult (.str "\t") (.int i) (.str (tb i.toNat)) := mul_tab i ▸ Bn_mulS (mulOk_c 9 h)
theorem Cm_inI {l : List Int} {a : Int} : Cm prog w h₀ .In (.int a) (.lst (iPV l)) (.bool (decide (a ∈ l))) :=
  any_ints l a ▸ Cm_inD (lay_ints l) rfl (Nat.zero_le _)

theorem St_retOwn2 {s₀ : Shared} {n : Nat} {env : Env} {X B : Addr → Prop} {hB : Heap} {Γ : List (Str × VK)} {Λ : List (MutH × List PV)} {A : Around} {s : Shared} {Q : Flow → Shared → Prop} {x : Str} {px tp pos : Pos} {kt : Nat} {e : Expr} {rest : List Stmt} {a : Addr} {ps : List PV} {p : PV} {X₀ : Addr → Prop}
    (S : Sta h₀ s₀ env X B hB Γ Λ s) (R : Room A n) (hx : Γ.lookup x = some (.raw (.ref a))) (hm : (lstH a, ps) ∈ Λ) (hX : ∀ b, X₀ b → X b) (ha : ¬ X₀ a) (he : Ex prog w h₀ n env X Γ e p)
    (h : ∀ v s', Sta h₀ s₀ env X B hB Γ Λ s' → Rd s'.heap X₀ v (.tup [.lst ps, p]) → Q (.ret v) s') (hd : (x == ("__debug__" : Str)) = false)
    (hst : starEach [.Name x px, e] env = (false, eval (.Name x px) env) :: starEach [e] env := by kernel_rfl!) (hst2 : starEach [e] env = (false, eval e env) :: starEach [] env := by kernel_rfl!) :
    wpAny (model prog w) A (execs (.Return (some (.Tuple [.Name x px, e] kt tp)) pos :: rest) env) Q NoE s := by
  refine wpAny_execs_cons (wpAny_Return_some (Tuple_ (args_cons (wpAny_mono (Rw_name hx hd A s R S.cok) (fun v s₁ h₁ => ?_) fun _ _ e => e) hst)))
  obtain ⟨k, rfl⟩ := h₁
  have S₁ := S.keep k
  refine args_cons (wpAny_mono (he A s₁ R S₁.cok) (fun u s₂ h₂ => args_nil ?_) fun _ _ e => e) hst2
  have S₂ := S₁.keep h₂.1
  refine wpAny_newObj_type ?_ (by show 2 ≤ sizeLine; rw [sizeLine_eq]; omega)
  have kp := keeps_push s₂ (tupObj [.ref a, u] 0)
  have S₃ := S₂.keep kp
  obtain ⟨_, _, vs, m, e, r⟩ := S₃.muts _ hm
  refine h _ _ S₃ (.tup (Heap.get?_push_size _ rfl) (fun q => S₂.cok.x.new (hX _ q)) (.cons (.lst e ha (r.narrow hX)) (.cons ((h₂.2.keep kp).narrow hX) .nil)))

theorem sent_body (G : Glb h₀ mg mb) (N : Nms mg) (P : Pats h₀ mg) (a aq ast : Addr) (Dq : DefAt h₀ mg "quotedata" (fnA 6) (fnB 6) (fnS 6) aq) (Ds : DefAt h₀ mg "_strip_padding" (fnA 12) (fnB 12) (fnS 12) ast)
    (vs bare : List Nat) (rest : List Str) (low : Nat) (hlen : vs.length ≤ 8) (h1 : 1 ≤ vs.length) (hlow : low ≤ 3) (hvs : ∀ x ∈ vs, 1 ≤ x ∧ x < 6) (hr : rest.length ≤ 3) (hrl : ∀ x ∈ rest, x.length ≤ 10 ∧ Clean (tl x)) (hb : bare.length ≤ 100) :
    Body prog w h₀ 21 "_law_sent" (fnA 19) (fnB 19) (fnS 19) a [("word", .pv (.lst (sPV (dots vs)))), ("rest", .pv (.lst (sPV rest))), ("bare", .pv (.lst (iPV (nats bare)))), ("low", .pv (.int (low : Int)))]
      (.tup [.lst (sPV (dots (bumpF vs bare))), .lst (sPV (rest.map qS))]) := by
  intro A s₀ L code X B hB s₁ R S
  conv in execs (fnB 19) _ => arg 1; whnf
  have hdl : (dots vs).length = vs.length := dots_length vs
  have hd5 : (dots vs).length ≤ 100000 := by rw [hdl]; exact Nat.le_trans hlen (by decide)
  have hd0 : 0 ≤ ((dots vs).length : Int) ∧ ((dots vs).length : Int) < 1000 := sm (by rw [hdl]; exact Nat.lt_of_le_of_lt hlen (by decide))
  have lt9 : ∀ {j : Nat}, j < vs.length → j < 1000 := fun h => Nat.lt_of_lt_of_le h (Nat.le_trans hlen (by decide))
  with_reducible refine' St_assign (p := .lst (iPV (nats ((List.range vs.length).map (aheadF bare low))))) S R ?e1 ?x1 fun s₂ S₂ => ?_
  case x1 => walk_at "st"
  case e1 =>
    with_reducible refine' Ex_compq [("bare", _), ("low", _)] (fun _ => true) (fun q => .int (aheadF bare low q.toI.toNat)) ?i2 ?n2 ?s2 ?q2 ?t2 ?f2
    case' i2 => walk_at "it"
    case s2 => walk_at "sees"
    case n2 => rw [rangePV_length, Int.toNat_natCast, hdl]; exact Nat.le_trans hlen (by decide)
    case t2 => exact fun q _ D X' => Tss_nil
    case q2 =>
      rw [List.filter_eq_self.mpr (by intro _ _; rfl), Int.toNat_natCast, hdl, rangePV0]
      unfold natPV nats iPV
      simp only [List.map_map]
      rfl
    case f2 =>
      intro q hq _ D X2
      obtain ⟨j, hj, rfl⟩ := mem_range0' hq
      rw [hdl] at hj
      with_reducible refine' Ex_eq (Ex_if (Ts_cmp ?a3 ?b3 Cm_inI ?m3 ?n3) (fun _ => ?c3) (fun _ => ?d3)) ?q3
      case m3 => kernel_rfl!
      case n3 => decide
      case a3 => walk_at "ex"
      case b3 => walk_at "ex"
      case c3 => walk_at "ex"
      case d3 => walk_at "ex"
      case q3 =>
        show _ = PV.int (aheadF bare low ((j : Int).toNat))
        rw [Int.toNat_natCast]
        unfold aheadF
        by_cases h : j ∈ bare
        · rw [if_pos (by simpa using nats_mem.mpr h), if_pos h]; rfl
        · rw [if_neg (by simpa using fun q => h (nats_mem.mp q)), if_neg h]
          exact congrArg PV.int (ahead_mod j low)
    all_goals (first | assumption | omega)
  have hah : ∀ j, j < vs.length → (nats ((List.range vs.length).map (aheadF bare low))).getD j 0 = (aheadF bare low j : Int) := fun j hj => by
    simp [nats, hj]
  have hvv : ∀ j, j < vs.length → 1 ≤ vs.getD j 0 ∧ vs.getD j 0 < 6 := fun j hj => by
    rw [List.getD_eq_getElem?_getD, List.getElem?_eq_getElem hj]
    exact hvs _ (List.getElem_mem hj)
  with_reducible refine' St_assign (p := .lst (sPV (rowsF vs bare low rest))) S₂ R ?e4 ?x4 fun s₃ S₃ => ?_
  case x4 => walk_at "st"
  case e4 =>
    with_reducible refine' Ex_eq (Ex_bin (p := .lst (sPV ((List.range vs.length).map (rowS vs bare low)))) (q := .lst (sPV rest)) ?a5 ?b5 (Bn_addL ?c5) ?d5) ?q5
    case d5 => decide
    case q5 => simp [rowsF, sPV]
    case c5 => rw [sPV_length, sPV_length, List.length_map, List.length_range]; omega
    case b5 => walk_at "ex"
    case a5 =>
      with_reducible refine' Ex_compq [("word", _), ("ahead", _)] (fun _ => true) (fun q => .str (rowS vs bare low q.toI.toNat)) ?i6 ?n6 ?s6 ?q6 ?t6 ?f6
      case' i6 => walk_at "it"
      case s6 => walk_at "sees"
      case n6 => rw [rangePV_length, Int.toNat_natCast, hdl]; exact Nat.le_trans hlen (by decide)
      case t6 => exact fun q _ D X' => Tss_nil
      case q6 =>
        rw [List.filter_eq_self.mpr (by intro _ _; rfl), Int.toNat_natCast, hdl, rangePV0]
        unfold natPV sPV
        simp only [List.map_map]
        rfl
      case f6 =>
        intro q hq _ D X2
        obtain ⟨j, hj, rfl⟩ := mem_range0' hq
        rw [hdl] at hj
        have hj9 := sm (lt9 hj)
        have ha := hah j hj
        have ha2 := ahead_le bare low j
        with_reducible refine' Ex_eq (Ex_bin (Ex_bin (Ex_bin ?a7 ?b7 (Bn_addS ?c7) ?d7) ?a8 (Bn_addS ?c8) ?d8) ?a9 (Bn_addS ?c9) ?d9) ?q9
        case d7 => decide
        case d8 => decide
        case d9 => decide
        case' a7 => walk_at "ex"
        case' b7 =>
          with_reducible refine' Ex_bin ?a10 ?b10 (Bn_tab ?c10) ?d10
          case d10 => decide
          case' a10 => walk_at "ex"
          case' b10 => walk_at "ex"
        case' a8 => walk_at "ex"
        case' a9 => walk_at "ex"
        case q9 =>
          simp only [Int.toNat_natCast, ha, dots_at hj]
          show _ = PV.str (rowS vs bare low ((j : Int).toNat))
          rw [Int.toNat_natCast]
          unfold rowS
          rw [min1_nat, mod3_nat, Int.toNat_natCast]
        all_goals (try rw [mod3_nat])
        all_goals (try simp only [Int.toNat_natCast, ha, dots_at hj, PySem.strLen_append, sp_len, tb_len, dt_len, hdl, nats_length, List.length_map, List.length_range, min1_nat])
        all_goals (try simp only [min1_int])
        all_goals (have hw := (hvv j hj).2; have m3 : j % 3 < 3 := Nat.mod_lt _ (by decide); have mm : min 1 (aheadF bare low j) ≤ 1 := Nat.min_le_left 1 (aheadF bare low j))
        all_goals clear hd5 hd0 lt9 hvv ha hah hrl hr hvs h1 hlow hlen
        all_goals (first | assumption | exact sm2 (Nat.lt_of_le_of_lt ha2 (by decide)) | exact sm2 (Nat.lt_of_le_of_lt mm (by decide)) | exact sm2 (Nat.lt_trans m3 (by decide)) | omega)
      all_goals (first | assumption | omega)
  have hRl : (rowsF vs bare low rest).length ≤ 11 := by
    unfold rowsF
    rw [List.length_append, List.length_map, List.length_range]; omega
  have hRc : ∀ x ∈ rowsF vs bare low rest, x.length ≤ 10 ∧ Clean (tl x) := by
    intro x hx
    rcases List.mem_append.mp hx with hx | hx
    · obtain ⟨j, hj, rfl⟩ := List.mem_map.mp hx
      have hj : j < vs.length := by simpa using hj
      have := hvv j hj
      exact ⟨by have h2 := ahead_le bare low j; unfold rowS; simp only [PySem.strLen_append, sp_len, tb_len, dt_len]; omega, row_clean vs bare low j⟩
    · exact hrl x hx
  obtain ⟨r0, rs, hR⟩ : ∃ r0 rs, rowsF vs bare low rest = r0 :: rs := by
    cases h : rowsF vs bare low rest with
    | nil =>
      have := congrArg List.length h
      unfold rowsF at this
      rw [List.length_append, List.length_map, List.length_range, List.length_nil] at this
      omega
    | cons r0 rs => exact ⟨r0, rs, rfl⟩
  have hR' := hR
  rw [hR] at S₃ hRl hRc
  rw [List.length_cons] at hRl
  with_reducible refine' St_assign (p := .str r0) S₃ R ?e11 ?x11 fun s₄ S₄ => ?_
  case x11 => walk_at "st"
  case e11 =>
    walk_at "exq"
    · omega
    · simp
    · rfl
  with_reducible refine' St_for (G := Str) (fun i g => tl g = tl r0 ++ mailGo low 1 ((rs.take i).map tl) ∧ g.length ≤ 10 + 12 * i ∧ i ≤ rs.length) (fun g => [("mail", .pv (.str g)), ("rows", .pv (.lst (sPV (r0 :: rs)))), ("ahead", .pv (.lst (iPV (nats ((List.range vs.length).map (aheadF bare low)))))), ("word", .pv (.lst (sPV (dots vs)))), ("low", .pv (.int (low : Int)))]) (fun _ => []) [] r0 S₄ R ?it12 ?x12 ?g12 rfl ?p12 (fun _ => rfl) ?turn12 ?done12
  case' it12 => walk_at "it"
  case x12 => walk_at "st"
  case g12 => exact Sub.go (by walk_at "sub")
  case p12 => exact ⟨by simp [mailGo], (hRc r0 (.head _)).1, Nat.zero_le _⟩
  case turn12 =>
    intro i g q X' B' hB' s' E₅ hP hq S'
    obtain ⟨hg1, hg2, hg3⟩ := hP
    obtain ⟨hi, rfl⟩ := rangePV_at hq
    have hi : i < rs.length := by
      rw [List.length_cons] at hi
      omega
    rw [one_mul_add] at S'
    have hri := hRc rs[i] (.tail _ (List.getElem_mem hi))
    have hm : ((i + 1 : Nat) : Int) + (low : Int) = ((1 + i + low : Nat) : Int) := by omega
    with_reducible refine' St_aug (r := .str (g ++ (sepS (1 + i + low) ++ rs[i]))) S' R ?x13 ?l13 ?e13 (Ip_addS ?z13) fun s₅ S₅ => ?_
    case x13 => walk_at "st"
    case l13 => walk_at "lk"
    case e13 =>
      with_reducible refine' Ex_bin (Ex_item (p := .str (sepS (1 + i + low))) ?v14 ?i14 ?p14 ?q14 ?r14 ?s14) ?b14 (Bn_addS ?c14) ?d14
      case d14 => decide
      case s14 => kernel_rfl!
      case' v14 => walk_at "ex"
      case' i14 => walk_at "ex"
      case' b14 =>
        walk_at "exq"
        rotate_left
        rotate_left
        case q_exeq =>
          rw [Int.toNat_natCast]
          simp [hi]
      all_goals (try simp only [Int.toNat_natCast, List.length_cons])
      all_goals (try omega)
      all_goals (try rw [hm])
      all_goals (try rw [Int.fmod_eq_emod_of_nonneg _ (by decide)])
      all_goals (try omega)
      · exact sepS_at _
      · have := sepS_len (1 + i + low)
        omega
    case z13 =>
      rw [PySem.strLen_append]
      have := sepS_len (1 + i + low)
      omega
    refine St_nil ⟨g ++ (sepS (1 + i + low) ++ rs[i]), ⟨?_, ?_, hi⟩, S₅.weakS (by walk_at "sub")⟩
    · rw [tl_app, tl_app, hg1, List.take_add_one, List.getElem?_eq_getElem hi, List.map_append]
      show _ = _ ++ mailGo low 1 (_ ++ [tl rs[i]])
      rw [mailGo_snoc, List.append_assoc, sepS_tl, List.length_map, List.length_take, Nat.min_eq_left (by omega)]
    · rw [PySem.strLen_append, PySem.strLen_append]
      have := sepS_len (1 + i + low)
      omega
  case done12 =>
    intro g s' hP S'
    obtain ⟨hg1, hg2, hg3⟩ := hP
    have hlen5 : ((((r0 :: rs).length : Nat) : Int) - 1).toNat = rs.length := by rw [List.length_cons]; omega
    have hit : (rangePV 1 1 ((((r0 :: rs).length : Nat) : Int) - 1).toNat).length = rs.length := by rw [rangePV_length, hlen5]
    rw [hit, List.take_of_length_le (Nat.le_refl _)] at hg1
    rw [hit] at hg2
    have hq : tl (quoteF g) = jn (((r0 :: rs).map tl).map q1) := quote_mail low g (tl r0) (rs.map tl) (hRc r0 (.head _)).2 (by
      intro x hx
      obtain ⟨y, hy, rfl⟩ := List.mem_map.mp hx
      exact (hRc y (.tail _ hy)).2) hg1
    have hcl : ∀ y ∈ (r0 :: rs).map tl, Clean (q1 y) := by
      intro y hy
      obtain ⟨z, hz, rfl⟩ := List.mem_map.mp hy
      exact q1_clean (hRc z hz).2
    have hsp : Txt.split (quoteF g) "\r\n" = (r0 :: rs).map qS := by
      have := split_jn (quoteF g) (q1 (tl r0)) ((rs.map tl).map q1) (hcl _ (.head _)).2 (fun y hy => by
        obtain ⟨z, hz, rfl⟩ := List.mem_map.mp hy
        exact (hcl _ (.tail _ hz)).2) hq
      refine map_tl_inj ?_
      show (Txt.split (quoteF g) "\r\n").map tl = ((r0 :: rs).map qS).map tl
      rw [this]
      show ((r0 :: rs).map tl).map q1 = _
      rw [List.map_map, List.map_map]
      apply List.map_congr_left
      intro x _
      show q1 (tl x) = (q1 (tl x)).toArray.toList
      simp
    have hl2 : (subF P2 len2 "\r\n" g).length ≤ 200 := by
      rw [← tl_len, subF2, hg1, sub2_mail low (rs.map tl) (tl r0) 1 (hRc r0 (.head _)).2 (by
        intro x hx
        obtain ⟨y, hy, rfl⟩ := List.mem_map.mp hx
        exact (hRc y (.tail _ hy)).2)]
      refine Nat.le_trans (jn_len ((r0 :: rs).map tl) 10 ?_) ?_
      · intro x hx
        obtain ⟨y, hy, rfl⟩ := List.mem_map.mp hx
        rw [tl_len]; exact (hRc y hy).1
      · rw [List.length_map, List.length_cons]; omega
    have hl3 : (quoteF g).length ≤ 200 := by
      rw [← tl_len, hq]
      refine Nat.le_trans (jn_len (((r0 :: rs).map tl).map q1) 11 ?_) ?_
      · intro x hx
        obtain ⟨y, hy, rfl⟩ := List.mem_map.mp hx
        obtain ⟨z, hz, rfl⟩ := List.mem_map.mp hy
        have h1 := q1_len (tl z)
        have h2 := (hRc z hz).1
        rw [tl_len] at h1
        omega
      · rw [List.length_map, List.length_map, List.length_cons]; omega
    with_reducible refine' St_assign (p := .lst (sPV ((r0 :: rs).map qS))) S' R (Ex_eq (Ex_split (x := quoteF g) (y := "\r\n") ?o15 ?l15 ?y15 ?z15) (by rw [hsp])) ?x15 fun s₅ S₅ => ?_
    case x15 => walk_at "st"
    case y15 => decide +kernel
    case z15 => omega
    case l15 => walk_at "exl"
    case o15 =>
      with_reducible refine' Ex_callF G Dq ?f16 ?d16 ?as16 ?fn16
      case f16 => kernel_rfl!
      case d16 => kernel_rfl!
      case' as16 => walk_at "exl"
      case fn16 => exact quote_fn G P aq Dq g (by omega) hl2
    with_reducible refine' St_new S₅ R ?e17 ?x17 ?sz17 fun b s₆ nXb E₆ S₆ => ?_
    case e17 => walk_at "exl"
    case x17 => walk_at "st"
    case sz17 => decide
    clear hl2 hl3 hq hsp hcl hg1 hg2 hit hlen5
    have hQl : ((r0 :: rs).map qS).length = rs.length + 1 := by rw [List.length_map, List.length_cons]
    have hn : vs.length ≤ rs.length + 1 := by
      rw [← List.length_cons (a := r0), ← hR']
      unfold rowsF
      rw [List.length_append, List.length_map, List.length_range]; omega
    with_reducible refine' St_for (G := Nat) (fun i g => g = i ∧ i ≤ vs.length) (fun _ => [("bared", .raw (.ref b)), ("sent", .pv (.lst (sPV ((r0 :: rs).map qS)))), ("ahead", .pv (.lst (iPV (nats ((List.range vs.length).map (aheadF bare low)))))), ("word", .pv (.lst (sPV (dots vs))))]) (fun g => [(lstH b, sPV (dots ((bumpF vs bare).take g)))]) [lstH b] 0 S₆ R ?it18 ?x18 ?g18 ?l18 ?p18 (fun _ => rfl) ?turn18 ?done18
    case' it18 => walk_at "it"
    case x18 => walk_at "st"
    case g18 => exact Sub.go (by walk_at "sub")
    case p18 => exact ⟨rfl, Nat.zero_le _⟩
    case l18 => simp [dots, sPV]
    case turn18 =>
      intro j g' q X' B' hB' s' E₇ hP hq S'
      obtain ⟨rfl, hjl⟩ := hP
      obtain ⟨hj, rfl⟩ := range_at' hq
      rw [hdl] at hj
      have hg9 := sm (lt9 hj)
      have hgr : g' < rs.length + 1 := Nat.lt_of_lt_of_le hj hn
      have hg8 : g' ≤ 8 := Nat.le_of_lt (Nat.lt_of_lt_of_le hj hlen)
      have hv := hvv g' hj
      have ha := hah g' hj
      have ha2 := ahead_le bare low g'
      have hrow : ((r0 :: rs).map qS).getD g' "" = padS (aheadF bare low g') (midF bare (vs.getD g' 0) g') (g' % 3) := by
        rw [← qrow vs bare low g' hv.1, ← hR']
        unfold rowsF
        rw [List.getD_eq_getElem?_getD, List.getElem?_map, List.getElem?_append_left (by simpa using hj), List.getElem?_map, List.getElem?_range hj]
        rfl
      have hmid := mid_ok bare (vs.getD g' 0) g' hv.1
      with_reducible refine' St_assign (p := .str (padS 0 (midF bare (vs.getD g' 0) g') (g' % 3 - g' / 3))) S' R (Ex_callF (ps := [.str (padS (aheadF bare low g') (midF bare (vs.getD g' 0) g') (g' % 3)), .int ((aheadF bare low g' + g' / 3 : Nat) : Int)]) G Ds ?f19 ?d19 ?as19 ?fn19) ?x19 fun s₇ S₇ => ?_
      case f19 => kernel_rfl!
      case d19 => kernel_rfl!
      case x19 => walk_at "st"
      case fn19 => exact strip_fn G N ast Ds _ _ _ _ (Nat.le_trans ha2 (by decide)) (Nat.le_trans (Nat.div_le_self _ _) (Nat.le_trans hg8 (by decide))) (Nat.le_of_lt (Nat.lt_trans (Nat.mod_lt _ (by decide)) (by decide))) (by rw [hmid.2.2.2]; exact Nat.le_trans hv.2 (by decide)) hmid.1 hmid.2.1 hmid.2.2.1
      case as19 =>
        with_reducible refine' ExL_cons (Ex_eq ?a20 ?q20) (ExL_cons (Ex_eq ?a21 ?q21) ExL_nil ?c21) ?c20
        case c20 => kernel_rfl!
        case c21 => kernel_rfl!
        case' a20 => walk_at "ex"
        case q20 => rw [Int.toNat_natCast, hrow]
        case' a21 => walk_at "ex"
        case q21 =>
          rw [Int.toNat_natCast, ha, Int.fdiv_eq_ediv_of_nonneg _ (by decide)]
          rfl
        all_goals (try rw [hQl])
        all_goals (try simp only [nats_length, List.length_map, List.length_range, Int.toNat_natCast])
        all_goals (first | assumption | exact PyProof.noPylong_small (by decide) | omega)
      with_reducible refine' St_app0 S₇ R ?o22 (Ex_eq (q := .str (dt ((bumpF vs bare).getD g' 0))) ?e22 ?q22) ?z22 fun s₈ S₈ => ?_
      case o22 => walk_at "rw"
      case' e22 => walk_at "ex"
      case q22 =>
        rw [Int.toNat_natCast, ha, padS_len, hmid.2.2.2, Int.fdiv_eq_ediv_of_nonneg _ (by decide), mod3_nat]
        have hz := pad_hi (vs.getD g' 0) (g' % 3) (g' / 3)
        rw [show ((g' : Int) / 3) = ((g' / 3 : Nat) : Int) from rfl, hz]
        have hcl := eq_of_beq (slice_closes (x := padS 0 (midF bare (vs.getD g' 0) g') (g' % 3 - g' / 3)) (i := min 1 (aheadF bare low g' : Int)) (j := ((vs.getD g' 0 + 1 : Nat) : Int)) (by
          have e1 : (padS 0 (midF bare (vs.getD g' 0) g') (g' % 3 - g' / 3)).cps.toList.length = 0 + (vs.getD g' 0 + 1) + (g' % 3 - g' / 3) := by
            have := padS_len 0 (midF bare (vs.getD g' 0) g') (g' % 3 - g' / 3)
            rw [hmid.2.2.2] at this
            rw [← this]; simp [Str.length]
          omega))
        rw [hcl]
        congr 1
        apply tl_inj
        show ((List.drop _ (tl _)).take _).toArray.toList = tl (dt _)
        rw [padS_tl]
        have hb2 : (bumpF vs bare).getD g' 0 = vs.getD g' 0 + if g' ∈ bare then 1 else 0 := by
          unfold bumpF
          simp [hj]
        rw [hb2]
        unfold midF aheadF
        by_cases h : g' ∈ bare
        · rw [if_pos h, if_pos h, if_pos h]
          rw [show (min 1 ((0 : Nat) : Int)) = 0 from rfl, Int.sub_zero, Int.toNat_natCast]
          simp [tl, dt]
        · rw [if_neg h, if_neg h, if_neg h]
          rw [min1_int, min1_succ, show (((vs.getD g' 0 + 1 : Nat) : Int) - ((1 : Nat) : Int)).toNat = vs.getD g' 0 from by rw [Int.natCast_add]; exact congrArg Int.toNat (Int.add_sub_cancel _ _)]
          simp [tl, dt]
      case z22 =>
        rw [sPV_length, dots_length, List.length_take]
        exact Nat.le_trans (Nat.min_le_left _ _) (Nat.le_trans hg8 (by decide))
      case refine'_2 =>
        refine St_nil ⟨g' + 1, ⟨rfl, hj⟩, ?_⟩
        have e1 : sPV (dots ((bumpF vs bare).take (g' + 1))) = sPV (dots ((bumpF vs bare).take g')) ++ [.str (dt ((bumpF vs bare).getD g' 0))] := by
          have hbl : g' < (bumpF vs bare).length := by unfold bumpF; simpa using hj
          rw [List.take_add_one, List.getElem?_eq_getElem hbl, List.getD_eq_getElem?_getD, List.getElem?_eq_getElem hbl]
          unfold dots sPV
          rw [List.map_append, List.map_append]
          rfl
        show Sta _ _ _ _ _ _ _ [(lstH b, sPV (dots ((bumpF vs bare).take (g' + 1))))] _
        rw [e1]
        exact S₈.weakS (by walk_at "sub")
      all_goals (try rw [padS_len, hmid.2.2.2])
      all_goals (try simp only [nats_length, List.length_map, List.length_range, Int.toNat_natCast])
      all_goals (first | assumption | exact PyProof.noPylong_small (by decide) | omega)
    case done18 =>
      intro g' s' hP S'
      obtain ⟨rfl, -⟩ := hP
      rw [rangePV_length, hdl, Int.toNat_natCast] at S'
      have hbl : (bumpF vs bare).length = vs.length := by unfold bumpF; simp
      rw [List.take_of_length_le (by omega)] at S'
      with_reducible refine' St_retOwn2 (a := b) (ps := sPV (dots (bumpF vs bare))) (p := .lst (sPV (rest.map qS))) (X₀ := X) S' R ?lk23 ?mm23 (fun b q => .inl q) nXb (Ex_eq ?e23 ?q23) (fun v s' S' r => S'.retE E₆ r) ?d23 ?st23
      case lk23 => walk_at "lk"
      case mm23 => exact .head _
      case d23 => decide +kernel
      case st23 => kernel_rfl!
      case' e23 => walk_at "ex"
      case q23 =>
        rw [hdl, pickL_from, ← hR']
        unfold rowsF
        rw [List.map_append, List.drop_left' (by simp)]
      all_goals (try rw [hdl])
      all_goals (try rw [hQl])
      all_goals omega
    all_goals (first | assumption | omega)
  all_goals (rw [List.length_cons]; omega)
end
end
section

theorem Cok.here {h₀ : Heap} {env : Env} {X : Addr → Prop} {Γ : List (Str × VK)} {h : Heap} (C : Cok h₀ env X Γ h) : Cok h env (fun _ => False) Γ h :=
  ⟨C.ok, fun _ _ e => e, fun _ q => q.elim, fun x k e => let ⟨v, hv, r⟩ := C.has x k e; ⟨v, hv, VK.holds_mono (fun _ _ _ e => ⟨e, id⟩) r⟩⟩
theorem Glb.keep {h₀ h : Heap} {mg mb : Str → Option Value} (G : Glb h₀ mg mb) (gd : ∀ b o, h₀.get? b = some o → h.get? b = some o) : Glb h mg mb :=
  ⟨G.g.keeps gd, G.b.keeps gd, G.boot, G.lim.keeps gd⟩

section
variable {prog : Program} {w : World} {h₀ : Heap} {mg mb : Str → Option Value} {s₀ : Shared} {n : Nat} {env : Env} {X B : Addr → Prop} {hB : Heap} {Γ : List (Str × VK)} {Λ Λ₁ Λ₂ : List (MutH × List PV)} {A : Around} {s : Shared} {Q : Flow → Shared → Prop}

theorem Ex_rowH {h : Heap} {x : Str} {px pos : Pos} {slice : Expr} {l a : Addr} {us vs : List Value} {k m r : Nat} {ps : List PV} (hl : h.get? l = some (lstObj us k)) (hx : Γ.lookup x = some (.raw (.ref l))) (hd : (x == ("__debug__" : Str)) = false)
    (hr : Ex prog w h n env (fun _ => False) Γ slice (.int (r : Int))) (hr63 : r < 1000) (ha : us[r]? = some (.ref a)) (hrow : h.get? a = some (lstObj vs m)) (rd : RdL h (fun _ => False) vs ps) (hs : notSlice slice = true := by kernel_rfl!) :
    Ex prog w h n env (fun _ => False) Γ (.Subscript (.Name x px) slice pos) (.lst ps) := by
  intro A s R C
  refine Subscript_ (wpAny_mono (Rw_name hx hd A s R C) (fun v s₁ h₁ => wpAny_mono (hr A s₁ R (C.keep h₁.1)) (fun kk s₂ h₂ => ?_) fun _ _ e => e) fun _ _ e => e)
  obtain ⟨k₁, rfl⟩ := h₁
  obtain ⟨k₂, ri⟩ := h₂
  obtain ⟨t, rfl⟩ := ri.isInt
  have k12 := keeps_trans k₁ k₂
  have el := keeps_heap k12 (C.gd _ _ hl)
  have hll := lst_isList el
  refine tail_any hll.typeIs slot_list_getitem.lookup (wpAny_getItem_list hll (by omega) (by omega) (by simpa using ha) ⟨k12, ?_⟩) (subscripted_plain hs)
  refine .lst (keeps_heap k12 (C.gd _ _ hrow)) id (rd.mono fun b o nb e => ⟨keeps_heap k12 (C.gd _ _ e), nb⟩)
theorem Rw_rowH {h : Heap} {x : Str} {px pos : Pos} {slice : Expr} {l a : Addr} {us : List Value} {k r : Nat} (hl : h.get? l = some (lstObj us k)) (hx : Γ.lookup x = some (.raw (.ref l))) (hd : (x == ("__debug__" : Str)) = false)
    (hr : Ex prog w h n env (fun _ => False) Γ slice (.int (r : Int))) (hr63 : r < 1000) (ha : us[r]? = some (.ref a)) (hs : notSlice slice = true := by kernel_rfl!) :
    Rw prog w h n env (fun _ => False) Γ (.Subscript (.Name x px) slice pos) (.ref a) := by
  intro A s R C
  refine Subscript_ (wpAny_mono (Rw_name hx hd A s R C) (fun v s₁ h₁ => wpAny_mono (hr A s₁ R (C.keep h₁.1)) (fun kk s₂ h₂ => ?_) fun _ _ e => e) fun _ _ e => e)
  obtain ⟨k₁, rfl⟩ := h₁
  obtain ⟨k₂, ri⟩ := h₂
  obtain ⟨t, rfl⟩ := ri.isInt
  have k12 := keeps_trans k₁ k₂
  have el := keeps_heap k12 (C.gd _ _ hl)
  have hll := lst_isList el
  exact tail_any hll.typeIs slot_list_getitem.lookup (wpAny_getItem_list hll (by omega) (by omega) (by simpa using ha) ⟨k12, rfl⟩) (subscripted_plain hs)
theorem St_assignH {x : Str} {px pos : Pos} {e : Expr} {rest : List Stmt} {i : Int} (S : Sta h₀ s₀ env X B hB Γ Λ s) (R : Room A n) (he : Ex prog w s.heap n env (fun _ => False) Γ e (.int i)) (hx : CanStore env x)
    (h : ∀ s', Sta h₀ s₀ env X B hB ((x, .pv (.int i)) :: Γ) Λ s' → wpAny (model prog w) A (execs rest env) Q NoE s')
    (hsw : swapsWith e (some (.Name x px)) pos.line env = pure false := by kernel_rfl!) :
    wpAny (model prog w) A (execs (.Assign [.Name x px] e pos :: rest) env) Q NoE s := by
  refine wpAny_execs_cons (wpAny_Assign_Name (wpAny_mono (he A s R S.cok.here) (fun v s₁ h₁ => ?_) fun _ _ e => e) hsw)
  obtain ⟨t, rfl⟩ := h₁.2.isInt
  exact (S.keep h₁.1).storeK hx (k := .pv (.int i)) (.int i t) fun s' S' => h s' S'

theorem set_lst {E : Value → Shared → Prop} {a : Addr} {vs : List Value} {k i : Nat} {t : Tok} {v : Value} {Q : Unit → Shared → Prop} (e : s.heap.get? a = some (lstObj vs k)) (hi : i < vs.length) (hsz : vs.length ≤ 1000)
    (hQ : ∀ h' k', h'.get? a = some (lstObj (vs.set i v) k') → (∀ b, b ≠ a → h'.get? b = s.heap.get? b) → Q () { s with heap := h' }) :
    wpAny (model prog w) A (setItem (.ref a) (.int (i : Int) t) v) Q E s := by
  refine ki_setAt e (by omega) (by omega) (by simp; omega) ?_
  have key : ∃ k', Heap.get? (s.heap.update a (Obj.mapSeq (·.setIfInBounds (i : Int).toNat v))) a = some (lstObj (vs.set i v) k') := by
    refine ⟨if (vs.toArray.setIfInBounds i v).size == vs.toArray.size then k else k + 1, ?_⟩
    rw [Heap.get?_update_self _ e rfl, Int.toNat_natCast]
    simp only [Obj.mapSeq, List.setIfInBounds_toArray]
  obtain ⟨k', hk⟩ := key
  exact hQ _ k' hk fun b hb => Heap.get?_update_ne _ _ _ _ hb

theorem index_call {env : Env} {a : Addr} {l : List Int} {m : Int} {vs : List Value} {k : Nat} {pos : Pos} {e : Expr} {Γ : List (Str × VK)} {h : Heap} (C : Cok h env (fun _ => False) Γ s.heap) (R : Room A n) (ea : h.get? a = some (lstObj vs k)) (rd : RdL h (fun _ => False) vs (iPV l)) (hm : m ∈ l) (hsz : l.length ≤ 1000)
    (he : Ex prog w h n env (fun _ => False) Γ e (.int m)) (hst : backTo pos (starEach [e] env) = [(false, eval e env)] := by kernel_rfl!) :
    wpAny (model prog w) A (callWith pos (.builtin "list.index") [.ref a] (backTo pos (starEach [e] env)) []) (fun v s' => Keeps s s' ∧ Rd s'.heap (fun _ => False) v (.int (l.idxOf m : Int))) NoE s := by
  rw [hst]
  obtain ⟨xs, hx1, hx2⟩ := iPV_of rd
  have hlen : vs.length = l.length := by rw [rd.length]; simp [iPV]
  have hj : l.idxOf m < l.length := List.idxOf_lt_length_of_mem hm
  have at_ : ∀ i (hi : i < vs.length), ∃ t, vs[i] = .int (l[i]'(by omega)) t := by
    intro i hi
    subst hx2
    have hi' : i < xs.length := by simpa using hi
    refine ⟨xs[i].2, ?_⟩
    subst hx1
    simp
  refine P.index_list (wpAny_mono (he A s R C) (fun v s₁ h₁ => ?_) fun _ _ e => e)
  obtain ⟨t, rfl⟩ := h₁.2.isInt
  refine ⟨vs.toArray, k, fun y => match y with | .int b _ => b == m | _ => false, l.idxOf m, by simpa [hlen] using hj, keeps_heap h₁.1 (C.gd _ _ ea), fun y hy => ?_, by omega, ?_, fun i hi hlt => ?_, ⟨keeps_trans h₁.1 (keeps_toks _ _), .int _ _⟩⟩
  · obtain ⟨i, hi, rfl⟩ := List.getElem_of_mem (by simpa using hy : y ∈ vs)
    obtain ⟨u, hu⟩ := at_ i hi
    rw [hu]
    exact MeetsSeq.EqGives.int _ _ _ _
  · obtain ⟨u, hu⟩ := at_ (l.idxOf m) (by omega)
    have : vs.toArray[l.idxOf m]'(by simpa [hlen] using hj) = _ := (by simpa using hu)
    rw [this]
    simp
  · have hi' : i < vs.length := by simpa using hi
    obtain ⟨u, hu⟩ := at_ i hi'
    have : vs.toArray[i] = _ := (by simpa using hu)
    rw [this]
    have : l[i]'(by omega) ≠ m := fun q => by
      have h2 := List.not_of_lt_findIdx (p := (· == m)) (xs := l) (i := i) hlt
      simp [q] at h2
    simpa using this
end
end
section
set_option maxRecDepth 100000
set_option maxHeartbeats 4000000

theorem RdL.set {h : Heap} {X : Addr → Prop} : ∀ {vs : List Value} {ps : List PV}, RdL h X vs ps → ∀ (i : Nat) {v : Value} {p : PV}, Rd h X v p → RdL h X (vs.set i v) (ps.set i p)
  | _, _, .nil, _, _, _, _ => .nil
  | _, _, .cons _ rs, 0, _, _, q => .cons q rs
  | _, _, .cons r rs, i + 1, _, _, q => .cons r (rs.set i q)

noncomputable def In4 (z b : Nat) : Prop := z ≤ b ∧ b < z + 4
noncomputable def Is4 (z b : Nat) : Prop := b = z + 4
noncomputable def Below (b z : Nat) : Prop := b < z
section
variable {prog : Program} {w : World} {h₀ : Heap} {mg mb : Str → Option Value} {s₀ : Shared} {n : Nat} {env : Env} {X B : Addr → Prop} {hB : Heap} {Γ : List (Str × VK)} {Λ Λ₁ Λ₂ : List (MutH × List PV)} {A : Around} {s : Shared} {Q : Flow → Shared → Prop}

noncomputable abbrev rowsL (as : Nat → Addr) (rows : List (List Int)) : List (MutH × List PV) := [(lstH (as 0), iPV (rows.getD 0 [])), (lstH (as 1), iPV (rows.getD 1 [])), (lstH (as 2), iPV (rows.getD 2 [])), (lstH (as 3), iPV (rows.getD 3 []))]
theorem rows_split (as : Nat → Addr) {rows : List (List Int)} (h : rows.length = 4) {r : Nat} (hr : r < 4) : ∃ Λ₁ Λ₂, rowsL as rows = Λ₁ ++ (lstH (as r), iPV (rows.getD r [])) :: Λ₂ ∧ ∀ row, rowsL as (rows.set r row) = Λ₁ ++ (lstH (as r), iPV row) :: Λ₂ := by
  match rows, h with
  | [x0, x1, x2, x3], _ =>
    have : r = 0 ∨ r = 1 ∨ r = 2 ∨ r = 3 := by omega
    rcases this with rfl | rfl | rfl | rfl
    · exact ⟨[], [(lstH (as 1), iPV x1), (lstH (as 2), iPV x2), (lstH (as 3), iPV x3)], rfl, fun _ => rfl⟩
    · exact ⟨[(lstH (as 0), iPV x0)], [(lstH (as 2), iPV x2), (lstH (as 3), iPV x3)], rfl, fun _ => rfl⟩
    · exact ⟨[(lstH (as 0), iPV x0), (lstH (as 1), iPV x1)], [(lstH (as 3), iPV x3)], rfl, fun _ => rfl⟩
    · exact ⟨[(lstH (as 0), iPV x0), (lstH (as 1), iPV x1), (lstH (as 2), iPV x2)], [], rfl, fun _ => rfl⟩
noncomputable abbrev outer (as : Nat → Addr) : Obj := lstObj [.ref (as 0), .ref (as 1), .ref (as 2), .ref (as 3)] 0
theorem outer_at (as : Nat → Addr) {r : Nat} (hr : r < 4) : ([.ref (as 0), .ref (as 1), .ref (as 2), .ref (as 3)] : List Value)[r]? = some (.ref (as r)) := by
  have : r = 0 ∨ r = 1 ∨ r = 2 ∨ r = 3 := by omega
  rcases this with rfl | rfl | rfl | rfl <;> rfl

theorem St_new4 {x : Str} {px pos lp p0 p1 p2 p3 : Pos} {rest : List Stmt} (S : Sta h₀ s₀ env X B hB Γ Λ s) (hx : CanStore env x)
    (h : ∀ (as : Nat → Addr) l X' B' hB' s', (∀ b, X b → X' b) → Ext s₀ X B hB X' B' hB' → B' l → hB'.get? l = some (outer as) → Sta h₀ s₀ env X' B' hB' ((x, .raw (.ref l)) :: Γ) (rowsL as [[], [], [], []] ++ Λ) s' → wpAny (model prog w) A (execs rest env) Q NoE s')
    (h1 : starEach [.List [] p0, .List [] p1, .List [] p2, .List [] p3] env = (false, eval (.List [] p0) env) :: starEach [.List [] p1, .List [] p2, .List [] p3] env := by kernel_rfl!)
    (h2 : starEach [.List [] p1, .List [] p2, .List [] p3] env = (false, eval (.List [] p1) env) :: starEach [.List [] p2, .List [] p3] env := by kernel_rfl!)
    (h3 : starEach [.List [] p2, .List [] p3] env = (false, eval (.List [] p2) env) :: starEach [.List [] p3] env := by kernel_rfl!)
    (h4 : starEach [.List [] p3] env = (false, eval (.List [] p3) env) :: starEach [] env := by kernel_rfl!)
    (hsw : swapsWith (.List [.List [] p0, .List [] p1, .List [] p2, .List [] p3] lp) (some (.Name x px)) pos.line env = pure false := by kernel_rfl!) :
    wpAny (model prog w) A (execs (.Assign [.Name x px] (.List [.List [] p0, .List [] p1, .List [] p2, .List [] p3] lp) pos :: rest) env) Q NoE s := by
  refine wpAny_execs_cons (wpAny_Assign_Name (List_ ?_) hsw)
  refine args_cons (List_ (args_nil (wpAny_newObj_type ?_ (Nat.zero_le _)))) h1
  refine args_cons (List_ (args_nil (wpAny_newObj_type ?_ (Nat.zero_le _)))) h2
  refine args_cons (List_ (args_nil (wpAny_newObj_type ?_ (Nat.zero_le _)))) h3
  refine args_cons (List_ (args_nil (wpAny_newObj_type ?_ (Nat.zero_le _)))) h4
  refine args_nil (wpAny_newObj_type ?_ (by show 4 ≤ sizeLine; rw [sizeLine_eq]; omega))
  simp only [Heap.size_push]
  generalize ho : lstObj [] 0 = o0
  have e0 : ({ cls := .type "list", data := .seq ([] : List Value).toArray } : Obj) = o0 := ho
  simp only [e0]
  generalize hs : s.heap.objs.size = z
  generalize hH : ((((s.heap.push o0).push o0).push o0).push o0) = H
  have fr0 : o0.isFreed = false := by rw [← ho]; rfl
  have g0 : H.get? z = some o0 := by rw [← hH, ← hs]; exact Heap.get?_push_of_some _ (Heap.get?_push_of_some _ (Heap.get?_push_of_some _ (Heap.get?_push_size _ fr0)))
  have g1 : H.get? (z + 1) = some o0 := by
    rw [← hH, ← hs]
    have := Heap.get?_push_size (o := o0) (s.heap.push o0) fr0
    rw [Heap.size_push] at this
    exact Heap.get?_push_of_some _ (Heap.get?_push_of_some _ this)
  have g2 : H.get? (z + 1 + 1) = some o0 := by
    rw [← hH, ← hs]
    have := Heap.get?_push_size (o := o0) ((s.heap.push o0).push o0) fr0
    rw [Heap.size_push, Heap.size_push] at this
    exact Heap.get?_push_of_some _ this
  have g3 : H.get? (z + 1 + 1 + 1) = some o0 := by
    rw [← hH, ← hs]
    have := Heap.get?_push_size (o := o0) (((s.heap.push o0).push o0).push o0) fr0
    rwa [Heap.size_push, Heap.size_push, Heap.size_push] at this
  have hz : H.objs.size = z + 1 + 1 + 1 + 1 := by rw [← hH, ← hs]; simp only [Heap.size_push]
  have kH : ∀ b o, s.heap.get? b = some o → H.get? b = some o := fun b o e => hH ▸ Heap.get?_push_of_some _ (Heap.get?_push_of_some _ (Heap.get?_push_of_some _ (Heap.get?_push_of_some _ e)))
  generalize hO : ({ cls := .type "list", data := .seq ([.ref z, .ref (z + 1), .ref (z + 1 + 1), .ref (z + 1 + 1 + 1)] : List Value).toArray } : Obj) = O
  have frO : O.isFreed = false := by rw [← hO]; rfl
  have gO : (H.push O).get? (z + 1 + 1 + 1 + 1) = some O := by
    have := Heap.get?_push_size (o := O) H frO
    rwa [hz] at this
  have kk : ∀ b o, s.heap.get? b = some o → (H.push O).get? b = some o := fun b o e => Heap.get?_push_of_some _ (kH b o e)
  have kO : ∀ b o, H.get? b = some o → (H.push O).get? b = some o := fun b o e => Heap.get?_push_of_some _ e
  replace g0 := kO _ _ g0
  replace g1 := kO _ _ g1
  replace g2 := kO _ _ g2
  replace g3 := kO _ _ g3
  have new : ∀ b : Nat, z ≤ b → s.heap.get? b = none := fun b hb => Heap.get?_none_of_le (by rw [hs]; exact hb)
  have old : ∀ b : Nat, s.heap.get? b ≠ none → Below b z := fun b hb => by
    rcases Nat.lt_or_ge b z with q | q
    · exact q
    · exact absurd (new b q) hb
  have live : ∀ b, X b → Below b z := fun b q => old b (by
    obtain ⟨o, ho⟩ := Option.isSome_iff_exists.mp (S.cok.xok b q).2
    intro e
    have e' : s.heap.get? b = none := e
    rw [ho] at e'; cases e')
  have new0 : ∀ b : Nat, z ≤ b → s₀.heap.get? b = none := fun b hb => by
    cases e : s₀.heap.get? b with
    | none => rfl
    | some o =>
      have := S.old b o (fun q => absurd (show b < z from live b q) (Nat.not_lt.mpr hb)) e
      have h2 : s.heap.get? b = none := new b hb
      rw [this] at h2; cases h2
  generalize hHH : H.push O = HH at *
  clear hHH kO
  have S1 : Sta h₀ s₀ env (fun b => X b ∨ In4 z b) B hB Γ Λ { s with heap := HH } := by
    refine S.grow ⟨HH, s.toks, rfl, kk⟩ (fun a q => .inl q) fun a q => q.imp id fun q => ⟨new a q.1, ?_⟩
    have q' : @LE.le Nat _ z a ∧ @LT.lt Nat _ a (z + 4) := q
    have : @Eq Nat a z ∨ @Eq Nat a (z + 1) ∨ @Eq Nat a (z + 1 + 1) ∨ @Eq Nat a (z + 1 + 1 + 1) := by omega
    show (HH.get? a).isSome = true
    rcases this with q | q | q | q
    · rw [show a = z from q, g0]; rfl
    · rw [show a = z + 1 from q, g1]; rfl
    · rw [show a = z + 1 + 1 from q, g2]; rfl
    · rw [show a = z + 1 + 1 + 1 from q, g3]; rfl
  have Bold : ∀ b o, B b → hB.get? b = some o → Below b z := fun b o hb e => old b (by
    intro e'
    have h2 := S.fixd b o hb e
    have e2 : s.heap.get? b = none := e'
    rw [h2] at e2; cases e2)
  have notIs : ∀ b, X b → ¬ Is4 z b := fun b q h => by
    have h1 : @LT.lt Nat _ b z := live b q
    have h2 : @Eq Nat b (z + 4) := h
    omega
  have S2 := S1.fix (B' := fun b => (B b ∧ Below b z) ∨ Is4 z b) (hB' := HH) (fun b o _ e => e) (fun q => q.elim (fun q => S.ownL.2 q.1) (notIs _ S.ownL.1))
    (fun n c e q => q.elim (fun q => (S.ownC n c e).2 q.1) (notIs _ (S.ownC n c e).1)) (fun q hq z' => z'.elim (fun z' => (S.muts q hq).2.1 z'.1) (notIs _ (S.muts q hq).1))
  have S3 : Sta h₀ s₀ env (fun b => X b ∨ In4 z b) (fun b => (B b ∧ Below b z) ∨ Is4 z b) HH Γ (rowsL (fun i => (z : Nat) + i) [[], [], [], []] ++ Λ) { s with heap := HH } := by
    refine ⟨S2.same, S2.old, S2.fixd, S2.cok, S2.frm, S2.ownL, S2.ownC, fun q hq => ?_, ?_⟩
    · rcases List.mem_append.mp hq with hq | hq
      · have mk : ∀ i : Nat, i < 4 → HH.get? (z + i) = some (lstObj [] 0) → (X (z + i) ∨ In4 z (z + i)) ∧ ¬ ((B (z + i) ∧ Below (z + i) z) ∨ Is4 z (z + i)) ∧ ∃ vs k, HH.get? (z + i) = some ((lstH (z + i)).obj vs k) ∧ RdL HH (fun b => X b ∨ In4 z b) vs [] := fun i hi e =>
          ⟨.inr ⟨Nat.le_add_right _ _, by omega⟩, fun q => q.elim (fun q => absurd (show z + i < z from q.2) (by omega)) fun q => absurd (show z + i = z + 4 from q) (by omega), [], 0, e, .nil⟩
        simp only [List.mem_cons, List.not_mem_nil, or_false] at hq
        rcases hq with rfl | rfl | rfl | rfl
        · exact mk 0 (by omega) (ho ▸ g0)
        · exact mk 1 (by omega) (ho ▸ g1)
        · exact mk 2 (by omega) (ho ▸ g2)
        · exact mk 3 (by omega) (ho ▸ g3)
      · exact S2.muts q hq
    · rw [List.map_append, List.nodup_append]
      refine ⟨?_, S2.nodup, fun a ha b hb => ?_⟩
      · show ([z + 0, z + 1, z + 2, z + 3] : List Nat).Nodup
        simp
      · have h1 : @LE.le Nat _ z a := by
          have all : ∀ c ∈ ([z + 0, z + 1, z + 2, z + 3] : List Nat), z ≤ c := by
            intro c hc
            simp only [List.mem_cons, List.not_mem_nil, or_false] at hc
            omega
          exact all a ha
        obtain ⟨q, hq, rfl⟩ := List.mem_map.mp hb
        have h2 : @LT.lt Nat _ q.1.a z := live _ (S.muts q hq).1
        intro e
        have e' : @Eq Nat a q.1.a := e
        omega
  refine S3.storeK hx (k := .raw _) rfl fun s' S' => ?_
  refine h (fun i => (z : Nat) + i) _ _ _ HH s' (fun b q => .inl q) ⟨fun b q => .inl q, fun b q => q.imp id fun q => new0 b q.1, fun b o hb e => ⟨.inl ⟨hb, Bold b o hb e⟩, ?_⟩⟩ (.inr (show (z + 1 + 1 + 1 + 1 : Nat) = z + 4 from rfl)) ?_ S'
  · exact kk b o (S.fixd b o hb e)
  · rw [gO, ← hO]; rfl
end
end
section
set_option maxRecDepth 100000
set_option maxHeartbeats 4000000

noncomputable def bigs (row : List Int) (x : Int) : List Int := row.filter fun y => decide (x < y)
noncomputable def insGo : Nat → List (List Int) → Int → Nat → List (List Int) × Nat
  | 0, rows, _, r => (rows, r)
  | f + 1, rows, x, r => if bigs (rows.getD r []) x = [] then (rows.set r (rows.getD r [] ++ [x]), r)
    else insGo f (rows.set r ((rows.getD r []).set ((rows.getD r []).idxOf (minL (bigs (rows.getD r []) x))) x)) (minL (bigs (rows.getD r []) x)) (r + 1)
noncomputable def linesStep (g : List (List Int) × List Int) (x : Int) : List (List Int) × List Int :=
  ((insGo 4 g.1 x 0).1, g.2 ++ [((insGo 4 g.1 x 0).2 : Int)])
noncomputable def linesF (vs : List Int) : List Int := (vs.foldl linesStep ([[], [], [], []], [])).2
structure RowsOk (rows : List (List Int)) (k : Nat) : Prop where
  four : rows.length = 4
  ent : ∀ row ∈ rows, row.length ≤ k ∧ ∀ y ∈ row, 1 ≤ y ∧ y ≤ 4
theorem RowsOk.at {rows : List (List Int)} {k : Nat} (h : RowsOk rows k) {r : Nat} (hr : r < 4) : (rows.getD r []).length ≤ k ∧ ∀ y ∈ rows.getD r [], 1 ≤ y ∧ y ≤ 4 := by
  rw [List.getD_eq_getElem?_getD, List.getElem?_eq_getElem (by rw [h.four]; exact hr)]
  exact h.ent _ (List.getElem_mem _)
theorem RowsOk.set {rows : List (List Int)} {k : Nat} (h : RowsOk rows k) (r : Nat) {row : List Int} (hl : row.length ≤ k) (he : ∀ y ∈ row, 1 ≤ y ∧ y ≤ 4) : RowsOk (rows.set r row) k :=
  ⟨by rw [List.length_set, h.four], fun q hq => (List.mem_or_eq_of_mem_set hq).elim (h.ent q) fun e => e ▸ ⟨hl, he⟩⟩
theorem RowsOk.mono {rows : List (List Int)} {k m : Nat} (h : RowsOk rows k) (hm : k ≤ m) : RowsOk rows m := ⟨h.four, fun q hq => ⟨by have := (h.ent q hq).1; omega, (h.ent q hq).2⟩⟩
theorem mem_set_int {l : List Int} {i : Nat} {x : Int} {y : Int} (h : y ∈ l.set i x) : y ∈ l ∨ y = x := List.mem_or_eq_of_mem_set h

section
variable {prog : Program} {w : World} {h₀ : Heap} {mg mb : Str → Option Value}

theorem Ex_indexH {n : Nat} {env : Env} {Γ : List (Str × VK)} {h : Heap} {o e : Expr} {apos pos : Pos} {a : Addr} {vs : List Value} {k : Nat} {l : List Int} {m : Int} (ho : Rw prog w h n env (fun _ => False) Γ o (.ref a)) (ea : h.get? a = some (lstObj vs k)) (rd : RdL h (fun _ => False) vs (iPV l)) (hm : m ∈ l) (hsz : l.length ≤ 1000)
    (he : Ex prog w h n env (fun _ => False) Γ e (.int m))
    (hbase : attributeBase o "index" env (eval o env) = eval o env := by kernel_rfl!)
    (hfew : ((backTo pos (starEach [e] env)).all (fun x => !x.1) && (backToKw pos (keywordEach [] env)).all (fun x => x.1.isSome)
      && decide (([e] : List Expr).length + ([] : List Keyword).length + (if ([] : List Keyword).isEmpty then 0 else 1) < 30)) = true := by kernel_rfl!)
    (hline : (apos.endLine == pos.line) = true := by kernel_rfl!) (hst : backTo pos (starEach [e] env) = [(false, eval e env)] := by kernel_rfl!) :
    Ex prog w h n env (fun _ => False) Γ (.Call (.Attribute o "index" apos) [e] [] pos) (.int (l.idxOf m : Int)) := by
  intro A s R C
  refine Call_getm ?_ hbase hfew hline
  refine wpAny_mono (ho A s R C) (fun v s₁ h₁ => ?_) fun _ _ e => e
  obtain ⟨k₁, rfl⟩ := h₁
  intro pl
  have C₁ := C.keep k₁
  have ea1 := C₁.gd _ _ ea
  refine getMethod_list_of PySem.F.slot_list_index PySem.F.type_list_index (lst_isList ea1) ?_ ?_
  · exact ⟨_, ea1, rfl⟩
  exact wpAny_mono (index_call C₁ R ea rd hm hsz he hst) (fun v s₂ h₂ => ⟨keeps_trans k₁ h₂.1, h₂.2⟩) fun _ _ e => e
theorem St_setRow {n : Nat} {env : Env} {s₀ s : Shared} {X B : Addr → Prop} {hB : Heap} {Γ : List (Str × VK)} {Λ₁ Λ₂ : List (MutH × List PV)} {A : Around} {Q : Flow → Shared → Prop} {o i v : Expr} {sp pos : Pos} {rest : List Stmt} {a : Addr} {ps : List PV} {j : Nat} {y : Int}
    (S : Sta h₀ s₀ env X B hB Γ (Λ₁ ++ (lstH a, ps) :: Λ₂) s) (R : Room A n) (ho : Rw prog w s.heap n env (fun _ => False) Γ o (.ref a)) (hi : Ex prog w s.heap n env (fun _ => False) Γ i (.int (j : Int))) (hv : Ex prog w s.heap n env (fun _ => False) Γ v (.int y))
    (hj : j < ps.length) (hsz : ps.length ≤ 1000)
    (h : ∀ s', Sta h₀ s₀ env X B hB Γ (Λ₁ ++ (lstH a, ps.set j (.int y)) :: Λ₂) s' → wpAny (model prog w) A (execs rest env) Q NoE s')
    (hs : swapsWith v (some (.Subscript o i sp)) pos.line env = pure false := by kernel_rfl!) :
    wpAny (model prog w) A (execs (.Assign [.Subscript o i sp] v pos :: rest) env) Q NoE s := by
  refine wpAny_execs_cons (wpAny_Assign_Subscript ?_ hs)
  have C := S.cok.here
  refine wpAny_mono (hv A s R C) (fun vx s₁ h₁ => ?_) fun _ _ e => e
  obtain ⟨k₁, r₁⟩ := h₁
  refine wpAny_mono (ho A s₁ R (C.keep k₁)) (fun vo s₂ h₂ => ?_) fun _ _ e => e
  obtain ⟨k₂, rfl⟩ := h₂
  refine wpAny_mono (hi A s₂ R ((C.keep k₁).keep k₂)) (fun vi s₃ h₃ => ?_) fun _ _ e => e
  obtain ⟨k₃, r₃⟩ := h₃
  obtain ⟨t₁, rfl⟩ := r₁.isInt
  obtain ⟨t₃, rfl⟩ := r₃.isInt
  have S₃ := ((S.keep k₁).keep k₂).keep k₃
  obtain ⟨hXa, hBa, vs, k, ea, ra⟩ := S₃.muts (lstH a, ps) (List.mem_append_right _ (.head _))
  refine set_lst (i := j) ea (by rw [ra.length]; exact hj) (by rw [ra.length]; exact hsz) fun h' k' e1 e2 => ?_
  have mono : ∀ b o, ¬ X b → s₃.heap.get? b = some o → h'.get? b = some o ∧ ¬ X b := fun b o nb e => ⟨(e2 b fun q => nb (q ▸ hXa)).trans e, nb⟩
  exact h _ (S₃.mut (H := lstH a) (fun b o nb e => (e2 b nb).trans e) ⟨_, k', e1, (ra.mono mono).set j (.int y t₁)⟩)

theorem lines_body (G : Glb h₀ mg mb) (N : Nms mg) (a : Addr) (vs : List Int) (hlen : vs.length ≤ 8) (hvs : ∀ x ∈ vs, 1 ≤ x ∧ x ≤ 4) :
    Body prog w h₀ 21 "_law_lines" (fnA 20) (fnB 20) (fnS 20) a [("values", .pv (.lst (iPV vs)))] (.lst (iPV (linesF vs))) := by
  intro A s₀ L code X B hB s₁ R S
  conv in execs (fnB 20) _ => arg 1; whnf
  with_reducible refine' St_new4 S ?x1 fun as l X₁ B₁ hB₁ s₂ sub₁ E₁ hBl hl S₂ => ?_
  case x1 => walk_at "st"
  with_reducible refine' St_new S₂ R ?e2 ?x2 ?sz2 fun gr s₃ nXg E₂ S₃ => ?_
  case e2 => walk_at "exl"
  case x2 => walk_at "st"
  case sz2 => decide
  have E12 := E₁.trans E₂
  have fx := E₂.fix l _ hBl hl
  have nXg0 : ¬ X gr := fun q => nXg (sub₁ gr q)
  with_reducible refine' St_for (G := List (List Int) × List Int) (fun i g => g = (vs.take i).foldl linesStep ([[], [], [], []], []) ∧ i ≤ vs.length ∧ RowsOk g.1 i ∧ g.2.length = i) (fun g => [("grown", .raw (.ref gr)), ("lines", .raw (.ref l))]) (fun g => (lstH gr, iPV g.2) :: rowsL as g.1) (lstH gr :: [lstH (as 0), lstH (as 1), lstH (as 2), lstH (as 3)]) ([[], [], [], []], []) S₃ R ?it3 ?x3 ?g3 ?l3 ?p3 (fun _ => rfl) ?turn ?done
  case it3 => walk_at "it"
  case x3 => walk_at "st"
  case g3 => exact Sub.go (by walk_at "sub")
  case l3 => rfl
  case p3 => exact ⟨rfl, Nat.zero_le _, ⟨rfl, by simp⟩, rfl⟩
  case done =>
    intro g s' hP S'
    obtain ⟨hg, -, -, -⟩ := hP
    rw [iPV_length, List.take_length] at hg
    refine' St_retOwn (a := gr) (ps := iPV (linesF vs)) (X₀ := X) S' R ?lk ?mm ?sx ?na ?rr (by decide +kernel)
    case lk => walk_at "lk"
    case mm =>
      rw [hg]
      exact .head _
    case sx => exact fun b q => E12.sub b q
    case na => exact nXg0
    case rr => exact fun s' S' r => S'.retE E12 r
  case turn =>
    intro i g q X' B' hB' s' E₃ hP hq S'
    obtain ⟨hg, hi, ok, hgl⟩ := hP
    obtain ⟨x, hx, rfl⟩ := iPV_at hq
    have hi8 : i < vs.length := by have := iPV_at_lt hq; omega
    have hx14 : 1 ≤ x ∧ x ≤ 4 := hvs x (List.mem_of_getElem? hx)
    obtain ⟨hBl3, hl3⟩ := E₃.fix l _ fx.1 fx.2
    with_reducible refine' St_assign (p := .int 0) S' R ?e4 ?x4 fun s₄ S₄ => ?_
    case e4 => walk_at "ex"
    case x4 => walk_at "st"
    with_reducible refine' St_while (G := List (List Int) × Int × Nat) (fun m t => insGo 4 g.1 x 0 = insGo (4 - t.2.2) t.1 t.2.1 t.2.2 ∧ t.2.2 ≤ 3 ∧ (t.2.2 : Int) + 1 ≤ t.2.1 ∧ t.2.1 ≤ 4 ∧ RowsOk t.1 i ∧ m = 4 - t.2.2) (fun t => [("x", .pv (.int t.2.1)), ("r", .pv (.int (t.2.2 : Int))), ("grown", .raw (.ref gr)), ("lines", .raw (.ref l))]) (fun t => (lstH gr, iPV g.2) :: rowsL as t.1) 4 (g.1, x, 0) S₄ ?g5 rfl ?p5 ?turn5
    case g5 =>
      dsimp only
      exact Sub.go (by walk_at "subq")
    case p5 =>
      dsimp only
      exact ⟨rfl, by omega, by omega, hx14.2, ok, rfl⟩
    case turn5 =>
      intro m t s₅ hP S₅
      obtain ⟨rows, y, r⟩ := t
      obtain ⟨hins, hr3, hry, hy4, ok5, rfl⟩ := hP
      dsimp only at hins hr3 hry hy4 ok5 S₅ ⊢
      have hr4 : r < 4 := by omega
      obtain ⟨Λ₁, Λ₂, hsp, hset⟩ := rows_split as ok5.four hr4
      have okr := ok5.at hr4
      have hins2 : insGo (4 - r) rows y r = if bigs (rows.getD r []) y = [] then (rows.set r (rows.getD r [] ++ [y]), r) else insGo (4 - (r + 1)) (rows.set r ((rows.getD r []).set ((rows.getD r []).idxOf (minL (bigs (rows.getD r []) y))) y)) (minL (bigs (rows.getD r []) y)) (r + 1) := by
        rw [show 4 - r = (4 - (r + 1)) + 1 by omega]; rfl
      generalize hrow : rows.getD r [] = row at *
      have facts : ∀ (Γ' : List (Str × VK)) (s₆ : Shared), Sta h₀ s₀ (callEnvC (docDef "_law_lines" (fnA 20) (fnB 20) (fnS 20) .none code .none) L a) X' B' hB' Γ' ((lstH gr, iPV g.2) :: rowsL as rows) s₆ →
          s₆.heap.get? l = some (outer as) ∧ Glb s₆.heap mg mb ∧ ∃ rvs rk, s₆.heap.get? (as r) = some (lstObj rvs rk) ∧ RdL s₆.heap (fun _ => False) rvs (iPV row) := by
        intro Γ' s₆ S₆
        obtain ⟨hXa, hBa, rvs, rk, era, rda⟩ := S₆.muts (lstH (as r), iPV row) (by rw [hsp]; exact .tail _ (List.mem_append_right _ (.head _)))
        exact ⟨S₆.fixd l _ hBl3 hl3, G.keep S₆.cok.gd, rvs, rk, era, rda.narrow fun _ q => q.elim⟩
      obtain ⟨hus, G5, rvs, rk, era, rda0⟩ := facts _ _ S₅
      have hbl : (bigs row y).length ≤ 8 := by
        unfold bigs
        have := List.length_filter_le (fun z => decide (y < z)) row
        omega
      refine ⟨!decide (bigs row y = []), ?_, ?_, ?_⟩
      · refine (show Ts prog w s₅.heap 21 _ (fun _ => False) _ _ _ from ?_) A s₅ R S₅.cok.here
        with_reducible refine' Ts_eq (q := !decide (bigs row y = [])) (Ts_cmp (p := .lst (iPV (bigs row y))) (q := .lst (iPV [])) ?a6 ?b6 Cm_neLI ?m6 ?n6) ?q6
        case m6 => kernel_rfl!
        case n6 => decide
        case q6 => rfl
        case b6 =>
          refine' Ex_eq (p := .lst []) (q := .lst (iPV [])) ?e7 rfl
          walk_at "ex"
        case a6 =>
          with_reducible refine' Ex_compq [("x", _)] (fun q => decide (y < q.toI)) (fun q => q) (It_list (Ex_rowH hus ?lk8 ?d8 ?r8 ?z8 (outer_at as hr4) era rda0 ?ns8)) ?n9 ?s9 ?q9 ?t9 ?f9
          case lk8 => walk_at "lk"
          case d8 => decide +kernel
          case r8 => walk_at "ex"
          case z8 => omega
          case ns8 => kernel_rfl!
          case n9 => rw [iPV_length]; omega
          case s9 => walk_at "sees"
          case q9 =>
            rw [filter_iPV, List.map_id']
            rfl
          case t9 =>
            intro q hq D X2
            obtain ⟨z, hz, rfl⟩ := List.mem_map.mp hq
            refine Tss_one ?_
            walk_at "tsq"
            rfl
          case f9 =>
            intro q hq _ D X2
            walk_at "ex"
      · intro hb s₆ S₆
        have hne : bigs row y ≠ [] := by simpa using hb
        rw [if_neg hne] at hins2
        obtain ⟨hmin1, hmin2⟩ := minL_spec hne
        generalize hm : minL (bigs row y) = mn at *
        have hmr : mn ∈ row := (List.mem_filter.mp hmin1).1
        have hmy : y < mn := by have := (List.mem_filter.mp hmin1).2; simpa using this
        have hmn := okr.2 mn hmr
        have hj : row.idxOf mn < row.length := List.idxOf_lt_length_of_mem hmr
        obtain ⟨hus6, G6, rvs6, rk6, era6, rda6⟩ := facts _ _ S₆
        with_reducible refine' St_assignH (i := mn) S₆ R (Ex_eq (Ex_minL (l := bigs row y) G6 N ?f10 ?as10 hne ?st10 ?pl10 ?he10) (by rw [hm])) ?x10 (fun s₇ S₇ => ?_) ?sw10
        case f10 => kernel_rfl!
        case st10 => kernel_rfl!
        case pl10 => kernel_rfl!
        case he10 => kernel_rfl!
        case x10 => walk_at "st"
        case sw10 => kernel_rfl!
        case as10 =>
          with_reducible refine' ExL_cons ?a11 ExL_nil ?c11
          case c11 => kernel_rfl!
          case a11 =>
            with_reducible refine' Ex_compq [("x", _)] (fun q => decide (y < q.toI)) (fun q => q) (It_list (Ex_rowH hus6 ?lk12 ?d12 ?r12 ?z12 (outer_at as hr4) era6 rda6 ?ns12)) ?n13 ?s13 ?q13 ?t13 ?f13
            case lk12 => walk_at "lk"
            case d12 => decide +kernel
            case r12 => walk_at "ex"
            case z12 => omega
            case ns12 => kernel_rfl!
            case n13 => rw [iPV_length]; omega
            case s13 => walk_at "sees"
            case q13 =>
              rw [filter_iPV, List.map_id']
              rfl
            case t13 =>
              intro q hq D X2
              obtain ⟨z, hz, rfl⟩ := List.mem_map.mp hq
              refine Tss_one ?_
              walk_at "tsq"
              rfl
            case f13 =>
              intro q hq _ D X2
              walk_at "ex"
        obtain ⟨hus7, G7, rvs7, rk7, era7, rda7⟩ := facts _ _ S₇
        rw [hsp] at S₇
        with_reducible refine' St_setRow (Λ₁ := (lstH gr, iPV g.2) :: Λ₁) (a := as r) (ps := iPV row) (j := row.idxOf mn) (y := y) S₇ R (Rw_rowH hus7 ?lk14 ?d14 ?r14 ?z14 (outer_at as hr4) ?ns14) (Ex_indexH (Rw_rowH hus7 ?lk15 ?d15 ?r15 ?z15 (outer_at as hr4) ?ns15) era7 rda7 hmr ?z16 ?e16 ?b16 ?w16 ?l16 ?s16) ?e17 ?j17 ?z17 (fun s₈ S₈ => ?_) ?s17
        case lk14 => walk_at "lk"
        case d14 => decide +kernel
        case r14 => walk_at "ex"
        case z14 => omega
        case ns14 => kernel_rfl!
        case lk15 => walk_at "lk"
        case d15 => decide +kernel
        case r15 => walk_at "ex"
        case z15 => omega
        case ns15 => kernel_rfl!
        case z16 => omega
        case e16 => walk_at "ex"
        case b16 => kernel_rfl!
        case w16 => kernel_rfl!
        case l16 => kernel_rfl!
        case s16 => kernel_rfl!
        case e17 => walk_at "ex"
        case j17 => rw [iPV_length]; exact hj
        case z17 => rw [iPV_length]; omega
        case s17 => kernel_rfl!
        have e8 : (iPV row).set (row.idxOf mn) (.int y) = iPV (row.set (row.idxOf mn) y) := by unfold iPV; rw [List.map_set]
        rw [e8] at S₈
        have e9 : ((lstH gr, iPV g.2) :: Λ₁) ++ (lstH (as r), iPV (row.set (row.idxOf mn) y)) :: Λ₂ = (lstH gr, iPV g.2) :: rowsL as (rows.set r (row.set (row.idxOf mn) y)) := by rw [hset]; rfl
        rw [e9] at S₈
        with_reducible refine' St_assign S₈ R ?e18 ?x18 fun s₉ S₉ => ?_
        case e18 => walk_at "ex"
        case x18 => walk_at "st"
        with_reducible refine' St_aug S₉ R ?x19 ?l19 ?e19 Ip_addI fun s₁₀ S₁₀ => ?_
        case x19 => walk_at "st"
        case l19 => walk_at "lk"
        case e19 => walk_at "ex"
        refine St_nil ⟨.inl rfl, 4 - (r + 1), (rows.set r (row.set (row.idxOf mn) y), mn, r + 1), by omega, ⟨?_, ?_, ?_, hmn.2, ?_, rfl⟩, ?_⟩
        · rw [hins, hins2]
        · dsimp only; omega
        · dsimp only; omega
        · exact ok5.set r (by rw [List.length_set]; exact okr.1) fun z hz => (mem_set_int hz).elim (okr.2 z) fun e => e ▸ ⟨by omega, hy4⟩
        · dsimp only
          exact S₁₀.weakS (by walk_at "subq")
      · intro hb s₆ S₆
        have hne : bigs row y = [] := by simpa using hb
        rw [if_pos hne] at hins2
        obtain ⟨hus6, G6, rvs6, rk6, era6, rda6⟩ := facts _ _ S₆
        rw [hsp] at S₆
        have C6 := S₆.cok.here
        with_reducible refine' St_append (a := as r) (ps := iPV row) (p := .int y) ((lstH gr, iPV g.2) :: Λ₁) Λ₂ S₆ R ?o20 ?e21 ?z21 (fun s₇ S₇ => ?_) ?b21 ?w21 ?l21 ?t21 ?i21 ?s21
        case o20 =>
          refine (Rw_rowH hus6 ?lk20 ?d20 ?r20 ?z20 (outer_at as hr4) ?ns20) A s₆ R C6
          case lk20 => walk_at "lk"
          case d20 => decide +kernel
          case r20 => walk_at "ex"
          case z20 => omega
          case ns20 => kernel_rfl!
        case e21 => walk_at "ex"
        case z21 => rw [iPV_length]; omega
        case b21 => kernel_rfl!
        case w21 => kernel_rfl!
        case l21 => kernel_rfl!
        case t21 => kernel_rfl!
        case i21 => kernel_rfl!
        case s21 => kernel_rfl!
        have e8 : iPV row ++ [.int y] = iPV (row ++ [y]) := by simp [iPV]
        rw [e8] at S₇
        have e9 : ((lstH gr, iPV g.2) :: Λ₁) ++ (lstH (as r), iPV (row ++ [y])) :: Λ₂ = (lstH gr, iPV g.2) :: rowsL as (rows.set r (row ++ [y])) := by rw [hset]; rfl
        rw [e9] at S₇
        with_reducible refine' St_app0 S₇ R ?o22 ?e22 ?z22 fun s₈ S₈ => ?_
        case o22 => walk_at "rw"
        case e22 => walk_at "ex"
        case z22 => rw [iPV_length]; omega
        have hst : linesStep g x = (rows.set r (row ++ [y]), g.2 ++ [(r : Int)]) := by
          unfold linesStep
          rw [hins, hins2]
        refine St_nil ⟨linesStep g x, ⟨?_, by omega, ?_, ?_⟩, ?_⟩
        · rw [List.take_add_one, hx, List.foldl_append, ← hg]; rfl
        · rw [hst]
          exact (ok5.mono (Nat.le_succ i)).set r (by rw [List.length_append, List.length_singleton]; omega) fun z hz => (List.mem_append.mp hz).elim (okr.2 z) fun e => by rw [List.mem_singleton.mp e]; omega
        · rw [hst, List.length_append, hgl]; rfl
        · rw [hst]
          have e10 : iPV (g.2 ++ [(r : Int)]) = iPV g.2 ++ [.int (r : Int)] := by simp [iPV]
          show Sta _ _ _ _ _ _ _ ((lstH gr, iPV (g.2 ++ [(r : Int)])) :: rowsL as (rows.set r (row ++ [y]))) _
          rw [e10]
          exact S₈.weakS (by walk_at "sub")
end
end
section

noncomputable def rng (n k : Nat) : List Nat := (List.range n).reverse.take k
theorem rng_succ {n k : Nat} (h : k < n) : rng n (k + 1) = rng n k ++ [n - 1 - k] := by
  unfold rng
  have : (List.range n).reverse[k]? = some (n - 1 - k) := by
    rw [List.getElem?_reverse (by simpa using h)]
    simp only [List.length_range]
    rw [List.getElem?_range (by omega)]
  rw [List.take_add_one, this]; rfl
theorem nats_getD (vs : List Nat) (p : Nat) : (nats vs).getD p 0 = (vs.getD p 0 : Int) := by
  unfold nats
  rw [List.getD_eq_getElem?_getD, List.getD_eq_getElem?_getD, List.getElem?_map]
  cases vs[p]? <;> rfl
theorem mateGo_cons (low : Int) (x : Int) (xs : List Int) (q : Nat) (o : Int) : mateGo low (x :: xs) q o = if o + ((x == low + 1).toInt - (x == low).toInt) = 0 then some q else mateGo low xs (q + 1) (o + ((x == low + 1).toInt - (x == low).toInt)) := rfl
theorem drop_nats {vs : List Nat} {i : Nat} (h : i < vs.length) : (nats vs).drop i = (vs.getD i 0 : Int) :: (nats vs).drop (i + 1) := by
  have h' : i < (nats vs).length := by rw [nats_length]; exact h
  rw [List.drop_eq_getElem_cons h', ← nats_getD, List.getD_eq_getElem?_getD, List.getElem?_eq_getElem h']; rfl

structure MInv (vs : List Nat) (low k : Nat) (st : List (Nat × Nat) × List (Nat × Nat)) : Prop where
  snd : ∀ q ∈ st.1, q.2 = low ∧ vs.length - k ≤ q.1 ∧ q.1 < vs.length ∧ vs.getD q.1 0 = low
  mate : ∀ j : Nat, mateGo (low : Int) ((nats vs).drop (vs.length - k)) (vs.length - k) ((j + 1 : Nat) : Int) = (st.1.reverse[j]?).map (·.1)
  off : st.2 = ((rng vs.length k).filter fun p => (nats vs).getD p 0 == (low : Int) + 1).map fun p => mateF (nats vs) low p
  offp : ∀ q ∈ st.2, q = (0, 0) ∨ vs.length - k ≤ q.1
  left : st.1 = (((rng vs.length k).filter fun p => (nats vs).getD p 0 == (low : Int)).map fun p => (p, low)).filter fun q => !decide (q ∈ st.2)
  nd : (st.1.map (·.1)).Nodup

theorem filt_no {α : Type} {f : α → Bool} {x : α} (h : f x = false) : List.filter f [x] = [] := by simp [h]
theorem filt_yes {α : Type} {f : α → Bool} {x : α} (h : f x = true) : List.filter f [x] = [x] := by simp [h]
theorem b2i (b : Bool) : b.toInt = if b then 1 else 0 := by cases b <;> rfl
theorem getLastD_rev {l : List (Nat × Nat)} (d : Nat × Nat) : l.getLastD d = (l.reverse[0]?).getD d := by
  rw [List.getLastD_eq_getLast?]
  congr 1
  rw [← List.head?_reverse]
  cases l.reverse <;> rfl
theorem minv_step (vs : List Nat) (low k : Nat) (hlow : 1 ≤ low) (hk : k < vs.length) (st : List (Nat × Nat) × List (Nat × Nat)) (I : MInv vs low k st) : MInv vs low (k + 1) (leftStep low st (vs.length - 1 - k) (vs.getD (vs.length - 1 - k) 0)) := by
  have hi : vs.length - (k + 1) = vs.length - 1 - k := by omega
  have hi2 : vs.length - 1 - k + 1 = vs.length - k := by omega
  generalize hp : vs.length - 1 - k = p at *
  have hpl : p < vs.length := by omega
  have hd := drop_nats hpl
  rw [hi2] at hd
  have hrng : rng vs.length (k + 1) = rng vs.length k ++ [p] := by rw [rng_succ hk, hp]
  have hg := nats_getD vs p
  unfold leftStep
  by_cases h1 : vs.getD p 0 = low
  · rw [if_pos h1]
    have pno : (p, low) ∉ st.2 := fun q => by
      rcases I.offp _ q with e | e
      · have := congrArg Prod.snd e; simp at this; omega
      · simp at e; omega
    refine ⟨fun q hq => ?_, fun j => ?_, ?_, fun q hq => ?_, ?_, ?_⟩
    · rcases List.mem_append.mp hq with hq | hq
      · obtain ⟨a, b, c, d⟩ := I.snd q hq
        exact ⟨a, by omega, c, d⟩
      · rw [List.mem_singleton.mp hq]
        exact ⟨h1, by simp; omega, hpl, h1⟩
    · rw [hi, hd, mateGo_cons, h1, hi2]
      have e : ((j + 1 : Nat) : Int) + (((low : Int) == (low : Int) + 1).toInt - ((low : Int) == (low : Int)).toInt) = (j : Int) := by
        rw [b2i, b2i, if_neg (by simp; omega), if_pos (by simp)]; omega
      rw [e, List.reverse_append]
      show _ = Option.map _ ((p, low) :: st.1.reverse)[j]?
      cases j with
      | zero => rw [if_pos (by rfl)]; rfl
      | succ j =>
        rw [if_neg (by omega), I.mate j]
        rfl
    · show st.2 = _
      rw [hrng, List.filter_append, List.map_append, ← I.off]
      have : ((nats vs).getD p 0 == (low : Int) + 1) = false := by rw [hg, h1, beq_eq_false_iff_ne]; omega
      rw [filt_no (f := fun p => (nats vs).getD p 0 == (low : Int) + 1) this]; simp
    · rcases I.offp q hq with e | e
      · exact .inl e
      · exact .inr (by omega)
    · show st.1 ++ [(p, vs.getD p 0)] = _
      rw [hrng, List.filter_append, List.map_append, List.filter_append, ← I.left]
      have : ((nats vs).getD p 0 == (low : Int)) = true := by rw [hg, h1]; simp
      rw [filt_yes (f := fun p => (nats vs).getD p 0 == (low : Int)) this, List.map_cons, List.map_nil, filt_yes (f := fun q => !decide (q ∈ st.2)) (by simpa using pno), h1]
    · rw [List.map_append, List.nodup_append]
      refine ⟨I.nd, by simp, fun a ha b hb => ?_⟩
      obtain ⟨q, hq, rfl⟩ := List.mem_map.mp ha
      have := (I.snd q hq).2.1
      simp at hb
      omega
  · rw [if_neg h1]
    by_cases h2 : vs.getD p 0 = low + 1
    · rw [if_pos h2]
      have hpop : mateF (nats vs) low p = st.1.getLastD (0, 0) := by
        unfold mateF
        rw [drop_nats hpl, hi2, mateGo_cons, h2]
        have e : (0 : Int) + ((((low + 1 : Nat) : Int) == (low : Int) + 1).toInt - (((low + 1 : Nat) : Int) == (low : Int)).toInt) = ((0 + 1 : Nat) : Int) := by
          rw [b2i, b2i, if_pos (by simp), if_neg (by simp; omega)]; omega
        rw [e, if_neg (by omega), hi2, I.mate 0, getLastD_rev]
        cases hr : st.1.reverse[0]? with
        | none => rfl
        | some q =>
          have hq : q ∈ st.1 := List.mem_reverse.mp (List.mem_of_getElem? hr)
          show (q.1, (low : Int).toNat) = q
          have := (I.snd q hq).1
          rw [Int.toNat_natCast, ← this]
      refine ⟨fun q hq => ?_, fun j => ?_, ?_, fun q hq => ?_, ?_, ?_⟩
      · obtain ⟨a, b, c, d⟩ := I.snd q (List.dropLast_subset _ hq)
        exact ⟨a, by omega, c, d⟩
      · rw [hi, hd, mateGo_cons, h2, hi2]
        have e : ((j + 1 : Nat) : Int) + ((((low + 1 : Nat) : Int) == (low : Int) + 1).toInt - (((low + 1 : Nat) : Int) == (low : Int)).toInt) = ((j + 1 + 1 : Nat) : Int) := by
          rw [b2i, b2i, if_pos (by simp), if_neg (by simp; omega)]; omega
        rw [e, if_neg (by omega), I.mate (j + 1), ← List.tail_reverse, List.getElem?_tail]
      · show st.2 ++ [st.1.getLastD (0, 0)] = _
        rw [hrng, List.filter_append, List.map_append, ← I.off, ← hpop]
        have : ((nats vs).getD p 0 == (low : Int) + 1) = true := by rw [hg, h2]; simp
        rw [filt_yes (f := fun p => (nats vs).getD p 0 == (low : Int) + 1) this]; rfl
      · rcases List.mem_append.mp hq with hq | hq
        · rcases I.offp q hq with e | e
          · exact .inl e
          · exact .inr (by omega)
        · rw [List.mem_singleton.mp hq, getLastD_rev]
          cases hr : st.1.reverse[0]? with
          | none => exact .inl rfl
          | some q' =>
            have hq' : q' ∈ st.1 := List.mem_reverse.mp (List.mem_of_getElem? hr)
            have := (I.snd q' hq').2.1
            exact .inr (by show _ ≤ q'.1; omega)
      · show st.1.dropLast = _
        rw [hrng, List.filter_append, List.map_append]
        have : ((nats vs).getD p 0 == (low : Int)) = false := by rw [hg, h2, beq_eq_false_iff_ne]; omega
        have e0 : List.filter (fun p => (nats vs).getD p 0 == (low : Int)) [p] = [] := filt_no this
        rw [e0, List.map_nil, List.append_nil]
        generalize hL : (((rng vs.length k).filter fun p => (nats vs).getD p 0 == (low : Int)).map fun p => (p, low)) = L
        have hleft := I.left
        rw [hL] at hleft
        have : L.filter (fun q => !decide (q ∈ st.2 ++ [st.1.getLastD (0, 0)])) = (L.filter fun q => !decide (q ∈ st.2)).filter fun q => !decide (q = st.1.getLastD (0, 0)) := by
          rw [List.filter_filter]
          apply List.filter_congr
          intro q _
          rw [Bool.eq_iff_iff]
          simp only [Bool.not_eq_true', decide_eq_false_iff_not, List.mem_append, List.mem_singleton, not_or, Bool.and_eq_true]
          exact And.comm
        rw [this, ← hleft]
        have hnd := I.nd
        clear hleft this e0
        cases hs : st.1.reverse with
        | nil =>
          have : st.1 = [] := by simpa using hs
          rw [this]; rfl
        | cons t r =>
          have e1 : st.1 = r.reverse ++ [t] := by
            have := congrArg List.reverse hs
            rwa [List.reverse_reverse, List.reverse_cons] at this
          rw [e1] at hnd ⊢
          rw [List.map_append, List.nodup_append] at hnd
          rw [List.dropLast_concat, List.getLastD_concat, List.filter_append]
          have e2 : List.filter (fun q => !decide (q = t)) [t] = [] := by simp
          rw [e2, List.append_nil]
          symm
          rw [List.filter_eq_self]
          intro q hq
          have := hnd.2.2 q.1 (List.mem_map_of_mem hq) t.1 (by simp)
          simp only [Bool.not_eq_true', decide_eq_false_iff_not]
          intro e
          exact this (congrArg Prod.fst e)
      · exact I.nd.sublist ((List.dropLast_sublist _).map _)
    · rw [if_neg h2]
      refine ⟨fun q hq => ?_, fun j => ?_, ?_, fun q hq => ?_, ?_, I.nd⟩
      · obtain ⟨a, b, c, d⟩ := I.snd q hq
        exact ⟨a, by omega, c, d⟩
      · rw [hi, hd, mateGo_cons, hi2]
        have e : ((j + 1 : Nat) : Int) + (((vs.getD p 0 : Int) == (low : Int) + 1).toInt - ((vs.getD p 0 : Int) == (low : Int)).toInt) = ((j + 1 : Nat) : Int) := by
          rw [b2i, b2i, if_neg (by simp only [beq_iff_eq]; omega), if_neg (by simp only [beq_iff_eq]; omega)]; omega
        rw [e, if_neg (by omega), I.mate j]
      · rw [hrng, List.filter_append, List.map_append, ← I.off]
        have : ((nats vs).getD p 0 == (low : Int) + 1) = false := by rw [hg, beq_eq_false_iff_ne]; omega
        rw [filt_no (f := fun p => (nats vs).getD p 0 == (low : Int) + 1) this]; simp
      · rcases I.offp q hq with e | e
        · exact .inl e
        · exact .inr (by omega)
      · rw [hrng, List.filter_append, List.map_append, List.filter_append, ← I.left]
        have : ((nats vs).getD p 0 == (low : Int)) = false := by rw [hg, beq_eq_false_iff_ne]; omega
        rw [filt_no (f := fun p => (nats vs).getD p 0 == (low : Int)) this]; simp
theorem minv_run (vs : List Nat) (low : Nat) (hlow : 1 ≤ low) : ∀ k, k ≤ vs.length → MInv vs low k (leftRun vs low (rng vs.length k) ([], []))
  | 0, _ => by
    refine ⟨fun q hq => (nomatch hq), fun j => ?_, rfl, fun q hq => (nomatch hq), rfl, List.nodup_nil⟩
    rw [List.drop_of_length_le (by rw [nats_length]; omega)]; rfl
  | k + 1, hk => by
    rw [rng_succ (by omega), leftRun_snoc]
    exact minv_step vs low k hlow (by omega) _ (minv_run vs low hlow k (by omega))
theorem left_end (vs : List Nat) (low : Nat) (hlow : 1 ≤ low) : MInv vs low vs.length (leftEnd vs low) := by
  have := minv_run vs low hlow vs.length (Nat.le_refl _)
  unfold leftEnd
  unfold rng at this
  rwa [List.take_of_length_le (by simp)] at this
theorem mates_eq (vs : List Nat) (low : Nat) (hlow : 1 ≤ low) : matesF (nats vs) low = (leftEnd vs low).2 := by
  have := (left_end vs low hlow).off
  unfold rng at this
  rw [List.take_of_length_le (by simp)] at this
  rw [this]
  unfold matesF
  rw [nats_length]
theorem left_eq (vs : List Nat) (low : Nat) (hlow : 1 ≤ low) : leftF (nats vs) low = (leftEnd vs low).1 := by
  have := (left_end vs low hlow).left
  unfold rng at this
  rw [List.take_of_length_le (by simp)] at this
  rw [this, ← mates_eq vs low hlow]
  unfold leftF lowsF
  rw [nats_length, Int.toNat_natCast]
end
section
section
variable {prog : Program} {w : World} {h₀ : Heap} {mg mb : Str → Option Value} {s₀ : Shared} {n : Nat} {env : Env} {X B : Addr → Prop} {hB : Heap} {Γ : List (Str × VK)} {Λ Λ₁ Λ₂ : List (MutH × List PV)} {A : Around} {s : Shared} {Q : Flow → Shared → Prop}

theorem iadd_own {a b : Addr} {vs us : List Value} {k j : Nat} {Q : Value → Shared → Prop} {E : Value → Shared → Prop} (ea : s.heap.get? a = some (lstObj vs k)) (eb : s.heap.get? b = some (lstObj us j)) (h1 : vs.length ≤ 1000) (h2 : us.length ≤ 1000)
    (hq : ∀ h' k', (∀ c, c ≠ a → h'.get? c = s.heap.get? c) → h'.get? a = some (lstObj (vs ++ us) k') → Q (.ref a) { s with heap := h' }) : wpAny (model prog w) A (inplaceOp .Add (.ref a) (.ref b)) Q E s := by
  have ha := (lst_isList ea).typeIs
  have hb := (lst_isList eb).typeIs
  unfold inplaceOp
  refine wpAny_holding ?_
  have hfi : fillsInplaceSlot (.type "list") "add" (Operator.Add == .Add) = pure false := by
    unfold fillsInplaceSlot
    show (typeLookup (.type "list") (dunderI "add") >>= fun fi => pure (fi.isSome && !isSeqSlot fi)) = pure false
    rw [PySem.F.slot_list_iadd.lookup]
    show (pure ((some (Value.builtin "list.__iadd__")).isSome && !isSeqSlot (some (.builtin "list.__iadd__"))) : Sem Bool) = pure false
    rw [show isSeqSlot (some (.builtin "list.__iadd__")) = true by decide +kernel]; rfl
  have hsi : seqSlot? (.type "list") (dunderI "add") = pure (some (.builtin "list.__iadd__")) := by
    unfold seqSlot?
    rw [PySem.F.slot_list_iadd.lookup]
    have hb : isSeqSlot (some (.builtin "list.__iadd__")) = true := by decide +kernel
    simp only [pure_bind, hb, Bool.not_true, Bool.false_eq_true, if_false]
  refine wpAny_bind (wpAny_typeOf ha (wpAny_bind (wpAny_of_eq hfi ?_)))
  show wpAny _ A (if false = true then _ else _) Q E s
  rw [if_neg Bool.false_ne_true]
  refine wpAny_bind (wpAny_binaryOp1_none (nm := "add") ha hb noFill_list_add ?_)
  show wpAny _ A (seqSlot? (.type "list") (dunderI "add") >>= _) _ _ _
  refine wpAny_bind (wpAny_of_eq hsi ?_)
  refine wpAny_bind (wpAny_rule ?_)
  refine call_meets PySem.F.slot_list_iadd ha PySem.F.entry_list_iadd (PySem.F.args_list_iadd_2 _ _) (AutoSeq1.list___iadd___list_list_0 a vs.toArray k b us.toArray j ?_ ?_ ?_) ⟨ea, eb, ?_⟩
  · simp [Builtin.List.listTooLong, sizeLine_eq]; intros; omega
  · simp [sizeLine_eq]; omega
  · simp [sizeLine_eq]; omega
  · refine hq _ (if (vs.toArray ++ us.toArray).size == vs.toArray.size then k else k + 1) (fun c hc => Heap.get?_update_ne _ _ _ _ hc) ?_
    rw [Heap.get?_update_self _ ea rfl]
    simp only [Obj.mapSeq, List.append_toArray]

theorem St_augL {x : Str} {px pos : Pos} {e : Expr} {rest : List Stmt} {a : Addr} {ps qs : List PV} (S : Sta h₀ s₀ env X B hB Γ (Λ₁ ++ (lstH a, ps) :: Λ₂) s) (R : Room A n) (hx : Γ.lookup x = some (.raw (.ref a))) (hst : CanStore env x) (he : Ex prog w h₀ n env X Γ e (.lst qs)) (h1 : ps.length ≤ 1000) (h2 : qs.length ≤ 1000)
    (h : ∀ s', Sta h₀ s₀ env X B hB ((x, .raw (.ref a)) :: Γ) (Λ₁ ++ (lstH a, ps ++ qs) :: Λ₂) s' → wpAny (model prog w) A (execs rest env) Q NoE s') :
    wpAny (model prog w) A (execs (.AugAssign (.Name x px) .Add e pos :: rest) env) Q NoE s := by
  obtain ⟨v, hv, rv⟩ := S.cok.has x _ hx
  obtain rfl : v = .ref a := rv
  refine wpAny_execs_cons (wpAny_AugAssign_Name (hv.load S.cok.ok (wpAny_mono (he A s R S.cok) (fun u s₁ h₁ => ?_) fun _ _ e => e)))
  have S₁ := S.keep h₁.1
  obtain ⟨hXa, hBa, vs, k, ea, ra⟩ := S₁.muts (lstH a, ps) (List.mem_append_right _ (.head _))
  obtain ⟨b, us, j, rfl, eb, rb⟩ := h₁.2.isList
  refine iadd_own ea eb (by rw [ra.length]; exact h1) (by rw [rb.length]; exact h2) fun h' k' e1 e2 => ?_
  have mono : ∀ c o, ¬ X c → s₁.heap.get? c = some o → h'.get? c = some o ∧ ¬ X c := fun c o nb e => ⟨(e1 c fun q => nb (q ▸ hXa)).trans e, nb⟩
  have S₂ := S₁.mut (H := lstH a) (tk := s₁.toks) (fun b o nb e => (e1 b nb).trans e) ⟨_, k', e2, (ra.mono mono).append (rb.mono mono)⟩
  exact S₂.storeK hst (k := .raw _) rfl fun s' S' => h s' S'

theorem Sta.rebase (S : Sta h₀ s₀ env X B hB Γ Λ s) : Sta h₀ s env X B hB Γ Λ s := ⟨⟨s.heap, s.toks, rfl⟩, fun _ _ _ e => e, S.fixd, S.cok, S.frm, S.ownL, S.ownC, S.muts, S.nodup⟩
theorem Sta.back {Γ' : List (Str × VK)} {Λ' : List (MutH × List PV)} {s' : Shared} (S : Sta h₀ s₀ env X B hB Γ Λ s) (S' : Sta h₀ s env X B hB Γ' Λ' s') : Sta h₀ s₀ env X B hB Γ' Λ' s' := by
  obtain ⟨h1, t1, e1⟩ := S.same
  obtain ⟨h2, t2, e2⟩ := S'.same
  exact ⟨⟨h2, t2, by rw [e2, e1]⟩, fun b o nb e => S'.old b o nb (S.old b o nb e), S'.fixd, S'.cok, S'.frm, S'.ownL, S'.ownC, S'.muts, S'.nodup⟩
theorem assign_pair {x y : Str} {px py tp : Pos} {kt : Nat} {v : Value} {p q : PV} {Q : Unit → Shared → Prop} (S : Sta h₀ s₀ env X B hB Γ Λ s) (hh : A.handled = none) (r : Rd s.heap X v (.tup [p, q])) (hx : CanStore env x) (hy : CanStore env y)
    (h : ∀ s', Sta h₀ s₀ env X B hB ((y, .pv q) :: (x, .pv p) :: Γ) Λ s' → Q () s') : wpAny (model prog w) A (assign (.Tuple [.Name x px, .Name y py] kt tp) env v) Q NoE s := by
  obtain ⟨a, v₁, v₂, m, rfl, ea, nX, r1, r2⟩ := rd_pair r
  refine wpAny_assign_Tuple hh (items := #[v₁, v₂]) ⟨_, ea, rfl, m, rfl⟩ rfl rfl fun ha hea => ?_
  have k : Keeps s { s with heap := ha } := ⟨ha, s.toks, rfl, fun b o e => hea b o (Nat.ne_of_lt (Heap.lt_size e)) e⟩
  have S₁ := S.keep k
  have r1' := r1.keep k
  have r2' := r2.keep k
  refine assignInOrder_cons (assign_Name (S₁.rebase.storeK hx (k := .pv p) r1' fun s₂ S₂ => ?_))
  have r2'' : Rd s₂.heap X v₂ q := r2'.mono fun b o nb e => ⟨S₂.old b o nb e, nb⟩
  refine assignInOrder_cons (assign_Name (S₂.storeK hy (k := .pv q) r2'' fun s' S' => ?_))
  exact assignInOrder_nil (h s' (S₁.back S'))
theorem St_pair {x y : Str} {px py tp pos : Pos} {kt : Nat} {e : Expr} {rest : List Stmt} {p q : PV} (S : Sta h₀ s₀ env X B hB Γ Λ s) (R : Room A n) (he : Ex prog w h₀ n env X Γ e (.tup [p, q])) (hx : CanStore env x) (hy : CanStore env y)
    (h : ∀ s', Sta h₀ s₀ env X B hB ((y, .pv q) :: (x, .pv p) :: Γ) Λ s' → wpAny (model prog w) A (execs rest env) Q NoE s')
    (hs : swapsWithSole [.Tuple [.Name x px, .Name y py] kt tp] e pos.line env = pure false := by kernel_rfl!)
    (hw : swappedStores [.Tuple [.Name x px, .Name y py] kt tp] e env = pure none := by kernel_rfl!) :
    wpAny (model prog w) A (execs (.Assign [.Tuple [.Name x px, .Name y py] kt tp] e pos :: rest) env) Q NoE s :=
  wpAny_execs_cons (Assign_Tuple (wpAny_mono (he A s R S.cok) (fun v s₁ h₁ => assign_pair (S.keep h₁.1) R.handled h₁.2 hx hy h) fun _ _ e => e) hs hw)
theorem St_pairM {x y : Str} {px py tp pos : Pos} {kt : Nat} {e : Expr} {rest : List Stmt} {p q : PV} {Λ' : List (MutH × List PV)} (S : Sta h₀ s₀ env X B hB Γ Λ s) (R : Room A n) (he : Em prog w h₀ n s₀ env X B hB Γ Λ e Λ' (.tup [p, q])) (hx : CanStore env x) (hy : CanStore env y)
    (h : ∀ s', Sta h₀ s₀ env X B hB ((y, .pv q) :: (x, .pv p) :: Γ) Λ' s' → wpAny (model prog w) A (execs rest env) Q NoE s')
    (hs : swapsWithSole [.Tuple [.Name x px, .Name y py] kt tp] e pos.line env = pure false := by kernel_rfl!)
    (hw : swappedStores [.Tuple [.Name x px, .Name y py] kt tp] e env = pure none := by kernel_rfl!) :
    wpAny (model prog w) A (execs (.Assign [.Tuple [.Name x px, .Name y py] kt tp] e pos :: rest) env) Q NoE s :=
  wpAny_execs_cons (Assign_Tuple (wpAny_mono (he A s R S) (fun v s₁ h₁ => assign_pair h₁.1 R.handled h₁.2 hx hy h) fun _ _ e => e) hs hw)
theorem Ex_and {e₁ e₂ : Expr} {rest : List Expr} {pos : Pos} {a b : Bool} (h1 : Ex prog w h₀ n env X Γ e₁ (.bool a)) (h2 : a = true → Ex prog w h₀ n env X Γ (.BoolOp .And (e₂ :: rest) pos) (.bool b)) : Ex prog w h₀ n env X Γ (.BoolOp .And (e₁ :: e₂ :: rest) pos) (.bool (a && b)) := by
  intro A s R C
  refine BoolOp_and (wpAny_mono (h1 A s R C) (fun v s₁ h₁ => ?_) fun _ _ e => e)
  obtain ⟨k₁, r₁⟩ := h₁
  obtain rfl := r₁.isBool
  refine wpAny_truthy_bool ?_
  cases a with
  | false => exact ⟨k₁, r₁⟩
  | true => exact wpAny_mono (h2 rfl A s₁ R (C.keep k₁)) (fun v s₂ h₂ => ⟨keeps_trans k₁ h₂.1, h₂.2⟩) fun _ _ e => e
theorem Ex_and1 {e : Expr} {pos : Pos} {p : PV} (h : Ex prog w h₀ n env X Γ e p) : Ex prog w h₀ n env X Γ (.BoolOp .And [e] pos) p := fun A s R C => BoolOp_one (h A s R C)
theorem St_retH {e : Expr} {pos : Pos} {rest : List Stmt} {b : Bool} (S : Sta h₀ s₀ env X B hB Γ Λ s) (R : Room A n) (he : Ex prog w s.heap n env (fun _ => False) Γ e (.bool b))
    (h : ∀ s', Sta h₀ s₀ env X B hB Γ Λ s' → Q (.ret (.bool b)) s') : wpAny (model prog w) A (execs (.Return (some e) pos :: rest) env) Q NoE s := by
  refine wpAny_execs_cons (wpAny_Return_some (wpAny_mono (he A s R S.cok.here) (fun v s₁ h₁ => ?_) fun _ _ e => e))
  obtain ⟨k₁, r₁⟩ := h₁
  obtain rfl := r₁.isBool
  exact h s₁ (S.keep k₁)
theorem Ex_ownH {h : Heap} {x : Str} {px : Pos} {a : Addr} {vs : List Value} {k : Nat} {ps : List PV} (hx : Γ.lookup x = some (.raw (.ref a))) (hd : (x == ("__debug__" : Str)) = false) (ea : h.get? a = some (lstObj vs k)) (rd : RdL h (fun _ => False) vs ps) :
    Ex prog w h n env (fun _ => False) Γ (.Name x px) (.lst ps) := by
  intro A s R C
  refine wpAny_mono (Rw_name hx hd A s R C) (fun v s₁ h₁ => ?_) fun _ _ e => e
  obtain ⟨k₁, rfl⟩ := h₁
  exact ⟨k₁, .lst (keeps_heap k₁ (C.gd _ _ ea)) id (rd.mono fun b o nb e => ⟨keeps_heap k₁ (C.gd _ _ e), nb⟩)⟩
theorem DefAt.keep {h : Heap} {name : Str} {params : Arguments} {body : List Stmt} {scope : Scope} {a : Addr} (D : DefAt h₀ mg name params body scope a) (gd : ∀ b o, h₀.get? b = some o → h.get? b = some o) : DefAt h mg name params body scope a := by
  obtain ⟨hn, o, pm, code, doc, e1, e2, e3⟩ := D
  exact ⟨hn, o, pm, code, doc, gd _ _ e1, e2, e3.keeps gd⟩
end
end
section
set_option maxRecDepth 100000
set_option maxHeartbeats 4000000

noncomputable def bareF (vs : List Nat) (low : Nat) : List Nat := (leftEnd vs low).1.map (·.1)
noncomputable def turnF (vs : List Nat) (low : Nat) : List Nat := bumpF vs (bareF vs low)
theorem bare_ints (vs : List Nat) (low : Nat) : ((leftEnd vs low).1.map fun q => (q.1 : Int)) = nats (bareF vs low) := by simp [bareF, nats]
section
variable {prog : Program} {w : World} {h₀ : Heap} {mg mb : Str → Option Value} {C N cc : Addr} {mN : Str → Option Value}

theorem sent_fn (G : Glb h₀ mg mb) (N : Nms mg) (P : Pats h₀ mg) (a aq ast : Addr) (D : DefAt h₀ mg "_law_sent" (fnA 19) (fnB 19) (fnS 19) a) (Dq : DefAt h₀ mg "quotedata" (fnA 6) (fnB 6) (fnS 6) aq) (Ds : DefAt h₀ mg "_strip_padding" (fnA 12) (fnB 12) (fnS 12) ast)
    (vs bare : List Nat) (rest : List Str) (low : Nat) (hlen : vs.length ≤ 8) (h1 : 1 ≤ vs.length) (hlow : low ≤ 3) (hvs : ∀ x ∈ vs, 1 ≤ x ∧ x < 6) (hr : rest.length ≤ 3) (hrl : ∀ x ∈ rest, x.length ≤ 10 ∧ Clean (tl x)) (hb : bare.length ≤ 100) :
    Fn prog w h₀ 22 (.ref a) [.lst (sPV (dots vs)), .lst (sPV rest), .lst (iPV (nats bare)), .int (low : Int)] (.tup [.lst (sPV (dots (bumpF vs bare))), .lst (sPV (rest.map qS))]) := by
  with_reducible refine' Fn_of ["word", "rest", "bare", "low"] G D ?hz ?hl (sent_body G N P a aq ast Dq Ds vs bare rest low hlen h1 hlow hvs hr hrl hb) ?hb ?hn ?hk ?h1 ?h2 ?h3
  case hz => rfl
  case hl => rfl
  case hn => decide
  case hb =>
    intro pm code doc vs hv
    obtain ⟨x, y, z, u, rfl⟩ := vlen4 hv
    kernel_rfl!
  all_goals kernel_rfl!
theorem lines_fn (G : Glb h₀ mg mb) (N : Nms mg) (a : Addr) (D : DefAt h₀ mg "_law_lines" (fnA 20) (fnB 20) (fnS 20) a) (vs : List Int) (hlen : vs.length ≤ 8) (hvs : ∀ x ∈ vs, 1 ≤ x ∧ x ≤ 4) :
    Fn prog w h₀ 22 (.ref a) [.lst (iPV vs)] (.lst (iPV (linesF vs))) := by
  with_reducible refine' Fn_of ["values"] G D ?hz ?hl (lines_body G N a vs hlen hvs) ?hb ?hn ?hk ?h1 ?h2 ?h3
  case hz => rfl
  case hl => rfl
  case hn => decide
  case hb =>
    intro pm code doc vs hv
    obtain ⟨x, rfl⟩ := vlen1 hv
    kernel_rfl!
  all_goals kernel_rfl!

theorem callWith_defE {A : Around} {s : Shared} {name : Str} {params : Arguments} {body : List Stmt} {scope : Scope} {a : Addr} {env : Env} {pos : Pos} {es : List Expr} {e : Expr} {Q : Value → Shared → Prop} (D : DefAt h₀ mg name params body scope a)
    (h : wpAny (model prog w) A (spliced (backTo pos (starEach (e :: es) env))) (fun vs s₁ => (∀ b o, h₀.get? b = some o → s₁.heap.get? b = some o) ∧ wpAny (model prog w) A (call (.ref a) vs []) Q NoE s₁) NoE s)
    (hst : starEach (e :: es) env = (false, eval e env) :: starEach es env) :
    wpAny (model prog w) A (callWith pos (.ref a) [] (backTo pos (starEach (e :: es) env)) (backToKw pos (keywordEach [] env))) Q NoE s := by
  obtain ⟨hname, o, pm, code, doc, ho, hd', hcd⟩ := D
  exact callWith_def hd' (wpAny_mono h (fun vs s₁ h₁ => ⟨h₁.1 _ _ ho, h₁.2⟩) fun _ _ e => e) hst

theorem Em_sent {s₀ : Shared} {env : Env} {X B : Addr → Prop} {hB : Heap} {Γ : List (Str × VK)} {Λ₁ Λ₂ : List (MutH × List PV)} {p1 p2 p3 p4 p5 p6 p7 p8 p9 pos : Pos} {al as ac aq ast off : Addr} {ops : List PV}
    (G : Glb h₀ mg mb) (N' : Nms mg) (K : AccN prog w h₀ mg C N cc mN) (P : Pats h₀ mg)
    (Dl : DefAt h₀ mg "_law_left" (fnA 18) (fnB 18) (fnS 18) al) (Dc : DefAt h₀ mg "_strcoll" (fnA 11) (fnB 11) (fnS 11) ac)
    (Ds : DefAt h₀ mg "_law_sent" (fnA 19) (fnB 19) (fnS 19) as) (Dq : DefAt h₀ mg "quotedata" (fnA 6) (fnB 6) (fnS 6) aq) (Dp : DefAt h₀ mg "_strip_padding" (fnA 12) (fnB 12) (fnS 12) ast)
    (vs : List Nat) (rest : List Str) (low : Nat) (hlen : vs.length ≤ 8) (h1 : 1 ≤ vs.length) (hlow : low ≤ 3) (hvs : ∀ x ∈ vs, 1 ≤ x ∧ x < 6) (hr : rest.length ≤ 3) (hrl : ∀ x ∈ rest, x.length ≤ 10 ∧ Clean (tl x)) (hops : ops.length ≤ 200)
    (gw : Γ.lookup ("word" : Str) = some (.pv (.lst (sPV (dots vs))))) (gr : Γ.lookup ("rest" : Str) = some (.pv (.lst (sPV rest)))) (gl : Γ.lookup ("low" : Str) = some (.pv (.int (low : Int)))) (go : Γ.lookup ("off" : Str) = some (.raw (.ref off)))
    (k1 : env.kindOf "_law_sent" = some .globalImplicit) (k2 : env.kindOf "_law_left" = some .globalImplicit)
    (e1 : eval (.Call (.Name "_law_sent" p1) [.Name "word" p2, .Name "rest" p3, .Call (.Name "_law_left" p4) [.Name "word" p5, .Name "low" p6, .Name "off" p7] [] p8, .Name "low" p9] [] pos) env = (do callWith pos (← eval (.Name "_law_sent" p1) env) [] (backTo pos (starEach [.Name "word" p2, .Name "rest" p3, .Call (.Name "_law_left" p4) [.Name "word" p5, .Name "low" p6, .Name "off" p7] [] p8, .Name "low" p9] env)) (backToKw pos (keywordEach [] env))) := by kernel_rfl!)
    (e2 : eval (.Call (.Name "_law_left" p4) [.Name "word" p5, .Name "low" p6, .Name "off" p7] [] p8) env = (do callWith p8 (← eval (.Name "_law_left" p4) env) [] (backTo p8 (starEach [.Name "word" p5, .Name "low" p6, .Name "off" p7] env)) (backToKw p8 (keywordEach [] env))) := by kernel_rfl!)
    (st : ∀ (x : Str) (px : Pos) (es : List Expr), starEach (.Name x px :: es) env = (false, eval (.Name x px) env) :: starEach es env := by intro _ _ _; rfl)
    (stc : ∀ (f : Expr) (as : List Expr) (q : Pos) (es : List Expr), starEach (.Call f as [] q :: es) env = (false, eval (.Call f as [] q) env) :: starEach es env := by intro _ _ _ _; rfl) :
    Em prog w h₀ 22 s₀ env X B hB Γ (Λ₁ ++ (lstH off, ops) :: Λ₂) (.Call (.Name "_law_sent" p1) [.Name "word" p2, .Name "rest" p3, .Call (.Name "_law_left" p4) [.Name "word" p5, .Name "low" p6, .Name "off" p7] [] p8, .Name "low" p9] [] pos)
      (Λ₁ ++ (lstH off, ops ++ pcPV (leftEnd vs low).2 ++ pcPV (leftEnd vs low).1) :: Λ₂) (.tup [.lst (sPV (dots (turnF vs low))), .lst (sPV (rest.map qS))]) := by
  intro A s R S
  have Cs := S.cok
  obtain ⟨vw, hw, rw⟩ := Cs.has _ _ gw
  obtain ⟨vr, hr', rr⟩ := Cs.has _ _ gr
  obtain ⟨vl, hl, rl⟩ := Cs.has _ _ gl
  obtain ⟨vo, ho, ro⟩ := Cs.has _ _ go
  obtain rfl : vo = .ref off := ro
  obtain ⟨hXa, hBa, ws, k, ea, ra⟩ := S.muts (lstH off, ops) (List.mem_append_right _ (.head _))
  refine Call_ (Ex_glob G Cs k1 Ds.nm ?_ (by decide +kernel)) e1
  refine callWith_defE Ds ?_ (st _ _ _)
  refine args_cons (wpAny_Name (hw.load Cs.ok ?_) (by decide +kernel)) (st _ _ _)
  refine args_cons (wpAny_Name (hr'.load Cs.ok ?_) (by decide +kernel)) (st _ _ _)
  refine args_cons (Call_ (Ex_glob G Cs k2 Dl.nm ?_ (by decide +kernel)) e2) (stc _ _ _ _)
  refine callWith_defE Dl ?_ (st _ _ _)
  refine args_cons (wpAny_Name (hw.load Cs.ok ?_) (by decide +kernel)) (st _ _ _)
  refine args_cons (wpAny_Name (hl.load Cs.ok ?_) (by decide +kernel)) (st _ _ _)
  refine args_cons (wpAny_Name (ho.load Cs.ok (args_nil ?_)) (by decide +kernel)) (st _ _ _)
  refine ⟨Cs.gd, ?_⟩
  refine wpAny_mono (left_call G N' K Dl Dc vs low hlen hlow (fun x hx => (hvs x hx).2) Cs.x R hXa ea ra hops rw rl) (fun r s₁ h₁ => ?_) fun _ _ e => e
  obtain ⟨⟨h', tk, rfl⟩, hkeep, ⟨ws', k', ea', ra'⟩, rres⟩ := h₁
  have S₁ := S.mut (H := lstH off) (ps' := ops ++ pcPV (leftEnd vs low).2 ++ pcPV (leftEnd vs low).1) (tk := tk) hkeep ⟨ws', k', ea', ra'⟩
  have mono : ∀ b o, ¬ X b → s.heap.get? b = some o → h'.get? b = some o ∧ ¬ X b := fun b o nb e => ⟨hkeep b o (fun q => nb (q ▸ hXa)) e, nb⟩
  obtain ⟨vl2, hl2, rl2⟩ := S₁.cok.has _ _ gl
  refine args_cons (wpAny_Name (hl2.load S₁.cok.ok (args_nil ?_)) (by decide +kernel)) (st _ _ _)
  refine ⟨S₁.cok.gd, ?_⟩
  rw [bare_ints] at rres
  have hbl : (bareF vs low).length ≤ 100 := by
    have := leftRun_len vs low (List.range vs.length).reverse ([], [])
    unfold bareF leftEnd
    simp only [List.length_reverse, List.length_range, List.length_nil, List.length_map] at this ⊢
    omega
  refine wpAny_mono (sent_fn G N' P as aq ast Ds Dq Dp vs (bareF vs low) rest low hlen h1 hlow hvs hr hrl hbl X A _ _ S₁.cok.x R (.cons (Rd.mono mono rw) (.cons (Rd.mono mono rr) (.cons rres (.cons rl2 .nil))))) (fun v s₂ h₂ => ⟨S₁.keep h₂.1, h₂.2⟩) fun _ _ e => e
end
end
section
set_option maxRecDepth 100000
set_option maxHeartbeats 4000000

noncomputable def restS (i : Nat) : List Str := ["", " .\x0b.", dt (1 + i)]
theorem restS_q (i : Nat) : (restS i).map qS = restS (i + 1) := by
  unfold restS
  have h1 : qS "" = "" := by decide +kernel
  have h2 : qS " .\x0b." = " .\x0b." := by decide +kernel
  have h3 : qS (dt (1 + i)) = dt (1 + (i + 1)) := by
    apply tl_inj
    have : tl (qS (dt (1 + i))) = q1 (tl (dt (1 + i))) := by simp [tl, qS]
    rw [this]
    have e : ∀ v, tl (dt v) = List.replicate v 46 := fun v => by simp [tl, dt]
    rw [e, e, show 1 + i = i + 1 by omega, show 1 + (i + 1) = i + 1 + 1 by omega]
    rfl
  rw [List.map_cons, List.map_cons, List.map_cons, List.map_nil, h1, h2, h3]
theorem restS_ok {i : Nat} (hi : i ≤ 8) : ∀ x ∈ restS i, x.length ≤ 10 ∧ Clean (tl x) := by
  intro x hx
  unfold restS at hx
  simp only [List.mem_cons, List.not_mem_nil, or_false] at hx
  rcases hx with rfl | rfl | rfl
  · exact ⟨by decide, by unfold Clean; decide +kernel⟩
  · exact ⟨by decide +kernel, by unfold Clean; decide +kernel⟩
  · refine ⟨by rw [dt_len]; omega, ?_⟩
    unfold Clean
    simp [tl, dt]
theorem restS_strOk (i : Nat) : ∀ x ∈ restS i, PyData.strOk x = true := by
  intro x hx
  unfold restS at hx
  simp only [List.mem_cons, List.not_mem_nil, or_false] at hx
  rcases hx with rfl | rfl | rfl
  · decide +kernel
  · decide +kernel
  · exact ok_rep 46 _ (by decide)
theorem dots_ok (vs : List Nat) : ∀ x ∈ dots vs, PyData.strOk x = true := by
  intro x hx
  obtain ⟨v, _, rfl⟩ := List.mem_map.mp hx
  exact ok_rep 46 v (by decide)
noncomputable def valsI (ns : List Int) : List Int := ((numsF ns).take (8 - ns.sum.fmod 3).toNat).map fun x => x.fmod 4 + 1
noncomputable def valsF (ns : List Int) : List Nat := (valsI ns).map Int.toNat
noncomputable def turnK (vs : List Nat) (k : Int) : List Nat := turnF vs k.toNat
noncomputable def lawF (ns : List Int) : Bool := decide (dots ((kindsF ((numsF ns).drop 8)).foldl turnK (valsF ns)) = (linesF (valsI ns)).map fun r => dt (4 - r).toNat)
theorem numsF_length (ns : List Int) : (numsF ns).length = 14 := by simp [numsF]
theorem valsI_mem {ns : List Int} {x : Int} (h : x ∈ valsI ns) : 1 ≤ x ∧ x ≤ 4 := by
  obtain ⟨y, _, rfl⟩ := List.mem_map.mp h
  have h1 := Int.fmod_nonneg_of_pos y (show (0 : Int) < 4 by decide)
  have h2 := Int.fmod_lt_of_pos y (show (0 : Int) < 4 by decide)
  omega
theorem nats_vals (ns : List Int) : nats (valsF ns) = valsI ns := by
  unfold nats valsF
  rw [List.map_map]
  conv => rhs; rw [← List.map_id (valsI ns)]
  apply List.map_congr_left
  intro x hx
  have := valsI_mem hx
  show ((x.toNat : Nat) : Int) = x
  omega
theorem valsI_length (ns : List Int) : 6 ≤ (valsI ns).length ∧ (valsI ns).length ≤ 8 := by
  unfold valsI
  rw [List.length_map, List.length_take, numsF_length]
  have h1 := Int.fmod_nonneg_of_pos ns.sum (show (0 : Int) < 3 by decide)
  have h2 := Int.fmod_lt_of_pos ns.sum (show (0 : Int) < 3 by decide)
  omega
theorem valsF_mem {ns : List Int} {x : Nat} (h : x ∈ valsF ns) : 1 ≤ x ∧ x ≤ 4 := by
  obtain ⟨y, hy, rfl⟩ := List.mem_map.mp h
  have := valsI_mem hy
  omega
theorem turn_length (vs : List Nat) (low : Nat) : (turnF vs low).length = vs.length := by simp [turnF, bumpF]
theorem bare_at {vs : List Nat} {low : Nat} (hlow : 1 ≤ low) {p : Nat} (h : p ∈ bareF vs low) : p < vs.length ∧ vs.getD p 0 = low := by
  obtain ⟨q, hq, rfl⟩ := List.mem_map.mp h
  obtain ⟨_, _, a, b⟩ := (left_end vs low hlow).snd q hq
  exact ⟨a, b⟩
theorem turn_mem {vs : List Nat} {low : Nat} (h1 : 1 ≤ low) (h3 : low ≤ 3) (hvs : ∀ x ∈ vs, 1 ≤ x ∧ x ≤ 4) : ∀ x ∈ turnF vs low, 1 ≤ x ∧ x ≤ 4 := by
  intro x hx
  obtain ⟨p, hp, rfl⟩ := List.mem_map.mp hx
  have hp : p < vs.length := by simpa using hp
  have hv := hvs (vs.getD p 0) (by rw [List.getD_eq_getElem?_getD, List.getElem?_eq_getElem hp]; exact List.getElem_mem hp)
  split
  · rename_i h
    have := (bare_at h1 h).2
    omega
  · omega
theorem mem_left (vs : List Nat) (low : Nat) (hlow : 1 ≤ low) (p : Nat) : (p, vs.getD p 0) ∈ (leftEnd vs low).1 ↔ p ∈ bareF vs low := by
  constructor
  · exact fun h => List.mem_map.mpr ⟨_, h, rfl⟩
  · intro h
    obtain ⟨q, hq, rfl⟩ := List.mem_map.mp h
    obtain ⟨a, _, _, b⟩ := (left_end vs low hlow).snd q hq
    have : (q.1, vs.getD q.1 0) = q := by rw [b, ← a]
    rw [this]; exact hq
theorem left_len (vs : List Nat) (low : Nat) (h : vs.length ≤ 8) : (leftEnd vs low).1.length ≤ 8 ∧ (leftEnd vs low).2.length ≤ 8 := by
  have := leftRun_len vs low (List.range vs.length).reverse ([], [])
  unfold leftEnd
  simp only [List.length_reverse, List.length_range, List.length_nil] at this
  omega
theorem reach6 (l : List Int) (hl : l.length = 6) : ∃ r, (r, kindsF l) ∈ reachK 6 := by
  have key : ∀ i, i ≤ 6 → (l.take i).foldl stepK ([1, 2, 3, 4], []) ∈ reachK i := by
    intro i
    induction i with
    | zero => intro _; exact .head _
    | succ i ih =>
      intro hi
      rw [List.take_add_one, List.getElem?_eq_getElem (by omega), List.foldl_append]
      exact stepK_reach (by omega) (ih (by omega)) _
  have := key 6 (Nat.le_refl _)
  rw [List.take_of_length_le (by omega)] at this
  exact ⟨_, this⟩
theorem reach6_ok : ((reachK 6).all fun g => decide (g.2.length = 6) && g.2.all fun k => decide (1 ≤ k) && decide (k ≤ 3)) = true := by decide +kernel
theorem kinds_ok (l : List Int) (hl : l.length = 6) : (kindsF l).length = 6 ∧ ∀ k ∈ kindsF l, 1 ≤ k ∧ k ≤ 3 := by
  obtain ⟨r, h⟩ := reach6 l hl
  have := List.all_eq_true.mp reach6_ok _ h
  simpa using this
end
section
set_option maxRecDepth 100000
set_option maxHeartbeats 4000000

structure Defs (h₀ : Heap) (mg : Str → Option Value) where
  q : Addr
  c : Addr
  p : Addr
  nu : Addr
  ki : Addr
  ma : Addr
  du : Addr
  le : Addr
  se : Addr
  li : Addr
  dq : DefAt h₀ mg "quotedata" (fnA 6) (fnB 6) (fnS 6) q
  dc : DefAt h₀ mg "_strcoll" (fnA 11) (fnB 11) (fnS 11) c
  dp : DefAt h₀ mg "_strip_padding" (fnA 12) (fnB 12) (fnS 12) p
  dnu : DefAt h₀ mg "_law_numbers" (fnA 14) (fnB 14) (fnS 14) nu
  dki : DefAt h₀ mg "_law_kinds" (fnA 15) (fnB 15) (fnS 15) ki
  dma : DefAt h₀ mg "_law_mate" (fnA 16) (fnB 16) (fnS 16) ma
  ddu : DefAt h₀ mg "_law_due" (fnA 17) (fnB 17) (fnS 17) du
  dle : DefAt h₀ mg "_law_left" (fnA 18) (fnB 18) (fnS 18) le
  dse : DefAt h₀ mg "_law_sent" (fnA 19) (fnB 19) (fnS 19) se
  dli : DefAt h₀ mg "_law_lines" (fnA 20) (fnB 20) (fnS 20) li

theorem insGo_le : ∀ (f : Nat) (rows : List (List Int)) (x : Int) (r : Nat), (insGo f rows x r).2 ≤ r + f
  | 0, _, _, r => Nat.le_refl _
  | f + 1, rows, x, r => by
    unfold insGo
    split
    · show r ≤ _; omega
    · have := insGo_le f (rows.set r ((rows.getD r []).set ((rows.getD r []).idxOf (minL (bigs (rows.getD r []) x))) x)) (minL (bigs (rows.getD r []) x)) (r + 1)
      omega
theorem lines_len (vs : List Int) : (linesF vs).length = vs.length := by
  unfold linesF
  have : ∀ (vs : List Int) (g : List (List Int) × List Int), (vs.foldl linesStep g).2.length = g.2.length + vs.length := by
    intro vs
    induction vs with
    | nil => intro g; rfl
    | cons x vs ih =>
      intro g
      rw [List.foldl_cons, ih, List.length_cons]
      unfold linesStep
      rw [List.length_append, List.length_singleton]; omega
  rw [this]; simp
theorem lines_mem {vs : List Int} (h : ∀ x ∈ vs, 1 ≤ x ∧ x ≤ 4) {r : Int} (hr : r ∈ linesF vs) : 0 ≤ r ∧ r ≤ 4 := by
  have : ∀ (vs : List Int) (g : List (List Int) × List Int), (∀ r ∈ g.2, 0 ≤ r ∧ r ≤ 4) → ∀ r ∈ (vs.foldl linesStep g).2, 0 ≤ r ∧ r ≤ 4 := by
    intro vs
    induction vs with
    | nil => intro g hg; exact hg
    | cons x vs ih =>
      intro g hg
      rw [List.foldl_cons]
      refine ih _ fun r hr => ?_
      unfold linesStep at hr
      rcases List.mem_append.mp hr with hr | hr
      · exact hg r hr
      · rw [List.mem_singleton.mp hr]
        have := insGo_le 4 g.1 x 0
        omega
  exact this vs ([[], [], [], []], []) (fun r hr => absurd hr (by simp)) r hr
section
variable {prog : Program} {w : World} {h₀ : Heap} {mg mb : Str → Option Value} {C Nn cc : Addr} {mN : Str → Option Value}

theorem law_body (G : Glb h₀ mg mb) (N : Nms mg) (K : AccN prog w h₀ mg C Nn cc mN) (P : Pats h₀ mg) (D : Defs h₀ mg) (a : Addr) (ns : List Int) (hlen : ns.length ≤ 63) :
    Body prog w h₀ 22 "law" (fnA 21) (fnB 21) (fnS 21) a [("script", .pv (.lst (iPV ns)))] (.bool (lawF ns)) := by
  intro A s₀ L code X B hB s₁ R S
  conv in execs (fnB 21) _ => arg 1; whnf
  have hnl := numsF_length ns
  have m3 := Int.fmod_nonneg_of_pos ns.sum (show (0 : Int) < 3 by decide)
  have m3' := Int.fmod_lt_of_pos ns.sum (show (0 : Int) < 3 by decide)
  have hvl := valsI_length ns
  have hvF : (valsF ns).length = (valsI ns).length := by unfold valsF; rw [List.length_map]
  with_reducible refine' St_assign S R (Ex_callF G D.dnu ?f1 ?d1 ?as1 ?fn1) ?x1 fun s₂ S₂ => ?_
  case f1 => kernel_rfl!
  case d1 => kernel_rfl!
  case' as1 => walk_at "exl"
  case fn1 => exact (numbers_fn G N D.nu D.dnu ns hlen).le (by decide)
  case x1 => walk_at "st"
  with_reducible refine' St_compq (ps := iPV (valsI ns)) [] (fun _ => true) (fun q => .int (q.toI.fmod 4 + 1)) S₂ R ?i2 ?n2 ?s2 ?q2 ?t2 ?f2 ?y2 fun s₃ S₃ => ?_
  case' i2 => walk_at "it"
  case s2 => walk_at "sees"
  case t2 => exact fun q _ D X' => Tss_nil
  case y2 => kernel_rfl!
  case q2 =>
    rw [List.filter_eq_self.mpr (by intro _ _; rfl)]
    obtain ⟨kn, hk⟩ := Int.eq_ofNat_of_zero_le (show (0 : Int) ≤ 8 - ns.sum.fmod 3 by omega)
    unfold valsI
    rw [hk, pickL_upto, Int.toNat_natCast, map_iPV]
    unfold iPV
    rw [List.map_map]
    rfl
  case f2 =>
    intro q hq _ D2 X2
    obtain ⟨z, hz, rfl⟩ := List.mem_map.mp hq
    walk_at "exq"
    rfl
  case i2 => omega
  case n2 =>
    obtain ⟨kn, hk⟩ := Int.eq_ofNat_of_zero_le (show (0 : Int) ≤ 8 - ns.sum.fmod 3 by omega)
    rw [iPV_length, hk, pickL_upto, List.length_take]
    exact Nat.le_trans (Nat.min_le_right _ _) (Nat.le_trans (Nat.le_of_eq hnl) (by decide))
  rw [← nats_vals] at S₃
  with_reducible refine' St_compq (ps := sPV (dots (valsF ns))) [] (fun _ => true) (fun q => .str (dt q.toI.toNat)) S₃ R ?i3 ?n3 ?s3 ?q3 ?t3 ?f3 ?y3 fun s₄ S₄ => ?_
  case' i3 => walk_at "it"
  case s3 => walk_at "sees"
  case t3 => exact fun q _ D X' => Tss_nil
  case y3 => kernel_rfl!
  case n3 => rw [iPV_length, nats_length, hvF]; exact Nat.le_trans hvl.2 (by decide)
  case q3 =>
    rw [List.filter_eq_self.mpr (by intro _ _; rfl), map_iPV]
    unfold nats sPV dots
    rw [List.map_map, List.map_map]
    apply List.map_congr_left
    intro x _
    show PV.str (dt ((x : Int).toNat)) = PV.str (dt x)
    rw [Int.toNat_natCast]
  case f3 =>
    intro q hq _ D2 X2
    obtain ⟨z, hz, rfl⟩ := List.mem_map.mp hq
    obtain ⟨v, hv, rfl⟩ := List.mem_map.mp hz
    have := valsF_mem hv
    walk_at "exq"
    · omega
    · rfl
  with_reducible refine' St_assign (p := .lst (sPV (restS 0))) S₄ R ?e5 ?x5 fun s₅ S₅ => ?_
  case x5 => walk_at "st"
  case e5 =>
    refine' Ex_eq (p := .lst [.str "", .str " .\x0b.", .str "."]) (q := .lst (sPV (restS 0))) ?e5b rfl
    walk_at "ex"
  with_reducible refine' St_assign S₅ R ?e6 ?x6 fun s₆ S₆ => ?_
  case x6 => walk_at "st"
  case e6 => walk_at "ex"
  with_reducible refine' St_new S₆ R ?e7 ?x7 ?sz7 fun off s₇ nXo E₇ S₇ => ?_
  case e7 => walk_at "exl"
  case x7 => walk_at "st"
  case sz7 => decide
  with_reducible refine' St_new S₇ R ?e8 ?x8 ?sz8 fun due s₈ nXd E₈ S₈ => ?_
  case e8 => walk_at "exl"
  case x8 => walk_at "st"
  case sz8 => decide
  have E78 := E₇.trans E₈
  have hkl : ((numsF ns).drop 8).length = 6 := by rw [List.length_drop, hnl]
  obtain ⟨hk6, hk13⟩ := kinds_ok _ hkl
  with_reducible refine' St_for (items := iPV (kindsF ((numsF ns).drop 8))) (G := Nat × List Nat × List (Nat × Nat)) (fun i g => g.1 = i ∧ g.2.1 = ((kindsF ((numsF ns).drop 8)).take i).foldl turnK (valsF ns) ∧ i ≤ 6 ∧ g.2.1.length = (valsI ns).length ∧ (∀ x ∈ g.2.1, 1 ≤ x ∧ x ≤ 4) ∧ g.2.2.length ≤ 16 * i) (fun g => [("plain", .pv (.lst (iPV (nats g.2.1)))), ("word", .pv (.lst (sPV (dots g.2.1)))), ("rest", .pv (.lst (sPV (restS g.1)))), ("due", .raw (.ref due)), ("off", .raw (.ref off)), ("values", .pv (.lst (iPV (nats (valsF ns)))))]) (fun g => [(lstH due, pcPV g.2.2), (lstH off, pcPV g.2.2)]) [lstH due, lstH off] (0, valsF ns, []) S₈ R ?it9 ?x9 ?g9 ?l9 ?p9 (fun _ => rfl) ?turn ?done
  case it9 =>
    with_reducible refine' It_list (Ex_callF (ps := [.lst (iPV ((numsF ns).drop 8))]) G D.dki ?f10 ?d10 ?as10 ?fn10)
    case f10 => kernel_rfl!
    case d10 => kernel_rfl!
    case fn10 => exact (kinds_fn G N D.ki D.dki _ hkl).le (by decide)
    case as10 =>
      with_reducible refine' ExL_cons (Ex_eq ?a11 ?q11) ExL_nil ?c11
      case c11 => kernel_rfl!
      case' a11 => walk_at "ex"
      case q11 => exact congrArg (fun z => PV.lst (iPV z)) (pickL_from (numsF ns) 8)
      omega
  case x9 => walk_at "st"
  case g9 =>
    dsimp only
    exact Sub.go (by walk_at "sub")
  case l9 => rfl
  case p9 => exact ⟨rfl, rfl, by decide, hvF, fun x hx => valsF_mem hx, Nat.le_refl _⟩
  case turn =>
    intro i g q X' B' hB' s' E₉ hP hq S'
    obtain ⟨j, vs, d⟩ := g
    obtain ⟨rfl, hvs, hi, hvlen, hv14, hd⟩ := hP
    dsimp only at hvs hi hvlen hv14 hd S'
    obtain ⟨kz, hkz, rfl⟩ := iPV_at hq
    have hj6 : j < 6 := by
      have := (List.getElem?_eq_some_iff.mp hkz).1
      omega
    have hkr := hk13 kz (List.mem_of_getElem? hkz)
    obtain ⟨low, rfl⟩ := Int.eq_ofNat_of_zero_le (show 0 ≤ kz by omega)
    have hl1 : 1 ≤ low := by omega
    have hl3 : low ≤ 3 := by omega
    have hlen8 : vs.length ≤ 8 := Nat.le_trans (Nat.le_of_eq hvlen) hvl.2
    have hlen1 : 1 ≤ vs.length := Nat.le_trans (Nat.le_trans (by decide) hvl.1) (Nat.le_of_eq hvlen.symm)
    have hll := left_len vs low hlen8
    have hnv : (nats vs).length = vs.length := nats_length vs
    have hd9 : d.length ≤ 96 := Nat.le_trans hd (Nat.mul_le_mul_left 16 hi)
    have hls : (leftEnd vs low).2.length + (leftEnd vs low).1.length ≤ 16 := Nat.add_le_add hll.2 hll.1
    with_reducible refine' St_pair (p := .lst (pcPV (leftEnd vs low).2)) (q := .lst (pcPV (leftEnd vs low).1)) S' R ?e12 ?x12 ?y12 (fun s₁₀ S₁₀ => ?_) ?sw12 ?ss12
    case x12 => walk_at "st"
    case y12 => walk_at "st"
    case sw12 => kernel_rfl!
    case ss12 => kernel_rfl!
    case e12 =>
      with_reducible refine' Ex_eq (Ex_callF G D.ddu ?f13 ?d13 ?as13 ?fn13) ?q13
      case f13 => kernel_rfl!
      case d13 => kernel_rfl!
      case' as13 => walk_at "exl"
      case fn13 => exact due_fn G N D.du D.ma D.ddu D.dma (nats vs) (low : Int) (Nat.le_trans (Nat.le_of_eq hnv) hlen8) ⟨Int.natCast_nonneg low, hkr.2⟩
      case q13 => rw [mates_eq vs low hl1, left_eq vs low hl1]
    with_reducible refine' St_augL (Λ₁ := []) (Λ₂ := [(lstH off, pcPV d)]) (a := due) (ps := pcPV d) (qs := pcPV ((leftEnd vs low).2 ++ (leftEnd vs low).1)) S₁₀ R ?lk14 ?st14 (Ex_eq ?e14 ?q14) ?z14 ?y14 fun s₁₁ S₁₁ => ?_
    case lk14 => walk_at "lk"
    case st14 => walk_at "st"
    case' e14 => walk_at "ex"
    case e14 => rw [pcPV_length, pcPV_length]; exact Nat.le_trans hls (by decide)
    case q14 => rw [pc_append]
    case z14 => rw [pcPV_length]; exact Nat.le_trans hd9 (by decide)
    case y14 => rw [pcPV_length, List.length_append]; exact Nat.le_trans hls (by decide)
    have hen : (enumPV (iPV (nats vs))).map (fun q => PV.int (if (q.1.toI.toNat, q.2.toI.toNat) ∈ (leftEnd vs low).1 then q.2.toI + 1 else q.2.toI)) = iPV (nats (turnF vs low)) := by
      have er : iPV (nats (turnF vs low)) = (List.range vs.length).map fun p => PV.int ((vs.getD p 0 + if p ∈ bareF vs low then 1 else 0 : Nat) : Int) := by
        unfold turnF bumpF nats iPV
        simp only [List.map_map]
        rfl
      rw [er]
      unfold enumPV
      rw [iPV_length, nats_length, List.map_map]
      apply List.map_congr_left
      intro p hp
      have hp : p < vs.length := by simpa using hp
      have hg : (iPV (nats vs)).getD p .none = .int (vs.getD p 0 : Int) := by
        unfold iPV nats
        rw [List.map_map, List.getD_eq_getElem?_getD, List.getElem?_map, List.getElem?_eq_getElem hp, List.getD_eq_getElem?_getD, List.getElem?_eq_getElem hp]; rfl
      simp only [Function.comp]
      rw [hg]
      show PV.int (if ((p : Int).toNat, (vs.getD p 0 : Int).toNat) ∈ (leftEnd vs low).1 then (vs.getD p 0 : Int) + 1 else (vs.getD p 0 : Int)) = _
      rw [Int.toNat_natCast, Int.toNat_natCast]
      congr 1
      by_cases h : p ∈ bareF vs low
      · rw [if_pos ((mem_left vs low hl1 p).mpr h), if_pos h]; rfl
      · rw [if_neg fun q => h ((mem_left vs low hl1 p).mp q), if_neg h]; rfl
    with_reducible refine' St_compP (items := enumPV (iPV (nats vs))) [("left", _)] (fun q => .int (if (q.1.toI.toNat, q.2.toI.toNat) ∈ (leftEnd vs low).1 then q.2.toI + 1 else q.2.toI)) S₁₁ R (ItPr_enum G N ?f15 ?lk15 ?d15 ?a15 ?b15 ?c15) ?n15 ?s15 ?f16 ?y15 (fun s₁₂ S₁₂ => ?_) ?sw15 ?ce15 ?k15 ?hx15 ?hy15 ?hn15 ?hf15 ?hfs15
    case f15 => kernel_rfl!
    case lk15 => walk_at "lk"
    case d15 => decide +kernel
    case a15 => kernel_rfl!
    case b15 => kernel_rfl!
    case c15 => kernel_rfl!
    case n15 => rw [enumPV_length, iPV_length, hnv]; exact Nat.le_trans hlen8 (by decide)
    case s15 => walk_at "sees"
    case y15 => kernel_rfl!
    case sw15 => kernel_rfl!
    case ce15 => kernel_rfl!
    case k15 => kernel_rfl!
    case hx15 => kernel_rfl!
    case hy15 => kernel_rfl!
    case hn15 => kernel_rfl!
    case hf15 => kernel_rfl!
    case hfs15 => intro _; kernel_rfl!
    case f16 =>
      intro q hq D2 X2
      obtain ⟨p, hp, rfl⟩ := List.mem_map.mp hq
      have hp : p < vs.length := by
        rw [iPV_length, nats_length] at hp
        simpa using hp
      have hg : (iPV (nats vs)).getD p .none = .int (vs.getD p 0 : Int) := by
        unfold iPV nats
        rw [List.map_map, List.getD_eq_getElem?_getD, List.getElem?_map, List.getElem?_eq_getElem hp, List.getD_eq_getElem?_getD, List.getElem?_eq_getElem hp]; rfl
      dsimp only
      rw [hg]
      have hv : 1 ≤ vs.getD p 0 ∧ vs.getD p 0 ≤ 4 := hv14 _ (by rw [List.getD_eq_getElem?_getD, List.getElem?_eq_getElem hp]; exact List.getElem_mem hp)
      generalize vs.getD p 0 = v at hv
      with_reducible refine' Ex_eq (Ex_if (c := decide ((p, v) ∈ (leftEnd vs low).1)) (Ts_cmp (p := piece (p, v)) ?a17 ?b17 Cm_inP ?m17 ?n17) (fun _ => ?c17) (fun _ => ?d17)) ?q17
      case m17 => kernel_rfl!
      case n17 => decide
      case a17 =>
        refine' Ex_eq (p := .tup [.str (sp (p : Int).toNat), .str (dt (v : Int).toNat)]) ?e18 (by rw [Int.toNat_natCast, Int.toNat_natCast]; rfl)
        walk_at "ex"
        all_goals (first | with_reducible exact sm2 (Nat.lt_of_lt_of_le hp (Nat.le_trans hlen8 (by decide))) | with_reducible exact sm2 (Nat.lt_of_le_of_lt hv.2 (by decide)) | with_reducible exact sm (Nat.lt_of_lt_of_le hp (Nat.le_trans hlen8 (by decide))) | omega)
      case b17 => walk_at "ex"
      case c17 => walk_at "ex"
      case d17 => walk_at "ex"
      case q17 =>
        show _ = PV.int (if ((p : Int).toNat, (v : Int).toNat) ∈ (leftEnd vs low).1 then (v : Int) + 1 else (v : Int))
        rw [Int.toNat_natCast, Int.toNat_natCast]
        by_cases h : (p, v) ∈ (leftEnd vs low).1
        · rw [if_pos (by simpa using h), if_pos h]
        · rw [if_neg (by simpa using h), if_neg h]
    rw [hen] at S₁₂
    have e19 : ([] : List (MutH × List PV)) ++ (lstH due, pcPV d ++ pcPV ((leftEnd vs low).2 ++ (leftEnd vs low).1)) :: [(lstH off, pcPV d)] = [(lstH due, pcPV (d ++ ((leftEnd vs low).2 ++ (leftEnd vs low).1)))] ++ (lstH off, pcPV d) :: [] := by rw [pc_append d]; rfl
    rw [e19] at S₁₂
    with_reducible refine' St_pairM (p := .lst (sPV (dots (turnF vs low)))) (q := .lst (sPV ((restS j).map qS))) (Λ' := [(lstH due, pcPV (d ++ ((leftEnd vs low).2 ++ (leftEnd vs low).1)))] ++ (lstH off, pcPV d ++ pcPV (leftEnd vs low).2 ++ pcPV (leftEnd vs low).1) :: []) S₁₂ R ?em20 ?x20 ?y20 (fun s₁₃ S₁₃ => ?_) ?sw20 ?ss20
    case x20 => walk_at "st"
    case y20 => walk_at "st"
    case sw20 => kernel_rfl!
    case ss20 => kernel_rfl!
    case em20 =>
      refine Em_sent G N K P D.dle D.dc D.dse D.dq D.dp vs (restS j) low hlen8 hlen1 hl3 (fun x hx => ⟨(hv14 x hx).1, Nat.lt_of_le_of_lt (hv14 x hx).2 (by decide)⟩) (by show 3 ≤ 3; exact Nat.le_refl _) (restS_ok (Nat.le_trans hi (by decide))) (by rw [pcPV_length]; exact Nat.le_trans hd9 (by decide)) (by walk_at "lk") (by walk_at "lk") (by walk_at "lk") (by walk_at "lk") (by kernel_rfl!) (by kernel_rfl!) (by kernel_rfl!) (by kernel_rfl!)
    refine St_nil ⟨(j + 1, turnF vs low, d ++ ((leftEnd vs low).2 ++ (leftEnd vs low).1)), ⟨rfl, ?_, hj6, ?_, turn_mem hl1 hl3 hv14, ?_⟩, ?_⟩
    · rw [List.take_add_one, hkz, List.foldl_append, ← hvs]
      show turnF vs low = turnF vs (low : Int).toNat
      rw [Int.toNat_natCast]
    · dsimp only; rw [turn_length, hvlen]
    · dsimp only; rw [List.length_append, List.length_append]; exact Nat.add_le_add hd hls
    · dsimp only
      rw [← restS_q]
      have e21 : pcPV (d ++ ((leftEnd vs low).2 ++ (leftEnd vs low).1)) = pcPV d ++ pcPV (leftEnd vs low).2 ++ pcPV (leftEnd vs low).1 := by rw [pc_append, pc_append, List.append_assoc]
      have e22 : ([(lstH due, pcPV (d ++ ((leftEnd vs low).2 ++ (leftEnd vs low).1))), (lstH off, pcPV (d ++ ((leftEnd vs low).2 ++ (leftEnd vs low).1)))] : List (MutH × List PV)) = [(lstH due, pcPV (d ++ ((leftEnd vs low).2 ++ (leftEnd vs low).1)))] ++ (lstH off, pcPV d ++ pcPV (leftEnd vs low).2 ++ pcPV (leftEnd vs low).1) :: [] := by
        rw [← e21]; rfl
      rw [e22]
      exact S₁₃.weakS (by walk_at "sub")
  case done =>
    intro g s' hP S'
    obtain ⟨j, vs, d⟩ := g
    obtain ⟨rfl, hvs, hi, hvlen, hv14, hd⟩ := hP
    dsimp only at hvs hi hvlen hv14 hd S'
    rw [iPV_length, hk6] at S' hd
    rw [iPV_length, List.take_length] at hvs
    have G' := G.keep S'.cok.gd
    obtain ⟨_, _, ws1, k1, ed, rd1⟩ := S'.muts (lstH due, pcPV d) (.head _)
    obtain ⟨_, _, ws2, k2, eo, ro2⟩ := S'.muts (lstH off, pcPV d) (.tail _ (.head _))
    have rd1' : RdL s'.heap (fun _ => False) ws1 (pcPV d) := rd1.narrow fun _ q => q.elim
    have ro2' : RdL s'.heap (fun _ => False) ws2 (pcPV d) := ro2.narrow fun _ q => q.elim
    with_reducible refine' St_retH (b := lawF ns) S' R (Ex_eq ?e30 ?q30) fun s'' S'' => S''.retE E78 (.bool _)
    case' e30 => with_reducible refine' Ex_and (Ex_cmp (q := .lst (sPV ((linesF (valsI ns)).map fun r => dt (4 - r).toNat))) ?a31 ?b31 (Cm_eqLS (dots_ok vs) ?ok31) ?m31 ?n31) (fun _ => Ex_and (Ex_cmp (Ex_ownH ?lo32 ?do32 eo ro2') (Ex_ownH ?ld32 ?dd32 ed rd1') Cm_eqP ?m32 ?n32) (fun _ => Ex_and1 (Ex_cmp (q := .lst (sPV (restS 6))) ?a33 ?b33 (Cm_eqLS (restS_strOk 6) (restS_strOk 6)) ?m33 ?n33)))
    case m31 => kernel_rfl!
    case n31 => decide
    case m32 => kernel_rfl!
    case n32 => decide
    case m33 => kernel_rfl!
    case n33 => decide
    case a31 => walk_at "ex"
    case a33 => walk_at "ex"
    case lo32 => walk_at "lk"
    case ld32 => walk_at "lk"
    case do32 => decide +kernel
    case dd32 => decide +kernel
    case ok31 =>
      intro x hx
      obtain ⟨r, _, rfl⟩ := List.mem_map.mp hx
      exact ok_rep 46 _ (by decide)
    case b33 =>
      refine' Ex_eq (p := .lst [.str "", .str " .\x0b.", .str "......."]) (q := .lst (sPV (restS 6))) ?e34 rfl
      walk_at "ex"
    case b31 =>
      with_reducible refine' Ex_compq [] (fun _ => true) (fun q => .str (dt (4 - q.toI).toNat)) (It_list (Ex_callF (ps := [.lst (iPV (nats (valsF ns)))]) G' (D.dli.keep S'.cok.gd) ?f35 ?d35 ?as35 ?fn35)) ?n36 ?s36 ?q36 ?t36 ?f36
      case f35 => kernel_rfl!
      case d35 => kernel_rfl!
      case as35 => walk_at "exl"
      case fn35 =>
        rw [nats_vals]
        exact lines_fn G' N D.li (D.dli.keep S'.cok.gd) (valsI ns) hvl.2 fun x hx => valsI_mem hx
      case n36 => rw [iPV_length, lines_len]; exact Nat.le_trans hvl.2 (by decide)
      case s36 => walk_at "sees"
      case t36 => exact fun q _ D X' => Tss_nil
      case q36 =>
        rw [List.filter_eq_self.mpr (by intro _ _; rfl), map_iPV]
        unfold sPV
        rw [List.map_map]
        rfl
      case f36 =>
        intro q hq _ D2 X2
        obtain ⟨r, hr, rfl⟩ := List.mem_map.mp hq
        have := lines_mem (fun x hx => valsI_mem hx) hr
        walk_at "exq"
        · omega
        · rfl
    case q30 =>
      rw [decide_eq_true (rfl : d = d), decide_eq_true (rfl : restS 6 = restS 6), hvs]
      show PV.bool (_ && (true && true)) = PV.bool (lawF ns)
      rw [Bool.and_true, Bool.and_true]
      rfl
end
end
section

noncomputable def tr (l : Nat) : Nat → List Nat → List Nat
  | _, [] => []
  | c, x :: xs => if x = l + 1 then x :: tr l (c + 1) xs else if x = l then (if c = 0 then (l + 1) :: tr l 0 xs else l :: tr l (c - 1) xs) else x :: tr l c xs
theorem tr_nil (l c : Nat) : tr l c [] = [] := by cases c <;> rfl
theorem tr_hi {l c x : Nat} (h : x = l + 1) (xs : List Nat) : tr l c (x :: xs) = x :: tr l (c + 1) xs := by
  rw [tr, if_pos h]
theorem tr_lo0 {l c x : Nat} (h : x = l) (hc : c = 0) (xs : List Nat) : tr l c (x :: xs) = (l + 1) :: tr l 0 xs := by
  rw [tr, if_neg (by omega), if_pos h, if_pos hc]
theorem tr_lo {l c x : Nat} (h : x = l) (hc : c ≠ 0) (xs : List Nat) : tr l c (x :: xs) = l :: tr l (c - 1) xs := by
  rw [tr, if_neg (by omega), if_pos h, if_neg hc]
theorem tr_no {l c x : Nat} (h1 : x ≠ l) (h2 : x ≠ l + 1) (xs : List Nat) : tr l c (x :: xs) = x :: tr l c xs := by
  rw [tr, if_neg h2, if_neg h1]

theorem tr_comm {l m : Nat} (h : l + 2 ≤ m) : ∀ (xs : List Nat) (a b : Nat), tr l a (tr m b xs) = tr m b (tr l a xs)
  | [], _, _ => by simp [tr_nil]
  | x :: xs, a, b => by
    have ih := tr_comm h xs
    by_cases h1 : x = l
    · by_cases ha : a = 0
      · rw [tr_no (l := m) (by omega) (by omega), tr_lo0 h1 ha, tr_lo0 h1 ha, tr_no (l := m) (by omega) (by omega), ih]
      · rw [tr_no (l := m) (by omega) (by omega), tr_lo h1 ha, tr_lo h1 ha, tr_no (l := m) (by omega) (by omega), ih]
    · by_cases h2 : x = l + 1
      · rw [tr_no (l := m) (by omega) (by omega), tr_hi h2, tr_hi h2, tr_no (l := m) (by omega) (by omega), ih]
      · rw [tr_no (l := l) h1 h2]
        by_cases h3 : x = m
        · by_cases hb : b = 0
          · rw [tr_lo0 h3 hb, tr_no (l := l) (by omega) (by omega), tr_lo0 h3 hb, ih]
          · rw [tr_lo h3 hb, tr_no (l := l) (by omega) (by omega), tr_lo h3 hb, ih]
        · by_cases h4 : x = m + 1
          · rw [tr_hi h4, tr_no (l := l) (by omega) (by omega), tr_hi h4, ih]
          · rw [tr_no (l := m) h3 h4, tr_no (l := l) (by omega) (by omega), tr_no (l := m) h3 h4, ih]

theorem ths (l c : Nat) (xs : List Nat) : tr l (c + 1) (l :: xs) = l :: tr l c xs := tr_lo rfl (Nat.succ_ne_zero c) xs
theorem thz (l : Nat) (xs : List Nat) : tr l 0 (l :: xs) = (l + 1) :: tr l 0 xs := tr_lo0 rfl rfl xs
theorem thi (l c : Nat) (xs : List Nat) : tr l c ((l + 1) :: xs) = (l + 1) :: tr l (c + 1) xs := tr_hi rfl xs
theorem th2 (l c : Nat) (xs : List Nat) : tr l c ((l + 1 + 1) :: xs) = (l + 1 + 1) :: tr l c xs := tr_no (by omega) (by omega) xs
theorem th1 (l c : Nat) (xs : List Nat) : tr (l + 1) c (l :: xs) = l :: tr (l + 1) c xs := tr_no (by omega) (by omega) xs
theorem tr_braid0 (l : Nat) : ∀ (xs : List Nat) (m d e : Nat),
    (tr l m (tr (l + 1) e (tr l (m + d) xs)) = tr (l + 1) (e + d) (tr l m (tr (l + 1) e xs))) ∧
    (tr l (m + d) (tr (l + 1) e (tr l m xs)) = tr (l + 1) e (tr l m (tr (l + 1) (e + d) xs)))
  | [], _, _, _ => by simp [tr_nil]
  | x :: xs, m, d, e => by
    have ih := tr_braid0 l xs
    by_cases x1 : x = l
    · subst x1
      refine ⟨?_, ?_⟩
      · cases m with
        | zero => cases d with
          | zero => cases e with
            | zero =>
              have := (ih 0 0 0).1
              rw [Nat.add_zero] at this ⊢
              rw [thz, thz, th2, th1, thz, thz, this]
            | succ e =>
              have := (ih 0 1 e).2
              rw [Nat.add_zero, Nat.add_zero]
              rw [thz, ths, thi, th1, thz, ths, ← this]
          | succ d =>
            have := (ih 0 d e).1
            rw [Nat.zero_add, ← Nat.add_assoc]
            rw [Nat.zero_add] at this
            rw [ths, th1, thz, th1, thz, ths, ← this]
        | succ m =>
          have := (ih m d e).1
          rw [Nat.succ_add m d]
          rw [ths, th1, ths, th1, ths, th1, this]
      · cases m with
        | zero => cases e with
          | zero =>
            have := (ih 0 d 0).2
            rw [thz, thz, th2, th1, thz, thz, this]
          | succ e =>
            have := (ih 0 (d + 1) e).2
            rw [thz, ths, thi, th1, thz, ths]
            rw [show e + 1 + d = e + (d + 1) by omega, ← this, Nat.add_assoc]
        | succ m =>
          have := (ih m d e).2
          rw [Nat.succ_add m d]
          rw [ths, th1, ths, th1, ths, th1, this]
    · by_cases x2 : x = l + 1
      · subst x2
        refine ⟨?_, ?_⟩
        · cases e with
          | zero =>
            have := (ih m (d + 1) 0).1
            rw [thi, thz, th2, thz, th2, thi]
            rw [Nat.add_assoc m d 1, Nat.add_assoc 0 d 1, this]
          | succ e =>
            have := (ih (m + 1) d e).1
            rw [thi, ths, thi, ths, thi]
            rw [show e + 1 + d = (e + d) + 1 by omega, ths, show m + d + 1 = m + 1 + d by omega, this]
        · cases e with
          | zero => cases d with
            | zero =>
              have := (ih m 1 0).1
              rw [Nat.add_zero, Nat.add_zero]
              rw [thi, thz, th2, thz, th2, thi, this]
            | succ d =>
              have := (ih (m + 1) d 0).2
              rw [← Nat.add_assoc 0 d 1]
              rw [thi, thz, th2, ths, thi, thz, ← this]
              rw [show m + (d + 1) = m + 1 + d by omega]
          | succ e =>
            have := (ih (m + 1) d e).2
            rw [thi, ths, thi]
            rw [show e + 1 + d = (e + d) + 1 by omega, ths, thi, ths, show m + d + 1 = m + 1 + d by omega, this]
      · by_cases x3 : x = l + 1 + 1
        · subst x3
          refine ⟨?_, ?_⟩
          · have := (ih m d (e + 1)).1
            rw [th2, thi, th2, thi, th2, thi, this]
            rw [show e + d + 1 = e + 1 + d by omega]
          · have := (ih m d (e + 1)).2
            rw [th2, thi, th2, thi, th2, thi, this]
            rw [show e + d + 1 = e + 1 + d by omega]
        · have n1 : ∀ c (ys : List Nat), tr l c (x :: ys) = x :: tr l c ys := fun c ys => tr_no x1 x2 ys
          have n2 : ∀ c (ys : List Nat), tr (l + 1) c (x :: ys) = x :: tr (l + 1) c ys := fun c ys => tr_no x2 x3 ys
          refine ⟨?_, ?_⟩
          · rw [n1, n2, n1, n2, n1, n2, (ih m d e).1]
          · rw [n1, n2, n1, n2, n1, n2, (ih m d e).2]
end
section

noncomputable def stF (low : Nat) : Nat → List Nat → List Nat
  | _, [] => []
  | i, x :: xs => if x = low then i :: stF low (i + 1) xs else if x = low + 1 then (stF low (i + 1) xs).tail else stF low (i + 1) xs
noncomputable def bmp (S : List Nat) : Nat → List Nat → List Nat
  | _, [] => []
  | i, x :: xs => (x + if i ∈ S then 1 else 0) :: bmp S (i + 1) xs
theorem if_iff {p q : Prop} [Decidable p] [Decidable q] (h : p ↔ q) : (if p then 1 else 0 : Nat) = if q then 1 else 0 := by
  by_cases a : p
  · rw [if_pos a, if_pos (h.mp a)]
  · rw [if_neg a, if_neg fun b => a (h.mpr b)]
theorem stF_ge (low : Nat) : ∀ (xs : List Nat) (i : Nat), ∀ q ∈ stF low i xs, i ≤ q
  | [], _, q, h => by simp [stF] at h
  | x :: xs, i, q, h => by
    have ih := stF_ge low xs (i + 1)
    unfold stF at h
    split at h
    · rcases List.mem_cons.mp h with h | h
      · omega
      · have := ih q h; omega
    · split at h
      · have := ih q (List.mem_of_mem_tail h); omega
      · have := ih q h; omega
theorem bmp_congr {S S' : List Nat} : ∀ (xs : List Nat) (i : Nat), (∀ p, i ≤ p → (p ∈ S ↔ p ∈ S')) → bmp S i xs = bmp S' i xs
  | [], _, _ => rfl
  | x :: xs, i, h => by
    show (x + if i ∈ S then 1 else 0) :: bmp S (i + 1) xs = (x + if i ∈ S' then 1 else 0) :: bmp S' (i + 1) xs
    rw [bmp_congr xs (i + 1) fun p hp => h p (by omega)]
    congr 2
    exact if_iff (h i (Nat.le_refl _))
theorem tr_bmp (low : Nat) : ∀ (xs : List Nat) (i c : Nat), tr low c xs = bmp ((stF low i xs).drop c) i xs
  | [], i, c => by rw [tr_nil]; rfl
  | x :: xs, i, c => by
    have ih := tr_bmp low xs (i + 1)
    have ge := stF_ge low xs (i + 1)
    have nin : ∀ c, i ∉ (stF low (i + 1) xs).drop c := fun c q => by have := ge i (List.mem_of_mem_drop q); omega
    show _ = (x + if i ∈ _ then 1 else 0) :: bmp _ (i + 1) xs
    by_cases h1 : x = low
    · have e : stF low i (x :: xs) = i :: stF low (i + 1) xs := by rw [stF, if_pos h1]
      rw [e]
      by_cases hc : c = 0
      · subst hc
        rw [tr_lo0 h1 rfl, List.drop_zero, if_pos (.head _), h1, ih 0, List.drop_zero]
        congr 1
        refine bmp_congr xs (i + 1) fun p hp => ?_
        rw [List.mem_cons]
        constructor
        · exact .inr
        · rintro (q | q)
          · omega
          · exact q
      · obtain ⟨c, rfl⟩ : ∃ d, c = d + 1 := ⟨c - 1, by omega⟩
        rw [tr_lo h1 hc, List.drop_succ_cons, if_neg (nin c), h1, ih]
        rfl
    · by_cases h2 : x = low + 1
      · have e : stF low i (x :: xs) = (stF low (i + 1) xs).tail := by rw [stF, if_neg h1, if_pos h2]
        rw [e, tr_hi h2, ← List.drop_one, List.drop_drop, Nat.add_comm 1 c, if_neg (nin (c + 1)), ih]
        rfl
      · have e : stF low i (x :: xs) = stF low (i + 1) xs := by rw [stF, if_neg h1, if_neg h2]
        rw [e, tr_no h1 h2, if_neg (nin c), ih]
        rfl
theorem bmp_range (S : List Nat) : ∀ (xs : List Nat) (i : Nat), bmp S i xs = (List.range xs.length).map fun p => xs.getD p 0 + if i + p ∈ S then 1 else 0
  | [], _ => rfl
  | x :: xs, i => by
    rw [List.length_cons, List.range_succ_eq_map, List.map_cons, List.map_map]
    show (x + if i ∈ S then 1 else 0) :: bmp S (i + 1) xs = _
    rw [bmp_range S xs (i + 1)]
    congr 1
    apply List.map_congr_left
    intro p _
    show _ = (x :: xs).getD (p + 1) 0 + if i + (p + 1) ∈ S then 1 else 0
    rw [show i + (p + 1) = i + 1 + p by omega]
    rfl
theorem pile_st (vs : List Nat) (low : Nat) : ∀ k, k ≤ vs.length → ((leftRun vs low (rng vs.length k) ([], [])).1.map (·.1)).reverse = stF low (vs.length - k) (vs.drop (vs.length - k))
  | 0, _ => by
    rw [List.drop_of_length_le (by omega)]; rfl
  | k + 1, hk => by
    have ih := pile_st vs low k (by omega)
    rw [rng_succ (by omega), leftRun_snoc]
    have hd : vs.drop (vs.length - (k + 1)) = vs.getD (vs.length - 1 - k) 0 :: vs.drop (vs.length - k) := by
      rw [List.drop_eq_getElem_cons (by omega), List.getD_eq_getElem?_getD, List.getElem?_eq_getElem (by omega)]
      simp only [show vs.length - (k + 1) = vs.length - 1 - k by omega, show vs.length - 1 - k + 1 = vs.length - k by omega]
      rfl
    rw [hd, show vs.length - (k + 1) = vs.length - 1 - k by omega]
    generalize hp : vs.length - 1 - k = p at *
    have hp1 : p + 1 = vs.length - k := by omega
    unfold leftStep
    rw [stF, hp1]
    by_cases h1 : vs.getD p 0 = low
    · rw [if_pos h1, if_pos h1, ← ih]
      simp
    · rw [if_neg h1, if_neg h1]
      by_cases h2 : vs.getD p 0 = low + 1
      · rw [if_pos h2, if_pos h2, ← ih]
        simp only [List.map_dropLast, List.tail_reverse]
      · rw [if_neg h2, if_neg h2, ← ih]
theorem turn_tr (vs : List Nat) (low : Nat) : turnF vs low = tr low 0 vs := by
  have h := pile_st vs low vs.length (Nat.le_refl _)
  unfold rng at h
  rw [List.take_of_length_le (by simp), Nat.sub_self, List.drop_zero] at h
  rw [tr_bmp low vs 0 0, List.drop_zero, ← h, bmp_range]
  unfold turnF bumpF bareF leftEnd
  apply List.map_congr_left
  intro p _
  rw [Nat.zero_add]
  congr 1
  exact if_iff (by rw [List.mem_reverse])
end
section

noncomputable def rp (n : Nat) (v : Int) : List Int := List.replicate n v
theorem rp_mem {n : Nat} {v y : Int} (h : y ∈ rp n v) : y = v := (List.mem_replicate.mp h).2
theorem rp_succ (n : Nat) (v : Int) : rp (n + 1) v = v :: rp n v := rfl
theorem rp_snoc (n : Nat) (v : Int) : rp (n + 1) v = rp n v ++ [v] := List.replicate_succ'
theorem bigs_none {row : List Int} {x : Int} (h : ∀ y ∈ row, y ≤ x) : bigs row x = [] := by
  unfold bigs
  rw [List.filter_eq_nil_iff]
  intro y hy
  have := h y hy
  simp; omega
theorem bigs_split {pre post : List Int} {x m : Int} (h1 : ∀ y ∈ pre, y ≤ x) (hm : x < m) (h2 : ∀ y ∈ post, m ≤ y) : bigs (pre ++ m :: post) x = m :: post := by
  unfold bigs
  rw [List.filter_append, List.filter_cons, if_pos (by simpa using hm), List.filter_eq_nil_iff.mpr, List.nil_append, List.filter_eq_self.mpr]
  · intro y hy
    have := h2 y hy
    simp; omega
  · intro y hy
    have := h1 y hy
    simp; omega
theorem minL_head {m : Int} {post : List Int} (h2 : ∀ y ∈ post, m ≤ y) : minL (m :: post) = m := by
  obtain ⟨a, b⟩ := minL_spec (l := m :: post) (by simp)
  have h3 := b m (.head _)
  rcases List.mem_cons.mp a with e | e
  · exact e
  · have := h2 _ e; omega
theorem insGo_app {f : Nat} {rows : List (List Int)} {x : Int} {r : Nat} {row : List Int} (hr : rows.getD r [] = row) (h : ∀ y ∈ row, y ≤ x) : insGo (f + 1) rows x r = (rows.set r (row ++ [x]), r) := by
  subst hr
  rw [insGo, if_pos (bigs_none h)]
theorem insGo_bump {f : Nat} {rows : List (List Int)} {x : Int} {r : Nat} {pre post : List Int} {m : Int} (hr : rows.getD r [] = pre ++ m :: post) (h1 : ∀ y ∈ pre, y ≤ x) (hm : x < m) (h2 : ∀ y ∈ post, m ≤ y) :
    insGo (f + 1) rows x r = insGo f (rows.set r (pre ++ x :: post)) m (r + 1) := by
  rw [insGo, hr, bigs_split h1 hm h2, minL_head h2, if_neg (by simp)]
  have nin : m ∉ pre := fun q => by have := h1 m q; omega
  have hi : (pre ++ m :: post).idxOf m = pre.length := by
    rw [List.idxOf_append, if_neg nin, List.idxOf_cons_self]; omega
  rw [hi, List.set_append_right _ _ (Nat.le_refl _), Nat.sub_self]
  rfl

noncomputable def S1 (a b c d : Nat) : List Int := rp a 1 ++ (rp b 2 ++ (rp c 3 ++ rp d 4))
noncomputable def S2 (e f g : Nat) : List Int := rp e 2 ++ (rp f 3 ++ rp g 4)
noncomputable def S3 (h i : Nat) : List Int := rp h 3 ++ rp i 4
noncomputable def S4 (j : Nat) : List Int := rp j 4
theorem snoc_cons (l : List Int) (v : Int) (t : List Int) (n : Nat) (hl : l = rp n v) : l ++ v :: t = rp (n + 1) v ++ t := by
  rw [hl, rp_snoc]; simp

theorem lev4 (R0 R1 R2 : List Int) (j : Nat) : insGo 1 [R0, R1, R2, S4 j] 4 3 = ([R0, R1, R2, S4 (j + 1)], 3) := by
  rw [insGo_app (row := S4 j) rfl fun y hy => by rw [rp_mem hy]; decide]
  show ([R0, R1, R2, S4 j ++ [4]], 3) = _
  unfold S4; rw [← rp_snoc]
theorem lev3 (z : Nat) (hz : z = 3 ∨ z = 4) (R0 R1 : List Int) (h i j : Nat) : ∃ h' i' j' k, insGo 2 [R0, R1, S3 h i, S4 j] (z : Int) 2 = ([R0, R1, S3 h' i', S4 j'], k) ∧ k ≤ 3 ∧ ∀ xs, tr 1 i ((z - 2) :: xs) = (4 - k) :: tr 1 i' xs := by
  rcases hz with rfl | rfl
  · by_cases hi : i = 0
    · subst hi
      refine ⟨h + 1, 0, j, 2, ?_, by decide, fun xs => ?_⟩
      · rw [insGo_app (row := S3 h 0) rfl fun y hy => ?_]
        · show ([R0, R1, S3 h 0 ++ [3], S4 j], 2) = _
          unfold S3; rw [rp_snoc]; simp [rp]
        · unfold S3 at hy
          rcases List.mem_append.mp hy with hy | hy
          · rw [rp_mem hy]; decide
          · exact absurd hy (by simp [rp])
      · rw [tr_lo0 rfl rfl]
    · obtain ⟨i, rfl⟩ : ∃ i', i = i' + 1 := ⟨i - 1, by omega⟩
      refine ⟨h + 1, i, j + 1, 3, ?_, by decide, fun xs => ?_⟩
      · rw [insGo_bump (pre := rp h 3) (m := 4) (post := rp i 4) rfl (fun y hy => by rw [rp_mem hy]; decide) (by decide) fun y hy => by rw [rp_mem hy]; decide]
        show insGo 1 [R0, R1, rp h 3 ++ (3 : Int) :: rp i 4, S4 j] 4 3 = _
        rw [snoc_cons _ _ _ h rfl]
        exact lev4 R0 R1 _ j
      · rw [tr_lo rfl (by omega)]
        rfl
  · refine ⟨h, i + 1, j, 2, ?_, by decide, fun xs => ?_⟩
    · rw [insGo_app (row := S3 h i) rfl fun y hy => ?_]
      · show ([R0, R1, S3 h i ++ [4], S4 j], 2) = _
        unfold S3; rw [rp_snoc]; simp
      · unfold S3 at hy
        rcases List.mem_append.mp hy with hy | hy <;> (rw [rp_mem hy]; decide)
    · rw [tr_hi rfl]
theorem lev2 (y : Nat) (hy : y = 2 ∨ y = 3 ∨ y = 4) (R0 : List Int) (e f g h i j : Nat) : ∃ e' f' g' h' i' j' k, insGo 3 [R0, S2 e f g, S3 h i, S4 j] (y : Int) 1 = ([R0, S2 e' f' g', S3 h' i', S4 j'], k) ∧ k ≤ 3 ∧
    ∀ xs, tr 1 i (tr 2 g (tr 1 f ((y - 1) :: xs))) = (4 - k) :: tr 1 i' (tr 2 g' (tr 1 f' xs)) := by
  have pass3 : ∀ (c : Nat) xs, tr 1 c (3 :: xs) = 3 :: tr 1 c xs := fun c xs => tr_no (by decide) (by decide) xs
  have pass1 : ∀ (c : Nat) xs, tr 2 c (1 :: xs) = 1 :: tr 2 c xs := fun c xs => tr_no (by decide) (by decide) xs
  rcases hy with rfl | rfl | rfl
  · by_cases hf : f = 0
    · subst hf
      by_cases hg : g = 0
      · subst hg
        refine ⟨e + 1, 0, 0, h, i, j, 1, ?_, by decide, fun xs => ?_⟩
        · rw [insGo_app (row := S2 e 0 0) rfl fun y hy => ?_]
          · show ([R0, S2 e 0 0 ++ [2], S3 h i, S4 j], 1) = _
            unfold S2; rw [rp_snoc]; simp [rp]
          · unfold S2 at hy
            simp only [rp, List.replicate_zero, List.append_nil] at hy
            rw [(List.mem_replicate.mp hy).2]; decide
        · rw [tr_lo0 rfl rfl, tr_lo0 rfl rfl, pass3]
      · obtain ⟨g, rfl⟩ : ∃ g', g = g' + 1 := ⟨g - 1, by omega⟩
        obtain ⟨h', i', j', k, e1, e2, e3⟩ := lev3 4 (.inr rfl) R0 (S2 (e + 1) 0 g) h i j
        refine ⟨e + 1, 0, g, h', i', j', k, ?_, e2, fun xs => ?_⟩
        · rw [insGo_bump (pre := rp e 2) (m := 4) (post := rp g 4) rfl (fun y hy => by rw [rp_mem hy]; decide) (by decide) fun y hy => by rw [rp_mem hy]; decide]
          show insGo 2 [R0, rp e 2 ++ (2 : Int) :: rp g 4, S3 h i, S4 j] 4 2 = _
          rw [snoc_cons _ _ _ e rfl]
          exact e1
        · rw [tr_lo0 rfl rfl, tr_lo rfl (by omega)]
          exact e3 _
    · obtain ⟨f, rfl⟩ : ∃ f', f = f' + 1 := ⟨f - 1, by omega⟩
      obtain ⟨h', i', j', k, e1, e2, e3⟩ := lev3 3 (.inl rfl) R0 (S2 (e + 1) f g) h i j
      refine ⟨e + 1, f, g, h', i', j', k, ?_, e2, fun xs => ?_⟩
      · rw [insGo_bump (pre := rp e 2) (m := 3) (post := rp f 3 ++ rp g 4) rfl (fun y hy => by rw [rp_mem hy]; decide) (by decide) fun y hy => by
          rcases List.mem_append.mp hy with hy | hy <;> (rw [rp_mem hy]; decide)]
        show insGo 2 [R0, rp e 2 ++ (2 : Int) :: (rp f 3 ++ rp g 4), S3 h i, S4 j] 3 2 = _
        rw [snoc_cons _ _ _ e rfl]
        exact e1
      · rw [tr_lo rfl (by omega), pass1]
        exact e3 _
  · by_cases hg : g = 0
    · subst hg
      refine ⟨e, f + 1, 0, h, i, j, 1, ?_, by decide, fun xs => ?_⟩
      · rw [insGo_app (row := S2 e f 0) rfl fun y hy => ?_]
        · show ([R0, S2 e f 0 ++ [3], S3 h i, S4 j], 1) = _
          unfold S2; rw [rp_snoc f]; simp [rp]
        · unfold S2 at hy
          simp only [rp, List.replicate_zero, List.append_nil] at hy
          rcases List.mem_append.mp hy with hy | hy <;> (rw [(List.mem_replicate.mp hy).2]; decide)
      · rw [tr_hi rfl, tr_lo0 rfl rfl, pass3]
    · obtain ⟨g, rfl⟩ : ∃ g', g = g' + 1 := ⟨g - 1, by omega⟩
      obtain ⟨h', i', j', k, e1, e2, e3⟩ := lev3 4 (.inr rfl) R0 (S2 e (f + 1) g) h i j
      refine ⟨e, f + 1, g, h', i', j', k, ?_, e2, fun xs => ?_⟩
      · rw [insGo_bump (pre := rp e 2 ++ rp f 3) (m := 4) (post := rp g 4) (by show S2 e f (g + 1) = _; unfold S2; rw [rp_succ, List.append_assoc]) (fun y hy => by
          rcases List.mem_append.mp hy with hy | hy <;> (rw [rp_mem hy]; decide)) (by decide) fun y hy => by rw [rp_mem hy]; decide]
        show insGo 2 [R0, (rp e 2 ++ rp f 3) ++ (3 : Int) :: rp g 4, S3 h i, S4 j] 4 2 = _
        rw [List.append_assoc, snoc_cons _ _ _ f rfl]
        exact e1
      · rw [tr_hi rfl, tr_lo rfl (by omega)]
        exact e3 _
  · refine ⟨e, f, g + 1, h, i, j, 1, ?_, by decide, fun xs => ?_⟩
    · rw [insGo_app (row := S2 e f g) rfl fun y hy => ?_]
      · show ([R0, S2 e f g ++ [4], S3 h i, S4 j], 1) = _
        unfold S2; rw [rp_snoc g]; simp
      · unfold S2 at hy
        rcases List.mem_append.mp hy with hy | hy
        · rw [rp_mem hy]; decide
        · rcases List.mem_append.mp hy with hy | hy <;> (rw [rp_mem hy]; decide)
    · rw [show 4 - 1 = 3 from rfl, pass3, tr_hi rfl, pass3]
theorem lev1 (x : Nat) (hx : 1 ≤ x ∧ x ≤ 4) (a b c d e f g h i j : Nat) : ∃ a' b' c' d' e' f' g' h' i' j' k, insGo 4 [S1 a b c d, S2 e f g, S3 h i, S4 j] (x : Int) 0 = ([S1 a' b' c' d', S2 e' f' g', S3 h' i', S4 j'], k) ∧ k ≤ 3 ∧
    ∀ xs, tr 1 i (tr 2 g (tr 1 f (tr 3 d (tr 2 c (tr 1 b (x :: xs)))))) = (4 - k) :: tr 1 i' (tr 2 g' (tr 1 f' (tr 3 d' (tr 2 c' (tr 1 b' xs))))) := by
  have p14 : ∀ (c : Nat) xs, tr 1 c (4 :: xs) = 4 :: tr 1 c xs := fun c xs => tr_no (by decide) (by decide) xs
  have p24 : ∀ (c : Nat) xs, tr 2 c (4 :: xs) = 4 :: tr 2 c xs := fun c xs => tr_no (by decide) (by decide) xs
  have p13 : ∀ (c : Nat) xs, tr 1 c (3 :: xs) = 3 :: tr 1 c xs := fun c xs => tr_no (by decide) (by decide) xs
  have p21 : ∀ (c : Nat) xs, tr 2 c (1 :: xs) = 1 :: tr 2 c xs := fun c xs => tr_no (by decide) (by decide) xs
  have p31 : ∀ (c : Nat) xs, tr 3 c (1 :: xs) = 1 :: tr 3 c xs := fun c xs => tr_no (by decide) (by decide) xs
  have p32 : ∀ (c : Nat) xs, tr 3 c (2 :: xs) = 2 :: tr 3 c xs := fun c xs => tr_no (by decide) (by decide) xs
  have le1 : ∀ {n : Nat} {v : Int} {m : Int}, v ≤ m → ∀ y ∈ rp n v, y ≤ m := fun h y hy => rp_mem hy ▸ h
  have ge1 : ∀ {n : Nat} {v : Int} {m : Int}, m ≤ v → ∀ y ∈ rp n v, m ≤ y := fun h y hy => rp_mem hy ▸ h
  have leA : ∀ {l k : List Int} {m : Int}, (∀ y ∈ l, y ≤ m) → (∀ y ∈ k, y ≤ m) → ∀ y ∈ l ++ k, y ≤ m := fun h1 h2 y hy => (List.mem_append.mp hy).elim (h1 y) (h2 y)
  have geA : ∀ {l k : List Int} {m : Int}, (∀ y ∈ l, m ≤ y) → (∀ y ∈ k, m ≤ y) → ∀ y ∈ l ++ k, m ≤ y := fun h1 h2 y hy => (List.mem_append.mp hy).elim (h1 y) (h2 y)
  have le0 : ∀ {v : Int} {m : Int}, ∀ y ∈ rp 0 v, y ≤ m := fun y hy => absurd hy (by simp [rp])
  have : x = 1 ∨ x = 2 ∨ x = 3 ∨ x = 4 := by omega
  rcases this with rfl | rfl | rfl | rfl
  · by_cases hb : b = 0
    · subst hb
      by_cases hc : c = 0
      · subst hc
        by_cases hd : d = 0
        · subst hd
          refine ⟨a + 1, 0, 0, 0, e, f, g, h, i, j, 0, ?_, by decide, fun xs => ?_⟩
          · rw [insGo_app (row := S1 a 0 0 0) rfl (leA (le1 (by decide)) (leA le0 (leA le0 le0)))]
            show ([S1 a 0 0 0 ++ [1], S2 e f g, S3 h i, S4 j], 0) = _
            unfold S1; rw [rp_snoc a]; simp [rp]
          · rw [tr_lo0 rfl rfl, tr_lo0 rfl rfl, tr_lo0 rfl rfl, p14, p24, p14]
        · obtain ⟨d, rfl⟩ : ∃ d', d = d' + 1 := ⟨d - 1, by omega⟩
          obtain ⟨e', f', g', h', i', j', k, e1, e2, e3⟩ := lev2 4 (.inr (.inr rfl)) (S1 (a + 1) 0 0 d) e f g h i j
          refine ⟨a + 1, 0, 0, d, e', f', g', h', i', j', k, ?_, e2, fun xs => ?_⟩
          · rw [insGo_bump (pre := rp a 1) (m := 4) (post := rp d 4) rfl (le1 (by decide)) (by decide) (ge1 (by decide))]
            show insGo 3 [rp a 1 ++ (1 : Int) :: rp d 4, S2 e f g, S3 h i, S4 j] 4 1 = _
            rw [snoc_cons _ _ _ a rfl]
            exact e1
          · rw [tr_lo0 rfl rfl, tr_lo0 rfl rfl, tr_lo rfl (by omega)]
            exact e3 _
      · obtain ⟨c, rfl⟩ : ∃ c', c = c' + 1 := ⟨c - 1, by omega⟩
        obtain ⟨e', f', g', h', i', j', k, e1, e2, e3⟩ := lev2 3 (.inr (.inl rfl)) (S1 (a + 1) 0 c d) e f g h i j
        refine ⟨a + 1, 0, c, d, e', f', g', h', i', j', k, ?_, e2, fun xs => ?_⟩
        · rw [insGo_bump (pre := rp a 1) (m := 3) (post := rp c 3 ++ rp d 4) rfl (le1 (by decide)) (by decide) (geA (ge1 (by decide)) (ge1 (by decide)))]
          show insGo 3 [rp a 1 ++ (1 : Int) :: (rp c 3 ++ rp d 4), S2 e f g, S3 h i, S4 j] 3 1 = _
          rw [snoc_cons _ _ _ a rfl]
          exact e1
        · rw [tr_lo0 rfl rfl, tr_lo rfl (by omega), p32]
          exact e3 _
    · obtain ⟨b, rfl⟩ : ∃ b', b = b' + 1 := ⟨b - 1, by omega⟩
      obtain ⟨e', f', g', h', i', j', k, e1, e2, e3⟩ := lev2 2 (.inl rfl) (S1 (a + 1) b c d) e f g h i j
      refine ⟨a + 1, b, c, d, e', f', g', h', i', j', k, ?_, e2, fun xs => ?_⟩
      · rw [insGo_bump (pre := rp a 1) (m := 2) (post := rp b 2 ++ (rp c 3 ++ rp d 4)) rfl (le1 (by decide)) (by decide) (geA (ge1 (by decide)) (geA (ge1 (by decide)) (ge1 (by decide))))]
        show insGo 3 [rp a 1 ++ (1 : Int) :: (rp b 2 ++ (rp c 3 ++ rp d 4)), S2 e f g, S3 h i, S4 j] 2 1 = _
        rw [snoc_cons _ _ _ a rfl]
        exact e1
      · rw [tr_lo rfl (by omega), p21, p31]
        exact e3 _
  · by_cases hc : c = 0
    · subst hc
      by_cases hd : d = 0
      · subst hd
        refine ⟨a, b + 1, 0, 0, e, f, g, h, i, j, 0, ?_, by decide, fun xs => ?_⟩
        · rw [insGo_app (row := S1 a b 0 0) rfl (leA (le1 (by decide)) (leA (le1 (by decide)) (leA le0 le0)))]
          show ([S1 a b 0 0 ++ [2], S2 e f g, S3 h i, S4 j], 0) = _
          unfold S1; rw [rp_snoc b]; simp [rp]
        · rw [tr_hi rfl, tr_lo0 rfl rfl, tr_lo0 rfl rfl, p14, p24, p14]
      · obtain ⟨d, rfl⟩ : ∃ d', d = d' + 1 := ⟨d - 1, by omega⟩
        obtain ⟨e', f', g', h', i', j', k, e1, e2, e3⟩ := lev2 4 (.inr (.inr rfl)) (S1 a (b + 1) 0 d) e f g h i j
        refine ⟨a, b + 1, 0, d, e', f', g', h', i', j', k, ?_, e2, fun xs => ?_⟩
        · rw [insGo_bump (pre := rp a 1 ++ rp b 2) (m := 4) (post := rp d 4) (by show S1 a b 0 (d + 1) = _; unfold S1; rw [rp_succ]; simp [rp]) (leA (le1 (by decide)) (le1 (by decide))) (by decide) (ge1 (by decide))]
          show insGo 3 [(rp a 1 ++ rp b 2) ++ (2 : Int) :: rp d 4, S2 e f g, S3 h i, S4 j] 4 1 = _
          rw [List.append_assoc, snoc_cons _ _ _ b rfl]
          exact e1
        · rw [tr_hi rfl, tr_lo0 rfl rfl, tr_lo rfl (by omega)]
          exact e3 _
    · obtain ⟨c, rfl⟩ : ∃ c', c = c' + 1 := ⟨c - 1, by omega⟩
      obtain ⟨e', f', g', h', i', j', k, e1, e2, e3⟩ := lev2 3 (.inr (.inl rfl)) (S1 a (b + 1) c d) e f g h i j
      refine ⟨a, b + 1, c, d, e', f', g', h', i', j', k, ?_, e2, fun xs => ?_⟩
      · rw [insGo_bump (pre := rp a 1 ++ rp b 2) (m := 3) (post := rp c 3 ++ rp d 4) (by show S1 a b (c + 1) d = _; unfold S1; rw [rp_succ]; simp) (leA (le1 (by decide)) (le1 (by decide))) (by decide) (geA (ge1 (by decide)) (ge1 (by decide)))]
        show insGo 3 [(rp a 1 ++ rp b 2) ++ (2 : Int) :: (rp c 3 ++ rp d 4), S2 e f g, S3 h i, S4 j] 3 1 = _
        rw [List.append_assoc, snoc_cons _ _ _ b rfl]
        exact e1
      · rw [tr_hi rfl, tr_lo rfl (by omega), p32]
        exact e3 _
  · by_cases hd : d = 0
    · subst hd
      refine ⟨a, b, c + 1, 0, e, f, g, h, i, j, 0, ?_, by decide, fun xs => ?_⟩
      · rw [insGo_app (row := S1 a b c 0) rfl (leA (le1 (by decide)) (leA (le1 (by decide)) (leA (le1 (by decide)) le0)))]
        show ([S1 a b c 0 ++ [3], S2 e f g, S3 h i, S4 j], 0) = _
        unfold S1; rw [rp_snoc c]; simp [rp]
      · rw [p13, tr_hi rfl, tr_lo0 rfl rfl, p14, p24, p14]
    · obtain ⟨d, rfl⟩ : ∃ d', d = d' + 1 := ⟨d - 1, by omega⟩
      obtain ⟨e', f', g', h', i', j', k, e1, e2, e3⟩ := lev2 4 (.inr (.inr rfl)) (S1 a b (c + 1) d) e f g h i j
      refine ⟨a, b, c + 1, d, e', f', g', h', i', j', k, ?_, e2, fun xs => ?_⟩
      · rw [insGo_bump (pre := rp a 1 ++ (rp b 2 ++ rp c 3)) (m := 4) (post := rp d 4) (by show S1 a b c (d + 1) = _; unfold S1; rw [rp_succ]; simp) (leA (le1 (by decide)) (leA (le1 (by decide)) (le1 (by decide)))) (by decide) (ge1 (by decide))]
        show insGo 3 [(rp a 1 ++ (rp b 2 ++ rp c 3)) ++ (3 : Int) :: rp d 4, S2 e f g, S3 h i, S4 j] 4 1 = _
        rw [List.append_assoc, List.append_assoc, snoc_cons _ _ _ c rfl]
        exact e1
      · rw [p13, tr_hi rfl, tr_lo rfl (by omega)]
        exact e3 _
  · refine ⟨a, b, c, d + 1, e, f, g, h, i, j, 0, ?_, by decide, fun xs => ?_⟩
    · rw [insGo_app (row := S1 a b c d) rfl (leA (le1 (by decide)) (leA (le1 (by decide)) (leA (le1 (by decide)) (le1 (by decide)))))]
      show ([S1 a b c d ++ [4], S2 e f g, S3 h i, S4 j], 0) = _
      unfold S1; rw [rp_snoc d]; simp
    · rw [p14, p24, tr_hi rfl, p14, p24, p14]
theorem lines_tr : ∀ (xs : List Nat) (a b c d e f g h i j : Nat) (G : List Int), (∀ x ∈ xs, 1 ≤ x ∧ x ≤ 4) →
    ((nats xs).foldl linesStep ([S1 a b c d, S2 e f g, S3 h i, S4 j], G)).2 = G ++ (tr 1 i (tr 2 g (tr 1 f (tr 3 d (tr 2 c (tr 1 b xs)))))).map fun (o : Nat) => (4 : Int) - (o : Int)
  | [], _, _, _, _, _, _, _, _, _, _, G, _ => by simp [tr_nil, nats]
  | x :: xs, a, b, c, d, e, f, g, h, i, j, G, hx => by
    obtain ⟨a', b', c', d', e', f', g', h', i', j', k, e1, e2, e3⟩ := lev1 x (hx x (.head _)) a b c d e f g h i j
    show ((nats xs).foldl linesStep (linesStep ([S1 a b c d, S2 e f g, S3 h i, S4 j], G) (x : Int))).2 = _
    have : linesStep ([S1 a b c d, S2 e f g, S3 h i, S4 j], G) (x : Int) = ([S1 a' b' c' d', S2 e' f' g', S3 h' i', S4 j'], G ++ [(k : Int)]) := by
      unfold linesStep; rw [e1]
    rw [this, lines_tr xs a' b' c' d' e' f' g' h' i' j' _ fun y hy => hx y (.tail _ hy), e3, List.map_cons, List.append_assoc]
    congr 1
    show (k : Int) :: _ = _
    congr 1
    omega
theorem lines_word (vs : List Nat) (h : ∀ x ∈ vs, 1 ≤ x ∧ x ≤ 4) : linesF (nats vs) = (tr 1 0 (tr 2 0 (tr 1 0 (tr 3 0 (tr 2 0 (tr 1 0 vs)))))).map fun (o : Nat) => (4 : Int) - (o : Int) := by
  have := lines_tr vs 0 0 0 0 0 0 0 0 0 0 [] h
  rw [List.nil_append] at this
  exact this
end
section

noncomputable def T (l : Nat) (xs : List Nat) : List Nat := tr l 0 xs
theorem comm13 (xs : List Nat) : T 1 (T 3 xs) = T 3 (T 1 xs) := tr_comm (by decide) xs 0 0
theorem br1 (xs : List Nat) : T 1 (T 2 (T 1 xs)) = T 2 (T 1 (T 2 xs)) := (tr_braid0 1 xs 0 0 0).1
theorem br2 (xs : List Nat) : T 2 (T 3 (T 2 xs)) = T 3 (T 2 (T 3 xs)) := (tr_braid0 2 xs 0 0 0).1
theorem turnK_T (vs : List Nat) (k : Nat) : turnK vs (k : Int) = T k vs := by
  show turnF vs (k : Int).toNat = _
  rw [Int.toNat_natCast, turn_tr]; rfl
theorem w0 (vs : List Nat) : T 1 (T 2 (T 3 (T 1 (T 2 (T 1 vs))))) = T 1 (T 2 (T 1 (T 3 (T 2 (T 1 vs))))) := by
  rw [← comm13 (T 2 (T 1 vs))]
theorem w1 (vs : List Nat) : T 1 (T 2 (T 1 (T 3 (T 2 (T 1 vs))))) = T 1 (T 2 (T 1 (T 3 (T 2 (T 1 vs))))) := by
  rfl
theorem w2 (vs : List Nat) : T 2 (T 1 (T 2 (T 3 (T 2 (T 1 vs))))) = T 1 (T 2 (T 1 (T 3 (T 2 (T 1 vs))))) := by
  rw [← br1 (T 3 (T 2 (T 1 vs)))]
theorem w3 (vs : List Nat) : T 2 (T 3 (T 1 (T 2 (T 3 (T 1 vs))))) = T 1 (T 2 (T 1 (T 3 (T 2 (T 1 vs))))) := by
  rw [← comm13 (T 2 (T 3 (T 1 vs))), ← br2 (T 1 vs), ← br1 (T 3 (T 2 (T 1 vs)))]
theorem w4 (vs : List Nat) : T 2 (T 1 (T 3 (T 2 (T 3 (T 1 vs))))) = T 1 (T 2 (T 1 (T 3 (T 2 (T 1 vs))))) := by
  rw [← br2 (T 1 vs), ← br1 (T 3 (T 2 (T 1 vs)))]
theorem w5 (vs : List Nat) : T 1 (T 2 (T 3 (T 2 (T 1 (T 2 vs))))) = T 1 (T 2 (T 1 (T 3 (T 2 (T 1 vs))))) := by
  rw [← br1 vs, ← comm13 (T 2 (T 1 vs))]
theorem w6 (vs : List Nat) : T 3 (T 1 (T 2 (T 3 (T 1 (T 2 vs))))) = T 1 (T 2 (T 1 (T 3 (T 2 (T 1 vs))))) := by
  rw [← comm13 (T 2 (T 3 (T 1 (T 2 vs)))), ← br2 (T 1 (T 2 vs)), ← br1 vs, ← comm13 (T 2 (T 1 vs))]
theorem w7 (vs : List Nat) : T 1 (T 3 (T 2 (T 3 (T 1 (T 2 vs))))) = T 1 (T 2 (T 1 (T 3 (T 2 (T 1 vs))))) := by
  rw [← br2 (T 1 (T 2 vs)), ← br1 vs, ← comm13 (T 2 (T 1 vs))]
theorem w8 (vs : List Nat) : T 3 (T 1 (T 2 (T 1 (T 3 (T 2 vs))))) = T 1 (T 2 (T 1 (T 3 (T 2 (T 1 vs))))) := by
  rw [comm13 (T 2 vs), ← comm13 (T 2 (T 3 (T 1 (T 2 vs)))), ← br2 (T 1 (T 2 vs)), ← br1 vs, ← comm13 (T 2 (T 1 vs))]
theorem w9 (vs : List Nat) : T 1 (T 3 (T 2 (T 1 (T 3 (T 2 vs))))) = T 1 (T 2 (T 1 (T 3 (T 2 (T 1 vs))))) := by
  rw [comm13 (T 2 vs), ← br2 (T 1 (T 2 vs)), ← br1 vs, ← comm13 (T 2 (T 1 vs))]
theorem w10 (vs : List Nat) : T 3 (T 2 (T 1 (T 2 (T 3 (T 2 vs))))) = T 1 (T 2 (T 1 (T 3 (T 2 (T 1 vs))))) := by
  rw [← br1 (T 3 (T 2 vs)), comm13 (T 2 vs), ← comm13 (T 2 (T 3 (T 1 (T 2 vs)))), ← br2 (T 1 (T 2 vs)), ← br1 vs, ← comm13 (T 2 (T 1 vs))]
theorem w11 (vs : List Nat) : T 2 (T 3 (T 1 (T 2 (T 1 (T 3 vs))))) = T 1 (T 2 (T 1 (T 3 (T 2 (T 1 vs))))) := by
  rw [comm13 vs, ← comm13 (T 2 (T 3 (T 1 vs))), ← br2 (T 1 vs), ← br1 (T 3 (T 2 (T 1 vs)))]
theorem w12 (vs : List Nat) : T 2 (T 1 (T 3 (T 2 (T 1 (T 3 vs))))) = T 1 (T 2 (T 1 (T 3 (T 2 (T 1 vs))))) := by
  rw [comm13 vs, ← br2 (T 1 vs), ← br1 (T 3 (T 2 (T 1 vs)))]
theorem w13 (vs : List Nat) : T 2 (T 3 (T 2 (T 1 (T 2 (T 3 vs))))) = T 1 (T 2 (T 1 (T 3 (T 2 (T 1 vs))))) := by
  rw [← br1 (T 3 vs), comm13 vs, ← comm13 (T 2 (T 3 (T 1 vs))), ← br2 (T 1 vs), ← br1 (T 3 (T 2 (T 1 vs)))]
theorem w14 (vs : List Nat) : T 3 (T 2 (T 3 (T 1 (T 2 (T 3 vs))))) = T 1 (T 2 (T 1 (T 3 (T 2 (T 1 vs))))) := by
  rw [← br2 (T 1 (T 2 (T 3 vs))), ← br1 (T 3 vs), comm13 vs, ← comm13 (T 2 (T 3 (T 1 vs))), ← br2 (T 1 vs), ← br1 (T 3 (T 2 (T 1 vs)))]
theorem w15 (vs : List Nat) : T 3 (T 2 (T 1 (T 3 (T 2 (T 3 vs))))) = T 1 (T 2 (T 1 (T 3 (T 2 (T 1 vs))))) := by
  rw [comm13 (T 2 (T 3 vs)), ← br2 (T 1 (T 2 (T 3 vs))), ← br1 (T 3 vs), comm13 vs, ← comm13 (T 2 (T 3 (T 1 vs))), ← br2 (T 1 vs), ← br1 (T 3 (T 2 (T 1 vs)))]
theorem words_ok : (reachK 6).map (·.2) = [[1, 2, 1, 3, 2, 1], [1, 2, 3, 1, 2, 1], [1, 2, 3, 2, 1, 2], [1, 3, 2, 1, 3, 2], [1, 3, 2, 3, 1, 2], [2, 1, 2, 3, 2, 1], [2, 1, 3, 2, 1, 3], [2, 1, 3, 2, 3, 1], [2, 3, 1, 2, 1, 3], [2, 3, 1, 2, 3, 1], [2, 3, 2, 1, 2, 3], [3, 1, 2, 1, 3, 2], [3, 1, 2, 3, 1, 2], [3, 2, 1, 2, 3, 2], [3, 2, 1, 3, 2, 3], [3, 2, 3, 1, 2, 3]] := by decide +kernel
theorem kinds_word (l : List Int) (hl : l.length = 6) (vs : List Nat) : (kindsF l).foldl turnK vs = T 1 (T 2 (T 1 (T 3 (T 2 (T 1 vs))))) := by
  obtain ⟨r, h⟩ := reach6 l hl
  have h2 : kindsF l ∈ (reachK 6).map (·.2) := List.mem_map.mpr ⟨_, h, rfl⟩
  rw [words_ok] at h2
  generalize kindsF l = ks at h2
  have one : ∀ (v : List Nat) , turnK v (1 : Int) = T 1 v := fun v => turnK_T v 1
  have two : ∀ (v : List Nat) , turnK v (2 : Int) = T 2 v := fun v => turnK_T v 2
  have three : ∀ (v : List Nat) , turnK v (3 : Int) = T 3 v := fun v => turnK_T v 3
  simp only [List.mem_cons, List.not_mem_nil, or_false] at h2
  rcases h2 with rfl | rfl | rfl | rfl | rfl | rfl | rfl | rfl | rfl | rfl | rfl | rfl | rfl | rfl | rfl | rfl
  · simp only [List.foldl_cons, List.foldl_nil, one, two, three]
    exact w0 vs
  · simp only [List.foldl_cons, List.foldl_nil, one, two, three]
  · simp only [List.foldl_cons, List.foldl_nil, one, two, three]
    exact w2 vs
  · simp only [List.foldl_cons, List.foldl_nil, one, two, three]
    exact w3 vs
  · simp only [List.foldl_cons, List.foldl_nil, one, two, three]
    exact w4 vs
  · simp only [List.foldl_cons, List.foldl_nil, one, two, three]
    exact w5 vs
  · simp only [List.foldl_cons, List.foldl_nil, one, two, three]
    exact w6 vs
  · simp only [List.foldl_cons, List.foldl_nil, one, two, three]
    exact w7 vs
  · simp only [List.foldl_cons, List.foldl_nil, one, two, three]
    exact w8 vs
  · simp only [List.foldl_cons, List.foldl_nil, one, two, three]
    exact w9 vs
  · simp only [List.foldl_cons, List.foldl_nil, one, two, three]
    exact w10 vs
  · simp only [List.foldl_cons, List.foldl_nil, one, two, three]
    exact w11 vs
  · simp only [List.foldl_cons, List.foldl_nil, one, two, three]
    exact w12 vs
  · simp only [List.foldl_cons, List.foldl_nil, one, two, three]
    exact w13 vs
  · simp only [List.foldl_cons, List.foldl_nil, one, two, three]
    exact w14 vs
  · simp only [List.foldl_cons, List.foldl_nil, one, two, three]
    exact w15 vs
theorem lawF_true (ns : List Int) : lawF ns = true := by
  unfold lawF
  rw [decide_eq_true_eq]
  have hkl : ((numsF ns).drop 8).length = 6 := by rw [List.length_drop, numsF_length]
  rw [kinds_word _ hkl, ← nats_vals, lines_word _ fun x hx => valsF_mem hx, List.map_map]
  show dots _ = _
  unfold dots
  apply List.map_congr_left
  intro o _
  show dt o = dt (4 - (4 - (o : Int))).toNat
  congr 1
  omega
end
section

noncomputable def dictOf (o : Obj) : Array DictEntry := match o.data with | .dict es _ => es | _ => #[]
noncomputable def epOf (o : Obj) : Nat := match o.data with | .dict _ n => n | _ => 0
noncomputable def fdOf (o : Obj) : FuncData := match o.data with | .func f => f | _ => default
noncomputable def fldsOf (o : Obj) : Array Value := match o.data with | .fields vs => vs | _ => #[]
noncomputable def seqOf (o : Obj) : Array Value := match o.data with | .seq vs _ => vs | _ => #[]
noncomputable def epS (o : Obj) : Nat := match o.data with | .seq _ n => n | _ => 0
noncomputable def tokOf (v : Option Value) : Tok := match v with | some (.str _ t) => t | some (.int _ t) => t | _ => 0
theorem ns_at {h : Heap} {a : Addr} {o : Obj} (e : h.get? a = some o) (hd : o.data = .dict (dictOf o) (epOf o)) (hk : ((dictOf o).all fun e => match e.key with | .str _ _ => true | _ => false) = true) : h.Ns a (nsFind (dictOf o)) := by
  have x : h.isNs a = true := by
    unfold Heap.isNs
    rw [e]
    show (match o.data with | .dict es _ => es.all (fun e => match e.key with | .str _ _ => true | _ => false) | _ => false) = true
    rw [hd]
    exact hk
  have y := Heap.Ns.of_isNs x
  have : h.nsMap a = nsFind (dictOf o) := by
    funext n
    unfold Heap.nsMap
    rw [e]
    show (match o.data with | .dict es _ => nsFind es n | _ => none) = _
    rw [hd]
  rwa [this] at y
theorem ns_of {h : Heap} {a : Addr} {m : Str → Option Value} {o : Obj} (g : h.Ns a m) (e : h.get? a = some o) (n : Str) : m n = nsFind (dictOf o) n := by
  obtain ⟨o', es, ep, e', d, _, f⟩ := g
  rw [e] at e'
  cases e'
  rw [← f n]
  unfold dictOf
  rw [d]
theorem code_of {h : Heap} {c : Addr} {o : Obj} {q : Str} (e : h.get? c = some o) (hd : o.data = .fields (fldsOf o)) (h1 : (fldsOf o)[1]? = some (.str q (tokOf (fldsOf o)[1]?))) : h.CodeRec (.ref c) q := ⟨c, o, _, _, rfl, e, hd, h1⟩
theorem defAt_of {h : Heap} {mg : Str → Option Value} {name : Str} {params : Arguments} {body : List Stmt} {scope : Scope} {a c : Addr} {oF oC : Obj} (hm : mg name = some (.ref a)) (e1 : h.get? a = some oF) (e3 : h.get? c = some oC)
    (e2 : oF.data = .func (Calls.docDef name params body scope (fdOf oF).pyModule (.ref c) (fdOf oF).doc)) (hd : oC.data = .fields (fldsOf oC)) (h1 : (fldsOf oC)[1]? = some (.str name (tokOf (fldsOf oC)[1]?))) : DefAt h mg name params body scope a :=
  ⟨hm, oF, _, _, _, e1, e2, code_of e3 hd h1⟩
theorem meth_of {h : Heap} {f c : Addr} {name qual : Str} {params : Arguments} {body : List Stmt} {scope : Scope} {cl : List (Str × Addr)} {dV : Value} {oF oC : Obj} (e1 : h.get? f = some oF) (e3 : h.get? c = some oC) (hc : oF.cls = .type "function")
    (e2 : oF.data = .func (fnX name qual params body scope cl dV .none (fdOf oF).doc (fdOf oF).pyModule none (.ref c) (fdOf oF).closureTuple)) (hd : oC.data = .fields (fldsOf oC)) (h1 : (fldsOf oC)[1]? = some (.str qual (tokOf (fldsOf oC)[1]?)))
    (h2 : (fldsOf oC)[2]? = some (.str "/claim/cut.py" (tokOf (fldsOf oC)[2]?))) : Meth h f name qual params body scope cl dV :=
  ⟨oF, _, _, c, _, oC, fldsOf oC, _, e1, hc, e2, code_of e3 hd h1, e3, hd, h2⟩
noncomputable def clsOf (o : Obj) : ClassData := match o.data with | .cls c => c | _ => default
noncomputable def intOf (v : Value) : Int := match v with | .int i _ => i | _ => 0
noncomputable def tokV (v : Value) : Tok := match v with | .str _ t => t | .int _ t => t | _ => 0
noncomputable abbrev patObj (o : Obj) (c : Addr) : Obj := { cls := .type "re.Pattern", data := .fields #[(fldsOf o).getD 0 .none, .int (intOf ((fldsOf o).getD 1 .none)) (tokV ((fldsOf o).getD 1 .none)), .int 0 (tokV ((fldsOf o).getD 2 .none)), .none, .none, .ref c, .int 0 (tokV ((fldsOf o).getD 6 .none))] }
theorem pat_of {h : Heap} {P c : Addr} {oP oC : Obj} {code : Array Nat} (e1 : h.get? P = some oP) (e2 : h.get? c = some oC) (d1 : oP = patObj oP c) (d2 : oC = { cls := .type "tuple", data := .seq (seqOf oC) (epS oC) }) (d3 : ((seqOf oC).map PySem.Builtin.Re.reRawOf).map (·.toNat) = code) : PatAt h P code :=
  ⟨_, _, _, _, _, c, _, _, e1.trans (congrArg some d1), e2.trans (congrArg some d2), d3⟩
theorem cls_of {h : Heap} {C N : Addr} {oC oN : Obj} (e1 : h.get? C = some oC) (e2 : h.get? N = some oN)
    (d1 : oC = excClassObj (clsOf oC).name (clsOf oC).qualname C N (clsOf oC).bases [.type "list", .type "object"] true (clsOf oC).slotNames (clsOf oC).subclasses (clsOf oC).abstract (clsOf oC).collection oC.dict (oC.slots.getD 0 none) (oC.slots.getD 1 none) (oC.slots.getD 2 none) (oC.slots.getD 3 none) (oC.slots.getD 5 none) "list.__new__")
    (hd : oN.data = .dict (dictOf oN) (epOf oN)) (hk : ((dictOf oN).all fun e => match e.key with | .str _ _ => true | _ => false) = true)
    (g1 : nsFind (dictOf oN) "__getattribute__" = none) (g2 : nsFind (dictOf oN) "__getattr__" = none) : Cls h C N (nsFind (dictOf oN)) :=
  ⟨⟨_, _, _, _, _, _, _, _, _, _, _, _, _, e1.trans (congrArg some d1)⟩, ns_at e2 hd hk, g1, g2⟩
theorem zero_of {h : Heap} {T : Addr} {o : Obj} (e : h.get? T = some o) (d : o.data = .seq #[.int 0 (tokV ((seqOf o).getD 0 .none))] (epS o)) : ∃ o n t, h.get? T = some o ∧ o.data = .seq #[.int 0 t] n := ⟨o, _, _, e, d⟩
theorem qn_of {h : Heap} {C : Addr} {o : Obj} (e : h.get? C = some o) (d : o.data = .cls (clsOf o)) (q : (clsOf o).qualname = "_Accumulator") (c : o.cls = .type "type") : ∃ o cd, h.get? C = some o ∧ o.data = .cls cd ∧ cd.qualname = "_Accumulator" ∧ o.cls = .type "type" := ⟨o, _, e, d, q, c⟩
theorem cell_of {h : Heap} {c : Addr} {o : Obj} {v : Option Value} (e : h.get? c = some o) (d : o.data = .cell v) : h.IsCell c v := ⟨o, e, d⟩
end
section
section
variable {prog : Program} {w : World} {h₀ : Heap} {mg mb : Str → Option Value} {C Nn cc : Addr} {mN : Str → Option Value}
theorem law_fn (G : Glb h₀ mg mb) (N : Nms mg) (K : AccN prog w h₀ mg C Nn cc mN) (P : Pats h₀ mg) (D : Defs h₀ mg) (a : Addr) (L : DefAt h₀ mg "law" (fnA 21) (fnB 21) (fnS 21) a) (ns : List Int) (hlen : ns.length ≤ 63) :
    Fn prog w h₀ 23 (.ref a) [.lst (iPV ns)] (.bool true) := by
  have hb := law_body (prog := prog) (w := w) G N K P D a ns hlen
  rw [lawF_true] at hb
  with_reducible refine' Fn_of ["script"] G L ?hz ?hl hb ?hb ?hn ?hk ?h1 ?h2 ?h3
  case hz => rfl
  case hl => rfl
  case hn => decide
  case hb =>
    intro pm code doc vs hv
    obtain ⟨x, rfl⟩ := vlen1 hv
    kernel_rfl!
  all_goals kernel_rfl!
theorem room_caller : Room callerA 23 := ⟨rfl, by decide, by decide⟩
theorem law_call {s₁ : Shared} {a b : Addr} {vs : List Value} (G : Glb s₁.heap mg mb) (N : Nms mg) (K : AccN prog w s₁.heap mg C Nn cc mN) (P : Pats s₁.heap mg) (D : Defs s₁.heap mg) (L : DefAt s₁.heap mg "law" (fnA 21) (fnB 21) (fnS 21) a) (ns : List Int) (hlen : ¬ ((63 : Nat) : Int) < (ns.length : Int))
    (e : s₁.heap.get? b = some { cls := .type "list", data := .seq vs.toArray }) (hi : IntsAre vs ns) :
    wpAny (model prog w) callerA (call (.ref a) [.ref b]) (fun v s' => Keeps s₁ s' ∧ v = .bool true) NoE s₁ := by
  have r : ∀ {vs : List Value} {ns : List Int}, IntsAre vs ns → RdL s₁.heap (fun _ => False) vs (iPV ns) := by
    intro vs ns h
    induction h with
    | nil => exact .nil
    | cons n t _ ih => exact .cons (.int n t) ih
  refine wpAny_mono (law_fn G N K P D a L ns (by omega) (fun _ => False) callerA s₁ [.ref b] ⟨fun _ _ e => e, fun _ q => q.elim⟩ room_caller (.cons (.lst (n := 0) e id (r hi)) .nil)) (fun v s' h => ⟨h.1, h.2.isBool⟩) fun _ _ e => e
end
end
end Mine
end
open PySem PySem.W PySem.W.X PyProof.Rows
open Mine in
set_option maxRecDepth 100000 in
set_option maxHeartbeats 0 in
theorem PySem.Challenge.cw_xj0004_01_holds : PySem.Challenge.rw_xj0004_01.Holds := by
  w_on; o_law; z_head
  case hw => w_witness2
  k_fill
  intro w s₀ s₁ mg mb G y fa o pm cd doc dV kV ho hd hcd hD hmg hg args vals as L hpre hlay hrd hwl hlo
  z_open y L KX ZH ZN ZT
  refine Ground.open G ?_
  intro T B D TE TW
  wrow_args hpre hlay hrd hwl hlo
  obtain ⟨hat, hsz⟩ := script_at L
  have htk := script_toks L ZT
  rw [ZN] at hat hsz
  subst hat
  x_fa T KX hmg
  all_lens
  clear ZH y hcd hD hd ho hmg B D TE TW
  rename_i ns hs hlay0 hL1 hr1 hl2 was was2 vs0 was3 ra hr hcond hcond2 hL w1 r0 hi9 hb9
  have g := T.g
  have GG : Glb s₁.heap mg mb := ⟨T.g, T.b, T.builtins, T.nolimit⟩
  have e3 := KX 3 _ rfl
  have N : Nms mg := ⟨(ns_of g e3 "sum").trans (by kernel_rfl!), (ns_of g e3 "range").trans (by kernel_rfl!), (ns_of g e3 "len").trans (by kernel_rfl!), (ns_of g e3 "list").trans (by kernel_rfl!), (ns_of g e3 "min").trans (by kernel_rfl!),
    (ns_of g e3 "max").trans (by kernel_rfl!), (ns_of g e3 "enumerate").trans (by kernel_rfl!), (ns_of g e3 "isinstance").trans (by kernel_rfl!), (ns_of g e3 "bool").trans (by kernel_rfl!), (ns_of g e3 "super").trans (by kernel_rfl!)⟩
  have P : Pats s₁.heap mg := ⟨⟨43, (ns_of g e3 "_twin_re_1").trans (by kernel_rfl!), pat_of (KX 43 _ rfl) (KX 42 _ rfl) (by kernel_rfl!) (by kernel_rfl!) (by kernel_rfl!)⟩,
    ⟨48, (ns_of g e3 "_twin_re_2").trans (by kernel_rfl!), pat_of (KX 48 _ rfl) (KX 47 _ rfl) (by kernel_rfl!) (by kernel_rfl!) (by kernel_rfl!)⟩, ⟨349, (ns_of g e3 "CRLF").trans (by kernel_rfl!)⟩⟩
  have dq : DefAt s₁.heap mg "quotedata" (fnA 6) (fnB 6) (fnS 6) 55 := defAt_of ((ns_of g e3 "quotedata").trans (by kernel_rfl!)) (KX 55 _ rfl) (KX 54 _ rfl) (by kernel_rfl!) (by kernel_rfl!) (by kernel_rfl!)
  have dc : DefAt s₁.heap mg "_strcoll" (fnA 11) (fnB 11) (fnS 11) 146 := defAt_of ((ns_of g e3 "_strcoll").trans (by kernel_rfl!)) (KX 146 _ rfl) (KX 145 _ rfl) (by kernel_rfl!) (by kernel_rfl!) (by kernel_rfl!)
  have dp : DefAt s₁.heap mg "_strip_padding" (fnA 12) (fnB 12) (fnS 12) 153 := defAt_of ((ns_of g e3 "_strip_padding").trans (by kernel_rfl!)) (KX 153 _ rfl) (KX 152 _ rfl) (by kernel_rfl!) (by kernel_rfl!) (by kernel_rfl!)
  have dnu : DefAt s₁.heap mg "_law_numbers" (fnA 14) (fnB 14) (fnS 14) 158 := defAt_of ((ns_of g e3 "_law_numbers").trans (by kernel_rfl!)) (KX 158 _ rfl) (KX 157 _ rfl) (by kernel_rfl!) (by kernel_rfl!) (by kernel_rfl!)
  have dki : DefAt s₁.heap mg "_law_kinds" (fnA 15) (fnB 15) (fnS 15) 163 := defAt_of ((ns_of g e3 "_law_kinds").trans (by kernel_rfl!)) (KX 163 _ rfl) (KX 162 _ rfl) (by kernel_rfl!) (by kernel_rfl!) (by kernel_rfl!)
  have dma : DefAt s₁.heap mg "_law_mate" (fnA 16) (fnB 16) (fnS 16) 170 := defAt_of ((ns_of g e3 "_law_mate").trans (by kernel_rfl!)) (KX 170 _ rfl) (KX 169 _ rfl) (by kernel_rfl!) (by kernel_rfl!) (by kernel_rfl!)
  have ddu : DefAt s₁.heap mg "_law_due" (fnA 17) (fnB 17) (fnS 17) 175 := defAt_of ((ns_of g e3 "_law_due").trans (by kernel_rfl!)) (KX 175 _ rfl) (KX 174 _ rfl) (by kernel_rfl!) (by kernel_rfl!) (by kernel_rfl!)
  have dle : DefAt s₁.heap mg "_law_left" (fnA 18) (fnB 18) (fnS 18) 180 := defAt_of ((ns_of g e3 "_law_left").trans (by kernel_rfl!)) (KX 180 _ rfl) (KX 179 _ rfl) (by kernel_rfl!) (by kernel_rfl!) (by kernel_rfl!)
  have dse : DefAt s₁.heap mg "_law_sent" (fnA 19) (fnB 19) (fnS 19) 185 := defAt_of ((ns_of g e3 "_law_sent").trans (by kernel_rfl!)) (KX 185 _ rfl) (KX 184 _ rfl) (by kernel_rfl!) (by kernel_rfl!) (by kernel_rfl!)
  have dli : DefAt s₁.heap mg "_law_lines" (fnA 20) (fnB 20) (fnS 20) 190 := defAt_of ((ns_of g e3 "_law_lines").trans (by kernel_rfl!)) (KX 190 _ rfl) (KX 189 _ rfl) (by kernel_rfl!) (by kernel_rfl!) (by kernel_rfl!)
  have dlaw : DefAt s₁.heap mg "law" (fnA 21) (fnB 21) (fnS 21) 195 := defAt_of ((ns_of g e3 "law").trans (by kernel_rfl!)) (KX 195 _ rfl) (KX 194 _ rfl) (by kernel_rfl!) (by kernel_rfl!) (by kernel_rfl!)
  have D : Defs s₁.heap mg := ⟨55, 146, 153, 158, 163, 170, 175, 180, 185, 190, dq, dc, dp, dnu, dki, dma, ddu, dle, dse, dli⟩
  have KC := cls_of (h := s₁.heap) (C := 135) (N := 134) (KX 135 _ rfl) (KX 134 _ rfl) (by kernel_rfl!) (by kernel_rfl!) (by kernel_rfl!) (by kernel_rfl!) (by kernel_rfl!)
  have U : SupOk PySem.Challenge.rw_xj0004_01.row.prog w s₁.heap mg 135 59 := ⟨by kernel_rfl!, by kernel_rfl!, Looks.of_peek KX (by kernel_rfl!), cell_of (KX 59 _ rfl) (by kernel_rfl!), N.super, qn_of (KX 135 _ rfl) (by kernel_rfl!) (by kernel_rfl!) (by kernel_rfl!)⟩
  have M0 : Meth s₁.heap 72 "__init__" "_Accumulator.__init__" (acA 0) (acB 0) (acS 0) [("__class__", 59)] (.ref 64) := meth_of (KX 72 _ rfl) (KX 71 _ rfl) (by kernel_rfl!) (by kernel_rfl!) (by kernel_rfl!) (by kernel_rfl!) (by kernel_rfl!)
  have M1 : Meth s₁.heap 79 "push" "_Accumulator.push" (acA 1) (acB 1) (acS 1) [] .none := meth_of (KX 79 _ rfl) (KX 78 _ rfl) (by kernel_rfl!) (by kernel_rfl!) (by kernel_rfl!) (by kernel_rfl!) (by kernel_rfl!)
  have M2 : Meth s₁.heap 87 "pop_from" "_Accumulator.pop_from" (acA 2) (acB 2) (acS 2) [] (.ref 80) := meth_of (KX 87 _ rfl) (KX 86 _ rfl) (by kernel_rfl!) (by kernel_rfl!) (by kernel_rfl!) (by kernel_rfl!) (by kernel_rfl!)
  have M3 : Meth s₁.heap 95 "pop" "_Accumulator.pop" (acA 3) (acB 3) (acS 3) [("__class__", 59)] .none := meth_of (KX 95 _ rfl) (KX 94 _ rfl) (by kernel_rfl!) (by kernel_rfl!) (by kernel_rfl!) (by kernel_rfl!) (by kernel_rfl!)
  have M8 : Meth s₁.heap 132 "part_count" "_Accumulator.part_count" (acA 8) (acB 8) (acS 8) [("__class__", 59)] .none := meth_of (KX 132 _ rfl) (KX 131 _ rfl) (by kernel_rfl!) (by kernel_rfl!) (by kernel_rfl!) (by kernel_rfl!) (by kernel_rfl!)
  have K : AccN PySem.Challenge.rw_xj0004_01.row.prog w s₁.heap mg 135 134 59 _ := ⟨KC, (ns_of g e3 "_Accumulator").trans (by kernel_rfl!), U, ⟨by kernel_rfl!, by kernel_rfl!, by kernel_rfl!, by kernel_rfl!, by kernel_rfl!⟩,
    ⟨72, 64, by kernel_rfl!, M0, zero_of (KX 64 _ rfl) (by kernel_rfl!)⟩, ⟨79, by kernel_rfl!, M1⟩, ⟨87, 80, by kernel_rfl!, M2, zero_of (KX 80 _ rfl) (by kernel_rfl!)⟩, ⟨95, by kernel_rfl!, M3⟩, ⟨132, by kernel_rfl!, M8⟩⟩
  have e196 := script_obj L hL
  refine wpAny_mono (law_call GG N K P D dlaw ns hcond e196 hi9) (fun v s' hv => ?_) fun _ _ e => e.elim
  obtain ⟨⟨h', tk, rfl, kk⟩, rfl⟩ := hv
  refine ⟨.inl ⟨_, .bool true, [], rfl, ?hra, .bool true, ?hpo, fun _ => ⟨List.nodup_nil, fun a ha => nomatch ha⟩⟩, .of_keep kk, rfl, .of_eq hg⟩
  case hra =>
    intro c
    kernel_rfl!
  case hpo =>
    kernel_rfl!
