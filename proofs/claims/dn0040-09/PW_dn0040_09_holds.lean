import PyProof.Rows.All
import Wide.All
import OpenK.AllK
import Wide.FinOn
import PySem.Challenge.RW_dn0040_09
open PySem PySem.W PyProof.Rows
set_option Elab.async false
set_option linter.all false
set_option maxRecDepth 100000
set_option maxHeartbeats 8000000
section -- F1
namespace Mine

/-- values without their tokens -/
inductive V where
  | undef | none | bool (b : Bool) | int (i : Int) | flt (b : UInt64) | str (s : Str) | typ (n : String) | bi (id : String) | ref (a : Addr)

noncomputable def ab : Value → V
  | .none => .none
  | .bool b => .bool b
  | .int i _ => .int i
  | .float b _ => .flt b
  | .str s _ => .str s
  | .type n => .typ n
  | .builtin i => .bi i
  | .ref a => .ref a
  | _ => .undef

theorem ab_int {v : Value} {i : Int} (h : ab v = .int i) : ∃ t, v = .int i t := by
  cases v <;> simp [ab] at h; subst h; exact ⟨_, rfl⟩
theorem ab_bool {v : Value} {b : Bool} (h : ab v = .bool b) : v = .bool b := by
  cases v <;> simp [ab] at h; subst h; rfl
theorem ab_none {v : Value} (h : ab v = .none) : v = .none := by
  cases v <;> simp [ab] at h; rfl
theorem ab_ref {v : Value} {a : Addr} (h : ab v = .ref a) : v = .ref a := by
  cases v <;> simp [ab] at h; subst h; rfl
theorem ab_bi {v : Value} {a : String} (h : ab v = .bi a) : v = .builtin a := by
  cases v <;> simp [ab] at h; subst h; rfl
theorem ab_typ {v : Value} {a : String} (h : ab v = .typ a) : v = .type a := by
  cases v <;> simp [ab] at h; subst h; rfl
theorem ab_str {v : Value} {x : Str} (h : ab v = .str x) : ∃ t, v = .str x t := by
  cases v <;> simp [ab] at h; subst h; exact ⟨_, rfl⟩
theorem ab_flt {v : Value} {x : UInt64} (h : ab v = .flt x) : ∃ t, v = .float x t := by
  cases v <;> simp [ab] at h; subst h; exact ⟨_, rfl⟩

/-- abstract objects -/
inductive O where
  | lst (xs : List V) | ro (xs : List V) | tup (xs : List V) | rng (lo hi st : Int) | cell (v : V) | fn (f : FuncData) | tab (d : Option (Pos × Addr)) | code (q : Str)

noncomputable def O.mut : O → Bool
  | .lst _ => true
  | .cell _ => true
  | .tab _ => true
  | _ => false

/-- the longest list that this logic speaks of -/
noncomputable def lim : Nat := 1000000

noncomputable def abo : Option Value → V
  | some v => ab v
  | none => .undef

noncomputable def tabV : Option (Pos × Addr) → Array Value
  | none => #[]
  | some (p, c) => #[rawInt p.line, rawInt p.col, .ref c]
noncomputable def ObjR (h : Heap) (a : Addr) : O → Prop
  | .lst xs => ∃ items : Array Value, h.PlainList a items ∧ items.toList.map ab = xs ∧ xs.length ≤ lim
  | .ro xs => ∃ items : Array Value, h.IsList a items ∧ items.toList.map ab = xs ∧ xs.length ≤ lim
  | .tup xs => ∃ items : Array Value, IsTup h a items ∧ items.toList.map ab = xs ∧ xs.length ≤ lim
  | .rng lo hi st => ∃ t u v, IsRange h a lo hi st t u v
  | .cell v => ∃ c, h.IsCell a c ∧ abo c = v
  | .fn f => ∃ o, h.get? a = some o ∧ o.data = .func f
  | .tab d => h.get? a = some (tabObj (tabV d))
  | .code q => ∃ o vs t, h.get? a = some o ∧ o.data = .fields vs ∧ vs[1]? = some (.str q t)

theorem ObjR.get {h : Heap} {a : Addr} {x : O} (r : ObjR h a x) : ∃ o, h.get? a = some o := by
  cases x with
  | lst xs => obtain ⟨i, ⟨n, e⟩, _⟩ := r; exact ⟨_, e⟩
  | ro xs => obtain ⟨i, ⟨o, e, _⟩, _⟩ := r; exact ⟨_, e⟩
  | tup xs => obtain ⟨i, ⟨o, e, _⟩, _⟩ := r; exact ⟨_, e⟩
  | rng a b c => obtain ⟨t, u, v, e⟩ := r; exact ⟨_, e⟩
  | cell v => obtain ⟨c, ⟨o, e, _⟩, _⟩ := r; exact ⟨_, e⟩
  | fn f => obtain ⟨o, e, _⟩ := r; exact ⟨_, e⟩
  | tab d => exact ⟨_, r⟩
  | code q => obtain ⟨o, _, _, e, _⟩ := r; exact ⟨_, e⟩
theorem ObjR.at {h h' : Heap} {a : Addr} {x : O} (r : ObjR h a x) (k : ∀ o, h.get? a = some o → h'.get? a = some o) : ObjR h' a x := by
  cases x with
  | lst xs => obtain ⟨i, ⟨n, e⟩, q⟩ := r; exact ⟨i, ⟨n, k _ e⟩, q⟩
  | ro xs => obtain ⟨i, ⟨o, e, q1⟩, q⟩ := r; exact ⟨i, ⟨o, k _ e, q1⟩, q⟩
  | tup xs => obtain ⟨i, ⟨o, e, q1⟩, q⟩ := r; exact ⟨i, ⟨o, k _ e, q1⟩, q⟩
  | rng a b c => obtain ⟨t, u, v, e⟩ := r; exact ⟨t, u, v, k _ e⟩
  | cell v => obtain ⟨c, ⟨o, e, q1⟩, q⟩ := r; exact ⟨c, ⟨o, k _ e, q1⟩, q⟩
  | fn f => obtain ⟨o, e, q⟩ := r; exact ⟨o, k _ e, q⟩
  | tab d => exact k _ r
  | code q => obtain ⟨o, vs, t, e, q⟩ := r; exact ⟨o, vs, t, k _ e, q⟩

/-- the abstract store -/
abbrev St := Addr → Option O
noncomputable def St.set (σ : St) (a : Addr) (o : O) : St := fun b => if b = a then some o else σ b
@[simp] theorem St.set_same (σ : St) (a : Addr) (o : O) : σ.set a o a = some o := by simp [St.set]
theorem St.set_other (σ : St) {a b : Addr} (o : O) (h : b ≠ a) : σ.set a o b = σ b := by simp [St.set, h]

/-- what the heap owes the store; H is the heap at the law's call -/
structure RelG (H : Heap) (σ : St) (s : Shared) : Prop where
  base : ∀ b o, H.get? b = some o → s.heap.get? b = some o
  objs : ∀ a x, σ a = some x → ObjR s.heap a x
  own : ∀ a x, σ a = some x → x.mut = true → H.get? a = none

noncomputable def NoMut (σ : St) (b : Addr) : Prop := ∀ x, σ b = some x → x.mut = false

/-- one stretch of the run: L is what may be changed besides the mutable objects -/
structure Stp (L : Addr → Prop) (σ : St) (s : Shared) (σ' : St) (s' : Shared) : Prop where
  keep : ∀ b o, s.heap.get? b = some o → NoMut σ b → ¬ L b → (∀ es n, o.data ≠ .dict es n) → s'.heap.get? b = some o
  look : ∀ b o, s.heap.get? b = some o → NoMut σ b → ¬ L b → ∃ sl, s'.heap.get? b = some { o with slots := sl }
  dom : ∀ b x, σ' b = some x → (∃ y, σ b = some y ∧ (x.mut = true → y.mut = true)) ∨ s.heap.get? b = none
  alive : ∀ b o, s.heap.get? b = some o → ∃ o', s'.heap.get? b = some o'
  rest : ∃ h t, s' = { s with heap := h, toks := t }

/-- all that is there is kept as it is -/
theorem Stp.of {L : Addr → Prop} {σ σ' : St} {s s' : Shared} (hk : ∀ b o, s.heap.get? b = some o → NoMut σ b → ¬ L b → s'.heap.get? b = some o) (hd : ∀ b x, σ' b = some x → (∃ y, σ b = some y ∧ (x.mut = true → y.mut = true)) ∨ s.heap.get? b = none)
    (ha : ∀ b o, s.heap.get? b = some o → ∃ o', s'.heap.get? b = some o') (hr : ∃ h t, s' = { s with heap := h, toks := t }) : Stp L σ s σ' s' :=
  ⟨fun b o e m l _ => hk b o e m l, fun b o e m l => ⟨o.slots, hk b o e m l⟩, hd, ha, hr⟩
theorem Stp.refl (L : Addr → Prop) (σ : St) (s : Shared) : Stp L σ s σ s :=
  .of (fun _ _ e _ _ => e) (fun _ x e => .inl ⟨x, e, id⟩) (fun _ o e => ⟨o, e⟩) ⟨s.heap, s.toks, rfl⟩

theorem Stp.trans {L : Addr → Prop} {σ σ' σ'' : St} {s s' s'' : Shared} (x : Stp L σ s σ' s') (y : Stp L σ' s' σ'' s'') : Stp L σ s σ'' s'' where
  keep := fun b o e hm hl hd => by
    refine y.keep b o (x.keep b o e hm hl hd) (fun z hz => ?_) hl hd
    rcases x.dom b z hz with ⟨y', hy, hmm⟩ | h
    · cases hzm : z.mut with
      | false => rfl
      | true => have := hm y' hy; rw [hmm hzm] at this; exact this
    · rw [h] at e; cases e
  look := fun b o e hm hl => by
    obtain ⟨sl, e1⟩ := x.look b o e hm hl
    have hn : NoMut σ' b := fun z hz => by
      rcases x.dom b z hz with ⟨y', hy, hmm⟩ | h
      · cases hzm : z.mut with
        | false => rfl
        | true => have := hm y' hy; rw [hmm hzm] at this; exact this
      · rw [h] at e; cases e
    obtain ⟨sl2, e2⟩ := y.look b { o with slots := sl } e1 hn hl
    exact ⟨sl2, e2⟩
  dom := fun b z hz => by
    rcases y.dom b z hz with ⟨y', hy, hmm⟩ | h
    · rcases x.dom b y' hy with ⟨y'', hy', hmm'⟩ | h
      · exact .inl ⟨y'', hy', fun q => hmm' (hmm q)⟩
      · exact .inr h
    · refine .inr ?_
      cases e : s.heap.get? b with
      | none => rfl
      | some o => obtain ⟨o', e'⟩ := x.alive b o e; rw [e'] at h; cases h
  alive := fun b o e => let ⟨o', e'⟩ := x.alive b o e; y.alive b o' e'
  rest := by
    obtain ⟨h, t, e⟩ := x.rest
    obtain ⟨h', t', e'⟩ := y.rest
    exact ⟨h', t', by rw [e', e]⟩

theorem Stp.weak {L L' : Addr → Prop} {σ σ' : St} {s s' : Shared} (x : Stp L σ s σ' s') (h : ∀ b, L b → L' b) : Stp L' σ s σ' s' :=
  ⟨fun b o e hm hl => x.keep b o e hm fun q => hl (h b q), fun b o e hm hl => x.look b o e hm fun q => hl (h b q), x.dom, x.alive, x.rest⟩

/-- nothing besides -/
noncomputable def No : Addr → Prop := fun _ => False
noncomputable def At (l : Addr) : Addr → Prop := fun b => b = l

/-- the frame's names: fr holds the slots, by the place in the scope's table -/
noncomputable def FrameR (names : List (Str × NameKind)) (fr : List V) (m : Str → Option Value) : Prop :=
  ∀ i x, names[i]? = some (x, NameKind.local) → fr.getD i .undef ≠ .undef → ∃ v, m x = some v ∧ ab v = fr.getD i .undef

noncomputable def Env.nm (env : Env) : List (Str × NameKind) := env.scope.names

/-- the world of a law: its program, its world, the heap at its call, the prefix of the names of what it makes -/
structure Wd where
  prog : Program
  w : World
  H : Heap
  eq : Str
abbrev Wd.M (W : Wd) : Model := model W.prog W.w
/-- what is known of the environment of a block once and for all -/
structure EnvOK (W : Wd) (env : Env) (cs : List Addr) : Prop where
  kind : env.scope.kind = .function
  glob : env.globals = mainGlobals
  bts : env.builtins = builtinsNs
  nodup : (env.scope.names.map (·.1)).Nodup
  cell : ∀ i x k, env.scope.names[i]? = some (x, k) → k = .cell ∨ k = .free → env.cells.lookup x = some (cs.getD i 0) ∧ x ≠ ("__classdict__" : Str)
  tab : ∀ P, cs[env.scope.names.length]? = some P → ∃ c mg, env.code = .ref c ∧ CodeHd W.H c P ∧ W.H.Ns mainGlobals mg ∧ mainGlobals ≠ P ∧ W.H.BuiltinsAt mg P ∧ env.qual = W.eq

/-- the frames on the stack -/
noncomputable def Frs (H : Heap) (A : Around) (σ : St) (s : Shared) : Prop := ∃ l, A.frames = some l ∧ ∀ env ∈ l, env.scope.kind = .function ∧ ∃ L o es n, env.frame = some L ∧ H.get? L = none ∧ σ L = none ∧ s.heap.get? L = some o ∧ o.data = .dict es n
theorem Frs.mono {H : Heap} {A : Around} {σ σ' : St} {s s' : Shared} (f : Frs H A σ s) (h : ∀ b o es n, s.heap.get? b = some o → o.data = .dict es n → σ b = none → σ' b = none ∧ ∃ o' es' n', s'.heap.get? b = some o' ∧ o'.data = .dict es' n') : Frs H A σ' s' := by
  obtain ⟨l, hl, hf⟩ := f
  refine ⟨l, hl, fun env he => ?_⟩
  obtain ⟨h1, L, o, es, n, h2, h3, h4, h5, h6⟩ := hf env he
  obtain ⟨k1, o', es', n', k2, k3⟩ := h L o es n h5 h6 h4
  exact ⟨h1, L, o', es', n', h2, h3, k1, k2, k3⟩
theorem Frs.step {H : Heap} {A : Around} {σ σ' : St} {s s' : Shared} (f : Frs H A σ s) (t : Stp No σ s σ' s') : Frs H A σ' s' := f.mono fun b o es n e hd hσ => by
  obtain ⟨sl, e'⟩ := t.look b o e (fun x hx => by rw [hσ] at hx; cases hx) id
  refine ⟨?_, _, es, n, e', hd⟩
  cases q : σ' b with
  | none => rfl
  | some x =>
    rcases t.dom b x q with ⟨y, hy, _⟩ | h'
    · rw [hσ] at hy; cases hy
    · rw [h'] at e; cases e
structure Rel (H : Heap) (A : Around) (env : Env) (σ : St) (fr : List V) (s : Shared) : Prop extends RelG H σ s where
  ns : ∃ m, s.heap.Ns env.locals m ∧ FrameR env.scope.names fr m
  off : σ env.locals = none
  new : H.get? env.locals = none
  frs : Frs H A σ s

/-- room below -/
structure Room (n : Nat) (A : Around) : Prop where
  handled : A.handled = none
  depth : A.depth + n ≤ 900
  units : A.units + 10 * n ≤ 9000

theorem Room.deeper {n : Nat} {A : Around} (r : Room (n + 1) A) (env : Env) : Room n (A.deeper env) :=
  ⟨r.handled, by show A.depth + 1 + n ≤ 900; have := r.depth; omega, by show A.units + 3 + 10 * n ≤ 9000; have := r.units; omega⟩
theorem Room.in1 {n : Nat} {A : Around} (r : Room (n + 1) A) : Room n A.in1 :=
  ⟨r.handled, by show A.depth + n ≤ 900; have := r.depth; omega, by show A.units + 1 + 10 * n ≤ 9000; have := r.units; omega⟩
theorem Room.mono {n m : Nat} {A : Around} (r : Room n A) (h : m ≤ n) : Room m A :=
  ⟨r.handled, by have := r.depth; omega, by have := r.units; omega⟩
theorem Room.lim {n : Nat} {A : Around} (r : Room n A) : A.depth < recursionLimit := by
  have := r.depth; show A.depth < 1000; omega
theorem Room.cl {n : Nat} {A : Around} (r : Room n A) : A.units < cLine := by
  have := r.units; show A.units < 9900; omega

end Mine

end
section -- F2
namespace Mine


noncomputable def Post (H : Heap) (L : Addr → Prop) (σ : St) (s : Shared) (Q : V → St → Prop) : Value → Shared → Prop :=
  fun v s' => ∃ σ', Q (ab v) σ' ∧ RelG H σ' s' ∧ Stp L σ s σ' s'

abbrev NoE : Value → Shared → Prop := fun _ _ => False

/-- a function, of the text or made in the call -/
noncomputable def isFnV (W : Wd) (f : V) (σ : St) : Prop := ∃ a, f = .ref a ∧ ((∃ fd, σ a = some (.fn fd)) ∨ ∃ o fd, W.H.get? a = some o ∧ o.data = .func fd)
/-- a call ends, raises nothing, and its value and store are as Q asks -/
noncomputable def CallOK (W : Wd) (n : Nat) (f : V) (args : List V) (kn : List Str) (kargs : List V) (Q : V → St → Prop) (σ : St) : Prop :=
  isFnV W f σ ∧ ∀ A s, Room n A → RelG W.H σ s → Frs W.H A σ s → ∀ fv vs kvs, ab fv = f → vs.map ab = args → kvs.map ab = kargs →
    wpAny W.M A (call fv vs (kn.zip kvs)) (Post W.H No σ s Q) NoE s

noncomputable def bmV : List Value := [.type "ValueError", .type "Exception", .type "BaseException", .type "object"]
noncomputable def ExcC (H : Heap) (C : Addr) : Prop := ∃ (cd : ClassData) (dd : Option Addr) (f : Nat → Option Value) (mN : Str → Option Value), H.get? C = some (excClassObj cd.name cd.qualname C cd.ns cd.bases bmV cd.hasDict cd.slotNames cd.subclasses cd.abstract cd.collection dd (f 0) (f 1) (f 2) (f 3) (f 5) "ValueError.__new__") ∧ H.Ns cd.ns mN ∧ mN "__init__" = none ∧ mN "__str__" = none
/-- an exception in flight: s1 is the state ahead of its making, B what stays as it is -/
noncomputable def RzPost (W : Wd) (A : Around) (σ : St) (s : Shared) (C : Addr) (m : Str) (R : St → Prop) : Value → Shared → Prop := fun ev s' =>
  ∃ e t u σ1 s1 B l, ev = .ref e ∧ R σ1 ∧ RelG W.H σ1 s1 ∧ Stp No σ s σ1 s1 ∧ A.frames = some l ∧ W.H.StaysIn B ∧ (∀ b o, s1.heap.get? b = some o → (∀ es n, o.data ≠ .dict es n) → B.get? b = some o) ∧
    Heap.FlyingW B l e (.ref C) (.ref t) s'.heap ∧ s'.heap.TupAt t [.str m u] ∧ s1.heap.UpToSlots s'.heap ∧ ∃ h tk, s' = { s1 with heap := h, toks := tk }
/-- a call ends in such an exception -/
noncomputable def CallRz (W : Wd) (n : Nat) (f : V) (args : List V) (C : Addr) (m : Str) (R : St → Prop) (σ : St) : Prop :=
  isFnV W f σ ∧ ∀ A s, Room n A → RelG W.H σ s → Frs W.H A σ s → ∀ fv vs, ab fv = f → vs.map ab = args → wpAny W.M A (call fv vs []) (fun _ _ => False) (RzPost W A σ s C m R) s

inductive Bi where
  | len | sorted | min | max | sum | abs | range | list | type | isinstance | int | divmod | zip | str
inductive Me where
  | append | insert | pop | remove | extend | count

inductive X where
  | bad | con (v : V) | loc (i : Nat) | cel (i : Nat)
  | bin (op : Operator) (l r : X) | neg (x : X) | not (x : X) | and (l r : X) | or (l r : X)
  | cmp (op : CmpOp) (l r : X) | cmp2 (op op' : CmpOp) (a b c : X) | ife (t a b : X)
  | nil | cons (h t : X)
  | call (f : X) (args : X) (kn : List Str) (kargs : X) | bcall (b : Bi) (args : X) | meth (m : Me) (o : X) (args : X)
  | sub (o i : X) | sl (o lo hi st : X) | lst (args : X) | tup (args : X)
  | comp (sz : Nat) (cm : List Nat) (it : X) (tgt : Nat) (cond : X) (elt : X)
  | comp2 (sz : Nat) (cm : List Nat) (it : X) (tgt : Nat) (cond : X) (it' : X) (tgt' : Nat) (cond' : X) (elt : X)

noncomputable def nth : List V → Nat → V
  | [], _ => .undef
  | v :: _, 0 => v
  | _ :: r, i + 1 => nth r i
theorem nth_eq (l : List V) (i : Nat) : nth l i = l.getD i .undef := by
  induction l generalizing i with
  | nil => cases i <;> rfl
  | cons v r ih => cases i with
    | zero => rfl
    | succ i => simpa [nth] using ih i
noncomputable def nthA : List Addr → Nat → Addr
  | [], _ => 0
  | v :: _, 0 => v
  | _ :: r, i + 1 => nthA r i
theorem nthA_eq (l : List Addr) (i : Nat) : nthA l i = l.getD i 0 := by
  induction l generalizing i with
  | nil => cases i <;> rfl
  | cons v r ih => cases i with
    | zero => rfl
    | succ i => simpa [nthA] using ih i

noncomputable def ivs (ns : List Int) : List V := ns.map V.int
noncomputable def asInts : List V → Option (List Int)
  | [] => some []
  | .int i :: r => (asInts r).map (i :: ·)
  | _ => none
@[simp] theorem asInts_ivs (ns : List Int) : asInts (ivs ns) = some ns := by
  induction ns with
  | nil => rfl
  | cons i r ih => show (asInts (ivs r)).map _ = _; rw [ih]; rfl
theorem asInts_some {xs : List V} {ns : List Int} (h : asInts xs = some ns) : xs = ivs ns := by
  induction xs generalizing ns with
  | nil => cases h; rfl
  | cons v r ih =>
    cases v <;> simp [asInts] at h
    obtain ⟨a, ha, rfl⟩ := h
    rw [ih ha]; rfl

noncomputable def alW (σ : St) (o : O) (Q : V → St → Prop) : Prop := ∀ a, σ a = none → Q (.ref a) (σ.set a o)

/-- the items of a sequence of the store -/
noncomputable def O.items : O → Option (List V)
  | .lst xs => some xs
  | .ro xs => some xs
  | .tup xs => some xs
  | _ => none
/-- of a list -/
noncomputable def O.litems : O → Option (List V)
  | .lst xs => some xs
  | .ro xs => some xs
  | _ => none
noncomputable def refW (v : V) (σ : St) (K : Addr → O → Prop) : Prop := match v with
  | .ref a => match σ a with
    | some o => K a o
    | none => False
  | _ => False
noncomputable def itemsW (v : V) (σ : St) (K : List V → Prop) : Prop := refW v σ fun _ o => match o.items with
  | some xs => K xs
  | none => False
noncomputable def litemsW (v : V) (σ : St) (K : List V → Prop) : Prop := refW v σ fun _ o => match o.litems with
  | some xs => K xs
  | none => False
noncomputable def lintsW (v : V) (σ : St) (K : List Int → Prop) : Prop := litemsW v σ fun xs => match asInts xs with
  | some ns => K ns
  | none => False
/-- a list that may be changed -/
noncomputable def mlistW (v : V) (σ : St) (K : Addr → List V → Prop) : Prop := refW v σ fun a o => match o with
  | .lst xs => K a xs
  | _ => False

noncomputable def asI (v : V) (K : Int → Prop) : Prop := match v with
  | .int i => K i
  | _ => False
theorem asI_elim {v : V} {K : Int → Prop} (h : asI v K) : ∃ i, v = .int i ∧ K i := by
  cases v <;> first | exact ⟨_, rfl, h⟩ | exact h.elim
noncomputable def asR (v : V) (K : Addr → Prop) : Prop := match v with
  | .ref i => K i
  | _ => False
theorem asR_elim {v : V} {K : Addr → Prop} (h : asR v K) : ∃ i, v = .ref i ∧ K i := by
  cases v <;> first | exact ⟨_, rfl, h⟩ | exact h.elim
noncomputable def asT (v : V) (K : String → Prop) : Prop := match v with
  | .typ i => K i
  | _ => False
theorem asT_elim {v : V} {K : String → Prop} (h : asT v K) : ∃ i, v = .typ i ∧ K i := by
  cases v <;> first | exact ⟨_, rfl, h⟩ | exact h.elim
noncomputable def one (l : List V) (K : V → Prop) : Prop := match l with
  | [] => False
  | v :: r => (match r with
    | [] => K v
    | _ :: _ => False)
theorem one_elim {l : List V} {K : V → Prop} (h : one l K) : ∃ v, l = [v] ∧ K v := by
  rcases l with _ | ⟨v, _ | ⟨w, r⟩⟩
  · exact h.elim
  · exact ⟨v, rfl, h⟩
  · exact h.elim
noncomputable def addW (a b : V) (σ : St) (Q : V → St → Prop) : Prop := match a with
  | .int x => asI b fun y => Q (.int (x + y)) σ
  | .ref x => asR b fun y => litemsW (.ref x) σ fun xs => litemsW (.ref y) σ fun ys => xs.length + ys.length ≤ lim ∧ alW σ (.lst (xs ++ ys)) Q
  | _ => False
noncomputable def mulW (a b : V) (σ : St) (Q : V → St → Prop) : Prop := match a with
  | .int x => asI b fun y => IntMulOk x y ∧ Q (.int (x * y)) σ
  | .ref x => asI b fun k => mlistW (.ref x) σ fun _ xs => 0 ≤ k ∧ k ≤ lim ∧ xs.length * k.toNat ≤ lim ∧ alW σ (.lst (List.replicate k.toNat xs).flatten) Q
  | _ => False
noncomputable def binW (op : Operator) (a b : V) (σ : St) (Q : V → St → Prop) : Prop := match op with
  | .Add => addW a b σ Q
  | .Sub => asI a fun x => asI b fun y => Q (.int (x - y)) σ
  | .Mult => mulW a b σ Q
  | .FloorDiv => asI a fun x => asI b fun y => y ≠ 0 ∧ y.natAbs < 1073741824 ∧ Q (.int (x.fdiv y)) σ
  | .Mod => asI a fun x => asI b fun y => y ≠ 0 ∧ Q (.int (x.fmod y)) σ
  | _ => False

/-- Python's == of values, lists item by item -/
noncomputable def eq0 (a b : V) : Option Bool := match a with
  | .int x => (match b with
    | .int y => some (x == y)
    | _ => none)
  | .str x => (match b with
    | .str y => some (x == y)
    | _ => none)
  | .bool x => (match b with
    | .bool y => some (x == y)
    | _ => none)
  | _ => none
noncomputable def eqL (f : V → V → Option Bool) : List V → List V → Option Bool
  | [], _ => some true
  | x :: xs, l => (match l with
    | [] => some true
    | y :: ys => (f x y).bind fun b => (eqL f xs ys).map fun c => b && c)
noncomputable def eqB (σ : St) : Nat → V → V → Option Bool
  | 0, a, b => eq0 a b
  | d + 1, a, b => (match a with
    | .ref x => (match b with
      | .ref y => if x = y then none else ((σ x).bind O.litems).bind fun xs => ((σ y).bind O.litems).bind fun ys => if xs.length = ys.length then eqL (eqB σ d) xs ys else some false
      | _ => none)
    | a => eq0 a b)
noncomputable def eqW (a b : V) (σ : St) (Q : Bool → Prop) : Prop := match eqB σ 3 a b with
  | some c => (match a with
    | .str _ => False
    | _ => Q c)
  | none => False
noncomputable def isNW (a b : V) (Q : Bool → Prop) : Prop := match b with
  | .none => (match a with
    | .none => Q true
    | .int _ => Q false
    | .ref _ => Q false
    | _ => False)
  | _ => False
noncomputable def cmpW (op : CmpOp) (a b : V) (σ : St) (Q : Bool → St → Prop) : Prop := match op with
  | .Lt => asI a fun x => asI b fun y => Q (decide (x < y)) σ
  | .LtE => asI a fun x => asI b fun y => Q (decide (x ≤ y)) σ
  | .Gt => asI a fun x => asI b fun y => Q (decide (x > y)) σ
  | .GtE => asI a fun x => asI b fun y => Q (decide (x ≥ y)) σ
  | .Eq => eqW a b σ fun c => Q c σ
  | .NotEq => eqW a b σ fun c => Q (!c) σ
  | .Is => isNW a b fun c => Q c σ
  | .IsNot => asT a fun x => asT b fun y => Q (x != y) σ
  | _ => False
section
variable {σ : St} {Q : V → St → Prop} {P : Bool → St → Prop} {x y : Int} {a b : Addr}
theorem b_add : binW .Add (.int x) (.int y) σ Q = Q (.int (x + y)) σ := rfl
theorem b_sub : binW .Sub (.int x) (.int y) σ Q = Q (.int (x - y)) σ := rfl
theorem b_mul : binW .Mult (.int x) (.int y) σ Q = (IntMulOk x y ∧ Q (.int (x * y)) σ) := rfl
theorem b_div : binW .FloorDiv (.int x) (.int y) σ Q = (y ≠ 0 ∧ y.natAbs < 1073741824 ∧ Q (.int (x.fdiv y)) σ) := rfl
theorem b_mod : binW .Mod (.int x) (.int y) σ Q = (y ≠ 0 ∧ Q (.int (x.fmod y)) σ) := rfl
theorem b_cat : binW .Add (.ref a) (.ref b) σ Q = litemsW (.ref a) σ fun xs => litemsW (.ref b) σ fun ys => xs.length + ys.length ≤ lim ∧ alW σ (.lst (xs ++ ys)) Q := rfl
theorem b_rep : binW .Mult (.ref a) (.int x) σ Q = mlistW (.ref a) σ fun _ xs => 0 ≤ x ∧ x ≤ lim ∧ xs.length * x.toNat ≤ lim ∧ alW σ (.lst (List.replicate x.toNat xs).flatten) Q := rfl
theorem c_lt : cmpW .Lt (.int x) (.int y) σ P = P (decide (x < y)) σ := rfl
theorem c_le : cmpW .LtE (.int x) (.int y) σ P = P (decide (x ≤ y)) σ := rfl
theorem c_gt : cmpW .Gt (.int x) (.int y) σ P = P (decide (x > y)) σ := rfl
theorem c_ge : cmpW .GtE (.int x) (.int y) σ P = P (decide (x ≥ y)) σ := rfl
theorem c_eq : cmpW .Eq (.int x) (.int y) σ P = P (x == y) σ := rfl
theorem c_ne : cmpW .NotEq (.int x) (.int y) σ P = P (x != y) σ := rfl
theorem c_is : cmpW .Is .none .none σ P = P true σ := rfl
theorem c_isi : cmpW .Is (.int x) .none σ P = P false σ := rfl
theorem c_isr : cmpW .Is (.ref a) .none σ P = P false σ := rfl
theorem c_ty {x y : String} : cmpW .IsNot (.typ x) (.typ y) σ P = P (x != y) σ := rfl
end

noncomputable def truW (v : V) (σ : St) (Q : Bool → St → Prop) : Prop := match v with
  | .bool b => Q b σ
  | .none => Q false σ
  | .int i => Q (i != 0) σ
  | _ => False


/-- an index as Python reads it -/
noncomputable def idx (i : Int) (n : Nat) : Nat := (if i < 0 then i + n else i).toNat
noncomputable def idxOk (i : Int) (n : Nat) : Prop := -(n : Int) ≤ i ∧ i < n

noncomputable def slB (o : Option Int) (d n : Nat) : Nat := match o with
  | none => d
  | some x => (if x < 0 then max 0 (x + n) else min x n).toNat
noncomputable def pick {α : Type} (xs : List α) (lo hi : Option Int) : List α := (xs.drop (slB lo 0 xs.length)).take (slB hi xs.length xs.length - slB lo 0 xs.length)

noncomputable def partW (v : V) (K : Option Int → Prop) : Prop := match v with
  | .none => K none
  | .int i => K (some i)
  | _ => False

noncomputable def subW (o i : V) (σ : St) (Q : V → St → Prop) : Prop := match i with
  | .int k => itemsW o σ fun xs => idxOk k xs.length ∧ Q (nth xs (idx k xs.length)) σ
  | _ => False

noncomputable def slW (o lo hi st : V) (σ : St) (Q : V → St → Prop) : Prop := litemsW o σ fun xs => partW lo fun l => partW hi fun h => match st, l, h with
  | .none, _, _ => alW σ (.lst (pick xs l h)) Q
  | .int k, none, none => k = -1 ∧ alW σ (.lst xs.reverse) Q
  | _, _, _ => False

/-- rising insertion sort: what sorted gives -/
noncomputable def ins (x : Int) : List Int → List Int
  | [] => [x]
  | y :: r => if x ≤ y then x :: y :: r else y :: ins x r
noncomputable def isort : List Int → List Int
  | [] => []
  | x :: r => ins x (isort r)

/-- the numbers of a range -/
noncomputable def rangeL (lo hi st : Int) : List Int :=
  if st = 1 then (List.range (hi - lo).toNat).map fun (k : Nat) => lo + (k : Int)
  else (List.range (lo - hi).toNat).map fun (k : Nat) => lo - (k : Int)

noncomputable def small (i : Int) : Prop := -(2 ^ 62) ≤ i ∧ i < 2 ^ 62

noncomputable def minL : List Int → Int
  | [] => 0
  | [x] => x
  | x :: r => min x (minL r)
noncomputable def maxL : List Int → Int
  | [] => 0
  | [x] => x
  | x :: r => max x (maxL r)

noncomputable def typeOfV (v : V) (σ : St) (K : String → Prop) : Prop := match v with
  | .int _ => K "int"
  | .flt _ => K "float"
  | .bool _ => K "bool"
  | .ref a => (match σ a with
    | some (.lst _) => K "list"
    | some (.ro _) => K "list"
    | some (.tup _) => K "tuple"
    | _ => False)
  | _ => False

noncomputable def rngW (args : List V) (σ : St) (Q : V → St → Prop) : Prop := match args with
  | [] => False
  | a :: r => asI a fun a => (match r with
    | [] => small a ∧ alW σ (.rng 0 a 1) Q
    | b :: r => asI b fun b => (match r with
      | [] => small a ∧ small b ∧ alW σ (.rng a b 1) Q
      | c :: r => asI c fun c => (match r with
        | [] => small a ∧ small b ∧ (c = 1 ∨ c = -1) ∧ alW σ (.rng a b c) Q
        | _ :: _ => False)))
noncomputable def mmW (f : Int → Int → Int) (g : List Int → Int) (args : List V) (σ : St) (Q : V → St → Prop) : Prop := match args with
  | [] => False
  | a :: r => (match r with
    | [] => lintsW a σ fun ns => ns ≠ [] ∧ Q (.int (g ns)) σ
    | b :: r => asI a fun a => asI b fun b => (match r with
      | [] => Q (.int (f a b)) σ
      | c :: r => asI c fun c => (match r with
        | [] => Q (.int (f (f a b) c)) σ
        | _ :: _ => False)))
noncomputable def biW (b : Bi) (args : List V) (σ : St) (Q : V → St → Prop) : Prop := match b with
  | .len => one args fun v => itemsW v σ fun xs => Q (.int xs.length) σ
  | .sorted => one args fun v => lintsW v σ fun ns => ns.length < 64 ∧ alW σ (.lst (ivs (isort ns))) Q
  | .range => rngW args σ Q
  | .list => one args fun v => litemsW v σ fun xs => alW σ (.lst xs) Q
  | .abs => one args fun v => asI v fun i => Q (.int i.natAbs) σ
  | .min => mmW min minL args σ Q
  | .max => mmW max maxL args σ Q
  | .sum => one args fun v => lintsW v σ fun ns => Q (.int ns.sum) σ
  | .type => one args fun v => typeOfV v σ fun t => Q (.typ t) σ
  | _ => False

noncomputable def meW (m : Me) (o : V) (args : List V) (σ : St) (Q : V → St → Prop) : Prop := match m with
  | .append => one args fun v => mlistW o σ fun a xs => xs.length + 1 ≤ lim ∧ Q .none (σ.set a (.lst (xs ++ [v])))
  | .insert => (match args with
    | [] => False
    | i :: r => asI i fun i => one r fun v => mlistW o σ fun a xs => 0 ≤ i ∧ i ≤ xs.length ∧ xs.length + 1 ≤ lim ∧ Q .none (σ.set a (.lst (xs.take i.toNat ++ v :: xs.drop i.toNat))))
  | .pop => (match args with
    | [] => mlistW o σ fun a xs => xs ≠ [] ∧ Q (xs.getLastD .undef) (σ.set a (.lst xs.dropLast))
    | _ :: _ => False)
  | .remove => one args fun v => asI v fun x => mlistW o σ fun a xs => (match asInts xs with
    | some ns => x ∈ ns ∧ Q .none (σ.set a (.lst (ivs (ns.erase x))))
    | none => False)
  | .extend => one args fun v => mlistW o σ fun a xs => mlistW v σ fun b ys => a ≠ b ∧ xs.length + ys.length ≤ lim ∧ Q .none (σ.set a (.lst (xs ++ ys)))
  | .count => one args fun v => asI v fun x => mlistW o σ fun _ xs => (match asInts xs with
    | some ns => Q (.int (ns.count x)) σ
    | none => False)
section
variable {σ : St} {Q : V → St → Prop} {v o : V} {x y z : Int}
theorem f_len : biW .len [v] σ Q = itemsW v σ fun xs => Q (.int xs.length) σ := rfl
theorem f_sorted : biW .sorted [v] σ Q = lintsW v σ fun ns => ns.length < 64 ∧ alW σ (.lst (ivs (isort ns))) Q := rfl
theorem f_range1 : biW .range [.int x] σ Q = (small x ∧ alW σ (.rng 0 x 1) Q) := rfl
theorem f_range2 : biW .range [.int x, .int y] σ Q = (small x ∧ small y ∧ alW σ (.rng x y 1) Q) := rfl
theorem f_range3 : biW .range [.int x, .int y, .int z] σ Q = (small x ∧ small y ∧ (z = 1 ∨ z = -1) ∧ alW σ (.rng x y z) Q) := rfl
theorem f_list : biW .list [v] σ Q = litemsW v σ fun xs => alW σ (.lst xs) Q := rfl
theorem f_abs : biW .abs [.int x] σ Q = Q (.int x.natAbs) σ := rfl
theorem f_min1 : biW .min [v] σ Q = lintsW v σ fun ns => ns ≠ [] ∧ Q (.int (minL ns)) σ := rfl
theorem f_max1 : biW .max [v] σ Q = lintsW v σ fun ns => ns ≠ [] ∧ Q (.int (maxL ns)) σ := rfl
theorem f_min2 : biW .min [.int x, .int y] σ Q = Q (.int (min x y)) σ := rfl
theorem f_max2 : biW .max [.int x, .int y] σ Q = Q (.int (max x y)) σ := rfl
theorem f_min3 : biW .min [.int x, .int y, .int z] σ Q = Q (.int (min (min x y) z)) σ := rfl
theorem f_max3 : biW .max [.int x, .int y, .int z] σ Q = Q (.int (max (max x y) z)) σ := rfl
theorem f_sum : biW .sum [v] σ Q = lintsW v σ fun ns => Q (.int ns.sum) σ := rfl
theorem f_type : biW .type [v] σ Q = typeOfV v σ fun t => Q (.typ t) σ := rfl
theorem m_append : meW .append o [v] σ Q = mlistW o σ fun a xs => xs.length + 1 ≤ lim ∧ Q .none (σ.set a (.lst (xs ++ [v]))) := rfl
theorem m_insert : meW .insert o [.int x, v] σ Q = mlistW o σ fun a xs => 0 ≤ x ∧ x ≤ xs.length ∧ xs.length + 1 ≤ lim ∧ Q .none (σ.set a (.lst (xs.take x.toNat ++ v :: xs.drop x.toNat))) := rfl
theorem m_pop : meW .pop o [] σ Q = mlistW o σ fun a xs => xs ≠ [] ∧ Q (xs.getLastD .undef) (σ.set a (.lst xs.dropLast)) := rfl
theorem m_remove : meW .remove o [.int x] σ Q = mlistW o σ fun a xs => (match asInts xs with
    | some ns => x ∈ ns ∧ Q .none (σ.set a (.lst (ivs (ns.erase x))))
    | none => False) := rfl
theorem m_extend : meW .extend o [v] σ Q = mlistW o σ fun a xs => mlistW v σ fun b ys => a ≠ b ∧ xs.length + ys.length ≤ lim ∧ Q .none (σ.set a (.lst (xs ++ ys))) := rfl
theorem m_count : meW .count o [.int x] σ Q = mlistW o σ fun _ xs => (match asInts xs with
    | some ns => Q (.int (ns.count x)) σ
    | none => False) := rfl
end

/-- what a loop over v walks, and what must stand at each turn -/
noncomputable def iterW (v : V) (σ : St) (K : List V → (St → Prop) → Prop) : Prop := refW v σ fun a o => match o with
  | .lst xs => K xs (fun σ' => σ' a = some (.lst xs))
  | .ro xs => K xs (fun _ => True)
  | .tup xs => K xs (fun _ => True)
  | .rng lo hi st => small lo ∧ small hi ∧ (st = 1 ∨ st = -1) ∧ K (ivs (rangeL lo hi st)) (fun _ => True)
  | _ => False

noncomputable def compW (chk : St → Prop) (bod : V → St → (Option V → St → Prop) → Prop) : List V → List V → St → (List V → St → Prop) → Prop
  | [], acc, σ, K => chk σ ∧ K acc σ
  | v :: r, acc, σ, K => chk σ ∧ bod v σ fun o σ' => compW chk bod r (acc ++ o.toList) σ' K

noncomputable def undefs : Nat → List V
  | 0 => []
  | n + 1 => .undef :: undefs n
noncomputable def setN : List V → Nat → V → List V
  | [], _, _ => []
  | _ :: r, 0, v => v :: r
  | x :: r, i + 1, v => x :: setN r i v
theorem setN_eq (l : List V) (i : Nat) (v : V) : setN l i v = l.set i v := by
  induction l generalizing i with
  | nil => rfl
  | cons x r ih => cases i with
    | zero => rfl
    | succ i => simp [setN, ih]

mutual
/-- the value of an expression -/
noncomputable def xW (W : Wd) (n : Nat) : X → List Addr → List V → St → (V → St → Prop) → Prop
  | .bad, _, _, _, _ => False
  | .con v, _, _, σ, Q => Q v σ
  | .loc i, _, fr, σ, Q => nth fr i ≠ .undef ∧ Q (nth fr i) σ
  | .cel i, cs, _, σ, Q => (match σ (nthA cs i) with
    | some (.cell v) => v ≠ .undef ∧ Q v σ
    | _ => False)
  | .bin op l r, cs, fr, σ, Q => xW W n l cs fr σ fun a σ1 => xW W n r cs fr σ1 fun b σ2 => binW op a b σ2 Q
  | .neg x, cs, fr, σ, Q => xW W n x cs fr σ fun a σ1 => (match a with
    | .int i => Q (.int (-i)) σ1
    | _ => False)
  | .not x, cs, fr, σ, Q => xW W n x cs fr σ fun a σ1 => truW a σ1 fun b σ2 => Q (.bool (!b)) σ2
  | .and l r, cs, fr, σ, Q => xW W n l cs fr σ fun a σ1 => truW a σ1 fun b σ2 => if b = true then xW W n r cs fr σ2 Q else Q a σ2
  | .or l r, cs, fr, σ, Q => xW W n l cs fr σ fun a σ1 => truW a σ1 fun b σ2 => if b = true then Q a σ2 else xW W n r cs fr σ2 Q
  | .cmp op l r, cs, fr, σ, Q => xW W n l cs fr σ fun a σ1 => xW W n r cs fr σ1 fun b σ2 => cmpW op a b σ2 fun c σ3 => Q (.bool c) σ3
  | .cmp2 op op' x y z, cs, fr, σ, Q => xW W n x cs fr σ fun a σ1 => xW W n y cs fr σ1 fun b σ2 => cmpW op a b σ2 fun c σ3 =>
      if c = true then xW W n z cs fr σ3 fun d σ4 => cmpW op' b d σ4 fun c' σ5 => Q (.bool c') σ5 else Q (.bool false) σ3
  | .ife t a b, cs, fr, σ, Q => tW W n t cs fr σ fun c σ1 => if c = true then xW W n a cs fr σ1 Q else xW W n b cs fr σ1 Q
  | .nil, _, _, _, _ => False
  | .cons _ _, _, _, _, _ => False
  | .call f args kn kargs, cs, fr, σ, Q => xW W n f cs fr σ fun fv σ1 => lW W n args cs fr σ1 fun vs σ2 => lW W n kargs cs fr σ2 fun ks σ3 => CallOK W n fv vs kn ks Q σ3
  | .bcall b args, cs, fr, σ, Q => lW W n args cs fr σ fun vs σ1 => biW b vs σ1 Q
  | .meth m o args, cs, fr, σ, Q => xW W n o cs fr σ fun ov σ1 => mlistW ov σ1 fun _ _ => lW W n args cs fr σ1 fun vs σ2 => meW m ov vs σ2 Q
  | .sub o i, cs, fr, σ, Q => xW W n o cs fr σ fun a σ1 => xW W n i cs fr σ1 fun b σ2 => subW a b σ2 Q
  | .sl o lo hi st, cs, fr, σ, Q => xW W n o cs fr σ fun a σ1 => xW W n lo cs fr σ1 fun l σ2 => xW W n hi cs fr σ2 fun h σ3 => xW W n st cs fr σ3 fun k σ4 => slW a l h k σ4 Q
  | .lst args, cs, fr, σ, Q => lW W n args cs fr σ fun vs σ1 => vs.length ≤ lim ∧ alW σ1 (.lst vs) Q
  | .tup args, cs, fr, σ, Q => lW W n args cs fr σ fun vs σ1 => vs.length ≤ lim ∧ alW σ1 (.tup vs) Q
  | .comp sz cm it tgt cond elt, cs, fr, σ, Q => xW W n it cs fr σ fun v σ1 => iterW v σ1 fun xs chk => xs.length ≤ lim ∧
      compW chk (fun x σ2 k => tW W n cond (cm.map (nthA cs)) (setN (undefs sz) tgt x) σ2 fun c σ3 =>
        if c = true then xW W n elt (cm.map (nthA cs)) (setN (undefs sz) tgt x) σ3 fun y σ4 => k (some y) σ4 else k none σ3) xs [] σ1 fun ys σ5 => alW σ5 (.lst ys) Q
  | .comp2 _ _ _ _ _ _ _ _ _, _, _, _, _ => False
/-- the truth of an expression -/
noncomputable def tW (W : Wd) (n : Nat) : X → List Addr → List V → St → (Bool → St → Prop) → Prop
  | .not x, cs, fr, σ, Q => tW W n x cs fr σ fun b σ1 => Q (!b) σ1
  | .and l r, cs, fr, σ, Q => tW W n l cs fr σ fun b σ1 => if b = true then tW W n r cs fr σ1 Q else Q false σ1
  | .or l r, cs, fr, σ, Q => tW W n l cs fr σ fun b σ1 => if b = true then Q true σ1 else tW W n r cs fr σ1 Q
  | .ife t a b, cs, fr, σ, Q => tW W n t cs fr σ fun c σ1 => if c = true then tW W n a cs fr σ1 Q else tW W n b cs fr σ1 Q
  | .cmp op l r, cs, fr, σ, Q => xW W n l cs fr σ fun a σ1 => xW W n r cs fr σ1 fun b σ2 => cmpW op a b σ2 Q
  | .cmp2 op op' x y z, cs, fr, σ, Q => xW W n x cs fr σ fun a σ1 => xW W n y cs fr σ1 fun b σ2 => cmpW op a b σ2 fun c σ3 =>
      if c = true then xW W n z cs fr σ3 fun d σ4 => cmpW op' b d σ4 Q else Q false σ3
  | .con v, _, _, σ, Q => truW v σ Q
  | .loc i, _, fr, σ, Q => nth fr i ≠ .undef ∧ truW (nth fr i) σ Q
  | .call f args kn kargs, cs, fr, σ, Q => xW W n f cs fr σ fun fv σ1 => lW W n args cs fr σ1 fun vs σ2 => lW W n kargs cs fr σ2 fun ks σ3 => CallOK W n fv vs kn ks (fun v σ4 => truW v σ4 Q) σ3
  | .bcall b args, cs, fr, σ, Q => lW W n args cs fr σ fun vs σ1 => biW b vs σ1 fun v σ4 => truW v σ4 Q
  | .sub o i, cs, fr, σ, Q => xW W n o cs fr σ fun a σ1 => xW W n i cs fr σ1 fun b σ2 => subW a b σ2 fun v σ4 => truW v σ4 Q
  | _, _, _, _, _ => False
/-- the values of arguments -/
noncomputable def lW (W : Wd) (n : Nat) : X → List Addr → List V → St → (List V → St → Prop) → Prop
  | .nil, _, _, σ, Q => Q [] σ
  | .cons h t, cs, fr, σ, Q => xW W n h cs fr σ fun v σ1 => lW W n t cs fr σ1 fun vs σ2 => Q (v :: vs) σ2
  | _, _, _, _, _ => False
end


section
variable {W : Wd} {n : Nat} {cs : List Addr} {fr : List V} {σ : St} {Q : V → St → Prop} {P : Bool → St → Prop} {R : List V → St → Prop}
theorem x_bad : xW W n .bad cs fr σ Q = False := rfl
theorem x_con {v : V} : xW W n (.con v) cs fr σ Q = Q v σ := rfl
theorem x_loc {i : Nat} : xW W n (.loc i) cs fr σ Q = (nth fr i ≠ .undef ∧ Q (nth fr i) σ) := rfl
theorem x_cel {i : Nat} : xW W n (.cel i) cs fr σ Q = (match σ (nthA cs i) with
    | some (.cell v) => v ≠ .undef ∧ Q v σ
    | _ => False) := rfl
theorem x_bin {op : Operator} {l r : X} : xW W n (.bin op l r) cs fr σ Q = xW W n l cs fr σ fun a σ1 => xW W n r cs fr σ1 fun b σ2 => binW op a b σ2 Q := rfl
theorem x_neg {x : X} : xW W n (.neg x) cs fr σ Q = xW W n x cs fr σ fun a σ1 => (match a with
    | .int i => Q (.int (-i)) σ1
    | _ => False) := rfl
theorem x_not {x : X} : xW W n (.not x) cs fr σ Q = xW W n x cs fr σ fun a σ1 => truW a σ1 fun b σ2 => Q (.bool (!b)) σ2 := rfl
theorem x_and {l r : X} : xW W n (.and l r) cs fr σ Q = xW W n l cs fr σ fun a σ1 => truW a σ1 fun b σ2 => if b = true then xW W n r cs fr σ2 Q else Q a σ2 := rfl
theorem x_or {l r : X} : xW W n (.or l r) cs fr σ Q = xW W n l cs fr σ fun a σ1 => truW a σ1 fun b σ2 => if b = true then Q a σ2 else xW W n r cs fr σ2 Q := rfl
theorem x_cmp {op : CmpOp} {l r : X} : xW W n (.cmp op l r) cs fr σ Q = xW W n l cs fr σ fun a σ1 => xW W n r cs fr σ1 fun b σ2 => cmpW op a b σ2 fun c σ3 => Q (.bool c) σ3 := rfl
theorem x_cmp2 {op op' : CmpOp} {x y z : X} : xW W n (.cmp2 op op' x y z) cs fr σ Q = xW W n x cs fr σ fun a σ1 => xW W n y cs fr σ1 fun b σ2 => cmpW op a b σ2 fun c σ3 =>
      if c = true then xW W n z cs fr σ3 fun d σ4 => cmpW op' b d σ4 fun c' σ5 => Q (.bool c') σ5 else Q (.bool false) σ3 := rfl
theorem x_ife {t a b : X} : xW W n (.ife t a b) cs fr σ Q = tW W n t cs fr σ fun c σ1 => if c = true then xW W n a cs fr σ1 Q else xW W n b cs fr σ1 Q := rfl
theorem x_call {f args kargs : X} {kn : List Str} : xW W n (.call f args kn kargs) cs fr σ Q = xW W n f cs fr σ fun fv σ1 => lW W n args cs fr σ1 fun vs σ2 => lW W n kargs cs fr σ2 fun ks σ3 => CallOK W n fv vs kn ks Q σ3 := rfl
theorem x_bcall {b : Bi} {args : X} : xW W n (.bcall b args) cs fr σ Q = lW W n args cs fr σ fun vs σ1 => biW b vs σ1 Q := rfl
theorem x_meth {m : Me} {o args : X} : xW W n (.meth m o args) cs fr σ Q = xW W n o cs fr σ fun ov σ1 => mlistW ov σ1 fun _ _ => lW W n args cs fr σ1 fun vs σ2 => meW m ov vs σ2 Q := rfl
theorem x_sub {o i : X} : xW W n (.sub o i) cs fr σ Q = xW W n o cs fr σ fun a σ1 => xW W n i cs fr σ1 fun b σ2 => subW a b σ2 Q := rfl
theorem x_sl {o lo hi st : X} : xW W n (.sl o lo hi st) cs fr σ Q = xW W n o cs fr σ fun a σ1 => xW W n lo cs fr σ1 fun l σ2 => xW W n hi cs fr σ2 fun h σ3 => xW W n st cs fr σ3 fun k σ4 => slW a l h k σ4 Q := rfl
theorem x_lst {args : X} : xW W n (.lst args) cs fr σ Q = lW W n args cs fr σ fun vs σ1 => vs.length ≤ lim ∧ alW σ1 (.lst vs) Q := rfl
theorem x_tup {args : X} : xW W n (.tup args) cs fr σ Q = lW W n args cs fr σ fun vs σ1 => vs.length ≤ lim ∧ alW σ1 (.tup vs) Q := rfl
theorem x_comp {sz tgt : Nat} {cm : List Nat} {it cond elt : X} : xW W n (.comp sz cm it tgt cond elt) cs fr σ Q = xW W n it cs fr σ fun v σ1 => iterW v σ1 fun xs chk => xs.length ≤ lim ∧
      compW chk (fun x σ2 k => tW W n cond (cm.map (nthA cs)) (setN (undefs sz) tgt x) σ2 fun c σ3 =>
        if c = true then xW W n elt (cm.map (nthA cs)) (setN (undefs sz) tgt x) σ3 fun y σ4 => k (some y) σ4 else k none σ3) xs [] σ1 fun ys σ5 => alW σ5 (.lst ys) Q := rfl
theorem t_not {x : X} : tW W n (.not x) cs fr σ P = tW W n x cs fr σ fun b σ1 => P (!b) σ1 := rfl
theorem t_and {l r : X} : tW W n (.and l r) cs fr σ P = tW W n l cs fr σ fun b σ1 => if b = true then tW W n r cs fr σ1 P else P false σ1 := rfl
theorem t_or {l r : X} : tW W n (.or l r) cs fr σ P = tW W n l cs fr σ fun b σ1 => if b = true then P true σ1 else tW W n r cs fr σ1 P := rfl
theorem t_ife {t a b : X} : tW W n (.ife t a b) cs fr σ P = tW W n t cs fr σ fun c σ1 => if c = true then tW W n a cs fr σ1 P else tW W n b cs fr σ1 P := rfl
theorem t_cmp {op : CmpOp} {l r : X} : tW W n (.cmp op l r) cs fr σ P = xW W n l cs fr σ fun a σ1 => xW W n r cs fr σ1 fun b σ2 => cmpW op a b σ2 P := rfl
theorem t_cmp2 {op op' : CmpOp} {x y z : X} : tW W n (.cmp2 op op' x y z) cs fr σ P = xW W n x cs fr σ fun a σ1 => xW W n y cs fr σ1 fun b σ2 => cmpW op a b σ2 fun c σ3 =>
      if c = true then xW W n z cs fr σ3 fun d σ4 => cmpW op' b d σ4 P else P false σ3 := rfl
theorem t_con {v : V} : tW W n (.con v) cs fr σ P = truW v σ P := rfl
theorem t_loc {i : Nat} : tW W n (.loc i) cs fr σ P = (nth fr i ≠ .undef ∧ truW (nth fr i) σ P) := rfl
theorem t_call {f args kargs : X} {kn : List Str} : tW W n (.call f args kn kargs) cs fr σ P = xW W n f cs fr σ fun fv σ1 => lW W n args cs fr σ1 fun vs σ2 => lW W n kargs cs fr σ2 fun ks σ3 => CallOK W n fv vs kn ks (fun v σ4 => truW v σ4 P) σ3 := rfl
theorem t_bcall {b : Bi} {args : X} : tW W n (.bcall b args) cs fr σ P = lW W n args cs fr σ fun vs σ1 => biW b vs σ1 fun v σ4 => truW v σ4 P := rfl
theorem t_sub {o i : X} : tW W n (.sub o i) cs fr σ P = xW W n o cs fr σ fun a σ1 => xW W n i cs fr σ1 fun b σ2 => subW a b σ2 fun v σ4 => truW v σ4 P := rfl
theorem t_bad : tW W n .bad cs fr σ P = False := rfl
theorem t_cel {i : Nat} : tW W n (.cel i) cs fr σ P = False := rfl
theorem t_bin {op : Operator} {l r : X} : tW W n (.bin op l r) cs fr σ P = False := rfl
theorem t_neg {x : X} : tW W n (.neg x) cs fr σ P = False := rfl
theorem t_sl {o lo hi st : X} : tW W n (.sl o lo hi st) cs fr σ P = False := rfl
theorem t_lst {args : X} : tW W n (.lst args) cs fr σ P = False := rfl
theorem t_tup {args : X} : tW W n (.tup args) cs fr σ P = False := rfl
theorem t_comp {sz tgt : Nat} {cm : List Nat} {it cond elt : X} : tW W n (.comp sz cm it tgt cond elt) cs fr σ P = False := rfl
theorem t_meth {m : Me} {o args : X} : tW W n (.meth m o args) cs fr σ P = False := rfl
theorem l_nil : lW W n .nil cs fr σ R = R [] σ := rfl
theorem l_cons {h t : X} : lW W n (.cons h t) cs fr σ R = xW W n h cs fr σ fun v σ1 => lW W n t cs fr σ1 fun vs σ2 => R (v :: vs) σ2 := rfl
theorem l_bad : lW W n .bad cs fr σ R = False := rfl
end
end Mine

end
section -- F3
namespace Mine

/-- a name to store into: a slot, or a cell -/
inductive T where
  | l (i : Nat) | c (i : Nat)
inductive Tg where
  | one (t : T) | many (ts : List T)
inductive Fl where
  | next | brk | cont | ret (v : V)

noncomputable def vTyp (v : V) (t : String) : Bool := match v with
  | .typ u => u == t
  | _ => false
noncomputable def vRef (v : V) : Option Addr := match v with
  | .ref a => some a
  | _ => none
/-- what is done with a caught exception -/
inductive Hd where
  | retStr (i : Nat) | appStr (i j : Nat) | retNil (j : Nat)
inductive S where
  | bad | skip | seq (a b : S) | set (t : T) (x : X) | unp (rv : Bool) (ts : List T) (x : X)
  | ssub (o i v : X) | aug (t : T) (op : Operator) (x : X) | del (o i : X) | exp (x : X) | ret (x : X) | ret0 | brk | cont
  | ite (t : X) (a b : S) | whl (t : X) (b : S) | for_ (t : Tg) (it : X) (b : S)
  | rais (c : Addr) (m : Str) | tryx (b : S) (f args : X) (c : Addr) (h : Hd)

noncomputable def stW (t : T) (v : V) (cs : List Addr) (fr : List V) (σ : St) (K : List V → St → Prop) : Prop := match t with
  | .l i => K (setN fr i v) σ
  | .c i => match σ (nthA cs i) with
    | some (.cell _) => K fr (σ.set (nthA cs i) (.cell v))
    | _ => False
noncomputable def stsW : List T → List V → List Addr → List V → St → (List V → St → Prop) → Prop
  | [], [], _, fr, σ, K => K fr σ
  | t :: ts, v :: vs, cs, fr, σ, K => stW t v cs fr σ fun fr' σ' => stsW ts vs cs fr' σ' K
  | _, _, _, _, _, _ => False
noncomputable def tupW (v : V) (σ : St) (K : List V → Prop) : Prop := refW v σ fun _ o => match o with
  | .tup xs => K xs
  | _ => False
noncomputable def tgW (t : Tg) (v : V) (cs : List Addr) (fr : List V) (σ : St) (K : List V → St → Prop) : Prop := match t with
  | .one t => stW t v cs fr σ K
  | .many ts => tupW v σ fun xs => xs.length = ts.length ∧ stsW ts xs cs fr σ K
noncomputable def ldW (t : T) (cs : List Addr) (fr : List V) (σ : St) (K : V → Prop) : Prop := match t with
  | .l i => nth fr i ≠ .undef ∧ K (nth fr i)
  | .c i => match σ (nthA cs i) with
    | some (.cell v) => v ≠ .undef ∧ K v
    | _ => False

noncomputable def ssubW (o i v : V) (σ : St) (K : St → Prop) : Prop := match i with
  | .int k => mlistW o σ fun a xs => idxOk k xs.length ∧ K (σ.set a (.lst (setN xs (idx k xs.length) v)))
  | _ => False
noncomputable def delW (o i : V) (σ : St) (K : St → Prop) : Prop := match i with
  | .int k => mlistW o σ fun a xs => idxOk k xs.length ∧ K (σ.set a (.lst (xs.eraseIdx (idx k xs.length))))
  | _ => False
noncomputable def augW (op : Operator) (a b : V) (K : V → Prop) : Prop := match op, a, b with
  | .Add, .int x, .int y => K (.int (x + y))
  | .Sub, .int x, .int y => K (.int (x - y))
  | _, _, _ => False

/-- how a loop goes on behind a turn -/
noncomputable def lpW (again : St → List V → Prop) (Q : Fl → St → List V → Prop) (f : Fl) (σ : St) (fr : List V) : Prop := match f with
  | .next => again σ fr
  | .cont => again σ fr
  | .brk => Q .next σ fr
  | .ret v => Q (.ret v) σ fr
noncomputable def forW (chk : St → Prop) (bod : V → List V → St → (Fl → St → List V → Prop) → Prop) : List V → List V → St → (Fl → St → List V → Prop) → Prop
  | [], fr, σ, Q => chk σ ∧ Q .next σ fr
  | v :: r, fr, σ, Q => chk σ ∧ bod v fr σ (lpW (fun σ' fr' => forW chk bod r fr' σ' Q) Q)
noncomputable def whW (t : List V → St → (Bool → St → Prop) → Prop) (bod : List V → St → (Fl → St → List V → Prop) → Prop) (fr : List V) (σ : St) (Q : Fl → St → List V → Prop) : Prop :=
  ∃ I : Nat → St → List V → Prop, (∃ k, I k σ fr) ∧ ∀ j σ fr, I j σ fr →
    t fr σ fun b σ1 => if b = true then bod fr σ1 (lpW (fun σ' fr' => ∃ i, i < j ∧ I i σ' fr') Q) else Q .next σ1 fr

noncomputable def hdW (h : Hd) (m : Str) (fr : List V) (σ : St) (Q : Fl → St → List V → Prop) : Prop := match h with
  | .retStr _ => Q (.ret (.str m)) σ (undefs fr.length)
  | .appStr i j => nth fr j ≠ .undef ∧ mlistW (nth fr j) σ fun a xs => xs.length + 1 ≤ lim ∧ Q .next (σ.set a (.lst (xs ++ [.str m]))) (setN fr i .undef)
  | .retNil j => nth fr j ≠ .undef ∧ litemsW (nth fr j) σ fun xs => ∀ a, σ a = none → Q (.ret (.bool xs.isEmpty)) (σ.set a (.lst [])) fr
noncomputable def sW (W : Wd) (n : Nat) : S → List Addr → List V → St → (Fl → St → List V → Prop) → Prop
  | .bad, _, _, _, _ => False
  | .skip, _, fr, σ, Q => Q .next σ fr
  | .seq a b, cs, fr, σ, Q => sW W n a cs fr σ fun f σ1 fr1 => (match f with
    | .next => sW W n b cs fr1 σ1 Q
    | f => Q f σ1 fr1)
  | .set t x, cs, fr, σ, Q => xW W n x cs fr σ fun v σ1 => stW t v cs fr σ1 fun fr1 σ2 => Q .next σ2 fr1
  | .unp rv ts x, cs, fr, σ, Q => xW W n x cs fr σ fun v σ1 => tupW v σ1 fun xs => xs.length = ts.length ∧
      (if rv = true then stsW ts.reverse xs.reverse cs fr σ1 fun fr1 σ2 => Q .next σ2 fr1 else stsW ts xs cs fr σ1 fun fr1 σ2 => Q .next σ2 fr1)
  | .ssub o i x, cs, fr, σ, Q => xW W n x cs fr σ fun v σ1 => xW W n o cs fr σ1 fun a σ2 => xW W n i cs fr σ2 fun b σ3 => ssubW a b v σ3 fun σ4 => Q .next σ4 fr
  | .aug t op x, cs, fr, σ, Q => ldW t cs fr σ fun old => xW W n x cs fr σ fun v σ1 => augW op old v fun r => stW t r cs fr σ1 fun fr1 σ2 => Q .next σ2 fr1
  | .del o i, cs, fr, σ, Q => xW W n o cs fr σ fun a σ1 => xW W n i cs fr σ1 fun b σ2 => delW a b σ2 fun σ3 => Q .next σ3 fr
  | .exp x, cs, fr, σ, Q => xW W n x cs fr σ fun _ σ1 => Q .next σ1 fr
  | .ret x, cs, fr, σ, Q => xW W n x cs fr σ fun v σ1 => Q (.ret v) σ1 fr
  | .ret0, _, fr, σ, Q => Q (.ret .none) σ fr
  | .brk, _, fr, σ, Q => Q .brk σ fr
  | .cont, _, fr, σ, Q => Q .cont σ fr
  | .ite t a b, cs, fr, σ, Q => tW W n t cs fr σ fun c σ1 => if c = true then sW W n a cs fr σ1 Q else sW W n b cs fr σ1 Q
  | .whl t b, cs, fr, σ, Q => whW (fun fr σ k => tW W n t cs fr σ k) (fun fr σ k => sW W n b cs fr σ k) fr σ Q
  | .for_ t it b, cs, fr, σ, Q => xW W n it cs fr σ fun v σ1 => iterW v σ1 fun xs chk =>
      forW chk (fun x fr σ k => tgW t x cs fr σ fun fr1 σ2 => sW W n b cs fr1 σ2 k) xs fr σ1 Q
  | .rais _ _, _, _, _, _ => False
  | .tryx b f args c h, cs, fr, σ, Q => sW W n b cs fr σ Q ∨ (ExcC W.H c ∧ xW W n f cs fr σ fun fv σ1 => lW W n args cs fr σ1 fun vs σ2 => ∃ m, CallRz W n fv vs c m (fun σ3 => hdW h m fr σ3 Q) σ2)

section
variable {W : Wd} {n : Nat} {cs : List Addr} {fr : List V} {σ : St} {Q : Fl → St → List V → Prop}
theorem s_bad : sW W n .bad cs fr σ Q = False := rfl
theorem s_skip : sW W n .skip cs fr σ Q = Q .next σ fr := rfl
theorem s_seq {a b : S} : sW W n (.seq a b) cs fr σ Q = sW W n a cs fr σ fun f σ1 fr1 => (match f with
    | .next => sW W n b cs fr1 σ1 Q
    | f => Q f σ1 fr1) := rfl
theorem s_set {t : T} {x : X} : sW W n (.set t x) cs fr σ Q = xW W n x cs fr σ fun v σ1 => stW t v cs fr σ1 fun fr1 σ2 => Q .next σ2 fr1 := rfl
theorem s_unp {rv : Bool} {ts : List T} {x : X} : sW W n (.unp rv ts x) cs fr σ Q = xW W n x cs fr σ fun v σ1 => tupW v σ1 fun xs => xs.length = ts.length ∧
      (if rv = true then stsW ts.reverse xs.reverse cs fr σ1 fun fr1 σ2 => Q .next σ2 fr1 else stsW ts xs cs fr σ1 fun fr1 σ2 => Q .next σ2 fr1) := rfl
theorem s_ssub {o i x : X} : sW W n (.ssub o i x) cs fr σ Q = xW W n x cs fr σ fun v σ1 => xW W n o cs fr σ1 fun a σ2 => xW W n i cs fr σ2 fun b σ3 => ssubW a b v σ3 fun σ4 => Q .next σ4 fr := rfl
theorem s_aug {t : T} {op : Operator} {x : X} : sW W n (.aug t op x) cs fr σ Q = ldW t cs fr σ fun old => xW W n x cs fr σ fun v σ1 => augW op old v fun r => stW t r cs fr σ1 fun fr1 σ2 => Q .next σ2 fr1 := rfl
theorem s_del {o i : X} : sW W n (.del o i) cs fr σ Q = xW W n o cs fr σ fun a σ1 => xW W n i cs fr σ1 fun b σ2 => delW a b σ2 fun σ3 => Q .next σ3 fr := rfl
theorem s_exp {x : X} : sW W n (.exp x) cs fr σ Q = xW W n x cs fr σ fun _ σ1 => Q .next σ1 fr := rfl
theorem s_ret {x : X} : sW W n (.ret x) cs fr σ Q = xW W n x cs fr σ fun v σ1 => Q (.ret v) σ1 fr := rfl
theorem s_ret0 : sW W n .ret0 cs fr σ Q = Q (.ret .none) σ fr := rfl
theorem s_brk : sW W n .brk cs fr σ Q = Q .brk σ fr := rfl
theorem s_cont : sW W n .cont cs fr σ Q = Q .cont σ fr := rfl
theorem s_ite {t : X} {a b : S} : sW W n (.ite t a b) cs fr σ Q = tW W n t cs fr σ fun c σ1 => if c = true then sW W n a cs fr σ1 Q else sW W n b cs fr σ1 Q := rfl
theorem s_whl {t : X} {b : S} : sW W n (.whl t b) cs fr σ Q = whW (fun fr σ k => tW W n t cs fr σ k) (fun fr σ k => sW W n b cs fr σ k) fr σ Q := rfl
theorem s_for {t : Tg} {it : X} {b : S} : sW W n (.for_ t it b) cs fr σ Q = xW W n it cs fr σ fun v σ1 => iterW v σ1 fun xs chk =>
      forW chk (fun x fr σ k => tgW t x cs fr σ fun fr1 σ2 => sW W n b cs fr1 σ2 k) xs fr σ1 Q := rfl
theorem s_try {b : S} {f args : X} {c : Addr} {h : Hd} : sW W n (.tryx b f args c h) cs fr σ Q = (sW W n b cs fr σ Q ∨ (ExcC W.H c ∧ xW W n f cs fr σ fun fv σ1 => lW W n args cs fr σ1 fun vs σ2 => ∃ m, CallRz W n fv vs c m (fun σ3 => hdW h m fr σ3 Q) σ2)) := rfl
end


noncomputable def place (ns : List (Str × NameKind)) (x : Str) : Nat := ns.findIdx fun p => p.1 == x
noncomputable def erName (gl : Str → Option V) (ns : List (Str × NameKind)) (x : Str) : X :=
  if x == ("__debug__" : Str) then .bad else
  match ns.lookup x with
  | some .local => .loc (place ns x)
  | some .cell => .cel (place ns x)
  | some .free => .cel (place ns x)
  | some .globalImplicit => (match gl x with
    | some v => .con v
    | none => .bad)
  | _ => .bad
noncomputable def biS (x : String) : Option Bi :=
  if x = "len" then some .len else if x = "sorted" then some .sorted else if x = "min" then some .min else if x = "max" then some .max else
  if x = "sum" then some .sum else if x = "abs" then some .abs else if x = "divmod" then some .divmod else if x = "isinstance" then some .isinstance else none
noncomputable def biT (x : String) : Option Bi :=
  if x = "range" then some .range else if x = "list" then some .list else if x = "type" then some .type else if x = "int" then some .int else
  if x = "zip" then some .zip else if x = "str" then some .str else none
noncomputable def biOf (v : V) : Option Bi := match v with
  | .bi x => biS x
  | .typ x => biT x
  | _ => none
noncomputable def meOf (x : Str) : Option Me :=
  if x == ("append" : Str) then some .append else
  if x == ("insert" : Str) then some .insert else
  if x == ("pop" : Str) then some .pop else
  if x == ("remove" : Str) then some .remove else
  if x == ("extend" : Str) then some .extend else
  if x == ("count" : Str) then some .count else none
noncomputable def callX (f : X) (args : X) (kn : List (Option Str)) (kargs : X) : X :=
  match f, kn with
  | .con v, [] => (match biOf v with
    | some b => .bcall b args
    | none => .call f args [] kargs)
  | f, kn => if kn.all (·.isSome) then .call f args (kn.filterMap id) kargs else .bad
noncomputable def plainE : PySem.Expr → Bool
  | .Starred .. => false
  | _ => true

/-- the table of a comprehension's block, as the model lays it -/
noncomputable def rl (ns inner : List (Str × NameKind)) : List (Str × NameKind) := inner.map fun (y, k) => if (k == .free && true && ns.lookup y == some .cell) then (y, .cell) else (y, k)
noncomputable def scOk (ns : List (Str × NameKind)) (sc : Scope) (x : Str) : Bool :=
  sc.kind == .function && decide ((sc.names.map (·.1)).Nodup) && (sc.names.lookup x == some .local) &&
  sc.names.all (fun p => p.2 != .cell && p.1 != ("__classdict__" : Str) && (p.2 != .free || ns.lookup p.1 == some .cell || ns.lookup p.1 == some .free))
noncomputable def noSet : PySem.Expr → Bool
  | .Set .. => false
  | _ => true
noncomputable def noCall : PySem.Expr → Bool
  | .Call .. => false
  | _ => true

mutual
noncomputable def er (gl : Str → Option V) (ns : List (Str × NameKind)) : PySem.Expr → X
  | .Constant .none _ _ => .con .none
  | .Constant (.bool b) _ _ => .con (.bool b)
  | .Constant (.int i) _ _ => .con (.int i)
  | .Constant (.str x) _ _ => .con (.str x)
  | .Name x _ => erName gl ns x
  | .BinOp l op r _ => .bin op (er gl ns l) (er gl ns r)
  | .UnaryOp .Not x _ => .not (er gl ns x)
  | .UnaryOp .USub x _ => .neg (er gl ns x)
  | .BoolOp .And vs _ => if vs.isEmpty then .bad else erAnd gl ns vs
  | .BoolOp .Or vs _ => erOr gl ns vs
  | .IfExp t a b _ => .ife (er gl ns t) (er gl ns a) (er gl ns b)
  | .List es _ => .lst (erL gl ns es)
  | .Tuple es _ _ => .tup (erL gl ns es)
  | .Compare l [op] [r] _ => if noSet r then .cmp op (er gl ns l) (er gl ns r) else .bad
  | .Compare l [op, op'] [r, r'] _ => if noSet r && noSet r' then .cmp2 op op' (er gl ns l) (er gl ns r) (er gl ns r') else .bad
  | .Call (.Attribute o name ap) args [] p => (match meOf name, noCall o && (ap.endLine == p.line) && decide (args.length < 20) && args.all plainE with
    | some m, true => .meth m (er gl ns o) (erL gl ns args)
    | _, _ => .bad)
  | .Call (.Attribute _ _ _) _ _ _ => .bad
  | .Call f args ks _ => if args.all plainE then callX (er gl ns f) (erL gl ns args) (ks.map fun k => k.arg) (erK gl ns ks) else .bad
  | .Subscript o (.Slice lo hi st _) _ => .sl (er gl ns o) (erO gl ns lo) (erO gl ns hi) (erO gl ns st)
  | .Subscript o i _ => .sub (er gl ns o) (er gl ns i)
  | .ListComp elt [⟨.Name x _, it, ifs, a⟩] sc _ => if decide (a = 0) && (scOk ns sc x && noSet it) then
      .comp sc.names.length (sc.names.map fun p => place ns p.1) (er gl ns it) (place (rl ns sc.names) x) (erAnd gl (rl ns sc.names) ifs) (er gl (rl ns sc.names) elt) else .bad
  | _ => .bad
noncomputable def erL (gl : Str → Option V) (ns : List (Str × NameKind)) : List PySem.Expr → X
  | [] => .nil
  | e :: r => if plainE e then .cons (er gl ns e) (erL gl ns r) else .bad
noncomputable def erAnd (gl : Str → Option V) (ns : List (Str × NameKind)) : List PySem.Expr → X
  | [] => .con (.bool true)
  | [e] => er gl ns e
  | e :: r => .and (er gl ns e) (erAnd gl ns r)
noncomputable def erOr (gl : Str → Option V) (ns : List (Str × NameKind)) : List PySem.Expr → X
  | [] => .bad
  | [e] => er gl ns e
  | e :: r => .or (er gl ns e) (erOr gl ns r)
noncomputable def erK (gl : Str → Option V) (ns : List (Str × NameKind)) : List Keyword → X
  | [] => .nil
  | ⟨_, e, _⟩ :: r => .cons (er gl ns e) (erK gl ns r)
noncomputable def erO (gl : Str → Option V) (ns : List (Str × NameKind)) : Option PySem.Expr → X
  | none => .con .none
  | some e => er gl ns e
end

noncomputable def tgOf (ns : List (Str × NameKind)) (x : Str) : Option T := match ns.lookup x with
  | some .local => some (.l (place ns x))
  | some .cell => some (.c (place ns x))
  | _ => none
noncomputable def tgsOf (ns : List (Str × NameKind)) : List PySem.Expr → Option (List T)
  | [] => some []
  | .Name x _ :: r => (tgOf ns x).bind fun t => (tgsOf ns r).map (t :: ·)
  | _ => none
/-- do the stores of a tuple go in reverse (the model's own question, without the monad) -/
noncomputable def swS (ns : List (Str × NameKind)) (targets : List PySem.Expr) (value : PySem.Expr) : Option (Option (List Str)) :=
  match (match targets, value with
    | [.Tuple ts _ _], .Tuple vs _ _ | [.List ts _], .Tuple vs _ _ => some (ts, vs)
    | _, _ => none) with
  | none => some none
  | some (ts, vs) =>
    if (!(ts.length == 2 || ts.length == 3) || vs.length != ts.length || false) = true then some none else
    if (vs.any fun | .Starred .. => true | _ => false) = true then some none else
    if (ts.filterMap (fun | .Name id pos => if (ns.lookup id == some .local && pos.line == (ts.head?.map (·.pos.line)).getD 0) = true then some id else none | _ => none)).length != ts.length ||
       (ts.filterMap (fun | .Name id pos => if (ns.lookup id == some .local && pos.line == (ts.head?.map (·.pos.line)).getD 0) = true then some id else none | _ => none)).eraseDups.length !=
       (ts.filterMap (fun | .Name id pos => if (ns.lookup id == some .local && pos.line == (ts.head?.map (·.pos.line)).getD 0) = true then some id else none | _ => none)).length then some none else
    if (vs.all (foldedForSure 8)) = true then some none else
    if (vs.all (constantsAlone 8)) = true then none else
    some (some (ts.filterMap (fun | .Name id pos => if (ns.lookup id == some .local && pos.line == (ts.head?.map (·.pos.line)).getD 0) = true then some id else none | _ => none)))
noncomputable def namesOfT : List PySem.Expr → List Str
  | [] => []
  | .Name x _ :: r => x :: namesOfT r
  | _ => []
noncomputable def unpX (ns : List (Str × NameKind)) (ts : List PySem.Expr) (k : Nat) (tp : Pos) (v : PySem.Expr) (x : X) : S :=
  match tgsOf ns ts, swS ns [.Tuple ts k tp] v with
  | some t, some none => .unp false t x
  | some t, some (some nms) => if nms = namesOfT ts then .unp true t x else .bad
  | _, _ => .bad
noncomputable def forTg (ns : List (Str × NameKind)) : PySem.Expr → Option Tg
  | .Name x _ => (tgOf ns x).map .one
  | .Tuple ts _ _ => (tgsOf ns ts).map .many
  | _ => none
noncomputable def one? {α : Type} (l : List α) : Option α := match l with
  | [] => none
  | x :: r => if r.isEmpty then some x else none
noncomputable def eCall (e : PySem.Expr) : Option (PySem.Expr × List PySem.Expr × List Keyword × Pos) := match e with
  | .Call f a k p => some (f, a, k, p)
  | _ => none
noncomputable def eName (e : PySem.Expr) : Option (Str × Pos) := match e with
  | .Name x p => some (x, p)
  | _ => none
noncomputable def eCmp (e : PySem.Expr) : Option (PySem.Expr × List CmpOp × List PySem.Expr × Pos) := match e with
  | .Compare l o r p => some (l, o, r, p)
  | _ => none
noncomputable def eList (e : PySem.Expr) : Option (List PySem.Expr × Pos) := match e with
  | .List l p => some (l, p)
  | _ => none
noncomputable def sRet (e : Stmt) : Option (Option PySem.Expr × Pos) := match e with
  | .Return x p => some (x, p)
  | _ => none
noncomputable def isEq (o : CmpOp) : Bool := match o with
  | .Eq => true
  | _ => false
/-- str(e), as a text has it -/
noncomputable def strC (c : PySem.Expr) : Option (Str × Str) := (eCall c).bind fun q => (eName q.1).bind fun s => (one? q.2.1).bind fun a => (eName a).bind fun x => if q.2.2.1.isEmpty then some (s.1, x.1) else none
noncomputable def typIs (v : Option V) (t : String) : Bool := match v with
  | some v => vTyp v t
  | none => false
noncomputable def strCallOk (gl : Str → Option V) (ns : List (Str × NameKind)) (e : Str) (c : PySem.Expr) : Bool := match strC c with
  | some q => q.1 == ("str" : Str) && q.2 == e && typIs (gl q.1) "str" && ns.lookup q.1 == some .globalImplicit && ns.lookup e == some .local && q.2 != ("__debug__" : Str)
  | none => false
/-- d == [], as a text has it -/
noncomputable def nilC (c : PySem.Expr) : Option Str := (eCmp c).bind fun q => (eName q.1).bind fun d => (one? q.2.1).bind fun o => (one? q.2.2.1).bind fun r => (eList r).bind fun l => if isEq o && l.1.isEmpty then some d.1 else none
noncomputable def retC (hb : List Stmt) : Option PySem.Expr := (one? hb).bind fun st => (sRet st).bind fun r => r.1
noncomputable def hdOf (gl : Str → Option V) (ns : List (Str × NameKind)) (nm : Option Str) (hb : List Stmt) : Option Hd := (retC hb).bind fun c => match nm with
  | some e => if strCallOk gl ns e c then some (.retStr (place ns e)) else none
  | none => (nilC c).bind fun d => if ns.lookup d == some .local && d != ("__debug__" : Str) then some (.retNil (place ns d)) else none
noncomputable def stCall (st : Stmt) : Option PySem.Expr := match st with
  | .Expr e _ => some e
  | .Assign ts e _ => ((one? ts).bind eName).map fun _ => e
  | _ => none
noncomputable def tryCall (st : Stmt) : Option (Str × Pos × List PySem.Expr × Pos) := (stCall st).bind fun e => (eCall e).bind fun q => (eName q.1).bind fun f => if q.2.2.1.isEmpty then some (f.1, f.2, q.2.1, q.2.2.2) else none
noncomputable def refOf (v : Option V) : Option Addr := match v with
  | some v => vRef v
  | none => none
noncomputable def tryS (gl : Str → Option V) (ns : List (Str × NameKind)) (st : Stmt) (b : S) (c : Str) (nm : Option Str) (hb : List Stmt) : S :=
  match tryCall st with
  | none => .bad
  | some q => match hdOf gl ns nm hb with
    | none => .bad
    | some h => match refOf (gl c) with
      | none => .bad
      | some C => if q.2.2.1.all plainE && (ns.lookup c == some .globalImplicit && c != ("__debug__" : Str)) && ns.lookup q.1 == some .local then .tryx b (er gl ns (.Name q.1 q.2.1)) (erL gl ns q.2.2.1) C h else .bad
mutual
noncomputable def erS (gl : Str → Option V) (ns : List (Str × NameKind)) : Stmt → S
  | .Assign [.Name x _] v _ => (match tgOf ns x with
    | some t => .set t (er gl ns v)
    | none => .bad)
  | .Assign [.Tuple ts k tp] v _ => unpX ns ts k tp v (er gl ns v)
  | .Assign [.Subscript o i _] v _ => .ssub (er gl ns o) (er gl ns i) (er gl ns v)
  | .AugAssign (.Name x _) op v _ => (match tgOf ns x with
    | some t => .aug t op (er gl ns v)
    | none => .bad)
  | .Delete [.Subscript o i _] _ => .del (er gl ns o) (er gl ns i)
  | .Expr v _ => (match v with
    | .ListComp .. => .bad
    | .SetComp .. => .bad
    | .DictComp .. => .bad
    | v => .exp (er gl ns v))
  | .Return (some v) _ => .ret (er gl ns v)
  | .Return none _ => .ret0
  | .If t b o _ => .ite (er gl ns t) (erSs gl ns b) (erSs gl ns o)
  | .While t b [] _ => .whl (er gl ns t) (erSs gl ns b)
  | .For t it b [] _ => (match forTg ns t, noSet it with
    | some tg, true => .for_ tg (er gl ns it) (erSs gl ns b)
    | _, _ => .bad)
  | .Raise (some (.Call (.Name x _) [.Constant (.str m) _ _] [] _)) none _ => (match refOf (gl x) with
    | some c => if ns.lookup x == some .globalImplicit && x != ("__debug__" : Str) then .rais c m else .bad
    | none => .bad)
  | .Try [st] [.ExceptHandler (some (.Name c _)) nm hb _] [] [] _ => tryS gl ns st (erS gl ns st) c nm hb
  | .Pass _ => .skip
  | .Break _ => .brk
  | .Continue _ => .cont
  | _ => .bad
noncomputable def erSs (gl : Str → Option V) (ns : List (Str × NameKind)) : List Stmt → S
  | [] => .skip
  | s :: r => .seq (erS gl ns s) (erSs gl ns r)
end

section
variable {gl : Str → Option V} {ns : List (Str × NameKind)} {p p' : Pos}
theorem e_none {k : Nat} : er gl ns (.Constant .none k p) = .con .none := rfl
theorem e_bool {b : Bool} {k : Nat} : er gl ns (.Constant (.bool b) k p) = .con (.bool b) := rfl
theorem e_int {i : Int} {k : Nat} : er gl ns (.Constant (.int i) k p) = .con (.int i) := rfl
theorem e_str {x : Str} {k : Nat} : er gl ns (.Constant (.str x) k p) = .con (.str x) := rfl
theorem e_name {x : Str} : er gl ns (.Name x p) = erName gl ns x := rfl
theorem e_bin {l r : PySem.Expr} {op : Operator} : er gl ns (.BinOp l op r p) = .bin op (er gl ns l) (er gl ns r) := rfl
theorem e_not {x : PySem.Expr} : er gl ns (.UnaryOp .Not x p) = .not (er gl ns x) := rfl
theorem e_neg {x : PySem.Expr} : er gl ns (.UnaryOp .USub x p) = .neg (er gl ns x) := rfl
theorem e_and {vs : List PySem.Expr} : er gl ns (.BoolOp .And vs p) = if vs.isEmpty then .bad else erAnd gl ns vs := rfl
theorem e_or {vs : List PySem.Expr} : er gl ns (.BoolOp .Or vs p) = erOr gl ns vs := rfl
theorem e_ife {t a b : PySem.Expr} : er gl ns (.IfExp t a b p) = .ife (er gl ns t) (er gl ns a) (er gl ns b) := rfl
theorem e_list {es : List PySem.Expr} : er gl ns (.List es p) = .lst (erL gl ns es) := rfl
theorem e_tuple {es : List PySem.Expr} {k : Nat} : er gl ns (.Tuple es k p) = .tup (erL gl ns es) := rfl
theorem e_cmp1 {l r : PySem.Expr} {op : CmpOp} : er gl ns (.Compare l [op] [r] p) = if noSet r then .cmp op (er gl ns l) (er gl ns r) else .bad := rfl
theorem e_cmp2 {l r r' : PySem.Expr} {op op' : CmpOp} : er gl ns (.Compare l [op, op'] [r, r'] p) = if noSet r && noSet r' then .cmp2 op op' (er gl ns l) (er gl ns r) (er gl ns r') else .bad := rfl
theorem e_meth {o : PySem.Expr} {name : Str} {args : List PySem.Expr} : er gl ns (.Call (.Attribute o name p') args [] p) = (match meOf name, noCall o && (p'.endLine == p.line) && decide (args.length < 20) && args.all plainE with
    | some m, true => .meth m (er gl ns o) (erL gl ns args)
    | _, _ => .bad) := rfl
theorem e_slice {o : PySem.Expr} {lo hi st : Option PySem.Expr} : er gl ns (.Subscript o (.Slice lo hi st p') p) = .sl (er gl ns o) (erO gl ns lo) (erO gl ns hi) (erO gl ns st) := rfl
theorem e_comp {elt it : PySem.Expr} {x : Str} {ifs : List PySem.Expr} {a : Int} {sc : Scope} : er gl ns (.ListComp elt [⟨.Name x p', it, ifs, a⟩] sc p) = if decide (a = 0) && (scOk ns sc x && noSet it) then
      .comp sc.names.length (sc.names.map fun p => place ns p.1) (er gl ns it) (place (rl ns sc.names) x) (erAnd gl (rl ns sc.names) ifs) (er gl (rl ns sc.names) elt) else .bad := rfl
theorem el_nil : erL gl ns [] = .nil := rfl
theorem el_cons {e : PySem.Expr} {r : List PySem.Expr} : erL gl ns (e :: r) = if plainE e then .cons (er gl ns e) (erL gl ns r) else .bad := rfl
theorem ea_nil : erAnd gl ns [] = .con (.bool true) := rfl
theorem ea_one {e : PySem.Expr} : erAnd gl ns [e] = er gl ns e := rfl
theorem ea_cons {e e' : PySem.Expr} {r : List PySem.Expr} : erAnd gl ns (e :: e' :: r) = .and (er gl ns e) (erAnd gl ns (e' :: r)) := rfl
theorem eo_nil : erOr gl ns [] = .bad := rfl
theorem eo_one {e : PySem.Expr} : erOr gl ns [e] = er gl ns e := rfl
theorem eo_cons {e e' : PySem.Expr} {r : List PySem.Expr} : erOr gl ns (e :: e' :: r) = .or (er gl ns e) (erOr gl ns (e' :: r)) := rfl
theorem ek_nil : erK gl ns [] = .nil := rfl
theorem ek_cons {k : Option Str} {e : PySem.Expr} {r : List Keyword} : erK gl ns (⟨k, e, p⟩ :: r) = .cons (er gl ns e) (erK gl ns r) := rfl
theorem es_name {x : Str} {v : PySem.Expr} : erS gl ns (.Assign [.Name x p'] v p) = (match tgOf ns x with
    | some t => .set t (er gl ns v)
    | none => .bad) := rfl
theorem es_tup {ts : List PySem.Expr} {k : Nat} {v : PySem.Expr} : erS gl ns (.Assign [.Tuple ts k p'] v p) = unpX ns ts k p' v (er gl ns v) := rfl
theorem es_ssub {o i v : PySem.Expr} : erS gl ns (.Assign [.Subscript o i p'] v p) = .ssub (er gl ns o) (er gl ns i) (er gl ns v) := rfl
theorem es_aug {x : Str} {op : Operator} {v : PySem.Expr} : erS gl ns (.AugAssign (.Name x p') op v p) = (match tgOf ns x with
    | some t => .aug t op (er gl ns v)
    | none => .bad) := rfl
theorem es_del {o i : PySem.Expr} : erS gl ns (.Delete [.Subscript o i p'] p) = .del (er gl ns o) (er gl ns i) := rfl
theorem es_ret {v : PySem.Expr} : erS gl ns (.Return (some v) p) = .ret (er gl ns v) := rfl
theorem es_ret0 : erS gl ns (.Return none p) = .ret0 := rfl
theorem es_if {t : PySem.Expr} {b o : List Stmt} : erS gl ns (.If t b o p) = .ite (er gl ns t) (erSs gl ns b) (erSs gl ns o) := rfl
theorem es_while {t : PySem.Expr} {b : List Stmt} : erS gl ns (.While t b [] p) = .whl (er gl ns t) (erSs gl ns b) := rfl
theorem es_for {t it : PySem.Expr} {b : List Stmt} : erS gl ns (.For t it b [] p) = (match forTg ns t, noSet it with
    | some tg, true => .for_ tg (er gl ns it) (erSs gl ns b)
    | _, _ => .bad) := rfl
theorem es_pass : erS gl ns (.Pass p) = .skip := rfl
theorem es_break : erS gl ns (.Break p) = .brk := rfl
theorem es_cont : erS gl ns (.Continue p) = .cont := rfl
theorem es_try {st : Stmt} {c : Str} {nm : Option Str} {hb : List Stmt} {p1 p2 p3 : Pos} : erS gl ns (.Try [st] [.ExceptHandler (some (.Name c p1)) nm hb p2] [] [] p3) = tryS gl ns st (erS gl ns st) c nm hb := rfl
theorem es_raise {x : Str} {m : Str} {k : Nat} {p1 p2 p3 p4 : Pos} : erS gl ns (.Raise (some (.Call (.Name x p1) [.Constant (.str m) k p2] [] p3)) none p4) = (match refOf (gl x) with
    | some c => if ns.lookup x == some .globalImplicit && x != ("__debug__" : Str) then .rais c m else .bad
    | none => .bad) := rfl
theorem ess_nil : erSs gl ns [] = .skip := rfl
theorem ess_cons {s : Stmt} {r : List Stmt} : erSs gl ns (s :: r) = .seq (erS gl ns s) (erSs gl ns r) := rfl
end
end Mine

end
section -- F4
namespace Mine

section
variable {H : Heap} {σ : St} {s s' : Shared} {L : Addr → Prop}

theorem RelG.ext (r : RelG H σ s) (hk : ∀ b o, s.heap.get? b = some o → s'.heap.get? b = some o) : RelG H σ s' :=
  ⟨fun b o e => hk b o (r.base b o e), fun a x e => (r.objs a x e).at fun o => hk a o, r.own⟩
theorem Stp.ext (hk : ∀ b o, s.heap.get? b = some o → s'.heap.get? b = some o) (hr : ∃ h t, s' = { s with heap := h, toks := t }) : Stp L σ s σ s' :=
  .of (fun b o e _ _ => hk b o e) (fun _ x e => .inl ⟨x, e, id⟩) (fun b o e => ⟨o, hk b o e⟩) hr
theorem RelG.fresh (r : RelG H σ s) {a : Addr} (h : s.heap.get? a = none) : σ a = none := by
  cases e : σ a with
  | none => rfl
  | some x => obtain ⟨o, ho⟩ := (r.objs a x e).get; rw [h] at ho; cases ho
theorem RelG.offbase (r : RelG H σ s) {a : Addr} (h : s.heap.get? a = none) : H.get? a = none := by
  cases e : H.get? a with
  | none => rfl
  | some x => have := r.base _ _ e; rw [h] at this; cases this
theorem get_size (h : Heap) : h.get? h.objs.size = none := by
  cases e : h.get? h.objs.size with
  | none => rfl
  | some o => exact absurd (Heap.lt_size e) (Nat.lt_irrefl _)
theorem RelG.alloc (r : RelG H σ s) {a : Addr} {x : O} (hk : ∀ b o, s.heap.get? b = some o → s'.heap.get? b = some o) (ha : s.heap.get? a = none) (ho : ObjR s'.heap a x) : RelG H (σ.set a x) s' := by
  refine ⟨fun b o e => hk b o (r.base b o e), fun b y e => ?_, fun b y e hm => ?_⟩
  · by_cases hb : b = a
    · subst hb; rw [St.set_same] at e; cases e; exact ho
    · rw [St.set_other _ _ hb] at e; exact (r.objs b y e).at fun o => hk b o
  · by_cases hb : b = a
    · subst hb; exact r.offbase ha
    · rw [St.set_other _ _ hb] at e; exact r.own b y e hm
theorem Stp.alloc {a : Addr} {x : O} (hk : ∀ b o, s.heap.get? b = some o → s'.heap.get? b = some o) (ha : s.heap.get? a = none) (hr : ∃ h t, s' = { s with heap := h, toks := t }) :
    Stp L σ s (σ.set a x) s' :=
  .of (fun b o e _ _ => hk b o e) (fun b y e => by
    by_cases hb : b = a
    · subst hb; exact .inr ha
    · rw [St.set_other _ _ hb] at e; exact .inl ⟨y, e, id⟩) (fun b o e => ⟨o, hk b o e⟩) hr
theorem RelG.put (r : RelG H σ s) {a : Addr} {y x : O} (hy : σ a = some y) (hm : y.mut = true) (hs : Heap.SameBut a s.heap s'.heap) (ho : ObjR s'.heap a x) : RelG H (σ.set a x) s' := by
  have hH := r.own a y hy hm
  refine ⟨fun b o e => ?_, fun b z e => ?_, fun b z e hz => ?_⟩
  · have hb : b ≠ a := by rintro rfl; rw [hH] at e; cases e
    exact (hs.2 b hb).trans (r.base b o e)
  · by_cases hb : b = a
    · subst hb; rw [St.set_same] at e; cases e; exact ho
    · rw [St.set_other _ _ hb] at e; exact (r.objs b z e).at fun o eo => (hs.2 b hb).trans eo
  · by_cases hb : b = a
    · subst hb; exact hH
    · rw [St.set_other _ _ hb] at e; exact r.own b z e hz
theorem Stp.put {a : Addr} {y x : O} (hy : σ a = some y) (hm : y.mut = true) (hs : Heap.SameBut a s.heap s'.heap) (ho : ObjR s'.heap a x) (hr : ∃ h t, s' = { s with heap := h, toks := t }) : Stp L σ s (σ.set a x) s' :=
  .of (fun b o e hn _ => by
    have hb : b ≠ a := by rintro rfl; have := hn y hy; rw [hm] at this; cases this
    exact (hs.2 b hb).trans e) (fun b z e => by
    by_cases hb : b = a
    · subst hb; exact .inl ⟨y, hy, fun _ => hm⟩
    · rw [St.set_other _ _ hb] at e; exact .inl ⟨z, e, id⟩) (fun b o e => by
    by_cases hb : b = a
    · subst hb; exact ho.get
    · exact ⟨o, (hs.2 b hb).trans e⟩) hr

theorem Frs.at {A : Around} {a : Addr} {h' : Heap} {tk : Nat} {m : Str → Option Value} (f : Frs H A σ s) (hs : Heap.SameBut a s.heap h') (ha : h'.Ns a m) : Frs H A σ { s with heap := h', toks := tk } := f.mono fun b o es n e hd hσ => by
  refine ⟨hσ, ?_⟩
  by_cases hb : b = a
  · subst hb; obtain ⟨o', es', ep', e', hd', _⟩ := ha; exact ⟨o', es', ep', e', hd'⟩
  · exact ⟨o, es, n, (hs.2 b hb).trans e, hd⟩
theorem Frs.put {A : Around} {a : Addr} {x y : O} {h' : Heap} {tk : Nat} (f : Frs H A σ s) (hy : σ a = some y) (hs : Heap.SameBut a s.heap h') : Frs H A (σ.set a x) { s with heap := h', toks := tk } := f.mono fun b o es n e hd hσ => by
  have hb : b ≠ a := fun q => by rw [q, hy] at hσ; cases hσ
  exact ⟨by rw [St.set_other _ _ hb]; exact hσ, o, es, n, (hs.2 b hb).trans e, hd⟩
theorem Ns_look {h h' : Heap} {a : Addr} {m : Str → Option Value} (x : h.Ns a m) (k : ∀ o, h.get? a = some o → ∃ sl, h'.get? a = some { o with slots := sl }) : h'.Ns a m := by
  obtain ⟨o, es, ep, e, hd, r⟩ := x
  obtain ⟨sl, e'⟩ := k o e
  exact ⟨_, es, ep, e', hd, r⟩
theorem Rel.step {A : Around} {env : Env} {fr : List V} {σ' : St} (r : Rel H A env σ fr s) (g : RelG H σ' s') (t : Stp No σ s σ' s') : Rel H A env σ' fr s' := by
  obtain ⟨m, hn, hf⟩ := r.ns
  refine ⟨g, ⟨m, Ns_look hn fun o e => t.look _ _ e (fun x hx => by rw [r.off] at hx; cases hx) id, hf⟩, ?_, r.new, r.frs.step t⟩
  cases e : σ' env.locals with
  | none => rfl
  | some x =>
    rcases t.dom _ _ e with ⟨y, hy, _⟩ | h
    · rw [r.off] at hy; cases hy
    · obtain ⟨o, _, _, e', _⟩ := hn; rw [h] at e'; cases e'
theorem RelG.toks (r : RelG H σ s) (t : Nat) : RelG H σ { s with toks := t } := ⟨r.base, r.objs, r.own⟩
theorem Stp.toks (t : Nat) : Stp L σ s σ { s with toks := t } := .of (fun _ _ e _ _ => e) (fun _ x e => .inl ⟨x, e, id⟩) (fun _ o e => ⟨o, e⟩) ⟨s.heap, t, rfl⟩
end

noncomputable def PostA {α : Type} (H : Heap) (L : Addr → Prop) (σ : St) (s : Shared) (Q : α → St → Prop) : α → Shared → Prop :=
  fun v s' => ∃ σ', Q v σ' ∧ RelG H σ' s' ∧ Stp L σ s σ' s'
theorem PostA.trans {α : Type} {H : Heap} {L : Addr → Prop} {σ σ1 : St} {s s1 s2 : Shared} {Q : α → St → Prop} {v : α} (t : Stp L σ s σ1 s1) (p : PostA H L σ1 s1 Q v s2) : PostA H L σ s Q v s2 :=
  let ⟨σ', q, r, t'⟩ := p; ⟨σ', q, r, t.trans t'⟩
theorem PostA.here {α : Type} {H : Heap} {L : Addr → Prop} {σ : St} {s : Shared} {Q : α → St → Prop} {v : α} (r : RelG H σ s) (q : Q v σ) : PostA H L σ s Q v s := ⟨σ, q, r, .refl ..⟩
theorem PostA.tok {α : Type} {H : Heap} {L : Addr → Prop} {σ : St} {s : Shared} {Q : α → St → Prop} {v : α} (r : RelG H σ s) (q : Q v σ) (t : Nat) : PostA H L σ s Q v { s with toks := t } := ⟨σ, q, r.toks t, .toks t⟩

variable {W : Wd} {n : Nat} {gl : Str → Option V} {env : Env} {cs : List Addr} {fr : List V} {σ : St} {A : Around} {s : Shared}

noncomputable def EV (W : Wd) (n : Nat) (env : Env) (fr : List V) (σ : St) (t : Sem Value) (Q : V → St → Prop) : Prop :=
  ∀ A s, Room n A → Rel W.H A env σ fr s → wpAny W.M A t (PostA W.H No σ s fun v => Q (ab v)) NoE s
noncomputable def TV (W : Wd) (n : Nat) (env : Env) (fr : List V) (σ : St) (t : Sem Bool) (Q : Bool → St → Prop) : Prop :=
  ∀ A s, Room n A → Rel W.H A env σ fr s → wpAny W.M A t (PostA W.H No σ s Q) NoE s

/-- the global names mean what gl says -/
noncomputable def GlOK (H : Heap) (gl : Str → Option V) : Prop := ∀ x v, gl x = some v → ∃ v', ab v' = v ∧
  ∃ mg, H.Ns mainGlobals mg ∧ (mg x = some v' ∨ mg x = none ∧ ∃ mb, H.Ns builtinsNs mb ∧ mb x = some v')

noncomputable def SndE (W : Wd) (gl : Str → Option V) (e : PySem.Expr) : Prop := ∀ n env cs fr σ Q, EnvOK W env cs → xW W n (er gl env.scope.names e) cs fr σ Q → EV W n env fr σ (eval e env) Q
noncomputable def SndT (W : Wd) (gl : Str → Option V) (e : PySem.Expr) : Prop := ∀ n env cs fr σ Q, EnvOK W env cs → tW W n (er gl env.scope.names e) cs fr σ Q → TV W n env fr σ (isTrue e env (eval e env)) Q

theorem place_of {ns : List (Str × NameKind)} {x : Str} {k : NameKind} (h : ns.lookup x = some k) : ns[place ns x]? = some (x, k) := by
  induction ns with
  | nil => cases h
  | cons p r ih =>
    obtain ⟨y, k'⟩ := p
    by_cases hy : y = x
    · subst hy; simp [List.lookup] at h; subst h; simp [place, List.findIdx_cons]
    · have e1 : (x == y) = false := by simpa using fun e : x = y => hy e.symm
      have e2 : (y == x) = false := by simpa using hy
      rw [List.lookup_cons, e1] at h
      have := ih h
      simpa [place, List.findIdx_cons, e2] using this

theorem snd_name (G : GlOK W.H gl) {x : Str} {pos : Pos} : SndE W gl (.Name x pos) := by
  intro n env cs fr σ Q K h A s R r
  simp only [e_none, e_bool, e_int, e_str, e_name, e_bin, e_not, e_neg, e_and, e_or, e_ife, e_list, e_tuple, e_cmp1, e_cmp2, e_meth, e_slice, e_comp, erName] at h
  split at h
  · exact h.elim
  rename_i hd
  have hd' : (x == ("__debug__" : Str)) = false := by simpa using hd
  refine wpAny_Name ?_ hd'
  split at h
  · rename_i hl
    have hp := place_of hl
    obtain ⟨hu, hq⟩ := h
    obtain ⟨m, hn, hf⟩ := r.ns
    rw [nth_eq] at hu hq
    obtain ⟨v, hv, hav⟩ := hf _ _ hp hu
    exact wpAny_loadName_local K.kind hl hn hv (.here r.toRelG (by rw [hav]; exact hq))
  · rename_i hl
    have hp := place_of hl
    obtain ⟨hc, _⟩ := K.cell _ _ _ hp (.inl rfl)
    simp only [x_bad, x_con, x_loc, x_cel, x_bin, x_neg, x_not, x_and, x_or, x_cmp, x_cmp2, x_ife, x_call, x_bcall, x_meth, x_sub, x_sl, x_lst, x_tup, x_comp] at h
    split at h
    · rename_i v e
      obtain ⟨hu, hq⟩ := h
      rw [nthA_eq] at e
      obtain ⟨c, hcell, hab⟩ := r.objs _ _ e
      cases c with
      | none => exact absurd hab.symm hu
      | some cv =>
        exact wpAny_loadName_cell K.kind hl hc hcell (.here r.toRelG (by rw [show ab cv = v from hab]; exact hq))
    · exact h.elim
  · rename_i hl
    have hp := place_of hl
    obtain ⟨hc, hcd⟩ := K.cell _ _ _ hp (.inr rfl)
    simp only [x_bad, x_con, x_loc, x_cel, x_bin, x_neg, x_not, x_and, x_or, x_cmp, x_cmp2, x_ife, x_call, x_bcall, x_meth, x_sub, x_sl, x_lst, x_tup, x_comp] at h
    split at h
    · rename_i v e
      obtain ⟨hu, hq⟩ := h
      rw [nthA_eq] at e
      obtain ⟨c, hcell, hab⟩ := r.objs _ _ e
      cases c with
      | none => exact absurd hab.symm hu
      | some cv =>
        exact wpAny_loadName_free K.kind hl hc hcell (PostA.here r.toRelG (by rw [show ab cv = v from hab]; exact hq)) (by simpa using hcd)
    · exact h.elim
  · rename_i hl
    split at h
    · rename_i v e
      obtain ⟨v', hab, mg, hg, hm⟩ := G _ _ e
      have hg' := hg.keeps r.base
      have fin : ∀ (Z : Value → Shared → Prop), Z v' s → wpAny W.M A (loadGlobal env x) Z NoE s := by
        intro Z hZ
        unfold loadGlobal
        rw [K.glob, K.bts]
        refine wpAny_bind (wpAny_nsGet hg' ?_)
        rcases hm with hm | ⟨hm, mb, hb, hmb⟩
        · rw [hm]; exact wpAny_pure hZ
        · rw [hm]
          exact wpAny_bind (wpAny_nsGet (hb.keeps r.base) (by rw [hmb]; exact wpAny_pure hZ))
      have e1 : loadName env x = loadGlobal env x := by
        have hb : env.blockKind = .function := by unfold Env.blockKind; rw [K.kind]; rfl
        have hk : env.kindOf x = some .globalImplicit := hl
        unfold loadName
        rw [hb, hk, K.kind]
        rfl
      rw [e1]
      exact fin _ (.here r.toRelG (by rw [hab]; exact h))
    · exact h.elim
  · exact h.elim
end Mine

end
section -- F5
namespace Mine
variable {W : Wd} {n : Nat} {σ : St} {A : Around} {s : Shared}

theorem lim_le : lim ≤ sizeLine := by rw [sizeLine_eq]; unfold lim; omega

theorem refW_elim {v : V} {K : Addr → O → Prop} (h : refW v σ K) : ∃ a o, v = .ref a ∧ σ a = some o ∧ K a o := by
  unfold refW at h
  split at h
  · rename_i a
    split at h
    · rename_i o e; exact ⟨a, o, rfl, e, h⟩
    · exact h.elim
  · exact h.elim
theorem litemsW_elim {v : V} {K : List V → Prop} {H : Heap} (r : RelG H σ s) (h : litemsW v σ K) : ∃ a items, v = .ref a ∧ s.heap.IsList a items ∧ items.size ≤ lim ∧ K (items.toList.map ab) := by
  obtain ⟨a, o, rfl, e, h⟩ := refW_elim h
  have R := r.objs a o e
  cases o with
  | lst xs => obtain ⟨items, hp, rfl, hz⟩ := R; exact ⟨a, items, rfl, hp.isList, by simpa using hz, h⟩
  | ro xs => obtain ⟨items, hp, rfl, hz⟩ := R; exact ⟨a, items, rfl, hp, by simpa using hz, h⟩
  | tup xs => exact h.elim
  | rng a b c => exact h.elim
  | cell v => exact h.elim
  | fn f => exact h.elim
  | tab f => exact h.elim
  | code f => exact h.elim
theorem itemsW_elim {v : V} {K : List V → Prop} {H : Heap} (r : RelG H σ s) (h : itemsW v σ K) : ∃ a items, v = .ref a ∧ (s.heap.IsList a items ∨ IsTup s.heap a items) ∧ items.size ≤ lim ∧ K (items.toList.map ab) := by
  obtain ⟨a, o, rfl, e, h⟩ := refW_elim h
  have R := r.objs a o e
  cases o with
  | lst xs => obtain ⟨items, hp, rfl, hz⟩ := R; exact ⟨a, items, rfl, .inl hp.isList, by simpa using hz, h⟩
  | ro xs => obtain ⟨items, hp, rfl, hz⟩ := R; exact ⟨a, items, rfl, .inl hp, by simpa using hz, h⟩
  | tup xs => obtain ⟨items, hp, rfl, hz⟩ := R; exact ⟨a, items, rfl, .inr hp, by simpa using hz, h⟩
  | rng a b c => exact h.elim
  | cell v => exact h.elim
  | fn f => exact h.elim
  | tab f => exact h.elim
  | code f => exact h.elim
theorem mlistW_elim {v : V} {K : Addr → List V → Prop} {H : Heap} (r : RelG H σ s) (h : mlistW v σ K) : ∃ a items, v = .ref a ∧ σ a = some (.lst (items.toList.map ab)) ∧ s.heap.PlainList a items ∧ items.size ≤ lim ∧ K a (items.toList.map ab) := by
  obtain ⟨a, o, rfl, e, h⟩ := refW_elim h
  have R := r.objs a o e
  cases o with
  | lst xs => obtain ⟨items, hp, rfl, hz⟩ := R; exact ⟨a, items, rfl, e, hp, by simpa using hz, h⟩
  | ro xs => exact h.elim
  | tup xs => exact h.elim
  | rng a b c => exact h.elim
  | cell v => exact h.elim
  | fn f => exact h.elim
  | tab f => exact h.elim
  | code f => exact h.elim
theorem intsAre_of {vs : List Value} {ns : List Int} (h : vs.map ab = ivs ns) : IntsAre vs ns := by
  induction vs generalizing ns with
  | nil => cases ns with
    | nil => exact .nil
    | cons i r => cases h
  | cons v r ih =>
    cases ns with
    | nil => cases h
    | cons i q =>
      simp only [List.map_cons, ivs, List.cons.injEq] at h
      obtain ⟨t, rfl⟩ := ab_int h.1
      exact .cons i t (ih h.2)
theorem intsAre_ab {vs : List Value} {ns : List Int} (h : IntsAre vs ns) : vs.map ab = ivs ns := by
  induction h with
  | nil => rfl
  | cons i t _ ih => simp only [List.map_cons, ab, ih]; rfl
theorem lintsW_elim {v : V} {K : List Int → Prop} {H : Heap} (r : RelG H σ s) (h : lintsW v σ K) : ∃ a items ns, v = .ref a ∧ s.heap.IsList a items ∧ items.size ≤ lim ∧ IntsAre items.toList ns ∧ K ns := by
  obtain ⟨a, items, rfl, hl, hz, h⟩ := litemsW_elim r h
  split at h
  · rename_i ns e
    exact ⟨a, items, ns, rfl, hl, hz, intsAre_of (asInts_some e), h⟩
  · exact h.elim

/-- a new object at the heap's end -/
theorem post_alloc {α : Type} {H : Heap} {L : Addr → Prop} {Q : α → St → Prop} {v : α} {o : Obj} {x : O} {t : Nat} (r : RelG H σ s) (ho : ObjR (s.heap.push o) s.heap.objs.size x)
    (q : ∀ a, σ a = none → a = s.heap.objs.size → Q v (σ.set a x)) : PostA H L σ s Q v { s with heap := s.heap.push o, toks := t } :=
  ⟨σ.set s.heap.objs.size x, q _ (r.fresh (get_size _)) rfl, r.alloc (fun _ _ e => Heap.get?_push_of_some _ e) (get_size _) ho,
    .alloc (fun _ _ e => Heap.get?_push_of_some _ e) (get_size _) ⟨_, _, rfl⟩⟩
/-- a new object somewhere -/
theorem post_new {α : Type} {H : Heap} {L : Addr → Prop} {Q : α → St → Prop} {v : α} {x : O} {a : Addr} {h' : Heap} {t : Nat} (r : RelG H σ s) (hk : ∀ b o, s.heap.get? b = some o → h'.get? b = some o) (ha : s.heap.get? a = none) (ho : ObjR h' a x)
    (q : σ a = none → Q v (σ.set a x)) : PostA H L σ s Q v { s with heap := h', toks := t } :=
  ⟨σ.set a x, q (r.fresh ha), r.alloc hk ha ho, .alloc hk ha ⟨_, _, rfl⟩⟩
theorem post_ext {α : Type} {H : Heap} {L : Addr → Prop} {Q : α → St → Prop} {v : α} {h' : Heap} {t : Nat} (r : RelG H σ s) (hk : ∀ b o, s.heap.get? b = some o → h'.get? b = some o) (q : Q v σ) : PostA H L σ s Q v { s with heap := h', toks := t } :=
  ⟨σ, q, r.ext hk, .ext hk ⟨_, _, rfl⟩⟩
theorem post_put {α : Type} {H : Heap} {L : Addr → Prop} {Q : α → St → Prop} {v : α} {x : O} {a : Addr} {xs : List V} {h' : Heap} {t : Nat} (r : RelG H σ s) (hy : σ a = some (.lst xs)) (hs : Heap.SameBut a s.heap h') (ho : ObjR h' a x) (q : Q v (σ.set a x)) :
    PostA H L σ s Q v { s with heap := h', toks := t } :=
  ⟨σ.set a x, q, r.put hy rfl hs ho, .put hy rfl hs ho ⟨_, _, rfl⟩⟩
theorem objR_newList (h : Heap) (vs : List Value) (hz : vs.length ≤ lim) : ObjR (h.push { cls := .type "list", data := .seq vs.toArray }) h.objs.size (.lst (vs.map ab)) :=
  ⟨vs.toArray, ⟨0, Heap.get?_push_size _ rfl⟩, by simp, by simpa using hz⟩
theorem objR_newTuple (h : Heap) (vs : List Value) (hz : vs.length ≤ lim) : ObjR (h.push { cls := .type "tuple", data := .seq vs.toArray }) h.objs.size (.tup (vs.map ab)) :=
  ⟨vs.toArray, ⟨_, Heap.get?_push_size _ rfl, rfl, 0, rfl⟩, by simp, by simpa using hz⟩

theorem bin_ok {op : Operator} {a b : V} {Q : V → St → Prop} (r : RelG W.H σ s) (h : binW op a b σ Q) {va vb : Value} (ha : ab va = a) (hb : ab vb = b) :
    wpAny W.M A (binaryOp op va vb) (PostA W.H No σ s fun v => Q (ab v)) NoE s := by
  have two : ∀ {K : Int → Int → Prop}, (asI a fun x => asI b fun y => K x y) → ∃ x y t u, va = .int x t ∧ vb = .int y u ∧ K x y := fun h => by
    obtain ⟨x, rfl, h1⟩ := asI_elim h; replace h := h1; clear h1
    obtain ⟨y, rfl, h1⟩ := asI_elim h; replace h := h1; clear h1
    obtain ⟨t, rfl⟩ := ab_int ha; obtain ⟨u, rfl⟩ := ab_int hb
    exact ⟨x, y, t, u, rfl, rfl, h⟩
  cases op with
  | Sub => obtain ⟨x, y, t, u, rfl, rfl, h⟩ := two h; exact sub_int (.tok r h _)
  | FloorDiv => obtain ⟨x, y, t, u, rfl, rfl, h⟩ := two h; exact floordiv_int h.1 (.tok r h.2.2 _) (.inl (PyProof.noPylong_small h.2.1))
  | Mod => obtain ⟨x, y, t, u, rfl, rfl, h⟩ := two h; exact mod_int h.1 (.tok r h.2 _)
  | Add =>
    cases a with
    | int x =>
      obtain ⟨y, rfl, h1⟩ := asI_elim h; replace h := h1; clear h1
      obtain ⟨t, rfl⟩ := ab_int ha; obtain ⟨u, rfl⟩ := ab_int hb
      exact add_int (.tok r h _)
    | ref x =>
      obtain ⟨y, rfl, h1⟩ := asR_elim h; replace h := h1; clear h1
      have := ab_ref ha; subst this
      have := ab_ref hb; subst this
      obtain ⟨a1, it1, e1, hl1, hz1, h⟩ := litemsW_elim r h
      obtain ⟨a2, it2, e2, hl2, hz2, h⟩ := litemsW_elim r h
      cases e1; cases e2
      obtain ⟨hz, h⟩ := h
      obtain ⟨⟨cls, dd, data, sl⟩, ho, hc, n1, hd⟩ := id hl1
      obtain ⟨⟨cls2, dd2, data2, sl2⟩, ho2, hc2, n2, hd2⟩ := id hl2
      simp only at hc hd hc2 hd2
      subst hc hd hc2 hd2
      have hz' : it1.size + it2.size ≤ lim := by simpa using hz
      refine concat_meets ⟨_, ho, rfl⟩ ⟨_, ho2, rfl⟩ noFill_list_add seq_list_add PySem.F.slot_list_add PySem.F.entry_list_add (PySem.F.args_list_add_2 _ _) (list_addW x y it1 it2 n1 n2 dd dd2 sl sl2 (Nat.le_trans hz' lim_le)) ⟨ho, ho2, ?_⟩
      have e : it1 ++ it2 = (it1.toList ++ it2.toList).toArray := by simp
      rw [e]
      refine post_alloc r (objR_newList _ _ (by simpa using hz')) fun a ha ea => ?_
      subst ea
      simp only [List.map_append]
      exact h _ ha
    | _ => exact h.elim
  | Mult =>
    cases a with
    | int x =>
      obtain ⟨y, rfl, h1⟩ := asI_elim h; replace h := h1; clear h1
      obtain ⟨t, rfl⟩ := ab_int ha; obtain ⟨u, rfl⟩ := ab_int hb
      exact mul_int (.tok r h.2 _) h.1
    | ref x =>
      obtain ⟨k, rfl, h1⟩ := asI_elim h; replace h := h1; clear h1
      have := ab_ref ha; subst this
      obtain ⟨t, rfl⟩ := ab_int hb
      obtain ⟨a1, it1, e1, hσ, hl1, hz1, h0, h1, h2, h⟩ := mlistW_elim r h
      cases e1
      obtain ⟨m, ho⟩ := hl1
      have hkl : k ≤ 1000000 := h1
      have hz' : it1.size * k.toNat ≤ 1000000 := by simpa [lim] using h2
      refine wpAny_binaryOp_repeat_ref (T := "list") (U := "int") (by decide) ⟨_, ho, rfl⟩ (fun s' => typeIs_int s' k t) noFill_list_mul F.fills_int_mul F.slot_int_rmul repeat_list F.slot_int_index.lookup
        (call_meets F.slot_int_rmul (typeIs_int s k t) F.entry_int_rmul (F.args_int_rmul_2 _ _) (int___rmul___int_list k t x it1 m)
          ⟨ho, rfl, ⟨_, ho, rfl⟩, call_meets F.slot_list_mul ⟨_, ho, rfl⟩ F.entry_list_mul (F.args_list_mul_2 _ _)
            (AutoListH.list___mul___list_int_3 x it1 m k t (by simp [Builtin.List.listFitsIndex]; omega) (by omega) (by simp [Builtin.List.listTooLong, sizeLine]; omega))
            ⟨ho, ?_⟩⟩)
      have e : List.foldl (fun x1 x2 => x1 ++ x2) #[] (List.replicate (if it1.isEmpty = true then 0 else k.toNat) it1) = ((List.replicate k.toNat it1.toList).flatten).toArray := by
        have g : ∀ (j : Nat) (acc : Array Value), List.foldl (fun x1 x2 => x1 ++ x2) acc (List.replicate j it1) = acc ++ ((List.replicate j it1.toList).flatten).toArray := by
          intro j
          induction j with
          | zero => intro acc; simp
          | succ j ih => intro acc; rw [List.replicate_succ, List.foldl_cons, ih, List.replicate_succ, List.flatten_cons]; apply Array.ext'; simp
        by_cases he : it1.isEmpty = true
        · have : it1 = #[] := by simpa using he
          subst this
          have g2 : ∀ j : Nat, (List.replicate j ([] : List Value)).flatten = [] := fun j => by induction j with
            | zero => rfl
            | succ j ih => rw [List.replicate_succ, List.flatten_cons, ih]; rfl
          simp [g2]
        · rw [if_neg he, g]; simp
      rw [e]
      have e3 : ((List.replicate k.toNat it1.toList).flatten).map ab = (List.replicate k.toNat (it1.toList.map ab)).flatten := by
        rw [List.map_flatten, List.map_replicate]
      refine post_alloc (t := s.toks) r (objR_newList _ _ ?_) fun a ha ea => ?_
      · have : ((List.replicate k.toNat it1.toList).flatten).length = k.toNat * it1.size := by
          rw [List.length_flatten, List.map_replicate, List.sum_replicate_nat]; simp
        rw [this, Nat.mul_comm]; exact hz'
      · subst ea; rw [e3]; exact h _ ha
    | _ => exact h.elim
  | _ => exact h.elim

theorem litems_bind {a : Addr} {xs : List V} {H : Heap} (r : RelG H σ s) (h : (σ a).bind O.litems = some xs) : ∃ items, s.heap.IsList a items ∧ items.toList.map ab = xs := by
  cases e : σ a with
  | none => rw [e] at h; cases h
  | some o =>
    rw [e] at h
    have R := r.objs a o e
    cases o with
    | lst ys => obtain ⟨items, hp, hq, _⟩ := R; cases h; exact ⟨items, hp.isList, hq⟩
    | ro ys => obtain ⟨items, hp, hq, _⟩ := R; cases h; exact ⟨items, hp, hq⟩
    | tup _ => cases h
    | rng _ _ _ => cases h
    | cell _ => cases h
    | fn _ => cases h
    | tab _ => cases h
    | code _ => cases h
theorem eqL_at {H : Heap} (P : Value → Value → Bool → Prop) {f : V → V → Option Bool} (hP : ∀ x y c, f (ab x) (ab y) = some c → P x y c) : ∀ (xs ys : List Value) (c : Bool), xs.length = ys.length → eqL f (xs.map ab) (ys.map ab) = some c →
    ∃ e : Nat → Bool, (∀ j (h1 : j < xs.length) (h2 : j < ys.length), P xs[j] ys[j] (e j)) ∧ (List.range xs.length).all e = c := by
  intro xs
  induction xs with
  | nil => intro ys c _ h; cases h; exact ⟨fun _ => true, fun j h1 => absurd h1 (Nat.not_lt_zero _), rfl⟩
  | cons x xs ih =>
    intro ys c hl h
    cases ys with
    | nil => cases hl
    | cons y ys =>
      obtain ⟨b, e1, h⟩ := Option.bind_eq_some_iff.mp (show (f (ab x) (ab y)).bind _ = some c from h)
      obtain ⟨c', e2, rfl⟩ := Option.map_eq_some_iff.mp h
      obtain ⟨e, he, hc⟩ := ih ys c' (by simpa using hl) e2
      refine ⟨fun j => Nat.casesOn j b e, fun j h1 h2 => ?_, ?_⟩
      · cases j with
        | zero => exact hP _ _ _ e1
        | succ j => exact he j (by simpa using h1) (by simpa using h2)
      · rw [List.length_cons, List.range_succ_eq_map, List.all_cons, List.all_map, ← hc]
        rfl
theorem eq0_at {v w : V} {c : Bool} (h : eq0 v w = some c) {A : Around} {x y : Value} (hx : ab x = v) (hy : ab y = w) : SeqAt.EqAt A s x y c := by
  cases v with
  | int i => cases w with
    | int j => obtain ⟨t, rfl⟩ := ab_int hx; obtain ⟨u, rfl⟩ := ab_int hy; cases h; exact SeqAt.EqAt.int_int _ _ _ _
    | _ => cases h
  | str i => cases w with
    | str j => obtain ⟨t, rfl⟩ := ab_str hx; obtain ⟨u, rfl⟩ := ab_str hy; cases h; exact SeqAt.EqAt.str_str _ _ _ _
    | _ => cases h
  | bool i => cases w with
    | bool j => rw [ab_bool hx, ab_bool hy]; cases h; exact SeqAt.EqAt.bool_bool _ _
    | _ => cases h
  | _ => cases h
theorem eqB_nr {d : Nat} {v w : V} (hv : ∀ a, v ≠ .ref a) : eqB σ (d + 1) v w = eq0 v w := by
  cases v <;> first | rfl | exact absurd rfl (hv _)
/-- what == of two lists rests on -/
theorem eqR {H : Heap} (r : RelG H σ s) {d : Nat} {a b : Addr} {c : Bool} (h : eqB σ (d + 1) (.ref a) (.ref b) = some c) : a ≠ b ∧ ∃ i1 i2 : Array Value, s.heap.IsList a i1 ∧ s.heap.IsList b i2 ∧
    ((i1.size = i2.size ∧ eqL (eqB σ d) (i1.toList.map ab) (i2.toList.map ab) = some c) ∨ (i1.size ≠ i2.size ∧ c = false)) := by
  have h' : (if a = b then none else ((σ a).bind O.litems).bind fun xs => ((σ b).bind O.litems).bind fun ys => if xs.length = ys.length then eqL (eqB σ d) xs ys else some false) = some c := h
  by_cases hne : a = b
  · rw [if_pos hne] at h'; cases h'
  rw [if_neg hne] at h'
  obtain ⟨xs, e1, h'⟩ := Option.bind_eq_some_iff.mp h'
  obtain ⟨ys, e2, h'⟩ := Option.bind_eq_some_iff.mp h'
  obtain ⟨i1, hl1, rfl⟩ := litems_bind r e1
  obtain ⟨i2, hl2, rfl⟩ := litems_bind r e2
  refine ⟨hne, i1, i2, hl1, hl2, ?_⟩
  simp only [List.length_map, Array.length_toList] at h'
  by_cases hsz : i1.size = i2.size
  · rw [if_pos hsz] at h'; exact .inl ⟨hsz, h'⟩
  · rw [if_neg hsz] at h'; cases h'; exact .inr ⟨hsz, rfl⟩
theorem eqB_at {H : Heap} (r : RelG H σ s) : ∀ (d : Nat) {A : Around}, A.units + d < cLine → ∀ {v w : V} {c : Bool}, eqB σ d v w = some c → ∀ {x y : Value}, ab x = v → ab y = w → SeqAt.EqAt A s x y c := by
  intro d
  induction d with
  | zero => intro A hu v w c h x y hx hy; exact eq0_at h hx hy
  | succ d ih =>
    intro A hu v w c h x y hx hy
    cases v with
    | ref a =>
      cases w with
      | ref b =>
        rw [ab_ref hx, ab_ref hy]
        obtain ⟨hne, i1, i2, hl1, hl2, ⟨hsz, h⟩ | ⟨hsz, rfl⟩⟩ := eqR r h
        · refine SeqAt.EqAt.of_refs hne ?_
          obtain ⟨e, he, hc⟩ := eqL_at (H := H) (fun x y c => SeqAt.EqAt A.in1 s x y c) (fun x y c hq => ih (A := A.in1) (by show A.units + 1 + d < cLine; omega) hq rfl rfl) i1.toList i2.toList c (by simpa using hsz) h
          have := SeqAt.RcAt.lists hl1 hl2 hsz (by omega) (e := e) fun j h1 h2 => he j (by simpa using h1) (by simpa using h2)
          rw [show i1.toList.length = i1.size by simp] at hc
          rw [hc] at this; exact this
        · exact SeqAt.EqAt.of_refs hne (SeqAt.RcAt.lists_lengths hl1 hl2 (by simpa using hsz) (by omega))
      | _ => cases h
    | _ => refine eq0_at ((eqB_nr ?_).symm.trans h) hx hy; nofun

theorem cmp_ok {op : CmpOp} {a b : V} {Q : Bool → St → Prop} (R : Room n A) (r : RelG W.H σ s) (h : cmpW op a b σ Q) {va vb : Value} (ha : ab va = a) (hb : ab vb = b) {Z : Value → Shared → Prop}
    (hZ : ∀ c s', PostA W.H No σ s Q c s' → Z (.bool c) s') :
    wpAny W.M A (compareOp op va vb) Z NoE s := by
  have two : ∀ {K : Int → Int → Prop}, (asI a fun x => asI b fun y => K x y) → ∃ x y t u, va = .int x t ∧ vb = .int y u ∧ K x y := fun h => by
    obtain ⟨x, rfl, h1⟩ := asI_elim h; replace h := h1; clear h1
    obtain ⟨y, rfl, h1⟩ := asI_elim h; replace h := h1; clear h1
    obtain ⟨t, rfl⟩ := ab_int ha; obtain ⟨u, rfl⟩ := ab_int hb
    exact ⟨x, y, t, u, rfl, rfl, h⟩
  have hcl := R.units
  have eqs : ∀ {K : Bool → Prop}, eqW a b σ K → ∃ c, eqB σ 3 a b = some c ∧ K c ∧ ∀ x, a ≠ .str x := fun h => by
    unfold eqW at h
    cases e : eqB σ 3 a b with
    | none => rw [e] at h; exact h.elim
    | some c => rw [e] at h; cases a <;> first | exact ⟨c, rfl, h, nofun⟩ | exact h.elim
  cases op with
  | Lt => obtain ⟨x, y, t, u, rfl, rfl, h⟩ := two h; exact P.lt_int (hZ _ _ (.here r h))
  | LtE => obtain ⟨x, y, t, u, rfl, rfl, h⟩ := two h; exact P.le_int (hZ _ _ (.here r h))
  | Gt => obtain ⟨x, y, t, u, rfl, rfl, h⟩ := two h; exact P.gt_int (hZ _ _ (.here r h))
  | GtE => obtain ⟨x, y, t, u, rfl, rfl, h⟩ := two h; exact P.ge_int (hZ _ _ (.here r h))
  | Eq =>
    obtain ⟨c, e, h, hst⟩ := eqs h
    have hz := hZ _ _ (.here r h)
    cases a with
    | int x => cases b with
      | int y => obtain ⟨t, rfl⟩ := ab_int ha; obtain ⟨u, rfl⟩ := ab_int hb; cases e; exact P.eq_int hz
      | _ => cases e
    | bool x => cases b with
      | bool y => rw [ab_bool ha, ab_bool hb]; cases e; exact eq_bool hz
      | _ => cases e
    | ref x => cases b with
      | ref y =>
        rw [ab_ref ha, ab_ref hb]
        obtain ⟨hne, i1, i2, hl1, hl2, ⟨hsz, h⟩ | ⟨hsz, rfl⟩⟩ := eqR r e
        · obtain ⟨e', he, hc⟩ := eqL_at (H := W.H) (fun x y c => SeqAt.EqAt A.in1 s x y c) (fun x y c hq => eqB_at r 2 (A := A.in1) (by show A.units + 1 + 2 < 9900; omega) hq rfl rfl) i1.toList i2.toList c (by simpa using hsz) h
          have := SeqAt.RcAt.lists hl1 hl2 hsz R.cl (e := e') fun j h1 h2 => he j (by simpa using h1) (by simpa using h2)
          rw [show i1.toList.length = i1.size by simp] at hc
          rw [hc] at this; exact this W.prog W.w NoE _ hz
        · exact SeqAt.RcAt.lists_lengths hl1 hl2 (by simpa using hsz) R.cl W.prog W.w NoE _ hz
      | _ => cases e
    | str x => exact absurd rfl (hst x)
    | _ => cases e
  | NotEq =>
    obtain ⟨c, e, h, hst⟩ := eqs h
    have hz := hZ _ _ (.here r h)
    cases a with
    | int x => cases b with
      | int y => obtain ⟨t, rfl⟩ := ab_int ha; obtain ⟨u, rfl⟩ := ab_int hb; cases e; exact P.ne_int hz
      | _ => cases e
    | bool x => cases b with
      | bool y => rw [ab_bool ha, ab_bool hb]; cases e; exact ne_bool hz
      | _ => cases e
    | ref x => cases b with
      | ref y =>
        rw [ab_ref ha, ab_ref hb]
        obtain ⟨hne, i1, i2, hl1, hl2, ⟨hsz, h⟩ | ⟨hsz, rfl⟩⟩ := eqR r e
        · obtain ⟨e', he, hc⟩ := eqL_at (H := W.H) (fun x y c => SeqAt.EqAt A.in1 s x y c) (fun x y c hq => eqB_at r 2 (A := A.in1) (by show A.units + 1 + 2 < 9900; omega) hq rfl rfl) i1.toList i2.toList c (by simpa using hsz) h
          have := SeqAt.RcNeAt.lists hl1 hl2 hsz R.cl (e := e') fun j h1 h2 => he j (by simpa using h1) (by simpa using h2)
          rw [show i1.toList.length = i1.size by simp] at hc
          rw [hc] at this; exact this W.prog W.w NoE _ hz
        · exact SeqAt.RcNeAt.lists_lengths hl1 hl2 (by simpa using hsz) R.cl W.prog W.w NoE _ hz
      | _ => cases e
    | str x => exact absurd rfl (hst x)
    | _ => cases e
  | Is =>
    cases b with
    | none => cases a with
      | none => rw [ab_none ha, ab_none hb]; exact is_none_none (hZ _ _ (.here r h))
      | int i => obtain ⟨t, rfl⟩ := ab_int ha; rw [ab_none hb]; exact is_int_none (hZ _ _ (.here r h))
      | ref a => rw [ab_ref ha, ab_none hb]; exact is_ref_none (hZ _ _ (.here r h))
      | _ => exact h.elim
    | _ => exact h.elim
  | IsNot =>
    obtain ⟨x, rfl, h1⟩ := asT_elim h; replace h := h1; clear h1
    obtain ⟨y, rfl, h1⟩ := asT_elim h; replace h := h1; clear h1
    rw [ab_typ ha, ab_typ hb]
    refine isnot_type (hZ _ _ (.here r ?_))
    have : (!(Value.type x == Value.type y)) = (x != y) := by
      by_cases hxy : x = y
      · subst hxy; simp
      · have h1 : (Value.type x == Value.type y) = false := by simpa using hxy
        rw [h1]; simp [bne, hxy]
    rw [this]; exact h
  | _ => exact h.elim

theorem tru_ok {v : V} {Q : Bool → St → Prop} (r : RelG W.H σ s) (h : truW v σ Q) {va : Value} (ha : ab va = v) :
    wpAny W.M A (truthy va) (PostA W.H No σ s Q) NoE s := by
  unfold truW at h
  split at h
  · rw [ab_bool ha]; exact wpAny_truthy_bool (.here r h)
  · rw [ab_none ha]; exact truthy_none (.here r h)
  · obtain ⟨t, rfl⟩ := ab_int ha; exact P.truthy_int (.here r h)
  · exact h.elim

theorem idx_ok {k : Int} {m : Nat} (h : idxOk k m) : seqIndex? k m = some (idx k m) ∧ idx k m < m := by
  unfold idxOk at h
  unfold seqIndex? idx
  constructor
  · by_cases hk : k < 0
    · simp only [hk, if_true]; rw [if_pos (by simp only [Bool.and_eq_true, decide_eq_true_eq]; omega)]
    · simp only [hk, if_false]; rw [if_pos (by simp only [Bool.and_eq_true, decide_eq_true_eq]; omega)]
  · split <;> omega
theorem nth_map {items : List Value} {k : Nat} {x : Value} (h : items[k]? = some x) : nth (items.map ab) k = ab x := by
  rw [nth_eq, List.getD_eq_getElem?_getD, List.getElem?_map, h]; rfl
theorem sub_ok {o i : V} {Q : V → St → Prop} (r : RelG W.H σ s) (h : subW o i σ Q) {vo vi : Value} (ho : ab vo = o) (hi : ab vi = i) :
    wpAny W.M A (getItem vo vi) (PostA W.H No σ s fun v => Q (ab v)) NoE s := by
  unfold subW at h
  split at h
  · rename_i k
    obtain ⟨t, rfl⟩ := ab_int hi
    obtain ⟨a, items, rfl, hl, hz, hk, h⟩ := itemsW_elim r h
    rw [ab_ref ho]
    have hsz : (items.toList.map ab).length = items.size := by simp
    rw [hsz] at hk h
    obtain ⟨h1, h2⟩ := idx_ok hk
    have hx : items[idx k items.size]? = some items[idx k items.size] := Array.getElem?_eq_getElem h2
    rw [nth_map (x := items[idx k items.size]) (by simp)] at h
    have hk' := hk
    unfold idxOk at hk'
    have hlm : items.size ≤ 1000000 := hz
    rcases hl with hl | hl
    · by_cases hneg : k < 0
      · have e : idx k items.size = (k + items.size).toNat := by unfold idx; rw [if_pos hneg]
        exact wpAny_getItem_list_neg hl hneg hk'.1 (by omega) (by rw [← e]; exact hx) (.here r h)
      · have e : idx k items.size = k.toNat := by unfold idx; rw [if_neg hneg]
        exact wpAny_getItem_list hl (by omega) (by omega) (by rw [← e]; exact hx) (.here r h)
    · exact getItem_tuple hl (by omega) (by omega) h1 hx (.here r h)
  · exact h.elim


theorem clampI (x : Int) (m : Nat) : (if (1 : Int) > 0 then max 0 (min (if x < 0 then x + (m : Int) else x) m) else max (-1) (min (if x < 0 then x + (m : Int) else x) (m - 1))) = (((if x < 0 then max 0 (x + (m : Int)) else min x m).toNat : Nat) : Int) := by
  rw [if_pos (by decide)]
  have hm : (0 : Int) ≤ m := Int.natCast_nonneg m
  by_cases h : x < 0
  · rw [if_pos h, if_pos h, Int.toNat_of_nonneg (Int.le_max_left ..), Int.min_eq_left (Int.le_trans (Int.add_le_add_right (Int.le_of_lt h) _) (Int.le_of_eq (Int.zero_add _)))]
  · have h0 := Int.not_lt.mp h
    rw [if_neg h, if_neg h, Int.toNat_of_nonneg (Int.le_min.mpr ⟨h0, hm⟩), Int.max_eq_right (Int.le_min.mpr ⟨h0, hm⟩)]
theorem bounds_up (lo hi : Option Int) (m : Nat) : sliceBounds lo hi none m = (((slB lo 0 m : Nat) : Int), ((slB hi m m : Nat) : Int), 1) := by
  unfold sliceBounds slB
  simp only [Option.getD_none]
  refine Prod.ext ?_ (Prod.ext ?_ rfl)
  · cases lo with
    | none => simp
    | some x => exact clampI x m
  · cases hi with
    | none => simp
    | some x => exact clampI x m
theorem slicePick_up (items : Array Value) (lo hi : Option Int) : (slicePick items lo hi none).toList.map ab = pick (items.toList.map ab) lo hi := by
  rw [kmk_pick_nat items (bounds_up lo hi items.size)]
  unfold pick
  simp [List.map_take, List.map_drop]
theorem filterMap_all {α β : Type} {f : α → Option β} {g : α → β} : ∀ {l : List α}, (∀ x ∈ l, f x = some (g x)) → l.filterMap f = l.map g
  | [], _ => rfl
  | x :: r, h => by rw [List.filterMap_cons, h x (by simp), List.map_cons, filterMap_all fun y hy => h y (by simp [hy])]
theorem slicePick_rev (items : Array Value) : (slicePick items none none (some (-1))).toList.map ab = (items.toList.map ab).reverse := by
  unfold slicePick sliceBounds sliceRange
  have h0 : ¬ ((-1 : Int) > 0) := by omega
  simp only [Option.getD_some, h0, if_false]
  have e : (if ((items.size : Int) - 1) > -1 then (((items.size : Int) - 1) - (-1) - (-1) - 1) / (-(-1)) else 0).toNat = items.size := by
    split
    · simp only [Int.neg_neg, Int.ediv_one]; omega
    · omega
  rw [e, ← List.map_reverse]
  congr 1
  apply List.ext_getElem?
  intro i
  rw [List.filterMap_map]
  have key : ((List.range items.size).filterMap ((fun x => items[x]?) ∘ fun (k : Nat) => (((items.size : Int) - 1) + -1 * (k : Int)).toNat)) = (List.range items.size).map fun k => (items[items.size - 1 - k]?).getD .none := by
    apply filterMap_all
    intro k hk
    have hk' : k < items.size := by simpa using hk
    have e1 : (((items.size : Int) - 1) + -1 * (k : Int)).toNat = items.size - 1 - k := by omega
    simp only [Function.comp, e1]
    have : items.size - 1 - k < items.size := by omega
    simp [this]
  rw [key]
  by_cases hi : i < items.size
  · rw [List.getElem?_map, List.getElem?_range hi, List.getElem?_reverse (by simpa using hi)]
    have : items.size - 1 - i < items.size := by omega
    simp [this]
  · rw [List.getElem?_eq_none (by simpa using hi), List.getElem?_eq_none (by simpa using hi)]
theorem isPart_of {v : Value} {K : Option Int → Prop} (h : partW (ab v) K) : ∃ o, IsPart v o ∧ K o := by
  unfold partW at h
  split at h
  · rename_i e; rw [ab_none e]; exact ⟨none, .none, h⟩
  · rename_i i e; obtain ⟨t, rfl⟩ := ab_int e; exact ⟨some i, .int i t, h⟩
  · exact h.elim

end Mine

end
section -- F6
namespace Mine
variable {W : Wd} {n : Nat} {gl : Str → Option V} {env : Env} {cs : List Addr} {fr : List V} {σ : St} {A : Around} {s : Shared}

theorem snd_const {c : Const} {k : Nat} {pos : Pos} : SndE W gl (.Constant c k pos) := by
  intro n env cs fr σ Q K h A s R r
  cases c with
  | none => exact wpAny_Constant_none (.here r.toRelG h)
  | bool b => exact wpAny_Constant_bool (.here r.toRelG h)
  | int i => exact wpAny_Constant_int (.tok r.toRelG h _)
  | str x => exact wpAny_Constant_str (.tok r.toRelG h _)
  | _ => exact h.elim

theorem snd_bin {l rr : PySem.Expr} {op : Operator} {pos : Pos} (hl : SndE W gl l) (hr : SndE W gl rr) : SndE W gl (.BinOp l op rr pos) := by
  intro n env cs fr σ Q K h A s R r
  simp only [e_none, e_bool, e_int, e_str, e_name, e_bin, e_not, e_neg, e_and, e_or, e_ife, e_list, e_tuple, e_cmp1, e_cmp2, e_meth, e_slice, e_comp, x_bad, x_con, x_loc, x_cel, x_bin, x_neg, x_not, x_and, x_or, x_cmp, x_cmp2, x_ife, x_call, x_bcall, x_meth, x_sub, x_sl, x_lst, x_tup, x_comp] at h
  refine wpAny_BinOp (wpAny_mono (hl _ _ _ _ _ _ K h A s R r) (fun a s1 p1 => ?_) fun _ _ x => x)
  obtain ⟨σ1, h1, g1, t1⟩ := p1
  have r1 := r.step g1 t1
  refine wpAny_mono (hr _ _ _ _ _ _ K h1 A s1 R r1) (fun b s2 p2 => ?_) fun _ _ x => x
  obtain ⟨σ2, h2, g2, t2⟩ := p2
  exact wpAny_mono (bin_ok g2 h2 rfl rfl) (fun _ _ p => (p.trans t2).trans t1) fun _ _ x => x

theorem snd_neg {x : PySem.Expr} {pos : Pos} (hx : SndE W gl x) : SndE W gl (.UnaryOp .USub x pos) := by
  intro n env cs fr σ Q K h A s R r
  simp only [e_none, e_bool, e_int, e_str, e_name, e_bin, e_not, e_neg, e_and, e_or, e_ife, e_list, e_tuple, e_cmp1, e_cmp2, e_meth, e_slice, e_comp, x_bad, x_con, x_loc, x_cel, x_bin, x_neg, x_not, x_and, x_or, x_cmp, x_cmp2, x_ife, x_call, x_bcall, x_meth, x_sub, x_sl, x_lst, x_tup, x_comp] at h
  refine wpAny_UnaryOp (wpAny_mono (hx _ _ _ _ _ _ K h A s R r) (fun a s1 p1 => ?_) fun _ _ x => x)
  obtain ⟨σ1, h1, g1, t1⟩ := p1
  split at h1
  · rename_i i e
    obtain ⟨t, rfl⟩ := ab_int e
    exact P.neg_int (PostA.trans t1 (.tok g1 h1 _))
  · exact h1.elim
theorem snd_not {x : PySem.Expr} {pos : Pos} (hx : SndE W gl x) : SndE W gl (.UnaryOp .Not x pos) := by
  intro n env cs fr σ Q K h A s R r
  simp only [e_none, e_bool, e_int, e_str, e_name, e_bin, e_not, e_neg, e_and, e_or, e_ife, e_list, e_tuple, e_cmp1, e_cmp2, e_meth, e_slice, e_comp, x_bad, x_con, x_loc, x_cel, x_bin, x_neg, x_not, x_and, x_or, x_cmp, x_cmp2, x_ife, x_call, x_bcall, x_meth, x_sub, x_sl, x_lst, x_tup, x_comp] at h
  refine wpAny_UnaryOp (wpAny_mono (hx _ _ _ _ _ _ K h A s R r) (fun a s1 p1 => ?_) fun _ _ x => x)
  obtain ⟨σ1, h1, g1, t1⟩ := p1
  refine not_of (wpAny_mono (tru_ok g1 h1 rfl) (fun b s2 p2 => ?_) fun _ _ x => x)
  obtain ⟨σ2, h2, g2, t2⟩ := p2
  exact ⟨σ2, h2, g2, t1.trans t2⟩

theorem tnd_not {x : PySem.Expr} {pos : Pos} (hx : SndT W gl x) : SndT W gl (.UnaryOp .Not x pos) := by
  intro n env cs fr σ Q K h A s R r
  simp only [e_none, e_bool, e_int, e_str, e_name, e_bin, e_not, e_neg, e_and, e_or, e_ife, e_list, e_tuple, e_cmp1, e_cmp2, e_meth, e_slice, e_comp, t_not, t_and, t_or, t_ife, t_cmp, t_cmp2, t_con, t_loc, t_call, t_bcall, t_sub, t_bad, t_cel, t_bin, t_neg, t_sl, t_lst, t_tup, t_comp, t_meth] at h
  refine isTrue_not (wpAny_mono (hx _ _ _ _ _ _ K h A s R r) (fun b s1 p1 => ?_) fun _ _ x => x)
  obtain ⟨σ1, h1, g1, t1⟩ := p1
  exact ⟨σ1, h1, g1, t1⟩

theorem snd_ife {t a b : PySem.Expr} {pos : Pos} (ht : SndT W gl t) (ha : SndE W gl a) (hb : SndE W gl b) : SndE W gl (.IfExp t a b pos) := by
  intro n env cs fr σ Q K h A s R r
  simp only [e_none, e_bool, e_int, e_str, e_name, e_bin, e_not, e_neg, e_and, e_or, e_ife, e_list, e_tuple, e_cmp1, e_cmp2, e_meth, e_slice, e_comp, x_bad, x_con, x_loc, x_cel, x_bin, x_neg, x_not, x_and, x_or, x_cmp, x_cmp2, x_ife, x_call, x_bcall, x_meth, x_sub, x_sl, x_lst, x_tup, x_comp] at h
  refine wpAny_IfExp (wpAny_mono (ht _ _ _ _ _ _ K h A s R r) (fun c s1 p1 => ?_) fun _ _ x => x)
  obtain ⟨σ1, h1, g1, t1⟩ := p1
  have r1 := r.step g1 t1
  cases c with
  | true => exact wpAny_mono (ha _ _ _ _ _ _ K (by simpa using h1) A s1 R r1) (fun _ _ p => p.trans t1) fun _ _ x => x
  | false => exact wpAny_mono (hb _ _ _ _ _ _ K (by simpa using h1) A s1 R r1) (fun _ _ p => p.trans t1) fun _ _ x => x
theorem tnd_ife {t a b : PySem.Expr} {pos : Pos} (ht : SndT W gl t) (ha : SndT W gl a) (hb : SndT W gl b) : SndT W gl (.IfExp t a b pos) := by
  intro n env cs fr σ Q K h A s R r
  simp only [e_none, e_bool, e_int, e_str, e_name, e_bin, e_not, e_neg, e_and, e_or, e_ife, e_list, e_tuple, e_cmp1, e_cmp2, e_meth, e_slice, e_comp, t_not, t_and, t_or, t_ife, t_cmp, t_cmp2, t_con, t_loc, t_call, t_bcall, t_sub, t_bad, t_cel, t_bin, t_neg, t_sl, t_lst, t_tup, t_comp, t_meth] at h
  refine isTrue_IfExp (wpAny_mono (ht _ _ _ _ _ _ K h A s R r) (fun c s1 p1 => ?_) fun _ _ x => x)
  obtain ⟨σ1, h1, g1, t1⟩ := p1
  have r1 := r.step g1 t1
  cases c with
  | true => exact wpAny_mono (ha _ _ _ _ _ _ K (by simpa using h1) A s1 R r1) (fun _ _ p => p.trans t1) fun _ _ x => x
  | false => exact wpAny_mono (hb _ _ _ _ _ _ K (by simpa using h1) A s1 R r1) (fun _ _ p => p.trans t1) fun _ _ x => x

theorem boolOp_one {M : Model} {E : Value → Shared → Prop} {Q : Value → Shared → Prop} {pos : Pos} {op : BoolOp} {x : Sem Value} (h : wpAny M A x Q E s) : wpAny M A (boolOp pos op [x]) Q E s := h
theorem boolOp_more {M : Model} {E : Value → Shared → Prop} {Q : Value → Shared → Prop} {pos : Pos} {op : BoolOp} {x y : Sem Value} {rest : List (Sem Value)}
    (h : wpAny M A x (fun v s1 => wpAny M A (truthy v) (fun t s2 => match op, t with | .And, false | .Or, true => Q v s2 | _, _ => wpAny M A (boolOp pos op (y :: rest)) Q E s2) E s1) E s) :
    wpAny M A (boolOp pos op (x :: y :: rest)) Q E s := by
  rw [boolOp]
  · refine wpAny_bind (wpAny_mono h (fun v s1 h1 => wpAny_bind (wpAny_standAt (wpAny_bind (wpAny_holding (wpAny_mono h1 (fun t s2 h2 => ?_) fun _ _ x => x))))) fun _ _ x => x)
    cases op <;> cases t <;> first | exact wpAny_pure h2 | exact h2
  · nofun

theorem snd_and {pos : Pos} : ∀ (vs : List PySem.Expr), vs ≠ [] → (∀ v ∈ vs, SndE W gl v) → ∀ n env cs fr σ Q, EnvOK W env cs → xW W n (erAnd gl env.scope.names vs) cs fr σ Q → EV W n env fr σ (boolOp pos .And (evalEach vs env)) Q
  | [], hne, _ => absurd rfl hne
  | [e], _, hs => fun n env cs fr σ Q K h A s R r => boolOp_one (hs e (by simp) _ _ _ _ _ _ K (by simpa [ea_nil, ea_one, ea_cons] using h) A s R r)
  | e :: e' :: rest, _, hs => fun n env cs fr σ Q K h A s R r => by
    simp only [ea_nil, ea_one, ea_cons, x_bad, x_con, x_loc, x_cel, x_bin, x_neg, x_not, x_and, x_or, x_cmp, x_cmp2, x_ife, x_call, x_bcall, x_meth, x_sub, x_sl, x_lst, x_tup, x_comp] at h
    refine boolOp_more (wpAny_mono (hs e (by simp) _ _ _ _ _ _ K h A s R r) (fun v s1 p1 => ?_) fun _ _ x => x)
    obtain ⟨σ1, h1, g1, t1⟩ := p1
    refine wpAny_mono (tru_ok g1 h1 rfl) (fun b s2 p2 => ?_) fun _ _ x => x
    obtain ⟨σ2, h2, g2, t2⟩ := p2
    have r2 := r.step g2 (t1.trans t2)
    cases b with
    | false => exact ⟨σ2, by simpa using h2, g2, t1.trans t2⟩
    | true => exact wpAny_mono (snd_and (e' :: rest) (by simp) (fun v hv => hs v (by simp [List.mem_cons.mp hv])) _ _ _ _ _ _ K (by simpa using h2) A s2 R r2) (fun _ _ p => p.trans (t1.trans t2)) fun _ _ x => x
theorem snd_or {pos : Pos} : ∀ (vs : List PySem.Expr), vs ≠ [] → (∀ v ∈ vs, SndE W gl v) → ∀ n env cs fr σ Q, EnvOK W env cs → xW W n (erOr gl env.scope.names vs) cs fr σ Q → EV W n env fr σ (boolOp pos .Or (evalEach vs env)) Q
  | [], hne, _ => absurd rfl hne
  | [e], _, hs => fun n env cs fr σ Q K h A s R r => boolOp_one (hs e (by simp) _ _ _ _ _ _ K (by simpa [eo_nil, eo_one, eo_cons] using h) A s R r)
  | e :: e' :: rest, _, hs => fun n env cs fr σ Q K h A s R r => by
    simp only [eo_nil, eo_one, eo_cons, x_bad, x_con, x_loc, x_cel, x_bin, x_neg, x_not, x_and, x_or, x_cmp, x_cmp2, x_ife, x_call, x_bcall, x_meth, x_sub, x_sl, x_lst, x_tup, x_comp] at h
    refine boolOp_more (wpAny_mono (hs e (by simp) _ _ _ _ _ _ K h A s R r) (fun v s1 p1 => ?_) fun _ _ x => x)
    obtain ⟨σ1, h1, g1, t1⟩ := p1
    refine wpAny_mono (tru_ok g1 h1 rfl) (fun b s2 p2 => ?_) fun _ _ x => x
    obtain ⟨σ2, h2, g2, t2⟩ := p2
    have r2 := r.step g2 (t1.trans t2)
    cases b with
    | true => exact ⟨σ2, by simpa using h2, g2, t1.trans t2⟩
    | false => exact wpAny_mono (snd_or (e' :: rest) (by simp) (fun v hv => hs v (by simp [List.mem_cons.mp hv])) _ _ _ _ _ _ K (by simpa using h2) A s2 R r2) (fun _ _ p => p.trans (t1.trans t2)) fun _ _ x => x

theorem allTrue_and {M : Model} {E : Value → Shared → Prop} {Q : Bool → Shared → Prop} {x : PySem.Expr} {rest : List PySem.Expr}
    (h : wpAny M A (isTrue x env (eval x env)) (fun c s' => if c = true then wpAny M A (allTrue .And rest env) Q E s' else Q false s') E s) : wpAny M A (allTrue .And (x :: rest) env) Q E s := by
  show wpAny M A (do
    match BoolOp.And, ← isTrue x env (eval x env) with
    | .And, false => pure false
    | .Or, true => pure true
    | _, _ => allTrue .And rest env) Q E s
  refine wpAny_bind (wpAny_mono h (fun c s' h' => ?_) fun _ _ x => x)
  cases c <;> simp at h' <;> first | exact wpAny_pure h' | exact h'
theorem allTrue_or {M : Model} {E : Value → Shared → Prop} {Q : Bool → Shared → Prop} {x : PySem.Expr} {rest : List PySem.Expr}
    (h : wpAny M A (isTrue x env (eval x env)) (fun c s' => if c = true then Q true s' else wpAny M A (allTrue .Or rest env) Q E s') E s) : wpAny M A (allTrue .Or (x :: rest) env) Q E s := by
  show wpAny M A (do
    match BoolOp.Or, ← isTrue x env (eval x env) with
    | .And, false => pure false
    | .Or, true => pure true
    | _, _ => allTrue .Or rest env) Q E s
  refine wpAny_bind (wpAny_mono h (fun c s' h' => ?_) fun _ _ x => x)
  cases c <;> simp at h' <;> first | exact wpAny_pure h' | exact h'

theorem tnd_and : ∀ (vs : List PySem.Expr), (∀ v ∈ vs, SndT W gl v) → ∀ n env cs fr σ Q, EnvOK W env cs → tW W n (erAnd gl env.scope.names vs) cs fr σ Q → TV W n env fr σ (allTrue .And vs env) Q
  | [], _ => fun n env cs fr σ Q K h A s R r => wpAny_pure (a := true) (.here r.toRelG (by simpa [ea_nil, ea_one, ea_cons, t_not, t_and, t_or, t_ife, t_cmp, t_cmp2, t_con, t_loc, t_call, t_bcall, t_sub, t_bad, t_cel, t_bin, t_neg, t_sl, t_lst, t_tup, t_comp, t_meth, truW] using h))
  | [e], hs => fun n env cs fr σ Q K h A s R r => by
    refine allTrue_and (wpAny_mono (hs e (by simp) _ _ _ _ _ _ K (by simpa [ea_nil, ea_one, ea_cons] using h) A s R r) (fun c s1 p1 => ?_) fun _ _ x => x)
    cases c with
    | true => exact wpAny_pure (a := true) p1
    | false => exact p1
  | e :: e' :: rest, hs => fun n env cs fr σ Q K h A s R r => by
    simp only [ea_nil, ea_one, ea_cons, t_not, t_and, t_or, t_ife, t_cmp, t_cmp2, t_con, t_loc, t_call, t_bcall, t_sub, t_bad, t_cel, t_bin, t_neg, t_sl, t_lst, t_tup, t_comp, t_meth] at h
    refine allTrue_and (wpAny_mono (hs e (by simp) _ _ _ _ _ _ K h A s R r) (fun c s1 p1 => ?_) fun _ _ x => x)
    obtain ⟨σ1, h1, g1, t1⟩ := p1
    cases c with
    | false => exact ⟨σ1, by simpa using h1, g1, t1⟩
    | true => exact wpAny_mono (tnd_and (e' :: rest) (fun v hv => hs v (by simp [List.mem_cons.mp hv])) _ _ _ _ _ _ K (by simpa using h1) A s1 R (r.step g1 t1)) (fun _ _ p => p.trans t1) fun _ _ x => x
theorem tnd_or : ∀ (vs : List PySem.Expr), (∀ v ∈ vs, SndT W gl v) → ∀ n env cs fr σ Q, EnvOK W env cs → tW W n (erOr gl env.scope.names vs) cs fr σ Q → TV W n env fr σ (allTrue .Or vs env) Q
  | [], _ => fun n env cs fr σ Q K h A s R r => by simp [eo_nil, eo_one, eo_cons, t_not, t_and, t_or, t_ife, t_cmp, t_cmp2, t_con, t_loc, t_call, t_bcall, t_sub, t_bad, t_cel, t_bin, t_neg, t_sl, t_lst, t_tup, t_comp, t_meth] at h
  | [e], hs => fun n env cs fr σ Q K h A s R r => by
    refine allTrue_or (wpAny_mono (hs e (by simp) _ _ _ _ _ _ K (by simpa [eo_nil, eo_one, eo_cons] using h) A s R r) (fun c s1 p1 => ?_) fun _ _ x => x)
    cases c with
    | false => exact wpAny_pure (a := false) p1
    | true => exact p1
  | e :: e' :: rest, hs => fun n env cs fr σ Q K h A s R r => by
    simp only [eo_nil, eo_one, eo_cons, t_not, t_and, t_or, t_ife, t_cmp, t_cmp2, t_con, t_loc, t_call, t_bcall, t_sub, t_bad, t_cel, t_bin, t_neg, t_sl, t_lst, t_tup, t_comp, t_meth] at h
    refine allTrue_or (wpAny_mono (hs e (by simp) _ _ _ _ _ _ K h A s R r) (fun c s1 p1 => ?_) fun _ _ x => x)
    obtain ⟨σ1, h1, g1, t1⟩ := p1
    cases c with
    | true => exact ⟨σ1, by simpa using h1, g1, t1⟩
    | false => exact wpAny_mono (tnd_or (e' :: rest) (fun v hv => hs v (by simp [List.mem_cons.mp hv])) _ _ _ _ _ _ K (by simpa using h1) A s1 R (r.step g1 t1)) (fun _ _ p => p.trans t1) fun _ _ x => x

theorem marks_ok {op : CmpOp} {e : PySem.Expr} (h : noSet e = true) : behindInMarks op e = false := by
  cases e <;> first | rfl | cases h
theorem snd_cmp {l rr : PySem.Expr} {op : CmpOp} {pos : Pos} (hl : SndE W gl l) (hr : SndE W gl rr) : SndE W gl (.Compare l [op] [rr] pos) := by
  intro n env cs fr σ Q K h A s R r
  simp only [e_none, e_bool, e_int, e_str, e_name, e_bin, e_not, e_neg, e_and, e_or, e_ife, e_list, e_tuple, e_cmp1, e_cmp2, e_meth, e_slice, e_comp] at h
  split at h
  case isFalse => exact h.elim
  rename_i hm
  simp only [x_bad, x_con, x_loc, x_cel, x_bin, x_neg, x_not, x_and, x_or, x_cmp, x_cmp2, x_ife, x_call, x_bcall, x_meth, x_sub, x_sl, x_lst, x_tup, x_comp] at h
  refine wpAny_Compare1 (wpAny_mono (hl _ _ _ _ _ _ K h A s R r) (fun a s1 p1 => ?_) fun _ _ x => x) (marks_ok hm)
  obtain ⟨σ1, h1, g1, t1⟩ := p1
  have r1 := r.step g1 t1
  refine wpAny_mono (hr _ _ _ _ _ _ K h1 A s1 R r1) (fun b s2 p2 => ?_) fun _ _ x => x
  obtain ⟨σ2, h2, g2, t2⟩ := p2
  exact cmp_ok R g2 h2 rfl rfl fun c s3 ⟨σ3, h3, g3, t3⟩ => ⟨σ3, h3, g3, (t1.trans t2).trans t3⟩
theorem tnd_cmp {l rr : PySem.Expr} {op : CmpOp} {pos : Pos} (hl : SndE W gl l) (hr : SndE W gl rr) : SndT W gl (.Compare l [op] [rr] pos) := by
  intro n env cs fr σ Q K h A s R r
  simp only [e_none, e_bool, e_int, e_str, e_name, e_bin, e_not, e_neg, e_and, e_or, e_ife, e_list, e_tuple, e_cmp1, e_cmp2, e_meth, e_slice, e_comp] at h
  split at h
  case isFalse => exact h.elim
  rename_i hm
  simp only [t_not, t_and, t_or, t_ife, t_cmp, t_cmp2, t_con, t_loc, t_call, t_bcall, t_sub, t_bad, t_cel, t_bin, t_neg, t_sl, t_lst, t_tup, t_comp, t_meth] at h
  refine wpAny_isTrue_Compare1 (wpAny_mono (hl _ _ _ _ _ _ K h A s R r) (fun a s1 p1 => ?_) fun _ _ x => x) (marks_ok hm)
  obtain ⟨σ1, h1, g1, t1⟩ := p1
  have r1 := r.step g1 t1
  refine wpAny_mono (hr _ _ _ _ _ _ K h1 A s1 R r1) (fun b s2 p2 => ?_) fun _ _ x => x
  obtain ⟨σ2, h2, g2, t2⟩ := p2
  exact cmp_ok R g2 h2 rfl rfl fun c s3 ⟨σ3, h3, g3, t3⟩ => wpAny_truthy_bool ⟨σ3, h3, g3, (t1.trans t2).trans t3⟩

theorem marked2 {op op' : CmpOp} {r r' : PySem.Expr} (h : noSet r' = true) : markedEach [op, op'] [r, r'] (evalEach [r, r'] env) = [eval r env, eval r' env] := by
  show eval r env :: markedEach [op'] [r'] [eval r' env] = _
  show [eval r env, markedBehindIn op' r' (eval r' env)] = _
  rw [markedBehindIn_of_false (marks_ok h)]
theorem snd_cmp2 {l rr rs : PySem.Expr} {op op' : CmpOp} {pos : Pos} (hl : SndE W gl l) (hr : SndE W gl rr) (hs : SndE W gl rs) : SndE W gl (.Compare l [op, op'] [rr, rs] pos) := by
  intro n env cs fr σ Q K h A s R r
  simp only [e_none, e_bool, e_int, e_str, e_name, e_bin, e_not, e_neg, e_and, e_or, e_ife, e_list, e_tuple, e_cmp1, e_cmp2, e_meth, e_slice, e_comp] at h
  split at h
  case isFalse => exact h.elim
  rename_i hm
  simp only [Bool.and_eq_true] at hm
  simp only [x_bad, x_con, x_loc, x_cel, x_bin, x_neg, x_not, x_and, x_or, x_cmp, x_cmp2, x_ife, x_call, x_bcall, x_meth, x_sub, x_sl, x_lst, x_tup, x_comp] at h
  show wpAny W.M A (do compareChain pos (← eval l env) [op, op'] (markedEach [op, op'] [rr, rs] (evalEach [rr, rs] env))) _ _ s
  rw [marked2 hm.2]
  refine wpAny_bind (wpAny_mono (hl _ _ _ _ _ _ K h A s R r) (fun a s1 p1 => ?_) fun _ _ x => x)
  obtain ⟨σ1, h1, g1, t1⟩ := p1
  have r1 := r.step g1 t1
  rw [compareChain]
  · refine wpAny_bind (wpAny_holding (wpAny_mono (hr _ _ _ _ _ _ K h1 A s1 R r1) (fun b s2 p2 => ?_) fun _ _ x => x))
    obtain ⟨σ2, h2, g2, t2⟩ := p2
    have r2 := r1.step g2 t2
    refine wpAny_bind (wpAny_standAt (wpAny_bind (wpAny_holding (cmp_ok R g2 h2 rfl rfl fun c s3 p3 => ?_))))
    obtain ⟨σ3, h3, g3, t3⟩ := p3
    have r3 := r2.step g3 t3
    have rel : ∀ {Z : Unit → Shared → Prop}, Z () s3 → wpAny W.M A (release [a, b] [.bool c]) Z NoE s3 := fun hz Γ p hΓ => by rw [Sem.wp_release]; exact hz
    refine wpAny_bind (rel (wpAny_bind (wpAny_holding (wpAny_truthy_bool ?_))))
    cases c with
    | false =>
      simp only [Bool.false_eq_true, if_false] at h3 ⊢
      exact wpAny_pure ⟨σ3, h3, g3, (t1.trans t2).trans t3⟩
    | true =>
      simp only [if_true] at h3 ⊢
      show wpAny W.M A (do let rv ← holding [b] (eval rs env); standAt pos; operate [b, rv] (compareOp op' b rv)) _ _ s3
      refine wpAny_bind (wpAny_holding (wpAny_mono (hs _ _ _ _ _ _ K h3 A s3 R r3) (fun d s4 p4 => ?_) fun _ _ x => x))
      obtain ⟨σ4, h4, g4, t4⟩ := p4
      refine wpAny_bind (wpAny_standAt (fun Γ p hΓ => by
        rw [Sem.wp_operate]
        exact cmp_ok R g4 h4 rfl rfl (fun c' s5 p5 => by
          obtain ⟨σ5, h5, g5, t5⟩ := p5
          exact ⟨σ5, h5, g5, (((t1.trans t2).trans t3).trans t4).trans t5⟩) Γ p hΓ))
  · nofun
theorem tnd_cmp2 {l rr rs : PySem.Expr} {op op' : CmpOp} {pos : Pos} (hl : SndE W gl l) (hr : SndE W gl rr) (hs : SndE W gl rs) : SndT W gl (.Compare l [op, op'] [rr, rs] pos) := by
  intro n env cs fr σ Q K h A s R r
  simp only [e_none, e_bool, e_int, e_str, e_name, e_bin, e_not, e_neg, e_and, e_or, e_ife, e_list, e_tuple, e_cmp1, e_cmp2, e_meth, e_slice, e_comp] at h
  split at h
  case isFalse => exact h.elim
  rename_i hm
  simp only [Bool.and_eq_true] at hm
  simp only [t_not, t_and, t_or, t_ife, t_cmp, t_cmp2, t_con, t_loc, t_call, t_bcall, t_sub, t_bad, t_cel, t_bin, t_neg, t_sl, t_lst, t_tup, t_comp, t_meth] at h
  show wpAny W.M A (do testChain pos (← eval l env) [op, op'] (markedEach [op, op'] [rr, rs] (evalEach [rr, rs] env))) _ _ s
  rw [marked2 hm.2]
  refine wpAny_bind (wpAny_mono (hl _ _ _ _ _ _ K h A s R r) (fun a s1 p1 => ?_) fun _ _ x => x)
  obtain ⟨σ1, h1, g1, t1⟩ := p1
  have r1 := r.step g1 t1
  rw [testChain]
  · refine wpAny_bind (wpAny_holding (wpAny_mono (hr _ _ _ _ _ _ K h1 A s1 R r1) (fun b s2 p2 => ?_) fun _ _ x => x))
    obtain ⟨σ2, h2, g2, t2⟩ := p2
    have r2 := r1.step g2 t2
    refine wpAny_bind (wpAny_standAt (wpAny_bind (wpAny_holding (cmp_ok R g2 h2 rfl rfl fun c s3 p3 => ?_))))
    obtain ⟨σ3, h3, g3, t3⟩ := p3
    have r3 := r2.step g3 t3
    have rel : ∀ {Z : Unit → Shared → Prop}, Z () s3 → wpAny W.M A (release [a, b] [.bool c]) Z NoE s3 := fun hz Γ p hΓ => by rw [Sem.wp_release]; exact hz
    refine wpAny_bind (rel (wpAny_bind (wpAny_holding (wpAny_truthy_bool ?_))))
    cases c with
    | false =>
      simp only [Bool.false_eq_true, if_false] at h3 ⊢
      exact wpAny_pure ⟨σ3, h3, g3, (t1.trans t2).trans t3⟩
    | true =>
      simp only [if_true] at h3 ⊢
      show wpAny W.M A (do let rv ← holding [b] (eval rs env); standAt pos; let c ← operate [b, rv] (compareOp op' b rv); holding [c] (truthy c)) _ _ s3
      refine wpAny_bind (wpAny_holding (wpAny_mono (hs _ _ _ _ _ _ K h3 A s3 R r3) (fun d s4 p4 => ?_) fun _ _ x => x))
      obtain ⟨σ4, h4, g4, t4⟩ := p4
      refine wpAny_bind (wpAny_standAt (wpAny_bind (fun Γ p hΓ => by
        rw [Sem.wp_operate]
        exact cmp_ok R g4 h4 rfl rfl (fun c' s5 p5 => by
          obtain ⟨σ5, h5, g5, t5⟩ := p5
          exact wpAny_holding (wpAny_truthy_bool ⟨σ5, h5, g5, (((t1.trans t2).trans t3).trans t4).trans t5⟩)) Γ p hΓ)))
  · nofun

theorem snd_args {pos : Pos} : ∀ (es : List PySem.Expr), (∀ e ∈ es, SndE W gl e) → ∀ n env cs fr σ (Q : List V → St → Prop), EnvOK W env cs → lW W n (erL gl env.scope.names es) cs fr σ Q →
    ∀ A s, Room n A → Rel W.H A env σ fr s → wpAny W.M A (spliced (backTo pos (starEach es env))) (PostA W.H No σ s fun vs => Q (vs.map ab)) NoE s
  | [], _ => fun n env cs fr σ Q K h A s R r => Calls.spliced_nil (.here r.toRelG (by simpa [el_nil, el_cons, l_nil, l_cons, l_bad] using h))
  | e :: rest, hs => fun n env cs fr σ Q K h A s R r => by
    simp only [el_nil, el_cons] at h
    split at h
    · rename_i hp
      have e1 : backTo pos (starEach (e :: rest) env) = (false, eval e env) :: backTo pos (starEach rest env) := by
        cases e <;> first | rfl | simp [plainE] at hp
      rw [e1]
      simp only [l_nil, l_cons, l_bad] at h
      refine Calls.spliced_cons (wpAny_mono (hs e (by simp) _ _ _ _ _ _ K h A s R r) (fun v s1 p1 => ?_) fun _ _ x => x)
      obtain ⟨σ1, h1, g1, t1⟩ := p1
      refine wpAny_mono (snd_args rest (fun v hv => hs v (by simp [hv])) _ _ _ _ _ _ K h1 A s1 R (r.step g1 t1)) (fun vs s2 p2 => ?_) fun _ _ x => x
      obtain ⟨σ2, h2, g2, t2⟩ := p2
      exact ⟨σ2, by simpa using h2, g2, t1.trans t2⟩
    · exact h.elim

theorem snd_list {es : List PySem.Expr} {pos : Pos} (hs : ∀ e ∈ es, SndE W gl e) : SndE W gl (.List es pos) := by
  intro n env cs fr σ Q K h A s R r
  simp only [e_none, e_bool, e_int, e_str, e_name, e_bin, e_not, e_neg, e_and, e_or, e_ife, e_list, e_tuple, e_cmp1, e_cmp2, e_meth, e_slice, e_comp, x_bad, x_con, x_loc, x_cel, x_bin, x_neg, x_not, x_and, x_or, x_cmp, x_cmp2, x_ife, x_call, x_bcall, x_meth, x_sub, x_sl, x_lst, x_tup, x_comp] at h
  refine wpAny_List_spliced (wpAny_mono (snd_args es hs _ _ _ _ _ _ K h A s R r) (fun vs s1 p1 => ?_) fun _ _ x => x)
  obtain ⟨σ1, ⟨hz, h1⟩, g1, t1⟩ := p1
  have hz' : vs.length ≤ lim := by simpa using hz
  refine ⟨Nat.le_trans hz' lim_le, PostA.trans t1 (post_alloc g1 (objR_newList _ _ hz') fun a ha ea => ?_)⟩
  subst ea; exact h1 _ ha
theorem snd_tuple {es : List PySem.Expr} {k : Nat} {pos : Pos} (hs : ∀ e ∈ es, SndE W gl e) : SndE W gl (.Tuple es k pos) := by
  intro n env cs fr σ Q K h A s R r
  simp only [e_none, e_bool, e_int, e_str, e_name, e_bin, e_not, e_neg, e_and, e_or, e_ife, e_list, e_tuple, e_cmp1, e_cmp2, e_meth, e_slice, e_comp, x_bad, x_con, x_loc, x_cel, x_bin, x_neg, x_not, x_and, x_or, x_cmp, x_cmp2, x_ife, x_call, x_bcall, x_meth, x_sub, x_sl, x_lst, x_tup, x_comp] at h
  refine wpAny_Tuple_spliced (wpAny_mono (snd_args es hs _ _ _ _ _ _ K h A s R r) (fun vs s1 p1 => ?_) fun _ _ x => x)
  obtain ⟨σ1, ⟨hz, h1⟩, g1, t1⟩ := p1
  have hz' : vs.length ≤ lim := by simpa using hz
  refine ⟨Nat.le_trans hz' lim_le, PostA.trans t1 (post_alloc g1 (objR_newTuple _ _ hz') fun a ha ea => ?_)⟩
  subst ea; exact h1 _ ha
end Mine

end
section -- F7
namespace Mine
variable {W : Wd} {n : Nat} {gl : Str → Option V} {env : Env} {cs : List Addr} {fr : List V} {σ : St} {A : Around} {s : Shared}

theorem subscripted_ok {M : Model} {E : Value → Shared → Prop} {e : PySem.Expr} {o i : Value} {Q : Value → Shared → Prop} (h : wpAny M A (getItem o i) Q E s) : wpAny M A (subscripted e false o i) Q E s := by
  unfold subscripted
  split
  · exact wpAny_operating h
  · rename_i hb; cases hb
  · exact wpAny_operating h
theorem getitem_py {M : Model} {E : Value → Shared → Prop} {a : Addr} {items : Array Value} {Q : Bool → Shared → Prop} (hl : s.heap.IsList a items ∨ IsTup s.heap a items) (h : Q false s) : wpAny M A (getitemInPython (.ref a)) Q E s := by
  rw [getitemInPython_of_ne (by intro h; cases h)]
  rcases hl with hl | hl
  · exact wpAny_bind (wpAny_specialOf hl.typeIs slot_list_getitem.lookup (wpAny_pure h))
  · exact wpAny_bind (wpAny_specialOf hl.typeIs slot_tuple_getitem.lookup (wpAny_pure h))
theorem subW_ref {o i : V} {Q : V → St → Prop} {H : Heap} (r : RelG H σ s) (h : subW o i σ Q) : ∃ a items, o = .ref a ∧ (s.heap.IsList a items ∨ IsTup s.heap a items) := by
  unfold subW at h
  split at h
  · obtain ⟨a, items, e, hl, _⟩ := itemsW_elim r h; exact ⟨a, items, e, hl⟩
  · exact h.elim

theorem sub_core {o i : PySem.Expr} {pos : Pos} (hx : SndE W gl o) (hi : SndE W gl i)
    {Q : V → St → Prop} (K : EnvOK W env cs) (h : xW W n (er gl env.scope.names o) cs fr σ fun a σ1 => xW W n (er gl env.scope.names i) cs fr σ1 fun b σ2 => subW a b σ2 Q) : EV W n env fr σ (eval (.Subscript o i pos) env) Q := by
  intro A s R r
  rw [eval_Subscript]
  refine wpAny_bind (wpAny_mono (hx _ _ _ _ _ _ K h A s R r) (fun ov s1 p1 => ?_) fun _ _ x => x)
  obtain ⟨σ1, h1, g1, t1⟩ := p1
  refine wpAny_bind (wpAny_holding (wpAny_mono (hi _ _ _ _ _ _ K h1 A s1 R (r.step g1 t1)) (fun iv s2 p2 => ?_) fun _ _ x => x))
  obtain ⟨σ2, h2, g2, t2⟩ := p2
  obtain ⟨a, items, e, hl⟩ := subW_ref g2 h2
  have e' := ab_ref e; subst e'
  refine wpAny_bind (wpAny_standAt (wpAny_bind (getitem_py hl (wpAny_bind (subscripted_ok (wpAny_mono (sub_ok g2 h2 rfl rfl) (fun v s3 p3 => ?_) fun _ _ x => x))))))
  exact wpAny_bind (wpAny_letTemporaryGo (wpAny_pure ((p3.trans t2).trans t1)))

theorem part_core {e : Option PySem.Expr} (he : ∀ x ∈ e, SndE W gl x) {Q : V → St → Prop} (K : EnvOK W env cs) (h : xW W n (erO gl env.scope.names e) cs fr σ Q) : EV W n env fr σ (valueOrNone (evalOpt e env)) Q := by
  intro A s R r
  cases e with
  | none => exact wpAny_pure (.here r.toRelG (by simpa [erO, x_bad, x_con, x_loc, x_cel, x_bin, x_neg, x_not, x_and, x_or, x_cmp, x_cmp2, x_ife, x_call, x_bcall, x_meth, x_sub, x_sl, x_lst, x_tup, x_comp, ab] using h))
  | some x => exact he x rfl _ _ _ _ _ _ K (by simpa [erO] using h) A s R r

theorem sl_ok {o lo hi st : V} {Q : V → St → Prop} (r : RelG W.H σ s) (h : slW o lo hi st σ Q) {vo vl vh vs : Value} (ho : ab vo = o) (hlo : ab vl = lo) (hhi : ab vh = hi) (hst : ab vs = st) {sl : Addr} {s' : Shared}
    (hs' : s' = { s with heap := s.heap.push { cls := .type "slice", data := .fields #[vl, vh, vs] } }) (hsl : sl = s.heap.objs.size) :
    (∃ a items, o = .ref a ∧ s'.heap.IsList a items) ∧ wpAny W.M A (getItem vo (.ref sl)) (PostA W.H No σ s fun v => Q (ab v)) NoE s' := by
  subst hs' hsl hlo hhi hst
  obtain ⟨a, items, rfl, hl, hz, h⟩ := litemsW_elim r h
  obtain ⟨l, pl, h⟩ := isPart_of h
  obtain ⟨u, pu, h⟩ := isPart_of h
  rw [ab_ref ho]
  have r' : RelG W.H σ { s with heap := s.heap.push { cls := .type "slice", data := .fields #[vl, vh, vs] } } := r.ext fun _ _ e => Heap.get?_push_of_some _ e
  have t' : Stp No σ s σ { s with heap := s.heap.push { cls := .type "slice", data := .fields #[vl, vh, vs] } } :=
    .ext (fun _ _ e => Heap.get?_push_of_some _ e) ⟨_, _, rfl⟩
  refine ⟨⟨a, items, rfl, hl.push _⟩, ?_⟩
  have main : ∀ (k : Option Int) (ys : List V), IsPart vs k → k ≠ some 0 → (slicePick items l u k).toList.map ab = ys → alW σ (.lst ys) Q →
      wpAny W.M A (getItem (.ref a) (.ref s.heap.objs.size)) (PostA W.H No σ s fun v => Q (ab v)) NoE { s with heap := s.heap.push { cls := .type "slice", data := .fields #[vl, vh, vs] } } := by
    intro k ys pk hk0 hys hq
    refine wpAny_getItem_list_slice (hl.push _) (Heap.IsSliceOf.new ..) pl pu pk hk0 ?_ (Nat.le_trans hz lim_le)
    have e : slicePick items l u k = ((slicePick items l u k).toList).toArray := by simp
    rw [e]
    refine PostA.trans t' (post_alloc r' (objR_newList _ _ (by simpa using Nat.le_trans (slicePick_size_le items l u k) hz)) fun b hb eb => ?_)
    subst eb; rw [hys]; exact hq _ hb
  generalize hk : ab vs = kv at h
  split at h
  · have e2 := ab_none hk
    exact main none _ (by rw [e2]; exact .none) nofun (slicePick_up ..) h
  · obtain ⟨t, e2⟩ := ab_int hk
    obtain ⟨hk1, h⟩ := h
    subst hk1
    exact main (some (-1)) _ (by rw [e2]; exact .int _ t) nofun (slicePick_rev items) h
  · exact h.elim

theorem snd_slice {o : PySem.Expr} {lo hi st : Option PySem.Expr} {p pos : Pos} (hx : SndE W gl o) (hlo : ∀ x ∈ lo, SndE W gl x) (hhi : ∀ x ∈ hi, SndE W gl x) (hst : ∀ x ∈ st, SndE W gl x) :
    SndE W gl (.Subscript o (.Slice lo hi st p) pos) := by
  intro n env cs fr σ Q K h A s R r
  simp only [e_none, e_bool, e_int, e_str, e_name, e_bin, e_not, e_neg, e_and, e_or, e_ife, e_list, e_tuple, e_cmp1, e_cmp2, e_meth, e_slice, e_comp, x_bad, x_con, x_loc, x_cel, x_bin, x_neg, x_not, x_and, x_or, x_cmp, x_cmp2, x_ife, x_call, x_bcall, x_meth, x_sub, x_sl, x_lst, x_tup, x_comp] at h
  rw [eval_Subscript]
  refine wpAny_bind (wpAny_mono (hx _ _ _ _ _ _ K h A s R r) (fun ov s1 p1 => ?_) fun _ _ x => x)
  obtain ⟨σ1, h1, g1, t1⟩ := p1
  have r1 := r.step g1 t1
  rw [arm_eval_Slice]
  refine wpAny_bind (wpAny_holding (wpAny_bind (wpAny_mono (part_core hlo K h1 A s1 R r1) (fun lv s2 p2 => ?_) fun _ _ x => x)))
  obtain ⟨σ2, h2, g2, t2⟩ := p2
  have r2 := r1.step g2 t2
  refine wpAny_bind (wpAny_holding (wpAny_mono (part_core hhi K h2 A s2 R r2) (fun hv s3 p3 => ?_) fun _ _ x => x))
  obtain ⟨σ3, h3, g3, t3⟩ := p3
  have r3 := r2.step g3 t3
  refine wpAny_bind (wpAny_holding (wpAny_mono (part_core hst K h3 A s3 R r3) (fun sv s4 p4 => ?_) fun _ _ x => x))
  obtain ⟨σ4, h4, g4, t4⟩ := p4
  refine wpAny_newObj_type ?_
  obtain ⟨⟨a, items, e, hl⟩, main⟩ := sl_ok (A := A) g4 h4 rfl rfl rfl rfl rfl rfl
  have e' := ab_ref e; subst e'
  refine wpAny_bind (wpAny_standAt (wpAny_bind (getitem_py (.inl hl) (wpAny_bind (subscripted_ok (wpAny_mono main (fun v s5 p5 => ?_) fun _ _ x => x))))))
  exact wpAny_bind (wpAny_letTemporaryGo (wpAny_pure ((((p5.trans t4).trans t3).trans t2).trans t1)))
end Mine

end
section -- F8
namespace Mine
variable {W : Wd} {n : Nat} {gl : Str → Option V} {env : Env} {cs : List Addr} {fr : List V} {σ : St} {A : Around} {s : Shared}

theorem ins_perm (x : Int) : ∀ l, (ins x l).Perm (x :: l)
  | [] => .refl _
  | y :: r => by
    unfold ins; split
    · exact .refl _
    · exact ((ins_perm x r).cons y).trans (.swap x y r)
theorem isort_perm : ∀ l, (isort l).Perm l
  | [] => .refl _
  | x :: r => (ins_perm x _).trans ((isort_perm r).cons x)
theorem ins_sorted (x : Int) : ∀ {l : List Int}, l.Pairwise (· ≤ ·) → (ins x l).Pairwise (· ≤ ·)
  | [], _ => by simp [ins]
  | y :: r, h => by
    have h' := List.pairwise_cons.mp h
    unfold ins; split
    · rename_i hxy
      refine List.pairwise_cons.mpr ⟨fun z hz => ?_, h⟩
      rcases List.mem_cons.mp hz with rfl | hz
      · exact hxy
      · exact Int.le_trans hxy (h'.1 z hz)
    · rename_i hxy
      refine List.pairwise_cons.mpr ⟨fun z hz => ?_, ins_sorted x h'.2⟩
      rcases List.mem_cons.mp ((ins_perm x r).mem_iff.mp hz) with rfl | hz
      · omega
      · exact h'.1 z hz
theorem isort_sorted : ∀ l, (isort l).Pairwise (· ≤ ·)
  | [] => .nil
  | x :: r => ins_sorted x (isort_sorted r)
theorem sorted_unique : ∀ {a b : List Int}, a.Perm b → a.Pairwise (· ≤ ·) → b.Pairwise (· ≤ ·) → a = b
  | [], b, p, _, _ => (List.nil_perm.mp p).symm
  | x :: r, [], p, _, _ => absurd p.length_eq (by simp)
  | x :: r, y :: q, p, ha, hb => by
    have h1 := List.pairwise_cons.mp ha
    have h2 := List.pairwise_cons.mp hb
    have e : x = y := by
      have hx : x ∈ y :: q := p.mem_iff.mp (by simp)
      have hy : y ∈ x :: r := p.mem_iff.mpr (by simp)
      rcases List.mem_cons.mp hx with e | hx
      · exact e
      · rcases List.mem_cons.mp hy with e | hy
        · exact e.symm
        · have := h1.1 y hy; have := h2.1 x hx; omega
    subst e
    rw [sorted_unique (p.cons_inv) h1.2 h2.2]
theorem isort_length (l : List Int) : (isort l).length = l.length := (isort_perm l).length_eq
theorem isort_eq_of {a l : List Int} (p : a.Perm l) (h : a.Pairwise (· ≤ ·)) : a = isort l := sorted_unique (p.trans (isort_perm l).symm) h (isort_sorted l)

theorem minL_spec : ∀ (l : List Int), l ≠ [] → minL l ∈ l ∧ ∀ x ∈ l, minL l ≤ x
  | [], h => absurd rfl h
  | [x], _ => by simp [minL]
  | x :: y :: r, _ => by
    obtain ⟨h1, h2⟩ := minL_spec (y :: r) (by simp)
    simp only [minL]
    refine ⟨?_, fun z hz => ?_⟩
    · by_cases hx : x ≤ minL (y :: r)
      · rw [Int.min_eq_left hx]; simp
      · rw [Int.min_eq_right (by omega)]; exact List.mem_cons_of_mem _ h1
    · rcases List.mem_cons.mp hz with rfl | hz
      · omega
      · have := h2 z hz; omega
theorem maxL_spec : ∀ (l : List Int), l ≠ [] → maxL l ∈ l ∧ ∀ x ∈ l, x ≤ maxL l
  | [], h => absurd rfl h
  | [x], _ => by simp [maxL]
  | x :: y :: r, _ => by
    obtain ⟨h1, h2⟩ := maxL_spec (y :: r) (by simp)
    simp only [maxL]
    refine ⟨?_, fun z hz => ?_⟩
    · by_cases hx : x ≤ maxL (y :: r)
      · rw [Int.max_eq_right hx]; exact List.mem_cons_of_mem _ h1
      · rw [Int.max_eq_left (by omega)]; simp
    · rcases List.mem_cons.mp hz with rfl | hz
      · omega
      · have := h2 z hz; omega
theorem minL_eq {l : List Int} {m : Int} (h1 : m ∈ l) (h2 : ∀ x ∈ l, m ≤ x) : minL l = m := by
  obtain ⟨a, b⟩ := minL_spec l (by rintro rfl; simp at h1)
  have := h2 _ a; have := b _ h1; omega
theorem maxL_eq {l : List Int} {m : Int} (h1 : m ∈ l) (h2 : ∀ x ∈ l, x ≤ m) : maxL l = m := by
  obtain ⟨a, b⟩ := maxL_spec l (by rintro rfl; simp at h1)
  have := h2 _ a; have := b _ h1; omega

theorem items_eq (items : Array Value) : items = items.toList.toArray := by simp
theorem objR_rng (h : Heap) (a b c : Int) (t u v : Tok) : ObjR (h.push { cls := .type "range", data := .fields #[.int a t, .int b u, .int c v] }) h.objs.size (.rng a b c) := ⟨t, u, v, IsRange.new ..⟩

noncomputable def biV : Bi → Value
  | .len => .builtin "len"
  | .sorted => .builtin "sorted"
  | .min => .builtin "min"
  | .max => .builtin "max"
  | .sum => .builtin "sum"
  | .abs => .builtin "abs"
  | .divmod => .builtin "divmod"
  | .isinstance => .builtin "isinstance"
  | .range => .type "range"
  | .list => .type "list"
  | .type => .type "type"
  | .int => .type "int"
  | .zip => .type "zip"
  | .str => .type "str"
theorem ite_some {α : Type} {c : Prop} [Decidable c] {a b : α} {o : Option α} (h : (if c then some a else o) = some b) : (c ∧ a = b) ∨ o = some b := by
  by_cases hc : c
  · rw [if_pos hc] at h; exact .inl ⟨hc, Option.some.inj h⟩
  · rw [if_neg hc] at h; exact .inr h
theorem biS_is {x : String} {b : Bi} (h : biS x = some b) : V.bi x = ab (biV b) := by
  unfold biS at h
  rcases ite_some h with ⟨e, q⟩ | h
  · rw [e, ← q]; rfl
  rcases ite_some h with ⟨e, q⟩ | h
  · rw [e, ← q]; rfl
  rcases ite_some h with ⟨e, q⟩ | h
  · rw [e, ← q]; rfl
  rcases ite_some h with ⟨e, q⟩ | h
  · rw [e, ← q]; rfl
  rcases ite_some h with ⟨e, q⟩ | h
  · rw [e, ← q]; rfl
  rcases ite_some h with ⟨e, q⟩ | h
  · rw [e, ← q]; rfl
  rcases ite_some h with ⟨e, q⟩ | h
  · rw [e, ← q]; rfl
  rcases ite_some h with ⟨e, q⟩ | h
  · rw [e, ← q]; rfl
  cases h
theorem biT_is {x : String} {b : Bi} (h : biT x = some b) : V.typ x = ab (biV b) := by
  unfold biT at h
  rcases ite_some h with ⟨e, q⟩ | h
  · rw [e, ← q]; rfl
  rcases ite_some h with ⟨e, q⟩ | h
  · rw [e, ← q]; rfl
  rcases ite_some h with ⟨e, q⟩ | h
  · rw [e, ← q]; rfl
  rcases ite_some h with ⟨e, q⟩ | h
  · rw [e, ← q]; rfl
  rcases ite_some h with ⟨e, q⟩ | h
  · rw [e, ← q]; rfl
  rcases ite_some h with ⟨e, q⟩ | h
  · rw [e, ← q]; rfl
  cases h
theorem biOf_some {v : V} {b : Bi} (h : biOf v = some b) : v = ab (biV b) := by
  cases v with
  | bi x => exact biS_is h
  | typ x => exact biT_is h
  | _ => cases h

theorem map_one {vs : List Value} {v : V} (h : vs.map ab = [v]) : ∃ x, vs = [x] ∧ ab x = v := by
  obtain ⟨x, l, rfl, e, h⟩ := List.map_eq_cons_iff.mp h
  rw [List.map_eq_nil_iff.mp h]; exact ⟨x, rfl, e⟩
theorem map_two {vs : List Value} {v w : V} (h : vs.map ab = [v, w]) : ∃ x y, vs = [x, y] ∧ ab x = v ∧ ab y = w := by
  obtain ⟨x, l, rfl, e, h⟩ := List.map_eq_cons_iff.mp h
  obtain ⟨y, rfl, e'⟩ := map_one h
  exact ⟨x, y, rfl, e, e'⟩
theorem map_three {vs : List Value} {v w u : V} (h : vs.map ab = [v, w, u]) : ∃ x y z, vs = [x, y, z] ∧ ab x = v ∧ ab y = w ∧ ab z = u := by
  obtain ⟨x, l, rfl, e, h⟩ := List.map_eq_cons_iff.mp h
  obtain ⟨y, z, rfl, e', e''⟩ := map_two h
  exact ⟨x, y, z, rfl, e, e', e''⟩

theorem bi_ok {b : Bi} {args : List V} {Q : V → St → Prop} (R : Room n A) (r : RelG W.H σ s) (h : biW b args σ Q) {vs : List Value} (hv : vs.map ab = args) :
    wpAny W.M A (call (biV b) vs) (PostA W.H No σ s fun v => Q (ab v)) NoE s := by
  cases b with
  | len =>
    obtain ⟨v0, e0, h1⟩ := one_elim h; replace h := h1; clear h1; subst e0
    -- len
    obtain ⟨x, rfl, e⟩ := map_one hv; subst e
    obtain ⟨a, items, e, hl, hz, h⟩ := itemsW_elim r h
    rw [ab_ref e]
    have hlm : items.size ≤ 1000000 := hz
    have hq : Q (.int items.size) σ := by simpa using h
    rcases hl with hl | hl
    · exact Calls.call_len_list hl (by omega) (.tok r hq _)
    · exact len_tuple hl (by omega) (.tok r hq _)
  | sorted =>
    obtain ⟨v0, e0, h1⟩ := one_elim h; replace h := h1; clear h1; subst e0
    -- sorted
    obtain ⟨x, rfl, e⟩ := map_one hv; subst e
    obtain ⟨a, items, ns, e, hl, hz, hi, h64, h⟩ := lintsW_elim r h
    rw [ab_ref e]
    rw [items_eq items] at hl
    refine sorted_ints hl hi (by rw [hi.length]; exact h64) fun out ns' a1 a2 a3 => ?_
    obtain ⟨e1, he⟩ := sortedAll_at s.heap items.toList out
    have hfr : s.heap.get? (s.heap.objs.size + 1) = none := by
      cases q : s.heap.get? (s.heap.objs.size + 1) with
      | none => rfl
      | some o => exact absurd (Heap.lt_size q) (Nat.not_lt.mpr (Nat.le_succ _))
    refine post_new (x := .lst (ivs (isort ns))) r (fun _ _ => sortedAll_old) hfr ⟨out, ⟨e1, he⟩, ?_, ?_⟩ fun ha => h _ ha
    · rw [intsAre_ab a1, isort_eq_of a2 a3]
    · have : ns.length ≤ lim := by unfold lim; omega
      simpa [ivs, isort_length] using this
  | range =>
    rcases args with _ | ⟨a0, _ | ⟨b0, _ | ⟨c0, _ | ⟨d0, args⟩⟩⟩⟩
    · exact h.elim
    · obtain ⟨i, rfl, h1⟩ := asI_elim h; replace h := h1; clear h1
      -- range 1
      obtain ⟨x, rfl, e⟩ := map_one hv; obtain ⟨t, rfl⟩ := ab_int e
      exact call_range_1 (post_alloc r (objR_rng ..) fun a ha ea => by subst ea; exact h.2 _ ha)
    · obtain ⟨i, rfl, h1⟩ := asI_elim h; replace h := h1; clear h1; obtain ⟨j, rfl, h1⟩ := asI_elim h; replace h := h1; clear h1
      obtain ⟨x, y, rfl, e, e'⟩ := map_two hv; obtain ⟨t, rfl⟩ := ab_int e; obtain ⟨t', rfl⟩ := ab_int e'
      exact call_range_2 (post_alloc r (objR_rng ..) fun a ha ea => by subst ea; exact h.2.2 _ ha)
    · obtain ⟨i, rfl, h1⟩ := asI_elim h; replace h := h1; clear h1; obtain ⟨j, rfl, h1⟩ := asI_elim h; replace h := h1; clear h1; obtain ⟨k, rfl, h1⟩ := asI_elim h; replace h := h1; clear h1
      obtain ⟨x, y, z, rfl, e, e', e''⟩ := map_three hv; obtain ⟨t, rfl⟩ := ab_int e; obtain ⟨t', rfl⟩ := ab_int e'; obtain ⟨t'', rfl⟩ := ab_int e''
      obtain ⟨h1, h2, h3, h⟩ := h
      exact call_range_3 (by omega) (post_alloc (t := s.toks) r (objR_rng ..) fun a ha ea => by subst ea; exact h _ ha) (.inl (PyProof.noPylong_small (by omega)))
    · obtain ⟨i, rfl, h1⟩ := asI_elim h; replace h := h1; clear h1; obtain ⟨j, rfl, h1⟩ := asI_elim h; replace h := h1; clear h1; obtain ⟨k, rfl, h1⟩ := asI_elim h; replace h := h1; clear h1
      exact h.elim
  | list =>
    obtain ⟨v0, e0, h1⟩ := one_elim h; replace h := h1; clear h1; subst e0
    -- list
    obtain ⟨x, rfl, e⟩ := map_one hv; subst e
    obtain ⟨a, items, e, hl, hz, h⟩ := litemsW_elim r h
    rw [ab_ref e]
    obtain ⟨o, ho, hc, m, hd⟩ := hl
    refine call_list_seq (hsz := Nat.le_trans hz lim_le) a (.inl rfl) ho hc hd fun h' c' hk hD => ?_
    exact post_new (x := .lst _) (t := s.toks) r hk (get_size _) ⟨items, ⟨c', hD⟩, rfl, by simpa using hz⟩ fun ha => h _ ha
  | abs =>
    obtain ⟨v0, e0, h1⟩ := one_elim h; replace h := h1; clear h1; subst e0
    obtain ⟨i, rfl, h1⟩ := asI_elim h; replace h := h1; clear h1
    -- abs
    obtain ⟨x, rfl, e⟩ := map_one hv; obtain ⟨t, rfl⟩ := ab_int e
    refine call_abs_int fun u tk => .tok r ?_ _
    have : (if i < 0 then -i else i) = (i.natAbs : Int) := by split <;> omega
    simp only [ab, this]; exact h
  | min =>
    rcases args with _ | ⟨a0, _ | ⟨b0, _ | ⟨c0, _ | ⟨d0, args⟩⟩⟩⟩
    · exact h.elim
    · replace h := (show lintsW a0 σ fun ns => ns ≠ [] ∧ Q (.int (minL ns)) σ from h)
      -- min of a list
      obtain ⟨x, rfl, e⟩ := map_one hv; subst e
      obtain ⟨a, items, ns, e, hl, hz, hi, hne, h⟩ := lintsW_elim r h
      rw [ab_ref e]
      rw [items_eq items] at hl
      obtain ⟨xs, ex⟩ := hi.allInts.items
      have hns : ns = xs.toList.map (·.1) := by rw [← hi.numsOf, ← nums_intItems, ← ex]
      have hsz : 0 < xs.size := by
        have h3 : 0 < ns.length := by cases ns with | nil => exact absurd rfl hne | cons _ _ => simp
        rw [hns, List.length_map, Array.length_toList] at h3; exact h3
      rw [ex] at hl
      refine min_intList R.handled hl hsz fun v h' tk hvv hk => post_ext r hk ?_
      obtain ⟨t, rfl⟩ := intItems_at hvv
      obtain ⟨h1, h2⟩ := argBest_lt (numAt xs) (xs.size - 1)
      have : minL ns = numAt xs (argBest (fun i j => decide (numAt xs i < numAt xs j)) (xs.size - 1)) := by
        refine minL_eq ?_ fun a ha => ?_
        · rw [hns, numAt_eq]; exact getD_mem (by rw [List.length_map, Array.length_toList]; omega)
        · rw [hns] at ha
          obtain ⟨j, hj, rfl⟩ := mem_getD ha
          rw [List.length_map, Array.length_toList] at hj
          rw [← numAt_eq]; exact h2 j (by omega)
      simp only [ab, ← this]; exact h
    · obtain ⟨i, rfl, h1⟩ := asI_elim h; replace h := h1; clear h1; obtain ⟨j, rfl, h1⟩ := asI_elim h; replace h := h1; clear h1
      replace h := (show Q (.int (min i j)) σ from h)
      obtain ⟨x, y, rfl, e, e'⟩ := map_two hv; obtain ⟨t, rfl⟩ := ab_int e; obtain ⟨t', rfl⟩ := ab_int e'
      refine min_two_ints R.handled fun h' tk hk => post_ext r hk ?_
      split <;> (simp only [ab]; rename_i hc)
      · rw [Int.min_eq_right (by omega)] at h; exact h
      · rw [Int.min_eq_left (by omega)] at h; exact h
    · obtain ⟨i, rfl, h1⟩ := asI_elim h; replace h := h1; clear h1; obtain ⟨j, rfl, h1⟩ := asI_elim h; replace h := h1; clear h1; obtain ⟨k, rfl, h1⟩ := asI_elim h; replace h := h1; clear h1
      replace h := (show Q (.int (min (min i j) k)) σ from h)
      obtain ⟨x, y, z, rfl, e, e', e''⟩ := map_three hv; obtain ⟨t, rfl⟩ := ab_int e; obtain ⟨t', rfl⟩ := ab_int e'; obtain ⟨t'', rfl⟩ := ab_int e''
      refine min_three_ints R.handled fun h' tk hk => post_ext r hk ?_
      have key : ∀ m, m = min (min i j) k → Q (.int m) σ := fun m hm => by rw [hm]; exact h
      split <;> split <;> exact key _ (by omega)
    · obtain ⟨i, rfl, h1⟩ := asI_elim h; replace h := h1; clear h1; obtain ⟨j, rfl, h1⟩ := asI_elim h; replace h := h1; clear h1; obtain ⟨k, rfl, h1⟩ := asI_elim h; replace h := h1; clear h1
      exact h.elim
  | max =>
    rcases args with _ | ⟨a0, _ | ⟨b0, _ | ⟨c0, _ | ⟨d0, args⟩⟩⟩⟩
    · exact h.elim
    · replace h := (show lintsW a0 σ fun ns => ns ≠ [] ∧ Q (.int (maxL ns)) σ from h)
      -- max of a list
      obtain ⟨x, rfl, e⟩ := map_one hv; subst e
      obtain ⟨a, items, ns, e, hl, hz, hi, hne, h⟩ := lintsW_elim r h
      rw [ab_ref e]
      rw [items_eq items] at hl
      obtain ⟨xs, ex⟩ := hi.allInts.items
      have hns : ns = xs.toList.map (·.1) := by rw [← hi.numsOf, ← nums_intItems, ← ex]
      have hsz : 0 < xs.size := by
        have h3 : 0 < ns.length := by cases ns with | nil => exact absurd rfl hne | cons _ _ => simp
        rw [hns, List.length_map, Array.length_toList] at h3; exact h3
      rw [ex] at hl
      refine max_intList R.handled hl hsz fun v h' tk hvv hk => post_ext r hk ?_
      obtain ⟨t, rfl⟩ := intItems_at hvv
      obtain ⟨h1, h2⟩ := argBest_gt (numAt xs) (xs.size - 1)
      have : maxL ns = numAt xs (argBest (fun i j => decide (numAt xs i > numAt xs j)) (xs.size - 1)) := by
        refine maxL_eq ?_ fun a ha => ?_
        · rw [hns, numAt_eq]; exact getD_mem (by rw [List.length_map, Array.length_toList]; omega)
        · rw [hns] at ha
          obtain ⟨j, hj, rfl⟩ := mem_getD ha
          rw [List.length_map, Array.length_toList] at hj
          rw [← numAt_eq]; exact h2 j (by omega)
      simp only [ab, ← this]; exact h
    · obtain ⟨i, rfl, h1⟩ := asI_elim h; replace h := h1; clear h1; obtain ⟨j, rfl, h1⟩ := asI_elim h; replace h := h1; clear h1
      replace h := (show Q (.int (max i j)) σ from h)
      obtain ⟨x, y, rfl, e, e'⟩ := map_two hv; obtain ⟨t, rfl⟩ := ab_int e; obtain ⟨t', rfl⟩ := ab_int e'
      refine max_two_ints R.handled fun h' tk hk => post_ext r hk ?_
      split <;> (simp only [ab]; rename_i hc)
      · rw [Int.max_eq_right (by omega)] at h; exact h
      · rw [Int.max_eq_left (by omega)] at h; exact h
    · obtain ⟨i, rfl, h1⟩ := asI_elim h; replace h := h1; clear h1; obtain ⟨j, rfl, h1⟩ := asI_elim h; replace h := h1; clear h1; obtain ⟨k, rfl, h1⟩ := asI_elim h; replace h := h1; clear h1
      replace h := (show Q (.int (max (max i j) k)) σ from h)
      obtain ⟨x, y, z, rfl, e, e', e''⟩ := map_three hv; obtain ⟨t, rfl⟩ := ab_int e; obtain ⟨t', rfl⟩ := ab_int e'; obtain ⟨t'', rfl⟩ := ab_int e''
      refine max_three_ints R.handled fun h' tk hk => post_ext r hk ?_
      have key : ∀ m, m = max (max i j) k → Q (.int m) σ := fun m hm => by rw [hm]; exact h
      split <;> split <;> exact key _ (by omega)
    · obtain ⟨i, rfl, h1⟩ := asI_elim h; replace h := h1; clear h1; obtain ⟨j, rfl, h1⟩ := asI_elim h; replace h := h1; clear h1; obtain ⟨k, rfl, h1⟩ := asI_elim h; replace h := h1; clear h1
      exact h.elim
  | sum =>
    obtain ⟨v0, e0, h1⟩ := one_elim h; replace h := h1; clear h1; subst e0
    -- sum
    obtain ⟨x, rfl, e⟩ := map_one hv; subst e
    obtain ⟨a, items, ns, e, hl, hz, hi, h⟩ := lintsW_elim r h
    rw [ab_ref e]
    rw [items_eq items] at hl
    obtain ⟨xs, ex⟩ := hi.allInts.items
    have hns : ns = xs.toList.map (·.1) := by rw [← hi.numsOf, ← nums_intItems, ← ex]
    rw [ex] at hl
    refine sum_intListG R.handled hl fun h' tk t' hk => post_ext r hk ?_
    rw [preSum_eq, List.take_of_length_le (by simp), ← hns]; exact h
  | type =>
    obtain ⟨v0, e0, h1⟩ := one_elim h; replace h := h1; clear h1; subst e0
    -- type
    obtain ⟨x, rfl, e⟩ := map_one hv; subst e
    unfold typeOfV at h
    generalize hx : ab x = xv at h
    split at h
    · obtain ⟨t, rfl⟩ := ab_int hx; exact call_type_of (typeIs_int s _ t) (by decide) (.here r h)
    · obtain ⟨t, rfl⟩ := ab_flt hx; exact call_type_of (typeIs_float s _ t) (by decide) (.here r h)
    · rw [ab_bool hx]; exact call_type_of (PySem.typeIs_bool s _) (by decide) (.here r h)
    · rename_i a
      rw [ab_ref hx]
      split at h
      · rename_i e; obtain ⟨i, hp, _⟩ := r.objs _ _ e; exact call_type_of hp.isList.typeIs (by decide) (.here r h)
      · rename_i e; obtain ⟨i, hp, _⟩ := r.objs _ _ e; exact call_type_of hp.typeIs (by decide) (.here r h)
      · rename_i e; obtain ⟨i, hp, _⟩ := r.objs _ _ e; exact call_type_of hp.typeIs (by decide) (.here r h)
      · exact h.elim
    · exact h.elim
  | _ => exact h.elim
end Mine

end
section -- F9
open PySem.MeetsSeq
namespace Mine
variable {W : Wd} {n : Nat} {gl : Str → Option V} {env : Env} {cs : List Addr} {fr : List V} {σ : St} {A : Around} {s : Shared}

theorem post_putL {α : Type} {H : Heap} {L : Addr → Prop} {Q : α → St → Prop} {v : α} {ys : List V} {a : Addr} {xs : List V} {h' : Heap} {t : Nat} (r : RelG H σ s) (hy : σ a = some (.lst xs)) (hs : Heap.SameBut a s.heap h')
    (ho : ∃ items : Array Value, h'.PlainList a items ∧ items.toList.map ab = ys ∧ ys.length ≤ lim) (q : Q v (σ.set a (.lst ys))) : PostA H L σ s Q v { s with heap := h', toks := t } :=
  post_put (x := .lst ys) r hy hs ho q

theorem setItem_plain {prog : Program} {w : World} {E : Value → Shared → Prop} {l : Addr} {items : Array Value} {k : Int} {t : Tok} {v : Value} {Q : Unit → Shared → Prop} (hl : s.heap.PlainList l items)
    (hk : idxOk k items.size) (hz : items.size ≤ lim)
    (hQ : ∀ h', h'.PlainList l (items.setIfInBounds (idx k items.size) v) → Heap.SameBut l s.heap h' → Q () { s with heap := h' }) :
    wpAny (model prog w) A (setItem (.ref l) (.int k t) v) Q E s := by
  obtain ⟨m, ho⟩ := id hl
  have hd : ({ cls := .type "list", data := .seq items m } : Obj).data = .seq items m := rfl
  have hlm : items.size ≤ 1000000 := hz
  have hk' := hk
  unfold idxOk at hk'
  obtain ⟨hidx, hlt⟩ := idx_ok hk
  have hfit : Builtin.List.listFitsIndex k = true := by
    unfold Builtin.List.listFitsIndex; simp only [Bool.and_eq_true, decide_eq_true_eq]; omega
  obtain ⟨x0, hx⟩ : ∃ x0, items[idx k items.size]? = some x0 := ⟨_, Array.getElem?_eq_getElem hlt⟩
  have fin : (s.heap.update l (Obj.mapSeq (·.setIfInBounds (idx k items.size) v))).PlainList l (items.setIfInBounds (idx k items.size) v) := ⟨_, IsL.update (n := m) ho _⟩
  unfold setItem
  refine wpAny_holding (wpAny_bind (wpAny_sequenceKey hl.isList.typeIs (by decide) ?_))
  refine wpAny_bind (wpAny_callSpecial?_slot (name := Str.ofString "__setitem__") hl.isList.typeIs slot_list_setitem
    (wpAny_call_entry slot_list_setitem hl.isList.typeIs entry_list_setitem ?_ (args_list_setitem _ _ _)))
  show wpAny _ _ (Builtin.List.listSubscript? (.int k t) >>= _) _ _ s
  refine wpAny_bind (wpAny_listSubscript_int hfit ?_)
  clear hfit
  cases k with
  | ofNat j =>
    have e : idx (Int.ofNat j) items.size = j := by
      have hneg : ¬ (Int.ofNat j < 0) := by simp
      show (if Int.ofNat j < 0 then Int.ofNat j + items.size else Int.ofNat j).toNat = j
      rw [if_neg hneg]; rfl
    rw [e] at hx fin hQ
    show wpAny _ _ ((seqItemAt l j >>= fun r => pure (r.map (j, ·))) >>= _) _ _ s
    refine wpAny_bind (wpAny_bind (wpAny_seqItemAt ho hd (wpAny_pure ?_)))
    rw [hx]
    show wpAny _ _ (setSeqItemAt l j v >>= _) _ _ s
    refine wpAny_bind (wpAny_setSeqItemAt ho hd ?_)
    first
      | exact wpAny_bind (wpAny_pure (wpAny_pure ⟨.none, rfl, wpAny_pure (hQ _ fin (Heap.SameBut.update ..))⟩))
      | exact wpAny_pure ⟨.none, rfl, wpAny_pure (hQ _ fin (Heap.SameBut.update ..))⟩
  | negSucc j =>
    show wpAny _ _ ((Builtin.List.listItems (.ref l) >>= fun xs => pure ((seqIndex? (Int.negSucc j) xs.size).bind fun i => xs[i]?.map (i, ·))) >>= _) _ _ s
    refine wpAny_bind (wpAny_bind ?_)
    show wpAny _ _ (seqItems? (.ref l) >>= _) _ _ s
    refine wpAny_bind (wpAny_seqItems ho hd (wpAny_pure (wpAny_pure ?_)))
    rw [hidx]
    simp only [Option.bind_some, hx, Option.map_some]
    show wpAny _ _ (setSeqItemAt l (idx (Int.negSucc j) items.size) v >>= _) _ _ s
    refine wpAny_bind (wpAny_setSeqItemAt ho hd ?_)
    first
      | exact wpAny_bind (wpAny_pure (wpAny_pure ⟨.none, rfl, wpAny_pure (hQ _ fin (Heap.SameBut.update ..))⟩))
      | exact wpAny_pure ⟨.none, rfl, wpAny_pure (hQ _ fin (Heap.SameBut.update ..))⟩

theorem map_eraseIdx {α β : Type} (f : α → β) : ∀ (l : List α) (i : Nat), (l.eraseIdx i).map f = (l.map f).eraseIdx i
  | [], _ => rfl
  | _ :: _, 0 => rfl
  | x :: r, i + 1 => by simp [List.eraseIdx_cons_succ, map_eraseIdx f r i]
theorem ssub_ok {o i v : V} {K : St → Prop} (r : RelG W.H σ s) (h : ssubW o i v σ K) {vo vi vv : Value} (ho : ab vo = o) (hi : ab vi = i) (hv : ab vv = v) :
    wpAny W.M A (setItem vo vi vv) (PostA W.H No σ s fun _ => K) NoE s := by
  unfold ssubW at h
  split at h
  · obtain ⟨t, rfl⟩ := ab_int hi
    obtain ⟨a, items, rfl, hσ, hl, hz, hk, h⟩ := mlistW_elim r h
    rw [ab_ref ho]
    have hsz : (items.toList.map ab).length = items.size := by simp
    rw [hsz] at hk h
    refine setItem_plain hl hk hz fun h' hl' hs' => post_putL (t := s.toks) r hσ hs' ⟨_, hl', ?_, ?_⟩ h
    · rw [setN_eq, Array.toList_setIfInBounds, List.map_set, hv]
    · rw [setN_eq]; simpa using hz
  · exact h.elim

theorem del_ok {o i : V} {K : St → Prop} (r : RelG W.H σ s) (h : delW o i σ K) {vo vi : Value} (ho : ab vo = o) (hi : ab vi = i) :
    wpAny W.M A (delItem vo vi) (PostA W.H No σ s fun _ => K) NoE s := by
  unfold delW at h
  split at h
  · rename_i k
    obtain ⟨t, rfl⟩ := ab_int hi
    obtain ⟨a, items, rfl, hσ, hl, hz, hk, h⟩ := mlistW_elim r h
    rw [ab_ref ho]
    have hsz : (items.toList.map ab).length = items.size := by simp
    rw [hsz] at hk h
    have hlm : items.size ≤ 1000000 := hz
    have hk' := hk
    unfold idxOk at hk'
    obtain ⟨hidx, hlt⟩ := idx_ok hk
    refine wpAny_delItem_plain hl (by unfold Builtin.List.listFitsIndex; simp only [Bool.and_eq_true, decide_eq_true_eq]; omega) hidx (fun h' hl' hs' => ?_) (Nat.le_trans hz lim_le)
    refine post_putL (t := s.toks) r hσ hs' ⟨_, hl', ?_, ?_⟩ h
    · rw [Array.toList_eraseIdxIfInBounds, map_eraseIdx]
    · have := List.length_eraseIdx_le (items.toList.map ab) (idx k items.size)
      rw [hsz] at this; exact Nat.le_trans this hz
  · exact h.elim

noncomputable def meV : Me → String
  | .append => "list.append"
  | .insert => "list.insert"
  | .pop => "list.pop"
  | .remove => "list.remove"
  | .extend => "list.extend"
  | .count => "list.count"
noncomputable def meN : Me → Str
  | .append => "append"
  | .insert => "insert"
  | .pop => "pop"
  | .remove => "remove"
  | .extend => "extend"
  | .count => "count"
theorem meOf_some {x : Str} {m : Me} (h : meOf x = some m) : x = meN m := by
  unfold meOf at h
  rcases ite_some h with ⟨e, q⟩ | h
  · rw [← q]; exact eq_of_beq e
  rcases ite_some h with ⟨e, q⟩ | h
  · rw [← q]; exact eq_of_beq e
  rcases ite_some h with ⟨e, q⟩ | h
  · rw [← q]; exact eq_of_beq e
  rcases ite_some h with ⟨e, q⟩ | h
  · rw [← q]; exact eq_of_beq e
  rcases ite_some h with ⟨e, q⟩ | h
  · rw [← q]; exact eq_of_beq e
  rcases ite_some h with ⟨e, q⟩ | h
  · rw [← q]; exact eq_of_beq e
  cases h
theorem meSlot : ∀ m : Me, Slot "list" (meN m) (meV m)
  | .append => PySem.F.slot_list_append
  | .insert => PySem.F.slot_list_insert
  | .pop => PySem.F.slot_list_pop
  | .remove => PySem.F.slot_list_remove
  | .extend => PySem.F.slot_list_extend
  | .count => PySem.F.slot_list_count
theorem meType : ∀ m : Me, typeOf (.builtin (meV m)) = pure (.type "method_descriptor")
  | .append => PySem.F.type_list_append
  | .insert => PySem.F.type_list_insert
  | .pop => PySem.F.type_list_pop
  | .remove => PySem.F.type_list_remove
  | .extend => PySem.F.type_list_extend
  | .count => PySem.F.type_list_count

theorem intsAre_mem {vs : List Value} {ns : List Int} (h : IntsAre vs ns) {y : Value} (hy : y ∈ vs) : ∃ k t, y = .int k t := by
  induction h with
  | nil => cases hy
  | cons n t _ ih => exact (List.mem_cons.mp hy).elim (fun e => ⟨_, _, e⟩) ih
theorem erase_at {vs : List Value} {ns : List Int} (h : IntsAre vs ns) {x : Int} (hx : x ∈ ns) : ∃ j, ∃ hj : j < vs.length, isInt x vs[j] = true ∧ (∀ m (hm : m < vs.length), m < j → isInt x vs[m] = false) ∧ IntsAre (vs.eraseIdx j) (ns.erase x) := by
  induction h with
  | nil => cases hx
  | @cons k t vs ns hr ih =>
    by_cases hk : k = x
    · subst hk
      exact ⟨0, by simp, by simp [isInt], fun m hm h0 => absurd h0 (Nat.not_lt_zero _), by simpa using hr⟩
    · have hx' : x ∈ ns := (List.mem_cons.mp hx).elim (fun e => absurd e.symm hk) id
      obtain ⟨j, hj, h1, h2, h3⟩ := ih hx'
      have hkx : (k == x) = false := by simpa using hk
      refine ⟨j + 1, by simpa using hj, by simpa using h1, fun m hm h0 => ?_, ?_⟩
      · cases m with
        | zero => simpa [isInt] using hk
        | succ m => simpa using h2 m (by simpa using hm) (by omega)
      · rw [List.eraseIdx_cons_succ, List.erase_cons, hkx]; exact .cons k t h3

theorem me_ok {m : Me} {o : V} {args : List V} {Q : V → St → Prop} (r : RelG W.H σ s) (h : meW m o args σ Q) {vo : Value} {vs : List Value} (ho : ab vo = o) (hv : vs.map ab = args) :
    wpAny W.M A (call (.builtin (meV m)) (vo :: vs)) (PostA W.H No σ s fun v => Q (ab v)) NoE s := by
  cases m with
  | append =>
    obtain ⟨v0, e0, h1⟩ := one_elim h; replace h := h1; clear h1; subst e0
    -- append
    obtain ⟨x, rfl, e⟩ := map_one hv; subst e
    obtain ⟨a, items, e, hσ, hl, hz, hz', hq⟩ := mlistW_elim r h
    rw [ab_ref (ho.trans e)]
    refine wpAny_list_append_plain hl (fun h' hl' hs' => ?_) (Nat.le_trans hz lim_le)
    exact post_putL (t := s.toks) r hσ hs' ⟨_, hl', by simp, by simpa using hz'⟩ hq
  | insert =>
    rcases args with _ | ⟨a0, args⟩
    · exact h.elim
    obtain ⟨i, rfl, h1⟩ := asI_elim h; replace h := h1; clear h1
    obtain ⟨v0, e0, h1⟩ := one_elim h; replace h := h1; clear h1; subst e0
    -- insert
    obtain ⟨x, y, rfl, e, e'⟩ := map_two hv; obtain ⟨t, rfl⟩ := ab_int e; subst e'
    obtain ⟨a, items, e, hσ, hl, hz, h0, h1, hz', hq⟩ := mlistW_elim r h
    rw [ab_ref (ho.trans e)]
    obtain ⟨c, hc⟩ := hl
    have hlm : items.size ≤ 1000000 := hz
    have h1' : i ≤ items.size := by simpa using h1
    refine call_meets PySem.F.slot_list_insert ⟨_, hc, rfl⟩ PySem.F.entry_list_insert (PySem.F.args_list_insert_3 _ _ _) (AutoSeq1.list_insert_list_int_val_1 a items c i t y (by simp [Builtin.List.listFitsIndex]; omega) (Nat.le_trans hz lim_le)) ⟨hc, ?_⟩
    have hneg : ¬ i < 0 := by omega
    have hmin : min i.toNat items.size = i.toNat := by omega
    refine post_putL (t := s.toks) r hσ (Heap.SameBut.update ..) ⟨_, ⟨_, IsL.update (n := c) hc _⟩, ?_, ?_⟩ hq
    · simp only [hneg, if_false, hmin]
      simp [List.map_take, List.map_drop]
      exact List.take_of_length_le (by simp)
    · simp at hz' ⊢
      have : i.toNat ≤ items.size := by omega
      rw [Nat.min_eq_left this]
      have hz2 : items.size + 1 ≤ 1000000 := hz'
      show i.toNat + (items.size - i.toNat + 1) ≤ 1000000
      omega
  | pop =>
    rcases args with _ | ⟨a0, args⟩
    case cons => exact h.elim
    replace h := (show mlistW o σ fun a xs => xs ≠ [] ∧ Q (xs.getLastD .undef) (σ.set a (.lst xs.dropLast)) from h)
    -- pop
    have hv' : vs = [] := by simpa using hv
    subst hv'
    obtain ⟨a, items, e, hσ, hl, hz, hne, hq⟩ := mlistW_elim r h
    rw [ab_ref (ho.trans e)]
    obtain ⟨c, hc⟩ := hl
    have hpos : 0 < items.size := by
      rcases Nat.eq_zero_or_pos items.size with e | e
      · exact absurd (by simpa using e) hne
      · exact e
    have hlt : items.size - 1 < items.size := by omega
    have hy : items[items.size - 1]? = some items[items.size - 1] := Array.getElem?_eq_getElem hlt
    refine call_meets PySem.F.slot_list_pop ⟨_, hc, rfl⟩ PySem.F.entry_list_pop (PySem.F.args_list_pop_1 _) (list_pop_last a items c _ hy (Nat.le_trans hz lim_le)) ⟨hc, ?_⟩
    have elast : ab items[items.size - 1] = (items.toList.map ab).getLastD .undef := by
      rw [List.getLastD_eq_getLast?, List.getLast?_eq_getElem?]
      simp [hlt]
    refine post_putL (t := s.toks) r hσ (Heap.SameBut.update ..) ⟨_, ⟨_, IsL.update (n := c) hc _⟩, ?_, ?_⟩ (by rw [elast]; exact hq)
    · rw [Array.toList_eraseIdxIfInBounds, List.dropLast_eq_take, List.eraseIdx_eq_take_drop_succ]
      simp [List.map_take]
      omega
    · simp only [List.length_dropLast, List.length_map, Array.length_toList]; exact Nat.le_trans (Nat.sub_le _ _) hz
  | remove =>
    obtain ⟨v0, e0, h1⟩ := one_elim h; replace h := h1; clear h1; subst e0
    obtain ⟨x, rfl, h1⟩ := asI_elim h; replace h := h1; clear h1
    -- remove
    obtain ⟨x, rfl, e⟩ := map_one hv; obtain ⟨t, rfl⟩ := ab_int e
    obtain ⟨a, items, e, hσ, hl, hz, hq⟩ := mlistW_elim r h
    rw [ab_ref (ho.trans e)]
    obtain ⟨c, hc⟩ := hl
    split at hq
    · rename_i ns e
      obtain ⟨hx, hq⟩ := hq
      have hi := intsAre_of (asInts_some e)
      obtain ⟨j, hj, h1, h2, h3⟩ := erase_at hi hx
      have hj' : j < items.size := by simpa using hj
      refine call_meets PySem.F.slot_list_remove ⟨_, hc, rfl⟩ PySem.F.entry_list_remove (PySem.F.args_list_remove_2 _ _)
        (list_remove a items c (.int x t) (isInt x) (fun y hy => ?_) j hj' (by simpa using h1) (fun m hm hmj => by have := h2 m (by simpa using hm) hmj; rwa [Array.getElem_toList] at this) (Nat.le_trans hz lim_le)) ⟨hc, ?_⟩
      · obtain ⟨k, u, rfl⟩ := intsAre_mem hi (by simpa using hy)
        exact EqGives.int k x u t
      · refine post_putL (t := s.toks) r hσ (Heap.SameBut.update ..) ⟨_, ⟨_, IsL.update (n := c) hc _⟩, ?_, ?_⟩ hq
        · rw [Array.toList_eraseIdxIfInBounds, intsAre_ab h3]
        · have e3 := h3.length
          have : (ns.erase x).length ≤ items.size := by
            rw [← e3, List.length_eraseIdx]; split <;> simp
          simp only [ivs, List.length_map]; exact Nat.le_trans this hz
    · exact hq.elim
  | extend =>
    obtain ⟨v0, e0, h1⟩ := one_elim h; replace h := h1; clear h1; subst e0
    -- extend
    obtain ⟨x, rfl, e⟩ := map_one hv; subst e
    obtain ⟨a, items, e, hσ, hl, hz, hq0⟩ := mlistW_elim r h
    obtain ⟨b, items2, e2, hσ2, hl2, hz2, hab, hzz, hq⟩ := mlistW_elim r hq0
    rw [ab_ref (ho.trans e), ab_ref e2]
    obtain ⟨c, hc⟩ := hl
    obtain ⟨c2, hc2⟩ := hl2
    have hzz' : items.size + items2.size ≤ lim := by simpa using hzz
    have hle := lim_le
    refine call_meets PySem.F.slot_list_extend ⟨_, hc, rfl⟩ PySem.F.entry_list_extend (PySem.F.args_list_extend_2 _ _)
      (AutoSeq1.list_extend_list_list_0 a items c b items2 c2 (by simp [Builtin.List.listTooLong]; intro _; omega) (Nat.le_trans hz lim_le) (by omega)) ⟨hc, hc2, ?_⟩
    exact post_putL (t := s.toks) r hσ (Heap.SameBut.update ..) ⟨_, ⟨_, IsL.update (n := c) hc _⟩, by simp, by simpa using hzz'⟩ hq
  | count =>
    obtain ⟨v0, e0, h1⟩ := one_elim h; replace h := h1; clear h1; subst e0
    obtain ⟨x, rfl, h1⟩ := asI_elim h; replace h := h1; clear h1
    -- count
    obtain ⟨x, rfl, e⟩ := map_one hv; obtain ⟨t, rfl⟩ := ab_int e
    obtain ⟨a, items, e, hσ, hl, hz, hq⟩ := mlistW_elim r h
    rw [ab_ref (ho.trans e)]
    obtain ⟨c, hc⟩ := hl
    split at hq
    · rename_i ns e
      have hi := intsAre_of (asInts_some e)
      refine call_meets PySem.F.slot_list_count ⟨_, hc, rfl⟩ PySem.F.entry_list_count (PySem.F.args_list_count_2 _ _) (list_count a items c (.int x t) (isInt x) (fun y hy => ?_)) ⟨hc, ?_⟩
      · obtain ⟨k, u, rfl⟩ := intsAre_mem hi (by simpa using hy)
        exact EqGives.int k x u t
      · rw [countP_isInt x hi]
        exact .tok r hq _
    · exact hq.elim
end Mine

end
section -- F10
namespace Mine
variable {W : Wd} {n : Nat} {gl : Str → Option V} {env : Env} {cs : List Addr} {fr : List V} {σ : St} {A : Around} {s : Shared}

structure Itr (W : Wd) (A : Around) (I : Addr) (fp : List Addr) (xs : List V) (chk : St → Prop) (S : Nat → Heap → Prop) : Prop where
  mem : I ∈ fp
  frame : ∀ i h h', S i h → (∀ b ∈ fp, ∀ o, h.get? b = some o → h'.get? b = some o) → S i h'
  alive : ∀ i h, S i h → ∀ b ∈ fp, ∃ o, h.get? b = some o
  nd : ∀ i h, S i h → ∀ b ∈ fp, ∀ o, h.get? b = some o → ∀ es n, o.data ≠ .dict es n
  item : ∀ i (s : Shared) (σ : St) (Q : Option Value → Shared → Prop) (E : Value → Shared → Prop), i < xs.length → S i s.heap → RelG W.H σ s → chk σ →
    (∀ v h' tk, ab v = nth xs i → S (i + 1) h' → (∀ b o, b ≠ I → s.heap.get? b = some o → h'.get? b = some o) → Q (some v) { s with heap := h', toks := tk }) → wpAny W.M A (pyNext (.ref I)) Q E s
  done : ∀ (s : Shared) (σ : St) (Q : Option Value → Shared → Prop) (E : Value → Shared → Prop), S xs.length s.heap → RelG W.H σ s → chk σ →
    (∀ h' tk, (∀ b o, b ≠ I → s.heap.get? b = some o → h'.get? b = some o) → Q none { s with heap := h', toks := tk }) → wpAny W.M A (pyNext (.ref I)) Q E s
  self : ∀ i (s : Shared) (Q : Value → Shared → Prop) (E : Value → Shared → Prop), S i s.heap → Q (.ref I) s → wpAny W.M A (pyIter (.ref I)) Q E s
  own : ∀ i (s : Shared) (t : PySem.Expr) (v : Value) (Q : Unit → Shared → Prop) (E : Value → Shared → Prop), S i s.heap → Q () s → wpAny W.M A (letOwnedTupleGo t (.ref I) v) Q E s

noncomputable def plainIter (n : String) : Bool := !(["enumerate", "zip", "dict_itemiterator", "dict_reverseitemiterator", "odict_iterator", "itertools.zip_longest", "itertools.pairwise"].contains n)
theorem letOwned_ok {M : Model} {E : Value → Shared → Prop} {t : PySem.Expr} {I : Addr} {v : Value} {o : Obj} {nm : String} {Q : Unit → Shared → Prop} (ho : s.heap.get? I = some o) (hc : o.cls = .type nm) (hn : plainIter nm = true) (h : Q () s) : wpAny M A (letOwnedTupleGo t (.ref I) v) Q E s := by
  have hn' : (["enumerate", "zip", "dict_itemiterator", "dict_reverseitemiterator", "odict_iterator", "itertools.zip_longest", "itertools.pairwise"] : List String).contains nm = false := by
    unfold plainIter at hn; simpa using hn
  unfold letOwnedTupleGo
  split
  · split
    · rename_i heq; cases heq
      refine wpAny_bind (wpAny_load ho ?_)
      obtain ⟨c, d, dt, sl⟩ := o
      simp only at hc; subst hc
      dsimp only
      split
      · rename_i e1
        cases e1
        rw [hn']; simp only [Bool.false_and, Bool.false_eq_true, if_false]
        exact wpAny_pure h
      · exact wpAny_pure h
    · exact wpAny_pure h
  · split
    · rename_i heq; cases heq
      refine wpAny_bind (wpAny_load ho ?_)
      obtain ⟨c, d, dt, sl⟩ := o
      simp only at hc; subst hc
      dsimp only
      split
      · rename_i e1
        cases e1
        rw [hn']; simp only [Bool.false_and, Bool.false_eq_true, if_false]
        exact wpAny_pure h
      · exact wpAny_pure h
    · exact wpAny_pure h
  · exact wpAny_pure h

theorem itr_lst (hh : A.handled = none) (I a : Addr) (hne : a ≠ I) (xs : List V) :
    Itr W A I [I] xs (fun σ => σ a = some (.lst xs)) (fun i h => h.IsListIter I a i) where
  mem := by simp
  frame := fun i h h' st hk => st.at fun o e => hk I (by simp) o e
  alive := fun i h st b hb => by
    have : b = I := by simpa using hb
    subst this; obtain ⟨o, e, _⟩ := st; exact ⟨o, e⟩
  nd := fun i h st b hb o e es n q => by
    have : b = I := by simpa using hb
    subst this; obtain ⟨o', e', _, hd⟩ := st; rw [e'] at e; cases e; rw [hd] at q; cases q
  item := fun i s σ Q E hi st r hc hQ => by
    obtain ⟨items, hp, hm, hz⟩ := r.objs _ _ hc
    have hi' : i < items.size := by rw [← hm] at hi; simpa using hi
    refine wpAny_pyNext_list_item st hp.isList (x := items[i]) (by simp [hi']) fun h' hit' hs' => ?_
    refine hQ _ h' s.toks ?_ hit' fun b o hb e => hs'.extBut b o hb e
    rw [← hm, nth_map (x := items[i])]
    simp [hi']
  done := fun s σ Q E st r hc hQ => by
    obtain ⟨items, hp, hm, hz⟩ := r.objs _ _ hc
    have hsz : items.size = xs.length := by rw [← hm]; simp
    exact wpAny_pyNext_list_end hh st hp.isList (by simp [hsz]) fun h' he' => hQ h' s.toks fun b o hb e => he' b o hb e
  self := fun i s Q E st hQ => wpAny_pyIter_listiter st hQ
  own := fun i s t v Q E st h => by obtain ⟨o, e, hc, _⟩ := st; exact letOwned_ok e hc (by decide) h

theorem itr_of {I : Addr} {fp : List Addr} {m : Nat} {P : Nat → Value → Prop} {S : Nat → Heap → Prop} {xs : List V} (Wk : Walks W.prog W.w A I fp [I] m P S) (hm : m = xs.length) (hP : ∀ i v, i < m → P i v → ab v = nth xs i)
    (ha : ∀ i h, S i h → ∀ b ∈ fp, ∃ o, h.get? b = some o) (hn : ∀ i h, S i h → ∃ o nm, h.get? I = some o ∧ o.cls = .type nm ∧ plainIter nm = true) (hd : ∀ i h, S i h → ∀ b ∈ fp, ∀ o, h.get? b = some o → ∀ es n, o.data ≠ .dict es n) : Itr W A I fp xs (fun _ => True) S where
  mem := Wk.sub I (by simp)
  frame := Wk.frame
  alive := ha
  nd := hd
  item := fun i s σ Q E hi st r _ hQ => Wk.item i s Q E (hm ▸ hi) st fun v h' tk hp st' hk => hQ v h' tk (hP i v (hm ▸ hi) hp) st' fun b o hb e => hk b o (by simpa using hb) e
  done := fun s σ Q E st r _ hQ => Wk.done s Q E (hm ▸ st) fun h' tk hk => hQ h' tk fun b o hb e => hk b o (by simpa using hb) e
  self := Wk.self
  own := fun i s t v Q E st h => by obtain ⟨o, nm, e, hc, hp⟩ := hn _ _ st; exact letOwned_ok e hc hp h

theorem rangeSize_one' (a b : Int) : Builtin.Range.rangeSize a b 1 = ((b - a).toNat : Int) := by
  unfold Builtin.Range.rangeSize; simp only [show (1 : Int) > 0 by omega, if_true, Int.ediv_one]; split <;> omega
theorem rangeSize_neg (a b : Int) : Builtin.Range.rangeSize a b (-1) = ((a - b).toNat : Int) := by
  unfold Builtin.Range.rangeSize; simp only [show ¬ ((-1 : Int) > 0) by omega, if_false, Int.neg_neg, Int.ediv_one]; split <;> omega
theorem rangeL_length (a b c : Int) (hc : c = 1 ∨ c = -1) : Builtin.Range.rangeSize a b c = ((rangeL a b c).length : Int) := by
  unfold rangeL
  rcases hc with rfl | rfl
  · rw [rangeSize_one']; simp
  · rw [rangeSize_neg]; simp
theorem rangeL_get (a b c : Int) (hc : c = 1 ∨ c = -1) {i : Nat} (hi : i < (rangeL a b c).length) : nth (ivs (rangeL a b c)) i = .int (a + (i : Int) * c) := by
  have e : (rangeL a b c)[i]? = some (a + (i : Int) * c) := by
    unfold rangeL at hi ⊢
    rcases hc with rfl | rfl
    · simp only [if_true, List.length_map, List.length_range] at hi
      simp only [if_true, List.getElem?_map, List.getElem?_range hi, Option.map_some, Int.mul_one]
    · have h1 : ¬ ((-1 : Int) = 1) := by omega
      simp only [h1, if_false, List.length_map, List.length_range] at hi
      simp only [h1, if_false, List.getElem?_map, List.getElem?_range hi, Option.map_some]
      congr 1; omega
  rw [nth_eq, List.getD_eq_getElem?_getD, ivs, List.getElem?_map, e]; rfl
theorem small_of {a b c : Int} (ha : small a) (hb : small b) (hc : c = 1 ∨ c = -1) : Builtin.Range.small a b c = true := by
  unfold small at ha hb
  have hl := rangeL_length a b c hc
  have hz : Builtin.Range.rangeSize a b c = (b - a).toNat ∨ Builtin.Range.rangeSize a b c = (a - b).toNat := by
    rcases hc with rfl | rfl
    · exact .inl (rangeSize_one' a b)
    · exact .inr (rangeSize_neg a b)
  have fit : ∀ x : Int, -(2 ^ 63) ≤ x → x < 2 ^ 63 → Builtin.Range.rangeFitsLong x = true := fun x h1 h2 => by
    unfold Builtin.Range.rangeFitsLong; simp only [Bool.and_eq_true, decide_eq_true_eq]; omega
  unfold Builtin.Range.small
  rw [fit a (by omega) (by omega), fit b (by omega) (by omega), fit c (by omega) (by omega), fit _ (by omega) (by omega)]
  rcases hc with rfl | rfl
  · rw [if_pos (by omega), fit _ (by omega) (by omega)]; simp
  · rw [if_neg (by omega), fit _ (by omega) (by omega)]; simp

theorem iter_ok {v : V} {K : List V → (St → Prop) → Prop} (R : Room n A) (r : RelG W.H σ s) (h : iterW v σ K) {xv : Value} (hv : ab xv = v) {Q : Value → Shared → Prop}
    (hQ : ∀ I fp xs chk S h', Itr W A I fp xs chk S → K xs chk → S 0 h' → s.heap.get? I = none → (∀ b ∈ fp, NoMut σ b) → (∀ b ∈ fp, b = I ∨ ∃ x, σ b = some x) → (∀ b o, s.heap.get? b = some o → h'.get? b = some o) → xs.length ≤ lim ∨ (∃ l : List Int, xs = ivs l) → Q (.ref I) { s with heap := h' }) :
    wpAny W.M A (pyIter xv) Q NoE s := by
  obtain ⟨a, o, e, hσ, h⟩ := refW_elim h
  rw [ab_ref (hv.trans e)]
  have Ro := r.objs a o hσ
  obtain ⟨oa, hoa⟩ := Ro.get
  have hlt : a < s.heap.objs.size := Heap.lt_size hoa
  have hne : a ≠ s.heap.objs.size := Nat.ne_of_lt hlt
  have hnm : NoMut σ s.heap.objs.size := fun x hx => by rw [r.fresh (get_size _)] at hx; cases hx
  cases o with
  | lst xs =>
    obtain ⟨items, hp, hm, hz⟩ := Ro
    refine wpAny_pyIter_list hp.isList (hQ _ [s.heap.objs.size] xs _ _ _ (itr_lst R.handled _ a hne xs) h ⟨_, Heap.get?_push_size _ rfl, rfl, rfl⟩ (get_size _) ?_ ?_ (fun _ _ e => Heap.get?_push_of_some _ e) (.inl hz))
    · intro b hb; have : b = s.heap.objs.size := by simpa using hb
      subst this; exact hnm
    · intro b hb; exact .inl (by simpa using hb)
  | ro xs =>
    obtain ⟨items, hp, hm, hz⟩ := Ro
    refine wpAny_pyIter_list hp (hQ _ [s.heap.objs.size, a] xs (fun _ => True) _ _ (itr_of (Walks.list R.handled _ a hne items) (by rw [← hm]; simp) (fun i v hi hP => ?_) ?_ (fun i h st => by obtain ⟨⟨o, e, hc, _⟩, _⟩ := st; exact ⟨o, _, e, hc, by decide⟩) (fun i h st b hb o eo es n q => by
      obtain ⟨⟨o1, e1, _, d1⟩, ⟨o2, e2, _, _, d2⟩⟩ := st
      rcases List.mem_cons.mp hb with rfl | hb
      · rw [e1] at eo; cases eo; rw [d1] at q; cases q
      · have : b = a := by simpa using hb
        subst this; rw [e2] at eo; cases eo; rw [d2] at q; cases q)) h ⟨⟨_, Heap.get?_push_size _ rfl, rfl, rfl⟩, hp.push _⟩ (get_size _) ?_ ?_ (fun _ _ e => Heap.get?_push_of_some _ e) (.inl hz))
    · rw [← hm, nth_map (x := v)]; simpa using hP
    · rintro i h ⟨⟨o1, e1, _⟩, ⟨o2, e2, _⟩⟩ b hb
      rcases List.mem_cons.mp hb with rfl | hb
      · exact ⟨_, e1⟩
      · have : b = a := by simpa using hb
        subst this; exact ⟨_, e2⟩
    · intro b hb
      rcases List.mem_cons.mp hb with rfl | hb
      · exact hnm
      · have : b = a := by simpa using hb
        subst this; intro x hx; rw [hσ] at hx; cases hx; rfl
    · intro b hb
      rcases List.mem_cons.mp hb with rfl | hb
      · exact .inl rfl
      · have : b = a := by simpa using hb
        subst this; exact .inr ⟨_, hσ⟩
  | tup xs =>
    obtain ⟨items, hp, hm, hz⟩ := Ro
    refine wpAny_pyIter_tuple hp (hQ _ [s.heap.objs.size, a] xs (fun _ => True) _ _ (itr_of (Walks.tuple R.handled _ a hne items) (by rw [← hm]; simp) (fun i v hi hP => ?_) ?_ (fun i h st => by obtain ⟨⟨o, e, hc, _⟩, _⟩ := st; exact ⟨o, _, e, hc, by decide⟩) (fun i h st b hb o eo es n q => by
      obtain ⟨⟨o1, e1, _, d1⟩, ⟨o2, e2, _, _, d2⟩⟩ := st
      rcases List.mem_cons.mp hb with rfl | hb
      · rw [e1] at eo; cases eo; rw [d1] at q; cases q
      · have : b = a := by simpa using hb
        subst this; rw [e2] at eo; cases eo; rw [d2] at q; cases q)) h ⟨⟨_, Heap.get?_push_size _ rfl, rfl, rfl⟩, IsTup.push hp _⟩ (get_size _) ?_ ?_ (fun _ _ e => Heap.get?_push_of_some _ e) (.inl hz))
    · rw [← hm, nth_map (x := v)]; simpa using hP
    · rintro i h ⟨⟨o1, e1, _⟩, ⟨o2, e2, _⟩⟩ b hb
      rcases List.mem_cons.mp hb with rfl | hb
      · exact ⟨_, e1⟩
      · have : b = a := by simpa using hb
        subst this; exact ⟨_, e2⟩
    · intro b hb
      rcases List.mem_cons.mp hb with rfl | hb
      · exact hnm
      · have : b = a := by simpa using hb
        subst this; intro x hx; rw [hσ] at hx; cases hx; rfl
    · intro b hb
      rcases List.mem_cons.mp hb with rfl | hb
      · exact .inl rfl
      · have : b = a := by simpa using hb
        subst this; exact .inr ⟨_, hσ⟩
  | rng lo hi st =>
    obtain ⟨t, u, w, hr⟩ := Ro
    obtain ⟨h1, h2, h3, h⟩ := h
    refine wpAny_pyIter_range hr (small_of h1 h2 h3) (hQ _ [s.heap.objs.size] _ (fun _ => True) _ _ (itr_of (Walks.range R.handled _ lo st (rangeL lo hi st).length) (by simp [ivs]) (fun i v hi' hP => ?_) ?_ (fun i h st => ⟨_, _, st, rfl, by decide⟩) (fun i h st b hb o e es n q => by
      have : b = s.heap.objs.size := by simpa using hb
      subst this; rw [show h.get? _ = some _ from st] at e; cases e; cases q)) h ?_ (get_size _) ?_ ?_ (fun _ _ e => Heap.get?_push_of_some _ e) (.inr ⟨_, rfl⟩))
    · obtain ⟨t', rfl⟩ := hP; rw [rangeL_get _ _ _ h3 hi']; rfl
    · intro i h st b hb
      have : b = s.heap.objs.size := by simpa using hb
      subst this; exact ⟨_, st⟩
    · show IsRangeIter _ _ _ _ _
      have e := Heap.get?_push_size s.heap (o := { cls := .type "range_iterator", data := .fields #[rawInt lo, rawInt (Builtin.Range.rangeSize lo hi st), rawInt st] }) rfl
      rw [rangeL_length _ _ _ h3] at e
      unfold IsRangeIter
      simpa [rangeL_length _ _ _ h3] using e
    · intro b hb; have : b = s.heap.objs.size := by simpa using hb
      subst this; exact hnm
    · intro b hb; exact .inl (by simpa using hb)
  | cell v => exact h.elim
  | fn f => exact h.elim
  | tab f => exact h.elim
  | code f => exact h.elim
end Mine

end
section -- F11
namespace Mine
variable {W : Wd} {n : Nat} {gl : Str → Option V} {env : Env} {cs : List Addr} {fr : List V} {σ : St} {A : Around} {s s' : Shared} {L : Addr → Prop}

theorem RelG.hidden {H : Heap} (r : RelG H σ s) (hL : ∀ b, L b → σ b = none ∧ H.get? b = none) (hk : ∀ b o, ¬ L b → s.heap.get? b = some o → s'.heap.get? b = some o) : RelG H σ s' :=
  ⟨fun b o e => hk b o (fun hb => (by rw [(hL b hb).2] at e; cases e)) (r.base b o e),
   fun a x e => (r.objs a x e).at fun o => hk a o fun hb => (by rw [(hL a hb).1] at e; cases e), r.own⟩
theorem Stp.hidden (hk : ∀ b o, ¬ L b → s.heap.get? b = some o → s'.heap.get? b = some o) (ha : ∀ b o, L b → s.heap.get? b = some o → ∃ o', s'.heap.get? b = some o') (hr : ∃ h t, s' = { s with heap := h, toks := t }) : Stp L σ s σ s' :=
  .of (fun b o e _ hl => hk b o hl e) (fun _ x e => .inl ⟨x, e, id⟩) (fun b o e => by
    by_cases hl : L b
    · exact ha b o hl e
    · exact ⟨o, hk b o hl e⟩) hr
theorem Stp.shown {σ' : St} (t : Stp L σ s σ' s') (h : ∀ b, L b → s.heap.get? b = none) : Stp No σ s σ' s' :=
  ⟨fun b o e hm _ => t.keep b o e hm fun hb => (by rw [h b hb] at e; cases e), fun b o e hm _ => t.look b o e hm fun hb => (by rw [h b hb] at e; cases e), t.dom, t.alive, t.rest⟩
theorem Stp.off {σ' : St} (t : Stp L σ s σ' s') {b : Addr} {o : Obj} (h : σ b = none) (e : s.heap.get? b = some o) : σ' b = none := by
  cases q : σ' b with
  | none => rfl
  | some x =>
    rcases t.dom b x q with ⟨y, hy, _⟩ | h'
    · rw [h] at hy; cases hy
    · rw [h'] at e; cases e
theorem Stp.nomut {σ' : St} (t : Stp L σ s σ' s') {b : Addr} {o : Obj} (h : NoMut σ b) (e : s.heap.get? b = some o) : NoMut σ' b := fun x hx => by
  rcases t.dom b x hx with ⟨y, hy, hm⟩ | h'
  · cases hx' : x.mut with
    | false => rfl
    | true => have := h y hy; rw [hm hx'] at this; exact this
  · rw [h'] at e; cases e

theorem tests_ok : ∀ (ifs : List PySem.Expr), (∀ c ∈ ifs, SndT W gl c) → ∀ n env cs fr σ Q, EnvOK W env cs → tW W n (erAnd gl env.scope.names ifs) cs fr σ Q → ∀ A s, Room n A → Rel W.H A env σ fr s →
    wpAny W.M A (forIn ifs true fun c r => if r = true then do let ok ← isTrue c env (eval c env); pure (ForInStep.yield ok) else pure (ForInStep.yield r)) (PostA W.H No σ s Q) NoE s := by
  have skip : ∀ (env : Env) (l : List PySem.Expr) (A : Around) (s : Shared) (Z : Bool → Shared → Prop), Z false s →
      wpAny W.M A (forIn l false fun c r => if r = true then do let ok ← isTrue c env (eval c env); pure (ForInStep.yield ok) else pure (ForInStep.yield r)) Z NoE s := by
    intro env l
    induction l with
    | nil => intro A s Z h; exact wpAny_pure h
    | cons c r ih => intro A s Z h; rw [List.forIn_cons]; exact wpAny_bind (wpAny_pure (ih A s Z h))
  intro ifs
  induction ifs with
  | nil => intro _ n env cs fr σ Q K h A s R r; exact wpAny_pure (.here r.toRelG (by simpa [ea_nil, ea_one, ea_cons, t_not, t_and, t_or, t_ife, t_cmp, t_cmp2, t_con, t_loc, t_call, t_bcall, t_sub, t_bad, t_cel, t_bin, t_neg, t_sl, t_lst, t_tup, t_comp, t_meth, truW] using h))
  | cons c rest ih =>
    intro hs n env cs fr σ Q K h A s R r
    rw [List.forIn_cons]
    cases rest with
    | nil =>
      refine wpAny_bind (wpAny_bind (wpAny_mono (hs c (by simp) _ _ _ _ _ _ K (by simpa [ea_nil, ea_one, ea_cons] using h) A s R r) (fun b s1 p1 => wpAny_pure ?_) fun _ _ x => x))
      exact wpAny_pure p1
    | cons c' r' =>
      simp only [ea_nil, ea_one, ea_cons, t_not, t_and, t_or, t_ife, t_cmp, t_cmp2, t_con, t_loc, t_call, t_bcall, t_sub, t_bad, t_cel, t_bin, t_neg, t_sl, t_lst, t_tup, t_comp, t_meth] at h
      refine wpAny_bind (wpAny_bind (wpAny_mono (hs c (by simp) _ _ _ _ _ _ K h A s R r) (fun b s1 p1 => wpAny_pure ?_) fun _ _ x => x))
      obtain ⟨σ1, h1, g1, t1⟩ := p1
      cases b with
      | false => exact skip _ _ _ _ _ ⟨σ1, by simpa using h1, g1, t1⟩
      | true => exact wpAny_mono (ih (fun v hv => hs v (by simp [List.mem_cons.mp hv])) _ _ _ _ _ _ K (by simpa using h1) A s1 R (r.step g1 t1)) (fun _ _ p => p.trans t1) fun _ _ x => x

theorem nodup_lookup : ∀ {ns : List (Str × NameKind)}, (ns.map (·.1)).Nodup → ∀ {i : Nat} {x : Str} {k : NameKind}, ns[i]? = some (x, k) → ns.lookup x = some k ∧ place ns x = i
  | [], _, i, x, k, h => by simp at h
  | (y, k') :: r, hn, i, x, k, h => by
    obtain ⟨h1, h2⟩ := List.nodup_cons.mp (by simpa using hn : (y :: r.map (·.1)).Nodup)
    cases i with
    | zero => simp at h; obtain ⟨rfl, rfl⟩ := h; simp [List.lookup, place, List.findIdx_cons]
    | succ i =>
      have h' : r[i]? = some (x, k) := by simpa using h
      have hx : x ∈ r.map (·.1) := List.mem_map.mpr ⟨(x, k), List.mem_of_getElem? h', rfl⟩
      have hxy : x ≠ y := fun e => h1 (e ▸ hx)
      obtain ⟨a, b⟩ := nodup_lookup h2 h'
      have e1 : (x == y) = false := by simpa using hxy
      have e2 : (y == x) = false := by simpa using fun e : y = x => hxy e.symm
      exact ⟨by rw [List.lookup_cons, e1]; exact a, by unfold place at b ⊢; rw [List.findIdx_cons, e2]; simpa using b⟩

theorem closureFor_ok (K : EnvOK W env cs) {sc : Scope} {cl : List (Str × NameKind) → List (Str × Addr) → List (Str × Addr)}
    (hcl0 : ∀ acc, cl [] acc = acc) (hcl1 : ∀ p r acc, cl (p :: r) acc = cl r (if p.2 == .free then (p.1, nthA cs (place env.scope.names p.1)) :: acc else acc))
    (h : ∀ p ∈ sc.names, p.2 = .free → env.scope.names.lookup p.1 = some .cell ∨ env.scope.names.lookup p.1 = some .free) : closureFor sc env = pure (cl sc.names []) := by
  unfold closureFor
  have g : ∀ (l : List (Str × NameKind)) (acc : List (Str × Addr)), (∀ p ∈ l, p.2 = .free → env.scope.names.lookup p.1 = some .cell ∨ env.scope.names.lookup p.1 = some .free) →
      (forIn l acc fun (x : Str × NameKind) (cs : List (Str × Addr)) => match x with | (name, kind) => (if (kind == NameKind.free) = true then do let c ← cellOf env name; pure (ForInStep.yield ((name, c) :: cs)) else pure (ForInStep.yield cs) : Sem _)) = pure (cl l acc) := by
    intro l
    induction l with
    | nil => intro acc _; rw [hcl0]; rfl
    | cons p r ih =>
      intro acc hp
      obtain ⟨y, k⟩ := p
      rw [List.forIn_cons, hcl1]
      by_cases hk : (k == NameKind.free) = true
      · have hk' : k = .free := eq_of_beq hk
        have hl : ∃ k', env.scope.names.lookup y = some k' ∧ (k' = .cell ∨ k' = .free) := by
          rcases hp (y, k) (by simp) hk' with e | e
          · exact ⟨_, e, .inl rfl⟩
          · exact ⟨_, e, .inr rfl⟩
        obtain ⟨k', e, hk2⟩ := hl
        have hc := (K.cell _ _ _ (place_of e) hk2).1
        have ec : cellOf env y = pure (nthA cs (place env.scope.names y)) := by unfold cellOf; rw [hc, nthA_eq]
        simp only [hk, if_true, ec]
        exact ih _ fun p hp' => hp p (by simp [hp'])
      · simp only [hk, Bool.false_eq_true, if_false]
        exact ih _ fun p hp' => hp p (by simp [hp'])
  exact (congrArg (fun t : Sem (List (Str × Addr)) => t >>= fun cs => pure cs) (g sc.names [] h)).trans rfl

noncomputable def clOf (ons : List (Str × NameKind)) (cs : List Addr) : List (Str × NameKind) → List (Str × Addr) → List (Str × Addr)
  | [], acc => acc
  | p :: r, acc => clOf ons cs r (if p.2 == .free then (p.1, nthA cs (place ons p.1)) :: acc else acc)
theorem clOf_lookup {ons : List (Str × NameKind)} {x : Str} : ∀ (l : List (Str × NameKind)) (acc : List (Str × Addr)), (acc.lookup x = some (nthA cs (place ons x)) ∨ (x, NameKind.free) ∈ l) →
    (∀ p ∈ acc, p.1 = x → p.2 = nthA cs (place ons x)) → (clOf ons cs l acc).lookup x = some (nthA cs (place ons x))
  | [], acc, h, _ => by
    rcases h with h | h
    · exact h
    · cases h
  | (y, k) :: r, acc, h, hacc => by
    unfold clOf
    by_cases hk : (k == NameKind.free) = true
    · simp only [hk, if_true]
      refine clOf_lookup r _ ?_ fun p hp e => ?_
      · by_cases hxy : x = y
        · subst hxy; exact .inl (by simp [List.lookup])
        · have e1 : (x == y) = false := by simpa using hxy
          rcases h with h | h
          · exact .inl (by rw [List.lookup_cons, e1]; exact h)
          · rcases List.mem_cons.mp h with e | h
            · cases e; exact absurd rfl hxy
            · exact .inr h
      · rcases List.mem_cons.mp hp with rfl | hp
        · simp only at e; subst e; rfl
        · exact hacc p hp e
    · simp only [hk, Bool.false_eq_true, if_false]
      refine clOf_lookup r acc ?_ hacc
      rcases h with h | h
      · exact .inl h
      · rcases List.mem_cons.mp h with e | h
        · cases e; simp at hk
        · exact .inr h

theorem rl_names (K : EnvOK W env cs) (sc : Scope) : (relabel sc env).names = rl env.scope.names sc.names := by
  unfold relabel rl
  have hk : (env.scope.kind == ScopeKind.function) = true := by rw [K.kind]; rfl
  simp only [hk]
  rfl
theorem rl_get {ns inner : List (Str × NameKind)} {i : Nat} {x : Str} {k : NameKind} (h : (rl ns inner)[i]? = some (x, k)) : ∃ k', inner[i]? = some (x, k') ∧ (k = k' ∨ k = .cell ∧ k' = .free) := by
  unfold rl at h
  rw [List.getElem?_map] at h
  cases e : inner[i]? with
  | none => rw [e] at h; cases h
  | some p =>
    obtain ⟨y, k'⟩ := p
    rw [e] at h
    simp only [Option.map_some, Option.some.injEq] at h
    split at h
    · rename_i hc
      simp only [Bool.and_true, Bool.and_eq_true] at hc
      cases h
      exact ⟨k', rfl, .inr ⟨rfl, eq_of_beq hc.1⟩⟩
    · cases h; exact ⟨_, rfl, .inl rfl⟩
theorem rl_map (ns inner : List (Str × NameKind)) : (rl ns inner).map (·.1) = inner.map (·.1) := by
  unfold rl
  rw [List.map_map]
  apply List.map_congr_left
  intro p _
  obtain ⟨y, k⟩ := p
  simp only [Function.comp]
  split <;> rfl

theorem scOk_facts {ns : List (Str × NameKind)} {sc : Scope} {x : Str} (h : scOk ns sc x = true) : sc.kind = .function ∧ (sc.names.map (·.1)).Nodup ∧ sc.names.lookup x = some .local ∧ (∀ p ∈ sc.names, p.2 ≠ .cell) ∧ (∀ p ∈ sc.names, p.1 ≠ ("__classdict__" : Str)) ∧
    (∀ p ∈ sc.names, p.2 = .free → ns.lookup p.1 = some .cell ∨ ns.lookup p.1 = some .free) := by
  unfold scOk at h
  simp only [Bool.and_eq_true, decide_eq_true_eq, beq_iff_eq, List.all_eq_true, bne_iff_ne, Bool.or_eq_true] at h
  obtain ⟨⟨⟨h1, h2⟩, h3⟩, h4⟩ := h
  refine ⟨h1, h2, h3, fun p hp => (h4 p hp).1.1, fun p hp => (h4 p hp).1.2, fun p hp e => ?_⟩
  rcases (h4 p hp).2 with (q | q) | q
  · exact absurd e q
  · exact .inl q
  · exact .inr q

/-- the environment of a comprehension's block -/
theorem compEnv_ok (K : EnvOK W env cs) {sc : Scope} {x : Str} (h : scOk env.scope.names sc x = true) (C : Addr) :
    EnvOK W (compEnvC sc (clOf env.scope.names cs sc.names []) C env) ((sc.names.map fun p => place env.scope.names p.1).map (nthA cs)) := by
  obtain ⟨h1, h2, h3, h4, h5, h6⟩ := scOk_facts h
  refine ⟨h1, K.glob, K.bts, ?_, ?_, fun P hP => ?_⟩
  rotate_right 1
  · exfalso
    have e : (compEnvC sc (clOf env.scope.names cs sc.names []) C env).scope.names.length = sc.names.length := by
      show (relabel sc env).names.length = _
      rw [rl_names K]; unfold rl; rw [List.length_map]
    rw [e, List.getElem?_eq_none (by simp)] at hP; cases hP
  · show ((relabel sc env).names.map (·.1)).Nodup
    rw [rl_names K, rl_map]; exact h2
  · intro i y k hi hk
    have hi' : (rl env.scope.names sc.names)[i]? = some (y, k) := by rw [← rl_names K]; exact hi
    obtain ⟨k', e, hk'⟩ := rl_get hi'
    have hfree : k' = .free := by
      rcases hk' with rfl | ⟨_, e'⟩
      · rcases hk with rfl | rfl
        · exact absurd rfl (h4 _ (List.mem_of_getElem? e))
        · rfl
      · exact e'
    subst hfree
    refine ⟨?_, h5 _ (List.mem_of_getElem? e)⟩
    show (clOf env.scope.names cs sc.names []).lookup y = _
    rw [clOf_lookup (cs := cs) sc.names [] (.inr (List.mem_of_getElem? e)) (fun p hp => nomatch hp)]
    congr 1
    rw [List.getD_eq_getElem?_getD, List.getElem?_map, List.getElem?_map, e]; rfl
end Mine

end
section -- F12
namespace Mine
variable {W : Wd} {n : Nat} {gl : Str → Option V} {env : Env} {cs : List Addr} {fr : List V} {σ : St} {A : Around} {s s' : Shared} {L : Addr → Prop}

theorem folded_ok {it : PySem.Expr} (h : noSet it = true) : ∀ x, foldedSetIterable it env x = pure x := by
  intro x; cases it <;> first | rfl | cases h

theorem frame_one {ns : List (Str × NameKind)} {x : Str} {v : Value} {m : Str → Option Value} (hn : (ns.map (·.1)).Nodup) (hx : ns.lookup x = some .local) (k : Nat) :
    FrameR ns (setN (undefs k) (place ns x) (ab v)) (fun y => if y = x then some v else m y) := by
  intro i y hi hu
  rw [setN_eq] at hu ⊢
  have hund : ∀ k j, (undefs k).getD j V.undef = V.undef := fun k => by
    induction k with
    | zero => intro j; rfl
    | succ k ih => intro j; cases j with
      | zero => rfl
      | succ j => simpa [undefs] using ih j
  by_cases e : i = place ns x
  · have h1 := place_of hx
    rw [← e, hi] at h1
    have : y = x := by simpa using h1
    subst this
    refine ⟨v, by simp, ?_⟩
    rw [List.getD_eq_getElem?_getD, List.getElem?_set] at hu ⊢
    rw [if_pos e.symm] at hu ⊢
    split
    · rfl
    · rename_i hlt; rw [if_neg hlt] at hu; exact absurd rfl hu
  · exfalso
    apply hu
    rw [List.getD_eq_getElem?_getD, List.getElem?_set_ne (fun q => e q.symm), ← List.getD_eq_getElem?_getD]
    exact hund _ _

theorem comp_run {elt it : PySem.Expr} {ifs : List PySem.Expr} {x : Str} {px pos pos' : Pos} {sc : Scope} {use : Option (Value → Sem Unit)} {Z : Value → Shared → Prop} {Q : V → St → Prop}
    (hit : SndE W gl it) (hifs : ∀ c ∈ ifs, SndT W gl c) (helt : SndE W gl elt) (K : EnvOK W env cs) (R : Room n A) (r : Rel W.H A env σ fr s)
    (hsc : scOk env.scope.names sc x = true) (hns : noSet it = true)
    (h : xW W n (.comp sc.names.length (sc.names.map fun p => place env.scope.names p.1) (er gl env.scope.names it) (place (rl env.scope.names sc.names) x) (erAnd gl (rl env.scope.names sc.names) ifs) (er gl (rl env.scope.names sc.names) elt)) cs fr σ Q)
    (hZ : ∀ D C s' σ', Q (.ref D) σ' → RelG W.H σ' s' → Stp No σ s σ' s' → (∃ m, s'.heap.Ns C m) → σ' C = none → W.H.get? C = none → s.heap.get? C = none → compPost W.M A NoE use Z (.ref D) C (.ok .next) s') :
    wpAny W.M A (comprehension (.ListComp elt [⟨.Name x px, it, ifs, 0⟩] sc pos) sc env pos' (newList []) false (eval it env) use) Z NoE s := by
  obtain ⟨k1, k2, k3, k4, k5, k6⟩ := scOk_facts hsc
  have hnames : ∀ y ∈ sc.names, y.2 = .local → sc.names.lookup y.1 = some .local := fun y hy hl => by
    obtain ⟨i, hi⟩ := List.getElem?_of_mem hy
    obtain ⟨z, k⟩ := y
    simp only at hl; subst hl
    exact (nodup_lookup k2 hi).1
  refine wpAny_comprehension_free (g := ⟨.Name x px, it, ifs, 0⟩) rfl (folded_ok hns) (closureFor_ok (cl := clOf env.scope.names cs) K (fun _ => rfl) (fun _ _ _ => rfl) k6) k1 hnames ?_
  simp only [x_bad, x_con, x_loc, x_cel, x_bin, x_neg, x_not, x_and, x_or, x_cmp, x_cmp2, x_ife, x_call, x_bcall, x_meth, x_sub, x_sl, x_lst, x_tup, x_comp] at h
  refine wpAny_mono (hit _ _ _ _ _ _ K h A s R r) (fun xv s1 p1 => ?_) fun _ _ x => x
  obtain ⟨σ1, h1, g1, t1⟩ := p1
  have r1 := r.step g1 t1
  refine iter_ok R g1 h1 rfl fun I fp xs chk S h' itr hK hS0 hI hfm hfa hkeep _ => ?_
  obtain ⟨hxl, hK⟩ := hK
  -- the state behind iter()
  generalize hs2 : ({ s1 with heap := h' } : Shared) = s2
  have hs2h : s2.heap = h' := by rw [← hs2]
  have g2 : RelG W.H σ1 s2 := g1.ext (by rw [hs2h]; exact hkeep)
  have t2 : Stp No σ1 s1 σ1 s2 := .ext (by rw [hs2h]; exact hkeep) ⟨h', s1.toks, hs2.symm⟩
  refine wpAny_newObj_type (wpAny_newFunctionEnv k4 (by intro y hy; simp at hy) (fun h₁ hns₁ hsb₁ => ?_) k1)
  dsimp only at hns₁ hsb₁ ⊢
  generalize hD : s2.heap.objs.size = D at hns₁ hsb₁ ⊢
  generalize hH2 : s2.heap.push { cls := .type "list", dict := none, data := .seq ([] : List Value).toArray } = H2 at hns₁ hsb₁ ⊢
  generalize hC : H2.objs.size = C at hns₁ hsb₁ ⊢
  have hCD : C = D + 1 := by rw [← hC, ← hH2, Heap.size_push, hD]
  have hDC : D ≠ C := by omega
  have below : ∀ b o, s2.heap.get? b = some o → b ≠ C ∧ b ≠ D := fun b o e => by
    have hlt := Heap.lt_size e
    rw [hD] at hlt
    exact ⟨by rw [hCD]; exact Nat.ne_of_lt (Nat.lt_succ_of_lt hlt), Nat.ne_of_lt hlt⟩
  have old : ∀ b o, s2.heap.get? b = some o → h₁.get? b = some o := fun b o e =>
    hsb₁.extBut b o (below b o e).1 (Heap.get?_push_of_some _ (hH2 ▸ Heap.get?_push_of_some _ e))
  have hacc : h₁.PlainList D #[] := ⟨_, hsb₁.extBut _ _ hDC (Heap.get?_push_of_some _ (hH2 ▸ hD ▸ Heap.get?_push_size _ rfl))⟩
  have hDn : s2.heap.get? D = none := by rw [← hD]; exact get_size _
  have hCn : s2.heap.get? C = none := by
    cases e : s2.heap.get? C with
    | none => rfl
    | some o => exact absurd rfl (below C o e).1
  have hIs2 : ∃ o, s2.heap.get? I = some o := by rw [hs2h]; exact itr.alive 0 h' hS0 I itr.mem
  have hID : I ≠ D := by obtain ⟨o, e⟩ := hIs2; exact (below I o e).2
  have hIC : I ≠ C := by obtain ⟨o, e⟩ := hIs2; exact (below I o e).1
  have up2 : ∀ b, s2.heap.get? b = none → s1.heap.get? b = none := fun b e => by
    cases q : s1.heap.get? b with
    | none => rfl
    | some o => have := hkeep b o q; rw [← hs2h] at this; rw [e] at this; cases this
  have up1 : ∀ b, s1.heap.get? b = none → s.heap.get? b = none := fun b e => by
    cases q : s.heap.get? b with
    | none => rfl
    | some o => obtain ⟨o', q'⟩ := t1.alive b o q; rw [e] at q'; cases q'
  let Lh : Addr → Prop := fun b => b = I ∨ b = D ∨ b = C
  have hidσ : ∀ b, Lh b → σ1 b = none ∧ W.H.get? b = none := by
    rintro b (rfl | rfl | rfl)
    · exact ⟨g1.fresh hI, g1.offbase hI⟩
    · exact ⟨g2.fresh hDn, g2.offbase hDn⟩
    · exact ⟨g2.fresh hCn, g2.offbase hCn⟩
  have hid1 : ∀ b, Lh b → s1.heap.get? b = none := by
    rintro b (rfl | rfl | rfl)
    · exact hI
    · exact up2 _ hDn
    · exact up2 _ hCn
  have Kc := compEnv_ok K hsc C
  have castT : ∀ cs' fr' σ' Q', tW W n (erAnd gl (rl env.scope.names sc.names) ifs) cs' fr' σ' Q' → tW W n (erAnd gl (compEnvC sc (clOf env.scope.names cs sc.names []) C env).scope.names ifs) cs' fr' σ' Q' := fun cs' fr' σ' Q' hb => by
    rw [show (compEnvC sc (clOf env.scope.names cs sc.names []) C env).scope.names = rl env.scope.names sc.names from rl_names K sc]; exact hb
  have castX : ∀ cs' fr' σ' Q', xW W n (er gl (rl env.scope.names sc.names) elt) cs' fr' σ' Q' → xW W n (er gl (compEnvC sc (clOf env.scope.names cs sc.names []) C env).scope.names elt) cs' fr' σ' Q' := fun cs' fr' σ' Q' hb => by
    rw [show (compEnvC sc (clOf env.scope.names cs sc.names []) C env).scope.names = rl env.scope.names sc.names from rl_names K sc]; exact hb
  have hxl' : (relabel sc env).names.lookup x = some .local := lookup_relabel_local k3
  have hxr : (rl env.scope.names sc.names).lookup x = some .local := by rw [← rl_names K]; exact hxl'
  -- the invariant
  let Inv : Nat → Shared → Prop := fun k s' => ∃ i σ' acc itD m, k = xs.length + 1 - i ∧ i ≤ xs.length ∧
    compW chk (fun x' σ2 k => tW W n (erAnd gl (rl env.scope.names sc.names) ifs) ((sc.names.map fun p => place env.scope.names p.1).map (nthA cs)) (setN (undefs sc.names.length) (place (rl env.scope.names sc.names) x) x') σ2 fun c σ3 =>
        if c = true then xW W n (er gl (rl env.scope.names sc.names) elt) ((sc.names.map fun p => place env.scope.names p.1).map (nthA cs)) (setN (undefs sc.names.length) (place (rl env.scope.names sc.names) x) x') σ3 fun y σ4 => k (some y) σ4 else k none σ3)
      (xs.drop i) acc σ' (fun ys σ5 => alW σ5 (.lst ys) Q) ∧
    RelG W.H σ' s' ∧ Stp Lh σ1 s1 σ' s' ∧ S i s'.heap ∧ s'.heap.PlainList D itD ∧ itD.toList.map ab = acc ∧ acc.length ≤ i ∧ s'.heap.Ns C m ∧ σ' I = none ∧ σ' D = none ∧ σ' C = none ∧ (∀ b ∈ fp, NoMut σ' b)
  have hDf : D ∉ fp := fun hm => by
    rcases hfa D hm with e | ⟨o, e⟩
    · exact hID e.symm
    · rw [g2.fresh hDn] at e; cases e
  have hCf : C ∉ fp := fun hm => by
    rcases hfa C hm with e | ⟨o, e⟩
    · exact hIC e.symm
    · rw [g2.fresh hCn] at e; cases e
  have loop : ∀ s₃ : Shared, s₃ = { s2 with heap := h₁, toks := s2.toks + ([] : List (Str × Value)).length } →
      codeAny W.M A (.compLoop (.ListComp elt [⟨.Name x px, it, ifs, 0⟩] sc pos) 0 (.ref I) (.ref D) (compEnvC sc (clOf env.scope.names cs sc.names []) C env)) (compPost W.M A NoE use Z (.ref D) C) s₃ := by
    intro s3 hs3
    have hs3h : s3.heap = h₁ := by rw [hs3]
    refine codeAny_compLoop_tests Inv ?_ (xs.length + 1) ?_
    · rintro k s' ⟨i, σ', acc, itD, m, rfl, hi, hcw, g', t', hS, hpl, hma, hal, hn, hσI, hσD, hσC, hnm⟩
      by_cases hlt : i < xs.length
      · -- a turn
        have hdrop : xs.drop i = nth xs i :: xs.drop (i + 1) := by
          rw [nth_eq, List.getD_eq_getElem?_getD, List.getElem?_eq_getElem hlt]
          exact List.drop_eq_getElem_cons hlt
        rw [hdrop] at hcw
        obtain ⟨hchk, hbod⟩ := hcw
        refine itr.item i s' σ' _ _ hlt hS g' hchk fun v h4 tk hv hS4 hk4 => ?_
        -- store x
        have hn4 : h4.Ns C m := hn.at' fun o e => hk4 C o (fun q => hIC q.symm) e
        refine wpAny_assign_Name (wpAny_storeName_local (env := compEnvC sc (clOf env.scope.names cs sc.names []) C env) hxl' hn4 (fun h5 hn5 hs5 => ?_) (by show ((relabel sc env).kind == .class || ((relabel sc env).kind == .module && _)) = false; rw [show (relabel sc env).kind = .function from k1]; rfl))
        dsimp only
        generalize hs5' : ({ s' with heap := h5, toks := tk + 1 } : Shared) = s5
        have hs5h : s5.heap = h5 := by rw [← hs5']
        have keep5 : ∀ b o, ¬ Lh b → s'.heap.get? b = some o → s5.heap.get? b = some o := fun b o hb e => by
          rw [hs5h]
          exact (hs5.2 b fun q => hb (.inr (.inr q))).trans (hk4 b o (fun q => hb (.inl q)) e)
        have hid' : ∀ b, Lh b → σ' b = none ∧ W.H.get? b = none := by
          rintro b (rfl | rfl | rfl)
          · exact ⟨hσI, (hidσ _ (.inl rfl)).2⟩
          · exact ⟨hσD, (hidσ _ (.inr (.inl rfl))).2⟩
          · exact ⟨hσC, (hidσ _ (.inr (.inr rfl))).2⟩
        have hS5 : S (i + 1) h5 := itr.frame _ _ _ hS4 fun b hb o e => hs5.extBut b o (fun q => hCf (show C ∈ fp from (show b = C from q) ▸ hb)) e
        have hpl5 : h5.PlainList D itD := hpl.at fun o e => hs5.extBut D o hDC (hk4 D o (fun q => hID q.symm) e)
        have g5 : RelG W.H σ' s5 := g'.hidden hid' keep5
        have t5 : Stp Lh σ' s' σ' s5 := .hidden keep5 (fun b o hb e => by
          rw [hs5h]
          rcases hb with rfl | rfl | rfl
          · exact itr.alive _ _ hS5 b itr.mem
          · obtain ⟨q, e'⟩ := hpl5; exact ⟨_, e'⟩
          · obtain ⟨o', _, _, e', _⟩ := hn5; exact ⟨_, e'⟩) ⟨h5, _, by rw [← hs5']⟩
        have rel5 : Rel W.H A (compEnvC sc (clOf env.scope.names cs sc.names []) C env) σ' (setN (undefs sc.names.length) (place (rl env.scope.names sc.names) x) (nth xs i)) s5 := by
          refine ⟨g5, ⟨_, hs5h ▸ hn5, ?_⟩, hσC, (hidσ _ (.inr (.inr rfl))).2, r1.frs.step ((t'.trans t5).shown hid1)⟩
          show FrameR (relabel sc env).names _ _
          rw [rl_names K, ← hv]
          exact frame_one (by rw [rl_map]; exact k2) hxr _
        have hbod' := castT _ _ _ _ hbod
        refine wpAny_mono (tests_ok ifs hifs _ _ _ _ _ _ Kc hbod' A s5 R rel5) (fun c s6 p6 => ?_) fun _ _ x => x.elim
        obtain ⟨σ6, h6, g6, t6⟩ := p6
        have rel6 := rel5.step g6 t6
        have aliveAll5 : ∀ b ∈ fp, ∃ o, s5.heap.get? b = some o := fun b hb => by rw [hs5h]; exact itr.alive _ _ hS5 b hb
        have hnm5 : ∀ b ∈ fp, NoMut σ6 b := fun b hb => by obtain ⟨o, e⟩ := aliveAll5 b hb; exact t6.nomut (hnm b hb) e
        have hS6 : S (i + 1) s6.heap := itr.frame _ _ _ hS5 fun b hb o e => t6.keep b o (by rw [hs5h]; exact e) (hnm b hb) id (itr.nd _ _ hS5 b hb o e)
        have hoI6 : σ6 I = none := by obtain ⟨o, e⟩ := aliveAll5 I itr.mem; exact t6.off hσI e
        have hpl6 : s6.heap.PlainList D itD := hpl5.at fun o e => t6.keep D o (by rw [hs5h]; exact e) (fun y hy => by rw [hσD] at hy; cases hy) id (fun es n q => by obtain ⟨k, e'⟩ := hpl5; rw [e'] at e; cases e; cases q)
        have hoD6 : σ6 D = none := by obtain ⟨q, e⟩ := hpl5; exact t6.off hσD (by rw [hs5h]; exact e)
        obtain ⟨m6, hn6, _⟩ := rel6.ns
        have tt6 : Stp Lh σ1 s1 σ6 s6 := (t'.trans t5).trans (t6.weak fun _ q => q.elim)
        cases c with
        | false =>
          simp only [Bool.false_eq_true, if_false] at h6 ⊢
          exact ⟨xs.length + 1 - (i + 1), by omega, i + 1, σ6, acc, itD, m6, rfl, hlt, by simpa using h6, g6, tt6, hS6, hpl6, hma, by omega, hn6, hoI6, hoD6, rel6.off, hnm5⟩
        | true =>
          simp only [if_true] at h6 ⊢
          have h6' := castX _ _ _ _ h6
          refine wpAny_mono (helt _ _ _ _ _ _ Kc h6' A s6 R rel6) (fun y s7 p7 => ?_) fun _ _ x => x.elim
          obtain ⟨σ7, h7, g7, t7⟩ := p7
          have rel7 := rel6.step g7 t7
          have aliveAll6 : ∀ b ∈ fp, ∃ o, s6.heap.get? b = some o := fun b hb => itr.alive _ _ hS6 b hb
          have hnm7 : ∀ b ∈ fp, NoMut σ7 b := fun b hb => by obtain ⟨o, e⟩ := aliveAll6 b hb; exact t7.nomut (hnm5 b hb) e
          have hS7 : S (i + 1) s7.heap := itr.frame _ _ _ hS6 fun b hb o e => t7.keep b o e (hnm5 b hb) id (itr.nd _ _ hS6 b hb o e)
          have hoI7 : σ7 I = none := by obtain ⟨o, e⟩ := aliveAll6 I itr.mem; exact t7.off hoI6 e
          have hpl7 : s7.heap.PlainList D itD := hpl6.at fun o e => t7.keep D o e (fun y hy => by rw [hoD6] at hy; cases hy) id (fun es n q => by obtain ⟨k, e'⟩ := hpl6; rw [e'] at e; cases e; cases q)
          have hoD7 : σ7 D = none := by obtain ⟨q, e⟩ := hpl6; exact t7.off hoD6 e
          have hsz : itD.size ≤ lim := by
            have : acc.length = itD.size := by rw [← hma]; simp
            omega
          refine wpAny_list_append_plain hpl7 (fun h8 hpl8 hs8 => ?_) (Nat.le_trans hsz lim_le)
          generalize hs8' : ({ s7 with heap := h8 } : Shared) = s8
          have hs8h : s8.heap = h8 := by rw [← hs8']
          have keep8 : ∀ b o, ¬ Lh b → s7.heap.get? b = some o → s8.heap.get? b = some o := fun b o hb e => by
            rw [hs8h]; exact (hs8.2 b fun q => hb (.inr (.inl q))).trans e
          have hid7 : ∀ b, Lh b → σ7 b = none ∧ W.H.get? b = none := by
            rintro b (rfl | rfl | rfl)
            · exact ⟨hoI7, (hidσ _ (.inl rfl)).2⟩
            · exact ⟨hoD7, (hidσ _ (.inr (.inl rfl))).2⟩
            · exact ⟨rel7.off, (hidσ _ (.inr (.inr rfl))).2⟩
          have hS8 : S (i + 1) h8 := itr.frame _ _ _ hS7 fun b hb o e => hs8.extBut b o (fun q => hDf (q ▸ hb)) e
          obtain ⟨m7, hn7, _⟩ := rel7.ns
          have hn8 : h8.Ns C m7 := Heap.Ns.sameBut (show s7.heap.Ns C m7 from hn7) hs8 (fun q => hDC q.symm)
          have g8 : RelG W.H σ7 s8 := g7.hidden hid7 keep8
          have t8 : Stp Lh σ7 s7 σ7 s8 := .hidden keep8 (fun b o hb e => by
            rw [hs8h]
            rcases hb with rfl | rfl | rfl
            · exact itr.alive _ _ hS8 b itr.mem
            · obtain ⟨q, e'⟩ := hpl8; exact ⟨_, e'⟩
            · obtain ⟨o', _, _, e', _⟩ := hn8; exact ⟨_, e'⟩) ⟨h8, s7.toks, by rw [← hs8']⟩
          exact ⟨xs.length + 1 - (i + 1), by omega, i + 1, σ7, acc ++ [ab y], itD.push y, m7, rfl, hlt, by simpa using h7, g8, (tt6.trans (t7.weak fun _ q => q.elim)).trans t8, hs8h ▸ hS8, hs8h ▸ hpl8,
            by simp [hma], by simp; omega, hs8h ▸ hn8, hoI7, hoD7, rel7.off, hnm7⟩
      · -- the end
        have hin : i = xs.length := by omega
        subst hin
        rw [List.drop_of_length_le (Nat.le_refl _)] at hcw
        obtain ⟨hchk, hfin⟩ := hcw
        refine itr.done s' σ' _ _ hS g' hchk fun h4 tk hk4 => ?_
        generalize hs4 : ({ s' with heap := h4, toks := tk } : Shared) = s4
        have hs4h : s4.heap = h4 := by rw [← hs4]
        have hpl4 : h4.PlainList D itD := hpl.at fun o e => hk4 D o (fun q => hID q.symm) e
        have hn4 : h4.Ns C m := hn.at' fun o e => hk4 C o (fun q => hIC q.symm) e
        have keepO : ∀ b o, b ≠ I → s'.heap.get? b = some o → s4.heap.get? b = some o := fun b o hb e => by rw [hs4h]; exact hk4 b o hb e
        -- the whole
        have hoD : ObjR s4.heap D (.lst acc) := ⟨itD, hs4h ▸ hpl4, hma, by omega⟩
        have g4 : RelG W.H σ' s4 := g'.hidden (L := fun b => b = I) (fun b hb => by subst hb; exact ⟨hσI, (hidσ _ (.inl rfl)).2⟩) keepO
        have gF : RelG W.H (σ'.set D (.lst acc)) s4 := by
          refine ⟨g4.base, fun b z e => ?_, fun b z e hz => ?_⟩
          · by_cases hb : b = D
            · subst hb; rw [St.set_same] at e; cases e; exact hoD
            · rw [St.set_other _ _ hb] at e; exact g4.objs b z e
          · by_cases hb : b = D
            · subst hb; exact (hidσ _ (.inr (.inl rfl))).2
            · rw [St.set_other _ _ hb] at e; exact g4.own b z e hz
        have tF : Stp No σ s (σ'.set D (.lst acc)) s4 := by
          refine t1.trans ?_
          refine ⟨fun b o e hm _ hd => ?_, fun b o e hm _ => ?_, fun b z e => ?_, fun b o e => ?_, ?_⟩
          · have hb : ¬ Lh b := fun q => by rw [hid1 b q] at e; cases e
            exact keepO b o (fun q => hb (.inl q)) (t'.keep b o e hm hb hd)
          · have hb : ¬ Lh b := fun q => by rw [hid1 b q] at e; cases e
            obtain ⟨sl, e'⟩ := t'.look b o e hm hb
            exact ⟨sl, keepO b _ (fun q => hb (.inl q)) e'⟩
          · by_cases hb : b = D
            · subst hb; exact .inr (hid1 _ (.inr (.inl rfl)))
            · rw [St.set_other _ _ hb] at e; exact t'.dom b z e
          · obtain ⟨o', e'⟩ := t'.alive b o e
            exact ⟨o', keepO b o' (fun q => by subst q; rw [hI] at e; cases e) e'⟩
          · obtain ⟨hh, tt, e⟩ := t'.rest
            exact ⟨h4, tk, by rw [← hs4, e]⟩
        refine hZ D C s4 _ (hfin D hσD) gF tF ⟨m, hs4h ▸ hn4⟩ ?_ (hidσ _ (.inr (.inr rfl))).2 (up1 _ (up2 _ hCn))
        rw [St.set_other _ _ (fun q => hDC q.symm)]; exact hσC
    · -- the start
      refine ⟨0, σ1, [], #[], _, by omega, Nat.zero_le _, by simpa using hK, ?_, ?_, ?_, hs3h ▸ hacc, rfl, Nat.le_refl _, hs3h ▸ hns₁, (hidσ _ (.inl rfl)).1, (hidσ _ (.inr (.inl rfl))).1, (hidσ _ (.inr (.inr rfl))).1, hfm⟩
      · exact g2.ext (by rw [hs3h]; exact old)
      · have e1 : ∀ b o, s1.heap.get? b = some o → s3.heap.get? b = some o := fun b o e => by rw [hs3h]; exact old b o (by rw [hs2h]; exact hkeep b o e)
        exact (Stp.ext (L := Lh) e1 ⟨h₁, s3.toks, by rw [hs3, ← hs2]⟩)
      · rw [hs3h]; exact itr.frame _ _ _ hS0 fun b _ o e => old b o (by rw [hs2h]; exact e)
  exact codeAny_compStart_list (loop _ rfl) (itr.self 0 _ _ _ (itr.frame _ _ _ hS0 fun b _ o e => old b o (by rw [hs2h]; exact e)) (loop _ rfl))
end Mine

end
section -- F13
namespace Mine
variable {W : Wd} {n : Nat} {gl : Str → Option V} {env : Env} {cs : List Addr} {fr : List V} {σ : St} {A : Around} {s s' : Shared} {L : Addr → Prop}

/-- a new object besides is changed -/
theorem Stp.sameBut {σ' : St} {C : Addr} {h' : Heap} (t : Stp L σ s σ' s') (hC : s.heap.get? C = none) (hs : Heap.SameBut C s'.heap h') : Stp L σ s σ' { s' with heap := h' } :=
  ⟨fun b o e hm hl hd => (hs.2 b fun q => (by subst q; rw [hC] at e; cases e)).trans (t.keep b o e hm hl hd),
   fun b o e hm hl => let ⟨sl, e'⟩ := t.look b o e hm hl; ⟨sl, (hs.2 b fun q => (by subst q; rw [hC] at e; cases e)).trans e'⟩, t.dom,
   fun b o e => let ⟨o', e'⟩ := t.alive b o e; ⟨o', (hs.2 b fun q => (by subst q; rw [hC] at e; cases e)).trans e'⟩,
   let ⟨h, tk, e⟩ := t.rest; ⟨h', tk, by rw [e]⟩⟩
theorem snd_comp {elt it : PySem.Expr} {a : Int} {ifs : List PySem.Expr} {x : Str} {px pos : Pos} {sc : Scope} (hit : SndE W gl it) (hifs : ∀ c ∈ ifs, SndT W gl c) (helt : SndE W gl elt) :
    SndE W gl (.ListComp elt [⟨.Name x px, it, ifs, a⟩] sc pos) := by
  intro n env cs fr σ Q K h A s R r
  simp only [e_none, e_bool, e_int, e_str, e_name, e_bin, e_not, e_neg, e_and, e_or, e_ife, e_list, e_tuple, e_cmp1, e_cmp2, e_meth, e_slice, e_comp] at h
  split at h
  · rename_i hc
    simp only [Bool.and_eq_true, decide_eq_true_eq] at hc
    obtain ⟨ha0, hc⟩ := hc
    subst ha0
    rw [eval_ListComp]
    refine comp_run hit hifs helt K R r hc.1 hc.2 h fun D C s' σ' hq g t hns hσC hHC hsC => ?_
    obtain ⟨m, hn⟩ := hns
    refine ⟨m, hn, fun h' hs' => ⟨σ', hq, ?_, ?_⟩⟩
    · exact g.hidden (L := fun b => b = C) (fun b hb => by subst hb; exact ⟨hσC, hHC⟩) fun b o hb e => (hs'.2 b hb).trans e
    · exact t.sameBut hsC hs'
  · exact h.elim

theorem star_plain {pos : Pos} : ∀ {es : List PySem.Expr}, es.all plainE = true → (backTo pos (starEach es env)).all (fun x => !x.1) = true ∧ (backTo pos (starEach es env)).any (·.1) = false ∧ (backTo pos (starEach es env) = [] ∨ ∃ x rest, backTo pos (starEach es env) = (false, x) :: rest)
  | [], _ => ⟨rfl, rfl, .inl rfl⟩
  | e :: r, h => by
    simp only [List.all_cons, Bool.and_eq_true] at h
    obtain ⟨a, b, _⟩ := star_plain (es := r) (pos := pos) h.2
    have e1 : backTo pos (starEach (e :: r) env) = (false, eval e env) :: backTo pos (starEach r env) := by
      cases e <;> first | rfl | simp [plainE] at h
    rw [e1]
    exact ⟨by simp [a], by simp [b], .inr ⟨_, _, rfl⟩⟩
theorem evalArgs_ok {M : Model} {E : Value → Shared → Prop} {f : Value} {args : List (Bool × Sem Value)} {kws : List (Option Str × Sem Value)} {Q : Args → Shared → Prop} (ha : args = [] ∨ ∃ x rest, args = (false, x) :: rest) (hk : kws.all (·.1.isSome) = true)
    (h : wpAny M A (spliced args) (fun vs s1 => wpAny M A (evalAll (kws.map (·.2))) (fun ks s2 => Q ⟨vs, (kws.filterMap (·.1)).zip ks⟩ s2) E s1) E s) : wpAny M A (evalArgs f true args kws) Q E s := by
  unfold evalArgs
  rcases ha with rfl | ⟨x, rest, rfl⟩
  · show wpAny M A (spliced [] >>= _) Q E s
    refine wpAny_bind (wpAny_mono h (fun vs s1 h1 => wpAny_bind (wpAny_pure (wpAny_holding ?_))) fun _ _ x => x)
    simp only [hk, if_true]
    exact wpAny_bind (wpAny_mono h1 (fun ks s2 h2 => wpAny_bind (wpAny_pure (wpAny_pure h2))) fun _ _ x => x)
  · show wpAny M A (spliced ((false, x) :: rest) >>= _) Q E s
    refine wpAny_bind (wpAny_mono h (fun vs s1 h1 => wpAny_bind (wpAny_pure (wpAny_holding ?_))) fun _ _ x => x)
    simp only [hk, if_true]
    exact wpAny_bind (wpAny_mono h1 (fun ks s2 h2 => wpAny_bind (wpAny_pure (wpAny_pure h2))) fun _ _ x => x)

theorem snd_kws {pos : Pos} : ∀ (ks : List Keyword), (∀ k ∈ ks, SndE W gl k.value) → ∀ n env cs fr σ (Q : List V → St → Prop), EnvOK W env cs → lW W n (erK gl env.scope.names ks) cs fr σ Q →
    ∀ A s, Room n A → Rel W.H A env σ fr s → wpAny W.M A (evalAll ((backToKw pos (keywordEach ks env)).map (·.2))) (PostA W.H No σ s fun vs => Q (vs.map ab)) NoE s
  | [], _ => fun n env cs fr σ Q K h A s R r => wpAny_pure (.here r.toRelG (by simpa [ek_nil, ek_cons, l_nil, l_cons, l_bad] using h))
  | ⟨nm, e, p⟩ :: rest, hs => fun n env cs fr σ Q K h A s R r => by
    simp only [ek_nil, ek_cons, l_nil, l_cons, l_bad] at h
    show wpAny W.M A (evalAll ((do let v ← eval e env; standAt pos; pure v) :: (backToKw pos (keywordEach rest env)).map (·.2))) _ _ s
    rw [evalAll]
    refine wpAny_bind (wpAny_bind (wpAny_mono (hs ⟨nm, e, p⟩ (List.mem_cons_self ..) _ _ _ _ _ _ K h A s R r) (fun v s1 p1 => ?_) fun _ _ x => x))
    obtain ⟨σ1, h1, g1, t1⟩ := p1
    refine wpAny_bind (wpAny_standAt (wpAny_pure (wpAny_bind (wpAny_holding (wpAny_mono (snd_kws rest (fun k hk => hs k (by simp [hk])) _ _ _ _ _ _ K h1 A s1 R (r.step g1 t1)) (fun vs s2 p2 => ?_) fun _ _ x => x)))))
    obtain ⟨σ2, h2, g2, t2⟩ := p2
    exact wpAny_pure ⟨σ2, by simpa using h2, g2, t1.trans t2⟩

theorem kw_names {pos : Pos} : ∀ (ks : List Keyword), (backToKw pos (keywordEach ks env)).filterMap (·.1) = ks.filterMap (·.arg) ∧ (backToKw pos (keywordEach ks env)).all (·.1.isSome) = (ks.map (·.arg)).all (·.isSome)
  | [] => ⟨rfl, rfl⟩
  | ⟨nm, e, p⟩ :: rest => by
    obtain ⟨a, b⟩ := kw_names rest (pos := pos)
    have e1 : backToKw pos (keywordEach (⟨nm, e, p⟩ :: rest) env) = (nm, do let v ← eval e env; standAt pos; pure v) :: backToKw pos (keywordEach rest env) := rfl
    rw [e1]
    constructor
    · rw [List.filterMap_cons, List.filterMap_cons, a]
    · rw [List.all_cons, List.map_cons, List.all_cons, b]

theorem keeper_fn {f : V} (h : isFnV W f σ) (r : RelG W.H σ s) {fv : Value} (hf : ab fv = f) : ∃ k, (k = Keeper.frame ∨ k = Keeper.machine ∨ k = Keeper.boundFrame) ∧ Looks W.M s.heap (keeperOf fv) k := by
  obtain ⟨a, rfl, h⟩ := h
  rw [ab_ref hf]
  have : ∃ o fd, s.heap.get? a = some o ∧ o.data = .func fd := by
    rcases h with ⟨fd, e⟩ | ⟨o, fd, e, hd⟩
    · obtain ⟨o, e1, e2⟩ := r.objs _ _ e; exact ⟨o, fd, e1, e2⟩
    · exact ⟨o, fd, r.base _ _ e, hd⟩
  obtain ⟨o, fd, e, hd⟩ := this
  obtain ⟨c, d, dt, sl⟩ := o
  simp only at hd; subst hd
  exact ⟨.frame, .inl rfl, (Looks.ld (part := none) e).andThen .now⟩

theorem biV_call {b : Bi} {pos : Pos} {args : List (Bool × Sem Value)} {Q : Value → Shared → Prop} (hp : args.any (·.1) = false)
    (h : wpAny W.M A (evalArgs (biV b) true args []) (fun a s1 => wpAny W.M A (call (biV b) a.pos a.kw) Q NoE s1) NoE s) : wpAny W.M A (callWith pos (biV b) [] args []) Q NoE s := by
  have hB : ∀ id, biV b = .builtin id → wpAny W.M A (callWith pos (biV b) [] args []) Q NoE s := fun id e => by
    rw [e] at h ⊢; exact Calls.callWith_builtin hp h
  have hT : ∀ id, biV b = .type id → wpAny W.M A (callWith pos (biV b) [] args []) Q NoE s := fun id e => by
    rw [e] at h ⊢; exact PySem.callWith_type hp h
  cases b
  · exact hB _ rfl
  · exact hB _ rfl
  · exact hB _ rfl
  · exact hB _ rfl
  · exact hB _ rfl
  · exact hB _ rfl
  · exact hT _ rfl
  · exact hT _ rfl
  · exact hT _ rfl
  · exact hB _ rfl
  · exact hT _ rfl
  · exact hB _ rfl
  · exact hT _ rfl
  · exact hT _ rfl
theorem biV_eq {v : Value} {b : Bi} (h : ab v = ab (biV b)) : v = biV b := by
  cases b <;> first | exact ab_bi h | exact ab_typ h

theorem snd_call {f : PySem.Expr} {args : List PySem.Expr} {ks : List Keyword} {pos : Pos} (hna : ∀ o nm p, f ≠ .Attribute o nm p) (hf : SndE W gl f) (ha : ∀ e ∈ args, SndE W gl e) (hk : ∀ k ∈ ks, SndE W gl k.value) : SndE W gl (.Call f args ks pos) := by
  intro n env cs fr σ Q K h A s R r
  have her : er gl env.scope.names (.Call f args ks pos) = if args.all plainE then callX (er gl env.scope.names f) (erL gl env.scope.names args) (ks.map fun k => k.arg) (erK gl env.scope.names ks) else .bad := by
    cases f <;> first | rfl | (exact absurd rfl (hna _ _ _))
  rw [her] at h
  split at h
  case isFalse => exact h.elim
  rename_i hpl
  obtain ⟨q1, q2, q3⟩ := star_plain (env := env) (pos := pos) hpl
  have hev : eval (.Call f args ks pos) env = (do callWith pos (← eval f env) [] (backTo pos (starEach args env)) (backToKw pos (keywordEach ks env))) := by
    cases f <;> first | rfl | (exact absurd rfl (hna _ _ _))
  rw [hev]
  have general : ∀ (kn : List Str), kn = ks.filterMap (·.arg) → (ks.map (·.arg)).all (·.isSome) = true →
      xW W n (.call (er gl env.scope.names f) (erL gl env.scope.names args) kn (erK gl env.scope.names ks)) cs fr σ Q →
      wpAny W.M A (do callWith pos (← eval f env) [] (backTo pos (starEach args env)) (backToKw pos (keywordEach ks env))) (PostA W.H No σ s fun v => Q (ab v)) NoE s := by
    intro kn hkn hall h
    simp only [x_bad, x_con, x_loc, x_cel, x_bin, x_neg, x_not, x_and, x_or, x_cmp, x_cmp2, x_ife, x_call, x_bcall, x_meth, x_sub, x_sl, x_lst, x_tup, x_comp] at h
    refine wpAny_bind (wpAny_mono (hf _ _ _ _ _ _ K h A s R r) (fun fv s1 p1 => ?_) fun _ _ x => x)
    obtain ⟨σ1, h1, g1, t1⟩ := p1
    obtain ⟨kn1, kn2⟩ := kw_names (env := env) (pos := pos) ks
    have hplain : ((backTo pos (starEach args env)).any (·.1) || (backToKw pos (keywordEach ks env)).any (·.1.isNone)) = false := by
      rw [q2, Bool.false_or]
      have h2 : (backToKw pos (keywordEach ks env)).all (·.1.isSome) = true := by rw [kn2]; exact hall
      rw [List.any_eq_false]
      intro x hx
      have := List.all_eq_true.mp h2 x hx
      cases q : x.1 with
      | none => rw [q] at this; cases this
      | some y => simp
    refine callWith_of (P := fun hp => ∃ σ' s', hp = s'.heap ∧ isFnV W (ab fv) σ' ∧ RelG W.H σ' s') hplain (fun hp ⟨σ', s', e, hfn, g⟩ => by rw [e]; exact keeper_fn hfn g rfl) ?_
    refine evalArgs_ok q3 (by rw [kn2]; exact hall) ?_
    refine wpAny_mono (snd_args args ha _ _ _ _ _ _ K h1 A s1 R (r.step g1 t1)) (fun vs s2 p2 => ?_) fun _ _ x => x
    obtain ⟨σ2, h2, g2, t2⟩ := p2
    have r2 := (r.step g1 t1).step g2 t2
    refine wpAny_mono (snd_kws ks hk _ _ _ _ _ _ K h2 A s2 R r2) (fun kvs s3 p3 => ?_) fun _ _ x => x
    obtain ⟨σ3, h3, g3, t3⟩ := p3
    refine ⟨⟨σ3, s3, rfl, h3.1, g3⟩, ?_⟩
    rw [kn1, ← hkn]
    exact wpAny_mono (h3.2 A s3 R g3 (r2.step g3 t3).frs fv vs kvs rfl rfl rfl) (fun _ _ p => PostA.trans ((t1.trans t2).trans t3) p) fun _ _ x => x
  unfold callX at h
  split at h
  · rename_i v hfx hks
    have hks' : ks = [] := by cases ks with | nil => rfl | cons _ _ => cases hks
    subst hks'
    split at h
    · rename_i b hb
      have hv := biOf_some hb
      simp only [x_bad, x_con, x_loc, x_cel, x_bin, x_neg, x_not, x_and, x_or, x_cmp, x_cmp2, x_ife, x_call, x_bcall, x_meth, x_sub, x_sl, x_lst, x_tup, x_comp] at h
      have hfE : xW W n (er gl env.scope.names f) cs fr σ (fun v' σ' => v' = v ∧ σ' = σ) := by rw [hfx]; exact ⟨rfl, rfl⟩
      refine wpAny_bind (wpAny_mono (hf _ _ _ _ _ _ K hfE A s R r) (fun fv s1 p1 => ?_) fun _ _ x => x)
      obtain ⟨σ1, ⟨e1, e2⟩, g1, t1⟩ := p1
      subst e2
      have e3 := biV_eq (e1.trans hv)
      subst e3
      refine biV_call q2 (evalArgs_ok q3 rfl ?_)
      refine wpAny_mono (snd_args args ha _ _ _ _ _ _ K h A s1 R (r.step g1 t1)) (fun vs s2 p2 => ?_) fun _ _ x => x
      obtain ⟨σ2, h2, g2, t2⟩ := p2
      refine wpAny_pure ?_
      exact wpAny_mono (bi_ok R g2 h2 rfl) (fun _ _ p => PostA.trans (t1.trans t2) p) fun _ _ x => x
    · exact general [] rfl rfl h
  · split at h
    · rename_i hall
      exact general _ (by rw [List.filterMap_map]; rfl) hall h
    · exact h.elim

theorem snd_meth {o : PySem.Expr} {name : Str} {ap pos : Pos} {args : List PySem.Expr} (ho : SndE W gl o) (ha : ∀ e ∈ args, SndE W gl e) : SndE W gl (.Call (.Attribute o name ap) args [] pos) := by
  intro n env cs fr σ Q K h A s R r
  simp only [e_none, e_bool, e_int, e_str, e_name, e_bin, e_not, e_neg, e_and, e_or, e_ife, e_list, e_tuple, e_cmp1, e_cmp2, e_meth, e_slice, e_comp] at h
  split at h
  · rename_i m hm hc
    simp only [Bool.and_eq_true, decide_eq_true_eq] at hc
    obtain ⟨⟨⟨c1, c2⟩, c3⟩, c4⟩ := hc
    have hn := meOf_some hm
    subst hn
    simp only [x_bad, x_con, x_loc, x_cel, x_bin, x_neg, x_not, x_and, x_or, x_cmp, x_cmp2, x_ife, x_call, x_bcall, x_meth, x_sub, x_sl, x_lst, x_tup, x_comp] at h
    obtain ⟨q1, q2, q3⟩ := star_plain (env := env) (pos := pos) c4
    refine wpAny_Call_method (T := "list") (by cases o <;> first | rfl | cases c1) (by
      rw [q1]; simp only [Bool.true_and]
      show (List.all [] _ && decide (args.length + 0 + 0 < 30)) = true
      simp; omega) c2 PySem.F.plainAttrs_list (meSlot m) (meType m) ?_
    refine wpAny_mono (ho _ _ _ _ _ _ K h A s R r) (fun ov s1 p1 => ?_) fun _ _ x => x
    obtain ⟨σ1, h1, g1, t1⟩ := p1
    obtain ⟨a, items, e, hσ, hl, hz, h1⟩ := mlistW_elim g1 h1
    have hov := ab_ref e
    subst hov
    refine ⟨hl.isList.typeIs, fun b hb => ?_, ?_⟩
    · cases hb; obtain ⟨c, hc⟩ := hl; exact ⟨_, hc, rfl⟩
    · refine Calls.callWith_builtin q2 (evalArgs_ok q3 rfl ?_)
      refine wpAny_mono (snd_args args ha _ _ _ _ _ _ K h1 A s1 R (r.step g1 t1)) (fun vs s2 p2 => ?_) fun _ _ x => x
      obtain ⟨σ2, h2, g2, t2⟩ := p2
      refine wpAny_pure ?_
      exact wpAny_mono (me_ok g2 h2 rfl rfl) (fun _ _ p => PostA.trans (t1.trans t2) p) fun _ _ x => x
  · exact h.elim

theorem tnd_plain {e : PySem.Expr} (he : SndE W gl e) (ht : ∀ (env : Env) cs fr σ n Q, tW W n (er gl env.scope.names e) cs fr σ Q → xW W n (er gl env.scope.names e) cs fr σ fun v σ' => truW v σ' Q)
    (hp : ∀ env whole, isTrue e env whole = (do let v ← whole; standAt e.pos; holding [v] (truthy v))) : SndT W gl e := by
  intro n env cs fr σ Q K h A s R r
  refine isTrue_plain ?_ (hp _ _)
  refine wpAny_mono (he _ _ _ _ _ _ K (ht _ _ _ _ _ _ h) A s R r) (fun v s1 p1 => ?_) fun _ _ x => x
  obtain ⟨σ1, h1, g1, t1⟩ := p1
  exact wpAny_mono (tru_ok g1 h1 rfl) (fun _ _ p => PostA.trans t1 p) fun _ _ x => x
theorem erName_shape (gl : Str → Option V) (ns : List (Str × NameKind)) (x : Str) : (∃ v, erName gl ns x = .con v) ∨ (∃ i, erName gl ns x = .loc i) ∨ (∃ i, erName gl ns x = .cel i) ∨ erName gl ns x = .bad := by
  unfold erName
  split
  · exact .inr (.inr (.inr rfl))
  · split
    · exact .inr (.inl ⟨_, rfl⟩)
    · exact .inr (.inr (.inl ⟨_, rfl⟩))
    · exact .inr (.inr (.inl ⟨_, rfl⟩))
    · split
      · exact .inl ⟨_, rfl⟩
      · exact .inr (.inr (.inr rfl))
    · exact .inr (.inr (.inr rfl))

/-- what a slice or an attribute hands to what stands around it -/
noncomputable def SubE (W : Wd) (gl : Str → Option V) : PySem.Expr → Prop
  | .Slice lo hi st _ => (∀ x ∈ lo, SndE W gl x) ∧ (∀ x ∈ hi, SndE W gl x) ∧ (∀ x ∈ st, SndE W gl x)
  | .Attribute o _ _ => SndE W gl o
  | _ => True
noncomputable def Snd (W : Wd) (gl : Str → Option V) (e : PySem.Expr) : Prop := SndE W gl e ∧ SndT W gl e ∧ SubE W gl e
theorem snd_bad {e : PySem.Expr} (h : ∀ ns, er gl ns e = .bad) : SndE W gl e ∧ SndT W gl e :=
  ⟨fun n env cs fr σ Q K q => by rw [h] at q; exact q.elim, fun n env cs fr σ Q K q => by rw [h] at q; exact q.elim⟩

theorem snd_sub {o i : PySem.Expr} {p : Pos} (ho : SndE W gl o) (hi : SndE W gl i) (hs : SubE W gl i) : SndE W gl (.Subscript o i p) ∧ SndT W gl (.Subscript o i p) := by
  by_cases hsl : ∃ lo hi st sp, i = .Slice lo hi st sp
  · obtain ⟨lo, hi', st, sp, rfl⟩ := hsl
    exact ⟨snd_slice ho hs.1 hs.2.1 hs.2.2, fun n env cs fr σ Q K h => by simp [e_none, e_bool, e_int, e_str, e_name, e_bin, e_not, e_neg, e_and, e_or, e_ife, e_list, e_tuple, e_cmp1, e_cmp2, e_meth, e_slice, e_comp, t_not, t_and, t_or, t_ife, t_cmp, t_cmp2, t_con, t_loc, t_call, t_bcall, t_sub, t_bad, t_cel, t_bin, t_neg, t_sl, t_lst, t_tup, t_comp, t_meth] at h⟩
  · have her : ∀ ns, er gl ns (.Subscript o i p) = .sub (er gl ns o) (er gl ns i) := fun ns => by
      cases i <;> first | rfl | exact absurd ⟨_, _, _, _, rfl⟩ hsl
    have hE : SndE W gl (.Subscript o i p) := by
      intro n env cs fr σ Q K h
      rw [her] at h
      simp only [x_bad, x_con, x_loc, x_cel, x_bin, x_neg, x_not, x_and, x_or, x_cmp, x_cmp2, x_ife, x_call, x_bcall, x_meth, x_sub, x_sl, x_lst, x_tup, x_comp] at h
      exact sub_core ho hi K h
    exact ⟨hE, tnd_plain hE (fun env cs fr σ n Q h => by rw [her] at h ⊢; exact h) fun _ _ => rfl⟩

theorem snd_cmps {l : PySem.Expr} {ops : List CmpOp} {rs : List PySem.Expr} {p : Pos} (hl : SndE W gl l) (hR : ∀ r ∈ rs, SndE W gl r) : SndE W gl (.Compare l ops rs p) ∧ SndT W gl (.Compare l ops rs p) := by
  rcases ops with _ | ⟨op, _ | ⟨op', _ | ⟨op'', ops⟩⟩⟩ <;> rcases rs with _ | ⟨r, _ | ⟨r', _ | ⟨r'', rs⟩⟩⟩ <;>
    first
    | exact ⟨snd_cmp hl (hR _ (by simp)), tnd_cmp hl (hR _ (by simp))⟩
    | exact ⟨snd_cmp2 hl (hR _ (by simp)) (hR _ (by simp)), tnd_cmp2 hl (hR _ (by simp)) (hR _ (by simp))⟩
    | exact snd_bad fun _ => rfl
theorem snd_comps {elt : PySem.Expr} {gens : List Comprehension} {sc : Scope} {p : Pos} (he : SndE W gl elt) (hg : ∀ g ∈ gens, SndE W gl g.iter ∧ ∀ c ∈ g.ifs, SndT W gl c) : SndE W gl (.ListComp elt gens sc p) ∧ SndT W gl (.ListComp elt gens sc p) := by
  rcases gens with _ | ⟨⟨t, it, ifs, a⟩, _ | ⟨g', gens⟩⟩
  · exact snd_bad fun _ => rfl
  · obtain ⟨h1, h2⟩ := hg _ (List.mem_singleton.mpr rfl)
    cases t with
    | Name x px => exact ⟨snd_comp h1 h2 he, fun n env cs fr σ Q K h => by
          rw [e_comp] at h; split at h <;> exact h.elim⟩
    | _ => exact snd_bad fun _ => rfl
  · exact snd_bad fun _ => by cases t <;> rfl
theorem callX_shape (f args : X) (kn : List (Option Str)) (kargs : X) : (∃ f' a k ka, callX f args kn kargs = .call f' a k ka) ∨ (∃ b a, callX f args kn kargs = .bcall b a) ∨ callX f args kn kargs = .bad := by
  unfold callX
  split
  · split
    · exact .inr (.inl ⟨_, _, rfl⟩)
    · exact .inl ⟨_, _, _, _, rfl⟩
  · split
    · exact .inl ⟨_, _, _, _, rfl⟩
    · exact .inr (.inr rfl)
theorem snd_calls {f : PySem.Expr} {args : List PySem.Expr} {ks : List Keyword} {p : Pos} (hf : SndE W gl f) (hs : SubE W gl f) (ha : ∀ e ∈ args, SndE W gl e) (hk : ∀ k ∈ ks, SndE W gl k.value) : SndE W gl (.Call f args ks p) ∧ SndT W gl (.Call f args ks p) := by
  by_cases hat : ∃ o nm ap, f = .Attribute o nm ap
  · obtain ⟨o, nm, ap, rfl⟩ := hat
    cases ks with
    | nil => exact ⟨snd_meth hs ha, fun n env cs fr σ Q K h => by simp only [e_none, e_bool, e_int, e_str, e_name, e_bin, e_not, e_neg, e_and, e_or, e_ife, e_list, e_tuple, e_cmp1, e_cmp2, e_meth, e_slice, e_comp] at h; split at h <;> exact h.elim⟩
    | cons k ks => exact snd_bad fun _ => rfl
  · have hna : ∀ o nm ap, f ≠ .Attribute o nm ap := fun o nm ap e => hat ⟨o, nm, ap, e⟩
    have hE := snd_call (pos := p) hna hf ha hk
    have her : ∀ ns, er gl ns (.Call f args ks p) = if args.all plainE then callX (er gl ns f) (erL gl ns args) (ks.map fun k => k.arg) (erK gl ns ks) else .bad := fun ns => by
      cases f <;> first | rfl | (exact absurd rfl (hna _ _ _))
    refine ⟨hE, tnd_plain hE (fun env cs fr σ n Q h => ?_) fun _ _ => rfl⟩
    rw [her] at h ⊢
    split at h
    · rename_i hp
      rw [if_pos hp]
      rcases callX_shape (er gl env.scope.names f) (erL gl env.scope.names args) (ks.map fun k => k.arg) (erK gl env.scope.names ks) with ⟨f', a, k, ka, e⟩ | ⟨b, a, e⟩ | e
      · rw [e] at h ⊢; exact h
      · rw [e] at h ⊢; exact h
      · rw [e] at h; exact h.elim
    · exact h.elim

theorem kw_size {nm : Option Str} {v : PySem.Expr} {kp : Pos} {ks : List Keyword} (h : (⟨nm, v, kp⟩ : Keyword) ∈ ks) : sizeOf v < sizeOf ks := by
  have := List.sizeOf_lt_of_mem h
  simp only [Keyword.mk.sizeOf_spec] at this; omega
theorem comp_size {t it : PySem.Expr} {ifs : List PySem.Expr} {a : Int} {gs : List Comprehension} (h : (⟨t, it, ifs, a⟩ : Comprehension) ∈ gs) : sizeOf it < sizeOf gs ∧ ∀ c ∈ ifs, sizeOf c < sizeOf gs := by
  have := List.sizeOf_lt_of_mem h
  simp only [Comprehension.mk.sizeOf_spec] at this
  refine ⟨by omega, fun c hc => ?_⟩
  have := List.sizeOf_lt_of_mem hc; omega
theorem snd (G : GlOK W.H gl) : ∀ e : PySem.Expr, Snd W gl e
  | .Constant c k p => ⟨snd_const, tnd_plain snd_const (fun env cs fr σ n Q h => by cases c <;> first | exact h | simp [e_none, e_bool, e_int, e_str, e_name, e_bin, e_not, e_neg, e_and, e_or, e_ife, e_list, e_tuple, e_cmp1, e_cmp2, e_meth, e_slice, e_comp, t_not, t_and, t_or, t_ife, t_cmp, t_cmp2, t_con, t_loc, t_call, t_bcall, t_sub, t_bad, t_cel, t_bin, t_neg, t_sl, t_lst, t_tup, t_comp, t_meth] at h) fun _ _ => rfl, trivial⟩
  | .Name x p => ⟨snd_name G, tnd_plain (snd_name G) (fun env cs fr σ n Q h => by
      rcases erName_shape gl env.scope.names x with ⟨v, e⟩ | ⟨i, e⟩ | ⟨i, e⟩ | e <;> simp only [e_none, e_bool, e_int, e_str, e_name, e_bin, e_not, e_neg, e_and, e_or, e_ife, e_list, e_tuple, e_cmp1, e_cmp2, e_meth, e_slice, e_comp, e] at h ⊢
      · exact h
      · exact h
      · exact h.elim
      · exact h.elim) fun _ _ => rfl, trivial⟩
  | .BinOp l op r p => ⟨snd_bin (snd G l).1 (snd G r).1, fun n env cs fr σ Q K h => by simp [e_none, e_bool, e_int, e_str, e_name, e_bin, e_not, e_neg, e_and, e_or, e_ife, e_list, e_tuple, e_cmp1, e_cmp2, e_meth, e_slice, e_comp, t_not, t_and, t_or, t_ife, t_cmp, t_cmp2, t_con, t_loc, t_call, t_bcall, t_sub, t_bad, t_cel, t_bin, t_neg, t_sl, t_lst, t_tup, t_comp, t_meth] at h, trivial⟩
  | .UnaryOp op x p => by
      have hx := snd G x
      cases op with
      | Not => exact ⟨snd_not hx.1, tnd_not hx.2.1, trivial⟩
      | USub => exact ⟨snd_neg hx.1, fun n env cs fr σ Q K h => by simp [e_none, e_bool, e_int, e_str, e_name, e_bin, e_not, e_neg, e_and, e_or, e_ife, e_list, e_tuple, e_cmp1, e_cmp2, e_meth, e_slice, e_comp, t_not, t_and, t_or, t_ife, t_cmp, t_cmp2, t_con, t_loc, t_call, t_bcall, t_sub, t_bad, t_cel, t_bin, t_neg, t_sl, t_lst, t_tup, t_comp, t_meth] at h, trivial⟩
      | _ => exact ⟨(snd_bad fun _ => rfl).1, (snd_bad fun _ => rfl).2, trivial⟩
  | .BoolOp op vs p => by
      have hE : ∀ v ∈ vs, SndE W gl v := fun v hv => (snd G v).1
      have hT : ∀ v ∈ vs, SndT W gl v := fun v hv => (snd G v).2.1
      refine ⟨?_, ?_, trivial⟩ <;> cases op with
      | And =>
        by_cases hv : vs = []
        · subst hv; intro n env cs fr σ Q K h; simp [e_none, e_bool, e_int, e_str, e_name, e_bin, e_not, e_neg, e_and, e_or, e_ife, e_list, e_tuple, e_cmp1, e_cmp2, e_meth, e_slice, e_comp, x_bad, x_con, x_loc, x_cel, x_bin, x_neg, x_not, x_and, x_or, x_cmp, x_cmp2, x_ife, x_call, x_bcall, x_meth, x_sub, x_sl, x_lst, x_tup, x_comp, t_not, t_and, t_or, t_ife, t_cmp, t_cmp2, t_con, t_loc, t_call, t_bcall, t_sub, t_bad, t_cel, t_bin, t_neg, t_sl, t_lst, t_tup, t_comp, t_meth] at h
        · have hv' : vs.isEmpty = false := by cases vs with | nil => exact absurd rfl hv | cons _ _ => rfl
          first
          | exact fun n env cs fr σ Q K h => snd_and vs hv hE _ _ _ _ _ _ K (by simpa [e_none, e_bool, e_int, e_str, e_name, e_bin, e_not, e_neg, e_and, e_or, e_ife, e_list, e_tuple, e_cmp1, e_cmp2, e_meth, e_slice, e_comp, hv'] using h)
          | exact fun n env cs fr σ Q K h => tnd_and vs hT _ _ _ _ _ _ K (by simpa [e_none, e_bool, e_int, e_str, e_name, e_bin, e_not, e_neg, e_and, e_or, e_ife, e_list, e_tuple, e_cmp1, e_cmp2, e_meth, e_slice, e_comp, hv'] using h)
      | Or =>
        by_cases hv : vs = []
        · subst hv; intro n env cs fr σ Q K h; simp [e_none, e_bool, e_int, e_str, e_name, e_bin, e_not, e_neg, e_and, e_or, e_ife, e_list, e_tuple, e_cmp1, e_cmp2, e_meth, e_slice, e_comp, eo_nil, eo_one, eo_cons, x_bad, x_con, x_loc, x_cel, x_bin, x_neg, x_not, x_and, x_or, x_cmp, x_cmp2, x_ife, x_call, x_bcall, x_meth, x_sub, x_sl, x_lst, x_tup, x_comp, t_not, t_and, t_or, t_ife, t_cmp, t_cmp2, t_con, t_loc, t_call, t_bcall, t_sub, t_bad, t_cel, t_bin, t_neg, t_sl, t_lst, t_tup, t_comp, t_meth] at h
        · first
          | exact fun n env cs fr σ Q K h => snd_or vs hv hE _ _ _ _ _ _ K (by simpa [e_none, e_bool, e_int, e_str, e_name, e_bin, e_not, e_neg, e_and, e_or, e_ife, e_list, e_tuple, e_cmp1, e_cmp2, e_meth, e_slice, e_comp] using h)
          | exact fun n env cs fr σ Q K h => tnd_or vs hT _ _ _ _ _ _ K (by simpa [e_none, e_bool, e_int, e_str, e_name, e_bin, e_not, e_neg, e_and, e_or, e_ife, e_list, e_tuple, e_cmp1, e_cmp2, e_meth, e_slice, e_comp] using h)
  | .IfExp t a b p => ⟨snd_ife (snd G t).2.1 (snd G a).1 (snd G b).1, tnd_ife (snd G t).2.1 (snd G a).2.1 (snd G b).2.1, trivial⟩
  | .List es p => ⟨snd_list fun e he => (snd G e).1, fun n env cs fr σ Q K h => by simp [e_none, e_bool, e_int, e_str, e_name, e_bin, e_not, e_neg, e_and, e_or, e_ife, e_list, e_tuple, e_cmp1, e_cmp2, e_meth, e_slice, e_comp, t_not, t_and, t_or, t_ife, t_cmp, t_cmp2, t_con, t_loc, t_call, t_bcall, t_sub, t_bad, t_cel, t_bin, t_neg, t_sl, t_lst, t_tup, t_comp, t_meth] at h, trivial⟩
  | .Tuple es k p => ⟨snd_tuple fun e he => (snd G e).1, fun n env cs fr σ Q K h => by simp [e_none, e_bool, e_int, e_str, e_name, e_bin, e_not, e_neg, e_and, e_or, e_ife, e_list, e_tuple, e_cmp1, e_cmp2, e_meth, e_slice, e_comp, t_not, t_and, t_or, t_ife, t_cmp, t_cmp2, t_con, t_loc, t_call, t_bcall, t_sub, t_bad, t_cel, t_bin, t_neg, t_sl, t_lst, t_tup, t_comp, t_meth] at h, trivial⟩
  | .Compare l ops rs p => ⟨(snd_cmps (snd G l).1 fun r hr => (snd G r).1).1, (snd_cmps (snd G l).1 fun r hr => (snd G r).1).2, trivial⟩
  | .Subscript o i p => ⟨(snd_sub (snd G o).1 (snd G i).1 (snd G i).2.2).1, (snd_sub (snd G o).1 (snd G i).1 (snd G i).2.2).2, trivial⟩
  | .Slice lo hi st p => ⟨(snd_bad fun _ => rfl).1, (snd_bad fun _ => rfl).2, fun x hx => (snd G x).1, fun x hx => (snd G x).1, fun x hx => (snd G x).1⟩
  | .Attribute o nm p => ⟨(snd_bad fun _ => rfl).1, (snd_bad fun _ => rfl).2, (snd G o).1⟩
  | .Call f args ks p =>
      have hk : ∀ k ∈ ks, SndE W gl k.value := fun ⟨nm, v, kp⟩ hk => have hz := kw_size hk; (snd G v).1
      ⟨(snd_calls (snd G f).1 (snd G f).2.2 (fun e he => (snd G e).1) hk).1, (snd_calls (snd G f).1 (snd G f).2.2 (fun e he => (snd G e).1) hk).2, trivial⟩
  | .ListComp elt gens sc p =>
      have hall : ∀ c, sizeOf c < sizeOf gens → Snd W gl c := fun c hz => snd G c
      have hg : ∀ g ∈ gens, SndE W gl g.iter ∧ ∀ c ∈ g.ifs, SndT W gl c := fun ⟨t, it, ifs, a⟩ hg => ⟨(hall it (comp_size hg).1).1, fun c hc => (hall c ((comp_size hg).2 c hc)).2.1⟩
      ⟨(snd_comps (snd G elt).1 hg).1, (snd_comps (snd G elt).1 hg).2, trivial⟩
  | .Lambda .. | .NamedExpr .. | .Dict .. | .Set .. | .SetComp .. | .DictComp .. | .GeneratorExp .. | .Await .. | .Yield .. | .YieldFrom .. | .FormattedValue .. | .JoinedStr .. | .Starred .. =>
      ⟨(snd_bad fun _ => rfl).1, (snd_bad fun _ => rfl).2, trivial⟩
end Mine

end
section -- F14
namespace Mine
variable {W : Wd} {n : Nat} {gl : Str → Option V} {env : Env} {cs : List Addr} {fr : List V} {σ : St} {A : Around} {s s' : Shared} {L : Addr → Prop}

noncomputable def abF : Flow → Fl
  | .next => .next
  | .brk => .brk
  | .cont => .cont
  | .ret v => .ret (ab v)

noncomputable def PostS {α : Type} (H : Heap) (A : Around) (env : Env) (σ : St) (s : Shared) (Q : α → St → List V → Prop) : α → Shared → Prop :=
  fun f s' => ∃ σ' fr', Q f σ' fr' ∧ Rel H A env σ' fr' s' ∧ Stp (At env.locals) σ s σ' s'
theorem PostS.trans {α : Type} {H : Heap} {σ1 : St} {s1 s2 : Shared} {Q : α → St → List V → Prop} {v : α} (t : Stp (At env.locals) σ s σ1 s1) (p : PostS H A env σ1 s1 Q v s2) : PostS H A env σ s Q v s2 :=
  let ⟨σ', fr', q, r, t'⟩ := p; ⟨σ', fr', q, r, t.trans t'⟩
theorem Stp.up {σ1 : St} {s1 : Shared} (t : Stp No σ s σ1 s1) : Stp (At env.locals) σ s σ1 s1 := t.weak fun _ q => q.elim

theorem frame_set {ns : List (Str × NameKind)} {x : Str} {v : Value} {m : Str → Option Value} (hn : (ns.map (·.1)).Nodup) (hx : ns.lookup x = some .local) (hf : FrameR ns fr m) :
    FrameR ns (setN fr (place ns x) (ab v)) (fun y => if y = x then some v else m y) := by
  intro i y hi hu
  rw [setN_eq] at hu ⊢
  by_cases e : i = place ns x
  · have h1 := place_of hx
    rw [← e, hi] at h1
    have hyx : y = x := by simpa using h1
    subst hyx
    refine ⟨v, by simp, ?_⟩
    rw [List.getD_eq_getElem?_getD, List.getElem?_set] at hu ⊢
    rw [if_pos e.symm] at hu ⊢
    split
    · rfl
    · rename_i hlt; rw [if_neg hlt] at hu; exact absurd rfl hu
  · have hne : y ≠ x := fun q => by
      subst q
      exact e (nodup_lookup hn hi).2.symm
    rw [List.getD_eq_getElem?_getD, List.getElem?_set_ne (fun q => e q.symm), ← List.getD_eq_getElem?_getD] at hu ⊢
    obtain ⟨v', h1, h2⟩ := hf i y hi hu
    exact ⟨v', by simp [hne, h1], h2⟩

theorem st_ok {t : T} {x : Str} {v : V} {K : List V → St → Prop} (E : EnvOK W env cs) (ht : tgOf env.scope.names x = some t) (r : Rel W.H A env σ fr s) (h : stW t v cs fr σ K) {vv : Value} (hv : ab vv = v) :
    wpAny W.M A (storeName env x vv) (PostS W.H A env σ s fun _ σ' fr' => K fr' σ') NoE s := by
  unfold tgOf at ht
  split at ht
  · rename_i hl
    cases ht
    obtain ⟨m, hn, hf⟩ := r.ns
    refine wpAny_storeName_local hl hn (fun h' hn' hs' => ?_) (by rw [E.kind]; rfl)
    have hk : ∀ b o, ¬ At env.locals b → s.heap.get? b = some o → h'.get? b = some o := fun b o hb e => (hs'.2 b hb).trans e
    refine ⟨σ, _, h, ⟨r.toRelG.hidden (L := At env.locals) (fun b hb => by rw [show b = env.locals from hb]; exact ⟨r.off, r.new⟩) hk, ⟨_, hn', ?_⟩, r.off, r.new, r.frs.at hs' hn'⟩, ?_⟩
    · rw [← hv]; exact frame_set E.nodup hl hf
    · exact .hidden hk (fun b o hb _ => by rw [show b = env.locals from hb]; obtain ⟨o, _, _, e, _⟩ := hn'; exact ⟨o, e⟩) ⟨h', _, rfl⟩
  · rename_i hl
    cases ht
    have hp := place_of hl
    obtain ⟨hc, _⟩ := E.cell _ _ _ hp (.inl rfl)
    simp only [stW] at h
    split at h
    · rename_i v0 e
      rw [nthA_eq] at e h
      obtain ⟨c, hcell, hab⟩ := r.objs _ _ e
      refine wpAny_storeName_cell E.kind hl hc hcell fun h' hc' hs' => ?_
      have hob : ObjR h' (cs.getD (place env.scope.names x) 0) (.cell v) := ⟨_, hc', hv⟩
      have hne : env.locals ≠ cs.getD (place env.scope.names x) 0 := fun q => by rw [← q, r.off] at e; cases e
      have g := r.toRelG.put (s' := { s with heap := h' }) e rfl hs' hob
      obtain ⟨m, hn, hf⟩ := r.ns
      refine ⟨_, fr, h, ⟨g, ⟨m, hn.sameBut hs' hne, hf⟩, ?_, r.new, r.frs.put e hs'⟩, .put e rfl hs' hob ⟨h', s.toks, rfl⟩⟩
      rw [St.set_other _ _ hne]; exact r.off
    · exact h.elim
  · cases ht

theorem ld_ok {t : T} {x : Str} {K : V → Prop} (E : EnvOK W env cs) (ht : tgOf env.scope.names x = some t) (r : Rel W.H A env σ fr s) (h : ldW t cs fr σ K) {Z : Value → Shared → Prop} (hZ : ∀ v, K (ab v) → Z v s) :
    wpAny W.M A (loadName env x) Z NoE s := by
  unfold tgOf at ht
  split at ht
  · rename_i hl
    cases ht
    have hp := place_of hl
    obtain ⟨hu, hq⟩ := h
    obtain ⟨m, hn, hf⟩ := r.ns
    rw [nth_eq] at hu hq
    obtain ⟨v, hv, hav⟩ := hf _ _ hp hu
    exact wpAny_loadName_local E.kind hl hn hv (hZ _ (by rw [hav]; exact hq))
  · rename_i hl
    cases ht
    have hp := place_of hl
    obtain ⟨hc, _⟩ := E.cell _ _ _ hp (.inl rfl)
    simp only [ldW] at h
    split at h
    · rename_i v e
      obtain ⟨hu, hq⟩ := h
      rw [nthA_eq] at e
      obtain ⟨c, hcell, hab⟩ := r.objs _ _ e
      cases c with
      | none => exact absurd hab.symm hu
      | some cv => exact wpAny_loadName_cell E.kind hl hc hcell (hZ _ (by rw [show ab cv = v from hab]; exact hq))
    · exact h.elim
  · cases ht

theorem assign_ok {t : T} {x : Str} {p : Pos} {v : V} {K : List V → St → Prop} (E : EnvOK W env cs) (ht : tgOf env.scope.names x = some t) (r : Rel W.H A env σ fr s) (h : stW t v cs fr σ K) {vv : Value} (hv : ab vv = v) :
    wpAny W.M A (assign (.Name x p) env vv) (PostS W.H A env σ s fun _ σ' fr' => K fr' σ') NoE s := wpAny_assign_Name (st_ok E ht r h hv)

/-- a function's own block: its frame is the topmost -/
noncomputable def Top (A : Around) (env : Env) : Prop := env.frame = some env.locals ∧ ∃ outer, A.frames = some (env :: outer)
noncomputable def SndS (W : Wd) (gl : Str → Option V) (st : Stmt) : Prop := ∀ n env cs fr σ Q, EnvOK W env cs → sW W n (erS gl env.scope.names st) cs fr σ Q → ∀ A s, Room n A → Rel W.H A env σ fr s → Mine.Top A env → wpAny W.M A (exec st env) (PostS W.H A env σ s fun f => Q (abF f)) NoE s
noncomputable def SndSs (W : Wd) (gl : Str → Option V) (st : List Stmt) : Prop := ∀ n env cs fr σ Q, EnvOK W env cs → sW W n (erSs gl env.scope.names st) cs fr σ Q → ∀ A s, Room n A → Rel W.H A env σ fr s → Mine.Top A env → wpAny W.M A (execs st env) (PostS W.H A env σ s fun f => Q (abF f)) NoE s

theorem sns_nil : SndSs W gl [] := fun n env cs fr σ Q K h A s R r Tp => wpAny_execs_nil ⟨σ, fr, by simpa [ess_nil, ess_cons, s_bad, s_skip, s_seq, s_set, s_unp, s_ssub, s_aug, s_del, s_exp, s_ret, s_ret0, s_brk, s_cont, s_ite, s_whl, s_for, abF] using h, r, .refl ..⟩
theorem sns_cons {st : Stmt} {rest : List Stmt} (h1 : SndS W gl st) (h2 : SndSs W gl rest) : SndSs W gl (st :: rest) := by
  intro n env cs fr σ Q K h A s R r Tp
  simp only [ess_nil, ess_cons, s_bad, s_skip, s_seq, s_set, s_unp, s_ssub, s_aug, s_del, s_exp, s_ret, s_ret0, s_brk, s_cont, s_ite, s_whl, s_for] at h
  refine wpAny_execs_cons (wpAny_mono (h1 _ _ _ _ _ _ K h A s R r Tp) (fun f s1 p1 => ?_) fun _ _ x => x)
  obtain ⟨σ1, fr1, q1, r1, t1⟩ := p1
  cases f with
  | next => exact wpAny_mono (h2 _ _ _ _ _ _ K q1 A s1 R r1 Tp) (fun _ _ p => p.trans t1) fun _ _ x => x
  | brk => exact ⟨σ1, fr1, q1, r1, t1⟩
  | cont => exact ⟨σ1, fr1, q1, r1, t1⟩
  | ret v => exact ⟨σ1, fr1, q1, r1, t1⟩

/-- the state after a value -/
theorem afterE {α : Type} {Q1 : α → St → Prop} {v : α} (r : Rel W.H A env σ fr s) (p : PostA W.H No σ s Q1 v s') : ∃ σ1, Q1 v σ1 ∧ Rel W.H A env σ1 fr s' ∧ Stp (At env.locals) σ s σ1 s' :=
  let ⟨σ1, q, g, t⟩ := p; ⟨σ1, q, r.step g t, t.up⟩

theorem sns_set (G : GlOK W.H gl) {x : Str} {px pos : Pos} {v : PySem.Expr} : SndS W gl (.Assign [.Name x px] v pos) := by
  intro n env cs fr σ Q K h A s R r Tp
  simp only [es_name, es_tup, es_ssub, es_aug, es_del, es_ret, es_ret0, es_if, es_while, es_for, es_pass, es_break, es_cont] at h
  split at h
  case h_2 => exact h.elim
  rename_i t ht
  simp only [s_bad, s_skip, s_seq, s_set, s_unp, s_ssub, s_aug, s_del, s_exp, s_ret, s_ret0, s_brk, s_cont, s_ite, s_whl, s_for] at h
  have hv := (snd G v).1
  have hb : env.blockKind = .function := by unfold Env.blockKind; rw [K.kind]; rfl
  -- the plain road
  have plain : wpAny W.M A (do
      let v' ← eval v env
      assignStores env v' (← swappedStores [.Name x px] v env) ((assignEach [.Name x px] env).map (·.2))) (PostS W.H A env σ s fun f => Q (abF f)) NoE s := by
    refine wpAny_bind (wpAny_mono (hv _ _ _ _ _ _ K h A s R r) (fun v' s1 p1 => ?_) fun _ _ x => x)
    obtain ⟨σ1, q1, r1, t1⟩ := afterE r p1
    have e1 : swappedStores [.Name x px] v env = pure none := by unfold swappedStores; rfl
    rw [e1]
    refine wpAny_bind (wpAny_pure ?_)
    show wpAny W.M A (assignAll v' [assign (.Name x px) env] >>= fun _ => pure Flow.next) _ _ s1
    refine wpAny_bind (wpAny_mono (assign_ok K ht r1 q1 rfl) (fun _ s2 p2 => ?_) fun _ _ x => x)
    exact wpAny_pure (p2.trans t1)
  rw [arm_exec_Assign]
  refine wpAny_bind (wpAny_standAt ?_)
  by_cases hcomp : ∃ elt gens sc p, v = .ListComp elt gens sc p
  · obtain ⟨elt, gens, sc, p, rfl⟩ := hcomp
    have e1 : ∃ b, swapsWithSole [.Name x px] (.ListComp elt gens sc p) pos.line env = pure b := ⟨_, rfl⟩
    obtain ⟨b, e1⟩ := e1
    rw [e1]
    refine wpAny_bind (wpAny_pure ?_)
    cases b with
    | false => simp only [Bool.false_eq_true, if_false]; exact plain
    | true =>
      simp only [if_true]
      -- only one shape is no bad
      have hsh : ∃ y py it ifs, gens = [⟨.Name y py, it, ifs, 0⟩] ∧ (scOk env.scope.names sc y && noSet it) = true := by
        have hb : er gl env.scope.names (.ListComp elt gens sc p) ≠ .bad := fun e => by rw [e] at h; exact h.elim
        rcases gens with _ | ⟨⟨tt, it, ifs, a⟩, _ | ⟨g', gens⟩⟩
        · exact absurd rfl hb
        · cases tt with
          | Name y py =>
            by_cases ha : a = 0
            · subst ha
              refine ⟨y, py, it, ifs, rfl, ?_⟩
              rw [e_comp] at hb
              by_cases hok : (scOk env.scope.names sc y && noSet it) = true
              · exact hok
              · exact absurd (if_neg hok) hb
            · exfalso; apply hb; rw [e_comp, if_neg (by simp [ha])]
          | _ => exact absurd rfl hb
        · exfalso; apply hb; cases tt <;> rfl
      obtain ⟨y, py, it, ifs, rfl, hok⟩ := hsh
      rw [e_comp, if_pos (show (decide ((0 : Int) = 0) && (scOk env.scope.names sc y && noSet it)) = true from hok)] at h
      simp only [Bool.and_eq_true] at hok
      show wpAny W.M A ((do let _ ← comprehension (.ListComp elt [⟨.Name y py, it, ifs, 0⟩] sc p) sc env _ (newList []) false (eval it env) (some fun v => assignAll v [assign (.Name x px) env])) >>= fun _ => pure Flow.next) _ _ s
      suffices main : wpAny W.M A (comprehension (.ListComp elt [⟨.Name y py, it, ifs, 0⟩] sc p) sc env (firstIterPos [⟨.Name y py, it, ifs, 0⟩] p) (newList []) false (eval it env) (some fun v => assignAll v [assign (.Name x px) env]))
          (fun _ s' => PostS W.H A env σ s (fun f => Q (abF f)) Flow.next s') NoE s from
        wpAny_bind (wpAny_bind (wpAny_mono main (fun _ s' p => wpAny_pure (wpAny_pure p)) fun _ _ x => x))
      refine comp_run (snd G it).1 (fun c _ => (snd G c).2.1) (snd G elt).1 K R r hok.1 hok.2 h ?_
      intro D C s' σ' hq g t hns hσC hHC hsC
      have r' : Rel W.H A env σ' fr s' := r.step g t
      refine wpAny_mono (assign_ok K ht r' hq (vv := .ref D) rfl) (fun _ s'' p => ?_) fun _ _ x => x
      obtain ⟨σ'', fr'', q, r'', t''⟩ := p
      obtain ⟨m, hn⟩ := hns
      have hCL : C ≠ env.locals := fun e => by
        obtain ⟨m', hn', _⟩ := r.ns
        obtain ⟨o, _, _, e', _⟩ := hn'
        rw [← e, hsC] at e'; cases e'
      obtain ⟨oC, _, _, eC, _⟩ := id hn
      have hn'' : s''.heap.Ns C m := Ns_look hn fun o e => t''.look C o e (fun y hy => by rw [hσC] at hy; cases hy) hCL
      have hσC'' : σ'' C = none := t''.off hσC eC
      refine ⟨m, hn'', fun h' hs' => ⟨σ'', fr'', q, ⟨?_, ?_, r''.off, r''.new, ?_⟩, (t.up.trans t'').sameBut hsC hs'⟩⟩
      · exact r''.toRelG.hidden (L := fun b => b = C) (fun b hb => by subst hb; exact ⟨hσC'', hHC⟩) fun b o hb e => (hs'.2 b hb).trans e
      · obtain ⟨m', hn', hf'⟩ := r''.ns
        exact ⟨m', hn'.sameBut hs' (Ne.symm hCL), hf'⟩
      · obtain ⟨l, hl, hf⟩ := r''.frs
        obtain ⟨l0, hl0, hf0⟩ := r.frs
        rw [hl] at hl0; cases hl0
        refine ⟨l, hl, fun ev he => ?_⟩
        obtain ⟨h1, L, o, es, n, h2, h3, h4, h5, h6⟩ := hf ev he
        obtain ⟨_, L0, o0, _, _, k2, _, _, k5, _⟩ := hf0 ev he
        rw [h2] at k2; cases k2
        have hLC : L ≠ C := fun q => by rw [q, hsC] at k5; cases k5
        exact ⟨h1, L, o, es, n, h2, h3, h4, (hs'.2 L hLC).trans h5, h6⟩
  · have e1 : swapsWithSole [.Name x px] v pos.line env = pure false ∨ er gl env.scope.names v = .bad := by
      cases v <;> first | exact .inl rfl | exact .inr rfl | exact absurd ⟨_, _, _, _, rfl⟩ hcomp
    rcases e1 with e1 | e1
    · rw [e1]; exact wpAny_bind (wpAny_pure plain)
    · rw [e1] at h; exact h.elim
end Mine

end
section -- F15
namespace Mine
variable {W : Wd} {n : Nat} {gl : Str → Option V} {env : Env} {cs : List Addr} {fr : List V} {σ : St} {A : Around} {s s' : Shared} {L : Addr → Prop}

theorem sns_bad {st : Stmt} (h : ∀ ns, erS gl ns st = .bad) : SndS W gl st := fun n env cs fr σ Q K q => by rw [h] at q; exact q.elim

theorem sns_ret (G : GlOK W.H gl) {v : PySem.Expr} {p : Pos} : SndS W gl (.Return (some v) p) := by
  intro n env cs fr σ Q K h A s R r Tp
  simp only [es_name, es_tup, es_ssub, es_aug, es_del, es_ret, es_ret0, es_if, es_while, es_for, es_pass, es_break, es_cont, s_bad, s_skip, s_seq, s_set, s_unp, s_ssub, s_aug, s_del, s_exp, s_ret, s_ret0, s_brk, s_cont, s_ite, s_whl, s_for] at h
  refine wpAny_Return_some (wpAny_mono ((snd G v).1 _ _ _ _ _ _ K h A s R r) (fun v' s1 p1 => ?_) fun _ _ x => x)
  obtain ⟨σ1, q1, r1, t1⟩ := afterE r p1
  exact ⟨σ1, fr, q1, r1, t1⟩
theorem sns_ret0 {p : Pos} : SndS W gl (.Return none p) := fun n env cs fr σ Q K h A s R r Tp => wpAny_Return_none ⟨σ, fr, by simpa [es_name, es_tup, es_ssub, es_aug, es_del, es_ret, es_ret0, es_if, es_while, es_for, es_pass, es_break, es_cont, s_bad, s_skip, s_seq, s_set, s_unp, s_ssub, s_aug, s_del, s_exp, s_ret, s_ret0, s_brk, s_cont, s_ite, s_whl, s_for, abF, ab] using h, r, .refl ..⟩
theorem sns_pass {p : Pos} : SndS W gl (.Pass p) := fun n env cs fr σ Q K h A s R r Tp => wpAny_Pass ⟨σ, fr, by simpa [es_name, es_tup, es_ssub, es_aug, es_del, es_ret, es_ret0, es_if, es_while, es_for, es_pass, es_break, es_cont, s_bad, s_skip, s_seq, s_set, s_unp, s_ssub, s_aug, s_del, s_exp, s_ret, s_ret0, s_brk, s_cont, s_ite, s_whl, s_for, abF] using h, r, .refl ..⟩
theorem sns_break {p : Pos} : SndS W gl (.Break p) := fun n env cs fr σ Q K h A s R r Tp => wpAny_Break ⟨σ, fr, by simpa [es_name, es_tup, es_ssub, es_aug, es_del, es_ret, es_ret0, es_if, es_while, es_for, es_pass, es_break, es_cont, s_bad, s_skip, s_seq, s_set, s_unp, s_ssub, s_aug, s_del, s_exp, s_ret, s_ret0, s_brk, s_cont, s_ite, s_whl, s_for, abF] using h, r, .refl ..⟩
theorem sns_cont {p : Pos} : SndS W gl (.Continue p) := fun n env cs fr σ Q K h A s R r Tp => wpAny_Continue ⟨σ, fr, by simpa [es_name, es_tup, es_ssub, es_aug, es_del, es_ret, es_ret0, es_if, es_while, es_for, es_pass, es_break, es_cont, s_bad, s_skip, s_seq, s_set, s_unp, s_ssub, s_aug, s_del, s_exp, s_ret, s_ret0, s_brk, s_cont, s_ite, s_whl, s_for, abF] using h, r, .refl ..⟩

theorem sns_if (G : GlOK W.H gl) {t : PySem.Expr} {b o : List Stmt} {p : Pos} (hb : SndSs W gl b) (ho : SndSs W gl o) : SndS W gl (.If t b o p) := by
  intro n env cs fr σ Q K h A s R r Tp
  simp only [es_name, es_tup, es_ssub, es_aug, es_del, es_ret, es_ret0, es_if, es_while, es_for, es_pass, es_break, es_cont, s_bad, s_skip, s_seq, s_set, s_unp, s_ssub, s_aug, s_del, s_exp, s_ret, s_ret0, s_brk, s_cont, s_ite, s_whl, s_for] at h
  refine wpAny_If (wpAny_mono ((snd G t).2.1 _ _ _ _ _ _ K h A s R r) (fun c s1 p1 => ?_) fun _ _ x => x)
  obtain ⟨σ1, q1, r1, t1⟩ := afterE r p1
  cases c with
  | true => exact wpAny_mono (hb _ _ _ _ _ _ K (by simpa using q1) A s1 R r1 Tp) (fun _ _ p => p.trans t1) fun _ _ x => x
  | false => exact wpAny_mono (ho _ _ _ _ _ _ K (by simpa using q1) A s1 R r1 Tp) (fun _ _ p => p.trans t1) fun _ _ x => x

theorem sns_exp (G : GlOK W.H gl) {v : PySem.Expr} {p : Pos} : SndS W gl (.Expr v p) := by
  intro n env cs fr σ Q K h A s R r Tp
  have key : (swapsWith v none p.line env = pure false ∧ sW W n (.exp (er gl env.scope.names v)) cs fr σ Q) ∨ False := by
    cases v <;> first | exact .inl ⟨rfl, h⟩ | exact h.elim
  obtain ⟨hs, h⟩ := key.resolve_right id
  simp only [s_bad, s_skip, s_seq, s_set, s_unp, s_ssub, s_aug, s_del, s_exp, s_ret, s_ret0, s_brk, s_cont, s_ite, s_whl, s_for] at h
  have hi : interactive env = false := by unfold interactive; rw [K.kind]; rfl
  rw [exec_Expr env v p hi hs]
  refine wpAny_bind (wpAny_standAt (wpAny_bind (wpAny_mono ((snd G v).1 _ _ _ _ _ _ K h A s R r) (fun v' s1 p1 => ?_) fun _ _ x => x)))
  obtain ⟨σ1, q1, r1, t1⟩ := afterE r p1
  exact wpAny_dropValue ⟨σ1, fr, q1, r1, t1⟩

theorem wpAny_release {M : Model} {E : Value → Shared → Prop} {vs keep : List Value} {Z : Unit → Shared → Prop} (hz : Z () s) : wpAny M A (release vs keep) Z E s := fun Γ p hΓ => by
  rw [Sem.wp_release]; exact hz
theorem sns_ssub (G : GlOK W.H gl) {o i v : PySem.Expr} {sp p : Pos} : SndS W gl (.Assign [.Subscript o i sp] v p) := by
  intro n env cs fr σ Q K h A s R r Tp
  simp only [es_name, es_tup, es_ssub, es_aug, es_del, es_ret, es_ret0, es_if, es_while, es_for, es_pass, es_break, es_cont, s_bad, s_skip, s_seq, s_set, s_unp, s_ssub, s_aug, s_del, s_exp, s_ret, s_ret0, s_brk, s_cont, s_ite, s_whl, s_for] at h
  rw [arm_exec_Assign]
  refine wpAny_bind (wpAny_standAt ?_)
  have e1 : swapsWithSole [.Subscript o i sp] v p.line env = pure false := by cases v <;> rfl
  rw [e1]
  refine wpAny_bind (wpAny_pure ?_)
  simp only [Bool.false_eq_true, if_false]
  refine wpAny_bind (wpAny_mono ((snd G v).1 _ _ _ _ _ _ K h A s R r) (fun v' s1 p1 => ?_) fun _ _ x => x)
  obtain ⟨σ1, q1, r1, t1⟩ := afterE r p1
  have e2 : swappedStores [.Subscript o i sp] v env = pure none := by unfold swappedStores; rfl
  rw [e2]
  refine wpAny_bind (wpAny_pure ?_)
  show wpAny W.M A (assignAll v' [assign (.Subscript o i sp) env] >>= fun _ => pure Flow.next) _ _ s1
  refine wpAny_bind ?_
  show wpAny W.M A (assign (.Subscript o i sp) env v') _ _ s1
  rw [arm_assign_Subscript]
  refine wpAny_bind (wpAny_holding (wpAny_mono ((snd G o).1 _ _ _ _ _ _ K q1 A s1 R r1) (fun ov s2 p2 => ?_) fun _ _ x => x))
  obtain ⟨σ2, q2, r2, t2⟩ := afterE r1 p2
  refine wpAny_bind (wpAny_holding (wpAny_mono ((snd G i).1 _ _ _ _ _ _ K q2 A s2 R r2) (fun iv s3 p3 => ?_) fun _ _ x => x))
  obtain ⟨σ3, q3, r3, t3⟩ := afterE r2 p3
  refine wpAny_bind (wpAny_standAt (wpAny_bind (wpAny_holding (wpAny_mono (ssub_ok r3.toRelG q3 rfl rfl rfl) (fun _ s4 p4 => ?_) fun _ _ x => x))))
  obtain ⟨σ4, q4, r4, t4⟩ := afterE r3 p4
  exact wpAny_release (wpAny_pure ⟨σ4, fr, q4, r4, ((t1.trans t2).trans t3).trans t4⟩)

theorem sns_del (G : GlOK W.H gl) {o i : PySem.Expr} {sp p : Pos} : SndS W gl (.Delete [.Subscript o i sp] p) := by
  intro n env cs fr σ Q K h A s R r Tp
  simp only [es_name, es_tup, es_ssub, es_aug, es_del, es_ret, es_ret0, es_if, es_while, es_for, es_pass, es_break, es_cont, s_bad, s_skip, s_seq, s_set, s_unp, s_ssub, s_aug, s_del, s_exp, s_ret, s_ret0, s_brk, s_cont, s_ite, s_whl, s_for] at h
  rw [arm_exec_Delete]
  refine wpAny_bind (wpAny_standAt ?_)
  show wpAny W.M A (((do
    let ov ← eval o env
    let iv ← holding [ov] (eval i env)
    standAt sp
    holding [ov, iv] (delItem ov iv)
    release [ov, iv] []) >>= fun _ => pure ()) >>= fun _ => pure Flow.next) _ _ s
  refine wpAny_bind (wpAny_bind (wpAny_bind (wpAny_mono ((snd G o).1 _ _ _ _ _ _ K h A s R r) (fun ov s2 p2 => ?_) fun _ _ x => x)))
  obtain ⟨σ2, q2, r2, t2⟩ := afterE r p2
  refine wpAny_bind (wpAny_holding (wpAny_mono ((snd G i).1 _ _ _ _ _ _ K q2 A s2 R r2) (fun iv s3 p3 => ?_) fun _ _ x => x))
  obtain ⟨σ3, q3, r3, t3⟩ := afterE r2 p3
  refine wpAny_bind (wpAny_standAt (wpAny_bind (wpAny_holding (wpAny_mono (del_ok r3.toRelG q3 rfl rfl) (fun _ s4 p4 => ?_) fun _ _ x => x))))
  obtain ⟨σ4, q4, r4, t4⟩ := afterE r3 p4
  exact wpAny_release (wpAny_pure (wpAny_pure ⟨σ4, fr, q4, r4, (t2.trans t3).trans t4⟩))

theorem aug_ok {op : Operator} {a b : V} {K : V → Prop} (r : RelG W.H σ s) (h : augW op a b K) {va vb : Value} (ha : ab va = a) (hb : ab vb = b) :
    wpAny W.M A (inplaceOp op va vb) (PostA W.H No σ s fun v σ' => K (ab v) ∧ σ' = σ) NoE s := by
  unfold augW at h
  split at h
  · obtain ⟨t, rfl⟩ := ab_int ha; obtain ⟨u, rfl⟩ := ab_int hb; exact P.iadd_int (.tok r ⟨h, rfl⟩ _)
  · obtain ⟨t, rfl⟩ := ab_int ha; obtain ⟨u, rfl⟩ := ab_int hb; exact P.isub_int (.tok r ⟨h, rfl⟩ _)
  · exact h.elim
theorem sns_aug (G : GlOK W.H gl) {x : Str} {np p : Pos} {op : Operator} {v : PySem.Expr} : SndS W gl (.AugAssign (.Name x np) op v p) := by
  intro n env cs fr σ Q K h A s R r Tp
  simp only [es_name, es_tup, es_ssub, es_aug, es_del, es_ret, es_ret0, es_if, es_while, es_for, es_pass, es_break, es_cont] at h
  split at h
  case h_2 => exact h.elim
  rename_i t ht
  simp only [s_bad, s_skip, s_seq, s_set, s_unp, s_ssub, s_aug, s_del, s_exp, s_ret, s_ret0, s_brk, s_cont, s_ite, s_whl, s_for] at h
  refine wpAny_AugAssign_Name (ld_ok K ht r h fun old h0 => ?_)
  refine wpAny_mono ((snd G v).1 _ _ _ _ _ _ K h0 A s R r) (fun v' s1 p1 => ?_) fun _ _ x => x
  obtain ⟨σ1, q1, r1, t1⟩ := afterE r p1
  refine wpAny_mono (aug_ok r1.toRelG q1 rfl rfl) (fun nw s2 p2 => ?_) fun _ _ x => x
  obtain ⟨σ2, ⟨q2, e⟩, r2, t2⟩ := afterE r1 p2
  subst e
  refine wpAny_mono (st_ok K ht r2 q2 rfl) (fun _ s3 p3 => ?_) fun _ _ x => x
  exact p3.trans (t1.trans t2)

theorem tup_elim {v : V} {K : List V → Prop} {H : Heap} (r : RelG H σ s) (h : tupW v σ K) : ∃ a items, v = .ref a ∧ IsTup s.heap a items ∧ K (items.toList.map ab) := by
  obtain ⟨a, o, rfl, e, h⟩ := refW_elim h
  have R := r.objs a o e
  cases o with
  | tup xs => obtain ⟨items, hp, rfl, hz⟩ := R; exact ⟨a, items, rfl, hp, h⟩
  | lst _ => exact h.elim
  | ro _ => exact h.elim
  | rng _ _ _ => exact h.elim
  | cell _ => exact h.elim
  | fn _ => exact h.elim
  | tab f => exact h.elim
  | code f => exact h.elim
theorem tgs_names {ns : List (Str × NameKind)} : ∀ {ts : List PySem.Expr} {t : List T}, tgsOf ns ts = some t → (namesOfT ts).map (tgOf ns) = t.map some ∧ (namesOfT ts).length = ts.length
  | [], t, h => by cases h; exact ⟨rfl, rfl⟩
  | e :: r, t, h => by
    cases e with
    | Name x p =>
      simp only [tgsOf] at h
      cases q : tgOf ns x with
      | none => rw [q] at h; cases h
      | some tt =>
        rw [q] at h
        simp only [Option.bind_some] at h
        cases q2 : tgsOf ns r with
        | none => rw [q2] at h; cases h
        | some t' =>
          rw [q2] at h; cases h
          obtain ⟨h1, h2⟩ := tgs_names q2
          exact ⟨by simp [namesOfT, h1, q], by simp [namesOfT, h2]⟩
    | _ => cases h
theorem sts_ok {K : List V → St → Prop} (E : EnvOK W env cs) (f : Str → Value → Sem Unit) (hf : ∀ x v (Z : Unit → Shared → Prop) s, wpAny W.M A (storeName env x v) Z NoE s → wpAny W.M A (f x v) Z NoE s) :
    ∀ (xs : List Str) (t : List T) (vs : List Value) (fr : List V) (σ : St) (s : Shared), xs.map (tgOf env.scope.names) = t.map some → Rel W.H A env σ fr s → stsW t (vs.map ab) cs fr σ K →
      wpAny W.M A (assignInOrder (xs.map f) vs) (PostS W.H A env σ s fun _ σ' fr' => K fr' σ') NoE s
  | [], [], [], fr, σ, s, _, r, h => wpAny_pure ⟨σ, fr, h, r, .refl ..⟩
  | [], [], v :: vs, fr, σ, s, _, r, h => h.elim
  | [], t :: ts, vs, fr, σ, s, e, r, h => by cases e
  | x :: xs, [], vs, fr, σ, s, e, r, h => by cases e
  | x :: xs, t :: ts, [], fr, σ, s, e, r, h => h.elim
  | x :: xs, t :: ts, v :: vs, fr, σ, s, e, r, h => by
    simp only [List.map_cons, List.cons.injEq] at e
    simp only [List.map_cons, stsW] at h
    show wpAny W.M A (do holding vs (f x v); assignInOrder (xs.map f) vs) _ _ s
    refine wpAny_bind (wpAny_holding (hf _ _ _ _ (wpAny_mono (st_ok E e.1 r h rfl) (fun _ s1 p1 => ?_) fun _ _ x => x)))
    obtain ⟨σ1, fr1, q1, r1, t1⟩ := p1
    exact wpAny_mono (sts_ok E f hf xs ts vs fr1 σ1 s1 e.2 r1 q1) (fun _ _ p => p.trans t1) fun _ _ x => x
theorem tup_assign {K : List V → St → Prop} (E : EnvOK W env cs) : ∀ (ts : List PySem.Expr) (t : List T) (vs : List Value) (fr : List V) (σ : St) (s : Shared), tgsOf env.scope.names ts = some t → Rel W.H A env σ fr s → stsW t (vs.map ab) cs fr σ K →
      wpAny W.M A (assignInOrder ((assignEach ts env).map (·.2)) vs) (PostS W.H A env σ s fun _ σ' fr' => K fr' σ') NoE s
  | [], t, vs, fr, σ, s, e, r, h => by
    cases e
    cases vs with
    | nil => exact wpAny_pure ⟨σ, fr, h, r, .refl ..⟩
    | cons _ _ => exact h.elim
  | ex :: rest, t, vs, fr, σ, s, e, r, h => by
    cases ex with
    | Name x p =>
      simp only [tgsOf] at e
      cases q : tgOf env.scope.names x with
      | none => rw [q] at e; cases e
      | some tt =>
        rw [q] at e
        simp only [Option.bind_some] at e
        cases q2 : tgsOf env.scope.names rest with
        | none => rw [q2] at e; cases e
        | some t' =>
          rw [q2] at e; cases e
          cases vs with
          | nil => exact h.elim
          | cons v vs =>
            simp only [List.map_cons, stsW] at h
            show wpAny W.M A (do holding vs (assign (.Name x p) env v); assignInOrder ((assignEach rest env).map (·.2)) vs) _ _ s
            refine wpAny_bind (wpAny_holding (wpAny_mono (assign_ok E q r h rfl) (fun _ s1 p1 => ?_) fun _ _ x => x))
            obtain ⟨σ1, fr1, q1, r1, t1⟩ := p1
            exact wpAny_mono (tup_assign E rest t' vs fr1 σ1 s1 q2 r1 q1) (fun _ _ p => p.trans t1) fun _ _ x => x
    | _ => cases e
theorem each_len {ns : List (Str × NameKind)} : ∀ {ts : List PySem.Expr} {t : List T}, tgsOf ns ts = some t → (assignEach ts env).length = t.length ∧ t.length = ts.length ∧ (assignEach ts env).findIdx? (·.1) = none
  | [], t, h => by cases h; exact ⟨rfl, rfl, rfl⟩
  | e :: r, t, h => by
    cases e with
    | Name x p =>
      simp only [tgsOf] at h
      cases q : tgOf ns x with
      | none => rw [q] at h; cases h
      | some tt =>
        rw [q] at h
        simp only [Option.bind_some] at h
        cases q2 : tgsOf ns r with
        | none => rw [q2] at h; cases h
        | some t' =>
          rw [q2] at h; cases h
          obtain ⟨h1, h2, h3⟩ := each_len q2
          have e1 : assignEach (.Name x p :: r) env = (false, assign (.Name x p) env) :: assignEach r env := rfl
          rw [e1]
          exact ⟨by simp [h1], by simp [h2], by rw [List.findIdx?_cons, h3]; rfl⟩
    | _ => cases h

/-- a tuple unpacked into names -/
theorem unpack_ok {ts : List PySem.Expr} {k : Nat} {p : Pos} {t : List T} {v : V} {K : List V → St → Prop} (R : Room n A) (E : EnvOK W env cs) (ht : tgsOf env.scope.names ts = some t) (r : Rel W.H A env σ fr s)
    (h : tupW v σ fun xs => xs.length = t.length ∧ stsW t xs cs fr σ K) {vv : Value} (hv : ab vv = v) :
    wpAny W.M A (assign (.Tuple ts k p) env vv) (PostS W.H A env σ s fun _ σ' fr' => K fr' σ') NoE s := by
  obtain ⟨a, items, e, hit, hlen, h⟩ := tup_elim r.toRelG h
  rw [ab_ref (hv.trans e)]
  show wpAny W.M A (do standAt p; unpack (.ref a) (assignEach ts env)) _ _ s
  obtain ⟨l1, l2, l3⟩ := each_len (env := env) ht
  refine wpAny_bind (wpAny_standAt (wpAny_unpack_tuple R.handled hit (by rw [l1, ← hlen]; simp) l3 fun h' he => ?_))
  have hk : ∀ b o, s.heap.get? b = some o → h'.get? b = some o := fun b o e => he b o (Nat.ne_of_lt (Heap.lt_size e)) e
  have t0 : Stp No σ s σ { s with heap := h' } := .ext hk ⟨h', s.toks, rfl⟩
  have r0 := r.step (s' := { s with heap := h' }) (r.toRelG.ext hk) t0
  exact wpAny_mono (tup_assign E ts t items.toList fr σ _ ht r0 h) (fun _ _ p => p.trans t0.up) fun _ _ x => x

theorem swS_ok (E : EnvOK W env cs) {ts : List PySem.Expr} {k : Nat} {tp : Pos} {value : PySem.Expr} {r : Option (List Str)} (h : swS env.scope.names [.Tuple ts k tp] value = some r) : swappedStores [.Tuple ts k tp] value env = pure r := by
  have hb : (env.blockKind != ScopeKind.function) = false := by unfold Env.blockKind; rw [E.kind]; rfl
  by_cases hv : ∃ vs k' vp, value = .Tuple vs k' vp
  · obtain ⟨vs, k', vp, rfl⟩ := hv
    unfold swS at h
    unfold swappedStores
    simp only [hb] at h ⊢
    skip
    split at h
    · cases h; rename_i c; exact (if_pos c).trans rfl
    · rename_i c; refine (if_neg c).trans ?_
      split at h
      · cases h; rename_i c2; exact (if_pos c2).trans rfl
      · rename_i c2; refine (if_neg c2).trans ?_
        split at h
        · cases h; rename_i c3; exact (if_pos c3).trans rfl
        · rename_i c3; refine (if_neg c3).trans ?_
          split at h
          · cases h; rename_i c4; exact (if_pos c4).trans rfl
          · rename_i c4; refine (if_neg c4).trans ?_
            split at h
            · cases h
            · cases h; rename_i c5; exact (if_neg c5).trans rfl
  · have e1 : swS env.scope.names [.Tuple ts k tp] value = some none := by
      cases value <;> first | rfl | exact absurd ⟨_, _, _, rfl⟩ hv
    rw [e1] at h; cases h
    cases value <;> first | rfl | exact absurd ⟨_, _, _, rfl⟩ hv
end Mine

end
section -- F15b
open Builtin Builtin.Str Builtin.BaseException Builtin.Exceptions
namespace Mine
variable {W : Wd} {n : Nat} {gl : Str → Option V} {env : Env} {cs : List Addr} {fr : List V} {σ : St} {A : Around} {s s' : Shared} {L : Addr → Prop}

theorem ExcC.keeps {h h' : Heap} {C : Addr} (x : ExcC h C) (hk : ∀ b o, h.get? b = some o → h'.get? b = some o) : ExcC h' C := by
  obtain ⟨cd, dd, f0, mN, h1, h2, h3, h4⟩ := x
  exact ⟨cd, dd, f0, mN, hk _ _ h1, h2.keeps hk, h3, h4⟩
noncomputable def ExcO (h : Heap) (e C t : Addr) : Prop := ∃ o vs, h.get? e = some o ∧ o.cls = .ref C ∧ o.data = .fields vs ∧ vs[0]? = some (.ref t)
theorem bexcArgs_own {M : Model} {E : Value → Shared → Prop} {e C t : Addr} {items : List Value} {Q : Value × List Value → Shared → Prop} (x : ExcO s.heap e C t) (ht : s.heap.TupAt t items) (hq : Q (.ref t, items) s) :
    wpAny M A (bexcArgs (.ref e)) Q E s := by
  obtain ⟨o, vs, ho, _, hd, h0⟩ := x
  obtain ⟨ot, k, hto, _, htd⟩ := ht
  unfold bexcArgs
  refine wpAny_bind (wpAny_field ho hd h0 (wpAny_bind (wpAny_seqItems hto htd ?_)))
  have : items.toArray.toList = items := by simp
  show wpAny M A (pure (Value.ref t, items.toArray.toList)) Q E s
  rw [this]; exact wpAny_pure hq
theorem bexcStr_own {prog : Program} {w : World} {E : Value → Shared → Prop} {e C t : Addr} {m : Str} {u : Tok} {Q : Fin → Shared → Prop} (x : ExcO s.heap e C t) (ht : s.heap.TupAt t [.str m u]) (hq : Q (.done (.ret (.str m u))) s) :
    wpAny (model prog w) A (Builtin.«BaseException.__str__» ⟨[.ref e], []⟩) Q E s := by
  unfold Builtin.«BaseException.__str__»
  repeat (first | with_reducible refine bexcArgs_own x ht ?_ | wp_step)
  exact hq
theorem check_own {M : Model} {E : Value → Shared → Prop} {e C t : Addr} {Q : Unit → Shared → Prop} (c : ExcC s.heap C) (x : ExcO s.heap e C t) (hq : Q () s) : wpAny M A (checkBuiltinCall "BaseException.__str__" ⟨[.ref e], []⟩) Q E s := by
  obtain ⟨cd, dd, f0, mN, hC, hN, h3, h4⟩ := c
  have hk : builtinKind "BaseException.__str__" = some .slot := by decide +kernel
  have hsplit : splitId "BaseException.__str__" = some ("BaseException", "__str__") := by decide +kernel
  have ha := F.args_bexc_str (.ref e)
  simp only [checkBuiltinCall, hk, hsplit]
  obtain ⟨o, vs, ho, hc, hd, h0⟩ := x
  simp only [isInstance]
  obtain ⟨hp, g, d, tk, os⟩ := s
  refine wpAny_bind (wpAny_bind ?_)
  simp only [typeOf]
  refine wpAny_bind (wpAny_load ho (wpAny_pure ?_))
  rw [hc]
  refine wpAny_isSubtype_exc hC ?_
  have hb : ((Value.ref C :: bmV).contains (.type "BaseException")) = true := by rw [List.contains_cons]; rfl
  rw [hb]
  simp only [Bool.not_true, Bool.false_eq_true, if_false]
  cases hsig : Manifest.signature? "BaseException.__str__" with
  | none => exact wpAny_pure hq
  | some sig =>
    simp only [argsOk, hsig] at ha
    have h2 : Bind.checkArgs "BaseException.__str__" sig ⟨[.ref e], []⟩ = pure () := ha
    show wpAny M A (Bind.checkArgs "BaseException.__str__" sig ⟨[.ref e], []⟩) Q E _
    rw [h2]; exact wpAny_pure hq
theorem call_bexcStr_own {prog : Program} {w : World} {E : Value → Shared → Prop} {e C t : Addr} {m : Str} {u : Tok} {Q : Value → Shared → Prop} (c : ExcC s.heap C) (x : ExcO s.heap e C t) (ht : s.heap.TupAt t [.str m u]) (hq : Q (.str m u) s) :
    wpAny (model prog w) A (call (.builtin "BaseException.__str__") [.ref e]) Q E s := by
  refine wpAny_call (codeAny_call_builtin PySem.F.excStr_ValueError.str.plain F.entry_bexc_str (check_own c x (wpAny_mono (bexcStr_own x ht (Q := fun fin s' => ∃ v, fin = .done (.ret v) ∧ Q v s') ⟨_, rfl, hq⟩) (fun fin s' h' => ?_) fun _ _ h' => h')))
  obtain ⟨v, rfl, hv⟩ := h'; exact hv
theorem special_own {M : Model} {E : Value → Shared → Prop} {e C t : Addr} {Q : Option Value → Shared → Prop} (c : ExcC s.heap C) (x : ExcO s.heap e C t) (hq : wpAny M A (call (.builtin "BaseException.__str__") [.ref e]) (fun v => Q (some v)) E s) :
    wpAny M A (callSpecial? (.ref e) "__str__") Q E s := by
  obtain ⟨cd, dd, f0, mN, hC, hN, h3, h4⟩ := c
  obtain ⟨o, vs, ho, hc, hd, h0⟩ := x
  have hB := PySem.F.excStr_ValueError.str.lookup
  have hrest : lookupAlong bmV "__str__" = pure (some (.builtin "BaseException.__str__")) := by rw [typeLookup_eq, PySem.F.excBase_ValueError.mroIs] at hB; exact hB
  simp only [callSpecial?, specialOf, typeOf]
  obtain ⟨hp, g, d, tk, os⟩ := s
  refine wpAny_bind (wpAny_bind (wpAny_bind (wpAny_load ho (wpAny_pure ?_))))
  rw [hc, typeLookup_eq]
  refine wpAny_bind (wpAny_mroOf_exc hC ?_)
  rw [lookupAlong_cons]
  refine wpAny_bind (wpAny_classOwn_exc hC hN ?_)
  rw [h4]
  show wpAny M A (lookupAlong bmV "__str__") _ E _
  rw [hrest]
  refine wpAny_pure ?_
  simp only [PySem.F.excStr_ValueError.str.bind]
  exact wpAny_holding (wpAny_bind (wpAny_pure (wpAny_bind (wpAny_mono hq (fun v s' h' => wpAny_pure h') fun _ _ h' => h'))))
theorem strOf_own {prog : Program} {w : World} {E : Value → Shared → Prop} {e C t : Addr} {m : Str} {u : Tok} {Q : Value → Shared → Prop} (hu : A.units < cLine) (c : ExcC s.heap C) (x : ExcO s.heap e C t) (ht : s.heap.TupAt t [.str m u]) (hq : Q (.str m u) s) :
    wpAny (model prog w) A (Builtin.Str.strOf (.ref e)) Q E s := by
  unfold Builtin.Str.strOf
  repeat (first | with_reducible refine wpAny_cRoomFor hu ?_ | with_reducible refine special_own c x (call_bexcStr_own c x ht ?_) | wp_step)
  exact hq
theorem str_own {prog : Program} {w : World} {E : Value → Shared → Prop} {e C t : Addr} {m : Str} {u : Tok} {Q : Value → Shared → Prop} (hu : A.units + 2 < cLine) (c : ExcC s.heap C) (x : ExcO s.heap e C t) (ht : s.heap.TupAt t [.str m u]) (hq : Q (.str m u) s) :
    wpAny (model prog w) A (call (.type "str") [.ref e]) Q E s :=
  callType_new F.called_str (by decide) (F.typeCall_str_1 _) (F.newCall_str_1 _) (fun obj => F.args_object_init_2 obj _) F.entry_str_new
    (meets_str_new (S := fun A' R s' => A'.units + 1 < cLine ∧ ExcC s'.heap C ∧ ExcO s'.heap e C t ∧ s'.heap.TupAt t [.str m u] ∧ R (.ok (.ret (.str m u))) s')
      fun _ _ A' _ _ hq => strOf_own (A := A'.in1) hq.1 hq.2.1 hq.2.2.1 hq.2.2.2.1 hq.2.2.2.2)
    ⟨(show A.units + 1 + 1 < cLine from hu), c, x, ht, typeIs_str _ _ _, hq⟩
end Mine

end
section -- F15c
namespace Mine
variable {W : Wd} {n : Nat} {gl : Str → Option V} {env : Env} {cs : List Addr} {fr : List V} {σ : St} {A : Around} {s s' : Shared} {L : Addr → Prop}

theorem ObjR.nodict {h : Heap} {a : Addr} {x : O} (r : ObjR h a x) {o : Obj} (e : h.get? a = some o) : ∀ es n, o.data ≠ .dict es n := by
  intro es n q
  cases x with
  | lst xs => obtain ⟨i, ⟨k, e'⟩, _⟩ := r; rw [e'] at e; cases e; cases q
  | ro xs => obtain ⟨i, ⟨o', e', _, k, hd⟩, _⟩ := r; rw [e'] at e; cases e; rw [hd] at q; cases q
  | tup xs => obtain ⟨i, ⟨o', e', _, k, hd⟩, _⟩ := r; rw [e'] at e; cases e; rw [hd] at q; cases q
  | rng a b c => obtain ⟨t, u, v, e'⟩ := r; rw [show h.get? _ = some _ from e'] at e; cases e; cases q
  | cell v => obtain ⟨c, ⟨o', e', hd⟩, _⟩ := r; rw [e'] at e; cases e; rw [hd] at q; cases q
  | fn f => obtain ⟨o', e', hd⟩ := r; rw [e'] at e; cases e; rw [hd] at q; cases q
  | tab d => rw [show h.get? _ = some _ from r] at e; cases e; cases q
  | code c => obtain ⟨o', vs, t, e', hd, _⟩ := r; rw [e'] at e; cases e; rw [hd] at q; cases q
/-- slots of frames are filled -/
theorem slots_step {H : Heap} (r : RelG H σ s) {h6 : Heap} {tk : Nat} (hH : ∀ b o, H.get? b = some o → h6.get? b = some o) (k1 : ∀ b o, s.heap.get? b = some o → (∀ es n, o.data ≠ .dict es n) → h6.get? b = some o)
    (k2 : ∀ b o, s.heap.get? b = some o → ∃ sl, h6.get? b = some { o with slots := sl }) : RelG H σ { s with heap := h6, toks := tk } ∧ Stp No σ s σ { s with heap := h6, toks := tk } :=
  ⟨⟨hH, fun a x e => (r.objs a x e).at fun o eo => k1 a o eo ((r.objs a x e).nodict eo), r.own⟩,
   ⟨fun b o e _ _ hd => k1 b o e hd, fun b o e _ _ => k2 b o e, fun _ x e => .inl ⟨x, e, id⟩, fun b o e => let ⟨sl, e'⟩ := k2 b o e; ⟨_, e'⟩, ⟨h6, tk, rfl⟩⟩⟩
theorem land {B h6 : Heap} {s1 : Shared} {tk : Nat} (r : RelG W.H σ s1) (hHB : W.H.StaysIn B) (hB : ∀ b o, s1.heap.get? b = some o → (∀ es n, o.data ≠ .dict es n) → B.get? b = some o) (hs : B.StaysIn h6) (hu : s1.heap.UpToSlots h6) :
    RelG W.H σ { s1 with heap := h6, toks := tk } ∧ Stp No σ s1 σ { s1 with heap := h6, toks := tk } := by
  refine slots_step r (fun b o e => hs b o (hHB b o e)) (fun b o e hd => hs b o (hB b o e hd)) fun b o e => ?_
  by_cases hf : ∃ vs, o.data = .fields vs
  · obtain ⟨vs, hf⟩ := hf
    exact ⟨o.slots, hs b o (hB b o e fun es n q => by rw [hf] at q; cases q)⟩
  · exact hu b o e fun vs q => hf ⟨vs, q⟩

noncomputable def Is {α β : Type} (x : α) (o : Option β) (f : β → α) : Prop := match o with
  | none => True
  | some b => x = f b
theorem Is.mp {α β : Type} {x : α} {o : Option β} {f : β → α} {b : β} (h : Is x o f) (e : o = some b) : x = f b := by subst e; exact h
theorem one_is {α : Type} {l : List α} {x : α} (h : one? l = some x) : l = [x] := by
  cases l with
  | nil => cases h
  | cons y r =>
    replace h : (if r.isEmpty then some y else none) = some x := h
    split at h
    · rename_i q; cases h; rw [List.isEmpty_iff.mp q]
    · cases h
theorem eCall_is' (e : PySem.Expr) : Is e (eCall e) fun q => .Call q.1 q.2.1 q.2.2.1 q.2.2.2 := by cases e <;> first | exact trivial | rfl
theorem eName_is' (e : PySem.Expr) : Is e (eName e) fun q => .Name q.1 q.2 := by cases e <;> first | exact trivial | rfl
theorem eCmp_is' (e : PySem.Expr) : Is e (eCmp e) fun q => .Compare q.1 q.2.1 q.2.2.1 q.2.2.2 := by cases e <;> first | exact trivial | rfl
theorem eList_is' (e : PySem.Expr) : Is e (eList e) fun q => .List q.1 q.2 := by cases e <;> first | exact trivial | rfl
theorem sRet_is' (e : Stmt) : Is e (sRet e) fun q => .Return q.1 q.2 := by cases e <;> first | exact trivial | rfl
theorem eCall_is {e f : PySem.Expr} {a : List PySem.Expr} {k : List Keyword} {p : Pos} (h : eCall e = some (f, a, k, p)) : e = .Call f a k p := (eCall_is' e).mp h
theorem eName_is {e : PySem.Expr} {x : Str} {p : Pos} (h : eName e = some (x, p)) : e = .Name x p := (eName_is' e).mp h
theorem eCmp_is {e l : PySem.Expr} {o : List CmpOp} {r : List PySem.Expr} {p : Pos} (h : eCmp e = some (l, o, r, p)) : e = .Compare l o r p := (eCmp_is' e).mp h
theorem eList_is {e : PySem.Expr} {l : List PySem.Expr} {p : Pos} (h : eList e = some (l, p)) : e = .List l p := (eList_is' e).mp h
theorem sRet_is {e : Stmt} {x : Option PySem.Expr} {p : Pos} (h : sRet e = some (x, p)) : e = .Return x p := (sRet_is' e).mp h
theorem isEq_is {o : CmpOp} (h : isEq o = true) : o = .Eq := by cases o <;> first | rfl | cases h
theorem stCall_is' (st : Stmt) : match stCall st with
    | none => True
    | some e => (∃ p, st = .Expr e p) ∨ ∃ x q p, st = .Assign [.Name x q] e p := by
  cases st with
  | Expr e' p => exact .inl ⟨p, rfl⟩
  | Assign ts v p =>
    show match ((one? ts).bind eName).map (fun _ => v) with
      | none => True
      | some e => (∃ p', Stmt.Assign ts v p = .Expr e p') ∨ ∃ x q p', Stmt.Assign ts v p = .Assign [.Name x q] e p'
    cases h1 : (one? ts).bind eName with
    | none => exact trivial
    | some xq =>
      obtain ⟨x, q⟩ := xq
      obtain ⟨t, h3, h4⟩ := Option.bind_eq_some_iff.mp h1
      exact .inr ⟨x, q, p, by rw [one_is h3, eName_is h4]⟩
  | _ => exact trivial
theorem stCall_is {st : Stmt} {e : PySem.Expr} (h : stCall st = some e) : (∃ p, st = .Expr e p) ∨ ∃ x q p, st = .Assign [.Name x q] e p := by
  have := stCall_is' st; rw [h] at this; exact this
theorem strC_is {c : PySem.Expr} {s x : Str} (h : strC c = some (s, x)) : ∃ sp xp cp, c = .Call (.Name s sp) [.Name x xp] [] cp := by
  obtain ⟨⟨g, ar, ks, p⟩, h1, h2⟩ := Option.bind_eq_some_iff.mp h
  obtain ⟨⟨s', sp⟩, h3, h4⟩ := Option.bind_eq_some_iff.mp h2
  obtain ⟨a, h5, h6⟩ := Option.bind_eq_some_iff.mp h4
  obtain ⟨⟨x', xp⟩, h7, h8⟩ := Option.bind_eq_some_iff.mp h6
  dsimp only at h3 h5 h8
  split at h8
  · rename_i hk
    cases h8
    exact ⟨sp, xp, p, by rw [eCall_is h1, eName_is h3, one_is h5, eName_is h7, List.isEmpty_iff.mp hk]⟩
  · cases h8
theorem nilC_is {c : PySem.Expr} {d : Str} (h : nilC c = some d) : ∃ dp lp cp, c = .Compare (.Name d dp) [.Eq] [.List [] lp] cp := by
  obtain ⟨⟨l, o, r, p⟩, h1, h2⟩ := Option.bind_eq_some_iff.mp h
  obtain ⟨⟨d', dp⟩, h3, h4⟩ := Option.bind_eq_some_iff.mp h2
  obtain ⟨o', h5, h6⟩ := Option.bind_eq_some_iff.mp h4
  obtain ⟨r', h7, h8⟩ := Option.bind_eq_some_iff.mp h6
  obtain ⟨⟨l', lp⟩, h9, h10⟩ := Option.bind_eq_some_iff.mp h8
  dsimp only at h3 h5 h7 h10
  split at h10
  · rename_i hk
    cases h10
    obtain ⟨q1, q2⟩ := Bool.and_eq_true_iff.mp hk
    exact ⟨dp, lp, p, by rw [eCmp_is h1, eName_is h3, one_is h5, one_is h7, eList_is h9, isEq_is q1, List.isEmpty_iff.mp q2]⟩
  · cases h10
theorem retC_is {hb : List Stmt} {c : PySem.Expr} (h : retC hb = some c) : ∃ p, hb = [.Return (some c) p] := by
  obtain ⟨st, h1, h2⟩ := Option.bind_eq_some_iff.mp h
  obtain ⟨⟨x, p⟩, h3, h4⟩ := Option.bind_eq_some_iff.mp h2
  dsimp only at h4
  exact ⟨p, by rw [one_is h1, sRet_is h3, h4]⟩
theorem typIs_is {v : Option V} {t : String} (h : typIs v t = true) : v = some (.typ t) := by
  cases v with
  | none => cases h
  | some v =>
    cases v with
    | typ u => replace h : (u == t) = true := h; rw [eq_of_beq h]
    | _ => cases h
theorem refOf_is {v : Option V} {a : Addr} (h : refOf v = some a) : v = some (.ref a) := by
  cases v with
  | none => cases h
  | some v =>
    cases v with
    | ref u => cases h; rfl
    | _ => cases h
theorem strCallOk_is {gl : Str → Option V} {ns : List (Str × NameKind)} {e : Str} {c : PySem.Expr} (h : strCallOk gl ns e c = true) : ∃ sp xp cp, c = .Call (.Name "str" sp) [.Name e xp] [] cp ∧ gl ("str" : Str) = some (.typ "str") ∧ ns.lookup ("str" : Str) = some .globalImplicit ∧ ns.lookup e = some .local ∧ (e == ("__debug__" : Str)) = false := by
  unfold strCallOk at h
  cases hq : strC c with
  | none => rw [hq] at h; cases h
  | some q =>
    obtain ⟨s, x⟩ := q
    rw [hq] at h
    simp only [Bool.and_eq_true, beq_iff_eq, bne_iff_ne] at h
    obtain ⟨⟨⟨⟨⟨rfl, rfl⟩, hg⟩, hsl⟩, hxl⟩, hxd⟩ := h
    obtain ⟨sp, xp, cp, e⟩ := strC_is hq
    exact ⟨sp, xp, cp, e, typIs_is hg, hsl, hxl, by simpa using hxd⟩

theorem name_glob (G : GlOK W.H gl) (K : EnvOK W env cs) {x : Str} {p : Pos} {v : V} (hl : env.scope.names.lookup x = some .globalImplicit) (hd : (x == ("__debug__" : Str)) = false) (hx : gl x = some v) (hb : ∀ b o, W.H.get? b = some o → s.heap.get? b = some o)
    {Z E : Value → Shared → Prop} (hZ : ∀ v', ab v' = v → Z v' s) : wpAny W.M A (eval (.Name x p) env) Z E s := by
  refine wpAny_Name ?_ hd
  obtain ⟨v', hab, mg, hg, hm⟩ := G _ _ hx
  have hg' := hg.keeps hb
  have e1 : loadName env x = loadGlobal env x := by
    have hbk : env.blockKind = .function := by unfold Env.blockKind; rw [K.kind]; rfl
    have hk : env.kindOf x = some .globalImplicit := hl
    unfold loadName
    rw [hbk, hk, K.kind]
    rfl
  rw [e1]
  unfold loadGlobal
  rw [K.glob, K.bts]
  refine wpAny_bind (wpAny_nsGet hg' ?_)
  rcases hm with hm | ⟨hm, mb, hbb, hmb⟩
  · rw [hm]; exact wpAny_pure (hZ _ hab)
  · rw [hm]
    exact wpAny_bind (wpAny_nsGet (hbb.keeps hb) (by rw [hmb]; exact wpAny_pure (hZ _ hab)))
theorem name_loc (K : EnvOK W env cs) {x : Str} {p : Pos} {v : Value} {m : Str → Option Value} (hl : env.scope.names.lookup x = some .local) (hd : (x == ("__debug__" : Str)) = false) (hn : s.heap.Ns env.locals m) (hx : m x = some v)
    {Z E : Value → Shared → Prop} (hZ : Z v s) : wpAny W.M A (eval (.Name x p) env) Z E s :=
  wpAny_Name (wpAny_loadName_local K.kind hl hn hx hZ) hd

theorem call_raises (G : GlOK W.H gl) {f : Str} {fp q : Pos} {args : List PySem.Expr} {C : Addr} {R0 : Str → St → Prop} (K : EnvOK W env cs) (hpl : args.all plainE = true) (R : Room n A) (r : Rel W.H A env σ fr s)
    (h : xW W n (er gl env.scope.names (.Name f fp)) cs fr σ fun fv σ1 => lW W n (erL gl env.scope.names args) cs fr σ1 fun vs σ2 => ∃ m, CallRz W n fv vs C m (R0 m) σ2) :
    wpAny W.M A (eval (.Call (.Name f fp) args [] q) env) (fun _ _ => False) (fun ev s' => ∃ m, RzPost W A σ s C m (R0 m) ev s') s := by
  obtain ⟨q1, q2, q3⟩ := star_plain (env := env) (pos := q) hpl
  refine wpAny_Call_ofName (wpAny_mono ((snd G (.Name f fp)).1 _ _ _ _ _ _ K h A s R r) (fun fv s1 p1 => ?_) fun _ _ x => x.elim)
  obtain ⟨σ1, h1, g1, t1⟩ := p1
  refine callWith_of (P := fun hp => ∃ σ' s', hp = s'.heap ∧ isFnV W (ab fv) σ' ∧ RelG W.H σ' s') (by rw [q2]; rfl) (fun hp ⟨σ', s', e, hfn, g⟩ => by rw [e]; exact keeper_fn hfn g rfl) ?_
  refine evalArgs_ok q3 rfl ?_
  refine wpAny_mono (snd_args args (fun e _ => (snd G e).1) _ _ _ _ _ _ K h1 A s1 R (r.step g1 t1)) (fun vs s2 p2 => ?_) fun _ _ x => x.elim
  obtain ⟨σ2, ⟨m, h2⟩, g2, t2⟩ := p2
  have r2 := (r.step g1 t1).step g2 t2
  refine wpAny_pure ⟨⟨σ2, s2, rfl, h2.1, g2⟩, ?_⟩
  refine wpAny_mono (h2.2 A s2 R g2 r2.frs fv vs rfl rfl) (fun _ _ x => x) fun ev s' p => ⟨m, ?_⟩
  obtain ⟨e, t, u, σ3, s3, B, l, he, hR, g3, t3, rest⟩ := p
  exact ⟨e, t, u, σ3, s3, B, l, he, hR, g3, (t1.trans t2).trans t3, rest⟩
theorem body_raises (G : GlOK W.H gl) {st : Stmt} {f : Str} {fp q : Pos} {args : List PySem.Expr} {C : Addr} {R0 : Str → St → Prop} {Z : Flow → Shared → Prop} (hst : tryCall st = some (f, fp, args, q)) (K : EnvOK W env cs) (hpl : args.all plainE = true) (R : Room n A) (r : Rel W.H A env σ fr s)
    (h : xW W n (er gl env.scope.names (.Name f fp)) cs fr σ fun fv σ1 => lW W n (erL gl env.scope.names args) cs fr σ1 fun vs σ2 => ∃ m, CallRz W n fv vs C m (R0 m) σ2) :
    wpAny W.M A (exec st env) Z (fun ev s' => ∃ m, RzPost W A σ s C m (R0 m) ev s') s := by
  obtain ⟨e, he, rfl⟩ : ∃ e, stCall st = some e ∧ e = .Call (.Name f fp) args [] q := by
    obtain ⟨e, he, h1⟩ := Option.bind_eq_some_iff.mp hst
    obtain ⟨⟨g, ar, ks, p⟩, h2, h3⟩ := Option.bind_eq_some_iff.mp h1
    obtain ⟨⟨x, xp⟩, h4, h5⟩ := Option.bind_eq_some_iff.mp h3
    dsimp only at h4 h5
    split at h5
    · rename_i hk
      cases h5
      refine ⟨e, he, ?_⟩
      rw [eCall_is h2, eName_is h4, List.isEmpty_iff.mp hk]
    · cases h5
  rcases stCall_is he with ⟨pos', rfl⟩ | ⟨x', px, pos', rfl⟩
  · have hi : interactive env = false := by unfold interactive; rw [K.kind]; rfl
    rw [exec_Expr env _ _ hi rfl]
    exact wpAny_bind (wpAny_standAt (wpAny_bind (wpAny_mono (call_raises G K hpl R r h) (fun _ _ x => x.elim) fun _ _ x => x)))
  · rw [arm_exec_Assign]
    refine wpAny_bind (wpAny_standAt ?_)
    have e1 : swapsWithSole [.Name x' px] (.Call (.Name f fp) args [] q) pos'.line env = pure false := rfl
    rw [e1]
    refine wpAny_bind (wpAny_pure ?_)
    simp only [Bool.false_eq_true, if_false]
    exact wpAny_bind (wpAny_mono (call_raises G K hpl R r h) (fun _ _ x => x.elim) fun _ _ x => x)
end Mine

end
section -- F15d
namespace Mine
variable {W : Wd} {n : Nat} {gl : Str → Option V} {env : Env} {cs : List Addr} {fr : List V} {σ : St} {A : Around} {s s' : Shared} {L : Addr → Prop}

theorem strCall_ok (G : GlOK W.H gl) (K : EnvOK W env cs) {ex : Str} {c' : PySem.Expr} (h : strCallOk gl env.scope.names ex c' = true) {m : Str → Option Value} {e C t : Addr} {msg : Str} {u : Tok} (hn : s.heap.Ns env.locals m) (hm : m ex = some (.ref e))
    (hb : ∀ b o, W.H.get? b = some o → s.heap.get? b = some o) (hu : A.units + 2 < cLine) (hC : ExcC s.heap C) (hx : ExcO s.heap e C t) (ht : s.heap.TupAt t [.str msg u]) {Z E : Value → Shared → Prop} (hZ : Z (.str msg u) s) : wpAny W.M A (eval c' env) Z E s := by
  obtain ⟨sp, xp, cp, rfl, hty, hsl, hxl, hxd⟩ := strCallOk_is h
  refine wpAny_Call_ofName (name_glob G K hsl (by decide) hty hb fun v' hv' => ?_)
  rw [ab_typ hv']
  refine PySem.callWith_type rfl (evalArgs_ok (.inr ⟨_, _, rfl⟩) rfl ?_)
  refine Calls.spliced_cons (name_loc K hxl hxd hn hm ?_)
  refine Calls.spliced_nil (wpAny_pure ?_)
  exact str_own hu hC hx ht hZ
theorem undefs_get : ∀ k j, (undefs k).getD j V.undef = V.undef := fun k => by
  induction k with
  | zero => intro j; rfl
  | succ k ih => intro j; cases j with
    | zero => rfl
    | succ j => simpa [undefs] using ih j
/-- the state when a caught exception's suite begins -/
theorem Rel.land {B h6 : Heap} {s1 : Shared} {σ1 : St} {tk : Nat} (r : Rel W.H A env σ fr s) (g : RelG W.H σ1 s1) (t : Stp No σ s σ1 s1) (hHB : W.H.StaysIn B) (hB : ∀ b o, s1.heap.get? b = some o → (∀ es n, o.data ≠ .dict es n) → B.get? b = some o) (hs : B.StaysIn h6) (hu : s1.heap.UpToSlots h6) :
    Rel W.H A env σ1 fr { s1 with heap := h6, toks := tk } ∧ Stp No σ s σ1 { s1 with heap := h6, toks := tk } := by
  obtain ⟨g6, t6⟩ := Mine.land (tk := tk) g hHB hB hs hu
  exact ⟨r.step g6 (t.trans t6), t.trans t6⟩
theorem sns_try (G : GlOK W.H gl) {st : Stmt} {c : Str} {cp hp p : Pos} {nm : Option Str} {hb : List Stmt} (hst : SndSs W gl [st]) : SndS W gl (.Try [st] [.ExceptHandler (some (.Name c cp)) nm hb hp] [] [] p) := by
  intro n env cs fr σ Q K h A s R r Tp
  rw [es_try] at h
  unfold tryS at h
  cases htc : tryCall st with
  | none => rw [htc] at h; exact h.elim
  | some q0 =>
  obtain ⟨f, fp, args, q⟩ := q0
  rw [htc] at h
  cases hhd : hdOf gl env.scope.names nm hb with
  | none => rw [hhd] at h; exact h.elim
  | some hd =>
  rw [hhd] at h
  cases hgc : refOf (gl c) with
  | none => rw [hgc] at h; exact h.elim
  | some C =>
  rw [hgc] at h
  dsimp only at h
  split at h
  case isFalse => exact h.elim
  rename_i hcond
  simp only [Bool.and_eq_true, beq_iff_eq, bne_iff_ne] at hcond
  obtain ⟨⟨hpl, hcl, hcd⟩, hfl⟩ := hcond
  rw [s_try] at h
  refine wpAny_Try_except ?_
  rcases h with h | ⟨hC, h⟩
  · have h' : sW W n (erSs gl env.scope.names [st]) cs fr σ Q := by
      rw [ess_cons, ess_nil, s_seq]
      exact (congrArg (fun q => sW W n (erS gl env.scope.names st) cs fr σ q) (funext fun f => funext fun σ1 => funext fun fr1 => by cases f <;> rfl)).mpr h
    refine wpAny_mono (hst _ _ _ _ _ _ K h' A s R r Tp) (fun f s1 p1 => ?_) fun _ _ x => x.elim
    cases f with
    | next => exact wpAny_execs_nil p1
    | brk => exact p1
    | cont => exact p1
    | ret v => exact p1
  refine wpAny_execs_cons (wpAny_mono (body_raises (Z := fun _ _ => False) (R0 := fun m σ3 => hdW hd m fr σ3 Q) G htc K hpl R r h) (fun _ _ x => x.elim) fun ev s1 ⟨m, hz⟩ => ?_)
  obtain ⟨e, t, u, σ1, s1', B, l, rfl, hR, g1, t1, hl, hHB, hB, hfly, htup, hup, h', tk, rfl⟩ := hz
  obtain ⟨hf, outer, hfr⟩ := id Tp
  rw [hfr] at hl; cases hl
  refine wpAny_looks_onW hfr hf hfly fun h4 hheld4 up4 => wpAny_landsW hheld4 fun h5 hfl5 up5 => ?_
  dsimp only
  have hgl : gl c = some (.ref C) := refOf_is hgc
  refine wpAny_handleBy_cons (codeAny_handlers_test (name_glob G K hcl (by simpa using hcd) hgl (fun b o e => hfl5.1 b o (hHB b o e)) fun v' hv' => ?_)) (by intro q; cases q)
  rw [ab_ref hv']
  obtain ⟨oe, hoe, hoec⟩ := hfl5.there
  obtain ⟨cd, dd, f0, mN, hC1, hC2, hC3, hC4⟩ := hC.keeps fun b o e => hfl5.1 b o (hHB b o e)
  refine wpAny_excMatches_sub_self hC1 hoe hoec rfl ?_
  have hu : A.units + 10 * n ≤ 9000 := R.units
  have hcl' : cLine = 9900 := rfl
  obtain ⟨c', hrc, hh2⟩ := Option.bind_eq_some_iff.mp hhd
  clear hhd
  obtain ⟨rp, rfl⟩ := retC_is hrc
  clear hrc
  cases nm with
  | some ex => -- return str(error)
    have hhd : (if strCallOk gl env.scope.names ex c' then some (Hd.retStr (place env.scope.names ex)) else none) = some hd := hh2
    split at hhd
    case isFalse => cases hhd
    rename_i hsc
    cases hhd
    refine codeAny_handlers_suite_as ?_
    refine lands_againW hfl5 fun h6 hfl6 up6 => ?_
    obtain ⟨r6, t6⟩ := r.land (tk := tk) g1 t1 hHB hB hfl6.1 (((hup.trans up4).trans up5).trans up6)
    have hexl : env.scope.names.lookup ex = some .local := (strCallOk_is hsc).choose_spec.choose_spec.choose_spec.2.2.2.1
    obtain ⟨m0, hn6, hf6⟩ := r6.ns
    refine wpAny_storeName_local hexl hn6 (fun h7 hn7 hs7 => ?_) (by rw [K.kind]; rfl)
    obtain ⟨oe6, vs6, hoe6, hoec6, hoed6, hoe06⟩ := hfl6.first
    have hb7 : ∀ b o, W.H.get? b = some o → h7.get? b = some o := fun b o e => (hs7.2 b fun q => by rw [q, r.new] at e; cases e).trans (hfl6.1 b o (hHB b o e))
    obtain ⟨oL, esL, epL, eL, hdL, _⟩ := id hn6
    have hne : e ≠ env.locals := fun q => by rw [q] at hoe6; rw [hoe6] at eL; cases eL; rw [hoed6] at hdL; cases hdL
    have ht6 := ((htup.of_slots up4).of_slots up5).of_slots up6
    obtain ⟨ot, nt, hot, hotc, hotd⟩ := id ht6
    have hnt : t ≠ env.locals := fun q => by rw [q] at hot; rw [hot] at eL; cases eL; rw [hotd] at hdL; cases hdL
    refine wpAny_execs_cons (wpAny_Return_some (strCall_ok (A := A.mark (some (.ref e))) G K hsc hn7 (by simp) hb7 (show A.units + 2 < cLine by omega) (hC.keeps hb7) ⟨oe6, vs6, (hs7.2 _ hne).trans hoe6, hoec6, hoed6, hoe06⟩ ⟨ot, nt, (hs7.2 _ hnt).trans hot, hotc, hotd⟩ ?_))
    refine wpAny_nameGoes hexl hn7 (by rw [K.kind]; rfl) fun h8 m8 hn8 hs8 => ?_
    have hs68 : Heap.SameBut env.locals h6 h8 := hs7.trans hs8
    have hk : ∀ b o, ¬ At env.locals b → h6.get? b = some o → h8.get? b = some o := fun b o hb e => (hs68.2 b hb).trans e
    refine ⟨σ1, undefs fr.length, hR, ⟨r6.toRelG.hidden (L := At env.locals) (fun b hb => by rw [show b = env.locals from hb]; exact ⟨r6.off, r6.new⟩) hk, ⟨m8, hn8, fun i y hi hu => absurd (undefs_get _ _) hu⟩, r6.off, r6.new, r6.frs.at hs68 hn8⟩, ?_⟩
    exact t6.up.trans (.hidden hk (fun b o hb _ => by rw [show b = env.locals from hb]; obtain ⟨o, _, _, e, _⟩ := hn8; exact ⟨o, e⟩) ⟨h8, _, rfl⟩)
  | none => -- return data == []
    obtain ⟨d, hnc, hhd⟩ := Option.bind_eq_some_iff.mp hh2
    obtain ⟨dp, lp, cp', rfl⟩ := nilC_is hnc
    split at hhd
    case isFalse => cases hhd
    rename_i hdl
    cases hhd
    simp only [Bool.and_eq_true, beq_iff_eq, bne_iff_ne] at hdl
    refine codeAny_handlers_suite ?_
    refine lands_againW hfl5 fun h6 hfl6 up6 => ?_
    obtain ⟨r6, t6⟩ := r.land (tk := tk) g1 t1 hHB hB hfl6.1 (((hup.trans up4).trans up5).trans up6)
    obtain ⟨m0, hn6, hf6⟩ := r6.ns
    obtain ⟨hnu, hit⟩ := hR
    rw [nth_eq] at hnu hit
    obtain ⟨vd, hvd, hab⟩ := hf6 _ _ (place_of hdl.1) hnu
    rw [← hab] at hit
    obtain ⟨a, items, ea, hlist, hz, hq⟩ := litemsW_elim r6.toRelG hit
    have evd := ab_ref ea; subst evd
    refine wpAny_execs_cons (wpAny_Return_some (wpAny_Compare1 (name_loc K hdl.1 (by simpa using hdl.2) hn6 hvd ?_) rfl))
    refine wpAny_List_spliced (Calls.spliced_nil ⟨Nat.zero_le _, ?_⟩)
    have hnew := post_alloc (α := Value) (v := .ref h6.objs.size) (t := tk) (Q := fun _ σ' => Q (.ret (.bool (items.toList.map ab).isEmpty)) σ' fr) (L := No) r6.toRelG (objR_newList _ ([] : List Value) (Nat.zero_le _)) fun b hb _ => hq b hb
    obtain ⟨σ7, q7, g7, t7⟩ := hnew
    have r7 := r6.step g7 t7
    have hl1 : ({ s1' with heap := h6, toks := tk } : Shared).heap.IsList a items := hlist
    have hlt := hl1
    have hne : a ≠ h6.objs.size := by obtain ⟨o, e, _⟩ := hl1; exact Nat.ne_of_lt (Heap.lt_size e)
    have hL1 : (h6.push { cls := .type "list", data := .seq ([] : List Value).toArray }).IsList a items := hl1.push _
    have hL2 : (h6.push { cls := .type "list", data := .seq ([] : List Value).toArray }).IsList h6.objs.size #[] := ⟨_, Heap.get?_push_size _ rfl, rfl, _, rfl⟩
    have fin : ∀ b : Bool, b = (items.toList.map ab).isEmpty → PostS W.H A env σ s (fun f => Q (abF f)) (Flow.ret (.bool b)) { s1' with heap := h6.push { cls := .type "list", data := .seq ([] : List Value).toArray }, toks := tk } := fun b hb => by
      subst hb
      exact ⟨σ7, fr, q7, r7, (t6.trans t7).up⟩
    have hun : (A.mark (some (.ref e))).units < cLine := by show A.units < cLine; omega
    by_cases hsz : items.size = 0
    · have hr := SeqAt.RcAt.lists (A := A.mark (some (.ref e))) (s := { s1' with heap := h6.push { cls := .type "list", data := .seq ([] : List Value).toArray }, toks := tk }) hL1 hL2 (by simpa using hsz) hun (e := fun _ => true) fun j h1 h2 => by simp at h2
      have h0 : items = #[] := by simpa using hsz
      subst h0
      exact hr W.prog W.w _ _ (fin true rfl)
    · have hr := SeqAt.RcAt.lists_lengths (A := A.mark (some (.ref e))) (s := { s1' with heap := h6.push { cls := .type "list", data := .seq ([] : List Value).toArray }, toks := tk }) hL1 hL2 (by simpa using hsz) hun
      refine hr W.prog W.w _ _ (fin false ?_)
      cases hi : items.toList with
      | nil => exact absurd (by simpa using hi) (fun q : items = #[] => hsz (by rw [q]; rfl))
      | cons x xs => rfl
theorem sns_trys (G : GlOK W.H gl) {b : List Stmt} {hs : List ExceptHandler} {o f : List Stmt} {p : Pos} (hb : SndSs W gl b) : SndS W gl (.Try b hs o f p) := by
  rcases b with _ | ⟨st, _ | ⟨st', b⟩⟩
  · exact sns_bad fun _ => rfl
  · rcases hs with _ | ⟨⟨t, nm, hb', hp⟩, _ | ⟨h2, hs⟩⟩
    · exact sns_bad fun _ => rfl
    · cases t with
      | none => exact sns_bad fun _ => rfl
      | some t =>
        cases t with
        | Name c cp =>
          cases o with
          | nil => cases f with
            | nil => exact sns_try G hb
            | cons _ _ => exact sns_bad fun _ => rfl
          | cons _ _ => exact sns_bad fun _ => rfl
        | _ => exact sns_bad fun _ => rfl
    · cases t with
      | none => exact sns_bad fun _ => rfl
      | some t => cases t <;> exact sns_bad fun _ => rfl
  · exact sns_bad fun _ => rfl
theorem sns_raise {e c : Option PySem.Expr} {p : Pos} : SndS W gl (.Raise e c p) := by
  cases e with
  | none => exact sns_bad fun _ => rfl
  | some x =>
    cases x with
    | Call f args ks q =>
      cases f with
      | Name y yp =>
        rcases args with _ | ⟨a, _ | ⟨b, r⟩⟩
        · exact sns_bad fun _ => rfl
        · cases a with
          | Constant k kk kp =>
            cases k with
            | str m =>
              rcases ks with _ | ⟨k1, ks⟩
              · cases c with
                | none =>
                  intro n env cs fr σ Q K h A s R r Tp
                  rw [es_raise] at h
                  split at h
                  · split at h <;> exact h.elim
                  · exact h.elim
                | some _ => exact sns_bad fun _ => rfl
              · exact sns_bad fun _ => rfl
            | _ => exact sns_bad fun _ => rfl
          | _ => exact sns_bad fun _ => rfl
        · cases a with
          | Constant k kk kp => cases k <;> exact sns_bad fun _ => rfl
          | _ => exact sns_bad fun _ => rfl
      | _ => exact sns_bad fun _ => rfl
    | _ => exact sns_bad fun _ => rfl
end Mine

end
section -- F16
namespace Mine
variable {W : Wd} {n : Nat} {gl : Str → Option V} {env : Env} {cs : List Addr} {fr : List V} {σ : St} {A : Around} {s s' : Shared} {L : Addr → Prop}

theorem sns_unp (G : GlOK W.H gl) {ts : List PySem.Expr} {k : Nat} {tp p : Pos} {v : PySem.Expr} : SndS W gl (.Assign [.Tuple ts k tp] v p) := by
  intro n env cs fr σ Q K h A s R r Tp
  simp only [es_name, es_tup, es_ssub, es_aug, es_del, es_ret, es_ret0, es_if, es_while, es_for, es_pass, es_break, es_cont, unpX] at h
  rw [arm_exec_Assign]
  refine wpAny_bind (wpAny_standAt ?_)
  have e1 : swapsWithSole [.Tuple ts k tp] v p.line env = pure false := by cases v <;> rfl
  rw [e1]
  refine wpAny_bind (wpAny_pure ?_)
  simp only [Bool.false_eq_true, if_false]
  split at h
  · rename_i t ht hsw
    simp only [s_bad, s_skip, s_seq, s_set, s_unp, s_ssub, s_aug, s_del, s_exp, s_ret, s_ret0, s_brk, s_cont, s_ite, s_whl, s_for, Bool.false_eq_true, if_false] at h
    refine wpAny_bind (wpAny_mono ((snd G v).1 _ _ _ _ _ _ K h A s R r) (fun v' s1 p1 => ?_) fun _ _ x => x)
    obtain ⟨σ1, q1, r1, t1⟩ := afterE r p1
    rw [swS_ok K hsw]
    refine wpAny_bind (wpAny_pure ?_)
    show wpAny W.M A (assign (.Tuple ts k tp) env v' >>= fun _ => pure Flow.next) _ _ s1
    refine wpAny_bind (wpAny_mono (unpack_ok R K ht r1 q1 rfl) (fun _ s2 p2 => ?_) fun _ _ x => x)
    exact wpAny_pure (p2.trans t1)
  · rename_i t nms ht hsw
    split at h
    · rename_i hn
      simp only [s_bad, s_skip, s_seq, s_set, s_unp, s_ssub, s_aug, s_del, s_exp, s_ret, s_ret0, s_brk, s_cont, s_ite, s_whl, s_for, if_true] at h
      refine wpAny_bind (wpAny_mono ((snd G v).1 _ _ _ _ _ _ K h A s R r) (fun v' s1 p1 => ?_) fun _ _ x => x)
      obtain ⟨σ1, q1, r1, t1⟩ := afterE r p1
      rw [swS_ok K hsw]
      refine wpAny_bind (wpAny_pure ?_)
      obtain ⟨a, items, e, hit, hlen, q1⟩ := tup_elim r1.toRelG q1
      rw [ab_ref e]
      obtain ⟨m1, m2⟩ := tgs_names ht
      obtain ⟨l1, l2, l3⟩ := each_len (env := env) ht
      have hsz : nms.length = items.size := by rw [hn, m2, ← l2, ← hlen]; simp
      show wpAny W.M A (do
        rule "assign.swapped-stores"
        let items ← unpackItems (.ref a) nms.length none
        assignInOrder (nms.reverse.map fun n => bindName env n) items.reverse
        pure Flow.next) _ _ s1
      refine wpAny_bind (wpAny_rule (wpAny_bind ?_))
      rw [hsz]
      refine wpAny_unpackItems_tuple R.handled hit fun h' he => ?_
      have hk : ∀ b o, s1.heap.get? b = some o → h'.get? b = some o := fun b o e => he b o (Nat.ne_of_lt (Heap.lt_size e)) e
      have t0 : Stp No σ1 s1 σ1 { s1 with heap := h' } := .ext hk ⟨h', s1.toks, rfl⟩
      have r0 := r1.step (s' := { s1 with heap := h' }) (r1.toRelG.ext hk) t0
      refine wpAny_bind (wpAny_mono (sts_ok K (fun n => bindName env n) (fun x v Z s hh => wpAny_bindName hh) nms.reverse t.reverse items.toList.reverse fr σ1 _ (by rw [List.map_reverse, List.map_reverse, hn, m1]) r0 (by rw [List.map_reverse]; exact q1)) (fun _ s2 p2 => ?_) fun _ _ x => x)
      exact wpAny_pure (p2.trans (t1.trans t0.up))
    · exact h.elim
  · exact h.elim

theorem sns_while (G : GlOK W.H gl) {t : PySem.Expr} {b : List Stmt} {p : Pos} (hb : SndSs W gl b) : SndS W gl (.While t b [] p) := by
  intro n env cs fr σ Q K h A s R r Tp
  simp only [es_name, es_tup, es_ssub, es_aug, es_del, es_ret, es_ret0, es_if, es_while, es_for, es_pass, es_break, es_cont, s_bad, s_skip, s_seq, s_set, s_unp, s_ssub, s_aug, s_del, s_exp, s_ret, s_ret0, s_brk, s_cont, s_ite, s_whl, s_for, whW] at h
  obtain ⟨I, ⟨k, hI⟩, turn⟩ := h
  refine wpAny_While (codeAny_whileLoop (fun j s' => ∃ σ' fr', I j σ' fr' ∧ Rel W.H A env σ' fr' s' ∧ Stp (At env.locals) σ s σ' s') ?_ k ⟨σ, fr, hI, r, .refl ..⟩)
  rintro j s' ⟨σ', fr', hI', r', t'⟩
  refine wpAny_mono ((snd G t).2.1 _ _ _ _ _ _ K (turn j σ' fr' hI') A s' R r') (fun c s1 p1 => ?_) fun _ _ x => x.elim
  obtain ⟨σ1, q1, r1, t1⟩ := afterE r' p1
  cases c with
  | false =>
    simp only [Bool.false_eq_true, if_false] at q1 ⊢
    exact wpAny_execs_nil ⟨σ1, fr', q1, r1, t'.trans t1⟩
  | true =>
    simp only [if_true] at q1 ⊢
    refine wpAny_mono (hb _ _ _ _ _ _ K q1 A s1 R r1 Tp) (fun f s2 p2 => ?_) fun _ _ x => x.elim
    obtain ⟨σ2, fr2, q2, r2, t2⟩ := p2
    cases f with
    | next => obtain ⟨i, hi, hI2⟩ := q2; exact ⟨i, hi, σ2, fr2, hI2, r2, (t'.trans t1).trans t2⟩
    | cont => obtain ⟨i, hi, hI2⟩ := q2; exact ⟨i, hi, σ2, fr2, hI2, r2, (t'.trans t1).trans t2⟩
    | brk => exact ⟨σ2, fr2, q2, r2, (t'.trans t1).trans t2⟩
    | ret v => exact ⟨σ2, fr2, q2, r2, (t'.trans t1).trans t2⟩

theorem tg_ok {tgt : PySem.Expr} {tg : Tg} {v : V} {K : List V → St → Prop} (R : Room n A) (E : EnvOK W env cs) (ht : forTg env.scope.names tgt = some tg) (r : Rel W.H A env σ fr s) (h : tgW tg v cs fr σ K) {vv : Value} (hv : ab vv = v) :
    wpAny W.M A (assign tgt env vv) (PostS W.H A env σ s fun _ σ' fr' => K fr' σ') NoE s := by
  cases tgt with
  | Name x p =>
    replace ht : (tgOf env.scope.names x).map .one = some tg := ht
    cases q : tgOf env.scope.names x with
    | none => rw [q] at ht; cases ht
    | some t => rw [q] at ht; cases ht; exact assign_ok E q r h hv
  | Tuple ts k p =>
    replace ht : (tgsOf env.scope.names ts).map .many = some tg := ht
    cases q : tgsOf env.scope.names ts with
    | none => rw [q] at ht; cases ht
    | some t => rw [q] at ht; cases ht; exact unpack_ok R E q r h hv
  | _ => cases ht

theorem sns_for (G : GlOK W.H gl) {tgt it : PySem.Expr} {b : List Stmt} {p : Pos} (hb : SndSs W gl b) : SndS W gl (.For tgt it b [] p) := by
  intro n env cs fr σ Q K h A s R r Tp
  simp only [es_name, es_tup, es_ssub, es_aug, es_del, es_ret, es_ret0, es_if, es_while, es_for, es_pass, es_break, es_cont] at h
  split at h
  case h_2 => exact h.elim
  rename_i tg htg hns
  simp only [s_bad, s_skip, s_seq, s_set, s_unp, s_ssub, s_aug, s_del, s_exp, s_ret, s_ret0, s_brk, s_cont, s_ite, s_whl, s_for] at h
  refine wpAny_For (wpAny_mono ((snd G it).1 _ _ _ _ _ _ K h A s R r) (fun xv s1 p1 => ?_) fun _ _ x => x) (folded_ok hns)
  obtain ⟨σ1, q1, r1, t1⟩ := afterE r p1
  refine iter_ok R r1.toRelG q1 rfl fun I fp xs chk S h' itr hK hS0 hI hfm hfa hkeep _ => ?_
  obtain ⟨mL, hnL, hfL⟩ := r1.ns
  have hIL : I ≠ env.locals := fun e => by
    obtain ⟨o, _, _, e', _⟩ := hnL
    rw [← e, hI] at e'; cases e'
  have hLf : env.locals ∉ fp := fun hm => by
    rcases hfa _ hm with e | ⟨o, e⟩
    · exact hIL e.symm
    · rw [r1.off] at e; cases e
  generalize hs2 : ({ s1 with heap := h' } : Shared) = s2
  have hs2h : s2.heap = h' := by rw [← hs2]
  have hk2 : ∀ b o, s1.heap.get? b = some o → s2.heap.get? b = some o := by rw [hs2h]; exact hkeep
  have t2 : Stp No σ1 s1 σ1 s2 := .ext hk2 ⟨h', s1.toks, hs2.symm⟩
  have r2 : Rel W.H A env σ1 fr s2 := r1.step (r1.toRelG.ext hk2) t2
  have hσI : σ1 I = none := r1.toRelG.fresh hI
  have hHI : W.H.get? I = none := r1.toRelG.offbase hI
  let Lh : Addr → Prop := fun b => b = I ∨ At env.locals b
  have fin : ∀ {σ' s'}, Stp Lh σ1 s1 σ' s' → Stp (At env.locals) σ s σ' s' := fun {σ' s'} t =>
    t1.trans ⟨fun b o e hm hl => t.keep b o e hm fun q => q.elim (fun q => by subst q; rw [hI] at e; cases e) hl, fun b o e hm hl => t.look b o e hm fun q => q.elim (fun q => by subst q; rw [hI] at e; cases e) hl, t.dom, t.alive, t.rest⟩
  refine codeAny_forLoop_any (fun k s' => ∃ i σ' fr', k = xs.length + 1 - i ∧ i ≤ xs.length ∧
    forW chk (fun x fr σ k => tgW tg x cs fr σ fun fr1 σ2 => sW W n (erSs gl env.scope.names b) cs fr1 σ2 k) (xs.drop i) fr' σ' Q ∧
    Rel W.H A env σ' fr' s' ∧ Stp Lh σ1 s1 σ' s' ∧ S i s'.heap ∧ σ' I = none ∧ (∀ b ∈ fp, NoMut σ' b)) ?_ (xs.length + 1)
    ⟨0, σ1, fr, by omega, Nat.zero_le _, by simpa using hK, r2, t2.weak fun _ q => q.elim, hs2h ▸ hS0, hσI, hfm⟩
  rintro k s' ⟨i, σ', fr', rfl, hi, hfw, r', t', hS, hI', hnm⟩
  have hidI : ∀ {σ' : St}, σ' I = none → ∀ b, b = I → σ' b = none ∧ W.H.get? b = none := fun hh b hb => by subst hb; exact ⟨hh, hHI⟩
  by_cases hlt : i < xs.length
  · have hdrop : xs.drop i = nth xs i :: xs.drop (i + 1) := by
      rw [nth_eq, List.getD_eq_getElem?_getD, List.getElem?_eq_getElem hlt]
      exact List.drop_eq_getElem_cons hlt
    rw [hdrop] at hfw
    obtain ⟨hchk, hbod⟩ := hfw
    refine itr.item i s' σ' _ _ hlt hS r'.toRelG hchk fun v h4 tk hv hS4 hk4 => ?_
    generalize hs4 : ({ s' with heap := h4, toks := tk } : Shared) = s4
    have hs4h : s4.heap = h4 := by rw [← hs4]
    have keep4 : ∀ b o, b ≠ I → s'.heap.get? b = some o → s4.heap.get? b = some o := fun b o hb e => by rw [hs4h]; exact hk4 b o hb e
    have g4 : RelG W.H σ' s4 := r'.toRelG.hidden (L := fun b => b = I) (hidI hI') keep4
    have t4 : Stp Lh σ' s' σ' s4 := .hidden (fun b o hb e => keep4 b o (fun q => hb (.inl q)) e) (fun b o hb e => by
      rcases hb with rfl | hb
      · rw [hs4h]; exact itr.alive _ _ hS4 _ itr.mem
      · exact ⟨o, keep4 b o (fun q => hIL (q.symm.trans hb)) e⟩) ⟨h4, tk, by rw [← hs4]⟩
    obtain ⟨m4, hn4, hf4⟩ := r'.ns
    have r4 : Rel W.H A env σ' fr' s4 := ⟨g4, ⟨m4, hn4.at' fun o e => keep4 _ o (Ne.symm hIL) e, hf4⟩, r'.off, r'.new, r'.frs.mono fun b o es n e hd hσ => ⟨hσ, o, es, n, keep4 b o (fun q => by subst q; exact absurd hd (itr.nd _ _ hS _ itr.mem o e es n)) e, hd⟩⟩
    refine itr.own (i + 1) s4 tgt v _ _ (hs4h ▸ hS4) ?_
    refine wpAny_mono (tg_ok R K htg r4 hbod hv) (fun _ s5 p5 => ?_) fun _ _ x => x.elim
    obtain ⟨σ5, fr5, q5, r5, t5⟩ := p5
    have al4 : ∀ b ∈ fp, ∃ o, s4.heap.get? b = some o := fun b hb => by rw [hs4h]; exact itr.alive _ _ hS4 b hb
    have keepS : ∀ {σa σb : St} {sa sb : Shared}, Stp (At env.locals) σa sa σb sb → (∀ b ∈ fp, NoMut σa b) → S (i + 1) sa.heap → S (i + 1) sb.heap := fun t hn hs =>
      itr.frame _ _ _ hs fun b hb o e => t.keep b o e (hn b hb) (fun q => hLf ((show b = env.locals from q) ▸ hb)) (itr.nd _ _ hs b hb o e)
    have hnm5 : ∀ b ∈ fp, NoMut σ5 b := fun b hb => by obtain ⟨o, e⟩ := al4 b hb; exact t5.nomut (hnm b hb) e
    have hS5 : S (i + 1) s5.heap := keepS t5 hnm (hs4h ▸ hS4)
    have hI5 : σ5 I = none := by obtain ⟨o, e⟩ := al4 I itr.mem; exact t5.off hI' e
    refine wpAny_mono (hb _ _ _ _ _ _ K q5 A s5 R r5 Tp) (fun f s6 p6 => ?_) fun _ _ x => x.elim
    obtain ⟨σ6, fr6, q6, r6, t6⟩ := p6
    have al5 : ∀ b ∈ fp, ∃ o, s5.heap.get? b = some o := fun b hb => itr.alive _ _ hS5 b hb
    have hnm6 : ∀ b ∈ fp, NoMut σ6 b := fun b hb => by obtain ⟨o, e⟩ := al5 b hb; exact t6.nomut (hnm5 b hb) e
    have hS6 : S (i + 1) s6.heap := keepS t6 hnm5 hS5
    have hI6 : σ6 I = none := by obtain ⟨o, e⟩ := al5 I itr.mem; exact t6.off hI5 e
    have tt : Stp Lh σ1 s1 σ6 s6 := ((t'.trans t4).trans (t5.weak fun _ q => .inr q)).trans (t6.weak fun _ q => .inr q)
    cases f with
    | next => exact ⟨xs.length + 1 - (i + 1), by omega, i + 1, σ6, fr6, rfl, hlt, q6, r6, tt, hS6, hI6, hnm6⟩
    | cont => exact ⟨xs.length + 1 - (i + 1), by omega, i + 1, σ6, fr6, rfl, hlt, q6, r6, tt, hS6, hI6, hnm6⟩
    | brk => exact ⟨σ6, fr6, q6, r6, fin tt⟩
    | ret v => exact ⟨σ6, fr6, q6, r6, fin tt⟩
  · have hin : i = xs.length := by omega
    subst hin
    rw [List.drop_of_length_le (Nat.le_refl _)] at hfw
    obtain ⟨hchk, hfin⟩ := hfw
    refine itr.done s' σ' _ _ hS r'.toRelG hchk fun h4 tk hk4 => ?_
    generalize hs4 : ({ s' with heap := h4, toks := tk } : Shared) = s4
    have hs4h : s4.heap = h4 := by rw [← hs4]
    have keep4 : ∀ b o, b ≠ I → s'.heap.get? b = some o → s4.heap.get? b = some o := fun b o hb e => by rw [hs4h]; exact hk4 b o hb e
    have g4 : RelG W.H σ' s4 := r'.toRelG.hidden (L := fun b => b = I) (hidI hI') keep4
    obtain ⟨m4, hn4, hf4⟩ := r'.ns
    have r4 : Rel W.H A env σ' fr' s4 := ⟨g4, ⟨m4, hn4.at' fun o e => keep4 _ o (Ne.symm hIL) e, hf4⟩, r'.off, r'.new, r'.frs.mono fun b o es n e hd hσ => ⟨hσ, o, es, n, keep4 b o (fun q => by subst q; exact absurd hd (itr.nd _ _ hS _ itr.mem o e es n)) e, hd⟩⟩
    refine wpAny_execs_nil ⟨σ', fr', hfin, r4, ?_⟩
    refine t1.trans ⟨fun b o e hm hl hd => ?_, fun b o e hm hl => ?_, t'.dom, fun b o e => ?_, ?_⟩
    · have hbI : b ≠ I := fun q => by subst q; rw [hI] at e; cases e
      exact keep4 b o hbI (t'.keep b o e hm (fun q => q.elim hbI hl) hd)
    · have hbI : b ≠ I := fun q => by subst q; rw [hI] at e; cases e
      obtain ⟨sl, e'⟩ := t'.look b o e hm fun q => q.elim hbI hl
      exact ⟨sl, keep4 b _ hbI e'⟩
    · have hbI : b ≠ I := fun q => by subst q; rw [hI] at e; cases e
      obtain ⟨o', e'⟩ := t'.alive b o e
      exact ⟨o', keep4 b o' hbI e'⟩
    · obtain ⟨hh, tt, e⟩ := t'.rest
      exact ⟨h4, tk, by rw [← hs4, e]⟩

mutual
theorem sns (G : GlOK W.H gl) : ∀ st : Stmt, SndS W gl st
  | .Assign ts v p => by
    rcases ts with _ | ⟨e, _ | ⟨e', r⟩⟩
    · exact sns_bad fun _ => rfl
    · cases e <;> first | exact sns_set G | exact sns_unp G | exact sns_ssub G | exact sns_bad fun _ => rfl
    · cases e <;> exact sns_bad fun _ => rfl
  | .AugAssign t op v p => by cases t <;> first | exact sns_aug G | exact sns_bad fun _ => rfl
  | .Delete ts p => by
    rcases ts with _ | ⟨e, _ | ⟨e', r⟩⟩
    · exact sns_bad fun _ => rfl
    · cases e <;> first | exact sns_del G | exact sns_bad fun _ => rfl
    · cases e <;> exact sns_bad fun _ => rfl
  | .Expr v p => sns_exp G
  | .Return v p => by
    cases v with
    | none => exact sns_ret0
    | some v => exact sns_ret G
  | .If t b o p => sns_if G (snss G b) (snss G o)
  | .While t b o p => by
    have hb := snss G b
    cases o with
    | nil => exact sns_while G hb
    | cons _ _ => exact sns_bad fun _ => rfl
  | .For t it b o p => by
    have hb := snss G b
    cases o with
    | nil => exact sns_for G hb
    | cons _ _ => exact sns_bad fun _ => rfl
  | .Pass p => sns_pass
  | .Break p => sns_break
  | .Continue p => sns_cont
  | .Try b hs o f p => sns_trys G (snss G b)
  | .Raise e c p => sns_raise
  | .FunctionDef .. | .AsyncFunctionDef .. | .ClassDef .. | .TypeAlias .. | .AnnAssign .. | .AsyncFor .. | .With .. | .AsyncWith .. | .Match .. | .TryStar .. | .Assert .. | .Import .. | .ImportFrom .. | .Global .. | .Nonlocal .. => sns_bad fun _ => rfl
theorem snss (G : GlOK W.H gl) : ∀ l : List Stmt, SndSs W gl l
  | [] => sns_nil
  | st :: rest => sns_cons (sns G st) (snss G rest)
end
end Mine

end
section -- F17
namespace Mine
variable {W : Wd} {n : Nat} {gl : Str → Option V} {σ : St} {A : Around} {s s' : Shared}

noncomputable def cellW : List (Str × NameKind) → (Str → V) → List Addr → St → (List Addr → St → Prop) → Prop
  | [], _, acc, σ, K => K acc σ
  | (x, k) :: r, b, acc, σ, K => if k == .cell then ∀ a, σ a = none → cellW r b (acc ++ [a]) (σ.set a (.cell (b x))) K else cellW r b (acc ++ [0]) σ K
noncomputable def slots0 (names : List (Str × NameKind)) (b : Str → V) : List V := names.map fun p => if p.2 == .local then b p.1 else .undef
noncomputable def parV (abinds : List (Str × V)) (x : Str) : V := (abinds.lookup x).getD .undef

noncomputable def caddrs : Nat → List (Str × NameKind) → List Addr
  | _, [] => []
  | m, (_, k) :: r => if k == .cell then m :: caddrs (m + 1) r else 0 :: caddrs m r
noncomputable def cset : Nat → List (Str × NameKind) → (Str → V) → St → St
  | _, [], _, σ => σ
  | m, (x, k) :: r, b, σ => if k == .cell then cset (m + 1) r b (σ.set m (.cell (b x))) else cset m r b σ
theorem cellW_at {b : Str → V} {K : List Addr → St → Prop} : ∀ (names : List (Str × NameKind)) (m : Nat) (acc : List Addr) (σ : St), cellW names b acc σ K → (∀ j, m ≤ j → σ j = none) → K (acc ++ caddrs m names) (cset m names b σ)
  | [], m, acc, σ, h, _ => by simpa [caddrs, cset, cellW] using h
  | (x, k) :: r, m, acc, σ, h, hf => by
    unfold cellW at h
    unfold caddrs cset
    by_cases hk : (k == NameKind.cell) = true
    · rw [if_pos hk] at h ⊢
      rw [if_pos hk]
      have := cellW_at r (m + 1) _ _ (h m (hf m (Nat.le_refl _))) fun j hj => by
        rw [St.set_other _ _ (show j ≠ m from Nat.ne_of_gt hj)]; exact hf j (Nat.le_of_succ_le hj)
      simpa using this
    · rw [if_neg hk] at h ⊢
      rw [if_neg hk]
      have := cellW_at r m _ _ h hf
      simpa using this
theorem cset_spec {b : Str → V} : ∀ (names : List (Str × NameKind)) (m : Nat) (σ : St) (a : Nat) (x : O), cset m names b σ a = some x → σ a = some x ∨ (m ≤ a ∧ ∃ (i : Nat) (y : Str), names[i]? = some (y, NameKind.cell) ∧ (caddrs m names)[i]? = some a ∧ x = .cell (b y))
  | [], m, σ, a, x, h => .inl h
  | (z, k) :: r, m, σ, a, x, h => by
    unfold cset at h
    unfold caddrs
    by_cases hk : (k == NameKind.cell) = true
    · rw [if_pos hk] at h ⊢
      rcases cset_spec r (m + 1) _ a x h with e | ⟨hm, i, y, h1, h2, h3⟩
      · by_cases ha : a = m
        · subst ha
          rw [St.set_same] at e
          refine .inr ⟨Nat.le_refl _, 0, z, ?_, rfl, (Option.some.inj e).symm⟩
          rw [eq_of_beq hk]; rfl
        · rw [St.set_other _ _ ha] at e; exact .inl e
      · exact .inr ⟨by omega, i + 1, y, by simpa using h1, by simpa using h2, h3⟩
    · rw [if_neg hk] at h ⊢
      rcases cset_spec r m _ a x h with e | ⟨hm, i, y, h1, h2, h3⟩
      · exact .inl e
      · exact .inr ⟨hm, i + 1, y, by simpa using h1, by simpa using h2, h3⟩
theorem cset_new {b : Str → V} : ∀ (names : List (Str × NameKind)) (m : Nat) (σ : St) (a : Nat), a < m → cset m names b σ a = σ a
  | [], _, _, _, _ => rfl
  | (z, k) :: r, m, σ, a, h => by
    unfold cset
    by_cases hk : (k == NameKind.cell) = true
    · rw [if_pos hk, cset_new r (m + 1) _ a (Nat.lt_succ_of_lt h), St.set_other _ _ (show a ≠ m from Nat.ne_of_lt h)]
    · rw [if_neg hk, cset_new r m _ a h]
theorem cellsFrom_get {x : Str} : ∀ (names : List (Str × NameKind)) (m i : Nat) (acc : List (Str × Addr)), (names.map (·.1)).Nodup → names[i]? = some (x, NameKind.cell) → (cellsFrom m names acc).lookup x = some ((caddrs m names).getD i 0)
  | [], m, i, acc, _, h => by simp at h
  | (y, k) :: r, m, i, acc, hn, h => by
    obtain ⟨h1, h2⟩ := List.nodup_cons.mp (by simpa using hn : (y :: r.map (·.1)).Nodup)
    have keep : ∀ (l : List (Str × NameKind)) (m : Nat) (acc : List (Str × Addr)) (c : Addr), y ∉ l.map (·.1) → acc.lookup y = some c → (cellsFrom m l acc).lookup y = some c := by
      intro l
      induction l with
      | nil => intro m acc c _ h; exact h
      | cons p l ih =>
        intro m acc c hy h
        obtain ⟨z, k'⟩ := p
        have hzy : y ≠ z := fun e => hy (by simp [e])
        have hl : y ∉ l.map (·.1) := fun e => hy (by simp at e ⊢; exact .inr e)
        unfold cellsFrom
        by_cases hk : (k' == NameKind.cell) = true
        · rw [if_pos hk]
          refine ih _ _ c hl ?_
          have e1 : (y == z) = false := by simpa using hzy
          rw [List.lookup_cons, e1]; exact h
        · rw [if_neg hk]; exact ih _ _ c hl h
    unfold cellsFrom caddrs
    cases i with
    | zero =>
      simp at h
      obtain ⟨rfl, rfl⟩ := h
      have hkk : (NameKind.cell == NameKind.cell) = true := rfl
      rw [if_pos hkk, if_pos hkk]
      exact keep r (m + 1) _ m h1 (by simp [List.lookup])
    | succ i =>
      have h' : r[i]? = some (x, NameKind.cell) := by simpa using h
      by_cases hk : (k == NameKind.cell) = true
      · rw [if_pos hk, if_pos hk, cellsFrom_get r (m + 1) i _ h2 h']; rfl
      · rw [if_neg hk, if_neg hk, cellsFrom_get r m i _ h2 h']; rfl

theorem bindL_at {kindOf : Str → Option NameKind} : ∀ (binds : List (Str × Value)) (m : Str → Option Value) (x : Str), (binds.map (·.1)).Nodup → kindOf x = some .local → bindL kindOf binds m x = (binds.lookup x).or (m x)
  | [], m, x, _, _ => by simp [bindL]
  | (y, v) :: r, m, x, hn, hk => by
    obtain ⟨h1, h2⟩ := List.nodup_cons.mp (by simpa using hn : (y :: r.map (·.1)).Nodup)
    unfold bindL
    rw [bindL_at r _ x h2 hk]
    by_cases e : x = y
    · subst e
      rw [if_pos hk]
      have : r.lookup x = none := by
        rw [List.lookup_eq_none_iff]
        intro p hp
        have : p.1 ≠ x := fun q => h1 (List.mem_map.mpr ⟨p, hp, q⟩)
        simpa using Ne.symm this
      simp [this, List.lookup_cons]
    · have e1 : (x == y) = false := by simpa using e
      rw [List.lookup_cons, e1]
      split <;> simp [e]
theorem bindC_at {kindOf : Str → Option NameKind} : ∀ (binds : List (Str × Value)) (m : Str → Option Value) (x : Str), (binds.map (·.1)).Nodup → kindOf x ≠ some .local → bindC kindOf binds m x = (binds.lookup x).or (m x)
  | [], m, x, _, _ => by simp [bindC]
  | (y, v) :: r, m, x, hn, hk => by
    obtain ⟨h1, h2⟩ := List.nodup_cons.mp (by simpa using hn : (y :: r.map (·.1)).Nodup)
    unfold bindC
    rw [bindC_at r _ x h2 hk]
    by_cases e : x = y
    · subst e
      rw [if_neg hk]
      have : r.lookup x = none := by
        rw [List.lookup_eq_none_iff]
        intro p hp
        have : p.1 ≠ x := fun q => h1 (List.mem_map.mpr ⟨p, hp, q⟩)
        simpa using Ne.symm this
      simp [this, List.lookup_cons]
    · have e1 : (x == y) = false := by simpa using e
      rw [List.lookup_cons, e1]
      split <;> simp [e]
noncomputable def abB (b : List (Str × Value)) : List (Str × V) := b.map fun p => (p.1, ab p.2)
theorem abB_lookup : ∀ (b : List (Str × Value)) (x : Str), (abB b).lookup x = (b.lookup x).map ab
  | [], x => rfl
  | (y, v) :: r, x => by
    show List.lookup x ((y, ab v) :: abB r) = _
    rw [List.lookup_cons, List.lookup_cons]
    cases x == y with
    | true => rfl
    | false => exact abB_lookup r x

/-- what is asked of a function of the text -/
structure FnOK (W : Wd) (fa : Addr) (names : List (Str × NameKind)) (body : List Stmt) (fd : FuncData) : Prop where
  obj : ∃ o, W.H.get? fa = some o ∧ o.data = .func fd
  body : fd.body = .stmts body
  clo : fd.closure = []
  glob : fd.globals = mainGlobals
  blt : fd.builtins = builtinsNs
  code : W.H.CodeRec fd.code fd.qualname
  nm : fd.scope.names = names
  kind : fd.scope.kind = .function
  gen : fd.scope.isGenerator = false
  cor : fd.scope.isCoroutine = false
  nodup : (names.map (·.1)).Nodup
  nofree : ∀ p ∈ names, p.2 ≠ .free ∧ p.1 ≠ ("__classdict__" : Str)

noncomputable def retV : Fl → V
  | .ret v => v
  | _ => .none

theorem caddrs_len : ∀ (names : List (Str × NameKind)) (m : Nat), (caddrs m names).length = names.length
  | [], _ => rfl
  | (_, k) :: r, m => by
    unfold caddrs
    split <;> rw [List.length_cons, List.length_cons, caddrs_len r]
/-- into a function of the text -/
theorem enter_fn (hlim : W.H.NoLimit) {fa : Addr} {names : List (Str × NameKind)} {body : List Stmt} {fd : FuncData} (F : FnOK W fa names body fd) {args : List V} {kn : List Str} {kargs : List V} {abinds : List (Str × V)}
    (hbind : ∀ s vs kvs, (∀ b o, W.H.get? b = some o → s.heap.get? b = some o) → vs.map ab = args → kvs.map ab = kargs → ∃ binds, BindsTo s fd ⟨vs, kn.zip kvs⟩ binds ∧ abB binds = abinds)
    (hnd : (abinds.map (·.1)).Nodup) (hkinds : ∀ p ∈ abinds, names.lookup p.1 = some .local ∨ names.lookup p.1 = some .cell)
    (ex : List Addr) (hex : ∀ P, ex[0]? = some P → ∃ c mg, fd.code = .ref c ∧ CodeHd W.H c P ∧ W.H.Ns mainGlobals mg ∧ mainGlobals ≠ P ∧ W.H.BuiltinsAt mg P ∧ fd.qualname ++ ".<locals>." = W.eq)
    {K' : List Addr → St → Prop} (h : cellW names (parV abinds) [] σ K') {Z ZE : Value → Shared → Prop} (R : Room (n + 1) A) (r : RelG W.H σ s) (fs : Frs W.H A σ s) {vs kvs : List Value} (hv : vs.map ab = args) (hk : kvs.map ab = kargs)
    (hbody : ∀ cs σ1 env s1, K' cs σ1 → EnvOK W env (cs ++ ex) → Rel W.H (A.deeper env) env σ1 (slots0 names (parV abinds)) s1 → Stp (At env.locals) σ s σ1 s1 → env.scope.names = names → Mine.Top (A.deeper env) env → s.heap.get? env.locals = none → Room n (A.deeper env) →
      wpAny W.M (A.deeper env) (execs body env) (fun f s' => Z (match f with | .ret v => v | _ => .none) s') (fun e s' => wpAny W.M (A.deeper env) (leaving env e) (fun _ s'' => ZE e s'') (fun e' s'' => ZE e' s'') s') s1) :
    wpAny W.M A (call (.ref fa) vs (kn.zip kvs)) Z ZE s := by
  obtain ⟨o, ho, hd⟩ := F.obj
  refine wpAny_call ?_
  obtain ⟨binds, hB, hab⟩ := hbind s vs kvs r.base hv hk
  have hbn : (binds.map (·.1)).Nodup := by
    have : binds.map (·.1) = abinds.map (·.1) := by rw [← hab, abB, List.map_map]; rfl
    rw [this]; exact hnd
  refine codeAny_call_function R.lim (r.base _ _ ho) hd F.cor F.gen F.body (F.code.keeps r.base) (hB _ _ _ _ ?_)
  rw [F.clo]
  refine wpAny_newFunctionEnv_cells F.kind (fun p hp => ?_) fun env he s1 x => ?_
  · have hm : (p.1, ab p.2) ∈ abinds := by rw [← hab]; exact List.mem_map.mpr ⟨p, hp, rfl⟩
    rcases hkinds _ hm with e | e
    · exact .inl (by rw [F.nm]; exact e)
    · refine .inr ⟨by rw [F.nm]; exact e, ?_⟩
      rw [F.nm, cellsFrom_get names _ _ [] F.nodup (place_of e)]; rfl
  subst he
  refine ⟨(hlim.keeps r.base).keeps x.toInCall.keep, codeAny_func ?_⟩
  generalize hL : s.heap.objs.size = L at x ⊢
  generalize henv : newEnv fd.scope L fd.globals (cellsFrom (L + 1) fd.scope.names []) (fd.qualname ++ ".<locals>.") (some fa) fd.code none fd.builtins = env at x ⊢
  have hloc : env.locals = L := by rw [← henv]; rfl
  have hcells : env.cells = cellsFrom (L + 1) names [] := by rw [← henv]; show cellsFrom (L + 1) fd.scope.names [] = _; rw [F.nm]
  have hnames : env.scope.names = names := by rw [← henv]; exact F.nm
  have hkd : ∀ y, env.kindOf y = names.lookup y := fun y => by unfold Env.kindOf; rw [hnames]
  have hLn : s.heap.get? L = none := by rw [← hL]; exact get_size _
  have hfr : ∀ j, L ≤ j → s.heap.get? j = none := fun j hj => by
    cases q : s.heap.get? j with
    | none => rfl
    | some o => have := Heap.lt_size q; rw [hL] at this; exact absurd this (Nat.not_lt.mpr hj)
  have hσL : ∀ j, L ≤ j → σ j = none := fun j hj => r.fresh (hfr j hj)
  have hK := cellW_at names (L + 1) [] σ h fun j hj => hσL j (by omega)
  simp only [List.nil_append] at hK
  have hcl := caddrs_len names (L + 1)
  have E : EnvOK W env (caddrs (L + 1) names ++ ex) := by
    refine ⟨by rw [← henv]; exact F.kind, by rw [← henv]; exact F.glob, by rw [← henv]; exact F.blt, by rw [hnames]; exact F.nodup, fun i y k hi hk => ?_, fun P hP => ?_⟩
    · rw [hnames] at hi
      have hc : k = .cell := hk.elim id fun e => absurd e (F.nofree _ (List.mem_of_getElem? hi)).1
      subst hc
      have hlt : i < (caddrs (L + 1) names).length := by rw [hcl]; exact (List.getElem?_eq_some_iff.mp hi).1
      have e : (caddrs (L + 1) names ++ ex).getD i 0 = (caddrs (L + 1) names).getD i 0 := by
        rw [List.getD_eq_getElem?_getD, List.getElem?_append_left hlt, ← List.getD_eq_getElem?_getD]
      exact ⟨by rw [hcells, e]; exact cellsFrom_get names _ _ [] F.nodup hi, (F.nofree _ (List.mem_of_getElem? hi)).2⟩
    · rw [hnames, List.getElem?_append_right (by omega), hcl, Nat.sub_self] at hP
      obtain ⟨c, mg, h1, h2⟩ := hex P hP
      exact ⟨c, mg, by rw [← henv]; exact h1, by rw [← henv]; exact h2⟩
  have hkeep := x.toInCall.keep
  have g1 : RelG W.H (cset (L + 1) names (parV abinds) σ) s1 := by
    refine ⟨fun b o e => hkeep b o (r.base b o e), fun a z e => ?_, fun a z e hm => ?_⟩
    · rcases cset_spec names _ _ _ _ e with e | ⟨hm, i, y, h1, h2, rfl⟩
      · exact (r.objs a z e).at fun o => hkeep a o
      · have hl : env.cells.lookup y = some a := by
          rw [hcells, cellsFrom_get names _ _ [] F.nodup h1, List.getD_eq_getElem?_getD, h2]; rfl
        refine ⟨_, x.cell y a hl, ?_⟩
        have hky : env.kindOf y ≠ some .local := by rw [hkd, (nodup_lookup F.nodup h1).1]; decide
        rw [bindC_at _ _ _ hbn hky]
        unfold parV
        rw [← hab, abB_lookup]
        cases binds.lookup y <;> rfl
    · rcases cset_spec names _ _ _ _ e with e | ⟨hm', _⟩
      · exact r.own a z e hm
      · exact r.offbase (hfr a (Nat.le_of_succ_le hm'))
  have t1 : Stp (At env.locals) σ s (cset (L + 1) names (parV abinds) σ) s1 := by
    refine .of (fun b o e _ _ => hkeep b o e) (fun b z e => ?_) (fun b o e => ⟨o, hkeep b o e⟩) x.toInCall.same
    rcases cset_spec names _ _ _ _ e with e | ⟨hm', _⟩
    · exact .inl ⟨z, e, id⟩
    · exact .inr (hfr b (Nat.le_of_succ_le hm'))
  have r1 : Rel W.H (A.deeper env) env (cset (L + 1) names (parV abinds) σ) (slots0 names (parV abinds)) s1 := by
    refine ⟨g1, ⟨_, x.toInCall.ns, fun i y hi hu => ?_⟩, ?_, ?_, ?_⟩
    · rw [hnames] at hi
      have hky : env.kindOf y = some .local := by rw [hkd, (nodup_lookup F.nodup hi).1]
      rw [bindL_at _ _ _ hbn hky]
      have hsl : (slots0 names (parV abinds)).getD i .undef = parV abinds y := by
        unfold slots0
        rw [List.getD_eq_getElem?_getD, List.getElem?_map, hi]; rfl
      rw [hsl] at hu ⊢
      unfold parV at hu ⊢
      rw [← hab, abB_lookup] at hu ⊢
      cases q : binds.lookup y with
      | none => rw [q] at hu; exact absurd rfl hu
      | some v => exact ⟨v, rfl, rfl⟩
    · rw [hloc, cset_new names _ _ _ (Nat.lt_succ_self _)]; exact hσL L (Nat.le_refl _)
    · rw [hloc]; exact r.offbase hLn
    · obtain ⟨l, hl, hf⟩ := fs
      refine ⟨env :: l, Around.frames_deeper hl, fun ev he => ?_⟩
      rcases List.mem_cons.mp he with rfl | he
      · obtain ⟨o', es, ep, e', hd', _⟩ := x.toInCall.ns
        exact ⟨by rw [← henv]; exact F.kind, L, o', es, ep, by rw [← henv]; rfl, r.offbase hLn, by rw [cset_new names _ _ _ (Nat.lt_succ_self _)]; exact hσL L (Nat.le_refl _), by rw [← hloc]; exact e', hd'⟩
      · obtain ⟨h1, L', o', es, ep, h2, h3, h4, h5, h6⟩ := hf ev he
        refine ⟨h1, L', o', es, ep, h2, h3, ?_, hkeep _ _ h5, h6⟩
        cases q : cset (L + 1) names (parV abinds) σ L' with
        | none => rfl
        | some z =>
          rcases cset_spec names _ _ _ _ q with e | ⟨hm', _⟩
          · rw [h4] at e; cases e
          · rw [hfr L' (Nat.le_of_succ_le hm')] at h5; cases h5
  obtain ⟨lf, hlf, _⟩ := fs
  exact hbody _ _ env s1 hK E r1 t1 hnames ⟨by rw [← henv]; rfl, lf, Around.frames_deeper hlf⟩ (by rw [hloc]; exact hLn) (R.deeper env)
theorem call_fnX (G : GlOK W.H gl) (hlim : W.H.NoLimit) {fa : Addr} {names : List (Str × NameKind)} {body : List Stmt} {fd : FuncData} (F : FnOK W fa names body fd) {args : List V} {kn : List Str} {kargs : List V} {abinds : List (Str × V)} {Q : V → St → Prop}
    (hbind : ∀ s vs kvs, (∀ b o, W.H.get? b = some o → s.heap.get? b = some o) → vs.map ab = args → kvs.map ab = kargs → ∃ binds, BindsTo s fd ⟨vs, kn.zip kvs⟩ binds ∧ abB binds = abinds)
    (hnd : (abinds.map (·.1)).Nodup) (hkinds : ∀ p ∈ abinds, names.lookup p.1 = some .local ∨ names.lookup p.1 = some .cell)
    (ex : List Addr) (hex : ∀ P, ex[0]? = some P → ∃ c mg, fd.code = .ref c ∧ CodeHd W.H c P ∧ W.H.Ns mainGlobals mg ∧ mainGlobals ≠ P ∧ W.H.BuiltinsAt mg P ∧ fd.qualname ++ ".<locals>." = W.eq)
    (h : cellW names (parV abinds) [] σ fun cs σ' => sW W n (erSs gl names body) (cs ++ ex) (slots0 names (parV abinds)) σ' fun f σ'' _ => Q (retV f) σ'') :
    CallOK W (n + 1) (.ref fa) args kn kargs Q σ := by
  obtain ⟨o, ho, hd⟩ := id F.obj
  refine ⟨⟨fa, rfl, .inr ⟨o, fd, ho, hd⟩⟩, fun A s R r fs fv vs kvs hf hv hk => ?_⟩
  rw [ab_ref hf]
  refine enter_fn hlim F hbind hnd hkinds ex hex h R r fs hv hk fun cs σ1 env s1 hK E r1 t1 hnames Tp hLn Rd => ?_
  have hK' : sW W n (erSs gl env.scope.names body) (cs ++ ex) (slots0 names (parV abinds)) σ1 fun f σ'' _ => Q (retV f) σ'' := by rw [hnames]; exact hK
  refine wpAny_mono (snss G body _ _ _ _ _ _ E hK' _ s1 Rd r1 Tp) (fun f s2 p2 => ?_) fun _ _ x => x.elim
  obtain ⟨σ2, fr2, q2, r2, t2⟩ := p2
  refine ⟨σ2, ?_, r2.toRelG, (t1.trans t2).shown fun b hb => by rw [show b = env.locals from hb]; exact hLn⟩
  cases f <;> exact q2
theorem call_fn (G : GlOK W.H gl) (hlim : W.H.NoLimit) {fa : Addr} {names : List (Str × NameKind)} {body : List Stmt} {fd : FuncData} (F : FnOK W fa names body fd) {args : List V} {kn : List Str} {kargs : List V} {abinds : List (Str × V)} {Q : V → St → Prop}
    (hbind : ∀ s vs kvs, (∀ b o, W.H.get? b = some o → s.heap.get? b = some o) → vs.map ab = args → kvs.map ab = kargs → ∃ binds, BindsTo s fd ⟨vs, kn.zip kvs⟩ binds ∧ abB binds = abinds)
    (hnd : (abinds.map (·.1)).Nodup) (hkinds : ∀ p ∈ abinds, names.lookup p.1 = some .local ∨ names.lookup p.1 = some .cell)
    (h : cellW names (parV abinds) [] σ fun cs σ' => sW W n (erSs gl names body) cs (slots0 names (parV abinds)) σ' fun f σ'' _ => Q (retV f) σ'') :
    CallOK W (n + 1) (.ref fa) args kn kargs Q σ :=
  call_fnX G hlim F hbind hnd hkinds [] nofun (by simpa only [List.append_nil] using h)
end Mine

end
section -- F18
namespace Mine
variable {W : Wd} {n : Nat} {gl : Str → Option V} {σ : St} {A : Around} {s s' : Shared}

noncomputable def isParB (p : Arguments) : Bool :=
  p.posonlyargs.isEmpty && decide (p.args.map (·.arg) = (["a", "x", "lo", "hi"] : List Str)) && p.vararg.isNone && decide (p.kwonlyargs.map (·.arg) = (["key"] : List Str)) && p.kwarg.isNone
noncomputable def bindB (a x lo hi key : Value) : List (Str × Value) := [("a", a), ("x", x), ("lo", lo), ("hi", hi), ("key", key)]
structure DfB (fd : FuncData) (h : Heap) : Prop where
  par : isParB fd.params = true
  dfs : ∃ T o t n, fd.defaults = .ref T ∧ h.get? T = some o ∧ o.data = .seq #[.int 0 t, .none] n
  kdf : ∃ D m, fd.kwdefaults = .ref D ∧ h.Ns D m ∧ m "key" = some .none
theorem isParB_is {p : Arguments} (h : isParB p = true) : ∃ (f : Nat → Arg) (kd : List (Option PySem.Expr)) (df : List PySem.Expr), p = { posonlyargs := [], args := [⟨"a", (f 0).annotation, (f 0).pos⟩, ⟨"x", (f 1).annotation, (f 1).pos⟩, ⟨"lo", (f 2).annotation, (f 2).pos⟩, ⟨"hi", (f 3).annotation, (f 3).pos⟩], vararg := none, kwonlyargs := [⟨"key", (f 4).annotation, (f 4).pos⟩], kw_defaults := kd, kwarg := none, defaults := df } := by
  obtain ⟨po, ar, va, ko, kd, kw, df⟩ := p
  simp only [isParB, Bool.and_eq_true, decide_eq_true_eq, List.isEmpty_iff, Option.isNone_iff_eq_none] at h
  obtain ⟨⟨⟨⟨h1, h2⟩, h3⟩, h4⟩, h5⟩ := h
  obtain ⟨⟨x1, n1, p1⟩, r1, e1, f1, g1⟩ := List.map_eq_cons_iff.mp h2
  obtain ⟨⟨x2, n2, p2⟩, r2, e2, f2, g2⟩ := List.map_eq_cons_iff.mp g1
  obtain ⟨⟨x3, n3, p3⟩, r3, e3, f3, g3⟩ := List.map_eq_cons_iff.mp g2
  obtain ⟨⟨x4, n4, p4⟩, r4, e4, f4, g4⟩ := List.map_eq_cons_iff.mp g3
  obtain ⟨⟨x5, n5, p5⟩, r5, e5, f5, g5⟩ := List.map_eq_cons_iff.mp h4
  refine ⟨fun i => [⟨x1, n1, p1⟩, ⟨x2, n2, p2⟩, ⟨x3, n3, p3⟩, ⟨x4, n4, p4⟩, ⟨x5, n5, p5⟩].getD i ⟨x1, n1, p1⟩, kd, df, ?_⟩
  rw [h1, h3, h5, e1, e2, e3, e4, e5, List.map_eq_nil_iff.mp g4, List.map_eq_nil_iff.mp g5, ← f1, ← f2, ← f3, ← f4, ← f5]
  rfl
theorem bind_B2 {fd : FuncData} {v w : Value} (h : DfB fd s.heap) : ∃ t, BindsTo s fd ⟨[v, w], []⟩ (bindB v w (.int 0 t) .none .none) := by
  obtain ⟨hp, ⟨T, o, t, n, hd, ho, hs⟩, ⟨D, m, hk, hD, hm⟩⟩ := h
  refine ⟨t, fun M A E Q hq => ?_⟩
  obtain ⟨_, _, _, hp⟩ := isParB_is hp
  obtain ⟨nm, qn, pr, bd, sc, gb, cl, de, kde, r1, r2, r3, r4, r5, r6⟩ := fd
  simp only at hp hd hk
  subst hp hd hk
  show wpAny M A (seqItems? (.ref T) >>= _) Q E s
  refine wpAny_bind (wpAny_seqItems ho hs ?_)
  show wpAny M A (((nsGet D "key" >>= _) >>= _) >>= _) Q E s
  refine wpAny_bind (wpAny_bind (wpAny_bind (wpAny_nsGet hD ?_)))
  rw [hm]
  refine wpAny_pure (wpAny_pure ?_)
  exact wpAny_pure hq
theorem bind_B3 {fd : FuncData} {v w x : Value} (h : DfB fd s.heap) : BindsTo s fd ⟨[v, w, x], []⟩ (bindB v w x .none .none) := by
  obtain ⟨hp, ⟨T, o, t, n, hd, ho, hs⟩, ⟨D, m, hk, hD, hm⟩⟩ := h
  refine fun M A E Q hq => ?_
  obtain ⟨_, _, _, hp⟩ := isParB_is hp
  obtain ⟨nm, qn, pr, bd, sc, gb, cl, de, kde, r1, r2, r3, r4, r5, r6⟩ := fd
  simp only at hp hd hk
  subst hp hd hk
  show wpAny M A (seqItems? (.ref T) >>= _) Q E s
  refine wpAny_bind (wpAny_seqItems ho hs ?_)
  show wpAny M A (((nsGet D "key" >>= _) >>= _) >>= _) Q E s
  refine wpAny_bind (wpAny_bind (wpAny_bind (wpAny_nsGet hD ?_)))
  rw [hm]
  refine wpAny_pure (wpAny_pure ?_)
  exact wpAny_pure hq
theorem bind_B4 {fd : FuncData} {v w x y : Value} (h : DfB fd s.heap) : BindsTo s fd ⟨[v, w, x, y], []⟩ (bindB v w x y .none) := by
  obtain ⟨hp, ⟨T, o, t, n, hd, ho, hs⟩, ⟨D, m, hk, hD, hm⟩⟩ := h
  refine fun M A E Q hq => ?_
  obtain ⟨_, _, _, hp⟩ := isParB_is hp
  obtain ⟨nm, qn, pr, bd, sc, gb, cl, de, kde, r1, r2, r3, r4, r5, r6⟩ := fd
  simp only at hp hd hk
  subst hp hd hk
  show wpAny M A (seqItems? (.ref T) >>= _) Q E s
  refine wpAny_bind (wpAny_seqItems ho hs ?_)
  show wpAny M A (((nsGet D "key" >>= _) >>= _) >>= _) Q E s
  refine wpAny_bind (wpAny_bind (wpAny_bind (wpAny_nsGet hD ?_)))
  rw [hm]
  refine wpAny_pure (wpAny_pure ?_)
  exact wpAny_pure hq
theorem bind_B2k {fd : FuncData} {v w k : Value} (h : DfB fd s.heap) : ∃ t, BindsTo s fd ⟨[v, w], [("key", k)]⟩ (bindB v w (.int 0 t) .none k) := by
  obtain ⟨hp, ⟨T, o, t, n, hd, ho, hs⟩, ⟨D, m, hk, hD, hm⟩⟩ := h
  refine ⟨t, fun M A E Q hq => ?_⟩
  obtain ⟨_, _, _, hp⟩ := isParB_is hp
  obtain ⟨nm, qn, pr, bd, sc, gb, cl, de, kde, r1, r2, r3, r4, r5, r6⟩ := fd
  simp only at hp hd hk
  subst hp hd hk
  show wpAny M A (seqItems? (.ref T) >>= _) Q E s
  refine wpAny_bind (wpAny_seqItems ho hs ?_)
  exact wpAny_pure hq
end Mine

end
section -- F19
namespace Mine
variable {W : Wd} {n : Nat} {gl : Str → Option V} {σ : St} {A : Around} {s s' : Shared} {K : Frag}

noncomputable def V.same : V → V → Bool
  | .ref a, .ref b => decide (a = b)
  | .typ a, .typ b => decide (a = b)
  | .bi a, .bi b => decide (a = b)
  | _, _ => false
theorem V.of_same {a b : V} (h : a.same b = true) : a = b := by
  cases a <;> cases b <;> simp_all [V.same]
noncomputable def glT (t : List (Str × V)) (x : Str) : Option V := t.lookup x
noncomputable def glChk (K : Frag) (t : List (Str × V)) : Bool := t.all fun p => match nsIn K mainGlobals p.1 with
  | some (some v) => (ab v).same p.2
  | some none => (match bootBuiltins p.1 with
    | some v => (ab v).same p.2 && decide (p.1 ≠ "__name__")
    | none => false)
  | none => false
theorem glmem : ∀ {t : List (Str × V)} {x : Str} {v : V}, t.lookup x = some v → (x, v) ∈ t
  | [], _, _, h => by cases h
  | (y, u) :: r, x, v, h => by
    rw [List.lookup_cons] at h
    split at h
    · rename_i e; cases h; rw [eq_of_beq e]; exact .head _
    · exact .tail _ (glmem h)
theorem glOK_of {H : Heap} {t : List (Str × V)} {mg mb : Str → Option Value} (X : K.In H) (hg : H.Ns mainGlobals mg) (hb : H.Ns builtinsNs mb) (hbb : ∀ x : Str, x ≠ "__name__" → mb x = bootBuiltins x) (h : glChk K t = true) : GlOK H (glT t) := by
  intro x v hx
  have hm := List.all_eq_true.mp h _ (glmem hx)
  simp only at hm
  split at hm
  · rename_i u hu
    exact ⟨u, V.of_same hm, mg, hg, .inl (mg_of X hg hu)⟩
  · rename_i hu
    split at hm
    · rename_i u hv
      obtain ⟨h1, h2⟩ := Bool.and_eq_true_iff.mp hm
      exact ⟨u, V.of_same h1, mg, hg, .inr ⟨mg_none_of X hg hu, mb, hb, (hbb x (of_decide_eq_true h2)).trans hv⟩⟩
    · cases hm
  · cases hm

noncomputable def fdK (K : Frag) (a : Addr) : Option FuncData := match K.lookup a with
  | some ⟨_, _, .func fd, _⟩ => some fd
  | _ => none
noncomputable def bodyK (K : Frag) (a : Addr) : List Stmt := match fdK K a with
  | some fd => (match fd.body with
    | .stmts b => b
    | _ => [])
  | none => []
noncomputable def fnChk (K : Frag) (a : Addr) (names : List (Str × NameKind)) : Bool := match fdK K a with
  | some fd => (match fd.body with
    | .stmts _ => true
    | _ => false) && fd.closure.isEmpty && decide (fd.globals = mainGlobals) && decide (fd.builtins = builtinsNs) && codeIn K fd.code fd.qualname && decide (fd.scope.names = names) &&
      decide (fd.scope.kind = .function) && !fd.scope.isGenerator && !fd.scope.isCoroutine && decide ((names.map (·.1)).Nodup) && names.all (fun p => p.2 != .free && p.1 != ("__classdict__" : Str))
  | none => false
theorem fnOK_of {a : Addr} {names : List (Str × NameKind)} (X : K.In W.H) (h : fnChk K a names = true) : ∃ fd, fdK K a = some fd ∧ FnOK W a names (bodyK K a) fd := by
  unfold fnChk at h
  split at h
  · rename_i fd hfd
    refine ⟨fd, hfd, ?_⟩
    simp only [Bool.and_eq_true, decide_eq_true_eq] at h
    obtain ⟨⟨⟨⟨⟨⟨⟨⟨⟨⟨h1, h2⟩, h3⟩, h4⟩, h5⟩, h6⟩, h7⟩, h8⟩, h9⟩, h10⟩, h11⟩ := h
    have hb : fd.body = .stmts (bodyK K a) := by
      unfold bodyK; rw [hfd]; dsimp only; split at h1
      · rename_i b hb; rw [hb]
      · cases h1
    refine ⟨?_, hb, List.isEmpty_iff.mp h2, h3, h4, codeRec_of X h5, h6, h7, by simpa using h8, by simpa using h9, h10, fun p hp => ?_⟩
    · unfold fdK at hfd
      split at hfd
      · rename_i c d f sl hl
        cases hfd
        exact ⟨_, X _ _ hl, rfl⟩
      · cases hfd
    · have := List.all_eq_true.mp h11 p hp
      simpa using this
  · cases h

/-- what is said once of a law's text -/
structure Txt (W : Wd) (K : Frag) (t : List (Str × V)) : Prop where
  inH : K.In W.H
  gl : GlOK W.H (glT t)
  lim : W.H.NoLimit

noncomputable def parOk (names : List (Str × NameKind)) (xs : List Str) : Bool := decide xs.Nodup && xs.all fun x => match names.lookup x with
  | some .local => true
  | some .cell => true
  | _ => false
theorem parOk_is {names : List (Str × NameKind)} {xs : List Str} (h : parOk names xs = true) : xs.Nodup ∧ ∀ x ∈ xs, names.lookup x = some .local ∨ names.lookup x = some .cell := by
  obtain ⟨h1, h2⟩ := Bool.and_eq_true_iff.mp h
  refine ⟨of_decide_eq_true h1, fun x hx => ?_⟩
  have := List.all_eq_true.mp h2 x hx
  split at this
  · rename_i e; exact .inl e
  · rename_i e; exact .inr e
  · cases this

theorem abB_zip : ∀ (xs : List Str) (vs : List Value), abB (xs.zip vs) = xs.zip (vs.map ab)
  | [], _ => by simp [abB]
  | _ :: _, [] => by simp [abB]
  | x :: xs, v :: vs => by have := abB_zip xs vs; simp only [abB] at this ⊢; simp [this]

/-- a call by position of a function of the text -/
theorem callP {t : List (Str × V)} (X : Txt W K t) {fa : Addr} {names : List (Str × NameKind)} {S0 : S} {xs : List Str} (hf : fnChk K fa names = true) (hS : erSs (glT t) names (bodyK K fa) = S0)
    (hp : parOk names xs = true) (hb : ∀ fd vs, fdK K fa = some fd → vs.length = xs.length → bindArgs fd ⟨vs, []⟩ = pure (xs.zip vs)) {us : List V} (hl : us.length = xs.length) {Q : V → St → Prop}
    (h : cellW names (parV (xs.zip us)) [] σ fun cs σ' => sW W n S0 cs (slots0 names (parV (xs.zip us))) σ' fun f σ'' _ => Q (retV f) σ'') : CallOK W (n + 1) (.ref fa) us [] [] Q σ := by
  obtain ⟨fd, hfd, F⟩ := fnOK_of X.inH hf
  obtain ⟨p1, p2⟩ := parOk_is hp
  have hz : (xs.zip us).map (·.1) = xs := by rw [List.map_fst_zip]; rw [hl]; exact Nat.le_refl _
  refine call_fn X.gl X.lim F (abinds := xs.zip us) (fun s vs kvs _ hv hk => ?_) (by rw [hz]; exact p1) (fun p hp => p2 _ ?_) (by rw [hS]; exact h)
  · refine ⟨xs.zip vs, BindsTo.of_eq ?_, by rw [abB_zip, hv]⟩
    have e : kvs = [] := by simpa using hk
    subst e
    exact hb fd vs hfd (by rw [← hl, ← hv, List.length_map])
  · rw [← hz]; exact List.mem_map.mpr ⟨p, hp, rfl⟩

noncomputable def vAddr (v : Value) : Option Addr := match v with
  | .ref a => some a
  | _ => none
noncomputable def vInt0 (v : Value) : Bool := match v with
  | .int i _ => decide (i = 0)
  | _ => false
noncomputable def vNone (v : Value) : Bool := match v with
  | .none => true
  | _ => false
noncomputable def vKey (v : Value) : Bool := match v with
  | .str k _ => decide (k = ("key" : Str))
  | _ => false
noncomputable def dSeq (d : Data) : Option (List Value) := match d with
  | .seq i _ => some i.toList
  | _ => none
noncomputable def dDict (d : Data) : Option (List DictEntry) := match d with
  | .dict i _ => some i.toList
  | _ => none
noncomputable def two? {α : Type} (l : List α) : Option (α × α) := match l with
  | [] => none
  | x :: r => (one? r).map fun y => (x, y)
theorem lenS {α : Type} {l : List α} {k : Nat} (h : l.length = k + 1) : ∃ x r, l = x :: r ∧ r.length = k := by
  cases l with
  | nil => cases h
  | cons x r => exact ⟨x, r, rfl, Nat.succ.inj h⟩
noncomputable def dfSeq (K : Frag) (v : Value) : Option (Value × Value) := (vAddr v).bind fun T => (K.lookup T).bind fun o => (dSeq o.data).bind two?
noncomputable def dfKey (K : Frag) (v : Value) : Option DictEntry := (vAddr v).bind fun T => (K.lookup T).bind fun o => (dDict o.data).bind one?
noncomputable def dfChk (K : Frag) (a : Addr) : Bool := match fdK K a with
  | some fd => isParB fd.params && (match dfSeq K fd.defaults with
      | some q => vInt0 q.1 && vNone q.2
      | none => false) && (match dfKey K fd.kwdefaults with
      | some e => vKey e.key && vNone e.val
      | none => false)
  | none => false
end Mine

end
section -- F20
namespace Mine
variable {W : Wd} {n : Nat} {gl : Str → Option V} {σ : St} {A : Around} {s s' : Shared} {K : Frag}

theorem vAddr_is {v : Value} {a : Addr} (h : vAddr v = some a) : v = .ref a := by cases v <;> cases h; rfl
theorem vInt0_is {v : Value} (h : vInt0 v = true) : ∃ t, v = .int 0 t := by
  cases v with
  | int i t => exact ⟨t, by rw [of_decide_eq_true (p := i = 0) h]⟩
  | _ => cases h
theorem vNone_is {v : Value} (h : vNone v = true) : v = .none := by cases v <;> first | rfl | cases h
theorem vKey_is {v : Value} (h : vKey v = true) : ∃ t, v = .str ("key" : Str) t := by
  cases v with
  | str i t => exact ⟨t, by rw [of_decide_eq_true (p := i = ("key" : Str)) h]⟩
  | _ => cases h
theorem dSeq_is {d : Data} {l : List Value} (h : dSeq d = some l) : ∃ n, d = .seq l.toArray n := by
  cases d with
  | seq i n => cases h; exact ⟨n, rfl⟩
  | _ => cases h
theorem dDict_is {d : Data} {l : List DictEntry} (h : dDict d = some l) : ∃ n, d = .dict l.toArray n := by
  cases d with
  | dict i n => cases h; exact ⟨n, rfl⟩
  | _ => cases h
theorem two_is {α : Type} {l : List α} {x y : α} (h : two? l = some (x, y)) : l = [x, y] := by
  cases l with
  | nil => cases h
  | cons z r =>
    obtain ⟨w, h1, h2⟩ := Option.map_eq_some_iff.mp h
    cases h2
    rw [one_is h1]
theorem dfB_of {a : Addr} {fd : FuncData} {h : Heap} (X : K.In h) (hfd : fdK K a = some fd) (hc : dfChk K a = true) : DfB fd h := by
  unfold dfChk at hc
  rw [hfd] at hc
  obtain ⟨hc, h3⟩ := Bool.and_eq_true_iff.mp hc
  obtain ⟨h1, h2⟩ := Bool.and_eq_true_iff.mp hc
  refine ⟨h1, ?_, ?_⟩
  · cases hq : dfSeq K fd.defaults with
    | none => rw [hq] at h2; cases h2
    | some q =>
      rw [hq] at h2
      obtain ⟨v1, v2⟩ := q
      obtain ⟨h4, h5⟩ := Bool.and_eq_true_iff.mp h2
      obtain ⟨T, k1, k2⟩ := Option.bind_eq_some_iff.mp hq
      obtain ⟨o, k3, k4⟩ := Option.bind_eq_some_iff.mp k2
      obtain ⟨l, k5, k6⟩ := Option.bind_eq_some_iff.mp k4
      obtain ⟨n, k7⟩ := dSeq_is k5
      obtain ⟨t, rfl⟩ := vInt0_is h4
      cases vNone_is h5
      exact ⟨T, o, t, n, vAddr_is k1, X _ _ k3, by rw [k7, two_is k6]⟩
  · cases hq : dfKey K fd.kwdefaults with
    | none => rw [hq] at h3; cases h3
    | some e =>
      rw [hq] at h3
      obtain ⟨hh, kk, vv⟩ := e
      obtain ⟨h4, h5⟩ := Bool.and_eq_true_iff.mp h3
      obtain ⟨D, k1, k2⟩ := Option.bind_eq_some_iff.mp hq
      obtain ⟨o, k3, k4⟩ := Option.bind_eq_some_iff.mp k2
      obtain ⟨l, k5, k6⟩ := Option.bind_eq_some_iff.mp k4
      obtain ⟨n, k7⟩ := dDict_is k5
      obtain ⟨t, ht⟩ := vKey_is h4
      have hv := vNone_is h5
      dsimp only at ht hv
      subst ht hv
      rw [one_is k6] at k7
      refine ⟨D, _, vAddr_is k1, ⟨_, _, n, X _ _ k3, k7, ?_, fun _ => rfl⟩, ?_⟩
      · intro e h
        simp at h
        subst h
        exact ⟨_, _, rfl⟩
      · rfl

noncomputable def namesB : List Str := ["a", "x", "lo", "hi", "key"]
noncomputable def argsB (us ks : List V) : Option (List V) := match us with
  | [] => none
  | a :: us => (match us with
    | [] => none
    | x :: us => (match us with
      | [] => (match ks with
        | [] => some [a, x, .int 0, .none, .none]
        | k :: ks => (match ks with
          | [] => some [a, x, .int 0, .none, k]
          | _ :: _ => none))
      | lo :: us => (match ks with
        | [] => (match us with
          | [] => some [a, x, lo, .none, .none]
          | hi :: us => (match us with
            | [] => some [a, x, lo, hi, .none]
            | _ :: _ => none))
        | _ :: _ => none)))
/-- the shapes of a call -/
inductive ArgB : List V → List V → List V → Prop where
  | a2 (a x : V) : ArgB [a, x] [] [a, x, .int 0, .none, .none]
  | a3 (a x lo : V) : ArgB [a, x, lo] [] [a, x, lo, .none, .none]
  | a4 (a x lo hi : V) : ArgB [a, x, lo, hi] [] [a, x, lo, hi, .none]
  | ak (a x k : V) : ArgB [a, x] [k] [a, x, .int 0, .none, k]
theorem argsB_is {us ks bs : List V} (h : argsB us ks = some bs) : ArgB us ks bs := by
  cases us with
  | nil => cases h
  | cons a us =>
    cases us with
    | nil => cases h
    | cons x us =>
      cases us with
      | nil =>
        cases ks with
        | nil => cases h; exact .a2 a x
        | cons k ks =>
          cases ks with
          | nil => cases h; exact .ak a x k
          | cons _ _ => cases h
      | cons lo us =>
        cases ks with
        | cons _ _ => cases h
        | nil =>
          cases us with
          | nil => cases h; exact .a3 a x lo
          | cons hi us =>
            cases us with
            | nil => cases h; exact .a4 a x lo hi
            | cons _ _ => cases h
theorem ArgB.five {us ks bs : List V} (h : ArgB us ks bs) : ∃ a b c d e, bs = [a, b, c, d, e] := by cases h <;> exact ⟨_, _, _, _, _, rfl⟩
noncomputable def knB : List V → List Str
  | [] => []
  | _ => ["key"]
theorem callB {t : List (Str × V)} (X : Txt W K t) {fa : Addr} {names : List (Str × NameKind)} {S0 : S} (hf : fnChk K fa names = true) (hS : erSs (glT t) names (bodyK K fa) = S0)
    (hp : parOk names namesB = true) (hb : dfChk K fa = true) {us ks bs : List V} (hl : argsB us ks = some bs) {Q : V → St → Prop}
    (h : cellW names (parV (namesB.zip bs)) [] σ fun cs σ' => sW W n S0 cs (slots0 names (parV (namesB.zip bs))) σ' fun f σ'' _ => Q (retV f) σ'') : CallOK W (n + 1) (.ref fa) us (knB ks) ks Q σ := by
  obtain ⟨fd, hfd, F⟩ := fnOK_of X.inH hf
  obtain ⟨p1, p2⟩ := parOk_is hp
  have hl5 : namesB.length ≤ bs.length := by
    obtain ⟨_, _, _, _, _, rfl⟩ := (argsB_is hl).five
    exact Nat.le_refl _
  have hz : (namesB.zip bs).map (·.1) = namesB := List.map_fst_zip hl5
  refine call_fn X.gl X.lim F (abinds := namesB.zip bs) (fun s vs kvs hbase hv hk => ?_) (by rw [hz]; exact p1) (fun p hp => p2 _ ?_) (by rw [hS]; exact h)
  · have D : DfB fd s.heap := dfB_of (fun a o e => hbase _ _ (X.inH a o e)) hfd hb
    have B := argsB_is hl
    clear hl hl5 hz h
    cases B with
    | a2 a x =>
      obtain ⟨v, w, rfl, rfl, rfl⟩ := map_two hv
      cases List.map_eq_nil_iff.mp hk
      obtain ⟨t, B⟩ := bind_B2 (v := v) (w := w) D
      exact ⟨_, by rw [List.zip_nil_right]; exact B, rfl⟩
    | a3 a x lo =>
      obtain ⟨v, w, y, rfl, rfl, rfl, rfl⟩ := map_three hv
      cases List.map_eq_nil_iff.mp hk
      exact ⟨_, by rw [List.zip_nil_right]; exact bind_B3 D, rfl⟩
    | a4 a x lo hi =>
      obtain ⟨v, l, rfl, rfl, e3⟩ := List.map_eq_cons_iff.mp hv
      obtain ⟨w, y, z, rfl, rfl, rfl, rfl⟩ := map_three e3
      cases List.map_eq_nil_iff.mp hk
      exact ⟨_, by rw [List.zip_nil_right]; exact bind_B4 D, rfl⟩
    | ak a x k =>
      obtain ⟨v, w, rfl, rfl, rfl⟩ := map_two hv
      obtain ⟨u, rfl, rfl⟩ := map_one hk
      obtain ⟨t, B⟩ := bind_B2k (v := v) (w := w) (k := u) D
      exact ⟨_, B, rfl⟩
  · rw [← hz]; exact List.mem_map.mpr ⟨p, hp, rfl⟩

noncomputable def σ0 (a : Addr) (ns : List Int) : St := fun b => if b = a then some (.ro (ivs ns)) else none
theorem ints_ab : ∀ {vs : List Value} {ns : List Int}, IntsAre vs ns → vs.map ab = ivs ns := by
  intro vs ns h
  induction h with
  | nil => rfl
  | cons => simp_all [ivs, ab]

theorem lawEnds {prog : Program} {w : World} {s₁ : Shared} {fa a : Addr} {vs : List Value} {ns : List Int} {c : ClaimW} {cl : Str → Option Addr} {mean : ExcName → Option Value} {args : List WData}
    (hL : s₁.heap.IsList a vs.toArray) (hI : IntsAre vs ns) (hlen : ns.length ≤ 63) (hg : s₁.gens = #[]) (hn : ∀ cls, c.raises args cls = false) (hp : c.post args (.bool true) args = true)
    (h : CallOK ⟨prog, w, s₁.heap, ""⟩ 500 (.ref fa) [.ref a] [] [] (fun v _ => v = .bool true) (σ0 a ns)) :
    wpAny (model prog w) callerA (call (.ref fa) [.ref a] []) (fun v s' => GoodWG c cl mean args s₁ (.ok (.ret v)) s') (fun e s' => GoodWG c cl mean args s₁ (.error e) s') s₁ := by
  have R : Room 500 callerA := ⟨rfl, by decide, by decide⟩
  have G : RelG s₁.heap (σ0 a ns) s₁ := by
    refine ⟨fun _ _ e => e, fun b x e => ?_, fun b x e hm => ?_⟩
    · unfold σ0 at e
      split at e
      · rename_i hb; cases e; subst hb
        exact ⟨_, hL, by rw [← ints_ab hI], by rw [ivs, List.length_map]; unfold lim; omega⟩
      · cases e
    · unfold σ0 at e
      split at e
      · cases e; cases hm
      · cases e
  have := h.2 callerA s₁ R G ⟨[], rfl, fun _ h => by cases h⟩ (.ref fa) [.ref a] [] rfl rfl rfl
  refine wpAny_mono this (fun v s' q => ?_) fun _ _ x => x.elim
  obtain ⟨σ', q, g, t⟩ := q
  obtain ⟨hh, tt, rfl⟩ := t.rest
  refine GoodW.toG ⟨.inl ⟨v, .bool true, [], rfl, hn, ?_, hp, unshared_nil⟩, g.base, rfl, hg⟩
  rw [ab_bool q]
  exact .bool true
end Mine

end
section -- F21
namespace Mine
variable {W : Wd} {n : Nat} {σ : St} {K : Frag}

/-- a function with bisect's parameters -/
noncomputable def FnB (W : Wd) (fa : Addr) (S0 : S) (m : Nat) : Prop := ∃ cs, ∀ us ks bs n Q σ, argsB us ks = some bs → sW W n S0 cs (bs ++ undefs m) σ (fun f σ' _ => Q (retV f) σ') → CallOK W (n + 1) (.ref fa) us (knB ks) ks Q σ
/-- a function called by position, without cells -/
noncomputable def FnP (W : Wd) (fa : Addr) (S0 : S) (k m : Nat) : Prop := ∃ cs, ∀ us n Q σ, us.length = k → sW W n S0 cs (us ++ undefs m) σ (fun f σ' _ => Q (retV f) σ') → CallOK W (n + 1) (.ref fa) us [] [] Q σ

theorem cellW_acc {b : Str → V} {Q : List Addr → St → Prop} : ∀ (names : List (Str × NameKind)) (acc : List Addr), names.all (fun p => !(p.2 == .cell)) = true → Q (acc ++ List.replicate names.length 0) σ → cellW names b acc σ Q
  | [], acc, _, h => by simpa [cellW] using h
  | (x, k) :: r, acc, hn, h => by
    obtain ⟨h1, h2⟩ : (!(k == NameKind.cell)) = true ∧ r.all (fun p => !(p.2 == .cell)) = true := Bool.and_eq_true_iff.mp (by simpa only [List.all_cons] using hn)
    unfold cellW
    rw [if_neg (by intro e; rw [e] at h1; cases h1)]
    refine cellW_acc r _ h2 ?_
    have : acc ++ [0] ++ List.replicate r.length 0 = acc ++ List.replicate (r.length + 1) (0 : Addr) := by rw [List.append_assoc, List.replicate_succ]; rfl
    rw [this]; exact h
theorem cellW_none {b : Str → V} {Q : List Addr → St → Prop} {names : List (Str × NameKind)} (hn : names.all (fun p => !(p.2 == .cell)) = true) (h : Q (List.replicate names.length 0) σ) : cellW names b [] σ Q :=
  cellW_acc names [] hn (by simpa using h)

theorem fnB_of {t : List (Str × V)} (X : Txt W K t) {fa : Addr} {names : List (Str × NameKind)} {S0 : S} {m : Nat} (hf : fnChk K fa names = true) (hS : erSs (glT t) names (bodyK K fa) = S0)
    (hp : parOk names namesB = true ∧ dfChk K fa = true) (hc : names.all (fun p => !(p.2 == .cell)) = true) (hs : ∀ a b c d e, slots0 names (parV (namesB.zip [a, b, c, d, e])) = a :: b :: c :: d :: e :: undefs m) : FnB W fa S0 m := by
  refine ⟨List.replicate names.length 0, fun us ks bs n Q σ hb h => callB X hf hS hp.1 hp.2 hb (cellW_none hc ?_)⟩
  have : ∃ a b c d e, bs = [a, b, c, d, e] := by
    exact (argsB_is hb).five
  obtain ⟨a, b, c, d, e, rfl⟩ := this
  rw [hs]; exact h

theorem fnP_of {t : List (Str × V)} (X : Txt W K t) {fa : Addr} {names : List (Str × NameKind)} {S0 : S} {m : Nat} {xs : List Str} (hf : fnChk K fa names = true) (hS : erSs (glT t) names (bodyK K fa) = S0)
    (hp : parOk names xs = true) (hb : ∀ vs, vs.length = xs.length → (fdK K fa).map (fun fd => bindArgs fd ⟨vs, []⟩) = some (pure (xs.zip vs))) (hc : names.all (fun p => !(p.2 == .cell)) = true)
    (hs : ∀ us : List V, us.length = xs.length → slots0 names (parV (xs.zip us)) = us ++ undefs m) : FnP W fa S0 xs.length m := by
  refine ⟨List.replicate names.length 0, fun us n Q σ hl h => callP X hf hS hp (fun fd vs hfd hv => ?_) hl (cellW_none hc ?_)⟩
  · have := hb vs hv
    rw [hfd] at this
    exact Option.some.inj this
  · rw [hs us hl]; exact h
/-- with cells: the function's own frame is the caller's care -/
theorem fnC_of {t : List (Str × V)} (X : Txt W K t) {fa : Addr} {names : List (Str × NameKind)} {S0 : S} {xs : List Str} (hf : fnChk K fa names = true) (hS : erSs (glT t) names (bodyK K fa) = S0)
    (hp : parOk names xs = true) (hb : ∀ vs, vs.length = xs.length → (fdK K fa).map (fun fd => bindArgs fd ⟨vs, []⟩) = some (pure (xs.zip vs))) {us : List V} {Q : V → St → Prop} (hl : us.length = xs.length)
    (h : cellW names (parV (xs.zip us)) [] σ fun cs σ' => sW W n S0 cs (slots0 names (parV (xs.zip us))) σ' fun f σ'' _ => Q (retV f) σ'') : CallOK W (n + 1) (.ref fa) us [] [] Q σ :=
  callP X hf hS hp (fun fd vs hfd hv => by
    have := hb vs hv
    rw [hfd] at this
    exact Option.some.inj this) hl h
end Mine

end
section -- F23
namespace Mine
variable {W : Wd} {n : Nat} {gl : Str → Option V} {env : Env} {cs : List Addr} {fr : List V} {σ : St} {A : Around} {s s' : Shared} {K : Frag}

noncomputable def rW (W : Wd) (n : Nat) (C : Addr) (m : Str) (R : St → Prop) : S → List Addr → List V → St → Prop
  | .seq a b, cs, fr, σ => (sW W n a cs fr σ fun f σ1 fr1 => f = .next ∧ rW W n C m R b cs fr1 σ1) ∨ rW W n C m R a cs fr σ
  | .ite t a b, cs, fr, σ => tW W n t cs fr σ fun c σ1 => if c = true then rW W n C m R a cs fr σ1 else rW W n C m R b cs fr σ1
  | .rais c m', _, _, σ => c = C ∧ m' = m ∧ R σ
  | _, _, _, _ => False
/-- the exception is made: s1 is the state ahead of it -/
noncomputable def MkPost (W : Wd) (A : Around) (env : Env) (σ : St) (s : Shared) (C : Addr) (m : Str) (R : St → Prop) : Value → Shared → Prop := fun ev s' =>
  ∃ e u σ1 fr1 s1, ev = .ref e ∧ R σ1 ∧ Rel W.H A env σ1 fr1 s1 ∧ Stp (At env.locals) σ s σ1 s1 ∧ Heap.MadeExcOf s1.heap s'.heap e (.ref C) [.str m u] ∧ ∃ h tk, s' = { s1 with heap := h, toks := tk }
theorem MkPost.trans {σ1 : St} {s1 s2 : Shared} {C : Addr} {m : Str} {R : St → Prop} {v : Value} (t : Stp (At env.locals) σ s σ1 s1) (p : MkPost W A env σ1 s1 C m R v s2) : MkPost W A env σ s C m R v s2 := by
  obtain ⟨e, u, σ', fr', s', a, b, c, d, x⟩ := p; exact ⟨e, u, σ', fr', s', a, b, c, t.trans d, x⟩
theorem raise_ok (G : GlOK W.H gl) {C : Addr} (hC : ExcC W.H C) {x m : Str} {k : Nat} {p1 p2 p3 p4 : Pos} {R : St → Prop} {Z : Flow → Shared → Prop} (Ke : EnvOK W env cs) (hl : env.scope.names.lookup x = some .globalImplicit) (hd : (x == ("__debug__" : Str)) = false) (hx : gl x = some (.ref C)) (Rm : Room n A) (r : Rel W.H A env σ fr s) (hR : R σ) :
    wpAny W.M A (exec (.Raise (some (.Call (.Name x p1) [.Constant (.str m) k p2] [] p3)) none p4) env) Z (MkPost W A env σ s C m R) s := by
  obtain ⟨cd, dd, f0, mN, h1, h2, h3, h4⟩ := hC
  refine wpAny_Raise_call_subT (C := C) (nm := cd.name) (q := cd.qualname) (N := cd.ns) (bs := cd.bases) (bm := bmV) (bmB := bmV) (hdct := cd.hasDict) (sn := cd.slotNames) (sub := cd.subclasses) (ab := cd.abstract) (col := cd.collection) (dd := dd) (k0 := f0 0) (k1 := f0 1) (k2 := f0 2) (k3 := f0 3) (k5 := f0 5) PySem.F.excBase_ValueError (mN := mN) rfl Rm.handled rfl h3 ?_
  refine name_glob G Ke hl hd hx r.base fun v' hv' => ⟨ab_ref hv', ?_⟩
  refine evalArgs_ok (.inr ⟨_, _, rfl⟩) rfl ?_
  refine Calls.spliced_cons (wpAny_Constant_str (k := k) (pos := p2) (Calls.spliced_nil (wpAny_pure ⟨rfl, by show 1 ≤ sizeLine; rw [sizeLine_eq]; omega, r.base _ _ h1, h2.keeps r.base, .base, fun h' e hm => ?_⟩)))
  have t1 : Stp No σ s σ { s with toks := s.toks + 1 } := .toks _
  exact ⟨e, _, σ, fr, _, rfl, hR, r.step (r.toRelG.toks _) t1, t1.up, hm, h', _, rfl⟩

noncomputable def RS (W : Wd) (gl : Str → Option V) (C : Addr) (m : Str) (R : St → Prop) (st : Stmt) : Prop := ∀ n env cs fr σ, EnvOK W env cs → rW W n C m R (erS gl env.scope.names st) cs fr σ → ∀ A s, Room n A → Rel W.H A env σ fr s → Mine.Top A env → ∀ Z, wpAny W.M A (exec st env) Z (MkPost W A env σ s C m R) s
noncomputable def RSs (W : Wd) (gl : Str → Option V) (C : Addr) (m : Str) (R : St → Prop) (l : List Stmt) : Prop := ∀ n env cs fr σ, EnvOK W env cs → rW W n C m R (erSs gl env.scope.names l) cs fr σ → ∀ A s, Room n A → Rel W.H A env σ fr s → Mine.Top A env → ∀ Z, wpAny W.M A (execs l env) Z (MkPost W A env σ s C m R) s
section
variable {C : Addr} {m : Str} {R : St → Prop}
theorem rs_no {st : Stmt} (h : ∀ n ns cs fr σ, rW W n C m R (erS gl ns st) cs fr σ → False) : RS W gl C m R st := fun n env cs fr σ K q => (h _ _ _ _ _ q).elim
theorem rs_bad {st : Stmt} (h : ∀ ns, erS gl ns st = .bad) : RS W gl C m R st := rs_no fun n ns cs fr σ q => by rw [h] at q; exact q
theorem rs_assign {ts : List PySem.Expr} {v : PySem.Expr} {p : Pos} : RS W gl C m R (.Assign ts v p) := by
  rcases ts with _ | ⟨e, _ | ⟨e', r⟩⟩
  · exact rs_bad fun _ => rfl
  · cases e with
    | Name x px => exact rs_no fun n ns cs fr σ q => by rw [es_name] at q; split at q <;> exact q
    | Tuple ts k tp =>
      refine rs_no fun n ns cs fr σ q => ?_
      rw [es_tup] at q
      unfold unpX at q
      split at q
      · exact q
      · split at q <;> exact q
      · exact q
    | Subscript o i sp => exact rs_no fun n ns cs fr σ q => by rw [es_ssub] at q; exact q
    | _ => exact rs_bad fun _ => rfl
  · cases e <;> exact rs_bad fun _ => rfl
theorem rs_aug {t : PySem.Expr} {op : Operator} {v : PySem.Expr} {p : Pos} : RS W gl C m R (.AugAssign t op v p) := by
  cases t with
  | Name x px => exact rs_no fun n ns cs fr σ q => by rw [es_aug] at q; split at q <;> exact q
  | _ => exact rs_bad fun _ => rfl
theorem rs_raise (G : GlOK W.H gl) (hC : ExcC W.H C) {e c : Option PySem.Expr} {p : Pos} : RS W gl C m R (.Raise e c p) := by
  cases e with
  | none => exact rs_bad fun _ => rfl
  | some x =>
    cases x with
    | Call f args ks q =>
      cases f with
      | Name y yp =>
        rcases args with _ | ⟨a, _ | ⟨b, r⟩⟩
        · exact rs_bad fun _ => rfl
        · cases a with
          | Constant k kk kp =>
            cases k with
            | str m' =>
              rcases ks with _ | ⟨k1, ks⟩
              · cases c with
                | none =>
                  intro n env cs fr σ K h A s Rm r Tp Z
                  rw [es_raise] at h
                  split at h
                  · rename_i c' hc'
                    split at h
                    · rename_i hcond
                      simp only [Bool.and_eq_true, beq_iff_eq, bne_iff_ne] at hcond
                      obtain ⟨rfl, rfl, hR⟩ := h
                      exact raise_ok G hC K hcond.1 (by simpa using hcond.2) (refOf_is hc') Rm r hR
                    · exact h.elim
                  · exact h.elim
                | some _ => exact rs_bad fun _ => rfl
              · exact rs_bad fun _ => rfl
            | _ => exact rs_bad fun _ => rfl
          | _ => exact rs_bad fun _ => rfl
        · cases a with
          | Constant k kk kp => cases k <;> exact rs_bad fun _ => rfl
          | _ => exact rs_bad fun _ => rfl
      | _ => exact rs_bad fun _ => rfl
    | _ => exact rs_bad fun _ => rfl
mutual
theorem rns (G : GlOK W.H gl) (hC : ExcC W.H C) : ∀ st : Stmt, RS W gl C m R st
  | .If t b o p => fun n env cs fr σ K h A s Rm r Tp Z => by
    have hb := rnss G hC b
    have ho := rnss G hC o
    rw [es_if] at h
    refine wpAny_If (wpAny_mono ((snd G t).2.1 _ _ _ _ _ _ K (show tW W n (er gl env.scope.names t) cs fr σ _ from h) A s Rm r) (fun c s1 p1 => ?_) fun _ _ x => x.elim)
    obtain ⟨σ1, q1, r1, t1⟩ := afterE r p1
    cases c with
    | true => exact wpAny_mono (hb _ _ _ _ _ K (by simpa using q1) A s1 Rm r1 Tp _) (fun _ _ x => x) fun _ _ p => p.trans t1
    | false => exact wpAny_mono (ho _ _ _ _ _ K (by simpa using q1) A s1 Rm r1 Tp _) (fun _ _ x => x) fun _ _ p => p.trans t1
  | .Raise e c p => rs_raise G hC
  | .Assign ts v p => rs_assign
  | .AugAssign t op v p => rs_aug
  | .Delete ts p => by
    rcases ts with _ | ⟨e, _ | ⟨e', r⟩⟩
    · exact rs_bad fun _ => rfl
    · cases e with
      | Subscript o i sp => exact rs_no fun n ns cs fr σ q => by rw [es_del] at q; exact q
      | _ => exact rs_bad fun _ => rfl
    · cases e <;> exact rs_bad fun _ => rfl
  | .Expr v p => rs_no fun n ns cs fr σ q => by cases v <;> exact q
  | .Return v p => by
    cases v with
    | none => exact rs_no fun n ns cs fr σ q => by rw [es_ret0] at q; exact q
    | some v => exact rs_no fun n ns cs fr σ q => by rw [es_ret] at q; exact q
  | .While t b o p => by
    cases o with
    | nil => exact rs_no fun n ns cs fr σ q => by rw [es_while] at q; exact q
    | cons _ _ => exact rs_bad fun _ => rfl
  | .For t it b o p => by
    cases o with
    | nil => exact rs_no fun n ns cs fr σ q => by rw [es_for] at q; split at q <;> exact q
    | cons _ _ => exact rs_bad fun _ => rfl
  | .Pass p => rs_no fun n ns cs fr σ q => by rw [es_pass] at q; exact q
  | .Break p => rs_no fun n ns cs fr σ q => by rw [es_break] at q; exact q
  | .Continue p => rs_no fun n ns cs fr σ q => by rw [es_cont] at q; exact q
  | .Try b hs o f p => by
    rcases b with _ | ⟨st, _ | ⟨st', b⟩⟩
    · exact rs_bad fun _ => rfl
    · rcases hs with _ | ⟨⟨t, nm, hb', hp⟩, _ | ⟨h2, hs⟩⟩
      · exact rs_bad fun _ => rfl
      · cases t with
        | none => exact rs_bad fun _ => rfl
        | some t =>
          cases t with
          | Name c cp =>
            cases o with
            | nil => cases f with
              | nil =>
                refine rs_no fun n ns cs fr σ q => ?_
                rw [es_try] at q
                unfold tryS at q
                repeat' split at q
                all_goals exact q
              | cons _ _ => exact rs_bad fun _ => rfl
            | cons _ _ => exact rs_bad fun _ => rfl
          | _ => exact rs_bad fun _ => rfl
      · cases t with
        | none => exact rs_bad fun _ => rfl
        | some t => cases t <;> exact rs_bad fun _ => rfl
    · exact rs_bad fun _ => rfl
  | .FunctionDef .. | .AsyncFunctionDef .. | .ClassDef .. | .TypeAlias .. | .AnnAssign .. | .AsyncFor .. | .With .. | .AsyncWith .. | .Match .. | .TryStar .. | .Assert .. | .Import .. | .ImportFrom .. | .Global .. | .Nonlocal .. => rs_bad fun _ => rfl
theorem rnss (G : GlOK W.H gl) (hC : ExcC W.H C) : ∀ l : List Stmt, RSs W gl C m R l
  | [] => fun n env cs fr σ K h => by rw [ess_nil] at h; exact h.elim
  | st :: rest => fun n env cs fr σ K h A s Rm r Tp Z => by
    have h1 := rns G hC st
    have h2 := rnss G hC rest
    rw [ess_cons] at h
    rcases (show (sW W n (erS gl env.scope.names st) cs fr σ fun f σ1 fr1 => f = .next ∧ rW W n C m R (erSs gl env.scope.names rest) cs fr1 σ1) ∨ rW W n C m R (erS gl env.scope.names st) cs fr σ from h) with h | h
    · refine wpAny_execs_cons (wpAny_mono (sns G st _ _ _ _ _ _ K h A s Rm r Tp) (fun f s1 p1 => ?_) fun _ _ x => x.elim)
      obtain ⟨σ1, fr1, ⟨q0, q1⟩, r1, t1⟩ := p1
      cases f with
      | next => exact wpAny_mono (h2 _ _ _ _ _ K q1 A s1 Rm r1 Tp _) (fun _ _ x => x) fun _ _ p => p.trans t1
      | brk => cases q0
      | cont => cases q0
      | ret v => cases q0
    · exact wpAny_execs_cons (h1 _ _ _ _ _ K h A s Rm r Tp _)
end
end
end Mine

end
section -- F24
namespace Mine
variable {W : Wd} {n : Nat} {gl : Str → Option V} {env : Env} {cs : List Addr} {fr : List V} {σ : St} {A : Around} {s s' : Shared} {K : Frag} {C : Addr} {m : Str} {R : St → Prop}

theorem funFrames_of {h B : Heap} : ∀ {l : List Env}, (∀ env ∈ l, env.scope.kind ≠ .module ∧ ∃ L o, env.frame = some L ∧ B.get? L = none ∧ h.get? L = some o ∧ ∀ vs, o.data ≠ .fields vs) → h.FunFrames B l
  | [], _ => trivial
  | env :: l, k => ⟨(k env (.head _)).1, (k env (.head _)).2, funFrames_of fun e he => k e (.tail _ he)⟩
theorem call_rz (G : GlOK W.H gl) (hlim : W.H.NoLimit) (hC : ExcC W.H C) {fa : Addr} {names : List (Str × NameKind)} {body : List Stmt} {fd : FuncData} (F : FnOK W fa names body fd) {args : List V} {abinds : List (Str × V)}
    (hbind : ∀ s vs kvs, (∀ b o, W.H.get? b = some o → s.heap.get? b = some o) → vs.map ab = args → kvs.map ab = [] → ∃ binds, BindsTo s fd ⟨vs, ([] : List Str).zip kvs⟩ binds ∧ abB binds = abinds)
    (hnd : (abinds.map (·.1)).Nodup) (hkinds : ∀ p ∈ abinds, names.lookup p.1 = some .local ∨ names.lookup p.1 = some .cell)
    (h : cellW names (parV abinds) [] σ fun cs σ' => rW W n C m R (erSs gl names body) cs (slots0 names (parV abinds)) σ') : CallRz W (n + 1) (.ref fa) args C m R σ := by
  obtain ⟨o, ho, hd⟩ := id F.obj
  refine ⟨⟨fa, rfl, .inr ⟨o, fd, ho, hd⟩⟩, fun A s Rm r fs fv vs hf hv => ?_⟩
  rw [ab_ref hf]
  refine enter_fn (kn := []) (kvs := []) (kargs := []) hlim F hbind hnd hkinds [] nofun h Rm r fs hv rfl fun cs σ1 env s1 hK E r1 t1 hnames Tp hLn Rd => ?_
  have hK' : rW W n C m R (erSs gl env.scope.names body) (cs ++ []) (slots0 names (parV abinds)) σ1 := by rw [hnames, List.append_nil]; exact hK
  refine wpAny_mono (rnss G hC body _ _ _ _ _ E hK' _ s1 Rd r1 Tp fun _ _ => False) (fun _ _ x => x.elim) fun ev s' p => ?_
  obtain ⟨e, u, σ2, fr2, s2, rfl, hR, r2, t2, hmk, h', tk, rfl⟩ := p
  obtain ⟨hfrm, outer, hfr⟩ := Tp
  obtain ⟨l, hl, hfs⟩ := r2.frs
  rw [hfr] at hl; cases hl
  have hdict : ∀ b ∈ (env :: outer).filterMap (·.frame), W.H.get? b = none ∧ ∃ o es n, s2.heap.get? b = some o ∧ o.data = .dict es n := fun b hb => by
    obtain ⟨ev, he, hf⟩ := List.mem_filterMap.mp hb
    obtain ⟨_, L, o, es, n', h2, h3, _, h5, h6⟩ := hfs ev he
    rw [h2] at hf; cases hf
    exact ⟨h3, o, es, n', h5, h6⟩
  have hAf : A.frames = some outer := by
    obtain ⟨lf, hlf, _⟩ := fs
    rw [Around.frames_deeper hlf] at hfr
    cases hfr; exact hlf
  refine wpAny_leaves_madeW (base := hideAll s2.heap ((env :: outer).filterMap (·.frame))) hfr hfrm (fun b o q => of_hideAll _ q) (funFrames_of fun ev he => ?_) hmk fun h'' t x1 x2 x3 x4 => ?_
  · obtain ⟨h1, L, o, es, n', h2, h3, _, h5, h6⟩ := hfs ev he
    exact ⟨by rw [h1]; nofun, L, o, h2, hideAll_none _ (List.mem_filterMap.mpr ⟨ev, he, h2⟩), h5, fun vs q => by rw [h6] at q; cases q⟩
  · refine ⟨e, t, u, σ2, s2, _, outer, rfl, hR, r2.toRelG, (t1.trans t2).shown fun b hb => by rw [show b = env.locals from hb]; exact hLn, hAf, fun b o q => ?_, fun b o q hd => ?_, x1, x2, (Heap.UpToSlots.of_keeps hmk.keeps).trans x4, h'', tk, rfl⟩
    · refine hideAll_get _ (r2.base b o q) fun hm => ?_
      rw [(hdict b hm).1] at q; cases q
    · refine hideAll_get _ q fun hm => ?_
      obtain ⟨_, o', es, n', e1, e2⟩ := hdict b hm
      rw [q] at e1; cases e1; exact hd es n' e2

/-- a function called by position, without cells, that may raise -/
noncomputable def FnR (W : Wd) (fa : Addr) (S0 : S) (k mm : Nat) : Prop := ∃ cs, ∀ us n C m R σ, us.length = k → ExcC W.H C → rW W n C m R S0 cs (us ++ undefs mm) σ → CallRz W (n + 1) (.ref fa) us C m R σ
theorem fnR_of {t : List (Str × V)} (X : Txt W K t) {fa : Addr} {names : List (Str × NameKind)} {S0 : S} {mm : Nat} {xs : List Str} (hf : fnChk K fa names = true) (hS : erSs (glT t) names (bodyK K fa) = S0)
    (hp : parOk names xs = true) (hb : ∀ vs, vs.length = xs.length → (fdK K fa).map (fun fd => bindArgs fd ⟨vs, []⟩) = some (pure (xs.zip vs))) (hc : names.all (fun p => !(p.2 == .cell)) = true)
    (hs : ∀ us : List V, us.length = xs.length → slots0 names (parV (xs.zip us)) = us ++ undefs mm) : FnR W fa S0 xs.length mm := by
  refine ⟨List.replicate names.length 0, fun us n C m R σ hl hC h => ?_⟩
  obtain ⟨fd, hfd, F⟩ := fnOK_of X.inH hf
  obtain ⟨p1, p2⟩ := parOk_is hp
  have hz : (xs.zip us).map (·.1) = xs := by rw [List.map_fst_zip]; rw [hl]; exact Nat.le_refl _
  refine call_rz X.gl X.lim hC F (abinds := xs.zip us) (fun s vs kvs _ hv hk => ?_) (by rw [hz]; exact p1) (fun p hp => p2 _ ?_) (cellW_none hc ?_)
  · refine ⟨xs.zip vs, BindsTo.of_eq ?_, by rw [abB_zip, hv]⟩
    have e : kvs = [] := by simpa using hk
    subst e
    have := hb vs (by rw [← hl, ← hv, List.length_map])
    rw [hfd] at this
    exact Option.some.inj this
  · rw [← hz]; exact List.mem_map.mpr ⟨p, hp, rfl⟩
  · rw [hS, hs us hl]; exact h

noncomputable def vTy (v : Value) : Bool := match v with
  | .type t => t == "type"
  | _ => false
noncomputable def vBi (v : Option Value) : Bool := match v with
  | some (.builtin t) => t == "ValueError.__new__"
  | _ => false
noncomputable def dCls (d : Data) : Option ClassData := match d with
  | .cls c => some c
  | _ => none
noncomputable def mroOk (C : Addr) (l : List Value) : Bool := match l with
  | [] => false
  | v :: r => decide (vAddr v = some C) && r == bmV
noncomputable def excChk (K : Frag) (C : Addr) : Bool := match K.lookup C with
  | none => false
  | some o => vTy o.cls && decide (o.slots.toList.length = 6) && vBi (o.slots.toList.getD 4 none) && (match dCls o.data with
    | none => false
    | some cd => mroOk C cd.mro && !cd.hasDel && nsOkIn K cd.ns && nsIn K cd.ns "__init__" == some none && nsIn K cd.ns "__str__" == some none)
theorem vTy_is {v : Value} (h : vTy v = true) : v = .type "type" := by
  cases v with
  | type t => rw [eq_of_beq (a := t) h]
  | _ => cases h
theorem vBi_is {v : Option Value} (h : vBi v = true) : v = some (.builtin "ValueError.__new__") := by
  cases v with
  | none => cases h
  | some v =>
    cases v with
    | builtin t => rw [eq_of_beq (a := t) h]
    | _ => cases h
theorem dCls_is {d : Data} {c : ClassData} (h : dCls d = some c) : d = .cls c := by
  cases d with
  | cls i => cases h; rfl
  | _ => cases h
theorem six_is {α : Type} {l : List α} (h : l.length = 6) : ∃ f : Nat → α, l = [f 0, f 1, f 2, f 3, f 4, f 5] := by
  obtain ⟨a, l1, e1, h1⟩ := lenS h
  obtain ⟨b, l2, e2, h2⟩ := lenS h1
  obtain ⟨c, l3, e3, h3⟩ := lenS h2
  obtain ⟨d, l4, e4, h4⟩ := lenS h3
  obtain ⟨e, l5, e5, h5⟩ := lenS h4
  obtain ⟨f, l6, e6, h6⟩ := lenS h5
  exact ⟨fun i => [a, b, c, d, e, f].getD i a, by rw [e1, e2, e3, e4, e5, e6, List.length_eq_zero_iff.mp h6]; rfl⟩
theorem obj_eq {o : Obj} {c : Value} {d : Data} {l : List (Option Value)} (h1 : o.cls = c) (h2 : o.data = d) (h3 : o.slots.toList = l) : o = ⟨c, o.dict, d, l.toArray⟩ := by
  subst h1 h2 h3; rfl
theorem cls_eq {cd : ClassData} {m : List Value} (h1 : cd.mro = m) (h2 : cd.hasDel = false) : cd = ⟨cd.name, cd.bases, m, cd.ns, cd.qualname, cd.hasDict, cd.slotNames, cd.subclasses, cd.abstract, cd.collection, false⟩ := by
  subst h1; rw [← h2]
theorem mroOk_is {l : List Value} (h : mroOk C l = true) : l = .ref C :: bmV := by
  cases l with
  | nil => cases h
  | cons v r =>
    obtain ⟨m1, m2⟩ := Bool.and_eq_true_iff.mp h
    rw [vAddr_is (of_decide_eq_true m1), eq_of_beq m2]
theorem excC_of {H : Heap} (X : K.In H) (q : excChk K C = true) : ExcC H C := by
  unfold excChk at q
  cases ho : K.lookup C with
  | none => rw [ho] at q; cases q
  | some o =>
    rw [ho] at q
    obtain ⟨q', q4⟩ := Bool.and_eq_true_iff.mp q
    obtain ⟨q', q3⟩ := Bool.and_eq_true_iff.mp q'
    obtain ⟨q1, q2⟩ := Bool.and_eq_true_iff.mp q'
    clear q q'
    cases hc : dCls o.data with
    | none => rw [hc] at q4; cases q4
    | some cd =>
      rw [hc] at q4
      simp only [Bool.and_eq_true, beq_iff_eq, Bool.not_eq_true'] at q4
      obtain ⟨⟨⟨⟨hmr, hdel⟩, hok⟩, hni⟩, hst⟩ := q4
      obtain ⟨f, hl⟩ := six_is (of_decide_eq_true q2)
      have h4 : f 4 = some (.builtin "ValueError.__new__") := by have := vBi_is q3; rw [hl] at this; exact this
      rw [h4] at hl
      have e := (obj_eq (vTy_is q1) (dCls_is hc) hl).trans (congrArg (fun d => Obj.mk _ _ (.cls d) _) (cls_eq (mroOk_is hmr) hdel))
      exact ⟨cd, o.dict, f, _, (X _ _ ho).trans (congrArg some e), .of_isNs (isNs_of_in X hok), nsMap_none_of_in X hok hni, nsMap_none_of_in X hok hst⟩
end Mine

end
section -- C1
namespace Mine
variable {W : Wd} {n : Nat} {σ : St} {cs : List Addr}

noncomputable def whB (tst : X) (a b : S) : S := .whl (.cmp .Lt (.loc 2) (.loc 3)) (.seq (.set (.l 5) (.bin .FloorDiv (.bin .Add (.loc 2) (.loc 3)) (.con (.int (2)))))
 (.seq (.ite tst (.seq a .skip) (.seq b .skip)) .skip))
noncomputable def loUp : S := .set (.l 2) (.bin .Add (.loc 5) (.con (.int (1))))
noncomputable def hiDn : S := .set (.l 3) (.loc 5)
theorem half {l h : Nat} (hlh : l < h) : ((l : Int) + (h : Int)).fdiv 2 = ((l + h) / 2 : Nat) := by
  rw [Int.fdiv_eq_ediv_of_nonneg _ (by decide)]; omega

theorem wh_left {a : V} {x k : V} {tl : List V} {tst : X} {lo hi : Nat} {I : St → Prop} {p : Nat → Bool} {Q : Fl → St → List V → Prop} (hlh : lo ≤ hi)
    (hm : ∀ i j, lo ≤ i → i ≤ j → j < hi → p j = true → p i = true)
    (ht : ∀ mid l h σ, lo ≤ mid → mid < hi → I σ → ∀ Q, (∀ σ', I σ' → Q (p mid) σ') → tW W n tst cs (a :: x :: .int l :: .int h :: k :: .int (mid : Nat) :: tl) σ Q)
    {v : V} (hI : I σ) (hQ : ∀ r σ' v', lo ≤ r → r ≤ hi → (∀ i, lo ≤ i → i < r → p i = true) → (∀ i, r ≤ i → i < hi → p i = false) → I σ' → Q .next σ' (a :: x :: .int r :: .int r :: k :: v' :: tl)) :
    sW W n (whB tst loUp hiDn) cs (a :: x :: .int lo :: .int hi :: k :: v :: tl) σ Q := by
  show whW _ _ _ _ _
  refine ⟨fun j σ fr => ∃ (l h : Nat) (v : V), j = h - l ∧ lo ≤ l ∧ l ≤ h ∧ h ≤ hi ∧ fr = a :: x :: .int l :: .int h :: k :: v :: tl ∧ (∀ i, lo ≤ i → i < l → p i = true) ∧ (∀ i, h ≤ i → i < hi → p i = false) ∧ I σ,
    ⟨hi - lo, lo, hi, v, rfl, Nat.le_refl _, hlh, Nat.le_refl _, rfl, fun i h1 h2 => absurd h1 (by omega), fun i h1 h2 => absurd h1 (by omega), hI⟩, ?_⟩
  rintro j σ fr ⟨l, h, v, rfl, h1, h2, h3, rfl, hp, hq, hI⟩
  simp only [t_not, t_and, t_or, t_ife, t_cmp, t_cmp2, t_con, t_loc, t_call, t_bcall, t_sub, t_bad, t_cel, t_bin, t_neg, t_sl, t_lst, t_tup, t_comp, t_meth, x_bad, x_con, x_loc, x_cel, x_bin, x_neg, x_not, x_and, x_or, x_cmp, x_cmp2, x_ife, x_call, x_bcall, x_meth, x_sub, x_sl, x_lst, x_tup, x_comp, nth, c_lt, c_le, c_gt, c_ge, c_eq, c_ne, c_is, c_isi, c_isr, c_ty]
  refine ⟨nofun, nofun, ?_⟩
  by_cases hlt : l < h
  · rw [if_pos (by simpa using hlt)]
    simp only [s_bad, s_skip, s_seq, s_set, s_unp, s_ssub, s_aug, s_del, s_exp, s_ret, s_ret0, s_brk, s_cont, s_ite, s_whl, s_for, x_bad, x_con, x_loc, x_cel, x_bin, x_neg, x_not, x_and, x_or, x_cmp, x_cmp2, x_ife, x_call, x_bcall, x_meth, x_sub, x_sl, x_lst, x_tup, x_comp, nth, b_add, b_sub, b_mul, b_div, b_mod, stW, setN, half hlt]
    refine ⟨nofun, nofun, by decide, by decide, ?_⟩
    refine ht ((l + h) / 2) l h σ (by omega) (by omega) hI _ fun σ' hI' => ?_
    cases hpm : p ((l + h) / 2) with
    | true =>
      simp only [loUp, s_bad, s_skip, s_seq, s_set, s_unp, s_ssub, s_aug, s_del, s_exp, s_ret, s_ret0, s_brk, s_cont, s_ite, s_whl, s_for, x_bad, x_con, x_loc, x_cel, x_bin, x_neg, x_not, x_and, x_or, x_cmp, x_cmp2, x_ife, x_call, x_bcall, x_meth, x_sub, x_sl, x_lst, x_tup, x_comp, nth, b_add, b_sub, b_mul, b_div, b_mod, stW, setN, if_true, lpW]
      refine ⟨nofun, h - ((l + h) / 2 + 1), by omega, (l + h) / 2 + 1, h, _, rfl, by omega, by omega, h3, rfl, fun i i1 i2 => ?_, hq, hI'⟩
      exact hm i _ i1 (Nat.le_of_lt_succ i2) (by omega) hpm
    | false =>
      simp only [hiDn, s_bad, s_skip, s_seq, s_set, s_unp, s_ssub, s_aug, s_del, s_exp, s_ret, s_ret0, s_brk, s_cont, s_ite, s_whl, s_for, x_bad, x_con, x_loc, x_cel, x_bin, x_neg, x_not, x_and, x_or, x_cmp, x_cmp2, x_ife, x_call, x_bcall, x_meth, x_sub, x_sl, x_lst, x_tup, x_comp, nth, b_add, b_sub, b_mul, b_div, b_mod, stW, setN, lpW]
      refine ⟨nofun, (l + h) / 2 - l, by omega, l, (l + h) / 2, _, rfl, by omega, by omega, by omega, rfl, hp, fun i i1 i2 => ?_, hI'⟩
      cases hpi : p i with
      | false => rfl
      | true => rw [hm _ i (by omega) i1 i2 hpi] at hpm; cases hpm
  · rw [if_neg (by simpa using hlt)]
    have : l = h := by omega
    subst this
    exact hQ l σ v h1 h3 hp hq hI
theorem wh_right {a : V} {x k : V} {tl : List V} {tst : X} {lo hi : Nat} {I : St → Prop} {p : Nat → Bool} {Q : Fl → St → List V → Prop} (hlh : lo ≤ hi)
    (hm : ∀ i j, lo ≤ i → i ≤ j → j < hi → p j = true → p i = true)
    (ht : ∀ mid l h σ, lo ≤ mid → mid < hi → I σ → ∀ Q, (∀ σ', I σ' → Q (!p mid) σ') → tW W n tst cs (a :: x :: .int l :: .int h :: k :: .int (mid : Nat) :: tl) σ Q)
    {v : V} (hI : I σ) (hQ : ∀ r σ' v', lo ≤ r → r ≤ hi → (∀ i, lo ≤ i → i < r → p i = true) → (∀ i, r ≤ i → i < hi → p i = false) → I σ' → Q .next σ' (a :: x :: .int r :: .int r :: k :: v' :: tl)) :
    sW W n (whB tst hiDn loUp) cs (a :: x :: .int lo :: .int hi :: k :: v :: tl) σ Q := by
  show whW _ _ _ _ _
  refine ⟨fun j σ fr => ∃ (l h : Nat) (v : V), j = h - l ∧ lo ≤ l ∧ l ≤ h ∧ h ≤ hi ∧ fr = a :: x :: .int l :: .int h :: k :: v :: tl ∧ (∀ i, lo ≤ i → i < l → p i = true) ∧ (∀ i, h ≤ i → i < hi → p i = false) ∧ I σ,
    ⟨hi - lo, lo, hi, v, rfl, Nat.le_refl _, hlh, Nat.le_refl _, rfl, fun i h1 h2 => absurd h1 (by omega), fun i h1 h2 => absurd h1 (by omega), hI⟩, ?_⟩
  rintro j σ fr ⟨l, h, v, rfl, h1, h2, h3, rfl, hp, hq, hI⟩
  simp only [t_not, t_and, t_or, t_ife, t_cmp, t_cmp2, t_con, t_loc, t_call, t_bcall, t_sub, t_bad, t_cel, t_bin, t_neg, t_sl, t_lst, t_tup, t_comp, t_meth, x_bad, x_con, x_loc, x_cel, x_bin, x_neg, x_not, x_and, x_or, x_cmp, x_cmp2, x_ife, x_call, x_bcall, x_meth, x_sub, x_sl, x_lst, x_tup, x_comp, nth, c_lt, c_le, c_gt, c_ge, c_eq, c_ne, c_is, c_isi, c_isr, c_ty]
  refine ⟨nofun, nofun, ?_⟩
  by_cases hlt : l < h
  · rw [if_pos (by simpa using hlt)]
    simp only [s_bad, s_skip, s_seq, s_set, s_unp, s_ssub, s_aug, s_del, s_exp, s_ret, s_ret0, s_brk, s_cont, s_ite, s_whl, s_for, x_bad, x_con, x_loc, x_cel, x_bin, x_neg, x_not, x_and, x_or, x_cmp, x_cmp2, x_ife, x_call, x_bcall, x_meth, x_sub, x_sl, x_lst, x_tup, x_comp, nth, b_add, b_sub, b_mul, b_div, b_mod, stW, setN, half hlt]
    refine ⟨nofun, nofun, by decide, by decide, ?_⟩
    refine ht ((l + h) / 2) l h σ (by omega) (by omega) hI _ fun σ' hI' => ?_
    cases hpm : p ((l + h) / 2) with
    | true =>
      simp only [loUp, s_bad, s_skip, s_seq, s_set, s_unp, s_ssub, s_aug, s_del, s_exp, s_ret, s_ret0, s_brk, s_cont, s_ite, s_whl, s_for, x_bad, x_con, x_loc, x_cel, x_bin, x_neg, x_not, x_and, x_or, x_cmp, x_cmp2, x_ife, x_call, x_bcall, x_meth, x_sub, x_sl, x_lst, x_tup, x_comp, nth, b_add, b_sub, b_mul, b_div, b_mod, stW, setN, lpW, Bool.not_true, Bool.false_eq_true, if_false]
      refine ⟨nofun, h - ((l + h) / 2 + 1), by omega, (l + h) / 2 + 1, h, _, rfl, by omega, by omega, h3, rfl, fun i i1 i2 => ?_, hq, hI'⟩
      exact hm i _ i1 (Nat.le_of_lt_succ i2) (by omega) hpm
    | false =>
      simp only [hiDn, s_bad, s_skip, s_seq, s_set, s_unp, s_ssub, s_aug, s_del, s_exp, s_ret, s_ret0, s_brk, s_cont, s_ite, s_whl, s_for, x_bad, x_con, x_loc, x_cel, x_bin, x_neg, x_not, x_and, x_or, x_cmp, x_cmp2, x_ife, x_call, x_bcall, x_meth, x_sub, x_sl, x_lst, x_tup, x_comp, nth, b_add, b_sub, b_mul, b_div, b_mod, stW, setN, lpW, Bool.not_false, if_true]
      refine ⟨nofun, (l + h) / 2 - l, by omega, l, (l + h) / 2, _, rfl, by omega, by omega, by omega, rfl, hp, fun i i1 i2 => ?_, hI'⟩
      cases hpi : p i with
      | false => rfl
      | true => rw [hm _ i (by omega) i1 i2 hpi] at hpm; cases hpm
  · rw [if_neg (by simpa using hlt)]
    have : l = h := by omega
    subst this
    exact hQ l σ v h1 h3 hp hq hI

noncomputable def stB (tst tstk : X) (a b : S) : S := (.seq (.ite (.cmp .Lt (.loc 2) (.con (.int (0)))) (.seq .bad .skip) .skip)
 (.seq (.ite (.cmp .Is (.loc 3) (.con .none)) (.seq (.set (.l 3) (.bcall .len (.cons (.loc 0) .nil))) .skip) .skip)
 (.seq (.ite (.cmp .Is (.loc 4) (.con .none)) (.seq (whB tst a b) .skip) (.seq (whB tstk a b) .skip))
 (.seq (.ret (.loc 2)) .skip))))
noncomputable def S_bl : S := stB (.cmp .Lt (.sub (.loc 0) (.loc 5)) (.loc 1)) (.cmp .Lt (.call (.loc 4) (.cons (.sub (.loc 0) (.loc 5)) .nil) [] .nil) (.loc 1)) loUp hiDn
noncomputable def S_br : S := stB (.cmp .Lt (.loc 1) (.sub (.loc 0) (.loc 5))) (.cmp .Lt (.loc 1) (.call (.loc 4) (.cons (.sub (.loc 0) (.loc 5)) .nil) [] .nil)) hiDn loUp
noncomputable def S_in (b : Addr) : S := (.seq (.ite (.cmp .Is (.loc 4) (.con .none)) (.seq (.set (.l 2) (.call (.con (.ref b)) (.cons (.loc 0) (.cons (.loc 1) (.cons (.loc 2) (.cons (.loc 3) .nil)))) [] .nil))
 .skip) (.seq (.set (.l 2) (.call (.con (.ref b)) (.cons (.loc 0) (.cons (.call (.loc 4) (.cons (.loc 1) .nil) [] .nil) (.cons (.loc 2) (.cons (.loc 3) .nil)))) ["key"] (.cons (.loc 4) .nil)))
 .skip))
 (.seq (.exp (.meth .insert (.loc 0) (.cons (.loc 2) (.cons (.loc 1) .nil)))) .skip))

/-- how far a search may go: hi as it is handed -/
noncomputable def hiIs (v : V) (len hi : Nat) : Prop := (v = .none ∧ hi = len) ∨ (v = .int hi ∧ hi ≤ len)
theorem nth_ivs {ns : List Int} {i : Nat} (h : i < ns.length) : nth (ivs ns) i = .int (ns.getD i 0) := by
  rw [nth_eq]; simp [ivs, List.getD_eq_getElem?_getD, List.getElem?_eq_getElem h]
theorem idx_nat {i : Nat} {l : Nat} : idx (i : Int) l = i := by
  unfold idx; rw [if_neg (by omega)]; omega
theorem ivs_length {ns : List Int} : (ivs ns).length = ns.length := List.length_map _

theorem sub_int {a : Addr} {o : O} {ns : List Int} {i : Nat} {Q : V → St → Prop} (ho : σ a = some o) (hi : o.items = some (ivs ns)) (h : i < ns.length) (q : Q (.int (ns.getD i 0)) σ) : subW (.ref a) (.int (i : Int)) σ Q := by
  unfold subW itemsW refW
  simp only [ho, hi, ivs_length, idx_nat, nth_ivs h]
  exact ⟨⟨by omega, by omega⟩, q⟩

/-- bisect_left without a key -/
theorem bl_run {a : Addr} {o : O} {ns : List Int} {x : Int} {lo hi : Nat} {vh : V} {m : Nat} {Q : Fl → St → List V → Prop} (ho : σ a = some o) (hi' : o.items = some (ivs ns)) (hh : hiIs vh ns.length hi) (hlh : lo ≤ hi)
    (hm : ∀ i j, lo ≤ i → i ≤ j → j < hi → ns.getD i 0 ≤ ns.getD j 0)
    (hQ : ∀ r : Nat, ∀ fr, lo ≤ r → r ≤ hi → (∀ i, lo ≤ i → i < r → ns.getD i 0 < x) → (∀ i, r ≤ i → i < hi → x ≤ ns.getD i 0) → Q (.ret (.int r)) σ fr) :
    sW W n S_bl cs (.ref a :: .int x :: .int lo :: vh :: .none :: .undef :: undefs m) σ Q := by
  have hle : hi ≤ ns.length := by rcases hh with ⟨_, h⟩ | ⟨_, h⟩ <;> omega
  have fin : ∀ Q', (∀ r : Nat, ∀ v, lo ≤ r → r ≤ hi → (∀ i, lo ≤ i → i < r → ns.getD i 0 < x) → (∀ i, r ≤ i → i < hi → x ≤ ns.getD i 0) → Q' Fl.next σ (.ref a :: .int x :: .int r :: .int r :: .none :: v :: undefs m)) →
      sW W n (whB (.cmp .Lt (.sub (.loc 0) (.loc 5)) (.loc 1)) loUp hiDn) cs (.ref a :: .int x :: .int lo :: .int hi :: .none :: .undef :: undefs m) σ Q' := fun Q' hQ' => by
    refine wh_left (I := fun σ' => σ' = σ) (p := fun i => decide (ns.getD i 0 < x)) hlh (fun i j h1 h2 h3 h4 => ?_) (fun mid l h σ' h1 h2 e Q hq => ?_) rfl (fun r σ' v' h1 h2 h3 h4 e => ?_)
    · have := hm i j h1 h2 h3
      simp only [decide_eq_true_eq] at h4 ⊢; omega
    · subst e
      simp only [t_not, t_and, t_or, t_ife, t_cmp, t_cmp2, t_con, t_loc, t_call, t_bcall, t_sub, t_bad, t_cel, t_bin, t_neg, t_sl, t_lst, t_tup, t_comp, t_meth, x_bad, x_con, x_loc, x_cel, x_bin, x_neg, x_not, x_and, x_or, x_cmp, x_cmp2, x_ife, x_call, x_bcall, x_meth, x_sub, x_sl, x_lst, x_tup, x_comp, nth]
      refine ⟨nofun, nofun, sub_int ho hi' (by omega) ⟨nofun, ?_⟩⟩
      exact hq _ rfl
    · subst e
      exact hQ' r _ h1 h2 (fun i i1 i2 => of_decide_eq_true (h3 i i1 i2)) (fun i i1 i2 => by have := of_decide_eq_false (h4 i i1 i2); omega)
  simp only [S_bl, stB, s_bad, s_skip, s_seq, s_set, s_unp, s_ssub, s_aug, s_del, s_exp, s_ret, s_ret0, s_brk, s_cont, s_ite, s_whl, s_for, t_not, t_and, t_or, t_ife, t_cmp, t_cmp2, t_con, t_loc, t_call, t_bcall, t_sub, t_bad, t_cel, t_bin, t_neg, t_sl, t_lst, t_tup, t_comp, t_meth, x_bad, x_con, x_loc, x_cel, x_bin, x_neg, x_not, x_and, x_or, x_cmp, x_cmp2, x_ife, x_call, x_bcall, x_meth, x_sub, x_sl, x_lst, x_tup, x_comp, nth, c_lt, c_le, c_gt, c_ge, c_eq, c_ne, c_is, c_isi, c_isr, c_ty]
  refine ⟨nofun, ?_⟩
  rw [if_neg (by simp)]
  rcases hh with ⟨rfl, rfl⟩ | ⟨rfl, _⟩
  · simp only [c_lt, c_le, c_gt, c_ge, c_eq, c_ne, c_is, c_isi, c_isr, c_ty, if_true, l_nil, l_cons, l_bad, x_bad, x_con, x_loc, x_cel, x_bin, x_neg, x_not, x_and, x_or, x_cmp, x_cmp2, x_ife, x_call, x_bcall, x_meth, x_sub, x_sl, x_lst, x_tup, x_comp, nth, f_len, f_sorted, f_range1, f_range2, f_range3, f_list, f_abs, f_min1, f_max1, f_min2, f_max2, f_min3, f_max3, f_sum, f_type, itemsW, refW, ho, hi', stW, setN, ivs_length]
    refine ⟨nofun, nofun, nofun, fin _ fun r v h1 h2 h3 h4 => ?_⟩
    simp only [nth]
    exact ⟨nofun, hQ r _ h1 h2 h3 h4⟩
  · simp only [c_lt, c_le, c_gt, c_ge, c_eq, c_ne, c_is, c_isi, c_isr, c_ty, Bool.false_eq_true, if_false, if_true]
    refine ⟨nofun, nofun, fin _ fun r v h1 h2 h3 h4 => ?_⟩
    simp only [nth]
    exact ⟨nofun, hQ r _ h1 h2 h3 h4⟩
end Mine

end
section -- C2
namespace Mine
variable {W : Wd} {n : Nat} {σ : St} {cs : List Addr}
/-- bisect_right without a key -/
theorem br_run {a : Addr} {o : O} {ns : List Int} {x : Int} {lo hi : Nat} {vh : V} {m : Nat} {Q : Fl → St → List V → Prop} (ho : σ a = some o) (hi' : o.items = some (ivs ns)) (hh : hiIs vh ns.length hi) (hlh : lo ≤ hi)
    (hm : ∀ i j, lo ≤ i → i ≤ j → j < hi → ns.getD i 0 ≤ ns.getD j 0)
    (hQ : ∀ r : Nat, ∀ fr, lo ≤ r → r ≤ hi → (∀ i, lo ≤ i → i < r → ns.getD i 0 ≤ x) → (∀ i, r ≤ i → i < hi → x < ns.getD i 0) → Q (.ret (.int r)) σ fr) :
    sW W n S_br cs (.ref a :: .int x :: .int lo :: vh :: .none :: .undef :: undefs m) σ Q := by
  have hle : hi ≤ ns.length := by rcases hh with ⟨_, h⟩ | ⟨_, h⟩ <;> omega
  have fin : ∀ Q', (∀ r : Nat, ∀ v, lo ≤ r → r ≤ hi → (∀ i, lo ≤ i → i < r → ns.getD i 0 ≤ x) → (∀ i, r ≤ i → i < hi → x < ns.getD i 0) → Q' Fl.next σ (.ref a :: .int x :: .int r :: .int r :: .none :: v :: undefs m)) →
      sW W n (whB (.cmp .Lt (.loc 1) (.sub (.loc 0) (.loc 5))) hiDn loUp) cs (.ref a :: .int x :: .int lo :: .int hi :: .none :: .undef :: undefs m) σ Q' := fun Q' hQ' => by
    refine wh_right (I := fun σ' => σ' = σ) (p := fun i => decide (ns.getD i 0 ≤ x)) hlh (fun i j h1 h2 h3 h4 => ?_) (fun mid l h σ' h1 h2 e Q hq => ?_) rfl (fun r σ' v' h1 h2 h3 h4 e => ?_)
    · have := hm i j h1 h2 h3
      simp only [decide_eq_true_eq] at h4 ⊢; omega
    · subst e
      simp only [t_not, t_and, t_or, t_ife, t_cmp, t_cmp2, t_con, t_loc, t_call, t_bcall, t_sub, t_bad, t_cel, t_bin, t_neg, t_sl, t_lst, t_tup, t_comp, t_meth, x_bad, x_con, x_loc, x_cel, x_bin, x_neg, x_not, x_and, x_or, x_cmp, x_cmp2, x_ife, x_call, x_bcall, x_meth, x_sub, x_sl, x_lst, x_tup, x_comp, nth]
      refine ⟨nofun, nofun, nofun, sub_int ho hi' (by omega) ?_⟩
      have e : (!decide (ns.getD mid 0 ≤ x)) = decide (x < ns.getD mid 0) := by rw [← decide_not]; exact decide_eq_decide.mpr (by omega)
      have := hq _ rfl
      rw [e] at this
      exact this
    · subst e
      exact hQ' r _ h1 h2 (fun i i1 i2 => of_decide_eq_true (h3 i i1 i2)) (fun i i1 i2 => by have := of_decide_eq_false (h4 i i1 i2); omega)
  simp only [S_br, stB, s_bad, s_skip, s_seq, s_set, s_unp, s_ssub, s_aug, s_del, s_exp, s_ret, s_ret0, s_brk, s_cont, s_ite, s_whl, s_for, t_not, t_and, t_or, t_ife, t_cmp, t_cmp2, t_con, t_loc, t_call, t_bcall, t_sub, t_bad, t_cel, t_bin, t_neg, t_sl, t_lst, t_tup, t_comp, t_meth, x_bad, x_con, x_loc, x_cel, x_bin, x_neg, x_not, x_and, x_or, x_cmp, x_cmp2, x_ife, x_call, x_bcall, x_meth, x_sub, x_sl, x_lst, x_tup, x_comp, nth, c_lt, c_le, c_gt, c_ge, c_eq, c_ne, c_is, c_isi, c_isr, c_ty]
  refine ⟨nofun, ?_⟩
  rw [if_neg (by simp)]
  rcases hh with ⟨rfl, rfl⟩ | ⟨rfl, _⟩
  · simp only [c_lt, c_le, c_gt, c_ge, c_eq, c_ne, c_is, c_isi, c_isr, c_ty, if_true, l_nil, l_cons, l_bad, x_bad, x_con, x_loc, x_cel, x_bin, x_neg, x_not, x_and, x_or, x_cmp, x_cmp2, x_ife, x_call, x_bcall, x_meth, x_sub, x_sl, x_lst, x_tup, x_comp, nth, f_len, f_sorted, f_range1, f_range2, f_range3, f_list, f_abs, f_min1, f_max1, f_min2, f_max2, f_min3, f_max3, f_sum, f_type, itemsW, refW, ho, hi', stW, setN, ivs_length]
    refine ⟨nofun, nofun, nofun, fin _ fun r v h1 h2 h3 h4 => ?_⟩
    simp only [nth]
    exact ⟨nofun, hQ r _ h1 h2 h3 h4⟩
  · simp only [c_lt, c_le, c_gt, c_ge, c_eq, c_ne, c_is, c_isi, c_isr, c_ty, Bool.false_eq_true, if_false, if_true]
    refine ⟨nofun, nofun, fin _ fun r v h1 h2 h3 h4 => ?_⟩
    simp only [nth]
    exact ⟨nofun, hQ r _ h1 h2 h3 h4⟩

theorem countP_at {p : Int → Bool} : ∀ {ns : List Int} {r : Nat}, r ≤ ns.length → (∀ i, i < r → p (ns.getD i 0) = true) → (∀ i, r ≤ i → i < ns.length → p (ns.getD i 0) = false) → ns.countP p = r
  | [], r, h, _, _ => by simp at h; subst h; rfl
  | y :: l, 0, _, _, h2 => by
    have h0 := h2 0 (Nat.le_refl _) (Nat.succ_pos _)
    have e0 : p y = false := h0
    rw [List.countP_cons_of_neg (by simp [e0])]
    exact countP_at (Nat.zero_le _) (fun i hi => absurd hi (by omega)) fun i _ h4 => by
      have := h2 (i + 1) (by omega) (by simpa using h4)
      simpa using this
  | y :: l, r + 1, h, h1, h2 => by
    have h0 := h1 0 (Nat.succ_pos _)
    have e0 : p y = true := h0
    rw [List.countP_cons_of_pos e0]
    congr 1
    refine countP_at (Nat.le_of_succ_le_succ h) (fun i hi => ?_) fun i h3 h4 => ?_
    · have := h1 (i + 1) (by omega); simpa using this
    · have := h2 (i + 1) (by omega) (by simpa using h4); simpa using this
noncomputable def Sorted (ns : List Int) : Prop := ns.Pairwise (· ≤ ·)
theorem Sorted.le {ns : List Int} (h : Sorted ns) {i j : Nat} (hij : i ≤ j) (hj : j < ns.length) : ns.getD i 0 ≤ ns.getD j 0 := by
  rcases Nat.lt_or_eq_of_le hij with h1 | rfl
  · have := List.pairwise_iff_getElem.mp h i j (by omega) hj h1
    simpa [List.getD_eq_getElem?_getD, List.getElem?_eq_getElem hj, List.getElem?_eq_getElem (show i < ns.length by omega)] using this
  · exact Int.le_refl _
theorem ins_at {x : Int} : ∀ {ns : List Int} {r : Nat}, r ≤ ns.length → (∀ i, i < r → ns.getD i 0 ≤ x) → (∀ i, r ≤ i → i < ns.length → x ≤ ns.getD i 0) → Sorted ns → ns.take r ++ x :: ns.drop r = ins x ns := by
  intro ns r hr h1 h2 hs
  refine sorted_unique ?_ ?_ (ins_sorted x hs)
  · refine (List.perm_middle).trans ?_
    rw [List.take_append_drop]
    exact (ins_perm x ns).symm
  · refine List.pairwise_append.mpr ⟨hs.sublist (List.take_sublist _ _), List.pairwise_cons.mpr ⟨fun y hy => ?_, hs.sublist (List.drop_sublist _ _)⟩, fun y hy z hz => ?_⟩
    · obtain ⟨k, hk, rfl⟩ := List.mem_iff_getElem.mp hy
      have := h2 (r + k) (by omega) (by simp at hk; omega)
      have e : ns.getD (r + k) 0 = (ns.drop r)[k] := by rw [List.getElem_drop, List.getD_eq_getElem?_getD, List.getElem?_eq_getElem (by simp at hk; omega)]; rfl
      rw [e] at this; exact this
    · obtain ⟨k, hk, rfl⟩ := List.mem_iff_getElem.mp hy
      have hk' : k < r ∧ k < ns.length := by simp at hk; omega
      have e : (ns.take r)[k] = ns.getD k 0 := by rw [List.getElem_take, List.getD_eq_getElem?_getD, List.getElem?_eq_getElem hk'.2]; rfl
      have hy1 : (ns.take r)[k] ≤ x := by rw [e]; exact h1 k hk'.1
      rcases List.mem_cons.mp hz with rfl | hz
      · exact hy1
      · obtain ⟨j, hj, rfl⟩ := List.mem_iff_getElem.mp hz
        have := h2 (r + j) (by omega) (by simp at hj; omega)
        have e' : ns.getD (r + j) 0 = (ns.drop r)[j] := by rw [List.getElem_drop, List.getD_eq_getElem?_getD, List.getElem?_eq_getElem (by simp at hj; omega)]; rfl
        rw [e'] at this
        omega

theorem bisect_left_ok {fa : Addr} (F : FnB W fa S_bl 3) {a : Addr} {o : O} {ns : List Int} {x : Int} {Q : V → St → Prop} (ho : σ a = some o) (hi : o.items = some (ivs ns)) (hs : Sorted ns)
    (q : Q (.int (ns.countP (fun y => decide (y < x)) : Nat)) σ) : CallOK W (n + 1) (.ref fa) [.ref a, .int x] [] [] Q σ := by
  obtain ⟨cs, F⟩ := F
  refine F [_, _] [] _ n Q σ rfl (bl_run (lo := 0) (hi := ns.length) ho hi (.inl ⟨rfl, rfl⟩) (Nat.zero_le _) (fun i j _ h2 h3 => hs.le h2 h3) fun r fr _ h2 h3 h4 => ?_)
  have : ns.countP (fun y => decide (y < x)) = r := countP_at h2 (fun i hi => by simpa using h3 i (Nat.zero_le _) hi) (fun i h1 h2 => by have := h4 i h1 h2; simpa using this)
  rw [this] at q; exact q
theorem bisect_right_ok {fa : Addr} (F : FnB W fa S_br 3) {a : Addr} {o : O} {ns : List Int} {x : Int} {Q : V → St → Prop} (ho : σ a = some o) (hi : o.items = some (ivs ns)) (hs : Sorted ns)
    (q : Q (.int (ns.countP (fun y => decide (y ≤ x)) : Nat)) σ) : CallOK W (n + 1) (.ref fa) [.ref a, .int x] [] [] Q σ := by
  obtain ⟨cs, F⟩ := F
  refine F [_, _] [] _ n Q σ rfl (br_run (lo := 0) (hi := ns.length) ho hi (.inl ⟨rfl, rfl⟩) (Nat.zero_le _) (fun i j _ h2 h3 => hs.le h2 h3) fun r fr _ h2 h3 h4 => ?_)
  have : ns.countP (fun y => decide (y ≤ x)) = r := countP_at h2 (fun i hi => by simpa using h3 i (Nat.zero_le _) hi) (fun i h1 h2 => by have := h4 i h1 h2; simpa using this)
  rw [this] at q; exact q
theorem take_ivs (ns : List Int) (r : Nat) (x : Int) : (ivs ns).take r ++ .int x :: (ivs ns).drop r = ivs (ns.take r ++ x :: ns.drop r) := by
  simp [ivs, List.map_take, List.map_drop]
theorem insort_left_ok {fa fb : Addr} (F : FnB W fa (S_in fb) 1) (F' : FnB W fb S_bl 3) {a : Addr} {ns : List Int} {x : Int} {Q : V → St → Prop} (ho : σ a = some (.lst (ivs ns))) (hs : Sorted ns) (hl : ns.length < lim)
    (q : Q .none (σ.set a (.lst (ivs (ins x ns))))) : CallOK W (n + 2) (.ref fa) [.ref a, .int x] [] [] Q σ := by
  obtain ⟨cs, F⟩ := F
  obtain ⟨cs', F'⟩ := F'
  refine F [_, _] [] _ (n + 1) Q σ rfl ?_
  simp only [S_in, s_bad, s_skip, s_seq, s_set, s_unp, s_ssub, s_aug, s_del, s_exp, s_ret, s_ret0, s_brk, s_cont, s_ite, s_whl, s_for, t_not, t_and, t_or, t_ife, t_cmp, t_cmp2, t_con, t_loc, t_call, t_bcall, t_sub, t_bad, t_cel, t_bin, t_neg, t_sl, t_lst, t_tup, t_comp, t_meth, x_bad, x_con, x_loc, x_cel, x_bin, x_neg, x_not, x_and, x_or, x_cmp, x_cmp2, x_ife, x_call, x_bcall, x_meth, x_sub, x_sl, x_lst, x_tup, x_comp, nth, c_lt, c_le, c_gt, c_ge, c_eq, c_ne, c_is, c_isi, c_isr, c_ty, List.cons_append, List.nil_append, undefs, if_true, l_nil, l_cons, l_bad]
  refine ⟨nofun, nofun, nofun, nofun, nofun, ?_⟩
  refine F' [_, _, _, _] [] _ n _ σ rfl ?_
  refine bl_run (lo := 0) (hi := ns.length) ho rfl (.inl ⟨rfl, rfl⟩) (Nat.zero_le _) (fun i j _ h2 h3 => hs.le h2 h3) fun r fr _ h2 h3 h4 => ?_
  simp only [retV, stW, setN, nth, mlistW, refW, ho, m_append, m_insert, m_pop, m_remove, m_extend, m_count, ivs_length]
  refine ⟨nofun, nofun, nofun, by omega, by omega, by omega, ?_⟩
  rw [Int.toNat_natCast, take_ivs, ins_at h2 (fun i hi => by have := h3 i (Nat.zero_le _) hi; omega) h4 hs]
  exact q
noncomputable def S_mh (rz : S) : S := (.seq (.set (.l 0) (.bcall .sorted (.cons (.loc 0) .nil)))
 (.seq (.set (.l 1) (.bcall .len (.cons (.loc 0) .nil)))
 (.seq (.ite (.cmp .Eq (.loc 1) (.con (.int (0)))) (.seq rz .skip) .skip)
 (.seq (.ret (.sub (.loc 0) (.bin .FloorDiv (.loc 1) (.con (.int (2)))))) .skip))))
noncomputable def S_ml (rz : S) : S := (.seq (.set (.l 0) (.bcall .sorted (.cons (.loc 0) .nil)))
 (.seq (.set (.l 1) (.bcall .len (.cons (.loc 0) .nil)))
 (.seq (.ite (.cmp .Eq (.loc 1) (.con (.int (0)))) (.seq rz .skip) .skip)
 (.seq (.ite (.cmp .Eq (.bin .Mod (.loc 1) (.con (.int (2)))) (.con (.int (1)))) (.seq (.ret (.sub (.loc 0) (.bin .FloorDiv (.loc 1) (.con (.int (2))))))
 .skip) (.seq (.ret (.sub (.loc 0) (.bin .Sub (.bin .FloorDiv (.loc 1) (.con (.int (2)))) (.con (.int (1))))))
 .skip))
 .skip))))
/-- the store grows -/
noncomputable def Ext (σ σ' : St) : Prop := ∀ a o, σ a = some o → σ' a = some o
theorem Ext.refl (σ : St) : Ext σ σ := fun _ _ h => h
theorem Ext.trans {σ σ' σ'' : St} (h : Ext σ σ') (k : Ext σ' σ'') : Ext σ σ'' := fun a o e => k a o (h a o e)
theorem Ext.new {σ : St} {a : Addr} {o : O} (h : σ a = none) : Ext σ (σ.set a o) := fun b x e => by
  rw [St.set_other]; exact e
  intro q; rw [q, h] at e; cases e
noncomputable def medLow (ns : List Int) : Int := (isort ns).getD ((ns.length - 1) / 2) 0
noncomputable def medHigh (ns : List Int) : Int := (isort ns).getD (ns.length / 2) 0
theorem fdiv2 (k : Nat) : ((k : Int)).fdiv 2 = (k / 2 : Nat) := by rw [Int.fdiv_eq_ediv_of_nonneg _ (by decide)]; omega
theorem fmod2 (k : Nat) : ((k : Int)).fmod 2 = (k % 2 : Nat) := by rw [Int.fmod_eq_emod_of_nonneg _ (by decide)]; omega

theorem median_high_ok {rz : S} {fa : Addr} (F : FnP W fa (S_mh rz) 1 4) {a : Addr} {o : O} {ns : List Int} {Q : V → St → Prop} (ho : σ a = some o) (hi : o.litems = some (ivs ns)) (h0 : ns ≠ []) (hl : ns.length < 64)
    (q : ∀ σ', Ext σ σ' → Q (.int (medHigh ns)) σ') : CallOK W (n + 1) (.ref fa) [.ref a] [] [] Q σ := by
  obtain ⟨cs, F⟩ := F
  have hp : 0 < ns.length := List.length_pos_iff.mpr h0
  refine F [_] n Q σ rfl ?_
  simp only [S_mh, s_bad, s_skip, s_seq, s_set, s_unp, s_ssub, s_aug, s_del, s_exp, s_ret, s_ret0, s_brk, s_cont, s_ite, s_whl, s_for, t_not, t_and, t_or, t_ife, t_cmp, t_cmp2, t_con, t_loc, t_call, t_bcall, t_sub, t_bad, t_cel, t_bin, t_neg, t_sl, t_lst, t_tup, t_comp, t_meth, x_bad, x_con, x_loc, x_cel, x_bin, x_neg, x_not, x_and, x_or, x_cmp, x_cmp2, x_ife, x_call, x_bcall, x_meth, x_sub, x_sl, x_lst, x_tup, x_comp, nth, c_lt, c_le, c_gt, c_ge, c_eq, c_ne, c_is, c_isi, c_isr, c_ty, List.cons_append, List.nil_append, undefs, l_nil, l_cons, l_bad, f_len, f_sorted, f_range1, f_range2, f_range3, f_list, f_abs, f_min1, f_max1, f_min2, f_max2, f_min3, f_max3, f_sum, f_type, lintsW, litemsW, refW, ho, hi, asInts_ivs, stW, setN]
  refine ⟨nofun, hl, fun b hb => ⟨nofun, ?_⟩⟩
  simp only [itemsW, refW, St.set_same, O.items, ivs_length, isort_length]
  refine ⟨nofun, ?_⟩
  rw [if_neg (by simp; omega)]
  simp only [nth, b_add, b_sub, b_mul, b_div, b_mod, fdiv2]
  refine ⟨nofun, nofun, by decide, by decide, ?_⟩
  refine sub_int (St.set_same _ _ _) rfl (by rw [isort_length]; omega) ?_
  exact q _ (Ext.new hb)
theorem median_low_ok {rz : S} {fa : Addr} (F : FnP W fa (S_ml rz) 1 4) {a : Addr} {o : O} {ns : List Int} {Q : V → St → Prop} (ho : σ a = some o) (hi : o.litems = some (ivs ns)) (h0 : ns ≠ []) (hl : ns.length < 64)
    (q : ∀ σ', Ext σ σ' → Q (.int (medLow ns)) σ') : CallOK W (n + 1) (.ref fa) [.ref a] [] [] Q σ := by
  obtain ⟨cs, F⟩ := F
  have hp : 0 < ns.length := List.length_pos_iff.mpr h0
  refine F [_] n Q σ rfl ?_
  simp only [S_ml, s_bad, s_skip, s_seq, s_set, s_unp, s_ssub, s_aug, s_del, s_exp, s_ret, s_ret0, s_brk, s_cont, s_ite, s_whl, s_for, t_not, t_and, t_or, t_ife, t_cmp, t_cmp2, t_con, t_loc, t_call, t_bcall, t_sub, t_bad, t_cel, t_bin, t_neg, t_sl, t_lst, t_tup, t_comp, t_meth, x_bad, x_con, x_loc, x_cel, x_bin, x_neg, x_not, x_and, x_or, x_cmp, x_cmp2, x_ife, x_call, x_bcall, x_meth, x_sub, x_sl, x_lst, x_tup, x_comp, nth, c_lt, c_le, c_gt, c_ge, c_eq, c_ne, c_is, c_isi, c_isr, c_ty, List.cons_append, List.nil_append, undefs, l_nil, l_cons, l_bad, f_len, f_sorted, f_range1, f_range2, f_range3, f_list, f_abs, f_min1, f_max1, f_min2, f_max2, f_min3, f_max3, f_sum, f_type, lintsW, litemsW, refW, ho, hi, asInts_ivs, stW, setN]
  refine ⟨nofun, hl, fun b hb => ⟨nofun, ?_⟩⟩
  simp only [itemsW, refW, St.set_same, O.items, ivs_length, isort_length]
  refine ⟨nofun, ?_⟩
  rw [if_neg (by simp; omega)]
  simp only [nth, b_add, b_sub, b_mul, b_div, b_mod, fmod2, fdiv2, c_eq]
  refine ⟨nofun, by decide, ?_⟩
  by_cases hodd : ns.length % 2 = 1
  · rw [if_pos (by simp; omega)]
    refine ⟨nofun, nofun, by decide, by decide, ?_⟩
    refine sub_int (St.set_same _ _ _) rfl (by rw [isort_length]; omega) ?_
    have : ns.length / 2 = (ns.length - 1) / 2 := by omega
    rw [this]
    exact q _ (Ext.new hb)
  · rw [if_neg (by simp; omega)]
    refine ⟨nofun, nofun, by decide, by decide, ?_⟩
    have e : ((ns.length / 2 : Nat) : Int) - 1 = ((ns.length - 1) / 2 : Nat) := by omega
    rw [e]
    refine sub_int (St.set_same _ _ _) rfl (by rw [isort_length]; omega) ?_
    exact q _ (Ext.new hb)
end Mine

end
section -- C3
namespace Mine
variable {W : Wd} {n : Nat} {σ : St} {cs : List Addr}

theorem alW_of {o : O} {Q : V → St → Prop} (h : ∀ b σ', σ b = none → Ext σ σ' → σ' b = some o → Q (.ref b) σ') : alW σ o Q := fun b hb => h b _ hb (Ext.new hb) (St.set_same _ _ _)
theorem ne_new {a b : Addr} {o : O} (h : σ a = some o) (hb : σ b = none) : a ≠ b := fun e => by rw [e, hb] at h; cases h
theorem seq_set {t : T} {x : X} {b : S} {fr : List V} {Q : Fl → St → List V → Prop} (h : xW W n x cs fr σ fun v σ1 => stW t v cs fr σ1 fun fr1 σ2 => sW W n b cs fr1 σ2 Q) : sW W n (.seq (.set t x) b) cs fr σ Q := h
theorem seq_exp {x : X} {b : S} {fr : List V} {Q : Fl → St → List V → Prop} (h : xW W n x cs fr σ fun _ σ1 => sW W n b cs fr σ1 Q) : sW W n (.seq (.exp x) b) cs fr σ Q := h
theorem eqL_ints {d : Nat} : ∀ {xs ys : List Int}, xs.length = ys.length → eqL (eqB σ d) (ivs xs) (ivs ys) = some (decide (xs = ys))
  | [], [], _ => rfl
  | x :: xs, y :: ys, h => by
    have ih := eqL_ints (d := d) (xs := xs) (ys := ys) (by simpa using h)
    have e : eqB σ d (.int x) (.int y) = some (x == y) := by cases d <;> rfl
    show (eqB σ d (.int x) (.int y)).bind (fun b => (eqL (eqB σ d) (ivs xs) (ivs ys)).map fun c => b && c) = _
    rw [e, ih]
    by_cases hx : x = y <;> simp [hx]
theorem eqB_ints {d : Nat} {a b : Addr} {o o' : O} {xs ys : List Int} (h : σ a = some o) (h' : σ b = some o') (hl : o.litems = some (ivs xs)) (hl' : o'.litems = some (ivs ys)) (hne : a ≠ b) : eqB σ (d + 1) (.ref a) (.ref b) = some (decide (xs = ys)) := by
  show (if a = b then none else ((σ a).bind O.litems).bind fun xs => ((σ b).bind O.litems).bind fun ys => if xs.length = ys.length then eqL (eqB σ d) xs ys else some false) = _
  rw [if_neg hne, h, h']
  show (o.litems.bind fun xs => o'.litems.bind fun ys => if xs.length = ys.length then eqL (eqB σ d) xs ys else some false) = _
  rw [hl, hl']
  show (if (ivs xs).length = (ivs ys).length then eqL (eqB σ d) (ivs xs) (ivs ys) else some false) = _
  rw [ivs_length, ivs_length]
  by_cases e : xs.length = ys.length
  · rw [if_pos e]; exact eqL_ints e
  · rw [if_neg e, decide_eq_false fun q => e (by rw [q])]
theorem ne_ints {a b : Addr} {o o' : O} {xs ys : List Int} {Q : Bool → St → Prop} (h : σ a = some o) (h' : σ b = some o') (hl : o.litems = some (ivs xs)) (hl' : o'.litems = some (ivs ys)) (hne : a ≠ b) (q : Q (!decide (xs = ys)) σ) : cmpW .NotEq (.ref a) (.ref b) σ Q := by
  show eqW _ _ _ _
  unfold eqW
  rw [eqB_ints h h' hl hl' hne]
  exact q
theorem forW_inv {chk : St → Prop} {bod : V → List V → St → (Fl → St → List V → Prop) → Prop} {Q : Fl → St → List V → Prop} (J : Nat → List V → St → Prop) (R : V → St → List V → Prop) : ∀ {xs : List V} {k : Nat} {fr : List V} {σ : St}, J k fr σ →
    (∀ i fr σ, i < xs.length → J (k + i) fr σ → chk σ ∧ ∀ Q' : Fl → St → List V → Prop, (∀ fr' σ', J (k + i + 1) fr' σ' → Q' .next σ' fr') → (∀ v fr' σ', R v σ' fr' → Q' (.ret v) σ' fr') → bod (nth xs i) fr σ Q') →
    (∀ fr σ, J (k + xs.length) fr σ → chk σ ∧ Q .next σ fr) → (∀ v fr σ, R v σ fr → Q (.ret v) σ fr) → forW chk bod xs fr σ Q
  | [], k, fr, σ, h0, _, h2, _ => h2 fr σ h0
  | x :: xs, k, fr, σ, h0, h1, h2, h3 => by
    obtain ⟨hc, hb⟩ := h1 0 fr σ (Nat.succ_pos _) h0
    refine ⟨hc, hb _ (fun fr' σ' h => ?_) (fun v fr' σ' h => h3 v fr' σ' h)⟩
    refine forW_inv J R (k := k + 1) h (fun i fr σ hi h => ?_) (fun fr σ h => h2 fr σ ?_) h3
    · have := h1 (i + 1) fr σ (Nat.succ_lt_succ hi) (by rw [show k + (i + 1) = k + 1 + i by omega]; exact h)
      rw [show k + (i + 1) + 1 = k + 1 + i + 1 by omega] at this
      exact this
    · rw [show k + (x :: xs).length = k + 1 + xs.length by simp; omega]; exact h
theorem compW_inv {chk : St → Prop} {bod : V → St → (Option V → St → Prop) → Prop} {K : List V → St → Prop} (J : Nat → List V → St → Prop) : ∀ {xs : List V} {k : Nat} {acc : List V} {σ : St}, J k acc σ →
    (∀ i acc σ, i < xs.length → J (k + i) acc σ → chk σ ∧ ∀ Q' : Option V → St → Prop, (∀ o σ', J (k + i + 1) (acc ++ o.toList) σ' → Q' o σ') → bod (nth xs i) σ Q') →
    (∀ acc σ, J (k + xs.length) acc σ → chk σ ∧ K acc σ) → compW chk bod xs acc σ K
  | [], k, fr, σ, h0, _, h2 => h2 fr σ h0
  | x :: xs, k, fr, σ, h0, h1, h2 => by
    obtain ⟨hc, hb⟩ := h1 0 fr σ (Nat.succ_pos _) h0
    refine ⟨hc, hb _ (fun o σ' h => ?_)⟩
    refine compW_inv J (k := k + 1) h (fun i fr σ hi h => ?_) (fun fr σ h => h2 fr σ ?_)
    · have := h1 (i + 1) fr σ (Nat.succ_lt_succ hi) (by rw [show k + (i + 1) = k + 1 + i by omega]; exact h)
      rw [show k + (i + 1) + 1 = k + 1 + i + 1 by omega] at this
      exact this
    · rw [show k + (x :: xs).length = k + 1 + xs.length by simp; omega]; exact h

theorem isort_congr {a b : List Int} (h : a.Perm b) : isort a = isort b := isort_eq_of ((isort_perm a).trans h) (isort_sorted a)
theorem ins_isort (x : Int) (l : List Int) : ins x (isort l) = isort (x :: l) := rfl
theorem sorted_isort (l : List Int) : Sorted (isort l) := isort_sorted l
theorem countP_isort (p : Int → Bool) (l : List Int) : (isort l).countP p = l.countP p := (isort_perm l).countP_eq p
/-- in a sorted list the place of t tells how many are below it -/
theorem ge_iff : ∀ {l : List Int} {i : Nat} {t : Int}, Sorted l → i < l.length → (t ≤ l.getD i 0 ↔ l.countP (fun y => decide (y < t)) ≤ i)
  | [], i, t, _, h => absurd h (by simp)
  | x :: l, i, t, hs, h => by
    obtain ⟨h1, h2⟩ := List.pairwise_cons.mp hs
    have hall : t ≤ x → l.countP (fun y => decide (y < t)) = 0 := fun hx => by
      refine List.countP_eq_zero.mpr fun y hy => ?_
      have := h1 y hy
      simp; omega
    cases i with
    | zero =>
      rw [List.countP_cons]
      show t ≤ x ↔ _
      constructor
      · intro hx; rw [hall hx]; simp; omega
      · intro hx; by_cases hxt : x < t
        · simp [hxt] at hx
        · omega
    | succ i =>
      have ih := ge_iff (t := t) h2 (show i < l.length by simpa using h)
      rw [List.countP_cons]
      show t ≤ l.getD i 0 ↔ _
      rw [ih]
      by_cases hxt : x < t
      · simp [hxt]
      · rw [hall (by omega)]; simp [hxt]
theorem ord_iff {l : List Int} {i : Nat} {t : Int} (h : i < l.length) : t ≤ (isort l).getD i 0 ↔ l.countP (fun y => decide (y < t)) ≤ i := by
  rw [ge_iff (sorted_isort l) (by rw [isort_length]; exact h), countP_isort]
theorem getD_mem {l : List Int} {i : Nat} (h : i < l.length) : l.getD i 0 ∈ l := by
  rw [List.getD_eq_getElem?_getD, List.getElem?_eq_getElem h]; exact List.getElem_mem h
theorem ivs_append (a b : List Int) : ivs a ++ ivs b = ivs (a ++ b) := by simp [ivs]
end Mine

end
section -- C4
namespace Mine
variable {W : Wd} {n : Nat} {σ : St} {cs : List Addr}

theorem sub_of {i : Int} (k : Nat) (hk : i = k) {a : Addr} {o : O} {xs : List V} {Q : V → St → Prop} (h : σ a = some o) (hi : o.items = some xs) (hl : k < xs.length) (q : Q (nth xs k) σ) : subW (.ref a) (.int i) σ Q := by
  subst hk
  unfold subW itemsW refW
  simp only [h, hi, idx_nat]
  exact ⟨⟨by omega, by omega⟩, q⟩
/-- an item counted from the end -/
theorem sub_end {i : Int} (k : Nat) {a : Addr} {o : O} {xs : List V} {Q : V → St → Prop} (h : σ a = some o) (hi : o.items = some xs) (hk : i = (k : Int) - xs.length) (hl : k < xs.length) (q : Q (nth xs k) σ) : subW (.ref a) (.int i) σ Q := by
  subst hk
  unfold subW itemsW refW
  have e : idx ((k : Int) - xs.length) xs.length = k := by unfold idx; rw [if_pos (by omega)]; omega
  simp only [h, hi, e]
  exact ⟨⟨by omega, by omega⟩, q⟩
theorem add_ints {a b : Addr} {o o' : O} {xs ys : List Int} {Q : V → St → Prop} (h : σ a = some o) (hi : o.litems = some (ivs xs)) (h' : σ b = some o') (hi' : o'.litems = some (ivs ys)) (hl : xs.length + ys.length ≤ lim)
    (q : ∀ d σ', σ d = none → Ext σ σ' → σ' d = some (.lst (ivs (xs ++ ys))) → Q (.ref d) σ') : binW .Add (.ref a) (.ref b) σ Q := by
  rw [b_cat]; unfold litemsW refW
  simp only [h, hi, h', hi', ivs_length, ivs_append]
  exact ⟨hl, alW_of q⟩
theorem sorted_of {a : Addr} {o : O} {xs : List Int} {Q : V → St → Prop} (h : σ a = some o) (hi : o.litems = some (ivs xs)) (hl : xs.length < 64)
    (q : ∀ d σ', σ d = none → Ext σ σ' → σ' d = some (.lst (ivs (isort xs))) → Q (.ref d) σ') : biW .sorted [.ref a] σ Q := by
  rw [f_sorted]; unfold lintsW litemsW refW
  simp only [h, hi, asInts_ivs]
  exact ⟨hl, alW_of q⟩
theorem len_of {a : Addr} {o : O} {xs : List V} {Q : V → St → Prop} (h : σ a = some o) (hi : o.items = some xs) (q : Q (.int xs.length) σ) : biW .len [.ref a] σ Q := by
  rw [f_len]; unfold itemsW refW
  simp only [h, hi]
  exact q
theorem iter_lst {a : Addr} {xs : List V} {K : List V → (St → Prop) → Prop} (h : σ a = some (.lst xs)) (q : K xs (fun σ' => σ' a = some (.lst xs))) : iterW (.ref a) σ K := by
  unfold iterW refW
  simp only [h]
  exact q
theorem slice_of {a : Addr} {o : O} {xs : List V} {lo hi : V} {l h : Option Int} {Q : V → St → Prop} (hl : ∀ K : Option Int → Prop, K l → partW lo K) (hh : ∀ K : Option Int → Prop, K h → partW hi K) (ha : σ a = some o) (hi' : o.litems = some xs)
    (q : ∀ d σ', σ d = none → Ext σ σ' → σ' d = some (.lst (pick xs l h)) → Q (.ref d) σ') : slW (.ref a) lo hi .none σ Q := by
  unfold slW litemsW refW
  simp only [ha, hi']
  exact hl _ (hh _ (alW_of q))
theorem pI (i : Int) : ∀ K : Option Int → Prop, K (some i) → partW (.int i) K := fun _ k => k
theorem pN : ∀ K : Option Int → Prop, K none → partW .none K := fun _ k => k
theorem append_of {a : Addr} {xs : List V} {v : V} {Q : V → St → Prop} (h : σ a = some (.lst xs)) (hl : xs.length + 1 ≤ lim) (q : Q .none (σ.set a (.lst (xs ++ [v])))) : meW .append (.ref a) [v] σ Q := by
  rw [m_append]; unfold mlistW refW
  simp only [h]
  exact ⟨hl, q⟩
theorem mlist_of {a : Addr} {xs : List V} {K : Addr → List V → Prop} (h : σ a = some (.lst xs)) (q : K a xs) : mlistW (.ref a) σ K := by
  unfold mlistW refW
  simp only [h]
  exact q
/-- all but a is as it was, and grown -/
noncomputable def Upd (a : Addr) (σ σ' : St) : Prop := ∀ b o, b ≠ a → σ b = some o → σ' b = some o
theorem Upd.set (σ : St) (a : Addr) (o : O) : Upd a σ (σ.set a o) := fun b x hb h => by rw [St.set_other _ _ hb]; exact h
theorem Upd.trans {a : Addr} {σ σ' σ'' : St} (h : Upd a σ σ') (k : Upd a σ' σ'') : Upd a σ σ'' := fun b o hb e => k b o hb (h b o hb e)
/-- a range of numbers -/
theorem range1_of {b : Int} {Q : V → St → Prop} (hb : small b) (q : ∀ d σ', σ d = none → Ext σ σ' → σ' d = some (.rng 0 b 1) → Q (.ref d) σ') : biW .range [.int b] σ Q := ⟨hb, alW_of q⟩
theorem iter_rng {a : Addr} {lo hi st : Int} {K : List V → (St → Prop) → Prop} (h : σ a = some (.rng lo hi st)) (h1 : small lo) (h2 : small hi) (h3 : st = 1 ∨ st = -1) (q : K (ivs (rangeL lo hi st)) (fun _ => True)) : iterW (.ref a) σ K := by
  unfold iterW refW
  simp only [h]
  exact ⟨h1, h2, h3, q⟩
theorem small_nat {k : Nat} (h : k ≤ 1000000) : small (k : Int) := ⟨by omega, by omega⟩
theorem rangeL_up (k : Nat) : rangeL 0 (k : Int) 1 = (List.range k).map fun (i : Nat) => (i : Int) := by
  simp [rangeL]
theorem nth_map_range {k i : Nat} (h : i < k) : nth (ivs (rangeL 0 (k : Int) 1)) i = .int (i : Nat) := by
  rw [rangeL_up, nth_eq]; simp [ivs, List.getD_eq_getElem?_getD, h]
theorem len_range {k : Nat} : (ivs (rangeL 0 (k : Int) 1)).length = k := by rw [rangeL_up]; simp [ivs]

theorem slB_nat (i d n : Nat) : slB (some (i : Int)) d n = min i n := by
  simp only [slB]; rw [if_neg (by omega)]; omega
theorem pick_nat {α : Type} (xs : List α) (i j : Nat) : pick xs (some (i : Int)) (some (j : Int)) = (xs.drop i).take (j - i) := by
  unfold pick
  rw [slB_nat, slB_nat]
  by_cases h : i ≤ xs.length
  · rw [show min i xs.length = i by omega]
    by_cases h2 : j ≤ xs.length
    · rw [show min j xs.length = j by omega]
    · rw [show min j xs.length = xs.length by omega, List.take_of_length_le (by simp), List.take_of_length_le (by simp; omega)]
  · rw [List.drop_eq_nil_of_le (by omega), List.drop_eq_nil_of_le (by omega)]; simp
theorem pick_to {α : Type} (xs : List α) (j : Nat) : pick xs none (some (j : Int)) = xs.take j := by
  unfold pick
  rw [slB_nat]
  simp only [slB, List.drop_zero, Nat.sub_zero]
  by_cases h2 : j ≤ xs.length
  · rw [show min j xs.length = j by omega]
  · rw [show min j xs.length = xs.length by omega, List.take_of_length_le (by simp), List.take_of_length_le (by omega)]
theorem ivs_take (ns : List Int) (i : Nat) : (ivs ns).take i = ivs (ns.take i) := by simp [ivs]
theorem ivs_drop (ns : List Int) (i : Nat) : (ivs ns).drop i = ivs (ns.drop i) := by simp [ivs]
theorem cel_of {i : Nat} {fr : List V} {v : V} {Q : V → St → Prop} (h : σ (nthA cs i) = some (.cell v)) (hv : v ≠ .undef) (q : Q v σ) : xW W n (.cel i) cs fr σ Q := by
  simp only [x_bad, x_con, x_loc, x_cel, x_bin, x_neg, x_not, x_and, x_or, x_cmp, x_cmp2, x_ife, x_call, x_bcall, x_meth, x_sub, x_sl, x_lst, x_tup, x_comp, h]; exact ⟨hv, q⟩
theorem seq_ite {t : X} {a b b' : S} {fr : List V} {Q : Fl → St → List V → Prop} (h : tW W n t cs fr σ fun c σ1 => if c = true then sW W n (.seq a b) cs fr σ1 Q else sW W n (.seq b' b) cs fr σ1 Q) : sW W n (.seq (.ite t a b') b) cs fr σ Q := h
theorem seq_skip {b : S} {fr : List V} {Q : Fl → St → List V → Prop} (h : sW W n b cs fr σ Q) : sW W n (.seq .skip b) cs fr σ Q := h
theorem seq_for {tg : Tg} {it : X} {a b : S} {fr : List V} {Q : Fl → St → List V → Prop} (h : xW W n it cs fr σ fun v σ1 => iterW v σ1 fun xs chk =>
      forW chk (fun x fr σ k => tgW tg x cs fr σ fun fr1 σ2 => sW W n a cs fr1 σ2 k) xs fr σ1 fun f σ1 fr1 => (match f with
        | .next => sW W n b cs fr1 σ1 Q
        | f => Q f σ1 fr1)) : sW W n (.seq (.for_ tg it a) b) cs fr σ Q := h
theorem ne_int_same {x y : Int} {Q : Bool → St → Prop} (h : x = y) (q : Q false σ) : cmpW .NotEq (.int x) (.int y) σ Q := by
  show Q (x != y) σ
  rw [h, bne_self_eq_false]; exact q
end Mine

end
section -- C5
namespace Mine
variable {W : Wd} {n : Nat} {σ : St} {cs : List Addr}
theorem take_succ {l : List Int} {i : Nat} (h : i < l.length) : l.take (i + 1) = l.take i ++ [l.getD i 0] := by
  rw [List.take_add_one, List.getElem?_eq_getElem h, List.getD_eq_getElem?_getD, List.getElem?_eq_getElem h]; rfl
theorem seq_aug {t : T} {op : Operator} {x : X} {b : S} {fr : List V} {Q : Fl → St → List V → Prop} (h : ldW t cs fr σ fun old => xW W n x cs fr σ fun v σ1 => augW op old v fun r => stW t r cs fr σ1 fun fr1 σ2 => sW W n b cs fr1 σ2 Q) : sW W n (.seq (.aug t op x) b) cs fr σ Q := h
theorem seq_ret {x : X} {b : S} {fr : List V} {Q : Fl → St → List V → Prop} (h : xW W n x cs fr σ fun v σ1 => Q (.ret v) σ1 fr) : sW W n (.seq (.ret x) b) cs fr σ Q := h
noncomputable def rf (as : List Addr) : List V := as.map V.ref
theorem rf_len (as : List Addr) : (rf as).length = as.length := List.length_map _
theorem rf_snoc (as : List Addr) (a : Addr) : rf (as ++ [a]) = rf as ++ [.ref a] := by simp [rf]
theorem nth_snoc : ∀ (xs : List V) (v : V) (ys : List V), nth (xs ++ v :: ys) xs.length = v
  | [], _, _ => rfl
  | _ :: xs, v, ys => nth_snoc xs v ys
theorem sub_1 {a : Addr} {xs : List V} {v : V} {Q : V → St → Prop} (h : σ a = some (.lst (xs ++ [v]))) (q : Q v σ) : subW (.ref a) (.int (-1)) σ Q := by
  refine sub_end xs.length h rfl (by simp; omega) (by simp) ?_
  rw [nth_snoc]; exact q
theorem Ext.put {σ' : St} {b : Addr} {o : O} (h : Ext σ σ') (hb : σ b = none) : Ext σ (σ'.set b o) := fun a x e => by
  rw [St.set_other _ _ (ne_new e hb)]; exact h a x e
theorem Ext.none {σ' : St} {b : Addr} (h : Ext σ σ') (hb : σ' b = none) : σ b = none := by
  cases e : σ b with
  | none => rfl
  | some o => rw [h _ _ e] at hb; cases hb
theorem iter_tup {a : Addr} {xs : List V} {K : List V → (St → Prop) → Prop} (h : σ a = some (.tup xs)) (q : K xs (fun _ => True)) : iterW (.ref a) σ K := by
  unfold iterW refW
  simp only [h]
  exact q
end Mine

end
section -- C6
namespace Mine
variable {W : Wd} {n : Nat} {σ : St} {cs : List Addr}

section
variable {C : Addr} {m : Str} {R : St → Prop} {fr : List V}
theorem r_seq {a b : S} (h : sW W n a cs fr σ fun f σ1 fr1 => f = .next ∧ rW W n C m R b cs fr1 σ1) : rW W n C m R (.seq a b) cs fr σ := .inl h
theorem r_here {a b : S} (h : rW W n C m R a cs fr σ) : rW W n C m R (.seq a b) cs fr σ := .inr h
theorem r_ite {t : X} {a b : S} (h : tW W n t cs fr σ fun c σ1 => if c = true then rW W n C m R a cs fr σ1 else rW W n C m R b cs fr σ1) : rW W n C m R (.ite t a b) cs fr σ := h
theorem r_rais (h : R σ) : rW W n C m R (.rais C m) cs fr σ := ⟨rfl, rfl, h⟩
/-- how all three begin -/
theorem r_median {a : Addr} {rest : S} {tl : List V} (ga : σ a = some (.lst (ivs []))) (q : ∀ σ', Ext σ σ' → R σ') :
    rW W n C m R (.seq (.set (.l 0) (.bcall .sorted (.cons (.loc 0) .nil))) (.seq (.set (.l 1) (.bcall .len (.cons (.loc 0) .nil))) (.seq (.ite (.cmp .Eq (.loc 1) (.con (.int (0)))) (.seq (.rais C m) .skip) .skip) rest))) cs (.ref a :: .undef :: tl) σ := by
  refine r_seq ?_
  rw [s_set]
  simp only [x_bcall, x_loc, l_cons, l_nil, nth, ne_eq, reduceCtorEq, not_false_eq_true, true_and]
  refine sorted_of ga rfl (by simp) fun d σ1 n1 e1 f1 => ?_
  simp only [stW, setN]
  refine r_seq ?_
  rw [s_set]
  simp only [x_bcall, x_loc, l_cons, l_nil, nth, ne_eq, reduceCtorEq, not_false_eq_true, true_and]
  refine len_of f1 rfl ?_
  simp only [stW, setN]
  refine r_here (r_ite ?_)
  simp only [t_cmp, x_loc, x_con, nth, ne_eq, reduceCtorEq, not_false_eq_true, true_and, c_eq]
  have e : (((ivs (isort [])).length : Int) == 0) = true := rfl
  rw [e, if_pos rfl]
  exact r_here (r_rais (q _ e1))
end
theorem ml_rz {C fa : Addr} {m : Str} {R : St → Prop} (F : FnR W fa (S_ml (.rais C m)) 1 4) (hC : ExcC W.H C) {a : Addr} (ga : σ a = some (.lst (ivs []))) (q : ∀ σ', Ext σ σ' → R σ') : CallRz W (n + 1) (.ref fa) [.ref a] C m R σ := by
  obtain ⟨cs, F⟩ := F
  exact F _ n C m R σ rfl hC (r_median ga q)
theorem mh_rz {C fa : Addr} {m : Str} {R : St → Prop} (F : FnR W fa (S_mh (.rais C m)) 1 4) (hC : ExcC W.H C) {a : Addr} (ga : σ a = some (.lst (ivs []))) (q : ∀ σ', Ext σ σ' → R σ') : CallRz W (n + 1) (.ref fa) [.ref a] C m R σ := by
  obtain ⟨cs, F⟩ := F
  exact F _ n C m R σ rfl hC (r_median ga q)
inductive Hs (σ : St) : List Addr → List (List Int) → Prop where
  | nil : Hs σ [] []
  | cons {a : Addr} {B : List Int} {as : List Addr} {R : List (List Int)} : σ a = some (.lst (ivs B)) → Hs σ as R → Hs σ (a :: as) (B :: R)
theorem Hs.ext {σ' : St} {as : List Addr} {R : List (List Int)} (h : Hs σ as R) (k : ∀ a ∈ as, ∀ o, σ a = some o → σ' a = some o) : Hs σ' as R := by
  induction h with
  | nil => exact .nil
  | cons h1 h2 ih => exact .cons (k _ (by simp) _ h1) (ih fun a ha => k a (by simp [ha]))
theorem Hs.snoc {as : List Addr} {R : List (List Int)} {a : Addr} {B : List Int} (h : Hs σ as R) (hb : σ a = some (.lst (ivs B))) : Hs σ (as ++ [a]) (R ++ [B]) := by
  induction h with
  | nil => exact .cons hb .nil
  | cons h1 _ ih => exact .cons h1 ih
theorem Hs.len {as : List Addr} {R : List (List Int)} (h : Hs σ as R) : as.length = R.length := by
  induction h with
  | nil => rfl
  | cons _ _ ih => simp [ih]
theorem Hs.get {as : List Addr} {R : List (List Int)} (h : Hs σ as R) : ∀ i, i < R.length → ∃ a B, as[i]? = some a ∧ R[i]? = some B ∧ σ a = some (.lst (ivs B)) := by
  induction h with
  | nil => intro i hi; cases hi
  | cons h1 h2 ih =>
    intro i hi
    cases i with
    | zero => exact ⟨_, _, rfl, rfl, h1⟩
    | succ i => exact ih i (by simpa using hi)
theorem nth_rf {as : List Addr} {i : Nat} {a : Addr} (h : as[i]? = some a) : nth (rf as) i = .ref a := by rw [nth_eq, List.getD_eq_getElem?_getD, rf, List.getElem?_map, h]; rfl
theorem seq_unp {rv : Bool} {ts : List T} {x : X} {b : S} {fr : List V} {Q : Fl → St → List V → Prop} (h : xW W n x cs fr σ fun v σ1 => tupW v σ1 fun xs => xs.length = ts.length ∧
      (if rv = true then stsW ts.reverse xs.reverse cs fr σ1 fun fr1 σ2 => sW W n b cs fr1 σ2 Q else stsW ts xs cs fr σ1 fun fr1 σ2 => sW W n b cs fr1 σ2 Q)) : sW W n (.seq (.unp rv ts x) b) cs fr σ Q := h
theorem tup_of {a : Addr} {xs : List V} {K : List V → Prop} (h : σ a = some (.tup xs)) (q : K xs) : tupW (.ref a) σ K := by
  unfold tupW refW
  simp only [h]; exact q
end Mine

end
section -- H09
namespace Mine
open_top hd09 for PySem.Challenge.rw_dn0040_09
end Mine

end
section -- D09
namespace Mine
noncomputable abbrev K09 (P : Params) : Frag := hd09.heap_39 P
noncomputable def tb09 : List (Str × V) := [("len", (.bi "len")), ("sorted", (.bi "sorted")), ("min", (.bi "min")), ("max", (.bi "max")), ("sum", (.bi "sum")), ("abs", (.bi "abs")), ("range", (.typ "range")), ("list", (.typ "list")), ("type", (.typ "type")), ("int", (.typ "int")), ("median_low", (.ref 34)), ("median_high", (.ref 41)), ("bisect_right", (.ref 50)), ("insort_left", (.ref 59)), ("bisect_left", (.ref 68)), ("_law_walks", (.ref 75)), ("_law_refusal", (.ref 82)), ("law", (.ref 87)), ("StatisticsError", (.ref 24)), ("ValueError", (.typ "ValueError")), ("str", (.typ "str"))]
noncomputable def nm09_34 : List (Str × NameKind) := [("data", .local), ("n", .local), ("sorted", .globalImplicit), ("len", .globalImplicit), ("StatisticsError", .globalImplicit)]
noncomputable def nm09_41 : List (Str × NameKind) := [("data", .local), ("n", .local), ("sorted", .globalImplicit), ("len", .globalImplicit), ("StatisticsError", .globalImplicit)]
noncomputable def nm09_50 : List (Str × NameKind) := [("a", .local), ("x", .local), ("lo", .local), ("hi", .local), ("key", .local), ("mid", .local), ("ValueError", .globalImplicit), ("len", .globalImplicit)]
noncomputable def nm09_59 : List (Str × NameKind) := [("a", .local), ("x", .local), ("lo", .local), ("hi", .local), ("key", .local), ("bisect_left", .globalImplicit)]
noncomputable def nm09_68 : List (Str × NameKind) := [("a", .local), ("x", .local), ("lo", .local), ("hi", .local), ("key", .local), ("mid", .local), ("ValueError", .globalImplicit), ("len", .globalImplicit)]
noncomputable def nm09_75 : List (Str × NameKind) := [("row", .local), ("v", .local), ("more", .local), ("lows", .local), ("highs", .local), ("stood", .local), ("here", .local), ("end", .local), ("tell", .local), ("range", .globalImplicit), ("len", .globalImplicit), ("bisect_right", .globalImplicit), ("bisect_left", .globalImplicit), ("insort_left", .globalImplicit)]
noncomputable def bd09_75 : S := (.seq (.unp true [(.l 5), (.l 6)] (.tup (.cons (.lst (.cons (.con (.int (0))) .nil)) (.cons (.con (.int (0))) .nil))))
 (.seq (.for_ (.one (.l 7)) (.bcall .range (.cons (.bcall .len (.cons (.loc 0) .nil)) .nil)) (.seq (.aug (.l 6) .Add (.ife (.or (.cmp .Gt (.sub (.loc 0) (.loc 7)) (.loc 1)) (.and (.cmp .Eq (.sub (.loc 0) (.loc 7)) (.loc 1)) (.not (.loc 2)))) (.con (.int (1))) (.neg (.con (.int (1))))))
 (.seq (.set (.l 8) (.ife (.loc 2) (.con (.ref 50)) (.con (.ref 68))))
 (.seq (.ite (.cmp .NotEq (.bin .Sub (.bin .Add (.loc 7) (.con (.int (1)))) (.call (.loc 8) (.cons (.sub (.loc 3) (.loc 7)) (.cons (.loc 1) .nil)) [] .nil)) (.call (.con (.ref 68)) (.cons (.loc 5) (.cons (.loc 6) .nil)) [] .nil)) (.seq (.ret (.con (.bool false)))
 .skip) .skip)
 (.seq (.ite (.cmp .NotEq (.bin .Sub (.bin .Add (.loc 7) (.con (.int (1)))) (.call (.loc 8) (.cons (.sub (.loc 4) (.loc 7)) (.cons (.loc 1) .nil)) [] .nil)) (.call (.con (.ref 50)) (.cons (.loc 5) (.cons (.loc 6) .nil)) [] .nil)) (.seq (.ret (.con (.bool false)))
 .skip) .skip)
 (.seq (.exp (.call (.con (.ref 59)) (.cons (.loc 5) (.cons (.loc 6) .nil)) [] .nil))
 .skip))))))
 (.seq (.ret (.con (.bool true)))
 .skip)))
noncomputable def nm09_82 : List (Str × NameKind) := [("middle", .local), ("error", .local), ("StatisticsError", .globalImplicit), ("str", .globalImplicit)]
noncomputable def bd09_82 : S := (.seq (.tryx (.exp (.call (.loc 0) (.cons (.lst .nil) .nil) [] .nil)) (.loc 0) (.cons (.lst .nil) .nil) 24 (.retStr 1))
 (.seq (.ret (.con (.str "")))
 .skip))
noncomputable def nm09_87 : List (Str × NameKind) := [("script", .local), ("numbers", .local), ("row", .cell), ("lows", .local), ("highs", .local), ("end", .cell), ("windows", .local), ("v", .local), ("_law_refusal", .globalImplicit), ("median_low", .globalImplicit), ("median_high", .globalImplicit), ("len", .globalImplicit), ("range", .globalImplicit), ("sorted", .globalImplicit), ("_law_walks", .globalImplicit)]
noncomputable def bd09_87 : S := (.seq (.set (.l 0) (.sl (.loc 0) (.con .none) (.con (.int (12))) (.con .none)))
 (.seq (.ite (.cmp .NotEq (.lst (.cons (.call (.con (.ref 82)) (.cons (.con (.ref 34)) .nil) [] .nil) (.cons (.call (.con (.ref 82)) (.cons (.con (.ref 41)) .nil) [] .nil) .nil))) (.bin .Mult (.lst (.cons (.con (.str "no median for empty data")) .nil)) (.con (.int (2))))) (.seq (.ret (.con (.bool false)))
 .skip) .skip)
 (.seq (.set (.l 1) (.bin .Add (.loc 0) (.lst (.cons (.bcall .len (.cons (.loc 0) .nil)) .nil))))
 (.seq (.for_ (.one (.c 2)) (.tup (.cons (.loc 1) (.cons (.comp 2 [15, 15] (.loc 1) 1 (.con (.bool true)) (.bin .Mod (.loc 1) (.con (.int (5))))) .nil))) (.seq (.unp true [(.l 3), (.l 4)] (.tup (.cons (.lst .nil) (.cons (.lst .nil) .nil))))
 (.seq (.for_ (.one (.c 5)) (.bcall .range (.cons (.bcall .len (.cons (.cel 2) .nil)) .nil)) (.seq (.set (.l 6) (.comp 4 [15, 15, 5, 2] (.bcall .range (.cons (.bin .Add (.cel 5) (.con (.int (1)))) .nil)) 1 (.con (.bool true)) (.sl (.cel 3) (.loc 1) (.bin .Add (.cel 2) (.con (.int (1)))) (.con .none))))
 (.seq (.exp (.meth .append (.loc 3) (.cons (.bcall .sorted (.cons (.comp 3 [15, 15, 9] (.loc 6) 1 (.con (.bool true)) (.call (.con (.ref 34)) (.cons (.loc 1) .nil) [] .nil)) .nil)) .nil)))
 (.seq (.exp (.meth .append (.loc 4) (.cons (.bcall .sorted (.cons (.comp 3 [15, 15, 10] (.loc 6) 1 (.con (.bool true)) (.call (.con (.ref 41)) (.cons (.loc 1) .nil) [] .nil)) .nil)) .nil)))
 (.seq (.ite (.cmp .NotEq (.comp 4 [15, 15, 15, 15] (.bin .Add (.sub (.loc 3) (.neg (.con (.int (1))))) (.sub (.loc 4) (.neg (.con (.int (1)))))) 1 (.cmp .IsNot (.bcall .type (.cons (.loc 1) .nil)) (.con (.typ "int"))) (.loc 1)) (.lst .nil)) (.seq (.ret (.con (.bool false)))
 .skip) .skip)
 (.seq (.ite (.cmp .NotEq (.loc 6) (.comp 4 [15, 15, 5, 2] (.bcall .range (.cons (.bin .Add (.cel 5) (.con (.int (1)))) .nil)) 1 (.con (.bool true)) (.sl (.cel 3) (.loc 1) (.bin .Add (.cel 2) (.con (.int (1)))) (.con .none)))) (.seq (.ret (.con (.bool false)))
 .skip) .skip)
 .skip))))))
 (.seq (.for_ (.one (.l 7)) (.cel 2) (.seq (.ite (.or (.not (.call (.con (.ref 75)) (.cons (.cel 2) (.cons (.loc 7) (.cons (.con (.bool false)) (.cons (.loc 3) (.cons (.loc 4) .nil))))) [] .nil)) (.not (.call (.con (.ref 75)) (.cons (.cel 2) (.cons (.loc 7) (.cons (.con (.bool true)) (.cons (.loc 3) (.cons (.loc 4) .nil))))) [] .nil))) (.seq (.ret (.con (.bool false)))
 .skip) .skip)
 .skip))
 .skip))))
 (.seq (.ret (.con (.bool true)))
 .skip)))))


theorem gl09 (P : Params) : glChk (K09 P) tb09 = true := by kernel_rfl
theorem fc09_34 (P : Params) : fnChk (K09 P) 34 nm09_34 = true := by kernel_rfl
theorem fe09_34 (P : Params) : erSs (glT tb09) nm09_34 (bodyK (K09 P) 34) = (S_ml (.rais 24 "no median for empty data")) := by kernel_rfl
theorem fp09_34 (P : Params) : ∀ vs : List Value, vs.length = (["data"] : List Str).length → (fdK (K09 P) 34).map (fun fd => bindArgs fd ⟨vs, []⟩) = some (pure ((["data"] : List Str).zip vs)) := fun vs h => by
    obtain ⟨v0, r0, rfl, h1⟩ := lenS h; cases List.length_eq_zero_iff.mp h1
    kernel_rfl
theorem fn09_median_low {W : Wd} {P : Params} (X : Txt W (K09 P) tb09) : FnP W 34 (S_ml (.rais 24 "no median for empty data")) 1 4 := fnP_of X (xs := ["data"]) (fc09_34 P) (fe09_34 P) (by kernel_rfl) (fp09_34 P) (by kernel_rfl)
  (fun us h => by
    obtain ⟨v0, r0, rfl, h1⟩ := lenS h; cases List.length_eq_zero_iff.mp h1
    kernel_rfl)
theorem fr09_median_low {W : Wd} {P : Params} (X : Txt W (K09 P) tb09) : FnR W 34 (S_ml (.rais 24 "no median for empty data")) 1 4 := fnR_of X (xs := ["data"]) (fc09_34 P) (fe09_34 P) (by kernel_rfl) (fp09_34 P) (by kernel_rfl)
  (fun us h => by
    obtain ⟨v0, r0, rfl, h1⟩ := lenS h; cases List.length_eq_zero_iff.mp h1
    kernel_rfl)
theorem fc09_41 (P : Params) : fnChk (K09 P) 41 nm09_41 = true := by kernel_rfl
theorem fe09_41 (P : Params) : erSs (glT tb09) nm09_41 (bodyK (K09 P) 41) = (S_mh (.rais 24 "no median for empty data")) := by kernel_rfl
theorem fp09_41 (P : Params) : ∀ vs : List Value, vs.length = (["data"] : List Str).length → (fdK (K09 P) 41).map (fun fd => bindArgs fd ⟨vs, []⟩) = some (pure ((["data"] : List Str).zip vs)) := fun vs h => by
    obtain ⟨v0, r0, rfl, h1⟩ := lenS h; cases List.length_eq_zero_iff.mp h1
    kernel_rfl
theorem fn09_median_high {W : Wd} {P : Params} (X : Txt W (K09 P) tb09) : FnP W 41 (S_mh (.rais 24 "no median for empty data")) 1 4 := fnP_of X (xs := ["data"]) (fc09_41 P) (fe09_41 P) (by kernel_rfl) (fp09_41 P) (by kernel_rfl)
  (fun us h => by
    obtain ⟨v0, r0, rfl, h1⟩ := lenS h; cases List.length_eq_zero_iff.mp h1
    kernel_rfl)
theorem fr09_median_high {W : Wd} {P : Params} (X : Txt W (K09 P) tb09) : FnR W 41 (S_mh (.rais 24 "no median for empty data")) 1 4 := fnR_of X (xs := ["data"]) (fc09_41 P) (fe09_41 P) (by kernel_rfl) (fp09_41 P) (by kernel_rfl)
  (fun us h => by
    obtain ⟨v0, r0, rfl, h1⟩ := lenS h; cases List.length_eq_zero_iff.mp h1
    kernel_rfl)
theorem fc09_50 (P : Params) : fnChk (K09 P) 50 nm09_50 = true := by kernel_rfl
theorem fe09_50 (P : Params) : erSs (glT tb09) nm09_50 (bodyK (K09 P) 50) = S_br := by kernel_rfl
theorem fn09_bisect_right {W : Wd} {P : Params} (X : Txt W (K09 P) tb09) : FnB W 50 S_br 3 := fnB_of X (fc09_50 P) (fe09_50 P) ⟨by kernel_rfl, by kernel_rfl⟩ (by kernel_rfl) (fun _ _ _ _ _ => by kernel_rfl)
theorem fc09_59 (P : Params) : fnChk (K09 P) 59 nm09_59 = true := by kernel_rfl
theorem fe09_59 (P : Params) : erSs (glT tb09) nm09_59 (bodyK (K09 P) 59) = (S_in 68) := by kernel_rfl
theorem fn09_insort_left {W : Wd} {P : Params} (X : Txt W (K09 P) tb09) : FnB W 59 (S_in 68) 1 := fnB_of X (fc09_59 P) (fe09_59 P) ⟨by kernel_rfl, by kernel_rfl⟩ (by kernel_rfl) (fun _ _ _ _ _ => by kernel_rfl)
theorem fc09_68 (P : Params) : fnChk (K09 P) 68 nm09_68 = true := by kernel_rfl
theorem fe09_68 (P : Params) : erSs (glT tb09) nm09_68 (bodyK (K09 P) 68) = S_bl := by kernel_rfl
theorem fn09_bisect_left {W : Wd} {P : Params} (X : Txt W (K09 P) tb09) : FnB W 68 S_bl 3 := fnB_of X (fc09_68 P) (fe09_68 P) ⟨by kernel_rfl, by kernel_rfl⟩ (by kernel_rfl) (fun _ _ _ _ _ => by kernel_rfl)
theorem fc09_75 (P : Params) : fnChk (K09 P) 75 nm09_75 = true := by kernel_rfl
theorem fe09_75 (P : Params) : erSs (glT tb09) nm09_75 (bodyK (K09 P) 75) = bd09_75 := by kernel_rfl
theorem fp09_75 (P : Params) : ∀ vs : List Value, vs.length = (["row", "v", "more", "lows", "highs"] : List Str).length → (fdK (K09 P) 75).map (fun fd => bindArgs fd ⟨vs, []⟩) = some (pure ((["row", "v", "more", "lows", "highs"] : List Str).zip vs)) := fun vs h => by
    obtain ⟨v0, r0, rfl, h1⟩ := lenS h; obtain ⟨v1, r1, rfl, h2⟩ := lenS h1; obtain ⟨v2, r2, rfl, h3⟩ := lenS h2; obtain ⟨v3, r3, rfl, h4⟩ := lenS h3; obtain ⟨v4, r4, rfl, h5⟩ := lenS h4; cases List.length_eq_zero_iff.mp h5
    kernel_rfl
theorem fn09__law_walks {W : Wd} {P : Params} (X : Txt W (K09 P) tb09) : FnP W 75 bd09_75 5 9 := fnP_of X (xs := ["row", "v", "more", "lows", "highs"]) (fc09_75 P) (fe09_75 P) (by kernel_rfl) (fp09_75 P) (by kernel_rfl)
  (fun us h => by
    obtain ⟨v0, r0, rfl, h1⟩ := lenS h; obtain ⟨v1, r1, rfl, h2⟩ := lenS h1; obtain ⟨v2, r2, rfl, h3⟩ := lenS h2; obtain ⟨v3, r3, rfl, h4⟩ := lenS h3; obtain ⟨v4, r4, rfl, h5⟩ := lenS h4; cases List.length_eq_zero_iff.mp h5
    kernel_rfl)
theorem fc09_82 (P : Params) : fnChk (K09 P) 82 nm09_82 = true := by kernel_rfl
theorem fe09_82 (P : Params) : erSs (glT tb09) nm09_82 (bodyK (K09 P) 82) = bd09_82 := by kernel_rfl
theorem fp09_82 (P : Params) : ∀ vs : List Value, vs.length = (["middle"] : List Str).length → (fdK (K09 P) 82).map (fun fd => bindArgs fd ⟨vs, []⟩) = some (pure ((["middle"] : List Str).zip vs)) := fun vs h => by
    obtain ⟨v0, r0, rfl, h1⟩ := lenS h; cases List.length_eq_zero_iff.mp h1
    kernel_rfl
theorem fn09__law_refusal {W : Wd} {P : Params} (X : Txt W (K09 P) tb09) : FnP W 82 bd09_82 1 3 := fnP_of X (xs := ["middle"]) (fc09_82 P) (fe09_82 P) (by kernel_rfl) (fp09_82 P) (by kernel_rfl)
  (fun us h => by
    obtain ⟨v0, r0, rfl, h1⟩ := lenS h; cases List.length_eq_zero_iff.mp h1
    kernel_rfl)
theorem fc09_87 (P : Params) : fnChk (K09 P) 87 nm09_87 = true := by kernel_rfl
theorem fe09_87 (P : Params) : erSs (glT tb09) nm09_87 (bodyK (K09 P) 87) = bd09_87 := by kernel_rfl
theorem fp09_87 (P : Params) : ∀ vs : List Value, vs.length = (["script"] : List Str).length → (fdK (K09 P) 87).map (fun fd => bindArgs fd ⟨vs, []⟩) = some (pure ((["script"] : List Str).zip vs)) := fun vs h => by
    obtain ⟨v0, r0, rfl, h1⟩ := lenS h; cases List.length_eq_zero_iff.mp h1
    kernel_rfl
theorem fn09_law {W : Wd} {P : Params} (X : Txt W (K09 P) tb09) {n : Nat} {σ : St} {us : List V} {Q : V → St → Prop} (hl : us.length = (["script"] : List Str).length)
    (h : cellW nm09_87 (parV ((["script"] : List Str).zip us)) [] σ fun cs σ' => sW W n bd09_87 cs (slots0 nm09_87 (parV ((["script"] : List Str).zip us))) σ' fun f σ'' _ => Q (retV f) σ'') : CallOK W (n + 1) (.ref 87) us [] [] Q σ :=
  fnC_of X (fc09_87 P) (fe09_87 P) (by kernel_rfl) (fp09_87 P) hl h
theorem ex09 (P : Params) : excChk (K09 P) 24 = true := by kernel_rfl
end Mine

end
section -- M09
namespace Mine

noncomputable def d1 (t y : Int) : Int := if t ≤ y then 1 else -1
noncomputable def wt (t : Int) : List Int → Int
  | [] => 0
  | x :: l => d1 t x + wt t l
theorem wt_app (t : Int) (a b : List Int) : wt t (a ++ b) = wt t a + wt t b := by
  induction a with
  | nil => simp [wt]
  | cons x a ih => show d1 t x + wt t (a ++ b) = d1 t x + wt t a + wt t b; rw [ih]; omega
theorem wt_cn (t : Int) (l : List Int) : wt t l = l.length - 2 * (l.countP (fun y => decide (y < t)) : Int) := by
  induction l with
  | nil => rfl
  | cons x l ih =>
    show d1 t x + wt t l = _
    rw [ih, List.countP_cons, List.length_cons]
    unfold d1
    by_cases h : t ≤ x
    · have : ¬ x < t := by omega
      simp [h, this]; omega
    · have : x < t := by omega
      simp [h, this]; omega
theorem med_wt {l : List Int} (h : l ≠ []) (t : Int) : t ≤ medLow l ↔ 0 < wt t l := by
  have hp := List.length_pos_iff.mpr h
  have h1 : t ≤ medLow l ↔ l.countP (fun y => decide (y < t)) ≤ (l.length - 1) / 2 := ord_iff (by omega)
  rw [h1, wt_cn]; omega
theorem medH_wt {l : List Int} (h : l ≠ []) (t : Int) : t ≤ medHigh l ↔ 0 ≤ wt t l := by
  have hp := List.length_pos_iff.mpr h
  have h1 : t ≤ medHigh l ↔ l.countP (fun y => decide (y < t)) ≤ l.length / 2 := ord_iff (by omega)
  rw [h1, wt_cn]; omega
noncomputable def win (row : List Int) (s e : Nat) : List Int := (row.drop s).take (e + 1 - s)
noncomputable def pre (t : Int) (row : List Int) (k : Nat) : Int := wt t (row.take k)
theorem win_wt {t : Int} {row : List Int} {s e : Nat} (hs : s ≤ e) (he : e < row.length) : wt t (win row s e) = pre t row (e + 1) - pre t row s := by
  have : row.take (e + 1) = row.take s ++ win row s e := by
    unfold win
    rw [← List.take_add]
    congr 1; omega
  unfold pre
  rw [this, wt_app]; omega
theorem win_ne {row : List Int} {s e : Nat} (hs : s ≤ e) (he : e < row.length) : win row s e ≠ [] := fun q => by
  have := congrArg List.length q
  unfold win at this
  simp at this; omega
noncomputable def lowsAt (row : List Int) (e : Nat) : List Int := (List.range (e + 1)).map fun s => medLow (win row s e)
noncomputable def highsAt (row : List Int) (e : Nat) : List Int := (List.range (e + 1)).map fun s => medHigh (win row s e)
noncomputable def stand (t : Int) (row : List Int) (k : Nat) : List Int := (List.range k).map (pre t row)
theorem not_countP {α : Type} (p : α → Bool) (l : List α) : l.countP p + l.countP (fun x => !p x) = l.length := by
  induction l with
  | nil => rfl
  | cons x l ih => rw [List.countP_cons, List.countP_cons, List.length_cons]; cases p x <;> simp <;> omega
theorem low_count {t : Int} {row : List Int} {e : Nat} (he : e < row.length) : (isort (lowsAt row e)).countP (fun y => decide (y < t)) + (isort (stand t row (e + 1))).countP (fun y => decide (y < pre t row (e + 1))) = e + 1 := by
  rw [countP_isort, countP_isort]
  unfold lowsAt stand
  rw [List.countP_map, List.countP_map]
  have key : (List.range (e + 1)).countP ((fun y => decide (y < pre t row (e + 1))) ∘ pre t row) = (List.range (e + 1)).countP (fun s => !((fun y => decide (y < t)) ∘ fun s => medLow (win row s e)) s) := by
    refine List.countP_congr fun s hs => ?_
    have hs' : s ≤ e := by have := List.mem_range.mp hs; omega
    have h1 := med_wt (win_ne hs' he) t
    rw [win_wt hs' he] at h1
    simp only [Function.comp, decide_eq_true_eq, Bool.not_eq_true', decide_eq_false_iff_not]
    omega
  rw [key, not_countP, List.length_range]
theorem high_count {t : Int} {row : List Int} {e : Nat} (he : e < row.length) : (isort (highsAt row e)).countP (fun y => decide (y < t)) + (isort (stand t row (e + 1))).countP (fun y => decide (y ≤ pre t row (e + 1))) = e + 1 := by
  rw [countP_isort, countP_isort]
  unfold highsAt stand
  rw [List.countP_map, List.countP_map]
  have key : (List.range (e + 1)).countP ((fun y => decide (y ≤ pre t row (e + 1))) ∘ pre t row) = (List.range (e + 1)).countP (fun s => !((fun y => decide (y < t)) ∘ fun s => medHigh (win row s e)) s) := by
    refine List.countP_congr fun s hs => ?_
    have hs' : s ≤ e := by have := List.mem_range.mp hs; omega
    have h1 := medH_wt (win_ne hs' he) t
    rw [win_wt hs' he] at h1
    simp only [Function.comp, decide_eq_true_eq, Bool.not_eq_true', decide_eq_false_iff_not]
    omega
  rw [key, not_countP, List.length_range]
theorem stand_succ (t : Int) (row : List Int) (k : Nat) : ins (pre t row k) (isort (stand t row k)) = isort (stand t row (k + 1)) := by
  rw [ins_isort]
  refine isort_congr ?_
  unfold stand
  rw [List.range_succ, List.map_append]
  exact (List.perm_append_singleton _ _).symm
theorem pre_succ {t : Int} {row : List Int} {k : Nat} (h : k < row.length) : pre t row (k + 1) = pre t row k + d1 t (row.getD k 0) := by
  unfold pre
  rw [take_succ h, wt_app]
  show _ + (d1 t (row.getD k 0) + 0) = _; omega
end Mine

end
section -- L09a
namespace Mine
variable {W : Wd} {n : Nat} {σ : St} {cs : List Addr}

theorem truW_bool {b : Bool} {Q : Bool → St → Prop} : truW (.bool b) σ Q = Q b σ := rfl
abbrev noMed : Str := "no median for empty data"
theorem refusal_ok {P : Params} (X : Txt W (K09 P) tb09) {f : Addr} {Q : V → St → Prop} (hf : f = 34 ∨ f = 41) (q : ∀ σ', Ext σ σ' → Q (.str noMed) σ') : CallOK W (n + 2) (.ref 82) [.ref f] [] [] Q σ := by
  obtain ⟨cs, F⟩ := fn09__law_refusal X
  have hC : ExcC W.H 24 := excC_of X.inH (ex09 P)
  refine F _ (n + 1) Q σ rfl ?_
  simp only [bd09_82, List.cons_append, List.nil_append, undefs]
  rw [s_seq, s_try]
  refine .inr ⟨hC, ?_⟩
  simp only [x_loc, x_lst, l_cons, l_nil, nth, ne_eq, reduceCtorEq, not_false_eq_true, true_and]
  refine ⟨by simp, alW_of fun d σ1 n1 e1 f1 => ⟨noMed, ?_⟩⟩
  rcases hf with rfl | rfl
  · exact ml_rz (fr09_median_low X) hC f1 fun σ2 e2 => q σ2 (e1.trans e2)
  · exact mh_rz (fr09_median_high X) hC f1 fun σ2 e2 => q σ2 (e1.trans e2)

noncomputable def wkBody : S := (.seq (.aug (.l 6) .Add (.ife (.or (.cmp .Gt (.sub (.loc 0) (.loc 7)) (.loc 1)) (.and (.cmp .Eq (.sub (.loc 0) (.loc 7)) (.loc 1)) (.not (.loc 2)))) (.con (.int (1))) (.neg (.con (.int (1))))))
 (.seq (.set (.l 8) (.ife (.loc 2) (.con (.ref 50)) (.con (.ref 68))))
 (.seq (.ite (.cmp .NotEq (.bin .Sub (.bin .Add (.loc 7) (.con (.int (1)))) (.call (.loc 8) (.cons (.sub (.loc 3) (.loc 7)) (.cons (.loc 1) .nil)) [] .nil)) (.call (.con (.ref 68)) (.cons (.loc 5) (.cons (.loc 6) .nil)) [] .nil)) (.seq (.ret (.con (.bool false)))
 .skip) .skip)
 (.seq (.ite (.cmp .NotEq (.bin .Sub (.bin .Add (.loc 7) (.con (.int (1)))) (.call (.loc 8) (.cons (.sub (.loc 4) (.loc 7)) (.cons (.loc 1) .nil)) [] .nil)) (.call (.con (.ref 50)) (.cons (.loc 5) (.cons (.loc 6) .nil)) [] .nil)) (.seq (.ret (.con (.bool false)))
 .skip) .skip)
 (.seq (.exp (.call (.con (.ref 59)) (.cons (.loc 5) (.cons (.loc 6) .nil)) [] .nil))
 .skip)))))
theorem bd09_75_eq : bd09_75 = (.seq (.unp true [(.l 5), (.l 6)] (.tup (.cons (.lst (.cons (.con (.int (0))) .nil)) (.cons (.con (.int (0))) .nil))))
 (.seq (.for_ (.one (.l 7)) (.bcall .range (.cons (.bcall .len (.cons (.loc 0) .nil)) .nil)) wkBody)
 (.seq (.ret (.con (.bool true))) .skip))) := rfl
noncomputable def thr (v : Int) (more : Bool) : Int := if more then v + 1 else v
theorem d1_gt {v y : Int} {more : Bool} (h : y > v) : (1 : Int) = d1 (thr v more) y := by
  unfold d1 thr; cases more
  · rw [if_pos (by simp only [Bool.false_eq_true, if_false]; omega)]
  · rw [if_pos (by simp only [if_true]; omega)]
theorem d1_lt {v y : Int} {more : Bool} (h : ¬ y > v) (h2 : y ≠ v) : (-1 : Int) = d1 (thr v more) y := by
  unfold d1 thr; cases more
  · rw [if_neg (by simp only [Bool.false_eq_true, if_false]; omega)]
  · rw [if_neg (by simp only [if_true]; omega)]
theorem d1_eqF {v y : Int} (h : y = v) : (1 : Int) = d1 (thr v false) y := by
  unfold d1 thr; rw [if_pos (by simp only [Bool.false_eq_true, if_false]; omega)]
theorem d1_eqT {v y : Int} (h : y = v) : (-1 : Int) = d1 (thr v true) y := by
  unfold d1 thr; rw [if_neg (by simp only [if_true]; omega)]
/-- how many are below the threshold, by the one search or the other -/
theorem tell_ok {P : Params} (X : Txt W (K09 P) tb09) {a : Addr} {ns : List Int} {v : Int} {more : Bool} {Q : V → St → Prop} (ho : σ a = some (.lst (ivs ns))) (hs : Sorted ns)
    (q : Q (.int (ns.countP (fun y => decide (y < thr v more)) : Nat)) σ) : CallOK W (n + 1) (.ref (if more then 50 else 68)) [.ref a, .int v] [] [] Q σ := by
  cases more with
  | false => exact bisect_left_ok (fn09_bisect_left X) ho rfl hs q
  | true =>
    refine bisect_right_ok (fn09_bisect_right X) ho rfl hs ?_
    have e : (fun y => decide (y < thr v true)) = fun y => decide (y ≤ v) := by
      funext y; exact decide_eq_decide.mpr (by show y < v + 1 ↔ y ≤ v; omega)
    rw [e] at q; exact q
/-- one step of a walk -/
theorem wk_step {P : Params} (X : Txt W (K09 P) tb09) {ar al ah dl dh ds : Addr} {las has : List Addr} {row : List Int} {v : Int} {more : Bool} {e : Nat} {vt : V} {tl : List V} {Q : Fl → St → List V → Prop} (he : e < row.length) (hz : row.length ≤ 63)
    (gr : σ ar = some (.lst (ivs row))) (gl : σ al = some (.lst (rf las))) (gh : σ ah = some (.lst (rf has))) (hl : las[e]? = some dl) (hh : has[e]? = some dh)
    (gdl : σ dl = some (.lst (ivs (isort (lowsAt row e))))) (gdh : σ dh = some (.lst (ivs (isort (highsAt row e)))))
    (gs : σ ds = some (.lst (ivs (isort (stand (thr v more) row (e + 1))))))
    (q : ∀ vt, Q .next (σ.set ds (.lst (ivs (isort (stand (thr v more) row (e + 2)))))) (.ref ar :: .int v :: .bool more :: .ref al :: .ref ah :: .ref ds :: .int (pre (thr v more) row (e + 1)) :: .int (e : Nat) :: vt :: tl)) :
    sW W (n + 2) wkBody cs (.ref ar :: .int v :: .bool more :: .ref al :: .ref ah :: .ref ds :: .int (pre (thr v more) row e) :: .int (e : Nat) :: vt :: tl) σ Q := by
  have hll : e < las.length := (List.getElem?_eq_some_iff.mp hl).1
  have hhl : e < has.length := (List.getElem?_eq_some_iff.mp hh).1
  unfold wkBody
  refine seq_aug ?_
  have fin : ∀ d : Int, d = d1 (thr v more) (row.getD e 0) → (fun v_1 σ1 => augW Operator.Add (V.int (pre (thr v more) row e)) v_1 fun r => stW (T.l 6) r cs (.ref ar :: .int v :: .bool more :: .ref al :: .ref ah :: .ref ds :: .int (pre (thr v more) row e) :: .int (e : Nat) :: vt :: tl) σ1 fun fr1 σ2 => sW W (n + 2) (.seq (.set (.l 8) (.ife (.loc 2) (.con (.ref 50)) (.con (.ref 68))))
 (.seq (.ite (.cmp .NotEq (.bin .Sub (.bin .Add (.loc 7) (.con (.int (1)))) (.call (.loc 8) (.cons (.sub (.loc 3) (.loc 7)) (.cons (.loc 1) .nil)) [] .nil)) (.call (.con (.ref 68)) (.cons (.loc 5) (.cons (.loc 6) .nil)) [] .nil)) (.seq (.ret (.con (.bool false)))
 .skip) .skip)
 (.seq (.ite (.cmp .NotEq (.bin .Sub (.bin .Add (.loc 7) (.con (.int (1)))) (.call (.loc 8) (.cons (.sub (.loc 4) (.loc 7)) (.cons (.loc 1) .nil)) [] .nil)) (.call (.con (.ref 50)) (.cons (.loc 5) (.cons (.loc 6) .nil)) [] .nil)) (.seq (.ret (.con (.bool false)))
 .skip) .skip)
 (.seq (.exp (.call (.con (.ref 59)) (.cons (.loc 5) (.cons (.loc 6) .nil)) [] .nil))
 .skip)))) cs fr1 σ2 Q) (.int d) σ := by
    intro d hd
    simp only [augW, stW, setN]
    rw [hd, ← pre_succ he]
    refine seq_set ?_
    have hb : ∀ Q' : V → St → Prop, Q' (.ref (if more then 50 else 68)) σ → xW W (n + 2) (.ife (.loc 2) (.con (.ref 50)) (.con (.ref 68))) cs (.ref ar :: .int v :: .bool more :: .ref al :: .ref ah :: .ref ds :: .int (pre (thr v more) row (e + 1)) :: .int (e : Nat) :: vt :: tl) σ Q' := fun Q' h => by
      rw [x_ife, t_loc]
      refine ⟨nofun, ?_⟩
      show if more = true then _ else _
      cases more with
      | true => exact h
      | false => exact h
    refine hb _ ?_
    simp only [stW, setN]
    refine seq_ite ?_
    simp only [t_cmp, x_bin, x_loc, x_con, nth, ne_eq, reduceCtorEq, not_false_eq_true, true_and, b_add]
    rw [x_call]
    simp only [x_loc, x_sub, l_cons, l_nil, nth, ne_eq, reduceCtorEq, not_false_eq_true, true_and]
    refine sub_of e rfl gl rfl (by rw [rf_len]; exact hll) ?_
    rw [nth_rf hl]
    refine tell_ok X gdl (sorted_isort _) ?_
    simp only [b_sub]
    rw [x_call]
    simp only [x_con, x_loc, l_cons, l_nil, nth, ne_eq, reduceCtorEq, not_false_eq_true, true_and]
    refine bisect_left_ok (fn09_bisect_left X) gs rfl (sorted_isort _) ?_
    have e1 := low_count (t := thr v more) he
    refine ne_int_same (by omega) ?_
    rw [if_neg Bool.false_ne_true]
    refine seq_skip (seq_ite ?_)
    simp only [t_cmp, x_bin, x_loc, x_con, nth, ne_eq, reduceCtorEq, not_false_eq_true, true_and, b_add]
    rw [x_call]
    simp only [x_loc, x_sub, l_cons, l_nil, nth, ne_eq, reduceCtorEq, not_false_eq_true, true_and]
    refine sub_of e rfl gh rfl (by rw [rf_len]; exact hhl) ?_
    rw [nth_rf hh]
    refine tell_ok X gdh (sorted_isort _) ?_
    simp only [b_sub]
    rw [x_call]
    simp only [x_con, x_loc, l_cons, l_nil, nth, ne_eq, reduceCtorEq, not_false_eq_true, true_and]
    refine bisect_right_ok (fn09_bisect_right X) gs rfl (sorted_isort _) ?_
    have e2 := high_count (t := thr v more) he
    refine ne_int_same (by omega) ?_
    rw [if_neg Bool.false_ne_true]
    refine seq_skip (seq_exp ?_)
    simp only [x_call, x_con, x_loc, l_cons, l_nil, nth, ne_eq, reduceCtorEq, not_false_eq_true, true_and]
    refine insort_left_ok (fn09_insort_left X) (fn09_bisect_left X) gs (sorted_isort _) (by rw [isort_length]; simp [stand]; unfold lim; omega) ?_
    rw [stand_succ]
    exact q _
  simp only [ldW, nth, ne_eq, reduceCtorEq, not_false_eq_true, true_and]
  rw [x_ife]
  simp only [t_or, t_and, t_not, t_cmp, t_loc, x_sub, x_loc, nth, ne_eq, reduceCtorEq, not_false_eq_true, true_and]
  refine sub_int gr rfl he ?_
  simp only [c_gt]
  by_cases h1 : row.getD e 0 > v
  · rw [if_pos (by simpa using h1), if_pos trivial]
    exact fin 1 (d1_gt h1)
  · rw [if_neg (by simpa using h1)]
    refine sub_int gr rfl he ?_
    simp only [c_eq]
    by_cases h2 : row.getD e 0 = v
    · rw [if_pos (by simpa using h2)]
      cases more with
      | false =>
        simp only [truW_bool, Bool.not_false, if_true]
        exact fin 1 (d1_eqF h2)
      | true =>
        simp only [truW_bool, Bool.not_true, Bool.false_eq_true, if_false]
        exact fin (-1) (d1_eqT h2)
    · rw [if_neg (by simpa using h2), if_neg (fun h => h), x_neg]
      exact fin (-1) (d1_lt h1 h2)
end Mine

end
section -- L09b
namespace Mine
variable {W : Wd} {n : Nat} {σ : St} {cs : List Addr}

noncomputable def lowsL (row : List Int) (e : Nat) : List (List Int) := (List.range e).map fun i => isort (lowsAt row i)
noncomputable def highsL (row : List Int) (e : Nat) : List (List Int) := (List.range e).map fun i => isort (highsAt row i)
theorem lowsL_get {row : List Int} {e i : Nat} (h : i < e) : (lowsL row e)[i]? = some (isort (lowsAt row i)) := by
  unfold lowsL; rw [List.getElem?_map, List.getElem?_range h]; rfl
theorem highsL_get {row : List Int} {e i : Nat} (h : i < e) : (highsL row e)[i]? = some (isort (highsAt row i)) := by
  unfold highsL; rw [List.getElem?_map, List.getElem?_range h]; rfl
theorem lowsL_succ (row : List Int) (e : Nat) : lowsL row (e + 1) = lowsL row e ++ [isort (lowsAt row e)] := by unfold lowsL; rw [List.range_succ, List.map_append]; rfl
theorem highsL_succ (row : List Int) (e : Nat) : highsL row (e + 1) = highsL row e ++ [isort (highsAt row e)] := by unfold highsL; rw [List.range_succ, List.map_append]; rfl
theorem stand_one (t : Int) (row : List Int) : ivs (isort (stand t row 1)) = [.int 0] := by
  have : stand t row 1 = [pre t row 0] := rfl
  rw [this]
  show ivs [pre t row 0] = _
  have e : pre t row 0 = 0 := by unfold pre; rw [List.take_zero]; rfl
  rw [e]; rfl
theorem walks_ok {P : Params} (X : Txt W (K09 P) tb09) {ar al ah : Addr} {las has : List Addr} {row : List Int} {v : Int} {more : Bool} {Q : V → St → Prop} (hz : row.length ≤ 63) (gr : σ ar = some (.lst (ivs row)))
    (gl : σ al = some (.lst (rf las))) (gh : σ ah = some (.lst (rf has))) (hl : Hs σ las (lowsL row row.length)) (hh : Hs σ has (highsL row row.length))
    (q : ∀ σ', Ext σ σ' → Q (.bool true) σ') : CallOK W (n + 3) (.ref 75) [.ref ar, .int v, .bool more, .ref al, .ref ah] [] [] Q σ := by
  obtain ⟨cs, F⟩ := fn09__law_walks X
  refine F _ (n + 2) Q σ rfl ?_
  simp only [bd09_75_eq, List.cons_append, List.nil_append, undefs]
  refine seq_unp ?_
  simp only [x_tup, x_lst, x_con, l_cons, l_nil]
  refine ⟨by simp; decide, alW_of fun ds σ1 n1 e1 f1 => ⟨by simp; decide, alW_of fun dt σ2 n2 e2 f2 => tup_of f2 ⟨rfl, ?_⟩⟩⟩
  simp only [if_true, List.reverse_cons, List.reverse_nil, List.nil_append, List.cons_append, stsW, stW, setN]
  refine seq_for ?_
  simp only [x_bcall, x_loc, l_cons, l_nil, nth, ne_eq, reduceCtorEq, not_false_eq_true, true_and]
  refine len_of (e2 _ _ (e1 _ _ gr)) rfl (range1_of (by rw [ivs_length]; exact small_nat (by omega)) fun d3 σ3 n3 e3 f3 => ?_)
  rw [ivs_length] at f3
  refine iter_rng f3 ⟨by decide, by decide⟩ (small_nat (by omega)) (.inl rfl) ?_
  have E := (e1.trans e2).trans e3
  have old : ∀ {b o}, σ b = some o → b ≠ ds := fun hb => ne_new hb n1
  refine forW_inv (k := 0) (fun i fr σ' => ∃ ve vt, fr = [.ref ar, .int v, .bool more, .ref al, .ref ah, .ref ds, .int (pre (thr v more) row i), ve, vt, .undef, .undef, .undef, .undef, .undef] ∧ Ext σ σ' ∧ σ' ds = some (.lst (ivs (isort (stand (thr v more) row (i + 1)))))) (fun _ _ _ => False)
    ⟨.undef, .undef, ?_, E, ?_⟩ (fun i fr σ' hi hJ => ?_) (fun fr σ' hJ => ?_) (fun _ _ _ h => h.elim)
  · have e : pre (thr v more) row 0 = 0 := by unfold pre; rw [List.take_zero]; rfl
    rw [e]
  · rw [stand_one]; exact e3 _ _ (e2 _ _ f1)
  · obtain ⟨ve, vt, rfl, E', g'⟩ := hJ
    rw [Nat.zero_add] at g' ⊢
    rw [len_range] at hi
    refine ⟨trivial, fun Q' hQ' _ => ?_⟩
    rw [nth_map_range hi]
    simp only [tgW, stW, setN]
    obtain ⟨dl, B1, a1, a2, a3⟩ := hl.get i (by unfold lowsL; simpa using hi)
    obtain ⟨dh, B2, b1, b2, b3⟩ := hh.get i (by unfold highsL; simpa using hi)
    rw [lowsL_get hi] at a2; cases a2
    rw [highsL_get hi] at b2; cases b2
    refine wk_step X hi hz (E' _ _ gr) (E' _ _ gl) (E' _ _ gh) a1 b1 (E' _ _ a3) (E' _ _ b3) g' fun vt => hQ' _ _ ⟨_, _, rfl, fun b o hb => ?_, ?_⟩
    · rw [St.set_other _ _ (old hb)]; exact E' b o hb
    · rw [St.set_same]
  · obtain ⟨ve, vt, rfl, E', g'⟩ := hJ
    exact ⟨trivial, seq_ret (q σ' E')⟩

theorem eqL_refs {d : Nat} {as bs : List Addr} {R : List (List Int)} (h : Hs σ as R) : Hs σ bs R → (∀ a ∈ as, ∀ b ∈ bs, a ≠ b) → eqL (eqB σ (d + 1)) (rf as) (rf bs) = some true := by
  induction h generalizing bs with
  | nil => intro k _; cases k; rfl
  | cons h1 h2 ih =>
    rename_i a B as R
    intro k hne
    cases k with
    | cons k1 k2 =>
      rename_i b bs
      have ih := ih k2 fun x hx y hy => hne x (by simp [hx]) y (by simp [hy])
      have e := eqB_ints (d := d) h1 k1 rfl rfl (hne a (by simp) b (by simp))
      show (eqB σ (d + 1) (.ref a) (.ref b)).bind (fun x => (eqL (eqB σ (d + 1)) (rf as) (rf bs)).map fun c => x && c) = _
      rw [e, ih, decide_eq_true rfl]; rfl
theorem ne_refs {a b : Addr} {as bs : List Addr} {R : List (List Int)} {Q : Bool → St → Prop} (h : σ a = some (.lst (rf as))) (h' : σ b = some (.lst (rf bs))) (hab : a ≠ b) (h1 : Hs σ as R) (h2 : Hs σ bs R) (hne : ∀ x ∈ as, ∀ y ∈ bs, x ≠ y) (q : Q false σ) : cmpW .NotEq (.ref a) (.ref b) σ Q := by
  show eqW _ _ _ _
  unfold eqW
  have e : eqB σ 3 (.ref a) (.ref b) = some true := by
    show (if a = b then none else ((σ a).bind O.litems).bind fun xs => ((σ b).bind O.litems).bind fun ys => if xs.length = ys.length then eqL (eqB σ 2) xs ys else some false) = _
    rw [if_neg hab, h, h']
    show (if (rf as).length = (rf bs).length then eqL (eqB σ 2) (rf as) (rf bs) else some false) = _
    rw [rf_len, rf_len, h1.len, h2.len, if_pos rfl]
    exact eqL_refs h1 h2 hne
  rw [e]
  exact q

noncomputable def winX : X := (.comp 4 [15, 15, 5, 2] (.bcall .range (.cons (.bin .Add (.cel 5) (.con (.int (1)))) .nil)) 1 (.con (.bool true)) (.sl (.cel 3) (.loc 1) (.bin .Add (.cel 2) (.con (.int (1)))) (.con .none)))
noncomputable def wins (row : List Int) (e k : Nat) : List (List Int) := (List.range k).map fun s => win row s e
theorem wins_succ (row : List Int) (e k : Nat) : wins row e (k + 1) = wins row e k ++ [win row k e] := by unfold wins; rw [List.range_succ, List.map_append]; rfl
abbrev cs9 (c2 c5 : Addr) : List Addr := [0, 0, c2, 0, 0, c5, 0, 0, 0, 0, 0, 0, 0, 0, 0]
theorem win_ok {c2 c5 dr : Addr} {row : List Int} {e : Nat} {fr : List V} {Q : V → St → Prop} (h2 : σ c2 = some (.cell (.ref dr))) (hr : σ dr = some (.lst (ivs row))) (h5 : σ c5 = some (.cell (.int (e : Nat)))) (hz : e < 63)
    (q : ∀ d was σ', σ d = none → Ext σ σ' → σ' d = some (.lst (rf was)) → Hs σ' was (wins row e (e + 1)) → (∀ a ∈ was, σ a = none) → Q (.ref d) σ') : xW W n winX (cs9 c2 c5) fr σ Q := by
  unfold winX
  rw [x_comp, x_bcall, l_cons, x_bin]
  refine cel_of h5 nofun ?_
  have ee : ((e : Nat) : Int) + 1 = ((e + 1 : Nat) : Int) := by omega
  simp only [x_con, b_add, l_nil, ee]
  refine range1_of (small_nat (by omega)) fun d1 σ1 n1 e1 f1 => ?_
  refine iter_rng f1 ⟨by decide, by decide⟩ (small_nat (by omega)) (.inl rfl) ⟨by rw [len_range]; unfold lim; omega, ?_⟩
  refine compW_inv (k := 0) (fun i acc σ' => Ext σ σ' ∧ ∃ was, acc = rf was ∧ Hs σ' was (wins row e i) ∧ ∀ a ∈ was, σ a = none) ⟨e1, [], rfl, .nil, fun a ha => by cases ha⟩ (fun i acc σ' hi hJ => ?_) (fun acc σ' hJ => ?_)
  · obtain ⟨E, was, rfl, H, hn⟩ := hJ
    rw [len_range] at hi
    refine ⟨trivial, fun Q' hQ' => ?_⟩
    rw [nth_map_range hi]
    show xW _ _ _ _ _ _ _
    simp only [undefs, setN, List.map, nthA, cs9]
    rw [x_sl]
    refine cel_of (E _ _ h2) nofun ?_
    simp only [x_loc, nth, ne_eq, reduceCtorEq, not_false_eq_true, true_and]
    rw [x_bin]
    refine cel_of (E _ _ h5) nofun ?_
    simp only [x_con, b_add, ee]
    refine slice_of (pI _) (pI _) (E _ _ hr) rfl fun d2 σ2 n2 e2 f2 => ?_
    rw [pick_nat, ivs_drop, ivs_take] at f2
    refine hQ' _ _ ⟨E.trans e2, was ++ [d2], by rw [rf_snoc]; rfl, ?_, fun a ha => ?_⟩
    · rw [Nat.zero_add, wins_succ]
      rw [Nat.zero_add] at H
      exact (H.ext fun a _ o h => e2 a o h).snoc f2
    · rcases List.mem_append.mp ha with h | h
      · exact hn a h
      · simp at h; subst h; exact E.none n2
  · obtain ⟨E, was, rfl, H, hn⟩ := hJ
    rw [len_range, Nat.zero_add] at H
    exact ⟨trivial, alW_of fun d σ2 n2 e2 f2 => q d was σ2 (E.none n2) (E.trans e2) f2 (H.ext fun a _ o h => e2 a o h) hn⟩
/-- the medians of the windows, low or high -/
theorem meds_ok {P : Params} (X : Txt W (K09 P) tb09) {f sz : Nat} {cm : List Nat} {aw : Addr} {was : List Addr} {row : List Int} {e : Nat} {fr : List V} {Q : V → St → Prop} {g : List Int → Int} (hf : (f = 34 ∧ g = medLow) ∨ (f = 41 ∧ g = medHigh)) (hs2 : 2 ≤ sz)
    (he : e < row.length) (hz : row.length ≤ 63) (h6 : nth fr 6 = .ref aw) (gw : σ aw = some (.lst (rf was))) (H : Hs σ was (wins row e (e + 1)))
    (q : ∀ d σ', σ d = none → Ext σ σ' → σ' d = some (.lst (ivs ((List.range (e + 1)).map fun s => g (win row s e)))) → Q (.ref d) σ') : xW W (n + 1) (.comp sz cm (.loc 6) 1 (.con (.bool true)) (.call (.con (.ref f)) (.cons (.loc 1) .nil) [] .nil)) cs fr σ Q := by
  rw [x_comp, x_loc, h6]
  refine ⟨nofun, iter_lst gw ⟨by rw [rf_len, H.len]; simp [wins]; unfold lim; omega, ?_⟩⟩
  have hwl : (rf was).length = e + 1 := by rw [rf_len, H.len]; simp [wins]
  refine compW_inv (k := 0) (fun i acc σ' => Ext σ σ' ∧ acc = ivs ((List.range i).map fun s => g (win row s e))) ⟨Ext.refl _, rfl⟩ (fun i acc σ' hi hJ => ?_) (fun acc σ' hJ => ?_)
  · obtain ⟨E, rfl⟩ := hJ
    rw [hwl] at hi
    refine ⟨E _ _ gw, fun Q' hQ' => ?_⟩
    obtain ⟨a, B, a1, a2, a3⟩ := H.get i (by simpa [wins] using hi)
    have hB : B = win row i e := by
      unfold wins at a2; rw [List.getElem?_map, List.getElem?_range hi] at a2; cases a2; rfl
    subst hB
    rw [nth_rf a1]
    show xW _ _ _ _ _ _ _
    have hfr : nth (setN (undefs sz) 1 (.ref a)) 1 = .ref a := by
      match sz, hs2 with
      | k + 2, _ => rfl
    rw [x_call, x_con, l_cons, x_loc, hfr]
    refine ⟨nofun, ?_⟩
    rw [l_nil, l_nil]
    have hwn := win_ne (row := row) (s := i) (e := e) (by omega) he
    have hwz : (win row i e).length < 64 := by unfold win; simp; omega
    have fin : ∀ σ'', Ext σ' σ'' → Q' (some (.int (g (win row i e)))) σ'' := fun σ'' E2 => hQ' _ _ ⟨E.trans E2, by rw [Nat.zero_add, List.range_succ, List.map_append, ← ivs_append]; rfl⟩
    rcases hf with ⟨rfl, rfl⟩ | ⟨rfl, rfl⟩
    · exact median_low_ok (fn09_median_low X) (E _ _ a3) rfl hwn hwz fin
    · exact median_high_ok (fn09_median_high X) (E _ _ a3) rfl hwn hwz fin
  · obtain ⟨E, rfl⟩ := hJ
    rw [hwl, Nat.zero_add]
    exact ⟨E _ _ gw, alW_of fun d σ2 n2 e2 f2 => q d σ2 (E.none n2) (E.trans e2) f2⟩
end Mine

end
section -- L09c
namespace Mine
variable {W : Wd} {n : Nat} {σ : St} {cs : List Addr}

noncomputable def typX : X := (.cmp .NotEq (.comp 4 [15, 15, 15, 15] (.bin .Add (.sub (.loc 3) (.neg (.con (.int (1))))) (.sub (.loc 4) (.neg (.con (.int (1)))))) 1 (.cmp .IsNot (.bcall .type (.cons (.loc 1) .nil)) (.con (.typ "int"))) (.loc 1)) (.lst .nil))
noncomputable def endBody : S := (.seq (.set (.l 6) winX)
 (.seq (.exp (.meth .append (.loc 3) (.cons (.bcall .sorted (.cons (.comp 3 [15, 15, 9] (.loc 6) 1 (.con (.bool true)) (.call (.con (.ref 34)) (.cons (.loc 1) .nil) [] .nil)) .nil)) .nil)))
 (.seq (.exp (.meth .append (.loc 4) (.cons (.bcall .sorted (.cons (.comp 3 [15, 15, 10] (.loc 6) 1 (.con (.bool true)) (.call (.con (.ref 41)) (.cons (.loc 1) .nil) [] .nil)) .nil)) .nil)))
 (.seq (.ite typX (.seq (.ret (.con (.bool false))) .skip) .skip)
 (.seq (.ite (.cmp .NotEq (.loc 6) winX) (.seq (.ret (.con (.bool false))) .skip) .skip) .skip)))))
noncomputable def vBody : S := (.seq (.ite (.or (.not (.call (.con (.ref 75)) (.cons (.cel 2) (.cons (.loc 7) (.cons (.con (.bool false)) (.cons (.loc 3) (.cons (.loc 4) .nil))))) [] .nil)) (.not (.call (.con (.ref 75)) (.cons (.cel 2) (.cons (.loc 7) (.cons (.con (.bool true)) (.cons (.loc 3) (.cons (.loc 4) .nil))))) [] .nil))) (.seq (.ret (.con (.bool false)))
 .skip) .skip) .skip)
noncomputable def oneRow : S := (.seq (.unp true [(.l 3), (.l 4)] (.tup (.cons (.lst .nil) (.cons (.lst .nil) .nil))))
 (.seq (.for_ (.one (.c 5)) (.bcall .range (.cons (.bcall .len (.cons (.cel 2) .nil)) .nil)) endBody)
 (.seq (.for_ (.one (.l 7)) (.cel 2) vBody) .skip)))
theorem bd09_87_eq : bd09_87 = (.seq (.set (.l 0) (.sl (.loc 0) (.con .none) (.con (.int (12))) (.con .none)))
 (.seq (.ite (.cmp .NotEq (.lst (.cons (.call (.con (.ref 82)) (.cons (.con (.ref 34)) .nil) [] .nil) (.cons (.call (.con (.ref 82)) (.cons (.con (.ref 41)) .nil) [] .nil) .nil))) (.bin .Mult (.lst (.cons (.con (.str "no median for empty data")) .nil)) (.con (.int (2))))) (.seq (.ret (.con (.bool false))) .skip) .skip)
 (.seq (.set (.l 1) (.bin .Add (.loc 0) (.lst (.cons (.bcall .len (.cons (.loc 0) .nil)) .nil))))
 (.seq (.for_ (.one (.c 2)) (.tup (.cons (.loc 1) (.cons (.comp 2 [15, 15] (.loc 1) 1 (.con (.bool true)) (.bin .Mod (.loc 1) (.con (.int (5))))) .nil))) oneRow)
 (.seq (.ret (.con (.bool true))) .skip))))) := rfl

theorem typeOfV_int {i : Int} {K : String → Prop} : typeOfV (.int i) σ K = K "int" := rfl
/-- what stands while the windows of a row are told -/
structure RI (σ0 σ : St) (c5 dl dh : Addr) (row : List Int) (e : Nat) (las has : List Addr) : Prop where
  old : ∀ b o, b ≠ c5 → σ0 b = some o → σ b = some o
  c5 : ∃ v, σ c5 = some (.cell v)
  l : σ dl = some (.lst (rf las))
  lH : Hs σ las (lowsL row e)
  h : σ dh = some (.lst (rf has))
  hH : Hs σ has (highsL row e)
  ne : ∀ a, a ∈ las ∨ a ∈ has → a ≠ dl ∧ a ≠ dh
  nl : σ0 dl = none
  nh : σ0 dh = none
  d : dl ≠ dh
theorem RI.more {σ0 σ' : St} {c5 dl dh : Addr} {row : List Int} {e : Nat} {las has : List Addr} (r : RI σ0 σ c5 dl dh row e las has) (E : Ext σ σ') : RI σ0 σ' c5 dl dh row e las has :=
  ⟨fun b o hb h => E _ _ (r.old b o hb h), r.c5.elim fun v hv => ⟨v, E _ _ hv⟩, E _ _ r.l, r.lH.ext fun a _ o h => E a o h, E _ _ r.h, r.hH.ext fun a _ o h => E a o h, r.ne, r.nl, r.nh, r.d⟩
theorem typ_ok {dl dh : Addr} {as bs : List Addr} {a b : Addr} {xs ys : List Int} {v0 v1 v2 : V} {tl : List V} {Q : Bool → St → Prop} (gl : σ dl = some (.lst (rf (as ++ [a])))) (gh : σ dh = some (.lst (rf (bs ++ [b])))) (ga : σ a = some (.lst (ivs xs))) (gb : σ b = some (.lst (ivs ys))) (hz : xs.length + ys.length ≤ 1000)
    (q : ∀ σ', Ext σ σ' → Q false σ') : tW W n typX cs (v0 :: v1 :: v2 :: .ref dl :: .ref dh :: tl) σ Q := by
  unfold typX
  rw [t_cmp, x_comp, x_bin, x_sub]
  simp only [x_loc, x_neg, x_con, nth, ne_eq, reduceCtorEq, not_false_eq_true, true_and]
  rw [rf_snoc] at gl gh
  refine sub_1 gl ?_
  rw [x_sub]
  simp only [x_loc, x_neg, x_con, nth, ne_eq, reduceCtorEq, not_false_eq_true, true_and]
  refine sub_1 gh (add_ints ga rfl gb rfl (by unfold lim; omega) fun d1 σ1 n1 e1 f1 => ?_)
  refine iter_lst f1 ⟨by rw [ivs_length, List.length_append]; unfold lim; omega, ?_⟩
  refine compW_inv (k := 0) (fun i acc σ' => σ' = σ1 ∧ acc = []) ⟨rfl, rfl⟩ (fun i acc σ' hi hJ => ?_) (fun acc σ' hJ => ?_)
  · obtain ⟨rfl, rfl⟩ := hJ
    rw [ivs_length] at hi
    refine ⟨f1, fun Q' hQ' => ?_⟩
    rw [nth_ivs hi]
    simp only [undefs, setN, t_cmp, x_bcall, l_cons, l_nil, x_loc, x_con, nth, ne_eq, reduceCtorEq, not_false_eq_true, true_and, f_type]
    rw [typeOfV_int, c_ty]
    have e : ("int" != "int") = false := by decide
    rw [e, if_neg Bool.false_ne_true]
    exact hQ' none _ ⟨rfl, rfl⟩
  · obtain ⟨rfl, rfl⟩ := hJ
    refine ⟨f1, alW_of fun d2 σ2 n2 e2 f2 => ?_⟩
    rw [x_lst, l_nil]
    refine ⟨by simp, alW_of fun d3 σ3 n3 e3 f3 => ?_⟩
    refine ne_ints (xs := []) (ys := []) (e3 _ _ f2) f3 rfl rfl (ne_new f2 n3) ?_
    exact q σ3 ((e1.trans e2).trans e3)
theorem end_step {P : Params} (X : Txt W (K09 P) tb09) {σ0 : St} {c2 c5 dr dl dh : Addr} {row : List Int} {e : Nat} {las has : List Addr} {v0 v1 v6 v7 : V} {tl : List V} {Q : Fl → St → List V → Prop} (he : e < row.length) (hz : row.length ≤ 13) (r : RI σ0 σ c5 dl dh row e las has)
    (h2 : σ c2 = some (.cell (.ref dr))) (hr : σ dr = some (.lst (ivs row))) (h5 : σ c5 = some (.cell (.int (e : Nat))))
    (q : ∀ σ' v6 las has, RI σ0 σ' c5 dl dh row (e + 1) las has → Q .next σ' (v0 :: v1 :: .undef :: .ref dl :: .ref dh :: .undef :: v6 :: v7 :: tl)) :
    sW W (n + 2) endBody (cs9 c2 c5) (v0 :: v1 :: .undef :: .ref dl :: .ref dh :: .undef :: v6 :: v7 :: tl) σ Q := by
  unfold endBody
  refine seq_set (win_ok h2 hr h5 (by omega) fun aw was σ1 n1 e1 gw Hw hnw => ?_)
  have r1 := r.more e1
  simp only [stW, setN]
  -- lows
  refine seq_exp ?_
  rw [x_meth, x_loc]
  refine ⟨nofun, mlist_of r1.l ?_⟩
  rw [l_cons, x_bcall, l_cons]
  refine meds_ok (n := n + 1) (g := medLow) X (.inl ⟨rfl, rfl⟩) (by decide) he (by omega) rfl gw Hw fun d2 σ2 n2 e2 f2 => ?_
  rw [l_nil]
  refine sorted_of f2 rfl (by simp; omega) fun d3 σ3 n3 e3 f3 => ?_
  rw [l_nil]
  have r3 := r1.more (e2.trans e3)
  have hll := r3.lH.len
  have hhl := r3.hH.len
  simp only [lowsL, highsL, List.length_map, List.length_range] at hll hhl
  refine append_of r3.l (by rw [rf_len]; unfold lim; omega) ?_
  have hd3l : d3 ≠ dl := fun q => by rw [q, (r1.more e2).l] at n3; cases n3
  have hd3h : d3 ≠ dh := fun q => by rw [q, (r1.more e2).h] at n3; cases n3
  -- the store with lows grown
  have hcd : ∀ {b : Addr} {o : O}, σ3 b = some o → b ≠ dl → (σ3.set dl (.lst (rf las ++ [.ref d3]))) b = some o := fun hb hne => by rw [St.set_other _ _ hne]; exact hb
  have gl4 := St.set_same σ3 dl (.lst (rf las ++ [.ref d3]))
  have gw3 := (e2.trans e3) _ _ gw
  have hwl : aw ≠ dl := fun q => by rw [q, r.l] at n1; cases n1
  have hwh : aw ≠ dh := fun q => by rw [q, r.h] at n1; cases n1
  have hwas : ∀ a ∈ was, a ≠ dl ∧ a ≠ dh := fun a ha => by
    have h0 := hnw a ha
    exact ⟨(fun q => by rw [q, r.l] at h0; cases h0), (fun q => by rw [q, r.h] at h0; cases h0)⟩
  have Hw3 := Hw.ext fun a _ o h => (e2.trans e3) a o h
  have old4 : ∀ b o, σ3 b = some o → b ≠ dl → (σ3.set dl (.lst (rf las ++ [.ref d3]))) b = some o := fun b o => hcd
  generalize σ3.set dl (.lst (rf las ++ [.ref d3])) = σ4 at hcd gl4 old4
  have gh4 : σ4 dh = some (.lst (rf has)) := old4 _ _ r3.h r3.d.symm
  have gw4 : σ4 aw = some (.lst (rf was)) := old4 _ _ gw3 hwl
  have Hw4 : Hs σ4 was (wins row e (e + 1)) := Hw3.ext fun a ha o h => old4 a o h (hwas a ha).1
  -- highs
  refine seq_exp ?_
  rw [x_meth, x_loc]
  refine ⟨nofun, mlist_of gh4 ?_⟩
  rw [l_cons, x_bcall, l_cons]
  refine meds_ok (n := n + 1) (g := medHigh) X (.inr ⟨rfl, rfl⟩) (by decide) he (by omega) rfl gw4 Hw4 fun d5 σ5 n5 e5 f5 => ?_
  rw [l_nil]
  refine sorted_of f5 rfl (by simp; omega) fun d6 σ6 n6 e6 f6 => ?_
  rw [l_nil]
  have E6 := e5.trans e6
  refine append_of (E6 _ _ gh4) (by rw [rf_len]; unfold lim; omega) ?_
  have hd6l : d6 ≠ dl := fun q => by rw [q, e5 _ _ gl4] at n6; cases n6
  have hd6h : d6 ≠ dh := fun q => by rw [q, e5 _ _ gh4] at n6; cases n6
  have old7 : ∀ b o, σ6 b = some o → b ≠ dh → (σ6.set dh (.lst (rf has ++ [.ref d6]))) b = some o := fun b o hb hne => by rw [St.set_other _ _ hne]; exact hb
  have gh7 := St.set_same σ6 dh (.lst (rf has ++ [.ref d6]))
  generalize σ6.set dh (.lst (rf has ++ [.ref d6])) = σ7 at old7 gh7
  have up : ∀ b o, σ3 b = some o → b ≠ dl → b ≠ dh → σ7 b = some o := fun b o hb h1 h2 => old7 _ _ (E6 _ _ (old4 _ _ hb h1)) h2
  have r7 : RI σ0 σ7 c5 dl dh row (e + 1) (las ++ [d3]) (has ++ [d6]) := by
    refine ⟨fun b o hb h => ?_, ?_, ?_, ?_, ?_, ?_, ?_, r.nl, r.nh, r.d⟩
    · exact up b o (r3.old b o hb h) (fun q => by rw [q, r.nl] at h; cases h) (fun q => by rw [q, r.nh] at h; cases h)
    · obtain ⟨v, hv⟩ := r3.c5
      exact ⟨v, up _ _ hv (fun q => by rw [q, r3.l] at hv; cases hv) (fun q => by rw [q, r3.h] at hv; cases hv)⟩
    · rw [rf_snoc]; exact old7 _ _ (E6 _ _ gl4) r.d
    · rw [lowsL_succ]
      exact (r3.lH.ext fun a ha o h => up a o h (r.ne a (.inl ha)).1 (r.ne a (.inl ha)).2).snoc (up _ _ f3 hd3l hd3h)
    · rw [rf_snoc]; exact gh7
    · rw [highsL_succ]
      exact (r3.hH.ext fun a ha o h => up a o h (r.ne a (.inr ha)).1 (r.ne a (.inr ha)).2).snoc (old7 _ _ f6 hd6h)
    · intro a ha
      rcases ha with ha | ha
      · rcases List.mem_append.mp ha with h | h
        · exact r.ne a (.inl h)
        · simp at h; subst h; exact ⟨hd3l, hd3h⟩
      · rcases List.mem_append.mp ha with h | h
        · exact r.ne a (.inr h)
        · simp at h; subst h; exact ⟨hd6l, hd6h⟩
  have gw7 : σ7 aw = some (.lst (rf was)) := up _ _ gw3 hwl hwh
  have Hw7 : Hs σ7 was (wins row e (e + 1)) := Hw3.ext fun a ha o h => up a o h (hwas a ha).1 (hwas a ha).2
  have hc2l : ∀ {b : Addr} {u : V}, σ3 b = some (.cell u) → σ7 b = some (.cell u) := fun hb => up _ _ hb (fun q => by rw [q, r3.l] at hb; cases hb) (fun q => by rw [q, r3.h] at hb; cases hb)
  have E13 := (e1.trans e2).trans e3
  have c27 : σ7 c2 = some (.cell (.ref dr)) := hc2l (E13 _ _ h2)
  have c57 : σ7 c5 = some (.cell (.int (e : Nat))) := hc2l (E13 _ _ h5)
  -- types
  refine seq_ite ?_
  refine typ_ok r7.l r7.h (up _ _ f3 hd3l hd3h) (old7 _ _ f6 hd6h) (by simp [isort_length]; omega) fun σ8 e8 => ?_
  rw [if_neg Bool.false_ne_true]
  refine seq_skip (seq_ite ?_)
  rw [t_cmp, x_loc]
  refine ⟨nofun, ?_⟩
  have hdr : σ7 dr = some (.lst (ivs row)) := by
    by_cases q1 : dr = dl
    · exfalso
      have hr' := hr; rw [q1, r.l] at hr'
      have hlen : las.length = row.length := by have := congrArg (fun o => (match o with | some (.lst xs) => xs.length | _ => 0)) hr'; simpa [rf_len, ivs_length] using this
      have := r.lH.len
      simp only [lowsL, List.length_map, List.length_range] at this
      omega
    · by_cases q2 : dr = dh
      · exfalso
        have hr' := hr; rw [q2, r.h] at hr'
        have hlen : has.length = row.length := by have := congrArg (fun o => (match o with | some (.lst xs) => xs.length | _ => 0)) hr'; simpa [rf_len, ivs_length] using this
        have := r.hH.len
        simp only [highsL, List.length_map, List.length_range] at this
        omega
      · exact up _ _ (E13 _ _ hr) q1 q2
  refine win_ok (e8 _ _ c27) (e8 _ _ hdr) (e8 _ _ c57) (by omega) fun aw' was' σ9 n9 e9 gw9 Hw9 hnw9 => ?_
  have E79 := e8.trans e9
  refine ne_refs (E79 _ _ gw7) gw9 (ne_new (e8 _ _ gw7) n9) (Hw7.ext fun a _ o h => E79 a o h) Hw9 (fun a ha b hb q => ?_) ?_
  · obtain ⟨i, hi, hia⟩ := List.getElem_of_mem ha
    obtain ⟨a', B, h1, h2', h3⟩ := Hw7.get i (by rw [← Hw7.len]; exact hi)
    have hh : a' = a := by rw [List.getElem?_eq_getElem hi] at h1; rw [← hia]; exact (Option.some.inj h1).symm
    have := hnw9 b hb
    rw [← q, ← hh, e8 _ _ h3] at this; cases this
  · rw [if_neg Bool.false_ne_true]
    exact q σ9 _ _ _ (r7.more E79)
end Mine

end
section -- L09d
namespace Mine
variable {W : Wd} {n : Nat} {σ : St} {cs : List Addr}

theorem oneRow_ok {P : Params} (X : Txt W (K09 P) tb09) {c2 c5 dr : Addr} {row : List Int} {v0 v1 v3 v4 v6 v7 : V} {tl : List V} {Q : Fl → St → List V → Prop} (hz : row.length ≤ 13) (k : c2 ≠ c5)
    (h2 : σ c2 = some (.cell (.ref dr))) (hr : σ dr = some (.lst (ivs row))) (h5 : ∃ v, σ c5 = some (.cell v))
    (q : ∀ σ' v3 v4 v6 v7, (∀ b o, b ≠ c5 → σ b = some o → σ' b = some o) → (∃ v, σ' c5 = some (.cell v)) → Q .next σ' (v0 :: v1 :: .undef :: v3 :: v4 :: .undef :: v6 :: v7 :: tl)) :
    sW W (n + 4) oneRow (cs9 c2 c5) (v0 :: v1 :: .undef :: v3 :: v4 :: .undef :: v6 :: v7 :: tl) σ Q := by
  unfold oneRow
  refine seq_unp ?_
  simp only [x_tup, x_lst, l_cons, l_nil]
  refine ⟨by simp, alW_of fun dl σ1 n1 e1 f1 => ⟨by simp, alW_of fun dh σ2 n2 e2 f2 => ⟨by simp; decide, alW_of fun dt σ3 n3 e3 f3 => tup_of f3 ⟨rfl, ?_⟩⟩⟩⟩
  simp only [if_true, List.reverse_cons, List.reverse_nil, List.nil_append, List.cons_append, stsW, stW, setN]
  have E := (e1.trans e2).trans e3
  have hdd : dl ≠ dh := ne_new f1 n2
  obtain ⟨v5, h5⟩ := h5
  have r0 : RI σ σ3 c5 dl dh row 0 [] [] := ⟨fun b o _ h => E b o h, ⟨v5, E _ _ h5⟩, e3 _ _ (e2 _ _ f1), .nil, e3 _ _ f2, .nil, (fun a ha => by rcases ha with h | h <;> cases h), n1, e1.none n2, hdd⟩
  have hdr5 : dr ≠ c5 := fun e => by rw [e, h5] at hr; cases hr
  refine seq_for ?_
  rw [x_bcall, l_cons, x_bcall, l_cons]
  refine cel_of (E _ _ h2) nofun ?_
  simp only [l_nil]
  refine len_of (E _ _ hr) rfl (range1_of (by rw [ivs_length]; exact small_nat (by omega)) fun d4 σ4 n4 e4 f4 => ?_)
  rw [ivs_length] at f4
  refine iter_rng f4 ⟨by decide, by decide⟩ (small_nat (by omega)) (.inl rfl) ?_
  refine forW_inv (k := 0) (fun i fr σ' => ∃ v6 las has, fr = v0 :: v1 :: .undef :: .ref dl :: .ref dh :: .undef :: v6 :: v7 :: tl ∧ RI σ σ' c5 dl dh row i las has) (fun _ _ _ => False)
    ⟨_, _, _, rfl, r0.more e4⟩ (fun i fr σ' hi hJ => ?_) (fun fr σ' hJ => ?_) (fun _ _ _ h => h.elim)
  · obtain ⟨v6, las, has, rfl, r⟩ := hJ
    rw [Nat.zero_add] at r ⊢
    rw [len_range] at hi
    refine ⟨trivial, fun Q' hQ' _ => ?_⟩
    rw [nth_map_range hi]
    obtain ⟨v5', hv5⟩ := r.c5
    simp only [tgW, stW, nthA, cs9, hv5]
    have hkeep : ∀ {b : Addr} {o : O}, σ' b = some o → b ≠ c5 → (σ'.set c5 (.cell (.int (i : Nat)))) b = some o := fun hb hne => by rw [St.set_other _ _ hne]; exact hb
    have lc : ∀ {b : Addr} {xs : List V}, σ' b = some (.lst xs) → b ≠ c5 := fun hb e => by rw [e, hv5] at hb; cases hb
    have r' : RI σ (σ'.set c5 (.cell (.int (i : Nat)))) c5 dl dh row i las has := by
      refine ⟨fun b o hb h => hkeep (r.old b o hb h) hb, ⟨_, St.set_same _ _ _⟩, hkeep r.l (lc r.l), ?_, hkeep r.h (lc r.h), ?_, r.ne, r.nl, r.nh, r.d⟩
      · have hx := r.lH
        refine r.lH.ext fun a ha o h => hkeep h ?_
        obtain ⟨j, hj, hja⟩ := List.getElem_of_mem ha
        obtain ⟨a', B, h1, _, h3⟩ := hx.get j (by rw [← hx.len]; exact hj)
        rw [List.getElem?_eq_getElem hj, hja] at h1; cases h1
        exact lc h3
      · have hx := r.hH
        refine r.hH.ext fun a ha o h => hkeep h ?_
        obtain ⟨j, hj, hja⟩ := List.getElem_of_mem ha
        obtain ⟨a', B, h1, _, h3⟩ := hx.get j (by rw [← hx.len]; exact hj)
        rw [List.getElem?_eq_getElem hj, hja] at h1; cases h1
        exact lc h3
    refine end_step (n := n + 2) X hi hz r' (hkeep (r.old _ _ k h2) k) (hkeep (r.old _ _ hdr5 hr) hdr5) (St.set_same _ _ _) fun σ'' v6 las has r'' => hQ' _ _ ⟨v6, las, has, rfl, r''⟩
  · obtain ⟨v6, las, has, rfl, r⟩ := hJ
    rw [len_range, Nat.zero_add] at r
    refine ⟨trivial, ?_⟩
    refine seq_for (cel_of (r.old _ _ k h2) nofun ?_)
    refine iter_lst (r.old _ _ hdr5 hr) ?_
    refine forW_inv (k := 0) (fun i fr σ' => ∃ v7, fr = v0 :: v1 :: .undef :: .ref dl :: .ref dh :: .undef :: v6 :: v7 :: tl ∧ RI σ σ' c5 dl dh row row.length las has) (fun _ _ _ => False)
      ⟨_, rfl, r⟩ (fun i fr σ' hi hJ => ?_) (fun fr σ' hJ => ?_) (fun _ _ _ h => h.elim)
    · obtain ⟨v7, rfl, r'⟩ := hJ
      rw [ivs_length] at hi
      refine ⟨r'.old _ _ hdr5 hr, fun Q' hQ' _ => ?_⟩
      rw [nth_ivs hi]
      simp only [tgW, stW, setN]
      show sW _ _ vBody _ _ _ _
      unfold vBody
      refine seq_ite ?_
      rw [t_or, t_not, t_call, x_con, l_cons]
      refine cel_of (r'.old _ _ k h2) nofun ?_
      simp only [l_cons, l_nil, x_loc, x_con, nth, ne_eq, reduceCtorEq, not_false_eq_true, true_and]
      refine walks_ok (n := n + 1) (more := false) X (by omega) (r'.old _ _ hdr5 hr) r'.l r'.h r'.lH r'.hH fun σ5 e5 => ?_
      have r5 := r'.more e5
      simp only [truW_bool, Bool.not_true, Bool.false_eq_true, if_false]
      rw [t_not, t_call, x_con, l_cons]
      refine cel_of (r5.old _ _ k h2) nofun ?_
      simp only [l_cons, l_nil, x_loc, x_con, nth, ne_eq, reduceCtorEq, not_false_eq_true, true_and]
      refine walks_ok (n := n + 1) (more := true) X (by omega) (r5.old _ _ hdr5 hr) r5.l r5.h r5.lH r5.hH fun σ6 e6 => ?_
      simp only [truW_bool, Bool.not_true, Bool.false_eq_true, if_false]
      exact hQ' _ _ ⟨_, rfl, r5.more e6⟩
    · obtain ⟨v7, rfl, r'⟩ := hJ
      exact ⟨r'.old _ _ hdr5 hr, q σ' _ _ _ _ r'.old r'.c5⟩

theorem cells_87 {u : V} {Q : List Addr → St → Prop} (h : ∀ c2, σ c2 = none → ∀ c5, (σ.set c2 (.cell .undef)) c5 = none → Q (cs9 c2 c5) ((σ.set c2 (.cell .undef)).set c5 (.cell .undef))) :
    cellW nm09_87 (parV ((["script"] : List Str).zip [u])) [] σ Q := h
theorem slots_87 {u : V} : slots0 nm09_87 (parV ((["script"] : List Str).zip [u])) = [u, .undef, .undef, .undef, .undef, .undef, .undef, .undef, .undef, .undef, .undef, .undef, .undef, .undef, .undef] := by kernel_rfl
theorem two_same {a b : Addr} {x : Str} {Q : Bool → St → Prop} (h : σ a = some (.lst [.str x, .str x])) (h' : σ b = some (.lst [.str x, .str x])) (hab : a ≠ b) (q : Q false σ) : cmpW .NotEq (.ref a) (.ref b) σ Q := by
  show eqW _ _ _ _
  unfold eqW
  have e : eqB σ 3 (.ref a) (.ref b) = some true := by
    show (if a = b then none else ((σ a).bind O.litems).bind fun xs => ((σ b).bind O.litems).bind fun ys => if xs.length = ys.length then eqL (eqB σ 2) xs ys else some false) = _
    rw [if_neg hab, h, h']
    show ((some (x == x)).bind fun c => (((some (x == x)).bind fun c => ((some true).map fun d => c && d))).map fun d => c && d) = _
    rw [beq_self_eq_true]; rfl
  rw [e]
  exact q
theorem law09 {P : Params} (X : Txt W (K09 P) tb09) {a : Addr} {ns : List Int} (hn : ns.length ≤ 63) : CallOK W 500 (.ref 87) [.ref a] [] [] (fun v _ => v = .bool true) (σ0 a ns) := by
  have ga : σ0 a ns a = some (.ro (ivs ns)) := by simp [σ0]
  generalize σ0 a ns = σ at ga
  refine fn09_law X rfl (cells_87 fun c2 n2 c5 n5 => ?_)
  rw [slots_87, bd09_87_eq]
  have k : c2 ≠ c5 := fun e => by rw [← e, St.set_same] at n5; cases n5
  rw [St.set_other _ _ k.symm] at n5
  have E1 : Ext σ ((σ.set c2 (.cell .undef)).set c5 (.cell .undef)) := ((Ext.refl σ).put n2).put n5
  have g2 : ((σ.set c2 (.cell .undef)).set c5 (.cell .undef)) c2 = some (.cell .undef) := by rw [St.set_other _ _ k, St.set_same]
  have g5 := St.set_same (σ.set c2 (.cell .undef)) c5 (.cell .undef)
  generalize (σ.set c2 (.cell .undef)).set c5 (.cell .undef) = σ1 at E1 g2 g5
  refine seq_set ?_
  simp only [x_sl, x_loc, x_con, nth, ne_eq, reduceCtorEq, not_false_eq_true, true_and]
  refine slice_of (l := none) (h := some 12) pN (pI 12) (E1 _ _ ga) rfl fun d2 σ2 m2 e2 f2 => ?_
  have ep : pick (ivs ns) none (some 12) = ivs (ns.take 12) := by
    have := pick_to (ivs ns) 12
    rw [show ((12 : Nat) : Int) = 12 from rfl] at this
    rw [this, ivs_take]
  rw [ep] at f2
  have hl : (ns.take 12).length ≤ 12 := by rw [List.length_take]; omega
  generalize ns.take 12 = l at f2 hl
  simp only [stW, setN]
  -- the refusals
  refine seq_ite ?_
  rw [t_cmp, x_lst, l_cons, x_call]
  simp only [x_con, l_cons, l_nil]
  refine refusal_ok (n := 497) X (.inl rfl) fun σ3 e3 => ?_
  rw [x_call]
  simp only [x_con, l_cons, l_nil]
  refine refusal_ok (n := 497) X (.inr rfl) fun σ4 e4 => ?_
  refine ⟨by simp; decide, alW_of fun d5 σ5 m5 e5 f5 => ?_⟩
  rw [x_bin, x_lst]
  simp only [x_con, l_cons, l_nil]
  refine ⟨by simp; decide, alW_of fun d6 σ6 m6 e6 f6 => ?_⟩
  rw [b_rep]
  refine mlist_of f6 ⟨by decide, by decide, by simp; decide, alW_of fun d7 σ7 m7 e7 f7 => ?_⟩
  refine two_same (x := noMed) (e7 _ _ (e6 _ _ f5)) f7 (ne_new (e6 _ _ f5) m7) ?_
  rw [if_neg Bool.false_ne_true]
  have E7 := ((((e2.trans e3).trans e4).trans e5).trans e6).trans e7
  have f27 := (((((e3.trans e4).trans e5).trans e6).trans e7)) _ _ f2
  refine seq_skip (seq_set ?_)
  rw [x_bin, x_loc]
  refine ⟨nofun, ?_⟩
  rw [x_lst, l_cons, x_bcall]
  simp only [x_loc, l_cons, l_nil, nth, ne_eq, reduceCtorEq, not_false_eq_true, true_and]
  refine len_of f27 rfl ⟨by simp; decide, alW_of fun d8 σ8 m8 e8 f8 => ?_⟩
  rw [ivs_length] at f8
  refine add_ints (ys := [(l.length : Int)]) (e8 _ _ f27) rfl f8 rfl (by simp; unfold lim; omega) fun d9 σ9 m9 e9 f9 => ?_
  simp only [stW, setN]
  have hrl : (l ++ [(l.length : Int)]).length ≤ 13 := by simp; omega
  generalize l ++ [(l.length : Int)] = row at f9 hrl
  have E9 := (E7.trans e8).trans e9
  -- the two rows
  refine seq_for ?_
  rw [x_tup, l_cons, x_loc]
  refine ⟨nofun, ?_⟩
  rw [l_cons, x_comp, x_loc]
  refine ⟨nofun, iter_lst f9 ⟨by rw [ivs_length]; unfold lim; omega, ?_⟩⟩
  refine compW_inv (k := 0) (fun i acc σ' => σ' = σ9 ∧ acc = ivs ((row.map fun x => x.fmod 5).take i)) ⟨rfl, rfl⟩ (fun i acc σ' hi hJ => ?_) (fun acc σ' hJ => ?_)
  · obtain ⟨rfl, rfl⟩ := hJ
    rw [ivs_length] at hi
    refine ⟨f9, fun Q' hQ' => ?_⟩
    rw [nth_ivs hi]
    show xW _ _ _ _ _ _ _
    simp only [undefs, setN, x_bin, x_loc, x_con, nth, ne_eq, reduceCtorEq, not_false_eq_true, true_and, b_mod]
    refine ⟨by decide, hQ' _ _ ⟨rfl, ?_⟩⟩
    have hi' : i < (row.map fun x => x.fmod 5).length := by simpa using hi
    rw [Nat.zero_add, take_succ hi', ← ivs_append]
    congr 1
    have e : (row.map fun x => x.fmod 5).getD i 0 = (row.getD i 0).fmod 5 := by
      simp only [List.getD_eq_getElem?_getD, List.getElem?_map, List.getElem?_eq_getElem hi, Option.map_some, Option.getD_some]
    rw [e]; rfl
  obtain ⟨rfl, rfl⟩ := hJ
  rw [ivs_length, Nat.zero_add, List.take_of_length_le (by simp)]
  refine ⟨f9, alW_of fun d10 σ10 m10 e10 f10 => ?_⟩
  rw [l_nil]
  refine ⟨by simp; decide, alW_of fun d11 σ11 m11 e11 f11 => iter_tup f11 ?_⟩
  have E11 := (E9.trans e10).trans e11
  have c2' := E11 _ _ g2
  have c5' := E11 _ _ g5
  refine ⟨trivial, ?_⟩
  simp only [tgW, stW, nthA, cs9, c2', nth]
  have r1 : (σ11.set c2 (.cell (.ref d9))) d9 = some (.lst (ivs row)) := by
    have := e11 _ _ (e10 _ _ f9)
    rw [St.set_other _ _ (fun e => by rw [e, c2'] at this; cases this)]; exact this
  have r2 : (σ11.set c2 (.cell (.ref d9))) d10 = some (.lst (ivs (row.map fun x => x.fmod 5))) := by
    have := e11 _ _ f10
    rw [St.set_other _ _ (fun e => by rw [e, c2'] at this; cases this)]; exact this
  have r5 : (σ11.set c2 (.cell (.ref d9))) c5 = some (.cell .undef) := by rw [St.set_other _ _ k.symm]; exact c5'
  have r0 := St.set_same σ11 c2 (.cell (.ref d9))
  generalize σ11.set c2 (.cell (.ref d9)) = σ12 at r1 r2 r5 r0
  refine oneRow_ok (n := 495) X hrl k r0 r1 ⟨_, r5⟩ fun σ13 w3 w4 w6 w7 o13 h13 => ?_
  have c2'' : σ13 c2 = some (.cell (.ref d9)) := o13 _ _ k r0
  refine ⟨trivial, ?_⟩
  simp only [tgW, stW, nthA, cs9, c2'']
  have hd10 : d10 ≠ c5 := fun e => by rw [e, r5] at r2; cases r2
  have s2 : (σ13.set c2 (.cell (.ref d10))) d10 = some (.lst (ivs (row.map fun x => x.fmod 5))) := by
    have := o13 _ _ hd10 r2
    rw [St.set_other _ _ (fun e => by rw [e, c2''] at this; cases this)]; exact this
  obtain ⟨v13, h13⟩ := h13
  have s5 : (σ13.set c2 (.cell (.ref d10))) c5 = some (.cell v13) := by rw [St.set_other _ _ k.symm]; exact h13
  have s0 := St.set_same σ13 c2 (.cell (.ref d10))
  generalize σ13.set c2 (.cell (.ref d10)) = σ14 at s2 s5 s0
  refine oneRow_ok (n := 495) X (by simpa using hrl) k s0 s2 ⟨_, s5⟩ fun σ15 w3 w4 w6 w7 o15 h15 => ?_
  refine ⟨trivial, seq_ret ?_⟩
  rfl
end Mine

end
namespace Mine
theorem head09 (h : ∀ (W : Wd) (P : Params), Txt W (K09 P) tb09 → ∀ (a : Addr) (ns : List Int), ns.length ≤ 63 → CallOK W 500 (.ref 87) [.ref a] [] [] (fun v _ => v = .bool true) (σ0 a ns)) : PySem.Challenge.rw_dn0040_09.Holds := hd09 (by
  w_strict (
  k_fill
  intro w s₀ s₁ mg mb G Y fa o pm cd doc dV kV ho hd hcd hD hmg hg args vals as hpre hlay hrd hwl hlo
  have KX := kIn_of Y
  refine Ground.open G ?_
  intro T B D TE TW
  clear D
  have hfa : mg "law" = some (.ref fa) := hmg
  have e0 := (mg_of KX T.g (show nsIn (hd09.heap_39 w.params) mainGlobals "law" = some (some (.ref 87)) from by kernel_rfl)).symm.trans hfa
  cases e0
  clear ho hd hcd hD hmg hfa
  wrow_args hpre hlay hrd hwl hlo
  refine lawEnds (by assumption) (by assumption) (by omega) hg (raisesW_false ?h1) ?h2 ?_
  case h1 => wrow_none_raised
  case h2 => first | wrow_post | kc_post
  exact h _ w.params ⟨KX, glOK_of KX T.g T.b T.builtins (gl09 _), T.nolimit⟩ _ _ (by omega)))
end Mine
theorem PySem.Challenge.cw_dn0040_09_holds : PySem.Challenge.rw_dn0040_09.Holds :=
  Mine.head09 fun _ _ X _ _ h => Mine.law09 X h
