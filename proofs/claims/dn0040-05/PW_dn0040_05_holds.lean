import PyProof.Rows.All
import Wide.All
import OpenK.AllK
import Wide.FinOn
import PySem.Challenge.RW_dn0040_05
open PySem PySem.W PyProof.Rows
set_option Elab.async false
set_option linter.all false
set_option maxRecDepth 100000
set_option maxHeartbeats 8000000
set_option bootstrap.genMatcherCode false
set_option genSizeOf false
section -- F1
namespace Mine

/-- values without their tokens -/
inductive V where
  | undef | none | bool (b : Bool) | int (i : Int) | flt (b : UInt64) | str (s : Str) | typ (n : String) | bi (id : String) | ref (a : Addr)

noncomputable def ab : Value → V
  | .none => .none
  | .bool b => .bool b
  | .int i _ => .int i
  | .float b _ => .flt b
  | .str s _ => .str s
  | .type n => .typ n
  | .builtin i => .bi i
  | .ref a => .ref a
  | _ => .undef

theorem ab_int {v : Value} {i : Int} (h : ab v = .int i) : ∃ t, v = .int i t := by
  cases v <;> simp [ab] at h; subst h; exact ⟨_, rfl⟩
theorem ab_bool {v : Value} {b : Bool} (h : ab v = .bool b) : v = .bool b := by
  cases v <;> simp [ab] at h; subst h; rfl
theorem ab_ref {v : Value} {a : Addr} (h : ab v = .ref a) : v = .ref a := by
  cases v <;> simp [ab] at h; subst h; rfl
theorem ab_bi {v : Value} {a : String} (h : ab v = .bi a) : v = .builtin a := by
  cases v <;> simp [ab] at h; subst h; rfl
theorem ab_typ {v : Value} {a : String} (h : ab v = .typ a) : v = .type a := by
  cases v <;> simp [ab] at h; subst h; rfl
/-- abstract objects -/
inductive O where
  | lst (xs : List V) | ro (xs : List V) | tup (xs : List V) | rng (lo hi st : Int) | cell (v : V) | fn (f : FuncData) | tab (d : Option (Pos × Addr)) | code (q : Str)

noncomputable def O.mut : O → Bool
  | .lst _ => true
  | .cell _ => true
  | .tab _ => true
  | _ => false

/-- the longest list that this logic speaks of -/
noncomputable def lim : Nat := 1000000

noncomputable def abo : Option Value → V
  | some v => ab v
  | none => .undef

noncomputable def tabV : Option (Pos × Addr) → Array Value
  | none => #[]
  | some (p, c) => #[rawInt p.line, rawInt p.col, .ref c]
noncomputable def ObjR (h : Heap) (a : Addr) : O → Prop
  | .lst xs => ∃ items : Array Value, h.PlainList a items ∧ items.toList.map ab = xs ∧ xs.length ≤ lim
  | .ro xs => ∃ items : Array Value, h.IsList a items ∧ items.toList.map ab = xs ∧ xs.length ≤ lim
  | .tup xs => ∃ items : Array Value, IsTup h a items ∧ items.toList.map ab = xs ∧ xs.length ≤ lim
  | .rng lo hi st => ∃ t u v, IsRange h a lo hi st t u v
  | .cell v => ∃ c, h.IsCell a c ∧ abo c = v
  | .fn f => ∃ o, h.get? a = some o ∧ o.data = .func f
  | .tab d => h.get? a = some (tabObj (tabV d))
  | .code q => ∃ o vs t, h.get? a = some o ∧ o.data = .fields vs ∧ vs[1]? = some (.str q t)

theorem ObjR.get {h : Heap} {a : Addr} {x : O} (r : ObjR h a x) : ∃ o, h.get? a = some o := by
  cases x with
  | lst xs => obtain ⟨i, ⟨n, e⟩, _⟩ := r; exact ⟨_, e⟩
  | ro xs => obtain ⟨i, ⟨o, e, _⟩, _⟩ := r; exact ⟨_, e⟩
  | tup xs => obtain ⟨i, ⟨o, e, _⟩, _⟩ := r; exact ⟨_, e⟩
  | rng a b c => obtain ⟨t, u, v, e⟩ := r; exact ⟨_, e⟩
  | cell v => obtain ⟨c, ⟨o, e, _⟩, _⟩ := r; exact ⟨_, e⟩
  | fn f => obtain ⟨o, e, _⟩ := r; exact ⟨_, e⟩
  | tab d => exact ⟨_, r⟩
  | code q => obtain ⟨o, _, _, e, _⟩ := r; exact ⟨_, e⟩
theorem ObjR.at {h h' : Heap} {a : Addr} {x : O} (r : ObjR h a x) (k : ∀ o, h.get? a = some o → h'.get? a = some o) : ObjR h' a x := by
  cases x with
  | lst xs => obtain ⟨i, ⟨n, e⟩, q⟩ := r; exact ⟨i, ⟨n, k _ e⟩, q⟩
  | ro xs => obtain ⟨i, ⟨o, e, q1⟩, q⟩ := r; exact ⟨i, ⟨o, k _ e, q1⟩, q⟩
  | tup xs => obtain ⟨i, ⟨o, e, q1⟩, q⟩ := r; exact ⟨i, ⟨o, k _ e, q1⟩, q⟩
  | rng a b c => obtain ⟨t, u, v, e⟩ := r; exact ⟨t, u, v, k _ e⟩
  | cell v => obtain ⟨c, ⟨o, e, q1⟩, q⟩ := r; exact ⟨c, ⟨o, k _ e, q1⟩, q⟩
  | fn f => obtain ⟨o, e, q⟩ := r; exact ⟨o, k _ e, q⟩
  | tab d => exact k _ r
  | code q => obtain ⟨o, vs, t, e, q⟩ := r; exact ⟨o, vs, t, k _ e, q⟩

/-- the abstract store -/
abbrev St := Addr → Option O
noncomputable def St.set (σ : St) (a : Addr) (o : O) : St := fun b => if b = a then some o else σ b
@[simp] theorem St.set_same (σ : St) (a : Addr) (o : O) : σ.set a o a = some o := by simp [St.set]
theorem St.set_other (σ : St) {a b : Addr} (o : O) (h : b ≠ a) : σ.set a o b = σ b := by simp [St.set, h]

/-- what the heap owes the store; H is the heap at the law's call -/
structure RelG (H : Heap) (σ : St) (s : Shared) : Prop where
  base : ∀ b o, H.get? b = some o → s.heap.get? b = some o
  objs : ∀ a x, σ a = some x → ObjR s.heap a x
  own : ∀ a x, σ a = some x → x.mut = true → H.get? a = none

noncomputable def NoMut (σ : St) (b : Addr) : Prop := ∀ x, σ b = some x → x.mut = false

/-- one stretch of the run: L is what may be changed besides the mutable objects -/
structure Stp (L : Addr → Prop) (σ : St) (s : Shared) (σ' : St) (s' : Shared) : Prop where
  keep : ∀ b o, s.heap.get? b = some o → NoMut σ b → ¬ L b → (∀ es n, o.data ≠ .dict es n) → s'.heap.get? b = some o
  look : ∀ b o, s.heap.get? b = some o → NoMut σ b → ¬ L b → ∃ sl, s'.heap.get? b = some { o with slots := sl }
  dom : ∀ b x, σ' b = some x → (∃ y, σ b = some y ∧ (x.mut = true → y.mut = true)) ∨ s.heap.get? b = none
  alive : ∀ b o, s.heap.get? b = some o → ∃ o', s'.heap.get? b = some o'
  rest : ∃ h t, s' = { s with heap := h, toks := t }

/-- all that is there is kept as it is -/
theorem Stp.of {L : Addr → Prop} {σ σ' : St} {s s' : Shared} (hk : ∀ b o, s.heap.get? b = some o → NoMut σ b → ¬ L b → s'.heap.get? b = some o) (hd : ∀ b x, σ' b = some x → (∃ y, σ b = some y ∧ (x.mut = true → y.mut = true)) ∨ s.heap.get? b = none)
    (ha : ∀ b o, s.heap.get? b = some o → ∃ o', s'.heap.get? b = some o') (hr : ∃ h t, s' = { s with heap := h, toks := t }) : Stp L σ s σ' s' :=
  ⟨fun b o e m l _ => hk b o e m l, fun b o e m l => ⟨o.slots, hk b o e m l⟩, hd, ha, hr⟩
theorem Stp.refl (L : Addr → Prop) (σ : St) (s : Shared) : Stp L σ s σ s :=
  .of (fun _ _ e _ _ => e) (fun _ x e => .inl ⟨x, e, id⟩) (fun _ o e => ⟨o, e⟩) ⟨s.heap, s.toks, rfl⟩

theorem Stp.trans {L : Addr → Prop} {σ σ' σ'' : St} {s s' s'' : Shared} (x : Stp L σ s σ' s') (y : Stp L σ' s' σ'' s'') : Stp L σ s σ'' s'' where
  keep := fun b o e hm hl hd => by
    refine y.keep b o (x.keep b o e hm hl hd) (fun z hz => ?_) hl hd
    rcases x.dom b z hz with ⟨y', hy, hmm⟩ | h
    · cases hzm : z.mut with
      | false => rfl
      | true => have := hm y' hy; rw [hmm hzm] at this; exact this
    · rw [h] at e; cases e
  look := fun b o e hm hl => by
    obtain ⟨sl, e1⟩ := x.look b o e hm hl
    have hn : NoMut σ' b := fun z hz => by
      rcases x.dom b z hz with ⟨y', hy, hmm⟩ | h
      · cases hzm : z.mut with
        | false => rfl
        | true => have := hm y' hy; rw [hmm hzm] at this; exact this
      · rw [h] at e; cases e
    obtain ⟨sl2, e2⟩ := y.look b { o with slots := sl } e1 hn hl
    exact ⟨sl2, e2⟩
  dom := fun b z hz => by
    rcases y.dom b z hz with ⟨y', hy, hmm⟩ | h
    · rcases x.dom b y' hy with ⟨y'', hy', hmm'⟩ | h
      · exact .inl ⟨y'', hy', fun q => hmm' (hmm q)⟩
      · exact .inr h
    · refine .inr ?_
      cases e : s.heap.get? b with
      | none => rfl
      | some o => obtain ⟨o', e'⟩ := x.alive b o e; rw [e'] at h; cases h
  alive := fun b o e => let ⟨o', e'⟩ := x.alive b o e; y.alive b o' e'
  rest := by
    obtain ⟨h, t, e⟩ := x.rest
    obtain ⟨h', t', e'⟩ := y.rest
    exact ⟨h', t', by rw [e', e]⟩

theorem Stp.weak {L L' : Addr → Prop} {σ σ' : St} {s s' : Shared} (x : Stp L σ s σ' s') (h : ∀ b, L b → L' b) : Stp L' σ s σ' s' :=
  ⟨fun b o e hm hl => x.keep b o e hm fun q => hl (h b q), fun b o e hm hl => x.look b o e hm fun q => hl (h b q), x.dom, x.alive, x.rest⟩

/-- nothing besides -/
noncomputable def No : Addr → Prop := fun _ => False
noncomputable def At (l : Addr) : Addr → Prop := fun b => b = l

/-- the frame's names: fr holds the slots, by the place in the scope's table -/
noncomputable def FrameR (names : List (Str × NameKind)) (fr : List V) (m : Str → Option Value) : Prop :=
  ∀ i x, names[i]? = some (x, NameKind.local) → fr.getD i .undef ≠ .undef → ∃ v, m x = some v ∧ ab v = fr.getD i .undef

noncomputable def Env.nm (env : Env) : List (Str × NameKind) := env.scope.names

/-- the world of a law: its program, its world, the heap at its call, the prefix of the names of what it makes -/
structure Wd where
  prog : Program
  w : World
  H : Heap
  eq : Str
abbrev Wd.M (W : Wd) : Model := model W.prog W.w
/-- what is known of the environment of a block once and for all -/
structure EnvOK (W : Wd) (env : Env) (cs : List Addr) : Prop where
  kind : env.scope.kind = .function
  glob : env.globals = mainGlobals
  bts : env.builtins = builtinsNs
  nodup : (env.scope.names.map (·.1)).Nodup
  cell : ∀ i x k, env.scope.names[i]? = some (x, k) → k = .cell ∨ k = .free → env.cells.lookup x = some (cs.getD i 0) ∧ x ≠ ("__classdict__" : Str)
  tab : ∀ P, cs[env.scope.names.length]? = some P → ∃ c mg, env.code = .ref c ∧ CodeHd W.H c P ∧ W.H.Ns mainGlobals mg ∧ mainGlobals ≠ P ∧ W.H.BuiltinsAt mg P ∧ env.qual = W.eq

/-- the frames on the stack -/
noncomputable def Frs (H : Heap) (A : Around) (σ : St) (s : Shared) : Prop := ∃ l, A.frames = some l ∧ ∀ env ∈ l, env.scope.kind = .function ∧ ∃ L o es n, env.frame = some L ∧ H.get? L = none ∧ σ L = none ∧ s.heap.get? L = some o ∧ o.data = .dict es n
theorem Frs.mono {H : Heap} {A : Around} {σ σ' : St} {s s' : Shared} (f : Frs H A σ s) (h : ∀ b o es n, s.heap.get? b = some o → o.data = .dict es n → σ b = none → σ' b = none ∧ ∃ o' es' n', s'.heap.get? b = some o' ∧ o'.data = .dict es' n') : Frs H A σ' s' := by
  obtain ⟨l, hl, hf⟩ := f
  refine ⟨l, hl, fun env he => ?_⟩
  obtain ⟨h1, L, o, es, n, h2, h3, h4, h5, h6⟩ := hf env he
  obtain ⟨k1, o', es', n', k2, k3⟩ := h L o es n h5 h6 h4
  exact ⟨h1, L, o', es', n', h2, h3, k1, k2, k3⟩
theorem Frs.step {H : Heap} {A : Around} {σ σ' : St} {s s' : Shared} (f : Frs H A σ s) (t : Stp No σ s σ' s') : Frs H A σ' s' := f.mono fun b o es n e hd hσ => by
  obtain ⟨sl, e'⟩ := t.look b o e (fun x hx => by rw [hσ] at hx; cases hx) id
  refine ⟨?_, _, es, n, e', hd⟩
  cases q : σ' b with
  | none => rfl
  | some x =>
    rcases t.dom b x q with ⟨y, hy, _⟩ | h'
    · rw [hσ] at hy; cases hy
    · rw [h'] at e; cases e
structure Rel (H : Heap) (A : Around) (env : Env) (σ : St) (fr : List V) (s : Shared) : Prop extends RelG H σ s where
  ns : ∃ m, s.heap.Ns env.locals m ∧ FrameR env.scope.names fr m
  off : σ env.locals = none
  new : H.get? env.locals = none
  frs : Frs H A σ s

/-- room below -/
structure Room (n : Nat) (A : Around) : Prop where
  handled : A.handled = none
  depth : A.depth + n ≤ 900
  units : A.units + 10 * n ≤ 9000

theorem Room.deeper {n : Nat} {A : Around} (r : Room (n + 1) A) (env : Env) : Room n (A.deeper env) :=
  ⟨r.handled, by show A.depth + 1 + n ≤ 900; have := r.depth; omega, by show A.units + 3 + 10 * n ≤ 9000; have := r.units; omega⟩
theorem Room.in1 {n : Nat} {A : Around} (r : Room (n + 1) A) : Room n A.in1 :=
  ⟨r.handled, by show A.depth + n ≤ 900; have := r.depth; omega, by show A.units + 1 + 10 * n ≤ 9000; have := r.units; omega⟩
theorem Room.mono {n m : Nat} {A : Around} (r : Room n A) (h : m ≤ n) : Room m A :=
  ⟨r.handled, by have := r.depth; omega, by have := r.units; omega⟩
theorem Room.lim {n : Nat} {A : Around} (r : Room n A) : A.depth < recursionLimit := by
  have := r.depth; show A.depth < 1000; omega
theorem Room.cl {n : Nat} {A : Around} (r : Room n A) : A.units < cLine := by
  have := r.units; show A.units < 9900; omega

end Mine

end
section -- TS1
open PySem PyProof.Rows
namespace Mine
variable {prog : Program} {w : World} {A : Around} {E : Value → Shared → Prop} {s : Shared}

theorem wpS_elem {arr : Array Keyed} {i : Nat} {p : Keyed} {Q : Keyed → SortSt → Prop} {st : SortSt} (h : arr[i]? = some p) (q : Q p st) : wpS (model prog w) A E s (elem' arr i) Q st := by
  rw [elem'_eq, h]; exact wpS_pure q
theorem wpS_lt {x y : Keyed} {a b : Int} {t u : Tok} {Q : Option Bool → SortSt → Prop} {st : SortSt} (hk : kindOf st = oneType') (hx : x.1 = .int a t) (hy : y.1 = .int b u) (h : Q (some (decide (a < b))) st) : wpS (model prog w) A E s (lt' x y) Q st := by
  rw [lt'_eq]
  refine wpS_bind (wpS_get ?_)
  rw [hk, hx, hy, keyLt'_oneType]
  exact wpS_bind (wpS_lift (wpAny_attempt (oneLt_int ⟨rfl, wpS_pure h⟩)))

noncomputable def gallop' : Bool → Keyed → Array Keyed → Nat → Nat → Nat → StateT SortSt Sem (Option Nat) := sortPriv% PySem.Builtin.gallop
noncomputable def beyond' (left : Bool) (key : Keyed) (arr : Array Keyed) (base : Nat) (i : Nat) : StateT SortSt Sem (Option Bool) := do
    let x ← elem' arr (base + i)
    if left then lt' x key else return (← lt' key x).map (!·)
theorem wpS_if {α : Type} {c : Prop} [Decidable c] {x y : StateT SortSt Sem α} {st : SortSt} {Q : α → SortSt → Prop} (h1 : c → wpS (model prog w) A E s x Q st) (h2 : ¬c → wpS (model prog w) A E s y Q st) : wpS (model prog w) A E s (if c then x else y) Q st := by
  by_cases h : c
  · rw [if_pos h]; exact h1 h
  · rw [if_neg h]; exact h2 h
/-- beyond' answers by P -/
noncomputable def Bey (prog : Program) (w : World) (A : Around) (E : Value → Shared → Prop) (s : Shared) (left : Bool) (key : Keyed) (arr : Array Keyed) (base n : Nat) (st : SortSt) (P : Nat → Bool) : Prop :=
  ∀ i, i < n → ∀ Q : Option Bool → SortSt → Prop, Q (some (P i)) st → wpS (model prog w) A E s (beyond' left key arr base i) Q st
abbrev GaSt := Option (Option Nat) × Nat × Nat
/-- halving -/
noncomputable def gMid (left : Bool) (key : Keyed) (arr : Array Keyed) (base : Nat) (c : GaSt) : StateT SortSt Sem (ForInStep GaSt) :=
  if c.2.1 ≥ c.2.2 then pure (.done (none, c.2.1, c.2.2))
  else do
    let r ← beyond' left key arr base (c.2.1 + (c.2.2 - c.2.1) / 2)
    match r with
    | some more => if more = true then pure (.yield (none, c.2.1 + (c.2.2 - c.2.1) / 2 + 1, c.2.2)) else pure (.yield (none, c.2.1, c.2.1 + (c.2.2 - c.2.1) / 2))
    | _ => pure (.done (some none, c.2.1, c.2.2))
noncomputable def gEnd (c : GaSt) : StateT SortSt Sem (Option Nat) := match c.1 with
  | some r => pure r
  | none => pure (some c.2.2)
noncomputable def gLast (left : Bool) (key : Keyed) (arr : Array Keyed) (base n lo hi : Nat) : StateT SortSt Sem (Option Nat) := do
  let c ← forIn [:n] ((none, lo, hi) : GaSt) fun _ c => gMid left key arr base c
  gEnd c
/-- wider and wider, upwards and downwards -/
noncomputable def gUp (left : Bool) (key : Keyed) (arr : Array Keyed) (base hint mx : Nat) (c : GaSt) : StateT SortSt Sem (ForInStep GaSt) :=
  if c.2.2 ≥ mx then pure (.done (none, c.2.1, c.2.2))
  else do
    let r ← beyond' left key arr base (hint + c.2.2)
    match r with
    | some more => if (!more) = true then pure (.done (none, c.2.1, c.2.2)) else pure (.yield (none, c.2.2, 2 * c.2.2 + 1))
    | _ => pure (.done (some none, c.2.1, c.2.2))
noncomputable def gDn (left : Bool) (key : Keyed) (arr : Array Keyed) (base hint : Nat) (c : GaSt) : StateT SortSt Sem (ForInStep GaSt) :=
  if c.2.2 ≥ hint + 1 then pure (.done (none, c.2.1, c.2.2))
  else do
    let r ← beyond' left key arr base (hint - c.2.2)
    match r with
    | some found => if found = true then pure (.done (none, c.2.1, c.2.2)) else pure (.yield (none, c.2.2, 2 * c.2.2 + 1))
    | _ => pure (.done (some none, c.2.1, c.2.2))
noncomputable def gThen (c : GaSt) (f : Nat → Nat → StateT SortSt Sem (Option Nat)) : StateT SortSt Sem (Option Nat) := match c.1 with
  | some r => pure r
  | none => f c.2.1 c.2.2
theorem gallop_named (left : Bool) (key : Keyed) (arr : Array Keyed) (base n hint : Nat) : gallop' left key arr base n hint = (do
    let r ← beyond' left key arr base hint
    match r with
    | some right =>
      if right = true then do
        let c ← forIn [:n] ((none, 0, 1) : GaSt) fun _ c => gUp left key arr base hint (n - hint) c
        gThen c fun l o => gLast left key arr base n (hint + l + 1) (hint + min o (n - hint))
      else do
        let c ← forIn [:n] ((none, 0, 1) : GaSt) fun _ c => gDn left key arr base hint c
        gThen c fun l o => gLast left key arr base n (hint + 1 - min o (hint + 1)) (hint - l)
    | _ => pure none) := by kernel_rfl
section
variable {left : Bool} {key : Keyed} {arr : Array Keyed} {base n hint : Nat} {st : SortSt} {P : Nat → Bool} {Q : Option Nat → SortSt → Prop}
/-- the place, between l and r -/
noncomputable def GI (P : Nat → Bool) (n l r : Nat) : Prop := l ≤ r ∧ r ≤ n ∧ (∀ i, i < l → P i = true) ∧ ∀ i, r ≤ i → i < n → P i = false
noncomputable def Dwn (P : Nat → Bool) (n : Nat) : Prop := ∀ i j, i ≤ j → j < n → P j = true → P i = true
theorem Dwn.up (hm : Dwn P n) {i j : Nat} (h1 : i ≤ j) (h2 : j < n) (h3 : P i = false) : P j = false := by
  cases e : P j with
  | false => rfl
  | true => rw [hm i j h1 h2 e] at h3; cases h3
theorem mid_lt {l r : Nat} (h : l < r) : l + (r - l) / 2 < r := by
  obtain ⟨d, rfl⟩ := Nat.exists_eq_add_of_le (Nat.le_of_lt h)
  rw [Nat.add_sub_cancel_left]
  exact Nat.add_lt_add_left (Nat.div_lt_self (Nat.pos_of_lt_add_right h) (by decide)) l
theorem wpS_gMid (hB : Bey prog w A E s left key arr base n st P) (hm : Dwn P n) {x l r : Nat} {Z : ForInStep GaSt → SortSt → Prop} (h : GI P n l r) (hx : r + x ≤ l + n) (z1 : ∀ k, GI P n k k → Z (.done (none, k, k)) st) (z2 : ∀ l r, GI P n l r → r + (x + 1) ≤ l + n → Z (.yield (none, l, r)) st) :
    wpS (model prog w) A E s (gMid left key arr base (none, l, r)) Z st := by
  obtain ⟨a, b, e, f⟩ := h
  unfold gMid
  refine wpS_if (fun hge => ?_) fun hge => ?_
  · have : l = r := Nat.le_antisymm a hge
    subst this
    exact wpS_pure (z1 l ⟨a, b, e, f⟩)
  have hlt : l < r := Nat.not_le.mp hge
  have m1 : l ≤ l + (r - l) / 2 := Nat.le_add_right _ _
  have m2 := mid_lt hlt
  refine wpS_bind (hB _ (Nat.lt_of_lt_of_le m2 b) _ ?_)
  show wpS _ _ _ _ (if P (l + (r - l) / 2) = true then pure (.yield (none, l + (r - l) / 2 + 1, r)) else pure (.yield (none, l, l + (r - l) / 2))) Z st
  generalize l + (r - l) / 2 = m at m1 m2 ⊢
  refine wpS_if (fun ho => ?_) fun ho => ?_
  · exact wpS_pure (z2 _ _ ⟨m2, b, fun i hi => hm i m (Nat.le_of_lt_succ hi) (Nat.lt_of_lt_of_le m2 b) ho, f⟩ (by rw [Nat.add_right_comm m 1 n]; exact Nat.succ_le_succ (Nat.le_trans hx (Nat.add_le_add_right m1 n))))
  · exact wpS_pure (z2 _ _ ⟨m1, Nat.le_trans (Nat.le_of_lt m2) b, e, fun i h1 h2 => hm.up h1 h2 (Bool.eq_false_iff.mpr ho)⟩ (by rw [← Nat.add_assoc, Nat.add_right_comm]; exact Nat.le_trans (Nat.add_le_add_right m2 x) hx))
theorem wpS_gLast (hB : Bey prog w A E s left key arr base n st P) (hm : Dwn P n) {lo hi : Nat} (h : GI P n lo hi)
    (q : ∀ k, GI P n k k → Q (some k) st) : wpS (model prog w) A E s (gLast left key arr base n lo hi) Q st := by
  unfold gLast
  refine wpS_bind (wpS_mono (wpS_forRange (I := fun x c st' => st' = st ∧ ∃ l r, c = (none, l, r) ∧ GI P n l r ∧ r + x ≤ l + n)
    (Q := fun c st' => st' = st ∧ ∃ k, c = (none, k, k) ∧ GI P n k k) (fun x c st' _ _ h => ?_) (fun c st' h => ?_) ⟨rfl, lo, hi, rfl, h, Nat.le_trans h.2.1 (Nat.le_add_left _ _)⟩) fun c st' h => ?_)
  · obtain ⟨rfl, l, r, rfl, hG, hx⟩ := h
    exact wpS_gMid hB hm hG hx (fun k h => ⟨rfl, k, rfl, h⟩) fun l r h hx => ⟨rfl, l, r, rfl, h, hx⟩
  · obtain ⟨rfl, l, r, rfl, hG, hx⟩ := h
    rw [Nat.max_eq_right (Nat.zero_le _)] at hx
    have : r = l := Nat.le_antisymm (Nat.le_of_add_le_add_right hx) hG.1
    subst this
    exact ⟨rfl, r, rfl, hG⟩
  · obtain ⟨rfl, k, rfl, h⟩ := h
    exact wpS_pure (q k h)
theorem dbl {x o : Nat} (h : x < o) : x + 1 < 2 * o + 1 := by omega
theorem dbo (o : Nat) : o < 2 * o + 1 := by omega
theorem wpS_gallop (hB : Bey prog w A E s left key arr base n st P) (hm : ∀ i j, i ≤ j → j < n → P j = true → P i = true) (hh : hint < n)
    (q : ∀ k, k ≤ n → (∀ i, i < k → P i = true) → (∀ i, k ≤ i → i < n → P i = false) → Q (some k) st) : wpS (model prog w) A E s (gallop' left key arr base n hint) Q st := by
  have fin : ∀ {lo hi}, GI P n lo hi → wpS (model prog w) A E s (gLast left key arr base n lo hi) Q st := fun h => wpS_gLast hB hm h fun k h => q k h.2.1 h.2.2.1 h.2.2.2
  clear q
  rw [gallop_named]
  refine wpS_bind (hB hint hh _ ?_)
  refine wpS_if (fun hp => ?_) fun hp => ?_
  · obtain ⟨mx, rfl⟩ := Nat.exists_eq_add_of_le (Nat.le_of_lt hh)
    rw [Nat.add_sub_cancel_left]
    have hmx : 0 < mx := Nat.pos_of_lt_add_right hh
    refine wpS_bind (wpS_mono (wpS_forRange (I := fun x c st' => st' = st ∧ ∃ l o, c = (none, l, o) ∧ l < o ∧ x < o ∧ l < mx ∧ P (hint + l) = true)
      (Q := fun c st' => st' = st ∧ ∃ l o, c = (none, l, o) ∧ l < o ∧ l < mx ∧ P (hint + l) = true ∧ (o < mx → P (hint + o) = false)) (fun x c st' _ _ h => ?_) (fun c st' h => ?_) ⟨rfl, 0, 1, rfl, Nat.one_pos, Nat.one_pos, hmx, hp⟩) fun c st' h => ?_)
    · obtain ⟨rfl, l, o, rfl, a, b, d, e⟩ := h
      unfold gUp
      refine wpS_if (fun hge => wpS_pure ⟨rfl, l, o, rfl, a, d, e, fun h => absurd h (Nat.not_lt.mpr hge)⟩) fun hge => ?_
      have ho := Nat.not_le.mp hge
      refine wpS_bind (hB _ (Nat.add_lt_add_left ho _) _ ?_)
      refine wpS_if (fun hn => wpS_pure ⟨rfl, l, o, rfl, a, d, e, fun _ => by rw [← Bool.not_eq_true']; exact hn⟩) fun hn => wpS_pure ⟨rfl, o, 2 * o + 1, rfl, dbo o, dbl b, ho, by simpa using hn⟩
    · obtain ⟨rfl, l, o, rfl, a, b, d, e⟩ := h
      rw [Nat.max_eq_right (Nat.zero_le _)] at b
      exact ⟨rfl, l, o, rfl, a, d, e, fun h => absurd (Nat.lt_trans b h) (Nat.not_lt.mpr (Nat.le_add_left _ _))⟩
    · obtain ⟨rfl, l, o, rfl, a, d, e, f⟩ := h
      refine fin ⟨?_, ?_, fun i hi => hm i (hint + l) (Nat.le_of_lt_succ hi) (Nat.add_lt_add_left d _) e, fun i h1 h2 => ?_⟩
      · exact Nat.add_le_add_left (Nat.le_min.mpr ⟨a, d⟩) hint
      · exact Nat.add_le_add_left (Nat.min_le_right _ _) hint
      · by_cases ho : o < mx
        · rw [Nat.min_eq_left (Nat.le_of_lt ho)] at h1
          exact Dwn.up hm h1 h2 (f ho)
        · rw [Nat.min_eq_right (Nat.not_lt.mp ho)] at h1
          exact absurd h2 (Nat.not_lt.mpr h1)
  · refine wpS_bind (wpS_mono (wpS_forRange (I := fun x c st' => st' = st ∧ ∃ l o, c = (none, l, o) ∧ l < o ∧ x < o ∧ l ≤ hint ∧ P (hint - l) = false)
      (Q := fun c st' => st' = st ∧ ∃ l o, c = (none, l, o) ∧ l < o ∧ l ≤ hint ∧ P (hint - l) = false ∧ (o ≤ hint → P (hint - o) = true)) (fun x c st' _ _ h => ?_) (fun c st' h => ?_) ⟨rfl, 0, 1, rfl, Nat.one_pos, Nat.one_pos, Nat.zero_le _, Bool.eq_false_iff.mpr hp⟩) fun c st' h => ?_)
    · obtain ⟨rfl, l, o, rfl, a, b, d, e⟩ := h
      unfold gDn
      refine wpS_if (fun hge => wpS_pure ⟨rfl, l, o, rfl, a, d, e, fun h => absurd h (Nat.not_le.mpr hge)⟩) fun hge => ?_
      have ho : o ≤ hint := Nat.le_of_lt_succ (Nat.not_le.mp hge)
      refine wpS_bind (hB _ (Nat.lt_of_le_of_lt (Nat.sub_le _ _) hh) _ ?_)
      refine wpS_if (fun hn => wpS_pure ⟨rfl, l, o, rfl, a, d, e, fun _ => hn⟩) fun hn => wpS_pure ⟨rfl, o, 2 * o + 1, rfl, dbo o, dbl b, ho, Bool.eq_false_iff.mpr hn⟩
    · obtain ⟨rfl, l, o, rfl, a, b, d, e⟩ := h
      rw [Nat.max_eq_right (Nat.zero_le _)] at b
      exact ⟨rfl, l, o, rfl, a, d, e, fun h => absurd (Nat.lt_of_lt_of_le b h) (Nat.not_lt.mpr (Nat.le_of_lt hh))⟩
    · obtain ⟨rfl, l, o, rfl, a, d, e, f⟩ := h
      refine fin ⟨?_, Nat.le_trans (Nat.sub_le _ _) (Nat.le_of_lt hh), fun i hi => ?_, fun i h1 h2 => Dwn.up hm h1 h2 e⟩
      · show hint + 1 - min o (hint + 1) ≤ hint - l
        omega
      · by_cases ho : o ≤ hint
        · rw [Nat.min_eq_left (Nat.le_succ_of_le ho)] at hi
          exact hm i (hint - o) (by omega) (Nat.lt_of_le_of_lt (Nat.sub_le _ _) hh) (f ho)
        · rw [Nat.min_eq_right (Nat.not_le.mp ho), Nat.sub_self] at hi
          exact absurd hi (Nat.not_lt_zero _)
end
end Mine

end
section -- TS2
open PySem PyProof.Rows
namespace Mine
variable {prog : Program} {w : World} {A : Around} {E : Value → Shared → Prop} {s : Shared}
abbrev setG (st : SortSt) (g : Nat) : SortSt := SortSt.mk' (kindOf st) (arrOf st) (pendingOf st) g (failedOf st)
noncomputable def setMinGallop' (g : Nat) : StateT SortSt Sem Unit := modify fun st => setG st g
noncomputable def mergeLo' : Array Keyed → Array Keyed → StateT SortSt Sem (Array Keyed) := sortPriv% PySem.Builtin.mergeLo
noncomputable def mergeHi' : Array Keyed → Array Keyed → StateT SortSt Sem (Array Keyed) := sortPriv% PySem.Builtin.mergeHi
noncomputable def kk (p : Keyed) : Int := numOf p.1
noncomputable def le (x y : Keyed) : Prop := kk x ≤ kk y
noncomputable def IK (l : List Keyed) : Prop := ∀ p ∈ l, ∃ n t, p.1 = .int n t
noncomputable def Srt (a : Array Keyed) : Prop := ∀ i j, i ≤ j → j < a.size → K a i ≤ K a j
theorem K_at {a : Array Keyed} {i : Nat} {p : Keyed} (h : a[i]? = some p) : K a i = kk p := by unfold K kk; rw [h]
theorem seg_mem {a : Array Keyed} {n k : Nat} {x : Keyed} (h : x ∈ (a.toList.drop n).take k) : ∃ i, n ≤ i ∧ i < n + k ∧ i < a.size ∧ kk x = K a i := by
  obtain ⟨i, hi, e⟩ := List.getElem_of_mem h
  rw [List.length_take, List.length_drop] at hi
  rw [List.getElem_take, List.getElem_drop] at e
  have hs : n + i < a.size := by rw [← Array.length_toList]; omega
  refine ⟨n + i, by omega, by omega, hs, ?_⟩
  have e2 : a[n + i]? = some x := by rw [getElem?_pos a (n + i) hs, ← e]; simp
  exact (K_at e2).symm
theorem drop_mem {a : Array Keyed} {n : Nat} {x : Keyed} (h : x ∈ a.toList.drop n) : ∃ i, n ≤ i ∧ i < a.size ∧ kk x = K a i := by
  have e : (a.toList.drop n).take a.size = a.toList.drop n := List.take_of_length_le (by rw [List.length_drop, Array.length_toList]; omega)
  rw [← e] at h
  obtain ⟨i, h1, _, h2, h3⟩ := seg_mem h
  exact ⟨i, h1, h2, h3⟩
theorem seg_srt {a : Array Keyed} (hs : Srt a) (n k : Nat) : ((a.toList.drop n).take k).Pairwise le := by
  rw [List.pairwise_iff_getElem]
  intro i j hi hj hij
  rw [List.length_take, List.length_drop, Array.length_toList] at hi hj
  have h1 : n + i < a.size := by omega
  have h2 : n + j < a.size := by omega
  have e := hs (n + i) (n + j) (by omega) h2
  rw [K_at (getElem?_pos a (n + i) h1), K_at (getElem?_pos a (n + j) h2)] at e
  rw [List.getElem_take, List.getElem_drop, List.getElem_take, List.getElem_drop]
  simpa [le] using e
theorem drop_srt {a : Array Keyed} (hs : Srt a) (n : Nat) : (a.toList.drop n).Pairwise le := by
  have e : (a.toList.drop n).take a.size = a.toList.drop n := List.take_of_length_le (by rw [List.length_drop, Array.length_toList]; omega)
  rw [← e]; exact seg_srt hs n _
structure MI (a b : Array Keyed) (o : List Keyed) (ia ib : Nat) : Prop where
  perm : (o ++ (a.toList.drop ia ++ b.toList.drop ib)).Perm (a.toList ++ b.toList)
  srt : o.Pairwise le
  la : ∀ x ∈ o, ∀ i, ia ≤ i → i < a.size → kk x ≤ K a i
  lb : ∀ x ∈ o, ∀ i, ib ≤ i → i < b.size → kk x ≤ K b i
section
variable {a b : Array Keyed} {o : List Keyed} {ia ib : Nat}
theorem MI.swap (h : MI a b o ia ib) : MI b a o ib ia :=
  ⟨((List.Perm.append_left o List.perm_append_comm).trans h.perm).trans List.perm_append_comm, h.srt, h.lb, h.la⟩
theorem MI.take (h : MI a b o ia ib) (hs : Srt a) {k : Nat} (hk : ∀ i j, ia ≤ i → i < ia + k → i < a.size → ib ≤ j → j < b.size → K a i ≤ K b j) : MI a b (o ++ (a.toList.drop ia).take k) (ia + k) ib := by
  refine ⟨?_, ?_, ?_, ?_⟩
  · have e : a.toList.drop ia = (a.toList.drop ia).take k ++ a.toList.drop (ia + k) := by rw [← List.drop_drop, List.take_append_drop]
    have := h.perm
    rw [e] at this
    simpa [List.append_assoc] using this
  · refine List.pairwise_append.mpr ⟨h.srt, seg_srt hs _ _, fun x hx y hy => ?_⟩
    obtain ⟨i, h1, h2, h3, h4⟩ := seg_mem hy
    show kk x ≤ kk y
    rw [h4]; exact h.la x hx i h1 h3
  · intro x hx i h1 h2
    rcases List.mem_append.mp hx with hx | hx
    · exact h.la x hx i (by omega) h2
    · obtain ⟨j, k1, k2, k3, k4⟩ := seg_mem hx
      rw [k4]; exact hs j i (by omega) h2
  · intro x hx i h1 h2
    rcases List.mem_append.mp hx with hx | hx
    · exact h.lb x hx i h1 h2
    · obtain ⟨j, k1, k2, k3, k4⟩ := seg_mem hx
      rw [k4]; exact hk j i k1 k2 k3 h1 h2
theorem MI.done (h : MI a b o ia ib) (ha : Srt a) (hb : Srt b) (hk : ∀ i j, ia ≤ i → i < a.size → ib ≤ j → j < b.size → K a i ≤ K b j) :
    (o ++ a.toList.drop ia ++ b.toList.drop ib).Perm (a.toList ++ b.toList) ∧ (o ++ a.toList.drop ia ++ b.toList.drop ib).Pairwise le := by
  rw [List.append_assoc]
  refine ⟨h.perm, List.pairwise_append.mpr ⟨h.srt, List.pairwise_append.mpr ⟨drop_srt ha _, drop_srt hb _, fun x hx y hy => ?_⟩, fun x hx y hy => ?_⟩⟩
  · obtain ⟨i, h1, h2, h3⟩ := drop_mem hx
    obtain ⟨j, k1, k2, k3⟩ := drop_mem hy
    show kk x ≤ kk y
    rw [h3, k3]; exact hk i j h1 h2 k1 k2
  · show kk x ≤ kk y
    rcases List.mem_append.mp hy with hy | hy
    · obtain ⟨j, k1, k2, k3⟩ := drop_mem hy
      rw [k3]; exact h.la x hx j k1 k2
    · obtain ⟨j, k1, k2, k3⟩ := drop_mem hy
      rw [k3]; exact h.lb x hx j k1 k2
end
theorem take_one {a : Array Keyed} {i : Nat} {p : Keyed} (h : a[i]? = some p) : (a.toList.drop i).take 1 = [p] := by
  have hs : i < a.toList.length := by rw [Array.length_toList]; exact (Array.getElem?_eq_some_iff.mp h).1
  rw [List.drop_eq_getElem_cons hs]
  obtain ⟨h1, h2⟩ := Array.getElem?_eq_some_iff.mp h
  simp [← h2]
theorem ext_list (a : Array Keyed) (i k : Nat) : (a.extract i (i + k)).toList = (a.toList.drop i).take k := by
  rw [Array.toList_extract, List.extract_eq_take_drop]; congr 1; omega
theorem ext_all (a : Array Keyed) (i : Nat) : (a.extract i a.size).toList = a.toList.drop i := by
  rw [Array.toList_extract, List.extract_eq_take_drop]; exact List.take_of_length_le (by rw [List.length_drop, Array.length_toList]; exact Nat.le_refl _)

theorem ik_at {a : Array Keyed} (h : IK a.toList) {i : Nat} (hi : i < a.size) : ∃ p t, a[i]? = some p ∧ p.1 = .int (K a i) t ∧ K a i = kk p := by
  obtain ⟨n, t, e⟩ := h a[i] (by simp)
  refine ⟨a[i], t, getElem?_pos a i hi, ?_, K_at (getElem?_pos a i hi)⟩
  rw [K_at (getElem?_pos a i hi)]
  unfold kk; rw [e]; rfl
theorem bey_of {left : Bool} {key : Keyed} {n : Int} {t : Tok} {arr : Array Keyed} {base m : Nat} {st : SortSt} (hk : kindOf st = oneType') (hkey : key.1 = .int n t) (ha : IK arr.toList) (hm : base + m ≤ arr.size) :
    Bey prog w A E s left key arr base m st fun i => if left = true then decide (K arr (base + i) < n) else !decide (n < K arr (base + i)) := by
  intro i hi Q q
  unfold beyond'
  obtain ⟨p, u, h1, h2, h3⟩ := ik_at ha (show base + i < arr.size by omega)
  refine wpS_bind (wpS_elem h1 ?_)
  cases left with
  | true => exact wpS_lt hk h2 hkey q
  | false => exact wpS_bind (wpS_lt hk hkey h2 (wpS_pure q))
/-- how many of a row are up to a number -/
theorem wpS_galR {key : Keyed} {n : Int} {t : Tok} {arr : Array Keyed} {base m hint : Nat} {st : SortSt} {Q : Option Nat → SortSt → Prop} (hk : kindOf st = oneType') (hkey : key.1 = .int n t) (ha : IK arr.toList) (hs : ∀ i j, base ≤ i → i ≤ j → j < base + m → K arr i ≤ K arr j) (hm : base + m ≤ arr.size) (hh : hint < m)
    (q : ∀ k, k ≤ m → (∀ i, base ≤ i → i < base + k → K arr i ≤ n) → (∀ i, base + k ≤ i → i < base + m → n < K arr i) → Q (some k) st) : wpS (model prog w) A E s (gallop' false key arr base m hint) Q st := by
  refine wpS_gallop (bey_of hk hkey ha hm) (fun i j h1 h2 h3 => ?_) hh fun k h1 h2 h3 => q k h1 (fun i h4 h5 => ?_) fun i h4 h5 => ?_
  · simp only [Bool.false_eq_true, if_false, Bool.not_eq_true', decide_eq_false_iff_not] at h3 ⊢
    have := hs (base + i) (base + j) (by omega) (by omega) (by omega)
    omega
  · have := h2 (i - base) (by omega)
    simp only [Bool.false_eq_true, if_false, Bool.not_eq_true', decide_eq_false_iff_not] at this
    rw [show base + (i - base) = i by omega] at this
    omega
  · have := h3 (i - base) (by omega) (by omega)
    simp only [Bool.false_eq_true, if_false, Bool.not_eq_false', decide_eq_true_eq] at this
    rw [show base + (i - base) = i by omega] at this
    exact this
/-- how many of a row are below a number -/
theorem wpS_galL {key : Keyed} {n : Int} {t : Tok} {arr : Array Keyed} {base m hint : Nat} {st : SortSt} {Q : Option Nat → SortSt → Prop} (hk : kindOf st = oneType') (hkey : key.1 = .int n t) (ha : IK arr.toList) (hs : ∀ i j, base ≤ i → i ≤ j → j < base + m → K arr i ≤ K arr j) (hm : base + m ≤ arr.size) (hh : hint < m)
    (q : ∀ k, k ≤ m → (∀ i, base ≤ i → i < base + k → K arr i < n) → (∀ i, base + k ≤ i → i < base + m → n ≤ K arr i) → Q (some k) st) : wpS (model prog w) A E s (gallop' true key arr base m hint) Q st := by
  refine wpS_gallop (bey_of hk hkey ha hm) (fun i j h1 h2 h3 => ?_) hh fun k h1 h2 h3 => q k h1 (fun i h4 h5 => ?_) fun i h4 h5 => ?_
  · simp only [if_true, decide_eq_true_eq] at h3 ⊢
    have := hs (base + i) (base + j) (by omega) (by omega) (by omega)
    omega
  · have := h2 (i - base) (by omega)
    simp only [if_true, decide_eq_true_eq] at this
    rw [show base + (i - base) = i by omega] at this
    exact this
  · have := h3 (i - base) (by omega) (by omega)
    simp only [if_true, decide_eq_false_iff_not] at this
    rw [show base + (i - base) = i by omega] at this
    omega
end Mine

end
section -- TS3
open PySem PyProof.Rows
namespace Mine
variable {prog : Program} {w : World} {A : Around} {E : Value → Shared → Prop} {s : Shared}
variable {a b : Array Keyed} {st : SortSt}

/-- the merged row -/
noncomputable def Mrg (a b : Array Keyed) (out : Array Keyed) : Prop := out.toList.Perm (a.toList ++ b.toList) ∧ out.toList.Pairwise le
theorem MI.dn {out : Array Keyed} {ia ib : Nat} (h : MI a b out.toList ia ib) (ha : Srt a) (hb : Srt b) (hk : ∀ i j, ia ≤ i → i < a.size → ib ≤ j → j < b.size → K a i ≤ K b j) : Mrg a b (out ++ a.extract ia a.size ++ b.extract ib b.size) := by
  have := h.done ha hb hk
  unfold Mrg
  rw [Array.toList_append, Array.toList_append, ext_all, ext_all]
  exact this
theorem Mrg.swap {out : Array Keyed} (h : Mrg a b out) : Mrg b a out := ⟨h.1.trans List.perm_append_comm, h.2⟩
theorem MI.pushA {out : Array Keyed} {ia ib : Nat} {p : Keyed} (h : MI a b out.toList ia ib) (ha : Srt a) (hp : a[ia]? = some p) (hk : ∀ j, ib ≤ j → j < b.size → K a ia ≤ K b j) : MI a b (out.push p).toList (ia + 1) ib := by
  have := h.take ha (k := 1) fun i j h1 h2 _ h3 h4 => by
    have : i = ia := by omega
    subst this; exact hk j h3 h4
  rw [take_one hp] at this
  rw [Array.toList_push]; exact this
theorem MI.extA {out : Array Keyed} {ia ib k : Nat} (h : MI a b out.toList ia ib) (ha : Srt a) (hk : ∀ i j, ia ≤ i → i < ia + k → i < a.size → ib ≤ j → j < b.size → K a i ≤ K b j) : MI a b (out ++ a.extract ia (ia + k)).toList (ia + k) ib := by
  rw [Array.toList_append, ext_list]; exact h.take ha hk
theorem MI.start {p : Keyed} (h : b[0]? = some p) (ha : Srt a) (hb : Srt b) (h0 : ∀ j, j < a.size → K b 0 ≤ K a j) : MI a b (#[p] : Array Keyed).toList 0 1 := by
  have h1 : MI a b (#[] : Array Keyed).toList 0 0 := ⟨by simp, .nil, fun x hx => by simp at hx, fun x hx => by simp at hx⟩
  exact (h1.swap.pushA hb h fun j _ hj => h0 j hj).swap

abbrev LoSt := Option (Array Keyed) × Array Keyed × Nat × Nat × Nat × Nat × Nat
noncomputable def loDone (a b out : Array Keyed) (ia ib : Nat) : Array Keyed := out ++ a.extract ia a.size ++ b.extract ib b.size
noncomputable def loLast (a b out : Array Keyed) (ia ib : Nat) : Array Keyed := out ++ b.extract ib b.size ++ a.extract ia a.size
noncomputable def loC (a b out : Array Keyed) (ia ib mg ac bc : Nat) : StateT SortSt Sem (ForInStep LoSt) := do
  let out := out.push (← elem' a ia)
  let ia := ia + 1
  if ia + 1 == a.size then return .done (some (loLast a b out ia ib), out, ia, ib, mg, ac, bc)
  if ac < 7 && bc < 7 then return .done (none, out, ia, ib, mg, ac, bc)
  return .yield (none, out, ia, ib, mg, ac, bc)
noncomputable def loB (a b out : Array Keyed) (ia ib mg ac bc : Nat) : StateT SortSt Sem (ForInStep LoSt) := do
  let out := out.push (← elem' b ib)
  let ib := ib + 1
  if ib == b.size then return .done (some (loDone a b out ia ib), out, ia, ib, mg, ac, bc)
  let some k ← gallop' true (← elem' a ia) b ib (b.size - ib) 0 | return .done (some (loDone a b out ia ib), out, ia, ib, mg, ac, bc)
  if k > 0 then
    if ib + k == b.size then return .done (some (loDone a b (out ++ b.extract ib (ib + k)) ia (ib + k)), out ++ b.extract ib (ib + k), ia, ib + k, mg, ac, k)
    loC a b (out ++ b.extract ib (ib + k)) ia (ib + k) mg ac k
  else loC a b out ia ib mg ac k
noncomputable def loA (a b out : Array Keyed) (ia ib mg ac bc : Nat) : StateT SortSt Sem (ForInStep LoSt) := do
  setMinGallop' mg
  let some k ← gallop' false (← elem' b ib) a ia (a.size - ia) 0 | return .done (some (loDone a b out ia ib), out, ia, ib, mg, ac, bc)
  if k > 0 then
    if ia + k + 1 == a.size then return .done (some (loLast a b (out ++ a.extract ia (ia + k)) (ia + k) ib), out ++ a.extract ia (ia + k), ia + k, ib, mg, k, bc)
    if ia + k == a.size then return .done (some (loDone a b (out ++ a.extract ia (ia + k)) (ia + k) ib), out ++ a.extract ia (ia + k), ia + k, ib, mg, k, bc)
    loB a b (out ++ a.extract ia (ia + k)) (ia + k) ib mg k bc
  else loB a b out ia ib mg k bc
/-- between two turns -/
noncomputable def LoI (a b : Array Keyed) (st : SortSt) (x : Nat) (c : LoSt) (st' : SortSt) : Prop := ∃ out ia ib mg ac bc g, c = (none, out, ia, ib, mg, ac, bc) ∧ st' = setG st g ∧ MI a b out.toList ia ib ∧ ia + 1 < a.size ∧ ib < b.size ∧ x < ia + ib
noncomputable def LoQ (a b : Array Keyed) (st : SortSt) (x : Nat) (c : LoSt) (st' : SortSt) : Prop := (∃ r rest g, c = (some r, rest) ∧ st' = setG st g ∧ Mrg a b r) ∨ LoI a b st x c st'
noncomputable def LoP (a b : Array Keyed) (st : SortSt) (x : Nat) (r : ForInStep LoSt) (st' : SortSt) : Prop := match r with
  | .done c => LoQ a b st x c st'
  | .yield c => LoI a b st x c st'
/-- what the two rows are -/
structure Two (a b : Array Keyed) : Prop where
  ka : IK a.toList
  kb : IK b.toList
  sa : Srt a
  sb : Srt b
  na : 0 < a.size
  nb : 0 < b.size
  h0 : ∀ j, j < a.size → K b 0 ≤ K a j
  hl : ∀ j, j < b.size → K b j ≤ K a (a.size - 1)
section
variable {out : Array Keyed} {ia ib mg ac bc g x : Nat}
theorem Two.last (T : Two a b) (h : MI a b out.toList ia ib) (e : ia + 1 = a.size) : Mrg a b (loLast a b out ia ib) :=
  (h.swap.dn T.sb T.sa fun i j h3 h4 h5 h6 => by
      have : j = a.size - 1 := by omega
      subst this; exact T.hl i h4).swap
theorem Two.endB (T : Two a b) (h : MI a b out.toList ia ib) (e : ib = b.size) : Mrg a b (loDone a b out ia ib) := h.dn T.sa T.sb fun i j _ _ h5 h6 => by omega
theorem Two.endA (T : Two a b) (h : MI a b out.toList ia ib) (e : ia = a.size) : Mrg a b (loDone a b out ia ib) := h.dn T.sa T.sb fun i j h3 h4 _ _ => by omega
theorem wpS_loC (T : Two a b) (hM : MI a b out.toList ia ib) (h3 : ia + 1 < a.size) (h4 : ib < b.size) (h5 : x ≤ ia + ib) (hk : ∀ j, ib ≤ j → j < b.size → K a ia ≤ K b j) : wpS (model prog w) A E s (loC a b out ia ib mg ac bc) (LoP a b st x) (setG st g) := by
  unfold loC
  obtain ⟨pa, ta, ea, ka1, ka2⟩ := ik_at T.ka (show ia < a.size by omega)
  refine wpS_bind (wpS_elem ea ?_)
  have M1 := hM.pushA T.sa ea hk
  by_cases hend : ia + 1 + 1 = a.size
  · rw [if_pos (by simpa using hend)]
    exact wpS_pure (.inl ⟨_, _, g, rfl, rfl, T.last M1 hend⟩)
  rw [if_neg (by simpa using hend)]
  split
  · exact wpS_pure (.inr ⟨_, _, _, _, _, _, g, rfl, rfl, M1, by omega, h4, by omega⟩)
  · exact wpS_pure ⟨_, _, _, _, _, _, g, rfl, rfl, M1, by omega, h4, by omega⟩
theorem wpS_loB (T : Two a b) (hs : kindOf st = oneType') (hM : MI a b out.toList ia ib) (h3 : ia + 1 < a.size) (h4 : ib < b.size) (h5 : x ≤ ia + ib) (hk : ∀ i, ia ≤ i → i < a.size → K b ib ≤ K a i) : wpS (model prog w) A E s (loB a b out ia ib mg ac bc) (LoP a b st x) (setG st g) := by
  unfold loB
  obtain ⟨pb, tb, eb, kb1, kb2⟩ := ik_at T.kb h4
  obtain ⟨pa, ta, ea, ka1, ka2⟩ := ik_at T.ka (show ia < a.size by omega)
  refine wpS_bind (wpS_elem eb ?_)
  have M1 := (hM.swap.pushA T.sb eb hk).swap
  by_cases hend : ib + 1 = b.size
  · rw [if_pos (by simpa using hend)]
    exact wpS_pure (.inl ⟨_, _, g, rfl, rfl, T.endB M1 hend⟩)
  rw [if_neg (by simpa using hend)]
  refine wpS_bind (wpS_elem ea (wpS_bind (wpS_galL hs ka1 T.kb (fun i j _ h6 h7 => T.sb i j h6 (by omega)) (by omega) (by omega) fun k hk1 hk2 hk3 => ?_)))
  dsimp only
  have M2 := (M1.swap.extA T.sb (k := k) fun i j h6 h7 h8 h9 h10 => Int.le_trans (Int.le_of_lt (hk2 i h6 h7)) (T.sa ia j h9 h10)).swap
  by_cases hk0 : k > 0
  · rw [if_pos hk0]
    by_cases hend : ib + 1 + k = b.size
    · rw [if_pos (by simpa using hend)]
      exact wpS_pure (.inl ⟨_, _, g, rfl, rfl, T.endB M2 hend⟩)
    · rw [if_neg (by simpa using hend)]
      exact wpS_loC T M2 h3 (by omega) (by omega) fun j h6 h7 => hk3 j h6 (by omega)
  · rw [if_neg hk0]
    exact wpS_loC T M1 h3 (by omega) (by omega) fun j h6 h7 => hk3 j (by omega) (by omega)
theorem wpS_loA (T : Two a b) (hs : kindOf st = oneType') (hM : MI a b out.toList ia ib) (h3 : ia + 1 < a.size) (h4 : ib < b.size) (h5 : x ≤ ia + ib) : wpS (model prog w) A E s (loA a b out ia ib mg ac bc) (LoP a b st x) (setG st g) := by
  unfold loA setMinGallop'
  obtain ⟨pb, tb, eb, kb1, kb2⟩ := ik_at T.kb h4
  refine wpS_bind (wpS_modify (wpS_bind (wpS_elem eb (wpS_bind (wpS_galR hs kb1 T.ka (fun i j _ h6 h7 => T.sa i j h6 (by omega)) (by omega) (by omega) fun k hk1 hk2 hk3 => ?_)))))
  dsimp only
  have M2 := hM.extA T.sa (k := k) fun i j h6 h7 h8 h9 h10 => Int.le_trans (hk2 i h6 h7) (T.sb ib j h9 h10)
  by_cases hk0 : k > 0
  · rw [if_pos hk0]
    by_cases hend : ia + k + 1 = a.size
    · rw [if_pos (by simpa using hend)]
      exact wpS_pure (.inl ⟨_, _, mg, rfl, rfl, T.last M2 hend⟩)
    rw [if_neg (by simpa using hend)]
    by_cases hend2 : ia + k = a.size
    · rw [if_pos (by simpa using hend2)]
      exact wpS_pure (.inl ⟨_, _, mg, rfl, rfl, T.endA M2 hend2⟩)
    rw [if_neg (by simpa using hend2)]
    exact wpS_loB (st := st) (g := mg) T hs M2 (by omega) h4 (by omega) fun i h6 h7 => Int.le_of_lt (hk3 i h6 (by omega))
  · rw [if_neg hk0]
    exact wpS_loB (st := st) (g := mg) T hs hM h3 h4 h5 fun i h6 h7 => Int.le_of_lt (hk3 i (by omega) (by omega))
end
abbrev Lo1 := Option (Array Keyed) × Array Keyed × Nat × Nat × Nat × Nat
/-- one comparison -/
noncomputable def loS (a b : Array Keyed) (mg : Nat) (c : Lo1) : StateT SortSt Sem (ForInStep Lo1) := do
  let y ← elem' b c.2.2.2.1
  let x ← elem' a c.2.2.1
  let r ← lt' y x
  match r with
  | some bWins =>
    if bWins = true then do
      let p ← elem' b c.2.2.2.1
      if (c.2.2.2.1 + 1 == b.size) = true then pure (.done (some (loDone a b (c.2.1.push p) c.2.2.1 (c.2.2.2.1 + 1)), c.2.1.push p, c.2.2.1, c.2.2.2.1 + 1, 0, c.2.2.2.2.2 + 1))
      else if c.2.2.2.2.2 + 1 ≥ mg then pure (.done (none, c.2.1.push p, c.2.2.1, c.2.2.2.1 + 1, 0, c.2.2.2.2.2 + 1))
      else pure (.yield (none, c.2.1.push p, c.2.2.1, c.2.2.2.1 + 1, 0, c.2.2.2.2.2 + 1))
    else do
      let p ← elem' a c.2.2.1
      if (c.2.2.1 + 1 + 1 == a.size) = true then pure (.done (some (loLast a b (c.2.1.push p) (c.2.2.1 + 1) c.2.2.2.1), c.2.1.push p, c.2.2.1 + 1, c.2.2.2.1, c.2.2.2.2.1 + 1, 0))
      else if c.2.2.2.2.1 + 1 ≥ mg then pure (.done (none, c.2.1.push p, c.2.2.1 + 1, c.2.2.2.1, c.2.2.2.2.1 + 1, 0))
      else pure (.yield (none, c.2.1.push p, c.2.2.1 + 1, c.2.2.2.1, c.2.2.2.2.1 + 1, 0))
  | _ => pure (.done (some (loDone a b c.2.1 c.2.2.1 c.2.2.2.1), c.2))
noncomputable def loG (a b : Array Keyed) (c : LoSt) : StateT SortSt Sem (ForInStep LoSt) :=
  if c.2.2.2.2.1 > 1 then loA a b c.2.1 c.2.2.1 c.2.2.2.1 (c.2.2.2.2.1 - 1) c.2.2.2.2.2.1 c.2.2.2.2.2.2 else loA a b c.2.1 c.2.2.1 c.2.2.2.1 c.2.2.2.2.1 c.2.2.2.2.2.1 c.2.2.2.2.2.2
abbrev LoT := Option (Array Keyed) × Array Keyed × Nat × Nat × Nat
noncomputable def loE (c : LoSt) : StateT SortSt Sem (ForInStep LoT) := match c.1 with
  | some r => pure (.done (some r, c.2.1, c.2.2.1, c.2.2.2.1, c.2.2.2.2.1))
  | none => do
    setMinGallop' (c.2.2.2.2.1 + 1)
    pure (.yield (none, c.2.1, c.2.2.1, c.2.2.2.1, c.2.2.2.2.1 + 1))
noncomputable def loM (a b : Array Keyed) (mg : Nat) (c : Lo1) : StateT SortSt Sem (ForInStep LoT) := match c.1 with
  | some r => pure (.done (some r, c.2.1, c.2.2.1, c.2.2.2.1, mg))
  | none => do
    liftM (rule "list.sort.gallop")
    let d ← forIn [:a.size + b.size] ((none, c.2.1, c.2.2.1, c.2.2.2.1, mg + 1, c.2.2.2.2.1, c.2.2.2.2.2) : LoSt) fun _ d => loG a b d
    loE d
noncomputable def loT (a b : Array Keyed) (c : LoT) : StateT SortSt Sem (ForInStep LoT) := do
  let d ← forIn [:a.size + b.size] ((none, c.2.1, c.2.2.1, c.2.2.2.1, 0, 0) : Lo1) fun _ d => loS a b c.2.2.2.2 d
  loM a b c.2.2.2.2 d
noncomputable def loF (c : LoT) : StateT SortSt Sem (Array Keyed) := match c.1 with
  | some r => pure r
  | none => liftM (unsupported "internal:list.sort.merge-bound" : Sem (Array Keyed))
theorem mergeLo_named (a b : Array Keyed) : mergeLo' a b = (do
    liftM (rule "list.sort.merge-lo")
    let p ← elem' b 0
    if (1 == b.size) = true then pure (loDone a b #[p] 0 1)
    else if (0 + 1 == a.size) = true then pure (loLast a b #[p] 0 1)
    else do
      let t ← get
      let c ← forIn [:a.size + b.size] ((none, #[p], 0, 1, gallopOf t) : LoT) fun _ c => loT a b c
      loF c) := by
  kernel_rfl
/-- between two comparisons -/
noncomputable def L1I (a b : Array Keyed) (x : Nat) (c : Lo1) : Prop := ∃ out ia ib ac bc, c = (none, out, ia, ib, ac, bc) ∧ MI a b out.toList ia ib ∧ ia + 1 < a.size ∧ ib < b.size ∧ x < ia + ib
noncomputable def L1Q (a b : Array Keyed) (x : Nat) (c : Lo1) : Prop := (∃ r rest, c = (some r, rest) ∧ Mrg a b r) ∨ L1I a b x c
theorem wpS_loS {x mg : Nat} {c : Lo1} {Z : ForInStep Lo1 → SortSt → Prop} (T : Two a b) (hk : kindOf st = oneType') (h : L1I a b x c) (z1 : ∀ c, L1Q a b (x + 1) c → Z (.done c) st) (z2 : ∀ c, L1I a b (x + 1) c → Z (.yield c) st) : wpS (model prog w) A E s (loS a b mg c) Z st := by
  obtain ⟨out, ia, ib, ac, bc, rfl, hM, h3, h4, h5⟩ := h
  unfold loS
  obtain ⟨pb, tb, eb, kb1, kb2⟩ := ik_at T.kb h4
  obtain ⟨pa, ta, ea, ka1, ka2⟩ := ik_at T.ka (Nat.lt_of_succ_lt h3)
  refine wpS_bind (wpS_elem eb (wpS_bind (wpS_elem ea (wpS_bind (wpS_lt hk kb1 ka1 ?_)))))
  dsimp only
  by_cases hlt : K b ib < K a ia
  · rw [if_pos (decide_eq_true hlt)]
    refine wpS_bind (wpS_elem eb ?_)
    have M1 : MI a b (out.push pb).toList ia (ib + 1) := (hM.swap.pushA T.sb eb fun j h6 h7 => Int.le_trans (Int.le_of_lt hlt) (T.sa ia j h6 h7)).swap
    have h6 : x + 1 < ia + (ib + 1) := Nat.succ_lt_succ h5
    by_cases hend : ib + 1 = b.size
    · rw [if_pos (beq_iff_eq.mpr hend)]
      exact wpS_pure (z1 _ (.inl ⟨_, _, rfl, T.endB M1 hend⟩))
    rw [if_neg (fun q => hend (beq_iff_eq.mp q))]
    have I1 : L1I a b (x + 1) (none, out.push pb, ia, ib + 1, 0, bc + 1) := ⟨_, _, _, _, _, rfl, M1, h3, Nat.lt_of_le_of_ne h4 hend, h6⟩
    split
    · exact wpS_pure (z1 _ (.inr I1))
    · exact wpS_pure (z2 _ I1)
  · rw [if_neg (fun q => hlt (of_decide_eq_true q))]
    refine wpS_bind (wpS_elem ea ?_)
    have M1 : MI a b (out.push pa).toList (ia + 1) ib := hM.pushA T.sa ea fun j h6 h7 => Int.le_trans (Int.not_lt.mp hlt) (T.sb ib j h6 h7)
    have h6 : x + 1 < ia + 1 + ib := by omega
    by_cases hend : ia + 1 + 1 = a.size
    · rw [if_pos (beq_iff_eq.mpr hend)]
      exact wpS_pure (z1 _ (.inl ⟨_, _, rfl, T.last M1 hend⟩))
    rw [if_neg (fun q => hend (beq_iff_eq.mp q))]
    have I1 : L1I a b (x + 1) (none, out.push pa, ia + 1, ib, ac + 1, 0) := ⟨_, _, _, _, _, rfl, M1, Nat.lt_of_le_of_ne h3 hend, h4, h6⟩
    split
    · exact wpS_pure (z1 _ (.inr I1))
    · exact wpS_pure (z2 _ I1)
theorem L1I.mono {x y : Nat} {c : Lo1} (h : L1I a b y c) (hx : x ≤ y) : L1I a b x c := by
  obtain ⟨out, ia, ib, ac, bc, e, hM, h3, h4, h5⟩ := h
  exact ⟨out, ia, ib, ac, bc, e, hM, h3, h4, Nat.lt_of_le_of_lt hx h5⟩
theorem L1Q.mono {x y : Nat} {c : Lo1} (h : L1Q a b y c) (hx : x ≤ y) : L1Q a b x c := h.imp id fun h => h.mono hx
theorem wpS_loG {x : Nat} {c : LoSt} {st' : SortSt} (T : Two a b) (hk : kindOf st = oneType') (h : LoI a b st x c st') : wpS (model prog w) A E s (loG a b c) (LoP a b st x) st' := by
  obtain ⟨out, ia, ib, mg, ac, bc, g, rfl, rfl, hM, h3, h4, h5⟩ := h
  unfold loG
  split
  · exact wpS_loA T hk hM h3 h4 (Nat.le_of_lt h5)
  · exact wpS_loA T hk hM h3 h4 (Nat.le_of_lt h5)
noncomputable def LTI (a b : Array Keyed) (st : SortSt) (x : Nat) (c : LoT) (st' : SortSt) : Prop := ∃ out ia ib mg g, c = (none, out, ia, ib, mg) ∧ st' = setG st g ∧ MI a b out.toList ia ib ∧ ia + 1 < a.size ∧ ib < b.size ∧ x < ia + ib
noncomputable def LTQ (a b : Array Keyed) (st : SortSt) (c : LoT) (st' : SortSt) : Prop := ∃ r rest g, c = (some r, rest) ∧ st' = setG st g ∧ Mrg a b r
noncomputable def LTP (a b : Array Keyed) (st : SortSt) (x : Nat) (r : ForInStep LoT) (st' : SortSt) : Prop := match r with
  | .done c => LTQ a b st c st'
  | .yield c => LTI a b st x c st'
theorem wpS_loM {x g mg : Nat} {c : Lo1} (T : Two a b) (hk : kindOf st = oneType') (h : L1Q a b x c) : wpS (model prog w) A E s (loM a b mg c) (LTP a b st x) (setG st g) := by
  rcases h with ⟨r, rest, rfl, hr⟩ | ⟨out, ia, ib, ac, bc, rfl, hM, h3, h4, h5⟩
  · exact wpS_pure ⟨r, _, g, rfl, rfl, hr⟩
  · refine wpS_bind (wpS_lift (wpAny_rule ⟨rfl, ?_⟩))
    refine wpS_bind (wpS_mono (wpS_forRange (I := fun _ c st' => LoI a b st x c st') (Q := LoQ a b st x) (fun y c st' _ _ h => wpS_mono (wpS_loG T hk h) fun r st' h => by cases r <;> exact h) (fun c st' h => .inr h) ⟨out, ia, ib, mg + 1, ac, bc, g, rfl, rfl, hM, h3, h4, h5⟩) ?_)
    rintro c st' (⟨r, rest, g', rfl, rfl, hr⟩ | ⟨out, ia, ib, mg', ac', bc', g', rfl, rfl, hM, h3, h4, h5⟩)
    · exact wpS_pure ⟨r, _, g', rfl, rfl, hr⟩
    · exact wpS_bind (wpS_modify (wpS_pure ⟨out, ia, ib, mg' + 1, mg' + 1, rfl, rfl, hM, h3, h4, h5⟩))
theorem wpS_loT {x : Nat} {c : LoT} {st' : SortSt} (T : Two a b) (hk : kindOf st = oneType') (h : LTI a b st x c st') : wpS (model prog w) A E s (loT a b c) (LTP a b st (x + 1)) st' := by
  obtain ⟨out, ia, ib, mg, g, rfl, rfl, hM, h3, h4, h5⟩ := h
  refine wpS_bind (wpS_mono (wpS_forRange (I := fun y c st' => st' = setG st g ∧ L1I a b (x + y) c) (Q := fun c st' => st' = setG st g ∧ L1Q a b (x + 1) c) (fun y c st' _ _ h => ?_) (fun c st' h => ⟨h.1, .inr (h.2.mono (by have := T.na; omega))⟩) ⟨rfl, out, ia, ib, 0, 0, rfl, hM, h3, h4, h5⟩) ?_)
  · obtain ⟨rfl, h⟩ := h
    exact wpS_loS T hk h (fun c q => ⟨rfl, q.mono (by omega)⟩) fun c q => ⟨rfl, q⟩
  · rintro c st' ⟨rfl, q⟩
    exact wpS_loM T hk q
theorem wpS_mergeLo {Q : Array Keyed → SortSt → Prop} (hk : kindOf st = oneType') (T : Two a b) (q : ∀ out g, Mrg a b out → Q out (setG st g)) : wpS (model prog w) A E s (mergeLo' a b) Q st := by
  rw [mergeLo_named]
  refine wpS_bind (wpS_lift (wpAny_rule ⟨rfl, ?_⟩))
  obtain ⟨p0, t0, e0, _, _⟩ := ik_at T.kb T.nb
  have M0 := MI.start e0 T.sa T.sb T.h0
  refine wpS_bind (wpS_elem e0 ?_)
  have h1 := T.na
  have h2 := T.nb
  by_cases hb1 : 1 = b.size
  · rw [if_pos (beq_iff_eq.mpr hb1)]
    exact wpS_pure (q _ (gallopOf st) (T.endB M0 hb1))
  rw [if_neg (fun q => hb1 (beq_iff_eq.mp q))]
  by_cases ha1 : 0 + 1 = a.size
  · rw [if_pos (beq_iff_eq.mpr ha1)]
    exact wpS_pure (q _ (gallopOf st) (T.last M0 ha1))
  rw [if_neg (fun q => ha1 (beq_iff_eq.mp q))]
  refine wpS_bind (wpS_get (wpS_bind (wpS_mono (wpS_forRange (I := fun x c st' => LTI a b st x c st') (Q := LTQ a b st) (fun y c st' _ _ h => wpS_mono (wpS_loT T hk h) fun r st' h => by cases r <;> exact h) ?_ ⟨#[p0], 0, 1, gallopOf st, gallopOf st, rfl, rfl, M0, by omega, by omega, Nat.zero_lt_one⟩) ?_)))
  · rintro c st' ⟨out, ia, ib, mg, g, rfl, rfl, hM, h3, h4, h5⟩
    exfalso; omega
  · rintro c st' ⟨r, rest, g, rfl, rfl, hM⟩
    exact wpS_pure (q _ _ hM)
end Mine

end
section -- TS4
open PySem PyProof.Rows
namespace Mine
variable {prog : Program} {w : World} {A : Around} {E : Value → Shared → Prop} {s : Shared}
variable {a b : Array Keyed} {st : SortSt}

structure HI (a b : Array Keyed) (out : Array Keyed) (na nb : Nat) : Prop where
  perm : (a.toList.take na ++ (b.toList.take nb ++ out.toList.reverse)).Perm (a.toList ++ b.toList)
  srt : out.toList.reverse.Pairwise le
  la : ∀ x ∈ out.toList, ∀ i, i < na → i < a.size → K a i ≤ kk x
  lb : ∀ x ∈ out.toList, ∀ i, i < nb → i < b.size → K b i ≤ kk x
section
variable {out : Array Keyed} {na nb : Nat}
theorem HI.swap (h : HI a b out na nb) : HI b a out nb na := by
  refine ⟨?_, h.srt, h.lb, h.la⟩
  have e : (b.toList.take nb ++ (a.toList.take na ++ out.toList.reverse)).Perm (a.toList.take na ++ (b.toList.take nb ++ out.toList.reverse)) := by
    rw [← List.append_assoc, ← List.append_assoc]; exact List.perm_append_comm.append_right _
  exact (e.trans h.perm).trans List.perm_append_comm
theorem HI.take (h : HI a b out na nb) (hs : Srt a) {m : Nat} (hm : m ≤ na) (hn : na ≤ a.size) {out' : Array Keyed} (ho : out'.toList.reverse = (a.toList.drop m).take (na - m) ++ out.toList.reverse)
    (hk : ∀ i j, m ≤ i → i < na → j < nb → j < b.size → K b j ≤ K a i) : HI a b out' m nb := by
  have hmem : ∀ x, x ∈ out'.toList → x ∈ (a.toList.drop m).take (na - m) ∨ x ∈ out.toList := fun x hx => by
    have : x ∈ out'.toList.reverse := List.mem_reverse.mpr hx
    rw [ho] at this
    rcases List.mem_append.mp this with q | q
    · exact .inl q
    · exact .inr (List.mem_reverse.mp q)
  refine ⟨?_, ?_, fun x hx i h1 h2 => ?_, fun x hx i h1 h2 => ?_⟩
  · have e : a.toList.take na = a.toList.take m ++ (a.toList.drop m).take (na - m) := by
      rw [List.take_drop, show m + (na - m) = na by omega]
      have := List.take_append_drop m (a.toList.take na)
      rw [List.take_take, Nat.min_eq_left hm] at this
      exact this.symm
    refine List.Perm.trans ?_ h.perm
    rw [e, ho, List.append_assoc]
    refine List.Perm.append_left _ ?_
    rw [← List.append_assoc, ← List.append_assoc]
    exact List.perm_append_comm.append_right _
  · rw [ho]
    refine List.pairwise_append.mpr ⟨seg_srt hs _ _, h.srt, fun x hx y hy => ?_⟩
    obtain ⟨i, h1, h2, h3, h4⟩ := seg_mem hx
    show kk x ≤ kk y
    rw [h4]; exact h.la y (List.mem_reverse.mp hy) i (by omega) h3
  · rcases hmem x hx with q | q
    · obtain ⟨j, k1, k2, k3, k4⟩ := seg_mem q
      rw [k4]; exact hs i j (by omega) k3
    · exact h.la x q i (by omega) h2
  · rcases hmem x hx with q | q
    · obtain ⟨j, k1, k2, k3, k4⟩ := seg_mem q
      rw [k4]; exact hk j i k1 (by omega) h1 h2
    · exact h.lb x q i h1 h2
theorem HI.pushA {p : Keyed} (h : HI a b out na nb) (hs : Srt a) (h1 : 0 < na) (hn : na ≤ a.size) (hp : a[na - 1]? = some p) (hk : ∀ j, j < nb → j < b.size → K b j ≤ K a (na - 1)) : HI a b (out.push p) (na - 1) nb := by
  refine h.take hs (by omega) hn ?_ fun i j h2 h3 h4 h5 => ?_
  · rw [show na - (na - 1) = 1 by omega, take_one hp, Array.toList_push, List.reverse_append]; rfl
  · have : i = na - 1 := by omega
    subst this; exact hk j h4 h5
theorem HI.extA {m : Nat} (h : HI a b out na nb) (hs : Srt a) (hm : m ≤ na) (hn : na ≤ a.size) (hk : ∀ i j, m ≤ i → i < na → j < nb → j < b.size → K b j ≤ K a i) : HI a b (out ++ (a.extract m na).reverse) m nb := by
  refine h.take hs hm hn ?_ hk
  have e := ext_list a m (na - m)
  rw [show m + (na - m) = na by omega] at e
  rw [Array.toList_append, Array.toList_reverse, List.reverse_append, List.reverse_reverse, e]
theorem ext_take (a : Array Keyed) (n : Nat) : (a.extract 0 n).toList = a.toList.take n := by
  have := ext_list a 0 n
  rw [Nat.zero_add] at this
  simpa using this
theorem take_srt (hs : Srt a) (n : Nat) : (a.toList.take n).Pairwise le := by
  have := seg_srt hs 0 n
  simpa using this
theorem take_mem {n : Nat} {x : Keyed} (h : x ∈ a.toList.take n) : ∃ i, i < n ∧ i < a.size ∧ kk x = K a i := by
  have h' : x ∈ (a.toList.drop 0).take n := by simpa using h
  obtain ⟨i, _, h2, h3, h4⟩ := seg_mem h'
  exact ⟨i, by omega, h3, h4⟩
theorem HI.dn (h : HI a b out na nb) (ha : Srt a) (hb : Srt b) (hk : ∀ i j, i < na → i < a.size → j < nb → j < b.size → K a i ≤ K b j) : Mrg a b (a.extract 0 na ++ b.extract 0 nb ++ out.reverse) := by
  unfold Mrg
  rw [Array.toList_append, Array.toList_append, ext_take, ext_take, Array.toList_reverse, List.append_assoc]
  refine ⟨h.perm, List.pairwise_append.mpr ⟨take_srt ha _, List.pairwise_append.mpr ⟨take_srt hb _, h.srt, fun x hx y hy => ?_⟩, fun x hx y hy => ?_⟩⟩
  · obtain ⟨i, h1, h2, h3⟩ := take_mem hx
    show kk x ≤ kk y
    rw [h3]; exact h.lb y (List.mem_reverse.mp hy) i h1 h2
  · obtain ⟨i, h1, h2, h3⟩ := take_mem hx
    show kk x ≤ kk y
    rw [h3]
    rcases List.mem_append.mp hy with hy | hy
    · obtain ⟨j, k1, k2, k3⟩ := take_mem hy
      rw [k3]; exact hk i j h1 h2 k1 k2
    · exact h.la y (List.mem_reverse.mp hy) i h1 h2
end
end Mine

end
section -- TS5
open PySem PyProof.Rows
namespace Mine
variable {prog : Program} {w : World} {A : Around} {E : Value → Shared → Prop} {s : Shared}
variable {a b : Array Keyed} {st : SortSt}

noncomputable def hiDone (a b out : Array Keyed) (na nb : Nat) : Array Keyed := a.extract 0 na ++ b.extract 0 nb ++ out.reverse
noncomputable def hiFirst (a b out : Array Keyed) (na nb : Nat) : Array Keyed := b.extract 0 nb ++ a.extract 0 na ++ out.reverse
abbrev HiSt := Option (Array Keyed) × Nat × Nat × Array Keyed × Nat × Nat × Nat
noncomputable def hiC (a b out : Array Keyed) (na nb mg ac bc : Nat) : StateT SortSt Sem (ForInStep HiSt) := do
  let na := na - 1
  let out := out.push (← elem' a na)
  if na == 0 then return .done (some (hiDone a b out na nb), na, nb, out, mg, ac, bc)
  if ac < 7 && bc < 7 then return .done (none, na, nb, out, mg, ac, bc)
  return .yield (none, na, nb, out, mg, ac, bc)
noncomputable def hiB (a b out : Array Keyed) (na nb mg ac bc : Nat) : StateT SortSt Sem (ForInStep HiSt) := do
  let nb := nb - 1
  let out := out.push (← elem' b nb)
  if nb == 1 then return .done (some (hiFirst a b out na nb), na, nb, out, mg, ac, bc)
  let some m ← gallop' true (← elem' a (na - 1)) b 0 nb (nb - 1) | return .done (some (hiDone a b out na nb), na, nb, out, mg, ac, bc)
  if nb - m > 0 then
    if m == 1 then return .done (some (hiFirst a b (out ++ (b.extract m nb).reverse) na m), na, m, out ++ (b.extract m nb).reverse, mg, ac, nb - m)
    if m == 0 then return .done (some (hiDone a b (out ++ (b.extract m nb).reverse) na m), na, m, out ++ (b.extract m nb).reverse, mg, ac, nb - m)
    hiC a b (out ++ (b.extract m nb).reverse) na m mg ac (nb - m)
  else hiC a b out na nb mg ac (nb - m)
noncomputable def hiA (a b out : Array Keyed) (na nb mg ac bc : Nat) : StateT SortSt Sem (ForInStep HiSt) := do
  setMinGallop' mg
  let some m ← gallop' false (← elem' b (nb - 1)) a 0 na (na - 1) | return .done (some (hiDone a b out na nb), na, nb, out, mg, ac, bc)
  if na - m > 0 then
    if m == 0 then return .done (some (hiDone a b (out ++ (a.extract m na).reverse) m nb), m, nb, out ++ (a.extract m na).reverse, mg, na - m, bc)
    hiB a b (out ++ (a.extract m na).reverse) m nb mg (na - m) bc
  else hiB a b out na nb mg (na - m) bc
/-- both rows are left: k + 1 of the one, j + 2 of the other -/
noncomputable def HB (a b : Array Keyed) (x : Nat) (out : Array Keyed) (k j : Nat) : Prop := HI a b out (k + 1) (j + 2) ∧ k < a.size ∧ j + 1 < b.size ∧ x + (k + j + 3) < a.size + b.size
noncomputable def HiI (a b : Array Keyed) (st : SortSt) (x : Nat) (c : HiSt) (st' : SortSt) : Prop := ∃ out k j mg ac bc g, c = (none, k + 1, j + 2, out, mg, ac, bc) ∧ st' = setG st g ∧ HB a b x out k j
noncomputable def HiQ (a b : Array Keyed) (st : SortSt) (x : Nat) (c : HiSt) (st' : SortSt) : Prop := (∃ r rest g, c = (some r, rest) ∧ st' = setG st g ∧ Mrg a b r) ∨ HiI a b st x c st'
noncomputable def HiP (a b : Array Keyed) (st : SortSt) (x : Nat) (r : ForInStep HiSt) (st' : SortSt) : Prop := match r with
  | .done c => HiQ a b st x c st'
  | .yield c => HiI a b st x c st'
section
variable {out : Array Keyed} {k j na nb mg ac bc g x : Nat}
theorem Two.first (T : Two a b) (h : HI a b out na 1) : Mrg a b (hiFirst a b out na 1) :=
  (h.swap.dn T.sb T.sa fun i j h3 h4 h5 h6 => by
      rw [Nat.lt_one_iff.mp h3]; exact T.h0 j h6).swap
theorem Two.hiA0 (T : Two a b) (h : HI a b out 0 nb) : Mrg a b (hiDone a b out 0 nb) := h.dn T.sa T.sb fun i j h3 h4 _ _ => absurd h3 (Nat.not_lt_zero _)
theorem Two.hiB0 (T : Two a b) (h : HI a b out na 0) : Mrg a b (hiDone a b out na 0) := h.dn T.sa T.sb fun i j _ _ h5 h6 => absurd h5 (Nat.not_lt_zero _)
theorem less {x k j n : Nat} (h : x + (k + 1 + j + 3) ≤ n) : x + (k + j + 3) < n := by omega
theorem lessA {x k m j n : Nat} (h : x + (k + j + 3) ≤ n) (hm : m < k + 1) : x + (m + j + 3) ≤ n := by omega
theorem lessB {x k m j n : Nat} (h : x + (k + j + 3) ≤ n) (hm : m + 2 ≤ j + 1) : x + (k + m + 3) ≤ n := by omega
theorem wpS_hiC (T : Two a b) (hM : HI a b out (k + 1) (j + 2)) (h2 : k < a.size) (h4 : j + 1 < b.size) (h5 : x + (k + j + 3) ≤ a.size + b.size) (hk : ∀ i, i < j + 2 → i < b.size → K b i ≤ K a k) : wpS (model prog w) A E s (hiC a b out (k + 1) (j + 2) mg ac bc) (HiP a b st x) (setG st g) := by
  obtain ⟨pa, ta, ea, ka1, ka2⟩ := ik_at T.ka h2
  have M1 : HI a b (out.push pa) k (j + 2) := hM.pushA T.sa (Nat.succ_pos _) h2 ea hk
  unfold hiC
  refine wpS_bind (wpS_elem ea ?_)
  clear hM hk ea ka1 ka2
  cases k with
  | zero => exact wpS_pure (.inl ⟨_, _, g, rfl, rfl, T.hiA0 M1⟩)
  | succ k =>
    have I1 : HB a b x (out.push pa) k j := ⟨M1, Nat.lt_of_succ_lt h2, h4, less h5⟩
    exact wpS_if (fun h => (Bool.false_ne_true h).elim) fun _ => wpS_if (fun _ => wpS_pure (.inr ⟨_, _, _, _, _, _, g, rfl, rfl, I1⟩)) fun _ => wpS_pure ⟨_, _, _, _, _, _, g, rfl, rfl, I1⟩
theorem zadd {i m : Nat} (h : i < m) : i < 0 + m := by rw [Nat.zero_add]; exact h
theorem zadd' {i m : Nat} (h : i < 0 + m) : i < m := by rw [Nat.zero_add] at h; exact h
theorem zle {i m : Nat} (h : m ≤ i) : 0 + m ≤ i := by rw [Nat.zero_add]; exact h
theorem wpS_hiB (T : Two a b) (hs : kindOf st = oneType') (hM : HI a b out (k + 1) (j + 2)) (h2 : k < a.size) (h4 : j + 1 < b.size) (h5 : x + (k + j + 3) ≤ a.size + b.size) (hk : ∀ i, i < k + 1 → i < a.size → K a i ≤ K b (j + 1)) : wpS (model prog w) A E s (hiB a b out (k + 1) (j + 2) mg ac bc) (HiP a b st x) (setG st g) := by
  obtain ⟨pb, tb, eb, kb1, kb2⟩ := ik_at T.kb h4
  obtain ⟨pa, ta, ea, ka1, ka2⟩ := ik_at T.ka h2
  have M1 : HI a b (out.push pb) (k + 1) (j + 1) := (hM.swap.pushA T.sb (Nat.succ_pos _) h4 eb hk).swap
  clear hM hk kb1 kb2 ka2
  unfold hiB
  refine wpS_bind (wpS_elem eb ?_)
  clear eb
  cases j with
  | zero => exact wpS_pure (.inl ⟨_, _, g, rfl, rfl, T.first M1⟩)
  | succ j =>
    have hb2 : j + 2 ≤ b.size := Nat.le_of_succ_le h4
    refine wpS_bind (wpS_elem ea (wpS_bind (wpS_galL hs ka1 T.kb (fun i j' _ h6 h7 => T.sb i j' h6 (Nat.lt_of_lt_of_le (zadd' h7) hb2)) (by rw [Nat.zero_add]; exact hb2) (Nat.lt_succ_self _) fun m hk1 hk2 hk3 => ?_)))
    have hlow : ∀ i, i < m → i < b.size → K b i ≤ K a k := fun i h6 h7 => Int.le_of_lt (hk2 i (Nat.zero_le _) (zadd h6))
    refine wpS_if (fun hk0 => ?_) fun hk0 => ?_
    · have M2 : HI a b (out.push pb ++ (b.extract m (j + 2)).reverse) (k + 1) m := (M1.swap.extA T.sb hk1 hb2 fun i j' h6 h7 h8 h9 => Int.le_trans (T.sa j' k (Nat.le_of_lt_succ h8) h2) (hk3 i (zle h6) (zadd h7))).swap
      match m, hk0, hlow, M2 with
      | 0, _, _, M2 => exact wpS_pure (.inl ⟨_, _, g, rfl, rfl, T.hiB0 M2⟩)
      | 1, _, _, M2 => exact wpS_pure (.inl ⟨_, _, g, rfl, rfl, T.first M2⟩)
      | m + 2, hk0, hlow, M2 =>
        have hm : m + 2 ≤ j + 2 := Nat.le_of_lt (Nat.lt_of_sub_pos hk0)
        exact wpS_hiC T M2 h2 (Nat.lt_of_lt_of_le hm hb2) (lessB h5 hm) hlow
    · have hmj : m = j + 2 := Nat.le_antisymm hk1 (Nat.le_of_sub_eq_zero (Nat.eq_zero_of_not_pos hk0))
      rw [hmj] at hlow ⊢
      exact wpS_hiC T M1 h2 hb2 (lessB h5 (Nat.le_refl _)) hlow
theorem wpS_hiA (T : Two a b) (hs : kindOf st = oneType') (hM : HI a b out (k + 1) (j + 2)) (h2 : k < a.size) (h4 : j + 1 < b.size) (h5 : x + (k + j + 3) ≤ a.size + b.size) : wpS (model prog w) A E s (hiA a b out (k + 1) (j + 2) mg ac bc) (HiP a b st x) (setG st g) := by
  obtain ⟨pb, tb, eb, kb1, kb2⟩ := ik_at T.kb h4
  unfold hiA setMinGallop'
  refine wpS_bind (wpS_modify (wpS_bind (wpS_elem eb (wpS_bind (wpS_galR hs kb1 T.ka (fun i j' _ h6 h7 => T.sa i j' h6 (Nat.lt_of_lt_of_le (zadd' h7) h2)) (by rw [Nat.zero_add]; exact h2) (Nat.lt_succ_self _) fun m hk1 hk2 hk3 => ?_)))))
  have hlow : ∀ i, i < m → i < a.size → K a i ≤ K b (j + 1) := fun i h6 h7 => hk2 i (Nat.zero_le _) (zadd h6)
  refine wpS_if (fun hk0 => ?_) fun hk0 => ?_
  · have M2 : HI a b (out ++ (a.extract m (k + 1)).reverse) m (j + 2) := hM.extA T.sa hk1 h2 fun i j' h6 h7 h8 h9 => Int.le_trans (T.sb j' (j + 1) (Nat.le_of_lt_succ h8) h4) (Int.le_of_lt (hk3 i (zle h6) (zadd h7)))
    match m, hk0, hlow, M2 with
    | 0, _, _, M2 => exact wpS_pure (.inl ⟨_, _, mg, rfl, rfl, T.hiA0 M2⟩)
    | m + 1, hk0, hlow, M2 =>
      have hm : m + 1 < k + 1 := Nat.lt_of_sub_pos hk0
      exact wpS_hiB (st := st) (g := mg) T hs M2 (Nat.lt_trans (Nat.lt_of_succ_lt_succ hm) h2) h4 (lessA h5 (Nat.lt_of_succ_lt hm)) hlow
  · have hmk : m = k + 1 := Nat.le_antisymm hk1 (Nat.le_of_sub_eq_zero (Nat.eq_zero_of_not_pos hk0))
    rw [hmk] at hlow ⊢
    exact wpS_hiB (st := st) (g := mg) T hs hM h2 h4 h5 hlow
end
abbrev Hi1 := Option (Array Keyed) × Nat × Nat × Array Keyed × Nat × Nat
/-- one comparison -/
noncomputable def hiS (a b : Array Keyed) (mg : Nat) (c : Hi1) : StateT SortSt Sem (ForInStep Hi1) := do
  let y ← elem' b (c.2.2.1 - 1)
  let x ← elem' a (c.2.1 - 1)
  let r ← lt' y x
  match r with
  | some aWins =>
    if aWins = true then do
      let p ← elem' a (c.2.1 - 1)
      if (c.2.1 - 1 == 0) = true then pure (.done (some (hiDone a b (c.2.2.2.1.push p) (c.2.1 - 1) c.2.2.1), c.2.1 - 1, c.2.2.1, c.2.2.2.1.push p, c.2.2.2.2.1 + 1, 0))
      else if c.2.2.2.2.1 + 1 ≥ mg then pure (.done (none, c.2.1 - 1, c.2.2.1, c.2.2.2.1.push p, c.2.2.2.2.1 + 1, 0))
      else pure (.yield (none, c.2.1 - 1, c.2.2.1, c.2.2.2.1.push p, c.2.2.2.2.1 + 1, 0))
    else do
      let p ← elem' b (c.2.2.1 - 1)
      if (c.2.2.1 - 1 == 1) = true then pure (.done (some (hiFirst a b (c.2.2.2.1.push p) c.2.1 (c.2.2.1 - 1)), c.2.1, c.2.2.1 - 1, c.2.2.2.1.push p, 0, c.2.2.2.2.2 + 1))
      else if c.2.2.2.2.2 + 1 ≥ mg then pure (.done (none, c.2.1, c.2.2.1 - 1, c.2.2.2.1.push p, 0, c.2.2.2.2.2 + 1))
      else pure (.yield (none, c.2.1, c.2.2.1 - 1, c.2.2.2.1.push p, 0, c.2.2.2.2.2 + 1))
  | _ => pure (.done (some (hiDone a b c.2.2.2.1 c.2.1 c.2.2.1), c.2))
noncomputable def hiG (a b : Array Keyed) (c : HiSt) : StateT SortSt Sem (ForInStep HiSt) :=
  if c.2.2.2.2.1 > 1 then hiA a b c.2.2.2.1 c.2.1 c.2.2.1 (c.2.2.2.2.1 - 1) c.2.2.2.2.2.1 c.2.2.2.2.2.2 else hiA a b c.2.2.2.1 c.2.1 c.2.2.1 c.2.2.2.2.1 c.2.2.2.2.2.1 c.2.2.2.2.2.2
abbrev HiT := Option (Array Keyed) × Nat × Nat × Array Keyed × Nat
noncomputable def hiE (c : HiSt) : StateT SortSt Sem (ForInStep HiT) := match c.1 with
  | some r => pure (.done (some r, c.2.1, c.2.2.1, c.2.2.2.1, c.2.2.2.2.1))
  | none => do
    setMinGallop' (c.2.2.2.2.1 + 1)
    pure (.yield (none, c.2.1, c.2.2.1, c.2.2.2.1, c.2.2.2.2.1 + 1))
noncomputable def hiM (a b : Array Keyed) (mg : Nat) (c : Hi1) : StateT SortSt Sem (ForInStep HiT) := match c.1 with
  | some r => pure (.done (some r, c.2.1, c.2.2.1, c.2.2.2.1, mg))
  | none => do
    liftM (rule "list.sort.gallop")
    let d ← forIn [:a.size + b.size] ((none, c.2.1, c.2.2.1, c.2.2.2.1, mg + 1, c.2.2.2.2.1, c.2.2.2.2.2) : HiSt) fun _ d => hiG a b d
    hiE d
noncomputable def hiT (a b : Array Keyed) (c : HiT) : StateT SortSt Sem (ForInStep HiT) := do
  let d ← forIn [:a.size + b.size] ((none, c.2.1, c.2.2.1, c.2.2.2.1, 0, 0) : Hi1) fun _ d => hiS a b c.2.2.2.2 d
  hiM a b c.2.2.2.2 d
noncomputable def hiF (c : HiT) : StateT SortSt Sem (Array Keyed) := match c.1 with
  | some r => pure r
  | none => liftM (unsupported "internal:list.sort.merge-bound" : Sem (Array Keyed))
theorem mergeHi_named (a b : Array Keyed) : mergeHi' a b = (do
    liftM (rule "list.sort.merge-hi")
    let p ← elem' a (a.size - 1)
    if (a.size - 1 == 0) = true then pure (hiDone a b #[p] (a.size - 1) b.size)
    else if (b.size == 1) = true then pure (hiFirst a b #[p] (a.size - 1) b.size)
    else do
      let t ← get
      let c ← forIn [:a.size + b.size] ((none, a.size - 1, b.size, #[p], gallopOf t) : HiT) fun _ c => hiT a b c
      hiF c) := by
  kernel_rfl
/-- between two comparisons -/
noncomputable def H1I (a b : Array Keyed) (x : Nat) (c : Hi1) : Prop := ∃ out k j ac bc, c = (none, k + 1, j + 2, out, ac, bc) ∧ HB a b x out k j
noncomputable def H1Q (a b : Array Keyed) (x : Nat) (c : Hi1) : Prop := (∃ r rest, c = (some r, rest) ∧ Mrg a b r) ∨ H1I a b x c
theorem HB.mono {x y : Nat} {out : Array Keyed} {k j : Nat} (h : HB a b y out k j) (hx : x ≤ y) : HB a b x out k j := ⟨h.1, h.2.1, h.2.2.1, Nat.lt_of_le_of_lt (Nat.add_le_add_right hx _) h.2.2.2⟩
theorem stepA {x k j n : Nat} (h : x + (k + 1 + j + 3) < n) : x + 1 + (k + j + 3) < n := by omega
theorem stepB {x k j n : Nat} (h : x + (k + (j + 1) + 3) < n) : x + 1 + (k + j + 3) < n := by omega
theorem wpS_hiS {x mg : Nat} {c : Hi1} {Z : ForInStep Hi1 → SortSt → Prop} (T : Two a b) (hk : kindOf st = oneType') (h : H1I a b x c) (z1 : ∀ c, H1Q a b (x + 1) c → Z (.done c) st) (z2 : ∀ c, H1I a b (x + 1) c → Z (.yield c) st) : wpS (model prog w) A E s (hiS a b mg c) Z st := by
  obtain ⟨out, k, j, ac, bc, rfl, hM, h2, h4, h5⟩ := h
  obtain ⟨pb, tb, eb, kb1, kb2⟩ := ik_at T.kb h4
  obtain ⟨pa, ta, ea, ka1, ka2⟩ := ik_at T.ka h2
  unfold hiS
  refine wpS_bind (wpS_elem eb (wpS_bind (wpS_elem ea (wpS_bind (wpS_lt hk kb1 ka1 ?_)))))
  clear kb1 kb2 ka1 ka2
  refine wpS_if (fun hlt => ?_) fun hlt => ?_
  · have hlt' := of_decide_eq_true hlt
    have M1 : HI a b (out.push pa) k (j + 2) := hM.pushA T.sa (Nat.succ_pos _) h2 ea fun i h8 h9 => Int.le_trans (T.sb i (j + 1) (Nat.le_of_lt_succ h8) h4) (Int.le_of_lt hlt')
    refine wpS_bind (wpS_elem ea ?_)
    clear hM hlt hlt' ea eb
    cases k with
    | zero => exact wpS_pure (z1 _ (.inl ⟨_, _, rfl, T.hiA0 M1⟩))
    | succ k =>
      have I1 : H1I a b (x + 1) (none, k + 1, j + 2, out.push pa, ac + 1, 0) := ⟨_, _, _, _, _, rfl, M1, Nat.lt_of_succ_lt h2, h4, stepA h5⟩
      exact wpS_if (fun h => (Bool.false_ne_true h).elim) fun _ => wpS_if (fun _ => wpS_pure (z1 _ (.inr I1))) fun _ => wpS_pure (z2 _ I1)
  · have hlt' : ¬ K b (j + 1) < K a k := fun q => hlt (decide_eq_true q)
    have M1 : HI a b (out.push pb) (k + 1) (j + 1) := (hM.swap.pushA T.sb (Nat.succ_pos _) h4 eb fun i h8 h9 => Int.le_trans (T.sa i k (Nat.le_of_lt_succ h8) h2) (Int.not_lt.mp hlt')).swap
    refine wpS_bind (wpS_elem eb ?_)
    clear hM hlt hlt' ea eb
    cases j with
    | zero => exact wpS_pure (z1 _ (.inl ⟨_, _, rfl, T.first M1⟩))
    | succ j =>
      have I1 : H1I a b (x + 1) (none, k + 1, j + 2, out.push pb, 0, bc + 1) := ⟨_, _, _, _, _, rfl, M1, h2, Nat.lt_of_succ_lt h4, stepB h5⟩
      exact wpS_if (fun h => (Bool.false_ne_true h).elim) fun _ => wpS_if (fun _ => wpS_pure (z1 _ (.inr I1))) fun _ => wpS_pure (z2 _ I1)
theorem H1Q.mono {x y : Nat} {c : Hi1} (h : H1Q a b y c) (hx : x ≤ y) : H1Q a b x c := h.imp id fun ⟨out, k, j, ac, bc, e, h⟩ => ⟨out, k, j, ac, bc, e, h.mono hx⟩
theorem wpS_hiG {x : Nat} {c : HiSt} {st' : SortSt} (T : Two a b) (hk : kindOf st = oneType') (h : HiI a b st x c st') : wpS (model prog w) A E s (hiG a b c) (HiP a b st x) st' := by
  obtain ⟨out, k, j, mg, ac, bc, g, rfl, rfl, hM, h3, h4, h5⟩ := h
  exact wpS_if (fun _ => wpS_hiA T hk hM h3 h4 (Nat.le_of_lt h5)) fun _ => wpS_hiA T hk hM h3 h4 (Nat.le_of_lt h5)
noncomputable def HTI (a b : Array Keyed) (st : SortSt) (x : Nat) (c : HiT) (st' : SortSt) : Prop := ∃ out k j mg g, c = (none, k + 1, j + 2, out, mg) ∧ st' = setG st g ∧ HB a b x out k j
noncomputable def HTQ (a b : Array Keyed) (st : SortSt) (c : HiT) (st' : SortSt) : Prop := ∃ r rest g, c = (some r, rest) ∧ st' = setG st g ∧ Mrg a b r
noncomputable def HTP (a b : Array Keyed) (st : SortSt) (x : Nat) (r : ForInStep HiT) (st' : SortSt) : Prop := match r with
  | .done c => HTQ a b st c st'
  | .yield c => HTI a b st x c st'
theorem wpS_hiM {x g mg : Nat} {c : Hi1} (T : Two a b) (hk : kindOf st = oneType') (h : H1Q a b x c) : wpS (model prog w) A E s (hiM a b mg c) (HTP a b st x) (setG st g) := by
  rcases h with ⟨r, rest, rfl, hr⟩ | ⟨out, k, j, ac, bc, rfl, hB⟩
  · exact wpS_pure ⟨r, _, g, rfl, rfl, hr⟩
  · refine wpS_bind (wpS_lift (wpAny_rule ⟨rfl, ?_⟩))
    refine wpS_bind (wpS_mono (wpS_forRange (I := fun _ c st' => HiI a b st x c st') (Q := HiQ a b st x) (fun y c st' _ _ h => wpS_mono (wpS_hiG T hk h) fun r st' h => by cases r <;> exact h) (fun c st' h => .inr h) ⟨out, k, j, mg + 1, ac, bc, g, rfl, rfl, hB⟩) ?_)
    rintro c st' (⟨r, rest, g', rfl, rfl, hr⟩ | ⟨out, k, j, mg', ac', bc', g', rfl, rfl, hB⟩)
    · exact wpS_pure ⟨r, _, g', rfl, rfl, hr⟩
    · exact wpS_bind (wpS_modify (wpS_pure ⟨out, k, j, mg' + 1, mg' + 1, rfl, rfl, hB⟩))
theorem wpS_hiT {x : Nat} {c : HiT} {st' : SortSt} (T : Two a b) (hk : kindOf st = oneType') (h : HTI a b st x c st') : wpS (model prog w) A E s (hiT a b c) (HTP a b st (x + 1)) st' := by
  obtain ⟨out, k, j, mg, g, rfl, rfl, hB⟩ := h
  refine wpS_bind (wpS_mono (wpS_forRange (I := fun y c st' => st' = setG st g ∧ H1I a b (x + y) c) (Q := fun c st' => st' = setG st g ∧ H1Q a b (x + 1) c) (fun y c st' _ _ h => ?_) (fun c st' h => ⟨h.1, H1Q.mono (.inr h.2) (Nat.add_le_add_left (Nat.le_trans T.na (Nat.le_add_right _ _)) x)⟩) ⟨rfl, out, k, j, 0, 0, rfl, hB⟩) ?_)
  · obtain ⟨rfl, h⟩ := h
    exact wpS_hiS T hk h (fun c q => ⟨rfl, q.mono (Nat.succ_le_succ (Nat.le_add_right _ _))⟩) fun c q => ⟨rfl, q⟩
  · rintro c st' ⟨rfl, q⟩
    exact wpS_hiM T hk q
theorem wpS_mergeHi {Q : Array Keyed → SortSt → Prop} (hk : kindOf st = oneType') (T : Two a b) (q : ∀ out g, Mrg a b out → Q out (setG st g)) : wpS (model prog w) A E s (mergeHi' a b) Q st := by
  rw [mergeHi_named]
  refine wpS_bind (wpS_lift (wpAny_rule ⟨rfl, ?_⟩))
  obtain ⟨k, ea⟩ : ∃ k, a.size = k + 1 := ⟨a.size - 1, by have := T.na; omega⟩
  obtain ⟨j, eb⟩ : ∃ j, b.size = j + 1 := ⟨b.size - 1, by have := T.nb; omega⟩
  have hka : k < a.size := by rw [ea]; exact Nat.lt_succ_self k
  obtain ⟨p0, t0, e0, _, _⟩ := ik_at T.ka hka
  have M00 : HI a b #[] (k + 1) b.size := ⟨by rw [← ea, ← Array.length_toList, ← Array.length_toList, List.take_length, List.take_length]; simp, .nil, fun x hx => by simp at hx, fun x hx => by simp at hx⟩
  have M0 : HI a b #[p0] k b.size := M00.pushA T.sa (Nat.succ_pos _) hka e0 fun i h3 h4 => by have := T.hl i h4; rw [ea] at this; exact this
  rw [show a.size - 1 = k by rw [ea]; rfl]
  refine wpS_bind (wpS_elem e0 ?_)
  clear M00 e0
  refine wpS_if (fun h => ?_) fun ha1 => ?_
  · rw [eq_of_beq h] at M0 ⊢
    exact wpS_pure (q _ (gallopOf st) (T.hiA0 M0))
  refine wpS_if (fun h => ?_) fun hb1 => ?_
  · rw [eq_of_beq h] at M0 ⊢
    exact wpS_pure (q _ (gallopOf st) (T.first M0))
  obtain ⟨k, rfl⟩ : ∃ i, k = i + 1 := Nat.exists_eq_succ_of_ne_zero fun e => ha1 (by rw [e]; rfl)
  obtain ⟨j, rfl⟩ : ∃ i, j = i + 1 := Nat.exists_eq_succ_of_ne_zero fun e => hb1 (by rw [eb, e]; rfl)
  have I0 : HTI a b st 0 (none, k + 1, b.size, #[p0], gallopOf st) st := ⟨#[p0], k, j, _, gallopOf st, by rw [eb], rfl, by rw [eb] at M0; exact M0, Nat.lt_of_succ_lt hka, by rw [eb]; exact Nat.lt_succ_self _, by rw [ea, eb]; omega⟩
  refine wpS_bind (wpS_get (wpS_bind (wpS_mono (wpS_forRange (I := fun x c st' => HTI a b st x c st') (Q := HTQ a b st) (fun y c st' _ _ h => wpS_mono (wpS_hiT T hk h) fun r st' h => by cases r <;> exact h) ?_ I0) ?_)))
  · rintro c st' ⟨out, k', j', mg, g, rfl, rfl, hM, h3, h4, h5⟩
    exact absurd h5 (Nat.not_lt.mpr (Nat.le_add_right _ _))
  · rintro c st' ⟨r, rest, g, rfl, rfl, hM⟩
    exact wpS_pure (q _ _ hM)
end Mine

end
section -- TS6
open PySem PyProof.Rows
namespace Mine
variable {prog : Program} {w : World} {A : Around} {E : Value → Shared → Prop} {s : Shared}
variable {st : SortSt}

/-- writing a row into an array -/
noncomputable def wr (xs : Array Keyed) (n : Nat) (l : List Keyed) : Array Keyed := l.zipIdx.foldl (fun a (q : Keyed × Nat) => a.setIfInBounds (n + q.2) q.1) xs
theorem wr_go : ∀ (l : List Keyed) (k : Nat) (xs : Array Keyed) (n : Nat), n + k + l.length ≤ xs.size →
    ((l.zipIdx k).foldl (fun a (q : Keyed × Nat) => a.setIfInBounds (n + q.2) q.1) xs).toList = xs.toList.take (n + k) ++ l ++ xs.toList.drop (n + k + l.length)
  | [], k, xs, n, h => by simp
  | p :: l, k, xs, n, h => by
    rw [List.length_cons] at h
    rw [List.zipIdx_cons, List.foldl_cons]
    have ih := wr_go l (k + 1) (xs.setIfInBounds (n + k) p) n (by rw [Array.size_setIfInBounds]; omega)
    refine ih.trans ?_
    rw [Array.toList_setIfInBounds, List.length_cons]
    have hlen : n + k < xs.toList.length := by rw [Array.length_toList]; omega
    have e1 : (xs.toList.set (n + k) p).take (n + (k + 1)) = xs.toList.take (n + k) ++ [p] := by
      rw [show n + (k + 1) = n + k + 1 by omega, List.take_add_one, List.take_set_of_le (Nat.le_refl _), List.getElem?_set_self hlen]; rfl
    have e2 : (xs.toList.set (n + k) p).drop (n + (k + 1) + l.length) = xs.toList.drop (n + k + (l.length + 1)) := by
      rw [List.drop_set_of_lt (by omega)]; congr 1; omega
    rw [e1, e2]
    simp [List.append_assoc]
theorem wr_list {xs : Array Keyed} {n : Nat} {l : List Keyed} (h : n + l.length ≤ xs.size) : (wr xs n l).toList = xs.toList.take n ++ l ++ xs.toList.drop (n + l.length) := wr_go l 0 xs n h
end Mine

end
section -- TS7
open PySem PyProof.Rows
namespace Mine
variable {prog : Program} {w : World} {A : Around} {E : Value → Shared → Prop} {s : Shared}
variable {st : SortSt}

noncomputable def Sg (X : Array Keyed) (l r : Nat) : Prop := ∀ i j, l ≤ i → i ≤ j → j < r → K X i ≤ K X j
theorem K_same {X Y : Array Keyed} {i j : Nat} (h : X.toList[i]? = Y.toList[j]?) : K X i = K Y j := by
  unfold K; rw [← Array.getElem?_toList, ← Array.getElem?_toList, h]
theorem K_ext {X : Array Keyed} {l k i : Nat} (hi : i < k) : K (X.extract l (l + k)) i = K X (l + i) := by
  refine K_same ?_
  rw [ext_list, List.getElem?_take_of_lt hi, List.getElem?_drop]
theorem seg_len {X : Array Keyed} {l k : Nat} (h : l + k ≤ X.size) : ((X.toList.drop l).take k).length = k := List.length_take_of_le (by rw [List.length_drop, Array.length_toList]; exact Nat.le_sub_of_add_le' h)
theorem size_ext {X : Array Keyed} {l k : Nat} (h : l + k ≤ X.size) : (X.extract l (l + k)).size = k := by rw [← Array.length_toList, ext_list, seg_len h]
theorem ik_ext {X : Array Keyed} {l k : Nat} (h : IK X.toList) : IK (X.extract l (l + k)).toList := fun p hp => by
  rw [ext_list] at hp
  exact h p (List.mem_of_mem_drop (List.mem_of_mem_take hp))
section
variable {X : Array Keyed} {n : Nat} {l : List Keyed}
theorem wr_len (h : n + l.length ≤ X.size) : (X.toList.take n).length = n := List.length_take_of_le (by rw [Array.length_toList]; exact Nat.le_trans (Nat.le_add_right _ _) h)
theorem wr_lo (h : n + l.length ≤ X.size) {i : Nat} (hi : i < n) : K (wr X n l) i = K X i := by
  refine K_same ?_
  rw [wr_list h, List.append_assoc, List.getElem?_append_left (by rw [wr_len h]; exact hi), List.getElem?_take_of_lt hi]
theorem wr_mid (h : n + l.length ≤ X.size) {j : Nat} (hj : j < l.length) : K (wr X n l) (n + j) = kk l[j] := by
  have e : (wr X n l).toList[n + j]? = some l[j] := by
    rw [wr_list h, List.append_assoc, List.getElem?_append_right (by rw [wr_len h]; exact Nat.le_add_right _ _), wr_len h, Nat.add_sub_cancel_left, List.getElem?_append_left hj, List.getElem?_eq_getElem hj]
  rw [Array.getElem?_toList] at e
  exact K_at e
theorem wr_hi (h : n + l.length ≤ X.size) {i : Nat} (hi : n + l.length ≤ i) : K (wr X n l) i = K X i := by
  obtain ⟨t, rfl⟩ := Nat.exists_eq_add_of_le hi
  have hl : (X.toList.take n ++ l).length = n + l.length := by rw [List.length_append, wr_len h]
  refine K_same ?_
  rw [wr_list h, List.getElem?_append_right (by rw [hl]; exact Nat.le_add_right _ _), hl, List.getElem?_drop, Nat.add_sub_cancel_left]
end
/-- a stretch of an array, put in order -/
structure Out (X Y : Array Keyed) (l r : Nat) : Prop where
  perm : Y.toList.Perm X.toList
  lo : ∀ i, i < l → K Y i = K X i
  hi : ∀ i, r ≤ i → K Y i = K X i
  srt : Sg Y l r
  mem : ∀ j, l ≤ j → j < r → ∃ t, l ≤ t ∧ t < r ∧ K Y j = K X t
theorem Out.refl {X : Array Keyed} {l r : Nat} (h : Sg X l r) : Out X X l r := ⟨.refl _, fun _ _ => rfl, fun _ _ => rfl, h, fun j h1 h2 => ⟨j, h1, h2, rfl⟩⟩
theorem Sg.join {X : Array Keyed} {a b c : Nat} (s1 : Sg X a b) (s2 : Sg X b c) (h : ∀ i j, a ≤ i → i < b → b ≤ j → j < c → K X i ≤ K X j) : Sg X a c := fun i j h1 h2 h3 => by
  by_cases hj : j < b
  · exact s1 i j h1 h2 hj
  by_cases hi : i < b
  · exact h i j h1 hi (Nat.not_lt.mp hj) h3
  · exact s2 i j (Nat.not_lt.mp hi) h2 h3
/-- more on the left, none of it above the stretch -/
theorem Out.low {X Y : Array Keyed} {a l r : Nat} (h : Out X Y l r) (ha : a ≤ l) (hr : l ≤ r) (s : Sg X a l) (hlow : ∀ i t, a ≤ i → i < l → l ≤ t → t < r → K X i ≤ K X t) : Out X Y a r := by
  refine ⟨h.perm, fun i hi => h.lo i (Nat.lt_of_lt_of_le hi ha), h.hi, Sg.join (fun i j h1 h2 h3 => ?_) h.srt fun i j h1 h2 h3 h4 => ?_, fun j h1 h2 => ?_⟩
  · rw [h.lo i (Nat.lt_of_le_of_lt h2 h3), h.lo j h3]; exact s i j h1 h2 h3
  · obtain ⟨t, t1, t2, t3⟩ := h.mem j h3 h4
    rw [h.lo i h2, t3]; exact hlow i t h1 h2 t1 t2
  · by_cases hj : j < l
    · exact ⟨j, h1, h2, h.lo j hj⟩
    · obtain ⟨t, t1, t2, t3⟩ := h.mem j (Nat.not_lt.mp hj) h2
      exact ⟨t, Nat.le_trans ha t1, t2, t3⟩
/-- more on the right, none of it below the stretch -/
theorem Out.up {X Y : Array Keyed} {l r b : Nat} (h : Out X Y l r) (hb : r ≤ b) (hr : l ≤ r) (s : Sg X r b) (hup : ∀ t j, l ≤ t → t < r → r ≤ j → j < b → K X t ≤ K X j) : Out X Y l b := by
  refine ⟨h.perm, h.lo, fun i hi => h.hi i (Nat.le_trans hb hi), Sg.join h.srt (fun i j h1 h2 h3 => ?_) fun i j h1 h2 h3 h4 => ?_, fun j h1 h2 => ?_⟩
  · rw [h.hi i h1, h.hi j (Nat.le_trans h1 h2)]; exact s i j h1 h2 h3
  · obtain ⟨t, t1, t2, t3⟩ := h.mem i h1 h2
    rw [h.hi j h3, t3]; exact hup t j t1 t2 h3 h4
  · by_cases hj : j < r
    · obtain ⟨t, t1, t2, t3⟩ := h.mem j h1 hj
      exact ⟨t, t1, Nat.lt_of_lt_of_le t2 hb, t3⟩
    · exact ⟨j, h1, h2, h.hi j (Nat.not_lt.mp hj)⟩
/-- two neighbouring rows in an array, merged -/
theorem out_of {X m : Array Keyed} {l d e : Nat} (hr : l + d + e ≤ X.size) (hm : Mrg (X.extract l (l + d)) (X.extract (l + d) (l + d + e)) m) : Out X (wr X l m.toList) l (l + d + e) := by
  have hp := hm.1
  rw [ext_list, ext_list] at hp
  have hlen : m.toList.length = d + e := by
    rw [hp.length_eq, List.length_append, seg_len (Nat.le_trans (Nat.le_add_right _ _) hr), seg_len hr]
  have hfit : l + m.toList.length ≤ X.size := by rw [hlen, ← Nat.add_assoc]; exact hr
  have mid : ∀ j, l ≤ j → j < l + d + e → ∃ t, ∃ ht : t < m.toList.length, j = l + t ∧ K (wr X l m.toList) j = kk m.toList[t] := fun j h1 h2 => by
    obtain ⟨t, rfl⟩ := Nat.exists_eq_add_of_le h1
    have ht : t < m.toList.length := by rw [hlen]; rw [Nat.add_assoc] at h2; exact Nat.lt_of_add_lt_add_left h2
    exact ⟨t, ht, rfl, wr_mid hfit ht⟩
  refine ⟨?_, fun i hi => wr_lo hfit hi, fun i hi => wr_hi hfit (by rw [hlen, ← Nat.add_assoc]; exact hi), fun i j h1 h2 h3 => ?_, fun j h1 h2 => ?_⟩
  · rw [wr_list hfit, hlen, ← Nat.add_assoc]
    have e1 : X.toList = X.toList.take l ++ ((X.toList.drop l).take d ++ (X.toList.drop (l + d)).take e) ++ X.toList.drop (l + d + e) := by
      rw [← List.drop_drop (l := X.toList) (i := e) (j := l + d), List.append_assoc, List.append_assoc, List.take_append_drop, ← List.drop_drop (l := X.toList) (i := d) (j := l), List.take_append_drop, List.take_append_drop]
    exact List.Perm.trans ((hp.append_left _).append_right _) (List.Perm.of_eq e1.symm)
  · obtain ⟨a, ha, rfl, ea⟩ := mid i h1 (Nat.lt_of_le_of_lt h2 h3)
    obtain ⟨b, hb, rfl, eb⟩ := mid j (Nat.le_trans h1 h2) h3
    rw [ea, eb]
    rcases Nat.lt_or_eq_of_le (Nat.le_of_add_le_add_left h2) with q | rfl
    · exact List.pairwise_iff_getElem.mp hm.2 a b ha hb q
    · exact Int.le_refl _
  · obtain ⟨t, ht, rfl, et⟩ := mid j h1 h2
    rw [et]
    rcases List.mem_append.mp (hp.mem_iff.mp (List.getElem_mem ht)) with q | q
    · obtain ⟨u, u1, u2, _, u4⟩ := seg_mem q
      exact ⟨u, u1, Nat.lt_of_lt_of_le u2 (Nat.le_add_right _ _), u4⟩
    · obtain ⟨u, u1, u2, _, u4⟩ := seg_mem q
      exact ⟨u, Nat.le_trans (Nat.le_add_right _ _) u1, u2, u4⟩
end Mine

end
section -- TS8
open PySem PyProof.Rows
namespace Mine
variable {prog : Program} {w : World} {A : Around} {E : Value → Shared → Prop} {s : Shared}
variable {st : SortSt}
theorem wpS_set {σ : Type} {M : Model} {t st : σ} {Q : PUnit → σ → Prop} (h : Q ⟨⟩ t) : wpS M A E s (set t : StateT σ Sem PUnit) Q st := by
  unfold wpS; rw [StateT.run_set]; exact wpAny_pure ⟨rfl, h⟩
abbrev mkS (st : SortSt) (Y : Array Keyed) (P : Array (Nat × Nat × Nat)) (g : Nat) : SortSt := SortSt.mk' (kindOf st) Y P g (failedOf st)
/-- behind the first search -/
noncomputable def mAt3 (l : Nat) (m : Array Keyed) : StateT SortSt Sem Bool := do
  modify fun s => setArr s (wr (arrOf s) l m.toList)
  let t ← get
  pure (failedOf t).isNone
noncomputable def mAt2 (X : Array Keyed) (l d sb nb : Nat) : StateT SortSt Sem Bool :=
  if (d == 0) = true then pure true
  else do
    let p ← elem' X (l + d - 1)
    let r ← gallop' true p X sb nb (nb - 1)
    match r with
    | some e =>
      if (e == 0) = true then pure true
      else if d ≤ e then do
        let m ← mergeLo' (X.extract l sb) (X.extract sb (sb + e))
        mAt3 l m
      else do
        let m ← mergeHi' (X.extract l sb) (X.extract sb (sb + e))
        mAt3 l m
    | _ => pure false
theorem mergeAt_named (i : Nat) : mergeAt' i = (do
    let s ← get
    match ((pendingOf s)[i]?, (pendingOf s)[i + 1]?) with
    | (some (sa, na, power), some (sb, nb, _)) => do
      set (setPending s (((pendingOf s).setIfInBounds i (sa, na + nb, power)).eraseIdxIfInBounds (i + 1)))
      let p ← elem' (arrOf s) sb
      let r ← gallop' false p (arrOf s) sa na 0
      match r with
      | some k => mAt2 (arrOf s) (sa + k) (na - k) sb nb
      | _ => pure false
    | _ => liftM (unsupported "internal:list.sort.pending" : Sem Bool)) := by kernel_rfl
theorem wpS_mAt3 {l g : Nat} {m : Array Keyed} {Q : Bool → SortSt → Prop} (hf : failedOf st = none) (q : Q true (setArr (setG st g) (wr (arrOf st) l m.toList))) : wpS (model prog w) A E s (mAt3 l m) Q (setG st g) := by
  refine wpS_bind (wpS_modify (wpS_bind (wpS_get (wpS_pure ?_))))
  show Q (failedOf st).isNone _
  rw [hf]; exact q
theorem wpS_mAt2 {l d nb : Nat} {Q : Bool → SortSt → Prop} (hk : kindOf st = oneType') (hf : failedOf st = none) (hX : IK (arrOf st).toList) (hr : l + d + nb ≤ (arrOf st).size) (s1 : Sg (arrOf st) l (l + d)) (s2 : Sg (arrOf st) (l + d) (l + d + nb)) (hnb : 0 < nb)
    (c3 : ∀ i, l ≤ i → i < l + d → K (arrOf st) (l + d) < K (arrOf st) i) (q : ∀ Y g, Out (arrOf st) Y l (l + d + nb) → Q true (setArr (setG st g) Y)) : wpS (model prog w) A E s (mAt2 (arrOf st) l d (l + d) nb) Q st := by
  unfold mAt2
  cases d with
  | zero => exact wpS_pure (q (arrOf st) (gallopOf st) (.refl s2))
  | succ d =>
    refine wpS_if (fun h => (Bool.false_ne_true h).elim) fun _ => ?_
    have hb : l + d + 1 ≤ (arrOf st).size := Nat.le_trans (Nat.le_add_right _ _) hr
    obtain ⟨p2, t2, e2, k2, _⟩ := ik_at hX hb
    refine wpS_bind (wpS_elem e2 (wpS_bind (wpS_galL hk k2 hX s2 hr (Nat.sub_lt hnb Nat.one_pos) fun e d1 d2 d3 => ?_)))
    have up : ∀ i j, l ≤ i → i < l + (d + 1) → l + (d + 1) + e ≤ j → j < l + (d + 1) + nb → K (arrOf st) i ≤ K (arrOf st) j := fun i j h1 h2 h3 h4 => Int.le_trans (s1 i (l + d) h1 (Nat.le_of_lt_succ h2) (Nat.lt_succ_self _)) (d3 j h3 h4)
    clear d3 e2 k2
    cases e with
    | zero => exact wpS_pure (q (arrOf st) (gallopOf st) (.refl (s1.join s2 up)))
    | succ e =>
      refine wpS_if (fun h => (Bool.false_ne_true h).elim) fun _ => ?_
      have he : l + (d + 1) + (e + 1) ≤ l + (d + 1) + nb := Nat.add_le_add_left d1 _
      have z1 := size_ext (X := arrOf st) (l := l) (k := d + 1) hb
      have z2 := size_ext (X := arrOf st) (l := l + (d + 1)) (k := e + 1) (Nat.le_trans he hr)
      have T : Two ((arrOf st).extract l (l + (d + 1))) ((arrOf st).extract (l + (d + 1)) (l + (d + 1) + (e + 1))) := by
        refine ⟨ik_ext hX, ik_ext hX, fun i j h3 h4 => ?_, fun i j h3 h4 => ?_, by rw [z1]; exact Nat.succ_pos _, by rw [z2]; exact Nat.succ_pos _, fun j h3 => ?_, fun j h3 => ?_⟩
        · rw [z1] at h4
          rw [K_ext (Nat.lt_of_le_of_lt h3 h4), K_ext h4]; exact s1 _ _ (Nat.le_add_right _ _) (Nat.add_le_add_left h3 _) (Nat.add_lt_add_left h4 _)
        · rw [z2] at h4
          rw [K_ext (Nat.lt_of_le_of_lt h3 h4), K_ext h4]; exact s2 _ _ (Nat.le_add_right _ _) (Nat.add_le_add_left h3 _) (Nat.lt_of_lt_of_le (Nat.add_lt_add_left h4 _) he)
        · rw [z1] at h3
          rw [K_ext (Nat.succ_pos _), K_ext h3]; exact Int.le_of_lt (c3 _ (Nat.le_add_right _ _) (Nat.add_lt_add_left h3 _))
        · rw [z2] at h3
          rw [z1, K_ext h3, Nat.add_sub_cancel, K_ext (Nat.lt_succ_self d)]; exact Int.le_of_lt (d2 _ (Nat.le_add_right _ _) (Nat.add_lt_add_left h3 _))
      have fin : ∀ m g, Mrg ((arrOf st).extract l (l + (d + 1))) ((arrOf st).extract (l + (d + 1)) (l + (d + 1) + (e + 1))) m → wpS (model prog w) A E s (mAt3 l m) Q (setG st g) := fun m g hm =>
        wpS_mAt3 hf (q _ g ((out_of (Nat.le_trans he hr) hm).up he (Nat.le_trans (Nat.le_add_right _ _) (Nat.le_add_right _ _)) (fun i j h1 h2 h3 => s2 i j (Nat.le_trans (Nat.le_add_right _ _) h1) h2 h3) fun t j h1 h2 h3 h4 => by
          by_cases ht : t < l + (d + 1)
          · exact up t j h1 ht h3 h4
          · exact s2 t j (Nat.not_lt.mp ht) (Nat.le_of_lt (Nat.lt_of_lt_of_le h2 h3)) h4))
      exact wpS_if (fun _ => wpS_bind (wpS_mergeLo hk T fin)) fun _ => wpS_bind (wpS_mergeHi hk T fin)
theorem wpS_mergeAt {i sa na pw sb nb pw' : Nat} {Q : Bool → SortSt → Prop} (hk : kindOf st = oneType') (hf : failedOf st = none) (hX : IK (arrOf st).toList) (h1 : (pendingOf st)[i]? = some (sa, na, pw)) (h2 : (pendingOf st)[i + 1]? = some (sb, nb, pw'))
    (hsb : sb = sa + na) (hr : sb + nb ≤ (arrOf st).size) (s1 : Sg (arrOf st) sa sb) (s2 : Sg (arrOf st) sb (sb + nb)) (hna : 0 < na) (hnb : 0 < nb)
    (q : ∀ Y g, Out (arrOf st) Y sa (sb + nb) → Q true (mkS st Y (((pendingOf st).setIfInBounds i (sa, na + nb, pw)).eraseIdxIfInBounds (i + 1)) g)) : wpS (model prog w) A E s (mergeAt' i) Q st := by
  rw [mergeAt_named]
  refine wpS_bind (wpS_get ?_)
  rw [h1, h2]
  refine wpS_bind (wpS_set ?_)
  generalize ((pendingOf st).setIfInBounds i (sa, na + nb, pw)).eraseIdxIfInBounds (i + 1) = P at q ⊢
  clear h1 h2
  obtain ⟨p1, t1, e1, k1, _⟩ := ik_at hX (Nat.lt_of_lt_of_le (Nat.lt_add_of_pos_right hnb) hr)
  subst hsb
  refine wpS_bind (wpS_elem e1 (wpS_bind (wpS_galR hk k1 hX s1 (Nat.le_trans (Nat.le_add_right _ _) hr) hna fun k c1 c2 c3 => ?_)))
  clear e1 k1
  obtain ⟨d, rfl⟩ := Nat.exists_eq_add_of_le c1
  show wpS (model prog w) A E s (mAt2 (arrOf st) (sa + k) (k + d - k) (sa + (k + d)) nb) Q _
  rw [Nat.add_sub_cancel_left]
  rw [← Nat.add_assoc] at hr s1 s2 q c2 c3 ⊢
  refine wpS_mAt2 (st := setPending st P) hk hf hX hr (fun i j h1 h2 h3 => s1 i j (Nat.le_trans (Nat.le_add_right _ _) h1) h2 h3) s2 hnb c3 fun Y g O => q Y g (O.low (Nat.le_add_right _ _) (by rw [Nat.add_assoc]; exact Nat.le_add_right _ _) (fun i j h1 h2 h3 => s1 i j h1 h2 (Nat.lt_of_lt_of_le h3 (Nat.le_add_right _ _))) fun i t h1 h2 h3 h4 => ?_)
  by_cases ht : t < sa + k + d
  · exact s1 i t h1 (Nat.le_of_lt (Nat.lt_of_lt_of_le h2 h3)) ht
  · exact Int.le_trans (c2 i h1 h2) (s2 _ t (Nat.le_refl _) (Nat.not_lt.mp ht) h4)
end Mine

end
section -- TS9
open PySem PyProof.Rows
namespace Mine
variable {prog : Program} {w : World} {A : Around} {E : Value → Shared → Prop} {s : Shared}
variable {st st' : SortSt} {lo n nrem : Nat}

/-- a state behind steps that change nothing below lo -/
structure RB (st : SortSt) (lo : Nat) (st' : SortSt) : Prop where
  eq : st' = setArr st (arrOf st')
  perm : (arrOf st').toList.Perm (arrOf st).toList
  low : ∀ i, i < lo → K (arrOf st') i = K (arrOf st) i
theorem RB.refl : RB st lo st := ⟨rfl, .refl _, fun _ _ => rfl⟩
theorem RB.size (h : RB st lo st') : (arrOf st').size = (arrOf st).size := by
  have := h.perm.length_eq
  rwa [Array.length_toList, Array.length_toList] at this
theorem RB.ik (h : RB st lo st') (hX : IK (arrOf st).toList) : IK (arrOf st').toList := fun p hp => hX p (h.perm.mem_iff.mp hp)
theorem RB.set (h : RB st lo st') {Y : Array Keyed} (hp : Y.Perm (arrOf st')) (hl : ∀ i, i < lo → K Y i = K (arrOf st') i) : RB st lo (setArr st' Y) := by
  refine ⟨?_, (Array.perm_iff_toList_perm.mp hp).trans h.perm, fun i hi => (hl i hi).trans (h.low i hi)⟩
  rw [h.eq]
theorem RB.kind (h : RB st lo st') (hk : kindOf st = oneType') : kindOf st' = oneType' := by rw [h.eq]; exact hk
theorem wpS_ltX {i j : Nat} {Q : Option Bool → SortSt → Prop} (hk : kindOf st = oneType') (hX : IK (arrOf st).toList) (hi : i < (arrOf st).size) (hj : j < (arrOf st).size)
    (h : Q (some (decide (K (arrOf st) i < K (arrOf st) j))) st) : wpS (model prog w) A E s (ltAt' i j) Q st := by
  obtain ⟨⟨p1, p2⟩, t, e1, e2, _⟩ := ik_at hX hi
  obtain ⟨⟨q1, q2⟩, u, f1, f2, _⟩ := ik_at hX hj
  cases e2; cases f2
  exact wpS_ltAt hk e1 f1 h

noncomputable def ascL (lo a nrem : Nat) : StateT SortSt Sem (Option (Option Nat) × Nat) :=
  forIn [a:nrem] ((none, a) : Option (Option Nat) × Nat) fun _ c => do
    let x ← ltAt' (lo + c.snd) (lo + c.snd - 1)
    match x with
    | some smaller => if smaller = true then pure (ForInStep.done (none, c.snd)) else pure (ForInStep.yield (none, c.snd + 1))
    | _ => pure (ForInStep.done (some none, c.snd))
theorem Sg.succ {X : Array Keyed} {l r : Nat} (h : Sg X l r) (hr : l < r) (h1 : K X (r - 1) ≤ K X r) : Sg X l (r + 1) := fun i j a b c => by
  by_cases hj : j < r
  · exact h i j a b hj
  · have : j = r := by omega
    subst this
    by_cases hi : i = j
    · subst hi; exact Int.le_refl _
    · exact Int.le_trans (h i (j - 1) a (by omega) (by omega)) h1
theorem wpS_ascL {a : Nat} {Q : Option (Option Nat) × Nat → SortSt → Prop} (hk : kindOf st = oneType') (hX : IK (arrOf st).toList) (hn : lo + nrem ≤ (arrOf st).size) (ha : 1 ≤ a) (han : a ≤ nrem) (hs : Sg (arrOf st) lo (lo + a))
    (h : ∀ n, a ≤ n → n ≤ nrem → Sg (arrOf st) lo (lo + n) → (n = nrem ∨ K (arrOf st) (lo + n) < K (arrOf st) (lo + n - 1)) → Q (none, n) st) : wpS (model prog w) A E s (ascL lo a nrem) Q st := by
  unfold ascL
  refine wpS_forRange (I := fun x c st' => st' = st ∧ c = (none, x) ∧ Sg (arrOf st) lo (lo + x)) ?step ?fin ⟨rfl, rfl, hs⟩
  case fin =>
    rintro c st' ⟨rfl, rfl, hs'⟩
    rw [show max a nrem = nrem by omega] at hs' ⊢
    exact h nrem han (Nat.le_refl _) hs' (.inl rfl)
  case step =>
    rintro x c st' hax hxn ⟨rfl, rfl, hs'⟩
    dsimp only
    refine wpS_bind (wpS_ltX hk hX (by omega) (by omega) ?_)
    by_cases hless : K (arrOf st') (lo + x) < K (arrOf st') (lo + x - 1)
    · simp only [hless, decide_true, if_true]
      exact wpS_pure (h x hax (by omega) hs' (.inr hless))
    · simp only [hless, decide_false, Bool.false_eq_true, if_false]
      exact wpS_pure ⟨rfl, rfl, hs'.succ (by omega) (Int.not_lt.mp hless)⟩

noncomputable def Dn (X : Array Keyed) (l r : Nat) : Prop := ∀ i j, l ≤ i → i ≤ j → j < r → K X j ≤ K X i
noncomputable def tailL (lo n nrem : Nat) : StateT SortSt Sem (Option Nat) := do
  reverseSlice' lo (lo + n)
  let c ← ascL lo n nrem
  match c.fst with
  | some r => pure r
  | none => pure (some c.snd)
theorem mirror_low {X : Array Keyed} {i j : Nat} (hj : j ≤ X.size) (k : Nat) (hk : k < i) : K (mirror X i j ((j - i) / 2)) k = K X k := by
  rw [K_mirror hj, if_neg (by omega)]
theorem wpS_tailL {st0 : SortSt} {Q : Option Nat → SortSt → Prop} (R : RB st0 lo st) (hk : kindOf st0 = oneType') (hX : IK (arrOf st0).toList) (hn : lo + nrem ≤ (arrOf st0).size) (h1 : 1 ≤ n) (hnn : n ≤ nrem)
    (hs : Dn (arrOf st) lo (lo + n)) (h : ∀ m st', RB st0 lo st' → 1 ≤ m → m ≤ nrem → Sg (arrOf st') lo (lo + m) → Q (some m) st') : wpS (model prog w) A E s (tailL lo n nrem) Q st := by
  unfold tailL
  have hsz : lo + n ≤ (arrOf st).size := by rw [R.size]; omega
  refine wpS_bind (wpS_reverse ?_)
  have R' : RB st0 lo (setArr st (mirror (arrOf st) lo (lo + n) ((lo + n - lo) / 2))) := R.set (mirror_perm _ _ _ _) fun i hi => mirror_low hsz i hi
  refine wpS_bind (wpS_ascL (R'.kind hk) (R'.ik hX) (by rw [R'.size]; exact hn) h1 hnn ?_ fun m hm1 hm2 hsm _ => wpS_pure (h m _ R' (by omega) hm2 hsm))
  intro i j a b c
  show K (mirror (arrOf st) lo (lo + n) ((lo + n - lo) / 2)) i ≤ K (mirror (arrOf st) lo (lo + n) ((lo + n - lo) / 2)) j
  rw [K_mirror hsz, K_mirror hsz, if_pos (by omega), if_pos (by omega)]
  exact hs _ _ (by omega) (by omega) (by omega)
noncomputable def descL (lo n nrem : Nat) : StateT SortSt Sem (Option (Option Nat) × Nat × Nat) :=
  forIn [n:nrem] ((none, n, 0) : Option (Option Nat) × Nat × Nat) fun _ c => do
    let x ← ltAt' (lo + c.snd.fst) (lo + c.snd.fst - 1)
    match x with
    | some smaller =>
      if smaller = true then
        if c.snd.snd > 0 then do
          reverseSlice' (lo + c.snd.fst - (c.snd.snd + 1)) (lo + c.snd.fst)
          pure (ForInStep.yield (none, c.snd.fst + 1, 0))
        else pure (ForInStep.yield (none, c.snd.fst + 1, 0))
      else do
        let y ← ltAt' (lo + c.snd.fst - 1) (lo + c.snd.fst)
        match y with
        | some larger =>
          if larger = true then pure (ForInStep.done (none, c.snd.fst, c.snd.snd))
          else pure (ForInStep.yield (none, c.snd.fst + 1, c.snd.snd + 1))
        | _ => pure (ForInStep.done (some none, c.snd.fst, c.snd.snd))
    | _ => pure (ForInStep.done (some none, c.snd.fst, c.snd.snd))
noncomputable def descP (lo n nrem : Nat) : StateT SortSt Sem (Option Nat) := do
  liftM (rule "list.sort.descending-run")
  let c ← descL lo (n + 1) nrem
  match c.fst with
  | some r => pure r
  | none =>
    if c.snd.snd > 0 then do
      reverseSlice' (lo + c.snd.fst - (c.snd.snd + 1)) (lo + c.snd.fst)
      tailL lo c.snd.fst nrem
    else tailL lo c.snd.fst nrem
theorem countRunL_eq (lo nrem : Nat) : countRun' lo nrem = (do
    let c ← ascL lo 1 nrem
    match c.fst with
    | some r => pure r
    | none =>
      if (c.snd == nrem) = true then pure (some c.snd)
      else if c.snd > 1 then do
        let x ← ltAt' lo (lo + c.snd - 1)
        match x with
        | some rose => if rose = true then pure (some c.snd) else do
            reverseSlice' lo (lo + c.snd)
            descP lo c.snd nrem
        | _ => pure none
      else descP lo c.snd nrem) := by kernel_rfl
end Mine

end
section -- TS10
open PySem PyProof.Rows
namespace Mine
variable {prog : Program} {w : World} {A : Around} {E : Value → Shared → Prop} {s : Shared}
variable {st st0 : SortSt} {lo n nrem : Nat}
theorem Dn.succ {X : Array Keyed} {l r : Nat} (h : Dn X l r) (hr : l < r) (h1 : K X r ≤ K X (r - 1)) : Dn X l (r + 1) := fun i j a b c => by
  by_cases hj : j < r
  · exact h i j a b hj
  · have : j = r := by omega
    subst this
    by_cases hi : i = j
    · subst hi; exact Int.le_refl _
    · exact Int.le_trans h1 (h i (j - 1) a (by omega) (by omega))
theorem Dn.congr {X Y : Array Keyed} {l r : Nat} (h : Dn X l r) (e : ∀ k, K Y k = K X k) : Dn Y l r := fun i j a b c => by rw [e, e]; exact h i j a b c
structure DI (X : Array Keyed) (lo x neq : Nat) : Prop where
  le : neq + 1 ≤ x
  dn : Dn X lo (lo + x)
  eq : ∀ i, lo + x - (neq + 1) ≤ i → i < lo + x → K X i = K X (lo + x - 1)
section
variable {X : Array Keyed} {x neq : Nat}
theorem DI.zero (h : Dn X lo (lo + x)) (h1 : 1 ≤ x) : DI X lo x 0 := ⟨h1, h, fun i a b => by rw [show i = lo + x - 1 by omega]⟩
theorem DI.pos (h : DI X lo x neq) : lo < lo + x := Nat.lt_add_of_pos_right (Nat.lt_of_lt_of_le (Nat.succ_pos _) h.le)
theorem DI.fall (h : DI X lo x neq) (q : K X (lo + x) < K X (lo + x - 1)) : Dn X lo (lo + (x + 1)) := h.dn.succ h.pos (Int.le_of_lt q)
theorem DI.same (h : DI X lo x neq) (q : ¬ K X (lo + x) < K X (lo + x - 1)) (q2 : ¬ K X (lo + x - 1) < K X (lo + x)) : DI X lo (x + 1) (neq + 1) := by
  have e : K X (lo + x) = K X (lo + x - 1) := Int.le_antisymm (Int.not_lt.mp q2) (Int.not_lt.mp q)
  refine ⟨Nat.succ_le_succ h.le, h.dn.succ h.pos (Int.le_of_eq e), fun i a b => ?_⟩
  rw [Nat.add_succ_sub_one]
  rcases Nat.lt_or_eq_of_le (Nat.le_of_lt_succ b) with b | b
  · rw [e]; exact h.eq i (by rwa [← Nat.add_assoc, Nat.add_sub_add_right] at a) b
  · rw [b]; rfl
end
theorem wpS_descL {Q : Option (Option Nat) × Nat × Nat → SortSt → Prop} (R : RB st0 lo st) (hk : kindOf st0 = oneType') (hX : IK (arrOf st0).toList) (hn : lo + nrem ≤ (arrOf st0).size) (h1 : 1 ≤ n) (hnn : n ≤ nrem)
    (hs : Dn (arrOf st) lo (lo + n)) (h : ∀ m neq st', RB st0 lo st' → n ≤ m → m ≤ nrem → DI (arrOf st') lo m neq → Q (none, m, neq) st') :
    wpS (model prog w) A E s (descL lo n nrem) Q st := by
  unfold descL
  refine wpS_forRange (I := fun x c st' => ∃ neq, c = (none, x, neq) ∧ RB st0 lo st' ∧ DI (arrOf st') lo x neq) ?step ?fin ⟨0, rfl, R, .zero hs h1⟩
  case fin =>
    rintro c st' ⟨neq, rfl, R', D⟩
    rw [Nat.max_eq_right hnn] at D ⊢
    exact h nrem neq st' R' hnn (Nat.le_refl _) D
  case step =>
    rintro x c st' hax hxn ⟨neq, rfl, R', D⟩
    have hin : lo + x < (arrOf st').size := by rw [R'.size]; exact Nat.lt_of_lt_of_le (Nat.add_lt_add_left hxn lo) hn
    clear hs R h1 hnn hn
    dsimp only
    refine wpS_bind (wpS_ltX (R'.kind hk) (R'.ik hX) hin (Nat.lt_of_le_of_lt (Nat.sub_le _ _) hin) ?_)
    by_cases hless : K (arrOf st') (lo + x) < K (arrOf st') (lo + x - 1)
    · simp only [hless, decide_true, if_true]
      have D1 := D.fall hless
      refine wpS_if (fun hneq => ?_) (fun hneq => ?_)
      · have hlow : ∀ i, i < lo → i < lo + x - (neq + 1) := fun i hi => by have := D.le; omega
        exact wpS_bind (wpS_reverse (wpS_pure ⟨0, rfl, R'.set (mirror_perm _ _ _ _) fun i hi => mirror_low (Nat.le_of_lt hin) i (hlow i hi), .zero (D1.congr (K_mirror_equal (Nat.le_of_lt hin) D.eq)) (Nat.succ_pos _)⟩))
      · exact wpS_pure ⟨0, rfl, R', .zero D1 (Nat.succ_pos _)⟩
    · simp only [hless, decide_false, Bool.false_eq_true, if_false]
      refine wpS_bind (wpS_ltX (R'.kind hk) (R'.ik hX) (Nat.lt_of_le_of_lt (Nat.sub_le _ _) hin) hin ?_)
      by_cases hlarger : K (arrOf st') (lo + x - 1) < K (arrOf st') (lo + x)
      · simp only [hlarger, decide_true, if_true]
        exact wpS_pure (h x neq st' R' hax (Nat.le_of_lt hxn) D)
      · simp only [hlarger, decide_false, Bool.false_eq_true, if_false]
        exact wpS_pure ⟨neq + 1, rfl, R', D.same hless hlarger⟩
theorem wpS_descP {Q : Option Nat → SortSt → Prop} (R : RB st0 lo st) (hk : kindOf st0 = oneType') (hX : IK (arrOf st0).toList) (hn : lo + nrem ≤ (arrOf st0).size) (hnn : n + 1 ≤ nrem)
    (hs : Dn (arrOf st) lo (lo + (n + 1))) (h : ∀ m st', RB st0 lo st' → 1 ≤ m → m ≤ nrem → Sg (arrOf st') lo (lo + m) → Q (some m) st') :
    wpS (model prog w) A E s (descP lo n nrem) Q st := by
  unfold descP
  refine wpS_bind (wpS_lift (wpAny_rule ⟨rfl, ?_⟩))
  refine wpS_bind (wpS_descL R hk hX hn (Nat.succ_pos _) hnn hs fun m neq st' R' hm1 hm2 D => ?_)
  dsimp only
  have hsz : lo + m ≤ (arrOf st').size := by rw [R'.size]; exact Nat.le_trans (Nat.add_le_add_left hm2 lo) hn
  have h1 : 1 ≤ m := Nat.le_trans (Nat.succ_pos _) hm1
  refine wpS_if (fun hneq => ?_) (fun hneq => ?_)
  · have hlow : ∀ i, i < lo → i < lo + m - (neq + 1) := fun i hi => by have := D.le; omega
    exact wpS_bind (wpS_reverse (wpS_tailL (R'.set (mirror_perm _ _ _ _) fun i hi => mirror_low hsz i (hlow i hi)) hk hX hn h1 hm2 (D.dn.congr (K_mirror_equal hsz D.eq)) h))
  · exact wpS_tailL R' hk hX hn h1 hm2 D.dn h
theorem wpS_countRunL {Q : Option Nat → SortSt → Prop} (hk : kindOf st = oneType') (hX : IK (arrOf st).toList) (hn : lo + nrem ≤ (arrOf st).size) (h1 : 1 ≤ nrem)
    (h : ∀ m st', RB st lo st' → 1 ≤ m → m ≤ nrem → Sg (arrOf st') lo (lo + m) → Q (some m) st') : wpS (model prog w) A E s (countRun' lo nrem) Q st := by
  rw [countRunL_eq]
  refine wpS_bind (wpS_ascL hk hX hn (Nat.le_refl 1) h1 (fun i j a b c => by
    have : i = j := by omega
    subst this; exact Int.le_refl _) fun n hn1 hn2 hsn hor => ?_)
  dsimp only
  by_cases hnn : n = nrem
  · rw [if_pos (by simpa using hnn)]
    exact wpS_pure (h n st .refl hn1 hn2 hsn)
  · rw [if_neg (by simpa using hnn)]
    have hlt : K (arrOf st) (lo + n) < K (arrOf st) (lo + n - 1) := hor.resolve_left hnn
    by_cases hgt : n > 1
    · rw [if_pos hgt]
      refine wpS_bind (wpS_ltX hk hX (by omega) (by omega) ?_)
      by_cases hrose : K (arrOf st) lo < K (arrOf st) (lo + n - 1)
      · simp only [hrose, decide_true, if_true]
        exact wpS_pure (h n st .refl hn1 hn2 hsn)
      · simp only [hrose, decide_false, Bool.false_eq_true, if_false]
        have hsz : lo + n ≤ (arrOf st).size := by omega
        have hall : ∀ k, lo ≤ k → k < lo + n → K (arrOf st) k = K (arrOf st) (lo + n - 1) := by
          intro k h2 hk
          have a1 := hsn lo k (Nat.le_refl _) h2 hk
          have a2 := hsn k (lo + n - 1) h2 (by omega) (by omega)
          omega
        have D0 : Dn (arrOf st) lo (lo + n) := fun i j a b c => by rw [hall i a (by omega), hall j (by omega) c]; exact Int.le_refl _
        refine wpS_bind (wpS_reverse (wpS_descP (RB.refl.set (mirror_perm _ _ _ _) fun i hi => mirror_low hsz i hi) hk hX hn (by omega) ?_ h))
        exact Dn.congr (D0.succ (by omega) (Int.le_of_lt hlt)) (K_mirror_equal hsz hall)
    · rw [if_neg hgt]
      have hn1' : n = 1 := by omega
      subst hn1'
      refine wpS_descP .refl hk hX hn (by omega) ?_ h
      refine Dn.succ (r := lo + 1) (fun i j a b c => ?_) (by omega) (Int.le_of_lt hlt)
      have : i = j := by omega
      subst this; exact Int.le_refl _
/-- the place of the item at k lies between l and r -/
structure BI (X : Array Keyed) (lo k x l r : Nat) : Prop where
  le : l ≤ r
  rk : r ≤ k
  few : r + x ≤ l + k
  low : ∀ i, lo ≤ i → i < lo + l → K X i ≤ K X (lo + k)
  high : ∀ i, lo + r ≤ i → i < lo + k → K X (lo + k) < K X i
section
variable {X : Array Keyed} {k x l r m : Nat}
theorem BI.start : BI X lo k 0 0 k := ⟨Nat.zero_le _, Nat.le_refl _, Nat.le_of_eq (Nat.add_comm _ _), fun i h1 h2 => absurd h1 (Nat.not_le.mpr h2), fun i h1 h2 => absurd h1 (Nat.not_le.mpr h2)⟩
theorem BI.fin (h : BI X lo k k l r) : BI X lo k 0 l l := by
  have e : l = r := Nat.le_antisymm h.le (Nat.le_of_add_le_add_right h.few)
  subst e
  exact ⟨h.le, h.rk, Nat.add_le_add_left (Nat.zero_le k) l, h.low, h.high⟩
theorem BI.met (h : BI X lo k x l r) (e : l ≥ r) : BI X lo k 0 l l := by
  have e : l = r := Nat.le_antisymm h.le e
  subst e
  exact ⟨h.le, h.rk, Nat.add_le_add_left (Nat.zero_le k) l, h.low, h.high⟩
theorem BI.dn (h : BI X lo k x l r) (hs : Sg X lo (lo + k)) (h1 : l ≤ m) (h2 : m < r) (hless : K X (lo + k) < K X (lo + m)) : BI X lo k (x + 1) l m :=
  ⟨h1, Nat.le_trans (Nat.le_of_lt h2) h.rk, by have := h.few; omega, h.low, fun i a b => Int.lt_of_lt_of_le hless (hs _ _ (Nat.le_add_right _ _) a b)⟩
theorem BI.up (h : BI X lo k x l r) (hs : Sg X lo (lo + k)) (h1 : l ≤ m) (h2 : m < r) (hless : ¬ K X (lo + k) < K X (lo + m)) : BI X lo k (x + 1) (m + 1) r :=
  ⟨h2, h.rk, by have := h.few; omega, fun i a b => Int.le_trans (hs i (lo + m) a (Nat.le_of_lt_succ b) (Nat.add_lt_add_left (Nat.lt_of_lt_of_le h2 h.rk) lo)) (Int.not_lt.mp hless), h.high⟩
theorem Sg.of_step {b : Nat} (h : ∀ i, lo ≤ i → i + 1 < b → K X i ≤ K X (i + 1)) : Sg X lo b := fun i j h1 h2 h3 => by
  induction h2 with
  | refl => exact Int.le_refl _
  | step h2 ih => exact Int.le_trans (ih (Nat.lt_of_succ_lt h3)) (h _ (Nat.le_trans h1 h2) h3)
theorem BI.put (h : BI X lo k x l l) (hs : Sg X lo (lo + k)) (hk : lo + k < X.size) :
    (∀ i, i < lo + l → K (bubble X (lo + k) (lo + k - (lo + l))) i = K X i) ∧ Sg (bubble X (lo + k) (lo + k - (lo + l))) lo (lo + (k + 1)) := by
  have hp : lo + l ≤ lo + k := Nat.add_le_add_left h.rk lo
  have e : ∀ i, _ := K_bubble hk (Nat.sub_le (lo + k) (lo + l))
  rw [Nat.sub_sub_self hp] at e
  generalize bubble X (lo + k) (lo + k - (lo + l)) = Y at e ⊢
  obtain ⟨lk, low, high⟩ := And.intro h.rk (And.intro h.low h.high)
  clear h
  have hlp : lo ≤ lo + l := Nat.le_add_right _ _
  generalize lo + l = p at e hp low high hlp ⊢
  have e1 : ∀ i, i < p → K Y i = K X i := fun i q => by rw [e, if_neg (Nat.ne_of_lt q), if_neg fun q' => Nat.lt_asymm q q'.1]
  have e2 : K Y p = K X (lo + k) := by rw [e, if_pos rfl]
  have e3 : ∀ i, p ≤ i → i < lo + k → K Y (i + 1) = K X i := fun i q q' => by rw [e, if_neg (Nat.ne_of_gt (Nat.lt_succ_of_le q)), if_pos ⟨Nat.lt_succ_of_le q, q'⟩, Nat.add_sub_cancel]
  refine ⟨e1, .of_step fun i a b => ?_⟩
  have b : i < lo + k := Nat.lt_of_succ_lt_succ b
  rcases Nat.lt_trichotomy i p with q | q | q
  · rw [e1 i q]
    rcases Nat.lt_or_eq_of_le (Nat.succ_le_of_lt q) with q' | q'
    · rw [e1 _ q']; exact hs _ _ a (Nat.le_succ _) (Nat.lt_of_lt_of_le q' hp)
    · rw [show i + 1 = p from q', e2]; exact low i a q
  · rw [q, e2, e3 p (Nat.le_refl _) (q ▸ b)]; exact Int.le_of_lt (high p (Nat.le_refl _) (q ▸ b))
  · rw [e3 i (Nat.le_of_lt q) b]
    cases i with
    | zero => cases q
    | succ j =>
      rw [e3 j (Nat.le_of_lt_succ q) (Nat.lt_of_succ_lt b)]
      exact hs j (j + 1) (Nat.le_trans hlp (Nat.le_of_lt_succ q)) (Nat.le_succ _) b
end
theorem wpS_binL {ok : Nat} {Q : Bool → SortSt → Prop} (R : RB st0 lo st) (hk : kindOf st0 = oneType') (hX : IK (arrOf st0).toList) (hn : lo + n ≤ (arrOf st0).size) (hok : ok ≤ n) (hs : Sg (arrOf st) lo (lo + ok))
    (h : ∀ st', RB st0 lo st' → Sg (arrOf st') lo (lo + n) → Q true st') : wpS (model prog w) A E s (binarySort' lo n ok) Q st := by
  rw [binarySort'_eq]
  refine wpS_bind (wpS_mono (wpS_forRange (I := fun k c st' => c = (none, ()) ∧ RB st0 lo st' ∧ Sg (arrOf st') lo (lo + min k n))
    (Q := fun c st' => c = (none, ()) ∧ RB st0 lo st' ∧ Sg (arrOf st') lo (lo + n)) ?step ?fin ?init) ?post)
  case post =>
    rintro c st' ⟨rfl, hB', hs'⟩
    exact wpS_pure (h st' hB' hs')
  case init =>
    refine ⟨rfl, R, ?_⟩
    cases ok with
    | zero =>
      intro i j a b c
      have : i = j := Nat.le_antisymm b (Nat.le_trans (Nat.le_of_lt_succ (Nat.lt_of_lt_of_le c (Nat.add_le_add_left (Nat.min_le_left _ _) lo))) a)
      subst this; exact Int.le_refl _
    | succ ok => rw [Nat.max_eq_left (Nat.succ_le_succ (Nat.zero_le ok)), Nat.min_eq_left hok]; exact hs
  case fin =>
    rintro c st' ⟨hc, hB', hs'⟩
    rw [Nat.min_eq_right (Nat.le_max_right _ _)] at hs'
    exact ⟨hc, hB', hs'⟩
  case step =>
    rintro k c st' hak hkn ⟨rfl, R', hs'⟩
    rw [Nat.min_eq_left (Nat.le_of_lt hkn)] at hs'
    have hks : lo + k < (arrOf st').size := by rw [R'.size]; exact Nat.lt_of_lt_of_le (Nat.add_lt_add_left hkn lo) hn
    have hk' := R'.kind hk
    have hX' := R'.ik hX
    clear hn hs R h hk hX hok hak
    refine wpS_bind (wpS_mono (wpS_forRange (I := fun x c st'' => st'' = st' ∧ ∃ l r, c = (none, l, r) ∧ BI (arrOf st') lo k x l r)
      (Q := fun c st'' => st'' = st' ∧ ∃ l r, c = (none, l, r) ∧ BI (arrOf st') lo k 0 l l) ?istep ?ifin ?iinit) ?ipost)
    case iinit => exact ⟨rfl, 0, k, rfl, .start⟩
    case ifin =>
      rintro c st'' ⟨rfl, l, r, rfl, B⟩
      rw [Nat.max_eq_right (Nat.zero_le k)] at B
      exact ⟨rfl, l, r, rfl, B.fin⟩
    case istep =>
      rintro x c st'' _ hxk ⟨rfl, l, r, rfl, B⟩
      dsimp only
      refine wpS_if (fun hge => wpS_pure ⟨rfl, l, r, rfl, B.met hge⟩) (fun hge => ?_)
      have hmid : l ≤ (l + r) / 2 ∧ (l + r) / 2 < r := by omega
      obtain ⟨h1, h2⟩ := hmid
      generalize (l + r) / 2 = m at h1 h2 ⊢
      refine wpS_bind (wpS_ltX hk' hX' hks (Nat.lt_trans (Nat.add_lt_add_left (Nat.lt_of_lt_of_le h2 B.rk) lo) hks) ?_)
      by_cases hless : K (arrOf st'') (lo + k) < K (arrOf st'') (lo + m)
      · simp only [hless, decide_true, if_true]
        exact wpS_pure ⟨rfl, l, m, rfl, B.dn hs' h1 h2 hless⟩
      · simp only [hless, decide_false, Bool.false_eq_true, if_false]
        exact wpS_pure ⟨rfl, m + 1, r, rfl, B.up hs' h1 h2 hless⟩
    case ipost =>
      rintro c st'' ⟨rfl, l, r, rfl, B⟩
      show wpS _ _ _ _ (do moveDown' (lo + k) (lo + l); pure (ForInStep.yield (none, ()))) _ _
      rw [moveDown'_eq]
      obtain ⟨p1, p2⟩ := B.put hs' hks
      refine wpS_bind (wpS_modify (wpS_pure ⟨rfl, R'.set (bubble_perm _ _ _) fun i hi => p1 i (Nat.lt_of_lt_of_le hi (Nat.le_add_right _ _)), ?_⟩))
      rw [Nat.min_eq_left (Nat.succ_le_of_lt hkn)]
      exact p2
end Mine

end
section -- TS11
open PySem PyProof.Rows
namespace Mine
variable {prog : Program} {w : World} {A : Around} {E : Value → Shared → Prop} {s : Shared}
variable {st st0 : SortSt} {lo n nrem : Nat}
abbrev Rn := Nat × Nat × Nat
/-- the runs that lie one behind the other -/
noncomputable def Runs (X : Array Keyed) : Nat → List Rn → Nat → Prop
  | b, [], e => b = e
  | b, q :: r, e => q.1 = b ∧ 0 < q.2.1 ∧ Sg X b (b + q.2.1) ∧ Runs X (b + q.2.1) r e
section
variable {X Y : Array Keyed}
theorem Runs.le : ∀ {l : List Rn} {b e : Nat}, Runs X b l e → b + l.length ≤ e
  | [], b, e, h => by
    have : b = e := h
    simp; omega
  | q :: r, b, e, h => by
    have := Runs.le h.2.2.2
    have := h.2.1
    rw [List.length_cons]; omega
theorem Runs.congr : ∀ {l : List Rn} {b e : Nat}, Runs X b l e → (∀ i, b ≤ i → i < e → K Y i = K X i) → Runs Y b l e
  | [], b, e, h, _ => h
  | q :: r, b, e, h, k => by
    have hle := Runs.le h.2.2.2
    refine ⟨h.1, h.2.1, fun i j a c d => ?_, Runs.congr h.2.2.2 fun i a c => k i (by omega) c⟩
    rw [k i a (by omega), k j (by omega) (by omega)]; exact h.2.2.1 i j a c d
theorem Runs.app : ∀ {l l' : List Rn} {b e : Nat}, Runs X b (l ++ l') e ↔ ∃ m, Runs X b l m ∧ Runs X m l' e
  | [], l', b, e => ⟨fun h => ⟨b, rfl, h⟩, fun ⟨m, h1, h2⟩ => by
      have : b = m := h1
      subst this; exact h2⟩
  | q :: r, l', b, e => ⟨fun h => by
      obtain ⟨m, h1, h2⟩ := Runs.app.mp h.2.2.2
      exact ⟨m, ⟨h.1, h.2.1, h.2.2.1, h1⟩, h2⟩, fun ⟨m, h1, h2⟩ => ⟨h1.1, h1.2.1, h1.2.2.1, Runs.app.mpr ⟨m, h1.2.2.2, h2⟩⟩⟩
end
theorem split2 {P : Array Rn} {i : Nat} {u v : Rn} (h1 : P[i]? = some u) (h2 : P[i + 1]? = some v) : P.toList = P.toList.take i ++ (u :: v :: P.toList.drop (i + 2)) := by
  obtain ⟨a1, a2⟩ := Array.getElem?_eq_some_iff.mp h1
  obtain ⟨b1, b2⟩ := Array.getElem?_eq_some_iff.mp h2
  have e := List.take_append_drop i P.toList
  rw [List.drop_eq_getElem_cons (by rw [Array.length_toList]; exact a1), List.drop_eq_getElem_cons (by rw [Array.length_toList]; exact b1)] at e
  rw [Array.getElem_toList, Array.getElem_toList, a2, b2] at e
  exact e.symm
theorem set2 {P : Array Rn} {i : Nat} {u : Rn} (h : i + 1 < P.size) : ((P.setIfInBounds i u).eraseIdxIfInBounds (i + 1)).toList = P.toList.take i ++ (u :: P.toList.drop (i + 2)) := by
  have hs : i + 1 < (P.setIfInBounds i u).size := by rw [Array.size_setIfInBounds]; exact h
  rw [Array.eraseIdxIfInBounds, dif_pos hs, Array.toList_eraseIdx, Array.toList_setIfInBounds, List.eraseIdx_eq_take_drop_succ]
  rw [List.take_add_one, List.take_set_of_le (Nat.le_refl _), List.getElem?_set_self (by rw [Array.length_toList]; omega), List.drop_set_of_lt (by omega)]
  simp
/-- a state between two runs -/
structure SR (X0 : Array Keyed) (lo : Nat) (st : SortSt) : Prop where
  kind : kindOf st = oneType'
  failed : failedOf st = none
  perm : (arrOf st).toList.Perm X0.toList
  runs : Runs (arrOf st) 0 (pendingOf st).toList lo
theorem SR.size {X0 : Array Keyed} (h : SR X0 lo st) : (arrOf st).size = X0.size := by
  have := h.perm.length_eq
  rwa [Array.length_toList, Array.length_toList] at this
theorem SR.ik {X0 : Array Keyed} (h : SR X0 lo st) (hX : IK X0.toList) : IK (arrOf st).toList := fun p hp => hX p (h.perm.mem_iff.mp hp)
theorem wpS_mergeR {X0 : Array Keyed} {i : Nat} {Q : Bool → SortSt → Prop} (h : SR X0 lo st) (hX : IK X0.toList) (hl : lo ≤ X0.size) (hi : i + 1 < (pendingOf st).size)
    (q : ∀ st', SR X0 lo st' → (∀ j, lo ≤ j → K (arrOf st') j = K (arrOf st) j) → (pendingOf st').size + 1 = (pendingOf st).size → Q true st') : wpS (model prog w) A E s (mergeAt' i) Q st := by
  obtain ⟨⟨sa, na, pa⟩, h1⟩ : ∃ u, (pendingOf st)[i]? = some u := ⟨_, getElem?_pos (pendingOf st) i (by omega)⟩
  obtain ⟨⟨sb, nb, pb⟩, h2⟩ : ∃ u, (pendingOf st)[i + 1]? = some u := ⟨_, getElem?_pos (pendingOf st) (i + 1) hi⟩
  have hr := h.runs
  rw [split2 h1 h2] at hr
  obtain ⟨m, r1, r2⟩ := Runs.app.mp hr
  obtain ⟨e1, e2, e3, f1, f2, f3, f4⟩ := r2
  replace e1 : sa = m := e1
  replace f1 : sb = m + na := f1
  replace e2 : 0 < na := e2
  replace f2 : 0 < nb := f2
  replace e3 : Sg (arrOf st) m (m + na) := e3
  replace f3 : Sg (arrOf st) (m + na) (m + na + nb) := f3
  replace f4 : Runs (arrOf st) (m + na + nb) _ lo := f4
  subst e1 f1
  have hle := Runs.le f4
  refine wpS_mergeAt h.kind h.failed (h.ik hX) h1 h2 rfl (by rw [h.size]; omega) e3 f3 e2 f2 fun Y g O => q _ ⟨h.kind, h.failed, O.perm.trans h.perm, ?_⟩ (fun j hj => O.hi j (by omega)) ?_
  · show Runs Y 0 (((pendingOf st).setIfInBounds i (sa, na + nb, pa)).eraseIdxIfInBounds (i + 1)).toList lo
    rw [set2 hi]
    refine Runs.app.mpr ⟨sa, r1.congr fun j _ hj => O.lo j hj, rfl, by show 0 < na + nb; omega, ?_, ?_⟩
    · show Sg Y sa (sa + (na + nb)); rw [← Nat.add_assoc]; exact O.srt
    · show Runs Y (sa + (na + nb)) _ lo
      rw [← Nat.add_assoc]
      exact f4.congr fun j hj _ => O.hi j hj
  · show (((pendingOf st).setIfInBounds i (sa, na + nb, pa)).eraseIdxIfInBounds (i + 1)).size + 1 = _
    have := congrArg List.length (set2 (u := (sa, na + nb, pa)) hi)
    rw [Array.length_toList] at this
    rw [this]
    simp only [List.length_append, List.length_take, List.length_cons, List.length_drop, Array.length_toList]
    omega
end Mine

end
section -- TS12
open PySem PyProof.Rows
namespace Mine
variable {prog : Program} {w : World} {A : Around} {E : Value → Shared → Prop} {s : Shared}
variable {st : SortSt} {X0 : Array Keyed}
theorem SR.rb {lo : Nat} {st' : SortSt} (h : SR X0 lo st) (r : RB st lo st') : SR X0 lo st' := by
  have e := r.eq
  refine ⟨r.kind h.kind, by rw [e]; exact h.failed, r.perm.trans h.perm, ?_⟩
  have : (pendingOf st') = pendingOf st := by rw [e]
  rw [this]
  exact h.runs.congr fun i _ hi => r.low i hi
theorem Runs.pow {X : Array Keyed} : ∀ {l l' : List Rn} {b e : Nat}, Runs X b l e → l'.map (fun q => (q.1, q.2.1)) = l.map (fun q => (q.1, q.2.1)) → Runs X b l' e
  | [], [], b, e, h, _ => h
  | q :: r, q' :: r', b, e, h, k => by
    rw [List.map_cons, List.map_cons] at k
    obtain ⟨k1, k2⟩ := List.cons.inj k
    obtain ⟨k3, k4⟩ := Prod.mk.inj k1
    refine ⟨k3.trans h.1, by rw [k4]; exact h.2.1, by rw [k4]; exact h.2.2.1, ?_⟩
    rw [k4]; exact Runs.pow h.2.2.2 k2
  | [], _ :: _, _, _, _, k => by simp at k
  | _ :: _, [], _, _, _, k => by simp at k
theorem SR.push {lo n : Nat} (h : SR X0 lo st) (hn : 0 < n) (hs : Sg (arrOf st) lo (lo + n)) {P : Array Rn} (hP : P.toList.map (fun q => (q.1, q.2.1)) = (pendingOf st).toList.map (fun q => (q.1, q.2.1))) : SR X0 (lo + n) (setPending st (P.push (lo, n, 0))) := by
  refine ⟨h.kind, h.failed, h.perm, ?_⟩
  show Runs (arrOf st) 0 (P.push (lo, n, 0)).toList (lo + n)
  rw [Array.toList_push]
  exact Runs.app.mpr ⟨lo, h.runs.pow hP, rfl, hn, hs, rfl⟩
theorem idx_lt {c : Prop} [Decidable c] {n : Nat} (h : 1 < n) : (if c then n - 2 - 1 else n - 2) + 1 < n := by split <;> omega
noncomputable def RP (X0 : Array Keyed) (x : Nat) (r : ForInStep (Option Unit × Nat)) (st' : SortSt) : Prop := match r with
  | .done c' => c' = (none, X0.size) ∧ SR X0 X0.size st'
  | .yield c' => ∃ lo, c' = (none, lo) ∧ x + 1 ≤ lo ∧ lo ≤ X0.size ∧ SR X0 lo st'
theorem two_lt {n : Nat} (h : 1 < n) : n - 2 + 1 < n := by omega
theorem map_modify {P : Array Rn} {i : Nat} {f : Rn → Rn} (hf : ∀ q, ((f q).1, (f q).2.1) = (q.1, q.2.1)) : (P.modify i f).toList.map (fun q => (q.1, q.2.1)) = P.toList.map (fun q => (q.1, q.2.1)) := by
  rw [Array.toList_modify]
  refine List.ext_getElem? fun i => ?_
  rw [List.getElem?_map, List.getElem?_map, List.getElem?_modify]
  cases P.toList[i]? with
  | none => rfl
  | some q =>
    simp only [Option.map_eq_map, Option.map_some]
    split
    · exact congrArg some (hf q)
    · rfl
/-- one run more: what it stands above is merged -/
noncomputable def popS (N n s1 n1 : Nat) : StateT SortSt Sem (ForInStep (Option Unit × Unit)) := do
  let st ← get
  match (if (pendingOf st).size > 1 then (pendingOf st)[(pendingOf st).size - 2]? else none) with
  | some (_, _, older) =>
    if older ≤ power' N (2 * s1 + n1) (2 * s1 + n1 + n1 + n) N then pure (ForInStep.done (none, ()))
    else do
      let ok ← mergeAt' ((pendingOf st).size - 2)
      if (!ok) = true then pure (ForInStep.done (some (), ())) else pure (ForInStep.yield (none, ()))
  | _ => pure (ForInStep.done (none, ()))
noncomputable def pushS (lo n : Nat) : StateT SortSt Sem (ForInStep (Option Unit × Nat)) := do
  modify fun s => setPending s ((pendingOf s).push (lo, n, 0))
  pure (ForInStep.yield (none, lo + n))
noncomputable def restS (N lo n : Nat) : StateT SortSt Sem (ForInStep (Option Unit × Nat)) := do
  let st ← get
  match (pendingOf st).back? with
  | some (s1, n1, _) => do
    let c ← forIn [:N] ((none, ()) : Option Unit × Unit) fun _ _ => popS N n s1 n1
    match c.1 with
    | some r => pure (ForInStep.done (some r, lo))
    | none => do
      modify fun s => setPending s ((pendingOf s).modify ((pendingOf s).size - 1) fun (a, b, _) => (a, b, power' N (2 * s1 + n1) (2 * s1 + n1 + n1 + n) N))
      pushS lo n
  | _ => pushS lo n
noncomputable def binS (N lo n found : Nat) : StateT SortSt Sem (ForInStep (Option Unit × Nat)) := do
  liftM (rule "list.sort.binary-insertion")
  let ok ← binarySort' lo n found
  if (!ok) = true then pure (ForInStep.done (some (), lo)) else restS N lo n
noncomputable def turnS (N : Nat) (c : Option Unit × Nat) : StateT SortSt Sem (ForInStep (Option Unit × Nat)) :=
  if c.2 ≥ N then pure (ForInStep.done (none, c.2))
  else do
    let r ← countRun' c.2 (N - c.2)
    match r with
    | some found => if found < minRun' N N 0 then binS N c.2 (min (N - c.2) (minRun' N N 0)) found else restS N c.2 found
    | _ => pure (ForInStep.done (some (), c.2))
/-- all that is left is merged -/
noncomputable def mergeI (p : Array Rn) : Nat := if Option.any (fun x => decide (x < p[p.size - 2 + 1]?.elim 0 fun x => x.2.1)) (if p.size - 2 > 0 then Option.map (fun x => x.2.1) p[p.size - 2 - 1]? else none) = true then p.size - 2 - 1 else p.size - 2
noncomputable def allS : StateT SortSt Sem (ForInStep (Option Unit × Unit)) := do
  let st ← get
  if (pendingOf st).size ≤ 1 then pure (ForInStep.done (none, ()))
  else do
    let ok ← mergeAt' (mergeI (pendingOf st))
    if (!ok) = true then pure (ForInStep.done (some (), ())) else pure (ForInStep.yield (none, ()))
noncomputable def endS (N : Nat) : StateT SortSt Sem Unit := do
  let c ← forIn [:N] ((none, ()) : Option Unit × Unit) fun _ _ => allS
  match c.1 with
  | some r => pure r
  | none => pure ()
theorem sortRuns_named : sortRuns' = (do
    let st ← get
    let c ← forIn [:(arrOf st).size] ((none, 0) : Option Unit × Nat) fun _ c => turnS (arrOf st).size c
    match c.1 with
    | some r => pure r
    | none => endS (arrOf st).size) := by kernel_rfl
section
variable {lo n N : Nat}
theorem wpS_popS {s1 n1 : Nat} {Z : ForInStep (Option Unit × Unit) → SortSt → Prop} (hX : IK X0.toList) (hl : lo + n ≤ X0.size) (h : SR X0 lo st) (hs : Sg (arrOf st) lo (lo + n))
    (z1 : Z (.done (none, ())) st) (z2 : ∀ st', SR X0 lo st' → Sg (arrOf st') lo (lo + n) → Z (.yield (none, ())) st') : wpS (model prog w) A E s (popS N n s1 n1) Z st := by
  unfold popS
  refine wpS_bind (wpS_get ?_)
  split
  · rename_i older ho
    refine wpS_if (fun _ => wpS_pure z1) (fun _ => ?_)
    have hp : (pendingOf st).size > 1 := Classical.byContradiction fun hp => by rw [if_neg hp] at ho; cases ho
    exact wpS_bind (wpS_mergeR h hX (Nat.le_trans (Nat.le_add_right _ _) hl) (two_lt hp) fun st2 h2 k2 _ => wpS_pure (z2 st2 h2 fun i j a b c => by rw [k2 i a, k2 j (Nat.le_trans a b)]; exact hs i j a b c))
  · exact wpS_pure z1
theorem wpS_restS {x : Nat} (hX : IK X0.toList) (h : SR X0 lo st) (hs : Sg (arrOf st) lo (lo + n)) (hn : 0 < n) (hl : lo + n ≤ X0.size) (hx : x ≤ lo) : wpS (model prog w) A E s (restS N lo n) (RP X0 x) st := by
  have hx1 : x + 1 ≤ lo + n := Nat.add_le_add hx hn
  unfold restS
  refine wpS_bind (wpS_get ?_)
  split
  · rename_i s1 n1 p1 _
    refine wpS_bind (wpS_mono (wpS_forRange (I := fun _ c st' => c = (none, ()) ∧ SR X0 lo st' ∧ Sg (arrOf st') lo (lo + n)) (Q := fun c st' => c = (none, ()) ∧ SR X0 lo st' ∧ Sg (arrOf st') lo (lo + n)) (fun y c st' _ _ h => ?_) (fun c st' h => h) ⟨rfl, h, hs⟩) fun c st' h => ?_)
    · obtain ⟨rfl, h', hs'⟩ := h
      exact wpS_popS hX hl h' hs' ⟨rfl, h', hs'⟩ fun st2 h2 s2 => ⟨rfl, h2, s2⟩
    · obtain ⟨rfl, h', hs'⟩ := h
      exact wpS_bind (wpS_modify (wpS_bind (wpS_modify (wpS_pure ⟨lo + n, rfl, hx1, hl, h'.push hn hs' (map_modify fun _ => rfl)⟩))))
  · exact wpS_bind (wpS_modify (wpS_pure ⟨lo + n, rfl, hx1, hl, h.push hn hs rfl⟩))
theorem wpS_turnS {x : Nat} (hX : IK X0.toList) (h : SR X0 lo st) (hx : x ≤ lo) (hN : lo ≤ X0.size) : wpS (model prog w) A E s (turnS X0.size (none, lo)) (RP X0 x) st := by
  unfold turnS
  refine wpS_if (fun hlo => ?_) (fun hlo => ?_)
  · have : lo = X0.size := Nat.le_antisymm hN hlo
    subst this; exact wpS_pure ⟨rfl, h⟩
  have hlt : 1 ≤ X0.size - lo := Nat.sub_pos_of_lt (Nat.not_le.mp hlo)
  have hz : lo + (X0.size - lo) ≤ (arrOf st).size := by rw [h.size, Nat.add_sub_cancel' hN]; exact Nat.le_refl _
  have hin : ∀ {m : Nat}, m ≤ X0.size - lo → lo + m ≤ X0.size := fun q => by rw [Nat.add_comm]; exact Nat.add_le_of_le_sub hN q
  refine wpS_bind (wpS_countRunL h.kind (h.ik hX) hz hlt fun m st2 R2 hm1 hm2 hs2 => ?_)
  refine wpS_if (fun hlt => ?_) (fun _ => wpS_restS hX (h.rb R2) hs2 hm1 (hin hm2) hx)
  have hle : min (X0.size - lo) (minRun' X0.size X0.size 0) ≤ X0.size - lo := Nat.min_le_left _ _
  have hlm : m ≤ min (X0.size - lo) (minRun' X0.size X0.size 0) := Nat.le_min.mpr ⟨hm2, Nat.le_of_lt hlt⟩
  show wpS _ _ _ _ (binS X0.size lo (min (X0.size - lo) (minRun' X0.size X0.size 0)) m) _ _
  generalize min (X0.size - lo) (minRun' X0.size X0.size 0) = n at hle hlm ⊢
  unfold binS
  refine wpS_bind (wpS_lift (wpAny_rule ⟨rfl, ?_⟩))
  exact wpS_bind (wpS_binL R2 h.kind (h.ik hX) (by rw [h.size]; exact hin hle) hlm hs2 fun st3 R3 hs3 => wpS_restS hX (h.rb R3) hs3 (Nat.lt_of_lt_of_le hm1 hlm) (hin hle) hx)
theorem wpS_allS {Z : ForInStep (Option Unit × Unit) → SortSt → Prop} (hX : IK X0.toList) (h : SR X0 X0.size st) (z1 : (pendingOf st).size ≤ 1 → Z (.done (none, ())) st)
    (z2 : ∀ st', SR X0 X0.size st' → (pendingOf st').size + 1 = (pendingOf st).size → Z (.yield (none, ())) st') : wpS (model prog w) A E s allS Z st := by
  unfold allS
  refine wpS_bind (wpS_get (wpS_if (fun hp => wpS_pure (z1 hp)) fun hp => ?_))
  refine wpS_bind (wpS_mergeR h hX (Nat.le_refl _) ?_ fun st2 k2 _ k4 => wpS_pure (z2 st2 k2 k4))
  exact idx_lt (Nat.not_le.mp hp)
theorem sg_one {X : Array Keyed} {l : List Rn} {N : Nat} (hr : Runs X 0 l N) (hl : l.length ≤ 1) : Sg X 0 N := by
  cases l with
  | nil =>
    have : (0 : Nat) = N := hr
    subst this; exact fun i j _ _ c => absurd c (Nat.not_lt_zero _)
  | cons q r =>
    cases r with
    | cons _ _ => exact absurd (Nat.le_of_succ_le_succ hl) (Nat.not_succ_le_zero _)
    | nil =>
      obtain ⟨_, _, h6, h7⟩ := hr
      have h7 : 0 + q.2.1 = N := h7
      rw [h7] at h6; exact h6
theorem wpS_endS {Q : Unit → SortSt → Prop} (hX : IK X0.toList) (h0 : SR X0 X0.size st)
    (h : ∀ st', (arrOf st').toList.Perm X0.toList → failedOf st' = none → Sg (arrOf st') 0 X0.size → Q () st') : wpS (model prog w) A E s (endS X0.size) Q st := by
  unfold endS
  have hi := h0.runs.le
  rw [Array.length_toList, Nat.zero_add] at hi
  refine wpS_bind (wpS_mono (wpS_forRange (I := fun x c st' => c = (none, ()) ∧ SR X0 X0.size st' ∧ ((pendingOf st').size ≤ 1 ∨ (pendingOf st').size + x ≤ X0.size)) (Q := fun c st' => c = (none, ()) ∧ SR X0 X0.size st' ∧ (pendingOf st').size ≤ 1)
    (fun x c st' _ hx h => ?_) (fun c st' h => ?_) ⟨rfl, h0, .inr hi⟩) fun c st' h' => ?_)
  · obtain ⟨rfl, h3, h4⟩ := h
    exact wpS_allS hX h3 (fun hp => ⟨rfl, h3, hp⟩) fun st2 k2 k4 => ⟨rfl, k2, by omega⟩
  · obtain ⟨rfl, h3, h4⟩ := h
    exact ⟨rfl, h3, by omega⟩
  · obtain ⟨rfl, h3, h4⟩ := h'
    exact wpS_pure (h st' h3.perm h3.failed (sg_one h3.runs (by rw [Array.length_toList]; exact h4)))
end
theorem wpS_sortR {Q : Unit → SortSt → Prop} (hX : IK X0.toList) (h2 : 2 ≤ X0.size) (h0 : SR X0 0 st)
    (h : ∀ st', (arrOf st').toList.Perm X0.toList → failedOf st' = none → Sg (arrOf st') 0 X0.size → Q () st') : wpS (model prog w) A E s sortRuns' Q st := by
  rw [sortRuns_named]
  refine wpS_bind (wpS_get ?_)
  rw [h0.size]
  refine wpS_bind (wpS_mono (wpS_forRange (I := fun x c st' => ∃ lo, c = (none, lo) ∧ x ≤ lo ∧ lo ≤ X0.size ∧ SR X0 lo st')
    (Q := fun c st' => c = (none, X0.size) ∧ SR X0 X0.size st') (fun x c st' _ hx h => ?_) (fun c st' h => ?_) ⟨0, rfl, Nat.le_refl _, Nat.zero_le _, h0⟩) fun c st' h' => ?_)
  · obtain ⟨lo, rfl, h3, h4, h5⟩ := h
    exact wpS_mono (wpS_turnS hX h5 h3 h4) (fun r st' h => by cases r <;> exact h)
  · obtain ⟨lo, rfl, h3, h4, h5⟩ := h
    rw [Nat.max_eq_right (Nat.zero_le _)] at h3
    have : lo = X0.size := Nat.le_antisymm h4 h3
    subst this; exact ⟨rfl, h5⟩
  · obtain ⟨rfl, hS⟩ := h'
    exact wpS_endS hX hS h
end Mine

end
section -- TS13
open PySem PyProof.Rows
namespace Mine
variable {prog : Program} {w : World} {A : Around} {E : Value → Shared → Prop} {s : Shared}
theorem ik_pairs {vs : List Value} {ns : List Int} (hI : IntsAre vs ns) : IK (pairsOf vs).toList := hI.intKeys
/-- list.sort of two ints or more -/
theorem sort_tree {a : Addr} {vs : List Value} {ns : List Int} {n : Nat} {P : Fin → Shared → Prop} (ho : s.heap.get? a = some (seqObj "list" vs.toArray n)) (hI : IntsAre vs ns) (h2 : 2 ≤ vs.length) (hz : vs.length ≤ sizeLine)
    (h : ∀ (out : Array Value) (ns' : List Int), IntsAre out.toList ns' → ns'.Perm ns → ns'.Pairwise (· ≤ ·) → P (.done (.ret .none)) { s with heap := sortedHeap s.heap a vs out }) :
    wpAny (model prog w) A (Builtin.«list.sort» ⟨[.ref a], []⟩) P E s := by
  rw [list_sort_plain]
  have ha : a < s.heap.objs.size := Heap.lt_size ho
  have hsz : vs.toArray.size = vs.length := by simp
  refine wpAny_bind (listItems_at ho rfl (wpAny_bind (listUpdate_at ho rfl ?_ (by rw [hsz]; exact hz) (Nat.zero_le _))))
  obtain ⟨e1, ho1⟩ : ∃ e1, (s.heap.update a (Obj.mapSeq fun _ => #[])).get? a = some (seqObj "list" #[] e1) := ⟨_, get?_update_seq ho (fun _ => #[])⟩
  refine wpAny_bind (seqEpoch_at ho1 rfl (wpAny_bind (wpAny_newTuple (wpAny_bind (wpAny_newList (wpAny_holding ?_))))))
  generalize hH : ((s.heap.update a (Obj.mapSeq fun _ => #[])).push (seqObj "tuple" vs.toArray 0)).push (seqObj "list" #[] 0) = H
  have ho6 : H.get? a = some (seqObj "list" #[] e1) := by
    rw [← hH, Heap.get?_push_ne _ _ _ (by rw [size_push', Heap.size_update]; exact Nat.ne_of_lt (Nat.lt_succ_of_lt ha)), Heap.get?_push_ne _ _ _ (by rw [Heap.size_update]; exact Nat.ne_of_lt ha)]
    exact ho1
  show wpAny (model prog w) A _ P E { s with heap := H }
  dsimp only
  rw [if_neg (by rw [hsz]; omega), if_neg (by rw [hsz]; omega)]
  obtain ⟨v1, r1, rfl⟩ : ∃ v r, vs = v :: r := by
    cases vs with
    | nil => simp at h2
    | cons v r => exact ⟨v, r, rfl⟩
  obtain ⟨v2, r2, rfl⟩ : ∃ v r, r1 = v :: r := by
    cases r1 with
    | nil => simp at h2
    | cons v r => exact ⟨v, r, rfl⟩
  rw [keyKind_ints hI]
  refine wpAny_bind (wpAny_pure ?_)
  have h0 : SR (pairsOf (v1 :: v2 :: r2)) 0 (SortSt.mk' oneType' ((v1 :: v2 :: r2).toArray.zip (v1 :: v2 :: r2).toArray) #[] 7 none) := ⟨rfl, rfl, .refl _, rfl⟩
  refine wpAny_bind (wpAny_mono (wpS_sortR (ik_pairs hI) (by rw [pairsOf_size]; exact h2) h0 (Q := fun _ st' => (arrOf st').toList.Perm (pairsOf (v1 :: v2 :: r2)).toList ∧ failedOf st' = none ∧ Sg (arrOf st') 0 (pairsOf (v1 :: v2 :: r2)).size) fun st' a1 a2 a3 => ⟨a1, a2, a3⟩) ?_ fun _ _ e => e)
  rintro ⟨⟨⟩, st'⟩ s' ⟨rfl, hp, hf, hs⟩
  dsimp only
  have hpA : (arrOf st').Perm (pairsOf (v1 :: v2 :: r2)) := Array.perm_iff_toList_perm.mpr hp
  refine wpAny_bind (seqEpoch_at ho6 rfl (wpAny_bind (listUpdate_at ho6 rfl ?_ (Nat.zero_le _) (Nat.le_trans (Nat.le_of_eq ((Array.size_map ..).trans (hpA.size_eq.trans (pairsOf_size _)))) (Nat.le_succ_of_le hz)))))
  rw [hf]
  simp only [bne_self_eq_false, Bool.false_eq_true, if_false]
  obtain ⟨ns', g1, g2, g3⟩ := sorted_out hI hpA fun i j hij hj => hs i j (Nat.zero_le _) hij hj
  refine wpAny_pure ?_
  have := h _ ns' g1 g2 g3
  unfold sortedHeap at this
  rw [hH] at this
  exact this
end Mine

end
section -- TS14
open PySem PyProof.Rows
namespace Mine
variable {prog : Program} {w : World} {A : Around} {E : Value → Shared → Prop} {s : Shared}
theorem sorted_any {l : Addr} {vs : List Value} {ns : List Int} {Q : Value → Shared → Prop} (hl : s.heap.IsList l vs.toArray) (hI : IntsAre vs ns) (hz : vs.length ≤ sizeLine)
    (h : ∀ (out : Array Value) (ns' : List Int), IntsAre out.toList ns' → ns'.Perm ns → ns'.Pairwise (· ≤ ·) → Q (.ref (s.heap.objs.size + 1)) { s with heap := sortedAll s.heap vs out }) :
    wpAny (model prog w) A (call (.builtin "sorted") [.ref l]) Q E s := by
  by_cases h64 : vs.length < 64
  · exact sorted_ints hl hI h64 h
  refine Calls.call_function_entry kind_sorted plain_sorted entry_sorted (args_sorted1 _) ?_
  unfold Builtin.«sorted»
  refine wpAny_bind (m := checkCount "sorted" 1 1 _) (wpAny_pure ?_)
  refine wpAny_bind (collect_list hl ?_ hz)
  refine wpAny_bind (wpAny_newList ?_)
  generalize hH : (s.heap.push (seqObj "list" #[] 0)).update s.heap.objs.size (Obj.mapSeq (· ++ vs.toArray)) = H
  have hsz : H.objs.size = s.heap.objs.size + 1 := by rw [← hH, Heap.size_update, size_push']
  have hoL : (H.push (seqObj "list" vs.toArray 0)).get? (s.heap.objs.size + 1) = some (seqObj "list" vs.toArray 0) := by
    rw [← hsz]; exact Heap.get?_push_size _ rfl
  show wpAny _ _ _ _ _ { s with heap := H.push (seqObj "list" vs.toArray 0) }
  rw [hsz]
  refine wpAny_bind (wpAny_holding (wpAny_call_entry slot_list_sort ⟨_, hoL, rfl⟩ entry_list_sort (sort_tree hoL hI (by omega) hz fun out ns' a1 a2 a3 => ⟨_, rfl, ?_⟩) (args_list_sort _)))
  have := h out ns' a1 a2 a3
  unfold sortedAll at this
  rw [hH] at this
  exact wpAny_pure ⟨_, rfl, this⟩
end Mine

end
section -- B2
set_option bootstrap.genMatcherCode false
set_option genSizeOf false
set_option genInjectivity false
namespace Mine


abbrev NoE : Value → Shared → Prop := fun _ _ => False

/-- a function, of the text or made in the call -/
noncomputable def isFnV (W : Wd) (f : V) (σ : St) : Prop := ∃ a, f = .ref a ∧ ((∃ fd, σ a = some (.fn fd)) ∨ ∃ o fd, W.H.get? a = some o ∧ o.data = .func fd)
/-- the end of a stretch that σ and s began: anything that holds of such an end -/
noncomputable def Ends {α : Type} (H : Heap) (σ : St) (s : Shared) (Q : α → St → Prop) (Z : α → Shared → Prop) : Prop :=
  ∀ a σ' s', Q a σ' → RelG H σ' s' → Stp No σ s σ' s' → Z a s'
/-- a call ends, raises nothing, and its value and store are as Q asks -/
noncomputable def CallOK (W : Wd) (n : Nat) (f : V) (args : List V) (kn : List Str) (kargs : List V) (Q : V → St → Prop) (σ : St) : Prop :=
  isFnV W f σ ∧ ∀ A s Z, Room n A → RelG W.H σ s → Frs W.H A σ s → Ends W.H σ s (fun v => Q (ab v)) Z → ∀ fv vs kvs, ab fv = f → vs.map ab = args → kvs.map ab = kargs →
    wpAny W.M A (call fv vs (kn.zip kvs)) Z NoE s

noncomputable def bmV : List Value := [.type "ValueError", .type "Exception", .type "BaseException", .type "object"]
noncomputable def ExcC (H : Heap) (C : Addr) : Prop := ∃ (cd : ClassData) (dd : Option Addr) (f : Nat → Option Value) (mN : Str → Option Value), H.get? C = some (excClassObj cd.name cd.qualname C cd.ns cd.bases bmV cd.hasDict cd.slotNames cd.subclasses cd.abstract cd.collection dd (f 0) (f 1) (f 2) (f 3) (f 5) "ValueError.__new__") ∧ H.Ns cd.ns mN ∧ mN "__init__" = none ∧ mN "__str__" = none
/-- an exception in flight: s1 is the state ahead of its making, B what stays as it is -/
structure FlyAt (H : Heap) (σ : St) (s : Shared) (C : Addr) (m : Str) (R : St → Prop) (e : Addr) (h B : Heap) (l : List Env) (t : Addr) (u : Tok) (σ1 : St) (s1 : Shared) : Prop where
  hR : R σ1
  g : RelG H σ1 s1
  st : Stp No σ s σ1 s1
  stay : H.StaysIn B
  old : ∀ b o, s1.heap.get? b = some o → (∀ es n, o.data ≠ .dict es n) → B.get? b = some o
  fly : Heap.FlyingW B l e (.ref C) (.ref t) h
  tup : h.TupAt t [.str m u]
  up : s1.heap.UpToSlots h
noncomputable def RzPost (W : Wd) (A : Around) (σ : St) (s : Shared) (C : Addr) (m : Str) (R : St → Prop) : Value → Shared → Prop := fun ev s' =>
  ∃ e h B l t u σ1 s1 tk, ev = .ref e ∧ A.frames = some l ∧ s' = { s1 with heap := h, toks := tk } ∧ FlyAt W.H σ s C m R e h B l t u σ1 s1
/-- a call ends in such an exception -/
noncomputable def CallRz (W : Wd) (n : Nat) (f : V) (args : List V) (C : Addr) (m : Str) (R : St → Prop) (σ : St) : Prop :=
  isFnV W f σ ∧ ∀ A s, Room n A → RelG W.H σ s → Frs W.H A σ s → ∀ fv vs, ab fv = f → vs.map ab = args → wpAny W.M A (call fv vs []) (fun _ _ => False) (RzPost W A σ s C m R) s

inductive Bi where
  | len | sorted | min | max | sum | abs | range | list | type | isinstance | int | divmod | zip | str
inductive Me where
  | append | insert | pop | remove | extend | count

inductive X where
  | bad | con (v : V) | loc (i : Nat) | cel (i : Nat)
  | bin (op : Operator) (l r : X) | neg (x : X) | not (x : X) | and (l r : X) | or (l r : X)
  | cmp (op : CmpOp) (l r : X)
  | nil | cons (h t : X)
  | call (f : X) (args : X) (kn : List Str) (kargs : X) | bcall (b : Bi) (args : X) | meth (m : Me) (o : X) (args : X)
  | sub (o i : X) | lst (args : X)
  | comp (sz : Nat) (cm : List Nat) (it : X) (tgt : Nat) (cond : X) (elt : X)
  | compc (sz : Nat) (cm : List Nat) (it : X) (tgt : Nat) (elt : X)

noncomputable def nth : List V → Nat → V
  | [], _ => .undef
  | v :: _, 0 => v
  | _ :: r, i + 1 => nth r i
theorem nth_eq (l : List V) (i : Nat) : nth l i = l.getD i .undef := by
  induction l generalizing i with
  | nil => cases i <;> rfl
  | cons v r ih => cases i with
    | zero => rfl
    | succ i => simpa [nth] using ih i
noncomputable def nthA : List Addr → Nat → Addr
  | [], _ => 0
  | v :: _, 0 => v
  | _ :: r, i + 1 => nthA r i
theorem nthA_eq (l : List Addr) (i : Nat) : nthA l i = l.getD i 0 := by
  induction l generalizing i with
  | nil => cases i <;> rfl
  | cons v r ih => cases i with
    | zero => rfl
    | succ i => simpa [nthA] using ih i

noncomputable def ivs (ns : List Int) : List V := ns.map V.int
noncomputable def asInts : List V → Option (List Int)
  | [] => some []
  | .int i :: r => (asInts r).map (i :: ·)
  | _ => none
@[simp] theorem asInts_ivs (ns : List Int) : asInts (ivs ns) = some ns := by
  induction ns with
  | nil => rfl
  | cons i r ih => show (asInts (ivs r)).map _ = _; rw [ih]; rfl
theorem asInts_some {xs : List V} {ns : List Int} (h : asInts xs = some ns) : xs = ivs ns := by
  induction xs generalizing ns with
  | nil => cases h; rfl
  | cons v r ih =>
    cases v <;> simp [asInts] at h
    obtain ⟨a, ha, rfl⟩ := h
    rw [ih ha]; rfl

noncomputable def alW (σ : St) (o : O) (Q : V → St → Prop) : Prop := ∀ a, σ a = none → Q (.ref a) (σ.set a o)

/-- the items of a sequence of the store -/
noncomputable def O.items : O → Option (List V)
  | .lst xs => some xs
  | .ro xs => some xs
  | .tup xs => some xs
  | _ => none
/-- of a list -/
noncomputable def O.litems : O → Option (List V)
  | .lst xs => some xs
  | .ro xs => some xs
  | _ => none
noncomputable def optP {α : Type} (o : Option α) (K : α → Prop) : Prop := match o with
  | some x => K x
  | none => False
theorem optP_some {α : Type} {x : α} {K : α → Prop} : optP (some x) K = K x := rfl
noncomputable def refW (v : V) (σ : St) (K : Addr → O → Prop) : Prop := match v with
  | .ref a => optP (σ a) (K a)
  | _ => False
noncomputable def litemsW (v : V) (σ : St) (K : List V → Prop) : Prop := refW v σ fun _ o => optP o.litems K
noncomputable def lintsW (v : V) (σ : St) (K : List Int → Prop) : Prop := litemsW v σ fun xs => optP (asInts xs) K
/-- a list that may be changed -/
noncomputable def mlistW (v : V) (σ : St) (K : Addr → List V → Prop) : Prop := refW v σ fun a o => match o with
  | .lst xs => K a xs
  | _ => False

noncomputable def asI (v : V) (K : Int → Prop) : Prop := match v with
  | .int i => K i
  | _ => False
noncomputable def asR (v : V) (K : Addr → Prop) : Prop := match v with
  | .ref i => K i
  | _ => False
noncomputable def asT (v : V) (K : String → Prop) : Prop := match v with
  | .typ i => K i
  | _ => False
noncomputable def one (l : List V) (K : V → Prop) : Prop := match l with
  | [] => False
  | v :: r => (match r with
    | [] => K v
    | _ :: _ => False)
noncomputable def addW (a b : V) (σ : St) (Q : V → St → Prop) : Prop := match a with
  | .int x => asI b fun y => Q (.int (x + y)) σ
  | .ref x => asR b fun y => litemsW (.ref x) σ fun xs => litemsW (.ref y) σ fun ys => xs.length + ys.length ≤ lim ∧ alW σ (.lst (xs ++ ys)) Q
  | _ => False
noncomputable def mulW (a b : V) (σ : St) (Q : V → St → Prop) : Prop := match a with
  | .int x => asI b fun y => IntMulOk x y ∧ Q (.int (x * y)) σ
  | .ref x => asI b fun k => mlistW (.ref x) σ fun _ xs => 0 ≤ k ∧ k ≤ lim ∧ xs.length * k.toNat ≤ lim ∧ alW σ (.lst (List.replicate k.toNat xs).flatten) Q
  | _ => False
noncomputable def binW (op : Operator) (a b : V) (σ : St) (Q : V → St → Prop) : Prop := match op with
  | .Add => addW a b σ Q
  | .Sub => asI a fun x => asI b fun y => Q (.int (x - y)) σ
  | .Mult => mulW a b σ Q
  | .FloorDiv => asI a fun x => asI b fun y => y ≠ 0 ∧ y.natAbs < 1073741824 ∧ Q (.int (x.fdiv y)) σ
  | .Mod => asI a fun x => asI b fun y => y ≠ 0 ∧ Q (.int (x.fmod y)) σ
  | _ => False

/-- Python's == of values, lists item by item -/
noncomputable def eq0 (a b : V) : Option Bool := match a with
  | .int x => (match b with
    | .int y => some (x == y)
    | _ => none)
  | .str x => (match b with
    | .str y => some (x == y)
    | _ => none)
  | .bool x => (match b with
    | .bool y => some (x == y)
    | _ => none)
  | _ => none
noncomputable def eqL (f : V → V → Option Bool) : List V → List V → Option Bool
  | [], _ => some true
  | x :: xs, l => (match l with
    | [] => some true
    | y :: ys => (f x y).bind fun b => (eqL f xs ys).map fun c => b && c)
noncomputable def eqB (σ : St) : Nat → V → V → Option Bool
  | 0, a, b => eq0 a b
  | d + 1, a, b => (match a with
    | .ref x => (match b with
      | .ref y => if x = y then none else ((σ x).bind O.litems).bind fun xs => ((σ y).bind O.litems).bind fun ys => if xs.length = ys.length then eqL (eqB σ d) xs ys else some false
      | _ => none)
    | a => eq0 a b)
noncomputable def eqW (a b : V) (σ : St) (Q : Bool → Prop) : Prop := optP (eqB σ 3 a b) Q
noncomputable def isNW (a b : V) (Q : Bool → Prop) : Prop := match b with
  | .none => (match a with
    | .none => Q true
    | .int _ => Q false
    | .ref _ => Q false
    | _ => False)
  | _ => False
noncomputable def cmpW (op : CmpOp) (a b : V) (σ : St) (Q : Bool → St → Prop) : Prop := match op with
  | .Lt => asI a fun x => asI b fun y => Q (decide (x < y)) σ
  | .LtE => asI a fun x => asI b fun y => Q (decide (x ≤ y)) σ
  | .Gt => asI a fun x => asI b fun y => Q (decide (x > y)) σ
  | .GtE => asI a fun x => asI b fun y => Q (decide (x ≥ y)) σ
  | .Eq => eqW a b σ fun c => Q c σ
  | .NotEq => eqW a b σ fun c => Q (!c) σ
  | .Is => isNW a b fun c => Q c σ
  | .IsNot => asT a fun x => asT b fun y => Q (x != y) σ
  | _ => False
section
variable {σ : St} {Q : V → St → Prop} {P : Bool → St → Prop} {x y : Int} {a b : Addr}
theorem b_add : binW .Add (.int x) (.int y) σ Q = Q (.int (x + y)) σ := rfl
theorem b_sub : binW .Sub (.int x) (.int y) σ Q = Q (.int (x - y)) σ := rfl
theorem b_div : binW .FloorDiv (.int x) (.int y) σ Q = (y ≠ 0 ∧ y.natAbs < 1073741824 ∧ Q (.int (x.fdiv y)) σ) := rfl
theorem b_mod : binW .Mod (.int x) (.int y) σ Q = (y ≠ 0 ∧ Q (.int (x.fmod y)) σ) := rfl
theorem b_cat : binW .Add (.ref a) (.ref b) σ Q = litemsW (.ref a) σ fun xs => litemsW (.ref b) σ fun ys => xs.length + ys.length ≤ lim ∧ alW σ (.lst (xs ++ ys)) Q := rfl
theorem b_rep : binW .Mult (.ref a) (.int x) σ Q = mlistW (.ref a) σ fun _ xs => 0 ≤ x ∧ x ≤ lim ∧ xs.length * x.toNat ≤ lim ∧ alW σ (.lst (List.replicate x.toNat xs).flatten) Q := rfl
theorem c_lt : cmpW .Lt (.int x) (.int y) σ P = P (decide (x < y)) σ := rfl
theorem c_le : cmpW .LtE (.int x) (.int y) σ P = P (decide (x ≤ y)) σ := rfl
theorem c_gt : cmpW .Gt (.int x) (.int y) σ P = P (decide (x > y)) σ := rfl
theorem c_ge : cmpW .GtE (.int x) (.int y) σ P = P (decide (x ≥ y)) σ := rfl
theorem c_eq : cmpW .Eq (.int x) (.int y) σ P = P (x == y) σ := rfl
theorem c_ne : cmpW .NotEq (.int x) (.int y) σ P = P (x != y) σ := rfl
theorem c_is : cmpW .Is .none .none σ P = P true σ := rfl
theorem c_isi : cmpW .Is (.int x) .none σ P = P false σ := rfl
theorem c_isr : cmpW .Is (.ref a) .none σ P = P false σ := rfl
theorem c_ty {x y : String} : cmpW .IsNot (.typ x) (.typ y) σ P = P (x != y) σ := rfl
end

noncomputable def truW (v : V) (σ : St) (Q : Bool → St → Prop) : Prop := match v with
  | .bool b => Q b σ
  | .none => Q false σ
  | .int i => Q (i != 0) σ
  | _ => False


/-- an index as Python reads it -/
noncomputable def idx (i : Int) (n : Nat) : Nat := (if i < 0 then i + n else i).toNat
noncomputable def idxOk (i : Int) (n : Nat) : Prop := -(n : Int) ≤ i ∧ i < n

/-- an item, a length: of a sequence, or of a range from 0 by ones -/
noncomputable def atW (o : O) (k : Int) (K : V → Prop) : Prop := match o with
  | o => optP o.items fun xs => idxOk k xs.length ∧ K (nth xs (idx k xs.length))
noncomputable def lenW (o : O) (K : Nat → Prop) : Prop := match o with
  | o => optP o.items fun xs => K xs.length
noncomputable def subW (o i : V) (σ : St) (Q : V → St → Prop) : Prop := match i with
  | .int k => refW o σ fun _ o => atW o k fun v => Q v σ
  | _ => False

/-- rising insertion sort: what sorted gives -/
noncomputable def ins (x : Int) : List Int → List Int
  | [] => [x]
  | y :: r => if x ≤ y then x :: y :: r else y :: ins x r
noncomputable def isort : List Int → List Int
  | [] => []
  | x :: r => ins x (isort r)

/-- the numbers of a range -/
noncomputable def rangeL (lo hi st : Int) : List Int :=
  if st = 1 then (List.range (hi - lo).toNat).map fun (k : Nat) => lo + (k : Int)
  else (List.range (lo - hi).toNat).map fun (k : Nat) => lo - (k : Int)

noncomputable def small (i : Int) : Prop := -(2 ^ 62) ≤ i ∧ i < 2 ^ 62

noncomputable def minL : List Int → Int
  | [] => 0
  | [x] => x
  | x :: r => min x (minL r)
noncomputable def maxL : List Int → Int
  | [] => 0
  | [x] => x
  | x :: r => max x (maxL r)

noncomputable def typeOfV (v : V) (σ : St) (K : String → Prop) : Prop := match v with
  | .int _ => K "int"
  | .flt _ => K "float"
  | .bool _ => K "bool"
  | _ => False

noncomputable def rngW (args : List V) (σ : St) (Q : V → St → Prop) : Prop := match args with
  | [] => False
  | a :: r => asI a fun a => (match r with
    | [] => small a ∧ alW σ (.rng 0 a 1) Q
    | b :: r => asI b fun b => (match r with
      | [] => small a ∧ small b ∧ alW σ (.rng a b 1) Q
      | c :: r => asI c fun c => (match r with
        | [] => small a ∧ small b ∧ (c = 1 ∨ c = -1) ∧ alW σ (.rng a b c) Q
        | _ :: _ => False)))
noncomputable def mmW (f : Int → Int → Int) (g : List Int → Int) (args : List V) (σ : St) (Q : V → St → Prop) : Prop := match args with
  | [] => False
  | a :: r => (match r with
    | [] => lintsW a σ fun ns => ns ≠ [] ∧ Q (.int (g ns)) σ
    | b :: r => asI a fun a => asI b fun b => (match r with
      | [] => Q (.int (f a b)) σ
      | c :: r => asI c fun c => (match r with
        | [] => Q (.int (f (f a b) c)) σ
        | _ :: _ => False)))
noncomputable def biW (b : Bi) (args : List V) (σ : St) (Q : V → St → Prop) : Prop := match b with
  | .len => one args fun v => refW v σ fun _ o => lenW o fun k => Q (.int k) σ
  | .sorted => one args fun v => lintsW v σ fun ns => alW σ (.lst (ivs (isort ns))) Q
  | .range => rngW args σ Q
  | .list => one args fun v => litemsW v σ fun xs => alW σ (.lst xs) Q
  | .abs => one args fun v => asI v fun i => Q (.int i.natAbs) σ
  | .min => mmW min minL args σ Q
  | .max => mmW max maxL args σ Q
  | .sum => one args fun v => lintsW v σ fun ns => Q (.int ns.sum) σ
  | .type => one args fun v => typeOfV v σ fun t => Q (.typ t) σ
  | _ => False

noncomputable def meW (m : Me) (o : V) (args : List V) (σ : St) (Q : V → St → Prop) : Prop := match m with
  | .append => one args fun v => mlistW o σ fun a xs => xs.length + 1 ≤ lim ∧ Q .none (σ.set a (.lst (xs ++ [v])))
  | .insert => (match args with
    | [] => False
    | i :: r => asI i fun i => one r fun v => mlistW o σ fun a xs => 0 ≤ i ∧ i ≤ xs.length ∧ xs.length + 1 ≤ lim ∧ Q .none (σ.set a (.lst (xs.take i.toNat ++ v :: xs.drop i.toNat))))
  | .remove => one args fun v => asI v fun x => mlistW o σ fun a xs => optP (asInts xs) fun ns => x ∈ ns ∧ Q .none (σ.set a (.lst (ivs (ns.erase x))))
  | .count => one args fun v => asI v fun x => mlistW o σ fun _ xs => optP (asInts xs) fun ns => Q (.int (ns.count x)) σ
  | _ => False
section
variable {σ : St} {Q : V → St → Prop} {v o : V} {x y z : Int}
theorem f_len : biW .len [v] σ Q = refW v σ fun _ o => lenW o fun k => Q (.int k) σ := rfl
theorem f_sorted : biW .sorted [v] σ Q = lintsW v σ fun ns => alW σ (.lst (ivs (isort ns))) Q := rfl
theorem f_range1 : biW .range [.int x] σ Q = (small x ∧ alW σ (.rng 0 x 1) Q) := rfl
theorem f_range2 : biW .range [.int x, .int y] σ Q = (small x ∧ small y ∧ alW σ (.rng x y 1) Q) := rfl
theorem f_range3 : biW .range [.int x, .int y, .int z] σ Q = (small x ∧ small y ∧ (z = 1 ∨ z = -1) ∧ alW σ (.rng x y z) Q) := rfl
theorem f_list : biW .list [v] σ Q = litemsW v σ fun xs => alW σ (.lst xs) Q := rfl
theorem f_abs : biW .abs [.int x] σ Q = Q (.int x.natAbs) σ := rfl
theorem f_min1 : biW .min [v] σ Q = lintsW v σ fun ns => ns ≠ [] ∧ Q (.int (minL ns)) σ := rfl
theorem f_max1 : biW .max [v] σ Q = lintsW v σ fun ns => ns ≠ [] ∧ Q (.int (maxL ns)) σ := rfl
theorem f_min2 : biW .min [.int x, .int y] σ Q = Q (.int (min x y)) σ := rfl
theorem f_max2 : biW .max [.int x, .int y] σ Q = Q (.int (max x y)) σ := rfl
theorem f_min3 : biW .min [.int x, .int y, .int z] σ Q = Q (.int (min (min x y) z)) σ := rfl
theorem f_max3 : biW .max [.int x, .int y, .int z] σ Q = Q (.int (max (max x y) z)) σ := rfl
theorem f_sum : biW .sum [v] σ Q = lintsW v σ fun ns => Q (.int ns.sum) σ := rfl
theorem f_type : biW .type [v] σ Q = typeOfV v σ fun t => Q (.typ t) σ := rfl
theorem m_append : meW .append o [v] σ Q = mlistW o σ fun a xs => xs.length + 1 ≤ lim ∧ Q .none (σ.set a (.lst (xs ++ [v]))) := rfl
theorem m_insert : meW .insert o [.int x, v] σ Q = mlistW o σ fun a xs => 0 ≤ x ∧ x ≤ xs.length ∧ xs.length + 1 ≤ lim ∧ Q .none (σ.set a (.lst (xs.take x.toNat ++ v :: xs.drop x.toNat))) := rfl
theorem m_remove : meW .remove o [.int x] σ Q = mlistW o σ fun a xs => optP (asInts xs) fun ns => x ∈ ns ∧ Q .none (σ.set a (.lst (ivs (ns.erase x)))) := rfl
theorem m_count : meW .count o [.int x] σ Q = mlistW o σ fun _ xs => optP (asInts xs) fun ns => Q (.int (ns.count x)) σ := rfl
end

/-- what a loop over v walks, and what must stand at each turn -/
noncomputable def iterW (v : V) (σ : St) (K : List V → (St → Prop) → Prop) : Prop := refW v σ fun a o => match o with
  | .lst xs => K xs (fun σ' => σ' a = some (.lst xs))
  | .ro xs => K xs (fun _ => True)
  | .tup xs => K xs (fun _ => True)
  | .rng lo hi st => small lo ∧ small hi ∧ (st = 1 ∨ st = -1) ∧ K (ivs (rangeL lo hi st)) (fun _ => True)
  | _ => False

/-- a row that grows turn by turn -/
noncomputable def comp2W (chk : St → Prop) (bod : V → List V → St → (List V → St → Prop) → Prop) : List V → List V → St → (List V → St → Prop) → Prop
  | [], acc, σ, K => chk σ ∧ K acc σ
  | v :: r, acc, σ, K => chk σ ∧ bod v acc σ fun acc' σ' => comp2W chk bod r acc' σ' K

noncomputable def compW (chk : St → Prop) (bod : V → St → (Option V → St → Prop) → Prop) (xs acc : List V) (σ : St) (K : List V → St → Prop) : Prop :=
  comp2W chk (fun v acc σ k => bod v σ fun o σ' => k (acc ++ o.toList) σ') xs acc σ K
noncomputable def undefs : Nat → List V
  | 0 => []
  | n + 1 => .undef :: undefs n
noncomputable def setN : List V → Nat → V → List V
  | [], _, _ => []
  | _ :: r, 0, v => v :: r
  | x :: r, i + 1, v => x :: setN r i v
theorem setN_eq (l : List V) (i : Nat) (v : V) : setN l i v = l.set i v := by
  induction l generalizing i with
  | nil => rfl
  | cons x r ih => cases i with
    | zero => rfl
    | succ i => simp [setN, ih]

mutual
/-- the value of an expression -/
noncomputable def xW (W : Wd) (n : Nat) : X → List Addr → List V → St → (V → St → Prop) → Prop
  | .bad, _, _, _, _ => False
  | .con v, _, _, σ, Q => Q v σ
  | .loc i, _, fr, σ, Q => nth fr i ≠ .undef ∧ Q (nth fr i) σ
  | .cel i, cs, _, σ, Q => (match σ (nthA cs i) with
    | some (.cell v) => v ≠ .undef ∧ Q v σ
    | _ => False)
  | .bin op l r, cs, fr, σ, Q => xW W n l cs fr σ fun a σ1 => xW W n r cs fr σ1 fun b σ2 => binW op a b σ2 Q
  | .neg x, cs, fr, σ, Q => xW W n x cs fr σ fun a σ1 => (match a with
    | .int i => Q (.int (-i)) σ1
    | _ => False)
  | .not x, cs, fr, σ, Q => xW W n x cs fr σ fun a σ1 => truW a σ1 fun b σ2 => Q (.bool (!b)) σ2
  | .and l r, cs, fr, σ, Q => xW W n l cs fr σ fun a σ1 => truW a σ1 fun b σ2 => if b = true then xW W n r cs fr σ2 Q else Q a σ2
  | .or l r, cs, fr, σ, Q => xW W n l cs fr σ fun a σ1 => truW a σ1 fun b σ2 => if b = true then Q a σ2 else xW W n r cs fr σ2 Q
  | .cmp op l r, cs, fr, σ, Q => xW W n l cs fr σ fun a σ1 => xW W n r cs fr σ1 fun b σ2 => cmpW op a b σ2 fun c σ3 => Q (.bool c) σ3
  | .nil, _, _, _, _ => False
  | .cons _ _, _, _, _, _ => False
  | .call f args kn kargs, cs, fr, σ, Q => xW W n f cs fr σ fun fv σ1 => lW W n args cs fr σ1 fun vs σ2 => lW W n kargs cs fr σ2 fun ks σ3 => CallOK W n fv vs kn ks Q σ3
  | .bcall b args, cs, fr, σ, Q => lW W n args cs fr σ fun vs σ1 => biW b vs σ1 Q
  | .meth m o args, cs, fr, σ, Q => xW W n o cs fr σ fun ov σ1 => mlistW ov σ1 fun _ _ => lW W n args cs fr σ1 fun vs σ2 => meW m ov vs σ2 Q
  | .sub o i, cs, fr, σ, Q => xW W n o cs fr σ fun a σ1 => xW W n i cs fr σ1 fun b σ2 => subW a b σ2 Q
  | .lst args, cs, fr, σ, Q => lW W n args cs fr σ fun vs σ1 => vs.length ≤ lim ∧ alW σ1 (.lst vs) Q
  | .comp sz cm it tgt cond elt, cs, fr, σ, Q => xW W n it cs fr σ fun v σ1 => iterW v σ1 fun xs chk => xs.length ≤ lim ∧
      compW chk (fun x σ2 k => tW W n cond (cm.map (nthA cs)) (setN (undefs sz) tgt x) σ2 fun c σ3 =>
        if c = true then xW W n elt (cm.map (nthA cs)) (setN (undefs sz) tgt x) σ3 fun y σ4 => k (some y) σ4 else k none σ3) xs [] σ1 fun ys σ5 => alW σ5 (.lst ys) Q
  | .compc sz cm it tgt elt, cs, fr, σ, Q => xW W n it cs fr σ fun v σ1 => iterW v σ1 fun xs chk => xs.length ≤ lim ∧ ∀ a, σ1 a = none →
      compW chk (fun x σ2 k => (∃ u, σ2 a = some (.cell u)) ∧ xW W n elt ((cm.map (nthA cs)).set tgt a) (undefs sz) (σ2.set a (.cell x)) fun y σ4 => k (some y) σ4) xs [] (σ1.set a (.cell .undef)) fun ys σ5 => alW σ5 (.lst ys) Q
/-- the truth of an expression -/
noncomputable def tW (W : Wd) (n : Nat) : X → List Addr → List V → St → (Bool → St → Prop) → Prop
  | .not x, cs, fr, σ, Q => tW W n x cs fr σ fun b σ1 => Q (!b) σ1
  | .and l r, cs, fr, σ, Q => tW W n l cs fr σ fun b σ1 => if b = true then tW W n r cs fr σ1 Q else Q false σ1
  | .or l r, cs, fr, σ, Q => tW W n l cs fr σ fun b σ1 => if b = true then Q true σ1 else tW W n r cs fr σ1 Q
  | .cmp op l r, cs, fr, σ, Q => xW W n l cs fr σ fun a σ1 => xW W n r cs fr σ1 fun b σ2 => cmpW op a b σ2 Q
  | .con v, _, _, σ, Q => truW v σ Q
  | .loc i, _, fr, σ, Q => nth fr i ≠ .undef ∧ truW (nth fr i) σ Q
  | .call f args kn kargs, cs, fr, σ, Q => xW W n f cs fr σ fun fv σ1 => lW W n args cs fr σ1 fun vs σ2 => lW W n kargs cs fr σ2 fun ks σ3 => CallOK W n fv vs kn ks (fun v σ4 => truW v σ4 Q) σ3
  | .bcall b args, cs, fr, σ, Q => lW W n args cs fr σ fun vs σ1 => biW b vs σ1 fun v σ4 => truW v σ4 Q
  | .sub o i, cs, fr, σ, Q => xW W n o cs fr σ fun a σ1 => xW W n i cs fr σ1 fun b σ2 => subW a b σ2 fun v σ4 => truW v σ4 Q
  | _, _, _, _, _ => False
/-- the values of arguments -/
noncomputable def lW (W : Wd) (n : Nat) : X → List Addr → List V → St → (List V → St → Prop) → Prop
  | .nil, _, _, σ, Q => Q [] σ
  | .cons h t, cs, fr, σ, Q => xW W n h cs fr σ fun v σ1 => lW W n t cs fr σ1 fun vs σ2 => Q (v :: vs) σ2
  | _, _, _, _, _ => False
end


section
variable {W : Wd} {n : Nat} {cs : List Addr} {fr : List V} {σ : St} {Q : V → St → Prop} {P : Bool → St → Prop} {R : List V → St → Prop}
theorem x_bad : xW W n .bad cs fr σ Q = False := rfl
theorem x_con {v : V} : xW W n (.con v) cs fr σ Q = Q v σ := rfl
theorem x_loc {i : Nat} : xW W n (.loc i) cs fr σ Q = (nth fr i ≠ .undef ∧ Q (nth fr i) σ) := rfl
theorem x_cel {i : Nat} : xW W n (.cel i) cs fr σ Q = (match σ (nthA cs i) with
    | some (.cell v) => v ≠ .undef ∧ Q v σ
    | _ => False) := rfl
theorem x_bin {op : Operator} {l r : X} : xW W n (.bin op l r) cs fr σ Q = xW W n l cs fr σ fun a σ1 => xW W n r cs fr σ1 fun b σ2 => binW op a b σ2 Q := rfl
theorem x_neg {x : X} : xW W n (.neg x) cs fr σ Q = xW W n x cs fr σ fun a σ1 => (match a with
    | .int i => Q (.int (-i)) σ1
    | _ => False) := rfl
theorem x_not {x : X} : xW W n (.not x) cs fr σ Q = xW W n x cs fr σ fun a σ1 => truW a σ1 fun b σ2 => Q (.bool (!b)) σ2 := rfl
theorem x_and {l r : X} : xW W n (.and l r) cs fr σ Q = xW W n l cs fr σ fun a σ1 => truW a σ1 fun b σ2 => if b = true then xW W n r cs fr σ2 Q else Q a σ2 := rfl
theorem x_or {l r : X} : xW W n (.or l r) cs fr σ Q = xW W n l cs fr σ fun a σ1 => truW a σ1 fun b σ2 => if b = true then Q a σ2 else xW W n r cs fr σ2 Q := rfl
theorem x_cmp {op : CmpOp} {l r : X} : xW W n (.cmp op l r) cs fr σ Q = xW W n l cs fr σ fun a σ1 => xW W n r cs fr σ1 fun b σ2 => cmpW op a b σ2 fun c σ3 => Q (.bool c) σ3 := rfl
theorem x_call {f args kargs : X} {kn : List Str} : xW W n (.call f args kn kargs) cs fr σ Q = xW W n f cs fr σ fun fv σ1 => lW W n args cs fr σ1 fun vs σ2 => lW W n kargs cs fr σ2 fun ks σ3 => CallOK W n fv vs kn ks Q σ3 := rfl
theorem x_bcall {b : Bi} {args : X} : xW W n (.bcall b args) cs fr σ Q = lW W n args cs fr σ fun vs σ1 => biW b vs σ1 Q := rfl
theorem x_meth {m : Me} {o args : X} : xW W n (.meth m o args) cs fr σ Q = xW W n o cs fr σ fun ov σ1 => mlistW ov σ1 fun _ _ => lW W n args cs fr σ1 fun vs σ2 => meW m ov vs σ2 Q := rfl
theorem x_sub {o i : X} : xW W n (.sub o i) cs fr σ Q = xW W n o cs fr σ fun a σ1 => xW W n i cs fr σ1 fun b σ2 => subW a b σ2 Q := rfl
theorem x_lst {args : X} : xW W n (.lst args) cs fr σ Q = lW W n args cs fr σ fun vs σ1 => vs.length ≤ lim ∧ alW σ1 (.lst vs) Q := rfl
theorem x_comp {sz tgt : Nat} {cm : List Nat} {it cond elt : X} : xW W n (.comp sz cm it tgt cond elt) cs fr σ Q = xW W n it cs fr σ fun v σ1 => iterW v σ1 fun xs chk => xs.length ≤ lim ∧
      compW chk (fun x σ2 k => tW W n cond (cm.map (nthA cs)) (setN (undefs sz) tgt x) σ2 fun c σ3 =>
        if c = true then xW W n elt (cm.map (nthA cs)) (setN (undefs sz) tgt x) σ3 fun y σ4 => k (some y) σ4 else k none σ3) xs [] σ1 fun ys σ5 => alW σ5 (.lst ys) Q := rfl
theorem x_compc {sz tgt : Nat} {cm : List Nat} {it elt : X} : xW W n (.compc sz cm it tgt elt) cs fr σ Q = xW W n it cs fr σ fun v σ1 => iterW v σ1 fun xs chk => xs.length ≤ lim ∧ ∀ a, σ1 a = none →
      compW chk (fun x σ2 k => (∃ u, σ2 a = some (.cell u)) ∧ xW W n elt ((cm.map (nthA cs)).set tgt a) (undefs sz) (σ2.set a (.cell x)) fun y σ4 => k (some y) σ4) xs [] (σ1.set a (.cell .undef)) fun ys σ5 => alW σ5 (.lst ys) Q := rfl
theorem t_not {x : X} : tW W n (.not x) cs fr σ P = tW W n x cs fr σ fun b σ1 => P (!b) σ1 := rfl
theorem t_and {l r : X} : tW W n (.and l r) cs fr σ P = tW W n l cs fr σ fun b σ1 => if b = true then tW W n r cs fr σ1 P else P false σ1 := rfl
theorem t_or {l r : X} : tW W n (.or l r) cs fr σ P = tW W n l cs fr σ fun b σ1 => if b = true then P true σ1 else tW W n r cs fr σ1 P := rfl
theorem t_cmp {op : CmpOp} {l r : X} : tW W n (.cmp op l r) cs fr σ P = xW W n l cs fr σ fun a σ1 => xW W n r cs fr σ1 fun b σ2 => cmpW op a b σ2 P := rfl
theorem t_con {v : V} : tW W n (.con v) cs fr σ P = truW v σ P := rfl
theorem t_loc {i : Nat} : tW W n (.loc i) cs fr σ P = (nth fr i ≠ .undef ∧ truW (nth fr i) σ P) := rfl
theorem t_call {f args kargs : X} {kn : List Str} : tW W n (.call f args kn kargs) cs fr σ P = xW W n f cs fr σ fun fv σ1 => lW W n args cs fr σ1 fun vs σ2 => lW W n kargs cs fr σ2 fun ks σ3 => CallOK W n fv vs kn ks (fun v σ4 => truW v σ4 P) σ3 := rfl
theorem t_bcall {b : Bi} {args : X} : tW W n (.bcall b args) cs fr σ P = lW W n args cs fr σ fun vs σ1 => biW b vs σ1 fun v σ4 => truW v σ4 P := rfl
theorem t_sub {o i : X} : tW W n (.sub o i) cs fr σ P = xW W n o cs fr σ fun a σ1 => xW W n i cs fr σ1 fun b σ2 => subW a b σ2 fun v σ4 => truW v σ4 P := rfl
theorem t_bad : tW W n .bad cs fr σ P = False := rfl
theorem t_cel {i : Nat} : tW W n (.cel i) cs fr σ P = False := rfl
theorem t_bin {op : Operator} {l r : X} : tW W n (.bin op l r) cs fr σ P = False := rfl
theorem t_neg {x : X} : tW W n (.neg x) cs fr σ P = False := rfl
theorem t_lst {args : X} : tW W n (.lst args) cs fr σ P = False := rfl
theorem t_comp {sz tgt : Nat} {cm : List Nat} {it cond elt : X} : tW W n (.comp sz cm it tgt cond elt) cs fr σ P = False := rfl
theorem t_meth {m : Me} {o args : X} : tW W n (.meth m o args) cs fr σ P = False := rfl
theorem l_nil : lW W n .nil cs fr σ R = R [] σ := rfl
theorem l_cons {h t : X} : lW W n (.cons h t) cs fr σ R = xW W n h cs fr σ fun v σ1 => lW W n t cs fr σ1 fun vs σ2 => R (v :: vs) σ2 := rfl
theorem l_bad : lW W n .bad cs fr σ R = False := rfl
end
/-- the truth says nothing of these -/
noncomputable def noTr : X → Bool
  | .not _ => false
  | .and _ _ => false
  | .or _ _ => false
  | .cmp _ _ _ => false
  | _ => true
theorem tW_val {W : Wd} {n : Nat} {cs : List Addr} {fr : List V} {σ : St} {P : Bool → St → Prop} {x : X} (hp : noTr x = true) (h : tW W n x cs fr σ P) : xW W n x cs fr σ fun v σ' => truW v σ' P := by
  cases x <;> first | exact h | exact h.elim | cases hp
end Mine

end
section -- B3
set_option bootstrap.genMatcherCode false
set_option genSizeOf false
set_option genInjectivity false
namespace Mine

/-- a name to store into: a slot, or a cell -/
inductive T where
  | l (i : Nat) | c (i : Nat)
inductive Tg where
  | one (t : T)
inductive Fl where
  | next | brk | cont | ret (v : V)

noncomputable def vTyp (v : V) (t : String) : Bool := match v with
  | .typ u => u == t
  | _ => false
noncomputable def vRef (v : V) : Option Addr := match v with
  | .ref a => some a
  | _ => none
/-- what is done with a caught exception -/
inductive Hd where
  | appStr (i j : Nat)
inductive S where
  | bad | skip | seq (a b : S) | set (t : T) (x : X)
 | del (o i : X) | exp (x : X) | ret (x : X) | ret0 | brk | cont
  | ite (t : X) (a b : S) | whl (t : X) (b : S) | for_ (t : Tg) (it : X) (b : S)
  | rais (c : Addr) (m : Str) | tryx (b : S) (f args : X) (c : Addr) (h : Hd)

noncomputable def stW (t : T) (v : V) (cs : List Addr) (fr : List V) (σ : St) (K : List V → St → Prop) : Prop := match t with
  | .l i => K (setN fr i v) σ
  | .c i => match σ (nthA cs i) with
    | some (.cell _) => K fr (σ.set (nthA cs i) (.cell v))
    | _ => False
noncomputable def tgW (t : Tg) (v : V) (cs : List Addr) (fr : List V) (σ : St) (K : List V → St → Prop) : Prop := match t with
  | .one t => stW t v cs fr σ K
noncomputable def delW (o i : V) (σ : St) (K : St → Prop) : Prop := match i with
  | .int k => mlistW o σ fun a xs => idxOk k xs.length ∧ K (σ.set a (.lst (xs.eraseIdx (idx k xs.length))))
  | _ => False
/-- how a loop goes on behind a turn -/
noncomputable def lpW (again : St → List V → Prop) (Q : Fl → St → List V → Prop) (f : Fl) (σ : St) (fr : List V) : Prop := match f with
  | .next => again σ fr
  | .cont => again σ fr
  | .brk => Q .next σ fr
  | .ret v => Q (.ret v) σ fr
noncomputable def forW (chk : St → Prop) (bod : V → List V → St → (Fl → St → List V → Prop) → Prop) : List V → List V → St → (Fl → St → List V → Prop) → Prop
  | [], fr, σ, Q => chk σ ∧ Q .next σ fr
  | v :: r, fr, σ, Q => chk σ ∧ bod v fr σ (lpW (fun σ' fr' => forW chk bod r fr' σ' Q) Q)
noncomputable def whW (t : List V → St → (Bool → St → Prop) → Prop) (bod : List V → St → (Fl → St → List V → Prop) → Prop) (fr : List V) (σ : St) (Q : Fl → St → List V → Prop) : Prop :=
  ∃ I : Nat → St → List V → Prop, (∃ k, I k σ fr) ∧ ∀ j σ fr, I j σ fr →
    t fr σ fun b σ1 => if b = true then bod fr σ1 (lpW (fun σ' fr' => ∃ i, i < j ∧ I i σ' fr') Q) else Q .next σ1 fr

noncomputable def hdW (h : Hd) (m : Str) (fr : List V) (σ : St) (Q : Fl → St → List V → Prop) : Prop := match h with
  | .appStr i j => nth fr j ≠ .undef ∧ mlistW (nth fr j) σ fun a xs => xs.length + 1 ≤ lim ∧ Q .next (σ.set a (.lst (xs ++ [.str m]))) (setN fr i .undef)
noncomputable def sW (W : Wd) (n : Nat) : S → List Addr → List V → St → (Fl → St → List V → Prop) → Prop
  | .bad, _, _, _, _ => False
  | .skip, _, fr, σ, Q => Q .next σ fr
  | .seq a b, cs, fr, σ, Q => sW W n a cs fr σ fun f σ1 fr1 => (match f with
    | .next => sW W n b cs fr1 σ1 Q
    | f => Q f σ1 fr1)
  | .set t x, cs, fr, σ, Q => xW W n x cs fr σ fun v σ1 => stW t v cs fr σ1 fun fr1 σ2 => Q .next σ2 fr1
  | .del o i, cs, fr, σ, Q => xW W n o cs fr σ fun a σ1 => xW W n i cs fr σ1 fun b σ2 => delW a b σ2 fun σ3 => Q .next σ3 fr
  | .exp x, cs, fr, σ, Q => xW W n x cs fr σ fun _ σ1 => Q .next σ1 fr
  | .ret x, cs, fr, σ, Q => xW W n x cs fr σ fun v σ1 => Q (.ret v) σ1 fr
  | .ret0, _, fr, σ, Q => Q (.ret .none) σ fr
  | .brk, _, fr, σ, Q => Q .brk σ fr
  | .cont, _, fr, σ, Q => Q .cont σ fr
  | .ite t a b, cs, fr, σ, Q => tW W n t cs fr σ fun c σ1 => if c = true then sW W n a cs fr σ1 Q else sW W n b cs fr σ1 Q
  | .whl t b, cs, fr, σ, Q => whW (fun fr σ k => tW W n t cs fr σ k) (fun fr σ k => sW W n b cs fr σ k) fr σ Q
  | .for_ t it b, cs, fr, σ, Q => xW W n it cs fr σ fun v σ1 => iterW v σ1 fun xs chk =>
      forW chk (fun x fr σ k => tgW t x cs fr σ fun fr1 σ2 => sW W n b cs fr1 σ2 k) xs fr σ1 Q
  | .rais _ _, _, _, _, _ => False
  | .tryx b f args c h, cs, fr, σ, Q => sW W n b cs fr σ Q ∨ (ExcC W.H c ∧ xW W n f cs fr σ fun fv σ1 => lW W n args cs fr σ1 fun vs σ2 => ∃ m, CallRz W n fv vs c m (fun σ3 => hdW h m fr σ3 Q) σ2)

section
variable {W : Wd} {n : Nat} {cs : List Addr} {fr : List V} {σ : St} {Q : Fl → St → List V → Prop}
theorem s_bad : sW W n .bad cs fr σ Q = False := rfl
theorem s_skip : sW W n .skip cs fr σ Q = Q .next σ fr := rfl
theorem s_seq {a b : S} : sW W n (.seq a b) cs fr σ Q = sW W n a cs fr σ fun f σ1 fr1 => (match f with
    | .next => sW W n b cs fr1 σ1 Q
    | f => Q f σ1 fr1) := rfl
theorem s_set {t : T} {x : X} : sW W n (.set t x) cs fr σ Q = xW W n x cs fr σ fun v σ1 => stW t v cs fr σ1 fun fr1 σ2 => Q .next σ2 fr1 := rfl
theorem s_del {o i : X} : sW W n (.del o i) cs fr σ Q = xW W n o cs fr σ fun a σ1 => xW W n i cs fr σ1 fun b σ2 => delW a b σ2 fun σ3 => Q .next σ3 fr := rfl
theorem s_exp {x : X} : sW W n (.exp x) cs fr σ Q = xW W n x cs fr σ fun _ σ1 => Q .next σ1 fr := rfl
theorem s_ret {x : X} : sW W n (.ret x) cs fr σ Q = xW W n x cs fr σ fun v σ1 => Q (.ret v) σ1 fr := rfl
theorem s_ret0 : sW W n .ret0 cs fr σ Q = Q (.ret .none) σ fr := rfl
theorem s_brk : sW W n .brk cs fr σ Q = Q .brk σ fr := rfl
theorem s_cont : sW W n .cont cs fr σ Q = Q .cont σ fr := rfl
theorem s_ite {t : X} {a b : S} : sW W n (.ite t a b) cs fr σ Q = tW W n t cs fr σ fun c σ1 => if c = true then sW W n a cs fr σ1 Q else sW W n b cs fr σ1 Q := rfl
theorem s_whl {t : X} {b : S} : sW W n (.whl t b) cs fr σ Q = whW (fun fr σ k => tW W n t cs fr σ k) (fun fr σ k => sW W n b cs fr σ k) fr σ Q := rfl
theorem s_for {t : Tg} {it : X} {b : S} : sW W n (.for_ t it b) cs fr σ Q = xW W n it cs fr σ fun v σ1 => iterW v σ1 fun xs chk =>
      forW chk (fun x fr σ k => tgW t x cs fr σ fun fr1 σ2 => sW W n b cs fr1 σ2 k) xs fr σ1 Q := rfl
theorem s_try {b : S} {f args : X} {c : Addr} {h : Hd} : sW W n (.tryx b f args c h) cs fr σ Q = (sW W n b cs fr σ Q ∨ (ExcC W.H c ∧ xW W n f cs fr σ fun fv σ1 => lW W n args cs fr σ1 fun vs σ2 => ∃ m, CallRz W n fv vs c m (fun σ3 => hdW h m fr σ3 Q) σ2)) := rfl
end


inductive EK where
  | con (c : Const) (k : Nat) (p : Pos) | name (x : Str) (p : Pos) | bin (l : PySem.Expr) (op : Operator) (r : PySem.Expr) (p : Pos) | un (op : UnaryOp) (x : PySem.Expr) (p : Pos)
  | bop (op : BoolOp) (vs : List PySem.Expr) (p : Pos) | lst (es : List PySem.Expr) (p : Pos) | tup (es : List PySem.Expr) (k : Nat) (p : Pos)
  | cmp (l : PySem.Expr) (ops : List CmpOp) (rs : List PySem.Expr) (p : Pos) | call (f : PySem.Expr) (args : List PySem.Expr) (ks : List Keyword) (p : Pos)
  | attr (o : PySem.Expr) (nm : Str) (p : Pos) | sub (o i : PySem.Expr) (p : Pos) | sl (lo hi st : Option PySem.Expr) (p : Pos)
  | lc (elt : PySem.Expr) (gens : List Comprehension) (sc : Scope) (p : Pos) | no (b : Bool)
noncomputable def ek (e : PySem.Expr) : EK := match e with
  | .Constant c k p => .con c k p
  | .Name x p => .name x p
  | .BinOp l op r p => .bin l op r p
  | .UnaryOp op x p => .un op x p
  | .BoolOp op vs p => .bop op vs p
  | .List es p => .lst es p
  | .Tuple es k p => .tup es k p
  | .Compare l ops rs p => .cmp l ops rs p
  | .Call f args ks p => .call f args ks p
  | .Attribute o nm p => .attr o nm p
  | .Subscript o i p => .sub o i p
  | .Slice lo hi st p => .sl lo hi st p
  | .ListComp elt gens sc p => .lc elt gens sc p
  | .Set .. => .no true
  | .Starred .. => .no true
  | _ => .no false
noncomputable def EK.is (e : PySem.Expr) : EK → Prop
  | .con c k p => e = .Constant c k p
  | .name x p => e = .Name x p
  | .tup es k p => e = .Tuple es k p
  | .sub o i p => e = .Subscript o i p
  | .attr o nm p => e = .Attribute o nm p
  | .sl lo hi st p => e = .Slice lo hi st p
  | .call f a k p => e = .Call f a k p
  | .cmp l o r p => e = .Compare l o r p
  | .lst l p => e = .List l p
  | _ => True
theorem ek_is (e : PySem.Expr) : (ek e).is e := by cases e <;> first | exact trivial | rfl
theorem ek_of {e : PySem.Expr} {v : EK} (h : ek e = v) : v.is e := h ▸ ek_is e
/-- neither starred nor a set's display -/
noncomputable def plainE (e : PySem.Expr) : Bool := match ek e with
  | .no b => !b
  | _ => true
noncomputable def noSet (e : PySem.Expr) : Bool := plainE e
noncomputable def noCall (e : PySem.Expr) : Bool := match ek e with
  | .call .. => false
  | _ => true
noncomputable def isLC (e : PySem.Expr) : Bool := match ek e with
  | .lc .. => true
  | _ => false

noncomputable def place (ns : List (Str × NameKind)) (x : Str) : Nat := ns.findIdx fun p => p.1 == x
noncomputable def grd (b : Bool) (x : X) : X := match b with
  | true => x
  | false => .bad
noncomputable def optX (o : Option V) : X := match o with
  | some v => .con v
  | none => .bad
noncomputable def nameX (k : Option NameKind) (g : X) (i : Nat) : X := match k with
  | none => .bad
  | some k => (match k with
    | .local => .loc i
    | .cell => .cel i
    | .free => .cel i
    | .globalImplicit => g
    | _ => .bad)
noncomputable def erName (gl : Str → Option V) (ns : List (Str × NameKind)) (x : Str) : X :=
  grd (x != ("__debug__" : Str)) (nameX (ns.lookup x) (optX (gl x)) (place ns x))
noncomputable def V.same (a b : V) : Bool := match a with
  | .ref x => (match b with
    | .ref y => decide (x = y)
    | _ => false)
  | .typ x => (match b with
    | .typ y => decide (x = y)
    | _ => false)
  | .bi x => (match b with
    | .bi y => decide (x = y)
    | _ => false)
  | _ => false
theorem V.of_same {a b : V} (h : a.same b = true) : a = b := by
  cases a with
  | ref x => cases b with
    | ref y => rw [of_decide_eq_true (p := x = y) h]
    | _ => cases h
  | typ x => cases b with
    | typ y => rw [of_decide_eq_true (p := x = y) h]
    | _ => cases h
  | bi x => cases b with
    | bi y => rw [of_decide_eq_true (p := x = y) h]
    | _ => cases h
  | _ => cases h
noncomputable def biV : Bi → Value
  | .len => .builtin "len"
  | .sorted => .builtin "sorted"
  | .min => .builtin "min"
  | .max => .builtin "max"
  | .sum => .builtin "sum"
  | .abs => .builtin "abs"
  | .divmod => .builtin "divmod"
  | .isinstance => .builtin "isinstance"
  | .range => .type "range"
  | .list => .type "list"
  | .type => .type "type"
  | .int => .type "int"
  | .zip => .type "zip"
  | .str => .type "str"
noncomputable def biAll : List Bi := [.len, .sorted, .min, .max, .sum, .abs, .range, .list, .type, .isinstance, .int, .divmod, .zip]
noncomputable def biOf (v : V) : Option Bi := biAll.find? fun b => (ab (biV b)).same v
theorem biOf_some {v : V} {b : Bi} (h : biOf v = some b) : v = ab (biV b) := (V.of_same (List.find?_some (p := fun b => (ab (biV b)).same v) h)).symm
noncomputable def meN : Me → Str
  | .append => "append"
  | .insert => "insert"
  | .pop => "pop"
  | .remove => "remove"
  | .extend => "extend"
  | .count => "count"
noncomputable def meOf (x : Str) : Option Me := ([.append, .insert, .pop, .remove, .extend, .count] : List Me).find? fun m => x == meN m
theorem meOf_some {x : Str} {m : Me} (h : meOf x = some m) : x = meN m := eq_of_beq (a := x) (b := meN m) (List.find?_some (p := fun m => x == meN m) h)
/-- a builtin that is called -/
noncomputable def biX (f : X) : Option Bi := match f with
  | .con v => biOf v
  | _ => none
noncomputable def callY (o : Option Bi) (args : X) (y : X) : X := match o with
  | some b => .bcall b args
  | none => y
noncomputable def callX (f : X) (args : X) (kn : List (Option Str)) (kargs : X) : X := callY (if kn.isEmpty then biX f else none) args (grd (kn.all (·.isSome)) (.call f args (kn.filterMap id) kargs))
noncomputable def methX (m : Option Me) (o args : X) : X := match m with
  | some m => .meth m o args
  | none => .bad
noncomputable def erC (c : Const) : X := match c with
  | .none => .con .none
  | .bool b => .con (.bool b)
  | .int i => .con (.int i)
  | .str x => .con (.str x)
  | _ => .bad
noncomputable def unX (op : UnaryOp) (x : X) : X := match op with
  | .Not => .not x
  | .USub => .neg x
  | _ => .bad
noncomputable def andX : List X → X
  | [] => .con (.bool true)
  | x :: r => (match r with
    | [] => x
    | _ :: _ => .and x (andX r))
noncomputable def orX : List X → X
  | [] => .bad
  | x :: r => (match r with
    | [] => x
    | _ :: _ => .or x (orX r))
noncomputable def bopX (op : BoolOp) (l : List X) : X := match op with
  | .And => grd (!l.isEmpty) (andX l)
  | .Or => orX l
noncomputable def xl : List X → X
  | [] => .nil
  | x :: r => .cons x (xl r)
noncomputable def cmpX (ops : List CmpOp) (l : X) (rs : List X) : X := match ops with
  | [] => .bad
  | op :: ops => (match rs with
    | [] => .bad
    | r :: rs => (match ops with
      | [] => grd rs.isEmpty (.cmp op l r)
      | _ :: _ => .bad))

/-- the table of a comprehension's block, as the model lays it -/
noncomputable def rl (ns inner : List (Str × NameKind)) : List (Str × NameKind) := inner.map fun (y, k) => if (k == .free && true && ns.lookup y == some .cell) then (y, .cell) else (y, k)
noncomputable def scOk (ns : List (Str × NameKind)) (sc : Scope) (x : Str) : Bool :=
  sc.kind == .function && decide ((sc.names.map (·.1)).Nodup) && (sc.names.lookup x == some .local) &&
  sc.names.all (fun p => p.2 != .cell && p.1 != ("__classdict__" : Str) && (p.2 != .free || ns.lookup p.1 == some .cell || ns.lookup p.1 == some .free))
noncomputable def one? {α : Type} (l : List α) : Option α := match l with
  | [] => none
  | x :: r => if r.isEmpty then some x else none
noncomputable def nameOf (e : PySem.Expr) : Option Str := match ek e with
  | .name x _ => some x
  | _ => none
noncomputable def oX {α : Type} (o : Option α) (f : α → X) : X := match o with
  | some a => f a
  | none => .bad
/-- as scOk, the target in a cell of the block's own -/
noncomputable def scOkC (ns : List (Str × NameKind)) (sc : Scope) (x : Str) : Bool :=
  sc.kind == .function && decide ((sc.names.map (·.1)).Nodup) && (sc.names.lookup x == some .cell) &&
  sc.names.all (fun p => (p.2 != .cell || p.1 == x) && p.1 != ("__classdict__" : Str) && (p.2 != .free || ns.lookup p.1 == some .cell || ns.lookup p.1 == some .free))
noncomputable def compY (ns : List (Str × NameKind)) (sc : Scope) (x : Str) (b no : Bool) (it : X) (c elt : X) : X := match b with
  | false => grd (scOk ns sc x) (.comp sc.names.length (sc.names.map fun p => place ns p.1) it (place (rl ns sc.names) x) c elt)
  | true => grd (scOkC ns sc x && no) (.compc sc.names.length (sc.names.map fun p => place ns p.1) it (place (rl ns sc.names) x) elt)
noncomputable def compX (ns : List (Str × NameKind)) (sc : Scope) (g : Comprehension) (it : X) (ifs : List X) (elt : X) : X :=
  oX (nameOf g.target) fun x => grd (decide (g.is_async = 0) && noSet g.iter) (compY ns sc x (sc.names.lookup x == some .cell) g.ifs.isEmpty it (andX ifs) elt)
noncomputable def subX (i : EK) (o : X) (sl : Option PySem.Expr → X) (x : X) : X := match i with
  | .sl lo hi st _ => grd false (.sub (sl lo) (sl hi))
  | _ => .sub o x
noncomputable def callK (f : EK) (args : List PySem.Expr) (ks : List Keyword) (p : Pos) (name : Str → X) (obj : PySem.Expr → X) (as ka : X) : X := match f with
  | .name x _ => grd (args.all plainE) (callX (name x) as (ks.map fun k => k.arg) ka)
  | .attr o nm ap => grd (args.all plainE && (ks.isEmpty && (noCall o && ((ap.endLine == p.line) && decide (args.length < 20))))) (methX (meOf nm) (obj o) as)
  | _ => .bad
noncomputable def er (gl : Str → Option V) : Nat → List (Str × NameKind) → PySem.Expr → X
  | 0, _, _ => .bad
  | k + 1, ns, e => (match ek e with
    | .con c _ _ => erC c
    | .name x _ => erName gl ns x
    | .bin l op r _ => .bin op (er gl k ns l) (er gl k ns r)
    | .un op x _ => unX op (er gl k ns x)
    | .bop op vs _ => bopX op (vs.map (er gl k ns))
    | .lst es _ => grd (es.all plainE) (.lst (xl (es.map (er gl k ns))))
    | .cmp l ops rs _ => grd (rs.all noSet) (cmpX ops (er gl k ns l) (rs.map (er gl k ns)))
    | .call f args ks p => callK (ek f) args ks p (erName gl ns) (er gl k ns) (xl (args.map (er gl k ns))) (xl (ks.map fun q => er gl k ns q.value))
    | .sub o i _ => subX (ek i) (er gl k ns o) (fun o => match o with
      | none => .con .none
      | some e => er gl k ns e) (er gl k ns i)
    | .lc elt gens sc _ => (match gens with
      | [] => .bad
      | g :: r => (match r with
        | [] => compX ns sc g (er gl k ns g.iter) (g.ifs.map (er gl k (rl ns sc.names))) (er gl k (rl ns sc.names) elt)
        | _ :: _ => .bad))
    | _ => .bad)

noncomputable def tgOf (ns : List (Str × NameKind)) (x : Str) : Option T := match ns.lookup x with
  | some k => (match k with
    | .local => some (.l (place ns x))
    | .cell => some (.c (place ns x))
    | _ => none)
  | none => none
noncomputable def tgK (ns : List (Str × NameKind)) (e : EK) : Option Tg := match e with
  | .name x _ => (tgOf ns x).map .one
  | _ => none
noncomputable def oS {α : Type} (o : Option α) (f : α → S) : S := match o with
  | some a => f a
  | none => .bad
noncomputable def grdS (b : Bool) (x : S) : S := match b with
  | true => x
  | false => .bad
noncomputable def sl : List S → S
  | [] => .skip
  | x :: r => .seq x (sl r)
inductive SK where
  | ass (ts : List PySem.Expr) (v : PySem.Expr) | del (ts : List PySem.Expr) | exp (v : PySem.Expr) | ret (v : Option PySem.Expr)
  | ite (t : PySem.Expr) (b o : List Stmt) | whl (t : PySem.Expr) (b o : List Stmt) | for_ (t it : PySem.Expr) (b o : List Stmt) | rais (e c : Option PySem.Expr)
  | tryx (b : List Stmt) (hs : List ExceptHandler) (o f : List Stmt) | pass | brk | cont
  | no
noncomputable def sk (s : Stmt) : SK := match s with
  | .Assign ts v _ => .ass ts v
  | .Delete ts _ => .del ts
  | .Expr v _ => .exp v
  | .Return v _ => .ret v
  | .If t b o _ => .ite t b o
  | .While t b o _ => .whl t b o
  | .For t it b o _ => .for_ t it b o
  | .Raise e c _ => .rais e c
  | .Try b hs o f _ => .tryx b hs o f
  | .Pass _ => .pass
  | .Break _ => .brk
  | .Continue _ => .cont
  | _ => .no

noncomputable def refOf (v : Option V) : Option Addr := match v with
  | some v => vRef v
  | none => none
noncomputable def typIs (v : Option V) (t : String) : Bool := match v with
  | some v => vTyp v t
  | none => false
/-- what holds of a value, if there is one -/
noncomputable def ifSome {α : Type} (o : Option α) (P : α → Prop) : Prop := match o with
  | none => True
  | some a => P a
theorem ifSome_of {α : Type} {o : Option α} {P : α → Prop} (h : ifSome o P) {a : α} (e : o = some a) : P a := by subst e; exact h
noncomputable def eCall (e : PySem.Expr) : Option (PySem.Expr × List PySem.Expr × List Keyword × Pos) := match ek e with
  | .call f a k p => some (f, a, k, p)
  | _ => none
theorem eCall_is (e : PySem.Expr) : ifSome (eCall e) fun q => e = .Call q.1 q.2.1 q.2.2.1 q.2.2.2 := by cases e <;> first | exact trivial | rfl
noncomputable def eAttr (e : PySem.Expr) : Option (PySem.Expr × Str × Pos) := match ek e with
  | .attr o nm p => some (o, nm, p)
  | _ => none
theorem eAttr_is (e : PySem.Expr) : ifSome (eAttr e) fun q => e = .Attribute q.1 q.2.1 q.2.2 := by cases e <;> first | exact trivial | rfl
noncomputable def nmCall (e : PySem.Expr) : Option (Str × List PySem.Expr) := (eCall e).bind fun q => (nameOf q.1).bind fun x => if q.2.2.1.isEmpty then some (x, q.2.1) else none
/-- w.append(str(e)), as a text has it: w, s, e -/
noncomputable def appC (c : PySem.Expr) : Option (Str × Str × Str) := (eCall c).bind fun q => (eAttr q.1).bind fun r => (nameOf r.1).bind fun w => (one? q.2.1).bind fun c' => (nmCall c').bind fun q' => (one? q'.2).bind fun e => (nameOf e).bind fun x =>
  if q.2.2.1.isEmpty && (r.2.1 == ("append" : Str)) && (r.2.2.endLine == q.2.2.2.line) then some (w, q'.1, x) else none
noncomputable def locOk (ns : List (Str × NameKind)) (x : Str) : Bool := ns.lookup x == some .local && x != ("__debug__" : Str)
noncomputable def gloOk (ns : List (Str × NameKind)) (x : Str) : Bool := ns.lookup x == some .globalImplicit && x != ("__debug__" : Str)
noncomputable def sExp (st : Stmt) : Option PySem.Expr := match sk st with
  | .exp c => some c
  | _ => none
theorem sExp_is (st : Stmt) : ifSome (sExp st) fun c => ∃ p, st = .Expr c p := by cases st <;> first | exact trivial | exact ⟨_, rfl⟩
noncomputable def hdApp (gl : Str → Option V) (ns : List (Str × NameKind)) (nm : Option Str) (c : PySem.Expr) : Option Hd := nm.bind fun e => (appC c).bind fun q => if q.2.2 == e && (locOk ns e && (locOk ns q.1 && (gloOk ns q.2.1 && (typIs (gl q.2.1) "str" && q.1 != e)))) then some (.appStr (place ns e) (place ns q.1)) else none
noncomputable def hdS (gl : Str → Option V) (ns : List (Str × NameKind)) (nm : Option Str) (st : Stmt) (o : Option PySem.Expr) : Option Hd := match o with
  | some c => hdApp gl ns nm c
  | none => none
noncomputable def hdOf (gl : Str → Option V) (ns : List (Str × NameKind)) (nm : Option Str) (hb : List Stmt) : Option Hd := (one? hb).bind fun st => hdS gl ns nm st (sExp st)
noncomputable def sAss (st : Stmt) : Option (List PySem.Expr × PySem.Expr) := match sk st with
  | .ass ts e => some (ts, e)
  | _ => none
theorem sAss_is (st : Stmt) : ifSome (sAss st) fun q => ∃ p, st = .Assign q.1 q.2 p := by cases st <;> first | exact trivial | exact ⟨_, rfl⟩
noncomputable def stCall (st : Stmt) : Option PySem.Expr := match sExp st with
  | some e => some e
  | none => (sAss st).bind fun q => ((one? q.1).bind nameOf).map fun _ => q.2
noncomputable def tryS (gl : Str → Option V) (ns : List (Str × NameKind)) (st : Stmt) (b : S) (ars : List PySem.Expr → X) (c : Str) (nm : Option Str) (hb : List Stmt) : S :=
  oS ((stCall st).bind nmCall) fun q => oS (hdOf gl ns nm hb) fun h => oS (refOf (gl c)) fun C => grdS (q.2.all plainE && (gloOk ns c && locOk ns q.1)) (.tryx b (erName gl ns q.1) (ars q.2) C h)
noncomputable def hName (h : ExceptHandler) : Option (Str × Option Str × List Stmt) := match h with
  | .ExceptHandler t nm b _ => t.bind fun t => (nameOf t).map fun c => (c, nm, b)
noncomputable def strC (c : Const) : Option Str := match c with
  | .str m => some m
  | _ => none
theorem strC_is (c : Const) : ifSome (strC c) fun m => c = .str m := by cases c <;> first | exact trivial | rfl
noncomputable def eCon (e : PySem.Expr) : Option Const := match ek e with
  | .con c _ _ => some c
  | _ => none
theorem eCon_is (e : PySem.Expr) : ifSome (eCon e) fun c => ∃ j p, e = .Constant c j p := by cases e <;> first | exact trivial | exact ⟨_, _, rfl⟩
noncomputable def strK (e : PySem.Expr) : Option Str := (eCon e).bind strC
noncomputable def raisK (e : PySem.Expr) : Option (Str × Str) := (nmCall e).bind fun q => (one? q.2).bind fun a => (strK a).map fun m => (q.1, m)
noncomputable def delK (e : EK) : Option (PySem.Expr × PySem.Expr) := match e with
  | .sub o i _ => some (o, i)
  | _ => none
noncomputable def assS (ns : List (Str × NameKind)) (t : EK) (tup : Bool) (x : X) : S := match t with
  | .name y _ => oS (tgOf ns y) fun t => .set t x
  | _ => .bad
noncomputable def isTup (e : PySem.Expr) : Bool := match ek e with
  | .tup .. => true
  | _ => false
noncomputable def erS (gl : Str → Option V) (ns : List (Str × NameKind)) : Nat → Stmt → S
  | 0, _ => .bad
  | k + 1, st => (match sk st with
    | .ass ts v => oS (one? ts) fun t => assS ns (ek t) (isTup v) (er gl k ns v)
    | .del ts => oS ((one? ts).bind fun t => delK (ek t)) fun q => .del (er gl k ns q.1) (er gl k ns q.2)
    | .exp v => grdS (!isLC v) (.exp (er gl k ns v))
    | .ret v => (match v with
      | some v => .ret (er gl k ns v)
      | none => .ret0)
    | .ite t b o => .ite (er gl k ns t) (sl (b.map (erS gl ns k))) (sl (o.map (erS gl ns k)))
    | .whl t b o => grdS o.isEmpty (.whl (er gl k ns t) (sl (b.map (erS gl ns k))))
    | .for_ t it b o => grdS (o.isEmpty && noSet it) (oS (tgK ns (ek t)) fun tg => .for_ tg (er gl k ns it) (sl (b.map (erS gl ns k))))
    | .rais e c => grdS c.isNone (oS (e.bind raisK) fun q => oS (refOf (gl q.1)) fun a => grdS (gloOk ns q.1) (.rais a q.2))
    | .tryx b hs o f => grdS (o.isEmpty && f.isEmpty) (oS (one? b) fun st => oS ((one? hs).bind hName) fun h => tryS gl ns st (erS gl ns k st) (fun as => xl (as.map (er gl k ns))) h.1 h.2.1 h.2.2)
    | .pass => .skip
    | .brk => .brk
    | .cont => .cont
    | .no => .bad)
noncomputable def erSs (gl : Str → Option V) (k : Nat) (ns : List (Str × NameKind)) (l : List Stmt) : S := sl (l.map (erS gl ns k))
end Mine

end
section -- B4
namespace Mine

section
variable {H : Heap} {σ : St} {s s' : Shared} {L : Addr → Prop}

theorem RelG.ext (r : RelG H σ s) (hk : ∀ b o, s.heap.get? b = some o → s'.heap.get? b = some o) : RelG H σ s' :=
  ⟨fun b o e => hk b o (r.base b o e), fun a x e => (r.objs a x e).at fun o => hk a o, r.own⟩
theorem Stp.ext (hk : ∀ b o, s.heap.get? b = some o → s'.heap.get? b = some o) (hr : ∃ h t, s' = { s with heap := h, toks := t }) : Stp L σ s σ s' :=
  .of (fun b o e _ _ => hk b o e) (fun _ x e => .inl ⟨x, e, id⟩) (fun b o e => ⟨o, hk b o e⟩) hr
theorem RelG.fresh (r : RelG H σ s) {a : Addr} (h : s.heap.get? a = none) : σ a = none := by
  cases e : σ a with
  | none => rfl
  | some x => obtain ⟨o, ho⟩ := (r.objs a x e).get; rw [h] at ho; cases ho
theorem RelG.offbase (r : RelG H σ s) {a : Addr} (h : s.heap.get? a = none) : H.get? a = none := by
  cases e : H.get? a with
  | none => rfl
  | some x => have := r.base _ _ e; rw [h] at this; cases this
theorem get_size (h : Heap) : h.get? h.objs.size = none := by
  cases e : h.get? h.objs.size with
  | none => rfl
  | some o => exact absurd (Heap.lt_size e) (Nat.lt_irrefl _)
theorem RelG.alloc (r : RelG H σ s) {a : Addr} {x : O} (hk : ∀ b o, s.heap.get? b = some o → s'.heap.get? b = some o) (ha : s.heap.get? a = none) (ho : ObjR s'.heap a x) : RelG H (σ.set a x) s' := by
  refine ⟨fun b o e => hk b o (r.base b o e), fun b y e => ?_, fun b y e hm => ?_⟩
  · by_cases hb : b = a
    · subst hb; rw [St.set_same] at e; cases e; exact ho
    · rw [St.set_other _ _ hb] at e; exact (r.objs b y e).at fun o => hk b o
  · by_cases hb : b = a
    · subst hb; exact r.offbase ha
    · rw [St.set_other _ _ hb] at e; exact r.own b y e hm
theorem Stp.alloc {a : Addr} {x : O} (hk : ∀ b o, s.heap.get? b = some o → s'.heap.get? b = some o) (ha : s.heap.get? a = none) (hr : ∃ h t, s' = { s with heap := h, toks := t }) :
    Stp L σ s (σ.set a x) s' :=
  .of (fun b o e _ _ => hk b o e) (fun b y e => by
    by_cases hb : b = a
    · subst hb; exact .inr ha
    · rw [St.set_other _ _ hb] at e; exact .inl ⟨y, e, id⟩) (fun b o e => ⟨o, hk b o e⟩) hr
theorem RelG.put (r : RelG H σ s) {a : Addr} {y x : O} (hy : σ a = some y) (hm : y.mut = true) (hs : Heap.SameBut a s.heap s'.heap) (ho : ObjR s'.heap a x) : RelG H (σ.set a x) s' := by
  have hH := r.own a y hy hm
  refine ⟨fun b o e => ?_, fun b z e => ?_, fun b z e hz => ?_⟩
  · have hb : b ≠ a := by rintro rfl; rw [hH] at e; cases e
    exact (hs.2 b hb).trans (r.base b o e)
  · by_cases hb : b = a
    · subst hb; rw [St.set_same] at e; cases e; exact ho
    · rw [St.set_other _ _ hb] at e; exact (r.objs b z e).at fun o eo => (hs.2 b hb).trans eo
  · by_cases hb : b = a
    · subst hb; exact hH
    · rw [St.set_other _ _ hb] at e; exact r.own b z e hz
theorem Stp.put {a : Addr} {y x : O} (hy : σ a = some y) (hm : y.mut = true) (hs : Heap.SameBut a s.heap s'.heap) (ho : ObjR s'.heap a x) (hr : ∃ h t, s' = { s with heap := h, toks := t }) : Stp L σ s (σ.set a x) s' :=
  .of (fun b o e hn _ => by
    have hb : b ≠ a := by rintro rfl; have := hn y hy; rw [hm] at this; cases this
    exact (hs.2 b hb).trans e) (fun b z e => by
    by_cases hb : b = a
    · subst hb; exact .inl ⟨y, hy, fun _ => hm⟩
    · rw [St.set_other _ _ hb] at e; exact .inl ⟨z, e, id⟩) (fun b o e => by
    by_cases hb : b = a
    · subst hb; exact ho.get
    · exact ⟨o, (hs.2 b hb).trans e⟩) hr

theorem Frs.at {A : Around} {a : Addr} {h' : Heap} {tk : Nat} {m : Str → Option Value} (f : Frs H A σ s) (hs : Heap.SameBut a s.heap h') (ha : h'.Ns a m) : Frs H A σ { s with heap := h', toks := tk } := f.mono fun b o es n e hd hσ => by
  refine ⟨hσ, ?_⟩
  by_cases hb : b = a
  · subst hb; obtain ⟨o', es', ep', e', hd', _⟩ := ha; exact ⟨o', es', ep', e', hd'⟩
  · exact ⟨o, es, n, (hs.2 b hb).trans e, hd⟩
theorem Frs.put {A : Around} {a : Addr} {x y : O} {h' : Heap} {tk : Nat} (f : Frs H A σ s) (hy : σ a = some y) (hs : Heap.SameBut a s.heap h') : Frs H A (σ.set a x) { s with heap := h', toks := tk } := f.mono fun b o es n e hd hσ => by
  have hb : b ≠ a := fun q => by rw [q, hy] at hσ; cases hσ
  exact ⟨by rw [St.set_other _ _ hb]; exact hσ, o, es, n, (hs.2 b hb).trans e, hd⟩
theorem Ns_look {h h' : Heap} {a : Addr} {m : Str → Option Value} (x : h.Ns a m) (k : ∀ o, h.get? a = some o → ∃ sl, h'.get? a = some { o with slots := sl }) : h'.Ns a m := by
  obtain ⟨o, es, ep, e, hd, r⟩ := x
  obtain ⟨sl, e'⟩ := k o e
  exact ⟨_, es, ep, e', hd, r⟩
theorem Rel.step {A : Around} {env : Env} {fr : List V} {σ' : St} (r : Rel H A env σ fr s) (g : RelG H σ' s') (t : Stp No σ s σ' s') : Rel H A env σ' fr s' := by
  obtain ⟨m, hn, hf⟩ := r.ns
  refine ⟨g, ⟨m, Ns_look hn fun o e => t.look _ _ e (fun x hx => by rw [r.off] at hx; cases hx) id, hf⟩, ?_, r.new, r.frs.step t⟩
  cases e : σ' env.locals with
  | none => rfl
  | some x =>
    rcases t.dom _ _ e with ⟨y, hy, _⟩ | h
    · rw [r.off] at hy; cases hy
    · obtain ⟨o, _, _, e', _⟩ := hn; rw [h] at e'; cases e'
theorem RelG.toks (r : RelG H σ s) (t : Nat) : RelG H σ { s with toks := t } := ⟨r.base, r.objs, r.own⟩
theorem Stp.toks (t : Nat) : Stp L σ s σ { s with toks := t } := .of (fun _ _ e _ _ => e) (fun _ x e => .inl ⟨x, e, id⟩) (fun _ o e => ⟨o, e⟩) ⟨s.heap, t, rfl⟩
end


section
variable {σ : St} {s s' : Shared} {L : Addr → Prop}
theorem RelG.hidden {H : Heap} (r : RelG H σ s) (hL : ∀ b, L b → σ b = none ∧ H.get? b = none) (hk : ∀ b o, ¬ L b → s.heap.get? b = some o → s'.heap.get? b = some o) : RelG H σ s' :=
  ⟨fun b o e => hk b o (fun hb => (by rw [(hL b hb).2] at e; cases e)) (r.base b o e),
   fun a x e => (r.objs a x e).at fun o => hk a o fun hb => (by rw [(hL a hb).1] at e; cases e), r.own⟩
theorem Stp.hidden (hk : ∀ b o, ¬ L b → s.heap.get? b = some o → s'.heap.get? b = some o) (ha : ∀ b o, L b → s.heap.get? b = some o → ∃ o', s'.heap.get? b = some o') (hr : ∃ h t, s' = { s with heap := h, toks := t }) : Stp L σ s σ s' :=
  .of (fun b o e _ hl => hk b o hl e) (fun _ x e => .inl ⟨x, e, id⟩) (fun b o e => by
    by_cases hl : L b
    · exact ha b o hl e
    · exact ⟨o, hk b o hl e⟩) hr
theorem Stp.shown {σ' : St} (t : Stp L σ s σ' s') (h : ∀ b, L b → s.heap.get? b = none) : Stp No σ s σ' s' :=
  ⟨fun b o e hm _ => t.keep b o e hm fun hb => (by rw [h b hb] at e; cases e), fun b o e hm _ => t.look b o e hm fun hb => (by rw [h b hb] at e; cases e), t.dom, t.alive, t.rest⟩
theorem Stp.off {σ' : St} (t : Stp L σ s σ' s') {b : Addr} {o : Obj} (h : σ b = none) (e : s.heap.get? b = some o) : σ' b = none := by
  cases q : σ' b with
  | none => rfl
  | some x =>
    rcases t.dom b x q with ⟨y, hy, _⟩ | h'
    · rw [h] at hy; cases hy
    · rw [h'] at e; cases e
theorem Stp.nomut {σ' : St} (t : Stp L σ s σ' s') {b : Addr} {o : Obj} (h : NoMut σ b) (e : s.heap.get? b = some o) : NoMut σ' b := fun x hx => by
  rcases t.dom b x hx with ⟨y, hy, hm⟩ | h'
  · cases hx' : x.mut with
    | false => rfl
    | true => have := h y hy; rw [hm hx'] at this; exact this
  · rw [h'] at e; cases e

/-- a new object besides is changed -/
theorem Stp.sameBut {σ' : St} {C : Addr} {h' : Heap} (t : Stp L σ s σ' s') (hC : s.heap.get? C = none) (hs : Heap.SameBut C s'.heap h') : Stp L σ s σ' { s' with heap := h' } :=
  ⟨fun b o e hm hl hd => (hs.2 b fun q => (by subst q; rw [hC] at e; cases e)).trans (t.keep b o e hm hl hd),
   fun b o e hm hl => let ⟨sl, e'⟩ := t.look b o e hm hl; ⟨sl, (hs.2 b fun q => (by subst q; rw [hC] at e; cases e)).trans e'⟩, t.dom,
   fun b o e => let ⟨o', e'⟩ := t.alive b o e; ⟨o', (hs.2 b fun q => (by subst q; rw [hC] at e; cases e)).trans e'⟩,
   let ⟨h, tk, e⟩ := t.rest; ⟨h', tk, by rw [e]⟩⟩
theorem Stp.up {L' : Addr → Prop} {σ' : St} (t : Stp No σ s σ' s') : Stp L' σ s σ' s' := t.weak fun _ q => q.elim
end

/-- the global names mean what gl says -/
noncomputable def GlOK (H : Heap) (gl : Str → Option V) : Prop := ∀ x v, gl x = some v → ∃ v', ab v' = v ∧
  ∃ mg, H.Ns mainGlobals mg ∧ (mg x = some v' ∨ mg x = none ∧ ∃ mb, H.Ns builtinsNs mb ∧ mb x = some v')
/-- where a block runs -/
structure Cx where
  W : Wd
  n : Nat
  gl : Str → Option V
  env : Env
  cs : List Addr
  ok : EnvOK W env cs
  G : GlOK W.H gl
abbrev Cx.ns (c : Cx) : List (Str × NameKind) := c.env.scope.names
abbrev Cx.x (c : Cx) (x : X) (fr : List V) (σ : St) (Q : V → St → Prop) : Prop := xW c.W c.n x c.cs fr σ Q
abbrev Cx.t (c : Cx) (x : X) (fr : List V) (σ : St) (Q : Bool → St → Prop) : Prop := tW c.W c.n x c.cs fr σ Q
abbrev Cx.l (c : Cx) (x : X) (fr : List V) (σ : St) (Q : List V → St → Prop) : Prop := lW c.W c.n x c.cs fr σ Q

section
variable {W : Wd} {n : Nat} {c : Cx} {fr : List V} {σ : St} {α β γ : Type}
/-- a stretch that needs no frame -/
noncomputable def HV (W : Wd) (n : Nat) (σ : St) (t : Sem α) (Q : α → St → Prop) : Prop :=
  ∀ A s Z, Room n A → RelG W.H σ s → Ends W.H σ s Q Z → wpAny W.M A t Z NoE s
/-- a stretch within a frame -/
noncomputable def GV (c : Cx) (fr : List V) (σ : St) (t : Sem α) (Q : α → St → Prop) : Prop :=
  ∀ A s Z, Room c.n A → Rel c.W.H A c.env σ fr s → Ends c.W.H σ s Q Z → wpAny c.W.M A t Z NoE s
/-- one computation stands for another -/
noncomputable def To (W : Wd) (t1 t : Sem α) : Prop := ∀ A s Z, wpAny W.M A t1 Z NoE s → wpAny W.M A t Z NoE s
theorem HV.gv {t : Sem α} {Q : α → St → Prop} (h : HV c.W c.n σ t Q) : GV c fr σ t Q := fun A s Z R r z => h A s Z R r.toRelG z
theorem GV.to {t1 t : Sem α} {Q : α → St → Prop} (h : GV c fr σ t1 Q) (L : To c.W t1 t) : GV c fr σ t Q := fun A s Z R r z => L A s Z (h A s Z R r z)
theorem GV.of {t : Sem α} {Q P : α → St → Prop} (h : GV c fr σ t Q) (m : ∀ a σ', Q a σ' → P a σ') : GV c fr σ t P := fun A s Z R r z => h A s Z R r fun a σ' s' q => z a σ' s' (m a σ' q)
theorem GV.l2 {t1 : Sem α} {t2 : α → Sem β} {t : Sem β} {Q1 : α → St → Prop} {Q : β → St → Prop} (L : ∀ A s Z, wpAny c.W.M A t1 (fun a s1 => wpAny c.W.M A (t2 a) Z NoE s1) NoE s → wpAny c.W.M A t Z NoE s)
    (h1 : GV c fr σ t1 Q1) (h2 : ∀ a σ1, Q1 a σ1 → GV c fr σ1 (t2 a) Q) : GV c fr σ t Q :=
  fun A s Z R r z => L A s Z (h1 A s _ R r fun a σ1 s1 q g t => h2 a σ1 q A s1 Z R (r.step g t) fun b σ2 s2 q' g' t' => z b σ2 s2 q' g' (t.trans t'))
theorem GV.bind {t1 : Sem α} {t2 : α → Sem β} {Q1 : α → St → Prop} {Q : β → St → Prop} (h1 : GV c fr σ t1 Q1) (h2 : ∀ a σ1, Q1 a σ1 → GV c fr σ1 (t2 a) Q) : GV c fr σ (t1 >>= t2) Q :=
  GV.l2 (fun _ _ _ => wpAny_bind) h1 h2
theorem GV.l3 {t1 : Sem α} {t2 : α → Sem β} {t3 : α → β → Sem γ} {t : Sem γ} {Q1 : α → St → Prop} {Q2 : α → β → St → Prop} {Q : γ → St → Prop}
    (L : ∀ A s Z, wpAny c.W.M A t1 (fun a s1 => wpAny c.W.M A (t2 a) (fun b s2 => wpAny c.W.M A (t3 a b) Z NoE s2) NoE s1) NoE s → wpAny c.W.M A t Z NoE s)
    (h1 : GV c fr σ t1 Q1) (h2 : ∀ a σ1, Q1 a σ1 → GV c fr σ1 (t2 a) (Q2 a)) (h3 : ∀ a b σ2, Q2 a b σ2 → GV c fr σ2 (t3 a b) Q) : GV c fr σ t Q :=
  fun A s Z R r z => L A s Z (h1 A s _ R r fun a σ1 s1 q1 g1 p1 => h2 a σ1 q1 A s1 _ R (r.step g1 p1) fun b σ2 s2 q2 g2 p2 => h3 a b σ2 q2 A s2 Z R ((r.step g1 p1).step g2 p2) fun x σ3 s3 q3 g3 p3 => z x σ3 s3 q3 g3 ((p1.trans p2).trans p3))
theorem HV.bind {t1 : Sem α} {t2 : α → Sem β} {Q1 : α → St → Prop} {Q : β → St → Prop} (h1 : HV W n σ t1 Q1) (h2 : ∀ a σ1, Q1 a σ1 → HV W n σ1 (t2 a) Q) : HV W n σ (t1 >>= t2) Q :=
  fun A s Z R r z => wpAny_bind (h1 A s _ R r fun a σ1 s1 q g t => h2 a σ1 q A s1 Z R g fun b σ2 s2 q' g' t' => z b σ2 s2 q' g' (t.trans t'))
theorem GV.pure {a : α} {Q : α → St → Prop} (q : Q a σ) : GV c fr σ (pure a) Q := fun A s Z R r z => wpAny_pure (z a σ s q r.toRelG (.refl ..))
theorem GV.hold {vs : List Value} {t : Sem α} {Q : α → St → Prop} (h : GV c fr σ t Q) : GV c fr σ (holding vs t) Q := h.to fun _ _ _ => wpAny_holding
theorem GV.stand {p : Pos} {t : Unit → Sem α} {Q : α → St → Prop} (h : GV c fr σ (t ()) Q) : GV c fr σ (standAt p >>= t) Q := h.to fun _ _ _ h => wpAny_bind (wpAny_standAt h)
theorem wpAny_release {M : Model} {A : Around} {s : Shared} {E : Value → Shared → Prop} {vs keep : List Value} {Z : Unit → Shared → Prop} (hz : Z () s) : wpAny M A (release vs keep) Z E s := fun Γ p hΓ => by
  rw [Sem.wp_release]; exact hz
theorem GV.rel {vs keep : List Value} {t : Unit → Sem α} {Q : α → St → Prop} (h : GV c fr σ (t ()) Q) : GV c fr σ (release vs keep >>= t) Q := h.to fun _ _ _ h => wpAny_bind (wpAny_release h)
theorem GV.op {vs : List Value} {t : Sem Value} {Q : Value → St → Prop} (h : GV c fr σ t Q) : GV c fr σ (operate vs t) Q := h.to fun _ _ _ h Γ p hΓ => by rw [Sem.wp_operate]; exact h Γ p hΓ
theorem Ends.here {s : Shared} {H : Heap} {Q : α → St → Prop} {Z : α → Shared → Prop} (z : Ends H σ s Q Z) {a : α} (r : RelG H σ s) (q : Q a σ) : Z a s := z a σ s q r (.refl ..)
theorem Ends.tok {s : Shared} {H : Heap} {Q : α → St → Prop} {Z : α → Shared → Prop} (z : Ends H σ s Q Z) {a : α} {t : Nat} (r : RelG H σ s) (q : Q a σ) : Z a { s with toks := t } := z a σ _ q (r.toks t) (.toks t)
theorem Ends.alloc {s : Shared} {H : Heap} {Q : α → St → Prop} {Z : α → Shared → Prop} (z : Ends H σ s Q Z) {v : α} {o : Obj} {x : O} {t : Nat} (r : RelG H σ s) (ho : ObjR (s.heap.push o) s.heap.objs.size x)
    (q : σ s.heap.objs.size = none → Q v (σ.set s.heap.objs.size x)) : Z v { s with heap := s.heap.push o, toks := t } :=
  z v _ _ (q (r.fresh (get_size _))) (r.alloc (fun _ _ e => Heap.get?_push_of_some _ e) (get_size _) ho) (.alloc (fun _ _ e => Heap.get?_push_of_some _ e) (get_size _) ⟨_, _, rfl⟩)
theorem Ends.new {s : Shared} {H : Heap} {Q : α → St → Prop} {Z : α → Shared → Prop} (z : Ends H σ s Q Z) {v : α} {x : O} {a : Addr} {h' : Heap} {t : Nat} (r : RelG H σ s) (hk : ∀ b o, s.heap.get? b = some o → h'.get? b = some o) (ha : s.heap.get? a = none) (ho : ObjR h' a x)
    (q : σ a = none → Q v (σ.set a x)) : Z v { s with heap := h', toks := t } := z v _ _ (q (r.fresh ha)) (r.alloc hk ha ho) (.alloc hk ha ⟨_, _, rfl⟩)
theorem Ends.ext {s : Shared} {H : Heap} {Q : α → St → Prop} {Z : α → Shared → Prop} (z : Ends H σ s Q Z) {v : α} {h' : Heap} {t : Nat} (r : RelG H σ s) (hk : ∀ b o, s.heap.get? b = some o → h'.get? b = some o) (q : Q v σ) : Z v { s with heap := h', toks := t } :=
  z v σ _ q (r.ext hk) (.ext hk ⟨_, _, rfl⟩)
theorem Ends.putL {s : Shared} {H : Heap} {Q : α → St → Prop} {Z : α → Shared → Prop} (z : Ends H σ s Q Z) {v : α} {ys : List V} {a : Addr} {xs : List V} {h' : Heap} {t : Nat} (r : RelG H σ s) (hy : σ a = some (.lst xs)) (hs : Heap.SameBut a s.heap h')
    (ho : ∃ items : Array Value, h'.PlainList a items ∧ items.toList.map ab = ys ∧ ys.length ≤ lim) (q : Q v (σ.set a (.lst ys))) : Z v { s with heap := h', toks := t } :=
  z v _ _ q (r.put (x := .lst ys) hy rfl hs ho) (.put (x := .lst ys) hy rfl hs ho ⟨_, _, rfl⟩)
end

/-- an expression's value, and its truth, as er and the rules say -/
noncomputable def SE (k : Nat) (e : PySem.Expr) : Prop := ∀ (c : Cx) fr σ Q, c.x (er c.gl k c.ns e) fr σ Q → GV c fr σ (eval e c.env) fun v => Q (ab v)
noncomputable def ST (k : Nat) (e : PySem.Expr) : Prop := ∀ (c : Cx) fr σ Q, c.t (er c.gl k c.ns e) fr σ Q → GV c fr σ (isTrue e c.env (eval e c.env)) Q
theorem grd_x {W : Wd} {n : Nat} {b : Bool} {x : X} {cs : List Addr} {fr : List V} {σ : St} {Q : V → St → Prop} (h : xW W n (grd b x) cs fr σ Q) : b = true ∧ xW W n x cs fr σ Q := by
  cases b with
  | true => exact ⟨rfl, h⟩
  | false => exact h.elim
theorem grd_t {W : Wd} {n : Nat} {b : Bool} {x : X} {cs : List Addr} {fr : List V} {σ : St} {Q : Bool → St → Prop} (h : tW W n (grd b x) cs fr σ Q) : b = true ∧ tW W n x cs fr σ Q := by
  cases b with
  | true => exact ⟨rfl, h⟩
  | false => exact h.elim
theorem noTr_grd {b : Bool} {x : X} (h : noTr x = true) : noTr (grd b x) = true := by
  cases b with
  | true => exact h
  | false => rfl
theorem place_of {ns : List (Str × NameKind)} {x : Str} {k : NameKind} (h : ns.lookup x = some k) : ns[place ns x]? = some (x, k) := by
  induction ns with
  | nil => cases h
  | cons p r ih =>
    obtain ⟨y, k'⟩ := p
    by_cases hy : y = x
    · subst hy; simp [List.lookup] at h; subst h; simp [place, List.findIdx_cons]
    · have e1 : (x == y) = false := by simpa using fun e : x = y => hy e.symm
      have e2 : (y == x) = false := by simpa using hy
      rw [List.lookup_cons, e1] at h
      have := ih h
      simpa [place, List.findIdx_cons, e2] using this


end Mine

end
section -- B5
namespace Mine
variable {W : Wd} {n : Nat} {c : Cx} {fr : List V} {σ : St} {A : Around} {s : Shared}

theorem lim_le : lim ≤ sizeLine := by rw [sizeLine_eq]; exact (by decide : lim ≤ 16777216)

theorem cel_elim {i : Nat} {cs : List Addr} {Q : V → St → Prop} (h : xW W n (.cel i) cs fr σ Q) : ∃ v, σ (nthA cs i) = some (.cell v) ∧ v ≠ .undef ∧ Q v σ := by
  rw [x_cel] at h
  cases e : σ (nthA cs i) with
  | none => rw [e] at h; exact h.elim
  | some o =>
    rw [e] at h
    cases o with
    | cell v => exact ⟨v, rfl, h⟩
    | _ => exact h.elim
theorem load_loc {x : Str} (hl : c.ns.lookup x = some .local) (hu : nth fr (place c.ns x) ≠ .undef) : GV c fr σ (loadName c.env x) fun v σ' => ab v = nth fr (place c.ns x) ∧ σ' = σ := fun A s Z R r z => by
  obtain ⟨m, hn, hf⟩ := r.ns
  rw [nth_eq] at hu z
  obtain ⟨v, hv, hav⟩ := hf _ _ (place_of hl) hu
  exact wpAny_loadName_local c.ok.kind hl hn hv (z.here r.toRelG ⟨hav, rfl⟩)
theorem load_cel {x : Str} {v : V} (hl : c.ns.lookup x = some .cell ∨ c.ns.lookup x = some .free) (e : σ (nthA c.cs (place c.ns x)) = some (.cell v)) (hu : v ≠ .undef) : GV c fr σ (loadName c.env x) fun u σ' => ab u = v ∧ σ' = σ := fun A s Z R r z => by
  rw [nthA_eq] at e
  obtain ⟨o, hcell, hab⟩ := r.objs _ _ e
  cases o with
  | none => exact absurd hab.symm hu
  | some cv =>
    have hz := z.here (a := cv) r.toRelG ⟨hab, rfl⟩
    rcases hl with hl | hl
    · exact wpAny_loadName_cell c.ok.kind hl (c.ok.cell _ _ _ (place_of hl) (.inl rfl)).1 hcell hz
    · have h2 := c.ok.cell _ _ _ (place_of hl) (.inr rfl)
      exact wpAny_loadName_free c.ok.kind hl h2.1 hcell hz (beq_eq_false_iff_ne.mpr h2.2)
/-- a global name, whatever is handled -/
theorem glob_any {x : Str} {v : V} (hl : c.ns.lookup x = some .globalImplicit) (hx : c.gl x = some v) (hb : ∀ b o, c.W.H.get? b = some o → s.heap.get? b = some o) {Z E : Value → Shared → Prop} (hZ : ∀ v', ab v' = v → Z v' s) : wpAny c.W.M A (loadName c.env x) Z E s := by
  obtain ⟨v', hab, mg, hg, hm⟩ := c.G _ _ hx
  have hg' := hg.keeps hb
  replace hZ := hZ v' hab
  have e1 : loadName c.env x = loadGlobal c.env x := by
    have hbk : c.env.blockKind = .function := by unfold Env.blockKind; rw [c.ok.kind]; rfl
    have hk : c.env.kindOf x = some .globalImplicit := hl
    unfold loadName
    rw [hbk, hk, c.ok.kind]
    rfl
  rw [e1]
  unfold loadGlobal
  rw [c.ok.glob, c.ok.bts]
  refine wpAny_bind (wpAny_nsGet hg' ?_)
  rcases hm with hm | ⟨hm, mb, hbb, hmb⟩
  · rw [hm]; exact wpAny_pure hZ
  · rw [hm]
    exact wpAny_bind (wpAny_nsGet (hbb.keeps hb) (by rw [hmb]; exact wpAny_pure hZ))
theorem load_glo {x : Str} {v : V} (hl : c.ns.lookup x = some .globalImplicit) (hx : c.gl x = some v) : GV c fr σ (loadName c.env x) fun u σ' => ab u = v ∧ σ' = σ :=
  fun A s Z R r z => glob_any hl hx r.base fun v' hv' => z.here r.toRelG ⟨hv', rfl⟩
theorem load_eq {t : Sem Value} {v : V} {Q : V → St → Prop} (h : GV c fr σ t fun u σ' => ab u = v ∧ σ' = σ) (q : Q v σ) : GV c fr σ t fun u => Q (ab u) := h.of fun a σ' e => by rw [e.1, e.2]; exact q
theorem nbeq {x y : Str} (h : (x != y) = true) : (x == y) = false := by rw [bne, Bool.not_eq_true'] at h; exact h
theorem name_ok {x : Str} {pos : Pos} {Q : V → St → Prop} (h : c.x (erName c.gl c.ns x) fr σ Q) : GV c fr σ (eval (.Name x pos) c.env) fun v => Q (ab v) := by
  obtain ⟨hd, h⟩ := grd_x h
  refine GV.to (t1 := loadName c.env x) ?_ fun _ _ _ h => wpAny_Name h (nbeq hd)
  cases hl : c.ns.lookup x with
  | none => rw [hl] at h; exact h.elim
  | some k =>
    rw [hl] at h
    cases k with
    | «local» => exact load_eq (load_loc hl h.1) h.2
    | cell => obtain ⟨v, e, hu, q⟩ := cel_elim h; exact load_eq (load_cel (.inl hl) e hu) q
    | free => obtain ⟨v, e, hu, q⟩ := cel_elim h; exact load_eq (load_cel (.inr hl) e hu) q
    | globalImplicit =>
      cases hg : c.gl x with
      | none => rw [hg] at h; exact h.elim
      | some v => rw [hg] at h; exact load_eq (load_glo hl hg) h
    | _ => exact h.elim
theorem noTr_name {gl : Str → Option V} {ns : List (Str × NameKind)} {x : Str} : noTr (erName gl ns x) = true := by
  refine noTr_grd ?_
  cases ns.lookup x with
  | none => rfl
  | some k =>
    cases k with
    | globalImplicit => cases gl x <;> rfl
    | _ => rfl

theorem asI_on {G : Value → Prop} {va : Value} {K : Int → Prop} (h : asI (ab va) K) (g : ∀ i t, K i → G (.int i t)) : G va := by
  cases va <;> first | exact g _ _ h | exact h.elim
theorem asR_on {G : Value → Prop} {va : Value} {K : Addr → Prop} (h : asR (ab va) K) (g : ∀ i, K i → G (.ref i)) : G va := by
  cases va <;> first | exact g _ h | exact h.elim
theorem asT_on {G : Value → Prop} {va : Value} {K : String → Prop} (h : asT (ab va) K) (g : ∀ i, K i → G (.type i)) : G va := by
  cases va <;> first | exact g _ h | exact h.elim
theorem opt_elim {α : Type} {o : Option α} {K : α → Prop} (h : optP o K) : ∃ x, o = some x ∧ K x := by
  cases o with
  | none => exact h.elim
  | some x => exact ⟨x, rfl, h⟩
theorem ref_on {G : Value → Prop} {va : Value} {K : Addr → O → Prop} (h : refW (ab va) σ K) (g : ∀ a o, σ a = some o → K a o → G (.ref a)) : G va := by
  cases va with
  | ref a => obtain ⟨o, e, h⟩ := opt_elim (show optP (σ a) (K a) from h); exact g a o e h
  | _ => exact h.elim
/-- a list of the store, in the heap -/
noncomputable def LstAt (s : Shared) (a : Addr) (xs : List V) : Prop := ∃ items : Array Value, s.heap.IsList a items ∧ items.size ≤ lim ∧ items.toList.map ab = xs
noncomputable def SeqOf (s : Shared) (a : Addr) (xs : List V) : Prop := ∃ items : Array Value, (s.heap.IsList a items ∨ IsTup s.heap a items) ∧ items.size ≤ lim ∧ items.toList.map ab = xs
theorem lstAt {a : Addr} {o : O} {xs : List V} {H : Heap} (r : RelG H σ s) (e : σ a = some o) (h : o.litems = some xs) : LstAt s a xs := by
  have R := r.objs a o e
  cases o with
  | lst ys => obtain ⟨items, hp, hx, hz⟩ := R; cases h; exact ⟨items, hp.isList, by rw [← hx] at hz; simpa using hz, hx⟩
  | ro ys => obtain ⟨items, hp, hx, hz⟩ := R; cases h; exact ⟨items, hp, by rw [← hx] at hz; simpa using hz, hx⟩
  | _ => cases h
theorem seqAt {a : Addr} {o : O} {xs : List V} {H : Heap} (r : RelG H σ s) (e : σ a = some o) (h : o.items = some xs) : SeqOf s a xs := by
  have R := r.objs a o e
  cases o with
  | lst ys => obtain ⟨items, hp, hx, hz⟩ := R; cases h; exact ⟨items, .inl hp.isList, by rw [← hx] at hz; simpa using hz, hx⟩
  | ro ys => obtain ⟨items, hp, hx, hz⟩ := R; cases h; exact ⟨items, .inl hp, by rw [← hx] at hz; simpa using hz, hx⟩
  | tup ys => obtain ⟨items, hp, hx, hz⟩ := R; cases h; exact ⟨items, .inr hp, by rw [← hx] at hz; simpa using hz, hx⟩
  | _ => cases h
theorem litems_on {G : Value → Prop} {va : Value} {K : List V → Prop} (h : litemsW (ab va) σ K) (g : ∀ a o xs, σ a = some o → o.litems = some xs → K xs → G (.ref a)) : G va :=
  ref_on h fun a o e h => let ⟨xs, e2, h⟩ := opt_elim h; g a o xs e e2 h
theorem lints_on {G : Value → Prop} {va : Value} {K : List Int → Prop} (h : lintsW (ab va) σ K) (g : ∀ a o ns, σ a = some o → o.litems = some (ivs ns) → K ns → G (.ref a)) : G va :=
  litems_on h fun a o xs e e2 h => let ⟨ns, e3, h⟩ := opt_elim h; g a o ns e (asInts_some e3 ▸ e2) h
theorem mlist_on {G : Value → Prop} {va : Value} {K : Addr → List V → Prop} (h : mlistW (ab va) σ K) (g : ∀ a xs, σ a = some (.lst xs) → K a xs → G (.ref a)) : G va :=
  ref_on h fun a o e h => by
    cases o with
    | lst xs => exact g a xs e h
    | _ => exact h.elim
/-- a list that may be changed, in the heap -/
theorem plainAt {a : Addr} {xs : List V} {H : Heap} (r : RelG H σ s) (e : σ a = some (.lst xs)) : ∃ items : Array Value, s.heap.PlainList a items ∧ items.size ≤ lim ∧ items.toList.map ab = xs := by
  obtain ⟨items, hp, hx, hz⟩ := r.objs a _ e
  exact ⟨items, hp, by rw [← hx] at hz; simpa using hz, hx⟩
theorem one_on {G : List Value → Prop} {vs : List Value} {K : V → Prop} (h : one (vs.map ab) K) (g : ∀ v, K (ab v) → G [v]) : G vs := by
  rcases vs with _ | ⟨v, _ | ⟨w, r⟩⟩
  · exact h.elim
  · exact g v h
  · exact h.elim
theorem intsAre_of {vs : List Value} {ns : List Int} (h : vs.map ab = ivs ns) : IntsAre vs ns := by
  induction vs generalizing ns with
  | nil => cases ns with
    | nil => exact .nil
    | cons i r => cases h
  | cons v r ih =>
    cases ns with
    | nil => cases h
    | cons i q =>
      simp only [List.map_cons, ivs, List.cons.injEq] at h
      obtain ⟨t, rfl⟩ := ab_int h.1
      exact .cons i t (ih h.2)
theorem intsAre_ab {vs : List Value} {ns : List Int} (h : IntsAre vs ns) : vs.map ab = ivs ns := by
  induction h with
  | nil => rfl
  | cons i t _ ih => simp only [List.map_cons, ab, ih]; rfl
theorem objR_newList (h : Heap) (vs : List Value) (hz : vs.length ≤ lim) : ObjR (h.push { cls := .type "list", data := .seq vs.toArray }) h.objs.size (.lst (vs.map ab)) :=
  ⟨vs.toArray, ⟨0, Heap.get?_push_size _ rfl⟩, by simp, by simpa using hz⟩
section
variable {va vb : Value} {Q : V → St → Prop}
theorem two_on {G : Value → Value → Prop} {K : Int → Int → Prop} (h : asI (ab va) fun x => asI (ab vb) fun y => K x y) (g : ∀ x t y u, K x y → G (.int x t) (.int y u)) : G va vb :=
  asI_on (G := fun v => G v vb) h fun x t h => asI_on (G := fun v => G (.int x t) v) h fun y u h => g x t y u h
theorem bin_sub (h : binW .Sub (ab va) (ab vb) σ Q) : HV W n σ (binaryOp .Sub va vb) fun v => Q (ab v) :=
  two_on (G := fun a b => HV W n σ (binaryOp .Sub a b) fun v => Q (ab v)) h fun _ _ _ _ h _ _ _ _ r z => sub_int (z.tok r h)
theorem bin_div (h : binW .FloorDiv (ab va) (ab vb) σ Q) : HV W n σ (binaryOp .FloorDiv va vb) fun v => Q (ab v) :=
  two_on (G := fun a b => HV W n σ (binaryOp .FloorDiv a b) fun v => Q (ab v)) h fun _ _ _ _ h _ _ _ _ r z => floordiv_int h.1 (z.tok r h.2.2) (.inl (PyProof.noPylong_small h.2.1))
theorem bin_mod (h : binW .Mod (ab va) (ab vb) σ Q) : HV W n σ (binaryOp .Mod va vb) fun v => Q (ab v) :=
  two_on (G := fun a b => HV W n σ (binaryOp .Mod a b) fun v => Q (ab v)) h fun _ _ _ _ h _ _ _ _ r z => mod_int h.1 (z.tok r h.2)
/-- two lists, end to end -/
theorem cat_ok {x y : Addr} {xs ys : List V} (hz : xs.length + ys.length ≤ lim) (q : alW σ (.lst (xs ++ ys)) Q) (h1 : ∀ s, RelG W.H σ s → LstAt s x xs) (h2 : ∀ s, RelG W.H σ s → LstAt s y ys) : HV W n σ (binaryOp .Add (.ref x) (.ref y)) fun v => Q (ab v) := fun A s Z R r z => by
  obtain ⟨it1, hl1, _, e1⟩ := h1 s r
  obtain ⟨it2, hl2, _, e2⟩ := h2 s r
  clear h1 h2
  subst e1 e2
  rw [List.length_map, List.length_map, Array.length_toList, Array.length_toList] at hz
  rw [← List.map_append] at q
  have zz : ∀ sz : (it1.toList ++ it2.toList).length ≤ lim, Z (.ref s.heap.objs.size) { s with heap := s.heap.push { cls := .type "list", data := .seq (it1.toList ++ it2.toList).toArray } } := fun sz => z.alloc r (objR_newList _ _ sz) (q _)
  clear z q r
  obtain ⟨⟨cls, dd, data, sl⟩, ho, hc, n1, hd⟩ := hl1
  obtain ⟨⟨cls2, dd2, data2, sl2⟩, ho2, hc2, n2, hd2⟩ := hl2
  cases hc; cases hd; cases hc2; cases hd2
  refine concat_meets ⟨_, ho, rfl⟩ ⟨_, ho2, rfl⟩ noFill_list_add seq_list_add PySem.F.slot_list_add PySem.F.entry_list_add (PySem.F.args_list_add_2 _ _) (list_addW x y it1 it2 n1 n2 dd dd2 sl sl2 (Nat.le_trans hz lim_le)) ⟨ho, ho2, ?_⟩
  rw [show it1 ++ it2 = (it1.toList ++ it2.toList).toArray by rw [← Array.toList_append]]
  exact zz (by rw [List.length_append, Array.length_toList, Array.length_toList]; exact hz)
theorem bin_add (h : binW .Add (ab va) (ab vb) σ Q) : HV W n σ (binaryOp .Add va vb) fun v => Q (ab v) := by
  cases va with
  | int x t => exact asI_on (G := fun v => HV W n σ (binaryOp .Add (.int x t) v) fun v => Q (ab v)) h fun _ _ h _ _ _ _ r z => add_int (z.tok r h)
  | ref x =>
    refine asR_on (G := fun v => HV W n σ (binaryOp .Add (.ref x) v) fun v => Q (ab v)) h fun y h => ?_
    exact litems_on (va := .ref x) (G := fun v => HV W n σ (binaryOp .Add v (.ref y)) fun v => Q (ab v)) h fun a o xs e e2 h => litems_on (va := .ref y) (G := fun v => HV W n σ (binaryOp .Add (.ref a) v) fun v => Q (ab v)) h fun b o' ys e' e2' h =>
      cat_ok h.1 h.2 (fun s r => lstAt r e e2) fun s r => lstAt r e' e2'
  | _ => exact h.elim
theorem rep_fold (it : Array Value) (k : Nat) : List.foldl (fun x1 x2 => x1 ++ x2) #[] (List.replicate (if it.isEmpty = true then 0 else k) it) = ((List.replicate k it.toList).flatten).toArray := by
  have g : ∀ (j : Nat) (acc : Array Value), List.foldl (fun x1 x2 => x1 ++ x2) acc (List.replicate j it) = acc ++ ((List.replicate j it.toList).flatten).toArray := by
    intro j
    induction j with
    | zero => intro acc; exact (Array.append_empty (xs := acc)).symm
    | succ j ih => intro acc; rw [List.replicate_succ, List.foldl_cons, ih, List.replicate_succ, List.flatten_cons]; apply Array.ext'; rw [Array.toList_append, Array.toList_append, Array.toList_append, List.append_assoc]
  by_cases he : it.isEmpty = true
  · have : it = #[] := Array.isEmpty_iff.mp he
    subst this
    have g2 : ∀ j : Nat, (List.replicate j ([] : List Value)).flatten = [] := fun j => by
      induction j with
      | zero => rfl
      | succ j ih => rw [List.replicate_succ, List.flatten_cons, ih]; rfl
    rw [if_pos he, g2]; rfl
  · rw [if_neg he, g]; exact Array.empty_append
theorem rep_ok {x : Addr} {k : Int} {t : Tok} {xs : List V} (e : σ x = some (.lst xs)) (h0 : 0 ≤ k) (h1 : k ≤ lim) (h2 : xs.length * k.toNat ≤ lim) (q : alW σ (.lst (List.replicate k.toNat xs).flatten) Q) : HV W n σ (binaryOp .Mult (.ref x) (.int k t)) fun v => Q (ab v) := fun A s Z R r z => by
  obtain ⟨it1, ⟨m, ho⟩, hz1, ex⟩ := plainAt r e
  subst ex
  have hkl : k ≤ 1000000 := h1
  have hz' : it1.size * k.toNat ≤ 1000000 := by rw [List.length_map, Array.length_toList] at h2; exact h2
  have e3 : ((List.replicate k.toNat it1.toList).flatten).map ab = (List.replicate k.toNat (it1.toList.map ab)).flatten := by
    rw [List.map_flatten, List.map_replicate]
  rw [← e3] at q
  have sz : ((List.replicate k.toNat it1.toList).flatten).length ≤ lim := by
    rw [List.length_flatten, List.map_replicate, List.sum_replicate_nat, Nat.mul_comm]; exact hz'
  have zz := z.alloc (v := .ref s.heap.objs.size) (t := s.toks) r (objR_newList _ _ sz) (q _)
  clear z q e3 sz r
  refine wpAny_binaryOp_repeat_ref (T := "list") (U := "int") (by decide) ⟨_, ho, rfl⟩ (fun s' => typeIs_int s' k t) noFill_list_mul F.fills_int_mul F.slot_int_rmul repeat_list F.slot_int_index.lookup
    (call_meets F.slot_int_rmul (typeIs_int s k t) F.entry_int_rmul (F.args_int_rmul_2 _ _) (int___rmul___int_list k t x it1 m)
      ⟨ho, rfl, ⟨_, ho, rfl⟩, call_meets F.slot_list_mul ⟨_, ho, rfl⟩ F.entry_list_mul (F.args_list_mul_2 _ _)
        (AutoListH.list___mul___list_int_3 x it1 m k t (by simp [Builtin.List.listFitsIndex]; omega) (by omega) (by simp [Builtin.List.listTooLong, sizeLine]; omega))
        ⟨ho, ?_⟩⟩)
  rw [rep_fold]; exact zz
theorem bin_mul (h : binW .Mult (ab va) (ab vb) σ Q) : HV W n σ (binaryOp .Mult va vb) fun v => Q (ab v) := by
  cases va with
  | int x t => exact asI_on (G := fun v => HV W n σ (binaryOp .Mult (.int x t) v) fun v => Q (ab v)) h fun _ _ h _ _ _ _ r z => mul_int (z.tok r h.2) h.1
  | ref x => exact asI_on (G := fun v => HV W n σ (binaryOp .Mult (.ref x) v) fun v => Q (ab v)) h fun k t h => mlist_on (va := .ref x) (G := fun v => HV W n σ (binaryOp .Mult v (.int k t)) fun v => Q (ab v)) h fun a xs e h => rep_ok e h.1 h.2.1 h.2.2.1 h.2.2.2
  | _ => exact h.elim
theorem bin_ok {op : Operator} (h : binW op (ab va) (ab vb) σ Q) : HV W n σ (binaryOp op va vb) fun v => Q (ab v) := by
  cases op with
  | Add => exact bin_add h
  | Sub => exact bin_sub h
  | Mult => exact bin_mul h
  | FloorDiv => exact bin_div h
  | Mod => exact bin_mod h
  | _ => exact h.elim
end

theorem litems_bind {a : Addr} {xs : List V} {H : Heap} (r : RelG H σ s) (h : (σ a).bind O.litems = some xs) : ∃ items, s.heap.IsList a items ∧ items.toList.map ab = xs := by
  cases e : σ a with
  | none => rw [e] at h; cases h
  | some o =>
    rw [e] at h
    have R := r.objs a o e
    cases o with
    | lst ys => obtain ⟨items, hp, hq, _⟩ := R; cases h; exact ⟨items, hp.isList, hq⟩
    | ro ys => obtain ⟨items, hp, hq, _⟩ := R; cases h; exact ⟨items, hp, hq⟩
    | tup _ => cases h
    | rng _ _ _ => cases h
    | cell _ => cases h
    | fn _ => cases h
    | tab _ => cases h
    | code _ => cases h
theorem eqL_at (P : Value → Value → Bool → Prop) {f : V → V → Option Bool} (hP : ∀ x y c, f (ab x) (ab y) = some c → P x y c) : ∀ (xs ys : List Value) (c : Bool), xs.length = ys.length → eqL f (xs.map ab) (ys.map ab) = some c →
    ∃ e : Nat → Bool, (∀ j (h1 : j < xs.length) (h2 : j < ys.length), P xs[j] ys[j] (e j)) ∧ (List.range xs.length).all e = c := by
  intro xs
  induction xs with
  | nil => intro ys c _ h; cases h; exact ⟨fun _ => true, fun j h1 => absurd h1 (Nat.not_lt_zero _), rfl⟩
  | cons x xs ih =>
    intro ys c hl h
    cases ys with
    | nil => cases hl
    | cons y ys =>
      obtain ⟨b, e1, h⟩ := Option.bind_eq_some_iff.mp (show (f (ab x) (ab y)).bind _ = some c from h)
      obtain ⟨c', e2, rfl⟩ := Option.map_eq_some_iff.mp h
      obtain ⟨e, he, hc⟩ := ih ys c' (by simpa using hl) e2
      refine ⟨fun j => Nat.casesOn j b e, fun j h1 h2 => ?_, ?_⟩
      · cases j with
        | zero => exact hP _ _ _ e1
        | succ j => exact he j (by simpa using h1) (by simpa using h2)
      · rw [List.length_cons, List.range_succ_eq_map, List.all_cons, List.all_map, ← hc]
        rfl
/-- == and != in all three forms -/
noncomputable def EqP (A : Around) (s : Shared) (x y : Value) (b : Bool) : Prop := SeqAt.EqAt A s x y b ∧ SeqAt.RcAt A s x y b ∧ SeqAt.RcNeAt A s x y (!b)
theorem eq0_p {x y : Value} {b : Bool} (h : eq0 (ab x) (ab y) = some b) : EqP A s x y b := by
  cases x with
  | int i t => cases y with
    | int j u => cases h; exact ⟨.int_int _ _ _ _, .int_int _ _ _ _, .int_int _ _ _ _⟩
    | _ => cases h
  | str i t => cases y with
    | str j u => cases h; exact ⟨.str_str _ _ _ _, .str_str _ _ _ _, .str_str _ _ _ _⟩
    | _ => cases h
  | bool i => cases y with
    | bool j => cases h; exact ⟨.bool_bool _ _, .bool_bool _ _, .bool_bool _ _⟩
    | _ => cases h
  | _ => cases h
/-- what == of two lists rests on -/
theorem eqR {H : Heap} (r : RelG H σ s) {d : Nat} {a b : Addr} {c : Bool} (h : eqB σ (d + 1) (.ref a) (.ref b) = some c) : a ≠ b ∧ ∃ i1 i2 : Array Value, s.heap.IsList a i1 ∧ s.heap.IsList b i2 ∧
    ((i1.size = i2.size ∧ eqL (eqB σ d) (i1.toList.map ab) (i2.toList.map ab) = some c) ∨ (i1.size ≠ i2.size ∧ c = false)) := by
  have h' : (if a = b then none else ((σ a).bind O.litems).bind fun xs => ((σ b).bind O.litems).bind fun ys => if xs.length = ys.length then eqL (eqB σ d) xs ys else some false) = some c := h
  by_cases hne : a = b
  · rw [if_pos hne] at h'; cases h'
  rw [if_neg hne] at h'
  obtain ⟨xs, e1, h'⟩ := Option.bind_eq_some_iff.mp h'
  obtain ⟨ys, e2, h'⟩ := Option.bind_eq_some_iff.mp h'
  obtain ⟨i1, hl1, rfl⟩ := litems_bind r e1
  obtain ⟨i2, hl2, rfl⟩ := litems_bind r e2
  refine ⟨hne, i1, i2, hl1, hl2, ?_⟩
  simp only [List.length_map, Array.length_toList] at h'
  by_cases hsz : i1.size = i2.size
  · rw [if_pos hsz] at h'; exact .inl ⟨hsz, h'⟩
  · rw [if_neg hsz] at h'; cases h'; exact .inr ⟨hsz, rfl⟩
theorem eqB_p {H : Heap} (r : RelG H σ s) : ∀ (d : Nat) (A : Around), A.units + d < cLine → ∀ (x y : Value) (b : Bool), eqB σ d (ab x) (ab y) = some b → EqP A s x y b := by
  intro d
  induction d with
  | zero => intro A hu x y b h; exact eq0_p h
  | succ d ih =>
    intro A hu x y b h
    cases x with
    | ref a =>
      cases y with
      | ref a' =>
        obtain ⟨hne, i1, i2, hl1, hl2, hc⟩ := eqR r h
        have hu' : A.units < cLine := Nat.lt_of_le_of_lt (Nat.le_add_right _ _) hu
        have rc : SeqAt.RcAt A s (.ref a) (.ref a') b ∧ SeqAt.RcNeAt A s (.ref a) (.ref a') (!b) := by
          rcases hc with ⟨hsz, h⟩ | ⟨hsz, rfl⟩
          · obtain ⟨e, he, hc⟩ := eqL_at (fun x y b => SeqAt.EqAt A.in1 s x y b) (fun x y b hq => (ih A.in1 (by rw [show A.in1.units + d = A.units + (d + 1) from by show A.units + 1 + d = _; omega]; exact hu) x y b hq).1) i1.toList i2.toList b hsz h
            rw [show i1.toList.length = i1.size from rfl] at hc
            rw [← hc]
            exact ⟨.lists hl1 hl2 hsz hu' fun j h1 h2 => he j h1 h2, .lists hl1 hl2 hsz hu' fun j h1 h2 => he j h1 h2⟩
          · exact ⟨.lists_lengths hl1 hl2 (bne_iff_ne.mpr hsz) hu', .lists_lengths hl1 hl2 (bne_iff_ne.mpr hsz) hu'⟩
        exact ⟨.of_refs hne rc.1, rc⟩
      | _ => cases h
    | _ => exact eq0_p h
section
variable {va vb : Value} {B : Bool → St → Prop} {Q : Value → St → Prop}
theorem eq_ok {b : Bool} (R : Room n A) (r : RelG W.H σ s) (e : eqB σ 3 (ab va) (ab vb) = some b) : EqP A s va vb b := eqB_p r 3 A (by have := R.units; show A.units + 3 < 9900; omega) _ _ _ e
theorem isN_ok (h : cmpW .Is (ab va) (ab vb) σ B) (m : ∀ b σ', B b σ' → Q (.bool b) σ') : HV W n σ (compareOp .Is va vb) Q := fun A s Z R r z => by
  cases vb with
  | none => cases va with
    | none => exact is_none_none (z.here r (m _ _ h))
    | int i t => exact is_int_none (z.here r (m _ _ h))
    | ref a => exact is_ref_none (z.here r (m _ _ h))
    | _ => exact h.elim
  | _ => exact h.elim
theorem isT_ok (h : cmpW .IsNot (ab va) (ab vb) σ B) (m : ∀ b σ', B b σ' → Q (.bool b) σ') : HV W n σ (compareOp .IsNot va vb) Q :=
  asT_on (G := fun v => HV W n σ (compareOp .IsNot v vb) Q) h fun x h => asT_on (G := fun v => HV W n σ (compareOp .IsNot (.type x) v) Q) h fun y h A s Z R r z => isnot_type (z.here r (m _ _ (by
    have : (!(Value.type x == Value.type y)) = (x != y) := by
      by_cases hxy : x = y
      · subst hxy; rw [bne_self_eq_false, beq_self_eq_true]; rfl
      · have h1 : (Value.type x == Value.type y) = false := beq_eq_false_iff_ne.mpr fun e => hxy (Value.type.inj e)
        rw [h1, bne_iff_ne.mpr hxy]; rfl
    rw [this]; exact h)))
theorem cmp_ok {op : CmpOp} (h : cmpW op (ab va) (ab vb) σ B) (m : ∀ b σ', B b σ' → Q (.bool b) σ') : HV W n σ (compareOp op va vb) Q := by
  cases op with
  | Lt => exact two_on (G := fun a b => HV W n σ (compareOp .Lt a b) Q) h fun _ _ _ _ h _ _ _ _ r z => P.lt_int (z.here r (m _ _ h))
  | LtE => exact two_on (G := fun a b => HV W n σ (compareOp .LtE a b) Q) h fun _ _ _ _ h _ _ _ _ r z => P.le_int (z.here r (m _ _ h))
  | Gt => exact two_on (G := fun a b => HV W n σ (compareOp .Gt a b) Q) h fun _ _ _ _ h _ _ _ _ r z => P.gt_int (z.here r (m _ _ h))
  | GtE => exact two_on (G := fun a b => HV W n σ (compareOp .GtE a b) Q) h fun _ _ _ _ h _ _ _ _ r z => P.ge_int (z.here r (m _ _ h))
  | Eq => obtain ⟨b, e, h⟩ := opt_elim h; exact fun A s Z R r z => (eq_ok R r e).2.1 W.prog W.w NoE Z (z.here r (m _ _ h))
  | NotEq => obtain ⟨b, e, h⟩ := opt_elim h; exact fun A s Z R r z => (eq_ok R r e).2.2 W.prog W.w NoE Z (z.here r (m _ _ h))
  | Is => exact isN_ok h m
  | IsNot => exact isT_ok h m
  | _ => exact h.elim
theorem tru_ok (h : truW (ab va) σ B) : HV W n σ (truthy va) B := fun A s Z R r z => by
  cases va with
  | bool b => exact wpAny_truthy_bool (z.here r h)
  | none => exact truthy_none (z.here r h)
  | int i t => exact P.truthy_int (z.here r h)
  | _ => exact h.elim
end
end Mine

end
section -- B6
namespace Mine
variable {W : Wd} {n k : Nat} {c : Cx} {fr : List V} {σ : St} {A : Around} {s : Shared}

theorem snd_const {v : Const} {i : Nat} {pos : Pos} : SE (k + 1) (.Constant v i pos) := fun c fr σ Q h A s Z R r z => by
  cases v with
  | none => exact wpAny_Constant_none (z.here r.toRelG h)
  | bool b => exact wpAny_Constant_bool (z.here r.toRelG h)
  | int i => exact wpAny_Constant_int (z.tok r.toRelG h)
  | str x => exact wpAny_Constant_str (z.tok r.toRelG h)
  | _ => exact h.elim
theorem snd_name {x : Str} {pos : Pos} : SE (k + 1) (.Name x pos) := fun c fr σ Q h => name_ok h
/-- what has no truth of its own -/
theorem tnd_plain {e : PySem.Expr} (he : SE k e) (ht : ∀ gl ns, noTr (er gl k ns e) = true) (hp : ∀ env whole, isTrue e env whole = (do let v ← whole; standAt e.pos; holding [v] (truthy v))) : ST k e := fun c fr σ Q h => by
  rw [hp]
  exact GV.bind (he c fr σ _ (tW_val (ht _ _) h)) fun v σ1 h1 => GV.stand (GV.hold (tru_ok h1).gv)
section
variable {l r x y t a b : PySem.Expr} {pos : Pos}
theorem snd_bin {op : Operator} (hl : SE k l) (hr : SE k r) : SE (k + 1) (.BinOp l op r pos) := fun c fr σ Q h =>
  GV.l3 (fun _ _ _ => wpAny_BinOp) (hl c fr σ _ h) (fun a σ1 h1 => hr c fr σ1 _ h1) fun a b σ2 h2 => (bin_ok h2).gv
theorem neg_ok {v : Value} {Q : V → St → Prop} (h : match ab v with
    | .int i => Q (.int (-i)) σ
    | _ => False) : HV W n σ (unaryOp .USub v) fun u => Q (ab u) := fun A s Z R r z => by
  cases v with
  | int i t => exact P.neg_int (z.tok r h)
  | _ => exact h.elim
theorem snd_neg (hx : SE k x) : SE (k + 1) (.UnaryOp .USub x pos) := fun c fr σ Q h =>
  GV.l2 (fun _ _ _ => wpAny_UnaryOp) (hx c fr σ _ h) fun a σ1 h1 => (neg_ok h1).gv
theorem snd_not (hx : SE k x) : SE (k + 1) (.UnaryOp .Not x pos) := fun c fr σ Q h =>
  GV.l2 (fun _ _ _ => wpAny_UnaryOp) (hx c fr σ _ h) fun a σ1 h1 A s Z R r z => not_of (tru_ok h1 A s _ R r.toRelG fun b σ2 s2 q g t => z _ σ2 s2 q g t)
theorem tnd_not (hx : ST k x) : ST (k + 1) (.UnaryOp .Not x pos) := fun c fr σ Q h A s Z R r z =>
  isTrue_not (hx c fr σ _ h A s _ R r fun b σ2 s2 q g t => z _ σ2 s2 q g t)
theorem gv_if {α : Type} {b : Bool} {t : Bool → Sem α} {P P' : Prop} {Q : α → St → Prop} (h : if b = true then P else P') (h1 : P → GV c fr σ (t true) Q) (h2 : P' → GV c fr σ (t false) Q) : GV c fr σ (t b) Q := by
  cases b with
  | true => exact h1 h
  | false => exact h2 h
end

theorem boolOp_one {M : Model} {E : Value → Shared → Prop} {Q : Value → Shared → Prop} {pos : Pos} {op : BoolOp} {x : Sem Value} (h : wpAny M A x Q E s) : wpAny M A (boolOp pos op [x]) Q E s := h
theorem boolOp_more {M : Model} {E : Value → Shared → Prop} {Q : Value → Shared → Prop} {pos : Pos} {op : BoolOp} {x y : Sem Value} {rest : List (Sem Value)}
    (h : wpAny M A x (fun v s1 => wpAny M A (truthy v) (fun t s2 => match op, t with | .And, false | .Or, true => Q v s2 | _, _ => wpAny M A (boolOp pos op (y :: rest)) Q E s2) E s1) E s) :
    wpAny M A (boolOp pos op (x :: y :: rest)) Q E s := by
  rw [boolOp]
  · refine wpAny_bind (wpAny_mono h (fun v s1 h1 => wpAny_bind (wpAny_standAt (wpAny_bind (wpAny_holding (wpAny_mono h1 (fun t s2 h2 => ?_) fun _ _ x => x))))) fun _ _ x => x)
    cases op <;> cases t <;> first | exact wpAny_pure h2 | exact h2
  · nofun


theorem snd_and {pos : Pos} : ∀ (vs : List PySem.Expr), (∀ v ∈ vs, SE k v) → ∀ (c : Cx) fr σ Q, vs ≠ [] → c.x (andX (vs.map (er c.gl k c.ns))) fr σ Q → GV c fr σ (boolOp pos .And (evalEach vs c.env)) fun v => Q (ab v)
  | [], _ => fun c fr σ Q hne => absurd rfl hne
  | [e], hs => fun c fr σ Q _ h => GV.to (hs e (.head _) c fr σ Q h) fun _ _ _ => boolOp_one
  | e :: e' :: rest, hs => fun c fr σ Q _ h A s Z R r z => boolOp_more (hs e (.head _) c fr σ _ h A s _ R r fun v σ1 s1 q1 g1 t1 => tru_ok q1 A s1 _ R g1 fun b σ2 s2 q2 g2 t2 => by
    cases b with
    | false => exact z v σ2 s2 q2 g2 (t1.trans t2)
    | true => exact snd_and (e' :: rest) (fun v hv => hs v (.tail _ hv)) c fr σ2 Q nofun q2 A s2 Z R (r.step g2 (t1.trans t2)) fun v σ3 s3 q3 g3 t3 => z v σ3 s3 q3 g3 ((t1.trans t2).trans t3))
theorem snd_or {pos : Pos} : ∀ (vs : List PySem.Expr), (∀ v ∈ vs, SE k v) → ∀ (c : Cx) fr σ Q, c.x (orX (vs.map (er c.gl k c.ns))) fr σ Q → GV c fr σ (boolOp pos .Or (evalEach vs c.env)) fun v => Q (ab v)
  | [], _ => fun c fr σ Q h => h.elim
  | [e], hs => fun c fr σ Q h => GV.to (hs e (.head _) c fr σ Q h) fun _ _ _ => boolOp_one
  | e :: e' :: rest, hs => fun c fr σ Q h A s Z R r z => boolOp_more (hs e (.head _) c fr σ _ h A s _ R r fun v σ1 s1 q1 g1 t1 => tru_ok q1 A s1 _ R g1 fun b σ2 s2 q2 g2 t2 => by
    cases b with
    | true => exact z v σ2 s2 q2 g2 (t1.trans t2)
    | false => exact snd_or (e' :: rest) (fun v hv => hs v (.tail _ hv)) c fr σ2 Q q2 A s2 Z R (r.step g2 (t1.trans t2)) fun v σ3 s3 q3 g3 t3 => z v σ3 s3 q3 g3 ((t1.trans t2).trans t3))
theorem tnd_and {pos : Pos} {wh : Sem Value} : ∀ (vs : List PySem.Expr), (∀ v ∈ vs, ST k v) → ∀ (c : Cx) fr σ Q, c.t (andX (vs.map (er c.gl k c.ns))) fr σ Q → GV c fr σ (isTrue (.BoolOp .And vs pos) c.env wh) Q
  | [], _ => fun c fr σ Q h A s Z R r z => isTrue_and_nil (z.here r.toRelG h)
  | [e], hs => fun c fr σ Q h A s Z R r z => isTrue_and (hs e (.head _) c fr σ Q h A s _ R r fun b σ1 s1 q1 g1 t1 => by
    cases b with
    | false => exact z _ σ1 s1 q1 g1 t1
    | true => exact isTrue_and_nil (z _ σ1 s1 q1 g1 t1))
  | e :: e' :: rest, hs => fun c fr σ Q h A s Z R r z => isTrue_and (hs e (.head _) c fr σ _ h A s _ R r fun b σ1 s1 q1 g1 t1 => by
    cases b with
    | false => exact z _ σ1 s1 q1 g1 t1
    | true => exact tnd_and (e' :: rest) (fun v hv => hs v (.tail _ hv)) c fr σ1 Q q1 A s1 Z R (r.step g1 t1) fun v σ3 s3 q3 g3 t3 => z v σ3 s3 q3 g3 (t1.trans t3))
theorem tnd_or {pos : Pos} {wh : Sem Value} : ∀ (vs : List PySem.Expr), (∀ v ∈ vs, ST k v) → ∀ (c : Cx) fr σ Q, c.t (orX (vs.map (er c.gl k c.ns))) fr σ Q → GV c fr σ (isTrue (.BoolOp .Or vs pos) c.env wh) Q
  | [], _ => fun c fr σ Q h => h.elim
  | [e], hs => fun c fr σ Q h A s Z R r z => isTrue_or (hs e (.head _) c fr σ Q h A s _ R r fun b σ1 s1 q1 g1 t1 => by
    cases b with
    | true => exact z _ σ1 s1 q1 g1 t1
    | false => exact isTrue_or_nil (z _ σ1 s1 q1 g1 t1))
  | e :: e' :: rest, hs => fun c fr σ Q h A s Z R r z => isTrue_or (hs e (.head _) c fr σ _ h A s _ R r fun b σ1 s1 q1 g1 t1 => by
    cases b with
    | true => exact z _ σ1 s1 q1 g1 t1
    | false => exact tnd_or (e' :: rest) (fun v hv => hs v (.tail _ hv)) c fr σ1 Q q1 A s1 Z R (r.step g1 t1) fun v σ3 s3 q3 g3 t3 => z v σ3 s3 q3 g3 (t1.trans t3))
theorem isEmpty_map {α β : Type} {f : α → β} {l : List α} (h : (!(l.map f).isEmpty) = true) : l ≠ [] := by
  rintro rfl; cases h
theorem snd_bop {op : BoolOp} {vs : List PySem.Expr} {pos : Pos} (hE : ∀ v ∈ vs, SE k v) (hT : ∀ v ∈ vs, ST k v) : SE (k + 1) (.BoolOp op vs pos) ∧ ST (k + 1) (.BoolOp op vs pos) := by
  cases op with
  | And => exact ⟨fun c fr σ Q h => snd_and vs hE c fr σ Q (isEmpty_map (grd_x h).1) (grd_x h).2, fun c fr σ Q h => tnd_and vs hT c fr σ Q (grd_t h).2⟩
  | Or => exact ⟨fun c fr σ Q h => snd_or vs hE c fr σ Q h, fun c fr σ Q h => tnd_or vs hT c fr σ Q h⟩

theorem marks_ok {op : CmpOp} {e : PySem.Expr} (h : noSet e = true) : behindInMarks op e = false := by
  cases e <;> first | rfl | cases h
section
variable {l r rs : PySem.Expr} {op op' : CmpOp} {pos : Pos}
theorem cmp1_x (hl : SE k l) (hr : SE k r) (hm : noSet r = true) {Q : V → St → Prop} (h : c.x (.cmp op (er c.gl k c.ns l) (er c.gl k c.ns r)) fr σ Q) : GV c fr σ (eval (.Compare l [op] [r] pos) c.env) fun v => Q (ab v) :=
  GV.l3 (fun _ _ _ h => wpAny_Compare1 h (marks_ok hm)) (hl c fr σ _ h) (fun a σ1 h1 => hr c fr σ1 _ h1) fun a b σ2 h2 => (cmp_ok h2 fun _ _ q => q).gv
theorem cmp1_t (hl : SE k l) (hr : SE k r) (hm : noSet r = true) {wh : Sem Value} {Q : Bool → St → Prop} (h : c.t (.cmp op (er c.gl k c.ns l) (er c.gl k c.ns r)) fr σ Q) : GV c fr σ (isTrue (.Compare l [op] [r] pos) c.env wh) Q := fun A s Z R ρ z =>
  wpAny_isTrue_Compare1 (hl c fr σ _ h A s _ R ρ fun a σ1 s1 q1 g1 t1 => hr c fr σ1 _ q1 A s1 _ R (ρ.step g1 t1) fun b σ2 s2 q2 g2 t2 => cmp_ok (Q := fun v σ' => truW (ab v) σ' Q) q2 (fun _ _ q => q) A s2 _ R g2 fun v σ3 s3 q3 g3 t3 => tru_ok q3 A s3 _ R g3 fun b σ4 s4 q4 g4 t4 =>
    z b σ4 s4 q4 g4 (((t1.trans t2).trans t3).trans t4)) (marks_ok hm)
end
theorem snd_cmps {l : PySem.Expr} {ops : List CmpOp} {rs : List PySem.Expr} {p : Pos} (hl : SE k l) (hR : ∀ r ∈ rs, SE k r) : SE (k + 1) (.Compare l ops rs p) ∧ ST (k + 1) (.Compare l ops rs p) := by
  rcases ops with _ | ⟨op, ops⟩
  · exact ⟨fun c fr σ Q h => (grd_x h).2.elim, fun c fr σ Q h => (grd_t h).2.elim⟩
  rcases rs with _ | ⟨r, rs⟩
  · exact ⟨fun c fr σ Q h => h.elim, fun c fr σ Q h => h.elim⟩
  have hr := hR r (.head _)
  rcases ops with _ | ⟨op', ops⟩
  · rcases rs with _ | ⟨r', rs⟩
    · exact ⟨fun c fr σ Q h => cmp1_x hl hr (Bool.and_eq_true_iff.mp (grd_x h).1).1 (grd_x h).2, fun c fr σ Q h => cmp1_t hl hr (Bool.and_eq_true_iff.mp (grd_t h).1).1 (grd_t h).2⟩
    · exact ⟨fun c fr σ Q h => (grd_x h).2.elim, fun c fr σ Q h => (grd_t h).2.elim⟩
  · exact ⟨fun c fr σ Q h => (grd_x h).2.elim, fun c fr σ Q h => (grd_t h).2.elim⟩
end Mine

end
section -- B7
namespace Mine
variable {W : Wd} {n k : Nat} {c : Cx} {fr : List V} {σ : St} {A : Around} {s : Shared}

theorem GV.m2 {α β γ : Type} {t1 : Sem α} {t2 : α → Sem β} {t : Sem γ} {f : α → β → γ} {Q1 : α → St → Prop} {Q : γ → St → Prop} (L : ∀ A s Z, wpAny c.W.M A t1 (fun a s1 => wpAny c.W.M A (t2 a) (fun b s2 => Z (f a b) s2) NoE s1) NoE s → wpAny c.W.M A t Z NoE s)
    (h1 : GV c fr σ t1 Q1) (h2 : ∀ a σ1, Q1 a σ1 → GV c fr σ1 (t2 a) fun b => Q (f a b)) : GV c fr σ t Q :=
  fun A s Z R r z => L A s Z (h1 A s _ R r fun a σ1 s1 q g t => h2 a σ1 q A s1 _ R (r.step g t) fun b σ2 s2 q' g' t' => z _ σ2 s2 q' g' (t.trans t'))
theorem star_cons {pos : Pos} {env : Env} {e : PySem.Expr} {r : List PySem.Expr} (h : plainE e = true) : backTo pos (starEach (e :: r) env) = (false, eval e env) :: backTo pos (starEach r env) := by
  cases e <;> first | rfl | cases h
theorem snd_args {pos : Pos} : ∀ (es : List PySem.Expr), (∀ e ∈ es, SE k e) → ∀ (c : Cx) fr σ Q, es.all plainE = true → c.l (xl (es.map (er c.gl k c.ns))) fr σ Q → GV c fr σ (spliced (backTo pos (starEach es c.env))) fun vs => Q (vs.map ab)
  | [], _ => fun c fr σ Q _ h A s Z R r z => Calls.spliced_nil (z.here r.toRelG h)
  | e :: rest, hs => fun c fr σ Q hp h => by
    obtain ⟨h1, h2⟩ := Bool.and_eq_true_iff.mp hp
    rw [star_cons h1]
    exact GV.m2 (fun _ _ _ => Calls.spliced_cons) (hs e (.head _) c fr σ _ h) fun v σ1 q => snd_args rest (fun v hv => hs v (.tail _ hv)) c fr σ1 _ h2 q
theorem snd_list {es : List PySem.Expr} {pos : Pos} (hs : ∀ e ∈ es, SE k e) : SE (k + 1) (.List es pos) := fun c fr σ Q h A s Z R r z => by
  obtain ⟨hp, h⟩ := grd_x h
  refine wpAny_List_spliced (snd_args es hs c fr σ _ hp h A s _ R r fun vs σ1 s1 q g t => ?_)
  have hz : vs.length ≤ lim := by rw [← List.length_map (f := ab)]; exact q.1
  exact ⟨Nat.le_trans hz lim_le, Ends.alloc (fun a σ2 s2 q2 g2 t2 => z a σ2 s2 q2 g2 (t.trans t2)) g (objR_newList _ _ hz) (q.2 _)⟩
theorem noTr_list {es : List PySem.Expr} {pos : Pos} (gl : Str → Option V) (ns : List (Str × NameKind)) : noTr (er gl (k + 1) ns (.List es pos)) = true := noTr_grd rfl
theorem idx_ok {k : Int} {m : Nat} (h : idxOk k m) : seqIndex? k m = some (idx k m) ∧ idx k m < m := by
  unfold idxOk at h
  unfold seqIndex? idx
  constructor
  · by_cases hk : k < 0
    · simp only [hk, if_true]; rw [if_pos (by simp only [Bool.and_eq_true, decide_eq_true_eq]; omega)]
    · simp only [hk, if_false]; rw [if_pos (by simp only [Bool.and_eq_true, decide_eq_true_eq]; omega)]
  · split <;> omega
theorem nth_map {items : List Value} {k : Nat} {x : Value} (h : items[k]? = some x) : nth (items.map ab) k = ab x := by
  rw [nth_eq, List.getD_eq_getElem?_getD, List.getElem?_map, h]; rfl

theorem item_ok {a : Addr} {i : Int} {t : Tok} {items : Array Value} {M : Program} {w : World} {E : Value → Shared → Prop} {Q : Value → Shared → Prop} (hl : s.heap.IsList a items ∨ IsTup s.heap a items) (hz : items.size ≤ lim) (hk : idxOk i items.size) (q : ∀ v, items[idx i items.size]? = some v → Q v s) : wpAny (model M w) A (getItem (.ref a) (.int i t)) Q E s := by
  obtain ⟨h1, h2⟩ := idx_ok hk
  have hx : items[idx i items.size]? = some items[idx i items.size] := Array.getElem?_eq_getElem h2
  replace q := q _ hx
  have hk' := hk
  unfold idxOk at hk'
  have hlm : items.size ≤ 1000000 := hz
  rcases hl with hl | hl
  · by_cases hneg : i < 0
    · have e : idx i items.size = (i + items.size).toNat := by unfold idx; rw [if_pos hneg]
      exact wpAny_getItem_list_neg hl hneg hk'.1 (by omega) (by rw [← e]; exact hx) q
    · have e : idx i items.size = i.toNat := by unfold idx; rw [if_neg hneg]
      exact wpAny_getItem_list hl (by omega) (by omega) (by rw [← e]; exact hx) q
  · exact getItem_tuple hl (by omega) (by omega) h1 hx q
theorem getitem_py {M : Model} {E : Value → Shared → Prop} {a : Addr} {items : Array Value} {Q : Bool → Shared → Prop} (hl : s.heap.IsList a items ∨ IsTup s.heap a items) (h : Q false s) : wpAny M A (getitemInPython (.ref a)) Q E s := by
  rw [getitemInPython_of_ne (by intro h; cases h)]
  rcases hl with hl | hl
  · exact wpAny_bind (wpAny_specialOf hl.typeIs slot_list_getitem.lookup (wpAny_pure h))
  · exact wpAny_bind (wpAny_specialOf hl.typeIs slot_tuple_getitem.lookup (wpAny_pure h))
theorem subscripted_ok {M : Model} {E : Value → Shared → Prop} {e : PySem.Expr} {o i : Value} {Q : Value → Shared → Prop} (h : wpAny M A (getItem o i) Q E s) : wpAny M A (subscripted e false o i) Q E s := by
  unfold subscripted
  cases e with
  | Slice lo hi st p => cases st <;> exact wpAny_operating h
  | _ => exact wpAny_operating h
/-- what stands behind the values of a subscript -/
noncomputable def subTail (o i : PySem.Expr) (pos : Pos) (ov iv : Value) : Sem Value := do
  standAt pos
  let r ← subscripted i (← getitemInPython ov) ov iv
  letTemporaryGo o ov r
  pure r
section
variable {prog : Program} {w : World} {E : Value → Shared → Prop}
end
theorem item_seq {o i : PySem.Expr} {pos : Pos} {a : Addr} {j : Int} {t : Tok} {xs : List V} {Q : V → St → Prop} (hs : ∀ s, RelG W.H σ s → SeqOf s a xs) (h : idxOk j xs.length ∧ Q (nth xs (idx j xs.length)) σ) : HV W n σ (subTail o i pos (.ref a) (.int j t)) fun v => Q (ab v) := fun A s Z R r z => by
  obtain ⟨items, hl, hz, hx⟩ := hs s r
  subst hx
  rw [List.length_map, Array.length_toList] at h
  refine wpAny_bind (wpAny_standAt (wpAny_bind (getitem_py hl (wpAny_bind (subscripted_ok (item_ok hl hz h.1 fun v hv => wpAny_bind (wpAny_letTemporaryGo (wpAny_pure (z.here r ?_)))))))))
  rw [nth_map (x := v) (by rw [← Array.getElem?_toList] at hv; exact hv)] at h
  exact h.2
theorem sub_int_ok {o i : PySem.Expr} {pos : Pos} {ov iv : Value} {Q : V → St → Prop} (h : subW (ab ov) (ab iv) σ Q) : HV W n σ (subTail o i pos ov iv) fun v => Q (ab v) := by
  cases iv with
  | int j t =>
    refine ref_on (G := fun v => HV W n σ (subTail o i pos v (.int j t)) fun v => Q (ab v)) h fun a ob e h => ?_
    cases ob with
    | lst xs => exact item_seq (fun s r => seqAt r e rfl) h
    | ro xs => exact item_seq (fun s r => seqAt r e rfl) h
    | tup xs => exact item_seq (fun s r => seqAt r e rfl) h
    | _ => exact h.elim
  | _ => exact h.elim
theorem snd_subi {o i : PySem.Expr} {pos : Pos} (ho : SE k o) (hi : SE k i) {Q : V → St → Prop} (h : c.x (.sub (er c.gl k c.ns o) (er c.gl k c.ns i)) fr σ Q) : GV c fr σ (eval (.Subscript o i pos) c.env) fun v => Q (ab v) := by
  rw [eval_Subscript]
  exact GV.bind (ho c fr σ _ h) fun ov σ1 h1 => GV.bind (GV.hold (hi c fr σ1 _ h1)) fun iv σ2 h2 => (sub_int_ok (o := o) (i := i) (pos := pos) h2).gv
end Mine

end
section -- B8
namespace Mine
variable {W : Wd} {n k : Nat} {c : Cx} {fr : List V} {σ : St} {A : Around} {s : Shared}

theorem ins_perm (x : Int) : ∀ l, (ins x l).Perm (x :: l)
  | [] => .refl _
  | y :: r => by
    unfold ins; split
    · exact .refl _
    · exact ((ins_perm x r).cons y).trans (.swap x y r)
theorem isort_perm : ∀ l, (isort l).Perm l
  | [] => .refl _
  | x :: r => (ins_perm x _).trans ((isort_perm r).cons x)
theorem ins_sorted (x : Int) : ∀ {l : List Int}, l.Pairwise (· ≤ ·) → (ins x l).Pairwise (· ≤ ·)
  | [], _ => by simp [ins]
  | y :: r, h => by
    have h' := List.pairwise_cons.mp h
    unfold ins; split
    · rename_i hxy
      refine List.pairwise_cons.mpr ⟨fun z hz => ?_, h⟩
      rcases List.mem_cons.mp hz with rfl | hz
      · exact hxy
      · exact Int.le_trans hxy (h'.1 z hz)
    · rename_i hxy
      refine List.pairwise_cons.mpr ⟨fun z hz => ?_, ins_sorted x h'.2⟩
      rcases List.mem_cons.mp ((ins_perm x r).mem_iff.mp hz) with rfl | hz
      · omega
      · exact h'.1 z hz
theorem isort_sorted : ∀ l, (isort l).Pairwise (· ≤ ·)
  | [] => .nil
  | x :: r => ins_sorted x (isort_sorted r)
theorem sorted_unique : ∀ {a b : List Int}, a.Perm b → a.Pairwise (· ≤ ·) → b.Pairwise (· ≤ ·) → a = b
  | [], b, p, _, _ => (List.nil_perm.mp p).symm
  | x :: r, [], p, _, _ => absurd p.length_eq (by simp)
  | x :: r, y :: q, p, ha, hb => by
    have h1 := List.pairwise_cons.mp ha
    have h2 := List.pairwise_cons.mp hb
    have e : x = y := by
      have hx : x ∈ y :: q := p.mem_iff.mp (by simp)
      have hy : y ∈ x :: r := p.mem_iff.mpr (by simp)
      rcases List.mem_cons.mp hx with e | hx
      · exact e
      · rcases List.mem_cons.mp hy with e | hy
        · exact e.symm
        · have := h1.1 y hy; have := h2.1 x hx; omega
    subst e
    rw [sorted_unique (p.cons_inv) h1.2 h2.2]
theorem isort_length (l : List Int) : (isort l).length = l.length := (isort_perm l).length_eq
theorem isort_eq_of {a l : List Int} (p : a.Perm l) (h : a.Pairwise (· ≤ ·)) : a = isort l := sorted_unique (p.trans (isort_perm l).symm) h (isort_sorted l)


theorem minL_spec : ∀ (l : List Int), l ≠ [] → minL l ∈ l ∧ ∀ x ∈ l, minL l ≤ x
  | [], h => absurd rfl h
  | [x], _ => by simp [minL]
  | x :: y :: r, _ => by
    obtain ⟨h1, h2⟩ := minL_spec (y :: r) (by simp)
    simp only [minL]
    refine ⟨?_, fun z hz => ?_⟩
    · by_cases hx : x ≤ minL (y :: r)
      · rw [Int.min_eq_left hx]; simp
      · rw [Int.min_eq_right (by omega)]; exact List.mem_cons_of_mem _ h1
    · rcases List.mem_cons.mp hz with rfl | hz
      · omega
      · have := h2 z hz; omega
theorem maxL_spec : ∀ (l : List Int), l ≠ [] → maxL l ∈ l ∧ ∀ x ∈ l, x ≤ maxL l
  | [], h => absurd rfl h
  | [x], _ => by simp [maxL]
  | x :: y :: r, _ => by
    obtain ⟨h1, h2⟩ := maxL_spec (y :: r) (by simp)
    simp only [maxL]
    refine ⟨?_, fun z hz => ?_⟩
    · by_cases hx : x ≤ maxL (y :: r)
      · rw [Int.max_eq_right hx]; exact List.mem_cons_of_mem _ h1
      · rw [Int.max_eq_left (by omega)]; simp
    · rcases List.mem_cons.mp hz with rfl | hz
      · omega
      · have := h2 z hz; omega
theorem minL_eq {l : List Int} {m : Int} (h1 : m ∈ l) (h2 : ∀ x ∈ l, m ≤ x) : minL l = m := by
  obtain ⟨a, b⟩ := minL_spec l (by rintro rfl; simp at h1)
  have := h2 _ a; have := b _ h1; omega
theorem maxL_eq {l : List Int} {m : Int} (h1 : m ∈ l) (h2 : ∀ x ∈ l, x ≤ m) : maxL l = m := by
  obtain ⟨a, b⟩ := maxL_spec l (by rintro rfl; simp at h1)
  have := h2 _ a; have := b _ h1; omega


theorem objR_rng (h : Heap) (a b c : Int) (t u v : Tok) : ObjR (h.push { cls := .type "range", data := .fields #[.int a t, .int b u, .int c v] }) h.objs.size (.rng a b c) := ⟨t, u, v, IsRange.new ..⟩
noncomputable def BiV (W : Wd) (n : Nat) (σ : St) (b : Bi) (Q : V → St → Prop) (vs : List Value) : Prop := HV W n σ (call (biV b) vs) fun v => Q (ab v)
section
variable {Q : V → St → Prop} {vs : List Value}
/-- ints, in the heap -/
theorem intsAt {a : Addr} {o : O} {ns : List Int} {H : Heap} (r : RelG H σ s) (e : σ a = some o) (h : o.litems = some (ivs ns)) : ∃ items : Array Value, s.heap.IsList a items ∧ items.size ≤ lim ∧ IntsAre items.toList ns := by
  obtain ⟨items, hl, hz, hx⟩ := lstAt r e h
  exact ⟨items, hl, hz, intsAre_of hx⟩
theorem len_seq {a : Addr} {xs : List V} (hs : ∀ s, RelG W.H σ s → SeqOf s a xs) (h : Q (.int xs.length) σ) : BiV W n σ .len Q [.ref a] := fun A s Z R r z => by
  obtain ⟨items, hl, hz, hx⟩ := hs s r
  have hlm : (items.size : Int) < 2 ^ 63 := by have : items.size ≤ 1000000 := hz; omega
  rw [← hx, List.length_map, Array.length_toList] at h
  rcases hl with hl | hl
  · exact Calls.call_len_list hl (by omega) (z.tok r h)
  · exact len_tuple hl (by omega) (z.tok r h)
theorem len_ok (h : biW .len (vs.map ab) σ Q) : BiV W n σ .len Q vs :=
  one_on (G := BiV W n σ .len Q) h fun v h => ref_on (G := fun v => BiV W n σ .len Q [v]) h fun a o e h => by
    cases o with
    | lst xs => exact len_seq (fun s r => seqAt r e rfl) h
    | ro xs => exact len_seq (fun s r => seqAt r e rfl) h
    | tup xs => exact len_seq (fun s r => seqAt r e rfl) h
    | _ => exact h.elim
theorem sorted_ok (h : biW .sorted (vs.map ab) σ Q) : BiV W n σ .sorted Q vs :=
  one_on (G := BiV W n σ .sorted Q) h fun v h => lints_on (G := fun v => BiV W n σ .sorted Q [v]) h fun a o ns e e2 h A s Z R r z => by
    obtain ⟨items, hl, hz, hi⟩ := intsAt r e e2
    refine sorted_any (vs := items.toList) hl hi (Nat.le_trans hz lim_le) fun out ns' a1 a2 a3 => ?_
    obtain ⟨e1, he⟩ := sortedAll_at s.heap items.toList out
    refine z.new (x := .lst (ivs (isort ns))) (t := s.toks) r (fun _ _ => sortedAll_old) ?_ ⟨out, ⟨e1, he⟩, ?_, ?_⟩ (h _)
    · cases q : s.heap.get? (s.heap.objs.size + 1) with
      | none => rfl
      | some o => exact absurd (Heap.lt_size q) (Nat.not_lt.mpr (Nat.le_succ _))
    · rw [intsAre_ab a1, isort_eq_of a2 a3]
    · rw [ivs, List.length_map, isort_length, ← hi.length]; exact hz
theorem list_ok (h : biW .list (vs.map ab) σ Q) : BiV W n σ .list Q vs :=
  one_on (G := BiV W n σ .list Q) h fun v h => litems_on (G := fun v => BiV W n σ .list Q [v]) h fun a o xs e e2 h A s Z R r z => by
    obtain ⟨items, ⟨ob, ho, hc, m, hd⟩, hz, hx⟩ := lstAt r e e2
    refine call_list_seq (hsz := Nat.le_trans hz lim_le) a (.inl rfl) ho hc hd fun h' c' hk hD => ?_
    exact z.new (x := .lst xs) (t := s.toks) r hk (get_size _) ⟨items, ⟨c', hD⟩, hx, by rw [← hx, List.length_map]; exact hz⟩ (h _)
theorem abs_ok (h : biW .abs (vs.map ab) σ Q) : BiV W n σ .abs Q vs :=
  one_on (G := BiV W n σ .abs Q) h fun v h => asI_on (G := fun v => BiV W n σ .abs Q [v]) h fun i t h A s Z R r z => call_abs_int fun u tk => z.tok r (by
    have : (if i < 0 then -i else i) = (i.natAbs : Int) := by split <;> omega
    show Q (.int (if i < 0 then -i else i)) σ
    rw [this]; exact h)
theorem range_ok (h : biW .range (vs.map ab) σ Q) : BiV W n σ .range Q vs := by
  rcases vs with _ | ⟨v, vs⟩
  · exact h.elim
  refine asI_on (G := fun v => BiV W n σ .range Q (v :: vs)) (show asI (ab v) _ from h) fun i t h => ?_
  rcases vs with _ | ⟨v', vs⟩
  · exact fun A s Z R r z => call_range_1 (z.alloc r (objR_rng ..) (h.2 _))
  refine asI_on (G := fun v' => BiV W n σ .range Q (.int i t :: v' :: vs)) (show asI (ab v') _ from h) fun j u h => ?_
  rcases vs with _ | ⟨v'', vs⟩
  · exact fun A s Z R r z => call_range_2 (z.alloc r (objR_rng ..) (h.2.2 _))
  refine asI_on (G := fun v'' => BiV W n σ .range Q (.int i t :: .int j u :: v'' :: vs)) (show asI (ab v'') _ from h) fun l w h => ?_
  rcases vs with _ | ⟨_, _⟩
  · obtain ⟨h1, h2, h3, h⟩ := h
    exact fun A s Z R r z => call_range_3 (by rcases h3 with rfl | rfl <;> decide) (z.alloc (t := s.toks) r (objR_rng ..) (h _)) (.inl (PyProof.noPylong_small (by rcases h3 with rfl | rfl <;> decide)))
  · exact h.elim
theorem numsAt {items : Array Value} {ns : List Int} (hi : IntsAre items.toList ns) : ∃ xs : Array (Int × Tok), items = intItems xs ∧ ns = xs.toList.map (·.1) := by
  obtain ⟨xs, ex⟩ := hi.allInts.items
  exact ⟨xs, ex, by rw [← hi.numsOf, ← nums_intItems, ← ex]⟩
theorem best_ok {ns : List Int} {xs : Array (Int × Tok)} (e : ns = xs.toList.map (·.1)) (hne : ns ≠ []) : 0 < xs.size := by
  have h3 : 0 < ns.length := List.length_pos_iff.mpr hne
  rw [e, List.length_map, Array.length_toList] at h3; exact h3
theorem min_list {a : Addr} {o : O} {ns : List Int} (e : σ a = some o) (e2 : o.litems = some (ivs ns)) (h : ns ≠ [] ∧ Q (.int (minL ns)) σ) : BiV W n σ .min Q [.ref a] := fun A s Z R r z => by
  obtain ⟨items, hl, hz, hi⟩ := intsAt r e e2
  obtain ⟨xs, ex, hns⟩ := numsAt hi
  have hsz := best_ok hns h.1
  rw [ex] at hl
  refine min_intList R.handled hl hsz fun v h' tk hvv hk => z.ext r hk ?_
  obtain ⟨t, rfl⟩ := intItems_at hvv
  obtain ⟨h1, h2⟩ := argBest_lt (numAt xs) (xs.size - 1)
  have : minL ns = numAt xs (argBest (fun i j => decide (numAt xs i < numAt xs j)) (xs.size - 1)) := by
    refine minL_eq ?_ fun a ha => ?_
    · rw [hns, numAt_eq]; exact getD_mem (by rw [List.length_map, Array.length_toList]; omega)
    · rw [hns] at ha
      obtain ⟨j, hj, rfl⟩ := mem_getD ha
      rw [List.length_map, Array.length_toList] at hj
      rw [← numAt_eq]; exact h2 j (by omega)
  rw [this] at h; exact h.2
theorem max_list {a : Addr} {o : O} {ns : List Int} (e : σ a = some o) (e2 : o.litems = some (ivs ns)) (h : ns ≠ [] ∧ Q (.int (maxL ns)) σ) : BiV W n σ .max Q [.ref a] := fun A s Z R r z => by
  obtain ⟨items, hl, hz, hi⟩ := intsAt r e e2
  obtain ⟨xs, ex, hns⟩ := numsAt hi
  have hsz := best_ok hns h.1
  rw [ex] at hl
  refine max_intList R.handled hl hsz fun v h' tk hvv hk => z.ext r hk ?_
  obtain ⟨t, rfl⟩ := intItems_at hvv
  obtain ⟨h1, h2⟩ := argBest_gt (numAt xs) (xs.size - 1)
  have : maxL ns = numAt xs (argBest (fun i j => decide (numAt xs i > numAt xs j)) (xs.size - 1)) := by
    refine maxL_eq ?_ fun a ha => ?_
    · rw [hns, numAt_eq]; exact getD_mem (by rw [List.length_map, Array.length_toList]; omega)
    · rw [hns] at ha
      obtain ⟨j, hj, rfl⟩ := mem_getD ha
      rw [List.length_map, Array.length_toList] at hj
      rw [← numAt_eq]; exact h2 j (by omega)
  rw [this] at h; exact h.2
theorem mn2 {i j : Int} {t u : Tok} : ab (if j < i then .int j u else .int i t) = .int (min i j) := by
  by_cases h : j < i
  · rw [if_pos h, Int.min_eq_right (Int.le_of_lt h)]; rfl
  · rw [if_neg h, Int.min_eq_left (Int.not_lt.mp h)]; rfl
theorem mn3 {i j l : Int} {t u w : Tok} : ab (if j < i then (if l < j then .int l w else .int j u) else (if l < i then .int l w else .int i t)) = .int (min (min i j) l) := by
  by_cases h : j < i
  · rw [if_pos h, Int.min_eq_right (Int.le_of_lt h)]; exact mn2
  · rw [if_neg h, Int.min_eq_left (Int.not_lt.mp h)]; exact mn2
theorem mx2 {i j : Int} {t u : Tok} : ab (if j > i then .int j u else .int i t) = .int (max i j) := by
  by_cases h : j > i
  · rw [if_pos h, Int.max_eq_right (Int.le_of_lt h)]; rfl
  · rw [if_neg h, Int.max_eq_left (Int.not_lt.mp h)]; rfl
theorem mx3 {i j l : Int} {t u w : Tok} : ab (if j > i then (if l > j then .int l w else .int j u) else (if l > i then .int l w else .int i t)) = .int (max (max i j) l) := by
  by_cases h : j > i
  · rw [if_pos h, Int.max_eq_right (Int.le_of_lt h)]; exact mx2
  · rw [if_neg h, Int.max_eq_left (Int.not_lt.mp h)]; exact mx2
theorem min_ok (h : biW .min (vs.map ab) σ Q) : BiV W n σ .min Q vs := by
  rcases vs with _ | ⟨v, _ | ⟨v', vs⟩⟩
  · exact h.elim
  · exact lints_on (G := fun v => BiV W n σ .min Q [v]) (va := v) h fun a o ns e e2 h => min_list e e2 h
  refine asI_on (G := fun v => BiV W n σ .min Q (v :: v' :: vs)) (show asI (ab v) _ from h) fun i t h => ?_
  refine asI_on (G := fun v' => BiV W n σ .min Q (.int i t :: v' :: vs)) (show asI (ab v') _ from h) fun j u h => ?_
  rcases vs with _ | ⟨v'', vs⟩
  · exact fun A s Z R r z => min_two_ints R.handled fun h' tk hk => z.ext r hk (by rw [mn2]; exact h)
  refine asI_on (G := fun v'' => BiV W n σ .min Q (.int i t :: .int j u :: v'' :: vs)) (show asI (ab v'') _ from h) fun l w h => ?_
  rcases vs with _ | ⟨_, _⟩
  · exact fun A s Z R r z => min_three_ints R.handled fun h' tk hk => z.ext r hk (by rw [mn3]; exact h)
  · exact h.elim
theorem max_ok (h : biW .max (vs.map ab) σ Q) : BiV W n σ .max Q vs := by
  rcases vs with _ | ⟨v, _ | ⟨v', vs⟩⟩
  · exact h.elim
  · exact lints_on (G := fun v => BiV W n σ .max Q [v]) (va := v) h fun a o ns e e2 h => max_list e e2 h
  refine asI_on (G := fun v => BiV W n σ .max Q (v :: v' :: vs)) (show asI (ab v) _ from h) fun i t h => ?_
  refine asI_on (G := fun v' => BiV W n σ .max Q (.int i t :: v' :: vs)) (show asI (ab v') _ from h) fun j u h => ?_
  rcases vs with _ | ⟨v'', vs⟩
  · exact fun A s Z R r z => max_two_ints R.handled fun h' tk hk => z.ext r hk (by rw [mx2]; exact h)
  refine asI_on (G := fun v'' => BiV W n σ .max Q (.int i t :: .int j u :: v'' :: vs)) (show asI (ab v'') _ from h) fun l w h => ?_
  rcases vs with _ | ⟨_, _⟩
  · exact fun A s Z R r z => max_three_ints R.handled fun h' tk hk => z.ext r hk (by rw [mx3]; exact h)
  · exact h.elim
theorem sum_ok (h : biW .sum (vs.map ab) σ Q) : BiV W n σ .sum Q vs :=
  one_on (G := BiV W n σ .sum Q) h fun v h => lints_on (G := fun v => BiV W n σ .sum Q [v]) h fun a o ns e e2 h A s Z R r z => by
    obtain ⟨items, hl, hz, hi⟩ := intsAt r e e2
    obtain ⟨xs, ex, hns⟩ := numsAt hi
    rw [ex] at hl
    refine sum_intListG R.handled hl fun h' tk t' hk => z.ext r hk ?_
    rw [preSum_eq, List.take_of_length_le (by rw [List.length_map, Array.length_toList]; exact Nat.le_refl _), ← hns]; exact h
theorem type_ok (h : biW .type (vs.map ab) σ Q) : BiV W n σ .type Q vs :=
  one_on (G := BiV W n σ .type Q) h fun v h A s Z R r z => by
    cases v with
    | int i t => exact call_type_of (typeIs_int s _ t) (by decide) (z.here r h)
    | float i t => exact call_type_of (typeIs_float s _ t) (by decide) (z.here r h)
    | bool b => exact call_type_of (PySem.typeIs_bool s _) (by decide) (z.here r h)
    | _ => exact h.elim
theorem bi_ok {b : Bi} (h : biW b (vs.map ab) σ Q) : BiV W n σ b Q vs := by
  cases b with
  | len => exact len_ok h
  | sorted => exact sorted_ok h
  | min => exact min_ok h
  | max => exact max_ok h
  | sum => exact sum_ok h
  | abs => exact abs_ok h
  | range => exact range_ok h
  | list => exact list_ok h
  | type => exact type_ok h
  | _ => exact h.elim
end
end Mine

end
section -- B9
open PySem.MeetsSeq
namespace Mine
variable {W : Wd} {n k : Nat} {c : Cx} {fr : List V} {σ : St} {A : Around} {s : Shared}

noncomputable def meV : Me → String
  | .append => "list.append"
  | .insert => "list.insert"
  | .pop => "list.pop"
  | .remove => "list.remove"
  | .extend => "list.extend"
  | .count => "list.count"
theorem meSlot : ∀ m : Me, Slot "list" (meN m) (meV m)
  | .append => PySem.F.slot_list_append
  | .insert => PySem.F.slot_list_insert
  | .pop => PySem.F.slot_list_pop
  | .remove => PySem.F.slot_list_remove
  | .extend => PySem.F.slot_list_extend
  | .count => PySem.F.slot_list_count
theorem meType : ∀ m : Me, typeOf (.builtin (meV m)) = pure (.type "method_descriptor")
  | .append => PySem.F.type_list_append
  | .insert => PySem.F.type_list_insert
  | .pop => PySem.F.type_list_pop
  | .remove => PySem.F.type_list_remove
  | .extend => PySem.F.type_list_extend
  | .count => PySem.F.type_list_count
noncomputable def MeV (W : Wd) (n : Nat) (σ : St) (m : Me) (Q : V → St → Prop) (o : Value) (vs : List Value) : Prop := HV W n σ (call (.builtin (meV m)) (o :: vs)) fun v => Q (ab v)
theorem intsAre_mem {vs : List Value} {ns : List Int} (h : IntsAre vs ns) {y : Value} (hy : y ∈ vs) : ∃ k t, y = .int k t := by
  induction h with
  | nil => cases hy
  | cons n t _ ih => exact (List.mem_cons.mp hy).elim (fun e => ⟨_, _, e⟩) ih
theorem erase_at {vs : List Value} {ns : List Int} (h : IntsAre vs ns) {x : Int} (hx : x ∈ ns) : ∃ j, ∃ hj : j < vs.length, isInt x vs[j] = true ∧ (∀ m (hm : m < vs.length), m < j → isInt x vs[m] = false) ∧ IntsAre (vs.eraseIdx j) (ns.erase x) := by
  induction h with
  | nil => cases hx
  | @cons k t vs ns hr ih =>
    by_cases hk : k = x
    · subst hk
      exact ⟨0, by simp, by simp [isInt], fun m hm h0 => absurd h0 (Nat.not_lt_zero _), by simpa using hr⟩
    · have hx' : x ∈ ns := (List.mem_cons.mp hx).elim (fun e => absurd e.symm hk) id
      obtain ⟨j, hj, h1, h2, h3⟩ := ih hx'
      have hkx : (k == x) = false := by simpa using hk
      refine ⟨j + 1, by simpa using hj, by simpa using h1, fun m hm h0 => ?_, ?_⟩
      · cases m with
        | zero => simpa [isInt] using hk
        | succ m => simpa using h2 m (by simpa using hm) (by omega)
      · rw [List.eraseIdx_cons_succ, List.erase_cons, hkx]; exact .cons k t h3

theorem map_eraseIdx {α β : Type} (f : α → β) : ∀ (l : List α) (i : Nat), (l.eraseIdx i).map f = (l.map f).eraseIdx i
  | [], _ => rfl
  | _ :: _, 0 => rfl
  | x :: r, i + 1 => by simp [List.eraseIdx_cons_succ, map_eraseIdx f r i]

section
variable {Q : V → St → Prop} {o : Value} {vs : List Value}
theorem append_ok (h : meW .append (ab o) (vs.map ab) σ Q) : MeV W n σ .append Q o vs :=
  one_on (G := MeV W n σ .append Q o) h fun v h => mlist_on (G := fun o => MeV W n σ .append Q o [v]) h fun a xs e h A s Z R r z => by
    obtain ⟨items, hl, hz, hx⟩ := plainAt r e
    refine wpAny_list_append_plain hl (fun h' hl' hs' => ?_) (Nat.le_trans hz lim_le)
    exact z.putL (t := s.toks) r e hs' ⟨_, hl', by rw [Array.toList_push, List.map_append, hx]; rfl, by rw [List.length_append]; exact h.1⟩ h.2
theorem insert_ok (h : meW .insert (ab o) (vs.map ab) σ Q) : MeV W n σ .insert Q o vs := by
  rcases vs with _ | ⟨v, vs⟩
  · exact h.elim
  refine asI_on (G := fun v => MeV W n σ .insert Q o (v :: vs)) (show asI (ab v) _ from h) fun i t h => ?_
  refine one_on (G := fun vs => MeV W n σ .insert Q o (.int i t :: vs)) h fun y h => mlist_on (G := fun o => MeV W n σ .insert Q o [.int i t, y]) h fun a xs e h A s Z R r z => ?_
  obtain ⟨items, ⟨m, hc⟩, hz, hx⟩ := plainAt r e
  obtain ⟨h0, h1, hz', q⟩ := h
  have hzz : (xs.take i.toNat ++ ab y :: xs.drop i.toNat).length ≤ lim := by
    rw [List.length_append, List.length_cons, ← Nat.add_assoc, ← List.length_append, List.take_append_drop]; exact hz'
  have hlen : xs.length = items.size := by rw [← hx, List.length_map]; rfl
  rw [hlen] at h1
  have hlm : items.size ≤ 1000000 := hz
  refine call_meets PySem.F.slot_list_insert ⟨_, hc, rfl⟩ PySem.F.entry_list_insert (PySem.F.args_list_insert_3 _ _ _) (AutoSeq1.list_insert_list_int_val_1 a items m i t y (by simp [Builtin.List.listFitsIndex]; omega) (Nat.le_trans hz lim_le)) ⟨hc, ?_⟩
  have hneg : ¬ i < 0 := Int.not_lt.mpr h0
  have hmin : min i.toNat items.size = i.toNat := by omega
  refine z.putL (t := s.toks) r e (Heap.SameBut.update ..) ⟨_, ⟨_, IsL.update (n := m) hc _⟩, ?_, hzz⟩ q
  clear z q r e
  subst hx
  simp only [hneg, if_false, hmin]
  simp [List.map_take, List.map_drop]
  exact List.take_of_length_le (by simp)
theorem remove_ok (h : meW .remove (ab o) (vs.map ab) σ Q) : MeV W n σ .remove Q o vs :=
  one_on (G := MeV W n σ .remove Q o) h fun v h => asI_on (G := fun v => MeV W n σ .remove Q o [v]) h fun x t h => mlist_on (G := fun o => MeV W n σ .remove Q o [.int x t]) h fun a xs e h A s Z R r z => by
    obtain ⟨ns, en, hx, q⟩ := opt_elim h
    obtain ⟨items, ⟨m, hc⟩, hz, hxs⟩ := plainAt r e
    have hi : IntsAre items.toList ns := intsAre_of (hxs.trans (asInts_some en))
    obtain ⟨j, hj, h1, h2, h3⟩ := erase_at hi hx
    have hj' : j < items.size := hj
    refine call_meets PySem.F.slot_list_remove ⟨_, hc, rfl⟩ PySem.F.entry_list_remove (PySem.F.args_list_remove_2 _ _)
      (list_remove a items m (.int x t) (isInt x) (fun y hy => ?_) j hj' (by simpa using h1) (fun m hm hmj => by have := h2 m (by simpa using hm) hmj; rwa [Array.getElem_toList] at this) (Nat.le_trans hz lim_le)) ⟨hc, ?_⟩
    · obtain ⟨k, u, rfl⟩ := intsAre_mem hi (by simpa using hy)
      exact EqGives.int k x u t
    · refine z.putL (t := s.toks) r e (Heap.SameBut.update ..) ⟨_, ⟨_, IsL.update (n := m) hc _⟩, ?_, ?_⟩ q
      · rw [Array.toList_eraseIdxIfInBounds, intsAre_ab h3]
      · have e3 := h3.length
        have : (ns.erase x).length ≤ items.size := by
          rw [← e3, List.length_eraseIdx]; split <;> first | exact Nat.sub_le _ _ | exact Nat.le_refl _
        rw [ivs, List.length_map]; exact Nat.le_trans this hz
theorem count_ok (h : meW .count (ab o) (vs.map ab) σ Q) : MeV W n σ .count Q o vs :=
  one_on (G := MeV W n σ .count Q o) h fun v h => asI_on (G := fun v => MeV W n σ .count Q o [v]) h fun x t h => mlist_on (G := fun o => MeV W n σ .count Q o [.int x t]) h fun a xs e h A s Z R r z => by
    obtain ⟨ns, en, q⟩ := opt_elim h
    obtain ⟨items, ⟨m, hc⟩, hz, hxs⟩ := plainAt r e
    have hi : IntsAre items.toList ns := intsAre_of (hxs.trans (asInts_some en))
    refine call_meets PySem.F.slot_list_count ⟨_, hc, rfl⟩ PySem.F.entry_list_count (PySem.F.args_list_count_2 _ _) (list_count a items m (.int x t) (isInt x) (fun y hy => ?_)) ⟨hc, ?_⟩
    · obtain ⟨k, u, rfl⟩ := intsAre_mem hi (by simpa using hy)
      exact EqGives.int k x u t
    · rw [countP_isInt x hi]
      exact z.tok r q
theorem me_ok {m : Me} (h : meW m (ab o) (vs.map ab) σ Q) : MeV W n σ m Q o vs := by
  cases m with
  | append => exact append_ok h
  | insert => exact insert_ok h
  | remove => exact remove_ok h
  | count => exact count_ok h
  | _ => exact h.elim
end

theorem star_plain {pos : Pos} {env : Env} : ∀ {es : List PySem.Expr}, es.all plainE = true → (backTo pos (starEach es env)).all (fun x => !x.1) = true ∧ (backTo pos (starEach es env)).any (·.1) = false ∧ (backTo pos (starEach es env) = [] ∨ ∃ x rest, backTo pos (starEach es env) = (false, x) :: rest)
  | [], _ => ⟨rfl, rfl, .inl rfl⟩
  | e :: r, h => by
    obtain ⟨h1, h2⟩ := Bool.and_eq_true_iff.mp h
    obtain ⟨a, b, _⟩ := star_plain (es := r) (pos := pos) (env := env) h2
    rw [star_cons h1]
    exact ⟨a, b, .inr ⟨_, _, rfl⟩⟩
theorem evalArgs_ok {M : Model} {E : Value → Shared → Prop} {f : Value} {args : List (Bool × Sem Value)} {kws : List (Option Str × Sem Value)} {Q : Args → Shared → Prop} (ha : args = [] ∨ ∃ x rest, args = (false, x) :: rest) (hk : kws.all (·.1.isSome) = true)
    (h : wpAny M A (spliced args) (fun vs s1 => wpAny M A (evalAll (kws.map (·.2))) (fun ks s2 => Q ⟨vs, (kws.filterMap (·.1)).zip ks⟩ s2) E s1) E s) : wpAny M A (evalArgs f true args kws) Q E s := by
  unfold evalArgs
  rcases ha with rfl | ⟨x, rest, rfl⟩
  · show wpAny M A (spliced [] >>= _) Q E s
    refine wpAny_bind (wpAny_mono h (fun vs s1 h1 => wpAny_bind (wpAny_pure (wpAny_holding ?_))) fun _ _ x => x)
    simp only [hk, if_true]
    exact wpAny_bind (wpAny_mono h1 (fun ks s2 h2 => wpAny_bind (wpAny_pure (wpAny_pure h2))) fun _ _ x => x)
  · show wpAny M A (spliced ((false, x) :: rest) >>= _) Q E s
    refine wpAny_bind (wpAny_mono h (fun vs s1 h1 => wpAny_bind (wpAny_pure (wpAny_holding ?_))) fun _ _ x => x)
    simp only [hk, if_true]
    exact wpAny_bind (wpAny_mono h1 (fun ks s2 h2 => wpAny_bind (wpAny_pure (wpAny_pure h2))) fun _ _ x => x)


theorem snd_kws {pos : Pos} : ∀ (ks : List Keyword), (∀ k' ∈ ks, SE k k'.value) → ∀ (c : Cx) fr σ (Q : List V → St → Prop), c.l (xl (ks.map fun q => er c.gl k c.ns q.value)) fr σ Q → GV c fr σ (evalAll ((backToKw pos (keywordEach ks c.env)).map (·.2))) fun vs => Q (vs.map ab)
  | [], _ => fun c fr σ Q h => GV.pure h
  | ⟨nm, e, p⟩ :: rest, hs => fun c fr σ Q h => by
    show GV c fr σ (evalAll ((do let v ← eval e c.env; standAt pos; pure v) :: (backToKw pos (keywordEach rest c.env)).map (·.2))) _
    rw [evalAll]
    exact GV.bind (GV.bind (hs ⟨nm, e, p⟩ (.head _) c fr σ _ h) fun v σ1 h1 => GV.stand (GV.pure h1)) fun v σ1 h1 => GV.bind (GV.hold (snd_kws rest (fun k' hk => hs k' (.tail _ hk)) c fr σ1 _ h1)) fun vs σ2 h2 => GV.pure h2
theorem kw_names {pos : Pos} {env : Env} : ∀ (ks : List Keyword), (backToKw pos (keywordEach ks env)).filterMap (·.1) = (ks.map (·.arg)).filterMap id ∧ (backToKw pos (keywordEach ks env)).all (·.1.isSome) = (ks.map (·.arg)).all (·.isSome) ∧ ((ks.map (·.arg)).all (·.isSome) = true → (backToKw pos (keywordEach ks env)).any (·.1.isNone) = false)
  | [] => ⟨rfl, rfl, fun _ => rfl⟩
  | ⟨nm, e, p⟩ :: rest => by
    obtain ⟨a, b, d⟩ := kw_names rest (pos := pos) (env := env)
    have e1 : backToKw pos (keywordEach (⟨nm, e, p⟩ :: rest) env) = (nm, do let v ← eval e env; standAt pos; pure v) :: backToKw pos (keywordEach rest env) := rfl
    rw [e1]
    refine ⟨?_, ?_, fun h => ?_⟩
    · rw [List.filterMap_cons, List.map_cons, List.filterMap_cons, a]; rfl
    · rw [List.all_cons, List.map_cons, List.all_cons, b]
    · obtain ⟨h1, h2⟩ := Bool.and_eq_true_iff.mp h
      rw [List.any_cons, d h2, Bool.or_false]
      cases nm with
      | none => cases h1
      | some _ => rfl
theorem keeper_fn {f : V} (h : isFnV W f σ) (r : RelG W.H σ s) {fv : Value} (hf : ab fv = f) : ∃ k, (k = Keeper.frame ∨ k = Keeper.machine ∨ k = Keeper.boundFrame) ∧ Looks W.M s.heap (keeperOf fv) k := by
  obtain ⟨a, rfl, h⟩ := h
  rw [ab_ref hf]
  have : ∃ o fd, s.heap.get? a = some o ∧ o.data = .func fd := by
    rcases h with ⟨fd, e⟩ | ⟨o, fd, e, hd⟩
    · obtain ⟨o, e1, e2⟩ := r.objs _ _ e; exact ⟨o, fd, e1, e2⟩
    · exact ⟨o, fd, r.base _ _ e, hd⟩
  obtain ⟨o, fd, e, hd⟩ := this
  obtain ⟨_, d, dt, sl⟩ := o
  cases hd
  exact ⟨.frame, .inl rfl, (Looks.ld (part := none) e).andThen .now⟩
theorem biV_call {b : Bi} {pos : Pos} {args : List (Bool × Sem Value)} {Q : Value → Shared → Prop} (hp : args.any (·.1) = false)
    (h : wpAny W.M A (evalArgs (biV b) true args []) (fun a s1 => wpAny W.M A (call (biV b) a.pos a.kw) Q NoE s1) NoE s) : wpAny W.M A (callWith pos (biV b) [] args []) Q NoE s := by
  have hB : ∀ id, biV b = .builtin id → wpAny W.M A (callWith pos (biV b) [] args []) Q NoE s := fun id e => by
    rw [e] at h ⊢; exact Calls.callWith_builtin hp h
  have hT : ∀ id, biV b = .type id → wpAny W.M A (callWith pos (biV b) [] args []) Q NoE s := fun id e => by
    rw [e] at h ⊢; exact PySem.callWith_type hp h
  clear h
  cases b <;> first | exact hB _ rfl | exact hT _ rfl
theorem biV_eq {v : Value} {b : Bi} (h : ab v = ab (biV b)) : v = biV b := by
  cases b <;> first | exact ab_bi h | exact ab_typ h
theorem biX_is {f : X} {b : Bi} (h : biX f = some b) : ∃ v, f = .con v ∧ biOf v = some b := by
  cases f with
  | con v => exact ⟨v, rfl, h⟩
  | _ => cases h
section
variable {x : Str} {np pos : Pos} {args : List PySem.Expr} {ks : List Keyword} {Q : V → St → Prop}
/-- a function of the text's own -/
theorem call_own (ha : ∀ e ∈ args, SE k e) (hk : ∀ k' ∈ ks, SE k k'.value) (hp : args.all plainE = true) (hall : (ks.map (·.arg)).all (·.isSome) = true)
    (h : c.x (.call (erName c.gl c.ns x) (xl (args.map (er c.gl k c.ns))) ((ks.map (·.arg)).filterMap id) (xl (ks.map fun q => er c.gl k c.ns q.value))) fr σ Q) : GV c fr σ (eval (.Call (.Name x np) args ks pos) c.env) fun v => Q (ab v) := fun A s Z R r z => by
  obtain ⟨q1, q2, q3⟩ := star_plain (env := c.env) (pos := pos) hp
  obtain ⟨k1, k2, k3⟩ := kw_names (env := c.env) (pos := pos) ks
  refine wpAny_Call_ofName (name_ok h A s _ R r fun fv σ1 s1 h1 g1 t1 => ?_)
  refine callWith_of (P := fun hp => ∃ σ' s', hp = s'.heap ∧ isFnV c.W (ab fv) σ' ∧ RelG c.W.H σ' s') (by rw [q2, k3 hall]; rfl) (fun hp ⟨σ', s', e, hfn, g⟩ => by rw [e]; exact keeper_fn hfn g rfl) ?_
  refine evalArgs_ok q3 (k2.trans hall) (snd_args args ha c fr σ1 _ hp h1 A s1 _ R (r.step g1 t1) fun vs σ2 s2 h2 g2 t2 => snd_kws ks hk c fr σ2 _ h2 A s2 _ R ((r.step g1 t1).step g2 t2) fun kvs σ3 s3 h3 g3 t3 => ⟨⟨σ3, s3, rfl, h3.1, g3⟩, ?_⟩)
  rw [k1]
  exact h3.2 A s3 Z R g3 (((r.step g1 t1).step g2 t2).step g3 t3).frs (fun v σ4 s4 q4 g4 t4 => z v σ4 s4 q4 g4 (((t1.trans t2).trans t3).trans t4)) fv vs kvs rfl rfl rfl
/-- a builtin -/
theorem call_bi {b : Bi} (ha : ∀ e ∈ args, SE k e) (hp : args.all plainE = true) (hb : biX (erName c.gl c.ns x) = some b) (h : c.x (.bcall b (xl (args.map (er c.gl k c.ns)))) fr σ Q) : GV c fr σ (eval (.Call (.Name x np) args [] pos) c.env) fun v => Q (ab v) := fun A s Z R r z => by
  obtain ⟨q1, q2, q3⟩ := star_plain (env := c.env) (pos := pos) hp
  obtain ⟨v, e, hv⟩ := biX_is hb
  have hn : c.x (erName c.gl c.ns x) fr σ fun u σ' => u = v ∧ σ' = σ := by rw [e]; exact ⟨rfl, rfl⟩
  refine wpAny_Call_ofName (name_ok hn A s _ R r fun fv σ1 s1 h1 g1 t1 => ?_)
  obtain ⟨h1, rfl⟩ := h1
  rw [biV_eq (h1.trans (biOf_some hv))]
  exact biV_call q2 (evalArgs_ok q3 rfl (snd_args args ha c fr σ1 _ hp h A s1 _ R (r.step g1 t1) fun vs σ2 s2 h2 g2 t2 => wpAny_pure (bi_ok h2 A s2 Z R g2 fun v σ4 s4 q4 g4 t4 => z v σ4 s4 q4 g4 ((t1.trans t2).trans t4))))
theorem callX_elim {f as : X} {kn : List (Option Str)} {ka : X} {cs : List Addr} (h : xW W n (callX f as kn ka) cs fr σ Q) : (∃ b, kn = [] ∧ biX f = some b ∧ xW W n (.bcall b as) cs fr σ Q) ∨ (kn.all (·.isSome) = true ∧ xW W n (.call f as (kn.filterMap id) ka) cs fr σ Q) := by
  cases kn with
  | nil =>
    replace h : xW W n (callY (biX f) as (grd true (.call f as [] ka))) cs fr σ Q := h
    cases hb : biX f with
    | none => rw [hb] at h; exact .inr ⟨rfl, h⟩
    | some b => rw [hb] at h; exact .inl ⟨b, rfl, rfl, h⟩
  | cons a r => exact .inr (grd_x h)
theorem snd_callN (ha : ∀ e ∈ args, SE k e) (hk : ∀ k' ∈ ks, SE k k'.value) : SE (k + 1) (.Call (.Name x np) args ks pos) := fun c fr σ Q h => by
  obtain ⟨hp, h⟩ := grd_x h
  rcases callX_elim h with ⟨b, e, hb, h1⟩ | ⟨hall, h1⟩
  · cases List.map_eq_nil_iff.mp e; exact call_bi ha hp hb h1
  · exact call_own ha hk hp hall h1
end
theorem mlist_ref {va : Value} {K : Addr → List V → Prop} (h : mlistW (ab va) σ K) : ∃ a xs, va = .ref a ∧ σ a = some (.lst xs) ∧ K a xs := mlist_on (G := fun v => ∃ a xs, v = .ref a ∧ σ a = some (.lst xs) ∧ K a xs) h fun a xs e h => ⟨a, xs, rfl, e, h⟩
theorem meth_ok {o : PySem.Expr} {m : Me} {ap pos : Pos} {args : List PySem.Expr} {Q : V → St → Prop} (ho : SE k o) (ha : ∀ e ∈ args, SE k e) (hp : args.all plainE = true) (hn : noCall o = true) (hl : (ap.endLine == pos.line) = true) (h20 : args.length < 20)
    (h : c.x (.meth m (er c.gl k c.ns o) (xl (args.map (er c.gl k c.ns)))) fr σ Q) : GV c fr σ (eval (.Call (.Attribute o (meN m) ap) args [] pos) c.env) fun v => Q (ab v) := fun A s Z R r z => by
  obtain ⟨q1, q2, q3⟩ := star_plain (env := c.env) (pos := pos) hp
  refine wpAny_Call_method (T := "list") (by cases o <;> first | rfl | cases hn) (by
    rw [q1]; exact decide_eq_true (Nat.lt_trans h20 (by decide : 20 < 30))) hl PySem.F.plainAttrs_list (meSlot m) (meType m) ?_
  refine ho c fr σ _ h A s _ R r fun ov σ1 s1 h1 g1 t1 => ?_
  obtain ⟨a, xs, rfl, e, h2⟩ := mlist_ref h1
  obtain ⟨items, hpl, hz, hx⟩ := plainAt g1 e
  refine ⟨hpl.isList.typeIs, fun b hb => ?_, ?_⟩
  · cases hb; obtain ⟨_, hc⟩ := hpl; exact ⟨_, hc, rfl⟩
  · exact Calls.callWith_builtin q2 (evalArgs_ok q3 rfl (snd_args args ha c fr σ1 _ hp h2 A s1 _ R (r.step g1 t1) fun vs σ2 s2 h3 g2 t2 => wpAny_pure (me_ok (o := .ref a) h3 A s2 Z R g2 fun v σ4 s4 q4 g4 t4 => z v σ4 s4 q4 g4 ((t1.trans t2).trans t4))))
theorem snd_meth {o : PySem.Expr} {nm : Str} {ap pos : Pos} {args : List PySem.Expr} {ks : List Keyword} (ho : SE k o) (ha : ∀ e ∈ args, SE k e) : SE (k + 1) (.Call (.Attribute o nm ap) args ks pos) := fun c fr σ Q h => by
  have g := grd_x h
  clear h
  obtain ⟨h1, hp⟩ := Bool.and_eq_true_iff.mp g.1
  obtain ⟨h2, hp⟩ := Bool.and_eq_true_iff.mp hp
  obtain ⟨h3, hp⟩ := Bool.and_eq_true_iff.mp hp
  obtain ⟨h4, h5⟩ := Bool.and_eq_true_iff.mp hp
  rw [List.isEmpty_iff.mp h2]
  cases hm : meOf nm with
  | none => rw [hm] at g; exact g.2.elim
  | some m =>
    rw [hm] at g
    rw [meOf_some hm]
    exact meth_ok ho ha h1 h3 h4 (of_decide_eq_true h5) g.2
end Mine

end
section -- B10
namespace Mine
variable {W : Wd} {n k : Nat} {c : Cx} {fr : List V} {σ σ' : St} {A : Around} {s s' : Shared} {L : Addr → Prop}

structure Itr (W : Wd) (A : Around) (I : Addr) (fp : List Addr) (xs : List V) (chk : St → Prop) (S : Nat → Heap → Prop) : Prop where
  mem : I ∈ fp
  frame : ∀ i h h', S i h → (∀ b ∈ fp, ∀ o, h.get? b = some o → h'.get? b = some o) → S i h'
  alive : ∀ i h, S i h → ∀ b ∈ fp, ∃ o, h.get? b = some o
  nd : ∀ i h, S i h → ∀ b ∈ fp, ∀ o, h.get? b = some o → ∀ es n, o.data ≠ .dict es n
  item : ∀ i (s : Shared) (σ : St) (Q : Option Value → Shared → Prop) (E : Value → Shared → Prop), i < xs.length → S i s.heap → RelG W.H σ s → chk σ →
    (∀ v h' tk, ab v = nth xs i → S (i + 1) h' → (∀ b o, b ≠ I → s.heap.get? b = some o → h'.get? b = some o) → Q (some v) { s with heap := h', toks := tk }) → wpAny W.M A (pyNext (.ref I)) Q E s
  done : ∀ (s : Shared) (σ : St) (Q : Option Value → Shared → Prop) (E : Value → Shared → Prop), S xs.length s.heap → RelG W.H σ s → chk σ →
    (∀ h' tk, (∀ b o, b ≠ I → s.heap.get? b = some o → h'.get? b = some o) → Q none { s with heap := h', toks := tk }) → wpAny W.M A (pyNext (.ref I)) Q E s
  self : ∀ i (s : Shared) (Q : Value → Shared → Prop) (E : Value → Shared → Prop), S i s.heap → Q (.ref I) s → wpAny W.M A (pyIter (.ref I)) Q E s
  own : ∀ i (s : Shared) (ts : List PySem.Expr) (k : Nat) (p : Pos) (v : Value) (Q : Unit → Shared → Prop) (E : Value → Shared → Prop), S i s.heap → Q () s → wpAny W.M A (letOwnedTupleGo (.Tuple ts k p) (.ref I) v) Q E s
noncomputable def plainIter (n : String) : Bool := !(["enumerate", "zip", "dict_itemiterator", "dict_reverseitemiterator", "odict_iterator", "itertools.zip_longest", "itertools.pairwise"].contains n)
theorem own_tup {M : Model} {E : Value → Shared → Prop} {ts : List PySem.Expr} {i : Nat} {p : Pos} {I : Addr} {v : Value} {o : Obj} {nm : String} {Q : Unit → Shared → Prop} (ho : s.heap.get? I = some o) (hc : o.cls = .type nm) (hn : plainIter nm = true) (h : Q () s) : wpAny M A (letOwnedTupleGo (.Tuple ts i p) (.ref I) v) Q E s := by
  have hn' : (["enumerate", "zip", "dict_itemiterator", "dict_reverseitemiterator", "odict_iterator", "itertools.zip_longest", "itertools.pairwise"] : List String).contains nm = false := (Bool.not_eq_true' _).mp hn
  cases v with
  | ref a =>
    refine wpAny_bind (wpAny_load ho ?_)
    obtain ⟨oc, d, dt, sl⟩ := o
    cases hc
    cases dt with
    | fields vs =>
      show wpAny M A (if (List.contains _ nm && _) = true then _ else _) Q E s
      rw [hn', Bool.false_and, if_neg Bool.false_ne_true]
      exact wpAny_pure h
    | _ => exact wpAny_pure h
  | _ => exact wpAny_pure h

theorem itr_lst (hh : A.handled = none) (I a : Addr) (hne : a ≠ I) (xs : List V) :
    Itr W A I [I] xs (fun σ => σ a = some (.lst xs)) (fun i h => h.IsListIter I a i) where
  mem := by simp
  frame := fun i h h' st hk => st.at fun o e => hk I (by simp) o e
  alive := fun i h st b hb => by
    have : b = I := by simpa using hb
    subst this; obtain ⟨o, e, _⟩ := st; exact ⟨o, e⟩
  nd := fun i h st b hb o e es n q => by
    have : b = I := by simpa using hb
    subst this; obtain ⟨o', e', _, hd⟩ := st; rw [e'] at e; cases e; rw [hd] at q; cases q
  item := fun i s σ Q E hi st r hc hQ => by
    obtain ⟨items, hp, hm, hz⟩ := r.objs _ _ hc
    have hi' : i < items.size := by rw [← hm] at hi; simpa using hi
    refine wpAny_pyNext_list_item st hp.isList (x := items[i]) (by simp [hi']) fun h' hit' hs' => ?_
    refine hQ _ h' s.toks ?_ hit' fun b o hb e => hs'.extBut b o hb e
    rw [← hm, nth_map (x := items[i])]
    simp [hi']
  done := fun s σ Q E st r hc hQ => by
    obtain ⟨items, hp, hm, hz⟩ := r.objs _ _ hc
    have hsz : items.size = xs.length := by rw [← hm]; simp
    exact wpAny_pyNext_list_end hh st hp.isList (by simp [hsz]) fun h' he' => hQ h' s.toks fun b o hb e => he' b o hb e
  self := fun i s Q E st hQ => wpAny_pyIter_listiter st hQ
  own := fun i s ts k p v Q E st h => by obtain ⟨o, e, hc, _⟩ := st; exact own_tup e hc (by decide) h

theorem itr_of {I : Addr} {fp : List Addr} {m : Nat} {P : Nat → Value → Prop} {S : Nat → Heap → Prop} {xs : List V} (Wk : Walks W.prog W.w A I fp [I] m P S) (hm : m = xs.length) (hP : ∀ i v, i < m → P i v → ab v = nth xs i)
    (ha : ∀ i h, S i h → ∀ b ∈ fp, ∃ o, h.get? b = some o) (hn : ∀ i h, S i h → ∃ o nm, h.get? I = some o ∧ o.cls = .type nm ∧ plainIter nm = true) (hd : ∀ i h, S i h → ∀ b ∈ fp, ∀ o, h.get? b = some o → ∀ es n, o.data ≠ .dict es n) : Itr W A I fp xs (fun _ => True) S where
  mem := Wk.sub I (by simp)
  frame := Wk.frame
  alive := ha
  nd := hd
  item := fun i s σ Q E hi st r _ hQ => Wk.item i s Q E (hm ▸ hi) st fun v h' tk hp st' hk => hQ v h' tk (hP i v (hm ▸ hi) hp) st' fun b o hb e => hk b o (by simpa using hb) e
  done := fun s σ Q E st r _ hQ => Wk.done s Q E (hm ▸ st) fun h' tk hk => hQ h' tk fun b o hb e => hk b o (by simpa using hb) e
  self := Wk.self
  own := fun i s ts k p v Q E st h => by obtain ⟨o, nm, e, hc, hp⟩ := hn _ _ st; exact own_tup e hc hp h

theorem rangeSize_one' (a b : Int) : Builtin.Range.rangeSize a b 1 = ((b - a).toNat : Int) := by
  unfold Builtin.Range.rangeSize; simp only [show (1 : Int) > 0 by omega, if_true, Int.ediv_one]; split <;> omega
theorem rangeSize_neg (a b : Int) : Builtin.Range.rangeSize a b (-1) = ((a - b).toNat : Int) := by
  unfold Builtin.Range.rangeSize; simp only [show ¬ ((-1 : Int) > 0) by omega, if_false, Int.neg_neg, Int.ediv_one]; split <;> omega
theorem rangeL_length (a b c : Int) (hc : c = 1 ∨ c = -1) : Builtin.Range.rangeSize a b c = ((rangeL a b c).length : Int) := by
  unfold rangeL
  rcases hc with rfl | rfl
  · rw [rangeSize_one']; simp
  · rw [rangeSize_neg]; simp
theorem rangeL_get (a b c : Int) (hc : c = 1 ∨ c = -1) {i : Nat} (hi : i < (rangeL a b c).length) : nth (ivs (rangeL a b c)) i = .int (a + (i : Int) * c) := by
  have e : (rangeL a b c)[i]? = some (a + (i : Int) * c) := by
    unfold rangeL at hi ⊢
    rcases hc with rfl | rfl
    · simp only [if_true, List.length_map, List.length_range] at hi
      simp only [if_true, List.getElem?_map, List.getElem?_range hi, Option.map_some, Int.mul_one]
    · have h1 : ¬ ((-1 : Int) = 1) := by omega
      simp only [h1, if_false, List.length_map, List.length_range] at hi
      simp only [h1, if_false, List.getElem?_map, List.getElem?_range hi, Option.map_some]
      congr 1; omega
  rw [nth_eq, List.getD_eq_getElem?_getD, ivs, List.getElem?_map, e]; rfl
theorem fits_of {x : Int} (h1 : -9223372036854775808 ≤ x) (h2 : x < 9223372036854775808) : Builtin.Range.rangeFitsLong x = true := by
  unfold Builtin.Range.rangeFitsLong; simp only [Bool.and_eq_true, decide_eq_true_eq]; omega
theorem fits_near {x d : Int} (h : small x) (h1 : -2 ≤ d) (h2 : d ≤ 2) : Builtin.Range.rangeFitsLong (x + d) = true := by
  unfold small at h; exact fits_of (by omega) (by omega)
theorem fits_small {x : Int} (h : small x) : Builtin.Range.rangeFitsLong x = true := by have := fits_near h (d := 0) (by decide) (by decide); rwa [Int.add_zero] at this
theorem fits_size {a b : Int} (ha : small a) (hb : small b) : Builtin.Range.rangeFitsLong ((b - a).toNat : Int) = true := by
  unfold small at ha hb; exact fits_of (by omega) (by omega)
theorem small_of {a b c : Int} (ha : small a) (hb : small b) (hc : c = 1 ∨ c = -1) : Builtin.Range.small a b c = true := by
  unfold Builtin.Range.small
  rw [fits_small ha, fits_small hb]
  rcases hc with rfl | rfl
  · rw [rangeSize_one', fits_size ha hb, if_pos (by decide), fits_near hb (by decide) (by decide), Bool.or_true]; rfl
  · rw [rangeSize_neg, fits_size hb ha, if_neg (by decide), fits_near hb (by decide) (by decide), Bool.or_true]; rfl


/-- an iterator that has just been made -/
noncomputable def Its (W : Wd) (A : Around) (σ : St) (I : Addr) (xs : List V) (chk : St → Prop) (h : Heap) : Prop := ∃ fp S, Itr W A I fp xs chk S ∧ S 0 h ∧ (∀ b ∈ fp, NoMut σ b) ∧ ∀ b ∈ fp, b = I ∨ ∃ x, σ b = some x
theorem mem1 {α : Type} {a b : α} (h : b ∈ [a]) : b = a := List.mem_singleton.mp h
theorem mem2 {α : Type} {a b x : α} (h : x ∈ [a, b]) : x = a ∨ x = b := (List.mem_cons.mp h).imp id mem1
theorem nomut_new (r : RelG W.H σ s) : NoMut σ s.heap.objs.size := fun x hx => by rw [r.fresh (get_size _)] at hx; cases hx
/-- over a sequence that does not change -/
theorem its_seq {a : Addr} {o : O} {xs : List V} {items : Array Value} {S : Nat → Heap → Prop} {h' : Heap} (r : RelG W.H σ s) (e : σ a = some o) (hm : o.mut = false) (Wk : Walks W.prog W.w A s.heap.objs.size [s.heap.objs.size, a] [s.heap.objs.size] items.size (fun i v => items[i]? = some v) S) (hx : items.toList.map ab = xs) (h0 : S 0 h')
    (hS : ∀ i h, S i h → (∃ o nm, h.get? s.heap.objs.size = some o ∧ o.cls = .type nm ∧ plainIter nm = true ∧ ∀ es n, o.data ≠ .dict es n) ∧ ∃ o, h.get? a = some o ∧ ∀ es n, o.data ≠ .dict es n) : Its W A σ s.heap.objs.size xs (fun _ => True) h' := by
  refine ⟨_, S, itr_of Wk (by rw [← hx, List.length_map]; rfl) (fun i v hi hP => ?_) (fun i h st b hb => ?_) (fun i h st => ?_) (fun i h st b hb o eo => ?_), h0, fun b hb => ?_, fun b hb => ?_⟩
  · rw [← hx, nth_map (x := v) (by rw [← Array.getElem?_toList] at hP; exact hP)]
  · obtain ⟨⟨o1, _, e1, _⟩, o2, e2, _⟩ := hS i h st
    rcases mem2 hb with rfl | rfl
    · exact ⟨_, e1⟩
    · exact ⟨_, e2⟩
  · obtain ⟨⟨o1, nm, e1, c1, p1, _⟩, _⟩ := hS i h st
    exact ⟨o1, nm, e1, c1, p1⟩
  · obtain ⟨⟨o1, _, e1, _, _, d1⟩, o2, e2, d2⟩ := hS i h st
    rcases mem2 hb with rfl | rfl
    · rw [e1] at eo; cases eo; exact d1
    · rw [e2] at eo; cases eo; exact d2
  · rcases mem2 hb with rfl | rfl
    · exact nomut_new r
    · intro x hx; rw [e] at hx; cases hx; exact hm
  · exact (mem2 hb).imp id fun (q : b = a) => ⟨o, q ▸ e⟩
theorem iter_ok {xv : Value} {K : List V → (St → Prop) → Prop} (h : iterW (ab xv) σ K) (A : Around) (s : Shared) (Z : Value → Shared → Prop) (R : Room n A) (r : RelG W.H σ s)
    (z : ∀ xs chk h', K xs chk → Its W A σ s.heap.objs.size xs chk h' → (∀ b o, s.heap.get? b = some o → h'.get? b = some o) → Z (.ref s.heap.objs.size) { s with heap := h' }) : wpAny W.M A (pyIter xv) Z NoE s := by
  refine ref_on (G := fun xv => wpAny W.M A (pyIter xv) Z NoE s) h fun a o e h => ?_
  have Ro := r.objs a o e
  have hne : a ≠ s.heap.objs.size := by obtain ⟨oa, hoa⟩ := Ro.get; exact Nat.ne_of_lt (Heap.lt_size hoa)
  cases o with
  | lst xs =>
    obtain ⟨items, hp, hm, hz⟩ := Ro
    exact wpAny_pyIter_list hp.isList (z xs _ _ h ⟨[s.heap.objs.size], _, itr_lst R.handled _ a hne xs, ⟨_, Heap.get?_push_size _ rfl, rfl, rfl⟩, fun b hb => by rw [mem1 hb]; exact nomut_new r, fun b hb => .inl (mem1 hb)⟩ fun _ _ e => Heap.get?_push_of_some _ e)
  | ro xs =>
    obtain ⟨items, hp, hm, hz⟩ := Ro
    refine wpAny_pyIter_list hp (z xs _ _ h (its_seq r e rfl (Walks.list R.handled _ a hne items) hm ⟨⟨_, Heap.get?_push_size _ rfl, rfl, rfl⟩, hp.push _⟩ fun i h st => ?_) fun _ _ e => Heap.get?_push_of_some _ e)
    obtain ⟨⟨o1, e1, c1, d1⟩, ⟨o2, e2, _, _, d2⟩⟩ := st
    exact ⟨⟨o1, _, e1, c1, by decide, fun es n q => by rw [d1] at q; cases q⟩, o2, e2, fun es n q => by rw [d2] at q; cases q⟩
  | tup xs =>
    obtain ⟨items, hp, hm, hz⟩ := Ro
    refine wpAny_pyIter_tuple hp (z xs _ _ h (its_seq r e rfl (Walks.tuple R.handled _ a hne items) hm ⟨⟨_, Heap.get?_push_size _ rfl, rfl, rfl⟩, IsTup.push hp _⟩ fun i h st => ?_) fun _ _ e => Heap.get?_push_of_some _ e)
    obtain ⟨⟨o1, e1, c1, d1⟩, ⟨o2, e2, _, _, d2⟩⟩ := st
    exact ⟨⟨o1, _, e1, c1, by decide, fun es n q => by rw [d1] at q; cases q⟩, o2, e2, fun es n q => by rw [d2] at q; cases q⟩
  | rng lo hi st =>
    obtain ⟨t, u, w, hr⟩ := Ro
    obtain ⟨h1, h2, h3, h⟩ := h
    refine wpAny_pyIter_range hr (small_of h1 h2 h3) (z _ _ _ h ⟨[s.heap.objs.size], _, itr_of (Walks.range R.handled _ lo st (rangeL lo hi st).length) (by rw [ivs, List.length_map]) (fun i v hi' hP => ?_) (fun i h st b hb => ?_) (fun i h st => ⟨_, _, st, rfl, by decide⟩) (fun i h st b hb o e es n q => ?_), ?_, fun b hb => by rw [mem1 hb]; exact nomut_new r, fun b hb => .inl (mem1 hb)⟩ fun _ _ e => Heap.get?_push_of_some _ e)
    · obtain ⟨t', rfl⟩ := hP; rw [rangeL_get _ _ _ h3 hi']; rfl
    · rw [mem1 hb]; exact ⟨_, st⟩
    · rw [mem1 hb, show h.get? _ = some _ from st] at e; cases e; cases q
    · show IsRangeIter _ _ _ _ _
      have e := Heap.get?_push_size s.heap (o := { cls := .type "range_iterator", data := .fields #[rawInt lo, rawInt (Builtin.Range.rangeSize lo hi st), rawInt st] }) rfl
      rw [rangeL_length _ _ _ h3] at e
      unfold IsRangeIter
      simpa [rangeL_length _ _ _ h3] using e
  | _ => exact h.elim

section
variable {I : Addr} {fp : List Addr} {xs : List V} {chk : St → Prop} {S : Nat → Heap → Prop} {i : Nat}
noncomputable def J (I : Addr) (fp : List Addr) (S : Nat → Heap → Prop) (i : Nat) (σ : St) (s : Shared) : Prop := S i s.heap ∧ σ I = none ∧ ∀ b ∈ fp, NoMut σ b
theorem J.step (j : J I fp S i σ s) (X : Itr W A I fp xs chk S) (t : Stp L σ s σ' s') (hL : ∀ b ∈ fp, ¬ L b) : J I fp S i σ' s' :=
  ⟨X.frame _ _ _ j.1 fun b hb o e => t.keep b o e (j.2.2 b hb) (hL b hb) (X.nd _ _ j.1 b hb o e),
   let ⟨_, e⟩ := X.alive _ _ j.1 I X.mem; t.off j.2.1 e, fun b hb => let ⟨_, e⟩ := X.alive _ _ j.1 b hb; t.nomut (j.2.2 b hb) e⟩
/-- only I is changed -/
structure Only (I : Addr) (s s' : Shared) : Prop where
  keep : ∀ b o, b ≠ I → s.heap.get? b = some o → s'.heap.get? b = some o
  rest : ∃ h t, s' = { s with heap := h, toks := t }
theorem RelG.only {H : Heap} (r : RelG H σ s) (o : Only I s s') (hσ : σ I = none) (hH : H.get? I = none) : RelG H σ s' := r.hidden (L := fun b => b = I) (fun b hb => by rw [hb]; exact ⟨hσ, hH⟩) o.keep
theorem Rel.only {H : Heap} {env : Env} (r : Rel H A env σ fr s) (o : Only I s s') (hσ : σ I = none) (hH : H.get? I = none) (hL : env.locals ≠ I) (hd : ∀ o es n, s.heap.get? I = some o → o.data ≠ .dict es n) : Rel H A env σ fr s' :=
  ⟨r.toRelG.only o hσ hH, let ⟨m, hn, hf⟩ := r.ns; ⟨m, hn.at' fun ob e => o.keep _ ob hL e, hf⟩, r.off, r.new, r.frs.mono fun b ob es n e hdb hσb => ⟨hσb, ob, es, n, o.keep b ob (fun q => hd ob es n (q ▸ e) hdb) e, hdb⟩⟩
theorem Stp.only (o : Only I s s') (hL : L I) (ha : ∃ o', s'.heap.get? I = some o') : Stp L σ s σ s' :=
  .hidden (fun b ob hb e => o.keep b ob (fun q => hb (q ▸ hL)) e) (fun b ob hb e => by
    by_cases q : b = I
    · rw [q]; exact ha
    · exact ⟨ob, o.keep b ob q e⟩) o.rest
/-- at the end of a walk that began behind s0 the iterator itself is of no account -/
theorem Stp.endW {σ0 : St} {s0 : Shared} (t : Stp (fun b => b = I ∨ L b) σ0 s0 σ s) (o : Only I s s') (h0 : s0.heap.get? I = none) : Stp L σ0 s0 σ s' := by
  have ne : ∀ {b ob}, s0.heap.get? b = some ob → b ≠ I := fun e q => by rw [q, h0] at e; cases e
  refine ⟨fun b ob e hm hl hd => o.keep b ob (ne e) (t.keep b ob e hm (fun q => q.elim (ne e) hl) hd), fun b ob e hm hl => ?_, t.dom, fun b ob e => ?_, ?_⟩
  · obtain ⟨sl, e'⟩ := t.look b ob e hm fun q => q.elim (ne e) hl
    exact ⟨sl, o.keep b _ (ne e) e'⟩
  · obtain ⟨o', e'⟩ := t.alive b ob e
    exact ⟨o', o.keep b o' (ne e) e'⟩
  · obtain ⟨h1, t1, e1⟩ := t.rest
    obtain ⟨h2, t2, e2⟩ := o.rest
    exact ⟨h2, t2, by rw [e2, e1]⟩
theorem Only.refl : Only I s s := ⟨fun _ _ _ e => e, s.heap, s.toks, rfl⟩
theorem Itr.next (X : Itr W A I fp xs chk S) (j : J I fp S i σ s) (r : RelG W.H σ s) (hc : chk σ) (hi : i < xs.length) {Z : Option Value → Shared → Prop} {E : Value → Shared → Prop} (z : ∀ v s', ab v = nth xs i → J I fp S (i + 1) σ s' → Only I s s' → Z (some v) s') : wpAny W.M A (pyNext (.ref I)) Z E s :=
  X.item i s σ Z E hi j.1 r hc fun v h' tk hv hS hk => z v _ hv ⟨hS, j.2.1, j.2.2⟩ ⟨fun b o hb e => hk b o hb e, h', tk, rfl⟩
theorem Itr.stop (X : Itr W A I fp xs chk S) (j : J I fp S xs.length σ s) (r : RelG W.H σ s) (hc : chk σ) {Z : Option Value → Shared → Prop} {E : Value → Shared → Prop} (z : ∀ s', Only I s s' → Z none s') : wpAny W.M A (pyNext (.ref I)) Z E s :=
  X.done s σ Z E j.1 r hc fun h' tk hk => z _ ⟨fun b o hb e => hk b o hb e, h', tk, rfl⟩
theorem Itr.nod (X : Itr W A I fp xs chk S) (j : J I fp S i σ s) : ∀ o es n, s.heap.get? I = some o → o.data ≠ .dict es n := fun o es n e => X.nd _ _ j.1 I X.mem o e es n
theorem drop_nth (h : i < xs.length) : xs.drop i = nth xs i :: xs.drop (i + 1) := by
  rw [nth_eq, List.getD_eq_getElem?_getD, List.getElem?_eq_getElem h]
  exact List.drop_eq_getElem_cons h
end
end Mine

end
section -- B11
namespace Mine
variable {W : Wd} {n k : Nat} {c : Cx} {env : Env} {cs : List Addr} {fr : List V} {σ σ' : St} {A : Around} {s s' : Shared} {L : Addr → Prop}

noncomputable def caddrs : Nat → List (Str × NameKind) → List Addr
  | _, [] => []
  | m, (_, k) :: r => if k == .cell then m :: caddrs (m + 1) r else 0 :: caddrs m r
noncomputable def cset : Nat → List (Str × NameKind) → (Str → V) → St → St
  | _, [], _, σ => σ
  | m, (x, k) :: r, b, σ => if k == .cell then cset (m + 1) r b (σ.set m (.cell (b x))) else cset m r b σ
theorem cset_spec {b : Str → V} : ∀ (names : List (Str × NameKind)) (m : Nat) (σ : St) (a : Nat) (x : O), cset m names b σ a = some x → σ a = some x ∨ (m ≤ a ∧ ∃ (i : Nat) (y : Str), names[i]? = some (y, NameKind.cell) ∧ (caddrs m names)[i]? = some a ∧ x = .cell (b y))
  | [], m, σ, a, x, h => .inl h
  | (z, k) :: r, m, σ, a, x, h => by
    unfold cset at h
    unfold caddrs
    by_cases hk : (k == NameKind.cell) = true
    · rw [if_pos hk] at h ⊢
      rcases cset_spec r (m + 1) _ a x h with e | ⟨hm, i, y, h1, h2, h3⟩
      · by_cases ha : a = m
        · subst ha
          rw [St.set_same] at e
          refine .inr ⟨Nat.le_refl _, 0, z, ?_, rfl, (Option.some.inj e).symm⟩
          rw [eq_of_beq hk]; rfl
        · rw [St.set_other _ _ ha] at e; exact .inl e
      · exact .inr ⟨by omega, i + 1, y, by simpa using h1, by simpa using h2, h3⟩
    · rw [if_neg hk] at h ⊢
      rcases cset_spec r m _ a x h with e | ⟨hm, i, y, h1, h2, h3⟩
      · exact .inl e
      · exact .inr ⟨hm, i + 1, y, by simpa using h1, by simpa using h2, h3⟩
theorem cset_new {b : Str → V} : ∀ (names : List (Str × NameKind)) (m : Nat) (σ : St) (a : Nat), a < m → cset m names b σ a = σ a
  | [], _, _, _, _ => rfl
  | (z, k) :: r, m, σ, a, h => by
    unfold cset
    by_cases hk : (k == NameKind.cell) = true
    · rw [if_pos hk, cset_new r (m + 1) _ a (Nat.lt_succ_of_lt h), St.set_other _ _ (show a ≠ m from Nat.ne_of_lt h)]
    · rw [if_neg hk, cset_new r m _ a h]
theorem cellsFrom_keep {y : Str} {c : Addr} : ∀ (l : List (Str × NameKind)) (m : Nat) (acc : List (Str × Addr)), (∀ p ∈ l, p.1 = y → p.2 ≠ .cell) → acc.lookup y = some c → (cellsFrom m l acc).lookup y = some c
  | [], m, acc, _, h => h
  | (z, k') :: l, m, acc, hy, h => by
    have hl := fun p hp => hy p (List.mem_cons_of_mem _ hp)
    unfold cellsFrom
    by_cases hk : (k' == NameKind.cell) = true
    · rw [if_pos hk]
      refine cellsFrom_keep l _ _ hl ?_
      have e1 : (y == z) = false := by
        rw [beq_eq_false_iff_ne]
        exact fun e => hy (z, k') List.mem_cons_self e.symm (eq_of_beq hk)
      rw [List.lookup_cons, e1]; exact h
    · rw [if_neg hk]; exact cellsFrom_keep l _ _ hl h
theorem cellsFrom_get {x : Str} : ∀ (names : List (Str × NameKind)) (m i : Nat) (acc : List (Str × Addr)), (names.map (·.1)).Nodup → names[i]? = some (x, NameKind.cell) → (cellsFrom m names acc).lookup x = some ((caddrs m names).getD i 0)
  | [], m, i, acc, _, h => by simp at h
  | (y, k) :: r, m, i, acc, hn, h => by
    obtain ⟨h1, h2⟩ := List.nodup_cons.mp (by simpa using hn : (y :: r.map (·.1)).Nodup)
    unfold cellsFrom caddrs
    cases i with
    | zero =>
      simp at h
      obtain ⟨rfl, rfl⟩ := h
      have hkk : (NameKind.cell == NameKind.cell) = true := rfl
      rw [if_pos hkk, if_pos hkk]
      exact cellsFrom_keep r (m + 1) _ (fun p hp e => absurd (List.mem_map.mpr ⟨p, hp, e⟩) h1) (by simp [List.lookup])
    | succ i =>
      have h' : r[i]? = some (x, NameKind.cell) := by simpa using h
      by_cases hk : (k == NameKind.cell) = true
      · rw [if_pos hk, if_pos hk, cellsFrom_get r (m + 1) i _ h2 h']; rfl
      · rw [if_neg hk, if_neg hk, cellsFrom_get r m i _ h2 h']; rfl
theorem caddrs_len : ∀ (names : List (Str × NameKind)) (m : Nat), (caddrs m names).length = names.length
  | [], _ => rfl
  | (_, k) :: r, m => by
    unfold caddrs
    split <;> rw [List.length_cons, List.length_cons, caddrs_len r]

theorem nodup_lookup : ∀ {ns : List (Str × NameKind)}, (ns.map (·.1)).Nodup → ∀ {i : Nat} {x : Str} {k : NameKind}, ns[i]? = some (x, k) → ns.lookup x = some k ∧ place ns x = i
  | [], _, i, x, k, h => by simp at h
  | (y, k') :: r, hn, i, x, k, h => by
    obtain ⟨h1, h2⟩ := List.nodup_cons.mp (by simpa using hn : (y :: r.map (·.1)).Nodup)
    cases i with
    | zero => simp at h; obtain ⟨rfl, rfl⟩ := h; simp [List.lookup, place, List.findIdx_cons]
    | succ i =>
      have h' : r[i]? = some (x, k) := by simpa using h
      have hx : x ∈ r.map (·.1) := List.mem_map.mpr ⟨(x, k), List.mem_of_getElem? h', rfl⟩
      have hxy : x ≠ y := fun e => h1 (e ▸ hx)
      obtain ⟨a, b⟩ := nodup_lookup h2 h'
      have e1 : (x == y) = false := by simpa using hxy
      have e2 : (y == x) = false := by simpa using fun e : y = x => hxy e.symm
      exact ⟨by rw [List.lookup_cons, e1]; exact a, by unfold place at b ⊢; rw [List.findIdx_cons, e2]; simpa using b⟩

theorem closureFor_ok (K : EnvOK W env cs) {sc : Scope} {cl : List (Str × NameKind) → List (Str × Addr) → List (Str × Addr)}
    (hcl0 : ∀ acc, cl [] acc = acc) (hcl1 : ∀ p r acc, cl (p :: r) acc = cl r (if p.2 == .free then (p.1, nthA cs (place env.scope.names p.1)) :: acc else acc))
    (h : ∀ p ∈ sc.names, p.2 = .free → env.scope.names.lookup p.1 = some .cell ∨ env.scope.names.lookup p.1 = some .free) : closureFor sc env = pure (cl sc.names []) := by
  unfold closureFor
  have g : ∀ (l : List (Str × NameKind)) (acc : List (Str × Addr)), (∀ p ∈ l, p.2 = .free → env.scope.names.lookup p.1 = some .cell ∨ env.scope.names.lookup p.1 = some .free) →
      (forIn l acc fun (x : Str × NameKind) (cs : List (Str × Addr)) => match x with | (name, kind) => (if (kind == NameKind.free) = true then do let c ← cellOf env name; pure (ForInStep.yield ((name, c) :: cs)) else pure (ForInStep.yield cs) : Sem _)) = pure (cl l acc) := by
    intro l
    induction l with
    | nil => intro acc _; rw [hcl0]; rfl
    | cons p r ih =>
      intro acc hp
      obtain ⟨y, k⟩ := p
      rw [List.forIn_cons, hcl1]
      by_cases hk : (k == NameKind.free) = true
      · have hk' : k = .free := eq_of_beq hk
        have hl : ∃ k', env.scope.names.lookup y = some k' ∧ (k' = .cell ∨ k' = .free) := by
          rcases hp (y, k) (by simp) hk' with e | e
          · exact ⟨_, e, .inl rfl⟩
          · exact ⟨_, e, .inr rfl⟩
        obtain ⟨k', e, hk2⟩ := hl
        have hc := (K.cell _ _ _ (place_of e) hk2).1
        have ec : cellOf env y = pure (nthA cs (place env.scope.names y)) := by unfold cellOf; rw [hc, nthA_eq]
        simp only [hk, if_true, ec]
        exact ih _ fun p hp' => hp p (by simp [hp'])
      · simp only [hk, Bool.false_eq_true, if_false]
        exact ih _ fun p hp' => hp p (by simp [hp'])
  exact (congrArg (fun t : Sem (List (Str × Addr)) => t >>= fun cs => pure cs) (g sc.names [] h)).trans rfl

noncomputable def clOf (ons : List (Str × NameKind)) (cs : List Addr) : List (Str × NameKind) → List (Str × Addr) → List (Str × Addr)
  | [], acc => acc
  | p :: r, acc => clOf ons cs r (if p.2 == .free then (p.1, nthA cs (place ons p.1)) :: acc else acc)
theorem clOf_lookup {ons : List (Str × NameKind)} {x : Str} : ∀ (l : List (Str × NameKind)) (acc : List (Str × Addr)), (acc.lookup x = some (nthA cs (place ons x)) ∨ (x, NameKind.free) ∈ l) →
    (∀ p ∈ acc, p.1 = x → p.2 = nthA cs (place ons x)) → (clOf ons cs l acc).lookup x = some (nthA cs (place ons x))
  | [], acc, h, _ => by
    rcases h with h | h
    · exact h
    · cases h
  | (y, k) :: r, acc, h, hacc => by
    unfold clOf
    by_cases hk : (k == NameKind.free) = true
    · simp only [hk, if_true]
      refine clOf_lookup r _ ?_ fun p hp e => ?_
      · by_cases hxy : x = y
        · subst hxy; exact .inl (by simp [List.lookup])
        · have e1 : (x == y) = false := by simpa using hxy
          rcases h with h | h
          · exact .inl (by rw [List.lookup_cons, e1]; exact h)
          · rcases List.mem_cons.mp h with e | h
            · cases e; exact absurd rfl hxy
            · exact .inr h
      · rcases List.mem_cons.mp hp with rfl | hp
        · simp only at e; subst e; rfl
        · exact hacc p hp e
    · simp only [hk, Bool.false_eq_true, if_false]
      refine clOf_lookup r acc ?_ hacc
      rcases h with h | h
      · exact .inl h
      · rcases List.mem_cons.mp h with e | h
        · cases e; simp at hk
        · exact .inr h

theorem rl_names (K : EnvOK W env cs) (sc : Scope) : (relabel sc env).names = rl env.scope.names sc.names := by
  unfold relabel rl
  have hk : (env.scope.kind == ScopeKind.function) = true := by rw [K.kind]; rfl
  simp only [hk]
  rfl
theorem rl_get {ns inner : List (Str × NameKind)} {i : Nat} {x : Str} {k : NameKind} (h : (rl ns inner)[i]? = some (x, k)) : ∃ k', inner[i]? = some (x, k') ∧ (k = k' ∨ k = .cell ∧ k' = .free) := by
  unfold rl at h
  rw [List.getElem?_map] at h
  cases e : inner[i]? with
  | none => rw [e] at h; cases h
  | some p =>
    obtain ⟨y, k'⟩ := p
    rw [e] at h
    simp only [Option.map_some, Option.some.injEq] at h
    split at h
    · rename_i hc
      simp only [Bool.and_true, Bool.and_eq_true] at hc
      cases h
      exact ⟨k', rfl, .inr ⟨rfl, eq_of_beq hc.1⟩⟩
    · cases h; exact ⟨_, rfl, .inl rfl⟩
theorem rl_map (ns inner : List (Str × NameKind)) : (rl ns inner).map (·.1) = inner.map (·.1) := by
  unfold rl
  rw [List.map_map]
  apply List.map_congr_left
  intro p _
  obtain ⟨y, k⟩ := p
  simp only [Function.comp]
  split <;> rfl

theorem scOk_facts {ns : List (Str × NameKind)} {sc : Scope} {x : Str} (h : scOk ns sc x = true) : sc.kind = .function ∧ (sc.names.map (·.1)).Nodup ∧ sc.names.lookup x = some .local ∧ (∀ p ∈ sc.names, p.2 ≠ .cell) ∧ (∀ p ∈ sc.names, p.1 ≠ ("__classdict__" : Str)) ∧
    (∀ p ∈ sc.names, p.2 = .free → ns.lookup p.1 = some .cell ∨ ns.lookup p.1 = some .free) := by
  unfold scOk at h
  simp only [Bool.and_eq_true, decide_eq_true_eq, beq_iff_eq, List.all_eq_true, bne_iff_ne, Bool.or_eq_true] at h
  obtain ⟨⟨⟨h1, h2⟩, h3⟩, h4⟩ := h
  refine ⟨h1, h2, h3, fun p hp => (h4 p hp).1.1, fun p hp => (h4 p hp).1.2, fun p hp e => ?_⟩
  rcases (h4 p hp).2 with (q | q) | q
  · exact absurd e q
  · exact .inl q
  · exact .inr q

theorem folded_ok {it : PySem.Expr} (h : noSet it = true) : ∀ x, foldedSetIterable it env x = pure x := by
  intro x; cases it <;> first | rfl | cases h
/-- the cells of a block: its own from m on, the others as they are -/
noncomputable def ownC : Nat → List (Str × NameKind) → List Addr → List Addr
  | _, [], _ => []
  | _, _ :: _, [] => []
  | m, p :: r, a :: l => if p.2 == .cell then m :: ownC (m + 1) r l else a :: ownC m r l
theorem ownC_no : ∀ (names : List (Str × NameKind)) (l : List Addr) (m : Nat), l.length = names.length → (∀ p ∈ names, p.2 ≠ .cell) → ownC m names l = l
  | [], [], _, _, _ => rfl
  | p :: r, a :: l, m, hl, h => by
    unfold ownC
    rw [if_neg (fun e => h p List.mem_cons_self (eq_of_beq e)), ownC_no r l m (Nat.succ.inj hl) fun q hq => h q (List.mem_cons_of_mem _ hq)]
theorem cset_no {b : Str → V} : ∀ (names : List (Str × NameKind)) (m : Nat) (σ : St), (∀ p ∈ names, p.2 ≠ .cell) → cset m names b σ = σ
  | [], _, _, _ => rfl
  | p :: r, m, σ, h => by
    unfold cset
    rw [if_neg (fun e => h p List.mem_cons_self (eq_of_beq e)), cset_no r m σ fun q hq => h q (List.mem_cons_of_mem _ hq)]
theorem ownC_get : ∀ (names : List (Str × NameKind)) (l : List Addr) (m i : Nat) (y : Str) (k : NameKind), l.length = names.length → names[i]? = some (y, k) → (ownC m names l)[i]? = some (if k == .cell then (caddrs m names).getD i 0 else l.getD i 0)
  | [], _, _, _, _, _, _, h => by cases h
  | p :: r, [], _, _, _, _, hl, _ => by cases hl
  | p :: r, a :: l, m, 0, y, k, hl, h => by
    cases h
    unfold ownC caddrs
    by_cases hk : (k == NameKind.cell) = true
    · rw [if_pos hk, if_pos hk, if_pos hk]; rfl
    · rw [if_neg hk, if_neg hk]; rfl
  | p :: r, a :: l, m, i + 1, y, k, hl, h => by
    have ih := fun m => ownC_get r l m i y k (Nat.succ.inj hl) h
    unfold ownC caddrs
    by_cases hk : (p.2 == NameKind.cell) = true
    · rw [if_pos hk, if_pos hk]; exact ih (m + 1)
    · rw [if_neg hk, if_neg hk]; exact ih m
theorem ownC_len : ∀ (names : List (Str × NameKind)) (l : List Addr) (m : Nat), l.length = names.length → (ownC m names l).length = names.length
  | [], _, _, _ => rfl
  | _ :: _, [], _, h => by cases h
  | p :: r, a :: l, m, h => by
    unfold ownC
    split <;> rw [List.length_cons, List.length_cons, ownC_len r l _ (Nat.succ.inj h)]
/-- what is asked of a block's names -/
structure Blk (ns : List (Str × NameKind)) (sc : Scope) : Prop where
  kind : sc.kind = .function
  nodup : (sc.names.map (·.1)).Nodup
  nocls : ∀ p ∈ sc.names, p.1 ≠ ("__classdict__" : Str)
  free : ∀ p ∈ sc.names, p.2 = .free → ns.lookup p.1 = some .cell ∨ ns.lookup p.1 = some .free
noncomputable def cmOf (c : Cx) (sc : Scope) : List Addr := (sc.names.map fun p => place c.ns p.1).map (nthA c.cs)
theorem cmOf_len (c : Cx) (sc : Scope) : (cmOf c sc).length = sc.names.length := by unfold cmOf; rw [List.length_map, List.length_map]
/-- the environment of a comprehension's block -/
theorem compEnv_ok {sc : Scope} (B : Blk c.ns sc) (C : Addr) :
    EnvOK c.W (compEnvC sc (cellsFrom (C + 1) sc.names (clOf c.ns c.cs sc.names [])) C c.env) (ownC (C + 1) sc.names (cmOf c sc)) := by
  have hnm : (compEnvC sc (cellsFrom (C + 1) sc.names (clOf c.ns c.cs sc.names [])) C c.env).scope.names = rl c.ns sc.names := rl_names c.ok sc
  refine ⟨B.kind, c.ok.glob, c.ok.bts, by rw [hnm, rl_map]; exact B.nodup, fun i y k hi hk => ?_, fun P hP => ?_⟩
  · rw [hnm] at hi
    obtain ⟨k', e, hk'⟩ := rl_get hi
    refine ⟨?_, B.nocls _ (List.mem_of_getElem? e)⟩
    show (cellsFrom (C + 1) sc.names (clOf c.ns c.cs sc.names [])).lookup y = _
    rw [List.getD_eq_getElem?_getD, ownC_get _ _ _ _ _ _ (cmOf_len c sc) e]
    by_cases hc : k' = .cell
    · rw [hc] at e ⊢
      exact cellsFrom_get _ _ _ _ B.nodup e
    · have hf : k' = .free := by
        rcases hk' with rfl | ⟨_, e'⟩
        · exact hk.resolve_left hc
        · exact e'
      rw [hf] at e ⊢
      have := clOf_lookup (ons := c.ns) (cs := c.cs) sc.names [] (.inr (List.mem_of_getElem? e)) (fun p hp => nomatch hp)
      rw [cellsFrom_keep sc.names _ _ (fun p hp q => ?_) this]
      · congr 1
        show _ = (cmOf c sc).getD i 0
        unfold cmOf
        rw [List.getD_eq_getElem?_getD, List.getElem?_map, List.getElem?_map, e]; rfl
      · obtain ⟨j, hj⟩ := List.getElem?_of_mem hp
        have h1 := (nodup_lookup B.nodup (show sc.names[j]? = some (y, p.2) by rw [hj, ← q])).1
        rw [(nodup_lookup B.nodup e).1] at h1
        rw [← Option.some.inj h1]; nofun
  · rw [hnm, show (rl c.ns sc.names).length = sc.names.length by unfold rl; rw [List.length_map], List.getElem?_eq_none (by rw [ownC_len _ _ _ (cmOf_len c sc)]; exact Nat.le_refl _)] at hP
    cases hP
noncomputable def compCx (c : Cx) {sc : Scope} (B : Blk c.ns sc) (C : Addr) : Cx := ⟨c.W, c.n, c.gl, _, _, compEnv_ok B C, c.G⟩
theorem compCx_ns {sc : Scope} (B : Blk c.ns sc) (C : Addr) : (compCx c B C).ns = rl c.ns sc.names := rl_names c.ok sc
theorem compCx_x {sc : Scope} (B : Blk c.ns sc) (C : Addr) {e : PySem.Expr} (he : SE k e) {Q : V → St → Prop} (hx : xW c.W c.n (er c.gl k (rl c.ns sc.names) e) (compCx c B C).cs fr σ Q) : GV (compCx c B C) fr σ (eval e (compCx c B C).env) fun v => Q (ab v) :=
  he (compCx c B C) fr σ Q (by rw [compCx_ns]; exact hx)
theorem scOk_blk {ns : List (Str × NameKind)} {sc : Scope} {x : Str} (h : scOk ns sc x = true) : Blk ns sc := let ⟨h1, h2, _, _, h5, h6⟩ := scOk_facts h; ⟨h1, h2, h5, h6⟩
theorem wpW {α : Type} {M : Model} {t : Sem α} {Z : α → Shared → Prop} {E : Value → Shared → Prop} (h : wpAny M A t Z NoE s) : wpAny M A t Z E s := wpAny_mono h (fun _ _ q => q) fun _ _ x => x.elim
noncomputable def tests (ifs : List PySem.Expr) (env : Env) (b : Bool) : Sem Bool := forIn ifs b fun c r => if r = true then do let ok ← isTrue c env (eval c env); pure (ForInStep.yield ok) else pure (ForInStep.yield r)
theorem tests_no {Q : Bool → St → Prop} (q : Q false σ) : ∀ ifs : List PySem.Expr, GV c fr σ (tests ifs c.env false) Q
  | [] => GV.pure q
  | _ :: r => by
    unfold tests; rw [List.forIn_cons]
    exact GV.bind (GV.pure (a := ForInStep.yield false) (Q := fun a σ' => a = .yield false ∧ σ' = σ) ⟨rfl, rfl⟩) fun a σ1 h => by rw [h.1, h.2]; exact tests_no q r
theorem tests_ok : ∀ (ifs : List PySem.Expr), (∀ e ∈ ifs, ST k e) → ∀ (c : Cx) fr σ Q, c.t (andX (ifs.map (er c.gl k c.ns))) fr σ Q → GV c fr σ (tests ifs c.env true) Q
  | [], _ => fun c fr σ Q h => GV.pure h
  | [e], hs => fun c fr σ Q h => by
    unfold tests; rw [List.forIn_cons]
    refine GV.bind (Q1 := fun a σ' => ∃ b, a = .yield b ∧ Q b σ') (GV.bind (hs e (.head _) c fr σ Q h) fun b σ1 h1 => GV.pure ⟨b, rfl, h1⟩) fun a σ1 h => ?_
    obtain ⟨b, rfl, h⟩ := h
    exact GV.pure h
  | e :: e' :: r, hs => fun c fr σ Q h => by
    unfold tests; rw [List.forIn_cons]
    refine GV.bind (Q1 := fun a σ' => ∃ b, a = .yield b ∧ if b = true then c.t (andX ((e' :: r).map (er c.gl k c.ns))) fr σ' Q else Q false σ') (GV.bind (hs e (.head _) c fr σ _ h) fun b σ1 h1 => GV.pure ⟨b, rfl, h1⟩) fun a σ1 h => ?_
    obtain ⟨b, rfl, h⟩ := h
    exact gv_if (t := fun b => tests (e' :: r) c.env b) h (fun h => tests_ok (e' :: r) (fun v hv => hs v (.tail _ hv)) c fr σ1 Q h) fun h => tests_no h _
end Mine

end
section -- B12
namespace Mine
variable {W : Wd} {n k : Nat} {c : Cx} {env : Env} {cs : List Addr} {fr : List V} {σ σ' : St} {A : Around} {s s' : Shared} {L : Addr → Prop}

theorem frame_set {ns : List (Str × NameKind)} {x : Str} {v : Value} {m : Str → Option Value} (hn : (ns.map (·.1)).Nodup) (hx : ns.lookup x = some .local) (hf : FrameR ns fr m) :
    FrameR ns (setN fr (place ns x) (ab v)) (fun y => if y = x then some v else m y) := by
  intro i y hi hu
  rw [setN_eq] at hu ⊢
  by_cases e : i = place ns x
  · have h1 := place_of hx
    rw [← e, hi] at h1
    have hyx : y = x := (Prod.mk.inj (Option.some.inj h1)).1
    subst hyx
    refine ⟨v, if_pos rfl, ?_⟩
    rw [List.getD_eq_getElem?_getD, List.getElem?_set, if_pos e.symm] at hu ⊢
    split
    · rfl
    · rename_i hlt; rw [if_neg hlt] at hu; exact absurd rfl hu
  · have hne : y ≠ x := fun q => by
      subst q
      exact e (nodup_lookup hn hi).2.symm
    rw [List.getD_eq_getElem?_getD, List.getElem?_set_ne (fun q => e q.symm), ← List.getD_eq_getElem?_getD] at hu ⊢
    obtain ⟨v', h1, h2⟩ := hf i y hi hu
    exact ⟨v', (if_neg hne).trans h1, h2⟩
/-- a local name is bound -/
theorem store_loc {x : Str} {vv : Value} (hl : c.ns.lookup x = some .local) (r : Rel c.W.H A c.env σ fr s) {Z : Unit → Shared → Prop} {E : Value → Shared → Prop} (z : ∀ s', Rel c.W.H A c.env σ (setN fr (place c.ns x) (ab vv)) s' → Stp (At c.env.locals) σ s σ s' → Only c.env.locals s s' → (∃ m, s'.heap.Ns c.env.locals (fun y => if y = x then some vv else m y) ∧ FrameR c.ns fr m) → Z () s') : wpAny c.W.M A (storeName c.env x vv) Z E s := by
  obtain ⟨m, hn, hf⟩ := r.ns
  refine wpAny_storeName_local hl hn (fun h' hn' hs' => ?_) (by rw [c.ok.kind]; rfl)
  have hk : ∀ b o, ¬ At c.env.locals b → s.heap.get? b = some o → h'.get? b = some o := fun b o hb e => (hs'.2 b hb).trans e
  refine z _ ⟨r.toRelG.hidden (L := At c.env.locals) (fun b hb => by rw [show b = c.env.locals from hb]; exact ⟨r.off, r.new⟩) hk, ⟨_, hn', frame_set c.ok.nodup hl hf⟩, r.off, r.new, r.frs.at hs' hn'⟩ ?_ ⟨fun b o hb e => hk b o hb e, h', _, rfl⟩ ⟨m, hn', hf⟩
  exact .hidden hk (fun b o hb _ => by rw [show b = c.env.locals from hb]; obtain ⟨o, _, _, e, _⟩ := hn'; exact ⟨o, e⟩) ⟨h', _, rfl⟩
/-- a slot is forgotten -/
theorem Rel.unset {H : Heap} {i : Nat} {v : V} (r : Rel H A env σ (setN fr i v) s) (hi : nth fr i = .undef) : Rel H A env σ fr s :=
  ⟨r.toRelG, let ⟨m, hn, hf⟩ := r.ns; ⟨m, hn, fun j y hj hu => by
    have e : (setN fr i v).getD j .undef = fr.getD j .undef := by
      rw [setN_eq, List.getD_eq_getElem?_getD, List.getElem?_set_ne (fun q => hu (by rw [← q, ← nth_eq]; exact hi)), ← List.getD_eq_getElem?_getD]
    have := hf j y hj (by rw [e]; exact hu)
    rw [e] at this; exact this⟩, r.off, r.new, r.frs⟩
theorem nth_undefs : ∀ m i, nth (undefs m) i = .undef
  | 0, _ => rfl
  | _ + 1, 0 => rfl
  | m + 1, i + 1 => nth_undefs m i
theorem nth_setN : ∀ (l : List V) (i j : Nat) (v : V), i ≠ j → nth (setN l i v) j = nth l j
  | [], _, _, _, _ => rfl
  | _ :: _, 0, 0, _, h => absurd rfl h
  | _ :: _, 0, _ + 1, _, _ => rfl
  | _ :: _, _ + 1, 0, _, _ => rfl
  | _ :: r, i + 1, j + 1, v, h => nth_setN r i j v fun e => h (congrArg _ e)

/-- what a turn of it does: D is the row, the names are in c's block -/
noncomputable def Bdy (c : Cx) (D : Addr) (fr : List V) (σ : St) (acc : List V) (T : Around → (Shared → Prop) → Shared → Prop) (K : List V → St → Prop) : Prop :=
  ∀ A s Z (itD : Array Value), Room c.n A → Rel c.W.H A c.env σ fr s → s.heap.PlainList D itD → σ D = none → c.W.H.get? D = none → D ≠ c.env.locals → itD.toList.map ab = acc →
    (∀ acc' σ' s' (itD' : Array Value), K acc' σ' → Rel c.W.H A c.env σ' fr s' → s'.heap.PlainList D itD' → σ' D = none → itD'.toList.map ab = acc' → Stp (fun b => b = D ∨ b = c.env.locals) σ s σ' s' → Z s') → T A Z s
theorem pl_nd {D : Addr} {itD : Array Value} (h : s.heap.PlainList D itD) {o : Obj} (e : s.heap.get? D = some o) : ∀ es n, o.data ≠ .dict es n := fun es n q => by
  obtain ⟨m, e'⟩ := h; rw [e'] at e; cases e; cases q
theorem PL.step {D : Addr} {itD : Array Value} (h : s.heap.PlainList D itD) (hσ : σ D = none) (t : Stp L σ s σ' s') (hL : ¬ L D) : s'.heap.PlainList D itD ∧ σ' D = none :=
  ⟨h.at fun o e => t.keep D o e (fun y hy => by rw [hσ] at hy; cases hy) hL (pl_nd h e), by obtain ⟨m, e⟩ := h; exact t.off hσ e⟩
section
variable {I D : Addr} {fp : List Addr} {xs : List V} {chk : St → Prop} {S : Nat → Heap → Prop} {x : Str} {px : Pos} {T : Around → (Shared → Prop) → Shared → Prop} {cd : Code} {R : Result → Shared → Prop}
  {bod : V → List V → St → (List V → St → Prop) → Prop} {fin : List V → St → Prop} {P : Nat → List V → Prop} {σ0 σb : St} {s0 sb : Shared} {acc0 : List V} {it0 : Array Value}
/-- the code of such a loop -/
noncomputable def Rule (W : Wd) (A : Around) (env : Env) (I : Addr) (x : Str) (px : Pos) (T : Around → (Shared → Prop) → Shared → Prop) (cd : Code) (R : Result → Shared → Prop) (s0 : Shared) : Prop :=
  ∀ Inv : Nat → Shared → Prop, (∀ n s, Inv n s → wpAny W.M A (pyNext (.ref I)) (fun r s1 => match r with
    | none => R (.ok .next) s1
    | some v => wpAny W.M A (assign (.Name x px) env v) (fun _ s2 => T A (fun s3 => ∃ m, m < n ∧ Inv m s3) s2) NoE s1) NoE s) → ∀ n, Inv n s0 → codeAny W.M A cd R s0
/-- between two turns -/
structure LI (c : Cx) (A : Around) (I D : Addr) (fp : List Addr) (S : Nat → Heap → Prop) (fr : List V) (σb : St) (sb : Shared) (i : Nat) (itD : Array Value) (σ : St) (s : Shared) : Prop where
  rel : Rel c.W.H A c.env σ fr s
  j : J I fp S i σ s
  d : s.heap.PlainList D itD
  od : σ D = none
  t : Stp (fun b => b = I ∨ (b = D ∨ b = c.env.locals)) σb sb σ s
/-- the target is bound, then the turn -/
noncomputable def storeT (c : Cx) (x : Str) (px : Pos) (v : Value) (T : Around → (Shared → Prop) → Shared → Prop) (A : Around) (Z : Shared → Prop) (s : Shared) : Prop :=
  wpAny c.W.M A (assign (.Name x px) c.env v) (fun _ s2 => T A Z s2) NoE s
theorem bdy_loc {v : Value} {acc : List V} {K : List V → St → Prop} (hx : c.ns.lookup x = some .local) (hu : nth fr (place c.ns x) = .undef) (h : Bdy c D (setN fr (place c.ns x) (ab v)) σ acc T K) : Bdy c D fr σ acc (storeT c x px v T) K := fun A s Z itD R r hd hσ hH hDC hacc z =>
  wpAny_assign_Name (store_loc hx r fun s2 r2 t2 o2 _ => h A s2 Z itD R r2 (hd.at fun o e => o2.keep D o hDC e) hσ hH hDC hacc fun acc' σ3 s3 itD3 q3 r3 d3 od3 e3 t3 => z acc' σ3 s3 itD3 q3 (r3.unset hu) d3 od3 e3 ((t2.weak fun b q => .inr q).trans t3))
theorem bdy_cel {v : Value} {acc : List V} {K : List V → St → Prop} {a : Addr} {u : V} (hx : c.ns.lookup x = some .cell) (ha : c.cs.getD (place c.ns x) 0 = a) (hσa : σ a = some (.cell u)) (h : Bdy c D fr (σ.set a (.cell (ab v))) acc T K) : Bdy c D fr σ acc (storeT c x px v T) K := fun A s Z itD R r hd hσ hH hDC hacc z => by
  obtain ⟨o, hcell, _⟩ := r.objs _ _ hσa
  refine wpAny_assign_Name (wpAny_storeName_cell c.ok.kind hx ((c.ok.cell _ _ _ (place_of hx) (.inl rfl)).1.trans (congrArg some ha)) hcell fun h' hc' hs' => ?_)
  have hob : ObjR h' a (.cell (ab v)) := ⟨_, hc', rfl⟩
  have hne : c.env.locals ≠ a := fun q => by rw [← q, r.off] at hσa; cases hσa
  have hDa : D ≠ a := fun q => by rw [← q, hσ] at hσa; cases hσa
  obtain ⟨m, hn, hf⟩ := r.ns
  refine h A { s with heap := h' } Z itD R ⟨r.toRelG.put (s' := { s with heap := h' }) hσa rfl hs' hob, ⟨m, hn.sameBut hs' hne, hf⟩, by rw [St.set_other _ _ hne]; exact r.off, r.new, r.frs.put hσa hs'⟩ (hd.at fun o e => (hs'.2 D hDa).trans e) (by rw [St.set_other _ _ hDa]; exact hσ) hH hDC hacc fun acc' σ3 s3 itD3 q3 r3 d3 od3 e3 t3 => z acc' σ3 s3 itD3 q3 r3 d3 od3 e3 (.trans (.put hσa rfl hs' hob ⟨h', s.toks, rfl⟩) t3)
theorem loop_ok (X : Itr c.W A I fp xs chk S) (Rm : Room c.n A) (rule : Rule c.W A c.env I x px T cd R s0) (hID : I ≠ D) (hIC : I ≠ c.env.locals) (hDC : D ≠ c.env.locals) (hDf : D ∉ fp) (hCf : c.env.locals ∉ fp) (hI : c.W.H.get? I = none) (hD : c.W.H.get? D = none) (hIb : sb.heap.get? I = none)
    (hb : ∀ i v acc σ k, i < xs.length → P i acc → bod (ab v) acc σ k → Bdy c D fr σ acc (storeT c x px v T) fun acc' σ' => P (i + 1) acc' ∧ k acc' σ')
    (hc : comp2W chk bod xs acc0 σ0 fin) (h0 : P 0 acc0) (hi0 : it0.toList.map ab = acc0) (l0 : LI c A I D fp S fr σb sb 0 it0 σ0 s0)
    (z : ∀ acc σ' s' (itD : Array Value), fin acc σ' → P xs.length acc → Rel c.W.H A c.env σ' fr s' → s'.heap.PlainList D itD → itD.toList.map ab = acc → σ' D = none → Stp (fun b => b = D ∨ b = c.env.locals) σb sb σ' s' → R (.ok .next) s') : codeAny c.W.M A cd R s0 := by
  refine rule (fun k s' => ∃ i σ' acc itD, k = xs.length + 1 - i ∧ i ≤ xs.length ∧ comp2W chk bod (xs.drop i) acc σ' fin ∧ P i acc ∧ itD.toList.map ab = acc ∧ LI c A I D fp S fr σb sb i itD σ' s') (fun k s' h => ?_) (xs.length + 1) ⟨0, σ0, acc0, it0, rfl, Nat.zero_le _, hc, h0, hi0, l0⟩
  clear l0 h0 hi0 hc rule
  obtain ⟨i, σ', acc, itD, hk, hi, hcw, hP, hacc, l⟩ := h
  have hfL : ∀ b ∈ fp, ¬ (b = D ∨ b = c.env.locals) := fun b hb q => q.elim (fun q => hDf (q ▸ hb)) fun q => hCf (q ▸ hb)
  by_cases hlt : i < xs.length
  · rw [drop_nth hlt] at hcw
    refine X.next l.j l.rel.toRelG hcw.1 hlt fun v s1 hv j1 o1 => ?_
    have r1 := l.rel.only o1 l.j.2.1 hI (Ne.symm hIC) (X.nod l.j)
    have d1 : s1.heap.PlainList D itD := l.d.at fun o e => o1.keep D o (Ne.symm hID) e
    have t1 : Stp (fun b => b = I ∨ (b = D ∨ b = c.env.locals)) σ' s' σ' s1 := .only o1 (.inl rfl) (X.alive _ _ j1.1 I X.mem)
    have hcw2 := hcw.2
    rw [← hv] at hcw2
    refine hb i v acc σ' _ hlt hP hcw2 A s1 _ itD Rm r1 d1 l.od hD hDC hacc fun acc' σ3 s3 itD3 q3 r3 d3 od3 e3 t3 => ⟨xs.length + 1 - (i + 1), by omega, i + 1, σ3, acc', itD3, rfl, hlt, q3.2, q3.1, e3, r3, j1.step X t3 hfL, d3, od3, ?_⟩
    exact (l.t.trans t1).trans (t3.weak fun b q => .inr q)
  · have hin : i = xs.length := Nat.le_antisymm hi (Nat.not_lt.mp hlt)
    rw [hin] at l hcw hP
    rw [List.drop_of_length_le (Nat.le_refl _)] at hcw
    exact X.stop l.j l.rel.toRelG hcw.1 fun s1 o1 => z acc σ' s1 itD hcw.2 hP (l.rel.only o1 l.j.2.1 hI (Ne.symm hIC) (X.nod l.j)) (l.d.at fun o e => o1.keep D o (Ne.symm hID) e) hacc l.od (l.t.endW o1 hIb)
end
end Mine

end
section -- B13
namespace Mine
variable {W : Wd} {n k : Nat} {c : Cx} {env : Env} {cs : List Addr} {fr : List V} {σ σ' : St} {A : Around} {s s' : Shared} {L : Addr → Prop}

/-- the element goes behind the row -/
noncomputable def emitT (W : Wd) (D : Addr) (elt : PySem.Expr) (env : Env) (A : Around) (Z : Shared → Prop) (s : Shared) : Prop :=
  wpAny W.M A (eval elt env) (fun x s4 => wpAny W.M A (call (.builtin "list.append") [.ref D, x]) (fun _ s5 => Z s5) NoE s4) NoE s
noncomputable def testT (W : Wd) (D : Addr) (ifs : List PySem.Expr) (elt : PySem.Expr) (env : Env) (A : Around) (Z : Shared → Prop) (s : Shared) : Prop :=
  wpAny W.M A (tests ifs env true) (fun ok s3 => if ok = true then emitT W D elt env A Z s3 else Z s3) NoE s
theorem emit_ok {D : Addr} {elt : PySem.Expr} {acc : List V} {K : List V → St → Prop} (hz : acc.length + 1 ≤ lim) (h : GV c fr σ (eval elt c.env) fun y σ' => K (acc ++ [ab y]) σ') : Bdy c D fr σ acc (emitT c.W D elt c.env) K := fun A s Z itD R r hd hσ hH hDC hacc z => by
  refine h A s _ R r fun y σ1 s1 q g t => ?_
  obtain ⟨d1, od1⟩ := PL.step hd hσ t id
  have hsz : itD.size ≤ lim := by rw [← hacc, List.length_map] at hz; exact Nat.le_of_succ_le hz
  refine wpAny_list_append_plain d1 (fun h8 hpl8 hs8 => ?_) (Nat.le_trans hsz lim_le)
  have o8 : Only D s1 { s1 with heap := h8 } := ⟨fun b o hb e => (hs8.2 b hb).trans e, h8, s1.toks, rfl⟩
  have r1 := r.step g t
  refine z _ σ1 _ _ q (r1.only o8 od1 hH (Ne.symm hDC) fun o es n e => pl_nd d1 e es n) hpl8 od1 (by rw [Array.toList_push, List.map_append, hacc]; rfl) (t.up.trans (.only o8 (.inl rfl) ?_))
  obtain ⟨m, e⟩ := hpl8; exact ⟨_, e⟩
theorem test_ok {D : Addr} {ifs : List PySem.Expr} {elt : PySem.Expr} {acc : List V} {K : List V → St → Prop} (hz : acc.length + 1 ≤ lim) (h : GV c fr σ (tests ifs c.env true) fun b σ1 => if b = true then GV c fr σ1 (eval elt c.env) (fun y σ' => K (acc ++ [ab y]) σ') else K acc σ1) : Bdy c D fr σ acc (testT c.W D ifs elt c.env) K := fun A s Z itD R r hd hσ hH hDC hacc z => by
  refine h A s _ R r fun b σ1 s1 q g t => ?_
  obtain ⟨d1, od1⟩ := PL.step hd hσ t id
  have r1 := r.step g t
  cases b with
  | false => exact z acc σ1 s1 itD q r1 d1 od1 hacc t.up
  | true => exact emit_ok hz q A s1 Z itD R r1 d1 od1 hH hDC hacc fun acc' σ2 s2 itD2 q2 r2 d2 od2 e2 t2 => z acc' σ2 s2 itD2 q2 r2 d2 od2 e2 (t.up.trans t2)

section
variable {elt it it' : PySem.Expr} {ifs : List PySem.Expr} {x y : Str} {px py pos : Pos} {sc : Scope} {I D : Addr} {R : Result → Shared → Prop}
theorem rule_one : Rule W A env I x px (testT W D ifs elt env) (.compLoop (.ListComp elt [⟨.Name x px, it, ifs, 0⟩] sc pos) 0 (.ref I) (.ref D) env) R s := fun Inv turn n h =>
  codeAny_compLoop_tests Inv (fun n s hI => wpAny_mono (wpW (turn n s hI)) (fun r s1 h1 => by
    cases r with
    | none => exact h1
    | some v => exact wpAny_mono (wpW h1) (fun _ s2 h2 => wpAny_mono (wpW h2) (fun ok s3 h3 => by
        cases ok with
        | false => exact h3
        | true => exact wpAny_mono (wpW h3) (fun x s4 h4 => wpW h4) fun _ _ e => e) fun _ _ e => e) fun _ _ e => e) fun _ _ e => e) n h
end
end Mine

end
section -- B14
namespace Mine
variable {W : Wd} {n k : Nat} {c : Cx} {env : Env} {cs : List Addr} {fr : List V} {σ σ' : St} {A : Around} {s s' : Shared} {L : Addr → Prop}

/-- how a comprehension goes on with its row -/
noncomputable def CEnd (W : Wd) (A : Around) (σ : St) (s : Shared) (use : Option (Value → Sem Unit)) (Q : V → St → Prop) (Z : Value → Shared → Prop) : Prop :=
  ∀ D C s' σ', Q (.ref D) σ' → RelG W.H σ' s' → Stp No σ s σ' s' → (∃ m, s'.heap.Ns C m) → σ' C = none → W.H.get? C = none → s.heap.get? C = none → compPost W.M A NoE use Z (.ref D) C (.ok .next) s'
theorem RelG.show {H : Heap} {D : Addr} {itD : Array Value} {acc : List V} (g : RelG H σ s) (hd : s.heap.PlainList D itD) (ha : itD.toList.map ab = acc) (hz : acc.length ≤ lim) (hH : H.get? D = none) : RelG H (σ.set D (.lst acc)) s := by
  refine ⟨g.base, fun b z e => ?_, fun b z e hz => ?_⟩
  · by_cases hb : b = D
    · rw [hb, St.set_same] at e; cases e; rw [hb]; exact ⟨itD, hd, ha, hz⟩
    · rw [St.set_other _ _ hb] at e; exact g.objs b z e
  · by_cases hb : b = D
    · rw [hb]; exact hH
    · rw [St.set_other _ _ hb] at e; exact g.own b z e hz
theorem Stp.show {D : Addr} {x : O} (t : Stp L σ s σ' s') (h : s.heap.get? D = none) : Stp L σ s (σ'.set D x) s' :=
  ⟨t.keep, t.look, fun b z e => by
    by_cases hb : b = D
    · rw [hb]; exact .inr h
    · rw [St.set_other _ _ hb] at e; exact t.dom b z e, t.alive, t.rest⟩
theorem newEnv_around {M : Model} {E : Value → Shared → Prop} {scope : Scope} {globals : Addr} {cl : List (Str × Addr)} {qual : Str} {env : Env} {Q : Env → Shared → Prop}
    (hQ : Q { scope := scope, locals := s.heap.objs.size, globals := globals, cells := cellsFrom (s.heap.objs.size + 1) scope.names cl, qual := qual, func := none, code := env.code, frame := env.frame, builtins := env.builtins } { s with heap := pushCells (s.heap.push { cls := .type "dict", data := .dict #[] }) scope.names }) :
    wpAny M A (newFunctionEnv scope globals cl [] qual none .none (some env)) Q E s := by
  simp only [newFunctionEnv, Option.isSome_some, if_true]
  refine wpAny_bind (wpAny_alloc (wpAny_bind (wpAny_layCells _ (fun name kind cells => by cases hkc : kind == NameKind.cell <;> simp [hkc]) _ _ _ _ ?_)))
  rw [show ({ s with heap := s.heap.push { cls := .type "dict", data := .dict #[] } } : Shared).heap.objs.size = s.heap.objs.size + 1 from Heap.size_push .., List.forIn_nil]
  exact wpAny_bind (wpAny_pure (wpAny_pure hQ))
/-- the own cells of a new block -/
theorem cells_new {H : Heap} {m : Nat} {names : List (Str × NameKind)} {b : Str → V} (r : RelG H σ s) (hn : (names.map (·.1)).Nodup) (hk : ∀ b o, s.heap.get? b = some o → s'.heap.get? b = some o) (hrest : ∃ h t, s' = { s with heap := h, toks := t }) (hnew : ∀ j, m ≤ j → s.heap.get? j = none)
    (hc : ∀ y a, (cellsFrom m names []).lookup y = some a → ObjR s'.heap a (.cell (b y))) : RelG H (cset m names b σ) s' ∧ Stp No σ s (cset m names b σ) s' := by
  refine ⟨⟨fun b o e => hk b o (r.base b o e), fun a z e => ?_, fun a z e hm => ?_⟩, .of (fun b o e _ _ => hk b o e) (fun b z e => ?_) (fun b o e => ⟨o, hk b o e⟩) hrest⟩
  · rcases cset_spec names _ _ _ _ e with e | ⟨hm, i, y, h1, h2, rfl⟩
    · exact (r.objs a z e).at fun o => hk a o
    · exact hc y a (by rw [cellsFrom_get names _ _ [] hn h1, List.getD_eq_getElem?_getD, h2]; rfl)
  · rcases cset_spec names _ _ _ _ e with e | ⟨hm', _⟩
    · exact r.own a z e hm
    · exact r.offbase (hnew a hm')
  · rcases cset_spec names _ _ _ _ e with e | ⟨hm', _⟩
    · exact .inl ⟨z, e, id⟩
    · exact .inr (hnew b hm')
theorem comp_open {elt it : PySem.Expr} {ifs : List PySem.Expr} {gs : List Comprehension} {x : Str} {px pos pos' : Pos} {sc : Scope} {use : Option (Value → Sem Unit)} {Z : Value → Shared → Prop} {Q : V → St → Prop} {K : List V → (St → Prop) → St → Prop}
    (B : Blk c.ns sc) (hns : noSet it = true) (hit : GV c fr σ (eval it c.env) fun v σ1 => iterW (ab v) σ1 fun xs chk => K xs chk σ1) (Rm : Room c.n A) (r : Rel c.W.H A c.env σ fr s) (z : CEnd c.W A σ s use Q Z)
    (hloop : ∀ I D C fp xs chk S σ1 s1 s3 R, σ1 (C + 1) = none → Itr c.W A I fp xs chk S → K xs chk σ1 → I ≠ D → I ≠ C → D ≠ C → D ∉ fp → C ∉ fp → c.W.H.get? I = none → c.W.H.get? D = none → s1.heap.get? I = none →
      LI (compCx c B C) A I D fp S (undefs sc.names.length) σ1 s1 0 #[] (cset (C + 1) sc.names (fun _ => .undef) σ1) s3 →
      (∀ acc σ' s' (itD : Array Value), alW σ' (.lst acc) Q → acc.length ≤ lim → Rel c.W.H A (compCx c B C).env σ' (undefs sc.names.length) s' → s'.heap.PlainList D itD → itD.toList.map ab = acc → σ' D = none → Stp (fun b => b = D ∨ b = C) σ1 s1 σ' s' → R (.ok .next) s') →
      codeAny c.W.M A (.compLoop (.ListComp elt (⟨.Name x px, it, ifs, 0⟩ :: gs) sc pos) 0 (.ref I) (.ref D) (compCx c B C).env) R s3) :
    wpAny c.W.M A (comprehension (.ListComp elt (⟨.Name x px, it, ifs, 0⟩ :: gs) sc pos) sc c.env pos' (newList []) false (eval it c.env) use) Z NoE s := by
  refine wpAny_comprehension_free (g := ⟨.Name x px, it, ifs, 0⟩) rfl (folded_ok hns) (closureFor_ok (cl := clOf c.ns c.cs) c.ok (fun _ => rfl) (fun _ _ _ => rfl) B.free) B.kind (fun y hy hl => ?_) ?_
  · obtain ⟨i, hi⟩ := List.getElem?_of_mem hy
    obtain ⟨z, k⟩ := y
    cases hl
    exact (nodup_lookup B.nodup hi).1
  refine hit A s _ Rm r fun xv σ1 s1 q1 g1 t1 => iter_ok q1 A s1 _ Rm g1 fun xs chk h' hK hI hkeep => ?_
  obtain ⟨fp, S, X, hS0, hfm, hfa⟩ := hI
  have r1 := r.step g1 t1
  clear hit q1 r
  generalize hIe : s1.heap.objs.size = I at hfa X ⊢
  have hI0 : s1.heap.get? I = none := hIe ▸ get_size _
  generalize hs2 : ({ s1 with heap := h' } : Shared) = s2
  have hs2h : s2.heap = h' := by rw [← hs2]
  have g2 : RelG c.W.H σ1 s2 := g1.ext (by rw [hs2h]; exact hkeep)
  have t2 : Stp No σ1 s1 σ1 s2 := .ext (by rw [hs2h]; exact hkeep) ⟨h', s1.toks, hs2.symm⟩
  refine wpAny_newObj_type (newEnv_around ?_)
  dsimp only
  generalize hD : s2.heap.objs.size = D
  generalize hH2 : s2.heap.push { cls := .type "list", dict := none, data := .seq ([] : List Value).toArray } = H2
  generalize hC : H2.objs.size = C
  have hCD : C = D + 1 := by rw [← hC, ← hH2, Heap.size_push, hD]
  have hDC : D ≠ C := by rw [hCD]; exact Nat.ne_of_lt (Nat.lt_succ_self _)
  have ok := cellsFrom_ok sc.names (H2.push { cls := .type "dict", data := .dict #[] }) (C + 1) [] ⟨fun _ _ hm => (nomatch hm), List.Pairwise.nil⟩ (by rw [Heap.size_push, hC]; exact Nat.le_refl _)
  rw [Heap.size_push, hC] at ok
  have hns₁ : (pushCells (H2.push { cls := .type "dict", data := .dict #[] }) sc.names).Ns C fun _ => none := hC ▸ (Heap.Ns.new H2 (.type "dict")).keeps (pushCells_keeps _ _)
  have old2 : ∀ b o, H2.get? b = some o → (pushCells (H2.push { cls := .type "dict", data := .dict #[] }) sc.names).get? b = some o := fun b o e => pushCells_keeps _ _ b o (Heap.get?_push_of_some _ e)
  generalize pushCells (H2.push { cls := .type "dict", data := .dict #[] }) sc.names = h₁ at ok hns₁ old2
  have old : ∀ b o, s2.heap.get? b = some o → h₁.get? b = some o := fun b o e => old2 b o (hH2 ▸ Heap.get?_push_of_some _ e)
  have hacc : h₁.PlainList D #[] := ⟨_, old2 _ _ (hH2 ▸ hD ▸ Heap.get?_push_size _ rfl)⟩
  have nw : ∀ b, D ≤ b → s2.heap.get? b = none := fun b hb => by
    cases e : s2.heap.get? b with
    | none => rfl
    | some o => have := Heap.lt_size e; rw [hD] at this; exact absurd hb (Nat.not_le.mpr this)
  have hle : ∀ b, b = D ∨ b = C → D ≤ b := fun b hb => hb.elim (fun e => e ▸ Nat.le_refl _) fun e => by rw [e, hCD]; exact Nat.le_succ _
  have nw1 : ∀ b, D ≤ b → s1.heap.get? b = none := fun b hb => by
    cases e : s1.heap.get? b with
    | none => rfl
    | some o => have := hkeep b o e; rw [← hs2h, nw b hb] at this; cases this
  obtain ⟨oI, eI⟩ : ∃ o, s2.heap.get? I = some o := by rw [hs2h]; exact X.alive 0 h' hS0 I X.mem
  have hfn : ∀ b, D ≤ b → b ∉ fp := fun b hb hm => by
    rcases hfa b hm with e | ⟨o, e⟩
    · rw [e] at hb; rw [nw I hb] at eI; cases eI
    · rw [g2.fresh (nw b hb)] at e; cases e
  have hCD' : D ≤ C := hle C (.inr rfl)
  have hHC := g2.offbase (nw C hCD')
  have hHD := g2.offbase (nw D (Nat.le_refl _))
  obtain ⟨g3, t3⟩ := cells_new (s' := { s2 with heap := h₁ }) (m := C + 1) (b := fun _ => V.undef) g2 B.nodup old ⟨h₁, _, rfl⟩ (fun j hj => nw j (Nat.le_trans hCD' (Nat.le_of_succ_le hj))) fun y a hl => ⟨none, (ok.empty y a (mem_of_lookup hl)).1, rfl⟩
  have low : ∀ b, b ≤ C → cset (C + 1) sc.names (fun _ => V.undef) σ1 b = σ1 b := fun b hb => cset_new sc.names _ _ _ (Nat.lt_succ_of_le hb)
  have hσC : cset (C + 1) sc.names (fun _ => V.undef) σ1 C = none := by rw [low C (Nat.le_refl _)]; exact g2.fresh (nw C hCD')
  have hσD : cset (C + 1) sc.names (fun _ => V.undef) σ1 D = none := by rw [low D hCD']; exact g2.fresh (nw D (Nat.le_refl _))
  have j2 : J I fp S 0 σ1 s2 := ⟨by rw [hs2h]; exact hS0, g1.fresh hI0, hfm⟩
  clear ok old2 low hS0 hfm
  have loop : codeAny c.W.M A (.compLoop (.ListComp elt (⟨.Name x px, it, ifs, 0⟩ :: gs) sc pos) 0 (.ref I) (.ref D) (compCx c B C).env) (compPost c.W.M A NoE use Z (.ref D) C) { s2 with heap := h₁ } := by
    refine hloop I D C fp xs chk S σ1 s1 _ _ (g2.fresh (nw _ (Nat.le_trans hCD' (Nat.le_succ _)))) X hK (fun e => hfn D (Nat.le_refl _) (e ▸ X.mem)) (fun e => hfn C hCD' (e ▸ X.mem)) hDC (hfn D (Nat.le_refl _)) (hfn C hCD') (g1.offbase hI0) hHD hI0 ⟨⟨g3, ⟨_, hns₁, fun i y hi hu => absurd ((nth_eq _ _).symm.trans (nth_undefs _ _)) hu⟩, hσC, hHC, (r1.frs.step t2).step t3⟩, j2.step X t3 fun _ _ q => q, hacc, hσD, (t2.trans t3).up⟩ fun acc σ' s' itD q hz r' hd ha hσ' t' => ?_
    obtain ⟨m, hn, _⟩ := r'.ns
    have off : ∀ b, D ≤ b → s.heap.get? b = none := fun b hb => by
      cases e : s.heap.get? b with
      | none => rfl
      | some o => obtain ⟨o', e'⟩ := t1.alive b o e; rw [nw1 b hb] at e'; cases e'
    exact z D C s' _ (q D hσ') (r'.toRelG.show hd ha hz hHD) ((t1.trans (t'.shown fun b hb => nw1 b (hle b hb))).show (off D (Nat.le_refl _))) ⟨m, hn⟩ (by rw [St.set_other _ _ (Ne.symm hDC)]; exact r'.off) hHC (off C hCD')
  exact codeAny_compStart_list loop (X.self 0 _ _ _ (j2.step X t3 fun _ _ q => q).1 loop)
end Mine

end
section -- B15
namespace Mine
variable {W : Wd} {n k : Nat} {c : Cx} {env : Env} {cs : List Addr} {fr : List V} {σ σ' : St} {A : Around} {s s' : Shared} {L : Addr → Prop}

section
variable {elt it it' : PySem.Expr} {ifs : List PySem.Expr} {x y : Str} {px py pos pos' : Pos} {sc : Scope} {use : Option (Value → Sem Unit)} {Z : Value → Shared → Prop} {Q : V → St → Prop}
theorem place_inner {C : Addr} {z : Str} (B : Blk c.ns sc) : place (compCx c B C).ns z = place (rl c.ns sc.names) z := by rw [compCx_ns]
theorem loc_inner {C : Addr} {z : Str} (B : Blk c.ns sc) (hz : scOk c.ns sc z = true) : (compCx c B C).ns.lookup z = some .local := lookup_relabel_local (scOk_facts hz).2.2.1
theorem no_own (hsc : scOk c.ns sc x = true) (C : Addr) : (compCx c (scOk_blk hsc) C).cs = (sc.names.map fun p => place c.ns p.1).map (nthA c.cs) := ownC_no _ _ _ (cmOf_len c sc) (scOk_facts hsc).2.2.2.1
theorem no_set (hsc : scOk c.ns sc x = true) (C : Addr) : cset (C + 1) sc.names (fun _ => .undef) σ = σ := cset_no _ _ _ (scOk_facts hsc).2.2.2.1
theorem comp1_run (hit : SE k it) (hifs : ∀ e ∈ ifs, ST k e) (helt : SE k elt) (hsc : scOk c.ns sc x = true) (hns : noSet it = true) (Rm : Room c.n A) (r : Rel c.W.H A c.env σ fr s) (z : CEnd c.W A σ s use Q Z)
    (h : c.x (.comp sc.names.length (sc.names.map fun p => place c.ns p.1) (er c.gl k c.ns it) (place (rl c.ns sc.names) x) (andX (ifs.map (er c.gl k (rl c.ns sc.names)))) (er c.gl k (rl c.ns sc.names) elt)) fr σ Q) :
    wpAny c.W.M A (comprehension (.ListComp elt [⟨.Name x px, it, ifs, 0⟩] sc pos) sc c.env pos' (newList []) false (eval it c.env) use) Z NoE s := by
  refine comp_open (scOk_blk hsc) hns (hit c fr σ _ h) Rm r z fun I D C fp xs chk S σ1 s1 s3 R _ X hK hID hIC hDC hDf hCf hI hD hIb l0 zz => ?_
  rw [no_set hsc] at l0
  refine loop_ok (c := compCx c (scOk_blk hsc) C) (T := testT c.W D ifs elt (compCx c (scOk_blk hsc) C).env) (P := fun i acc => acc.length + (xs.length - i) ≤ lim) (x := x) X Rm rule_one hID hIC hDC hDf hCf hI hD hIb (fun i v acc σ2 k' hi hP hb => ?_) hK.2 ?_ rfl l0 fun acc σ' s' itD q hP r' hd ha hσ t => zz acc σ' s' itD q (Nat.le_trans (Nat.le_add_right _ _) hP) r' hd ha hσ t
  · refine bdy_loc (loc_inner _ hsc) (nth_undefs _ _) (test_ok (Nat.le_trans (Nat.add_le_add_left (Nat.sub_pos_of_lt hi) _) hP) ?_)
    rw [place_inner]
    rw [← no_own hsc C] at hb
    refine GV.of (tests_ok ifs hifs (compCx c (scOk_blk hsc) C) _ σ2 _ (by rw [compCx_ns]; exact hb)) fun b σ3 h3 => ?_
    have hlen : acc.length + (xs.length - (i + 1)) ≤ lim ∧ acc.length + 1 + (xs.length - (i + 1)) ≤ lim := by omega
    cases b with
    | true => exact (compCx_x _ C helt h3).of fun u σ4 h4 => ⟨by rw [List.length_append]; exact hlen.2, h4⟩
    | false => exact ⟨hlen.1, by rw [if_neg Bool.false_ne_true] at h3; rw [← List.append_nil acc]; exact h3⟩
  · rw [List.length_nil, Nat.zero_add]; exact hK.1
theorem place_ne {ns : List (Str × NameKind)} {x y : Str} {a b : NameKind} (hx : ns.lookup x = some a) (hy : ns.lookup y = some b) (h : (x != y) = true) : place ns x ≠ place ns y := fun e => by
  have h1 := place_of hx
  rw [e, place_of hy] at h1
  exact bne_iff_ne.mp h (Prod.mk.inj (Option.some.inj h1)).1.symm
theorem scOkC_facts {ns : List (Str × NameKind)} (h : scOkC ns sc x = true) : Blk ns sc ∧ sc.names.lookup x = some .cell ∧ ∀ p ∈ sc.names, p.2 = .cell → p.1 = x := by
  unfold scOkC at h
  simp only [Bool.and_eq_true, decide_eq_true_eq, beq_iff_eq, List.all_eq_true, bne_iff_ne, Bool.or_eq_true] at h
  obtain ⟨⟨⟨h1, h2⟩, h3⟩, h4⟩ := h
  refine ⟨⟨h1, h2, fun p hp => (h4 p hp).1.2, fun p hp e => ?_⟩, h3, fun p hp e => (h4 p hp).1.1.resolve_left fun q => q e⟩
  rcases (h4 p hp).2 with (q | q) | q
  · exact absurd e q
  · exact .inl q
  · exact .inr q
theorem one_cell {b : Str → V} : ∀ (names : List (Str × NameKind)) (l : List Addr) (m : Nat) (σ : St), (names.map (·.1)).Nodup → names.lookup x = some .cell → (∀ p ∈ names, p.2 = .cell → p.1 = x) → l.length = names.length → ownC m names l = l.set (place names x) m ∧ cset m names b σ = σ.set m (.cell (b x))
  | [], _, _, _, _, h, _, _ => by cases h
  | _ :: _, [], _, _, _, _, _, h => by cases h
  | (y, k) :: r, a :: l, m, σ, hn, hx, h1, hl => by
    obtain ⟨n1, n2⟩ := List.nodup_cons.mp (by simpa using hn : (y :: r.map (·.1)).Nodup)
    unfold ownC cset
    by_cases e : y = x
    · subst e
      have hk : k = .cell := by rw [List.lookup_cons_self] at hx; exact Option.some.inj hx
      have hno : ∀ p ∈ r, p.2 ≠ .cell := fun p hp q => n1 (List.mem_map.mpr ⟨p, hp, h1 p (List.mem_cons_of_mem _ hp) q⟩)
      rw [if_pos (by rw [hk]; rfl), if_pos (by rw [hk]; rfl), ownC_no r l _ (Nat.succ.inj hl) hno, cset_no r _ _ hno]
      have : place ((y, k) :: r) y = 0 := by unfold place; rw [List.findIdx_cons]; simp
      rw [this]
      exact ⟨rfl, rfl⟩
    · have e1 : (x == y) = false := by simpa using fun q : x = y => e q.symm
      have hk : ¬ (k == NameKind.cell) = true := fun q => e (h1 (y, k) List.mem_cons_self (eq_of_beq q))
      rw [List.lookup_cons, e1] at hx
      obtain ⟨i1, i2⟩ := one_cell r l m σ n2 hx (fun p hp => h1 p (List.mem_cons_of_mem _ hp)) (Nat.succ.inj hl)
      rw [if_neg hk, if_neg hk, i1, i2]
      have e2 : (y == x) = false := by simpa using e
      have : place ((y, k) :: r) x = place r x + 1 := by unfold place; rw [List.findIdx_cons, e2]; rfl
      rw [this]
      exact ⟨rfl, rfl⟩
theorem compc_run (hit : SE k it) (helt : SE k elt) (hsc : scOkC c.ns sc x = true) (hns : noSet it = true) (Rm : Room c.n A) (r : Rel c.W.H A c.env σ fr s) (z : CEnd c.W A σ s use Q Z)
    (h : c.x (.compc sc.names.length (sc.names.map fun p => place c.ns p.1) (er c.gl k c.ns it) (place (rl c.ns sc.names) x) (er c.gl k (rl c.ns sc.names) elt)) fr σ Q) :
    wpAny c.W.M A (comprehension (.ListComp elt [⟨.Name x px, it, [], 0⟩] sc pos) sc c.env pos' (newList []) false (eval it c.env) use) Z NoE s := by
  obtain ⟨B, hx, h1⟩ := scOkC_facts hsc
  have hi : (rl c.ns sc.names)[place sc.names x]? = some (x, .cell) := by unfold rl; rw [List.getElem?_map, place_of hx]; rfl
  obtain ⟨hl, hp⟩ := nodup_lookup (by rw [rl_map]; exact B.nodup) hi
  rw [hp] at h
  refine comp_open B hns (hit c fr σ _ h) Rm r z fun I D C fp xs chk S σ1 s1 s3 R hC1 X hK hID hIC hDC hDf hCf hI hD hIb l0 zz => ?_
  obtain ⟨o1, o2⟩ := one_cell (b := fun _ => V.undef) sc.names (cmOf c sc) (C + 1) σ1 B.nodup hx h1 (cmOf_len c sc)
  rw [o2] at l0
  have ocs : (compCx c B C).cs = ((sc.names.map fun p => place c.ns p.1).map (nthA c.cs)).set (place sc.names x) (C + 1) := o1
  have hK2 := hK.2 (C + 1) hC1
  rw [← ocs] at hK2
  refine loop_ok (c := compCx c B C) (T := testT c.W D [] elt (compCx c B C).env) (P := fun i acc => acc.length + (xs.length - i) ≤ lim) (x := x) X Rm rule_one hID hIC hDC hDf hCf hI hD hIb (fun i v acc σ2 k' hi hP hb => ?_) hK2 ?_ rfl l0 fun acc σ' s' itD q hP r' hd ha hσ t => zz acc σ' s' itD q (Nat.le_trans (Nat.le_add_right _ _) hP) r' hd ha hσ t
  · obtain ⟨⟨u, hu⟩, hb⟩ := hb
    have hlk : (compCx c B C).ns.lookup x = some .cell := by rw [compCx_ns]; exact hl
    refine bdy_cel hlk ?_ hu (test_ok (Nat.le_trans (Nat.add_le_add_left (Nat.sub_pos_of_lt hi) _) hP) (GV.pure (c := compCx c B C) ?_))
    · rw [place_inner, hp, ocs, List.getD_eq_getElem?_getD, List.getElem?_set_self (by have := (List.getElem?_eq_some_iff.mp (place_of hx)).1; rw [List.length_map, List.length_map]; exact this)]; rfl
    · have hlen : acc.length + 1 + (xs.length - (i + 1)) ≤ lim := by omega
      exact (compCx_x B C helt hb).of fun u σ4 h4 => ⟨by rw [List.length_append]; exact hlen, h4⟩
  · rw [List.length_nil, Nat.zero_add]; exact hK.1
/-- a comprehension's own value -/
theorem cend_value {Q : V → St → Prop} (r : Rel c.W.H A c.env σ fr s) (z : Ends c.W.H σ s (fun v => Q (ab v)) Z) : CEnd c.W A σ s none Q Z := fun D C s' σ' q g t hn hσC hHC hsC => by
  obtain ⟨m, hn⟩ := hn
  exact ⟨m, hn, fun h' hs' => z (.ref D) σ' _ q (g.hidden (L := fun b => b = C) (fun b hb => by rw [hb]; exact ⟨hσC, hHC⟩) fun b o hb e => (hs'.2 b hb).trans e) (t.sameBut hsC hs')⟩
end
theorem oX_elim {α : Type} {o : Option α} {f : α → X} {Q : V → St → Prop} (h : xW W n (oX o f) cs fr σ Q) : ∃ a, o = some a ∧ xW W n (f a) cs fr σ Q := by
  cases o with
  | none => exact h.elim
  | some a => exact ⟨a, rfl, h⟩
theorem nameOf_sp (e : PySem.Expr) : ifSome (nameOf e) fun x => ∃ p, e = .Name x p := by cases e <;> first | exact trivial | exact ⟨_, rfl⟩
theorem nameOf_is {e : PySem.Expr} {x : Str} (h : nameOf e = some x) : ∃ p, e = .Name x p := ifSome_of (nameOf_sp e) h
/-- the two shapes of a comprehension -/
inductive Shape (k : Nat) (c : Cx) (fr : List V) (σ : St) (Q : V → St → Prop) (elt : PySem.Expr) (sc : Scope) : List Comprehension → Prop where
  | one (x : Str) (px : Pos) (it : PySem.Expr) (ifs : List PySem.Expr) (hsc : scOk c.ns sc x = true) (hns : noSet it = true)
      (h : c.x (.comp sc.names.length (sc.names.map fun p => place c.ns p.1) (er c.gl k c.ns it) (place (rl c.ns sc.names) x) (andX (ifs.map (er c.gl k (rl c.ns sc.names)))) (er c.gl k (rl c.ns sc.names) elt)) fr σ Q) : Shape k c fr σ Q elt sc [⟨.Name x px, it, ifs, 0⟩]
  | cel (x : Str) (px : Pos) (it : PySem.Expr) (hsc : scOkC c.ns sc x = true) (hns : noSet it = true)
      (h : c.x (.compc sc.names.length (sc.names.map fun p => place c.ns p.1) (er c.gl k c.ns it) (place (rl c.ns sc.names) x) (er c.gl k (rl c.ns sc.names) elt)) fr σ Q) : Shape k c fr σ Q elt sc [⟨.Name x px, it, [], 0⟩]
theorem shape_of {elt : PySem.Expr} {gens : List Comprehension} {sc : Scope} {pos : Pos} {Q : V → St → Prop} (h : c.x (er c.gl (k + 1) c.ns (.ListComp elt gens sc pos)) fr σ Q) : Shape k c fr σ Q elt sc gens := by
  rcases gens with _ | ⟨⟨t, it, ifs, a⟩, gens⟩
  · exact h.elim
  rcases gens with _ | ⟨⟨t', it', ifs', a'⟩, gens⟩
  · obtain ⟨x, e, h1⟩ := oX_elim h
    obtain ⟨px, rfl⟩ := nameOf_is e
    obtain ⟨g, h2⟩ := grd_x h1
    clear h h1
    obtain ⟨g1, g4⟩ := Bool.and_eq_true_iff.mp g
    cases of_decide_eq_true (p := a = 0) g1
    cases hb : (sc.names.lookup x == some .cell) with
    | false =>
      replace h2 : c.x (compY c.ns sc x (sc.names.lookup x == some .cell) _ _ _ _) fr σ Q := h2
      rw [hb] at h2
      obtain ⟨g3, h3⟩ := grd_x h2
      exact .one x px it ifs g3 g4 h3
    | true =>
      replace h2 : c.x (compY c.ns sc x (sc.names.lookup x == some .cell) _ _ _ _) fr σ Q := h2
      rw [hb] at h2
      obtain ⟨g3, h3⟩ := grd_x h2
      obtain ⟨g5, g6⟩ := Bool.and_eq_true_iff.mp g3
      cases List.isEmpty_iff.mp g6
      exact .cel x px it g5 g4 h3
  · exact h.elim
/-- all that a comprehension is made of -/
noncomputable def GenOK (k : Nat) (g : Comprehension) : Prop := SE k g.iter ∧ ∀ e ∈ g.ifs, ST k e
theorem comp_run {elt : PySem.Expr} {gens : List Comprehension} {sc : Scope} {pos pos' : Pos} {use : Option (Value → Sem Unit)} {Z : Value → Shared → Prop} {Q : V → St → Prop} (helt : SE k elt) (hg : ∀ g ∈ gens, GenOK k g) (h : Shape k c fr σ Q elt sc gens) (Rm : Room c.n A) (r : Rel c.W.H A c.env σ fr s) (z : CEnd c.W A σ s use Q Z) :
    wpAny c.W.M A (comprehension (.ListComp elt gens sc pos) sc c.env pos' (newList []) (firstAsync gens) (firstIter gens c.env) use) Z NoE s := by
  cases h with
  | one x px it ifs hsc hns h => exact comp1_run (hg _ (.head _)).1 (hg _ (.head _)).2 helt hsc hns Rm r z h
  | cel x px it hsc hns h => exact compc_run (hg _ (.head _)).1 helt hsc hns Rm r z h
theorem snd_comp {elt : PySem.Expr} {gens : List Comprehension} {sc : Scope} {pos : Pos} (helt : SE k elt) (hg : ∀ g ∈ gens, GenOK k g) : SE (k + 1) (.ListComp elt gens sc pos) := fun c fr σ Q h A s Z R r z => by
  rw [eval_ListComp]
  exact comp_run helt hg (shape_of h) R r (cend_value r z)
theorem noTr_oX {α : Type} {o : Option α} {f : α → X} (h : ∀ a, noTr (f a) = true) : noTr (oX o f) = true := by
  cases o with
  | none => rfl
  | some a => exact h a
theorem noTr_y {ns : List (Str × NameKind)} {sc : Scope} {x : Str} {no : Bool} {it c elt : X} (b : Bool) : noTr (compY ns sc x b no it c elt) = true := by
  cases b with
  | false => exact noTr_grd rfl
  | true => exact noTr_grd rfl
theorem noTr_comp {elt : PySem.Expr} {gens : List Comprehension} {sc : Scope} {pos : Pos} (gl : Str → Option V) (ns : List (Str × NameKind)) : noTr (er gl (k + 1) ns (.ListComp elt gens sc pos)) = true := by
  rcases gens with _ | ⟨g, _ | ⟨g', gens⟩⟩
  · rfl
  · exact noTr_oX fun x => noTr_grd (noTr_y _)
  · rfl

theorem noTr_call {f : PySem.Expr} {args : List PySem.Expr} {ks : List Keyword} {pos : Pos} (gl : Str → Option V) (ns : List (Str × NameKind)) : noTr (er gl (k + 1) ns (.Call f args ks pos)) = true := by
  show noTr (callK (ek f) args ks pos _ _ _ _) = true
  cases ek f with
  | name x p =>
    refine noTr_grd ?_
    show noTr (callY _ _ _) = true
    cases (if (ks.map fun k => k.arg).isEmpty then biX (erName gl ns x) else none) with
    | none => exact noTr_grd rfl
    | some b => rfl
  | attr o nm p =>
    refine noTr_grd ?_
    cases meOf nm <;> rfl
  | _ => rfl
theorem noTr_sub {o i : PySem.Expr} {pos : Pos} (gl : Str → Option V) (ns : List (Str × NameKind)) : noTr (er gl (k + 1) ns (.Subscript o i pos)) = true := by
  show noTr (subX (ek i) _ _ _) = true
  cases ek i <;> rfl
theorem noTr_con {v : Const} {i : Nat} {pos : Pos} (gl : Str → Option V) (ns : List (Str × NameKind)) : noTr (er gl (k + 1) ns (.Constant v i pos)) = true := by cases v <;> rfl
noncomputable def Snd (k : Nat) (e : PySem.Expr) : Prop := SE k e ∧ ST k e
theorem snd_bad {e : PySem.Expr} (h : ∀ gl ns, er gl k ns e = .bad) : Snd k e :=
  ⟨fun c fr σ Q q => by rw [Cx.x, h] at q; exact q.elim, fun c fr σ Q q => by rw [Cx.t, h] at q; exact q.elim⟩
theorem snd_sub {o i : PySem.Expr} {pos : Pos} (ih : ∀ e, SE k e) : SE (k + 1) (.Subscript o i pos) := fun c fr σ Q h => by
  refine snd_subi (ih o) (ih i) ?_
  replace h : c.x (subX (ek i) (er c.gl k c.ns o) _ (er c.gl k c.ns i)) fr σ Q := h
  cases e : ek i with
  | sl lo hi st p => rw [e] at h; exact h.elim
  | _ => rw [e] at h; exact h
theorem snd_call {f : PySem.Expr} {args : List PySem.Expr} {ks : List Keyword} {pos : Pos} (ih : ∀ e, SE k e) : SE (k + 1) (.Call f args ks pos) := fun c fr σ Q h => by
  have hk : c.x (callK (ek f) args ks pos (erName c.gl c.ns) (er c.gl k c.ns) (xl (args.map (er c.gl k c.ns))) (xl (ks.map fun q => er c.gl k c.ns q.value))) fr σ Q := h
  cases e : ek f with
  | name x p => cases (show f = .Name x p from ek_of e); exact snd_callN (fun e _ => ih e) (fun q _ => ih q.value) c fr σ Q h
  | attr o nm p => cases (show f = .Attribute o nm p from ek_of e); exact snd_meth (ih o) (fun e _ => ih e) c fr σ Q h
  | _ => rw [e] at hk; exact hk.elim
theorem snd_un {op : UnaryOp} {x : PySem.Expr} {pos : Pos} (ih : Snd k x) : Snd (k + 1) (.UnaryOp op x pos) := by
  cases op with
  | Not => exact ⟨snd_not ih.1, tnd_not ih.2⟩
  | USub => exact ⟨snd_neg ih.1, tnd_plain (snd_neg ih.1) (fun _ _ => rfl) fun _ _ => rfl⟩
  | _ => exact snd_bad fun _ _ => rfl
theorem snd : ∀ k e, Snd k e
  | 0, e => snd_bad fun _ _ => rfl
  | k + 1, e => by
    have ih := snd k
    have i1 := fun e => (ih e).1
    cases e with
    | Constant v i p => exact ⟨snd_const, tnd_plain snd_const noTr_con fun _ _ => rfl⟩
    | Name x p => exact ⟨snd_name, tnd_plain snd_name (fun _ _ => noTr_name) fun _ _ => rfl⟩
    | BinOp l op r p => exact ⟨snd_bin (i1 l) (i1 r), tnd_plain (snd_bin (i1 l) (i1 r)) (fun _ _ => rfl) fun _ _ => rfl⟩
    | UnaryOp op x p => exact snd_un (ih x)
    | BoolOp op vs p => exact snd_bop (fun v _ => i1 v) fun v _ => (ih v).2
    | List es p => exact ⟨snd_list fun e _ => i1 e, tnd_plain (snd_list fun e _ => i1 e) noTr_list fun _ _ => rfl⟩
    | Compare l ops rs p => exact snd_cmps (i1 l) fun r _ => i1 r
    | Call f args ks p => exact ⟨snd_call i1, tnd_plain (snd_call i1) noTr_call fun _ _ => rfl⟩
    | Subscript o i p => exact ⟨snd_sub i1, tnd_plain (snd_sub i1) noTr_sub fun _ _ => rfl⟩
    | ListComp elt gens sc p => exact ⟨snd_comp (i1 elt) fun g _ => ⟨i1 g.iter, fun e _ => (ih e).2⟩, tnd_plain (snd_comp (i1 elt) fun g _ => ⟨i1 g.iter, fun e _ => (ih e).2⟩) noTr_comp fun _ _ => rfl⟩
    | _ => exact snd_bad fun _ _ => rfl
theorem sndE (k : Nat) (e : PySem.Expr) : SE k e := (snd k e).1
theorem sndT (k : Nat) (e : PySem.Expr) : ST k e := (snd k e).2
end Mine

end
section -- B16
namespace Mine
variable {W : Wd} {n k : Nat} {c : Cx} {env : Env} {cs : List Addr} {fr : List V} {σ σ' : St} {A : Around} {s s' : Shared} {L : Addr → Prop}

noncomputable def abF : Flow → Fl
  | .next => .next
  | .brk => .brk
  | .cont => .cont
  | .ret v => .ret (ab v)
/-- a function's own block: its frame is the topmost -/
noncomputable def Top (A : Around) (env : Env) : Prop := env.frame = some env.locals ∧ ∃ outer, A.frames = some (env :: outer)
noncomputable def EndS {α : Type} (c : Cx) (A : Around) (σ : St) (s : Shared) (Q : α → St → List V → Prop) (Z : α → Shared → Prop) : Prop :=
  ∀ a σ' fr' s', Q a σ' fr' → Rel c.W.H A c.env σ' fr' s' → Stp (At c.env.locals) σ s σ' s' → Z a s'
/-- a stretch that may bind names -/
noncomputable def SV {α : Type} (c : Cx) (fr : List V) (σ : St) (t : Sem α) (Q : α → St → List V → Prop) : Prop :=
  ∀ A s Z, Room c.n A → Rel c.W.H A c.env σ fr s → Mine.Top A c.env → EndS c A σ s Q Z → wpAny c.W.M A t Z NoE s
section
variable {α β : Type}
theorem EndS.trans {Q : α → St → List V → Prop} {Z : α → Shared → Prop} (z : EndS c A σ s Q Z) (t : Stp (At c.env.locals) σ s σ' s') : EndS c A σ' s' Q Z := fun a σ2 fr2 s2 q r t2 => z a σ2 fr2 s2 q r (t.trans t2)
theorem SV.bind {t1 : Sem α} {t2 : α → Sem β} {Q1 : α → St → List V → Prop} {Q : β → St → List V → Prop} (h1 : SV c fr σ t1 Q1) (h2 : ∀ a σ1 fr1, Q1 a σ1 fr1 → SV c fr1 σ1 (t2 a) Q) : SV c fr σ (t1 >>= t2) Q :=
  fun A s Z R r T z => wpAny_bind (h1 A s _ R r T fun a σ1 fr1 s1 q r1 t1 => h2 a σ1 fr1 q A s1 Z R r1 T (z.trans t1))
/-- first a value -/
theorem SV.g2 {t1 : Sem α} {t2 : α → Sem β} {t : Sem β} {Q1 : α → St → Prop} {Q : β → St → List V → Prop} (L : ∀ A s Z, wpAny c.W.M A t1 (fun a s1 => wpAny c.W.M A (t2 a) Z NoE s1) NoE s → wpAny c.W.M A t Z NoE s) (h1 : GV c fr σ t1 Q1) (h2 : ∀ a σ1, Q1 a σ1 → SV c fr σ1 (t2 a) Q) : SV c fr σ t Q :=
  fun A s Z R r T z => L A s Z (h1 A s _ R r fun a σ1 s1 q g t => h2 a σ1 q A s1 Z R (r.step g t) T (z.trans t.up))
theorem SV.bindG {t1 : Sem α} {t2 : α → Sem β} {Q1 : α → St → Prop} {Q : β → St → List V → Prop} (h1 : GV c fr σ t1 Q1) (h2 : ∀ a σ1, Q1 a σ1 → SV c fr σ1 (t2 a) Q) : SV c fr σ (t1 >>= t2) Q := SV.g2 (fun _ _ _ => wpAny_bind) h1 h2
theorem SV.g1 {t1 : Sem α} {t : Sem β} {f : α → β} {Q : β → St → List V → Prop} (L : ∀ A s Z, wpAny c.W.M A t1 (fun a s1 => Z (f a) s1) NoE s → wpAny c.W.M A t Z NoE s) (h : GV c fr σ t1 fun a σ1 => Q (f a) σ1 fr) : SV c fr σ t Q :=
  fun A s Z R r T z => L A s Z (h A s _ R r fun a σ1 s1 q g t => z _ σ1 fr s1 q (r.step g t) t.up)
theorem SV.to {t1 t : Sem α} {Q : α → St → List V → Prop} (h : SV c fr σ t1 Q) (L : To c.W t1 t) : SV c fr σ t Q := fun A s Z R r T z => L A s Z (h A s Z R r T z)
theorem SV.pure {a : α} {Q : α → St → List V → Prop} (q : Q a σ fr) : SV c fr σ (pure a) Q := fun A s Z R r T z => wpAny_pure (z a σ fr s q r (.refl ..))
theorem SV.here {t : Sem α} {a : α} {Q : α → St → List V → Prop} (L : ∀ A s Z, Z a s → wpAny c.W.M A t Z NoE s) (q : Q a σ fr) : SV c fr σ t Q := fun A s Z R r T z => L A s Z (z a σ fr s q r (.refl ..))
theorem SV.stand {p : Pos} {t : Unit → Sem α} {Q : α → St → List V → Prop} (h : SV c fr σ (t ()) Q) : SV c fr σ (standAt p >>= t) Q := h.to fun _ _ _ h => wpAny_bind (wpAny_standAt h)
theorem SV.hold {vs : List Value} {t : Sem α} {Q : α → St → List V → Prop} (h : SV c fr σ t Q) : SV c fr σ (holding vs t) Q := h.to fun _ _ _ => wpAny_holding
theorem SV.of {t : Sem α} {Q P : α → St → List V → Prop} (h : SV c fr σ t Q) (m : ∀ a σ' fr', Q a σ' fr' → P a σ' fr') : SV c fr σ t P := fun A s Z R r T z => h A s Z R r T fun a σ' fr' s' q => z a σ' fr' s' (m a σ' fr' q)
end

theorem tgOf_is {ns : List (Str × NameKind)} {x : Str} {t : T} (h : tgOf ns x = some t) : (ns.lookup x = some .local ∧ t = .l (place ns x)) ∨ (ns.lookup x = some .cell ∧ t = .c (place ns x)) := by
  unfold tgOf at h
  cases hl : ns.lookup x with
  | none => rw [hl] at h; cases h
  | some k => cases k <;> rw [hl] at h <;> cases h <;> first | exact .inl ⟨rfl, rfl⟩ | exact .inr ⟨rfl, rfl⟩
theorem cellP {o : Option O} {K : V → Prop} (h : match o with
    | some (.cell v) => K v
    | _ => False) : ∃ v, o = some (.cell v) ∧ K v := by
  cases o with
  | none => exact h.elim
  | some o => cases o with
    | cell v => exact ⟨v, rfl, h⟩
    | _ => exact h.elim
theorem st_ok {t : T} {x : Str} {vv : Value} {K : List V → St → Prop} (ht : tgOf c.ns x = some t) (h : stW t (ab vv) c.cs fr σ K) : SV c fr σ (storeName c.env x vv) fun _ σ' fr' => K fr' σ' := fun A s Z R r T z => by
  rcases tgOf_is ht with ⟨hl, rfl⟩ | ⟨hl, rfl⟩
  · exact store_loc hl r fun s' r' t' _ _ => z () σ _ s' h r' t'
  · obtain ⟨v0, e, h⟩ := cellP (K := fun _ => K fr (σ.set (nthA c.cs (place c.ns x)) (.cell (ab vv)))) h
    rw [nthA_eq] at e h
    obtain ⟨o, hcell, _⟩ := r.objs _ _ e
    refine wpAny_storeName_cell c.ok.kind hl (c.ok.cell _ _ _ (place_of hl) (.inl rfl)).1 hcell fun h' hc' hs' => ?_
    have hob : ObjR h' (c.cs.getD (place c.ns x) 0) (.cell (ab vv)) := ⟨_, hc', rfl⟩
    have hne : c.env.locals ≠ c.cs.getD (place c.ns x) 0 := fun q => by rw [← q, r.off] at e; cases e
    obtain ⟨m, hn, hf⟩ := r.ns
    exact z () _ fr _ h ⟨r.toRelG.put (s' := { s with heap := h' }) e rfl hs' hob, ⟨m, hn.sameBut hs' hne, hf⟩, by rw [St.set_other _ _ hne]; exact r.off, r.new, r.frs.put e hs'⟩ (.put e rfl hs' hob ⟨h', s.toks, rfl⟩)
theorem assign_ok {t : T} {x : Str} {p : Pos} {vv : Value} {K : List V → St → Prop} (ht : tgOf c.ns x = some t) (h : stW t (ab vv) c.cs fr σ K) : SV c fr σ (assign (.Name x p) c.env vv) fun _ σ' fr' => K fr' σ' := (st_ok ht h).to fun _ _ _ => wpAny_assign_Name
noncomputable def SS (k : Nat) (st : Stmt) : Prop := ∀ (c : Cx) fr σ Q, sW c.W c.n (erS c.gl c.ns k st) c.cs fr σ Q → SV c fr σ (exec st c.env) fun f => Q (abF f)
noncomputable def SSs (k : Nat) (l : List Stmt) : Prop := ∀ (c : Cx) fr σ Q, sW c.W c.n (sl (l.map (erS c.gl c.ns k))) c.cs fr σ Q → SV c fr σ (execs l c.env) fun f => Q (abF f)
theorem oS_elim {α : Type} {o : Option α} {f : α → S} {Q : Fl → St → List V → Prop} (h : sW W n (oS o f) cs fr σ Q) : ∃ a, o = some a ∧ sW W n (f a) cs fr σ Q := by
  cases o with
  | none => exact h.elim
  | some a => exact ⟨a, rfl, h⟩
theorem grd_s {b : Bool} {x : S} {Q : Fl → St → List V → Prop} (h : sW W n (grdS b x) cs fr σ Q) : b = true ∧ sW W n x cs fr σ Q := by
  cases b with
  | true => exact ⟨rfl, h⟩
  | false => exact h.elim
theorem snss (ih : ∀ st, SS k st) : ∀ l : List Stmt, SSs k l
  | [] => fun c fr σ Q h => SV.here (fun _ _ _ => wpAny_execs_nil) h
  | st :: rest => fun c fr σ Q h A s Z R r T z => wpAny_execs_cons (ih st c fr σ _ h A s _ R r T fun f σ1 fr1 s1 q1 r1 t1 => by
    cases f with
    | next => exact snss ih rest c fr1 σ1 Q q1 A s1 Z R r1 T (z.trans t1)
    | brk => exact z _ σ1 fr1 s1 q1 r1 t1
    | cont => exact z _ σ1 fr1 s1 q1 r1 t1
    | ret v => exact z _ σ1 fr1 s1 q1 r1 t1)
section
variable {t v : PySem.Expr} {b o : List Stmt} {p : Pos}
theorem sns_ret : SS (k + 1) (.Return (some v) p) := fun c fr σ Q h => SV.g1 (fun _ _ _ => wpAny_Return_some) (sndE k v c fr σ _ h)
theorem sns_ret0 : SS (k + 1) (.Return none p) := fun c fr σ Q h => SV.here (fun _ _ _ => wpAny_Return_none) h
theorem sns_pass : SS (k + 1) (.Pass p) := fun c fr σ Q h => SV.here (fun _ _ _ => wpAny_Pass) h
theorem sns_break : SS (k + 1) (.Break p) := fun c fr σ Q h => SV.here (fun _ _ _ => wpAny_Break) h
theorem sns_cont : SS (k + 1) (.Continue p) := fun c fr σ Q h => SV.here (fun _ _ _ => wpAny_Continue) h
theorem sns_if (ih : ∀ st, SS k st) : SS (k + 1) (.If t b o p) := fun c fr σ Q h A s Z R r T z => wpAny_If (sndT k t c fr σ _ h A s _ R r fun x σ1 s1 q g t1 => by
  cases x with
  | true => exact snss ih b c fr σ1 Q q A s1 Z R (r.step g t1) T (z.trans t1.up)
  | false => exact snss ih o c fr σ1 Q q A s1 Z R (r.step g t1) T (z.trans t1.up))
theorem exp_sw {l : Nat} (h : (!isLC v) = true) : swapsWith v none l env = pure false ∨ ∀ k gl ns, er gl k ns v = .bad := by
  cases v <;> first | exact .inl rfl | exact (Bool.false_ne_true h).elim | exact .inr fun k gl ns => by cases k <;> rfl
theorem sns_exp : SS (k + 1) (.Expr v p) := fun c fr σ Q h => by
  obtain ⟨hg, h1⟩ := grd_s h
  clear h
  rcases exp_sw (env := c.env) (l := p.line) hg with hs | hs
  · have hi : interactive c.env = false := by unfold interactive; rw [c.ok.kind]; rfl
    rw [exec_Expr c.env v p hi hs]
    exact SV.stand (SV.bindG (sndE k v c fr σ _ h1) fun u σ1 q => SV.here (fun _ _ _ => wpAny_dropValue) q)
  · rw [s_exp, hs] at h1; exact h1.elim
end
end Mine

end
section -- B17
namespace Mine
variable {W : Wd} {n k : Nat} {c : Cx} {env : Env} {cs : List Addr} {fr : List V} {σ σ' : St} {A : Around} {s s' : Shared} {L : Addr → Prop}

section
variable {x : Str} {px p : Pos} {v : PySem.Expr} {t : T}
/-- the plain road -/
noncomputable def plainSet (ts : List PySem.Expr) (v : PySem.Expr) (env : Env) : Sem Flow := do
  let v' ← eval v env
  assignStores env v' (← swappedStores ts v env) ((assignEach ts env).map (·.2))
theorem plain_ok {Q : Fl → St → List V → Prop} (ht : tgOf c.ns x = some t) (h : c.x (er c.gl k c.ns v) fr σ fun u σ1 => stW t u c.cs fr σ1 fun fr1 σ2 => Q .next σ2 fr1) : SV c fr σ (plainSet [.Name x px] v c.env) fun f => Q (abF f) := by
  unfold plainSet
  refine SV.bindG (sndE k v c fr σ _ h) fun u σ1 q => ?_
  have e1 : swappedStores [.Name x px] v c.env = pure none := by unfold swappedStores; rfl
  rw [e1]
  refine SV.bind (SV.pure (Q := fun a σ' fr' => a = none ∧ σ' = σ1 ∧ fr' = fr) ⟨rfl, rfl, rfl⟩) fun a σ2 fr2 e => ?_
  obtain ⟨rfl, rfl, rfl⟩ := e
  exact SV.bind (t1 := assignAll u [assign (.Name x px) c.env]) (assign_ok ht q) fun _ σ3 fr3 q3 => SV.pure q3
theorem Frs.only {H : Heap} {C : Addr} (f : Frs H A σ' s) {s0 : Shared} (f0 : Frs H A σ s0) (hC : s0.heap.get? C = none) (o : Only C s s') : Frs H A σ' s' := by
  obtain ⟨l, hl, hf⟩ := f
  obtain ⟨l0, hl0, hf0⟩ := f0
  rw [hl] at hl0; cases hl0
  refine ⟨l, hl, fun ev he => ?_⟩
  obtain ⟨h1, L, ob, es, n, h2, h3, h4, h5, h6⟩ := hf ev he
  obtain ⟨_, L0, o0, _, _, k2, _, _, k5, _⟩ := hf0 ev he
  rw [h2] at k2; cases k2
  exact ⟨h1, L, ob, es, n, h2, h3, h4, o.keep L ob (fun q => by rw [q, hC] at k5; cases k5) h5, h6⟩
/-- a comprehension's row goes into a name -/
theorem cend_store {Q : Fl → St → List V → Prop} {Z : Value → Shared → Prop} (ht : tgOf c.ns x = some t) (R : Room c.n A) (r : Rel c.W.H A c.env σ fr s) (Tp : Mine.Top A c.env) (z : ∀ σ' fr' s', Q .next σ' fr' → Rel c.W.H A c.env σ' fr' s' → Stp (At c.env.locals) σ s σ' s' → Z .none s') :
    CEnd c.W A σ s (some fun v => assignAll v [assign (.Name x px) c.env]) (fun u σ1 => stW t u c.cs fr σ1 fun fr1 σ2 => Q .next σ2 fr1) Z := fun D C s1 σ1 q g t1 hn hσC hHC hsC => by
  have r1 := r.step g t1
  refine assign_ok ht (vv := .ref D) q A s1 _ R r1 Tp fun _ σ2 fr2 s2 q2 r2 t2 => ?_
  have hCL : C ≠ c.env.locals := fun e => by
    obtain ⟨m', ⟨o, _, _, e', _⟩, _⟩ := r.ns
    rw [← e, hsC] at e'; cases e'
  obtain ⟨m, hn⟩ := hn
  obtain ⟨oC, _, _, eC, _⟩ := id hn
  have hn2 : s2.heap.Ns C m := Ns_look hn fun o e => t2.look C o e (fun y hy => by rw [hσC] at hy; cases hy) hCL
  refine ⟨m, hn2, fun h' hs' => ?_⟩
  have o2 : Only C s2 { s2 with heap := h' } := ⟨fun b o hb e => (hs'.2 b hb).trans e, h', s2.toks, rfl⟩
  exact z σ2 fr2 _ q2 ⟨r2.toRelG.only o2 (t2.off hσC eC) hHC, let ⟨m', hn', hf'⟩ := r2.ns; ⟨m', hn'.sameBut hs' (Ne.symm hCL), hf'⟩, r2.off, r2.new, r2.frs.only r.frs hsC o2⟩ ((t1.up.trans t2).sameBut hsC hs')
theorem lc_is {v : PySem.Expr} (h : isLC v = true) : ∃ elt gens sc q, v = .ListComp elt gens sc q := by
  cases v <;> first | exact ⟨_, _, _, _, rfl⟩ | cases h
theorem set_sw {l : Nat} (h : isLC v = false) : swapsWithSole [.Name x px] v l env = pure false ∨ ∀ k gl ns, er gl k ns v = .bad := by
  cases v <;> first | exact .inl rfl | exact Bool.noConfusion (show true = false from h) | exact .inr fun k gl ns => by cases k <;> rfl
theorem comp_set {elt : PySem.Expr} {gens : List Comprehension} {sc : Scope} {q : Pos} {Q : Fl → St → List V → Prop} (ht : tgOf c.ns x = some t) (h : c.x (er c.gl (k + 1) c.ns (.ListComp elt gens sc q)) fr σ fun u σ1 => stW t u c.cs fr σ1 fun fr1 σ2 => Q .next σ2 fr1) :
    SV c fr σ (do evalThenUse (.ListComp elt gens sc q) c.env fun v => assignAll v [assign (.Name x px) c.env]; pure Flow.next) fun f => Q (abF f) := fun A s Z R r Tp z => by
  refine wpAny_bind ?_
  show wpAny c.W.M A (do let _ ← comprehension (.ListComp elt gens sc q) sc c.env (firstIterPos gens q) (newList []) (firstAsync gens) (firstIter gens c.env) (some fun v => assignAll v [assign (.Name x px) c.env])) _ _ s
  exact wpAny_bind (comp_run (sndE k elt) (fun g _ => ⟨sndE k g.iter, fun e _ => sndT k e⟩) (shape_of h) R r (cend_store ht R r Tp fun σ2 fr2 s2 q2 r2 t2 => wpAny_pure (wpAny_pure (z _ σ2 fr2 s2 q2 r2 t2))))
theorem sns_set : SS (k + 1) (.Assign [.Name x px] v p) := fun c fr σ Q h => by
  obtain ⟨t, ht, h1⟩ := oS_elim (o := tgOf c.ns x) h
  clear h
  rw [arm_exec_Assign]
  refine SV.stand ?_
  have plain := plain_ok (px := px) ht h1
  cases hlc : isLC v with
  | true =>
    obtain ⟨elt, gens, sc, q, rfl⟩ := lc_is hlc
    obtain ⟨b, e1⟩ : ∃ b, swapsWithSole [.Name x px] (.ListComp elt gens sc q) p.line c.env = pure b := ⟨_, rfl⟩
    rw [e1]
    refine SV.to (t1 := if b = true then _ else _) ?_ fun A s Z h => wpAny_bind (wpAny_pure h)
    cases b with
    | false => exact plain
    | true => cases k with
      | zero => exact h1.elim
      | succ k => exact comp_set ht h1
  | false =>
    rcases set_sw (env := c.env) (x := x) (px := px) (l := p.line) hlc with e1 | e1
    · rw [e1]; exact plain.to fun A s Z h => wpAny_bind (wpAny_pure h)
    · rw [s_set, e1] at h1; exact h1.elim
end

section
variable {o i v : PySem.Expr} {sp p np : Pos} {x : Str} {op : Operator}
theorem del_ok {ov iv : Value} {K : St → Prop} (h : delW (ab ov) (ab iv) σ K) : HV W n σ (delItem ov iv) fun _ => K := by
  cases iv with
  | int j t =>
      refine mlist_on (G := fun ov => HV W n σ (delItem ov (.int j t)) fun _ => K) h fun a xs e h A s Z R r z => ?_
      obtain ⟨items, hl, hz, hx⟩ := plainAt r e
      rw [← hx, List.length_map, Array.length_toList] at h
      have hk := h.1
      have hlm : items.size ≤ 1000000 := hz
      unfold idxOk at hk
      obtain ⟨hidx, hlt⟩ := idx_ok h.1
      refine wpAny_delItem_plain hl (by unfold Builtin.List.listFitsIndex; rw [Bool.and_eq_true, decide_eq_true_eq, decide_eq_true_eq]; omega) hidx (fun h' hl' hs' => ?_) (Nat.le_trans hz lim_le)
      refine z.putL (t := s.toks) r e hs' ⟨_, hl', ?_, ?_⟩ h.2
      · rw [Array.toList_eraseIdxIfInBounds, map_eraseIdx]
      · have := List.length_eraseIdx_le (items.toList.map ab) (idx j items.size)
        rw [List.length_map] at this; exact Nat.le_trans this hz
  | _ => exact h.elim
theorem sns_del : SS (k + 1) (.Delete [.Subscript o i sp] p) := fun c fr σ Q h => by
  rw [arm_exec_Delete]
  refine SV.stand ?_
  show SV c fr σ (((do
    let ov ← eval o c.env
    let iv ← holding [ov] (eval i c.env)
    standAt sp
    holding [ov, iv] (delItem ov iv)
    release [ov, iv] []) >>= fun _ => pure ()) >>= fun _ => pure Flow.next) _
  refine SV.bindG (Q1 := fun _ σ' => Q .next σ' fr) (GV.bind (GV.bind (sndE k o c fr σ _ h) fun ov σ1 h1 => GV.bind (GV.hold (sndE k i c fr σ1 _ h1)) fun iv σ2 h2 => GV.stand (GV.bind (GV.hold (del_ok h2).gv) fun _ σ3 h3 => ?_)) fun _ σ3 h3 => GV.pure h3) fun _ σ3 h3 => SV.pure h3
  exact fun A s Z R r z => wpAny_release (z.here r.toRelG h3)
end

end Mine

end
section -- B18
namespace Mine
variable {W : Wd} {n k : Nat} {c : Cx} {env : Env} {cs : List Addr} {fr : List V} {σ σ' : St} {A : Around} {s s' : Shared} {L : Addr → Prop}

theorem sns_while {t : PySem.Expr} {b o : List Stmt} {p : Pos} (ih : ∀ st, SS k st) : SS (k + 1) (.While t b o p) := fun c fr σ Q h A s Z R r Tp z => by
  obtain ⟨ho, h1⟩ := grd_s h
  clear h
  cases List.isEmpty_iff.mp ho
  obtain ⟨I, ⟨j0, hI⟩, turn⟩ := h1
  refine wpAny_While (codeAny_whileLoop (fun j s' => ∃ σ' fr', I j σ' fr' ∧ Rel c.W.H A c.env σ' fr' s' ∧ Stp (At c.env.locals) σ s σ' s') ?_ j0 ⟨σ, fr, hI, r, .refl ..⟩)
  intro j s' h
  obtain ⟨σ', fr', hI', r', t'⟩ := h
  refine wpW (sndT k t c fr' σ' _ (turn j σ' fr' hI') A s' _ R r' fun x σ1 s1 q1 g1 t1 => ?_)
  have r1 := r'.step g1 t1
  cases x with
  | false => exact wpAny_execs_nil (z _ σ1 fr' s1 q1 r1 (t'.trans t1.up))
  | true =>
    refine wpW (snss ih b c fr' σ1 _ q1 A s1 _ R r1 Tp fun f σ2 fr2 s2 q2 r2 t2 => ?_)
    have tt := (t'.trans t1.up).trans t2
    cases f with
    | next => obtain ⟨i, hi, hI2⟩ := q2; exact ⟨i, hi, σ2, fr2, hI2, r2, tt⟩
    | cont => obtain ⟨i, hi, hI2⟩ := q2; exact ⟨i, hi, σ2, fr2, hI2, r2, tt⟩
    | brk => exact z _ σ2 fr2 s2 q2 r2 tt
    | ret v => exact z _ σ2 fr2 s2 q2 r2 tt
theorem tg_ok {tgt : PySem.Expr} {tg : Tg} {vv : Value} {K : List V → St → Prop} (ht : tgK c.ns (ek tgt) = some tg) (h : tgW tg (ab vv) c.cs fr σ K) : SV c fr σ (assign tgt c.env vv) fun _ σ' fr' => K fr' σ' := by
  cases hk : ek tgt with
  | name x p =>
    cases (show tgt = .Name x p from ek_of hk)
    obtain ⟨t, h1, rfl⟩ := Option.map_eq_some_iff.mp (show (tgOf c.ns x).map .one = some tg from ht)
    exact assign_ok h1 h
  | _ => rw [hk] at ht; cases ht
section
variable {I : Addr} {fp : List Addr} {xs : List V} {chk : St → Prop} {S : Nat → Heap → Prop} {tgt : PySem.Expr} {b : List Stmt} {bod : V → List V → St → (Fl → St → List V → Prop) → Prop} {Q : Fl → St → List V → Prop} {σb : St} {sb : Shared}
theorem own_ok {tg : Tg} (X : Itr W A I fp xs chk S) {i : Nat} (hS : S i s.heap) (ht : tgK c.ns (ek tgt) = some tg) {v : Value} {Z : Unit → Shared → Prop} {E : Value → Shared → Prop} (h : Z () s) : wpAny W.M A (letOwnedTupleGo tgt (.ref I) v) Z E s := by
  cases hk : ek tgt with
  | name x p => cases (show tgt = .Name x p from ek_of hk); exact wpAny_pure h
  | _ => rw [hk] at ht; cases ht
/-- between two turns -/
structure FI (c : Cx) (A : Around) (I : Addr) (fp : List Addr) (S : Nat → Heap → Prop) (σb : St) (sb : Shared) (i : Nat) (fr : List V) (σ : St) (s : Shared) : Prop where
  rel : Rel c.W.H A c.env σ fr s
  j : J I fp S i σ s
  t : Stp (fun b => b = I ∨ At c.env.locals b) σb sb σ s
theorem for_run {tg : Tg} {Z : Flow → Shared → Prop} {R : Result → Shared → Prop} (X : Itr c.W A I fp xs chk S) (Rm : Room c.n A) (Tp : Mine.Top A c.env) (ht : tgK c.ns (ek tgt) = some tg) (hI : c.W.H.get? I = none) (hIb : sb.heap.get? I = none) (hLf : c.env.locals ∉ fp) (hIL : I ≠ c.env.locals)
    (hb : ∀ v fr σ K, bod v fr σ K → ∀ vv, ab vv = v → SV c fr σ (assign tgt c.env vv) fun _ σ' fr' => SV c fr' σ' (execs b c.env) fun f => K (abF f))
    (z : EndS c A σb sb (fun f => Q (abF f)) Z) (hR : ∀ f s', Z f s' → R (.ok f) s') {fr0 : List V} {σ0 : St} {s0 : Shared} (hf : forW chk bod xs fr0 σ0 Q) (l0 : FI c A I fp S σb sb 0 fr0 σ0 s0) : codeAny c.W.M A (.forLoop tgt (.ref I) b [] c.env) R s0 := by
  refine codeAny_forLoop_any (fun k s' => ∃ i σ' fr', k = xs.length + 1 - i ∧ i ≤ xs.length ∧ forW chk bod (xs.drop i) fr' σ' Q ∧ FI c A I fp S σb sb i fr' σ' s') (fun k s' h => ?_) (xs.length + 1) ⟨0, σ0, fr0, rfl, Nat.zero_le _, hf, l0⟩
  clear l0 hf
  obtain ⟨i, σ', fr', hk, hi, hfw, l⟩ := h
  by_cases hlt : i < xs.length
  · rw [drop_nth hlt] at hfw
    refine X.next l.j l.rel.toRelG hfw.1 hlt fun v s1 hv j1 o1 => own_ok X j1.1 ht ?_
    have r1 := l.rel.only o1 l.j.2.1 hI (Ne.symm hIL) (X.nod l.j)
    refine wpW (hb _ fr' σ' _ hfw.2 v hv A s1 _ Rm r1 Tp fun _ σ2 fr2 s2 q2 r2 t2 => wpW (q2 A s2 _ Rm r2 Tp fun f σ3 fr3 s3 q3 r3 t3 => ?_))
    have hn : ∀ b ∈ fp, ¬ At c.env.locals b := fun b hb q => hLf ((show b = c.env.locals from q) ▸ hb)
    have j3 := (j1.step X t2 hn).step X t3 hn
    have t3' : Stp (fun b => b = I ∨ At c.env.locals b) σb sb σ3 s3 := (l.t.trans (.only o1 (.inl rfl) (X.alive _ _ j1.1 I X.mem))).trans ((t2.trans t3).weak fun _ q => .inr q)
    have more : lpW (fun σ' fr' => forW chk bod (xs.drop (i + 1)) fr' σ' Q) Q (abF f) σ3 fr3 → (abF f = .next ∨ abF f = .cont) → ∃ m, m < k ∧ ∃ i σ' fr', m = xs.length + 1 - i ∧ i ≤ xs.length ∧ forW chk bod (xs.drop i) fr' σ' Q ∧ FI c A I fp S σb sb i fr' σ' s3 := fun q h => ⟨xs.length + 1 - (i + 1), by omega, i + 1, σ3, fr3, rfl, hlt, by
      rcases h with h | h <;> (rw [h] at q; exact q), r3, j3, t3'⟩
    cases f with
    | next => exact more q3 (.inl rfl)
    | cont => exact more q3 (.inr rfl)
    | brk => exact hR _ _ (z _ σ3 fr3 s3 q3 r3 (t3'.endW .refl hIb))
    | ret v => exact hR _ _ (z _ σ3 fr3 s3 q3 r3 (t3'.endW .refl hIb))
  · have hin : i = xs.length := Nat.le_antisymm hi (Nat.not_lt.mp hlt)
    rw [hin] at l hfw
    rw [List.drop_of_length_le (Nat.le_refl _)] at hfw
    exact X.stop l.j l.rel.toRelG hfw.1 fun s1 o1 => wpAny_execs_nil (hR _ _ (z _ σ' fr' s1 hfw.2 (l.rel.only o1 l.j.2.1 hI (Ne.symm hIL) (X.nod l.j)) (l.t.endW o1 hIb)))
end
theorem sns_for {tgt it : PySem.Expr} {b o : List Stmt} {p : Pos} (ih : ∀ st, SS k st) : SS (k + 1) (.For tgt it b o p) := fun c fr σ Q h A s Z R r Tp z => by
  obtain ⟨hg, h1⟩ := grd_s h
  obtain ⟨tg, ht, h2⟩ := oS_elim h1
  clear h h1
  obtain ⟨ho, hns⟩ := Bool.and_eq_true_iff.mp hg
  cases List.isEmpty_iff.mp ho
  refine wpAny_For (sndE k it c fr σ _ h2 A s _ R r fun xv σ1 s1 q1 g1 t1 => iter_ok q1 A s1 _ R g1 fun xs chk h' hK hI hkeep => ?_) (folded_ok hns)
  obtain ⟨fp, S, X, hS0, hfm, hfa⟩ := hI
  have r1 := r.step g1 t1
  generalize hIe : s1.heap.objs.size = I at hfa X ⊢
  have hI0 : s1.heap.get? I = none := hIe ▸ get_size _
  have hIL : I ≠ c.env.locals := fun e => by
    obtain ⟨m, ⟨o, _, _, e', _⟩, _⟩ := r1.ns
    rw [← e, hI0] at e'; cases e'
  have hLf : c.env.locals ∉ fp := fun hm => by
    rcases hfa _ hm with e | ⟨o, e⟩
    · exact hIL e.symm
    · rw [r1.off] at e; cases e
  exact for_run (σb := σ1) (sb := s1) X R Tp ht (g1.offbase hI0) hI0 hLf hIL (fun v fr' σ' K hb vv hv => by rw [← hv] at hb; exact (tg_ok ht hb).of fun _ σ2 fr2 q => snss ih b c fr2 σ2 K q) (z.trans t1.up) (fun f s' q => q) hK
    ⟨r1.step (s' := { s1 with heap := h' }) (g1.ext hkeep) (.ext hkeep ⟨h', _, rfl⟩), ⟨hS0, g1.fresh hI0, hfm⟩, .ext hkeep ⟨h', _, rfl⟩⟩
end Mine

end
section -- B19
open Builtin Builtin.Str Builtin.BaseException Builtin.Exceptions
namespace Mine
variable {A : Around} {s : Shared}

theorem ExcC.keeps {h h' : Heap} {C : Addr} (x : ExcC h C) (hk : ∀ b o, h.get? b = some o → h'.get? b = some o) : ExcC h' C := by
  obtain ⟨cd, dd, f0, mN, h1, h2, h3, h4⟩ := x
  exact ⟨cd, dd, f0, mN, hk _ _ h1, h2.keeps hk, h3, h4⟩
noncomputable def ExcO (h : Heap) (e C t : Addr) : Prop := ∃ o vs, h.get? e = some o ∧ o.cls = .ref C ∧ o.data = .fields vs ∧ vs[0]? = some (.ref t)
theorem bexcArgs_own {M : Model} {E : Value → Shared → Prop} {e C t : Addr} {items : List Value} {Q : Value × List Value → Shared → Prop} (x : ExcO s.heap e C t) (ht : s.heap.TupAt t items) (hq : Q (.ref t, items) s) :
    wpAny M A (bexcArgs (.ref e)) Q E s := by
  obtain ⟨o, vs, ho, _, hd, h0⟩ := x
  obtain ⟨ot, k, hto, _, htd⟩ := ht
  unfold bexcArgs
  refine wpAny_bind (wpAny_field ho hd h0 (wpAny_bind (wpAny_seqItems hto htd ?_)))
  have : items.toArray.toList = items := by simp
  show wpAny M A (pure (Value.ref t, items.toArray.toList)) Q E s
  rw [this]; exact wpAny_pure hq
theorem bexcStr_own {prog : Program} {w : World} {E : Value → Shared → Prop} {e C t : Addr} {m : Str} {u : Tok} {Q : Fin → Shared → Prop} (x : ExcO s.heap e C t) (ht : s.heap.TupAt t [.str m u]) (hq : Q (.done (.ret (.str m u))) s) :
    wpAny (model prog w) A (Builtin.«BaseException.__str__» ⟨[.ref e], []⟩) Q E s := by
  unfold Builtin.«BaseException.__str__»
  repeat (first | with_reducible refine bexcArgs_own x ht ?_ | wp_step)
  exact hq
theorem check_own {M : Model} {E : Value → Shared → Prop} {e C t : Addr} {Q : Unit → Shared → Prop} (c : ExcC s.heap C) (x : ExcO s.heap e C t) (hq : Q () s) : wpAny M A (checkBuiltinCall "BaseException.__str__" ⟨[.ref e], []⟩) Q E s := by
  obtain ⟨cd, dd, f0, mN, hC, hN, h3, h4⟩ := c
  have hk : builtinKind "BaseException.__str__" = some .slot := by decide +kernel
  have hsplit : splitId "BaseException.__str__" = some ("BaseException", "__str__") := by decide +kernel
  have ha := F.args_bexc_str (.ref e)
  simp only [checkBuiltinCall, hk, hsplit]
  obtain ⟨o, vs, ho, hc, hd, h0⟩ := x
  simp only [isInstance]
  obtain ⟨hp, g, d, tk, os⟩ := s
  refine wpAny_bind (wpAny_bind ?_)
  simp only [typeOf]
  refine wpAny_bind (wpAny_load ho (wpAny_pure ?_))
  rw [hc]
  refine wpAny_isSubtype_exc hC ?_
  have hb : ((Value.ref C :: bmV).contains (.type "BaseException")) = true := by rw [List.contains_cons]; rfl
  rw [hb]
  simp only [Bool.not_true, Bool.false_eq_true, if_false]
  cases hsig : Manifest.signature? "BaseException.__str__" with
  | none => exact wpAny_pure hq
  | some sig =>
    simp only [argsOk, hsig] at ha
    have h2 : Bind.checkArgs "BaseException.__str__" sig ⟨[.ref e], []⟩ = pure () := ha
    show wpAny M A (Bind.checkArgs "BaseException.__str__" sig ⟨[.ref e], []⟩) Q E _
    rw [h2]; exact wpAny_pure hq
theorem call_bexcStr_own {prog : Program} {w : World} {E : Value → Shared → Prop} {e C t : Addr} {m : Str} {u : Tok} {Q : Value → Shared → Prop} (c : ExcC s.heap C) (x : ExcO s.heap e C t) (ht : s.heap.TupAt t [.str m u]) (hq : Q (.str m u) s) :
    wpAny (model prog w) A (call (.builtin "BaseException.__str__") [.ref e]) Q E s := by
  refine wpAny_call (codeAny_call_builtin PySem.F.excStr_ValueError.str.plain F.entry_bexc_str (check_own c x (wpAny_mono (bexcStr_own x ht (Q := fun fin s' => ∃ v, fin = .done (.ret v) ∧ Q v s') ⟨_, rfl, hq⟩) (fun fin s' h' => ?_) fun _ _ h' => h')))
  obtain ⟨v, rfl, hv⟩ := h'; exact hv
theorem special_own {M : Model} {E : Value → Shared → Prop} {e C t : Addr} {Q : Option Value → Shared → Prop} (c : ExcC s.heap C) (x : ExcO s.heap e C t) (hq : wpAny M A (call (.builtin "BaseException.__str__") [.ref e]) (fun v => Q (some v)) E s) :
    wpAny M A (callSpecial? (.ref e) "__str__") Q E s := by
  obtain ⟨cd, dd, f0, mN, hC, hN, h3, h4⟩ := c
  obtain ⟨o, vs, ho, hc, hd, h0⟩ := x
  have hB := PySem.F.excStr_ValueError.str.lookup
  have hrest : lookupAlong bmV "__str__" = pure (some (.builtin "BaseException.__str__")) := by rw [typeLookup_eq, PySem.F.excBase_ValueError.mroIs] at hB; exact hB
  simp only [callSpecial?, specialOf, typeOf]
  obtain ⟨hp, g, d, tk, os⟩ := s
  refine wpAny_bind (wpAny_bind (wpAny_bind (wpAny_load ho (wpAny_pure ?_))))
  rw [hc, typeLookup_eq]
  refine wpAny_bind (wpAny_mroOf_exc hC ?_)
  rw [lookupAlong_cons]
  refine wpAny_bind (wpAny_classOwn_exc hC hN ?_)
  rw [h4]
  show wpAny M A (lookupAlong bmV "__str__") _ E _
  rw [hrest]
  refine wpAny_pure ?_
  simp only [PySem.F.excStr_ValueError.str.bind]
  exact wpAny_holding (wpAny_bind (wpAny_pure (wpAny_bind (wpAny_mono hq (fun v s' h' => wpAny_pure h') fun _ _ h' => h'))))
theorem strOf_own {prog : Program} {w : World} {E : Value → Shared → Prop} {e C t : Addr} {m : Str} {u : Tok} {Q : Value → Shared → Prop} (hu : A.units < cLine) (c : ExcC s.heap C) (x : ExcO s.heap e C t) (ht : s.heap.TupAt t [.str m u]) (hq : Q (.str m u) s) :
    wpAny (model prog w) A (Builtin.Str.strOf (.ref e)) Q E s := by
  unfold Builtin.Str.strOf
  repeat (first | with_reducible refine wpAny_cRoomFor hu ?_ | with_reducible refine special_own c x (call_bexcStr_own c x ht ?_) | wp_step)
  exact hq
theorem str_own {prog : Program} {w : World} {E : Value → Shared → Prop} {e C t : Addr} {m : Str} {u : Tok} {Q : Value → Shared → Prop} (hu : A.units + 2 < cLine) (c : ExcC s.heap C) (x : ExcO s.heap e C t) (ht : s.heap.TupAt t [.str m u]) (hq : Q (.str m u) s) :
    wpAny (model prog w) A (call (.type "str") [.ref e]) Q E s :=
  callType_new F.called_str (by decide) (F.typeCall_str_1 _) (F.newCall_str_1 _) (fun obj => F.args_object_init_2 obj _) F.entry_str_new
    (meets_str_new (S := fun A' R s' => A'.units + 1 < cLine ∧ ExcC s'.heap C ∧ ExcO s'.heap e C t ∧ s'.heap.TupAt t [.str m u] ∧ R (.ok (.ret (.str m u))) s')
      fun _ _ A' _ _ hq => strOf_own (A := A'.in1) hq.1 hq.2.1 hq.2.2.1 hq.2.2.2.1 hq.2.2.2.2)
    ⟨(show A.units + 1 + 1 < cLine from hu), c, x, ht, typeIs_str _ _ _, hq⟩
end Mine

end
section -- B20
namespace Mine
variable {W : Wd} {n k : Nat} {c : Cx} {env : Env} {cs : List Addr} {fr : List V} {σ σ' : St} {A : Around} {s s' : Shared} {L : Addr → Prop}

theorem ObjR.nd {h : Heap} {a : Addr} {x : O} (r : ObjR h a x) : ∃ o, h.get? a = some o ∧ ∀ es n, o.data ≠ .dict es n := by
  cases x with
  | lst xs => obtain ⟨i, ⟨k, e⟩, _⟩ := r; exact ⟨_, e, nofun⟩
  | ro xs => obtain ⟨i, ⟨o, e, _, k, hd⟩, _⟩ := r; exact ⟨o, e, by rw [hd]; nofun⟩
  | tup xs => obtain ⟨i, ⟨o, e, _, k, hd⟩, _⟩ := r; exact ⟨o, e, by rw [hd]; nofun⟩
  | rng a b c => obtain ⟨t, u, v, e⟩ := r; exact ⟨_, e, nofun⟩
  | cell v => obtain ⟨c, ⟨o, e, hd⟩, _⟩ := r; exact ⟨o, e, by rw [hd]; nofun⟩
  | fn f => obtain ⟨o, e, hd⟩ := r; exact ⟨o, e, by rw [hd]; nofun⟩
  | tab d => exact ⟨_, r, nofun⟩
  | code c => obtain ⟨o, vs, t, e, hd, _⟩ := r; exact ⟨o, e, by rw [hd]; nofun⟩
theorem ObjR.nodict {h : Heap} {a : Addr} {x : O} (r : ObjR h a x) {o : Obj} (e : h.get? a = some o) : ∀ es n, o.data ≠ .dict es n := by
  obtain ⟨o', e', h'⟩ := r.nd
  rw [e] at e'; cases e'; exact h'
/-- slots of frames are filled -/
theorem slots_step {σ : St} {s : Shared} {H : Heap} (r : RelG H σ s) {h6 : Heap} {tk : Nat} (hH : ∀ b o, H.get? b = some o → h6.get? b = some o) (k1 : ∀ b o, s.heap.get? b = some o → (∀ es n, o.data ≠ .dict es n) → h6.get? b = some o)
    (k2 : ∀ b o, s.heap.get? b = some o → ∃ sl, h6.get? b = some { o with slots := sl }) : RelG H σ { s with heap := h6, toks := tk } ∧ Stp No σ s σ { s with heap := h6, toks := tk } :=
  ⟨⟨hH, fun a x e => (r.objs a x e).at fun o eo => k1 a o eo ((r.objs a x e).nodict eo), r.own⟩,
   ⟨fun b o e _ _ hd => k1 b o e hd, fun b o e _ _ => k2 b o e, fun _ x e => .inl ⟨x, e, id⟩, fun b o e => let ⟨sl, e'⟩ := k2 b o e; ⟨_, e'⟩, ⟨h6, tk, rfl⟩⟩⟩
theorem land {σ : St} {W : Wd} {B h6 : Heap} {s1 : Shared} {tk : Nat} (r : RelG W.H σ s1) (hHB : W.H.StaysIn B) (hB : ∀ b o, s1.heap.get? b = some o → (∀ es n, o.data ≠ .dict es n) → B.get? b = some o) (hs : B.StaysIn h6) (hu : s1.heap.UpToSlots h6) :
    RelG W.H σ { s1 with heap := h6, toks := tk } ∧ Stp No σ s1 σ { s1 with heap := h6, toks := tk } := by
  refine slots_step r (fun b o e => hs b o (hHB b o e)) (fun b o e hd => hs b o (hB b o e hd)) fun b o e => ?_
  by_cases hf : ∃ vs, o.data = .fields vs
  · obtain ⟨vs, hf⟩ := hf
    exact ⟨o.slots, hs b o (hB b o e fun es n q => by rw [hf] at q; cases q)⟩
  · exact hu b o e fun vs q => hf ⟨vs, q⟩


/-- the state when a caught exception's suite begins -/
theorem Rel.land {B h6 : Heap} {s1 : Shared} {σ1 : St} {tk : Nat} (r : Rel W.H A env σ fr s) (g : RelG W.H σ1 s1) (t : Stp No σ s σ1 s1) (hHB : W.H.StaysIn B) (hB : ∀ b o, s1.heap.get? b = some o → (∀ es n, o.data ≠ .dict es n) → B.get? b = some o) (hs : B.StaysIn h6) (hu : s1.heap.UpToSlots h6) :
    Rel W.H A env σ1 fr { s1 with heap := h6, toks := tk } ∧ Stp No σ s σ1 { s1 with heap := h6, toks := tk } := by
  obtain ⟨g6, t6⟩ := Mine.land (tk := tk) g hHB hB hs hu
  exact ⟨r.step g6 (t.trans t6), t.trans t6⟩

theorem one_is {α : Type} {l : List α} {x : α} (h : one? l = some x) : l = [x] := by
  cases l with
  | nil => cases h
  | cons y r =>
    replace h : (if r.isEmpty then some y else none) = some x := h
    cases r with
    | nil => cases h; rfl
    | cons _ _ => cases h
theorem ite_none {α : Type} {b : Bool} {x y : α} (h : (if b = true then some x else none) = some y) : b = true ∧ x = y := by
  cases b with
  | true => exact ⟨rfl, Option.some.inj h⟩
  | false => cases h
theorem nmCall_is {e : PySem.Expr} {q : Str × List PySem.Expr} (h : nmCall e = some q) : ∃ np p, e = .Call (.Name q.1 np) q.2 [] p := by
  obtain ⟨r, h0, h⟩ := Option.bind_eq_some_iff.mp h
  have e0 := ifSome_of (eCall_is e) h0
  obtain ⟨x, h1, h2⟩ := Option.bind_eq_some_iff.mp h
  obtain ⟨h3, rfl⟩ := ite_none h2
  obtain ⟨np, e1⟩ := nameOf_is h1
  exact ⟨np, r.2.2.2, by rw [e0, e1, List.isEmpty_iff.mp h3]⟩
theorem stCall_is {st : Stmt} {e : PySem.Expr} (h : stCall st = some e) : (∃ p, st = .Expr e p) ∨ ∃ x q p, st = .Assign [.Name x q] e p := by
  unfold stCall at h
  have k := sExp_is st
  cases hs : sExp st with
  | some e' =>
    rw [hs] at h k
    cases h; exact .inl k
  | none =>
    rw [hs] at h
    obtain ⟨q, h0, h⟩ := Option.bind_eq_some_iff.mp h
    obtain ⟨p, e0⟩ := ifSome_of (sAss_is st) h0
    obtain ⟨x, h1, h2⟩ := Option.map_eq_some_iff.mp h
    obtain ⟨t, h3, h4⟩ := Option.bind_eq_some_iff.mp h1
    obtain ⟨xp, e1⟩ := nameOf_is h4
    exact .inr ⟨x, xp, p, by rw [e0, one_is h3, e1, h2]⟩
theorem typIs_is {v : Option V} {t : String} (h : typIs v t = true) : v = some (.typ t) := by
  cases v with
  | none => cases h
  | some v =>
    cases v with
    | typ u => rw [eq_of_beq (a := u) (b := t) h]
    | _ => cases h
theorem refOf_is {v : Option V} {a : Addr} (h : refOf v = some a) : v = some (.ref a) := by
  cases v with
  | none => cases h
  | some v =>
    cases v with
    | ref u => cases h; rfl
    | _ => cases h
theorem loc_is {ns : List (Str × NameKind)} {x : Str} (h : locOk ns x = true) : ns.lookup x = some .local ∧ (x == ("__debug__" : Str)) = false := by
  obtain ⟨h1, h2⟩ := Bool.and_eq_true_iff.mp h
  exact ⟨eq_of_beq h1, nbeq h2⟩
theorem glo_is {ns : List (Str × NameKind)} {x : Str} (h : gloOk ns x = true) : ns.lookup x = some .globalImplicit ∧ (x == ("__debug__" : Str)) = false := by
  obtain ⟨h1, h2⟩ := Bool.and_eq_true_iff.mp h
  exact ⟨eq_of_beq h1, nbeq h2⟩
theorem name_loc {x : Str} {p : Pos} {v : Value} {m : Str → Option Value} (hl : c.ns.lookup x = some .local ∧ (x == ("__debug__" : Str)) = false) (hn : s.heap.Ns c.env.locals m) (hx : m x = some v) {Z E : Value → Shared → Prop} (hZ : Z v s) : wpAny c.W.M A (eval (.Name x p) c.env) Z E s :=
  wpAny_Name (wpAny_loadName_local c.ok.kind hl.1 hn hx hZ) hl.2

noncomputable def RzAny (c : Cx) (A : Around) (σ : St) (s : Shared) (C : Addr) (R0 : Str → St → Prop) (ev : Value) (s' : Shared) : Prop := ∃ m, RzPost c.W A σ s C m (R0 m) ev s'
theorem FlyAt.trans {H : Heap} {C : Addr} {m : Str} {R : St → Prop} {e : Addr} {h B : Heap} {l : List Env} {a : Addr} {u : Tok} {σ1 : St} {s1 : Shared} (t : Stp No σ s σ' s') (F : FlyAt H σ' s' C m R e h B l a u σ1 s1) : FlyAt H σ s C m R e h B l a u σ1 s1 := ⟨F.hR, F.g, t.trans F.st, F.stay, F.old, F.fly, F.tup, F.up⟩
theorem RzPost.trans {C : Addr} {m : Str} {R0 : St → Prop} {ev : Value} {s2 : Shared} (t : Stp No σ s σ' s') (h : RzPost W A σ' s' C m R0 ev s2) : RzPost W A σ s C m R0 ev s2 := by
  obtain ⟨e, h, B, l, a, u, σ1, s1, tk, e1, e2, e3, F⟩ := h
  exact ⟨e, h, B, l, a, u, σ1, s1, tk, e1, e2, e3, F.trans t⟩
section
variable {f : Str} {np q : Pos} {args : List PySem.Expr} {C : Addr} {R0 : Str → St → Prop}
theorem call_raises (hp : args.all plainE = true) (R : Room c.n A) (r : Rel c.W.H A c.env σ fr s) (h : c.x (erName c.gl c.ns f) fr σ fun fv σ1 => c.l (xl (args.map (er c.gl k c.ns))) fr σ1 fun vs σ2 => ∃ m, CallRz c.W c.n fv vs C m (R0 m) σ2) :
    wpAny c.W.M A (eval (.Call (.Name f np) args [] q) c.env) (fun _ _ => False) (RzAny c A σ s C R0) s := by
  obtain ⟨q1, q2, q3⟩ := star_plain (env := c.env) (pos := q) hp
  refine wpAny_Call_ofName (wpW (name_ok h A s _ R r fun fv σ1 s1 h1 g1 t1 => ?_))
  refine callWith_of (P := fun hp => ∃ σ' s', hp = s'.heap ∧ isFnV c.W (ab fv) σ' ∧ RelG c.W.H σ' s') (by rw [q2]; rfl) (fun hp ⟨σ', s', e, hfn, g⟩ => by rw [e]; exact keeper_fn hfn g rfl) ?_
  refine evalArgs_ok q3 rfl (wpW (snd_args args (fun e _ => sndE k e) c fr σ1 _ hp h1 A s1 _ R (r.step g1 t1) fun vs σ2 s2 h2 g2 t2 => ?_))
  obtain ⟨m, h2⟩ := h2
  refine wpAny_pure ⟨⟨σ2, s2, rfl, h2.1, g2⟩, ?_⟩
  exact wpAny_mono (h2.2 A s2 R g2 ((r.step g1 t1).step g2 t2).frs fv vs rfl rfl) (fun _ _ x => x) fun ev s' p => ⟨m, p.trans (t1.trans t2)⟩
theorem body_raises {st : Stmt} {Z : Flow → Shared → Prop} {e : PySem.Expr} (he : stCall st = some e) (hq : nmCall e = some (f, args)) (hp : args.all plainE = true) (R : Room c.n A) (r : Rel c.W.H A c.env σ fr s) (h : c.x (erName c.gl c.ns f) fr σ fun fv σ1 => c.l (xl (args.map (er c.gl k c.ns))) fr σ1 fun vs σ2 => ∃ m, CallRz c.W c.n fv vs C m (R0 m) σ2) :
    wpAny c.W.M A (exec st c.env) Z (RzAny c A σ s C R0) s := by
  obtain ⟨np, q, rfl⟩ := nmCall_is hq
  have cr := call_raises (np := np) (q := q) hp R r h
  rcases stCall_is he with ⟨p, rfl⟩ | ⟨x, px, p, rfl⟩
  · have hi : interactive c.env = false := by unfold interactive; rw [c.ok.kind]; rfl
    rw [exec_Expr c.env _ _ hi rfl]
    exact wpAny_bind (wpAny_standAt (wpAny_bind (wpAny_mono cr (fun _ _ x => x.elim) fun _ _ x => x)))
  · rw [arm_exec_Assign]
    refine wpAny_bind (wpAny_standAt ?_)
    have e1 : swapsWithSole [.Name x px] (.Call (.Name f np) args [] q) p.line c.env = pure false := rfl
    rw [e1]
    exact wpAny_bind (wpAny_pure (wpAny_bind (m := eval (.Call (.Name f np) args [] q) c.env) (wpAny_mono cr (fun _ _ x => x.elim) fun _ _ x => x)))
end
/-- an exception has been caught; its suite begins -/
noncomputable def Fly (c : Cx) (σ : St) (s : Shared) (C e : Addr) (m : Str) (R0 : St → Prop) (s5 : Shared) : Prop := ∃ h B l t u σ1 s1 tk, s5 = { s1 with heap := h, toks := tk } ∧ FlyAt c.W.H σ s C m R0 e h B l t u σ1 s1
/-- what is asked of a suite -/
noncomputable def Suite (c : Cx) (A : Around) (Z : Flow → Shared → Prop) (nm : Option Str) (hb : List Stmt) (hp : Pos) (e : Addr) (s5 : Shared) : Prop :=
  codeAny c.W.M (A.mark (some (.ref e))) (.handlers (.ref e) [.ExceptHandler none nm hb hp] c.env) (fun r s2 => match r with
    | .ok f => (match nm with
      | none => Z f s2
      | some n => wpAny c.W.M A (do bindName c.env n .none; unbindBehindTheSuite c.env n hp) (fun _ s3 => Z f s3) NoE s2)
    | .error x => cameBackBy c.W.M A c.env NoE x s2) s5
theorem caught {C : Addr} {R0 : Str → St → Prop} {cl : Str} {cp hp p : Pos} {nm : Option Str} {hb : List Stmt} {st : Stmt} {Z : Flow → Shared → Prop} (hC : ExcC c.W.H C) (hg : c.gl cl = some (.ref C)) (hl : gloOk c.ns cl = true) (Tp : Mine.Top A c.env)
    (hbody : wpAny c.W.M A (exec st c.env) (fun _ _ => False) (RzAny c A σ s C R0) s) (hsu : ∀ m e s5, Fly c σ s C e m (R0 m) s5 → Suite c A Z nm hb hp e s5) : wpAny c.W.M A (exec (.Try [st] [.ExceptHandler (some (.Name cl cp)) nm hb hp] [] [] p) c.env) Z NoE s := by
  refine wpAny_Try_except (wpAny_execs_cons (wpAny_mono hbody (fun _ _ x => x.elim) fun ev s1 hz => ?_))
  obtain ⟨m, e, h', B, l, t, u, σ1, s1', tk, rfl, hfrm, rfl, F⟩ := hz
  obtain ⟨hf, outer, hfr⟩ := id Tp
  rw [hfr] at hfrm; cases hfrm
  refine wpAny_looks_onW hfr hf F.fly fun h4 hheld4 up4 => wpAny_landsW hheld4 fun h5 hfl5 up5 => ?_
  have base5 : ∀ b o, c.W.H.get? b = some o → h5.get? b = some o := fun b o e => hfl5.1 b o (F.stay b o e)
  obtain ⟨hl1, hl2⟩ := glo_is hl
  refine wpAny_handleBy_cons (codeAny_handlers_test (wpAny_Name (glob_any hl1 hg base5 fun v' hv' => ?_) hl2)) nofun
  rw [ab_ref hv']
  obtain ⟨oe, hoe, hoec⟩ := hfl5.there
  obtain ⟨cd, dd, f0, mN, hC1, _⟩ := hC.keeps base5
  refine wpAny_excMatches_sub_self hC1 hoe hoec rfl ?_
  exact hsu m e _ ⟨h5, B, _, t, u, σ1, s1', tk, rfl, F.hR, F.g, F.st, F.stay, F.old, hfl5, (F.tup.of_slots up4).of_slots up5, (F.up.trans up4).trans up5⟩
end Mine

end
section -- B21
namespace Mine
variable {W : Wd} {n k : Nat} {c : Cx} {env : Env} {cs : List Addr} {fr : List V} {σ σ' : St} {A : Around} {s s' : Shared} {L : Addr → Prop}

theorem nth_self : ∀ (l : List V) (i : Nat), nth (setN l i .undef) i = .undef
  | [], _ => rfl
  | _ :: _, 0 => rfl
  | _ :: r, i + 1 => nth_self r i
section
variable {Q : Fl → St → List V → Prop} {Z : Flow → Shared → Prop} {C e : Addr} {m : Str} {hp : Pos} {s5 : Shared}
theorem strCall_ok {g ex : Str} {gp xp cp : Pos} {t : Addr} {u : Tok} {mm : Str → Option Value} (hg : gloOk c.ns g = true) (hty : typIs (c.gl g) "str" = true) (hx : locOk c.ns ex = true) (hn : s.heap.Ns c.env.locals mm) (hm : mm ex = some (.ref e))
    (hb : ∀ b o, c.W.H.get? b = some o → s.heap.get? b = some o) (hu : A.units + 2 < cLine) (hC : ExcC s.heap C) (hxo : ExcO s.heap e C t) (ht : s.heap.TupAt t [.str m u]) {Z E : Value → Shared → Prop} (hZ : Z (.str m u) s) : wpAny c.W.M A (eval (.Call (.Name g gp) [.Name ex xp] [] cp) c.env) Z E s := by
  refine wpAny_Call_ofName (wpAny_Name (glob_any (glo_is hg).1 (typIs_is hty) hb fun v' hv' => ?_) (glo_is hg).2)
  rw [ab_typ hv']
  exact PySem.callWith_type rfl (evalArgs_ok (.inr ⟨_, _, rfl⟩) rfl (Calls.spliced_cons (name_loc (loc_is hx) hn hm (Calls.spliced_nil (wpAny_pure (str_own hu hC hxo ht hZ))))))
/-- w.append(str(error)) -/
theorem suite_app {w g ex : Str} {wp gp xp cp ap p ep : Pos} (hC : ExcC c.W.H C) (hw : locOk c.ns w = true) (hx : locOk c.ns ex = true) (hg : gloOk c.ns g = true) (hty : typIs (c.gl g) "str" = true) (hne : (w != ex) = true) (hline : (ap.endLine == p.line) = true) (R : Room c.n A) (r : Rel c.W.H A c.env σ fr s) (z : EndS c A σ s (fun f => Q (abF f)) Z)
    (hf : Fly c σ s C e m (fun σ3 => hdW (.appStr (place c.ns ex) (place c.ns w)) m fr σ3 Q) s5) :
    Suite c A Z (some ex) [.Expr (.Call (.Attribute (.Name w wp) (meN .append) ap) [.Call (.Name g gp) [.Name ex xp] [] cp] [] p) ep] hp e s5 := by
  obtain ⟨h5, B, l, t, u, σ1, s1, tk, rfl, F⟩ := hf
  refine codeAny_handlers_suite_as (lands_againW F.fly fun h6 hfl6 up6 => ?_)
  obtain ⟨r6, t6⟩ := r.land (tk := tk) F.g F.st F.stay F.old hfl6.1 (F.up.trans up6)
  have ht6 := F.tup.of_slots up6
  have hb6 : ∀ b o, c.W.H.get? b = some o → h6.get? b = some o := fun b o e => hfl6.1 b o (F.stay b o e)
  obtain ⟨oe, vs, hoe, hoec, hoed, hoe0⟩ := hfl6.first
  have hR := F.hR
  clear up6 hfl6 F
  obtain ⟨ot, nt, hot, hotc, hotd⟩ := ht6
  have hwl := loc_is hw
  have hxl := loc_is hx
  have hpl : place c.ns ex ≠ place c.ns w := fun q => place_ne hwl.1 hxl.1 hne q.symm
  have ndL : ∀ b o, h6.get? b = some o → (∀ es n, o.data ≠ .dict es n) → b ≠ c.env.locals := fun b o e hd q => by
    obtain ⟨m0, ⟨oL, esL, epL, eL, hdL, _⟩, _⟩ := r6.ns
    rw [q, show h6.get? c.env.locals = some oL from eL] at e; cases e; exact hd _ _ hdL
  have r6m : Rel c.W.H (A.mark (some (.ref e))) c.env σ1 fr { s1 with heap := h6, toks := tk } := ⟨r6.toRelG, r6.ns, r6.off, r6.new, r6.frs⟩
  refine store_loc hxl.1 r6m fun s7 r7 t7 o7 hn7 => ?_
  have hC7 := hC.keeps r7.base
  have hxo : ExcO s7.heap e C t := ⟨oe, vs, o7.keep e oe (ndL e oe hoe (by rw [hoed]; nofun)) hoe, hoec, hoed, hoe0⟩
  have ht7 : s7.heap.TupAt t [.str m u] := ⟨ot, nt, o7.keep t ot (ndL t ot hot (by rw [hotd]; nofun)) hot, hotc, hotd⟩
  clear hoe hot ndL hC hoed hotd hoe0 hoec hotc
  obtain ⟨m0, hn7, hf0⟩ := hn7
  obtain ⟨hnu, hml⟩ := hR
  rw [nth_eq] at hnu hml
  obtain ⟨vw, hvw, habw⟩ := hf0 _ _ (place_of hwl.1) hnu
  rw [show fr.getD (place c.ns w) .undef = ab vw from habw.symm] at hml
  obtain ⟨a, xs, rfl, ea, hzl, hq⟩ := mlist_ref hml
  obtain ⟨items, hpl7, hz7, hx7⟩ := plainAt r7.toRelG ea
  have hi : interactive c.env = false := by unfold interactive; rw [c.ok.kind]; rfl
  refine wpAny_execs_cons ?_
  rw [exec_Expr c.env _ _ hi rfl]
  refine wpAny_bind (wpAny_standAt (wpAny_bind (wpAny_Call_method (T := "list") rfl rfl hline PySem.F.plainAttrs_list (meSlot .append) (meType .append) (name_loc hwl hn7 ((if_neg (bne_iff_ne.mp hne)).trans hvw) ⟨hpl7.isList.typeIs, fun b hb => ?_, ?_⟩))))
  · cases hb; obtain ⟨_, hc⟩ := hpl7; exact ⟨_, hc, rfl⟩
  refine Calls.callWith_builtin rfl (evalArgs_ok (.inr ⟨_, _, rfl⟩) rfl (Calls.spliced_cons (strCall_ok hg hty hx hn7 (if_pos rfl) r7.base (by have := R.units; show A.units + 2 < 9900; omega) hC7 hxo ht7 (Calls.spliced_nil (wpAny_pure ?_)))))
  refine wpAny_list_append_plain hpl7 (fun h8 hl8 hs8 => wpAny_dropValue ?_) (Nat.le_trans hz7 lim_le)
  have end8 := Ends.putL (α := Unit) (Q := fun _ σ' => σ' = σ1.set a (.lst (xs ++ [.str m]))) (Z := fun _ s8 => Rel c.W.H A c.env (σ1.set a (.lst (xs ++ [.str m]))) (setN fr (place c.ns ex) (.ref e)) s8 ∧ Stp (At c.env.locals) σ s (σ1.set a (.lst (xs ++ [.str m]))) s8) (v := ()) (t := s7.toks) (fun _ σ8 s8 q8 g8 t8 => by
    rw [← q8]
    have r8 := r7.step g8 t8
    exact ⟨⟨r8.toRelG, r8.ns, r8.off, r8.new, r8.frs⟩, (t6.up.trans t7).trans t8.up⟩) r7.toRelG ea hs8 ⟨_, hl8, by rw [Array.toList_push, List.map_append, hx7]; rfl, by rw [List.length_append]; exact hzl⟩ rfl
  obtain ⟨r8, t8⟩ := end8
  obtain ⟨m8, hn8, hf8⟩ := r8.ns
  refine wpAny_execs_nil (wpAny_nameGoes_keeps hxl.1 hn8 (by rw [c.ok.kind]; rfl) fun h9 v9 hn9 hs9 => ?_)
  have hk : ∀ b o, ¬ At c.env.locals b → h8.get? b = some o → h9.get? b = some o := fun b o hb e => (hs9.2 b hb).trans e
  refine z _ _ _ _ hq ⟨r8.toRelG.hidden (L := At c.env.locals) (fun b hb => by rw [show b = c.env.locals from hb]; exact ⟨r8.off, r8.new⟩) hk, ⟨_, hn9, fun i y hi hu => ?_⟩, r8.off, r8.new, r8.frs.at hs9 hn9⟩ (t8.trans (.hidden hk (fun b o hb _ => by rw [show b = c.env.locals from hb]; obtain ⟨o, _, _, e, _⟩ := hn9; exact ⟨o, e⟩) ⟨h9, _, rfl⟩))
  have hip : i ≠ place c.ns ex := fun q => hu (by rw [q, ← nth_eq, nth_self])
  rw [← nth_eq, nth_setN _ _ _ _ (Ne.symm hip)] at hu ⊢
  rw [← nth_setN fr (place c.ns ex) i (.ref e) (Ne.symm hip), nth_eq] at hu ⊢
  obtain ⟨v, h1, h2⟩ := hf8 i y hi hu
  refine ⟨v, (if_neg fun q => hip ?_).trans h1, h2⟩
  rw [q] at hi
  exact (nodup_lookup c.ok.nodup hi).2.symm
end
end Mine

end
section -- B22
namespace Mine
variable {W : Wd} {n k : Nat} {c : Cx} {env : Env} {cs : List Addr} {fr : List V} {σ σ' : St} {A : Around} {s s' : Shared} {L : Addr → Prop}

theorem appC_is {e : PySem.Expr} {w g x : Str} (h : appC e = some (w, g, x)) : ∃ wp gp xp cp ap p, e = .Call (.Attribute (.Name w wp) (meN .append) ap) [.Call (.Name g gp) [.Name x xp] [] cp] [] p ∧ (ap.endLine == p.line) = true := by
  obtain ⟨q, h0, h⟩ := Option.bind_eq_some_iff.mp h
  have e0 := ifSome_of (eCall_is e) h0
  obtain ⟨r, h1, h⟩ := Option.bind_eq_some_iff.mp h
  have e1 := ifSome_of (eAttr_is _) h1
  clear h0 h1
  obtain ⟨w', h1, h⟩ := Option.bind_eq_some_iff.mp h
  obtain ⟨wp, e2⟩ := nameOf_is h1
  obtain ⟨c', h2, h⟩ := Option.bind_eq_some_iff.mp h
  obtain ⟨q', h3, h⟩ := Option.bind_eq_some_iff.mp h
  obtain ⟨gp, cp, e3⟩ := nmCall_is h3
  obtain ⟨e', h4, h⟩ := Option.bind_eq_some_iff.mp h
  obtain ⟨x', h5, h⟩ := Option.bind_eq_some_iff.mp h
  obtain ⟨xp, e4⟩ := nameOf_is h5
  obtain ⟨h6, h7⟩ := ite_none h
  have h2 := one_is h2
  have h4 := one_is h4
  clear h1 h3 h5 h
  cases h7
  obtain ⟨h8, h9⟩ := Bool.and_eq_true_iff.mp h6
  obtain ⟨h10, h11⟩ := Bool.and_eq_true_iff.mp h8
  refine ⟨wp, gp, xp, cp, r.2.2, q.2.2.2, ?_, h9⟩
  rw [e0, e1, e2, h2, e3, h4, e4, List.isEmpty_iff.mp h10, eq_of_beq h11]; rfl
/-- what a handler is -/
inductive HdIs (gl : Str → Option V) (ns : List (Str × NameKind)) : Option Str → List Stmt → Hd → Prop where
  | app (w g ex : Str) (wp gp xp cp ap p ep : Pos) (hw : locOk ns w = true) (hx : locOk ns ex = true) (hg : gloOk ns g = true) (hty : typIs (gl g) "str" = true) (hne : (w != ex) = true) (hline : (ap.endLine == p.line) = true) :
      HdIs gl ns (some ex) [.Expr (.Call (.Attribute (.Name w wp) (meN .append) ap) [.Call (.Name g gp) [.Name ex xp] [] cp] [] p) ep] (.appStr (place ns ex) (place ns w))
theorem hdApp_is {gl : Str → Option V} {ns : List (Str × NameKind)} {nm : Option Str} {e : PySem.Expr} {p : Pos} {h : Hd} (h2 : hdApp gl ns nm e = some h) : HdIs gl ns nm [.Expr e p] h := by
  obtain ⟨ex, rfl, h4⟩ := Option.bind_eq_some_iff.mp h2
  obtain ⟨⟨w, g, x⟩, h5, h6⟩ := Option.bind_eq_some_iff.mp h4
  obtain ⟨h7, rfl⟩ := ite_none h6
  obtain ⟨wp, gp, xp, cp, ap, p', rfl, hl⟩ := appC_is h5
  clear h2 h4 h5 h6
  obtain ⟨g1, g2⟩ := Bool.and_eq_true_iff.mp h7
  obtain ⟨g3, g4⟩ := Bool.and_eq_true_iff.mp g2
  obtain ⟨g5, g6⟩ := Bool.and_eq_true_iff.mp g4
  obtain ⟨g7, g8⟩ := Bool.and_eq_true_iff.mp g6
  obtain ⟨g9, g10⟩ := Bool.and_eq_true_iff.mp g8
  rw [show x = ex from eq_of_beq g1]
  exact .app w g ex wp gp xp cp ap p' p g5 g3 g7 g9 g10 hl
theorem hdOf_is {gl : Str → Option V} {ns : List (Str × NameKind)} {nm : Option Str} {hb : List Stmt} {h : Hd} (hh : hdOf gl ns nm hb = some h) : HdIs gl ns nm hb h := by
  obtain ⟨st, h1, h2⟩ := Option.bind_eq_some_iff.mp hh
  rw [one_is h1]
  clear hh h1
  have k := sExp_is st
  cases hs : sExp st with
  | none => rw [hs] at h2; cases h2
  | some c =>
    rw [hs] at h2 k
    obtain ⟨p, rfl⟩ := k
    exact hdApp_is h2
theorem hName_is {h : ExceptHandler} {q : Str × Option Str × List Stmt} (e : hName h = some q) : ∃ cp hp, h = .ExceptHandler (some (.Name q.1 cp)) q.2.1 q.2.2 hp := by
  cases h with
  | ExceptHandler t nm b hp =>
    obtain ⟨t', rfl, h2⟩ := Option.bind_eq_some_iff.mp (show t.bind _ = some q from e)
    obtain ⟨cl, h3, rfl⟩ := Option.map_eq_some_iff.mp h2
    obtain ⟨cp, rfl⟩ := nameOf_is h3
    exact ⟨cp, hp, rfl⟩
theorem sns_try {b : List Stmt} {hs : List ExceptHandler} {o f : List Stmt} {p : Pos} (ih : ∀ st, SS k st) : SS (k + 1) (.Try b hs o f p) := fun c fr σ Q h => by
  obtain ⟨g0, h1⟩ := grd_s h
  obtain ⟨st, e1, h2⟩ := oS_elim h1
  obtain ⟨hd, e2, h3⟩ := oS_elim h2
  clear h h1 h2
  obtain ⟨g1, g2⟩ := Bool.and_eq_true_iff.mp g0
  obtain ⟨h0, e3, e4⟩ := Option.bind_eq_some_iff.mp e2
  obtain ⟨cp, hp, e5⟩ := hName_is e4
  rw [one_is e1, one_is e3, e5, List.isEmpty_iff.mp g1, List.isEmpty_iff.mp g2]
  clear e1 e2 e3 e4 e5 g0 g1 g2 b hs o f h0
  obtain ⟨cl, nm, hb⟩ := hd
  obtain ⟨q, e1, h4⟩ := oS_elim h3
  obtain ⟨hd, e2, h5⟩ := oS_elim h4
  obtain ⟨C, e3, h6⟩ := oS_elim h5
  obtain ⟨g, h7⟩ := grd_s h6
  clear h3 h4 h5 h6
  obtain ⟨g1, g2⟩ := Bool.and_eq_true_iff.mp g
  obtain ⟨g3, g4⟩ := Bool.and_eq_true_iff.mp g2
  obtain ⟨e, e4, e5⟩ := Option.bind_eq_some_iff.mp e1
  intro A s Z R r Tp z
  rcases h7 with h | ⟨hC, h⟩
  · refine wpAny_Try_except (wpAny_mono (snss ih [st] c fr σ Q ((congrArg (fun q => sW c.W c.n (erS c.gl c.ns k st) c.cs fr σ q) (funext fun f => funext fun σ1 => funext fun fr1 => by cases f <;> rfl)).mpr h) A s Z R r Tp z) (fun f s1 p1 => ?_) fun _ _ x => x.elim)
    cases f with
    | next => exact wpAny_execs_nil p1
    | _ => exact p1
  · refine caught hC (refOf_is e3) g3 Tp (body_raises (R0 := fun m σ3 => hdW hd m fr σ3 Q) e4 e5 g1 R r h) fun m e' s5 hf => ?_
    cases hdOf_is e2 with
    | app w g ex wp gp xp cp ap p ep hw hx hg hty hne hline => exact suite_app hC hw hx hg hty hne hline R r z hf
theorem sns_raise {e x : Option PySem.Expr} {p : Pos} : SS (k + 1) (.Raise e x p) := fun c fr σ Q h => by
  obtain ⟨_, h1⟩ := grd_s h
  obtain ⟨q, _, h2⟩ := oS_elim h1
  obtain ⟨a, _, h3⟩ := oS_elim h2
  exact (grd_s h3).2.elim
end Mine

end
section -- B23
namespace Mine
variable {W : Wd} {n k : Nat} {c : Cx} {env : Env} {cs : List Addr} {fr : List V} {σ σ' : St} {A : Around} {s s' : Shared} {L : Addr → Prop}

theorem RelG.set {H : Heap} {a : Addr} {x : O} (r : RelG H σ s) (ho : ObjR s.heap a x) (hH : H.get? a = none) : RelG H (σ.set a x) s := by
  refine ⟨r.base, fun b z e => ?_, fun b z e hz => ?_⟩
  · by_cases hb : b = a
    · rw [hb, St.set_same] at e; cases e; rw [hb]; exact ho
    · rw [St.set_other _ _ hb] at e; exact r.objs b z e
  · by_cases hb : b = a
    · rw [hb]; exact hH
    · rw [St.set_other _ _ hb] at e; exact r.own b z e hz
theorem sns_bad {st : Stmt} (h : ∀ gl ns, erS gl ns k st = .bad) : SS k st := fun c fr σ Q q => by rw [h] at q; exact q.elim
theorem sns_assign {ts : List PySem.Expr} {v : PySem.Expr} {p : Pos} : SS (k + 1) (.Assign ts v p) := fun c fr σ Q h => by
  obtain ⟨t, e, h1⟩ := oS_elim h
  rw [one_is e] at h ⊢
  replace h1 : sW c.W c.n (assS c.ns (ek t) _ _) c.cs fr σ Q := h1
  cases hk : ek t with
  | name x q => cases (show t = .Name x q from ek_of hk); exact sns_set c fr σ Q h
  | _ => rw [hk] at h1; exact h1.elim
theorem sns_delete {ts : List PySem.Expr} {p : Pos} : SS (k + 1) (.Delete ts p) := fun c fr σ Q h => by
  obtain ⟨q, e, h1⟩ := oS_elim h
  obtain ⟨t, e1, e2⟩ := Option.bind_eq_some_iff.mp e
  clear e
  rw [one_is e1] at h ⊢
  cases hk : ek t with
  | sub o i q => cases (show t = .Subscript o i q from ek_of hk); exact sns_del c fr σ Q h
  | _ => rw [hk] at e2; cases e2
theorem sns : ∀ k st, SS k st
  | 0, st => sns_bad fun _ _ => rfl
  | k + 1, st => by
    have ih := sns k
    cases st with
    | Assign ts v p => exact sns_assign
    | Delete ts p => exact sns_delete
    | Expr v p => exact sns_exp
    | Return v p => cases v with
      | none => exact sns_ret0
      | some v => exact sns_ret
    | If t b o p => exact sns_if ih
    | While t b o p => exact sns_while ih
    | For t it b o p => exact sns_for ih
    | Raise e x p => exact sns_raise
    | Try b hs o f p => exact sns_try ih
    | Pass p => exact sns_pass
    | Break p => exact sns_break
    | Continue p => exact sns_cont
    | _ => exact sns_bad fun _ _ => rfl
end Mine

end
section -- B24
namespace Mine
variable {W : Wd} {n k : Nat} {gl : Str → Option V} {σ : St} {A : Around} {s s' : Shared}

noncomputable def cellW : List (Str × NameKind) → (Str → V) → List Addr → St → (List Addr → St → Prop) → Prop
  | [], _, acc, σ, K => K acc σ
  | (x, k) :: r, b, acc, σ, K => if k == .cell then ∀ a, σ a = none → cellW r b (acc ++ [a]) (σ.set a (.cell (b x))) K else cellW r b (acc ++ [0]) σ K
noncomputable def slots0 (names : List (Str × NameKind)) (b : Str → V) : List V := names.map fun p => if p.2 == .local then b p.1 else .undef
noncomputable def parV (abinds : List (Str × V)) (x : Str) : V := (abinds.lookup x).getD .undef

theorem cellW_at {b : Str → V} {K : List Addr → St → Prop} : ∀ (names : List (Str × NameKind)) (m : Nat) (acc : List Addr) (σ : St), cellW names b acc σ K → (∀ j, m ≤ j → σ j = none) → K (acc ++ caddrs m names) (cset m names b σ)
  | [], m, acc, σ, h, _ => by simpa [caddrs, cset, cellW] using h
  | (x, k) :: r, m, acc, σ, h, hf => by
    unfold cellW at h
    unfold caddrs cset
    by_cases hk : (k == NameKind.cell) = true
    · rw [if_pos hk] at h ⊢
      rw [if_pos hk]
      have := cellW_at r (m + 1) _ _ (h m (hf m (Nat.le_refl _))) fun j hj => by
        rw [St.set_other _ _ (show j ≠ m from Nat.ne_of_gt hj)]; exact hf j (Nat.le_of_succ_le hj)
      simpa using this
    · rw [if_neg hk] at h ⊢
      rw [if_neg hk]
      have := cellW_at r m _ _ h hf
      simpa using this
theorem store_cells {env : Env} {x : Str} {v : Value} {l : List (Str × Addr)} (h : env.kindOf x = some .local ∨ env.cells.lookup x = l.lookup x) : storeName env x v = storeName { env with cells := l } x v := by
  rcases h with h | h
  · have h' : ({ env with cells := l } : Env).kindOf x = some .local := h
    unfold storeName
    rw [h, h']; rfl
  · unfold storeName cellOf
    rw [h]; rfl
theorem forIn_same {α β : Type} {f g : α → β → Sem (ForInStep β)} : ∀ (l : List α) (b : β), (∀ x ∈ l, ∀ b, f x b = g x b) → forIn l b f = forIn l b g
  | [], b, _ => by rw [List.forIn_nil, List.forIn_nil]
  | x :: r, b, h => by
    rw [List.forIn_cons, List.forIn_cons, h x List.mem_cons_self]
    congr 1
    funext u
    cases u with
    | done b => rfl
    | yield b => exact forIn_same r b fun y hy => h y (List.mem_cons_of_mem _ hy)
/-- a new frame, with cells from outside -/
theorem newEnv_clo {M : Model} {E : Value → Shared → Prop} {scope : Scope} {globals : Addr} {clo : List (Str × Addr)} {binds : List (Str × Value)} {qual : Str} {func : Option Addr} {code : Value} {builtins : Addr} {Q : Env → Shared → Prop}
    (hk : scope.kind = .function) (hn : (scope.names.map (·.1)).Nodup) (hkind : ∀ x ∈ binds, scope.names.lookup x.1 = some .local ∨ scope.names.lookup x.1 = some .cell)
    (hQ : ∀ env, env = newEnv scope s.heap.objs.size globals (cellsFrom (s.heap.objs.size + 1) scope.names clo) qual func code none builtins →
      ∀ s', InCallC s env.locals (bindL env.kindOf binds fun _ => none) (cellsFrom (s.heap.objs.size + 1) scope.names []) (bindC env.kindOf binds fun _ => none) s' → Q env s') :
    wpAny M A (newFunctionEnv scope globals clo binds qual func code none builtins) Q E s := by
  simp only [newFunctionEnv, Option.isSome_none, Bool.false_eq_true, if_false]
  refine wpAny_bind (wpAny_alloc ?_)
  refine wpAny_bind (wpAny_layCells _ (fun name kind cells => by cases hkc : kind == NameKind.cell <;> simp [hkc]) _ _ _ _ ?_)
  have ok := cellsFrom_ok scope.names (s.heap.push { cls := .type "frame", data := .dict #[] }) (s.heap.objs.size + 1) [] ⟨fun _ _ hm => (nomatch hm), List.Pairwise.nil⟩ (by rw [Heap.size_push]; exact Nat.le_refl _)
  rw [Heap.size_push] at ok
  rw [show ({ s with heap := s.heap.push { cls := .type "frame", data := .dict #[] } } : Shared).heap.objs.size = s.heap.objs.size + 1 from Heap.size_push ..]
  have own : ∀ x acc, scope.names.lookup x = some .cell → (cellsFrom (s.heap.objs.size + 1) scope.names acc).lookup x = some ((caddrs (s.heap.objs.size + 1) scope.names).getD (place scope.names x) 0) := fun x acc hx => cellsFrom_get scope.names _ _ acc hn (place_of hx)
  rw [forIn_same (g := fun p (_ : PUnit) => do
    storeName { newEnv scope s.heap.objs.size globals (cellsFrom (s.heap.objs.size + 1) scope.names clo) qual func code none builtins with cells := cellsFrom (s.heap.objs.size + 1) scope.names [] } p.1 p.2
    pure (.yield ⟨⟩)) binds _ fun p hp _ => by
      rw [← store_cells (env := newEnv scope s.heap.objs.size globals (cellsFrom (s.heap.objs.size + 1) scope.names clo) qual func code none builtins)]
      · rfl
      rcases hkind p hp with h | h
      · exact .inl h
      · exact .inr ((own _ _ h).trans (own _ _ h).symm)]
  refine wpAny_bind (wpAny_bindParams (s₀ := s) (env := { newEnv scope s.heap.objs.size globals (cellsFrom (s.heap.objs.size + 1) scope.names clo) qual func code none builtins with cells := cellsFrom (s.heap.objs.size + 1) scope.names [] })
    _ (fun _ _ _ => rfl) hk binds (fun _ => none) (fun _ => none) _ _
    ⟨⟨⟨_, _, rfl⟩, (Heap.Ns.new s.heap (.type "frame")).keeps (pushCells_keeps _ _), fun b o e => pushCells_keeps _ _ b o (Heap.get?_push_of_some _ e), Nat.le_refl _⟩,
      fun n c hc => (ok.empty n c (mem_of_lookup hc)).1, ok.apart, fun n c hm => (ok.empty n c hm).2⟩
    (fun x hx => (hkind x hx).imp id fun h => ⟨h, by rw [own _ _ h]; rfl⟩) fun s' x => wpAny_pure (hQ _ rfl s' x))

theorem bindL_at {kindOf : Str → Option NameKind} : ∀ (binds : List (Str × Value)) (m : Str → Option Value) (x : Str), (binds.map (·.1)).Nodup → kindOf x = some .local → bindL kindOf binds m x = (binds.lookup x).or (m x)
  | [], m, x, _, _ => by simp [bindL]
  | (y, v) :: r, m, x, hn, hk => by
    obtain ⟨h1, h2⟩ := List.nodup_cons.mp (by simpa using hn : (y :: r.map (·.1)).Nodup)
    unfold bindL
    rw [bindL_at r _ x h2 hk]
    by_cases e : x = y
    · subst e
      rw [if_pos hk]
      have : r.lookup x = none := by
        rw [List.lookup_eq_none_iff]
        intro p hp
        have : p.1 ≠ x := fun q => h1 (List.mem_map.mpr ⟨p, hp, q⟩)
        simpa using Ne.symm this
      simp [this, List.lookup_cons]
    · have e1 : (x == y) = false := by simpa using e
      rw [List.lookup_cons, e1]
      split <;> simp [e]
theorem bindC_at {kindOf : Str → Option NameKind} : ∀ (binds : List (Str × Value)) (m : Str → Option Value) (x : Str), (binds.map (·.1)).Nodup → kindOf x ≠ some .local → bindC kindOf binds m x = (binds.lookup x).or (m x)
  | [], m, x, _, _ => by simp [bindC]
  | (y, v) :: r, m, x, hn, hk => by
    obtain ⟨h1, h2⟩ := List.nodup_cons.mp (by simpa using hn : (y :: r.map (·.1)).Nodup)
    unfold bindC
    rw [bindC_at r _ x h2 hk]
    by_cases e : x = y
    · subst e
      rw [if_neg hk]
      have : r.lookup x = none := by
        rw [List.lookup_eq_none_iff]
        intro p hp
        have : p.1 ≠ x := fun q => h1 (List.mem_map.mpr ⟨p, hp, q⟩)
        simpa using Ne.symm this
      simp [this, List.lookup_cons]
    · have e1 : (x == y) = false := by simpa using e
      rw [List.lookup_cons, e1]
      split <;> simp [e]
noncomputable def abB (b : List (Str × Value)) : List (Str × V) := b.map fun p => (p.1, ab p.2)
theorem abB_lookup : ∀ (b : List (Str × Value)) (x : Str), (abB b).lookup x = (b.lookup x).map ab
  | [], x => rfl
  | (y, v) :: r, x => by
    show List.lookup x ((y, ab v) :: abB r) = _
    rw [List.lookup_cons, List.lookup_cons]
    cases x == y with
    | true => rfl
    | false => exact abB_lookup r x

/-- what is asked of a function -/
structure FnC (clo : List (Str × Addr)) (names : List (Str × NameKind)) (body : List Stmt) (fd : FuncData) : Prop where
  body : fd.body = .stmts body
  clo : fd.closure = clo
  glob : fd.globals = mainGlobals
  blt : fd.builtins = builtinsNs
  nm : fd.scope.names = names
  kind : fd.scope.kind = .function
  gen : fd.scope.isGenerator = false
  cor : fd.scope.isCoroutine = false
  nodup : (names.map (·.1)).Nodup
  nocls : ∀ p ∈ names, p.1 ≠ ("__classdict__" : Str)
/-- what is asked of a function of the text -/
structure FnOK (W : Wd) (fa : Addr) (names : List (Str × NameKind)) (body : List Stmt) (fd : FuncData) : Prop extends FnC [] names body fd where
  obj : ∃ o, W.H.get? fa = some o ∧ o.data = .func fd
  code : W.H.CodeRec fd.code fd.qualname
  nofree : ∀ p ∈ names, p.2 ≠ .free

noncomputable def retV : Fl → V
  | .ret v => v
  | _ => .none

/-- how the cells from outside stand among the own -/
noncomputable def Fix (clo : List (Str × Addr)) (names : List (Str × NameKind)) (fix : List Addr → List Addr) : Prop := ∀ l : List Addr, l.length = names.length → (fix l).length = names.length ∧ ∀ i y k, names[i]? = some (y, k) → (k = .cell → (fix l).getD i 0 = l.getD i 0) ∧ (k = .free → clo.lookup y = some ((fix l).getD i 0))
/-- into a function -/
theorem enter_fn (hlim : W.H.NoLimit) {fa : Addr} {names : List (Str × NameKind)} {body : List Stmt} {fd : FuncData} {clo : List (Str × Addr)} {fix : List Addr → List Addr} (F : FnC clo names body fd) (hfix : Fix clo names fix) {vs kvs : List Value} {kn : List Str} {binds : List (Str × Value)} {abinds : List (Str × V)}
    {o : Obj} (ho : s.heap.get? fa = some o) (hd : o.data = .func fd) (hcode : s.heap.CodeRec fd.code fd.qualname) (hB : BindsTo s fd ⟨vs, kn.zip kvs⟩ binds) (hab : abB binds = abinds)
    (hnd : (abinds.map (·.1)).Nodup) (hkinds : ∀ p ∈ abinds, names.lookup p.1 = some .local ∨ names.lookup p.1 = some .cell)
    (ex : List Addr) (hex : ∀ P, ex[0]? = some P → ∃ c mg, fd.code = .ref c ∧ CodeHd W.H c P ∧ W.H.Ns mainGlobals mg ∧ mainGlobals ≠ P ∧ W.H.BuiltinsAt mg P ∧ fd.qualname ++ ".<locals>." = W.eq)
    {K' : List Addr → St → Prop} (h : cellW names (parV abinds) [] σ K') {Z ZE : Value → Shared → Prop} (R : Room (n + 1) A) (r : RelG W.H σ s) (fs : Frs W.H A σ s)
    (hbody : ∀ cs σ1 env s1, K' cs σ1 → EnvOK W env (fix cs ++ ex) → Rel W.H (A.deeper env) env σ1 (slots0 names (parV abinds)) s1 → Stp (At env.locals) σ s σ1 s1 → env.scope.names = names → Mine.Top (A.deeper env) env → s.heap.get? env.locals = none → Room n (A.deeper env) →
      wpAny W.M (A.deeper env) (execs body env) (fun f s' => Z (match f with | .ret v => v | _ => .none) s') (fun e s' => wpAny W.M (A.deeper env) (leaving env e) (fun _ s'' => ZE e s'') (fun e' s'' => ZE e' s'') s') s1) :
    wpAny W.M A (call (.ref fa) vs (kn.zip kvs)) Z ZE s := by
  refine wpAny_call ?_
  have hbn : (binds.map (·.1)).Nodup := by
    have : binds.map (·.1) = abinds.map (·.1) := by rw [← hab, abB, List.map_map]; rfl
    rw [this]; exact hnd
  refine codeAny_call_function R.lim ho hd F.cor F.gen F.body hcode (hB _ _ _ _ ?_)
  rw [F.clo]
  refine newEnv_clo F.kind (by rw [F.nm]; exact F.nodup) (fun p hp => ?_) fun env he s1 x => ?_
  · rw [F.nm]; exact hkinds (p.1, ab p.2) (by rw [← hab]; exact List.mem_map.mpr ⟨p, hp, rfl⟩)
  subst he
  refine ⟨(hlim.keeps r.base).keeps x.toInCall.keep, codeAny_func ?_⟩
  generalize hL : s.heap.objs.size = L at x ⊢
  generalize henv : newEnv fd.scope L fd.globals (cellsFrom (L + 1) fd.scope.names clo) (fd.qualname ++ ".<locals>.") (some fa) fd.code none fd.builtins = env at x ⊢
  rw [F.nm] at x
  have hloc : env.locals = L := by rw [← henv]; rfl
  have hcells : env.cells = cellsFrom (L + 1) names clo := by rw [← henv]; show cellsFrom (L + 1) fd.scope.names clo = _; rw [F.nm]
  have hnames : env.scope.names = names := by rw [← henv]; exact F.nm
  have hkd : ∀ y, env.kindOf y = names.lookup y := fun y => by unfold Env.kindOf; rw [hnames]
  have hLn : s.heap.get? L = none := by rw [← hL]; exact get_size _
  have hfr : ∀ j, L ≤ j → s.heap.get? j = none := fun j hj => by
    cases q : s.heap.get? j with
    | none => rfl
    | some o => have := Heap.lt_size q; rw [hL] at this; exact absurd this (Nat.not_lt.mpr hj)
  have hσL : ∀ j, L ≤ j → σ j = none := fun j hj => r.fresh (hfr j hj)
  have hK := cellW_at names (L + 1) [] σ h fun j hj => hσL j (Nat.le_of_succ_le hj)
  rw [List.nil_append] at hK
  obtain ⟨hcl, hfx⟩ := hfix _ (caddrs_len names (L + 1))
  have E : EnvOK W env (fix (caddrs (L + 1) names) ++ ex) := by
    refine ⟨by rw [← henv]; exact F.kind, by rw [← henv]; exact F.glob, by rw [← henv]; exact F.blt, by rw [hnames]; exact F.nodup, fun i y k hi hk => ?_, fun P hP => ?_⟩
    · rw [hnames] at hi
      have hlt : i < (fix (caddrs (L + 1) names)).length := by rw [hcl]; exact (List.getElem?_eq_some_iff.mp hi).1
      have e : (fix (caddrs (L + 1) names) ++ ex).getD i 0 = (fix (caddrs (L + 1) names)).getD i 0 := by
        rw [List.getD_eq_getElem?_getD, List.getElem?_append_left hlt, ← List.getD_eq_getElem?_getD]
      refine ⟨?_, F.nocls _ (List.mem_of_getElem? hi)⟩
      rw [hcells, e]
      rcases hk with rfl | rfl
      · rw [(hfx i y _ hi).1 rfl]; exact cellsFrom_get names _ _ clo F.nodup hi
      · refine cellsFrom_keep names _ _ (fun p hp e => ?_) ((hfx i y _ hi).2 rfl)
        obtain ⟨j, hj⟩ := List.getElem?_of_mem hp
        have := (nodup_lookup F.nodup (show names[j]? = some (y, p.2) by rw [hj, ← e])).1
        rw [(nodup_lookup F.nodup hi).1] at this
        rw [← Option.some.inj this]; nofun
    · rw [hnames, List.getElem?_append_right (Nat.le_of_eq hcl), hcl, Nat.sub_self] at hP
      obtain ⟨c, mg, h1, h2⟩ := hex P hP
      exact ⟨c, mg, by rw [← henv]; exact h1, by rw [← henv]; exact h2⟩
  have hkeep := x.toInCall.keep
  have g1 : RelG W.H (cset (L + 1) names (parV abinds) σ) s1 := by
    refine ⟨fun b o e => hkeep b o (r.base b o e), fun a z e => ?_, fun a z e hm => ?_⟩
    · rcases cset_spec names _ _ _ _ e with e | ⟨hm, i, y, h1, h2, rfl⟩
      · exact (r.objs a z e).at fun o => hkeep a o
      · have hl : (cellsFrom (L + 1) names []).lookup y = some a := by
          rw [cellsFrom_get names _ _ [] F.nodup h1, List.getD_eq_getElem?_getD, h2]; rfl
        refine ⟨_, x.cell y a hl, ?_⟩
        have hky : env.kindOf y ≠ some .local := by rw [hkd, (nodup_lookup F.nodup h1).1]; decide
        rw [bindC_at _ _ _ hbn hky]
        unfold parV
        rw [← hab, abB_lookup]
        cases binds.lookup y <;> rfl
    · rcases cset_spec names _ _ _ _ e with e | ⟨hm', _⟩
      · exact r.own a z e hm
      · exact r.offbase (hfr a (Nat.le_of_succ_le hm'))
  have t1 : Stp (At env.locals) σ s (cset (L + 1) names (parV abinds) σ) s1 := by
    refine .of (fun b o e _ _ => hkeep b o e) (fun b z e => ?_) (fun b o e => ⟨o, hkeep b o e⟩) x.toInCall.same
    rcases cset_spec names _ _ _ _ e with e | ⟨hm', _⟩
    · exact .inl ⟨z, e, id⟩
    · exact .inr (hfr b (Nat.le_of_succ_le hm'))
  have r1 : Rel W.H (A.deeper env) env (cset (L + 1) names (parV abinds) σ) (slots0 names (parV abinds)) s1 := by
    refine ⟨g1, ⟨_, x.toInCall.ns, fun i y hi hu => ?_⟩, ?_, ?_, ?_⟩
    · rw [hnames] at hi
      have hky : env.kindOf y = some .local := by rw [hkd, (nodup_lookup F.nodup hi).1]
      rw [bindL_at _ _ _ hbn hky]
      have hsl : (slots0 names (parV abinds)).getD i .undef = parV abinds y := by
        unfold slots0
        rw [List.getD_eq_getElem?_getD, List.getElem?_map, hi]; rfl
      rw [hsl] at hu ⊢
      unfold parV at hu ⊢
      rw [← hab, abB_lookup] at hu ⊢
      cases q : binds.lookup y with
      | none => rw [q] at hu; exact absurd rfl hu
      | some v => exact ⟨v, rfl, rfl⟩
    · rw [hloc, cset_new names _ _ _ (Nat.lt_succ_self _)]; exact hσL L (Nat.le_refl _)
    · rw [hloc]; exact r.offbase hLn
    · obtain ⟨l, hl, hf⟩ := fs
      refine ⟨env :: l, Around.frames_deeper hl, fun ev he => ?_⟩
      rcases List.mem_cons.mp he with rfl | he
      · obtain ⟨o', es, ep, e', hd', _⟩ := x.toInCall.ns
        exact ⟨by rw [← henv]; exact F.kind, L, o', es, ep, by rw [← henv]; rfl, r.offbase hLn, by rw [cset_new names _ _ _ (Nat.lt_succ_self _)]; exact hσL L (Nat.le_refl _), by rw [← hloc]; exact e', hd'⟩
      · obtain ⟨h1, L', o', es, ep, h2, h3, h4, h5, h6⟩ := hf ev he
        refine ⟨h1, L', o', es, ep, h2, h3, ?_, hkeep _ _ h5, h6⟩
        cases q : cset (L + 1) names (parV abinds) σ L' with
        | none => rfl
        | some z =>
          rcases cset_spec names _ _ _ _ q with e | ⟨hm', _⟩
          · rw [h4] at e; cases e
          · rw [hfr L' (Nat.le_of_succ_le hm')] at h5; cases h5
  obtain ⟨lf, hlf, _⟩ := fs
  exact hbody _ _ env s1 hK E r1 t1 hnames ⟨by rw [← henv]; rfl, lf, Around.frames_deeper hlf⟩ (by rw [hloc]; exact hLn) (R.deeper env)
theorem Fix.id {names : List (Str × NameKind)} (h : ∀ p ∈ names, p.2 ≠ .free) : Fix [] names id := fun l hl => ⟨hl, fun i y k hi => ⟨fun _ => rfl, fun e => absurd e (h _ (List.mem_of_getElem? hi))⟩⟩
theorem call_fnX (G : GlOK W.H gl) (hlim : W.H.NoLimit) {fa : Addr} {names : List (Str × NameKind)} {body : List Stmt} {fd : FuncData} (F : FnOK W fa names body fd) {args : List V} {kn : List Str} {kargs : List V} {abinds : List (Str × V)} {Q : V → St → Prop}
    (hbind : ∀ s vs kvs, (∀ b o, W.H.get? b = some o → s.heap.get? b = some o) → vs.map ab = args → kvs.map ab = kargs → ∃ binds, BindsTo s fd ⟨vs, kn.zip kvs⟩ binds ∧ abB binds = abinds)
    (hnd : (abinds.map (·.1)).Nodup) (hkinds : ∀ p ∈ abinds, names.lookup p.1 = some .local ∨ names.lookup p.1 = some .cell)
    (ex : List Addr) (hex : ∀ P, ex[0]? = some P → ∃ c mg, fd.code = .ref c ∧ CodeHd W.H c P ∧ W.H.Ns mainGlobals mg ∧ mainGlobals ≠ P ∧ W.H.BuiltinsAt mg P ∧ fd.qualname ++ ".<locals>." = W.eq)
    (h : cellW names (parV abinds) [] σ fun cs σ' => sW W n (erSs gl k names body) (cs ++ ex) (slots0 names (parV abinds)) σ' fun f σ'' _ => Q (retV f) σ'') :
    CallOK W (n + 1) (.ref fa) args kn kargs Q σ := by
  obtain ⟨o, ho, hd⟩ := id F.obj
  refine ⟨⟨fa, rfl, .inr ⟨o, fd, ho, hd⟩⟩, fun A s Z R r fs z fv vs kvs hf hv hk => ?_⟩
  rw [ab_ref hf]
  obtain ⟨binds, hB, hab⟩ := hbind s vs kvs r.base hv hk
  refine enter_fn (fix := id) hlim F.toFnC (Fix.id F.nofree) (r.base _ _ ho) hd (F.code.keeps r.base) hB hab hnd hkinds ex hex h R r fs fun cs σ1 env s1 hK E r1 t1 hnames Tp hLn Rd => ?_
  refine wpW (snss (sns k) body ⟨W, n, gl, env, cs ++ ex, E, G⟩ _ σ1 _ (by show sW W n (erSs gl k env.scope.names body) _ _ _ _; rw [hnames]; exact hK) _ s1 _ Rd r1 Tp fun f σ2 fr2 s2 q2 r2 t2 => z _ σ2 s2 ?_ r2.toRelG ((t1.trans t2).shown fun b hb => by rw [show b = env.locals from hb]; exact hLn))
  cases f <;> exact q2
theorem call_fn (G : GlOK W.H gl) (hlim : W.H.NoLimit) {fa : Addr} {names : List (Str × NameKind)} {body : List Stmt} {fd : FuncData} (F : FnOK W fa names body fd) {args : List V} {kn : List Str} {kargs : List V} {abinds : List (Str × V)} {Q : V → St → Prop}
    (hbind : ∀ s vs kvs, (∀ b o, W.H.get? b = some o → s.heap.get? b = some o) → vs.map ab = args → kvs.map ab = kargs → ∃ binds, BindsTo s fd ⟨vs, kn.zip kvs⟩ binds ∧ abB binds = abinds)
    (hnd : (abinds.map (·.1)).Nodup) (hkinds : ∀ p ∈ abinds, names.lookup p.1 = some .local ∨ names.lookup p.1 = some .cell)
    (h : cellW names (parV abinds) [] σ fun cs σ' => sW W n (erSs gl k names body) cs (slots0 names (parV abinds)) σ' fun f σ'' _ => Q (retV f) σ'') :
    CallOK W (n + 1) (.ref fa) args kn kargs Q σ :=
  call_fnX G hlim F hbind hnd hkinds [] nofun (by simpa only [List.append_nil] using h)
end Mine

end
section -- B25
namespace Mine
variable {W : Wd} {n : Nat} {gl : Str → Option V} {σ : St} {A : Around} {s s' : Shared}

noncomputable def isParB (p : Arguments) : Bool :=
  p.posonlyargs.isEmpty && decide (p.args.map (·.arg) = (["a", "x", "lo", "hi"] : List Str)) && p.vararg.isNone && decide (p.kwonlyargs.map (·.arg) = (["key"] : List Str)) && p.kwarg.isNone
noncomputable def bindB (a x lo hi key : Value) : List (Str × Value) := [("a", a), ("x", x), ("lo", lo), ("hi", hi), ("key", key)]
structure DfB (fd : FuncData) (h : Heap) : Prop where
  par : isParB fd.params = true
  dfs : ∃ T o t n, fd.defaults = .ref T ∧ h.get? T = some o ∧ o.data = .seq #[.int 0 t, .none] n
  kdf : ∃ D m, fd.kwdefaults = .ref D ∧ h.Ns D m ∧ m "key" = some .none
theorem isParB_is {p : Arguments} (h : isParB p = true) : ∃ (f : Nat → Arg) (kd : List (Option PySem.Expr)) (df : List PySem.Expr), p = { posonlyargs := [], args := [⟨"a", (f 0).annotation, (f 0).pos⟩, ⟨"x", (f 1).annotation, (f 1).pos⟩, ⟨"lo", (f 2).annotation, (f 2).pos⟩, ⟨"hi", (f 3).annotation, (f 3).pos⟩], vararg := none, kwonlyargs := [⟨"key", (f 4).annotation, (f 4).pos⟩], kw_defaults := kd, kwarg := none, defaults := df } := by
  obtain ⟨po, ar, va, ko, kd, kw, df⟩ := p
  simp only [isParB, Bool.and_eq_true, decide_eq_true_eq, List.isEmpty_iff, Option.isNone_iff_eq_none] at h
  obtain ⟨⟨⟨⟨h1, h2⟩, h3⟩, h4⟩, h5⟩ := h
  obtain ⟨⟨x1, n1, p1⟩, r1, e1, f1, g1⟩ := List.map_eq_cons_iff.mp h2
  obtain ⟨⟨x2, n2, p2⟩, r2, e2, f2, g2⟩ := List.map_eq_cons_iff.mp g1
  obtain ⟨⟨x3, n3, p3⟩, r3, e3, f3, g3⟩ := List.map_eq_cons_iff.mp g2
  obtain ⟨⟨x4, n4, p4⟩, r4, e4, f4, g4⟩ := List.map_eq_cons_iff.mp g3
  obtain ⟨⟨x5, n5, p5⟩, r5, e5, f5, g5⟩ := List.map_eq_cons_iff.mp h4
  refine ⟨fun i => [⟨x1, n1, p1⟩, ⟨x2, n2, p2⟩, ⟨x3, n3, p3⟩, ⟨x4, n4, p4⟩, ⟨x5, n5, p5⟩].getD i ⟨x1, n1, p1⟩, kd, df, ?_⟩
  rw [h1, h3, h5, e1, e2, e3, e4, e5, List.map_eq_nil_iff.mp g4, List.map_eq_nil_iff.mp g5, ← f1, ← f2, ← f3, ← f4, ← f5]
  rfl
theorem bind_B2 {fd : FuncData} {v w : Value} (h : DfB fd s.heap) : ∃ t, BindsTo s fd ⟨[v, w], []⟩ (bindB v w (.int 0 t) .none .none) := by
  obtain ⟨hp, ⟨T, o, t, n, hd, ho, hs⟩, ⟨D, m, hk, hD, hm⟩⟩ := h
  refine ⟨t, fun M A E Q hq => ?_⟩
  obtain ⟨_, _, _, hp⟩ := isParB_is hp
  obtain ⟨nm, qn, pr, bd, sc, gb, cl, de, kde, r1, r2, r3, r4, r5, r6⟩ := fd
  simp only at hp hd hk
  subst hp hd hk
  show wpAny M A (seqItems? (.ref T) >>= _) Q E s
  refine wpAny_bind (wpAny_seqItems ho hs ?_)
  show wpAny M A (((nsGet D "key" >>= _) >>= _) >>= _) Q E s
  refine wpAny_bind (wpAny_bind (wpAny_bind (wpAny_nsGet hD ?_)))
  rw [hm]
  refine wpAny_pure (wpAny_pure ?_)
  exact wpAny_pure hq
theorem bind_B3 {fd : FuncData} {v w x : Value} (h : DfB fd s.heap) : BindsTo s fd ⟨[v, w, x], []⟩ (bindB v w x .none .none) := by
  obtain ⟨hp, ⟨T, o, t, n, hd, ho, hs⟩, ⟨D, m, hk, hD, hm⟩⟩ := h
  refine fun M A E Q hq => ?_
  obtain ⟨_, _, _, hp⟩ := isParB_is hp
  obtain ⟨nm, qn, pr, bd, sc, gb, cl, de, kde, r1, r2, r3, r4, r5, r6⟩ := fd
  simp only at hp hd hk
  subst hp hd hk
  show wpAny M A (seqItems? (.ref T) >>= _) Q E s
  refine wpAny_bind (wpAny_seqItems ho hs ?_)
  show wpAny M A (((nsGet D "key" >>= _) >>= _) >>= _) Q E s
  refine wpAny_bind (wpAny_bind (wpAny_bind (wpAny_nsGet hD ?_)))
  rw [hm]
  refine wpAny_pure (wpAny_pure ?_)
  exact wpAny_pure hq
theorem bind_B4 {fd : FuncData} {v w x y : Value} (h : DfB fd s.heap) : BindsTo s fd ⟨[v, w, x, y], []⟩ (bindB v w x y .none) := by
  obtain ⟨hp, ⟨T, o, t, n, hd, ho, hs⟩, ⟨D, m, hk, hD, hm⟩⟩ := h
  refine fun M A E Q hq => ?_
  obtain ⟨_, _, _, hp⟩ := isParB_is hp
  obtain ⟨nm, qn, pr, bd, sc, gb, cl, de, kde, r1, r2, r3, r4, r5, r6⟩ := fd
  simp only at hp hd hk
  subst hp hd hk
  show wpAny M A (seqItems? (.ref T) >>= _) Q E s
  refine wpAny_bind (wpAny_seqItems ho hs ?_)
  show wpAny M A (((nsGet D "key" >>= _) >>= _) >>= _) Q E s
  refine wpAny_bind (wpAny_bind (wpAny_bind (wpAny_nsGet hD ?_)))
  rw [hm]
  refine wpAny_pure (wpAny_pure ?_)
  exact wpAny_pure hq
theorem bind_B2k {fd : FuncData} {v w k : Value} (h : DfB fd s.heap) : ∃ t, BindsTo s fd ⟨[v, w], [("key", k)]⟩ (bindB v w (.int 0 t) .none k) := by
  obtain ⟨hp, ⟨T, o, t, n, hd, ho, hs⟩, ⟨D, m, hk, hD, hm⟩⟩ := h
  refine ⟨t, fun M A E Q hq => ?_⟩
  obtain ⟨_, _, _, hp⟩ := isParB_is hp
  obtain ⟨nm, qn, pr, bd, sc, gb, cl, de, kde, r1, r2, r3, r4, r5, r6⟩ := fd
  simp only at hp hd hk
  subst hp hd hk
  show wpAny M A (seqItems? (.ref T) >>= _) Q E s
  refine wpAny_bind (wpAny_seqItems ho hs ?_)
  exact wpAny_pure hq
end Mine

end
section -- B26
namespace Mine
variable {W : Wd} {n k : Nat} {gl : Str → Option V} {σ : St} {A : Around} {s s' : Shared} {K : Frag}

noncomputable def glT (t : List (Str × V)) (x : Str) : Option V := t.lookup x
noncomputable def glChk (K : Frag) (t : List (Str × V)) : Bool := t.all fun p => match nsIn K mainGlobals p.1 with
  | some (some v) => (ab v).same p.2
  | some none => (match bootBuiltins p.1 with
    | some v => (ab v).same p.2 && decide (p.1 ≠ "__name__")
    | none => false)
  | none => false
theorem glmem : ∀ {t : List (Str × V)} {x : Str} {v : V}, t.lookup x = some v → (x, v) ∈ t
  | [], _, _, h => by cases h
  | (y, u) :: r, x, v, h => by
    rw [List.lookup_cons] at h
    split at h
    · rename_i e; cases h; rw [eq_of_beq e]; exact .head _
    · exact .tail _ (glmem h)
theorem glOK_of {H : Heap} {t : List (Str × V)} {mg mb : Str → Option Value} (X : K.In H) (hg : H.Ns mainGlobals mg) (hb : H.Ns builtinsNs mb) (hbb : ∀ x : Str, x ≠ "__name__" → mb x = bootBuiltins x) (h : glChk K t = true) : GlOK H (glT t) := by
  intro x v hx
  have hm := List.all_eq_true.mp h _ (glmem hx)
  simp only at hm
  split at hm
  · rename_i u hu
    exact ⟨u, V.of_same hm, mg, hg, .inl (mg_of X hg hu)⟩
  · rename_i hu
    split at hm
    · rename_i u hv
      obtain ⟨h1, h2⟩ := Bool.and_eq_true_iff.mp hm
      exact ⟨u, V.of_same h1, mg, hg, .inr ⟨mg_none_of X hg hu, mb, hb, (hbb x (of_decide_eq_true h2)).trans hv⟩⟩
    · cases hm
  · cases hm

noncomputable def fdK (K : Frag) (a : Addr) : Option FuncData := match K.lookup a with
  | some ⟨_, _, .func fd, _⟩ => some fd
  | _ => none
noncomputable def bodyK (K : Frag) (a : Addr) : List Stmt := match fdK K a with
  | some fd => (match fd.body with
    | .stmts b => b
    | _ => [])
  | none => []
noncomputable def fnChk (K : Frag) (a : Addr) (names : List (Str × NameKind)) : Bool := match fdK K a with
  | some fd => (match fd.body with
    | .stmts _ => true
    | _ => false) && fd.closure.isEmpty && decide (fd.globals = mainGlobals) && decide (fd.builtins = builtinsNs) && codeIn K fd.code fd.qualname && decide (fd.scope.names = names) &&
      decide (fd.scope.kind = .function) && !fd.scope.isGenerator && !fd.scope.isCoroutine && decide ((names.map (·.1)).Nodup) && names.all (fun p => p.2 != .free && p.1 != ("__classdict__" : Str))
  | none => false
theorem fnOK_of {a : Addr} {names : List (Str × NameKind)} (X : K.In W.H) (h : fnChk K a names = true) : ∃ fd, fdK K a = some fd ∧ FnOK W a names (bodyK K a) fd := by
  unfold fnChk at h
  split at h
  · rename_i fd hfd
    refine ⟨fd, hfd, ?_⟩
    simp only [Bool.and_eq_true, decide_eq_true_eq] at h
    obtain ⟨⟨⟨⟨⟨⟨⟨⟨⟨⟨h1, h2⟩, h3⟩, h4⟩, h5⟩, h6⟩, h7⟩, h8⟩, h9⟩, h10⟩, h11⟩ := h
    have hb : fd.body = .stmts (bodyK K a) := by
      unfold bodyK; rw [hfd]; dsimp only; split at h1
      · rename_i b hb; rw [hb]
      · cases h1
    have h12 : ∀ p ∈ names, p.2 ≠ .free ∧ p.1 ≠ ("__classdict__" : Str) := fun p hp => by
      obtain ⟨x, y⟩ := Bool.and_eq_true_iff.mp (List.all_eq_true.mp h11 p hp)
      exact ⟨bne_iff_ne.mp x, bne_iff_ne.mp y⟩
    refine ⟨⟨hb, List.isEmpty_iff.mp h2, h3, h4, h6, h7, by simpa using h8, by simpa using h9, h10, fun p hp => (h12 p hp).2⟩, ?_, codeRec_of X h5, fun p hp => (h12 p hp).1⟩
    · unfold fdK at hfd
      split at hfd
      · rename_i c d f sl hl
        cases hfd
        exact ⟨_, X _ _ hl, rfl⟩
      · cases hfd
  · cases h

/-- what is said once of a law's text -/
structure Txt (W : Wd) (K : Frag) (t : List (Str × V)) : Prop where
  inH : K.In W.H
  gl : GlOK W.H (glT t)
  lim : W.H.NoLimit

noncomputable def parOk (names : List (Str × NameKind)) (xs : List Str) : Bool := decide xs.Nodup && xs.all fun x => match names.lookup x with
  | some .local => true
  | some .cell => true
  | _ => false
theorem parOk_is {names : List (Str × NameKind)} {xs : List Str} (h : parOk names xs = true) : xs.Nodup ∧ ∀ x ∈ xs, names.lookup x = some .local ∨ names.lookup x = some .cell := by
  obtain ⟨h1, h2⟩ := Bool.and_eq_true_iff.mp h
  refine ⟨of_decide_eq_true h1, fun x hx => ?_⟩
  have := List.all_eq_true.mp h2 x hx
  split at this
  · rename_i e; exact .inl e
  · rename_i e; exact .inr e
  · cases this

theorem abB_zip : ∀ (xs : List Str) (vs : List Value), abB (xs.zip vs) = xs.zip (vs.map ab)
  | [], _ => by simp [abB]
  | _ :: _, [] => by simp [abB]
  | x :: xs, v :: vs => by have := abB_zip xs vs; simp only [abB] at this ⊢; simp [this]

/-- a call by position of a function of the text -/
theorem callP {t : List (Str × V)} (X : Txt W K t) {fa : Addr} {names : List (Str × NameKind)} {S0 : S} {xs : List Str} (hf : fnChk K fa names = true) (hS : erSs (glT t) k names (bodyK K fa) = S0)
    (hp : parOk names xs = true) (hb : ∀ fd vs, fdK K fa = some fd → vs.length = xs.length → bindArgs fd ⟨vs, []⟩ = pure (xs.zip vs)) {us : List V} (hl : us.length = xs.length) {Q : V → St → Prop}
    (h : cellW names (parV (xs.zip us)) [] σ fun cs σ' => sW W n S0 cs (slots0 names (parV (xs.zip us))) σ' fun f σ'' _ => Q (retV f) σ'') : CallOK W (n + 1) (.ref fa) us [] [] Q σ := by
  obtain ⟨fd, hfd, F⟩ := fnOK_of X.inH hf
  obtain ⟨p1, p2⟩ := parOk_is hp
  have hz : (xs.zip us).map (·.1) = xs := by rw [List.map_fst_zip]; rw [hl]; exact Nat.le_refl _
  refine call_fn X.gl X.lim F (abinds := xs.zip us) (fun s vs kvs _ hv hk => ?_) (by rw [hz]; exact p1) (fun p hp => p2 _ ?_) (by rw [hS]; exact h)
  · refine ⟨xs.zip vs, BindsTo.of_eq ?_, by rw [abB_zip, hv]⟩
    have e : kvs = [] := by simpa using hk
    subst e
    exact hb fd vs hfd (by rw [← hl, ← hv, List.length_map])
  · rw [← hz]; exact List.mem_map.mpr ⟨p, hp, rfl⟩

noncomputable def vAddr (v : Value) : Option Addr := match v with
  | .ref a => some a
  | _ => none
noncomputable def vInt0 (v : Value) : Bool := match v with
  | .int i _ => decide (i = 0)
  | _ => false
noncomputable def vNone (v : Value) : Bool := match v with
  | .none => true
  | _ => false
noncomputable def vKey (v : Value) : Bool := match v with
  | .str k _ => decide (k = ("key" : Str))
  | _ => false
noncomputable def dSeq (d : Data) : Option (List Value) := match d with
  | .seq i _ => some i.toList
  | _ => none
noncomputable def dDict (d : Data) : Option (List DictEntry) := match d with
  | .dict i _ => some i.toList
  | _ => none
noncomputable def two? {α : Type} (l : List α) : Option (α × α) := match l with
  | [] => none
  | x :: r => (one? r).map fun y => (x, y)
theorem lenS {α : Type} {l : List α} {k : Nat} (h : l.length = k + 1) : ∃ x r, l = x :: r ∧ r.length = k := by
  cases l with
  | nil => cases h
  | cons x r => exact ⟨x, r, rfl, Nat.succ.inj h⟩
noncomputable def dfSeq (K : Frag) (v : Value) : Option (Value × Value) := (vAddr v).bind fun T => (K.lookup T).bind fun o => (dSeq o.data).bind two?
noncomputable def dfKey (K : Frag) (v : Value) : Option DictEntry := (vAddr v).bind fun T => (K.lookup T).bind fun o => (dDict o.data).bind one?
noncomputable def dfChk (K : Frag) (a : Addr) : Bool := match fdK K a with
  | some fd => isParB fd.params && (match dfSeq K fd.defaults with
      | some q => vInt0 q.1 && vNone q.2
      | none => false) && (match dfKey K fd.kwdefaults with
      | some e => vKey e.key && vNone e.val
      | none => false)
  | none => false
end Mine

end
section -- B27
namespace Mine
variable {W : Wd} {n k : Nat} {gl : Str → Option V} {σ : St} {A : Around} {s s' : Shared} {K : Frag}

theorem map_one {vs : List Value} {v : V} (h : vs.map ab = [v]) : ∃ x, vs = [x] ∧ ab x = v := by
  obtain ⟨x, l, rfl, e, h⟩ := List.map_eq_cons_iff.mp h
  rw [List.map_eq_nil_iff.mp h]; exact ⟨x, rfl, e⟩
theorem map_two {vs : List Value} {v w : V} (h : vs.map ab = [v, w]) : ∃ x y, vs = [x, y] ∧ ab x = v ∧ ab y = w := by
  obtain ⟨x, l, rfl, e, h⟩ := List.map_eq_cons_iff.mp h
  obtain ⟨y, rfl, e'⟩ := map_one h
  exact ⟨x, y, rfl, e, e'⟩
theorem map_three {vs : List Value} {v w u : V} (h : vs.map ab = [v, w, u]) : ∃ x y z, vs = [x, y, z] ∧ ab x = v ∧ ab y = w ∧ ab z = u := by
  obtain ⟨x, l, rfl, e, h⟩ := List.map_eq_cons_iff.mp h
  obtain ⟨y, z, rfl, e', e''⟩ := map_two h
  exact ⟨x, y, z, rfl, e, e', e''⟩

theorem vAddr_is {v : Value} {a : Addr} (h : vAddr v = some a) : v = .ref a := by cases v <;> cases h; rfl
theorem vInt0_is {v : Value} (h : vInt0 v = true) : ∃ t, v = .int 0 t := by
  cases v with
  | int i t => exact ⟨t, by rw [of_decide_eq_true (p := i = 0) h]⟩
  | _ => cases h
theorem vNone_is {v : Value} (h : vNone v = true) : v = .none := by cases v <;> first | rfl | cases h
theorem vKey_is {v : Value} (h : vKey v = true) : ∃ t, v = .str ("key" : Str) t := by
  cases v with
  | str i t => exact ⟨t, by rw [of_decide_eq_true (p := i = ("key" : Str)) h]⟩
  | _ => cases h
theorem dSeq_is {d : Data} {l : List Value} (h : dSeq d = some l) : ∃ n, d = .seq l.toArray n := by
  cases d with
  | seq i n => cases h; exact ⟨n, rfl⟩
  | _ => cases h
theorem dDict_is {d : Data} {l : List DictEntry} (h : dDict d = some l) : ∃ n, d = .dict l.toArray n := by
  cases d with
  | dict i n => cases h; exact ⟨n, rfl⟩
  | _ => cases h
theorem two_is {α : Type} {l : List α} {x y : α} (h : two? l = some (x, y)) : l = [x, y] := by
  cases l with
  | nil => cases h
  | cons z r =>
    obtain ⟨w, h1, h2⟩ := Option.map_eq_some_iff.mp h
    cases h2
    rw [one_is h1]
theorem dfB_of {a : Addr} {fd : FuncData} {h : Heap} (X : K.In h) (hfd : fdK K a = some fd) (hc : dfChk K a = true) : DfB fd h := by
  unfold dfChk at hc
  rw [hfd] at hc
  obtain ⟨hc, h3⟩ := Bool.and_eq_true_iff.mp hc
  obtain ⟨h1, h2⟩ := Bool.and_eq_true_iff.mp hc
  refine ⟨h1, ?_, ?_⟩
  · cases hq : dfSeq K fd.defaults with
    | none => rw [hq] at h2; cases h2
    | some q =>
      rw [hq] at h2
      obtain ⟨v1, v2⟩ := q
      obtain ⟨h4, h5⟩ := Bool.and_eq_true_iff.mp h2
      obtain ⟨T, k1, k2⟩ := Option.bind_eq_some_iff.mp hq
      obtain ⟨o, k3, k4⟩ := Option.bind_eq_some_iff.mp k2
      obtain ⟨l, k5, k6⟩ := Option.bind_eq_some_iff.mp k4
      obtain ⟨n, k7⟩ := dSeq_is k5
      obtain ⟨t, rfl⟩ := vInt0_is h4
      cases vNone_is h5
      exact ⟨T, o, t, n, vAddr_is k1, X _ _ k3, by rw [k7, two_is k6]⟩
  · cases hq : dfKey K fd.kwdefaults with
    | none => rw [hq] at h3; cases h3
    | some e =>
      rw [hq] at h3
      obtain ⟨hh, kk, vv⟩ := e
      obtain ⟨h4, h5⟩ := Bool.and_eq_true_iff.mp h3
      obtain ⟨D, k1, k2⟩ := Option.bind_eq_some_iff.mp hq
      obtain ⟨o, k3, k4⟩ := Option.bind_eq_some_iff.mp k2
      obtain ⟨l, k5, k6⟩ := Option.bind_eq_some_iff.mp k4
      obtain ⟨n, k7⟩ := dDict_is k5
      obtain ⟨t, ht⟩ := vKey_is h4
      have hv := vNone_is h5
      dsimp only at ht hv
      subst ht hv
      rw [one_is k6] at k7
      refine ⟨D, _, vAddr_is k1, ⟨_, _, n, X _ _ k3, k7, ?_, fun _ => rfl⟩, ?_⟩
      · intro e h
        simp at h
        subst h
        exact ⟨_, _, rfl⟩
      · rfl

noncomputable def namesB : List Str := ["a", "x", "lo", "hi", "key"]
noncomputable def argsB (us ks : List V) : Option (List V) := match us with
  | [] => none
  | a :: us => (match us with
    | [] => none
    | x :: us => (match us with
      | [] => (match ks with
        | [] => some [a, x, .int 0, .none, .none]
        | k :: ks => (match ks with
          | [] => some [a, x, .int 0, .none, k]
          | _ :: _ => none))
      | lo :: us => (match ks with
        | [] => (match us with
          | [] => some [a, x, lo, .none, .none]
          | hi :: us => (match us with
            | [] => some [a, x, lo, hi, .none]
            | _ :: _ => none))
        | _ :: _ => none)))
/-- the shapes of a call -/
inductive ArgB : List V → List V → List V → Prop where
  | a2 (a x : V) : ArgB [a, x] [] [a, x, .int 0, .none, .none]
  | a3 (a x lo : V) : ArgB [a, x, lo] [] [a, x, lo, .none, .none]
  | a4 (a x lo hi : V) : ArgB [a, x, lo, hi] [] [a, x, lo, hi, .none]
  | ak (a x k : V) : ArgB [a, x] [k] [a, x, .int 0, .none, k]
theorem argsB_is {us ks bs : List V} (h : argsB us ks = some bs) : ArgB us ks bs := by
  cases us with
  | nil => cases h
  | cons a us =>
    cases us with
    | nil => cases h
    | cons x us =>
      cases us with
      | nil =>
        cases ks with
        | nil => cases h; exact .a2 a x
        | cons k ks =>
          cases ks with
          | nil => cases h; exact .ak a x k
          | cons _ _ => cases h
      | cons lo us =>
        cases ks with
        | cons _ _ => cases h
        | nil =>
          cases us with
          | nil => cases h; exact .a3 a x lo
          | cons hi us =>
            cases us with
            | nil => cases h; exact .a4 a x lo hi
            | cons _ _ => cases h
theorem ArgB.five {us ks bs : List V} (h : ArgB us ks bs) : ∃ a b c d e, bs = [a, b, c, d, e] := by cases h <;> exact ⟨_, _, _, _, _, rfl⟩
noncomputable def knB : List V → List Str
  | [] => []
  | _ => ["key"]
theorem callB {t : List (Str × V)} (X : Txt W K t) {fa : Addr} {names : List (Str × NameKind)} {S0 : S} (hf : fnChk K fa names = true) (hS : erSs (glT t) k names (bodyK K fa) = S0)
    (hp : parOk names namesB = true) (hb : dfChk K fa = true) {us ks bs : List V} (hl : argsB us ks = some bs) {Q : V → St → Prop}
    (h : cellW names (parV (namesB.zip bs)) [] σ fun cs σ' => sW W n S0 cs (slots0 names (parV (namesB.zip bs))) σ' fun f σ'' _ => Q (retV f) σ'') : CallOK W (n + 1) (.ref fa) us (knB ks) ks Q σ := by
  obtain ⟨fd, hfd, F⟩ := fnOK_of X.inH hf
  obtain ⟨p1, p2⟩ := parOk_is hp
  have hl5 : namesB.length ≤ bs.length := by
    obtain ⟨_, _, _, _, _, rfl⟩ := (argsB_is hl).five
    exact Nat.le_refl _
  have hz : (namesB.zip bs).map (·.1) = namesB := List.map_fst_zip hl5
  refine call_fn X.gl X.lim F (abinds := namesB.zip bs) (fun s vs kvs hbase hv hk => ?_) (by rw [hz]; exact p1) (fun p hp => p2 _ ?_) (by rw [hS]; exact h)
  · have D : DfB fd s.heap := dfB_of (fun a o e => hbase _ _ (X.inH a o e)) hfd hb
    have B := argsB_is hl
    clear hl hl5 hz h
    cases B with
    | a2 a x =>
      obtain ⟨v, w, rfl, rfl, rfl⟩ := map_two hv
      cases List.map_eq_nil_iff.mp hk
      obtain ⟨t, B⟩ := bind_B2 (v := v) (w := w) D
      exact ⟨_, by rw [List.zip_nil_right]; exact B, rfl⟩
    | a3 a x lo =>
      obtain ⟨v, w, y, rfl, rfl, rfl, rfl⟩ := map_three hv
      cases List.map_eq_nil_iff.mp hk
      exact ⟨_, by rw [List.zip_nil_right]; exact bind_B3 D, rfl⟩
    | a4 a x lo hi =>
      obtain ⟨v, l, rfl, rfl, e3⟩ := List.map_eq_cons_iff.mp hv
      obtain ⟨w, y, z, rfl, rfl, rfl, rfl⟩ := map_three e3
      cases List.map_eq_nil_iff.mp hk
      exact ⟨_, by rw [List.zip_nil_right]; exact bind_B4 D, rfl⟩
    | ak a x k =>
      obtain ⟨v, w, rfl, rfl, rfl⟩ := map_two hv
      obtain ⟨u, rfl, rfl⟩ := map_one hk
      obtain ⟨t, B⟩ := bind_B2k (v := v) (w := w) (k := u) D
      exact ⟨_, B, rfl⟩
  · rw [← hz]; exact List.mem_map.mpr ⟨p, hp, rfl⟩

noncomputable def σ0 (a : Addr) (ns : List Int) : St := fun b => if b = a then some (.ro (ivs ns)) else none
theorem ints_ab : ∀ {vs : List Value} {ns : List Int}, IntsAre vs ns → vs.map ab = ivs ns := by
  intro vs ns h
  induction h with
  | nil => rfl
  | cons => simp_all [ivs, ab]

theorem lawEnds {prog : Program} {w : World} {s₁ : Shared} {fa a : Addr} {vs : List Value} {ns : List Int} {c : ClaimW} {cl : Str → Option Addr} {mean : ExcName → Option Value} {args : List WData}
    (hL : s₁.heap.IsList a vs.toArray) (hI : IntsAre vs ns) (hlen : ns.length ≤ 63) (hg : s₁.gens = #[]) (hn : ∀ cls, c.raises args cls = false) (hp : c.post args (.bool true) args = true)
    (h : CallOK ⟨prog, w, s₁.heap, ""⟩ 500 (.ref fa) [.ref a] [] [] (fun v _ => v = .bool true) (σ0 a ns)) :
    wpAny (model prog w) callerA (call (.ref fa) [.ref a] []) (fun v s' => GoodWG c cl mean args s₁ (.ok (.ret v)) s') (fun e s' => GoodWG c cl mean args s₁ (.error e) s') s₁ := by
  have R : Room 500 callerA := ⟨rfl, by decide, by decide⟩
  have G : RelG s₁.heap (σ0 a ns) s₁ := by
    refine ⟨fun _ _ e => e, fun b x e => ?_, fun b x e hm => ?_⟩
    · unfold σ0 at e
      split at e
      · rename_i hb; cases e; subst hb
        exact ⟨_, hL, by rw [← ints_ab hI], by rw [ivs, List.length_map]; unfold lim; omega⟩
      · cases e
    · unfold σ0 at e
      split at e
      · cases e; cases hm
      · cases e
  refine h.2 callerA s₁ _ R G ⟨[], rfl, fun _ h => by cases h⟩ (fun v σ' s' q g t => ?_) (.ref fa) [.ref a] [] rfl rfl rfl |> wpW
  obtain ⟨hh, tt, rfl⟩ := t.rest
  refine GoodW.toG ⟨.inl ⟨v, .bool true, [], rfl, hn, ?_, hp, unshared_nil⟩, g.base, rfl, hg⟩
  rw [ab_bool q]
  exact .bool true
end Mine

end
section -- B28
namespace Mine
variable {W : Wd} {n k : Nat} {σ : St} {K : Frag}

/-- a function with bisect's parameters -/
noncomputable def FnB (W : Wd) (fa : Addr) (S0 : S) (m : Nat) : Prop := ∃ cs, ∀ us ks bs n Q σ, argsB us ks = some bs → sW W n S0 cs (bs ++ undefs m) σ (fun f σ' _ => Q (retV f) σ') → CallOK W (n + 1) (.ref fa) us (knB ks) ks Q σ
/-- a function called by position, without cells -/
noncomputable def FnP (W : Wd) (fa : Addr) (S0 : S) (k m : Nat) : Prop := ∃ cs, ∀ us n Q σ, us.length = k → sW W n S0 cs (us ++ undefs m) σ (fun f σ' _ => Q (retV f) σ') → CallOK W (n + 1) (.ref fa) us [] [] Q σ

theorem cellW_acc {b : Str → V} {Q : List Addr → St → Prop} : ∀ (names : List (Str × NameKind)) (acc : List Addr), names.all (fun p => !(p.2 == .cell)) = true → Q (acc ++ List.replicate names.length 0) σ → cellW names b acc σ Q
  | [], acc, _, h => by simpa [cellW] using h
  | (x, k) :: r, acc, hn, h => by
    obtain ⟨h1, h2⟩ : (!(k == NameKind.cell)) = true ∧ r.all (fun p => !(p.2 == .cell)) = true := Bool.and_eq_true_iff.mp (by simpa only [List.all_cons] using hn)
    unfold cellW
    rw [if_neg (by intro e; rw [e] at h1; cases h1)]
    refine cellW_acc r _ h2 ?_
    have : acc ++ [0] ++ List.replicate r.length 0 = acc ++ List.replicate (r.length + 1) (0 : Addr) := by rw [List.append_assoc, List.replicate_succ]; rfl
    rw [this]; exact h
theorem cellW_none {b : Str → V} {Q : List Addr → St → Prop} {names : List (Str × NameKind)} (hn : names.all (fun p => !(p.2 == .cell)) = true) (h : Q (List.replicate names.length 0) σ) : cellW names b [] σ Q :=
  cellW_acc names [] hn (by simpa using h)

theorem fnB_of {t : List (Str × V)} (X : Txt W K t) {fa : Addr} {names : List (Str × NameKind)} {S0 : S} {m : Nat} (hf : fnChk K fa names = true) (hS : erSs (glT t) k names (bodyK K fa) = S0)
    (hp : parOk names namesB = true ∧ dfChk K fa = true) (hc : names.all (fun p => !(p.2 == .cell)) = true) (hs : ∀ a b c d e, slots0 names (parV (namesB.zip [a, b, c, d, e])) = a :: b :: c :: d :: e :: undefs m) : FnB W fa S0 m := by
  refine ⟨List.replicate names.length 0, fun us ks bs n Q σ hb h => callB X hf hS hp.1 hp.2 hb (cellW_none hc ?_)⟩
  have : ∃ a b c d e, bs = [a, b, c, d, e] := by
    exact (argsB_is hb).five
  obtain ⟨a, b, c, d, e, rfl⟩ := this
  rw [hs]; exact h

theorem fnP_of {t : List (Str × V)} (X : Txt W K t) {fa : Addr} {names : List (Str × NameKind)} {S0 : S} {m : Nat} {xs : List Str} (hf : fnChk K fa names = true) (hS : erSs (glT t) k names (bodyK K fa) = S0)
    (hp : parOk names xs = true) (hb : ∀ vs, vs.length = xs.length → (fdK K fa).map (fun fd => bindArgs fd ⟨vs, []⟩) = some (pure (xs.zip vs))) (hc : names.all (fun p => !(p.2 == .cell)) = true)
    (hs : ∀ us : List V, us.length = xs.length → slots0 names (parV (xs.zip us)) = us ++ undefs m) : FnP W fa S0 xs.length m := by
  refine ⟨List.replicate names.length 0, fun us n Q σ hl h => callP X hf hS hp (fun fd vs hfd hv => ?_) hl (cellW_none hc ?_)⟩
  · have := hb vs hv
    rw [hfd] at this
    exact Option.some.inj this
  · rw [hs us hl]; exact h
/-- with cells: the function's own frame is the caller's care -/
theorem fnC_of {t : List (Str × V)} (X : Txt W K t) {fa : Addr} {names : List (Str × NameKind)} {S0 : S} {xs : List Str} (hf : fnChk K fa names = true) (hS : erSs (glT t) k names (bodyK K fa) = S0)
    (hp : parOk names xs = true) (hb : ∀ vs, vs.length = xs.length → (fdK K fa).map (fun fd => bindArgs fd ⟨vs, []⟩) = some (pure (xs.zip vs))) {us : List V} {Q : V → St → Prop} (hl : us.length = xs.length)
    (h : cellW names (parV (xs.zip us)) [] σ fun cs σ' => sW W n S0 cs (slots0 names (parV (xs.zip us))) σ' fun f σ'' _ => Q (retV f) σ'') : CallOK W (n + 1) (.ref fa) us [] [] Q σ :=
  callP X hf hS hp (fun fd vs hfd hv => by
    have := hb vs hv
    rw [hfd] at this
    exact Option.some.inj this) hl h
end Mine

end
section -- B29
namespace Mine
variable {W : Wd} {n k : Nat} {c : Cx} {env : Env} {cs : List Addr} {fr : List V} {σ σ' : St} {A : Around} {s s' : Shared} {K : Frag} {C : Addr} {m : Str} {R : St → Prop}

noncomputable def rW (W : Wd) (n : Nat) (C : Addr) (m : Str) (R : St → Prop) : S → List Addr → List V → St → Prop
  | .seq a b, cs, fr, σ => (sW W n a cs fr σ fun f σ1 fr1 => f = .next ∧ rW W n C m R b cs fr1 σ1) ∨ rW W n C m R a cs fr σ
  | .ite t a b, cs, fr, σ => tW W n t cs fr σ fun c σ1 => if c = true then rW W n C m R a cs fr σ1 else rW W n C m R b cs fr σ1
  | .rais c m', _, _, σ => c = C ∧ m' = m ∧ R σ
  | _, _, _, _ => False
/-- nothing in it may raise -/
noncomputable def calm (x : S) : Bool := match x with
  | .seq _ _ => false
  | .ite _ _ _ => false
  | .rais _ _ => false
  | _ => true
theorem calm_rW {x : S} (h : calm x = true) (q : rW W n C m R x cs fr σ) : False := by
  cases x <;> first | exact q | cases h
theorem calm_oS {α : Type} {o : Option α} {f : α → S} (h : ∀ a, calm (f a) = true) : calm (oS o f) = true := by
  cases o with
  | none => rfl
  | some a => exact h a
theorem calm_grd {b : Bool} {x : S} (h : calm x = true) : calm (grdS b x) = true := by
  cases b with
  | true => exact h
  | false => rfl
theorem calm_ass {ns : List (Str × NameKind)} {t : EK} {b : Bool} {x : X} : calm (assS ns t b x) = true := by
  cases t <;> first | rfl | exact calm_oS fun _ => rfl
theorem calm_try {gl : Str → Option V} {ns : List (Str × NameKind)} {st : Stmt} {b : S} {ars : List PySem.Expr → X} {x : Str} {nm : Option Str} {hb : List Stmt} : calm (tryS gl ns st b ars x nm hb) = true :=
  calm_oS fun _ => calm_oS fun _ => calm_oS fun _ => calm_grd rfl
theorem r_oS {α : Type} {o : Option α} {f : α → S} (h : rW W n C m R (oS o f) cs fr σ) : ∃ a, o = some a ∧ rW W n C m R (f a) cs fr σ := by
  cases o with
  | none => exact h.elim
  | some a => exact ⟨a, rfl, h⟩
theorem r_grd {b : Bool} {x : S} (h : rW W n C m R (grdS b x) cs fr σ) : b = true ∧ rW W n C m R x cs fr σ := by
  cases b with
  | true => exact ⟨rfl, h⟩
  | false => exact h.elim
/-- the exception is made: s1 is the state ahead of it -/
noncomputable def MkPost (W : Wd) (A : Around) (env : Env) (σ : St) (s : Shared) (C : Addr) (m : Str) (R : St → Prop) : Value → Shared → Prop := fun ev s' =>
  ∃ e u σ1 fr1 s1, ev = .ref e ∧ R σ1 ∧ Rel W.H A env σ1 fr1 s1 ∧ Stp (At env.locals) σ s σ1 s1 ∧ Heap.MadeExcOf s1.heap s'.heap e (.ref C) [.str m u] ∧ ∃ h tk, s' = { s1 with heap := h, toks := tk }
theorem MkPost.trans {σ1 : St} {s1 s2 : Shared} {v : Value} (t : Stp (At env.locals) σ s σ1 s1) (p : MkPost W A env σ1 s1 C m R v s2) : MkPost W A env σ s C m R v s2 := by
  obtain ⟨e, u, σ', fr', s', a, b, c, d, x⟩ := p; exact ⟨e, u, σ', fr', s', a, b, c, t.trans d, x⟩
/-- a stretch that ends in the exception -/
noncomputable def RV {α : Type} (c : Cx) (C : Addr) (m : Str) (R : St → Prop) (fr : List V) (σ : St) (t : Sem α) : Prop :=
  ∀ A s (Z : α → Shared → Prop), Room c.n A → Rel c.W.H A c.env σ fr s → Mine.Top A c.env → wpAny c.W.M A t Z (MkPost c.W A c.env σ s C m R) s
noncomputable def RS (k : Nat) (st : Stmt) : Prop := ∀ (c : Cx) C m R fr σ, ExcC c.W.H C → rW c.W c.n C m R (erS c.gl c.ns k st) c.cs fr σ → RV c C m R fr σ (exec st c.env)
theorem strK_is {e : PySem.Expr} (h : strK e = some m) : ∃ j p, e = .Constant (.str m) j p := by
  obtain ⟨c, h1, h2⟩ := Option.bind_eq_some_iff.mp h
  obtain ⟨j, p, e1⟩ := ifSome_of (eCon_is e) h1
  exact ⟨j, p, by rw [e1, ifSome_of (strC_is c) h2]⟩
theorem raise_ok (hC : ExcC c.W.H C) {x : Str} {j : Nat} {p1 p2 p3 p4 : Pos} (hl : gloOk c.ns x = true) (hx : c.gl x = some (.ref C)) (hR : R σ) :
    RV c C m R fr σ (exec (.Raise (some (.Call (.Name x p1) [.Constant (.str m) j p2] [] p3)) none p4) c.env) := fun A s Z Rm r Tp => by
  obtain ⟨cd, dd, f0, mN, h1, h2, h3, h4⟩ := hC
  obtain ⟨hl1, hl2⟩ := glo_is hl
  refine wpAny_Raise_call_subT (C := C) (nm := cd.name) (q := cd.qualname) (N := cd.ns) (bs := cd.bases) (bm := bmV) (bmB := bmV) (hdct := cd.hasDict) (sn := cd.slotNames) (sub := cd.subclasses) (ab := cd.abstract) (col := cd.collection) (dd := dd) (k0 := f0 0) (k1 := f0 1) (k2 := f0 2) (k3 := f0 3) (k5 := f0 5) PySem.F.excBase_ValueError (mN := mN) rfl Rm.handled rfl h3 ?_
  refine wpAny_Name (glob_any hl1 hx r.base fun v' hv' => ⟨ab_ref hv', ?_⟩) hl2
  refine evalArgs_ok (.inr ⟨_, _, rfl⟩) rfl ?_
  refine Calls.spliced_cons (wpAny_Constant_str (k := j) (pos := p2) (Calls.spliced_nil (wpAny_pure ⟨rfl, by show 1 ≤ sizeLine; rw [sizeLine_eq]; omega, r.base _ _ h1, h2.keeps r.base, .base, fun h' e hm => ?_⟩)))
  have t1 : Stp No σ s σ { s with toks := s.toks + 1 } := .toks _
  exact ⟨e, _, σ, fr, _, rfl, hR, r.step (r.toRelG.toks _) t1, t1.up, hm, h', _, rfl⟩
theorem rs_raise {e x : Option PySem.Expr} {p : Pos} : RS (k + 1) (.Raise e x p) := fun c C m R fr σ hC h => by
  obtain ⟨g0, h1⟩ := r_grd h
  obtain ⟨q, e1, h2⟩ := r_oS h1
  obtain ⟨a, e2, h3⟩ := r_oS h2
  obtain ⟨g1, h4⟩ := r_grd h3
  clear h h1 h2 h3
  obtain ⟨e', rfl, e3⟩ := Option.bind_eq_some_iff.mp e1
  obtain ⟨q1, e4, e5⟩ := Option.bind_eq_some_iff.mp e3
  obtain ⟨a1, e6, e7⟩ := Option.bind_eq_some_iff.mp e5
  obtain ⟨m1, e8, rfl⟩ := Option.map_eq_some_iff.mp e7
  obtain ⟨np, cp, rfl⟩ := nmCall_is e4
  obtain ⟨j, jp, rfl⟩ := strK_is e8
  obtain ⟨rfl, rfl, hR⟩ := h4
  rw [one_is e6, Option.isNone_iff_eq_none.mp g0]
  exact raise_ok hC g1 (refOf_is e2) hR
theorem rnss (ih : ∀ st, RS k st) : ∀ (l : List Stmt) (c : Cx) C m R fr σ, ExcC c.W.H C → rW c.W c.n C m R (sl (l.map (erS c.gl c.ns k))) c.cs fr σ → RV c C m R fr σ (execs l c.env)
  | [], c, C, m, R, fr, σ, hC, h => h.elim
  | st :: rest, c, C, m, R, fr, σ, hC, h => fun A s Z Rm r Tp => by
    rcases h with h | h
    · refine wpAny_execs_cons (wpAny_mono (sns k st c fr σ _ h A s (fun f s1 => f = .next ∧ wpAny c.W.M A (execs rest c.env) Z (MkPost c.W A c.env σ s C m R) s1) Rm r Tp fun f σ1 fr1 s1 q1 r1 t1 => ?_) (fun f s1 p1 => ?_) fun _ _ x => x.elim)
      · obtain ⟨q0, q1⟩ := q1
        refine ⟨?_, wpAny_mono (rnss ih rest c C m R fr1 σ1 hC q1 A s1 Z Rm r1 Tp) (fun _ _ x => x) fun _ _ p => p.trans t1⟩
        cases f <;> first | rfl | cases q0
      · rw [p1.1]; exact p1.2
    · exact wpAny_execs_cons (ih st c C m R fr σ hC h A s _ Rm r Tp)
theorem rs_no {st : Stmt} (h : ∀ gl ns, calm (erS gl ns k st) = true) : RS k st := fun c C m R fr σ hC q => (calm_rW (h _ _) q).elim
theorem rs_if {t : PySem.Expr} {b o : List Stmt} {p : Pos} (ih : ∀ st, RS k st) : RS (k + 1) (.If t b o p) := fun c C m R fr σ hC h A s Z Rm r Tp =>
  wpAny_If (wpAny_mono (sndT k t c fr σ _ h A s (fun x s1 => if x = true then wpAny c.W.M A (execs b c.env) Z (MkPost c.W A c.env σ s C m R) s1 else wpAny c.W.M A (execs o c.env) Z (MkPost c.W A c.env σ s C m R) s1) Rm r fun x σ1 s1 q g t1 => by
    have r1 := r.step g t1
    cases x with
    | true => exact wpAny_mono (rnss ih b c C m R fr σ1 hC q A s1 Z Rm r1 Tp) (fun _ _ x => x) fun _ _ p => p.trans t1.up
    | false => exact wpAny_mono (rnss ih o c C m R fr σ1 hC q A s1 Z Rm r1 Tp) (fun _ _ x => x) fun _ _ p => p.trans t1.up) (fun _ _ x => x) fun _ _ x => x.elim)
theorem rns : ∀ k st, RS k st
  | 0, st => rs_no fun _ _ => rfl
  | k + 1, st => by
    have ih := rns k
    cases st with
    | If t b o p => exact rs_if ih
    | Raise e x p => exact rs_raise
    | Assign ts v p => exact rs_no fun _ _ => calm_oS fun _ => calm_ass
    | Delete ts p => exact rs_no fun _ _ => calm_oS fun _ => rfl
    | Expr v p => exact rs_no fun _ _ => calm_grd rfl
    | Return v p => exact rs_no fun _ _ => by cases v <;> rfl
    | While t b o p => exact rs_no fun _ _ => calm_grd rfl
    | For t it b o p => exact rs_no fun _ _ => calm_grd (calm_oS fun _ => rfl)
    | Try b hs o f p => exact rs_no fun _ _ => calm_grd (calm_oS fun _ => calm_oS fun _ => calm_try)
    | _ => exact rs_no fun _ _ => rfl
end Mine

end
section -- B30
namespace Mine
variable {W : Wd} {n k : Nat} {gl : Str → Option V} {env : Env} {cs : List Addr} {fr : List V} {σ : St} {A : Around} {s s' : Shared} {K : Frag} {C : Addr} {m : Str} {R : St → Prop}

theorem funFrames_of {h B : Heap} : ∀ {l : List Env}, (∀ env ∈ l, env.scope.kind ≠ .module ∧ ∃ L o, env.frame = some L ∧ B.get? L = none ∧ h.get? L = some o ∧ ∀ vs, o.data ≠ .fields vs) → h.FunFrames B l
  | [], _ => trivial
  | env :: l, k => ⟨(k env (.head _)).1, (k env (.head _)).2, funFrames_of fun e he => k e (.tail _ he)⟩
theorem call_rz (G : GlOK W.H gl) (hlim : W.H.NoLimit) (hC : ExcC W.H C) {fa : Addr} {names : List (Str × NameKind)} {body : List Stmt} {fd : FuncData} (F : FnOK W fa names body fd) {args : List V} {abinds : List (Str × V)}
    (hbind : ∀ s vs kvs, (∀ b o, W.H.get? b = some o → s.heap.get? b = some o) → vs.map ab = args → kvs.map ab = [] → ∃ binds, BindsTo s fd ⟨vs, ([] : List Str).zip kvs⟩ binds ∧ abB binds = abinds)
    (hnd : (abinds.map (·.1)).Nodup) (hkinds : ∀ p ∈ abinds, names.lookup p.1 = some .local ∨ names.lookup p.1 = some .cell)
    (h : cellW names (parV abinds) [] σ fun cs σ' => rW W n C m R (erSs gl k names body) cs (slots0 names (parV abinds)) σ') : CallRz W (n + 1) (.ref fa) args C m R σ := by
  obtain ⟨o, ho, hd⟩ := id F.obj
  refine ⟨⟨fa, rfl, .inr ⟨o, fd, ho, hd⟩⟩, fun A s Rm r fs fv vs hf hv => ?_⟩
  rw [ab_ref hf]
  obtain ⟨binds, hB, hab⟩ := hbind s vs [] r.base hv rfl
  refine enter_fn (kn := []) (kvs := []) (fix := id) hlim F.toFnC (Fix.id F.nofree) (r.base _ _ ho) hd (F.code.keeps r.base) hB hab hnd hkinds [] nofun h Rm r fs fun cs σ1 env s1 hK E r1 t1 hnames Tp hLn Rd => ?_
  have hK' : rW W n C m R (erSs gl k env.scope.names body) (cs ++ []) (slots0 names (parV abinds)) σ1 := by rw [hnames, List.append_nil]; exact hK
  refine wpAny_mono (rnss (rns k) body ⟨W, n, gl, env, cs ++ [], E, G⟩ C m R _ σ1 hC hK' _ s1 (fun _ _ => False) Rd r1 Tp) (fun _ _ x => x.elim) fun ev s' p => ?_
  obtain ⟨e, u, σ2, fr2, s2, rfl, hR, r2, t2, hmk, h', tk, rfl⟩ := p
  obtain ⟨hfrm, outer, hfr⟩ := Tp
  obtain ⟨l, hl, hfs⟩ := r2.frs
  rw [hfr] at hl; cases hl
  have hdict : ∀ b ∈ (env :: outer).filterMap (·.frame), W.H.get? b = none ∧ ∃ o es n, s2.heap.get? b = some o ∧ o.data = .dict es n := fun b hb => by
    obtain ⟨ev, he, hf⟩ := List.mem_filterMap.mp hb
    obtain ⟨_, L, o, es, n', h2, h3, _, h5, h6⟩ := hfs ev he
    rw [h2] at hf; cases hf
    exact ⟨h3, o, es, n', h5, h6⟩
  have hAf : A.frames = some outer := by
    obtain ⟨lf, hlf, _⟩ := fs
    rw [Around.frames_deeper hlf] at hfr
    cases hfr; exact hlf
  refine wpAny_leaves_madeW (base := hideAll s2.heap ((env :: outer).filterMap (·.frame))) hfr hfrm (fun b o q => of_hideAll _ q) (funFrames_of fun ev he => ?_) hmk fun h'' t x1 x2 x3 x4 => ?_
  · obtain ⟨h1, L, o, es, n', h2, h3, _, h5, h6⟩ := hfs ev he
    exact ⟨by rw [h1]; nofun, L, o, h2, hideAll_none _ (List.mem_filterMap.mpr ⟨ev, he, h2⟩), h5, fun vs q => by rw [h6] at q; cases q⟩
  · refine ⟨e, h'', _, outer, t, u, σ2, s2, tk, rfl, hAf, rfl, hR, r2.toRelG, (t1.trans t2).shown fun b hb => by rw [show b = env.locals from hb]; exact hLn, fun b o q => ?_, fun b o q hd => ?_, x1, x2, (Heap.UpToSlots.of_keeps hmk.keeps).trans x4⟩
    · refine hideAll_get _ (r2.base b o q) fun hm => ?_
      rw [(hdict b hm).1] at q; cases q
    · refine hideAll_get _ q fun hm => ?_
      obtain ⟨_, o', es, n', e1, e2⟩ := hdict b hm
      rw [q] at e1; cases e1; exact hd es n' e2

/-- a function called by position, without cells, that may raise -/
noncomputable def FnR (W : Wd) (fa : Addr) (S0 : S) (k mm : Nat) : Prop := ∃ cs, ∀ us n C m R σ, us.length = k → ExcC W.H C → rW W n C m R S0 cs (us ++ undefs mm) σ → CallRz W (n + 1) (.ref fa) us C m R σ
theorem fnR_of {t : List (Str × V)} (X : Txt W K t) {fa : Addr} {names : List (Str × NameKind)} {S0 : S} {mm : Nat} {xs : List Str} (hf : fnChk K fa names = true) (hS : erSs (glT t) k names (bodyK K fa) = S0)
    (hp : parOk names xs = true) (hb : ∀ vs, vs.length = xs.length → (fdK K fa).map (fun fd => bindArgs fd ⟨vs, []⟩) = some (pure (xs.zip vs))) (hc : names.all (fun p => !(p.2 == .cell)) = true)
    (hs : ∀ us : List V, us.length = xs.length → slots0 names (parV (xs.zip us)) = us ++ undefs mm) : FnR W fa S0 xs.length mm := by
  refine ⟨List.replicate names.length 0, fun us n C m R σ hl hC h => ?_⟩
  obtain ⟨fd, hfd, F⟩ := fnOK_of X.inH hf
  obtain ⟨p1, p2⟩ := parOk_is hp
  have hz : (xs.zip us).map (·.1) = xs := by rw [List.map_fst_zip]; rw [hl]; exact Nat.le_refl _
  refine call_rz (k := k) X.gl X.lim hC F (abinds := xs.zip us) (fun s vs kvs _ hv hk => ?_) (by rw [hz]; exact p1) (fun p hp => p2 _ ?_) (cellW_none hc ?_)
  · refine ⟨xs.zip vs, BindsTo.of_eq ?_, by rw [abB_zip, hv]⟩
    have e : kvs = [] := by simpa using hk
    subst e
    have := hb vs (by rw [← hl, ← hv, List.length_map])
    rw [hfd] at this
    exact Option.some.inj this
  · rw [← hz]; exact List.mem_map.mpr ⟨p, hp, rfl⟩
  · rw [hS, hs us hl]; exact h

noncomputable def vTy (v : Value) : Bool := match v with
  | .type t => t == "type"
  | _ => false
noncomputable def vBi (v : Option Value) : Bool := match v with
  | some (.builtin t) => t == "ValueError.__new__"
  | _ => false
noncomputable def dCls (d : Data) : Option ClassData := match d with
  | .cls c => some c
  | _ => none
noncomputable def mroOk (C : Addr) (l : List Value) : Bool := match l with
  | [] => false
  | v :: r => decide (vAddr v = some C) && r == bmV
noncomputable def excChk (K : Frag) (C : Addr) : Bool := match K.lookup C with
  | none => false
  | some o => vTy o.cls && decide (o.slots.toList.length = 6) && vBi (o.slots.toList.getD 4 none) && (match dCls o.data with
    | none => false
    | some cd => mroOk C cd.mro && !cd.hasDel && nsOkIn K cd.ns && nsIn K cd.ns "__init__" == some none && nsIn K cd.ns "__str__" == some none)
theorem vTy_is {v : Value} (h : vTy v = true) : v = .type "type" := by
  cases v with
  | type t => rw [eq_of_beq (a := t) h]
  | _ => cases h
theorem vBi_is {v : Option Value} (h : vBi v = true) : v = some (.builtin "ValueError.__new__") := by
  cases v with
  | none => cases h
  | some v =>
    cases v with
    | builtin t => rw [eq_of_beq (a := t) h]
    | _ => cases h
theorem dCls_is {d : Data} {c : ClassData} (h : dCls d = some c) : d = .cls c := by
  cases d with
  | cls i => cases h; rfl
  | _ => cases h
theorem six_is {α : Type} {l : List α} (h : l.length = 6) : ∃ f : Nat → α, l = [f 0, f 1, f 2, f 3, f 4, f 5] := by
  obtain ⟨a, l1, e1, h1⟩ := lenS h
  obtain ⟨b, l2, e2, h2⟩ := lenS h1
  obtain ⟨c, l3, e3, h3⟩ := lenS h2
  obtain ⟨d, l4, e4, h4⟩ := lenS h3
  obtain ⟨e, l5, e5, h5⟩ := lenS h4
  obtain ⟨f, l6, e6, h6⟩ := lenS h5
  exact ⟨fun i => [a, b, c, d, e, f].getD i a, by rw [e1, e2, e3, e4, e5, e6, List.length_eq_zero_iff.mp h6]; rfl⟩
theorem obj_eq {o : Obj} {c : Value} {d : Data} {l : List (Option Value)} (h1 : o.cls = c) (h2 : o.data = d) (h3 : o.slots.toList = l) : o = ⟨c, o.dict, d, l.toArray⟩ := by
  subst h1 h2 h3; rfl
theorem cls_eq {cd : ClassData} {m : List Value} (h1 : cd.mro = m) (h2 : cd.hasDel = false) : cd = ⟨cd.name, cd.bases, m, cd.ns, cd.qualname, cd.hasDict, cd.slotNames, cd.subclasses, cd.abstract, cd.collection, false⟩ := by
  subst h1; rw [← h2]
theorem mroOk_is {l : List Value} (h : mroOk C l = true) : l = .ref C :: bmV := by
  cases l with
  | nil => cases h
  | cons v r =>
    obtain ⟨m1, m2⟩ := Bool.and_eq_true_iff.mp h
    rw [vAddr_is (of_decide_eq_true m1), eq_of_beq m2]
theorem excC_of {H : Heap} (X : K.In H) (q : excChk K C = true) : ExcC H C := by
  unfold excChk at q
  cases ho : K.lookup C with
  | none => rw [ho] at q; cases q
  | some o =>
    rw [ho] at q
    obtain ⟨q', q4⟩ := Bool.and_eq_true_iff.mp q
    obtain ⟨q', q3⟩ := Bool.and_eq_true_iff.mp q'
    obtain ⟨q1, q2⟩ := Bool.and_eq_true_iff.mp q'
    clear q q'
    cases hc : dCls o.data with
    | none => rw [hc] at q4; cases q4
    | some cd =>
      rw [hc] at q4
      simp only [Bool.and_eq_true, beq_iff_eq, Bool.not_eq_true'] at q4
      obtain ⟨⟨⟨⟨hmr, hdel⟩, hok⟩, hni⟩, hst⟩ := q4
      obtain ⟨f, hl⟩ := six_is (of_decide_eq_true q2)
      have h4 : f 4 = some (.builtin "ValueError.__new__") := by have := vBi_is q3; rw [hl] at this; exact this
      rw [h4] at hl
      have e := (obj_eq (vTy_is q1) (dCls_is hc) hl).trans (congrArg (fun d => Obj.mk _ _ (.cls d) _) (cls_eq (mroOk_is hmr) hdel))
      exact ⟨cd, o.dict, f, _, (X _ _ ho).trans (congrArg some e), .of_isNs (isNs_of_in X hok), nsMap_none_of_in X hok hni, nsMap_none_of_in X hok hst⟩
end Mine

end
section -- B31
namespace Mine
variable {W : Wd} {n k : Nat} {gl : Str → Option V} {σ : St} {A : Around} {s s' : Shared} {K : Frag}

end Mine

end
section -- K1
namespace Mine
variable {W : Wd} {n : Nat} {σ : St} {cs : List Addr}

noncomputable def whB (tst : X) (a b : S) : S := .whl (.cmp .Lt (.loc 2) (.loc 3)) (.seq (.set (.l 5) (.bin .FloorDiv (.bin .Add (.loc 2) (.loc 3)) (.con (.int (2)))))
 (.seq (.ite tst (.seq a .skip) (.seq b .skip)) .skip))
noncomputable def loUp : S := .set (.l 2) (.bin .Add (.loc 5) (.con (.int (1))))
noncomputable def hiDn : S := .set (.l 3) (.loc 5)
theorem half {l h : Nat} (hlh : l < h) : ((l : Int) + (h : Int)).fdiv 2 = ((l + h) / 2 : Nat) := by
  rw [Int.fdiv_eq_ediv_of_nonneg _ (by decide)]; omega

/-- where a search is: up to l all pass, from h on none -/
structure BW (p : Nat → Bool) (lo hi l h : Nat) : Prop where
  low : lo ≤ l
  le : l ≤ h
  hih : h ≤ hi
  up : ∀ i, lo ≤ i → i < l → p i = true
  dn : ∀ i, h ≤ i → i < hi → p i = false
section
variable {p : Nat → Bool} {lo hi l h m : Nat}
theorem BW.start (q : lo ≤ hi) : BW p lo hi lo hi := ⟨Nat.le_refl _, q, Nat.le_refl _, fun i a b => absurd a (Nat.not_le.mpr b), fun i a b => absurd a (Nat.not_le.mpr b)⟩
theorem BW.inc (B : BW p lo hi l h) (hm : ∀ i j, lo ≤ i → i ≤ j → j < hi → p j = true → p i = true) (h1 : l ≤ m) (h2 : m < h) (q : p m = true) : BW p lo hi (m + 1) h :=
  ⟨Nat.le_succ_of_le (Nat.le_trans B.low h1), h2, B.hih, fun i a b => hm i m a (Nat.le_of_lt_succ b) (Nat.lt_of_lt_of_le h2 B.hih) q, B.dn⟩
theorem BW.dec (B : BW p lo hi l h) (hm : ∀ i j, lo ≤ i → i ≤ j → j < hi → p j = true → p i = true) (h1 : l ≤ m) (h2 : m < h) (q : p m = false) : BW p lo hi l m :=
  ⟨B.low, h1, Nat.le_trans (Nat.le_of_lt h2) B.hih, B.up, fun i a b => Bool.eq_false_iff.mpr fun e => by rw [hm m i (Nat.le_trans B.low h1) a b e] at q; cases q⟩
end
noncomputable def sel (r : Bool) : S := match r with
  | true => hiDn
  | false => loUp
theorem mid_of {l h : Nat} (q : l < h) : ∃ m : Nat, ((l : Int) + (h : Int)).fdiv 2 = (m : Nat) ∧ l ≤ m ∧ m < h := ⟨(l + h) / 2, half q, by omega, by omega⟩
theorem ite_t {A B : Prop} (h : A) : if true = true then A else B := (if_pos rfl).mpr h
theorem ite_f {A B : Prop} (h : B) : if false = true then A else B := (if_neg nofun).mpr h
theorem inc_ok {a x k : V} {m : Nat} {l h : Int} {tl : List V} {Q : Fl → St → List V → Prop} (q : Q .next σ (a :: x :: .int (m + 1 : Nat) :: .int h :: k :: .int (m : Nat) :: tl)) : sW W n (.seq (.seq loUp .skip) .skip) cs (a :: x :: .int l :: .int h :: k :: .int (m : Nat) :: tl) σ Q := ⟨nofun, q⟩
theorem dec_ok {a x k : V} {m : Nat} {l h : Int} {tl : List V} {Q : Fl → St → List V → Prop} (q : Q .next σ (a :: x :: .int l :: .int (m : Nat) :: k :: .int (m : Nat) :: tl)) : sW W n (.seq (.seq hiDn .skip) .skip) cs (a :: x :: .int l :: .int h :: k :: .int (m : Nat) :: tl) σ Q := ⟨nofun, q⟩
theorem wh_ok (r : Bool) {a : V} {x k : V} {tl : List V} {tst : X} {lo hi : Nat} {I : St → Prop} {p : Nat → Bool} {Q : Fl → St → List V → Prop} (hlh : lo ≤ hi)
    (hm : ∀ i j, lo ≤ i → i ≤ j → j < hi → p j = true → p i = true)
    (ht : ∀ mid l h σ, lo ≤ mid → mid < hi → I σ → ∀ Q, (∀ σ', I σ' → Q (p mid != r) σ') → tW W n tst cs (a :: x :: .int l :: .int h :: k :: .int (mid : Nat) :: tl) σ Q)
    {v : V} (hI : I σ) (hQ : ∀ r σ' v', lo ≤ r → r ≤ hi → (∀ i, lo ≤ i → i < r → p i = true) → (∀ i, r ≤ i → i < hi → p i = false) → I σ' → Q .next σ' (a :: x :: .int r :: .int r :: k :: v' :: tl)) :
    sW W n (whB tst (sel r) (sel !r)) cs (a :: x :: .int lo :: .int hi :: k :: v :: tl) σ Q := by
  show whW _ _ _ _ _
  refine ⟨fun j σ fr => ∃ (l h : Nat) (v : V), j = h - l ∧ BW p lo hi l h ∧ fr = a :: x :: .int l :: .int h :: k :: v :: tl ∧ I σ, ⟨hi - lo, lo, hi, v, rfl, .start hlh, rfl, hI⟩, ?_⟩
  rintro j σ fr ⟨l, h, v, rfl, B, rfl, hI⟩
  show _ ∧ _ ∧ (if decide ((l : Int) < (h : Int)) = true then _ else _)
  refine ⟨nofun, nofun, ?_⟩
  by_cases hlt : l < h
  · rw [if_pos (decide_eq_true (Int.ofNat_lt.mpr hlt))]
    obtain ⟨m, e, h1, h2⟩ := mid_of hlt
    refine ⟨nofun, nofun, (by decide : (2 : Int) ≠ 0), (by decide), ?_⟩
    rw [e]
    refine ht m l h σ (Nat.le_trans B.low h1) (Nat.lt_of_lt_of_le h2 B.hih) hI _ fun σ' hI' => ?_
    have U : p m = true → sW W n (.seq (.seq loUp .skip) .skip) cs (a :: x :: .int l :: .int h :: k :: .int (m : Nat) :: tl) σ' (lpW (fun σ' fr' => ∃ i, i < h - l ∧ ∃ (l h : Nat) (v : V), i = h - l ∧ BW p lo hi l h ∧ fr' = a :: x :: .int l :: .int h :: k :: v :: tl ∧ I σ') Q) := fun q =>
      inc_ok ⟨_, Nat.sub_lt_sub_left hlt (Nat.lt_succ_of_le h1), _, _, _, rfl, B.inc hm h1 h2 q, rfl, hI'⟩
    have D : p m = false → sW W n (.seq (.seq hiDn .skip) .skip) cs (a :: x :: .int l :: .int h :: k :: .int (m : Nat) :: tl) σ' (lpW (fun σ' fr' => ∃ i, i < h - l ∧ ∃ (l h : Nat) (v : V), i = h - l ∧ BW p lo hi l h ∧ fr' = a :: x :: .int l :: .int h :: k :: v :: tl ∧ I σ') Q) := fun q =>
      dec_ok ⟨_, Nat.sub_lt_sub_right h1 h2, _, _, _, rfl, B.dec hm h1 h2 q, rfl, hI'⟩
    cases r with
    | true => cases hp : p m with
      | true => exact ite_f (U hp)
      | false => exact ite_t (D hp)
    | false => cases hp : p m with
      | true => exact ite_t (U hp)
      | false => exact ite_f (D hp)
  · rw [if_neg (by rw [decide_eq_true_eq]; exact fun q => hlt (Int.ofNat_lt.mp q))]
    have : l = h := Nat.le_antisymm B.le (Nat.not_lt.mp hlt)
    subst this
    exact hQ l σ v B.low B.hih B.up B.dn hI
theorem wh_left {a : V} {x k : V} {tl : List V} {tst : X} {lo hi : Nat} {I : St → Prop} {p : Nat → Bool} {Q : Fl → St → List V → Prop} (hlh : lo ≤ hi)
    (hm : ∀ i j, lo ≤ i → i ≤ j → j < hi → p j = true → p i = true)
    (ht : ∀ mid l h σ, lo ≤ mid → mid < hi → I σ → ∀ Q, (∀ σ', I σ' → Q (p mid) σ') → tW W n tst cs (a :: x :: .int l :: .int h :: k :: .int (mid : Nat) :: tl) σ Q)
    {v : V} (hI : I σ) (hQ : ∀ r σ' v', lo ≤ r → r ≤ hi → (∀ i, lo ≤ i → i < r → p i = true) → (∀ i, r ≤ i → i < hi → p i = false) → I σ' → Q .next σ' (a :: x :: .int r :: .int r :: k :: v' :: tl)) :
    sW W n (whB tst loUp hiDn) cs (a :: x :: .int lo :: .int hi :: k :: v :: tl) σ Q := wh_ok false hlh hm (fun mid l h σ h1 h2 h3 Q q => ht mid l h σ h1 h2 h3 Q fun σ' i => by have := q σ' i; rwa [Bool.bne_false] at this) hI hQ
theorem wh_right {a : V} {x k : V} {tl : List V} {tst : X} {lo hi : Nat} {I : St → Prop} {p : Nat → Bool} {Q : Fl → St → List V → Prop} (hlh : lo ≤ hi)
    (hm : ∀ i j, lo ≤ i → i ≤ j → j < hi → p j = true → p i = true)
    (ht : ∀ mid l h σ, lo ≤ mid → mid < hi → I σ → ∀ Q, (∀ σ', I σ' → Q (!p mid) σ') → tW W n tst cs (a :: x :: .int l :: .int h :: k :: .int (mid : Nat) :: tl) σ Q)
    {v : V} (hI : I σ) (hQ : ∀ r σ' v', lo ≤ r → r ≤ hi → (∀ i, lo ≤ i → i < r → p i = true) → (∀ i, r ≤ i → i < hi → p i = false) → I σ' → Q .next σ' (a :: x :: .int r :: .int r :: k :: v' :: tl)) :
    sW W n (whB tst hiDn loUp) cs (a :: x :: .int lo :: .int hi :: k :: v :: tl) σ Q := wh_ok true hlh hm (fun mid l h σ h1 h2 h3 Q q => ht mid l h σ h1 h2 h3 Q fun σ' i => by have := q σ' i; rwa [Bool.bne_true] at this) hI hQ

noncomputable def stB (tst tstk : X) (a b : S) : S := (.seq (.ite (.cmp .Lt (.loc 2) (.con (.int (0)))) (.seq .bad .skip) .skip)
 (.seq (.ite (.cmp .Is (.loc 3) (.con .none)) (.seq (.set (.l 3) (.bcall .len (.cons (.loc 0) .nil))) .skip) .skip)
 (.seq (.ite (.cmp .Is (.loc 4) (.con .none)) (.seq (whB tst a b) .skip) (.seq (whB tstk a b) .skip))
 (.seq (.ret (.loc 2)) .skip))))
noncomputable def S_bl : S := stB (.cmp .Lt (.sub (.loc 0) (.loc 5)) (.loc 1)) (.cmp .Lt (.call (.loc 4) (.cons (.sub (.loc 0) (.loc 5)) .nil) [] .nil) (.loc 1)) loUp hiDn
noncomputable def S_br : S := stB (.cmp .Lt (.loc 1) (.sub (.loc 0) (.loc 5))) (.cmp .Lt (.loc 1) (.call (.loc 4) (.cons (.sub (.loc 0) (.loc 5)) .nil) [] .nil)) hiDn loUp
noncomputable def S_in (b : Addr) : S := (.seq (.ite (.cmp .Is (.loc 4) (.con .none)) (.seq (.set (.l 2) (.call (.con (.ref b)) (.cons (.loc 0) (.cons (.loc 1) (.cons (.loc 2) (.cons (.loc 3) .nil)))) [] .nil))
 .skip) (.seq (.set (.l 2) (.call (.con (.ref b)) (.cons (.loc 0) (.cons (.call (.loc 4) (.cons (.loc 1) .nil) [] .nil) (.cons (.loc 2) (.cons (.loc 3) .nil)))) ["key"] (.cons (.loc 4) .nil)))
 .skip))
 (.seq (.exp (.meth .insert (.loc 0) (.cons (.loc 2) (.cons (.loc 1) .nil)))) .skip))

/-- how far a search may go: hi as it is handed -/
noncomputable def hiIs (v : V) (len hi : Nat) : Prop := (v = .none ∧ hi = len) ∨ (v = .int hi ∧ hi ≤ len)
theorem nth_ivs {ns : List Int} {i : Nat} (h : i < ns.length) : nth (ivs ns) i = .int (ns.getD i 0) := by
  rw [nth_eq]; simp [ivs, List.getD_eq_getElem?_getD, List.getElem?_eq_getElem h]
theorem idx_nat {i : Nat} {l : Nat} : idx (i : Int) l = i := by
  unfold idx; rw [if_neg (by omega)]; omega
theorem ivs_length {ns : List Int} : (ivs ns).length = ns.length := List.length_map _

theorem at_items {o : O} {xs : List V} {k : Int} {K : V → Prop} (h : o.items = some xs) : atW o k K = (idxOk k xs.length ∧ K (nth xs (idx k xs.length))) := by
  cases o <;> cases h <;> rfl
theorem len_items {o : O} {xs : List V} {K : Nat → Prop} (h : o.items = some xs) : lenW o K = K xs.length := by
  cases o <;> cases h <;> rfl
theorem sub_items {a : Addr} {o : O} {xs : List V} {k : Int} {Q : V → St → Prop} (ho : σ a = some o) (hi : o.items = some xs) (h : idxOk k xs.length) (q : Q (nth xs (idx k xs.length)) σ) : subW (.ref a) (.int k) σ Q := by
  show optP (σ a) _
  rw [ho]
  exact (at_items (K := fun v => Q v σ) hi).mpr ⟨h, q⟩
theorem lenR_of {a : Addr} {o : O} {xs : List V} {K : Nat → Prop} (ho : σ a = some o) (hi : o.items = some xs) (q : K xs.length) : refW (.ref a) σ fun _ o => lenW o K := by
  show optP (σ a) _
  rw [ho]
  exact (len_items (K := K) hi).mpr q
theorem sub_int {a : Addr} {o : O} {ns : List Int} {i : Nat} {Q : V → St → Prop} (ho : σ a = some o) (hi : o.items = some (ivs ns)) (h : i < ns.length) (q : Q (.int (ns.getD i 0)) σ) : subW (.ref a) (.int (i : Int)) σ Q := by
  refine sub_items ho hi ?_ ?_
  · rw [ivs_length]; exact ⟨by omega, by omega⟩
  · rw [ivs_length, idx_nat, nth_ivs h]; exact q

/-- bisect_left without a key -/
theorem bl_run {a : Addr} {o : O} {ns : List Int} {x : Int} {lo hi : Nat} {vh : V} {m : Nat} {Q : Fl → St → List V → Prop} (ho : σ a = some o) (hi' : o.items = some (ivs ns)) (hh : hiIs vh ns.length hi) (hlh : lo ≤ hi)
    (hm : ∀ i j, lo ≤ i → i ≤ j → j < hi → ns.getD i 0 ≤ ns.getD j 0)
    (hQ : ∀ r : Nat, ∀ fr, lo ≤ r → r ≤ hi → (∀ i, lo ≤ i → i < r → ns.getD i 0 < x) → (∀ i, r ≤ i → i < hi → x ≤ ns.getD i 0) → Q (.ret (.int r)) σ fr) :
    sW W n S_bl cs (.ref a :: .int x :: .int lo :: vh :: .none :: .undef :: undefs m) σ Q := by
  have hle : hi ≤ ns.length := by rcases hh with ⟨_, h⟩ | ⟨_, h⟩ <;> omega
  have fin : ∀ Q', (∀ r : Nat, ∀ v, lo ≤ r → r ≤ hi → (∀ i, lo ≤ i → i < r → ns.getD i 0 < x) → (∀ i, r ≤ i → i < hi → x ≤ ns.getD i 0) → Q' Fl.next σ (.ref a :: .int x :: .int r :: .int r :: .none :: v :: undefs m)) →
      sW W n (whB (.cmp .Lt (.sub (.loc 0) (.loc 5)) (.loc 1)) loUp hiDn) cs (.ref a :: .int x :: .int lo :: .int hi :: .none :: .undef :: undefs m) σ Q' := fun Q' hQ' => by
    refine wh_left (I := fun σ' => σ' = σ) (p := fun i => decide (ns.getD i 0 < x)) hlh (fun i j h1 h2 h3 h4 => ?_) (fun mid l h σ' h1 h2 e Q hq => ?_) rfl (fun r σ' v' h1 h2 h3 h4 e => ?_)
    · have := hm i j h1 h2 h3
      simp only [decide_eq_true_eq] at h4 ⊢; omega
    · subst e
      simp only [t_not, t_and, t_or, t_cmp, t_con, t_loc, t_call, t_bcall, t_sub, t_bad, t_cel, t_bin, t_neg, t_lst, t_comp, t_meth, x_bad, x_con, x_loc, x_cel, x_bin, x_neg, x_not, x_and, x_or, x_cmp, x_call, x_bcall, x_meth, x_sub, x_lst, x_comp, nth]
      refine ⟨nofun, nofun, sub_int ho hi' (by omega) ⟨nofun, ?_⟩⟩
      exact hq _ rfl
    · subst e
      exact hQ' r _ h1 h2 (fun i i1 i2 => of_decide_eq_true (h3 i i1 i2)) (fun i i1 i2 => by have := of_decide_eq_false (h4 i i1 i2); omega)
  simp only [S_bl, stB, s_bad, s_skip, s_seq, s_set, s_del, s_exp, s_ret, s_ret0, s_brk, s_cont, s_ite, s_whl, s_for, t_not, t_and, t_or, t_cmp, t_con, t_loc, t_call, t_bcall, t_sub, t_bad, t_cel, t_bin, t_neg, t_lst, t_comp, t_meth, x_bad, x_con, x_loc, x_cel, x_bin, x_neg, x_not, x_and, x_or, x_cmp, x_call, x_bcall, x_meth, x_sub, x_lst, x_comp, nth, c_lt, c_le, c_gt, c_ge, c_eq, c_ne, c_is, c_isi, c_isr, c_ty]
  refine ⟨nofun, ?_⟩
  rw [if_neg (by simp)]
  rcases hh with ⟨rfl, rfl⟩ | ⟨rfl, _⟩
  · simp only [c_lt, c_le, c_gt, c_ge, c_eq, c_ne, c_is, c_isi, c_isr, c_ty, if_true, l_nil, l_cons, l_bad, x_bad, x_con, x_loc, x_cel, x_bin, x_neg, x_not, x_and, x_or, x_cmp, x_call, x_bcall, x_meth, x_sub, x_lst, x_comp, nth, f_len, f_sorted, f_range1, f_range2, f_range3, f_list, f_abs, f_min1, f_max1, f_min2, f_max2, f_min3, f_max3, f_sum, f_type, refW, optP_some, ho, len_items hi', stW, setN, ivs_length]
    refine ⟨nofun, nofun, nofun, fin _ fun r v h1 h2 h3 h4 => ?_⟩
    simp only [nth]
    exact ⟨nofun, hQ r _ h1 h2 h3 h4⟩
  · simp only [c_lt, c_le, c_gt, c_ge, c_eq, c_ne, c_is, c_isi, c_isr, c_ty, Bool.false_eq_true, if_false, if_true]
    refine ⟨nofun, nofun, fin _ fun r v h1 h2 h3 h4 => ?_⟩
    simp only [nth]
    exact ⟨nofun, hQ r _ h1 h2 h3 h4⟩
end Mine

end
section -- K2
namespace Mine
variable {W : Wd} {n : Nat} {σ : St} {cs : List Addr}
/-- bisect_right without a key -/
theorem br_run {a : Addr} {o : O} {ns : List Int} {x : Int} {lo hi : Nat} {vh : V} {m : Nat} {Q : Fl → St → List V → Prop} (ho : σ a = some o) (hi' : o.items = some (ivs ns)) (hh : hiIs vh ns.length hi) (hlh : lo ≤ hi)
    (hm : ∀ i j, lo ≤ i → i ≤ j → j < hi → ns.getD i 0 ≤ ns.getD j 0)
    (hQ : ∀ r : Nat, ∀ fr, lo ≤ r → r ≤ hi → (∀ i, lo ≤ i → i < r → ns.getD i 0 ≤ x) → (∀ i, r ≤ i → i < hi → x < ns.getD i 0) → Q (.ret (.int r)) σ fr) :
    sW W n S_br cs (.ref a :: .int x :: .int lo :: vh :: .none :: .undef :: undefs m) σ Q := by
  have hle : hi ≤ ns.length := by rcases hh with ⟨_, h⟩ | ⟨_, h⟩ <;> omega
  have fin : ∀ Q', (∀ r : Nat, ∀ v, lo ≤ r → r ≤ hi → (∀ i, lo ≤ i → i < r → ns.getD i 0 ≤ x) → (∀ i, r ≤ i → i < hi → x < ns.getD i 0) → Q' Fl.next σ (.ref a :: .int x :: .int r :: .int r :: .none :: v :: undefs m)) →
      sW W n (whB (.cmp .Lt (.loc 1) (.sub (.loc 0) (.loc 5))) hiDn loUp) cs (.ref a :: .int x :: .int lo :: .int hi :: .none :: .undef :: undefs m) σ Q' := fun Q' hQ' => by
    refine wh_right (I := fun σ' => σ' = σ) (p := fun i => decide (ns.getD i 0 ≤ x)) hlh (fun i j h1 h2 h3 h4 => ?_) (fun mid l h σ' h1 h2 e Q hq => ?_) rfl (fun r σ' v' h1 h2 h3 h4 e => ?_)
    · have := hm i j h1 h2 h3
      simp only [decide_eq_true_eq] at h4 ⊢; omega
    · subst e
      simp only [t_not, t_and, t_or, t_cmp, t_con, t_loc, t_call, t_bcall, t_sub, t_bad, t_cel, t_bin, t_neg, t_lst, t_comp, t_meth, x_bad, x_con, x_loc, x_cel, x_bin, x_neg, x_not, x_and, x_or, x_cmp, x_call, x_bcall, x_meth, x_sub, x_lst, x_comp, nth]
      refine ⟨nofun, nofun, nofun, sub_int ho hi' (by omega) ?_⟩
      have e : (!decide (ns.getD mid 0 ≤ x)) = decide (x < ns.getD mid 0) := by rw [← decide_not]; exact decide_eq_decide.mpr (by omega)
      have := hq _ rfl
      rw [e] at this
      exact this
    · subst e
      exact hQ' r _ h1 h2 (fun i i1 i2 => of_decide_eq_true (h3 i i1 i2)) (fun i i1 i2 => by have := of_decide_eq_false (h4 i i1 i2); omega)
  simp only [S_br, stB, s_bad, s_skip, s_seq, s_set, s_del, s_exp, s_ret, s_ret0, s_brk, s_cont, s_ite, s_whl, s_for, t_not, t_and, t_or, t_cmp, t_con, t_loc, t_call, t_bcall, t_sub, t_bad, t_cel, t_bin, t_neg, t_lst, t_comp, t_meth, x_bad, x_con, x_loc, x_cel, x_bin, x_neg, x_not, x_and, x_or, x_cmp, x_call, x_bcall, x_meth, x_sub, x_lst, x_comp, nth, c_lt, c_le, c_gt, c_ge, c_eq, c_ne, c_is, c_isi, c_isr, c_ty]
  refine ⟨nofun, ?_⟩
  rw [if_neg (by simp)]
  rcases hh with ⟨rfl, rfl⟩ | ⟨rfl, _⟩
  · simp only [c_lt, c_le, c_gt, c_ge, c_eq, c_ne, c_is, c_isi, c_isr, c_ty, if_true, l_nil, l_cons, l_bad, x_bad, x_con, x_loc, x_cel, x_bin, x_neg, x_not, x_and, x_or, x_cmp, x_call, x_bcall, x_meth, x_sub, x_lst, x_comp, nth, f_len, f_sorted, f_range1, f_range2, f_range3, f_list, f_abs, f_min1, f_max1, f_min2, f_max2, f_min3, f_max3, f_sum, f_type, refW, optP_some, ho, len_items hi', stW, setN, ivs_length]
    refine ⟨nofun, nofun, nofun, fin _ fun r v h1 h2 h3 h4 => ?_⟩
    simp only [nth]
    exact ⟨nofun, hQ r _ h1 h2 h3 h4⟩
  · simp only [c_lt, c_le, c_gt, c_ge, c_eq, c_ne, c_is, c_isi, c_isr, c_ty, Bool.false_eq_true, if_false, if_true]
    refine ⟨nofun, nofun, fin _ fun r v h1 h2 h3 h4 => ?_⟩
    simp only [nth]
    exact ⟨nofun, hQ r _ h1 h2 h3 h4⟩

theorem countP_at {p : Int → Bool} : ∀ {ns : List Int} {r : Nat}, r ≤ ns.length → (∀ i, i < r → p (ns.getD i 0) = true) → (∀ i, r ≤ i → i < ns.length → p (ns.getD i 0) = false) → ns.countP p = r
  | [], r, h, _, _ => by simp at h; subst h; rfl
  | y :: l, 0, _, _, h2 => by
    have h0 := h2 0 (Nat.le_refl _) (Nat.succ_pos _)
    have e0 : p y = false := h0
    rw [List.countP_cons_of_neg (by simp [e0])]
    exact countP_at (Nat.zero_le _) (fun i hi => absurd hi (by omega)) fun i _ h4 => by
      have := h2 (i + 1) (by omega) (by simpa using h4)
      simpa using this
  | y :: l, r + 1, h, h1, h2 => by
    have h0 := h1 0 (Nat.succ_pos _)
    have e0 : p y = true := h0
    rw [List.countP_cons_of_pos e0]
    congr 1
    refine countP_at (Nat.le_of_succ_le_succ h) (fun i hi => ?_) fun i h3 h4 => ?_
    · have := h1 (i + 1) (by omega); simpa using this
    · have := h2 (i + 1) (by omega) (by simpa using h4); simpa using this
noncomputable def Sorted (ns : List Int) : Prop := ns.Pairwise (· ≤ ·)
theorem Sorted.le {ns : List Int} (h : Sorted ns) {i j : Nat} (hij : i ≤ j) (hj : j < ns.length) : ns.getD i 0 ≤ ns.getD j 0 := by
  rcases Nat.lt_or_eq_of_le hij with h1 | rfl
  · have := List.pairwise_iff_getElem.mp h i j (by omega) hj h1
    simpa [List.getD_eq_getElem?_getD, List.getElem?_eq_getElem hj, List.getElem?_eq_getElem (show i < ns.length by omega)] using this
  · exact Int.le_refl _
theorem ins_at {x : Int} : ∀ {ns : List Int} {r : Nat}, r ≤ ns.length → (∀ i, i < r → ns.getD i 0 ≤ x) → (∀ i, r ≤ i → i < ns.length → x ≤ ns.getD i 0) → Sorted ns → ns.take r ++ x :: ns.drop r = ins x ns := by
  intro ns r hr h1 h2 hs
  refine sorted_unique ?_ ?_ (ins_sorted x hs)
  · refine (List.perm_middle).trans ?_
    rw [List.take_append_drop]
    exact (ins_perm x ns).symm
  · refine List.pairwise_append.mpr ⟨hs.sublist (List.take_sublist _ _), List.pairwise_cons.mpr ⟨fun y hy => ?_, hs.sublist (List.drop_sublist _ _)⟩, fun y hy z hz => ?_⟩
    · obtain ⟨k, hk, rfl⟩ := List.mem_iff_getElem.mp hy
      have := h2 (r + k) (by omega) (by simp at hk; omega)
      have e : ns.getD (r + k) 0 = (ns.drop r)[k] := by rw [List.getElem_drop, List.getD_eq_getElem?_getD, List.getElem?_eq_getElem (by simp at hk; omega)]; rfl
      rw [e] at this; exact this
    · obtain ⟨k, hk, rfl⟩ := List.mem_iff_getElem.mp hy
      have hk' : k < r ∧ k < ns.length := by simp at hk; omega
      have e : (ns.take r)[k] = ns.getD k 0 := by rw [List.getElem_take, List.getD_eq_getElem?_getD, List.getElem?_eq_getElem hk'.2]; rfl
      have hy1 : (ns.take r)[k] ≤ x := by rw [e]; exact h1 k hk'.1
      rcases List.mem_cons.mp hz with rfl | hz
      · exact hy1
      · obtain ⟨j, hj, rfl⟩ := List.mem_iff_getElem.mp hz
        have := h2 (r + j) (by omega) (by simp at hj; omega)
        have e' : ns.getD (r + j) 0 = (ns.drop r)[j] := by rw [List.getElem_drop, List.getD_eq_getElem?_getD, List.getElem?_eq_getElem (by simp at hj; omega)]; rfl
        rw [e'] at this
        omega

theorem bisect_left_ok {fa : Addr} (F : FnB W fa S_bl 3) {a : Addr} {o : O} {ns : List Int} {x : Int} {Q : V → St → Prop} (ho : σ a = some o) (hi : o.items = some (ivs ns)) (hs : Sorted ns)
    (q : Q (.int (ns.countP (fun y => decide (y < x)) : Nat)) σ) : CallOK W (n + 1) (.ref fa) [.ref a, .int x] [] [] Q σ := by
  obtain ⟨cs, F⟩ := F
  refine F [_, _] [] _ n Q σ rfl (bl_run (lo := 0) (hi := ns.length) ho hi (.inl ⟨rfl, rfl⟩) (Nat.zero_le _) (fun i j _ h2 h3 => hs.le h2 h3) fun r fr _ h2 h3 h4 => ?_)
  have : ns.countP (fun y => decide (y < x)) = r := countP_at h2 (fun i hi => by simpa using h3 i (Nat.zero_le _) hi) (fun i h1 h2 => by have := h4 i h1 h2; simpa using this)
  rw [this] at q; exact q
theorem bisect_right_ok {fa : Addr} (F : FnB W fa S_br 3) {a : Addr} {o : O} {ns : List Int} {x : Int} {Q : V → St → Prop} (ho : σ a = some o) (hi : o.items = some (ivs ns)) (hs : Sorted ns)
    (q : Q (.int (ns.countP (fun y => decide (y ≤ x)) : Nat)) σ) : CallOK W (n + 1) (.ref fa) [.ref a, .int x] [] [] Q σ := by
  obtain ⟨cs, F⟩ := F
  refine F [_, _] [] _ n Q σ rfl (br_run (lo := 0) (hi := ns.length) ho hi (.inl ⟨rfl, rfl⟩) (Nat.zero_le _) (fun i j _ h2 h3 => hs.le h2 h3) fun r fr _ h2 h3 h4 => ?_)
  have : ns.countP (fun y => decide (y ≤ x)) = r := countP_at h2 (fun i hi => by simpa using h3 i (Nat.zero_le _) hi) (fun i h1 h2 => by have := h4 i h1 h2; simpa using this)
  rw [this] at q; exact q
theorem take_ivs (ns : List Int) (r : Nat) (x : Int) : (ivs ns).take r ++ .int x :: (ivs ns).drop r = ivs (ns.take r ++ x :: ns.drop r) := by
  simp [ivs, List.map_take, List.map_drop]
theorem insort_right_ok {fa fb : Addr} (F : FnB W fa (S_in fb) 1) (F' : FnB W fb S_br 3) {a : Addr} {ns : List Int} {x : Int} {Q : V → St → Prop} (ho : σ a = some (.lst (ivs ns))) (hs : Sorted ns) (hl : ns.length < lim)
    (q : Q .none (σ.set a (.lst (ivs (ins x ns))))) : CallOK W (n + 2) (.ref fa) [.ref a, .int x] [] [] Q σ := by
  obtain ⟨cs, F⟩ := F
  obtain ⟨cs', F'⟩ := F'
  refine F [_, _] [] _ (n + 1) Q σ rfl ?_
  simp only [S_in, s_bad, s_skip, s_seq, s_set, s_del, s_exp, s_ret, s_ret0, s_brk, s_cont, s_ite, s_whl, s_for, t_not, t_and, t_or, t_cmp, t_con, t_loc, t_call, t_bcall, t_sub, t_bad, t_cel, t_bin, t_neg, t_lst, t_comp, t_meth, x_bad, x_con, x_loc, x_cel, x_bin, x_neg, x_not, x_and, x_or, x_cmp, x_call, x_bcall, x_meth, x_sub, x_lst, x_comp, nth, c_lt, c_le, c_gt, c_ge, c_eq, c_ne, c_is, c_isi, c_isr, c_ty, List.cons_append, List.nil_append, undefs, if_true, l_nil, l_cons, l_bad]
  refine ⟨nofun, nofun, nofun, nofun, nofun, ?_⟩
  refine F' [_, _, _, _] [] _ n _ σ rfl ?_
  refine br_run (lo := 0) (hi := ns.length) ho rfl (.inl ⟨rfl, rfl⟩) (Nat.zero_le _) (fun i j _ h2 h3 => hs.le h2 h3) fun r fr _ h2 h3 h4 => ?_
  simp only [retV, stW, setN, nth, mlistW, refW, optP_some, ho, m_append, m_insert, m_remove, m_count, ivs_length]
  refine ⟨nofun, nofun, nofun, by omega, by omega, by omega, ?_⟩
  rw [Int.toNat_natCast, take_ivs, ins_at h2 (fun i hi => h3 i (Nat.zero_le _) hi) (fun i h1 h2 => by have := h4 i h1 h2; omega) hs]
  exact q

noncomputable def S_mh (rz : S) : S := (.seq (.set (.l 0) (.bcall .sorted (.cons (.loc 0) .nil)))
 (.seq (.set (.l 1) (.bcall .len (.cons (.loc 0) .nil)))
 (.seq (.ite (.cmp .Eq (.loc 1) (.con (.int (0)))) (.seq rz .skip) .skip)
 (.seq (.ret (.sub (.loc 0) (.bin .FloorDiv (.loc 1) (.con (.int (2)))))) .skip))))
noncomputable def S_ml (rz : S) : S := (.seq (.set (.l 0) (.bcall .sorted (.cons (.loc 0) .nil)))
 (.seq (.set (.l 1) (.bcall .len (.cons (.loc 0) .nil)))
 (.seq (.ite (.cmp .Eq (.loc 1) (.con (.int (0)))) (.seq rz .skip) .skip)
 (.seq (.ite (.cmp .Eq (.bin .Mod (.loc 1) (.con (.int (2)))) (.con (.int (1)))) (.seq (.ret (.sub (.loc 0) (.bin .FloorDiv (.loc 1) (.con (.int (2))))))
 .skip) (.seq (.ret (.sub (.loc 0) (.bin .Sub (.bin .FloorDiv (.loc 1) (.con (.int (2)))) (.con (.int (1))))))
 .skip))
 .skip))))
noncomputable def S_md (rz : S) : S := (.seq (.set (.l 0) (.bcall .sorted (.cons (.loc 0) .nil)))
 (.seq (.set (.l 1) (.bcall .len (.cons (.loc 0) .nil)))
 (.seq (.ite (.cmp .Eq (.loc 1) (.con (.int (0)))) (.seq rz .skip) .skip)
 (.seq (.ite (.cmp .Eq (.bin .Mod (.loc 1) (.con (.int (2)))) (.con (.int (1)))) (.seq (.ret (.sub (.loc 0) (.bin .FloorDiv (.loc 1) (.con (.int (2))))))
 .skip) (.seq (.set (.l 2) (.bin .FloorDiv (.loc 1) (.con (.int (2)))))
 (.seq (.ret (.bin .Div (.bin .Add (.sub (.loc 0) (.bin .Sub (.loc 2) (.con (.int (1))))) (.sub (.loc 0) (.loc 2))) (.con (.int (2)))))
 .skip)))
 .skip))))
/-- the store grows -/
noncomputable def Ext (σ σ' : St) : Prop := ∀ a o, σ a = some o → σ' a = some o
theorem Ext.refl (σ : St) : Ext σ σ := fun _ _ h => h
theorem Ext.trans {σ σ' σ'' : St} (h : Ext σ σ') (k : Ext σ' σ'') : Ext σ σ'' := fun a o e => k a o (h a o e)
theorem Ext.new {σ : St} {a : Addr} {o : O} (h : σ a = none) : Ext σ (σ.set a o) := fun b x e => by
  rw [St.set_other]; exact e
  intro q; rw [q, h] at e; cases e
noncomputable def medLow (ns : List Int) : Int := (isort ns).getD ((ns.length - 1) / 2) 0
noncomputable def medHigh (ns : List Int) : Int := (isort ns).getD (ns.length / 2) 0
theorem fdiv2 (k : Nat) : ((k : Int)).fdiv 2 = (k / 2 : Nat) := by rw [Int.fdiv_eq_ediv_of_nonneg _ (by decide)]; omega
theorem fmod2 (k : Nat) : ((k : Int)).fmod 2 = (k % 2 : Nat) := by rw [Int.fmod_eq_emod_of_nonneg _ (by decide)]; omega

theorem lints_at {a : Addr} {o : O} {ns : List Int} {K : List Int → Prop} (ho : σ a = some o) (hi : o.litems = some (ivs ns)) (q : K ns) : lintsW (.ref a) σ K := by
  show optP (σ a) _
  rw [ho]
  show optP o.litems _
  rw [hi]
  show optP (asInts (ivs ns)) _
  rw [asInts_ivs]
  exact q
/-- the head of all three -/
theorem md_head {rz rest : S} {a : Addr} {o : O} {ns : List Int} {v : V} {tl : List V} {Q : Fl → St → List V → Prop} (ho : σ a = some o) (hi : o.litems = some (ivs ns)) (h0 : 0 < ns.length)
    (q : ∀ d σ', Ext σ σ' → σ' d = some (.lst (ivs (isort ns))) → sW W n rest cs (.ref d :: .int ns.length :: tl) σ' Q) :
    sW W n (.seq (.set (.l 0) (.bcall .sorted (.cons (.loc 0) .nil))) (.seq (.set (.l 1) (.bcall .len (.cons (.loc 0) .nil))) (.seq (.ite (.cmp .Eq (.loc 1) (.con (.int (0)))) (.seq rz .skip) .skip) rest))) cs (.ref a :: v :: tl) σ Q := by
  have e : lintsW (.ref a) σ fun ms => alW σ (.lst (ivs (isort ms))) fun w σ1 => sW W n (.seq (.set (.l 1) (.bcall .len (.cons (.loc 0) .nil))) (.seq (.ite (.cmp .Eq (.loc 1) (.con (.int (0)))) (.seq rz .skip) .skip) rest)) cs (w :: v :: tl) σ1 Q := by
    refine lints_at ho hi fun d hd => ⟨nofun, ?_⟩
    have hs : (σ.set d (.lst (ivs (isort ns)))) d = some (.lst (ivs (isort ns))) := St.set_same _ _ _
    refine lenR_of hs rfl ?_
    rw [ivs_length, isort_length]
    refine ⟨nofun, ?_⟩
    show (if ((ns.length : Int) == 0) = true then _ else _)
    rw [beq_eq_false_iff_ne.mpr (Int.ne_of_gt (Int.natCast_pos.mpr h0)), if_neg nofun]
    exact q d _ (Ext.new hd) hs
  exact ⟨nofun, e⟩
theorem md_sub {d : Addr} {ns : List Int} {tl : List V} {k : Nat} {Q : V → St → Prop} (hd : σ d = some (.lst (ivs (isort ns)))) (hk : k < ns.length) (q : Q (.int ((isort ns).getD k 0)) σ) : subW (.ref d) (.int (k : Int)) σ Q :=
  sub_int hd rfl (by rw [isort_length]; exact hk) q
theorem md_half {d : Addr} {ns : List Int} {tl : List V} {Q : V → St → Prop} (hd : σ d = some (.lst (ivs (isort ns)))) (h0 : 0 < ns.length) (q : Q (.int ((isort ns).getD (ns.length / 2) 0)) σ) :
    xW W n (.sub (.loc 0) (.bin .FloorDiv (.loc 1) (.con (.int (2))))) cs (.ref d :: .int ns.length :: tl) σ Q := by
  refine ⟨nofun, nofun, (by decide : (2 : Int) ≠ 0), by decide, ?_⟩
  rw [fdiv2]
  exact md_sub (tl := tl) hd (Nat.div_lt_self h0 (by decide)) q
theorem md_odd {d : Addr} {k : Nat} {tl : List V} {Q : Bool → St → Prop} (q : Q (decide (k % 2 = 1)) σ) : tW W n (.cmp .Eq (.bin .Mod (.loc 1) (.con (.int (2)))) (.con (.int (1)))) cs (.ref d :: .int (k : Nat) :: tl) σ Q := by
  refine ⟨nofun, (by decide : (2 : Int) ≠ 0), ?_⟩
  show Q (((k : Int)).fmod 2 == 1) σ
  rw [fmod2]
  have e : (((k % 2 : Nat) : Int) == 1) = decide (k % 2 = 1) := by
    rw [Bool.eq_iff_iff, beq_iff_eq, decide_eq_true_eq]; omega
  rw [e]; exact q
theorem median_high_ok {rz : S} {fa : Addr} (F : FnP W fa (S_mh rz) 1 4) {a : Addr} {o : O} {ns : List Int} {Q : V → St → Prop} (ho : σ a = some o) (hi : o.litems = some (ivs ns)) (h0 : ns ≠ [])
    (q : ∀ σ', Ext σ σ' → Q (.int (medHigh ns)) σ') : CallOK W (n + 1) (.ref fa) [.ref a] [] [] Q σ := by
  obtain ⟨cs, F⟩ := F
  have hp : 0 < ns.length := List.length_pos_iff.mpr h0
  exact F [_] n Q σ rfl (md_head ho hi hp fun d σ' e hd => md_half hd hp (q _ e))
theorem median_low_ok {rz : S} {fa : Addr} (F : FnP W fa (S_ml rz) 1 4) {a : Addr} {o : O} {ns : List Int} {Q : V → St → Prop} (ho : σ a = some o) (hi : o.litems = some (ivs ns)) (h0 : ns ≠ [])
    (q : ∀ σ', Ext σ σ' → Q (.int (medLow ns)) σ') : CallOK W (n + 1) (.ref fa) [.ref a] [] [] Q σ := by
  obtain ⟨cs, F⟩ := F
  have hp : 0 < ns.length := List.length_pos_iff.mpr h0
  refine F [_] n Q σ rfl (md_head ho hi hp fun d σ' e hd => md_odd ?_)
  replace q := q _ e
  unfold medLow at q
  by_cases hodd : ns.length % 2 = 1
  · rw [decide_eq_true hodd, if_pos rfl]
    rw [show (ns.length - 1) / 2 = ns.length / 2 by omega] at q
    exact md_half hd hp q
  · rw [decide_eq_false hodd, if_neg nofun]
    refine ⟨nofun, nofun, (by decide : (2 : Int) ≠ 0), by decide, ?_⟩
    have e : ((ns.length : Int)).fdiv 2 - 1 = ((ns.length - 1) / 2 : Nat) := by rw [fdiv2]; omega
    show subW (.ref d) (.int ((ns.length : Int).fdiv 2 - 1)) σ' Q
    rw [e]
    exact md_sub (tl := []) hd (by omega) q
theorem median_ok {rz : S} {fa : Addr} (F : FnP W fa (S_md rz) 1 5) {a : Addr} {o : O} {ns : List Int} {Q : V → St → Prop} (ho : σ a = some o) (hi : o.litems = some (ivs ns)) (h0 : ns.length % 2 = 1)
    (q : ∀ σ', Ext σ σ' → Q (.int (medLow ns)) σ') : CallOK W (n + 1) (.ref fa) [.ref a] [] [] Q σ := by
  obtain ⟨cs, F⟩ := F
  have hp : 0 < ns.length := by omega
  refine F [_] n Q σ rfl (md_head ho hi hp fun d σ' e hd => md_odd ?_)
  replace q := q _ e
  unfold medLow at q
  rw [decide_eq_true h0, if_pos rfl]
  rw [show (ns.length - 1) / 2 = ns.length / 2 by omega] at q
  exact md_half hd hp q
end Mine

end
section -- K3
namespace Mine
variable {W : Wd} {n : Nat} {σ : St} {cs : List Addr}

theorem alW_of {o : O} {Q : V → St → Prop} (h : ∀ b σ', σ b = none → Ext σ σ' → σ' b = some o → Q (.ref b) σ') : alW σ o Q := fun b hb => h b _ hb (Ext.new hb) (St.set_same _ _ _)
theorem ne_new {a b : Addr} {o : O} (h : σ a = some o) (hb : σ b = none) : a ≠ b := fun e => by rw [e, hb] at h; cases h
theorem seq_set {t : T} {x : X} {b : S} {fr : List V} {Q : Fl → St → List V → Prop} (h : xW W n x cs fr σ fun v σ1 => stW t v cs fr σ1 fun fr1 σ2 => sW W n b cs fr1 σ2 Q) : sW W n (.seq (.set t x) b) cs fr σ Q := h
theorem seq_exp {x : X} {b : S} {fr : List V} {Q : Fl → St → List V → Prop} (h : xW W n x cs fr σ fun _ σ1 => sW W n b cs fr σ1 Q) : sW W n (.seq (.exp x) b) cs fr σ Q := h
theorem seq_del {x y : X} {b : S} {fr : List V} {Q : Fl → St → List V → Prop} (h : xW W n x cs fr σ fun u σ1 => xW W n y cs fr σ1 fun v σ2 => delW u v σ2 fun σ3 => sW W n b cs fr σ3 Q) : sW W n (.seq (.del x y) b) cs fr σ Q := h
theorem eqL_ints {d : Nat} : ∀ {xs ys : List Int}, xs.length = ys.length → eqL (eqB σ d) (ivs xs) (ivs ys) = some (decide (xs = ys))
  | [], [], _ => rfl
  | x :: xs, y :: ys, h => by
    have ih := eqL_ints (d := d) (xs := xs) (ys := ys) (by simpa using h)
    have e : eqB σ d (.int x) (.int y) = some (x == y) := by cases d <;> rfl
    show (eqB σ d (.int x) (.int y)).bind (fun b => (eqL (eqB σ d) (ivs xs) (ivs ys)).map fun c => b && c) = _
    rw [e, ih]
    by_cases hx : x = y <;> simp [hx]
theorem eqB_ints {d : Nat} {a b : Addr} {o o' : O} {xs ys : List Int} (h : σ a = some o) (h' : σ b = some o') (hl : o.litems = some (ivs xs)) (hl' : o'.litems = some (ivs ys)) (hne : a ≠ b) : eqB σ (d + 1) (.ref a) (.ref b) = some (decide (xs = ys)) := by
  show (if a = b then none else ((σ a).bind O.litems).bind fun xs => ((σ b).bind O.litems).bind fun ys => if xs.length = ys.length then eqL (eqB σ d) xs ys else some false) = _
  rw [if_neg hne, h, h']
  show (o.litems.bind fun xs => o'.litems.bind fun ys => if xs.length = ys.length then eqL (eqB σ d) xs ys else some false) = _
  rw [hl, hl']
  show (if (ivs xs).length = (ivs ys).length then eqL (eqB σ d) (ivs xs) (ivs ys) else some false) = _
  rw [ivs_length, ivs_length]
  by_cases e : xs.length = ys.length
  · rw [if_pos e]; exact eqL_ints e
  · rw [if_neg e, decide_eq_false fun q => e (by rw [q])]
theorem ne_ints {a b : Addr} {o o' : O} {xs ys : List Int} {Q : Bool → St → Prop} (h : σ a = some o) (h' : σ b = some o') (hl : o.litems = some (ivs xs)) (hl' : o'.litems = some (ivs ys)) (hne : a ≠ b) (q : Q (!decide (xs = ys)) σ) : cmpW .NotEq (.ref a) (.ref b) σ Q := by
  show eqW _ _ _ _
  unfold eqW
  rw [eqB_ints h h' hl hl' hne]
  exact q
theorem eq_ints {a b : Addr} {o o' : O} {xs ys : List Int} {Q : Bool → St → Prop} (h : σ a = some o) (h' : σ b = some o') (hl : o.litems = some (ivs xs)) (hl' : o'.litems = some (ivs ys)) (hne : a ≠ b) (q : Q (decide (xs = ys)) σ) : cmpW .Eq (.ref a) (.ref b) σ Q := by
  show eqW _ _ _ _
  unfold eqW
  rw [eqB_ints h h' hl hl' hne]
  exact q

theorem forW_inv {chk : St → Prop} {bod : V → List V → St → (Fl → St → List V → Prop) → Prop} {Q : Fl → St → List V → Prop} (J : Nat → List V → St → Prop) (R : V → St → List V → Prop) : ∀ {xs : List V} {k : Nat} {fr : List V} {σ : St}, J k fr σ →
    (∀ i fr σ, i < xs.length → J (k + i) fr σ → chk σ ∧ ∀ Q' : Fl → St → List V → Prop, (∀ fr' σ', J (k + i + 1) fr' σ' → Q' .next σ' fr') → (∀ v fr' σ', R v σ' fr' → Q' (.ret v) σ' fr') → bod (nth xs i) fr σ Q') →
    (∀ fr σ, J (k + xs.length) fr σ → chk σ ∧ Q .next σ fr) → (∀ v fr σ, R v σ fr → Q (.ret v) σ fr) → forW chk bod xs fr σ Q
  | [], k, fr, σ, h0, _, h2, _ => h2 fr σ h0
  | x :: xs, k, fr, σ, h0, h1, h2, h3 => by
    obtain ⟨hc, hb⟩ := h1 0 fr σ (Nat.succ_pos _) h0
    refine ⟨hc, hb _ (fun fr' σ' h => ?_) (fun v fr' σ' h => h3 v fr' σ' h)⟩
    refine forW_inv J R (k := k + 1) h (fun i fr σ hi h => ?_) (fun fr σ h => h2 fr σ ?_) h3
    · have := h1 (i + 1) fr σ (Nat.succ_lt_succ hi) (by rw [show k + (i + 1) = k + 1 + i by omega]; exact h)
      rw [show k + (i + 1) + 1 = k + 1 + i + 1 by omega] at this
      exact this
    · rw [show k + (x :: xs).length = k + 1 + xs.length by simp; omega]; exact h
theorem compW_inv {chk : St → Prop} {bod : V → St → (Option V → St → Prop) → Prop} {K : List V → St → Prop} (J : Nat → List V → St → Prop) : ∀ {xs : List V} {k : Nat} {acc : List V} {σ : St}, J k acc σ →
    (∀ i acc σ, i < xs.length → J (k + i) acc σ → chk σ ∧ ∀ Q' : Option V → St → Prop, (∀ o σ', J (k + i + 1) (acc ++ o.toList) σ' → Q' o σ') → bod (nth xs i) σ Q') →
    (∀ acc σ, J (k + xs.length) acc σ → chk σ ∧ K acc σ) → compW chk bod xs acc σ K
  | [], k, fr, σ, h0, _, h2 => h2 fr σ h0
  | x :: xs, k, fr, σ, h0, h1, h2 => by
    obtain ⟨hc, hb⟩ := h1 0 fr σ (Nat.succ_pos _) h0
    refine ⟨hc, hb _ (fun o σ' h => ?_)⟩
    refine compW_inv J (k := k + 1) h (fun i fr σ hi h => ?_) (fun fr σ h => h2 fr σ ?_)
    · have := h1 (i + 1) fr σ (Nat.succ_lt_succ hi) (by rw [show k + (i + 1) = k + 1 + i by omega]; exact h)
      rw [show k + (i + 1) + 1 = k + 1 + i + 1 by omega] at this
      exact this
    · rw [show k + (x :: xs).length = k + 1 + xs.length by simp; omega]; exact h

theorem isort_congr {a b : List Int} (h : a.Perm b) : isort a = isort b := isort_eq_of ((isort_perm a).trans h) (isort_sorted a)
theorem isort_of_sorted {l : List Int} (h : Sorted l) : isort l = l := (isort_eq_of (List.Perm.refl l) h).symm
theorem sorted_isort (l : List Int) : Sorted (isort l) := isort_sorted l
theorem countP_isort (p : Int → Bool) (l : List Int) : (isort l).countP p = l.countP p := (isort_perm l).countP_eq p
theorem mem_isort {x : Int} {l : List Int} : x ∈ isort l ↔ x ∈ l := (isort_perm l).mem_iff

/-- in a sorted list the place of t tells how many are below it -/
theorem ge_iff : ∀ {l : List Int} {i : Nat} {t : Int}, Sorted l → i < l.length → (t ≤ l.getD i 0 ↔ l.countP (fun y => decide (y < t)) ≤ i)
  | [], i, t, _, h => absurd h (by simp)
  | x :: l, i, t, hs, h => by
    obtain ⟨h1, h2⟩ := List.pairwise_cons.mp hs
    have hall : t ≤ x → l.countP (fun y => decide (y < t)) = 0 := fun hx => by
      refine List.countP_eq_zero.mpr fun y hy => ?_
      have := h1 y hy
      simp; omega
    cases i with
    | zero =>
      rw [List.countP_cons]
      show t ≤ x ↔ _
      constructor
      · intro hx; rw [hall hx]; simp; omega
      · intro hx; by_cases hxt : x < t
        · simp [hxt] at hx
        · omega
    | succ i =>
      have ih := ge_iff (t := t) h2 (show i < l.length by simpa using h)
      rw [List.countP_cons]
      show t ≤ l.getD i 0 ↔ _
      rw [ih]
      by_cases hxt : x < t
      · simp [hxt]
      · rw [hall (by omega)]; simp [hxt]
theorem ord_iff {l : List Int} {i : Nat} {t : Int} (h : i < l.length) : t ≤ (isort l).getD i 0 ↔ l.countP (fun y => decide (y < t)) ≤ i := by
  rw [ge_iff (sorted_isort l) (by rw [isort_length]; exact h), countP_isort]
theorem getD_mem {l : List Int} {i : Nat} (h : i < l.length) : l.getD i 0 ∈ l := by
  rw [List.getD_eq_getElem?_getD, List.getElem?_eq_getElem h]; exact List.getElem_mem h
/-- to take one out at its place -/
theorem er_place {x : Int} {l : List Int} (hs : Sorted l) (hx : x ∈ l) : l.eraseIdx (l.countP fun y => decide (y < x)) = l.erase x := by
  induction l with
  | nil => cases hx
  | cons y r ih =>
    obtain ⟨h1, h2⟩ := List.pairwise_cons.mp hs
    rw [List.countP_cons]
    by_cases hyx : y = x
    · subst hyx
      have : r.countP (fun z => decide (z < y)) = 0 := List.countP_eq_zero.mpr fun z hz => by have := h1 z hz; simp; omega
      simp [this]
    · have hxr : x ∈ r := by
        rcases List.mem_cons.mp hx with e | e
        · exact absurd e.symm hyx
        · exact e
      have hlt : y < x := by have := h1 x hxr; omega
      simp only [hlt, decide_true, if_true, List.eraseIdx_cons_succ]
      rw [ih h2 hxr, List.erase_cons_tail (by simpa using hyx)]
theorem del_isort (x : Int) (l : List Int) (hx : x ∈ l) : (isort l).eraseIdx ((isort l).countP fun y => decide (y < x)) = isort (l.erase x) := by
  rw [er_place (sorted_isort l) (mem_isort.mpr hx)]
  refine isort_eq_of ((isort_perm l).erase x) ?_
  exact (sorted_isort l).sublist List.erase_sublist
theorem countP_lt {x : Int} {l : List Int} (hs : Sorted l) (hx : x ∈ l) : l.countP (fun y => decide (y < x)) < l.length := by
  rcases Nat.lt_or_eq_of_le (List.countP_le_length (p := fun y => decide (y < x)) (l := l)) with h | h
  · exact h
  · have := List.countP_eq_length.mp h x hx
    simp at this
theorem ivs_append (a b : List Int) : ivs a ++ ivs b = ivs (a ++ b) := by simp [ivs]
theorem ivs_erase (ns : List Int) (i : Nat) : (ivs ns).eraseIdx i = ivs (ns.eraseIdx i) := by
  unfold ivs; induction ns generalizing i with
  | nil => rfl
  | cons x r ih => cases i with
    | zero => rfl
    | succ i => simp [ih]
end Mine

end
section -- K4
namespace Mine
variable {W : Wd} {n : Nat} {σ : St} {cs : List Addr}

theorem sub_of {i : Int} (k : Nat) (hk : i = k) {a : Addr} {o : O} {xs : List V} {Q : V → St → Prop} (h : σ a = some o) (hi : o.items = some xs) (hl : k < xs.length) (q : Q (nth xs k) σ) : subW (.ref a) (.int i) σ Q := by
  subst hk
  exact sub_items h hi ⟨by omega, by omega⟩ (by rw [idx_nat]; exact q)
theorem add_ints {a b : Addr} {o o' : O} {xs ys : List Int} {Q : V → St → Prop} (h : σ a = some o) (hi : o.litems = some (ivs xs)) (h' : σ b = some o') (hi' : o'.litems = some (ivs ys)) (hl : xs.length + ys.length ≤ lim)
    (q : ∀ d σ', σ d = none → Ext σ σ' → σ' d = some (.lst (ivs (xs ++ ys))) → Q (.ref d) σ') : binW .Add (.ref a) (.ref b) σ Q := by
  rw [b_cat]; unfold litemsW refW
  simp only [optP_some, h, hi, h', hi', ivs_length, ivs_append]
  exact ⟨hl, alW_of q⟩
theorem sorted_of {a : Addr} {o : O} {xs : List Int} {Q : V → St → Prop} (h : σ a = some o) (hi : o.litems = some (ivs xs))
    (q : ∀ d σ', σ d = none → Ext σ σ' → σ' d = some (.lst (ivs (isort xs))) → Q (.ref d) σ') : biW .sorted [.ref a] σ Q := by
  rw [f_sorted]; unfold lintsW litemsW refW
  simp only [optP_some, h, hi, asInts_ivs]
  exact alW_of q
theorem list_of {a : Addr} {o : O} {xs : List V} {Q : V → St → Prop} (h : σ a = some o) (hi : o.litems = some xs)
    (q : ∀ d σ', σ d = none → Ext σ σ' → σ' d = some (.lst xs) → Q (.ref d) σ') : biW .list [.ref a] σ Q := by
  rw [f_list]; unfold litemsW refW
  simp only [optP_some, h, hi]
  exact alW_of q
theorem len_of {a : Addr} {o : O} {xs : List V} {Q : V → St → Prop} (h : σ a = some o) (hi : o.items = some xs) (q : Q (.int xs.length) σ) : biW .len [.ref a] σ Q := by
  exact lenR_of h hi q
theorem min_of {a : Addr} {o : O} {xs : List Int} {Q : V → St → Prop} (h : σ a = some o) (hi : o.litems = some (ivs xs)) (hl : xs ≠ []) (q : Q (.int (minL xs)) σ) : biW .min [.ref a] σ Q := by
  rw [f_min1]; unfold lintsW litemsW refW
  simp only [optP_some, h, hi, asInts_ivs]
  exact ⟨hl, q⟩
theorem iter_lst {a : Addr} {xs : List V} {K : List V → (St → Prop) → Prop} (h : σ a = some (.lst xs)) (q : K xs (fun σ' => σ' a = some (.lst xs))) : iterW (.ref a) σ K := by
  unfold iterW refW
  simp only [optP_some, h]
  exact q
theorem del_of {a : Addr} {xs : List V} {i : Nat} {K : St → Prop} (h : σ a = some (.lst xs)) (hi : i < xs.length) (q : K (σ.set a (.lst (xs.eraseIdx i)))) : delW (.ref a) (.int (i : Int)) σ K := by
  unfold delW mlistW refW
  simp only [optP_some, h, idx_nat]
  exact ⟨⟨by omega, by omega⟩, q⟩
theorem remove_of {a : Addr} {ns : List Int} {x : Int} {Q : V → St → Prop} (h : σ a = some (.lst (ivs ns))) (hx : x ∈ ns) (q : Q .none (σ.set a (.lst (ivs (ns.erase x))))) : meW .remove (.ref a) [.int x] σ Q := by
  rw [m_remove]; unfold mlistW refW
  simp only [optP_some, h, asInts_ivs]
  exact ⟨hx, q⟩
theorem append_of {a : Addr} {xs : List V} {v : V} {Q : V → St → Prop} (h : σ a = some (.lst xs)) (hl : xs.length + 1 ≤ lim) (q : Q .none (σ.set a (.lst (xs ++ [v])))) : meW .append (.ref a) [v] σ Q := by
  rw [m_append]; unfold mlistW refW
  simp only [optP_some, h]
  exact ⟨hl, q⟩
theorem mlist_of {a : Addr} {xs : List V} {K : Addr → List V → Prop} (h : σ a = some (.lst xs)) (q : K a xs) : mlistW (.ref a) σ K := by
  unfold mlistW refW
  simp only [optP_some, h]
  exact q
/-- all but a is as it was, and grown -/
noncomputable def Upd (a : Addr) (σ σ' : St) : Prop := ∀ b o, b ≠ a → σ b = some o → σ' b = some o
theorem Upd.set (σ : St) (a : Addr) (o : O) : Upd a σ (σ.set a o) := fun b x hb h => by rw [St.set_other _ _ hb]; exact h
theorem Ext.upd {σ σ' : St} (h : Ext σ σ') (a : Addr) : Upd a σ σ' := fun b o _ e => h b o e
theorem Upd.trans {a : Addr} {σ σ' σ'' : St} (h : Upd a σ σ') (k : Upd a σ' σ'') : Upd a σ σ'' := fun b o hb e => k b o hb (h b o hb e)
/-- a range of numbers -/
theorem range1_of {b : Int} {Q : V → St → Prop} (hb : small b) (q : ∀ d σ', σ d = none → Ext σ σ' → σ' d = some (.rng 0 b 1) → Q (.ref d) σ') : biW .range [.int b] σ Q := ⟨hb, alW_of q⟩
theorem iter_rng {a : Addr} {lo hi st : Int} {K : List V → (St → Prop) → Prop} (h : σ a = some (.rng lo hi st)) (h1 : small lo) (h2 : small hi) (h3 : st = 1 ∨ st = -1) (q : K (ivs (rangeL lo hi st)) (fun _ => True)) : iterW (.ref a) σ K := by
  unfold iterW refW
  simp only [optP_some, h]
  exact ⟨h1, h2, h3, q⟩
theorem small_nat {k : Nat} (h : k ≤ 1000000) : small (k : Int) := ⟨by omega, by omega⟩
theorem rangeL_up (k : Nat) : rangeL 0 (k : Int) 1 = (List.range k).map fun (i : Nat) => (i : Int) := by
  simp [rangeL]
theorem nth_map_range {k i : Nat} (h : i < k) : nth (ivs (rangeL 0 (k : Int) 1)) i = .int (i : Nat) := by
  rw [rangeL_up, nth_eq]; simp [ivs, List.getD_eq_getElem?_getD, h]
theorem len_range {k : Nat} : (ivs (rangeL 0 (k : Int) 1)).length = k := by rw [rangeL_up]; simp [ivs]

theorem cel_of {i : Nat} {fr : List V} {v : V} {Q : V → St → Prop} (h : σ (nthA cs i) = some (.cell v)) (hv : v ≠ .undef) (q : Q v σ) : xW W n (.cel i) cs fr σ Q := by
  simp only [x_bad, x_con, x_loc, x_cel, x_bin, x_neg, x_not, x_and, x_or, x_cmp, x_call, x_bcall, x_meth, x_sub, x_lst, x_comp, h]; exact ⟨hv, q⟩
theorem seq_ite {t : X} {a b b' : S} {fr : List V} {Q : Fl → St → List V → Prop} (h : tW W n t cs fr σ fun c σ1 => if c = true then sW W n (.seq a b) cs fr σ1 Q else sW W n (.seq b' b) cs fr σ1 Q) : sW W n (.seq (.ite t a b') b) cs fr σ Q := h
theorem seq_skip {b : S} {fr : List V} {Q : Fl → St → List V → Prop} (h : sW W n b cs fr σ Q) : sW W n (.seq .skip b) cs fr σ Q := h
theorem seq_for {tg : Tg} {it : X} {a b : S} {fr : List V} {Q : Fl → St → List V → Prop} (h : xW W n it cs fr σ fun v σ1 => iterW v σ1 fun xs chk =>
      forW chk (fun x fr σ k => tgW tg x cs fr σ fun fr1 σ2 => sW W n a cs fr1 σ2 k) xs fr σ1 fun f σ1 fr1 => (match f with
        | .next => sW W n b cs fr1 σ1 Q
        | f => Q f σ1 fr1)) : sW W n (.seq (.for_ tg it a) b) cs fr σ Q := h
end Mine

end
section -- K5
namespace Mine
variable {W : Wd} {n : Nat} {σ : St} {cs : List Addr}
theorem take_succ {l : List Int} {i : Nat} (h : i < l.length) : l.take (i + 1) = l.take i ++ [l.getD i 0] := by
  rw [List.take_add_one, List.getElem?_eq_getElem h, List.getD_eq_getElem?_getD, List.getElem?_eq_getElem h]; rfl
theorem seq_seq {a b c : S} {fr : List V} {Q : Fl → St → List V → Prop} (h : sW W n (.seq a (.seq b c)) cs fr σ Q) : sW W n (.seq (.seq a b) c) cs fr σ Q := by
  have e : (fun (f : Fl) (σ1 : St) (fr1 : List V) => (match f with
      | .next => sW W n (.seq b c) cs fr1 σ1 Q
      | f => Q f σ1 fr1)) = fun (f : Fl) (σ1 : St) (fr1 : List V) => (match f with
      | .next => sW W n b cs fr1 σ1 fun f σ1 fr1 => (match f with
        | .next => sW W n c cs fr1 σ1 Q
        | f => Q f σ1 fr1)
      | f => (match f with
        | .next => sW W n c cs fr1 σ1 Q
        | f => Q f σ1 fr1)) := by
    funext f σ1 fr1; cases f <;> rfl
  have h' : sW W n a cs fr σ (fun (f : Fl) (σ1 : St) (fr1 : List V) => (match f with
      | .next => sW W n (.seq b c) cs fr1 σ1 Q
      | f => Q f σ1 fr1)) := h
  rw [e] at h'
  exact h'
theorem seq_ret {x : X} {b : S} {fr : List V} {Q : Fl → St → List V → Prop} (h : xW W n x cs fr σ fun v σ1 => Q (.ret v) σ1 fr) : sW W n (.seq (.ret x) b) cs fr σ Q := h
theorem Ext.put {σ' : St} {b : Addr} {o : O} (h : Ext σ σ') (hb : σ b = none) : Ext σ (σ'.set b o) := fun a x e => by
  rw [St.set_other _ _ (ne_new e hb)]; exact h a x e
theorem Ext.none {σ' : St} {b : Addr} (h : Ext σ σ') (hb : σ' b = none) : σ b = none := by
  cases e : σ b with
  | none => rfl
  | some o => rw [h _ _ e] at hb; cases hb
end Mine

end
section -- K6

namespace Mine
variable {W : Wd} {n : Nat} {σ : St} {cs : List Addr}

section
variable {C : Addr} {m : Str} {R : St → Prop} {fr : List V}
theorem r_seq {a b : S} (h : sW W n a cs fr σ fun f σ1 fr1 => f = .next ∧ rW W n C m R b cs fr1 σ1) : rW W n C m R (.seq a b) cs fr σ := .inl h
theorem r_here {a b : S} (h : rW W n C m R a cs fr σ) : rW W n C m R (.seq a b) cs fr σ := .inr h
theorem r_ite {t : X} {a b : S} (h : tW W n t cs fr σ fun c σ1 => if c = true then rW W n C m R a cs fr σ1 else rW W n C m R b cs fr σ1) : rW W n C m R (.ite t a b) cs fr σ := h
theorem r_rais (h : R σ) : rW W n C m R (.rais C m) cs fr σ := ⟨rfl, rfl, h⟩
/-- how all three begin -/
theorem r_median {a : Addr} {rest : S} {tl : List V} (ga : σ a = some (.lst (ivs []))) (q : ∀ σ', Ext σ σ' → R σ') :
    rW W n C m R (.seq (.set (.l 0) (.bcall .sorted (.cons (.loc 0) .nil))) (.seq (.set (.l 1) (.bcall .len (.cons (.loc 0) .nil))) (.seq (.ite (.cmp .Eq (.loc 1) (.con (.int (0)))) (.seq (.rais C m) .skip) .skip) rest))) cs (.ref a :: .undef :: tl) σ := by
  refine r_seq ?_
  rw [s_set]
  simp only [x_bcall, x_loc, l_cons, l_nil, nth, ne_eq, reduceCtorEq, not_false_eq_true, true_and]
  refine sorted_of ga rfl fun d σ1 n1 e1 f1 => ?_
  simp only [stW, setN]
  refine r_seq ?_
  rw [s_set]
  simp only [x_bcall, x_loc, l_cons, l_nil, nth, ne_eq, reduceCtorEq, not_false_eq_true, true_and]
  refine len_of f1 rfl ?_
  simp only [stW, setN]
  refine r_here (r_ite ?_)
  simp only [t_cmp, x_loc, x_con, nth, ne_eq, reduceCtorEq, not_false_eq_true, true_and, c_eq]
  have e : (((ivs (isort [])).length : Int) == 0) = true := rfl
  rw [e, if_pos rfl]
  exact r_here (r_rais (q _ e1))
end
theorem ml_rz {C fa : Addr} {m : Str} {R : St → Prop} (F : FnR W fa (S_ml (.rais C m)) 1 4) (hC : ExcC W.H C) {a : Addr} (ga : σ a = some (.lst (ivs []))) (q : ∀ σ', Ext σ σ' → R σ') : CallRz W (n + 1) (.ref fa) [.ref a] C m R σ := by
  obtain ⟨cs, F⟩ := F
  exact F _ n C m R σ rfl hC (r_median ga q)
theorem mh_rz {C fa : Addr} {m : Str} {R : St → Prop} (F : FnR W fa (S_mh (.rais C m)) 1 4) (hC : ExcC W.H C) {a : Addr} (ga : σ a = some (.lst (ivs []))) (q : ∀ σ', Ext σ σ' → R σ') : CallRz W (n + 1) (.ref fa) [.ref a] C m R σ := by
  obtain ⟨cs, F⟩ := F
  exact F _ n C m R σ rfl hC (r_median ga q)
theorem md_rz {C fa : Addr} {m : Str} {R : St → Prop} (F : FnR W fa (S_md (.rais C m)) 1 5) (hC : ExcC W.H C) {a : Addr} (ga : σ a = some (.lst (ivs []))) (q : ∀ σ', Ext σ σ' → R σ') : CallRz W (n + 1) (.ref fa) [.ref a] C m R σ := by
  obtain ⟨cs, F⟩ := F
  exact F _ n C m R σ rfl hC (r_median ga q)

inductive Hs (σ : St) : List Addr → List (List Int) → Prop where
  | nil : Hs σ [] []
  | cons {a : Addr} {B : List Int} {as : List Addr} {R : List (List Int)} : σ a = some (.lst (ivs B)) → Hs σ as R → Hs σ (a :: as) (B :: R)
theorem Hs.ext {σ' : St} {as : List Addr} {R : List (List Int)} (h : Hs σ as R) (k : ∀ a ∈ as, ∀ o, σ a = some o → σ' a = some o) : Hs σ' as R := by
  induction h with
  | nil => exact .nil
  | cons h1 h2 ih => exact .cons (k _ (by simp) _ h1) (ih fun a ha => k a (by simp [ha]))
theorem Hs.len {as : List Addr} {R : List (List Int)} (h : Hs σ as R) : as.length = R.length := by
  induction h with
  | nil => rfl
  | cons _ _ ih => simp [ih]
theorem Hs.get {as : List Addr} {R : List (List Int)} (h : Hs σ as R) : ∀ i, i < R.length → ∃ a B, as[i]? = some a ∧ R[i]? = some B ∧ σ a = some (.lst (ivs B)) := by
  induction h with
  | nil => intro i hi; cases hi
  | cons h1 h2 ih =>
    intro i hi
    cases i with
    | zero => exact ⟨_, _, rfl, rfl, h1⟩
    | succ i => exact ih i (by simpa using hi)
end Mine

end
section -- H05
namespace Mine
open_top hd05 for PySem.Challenge.rw_dn0040_05
end Mine

end
section -- D05
namespace Mine
noncomputable abbrev K05 (P : Params) : Frag := hd05.heap_39 P
noncomputable def tb05 : List (Str × V) := [("len", (.bi "len")), ("sorted", (.bi "sorted")), ("min", (.bi "min")), ("max", (.bi "max")), ("sum", (.bi "sum")), ("abs", (.bi "abs")), ("range", (.typ "range")), ("list", (.typ "list")), ("type", (.typ "type")), ("int", (.typ "int")), ("median", (.ref 34)), ("median_low", (.ref 41)), ("median_high", (.ref 48)), ("insort_right", (.ref 57)), ("bisect_right", (.ref 66)), ("bisect_left", (.ref 75)), ("_law_distance", (.ref 82)), ("_law_refused", (.ref 89)), ("_law_state", (.ref 94)), ("_law_run", (.ref 101)), ("law", (.ref 108)), ("StatisticsError", (.ref 24)), ("ValueError", (.typ "ValueError")), ("str", (.typ "str"))]
noncomputable def nm05_34 : List (Str × NameKind) := [("data", .local), ("n", .local), ("i", .local), ("sorted", .globalImplicit), ("len", .globalImplicit), ("StatisticsError", .globalImplicit)]
noncomputable def nm05_41 : List (Str × NameKind) := [("data", .local), ("n", .local), ("sorted", .globalImplicit), ("len", .globalImplicit), ("StatisticsError", .globalImplicit)]
noncomputable def nm05_48 : List (Str × NameKind) := [("data", .local), ("n", .local), ("sorted", .globalImplicit), ("len", .globalImplicit), ("StatisticsError", .globalImplicit)]
noncomputable def nm05_57 : List (Str × NameKind) := [("a", .local), ("x", .local), ("lo", .local), ("hi", .local), ("key", .local), ("bisect_right", .globalImplicit)]
noncomputable def nm05_66 : List (Str × NameKind) := [("a", .local), ("x", .local), ("lo", .local), ("hi", .local), ("key", .local), ("mid", .local), ("ValueError", .globalImplicit), ("len", .globalImplicit)]
noncomputable def nm05_75 : List (Str × NameKind) := [("a", .local), ("x", .local), ("lo", .local), ("hi", .local), ("key", .local), ("mid", .local), ("ValueError", .globalImplicit), ("len", .globalImplicit)]
noncomputable def nm05_82 : List (Str × NameKind) := [("came", .local), ("x", .local), ("low", .local), ("high", .local), ("median_low", .globalImplicit), ("median_high", .globalImplicit), ("type", .globalImplicit), ("int", .globalImplicit), ("max", .globalImplicit)]
noncomputable def bd05_82 : S := (.seq (.ite (.cmp .Eq (.loc 0) (.lst .nil)) (.seq (.ret (.con (.int (0))))
 .skip) .skip)
 (.seq (.set (.l 2) (.call (.con (.ref 41)) (.cons (.loc 0) .nil) [] .nil))
 (.seq (.set (.l 3) (.call (.con (.ref 48)) (.cons (.loc 0) .nil) [] .nil))
 (.seq (.ite (.or (.cmp .IsNot (.bcall .type (.cons (.loc 2) .nil)) (.con (.typ "int"))) (.cmp .IsNot (.bcall .type (.cons (.loc 3) .nil)) (.con (.typ "int")))) (.seq (.ret (.con .none))
 .skip) .skip)
 (.seq (.ret (.bcall .max (.cons (.bin .Sub (.loc 2) (.loc 1)) (.cons (.con (.int (0))) (.cons (.bin .Sub (.loc 1) (.loc 3)) .nil)))))
 .skip)))))
noncomputable def nm05_89 : List (Str × NameKind) := [("words", .local), ("one", .local), ("error", .local), ("median_low", .globalImplicit), ("median", .globalImplicit), ("median_high", .globalImplicit), ("StatisticsError", .globalImplicit), ("str", .globalImplicit)]
noncomputable def bd05_89 : S := (.seq (.set (.l 0) (.lst .nil))
 (.seq (.for_ (.one (.l 1)) (.lst (.cons (.con (.ref 41)) (.cons (.con (.ref 34)) (.cons (.con (.ref 48)) .nil)))) (.seq (.tryx (.exp (.call (.loc 1) (.cons (.lst .nil) .nil) [] .nil)) (.loc 1) (.cons (.lst .nil) .nil) 24 (.appStr 2 0))
 .skip))
 (.seq (.ret (.cmp .Eq (.loc 0) (.bin .Mult (.lst (.cons (.con (.str "no median for empty data")) .nil)) (.con (.int (3))))))
 .skip)))
noncomputable def nm05_94 : List (Str × NameKind) := [("came", .local), ("kept", .local), ("paid", .local), ("row", .cell), ("as_came", .local), ("each", .local), ("sums", .local), ("total", .local), ("x", .local), ("low", .local), ("high", .local), ("one", .local), ("sorted", .globalImplicit), ("list", .globalImplicit), ("range", .globalImplicit), ("len", .globalImplicit), ("median_low", .globalImplicit), ("median_high", .globalImplicit), ("type", .globalImplicit), ("int", .globalImplicit), ("bisect_left", .globalImplicit), ("bisect_right", .globalImplicit), ("median", .globalImplicit), ("min", .globalImplicit)]
noncomputable def bd05_94 : S := (.seq (.set (.c 3) (.bcall .sorted (.cons (.loc 0) .nil)))
 (.seq (.ite (.cmp .NotEq (.loc 1) (.cel 3)) (.seq (.ret (.con (.bool false)))
 .skip) .skip)
 (.seq (.ite (.cmp .Eq (.cel 3) (.lst .nil)) (.seq (.ret (.cmp .Eq (.loc 2) (.con (.int (0)))))
 .skip) .skip)
 (.seq (.set (.l 4) (.bcall .list (.cons (.loc 0) .nil)))
 (.seq (.set (.l 5) (.comp 3 [24, 24, 3] (.bcall .range (.cons (.bcall .len (.cons (.cel 3) .nil)) .nil)) 1 (.or (.cmp .Eq (.loc 1) (.con (.int (0)))) (.cmp .NotEq (.sub (.cel 2) (.bin .Sub (.loc 1) (.con (.int (1))))) (.sub (.cel 2) (.loc 1)))) (.sub (.cel 2) (.loc 1))))
 (.seq (.set (.l 6) (.lst .nil))
 (.seq (.set (.l 7) (.con (.int (0))))
 (.seq (.for_ (.one (.l 8)) (.loc 5) (.seq (.set (.l 7) (.bin .Add (.loc 7) (.meth .count (.cel 3) (.cons (.loc 8) .nil))))
 (.seq (.exp (.meth .append (.loc 6) (.cons (.loc 7) .nil)))
 .skip)))
 (.seq (.set (.l 9) (.call (.con (.ref 41)) (.cons (.loc 0) .nil) [] .nil))
 (.seq (.set (.l 10) (.call (.con (.ref 48)) (.cons (.loc 0) .nil) [] .nil))
 (.seq (.ite (.or (.cmp .IsNot (.bcall .type (.cons (.loc 9) .nil)) (.con (.typ "int"))) (.cmp .IsNot (.bcall .type (.cons (.loc 10) .nil)) (.con (.typ "int")))) (.seq (.ret (.con (.bool false)))
 .skip) .skip)
 (.seq (.ite (.cmp .NotEq (.loc 9) (.sub (.loc 5) (.call (.con (.ref 75)) (.cons (.loc 6) (.cons (.bin .FloorDiv (.bin .Add (.loc 7) (.con (.int (1)))) (.con (.int (2)))) .nil)) [] .nil))) (.seq (.ret (.con (.bool false)))
 .skip) .skip)
 (.seq (.ite (.cmp .NotEq (.loc 10) (.sub (.loc 5) (.call (.con (.ref 66)) (.cons (.loc 6) (.cons (.bin .FloorDiv (.loc 7) (.con (.int (2)))) .nil)) [] .nil))) (.seq (.ret (.con (.bool false)))
 .skip) .skip)
 (.seq (.ite (.cmp .Eq (.bin .Mod (.loc 7) (.con (.int (2)))) (.con (.int (1)))) (.seq (.set (.l 11) (.call (.con (.ref 34)) (.cons (.loc 0) .nil) [] .nil))
 (.seq (.ite (.or (.cmp .IsNot (.bcall .type (.cons (.loc 11) .nil)) (.con (.typ "int"))) (.cmp .NotEq (.loc 11) (.loc 9))) (.seq (.ret (.con (.bool false)))
 .skip) .skip)
 .skip)) .skip)
 (.seq (.ite (.cmp .NotEq (.loc 0) (.loc 4)) (.seq (.ret (.con (.bool false)))
 .skip) .skip)
 (.seq (.ret (.cmp .Eq (.loc 2) (.bcall .min (.cons (.compc 4 [24, 8, 24, 3] (.loc 5) 1 (.bcall .sum (.cons (.comp 4 [0, 4, 4, 1] (.cel 3) 1 (.con (.bool true)) (.bcall .abs (.cons (.bin .Sub (.cel 3) (.loc 1)) .nil))) .nil))) .nil))))
 .skip))))))))))))))))
noncomputable def nm05_101 : List (Str × NameKind) := [("numbers", .local), ("few", .local), ("came", .local), ("kept", .local), ("paid", .local), ("number", .local), ("weight", .local), ("value", .local), ("gone", .local), ("far", .local), ("k", .local), ("len", .globalImplicit), ("bisect_left", .globalImplicit), ("_law_distance", .globalImplicit), ("range", .globalImplicit), ("max", .globalImplicit), ("insort_right", .globalImplicit), ("_law_state", .globalImplicit), ("sorted", .globalImplicit)]
noncomputable def bd05_101 : S := (.seq (.set (.l 2) (.lst .nil))
 (.seq (.set (.l 3) (.lst .nil))
 (.seq (.set (.l 4) (.con (.int (0))))
 (.seq (.for_ (.one (.l 5)) (.loc 0) (.seq (.set (.l 6) (.bin .Mod (.loc 5) (.con (.int (4)))))
 (.seq (.set (.l 7) (.bin .FloorDiv (.loc 5) (.con (.int (4)))))
 (.seq (.ite (.loc 1) (.seq (.set (.l 7) (.bin .Mod (.loc 7) (.con (.int (5)))))
 .skip) .skip)
 (.seq (.ite (.and (.cmp .Eq (.loc 6) (.con (.int (0)))) (.cmp .NotEq (.loc 2) (.lst .nil))) (.seq (.set (.l 8) (.sub (.loc 3) (.bin .Mod (.loc 7) (.bcall .len (.cons (.loc 3) .nil)))))
 (.seq (.del (.loc 3) (.call (.con (.ref 75)) (.cons (.loc 3) (.cons (.loc 8) .nil)) [] .nil))
 (.seq (.exp (.meth .remove (.loc 2) (.cons (.loc 8) .nil)))
 (.seq (.set (.l 9) (.call (.con (.ref 82)) (.cons (.loc 2) (.cons (.loc 8) .nil)) [] .nil))
 (.seq (.ite (.cmp .Is (.loc 9) (.con .none)) (.seq (.ret (.con (.bool false)))
 .skip) .skip)
 (.seq (.set (.l 4) (.bin .Sub (.loc 4) (.loc 9)))
 .skip)))))) (.seq (.for_ (.one (.l 10)) (.bcall .range (.cons (.bcall .max (.cons (.loc 6) (.cons (.con (.int (1))) .nil))) .nil)) (.seq (.set (.l 9) (.call (.con (.ref 82)) (.cons (.loc 2) (.cons (.loc 7) .nil)) [] .nil))
 (.seq (.ite (.cmp .Is (.loc 9) (.con .none)) (.seq (.ret (.con (.bool false)))
 .skip) .skip)
 (.seq (.set (.l 4) (.bin .Add (.loc 4) (.loc 9)))
 (.seq (.exp (.meth .append (.loc 2) (.cons (.loc 7) .nil)))
 (.seq (.exp (.call (.con (.ref 57)) (.cons (.loc 3) (.cons (.loc 7) .nil)) [] .nil))
 .skip))))))
 .skip))
 (.seq (.ite (.not (.call (.con (.ref 94)) (.cons (.loc 2) (.cons (.loc 3) (.cons (.loc 4) .nil))) [] .nil)) (.seq (.ret (.con (.bool false)))
 .skip) .skip)
 .skip))))))
 (.seq (.whl (.cmp .NotEq (.loc 2) (.lst .nil)) (.seq (.set (.l 8) (.sub (.loc 2) (.con (.int (0)))))
 (.seq (.del (.loc 3) (.call (.con (.ref 75)) (.cons (.loc 3) (.cons (.loc 8) .nil)) [] .nil))
 (.seq (.del (.loc 2) (.con (.int (0))))
 (.seq (.ite (.cmp .NotEq (.loc 3) (.bcall .sorted (.cons (.loc 2) .nil))) (.seq (.ret (.con (.bool false)))
 .skip) .skip)
 (.seq (.set (.l 9) (.call (.con (.ref 82)) (.cons (.loc 2) (.cons (.loc 8) .nil)) [] .nil))
 (.seq (.ite (.cmp .Is (.loc 9) (.con .none)) (.seq (.ret (.con (.bool false)))
 .skip) .skip)
 (.seq (.set (.l 4) (.bin .Sub (.loc 4) (.loc 9)))
 .skip))))))))
 (.seq (.ret (.call (.con (.ref 94)) (.cons (.loc 2) (.cons (.loc 3) (.cons (.loc 4) .nil))) [] .nil))
 .skip))))))
noncomputable def nm05_108 : List (Str × NameKind) := [("script", .local), ("numbers", .local), ("_law_refused", .globalImplicit), ("_law_run", .globalImplicit)]
noncomputable def bd05_108 : S := (.seq (.set (.l 1) (.bin .Add (.loc 0) (.lst (.cons (.con (.int (9))) (.cons (.con (.int (22))) (.cons (.con (.int (0))) (.cons (.con (.int (15))) (.cons (.con (.int (4))) (.cons (.con (.int (26))) .nil)))))))))
 (.seq (.ret (.and (.call (.con (.ref 89)) .nil [] .nil) (.and (.call (.con (.ref 101)) (.cons (.loc 1) (.cons (.con (.bool false)) .nil)) [] .nil) (.call (.con (.ref 101)) (.cons (.loc 1) (.cons (.con (.bool true)) .nil)) [] .nil))))
 .skip))


theorem gl05 (P : Params) : glChk (K05 P) tb05 = true := by kernel_rfl
theorem fc05_34 (P : Params) : fnChk (K05 P) 34 nm05_34 = true := by kernel_rfl
theorem fe05_34 (P : Params) : erSs (glT tb05) 40 nm05_34 (bodyK (K05 P) 34) = (S_md (.rais 24 "no median for empty data")) := by kernel_rfl
theorem fp05_34 (P : Params) : ∀ vs : List Value, vs.length = (["data"] : List Str).length → (fdK (K05 P) 34).map (fun fd => bindArgs fd ⟨vs, []⟩) = some (pure ((["data"] : List Str).zip vs)) := fun vs h => by
    obtain ⟨v0, r0, rfl, h1⟩ := lenS h; cases List.length_eq_zero_iff.mp h1
    kernel_rfl
theorem fn05_median {W : Wd} {P : Params} (X : Txt W (K05 P) tb05) : FnP W 34 (S_md (.rais 24 "no median for empty data")) 1 5 := fnP_of X (xs := ["data"]) (fc05_34 P) (fe05_34 P) (by kernel_rfl) (fp05_34 P) (by kernel_rfl)
  (fun us h => by
    obtain ⟨v0, r0, rfl, h1⟩ := lenS h; cases List.length_eq_zero_iff.mp h1
    kernel_rfl)
theorem fr05_median {W : Wd} {P : Params} (X : Txt W (K05 P) tb05) : FnR W 34 (S_md (.rais 24 "no median for empty data")) 1 5 := fnR_of X (xs := ["data"]) (fc05_34 P) (fe05_34 P) (by kernel_rfl) (fp05_34 P) (by kernel_rfl)
  (fun us h => by
    obtain ⟨v0, r0, rfl, h1⟩ := lenS h; cases List.length_eq_zero_iff.mp h1
    kernel_rfl)
theorem fc05_41 (P : Params) : fnChk (K05 P) 41 nm05_41 = true := by kernel_rfl
theorem fe05_41 (P : Params) : erSs (glT tb05) 40 nm05_41 (bodyK (K05 P) 41) = (S_ml (.rais 24 "no median for empty data")) := by kernel_rfl
theorem fp05_41 (P : Params) : ∀ vs : List Value, vs.length = (["data"] : List Str).length → (fdK (K05 P) 41).map (fun fd => bindArgs fd ⟨vs, []⟩) = some (pure ((["data"] : List Str).zip vs)) := fun vs h => by
    obtain ⟨v0, r0, rfl, h1⟩ := lenS h; cases List.length_eq_zero_iff.mp h1
    kernel_rfl
theorem fn05_median_low {W : Wd} {P : Params} (X : Txt W (K05 P) tb05) : FnP W 41 (S_ml (.rais 24 "no median for empty data")) 1 4 := fnP_of X (xs := ["data"]) (fc05_41 P) (fe05_41 P) (by kernel_rfl) (fp05_41 P) (by kernel_rfl)
  (fun us h => by
    obtain ⟨v0, r0, rfl, h1⟩ := lenS h; cases List.length_eq_zero_iff.mp h1
    kernel_rfl)
theorem fr05_median_low {W : Wd} {P : Params} (X : Txt W (K05 P) tb05) : FnR W 41 (S_ml (.rais 24 "no median for empty data")) 1 4 := fnR_of X (xs := ["data"]) (fc05_41 P) (fe05_41 P) (by kernel_rfl) (fp05_41 P) (by kernel_rfl)
  (fun us h => by
    obtain ⟨v0, r0, rfl, h1⟩ := lenS h; cases List.length_eq_zero_iff.mp h1
    kernel_rfl)
theorem fc05_48 (P : Params) : fnChk (K05 P) 48 nm05_48 = true := by kernel_rfl
theorem fe05_48 (P : Params) : erSs (glT tb05) 40 nm05_48 (bodyK (K05 P) 48) = (S_mh (.rais 24 "no median for empty data")) := by kernel_rfl
theorem fp05_48 (P : Params) : ∀ vs : List Value, vs.length = (["data"] : List Str).length → (fdK (K05 P) 48).map (fun fd => bindArgs fd ⟨vs, []⟩) = some (pure ((["data"] : List Str).zip vs)) := fun vs h => by
    obtain ⟨v0, r0, rfl, h1⟩ := lenS h; cases List.length_eq_zero_iff.mp h1
    kernel_rfl
theorem fn05_median_high {W : Wd} {P : Params} (X : Txt W (K05 P) tb05) : FnP W 48 (S_mh (.rais 24 "no median for empty data")) 1 4 := fnP_of X (xs := ["data"]) (fc05_48 P) (fe05_48 P) (by kernel_rfl) (fp05_48 P) (by kernel_rfl)
  (fun us h => by
    obtain ⟨v0, r0, rfl, h1⟩ := lenS h; cases List.length_eq_zero_iff.mp h1
    kernel_rfl)
theorem fr05_median_high {W : Wd} {P : Params} (X : Txt W (K05 P) tb05) : FnR W 48 (S_mh (.rais 24 "no median for empty data")) 1 4 := fnR_of X (xs := ["data"]) (fc05_48 P) (fe05_48 P) (by kernel_rfl) (fp05_48 P) (by kernel_rfl)
  (fun us h => by
    obtain ⟨v0, r0, rfl, h1⟩ := lenS h; cases List.length_eq_zero_iff.mp h1
    kernel_rfl)
theorem fc05_57 (P : Params) : fnChk (K05 P) 57 nm05_57 = true := by kernel_rfl
theorem fe05_57 (P : Params) : erSs (glT tb05) 40 nm05_57 (bodyK (K05 P) 57) = (S_in 66) := by kernel_rfl
theorem fn05_insort_right {W : Wd} {P : Params} (X : Txt W (K05 P) tb05) : FnB W 57 (S_in 66) 1 := fnB_of X (fc05_57 P) (fe05_57 P) ⟨by kernel_rfl, by kernel_rfl⟩ (by kernel_rfl) (fun _ _ _ _ _ => by kernel_rfl)
theorem fc05_66 (P : Params) : fnChk (K05 P) 66 nm05_66 = true := by kernel_rfl
theorem fe05_66 (P : Params) : erSs (glT tb05) 40 nm05_66 (bodyK (K05 P) 66) = S_br := by kernel_rfl
theorem fn05_bisect_right {W : Wd} {P : Params} (X : Txt W (K05 P) tb05) : FnB W 66 S_br 3 := fnB_of X (fc05_66 P) (fe05_66 P) ⟨by kernel_rfl, by kernel_rfl⟩ (by kernel_rfl) (fun _ _ _ _ _ => by kernel_rfl)
theorem fc05_75 (P : Params) : fnChk (K05 P) 75 nm05_75 = true := by kernel_rfl
theorem fe05_75 (P : Params) : erSs (glT tb05) 40 nm05_75 (bodyK (K05 P) 75) = S_bl := by kernel_rfl
theorem fn05_bisect_left {W : Wd} {P : Params} (X : Txt W (K05 P) tb05) : FnB W 75 S_bl 3 := fnB_of X (fc05_75 P) (fe05_75 P) ⟨by kernel_rfl, by kernel_rfl⟩ (by kernel_rfl) (fun _ _ _ _ _ => by kernel_rfl)
theorem fc05_82 (P : Params) : fnChk (K05 P) 82 nm05_82 = true := by kernel_rfl
theorem fe05_82 (P : Params) : erSs (glT tb05) 40 nm05_82 (bodyK (K05 P) 82) = bd05_82 := by kernel_rfl
theorem fp05_82 (P : Params) : ∀ vs : List Value, vs.length = (["came", "x"] : List Str).length → (fdK (K05 P) 82).map (fun fd => bindArgs fd ⟨vs, []⟩) = some (pure ((["came", "x"] : List Str).zip vs)) := fun vs h => by
    obtain ⟨v0, r0, rfl, h1⟩ := lenS h; obtain ⟨v1, r1, rfl, h2⟩ := lenS h1; cases List.length_eq_zero_iff.mp h2
    kernel_rfl
theorem fn05__law_distance {W : Wd} {P : Params} (X : Txt W (K05 P) tb05) : FnP W 82 bd05_82 2 7 := fnP_of X (xs := ["came", "x"]) (fc05_82 P) (fe05_82 P) (by kernel_rfl) (fp05_82 P) (by kernel_rfl)
  (fun us h => by
    obtain ⟨v0, r0, rfl, h1⟩ := lenS h; obtain ⟨v1, r1, rfl, h2⟩ := lenS h1; cases List.length_eq_zero_iff.mp h2
    kernel_rfl)
theorem fc05_89 (P : Params) : fnChk (K05 P) 89 nm05_89 = true := by kernel_rfl
theorem fe05_89 (P : Params) : erSs (glT tb05) 40 nm05_89 (bodyK (K05 P) 89) = bd05_89 := by kernel_rfl
theorem fp05_89 (P : Params) : ∀ vs : List Value, vs.length = ([] : List Str).length → (fdK (K05 P) 89).map (fun fd => bindArgs fd ⟨vs, []⟩) = some (pure (([] : List Str).zip vs)) := fun vs h => by
    cases List.length_eq_zero_iff.mp h
    kernel_rfl
theorem fn05__law_refused {W : Wd} {P : Params} (X : Txt W (K05 P) tb05) : FnP W 89 bd05_89 0 8 := fnP_of X (xs := []) (fc05_89 P) (fe05_89 P) (by kernel_rfl) (fp05_89 P) (by kernel_rfl)
  (fun us h => by
    cases List.length_eq_zero_iff.mp h
    kernel_rfl)
theorem fc05_94 (P : Params) : fnChk (K05 P) 94 nm05_94 = true := by kernel_rfl
theorem fe05_94 (P : Params) : erSs (glT tb05) 40 nm05_94 (bodyK (K05 P) 94) = bd05_94 := by kernel_rfl
theorem fp05_94 (P : Params) : ∀ vs : List Value, vs.length = (["came", "kept", "paid"] : List Str).length → (fdK (K05 P) 94).map (fun fd => bindArgs fd ⟨vs, []⟩) = some (pure ((["came", "kept", "paid"] : List Str).zip vs)) := fun vs h => by
    obtain ⟨v0, r0, rfl, h1⟩ := lenS h; obtain ⟨v1, r1, rfl, h2⟩ := lenS h1; obtain ⟨v2, r2, rfl, h3⟩ := lenS h2; cases List.length_eq_zero_iff.mp h3
    kernel_rfl
theorem fn05__law_state {W : Wd} {P : Params} (X : Txt W (K05 P) tb05) {n : Nat} {σ : St} {us : List V} {Q : V → St → Prop} (hl : us.length = (["came", "kept", "paid"] : List Str).length)
    (h : cellW nm05_94 (parV ((["came", "kept", "paid"] : List Str).zip us)) [] σ fun cs σ' => sW W n bd05_94 cs (slots0 nm05_94 (parV ((["came", "kept", "paid"] : List Str).zip us))) σ' fun f σ'' _ => Q (retV f) σ'') : CallOK W (n + 1) (.ref 94) us [] [] Q σ :=
  fnC_of X (fc05_94 P) (fe05_94 P) (by kernel_rfl) (fp05_94 P) hl h
theorem fc05_101 (P : Params) : fnChk (K05 P) 101 nm05_101 = true := by kernel_rfl
theorem fe05_101 (P : Params) : erSs (glT tb05) 40 nm05_101 (bodyK (K05 P) 101) = bd05_101 := by kernel_rfl
theorem fp05_101 (P : Params) : ∀ vs : List Value, vs.length = (["numbers", "few"] : List Str).length → (fdK (K05 P) 101).map (fun fd => bindArgs fd ⟨vs, []⟩) = some (pure ((["numbers", "few"] : List Str).zip vs)) := fun vs h => by
    obtain ⟨v0, r0, rfl, h1⟩ := lenS h; obtain ⟨v1, r1, rfl, h2⟩ := lenS h1; cases List.length_eq_zero_iff.mp h2
    kernel_rfl
theorem fn05__law_run {W : Wd} {P : Params} (X : Txt W (K05 P) tb05) : FnP W 101 bd05_101 2 17 := fnP_of X (xs := ["numbers", "few"]) (fc05_101 P) (fe05_101 P) (by kernel_rfl) (fp05_101 P) (by kernel_rfl)
  (fun us h => by
    obtain ⟨v0, r0, rfl, h1⟩ := lenS h; obtain ⟨v1, r1, rfl, h2⟩ := lenS h1; cases List.length_eq_zero_iff.mp h2
    kernel_rfl)
theorem fc05_108 (P : Params) : fnChk (K05 P) 108 nm05_108 = true := by kernel_rfl
theorem fe05_108 (P : Params) : erSs (glT tb05) 40 nm05_108 (bodyK (K05 P) 108) = bd05_108 := by kernel_rfl
theorem fp05_108 (P : Params) : ∀ vs : List Value, vs.length = (["script"] : List Str).length → (fdK (K05 P) 108).map (fun fd => bindArgs fd ⟨vs, []⟩) = some (pure ((["script"] : List Str).zip vs)) := fun vs h => by
    obtain ⟨v0, r0, rfl, h1⟩ := lenS h; cases List.length_eq_zero_iff.mp h1
    kernel_rfl
theorem fn05_law {W : Wd} {P : Params} (X : Txt W (K05 P) tb05) : FnP W 108 bd05_108 1 3 := fnP_of X (xs := ["script"]) (fc05_108 P) (fe05_108 P) (by kernel_rfl) (fp05_108 P) (by kernel_rfl)
  (fun us h => by
    obtain ⟨v0, r0, rfl, h1⟩ := lenS h; cases List.length_eq_zero_iff.mp h1
    kernel_rfl)
theorem ex05 (P : Params) : excChk (K05 P) 24 = true := by kernel_rfl
end Mine

end
section -- M05
namespace Mine

noncomputable def dst (l : List Int) (t : Int) : Int := (l.map fun y => ((t - y).natAbs : Int)).sum
theorem dst_cons (y : Int) (l : List Int) (t : Int) : dst (y :: l) t = ((t - y).natAbs : Int) + dst l t := by
  unfold dst; rw [List.map_cons, List.sum_cons]
theorem dst_perm {l l' : List Int} (h : l.Perm l') (t : Int) : dst l t = dst l' t := by
  induction h with
  | nil => rfl
  | cons x _ ih => rw [dst_cons, dst_cons, ih]
  | swap x y l => rw [dst_cons, dst_cons, dst_cons, dst_cons]; omega
  | trans _ _ h1 h2 => exact h1.trans h2
theorem dst_left {t u : Int} (h : t ≤ u) : ∀ l : List Int, dst l u + (u - t) * ((l.length : Int) - 2 * (l.countP fun y => decide (y < u))) ≤ dst l t
  | [] => by unfold dst; simp
  | y :: l => by
    have ih := dst_left h l
    rw [dst_cons, dst_cons, List.countP_cons, List.length_cons]
    generalize l.countP (fun y => decide (y < u)) = c at ih ⊢
    generalize dst l u = a at ih ⊢
    generalize dst l t = b at ih ⊢
    by_cases hy : y < u
    · rw [if_pos (decide_eq_true hy)]
      have e : (u - t) * (((l.length + 1 : Nat) : Int) - 2 * ((c + 1 : Nat) : Int)) = (u - t) * ((l.length : Int) - 2 * (c : Int)) - (u - t) := by
        rw [show (((l.length + 1 : Nat) : Int) - 2 * ((c + 1 : Nat) : Int)) = ((l.length : Int) - 2 * (c : Int)) - 1 by omega, Int.mul_sub, Int.mul_one]
      rw [e]; omega
    · rw [if_neg (by simpa using hy)]
      have e : (u - t) * (((l.length + 1 : Nat) : Int) - 2 * ((c + 0 : Nat) : Int)) = (u - t) * ((l.length : Int) - 2 * (c : Int)) + (u - t) := by
        rw [show (((l.length + 1 : Nat) : Int) - 2 * ((c + 0 : Nat) : Int)) = ((l.length : Int) - 2 * (c : Int)) + 1 by omega, Int.mul_add, Int.mul_one]
      rw [e]; omega
theorem dst_right {t u : Int} (h : u ≤ t) : ∀ l : List Int, dst l u + (t - u) * (2 * (l.countP fun y => decide (y ≤ u)) - (l.length : Int)) ≤ dst l t
  | [] => by unfold dst; simp
  | y :: l => by
    have ih := dst_right h l
    rw [dst_cons, dst_cons, List.countP_cons, List.length_cons]
    generalize l.countP (fun y => decide (y ≤ u)) = c at ih ⊢
    generalize dst l u = a at ih ⊢
    generalize dst l t = b at ih ⊢
    by_cases hy : y ≤ u
    · rw [if_pos (decide_eq_true hy)]
      have e : (t - u) * (2 * ((c + 1 : Nat) : Int) - ((l.length + 1 : Nat) : Int)) = (t - u) * (2 * (c : Int) - (l.length : Int)) + (t - u) := by
        rw [show (2 * ((c + 1 : Nat) : Int) - ((l.length + 1 : Nat) : Int)) = (2 * (c : Int) - (l.length : Int)) + 1 by omega, Int.mul_add, Int.mul_one]
      rw [e]; omega
    · rw [if_neg (by simpa using hy)]
      have e : (t - u) * (2 * ((c + 0 : Nat) : Int) - ((l.length + 1 : Nat) : Int)) = (t - u) * (2 * (c : Int) - (l.length : Int)) - (t - u) := by
        rw [show (2 * ((c + 0 : Nat) : Int) - ((l.length + 1 : Nat) : Int)) = (2 * (c : Int) - (l.length : Int)) - 1 by omega, Int.mul_sub, Int.mul_one]
      rw [e]; omega
/-- a place of the ordered row -/
theorem le_place {l : List Int} {p : Nat} {B : Int} (h : p < l.length) : (isort l).getD p 0 ≤ B ↔ p < l.countP (fun y => decide (y ≤ B)) := by
  have := ord_iff (l := l) (t := B + 1) h
  have e : (fun y : Int => decide (y < B + 1)) = fun y => decide (y ≤ B) := funext fun y => decide_eq_decide.mpr (by omega)
  rw [e] at this
  omega
theorem low_place {l : List Int} {p : Nat} (h : p < l.length) : l.countP (fun y => decide (y < (isort l).getD p 0)) ≤ p := (ord_iff h).mp (Int.le_refl _)
theorem high_place {l : List Int} {p : Nat} (h : p < l.length) : p < l.countP (fun y => decide (y ≤ (isort l).getD p 0)) := (le_place h).mp (Int.le_refl _)

section
variable {l : List Int}
theorem low_idx (h : 0 < l.length) : (l.length - 1) / 2 < l.length := by omega
theorem high_idx (h : 0 < l.length) : l.length / 2 < l.length := by omega
theorem mul_one_le {a k : Int} (ha : 0 ≤ a) (hk : 1 ≤ k) : a ≤ a * k := by
  have := Int.mul_le_mul_of_nonneg_left hk ha
  rwa [Int.mul_one] at this
theorem low_le_high (h : 0 < l.length) : medLow l ≤ medHigh l := (sorted_isort l).le (by omega) (by rw [isort_length]; omega)
theorem low_left (h : 0 < l.length) {t : Int} (ht : t ≤ medLow l) : dst l (medLow l) + (medLow l - t) ≤ dst l t := by
  have h1 := dst_left ht l
  have h2 : l.countP (fun y => decide (y < medLow l)) ≤ (l.length - 1) / 2 := low_place (low_idx h)
  have h3 := mul_one_le (a := medLow l - t) (k := (l.length : Int) - 2 * (l.countP fun y => decide (y < medLow l))) (by omega) (by omega)
  omega
theorem low_right (h : 0 < l.length) {t : Int} (ht : medLow l ≤ t) : dst l (medLow l) ≤ dst l t := by
  have h1 := dst_right ht l
  have h2 : (l.length - 1) / 2 < l.countP (fun y => decide (y ≤ medLow l)) := high_place (low_idx h)
  have h3 := Int.mul_nonneg (a := t - medLow l) (b := 2 * (l.countP fun y => decide (y ≤ medLow l)) - (l.length : Int)) (by omega) (by omega)
  omega
theorem high_right (h : 0 < l.length) {t : Int} (ht : medHigh l ≤ t) : dst l (medHigh l) + (t - medHigh l) ≤ dst l t := by
  have h1 := dst_right ht l
  have h2 : l.length / 2 < l.countP (fun y => decide (y ≤ medHigh l)) := high_place (high_idx h)
  have h3 := mul_one_le (a := t - medHigh l) (k := 2 * (l.countP fun y => decide (y ≤ medHigh l)) - (l.length : Int)) (by omega) (by omega)
  omega
/-- between the two all is alike -/
theorem mid_same (h : 0 < l.length) {x : Int} (h1 : medLow l ≤ x) (h2 : x ≤ medHigh l) : dst l x = dst l (medLow l) := by
  have h3 := dst_left h1 l
  have h4 : l.countP (fun y => decide (y < medHigh l)) ≤ l.length / 2 := low_place (high_idx h)
  have h5 : l.countP (fun y => decide (y < x)) ≤ l.countP (fun y => decide (y < medHigh l)) := List.countP_mono_left fun y _ q => decide_eq_true (Int.lt_of_lt_of_le (of_decide_eq_true q) h2)
  have h6 := Int.mul_nonneg (a := x - medLow l) (b := (l.length : Int) - 2 * (l.countP fun y => decide (y < x))) (by omega) (by omega)
  have h7 := low_right h h1
  omega
/-- how far x lies from the stretch -/
noncomputable def far (l : List Int) (x : Int) : Int := max (max (medLow l - x) 0) (x - medHigh l)
theorem far_1 (l : List Int) (x : Int) : medLow l - x ≤ far l x := Int.le_trans (Int.le_max_left _ _) (Int.le_max_left _ _)
theorem far_2 (l : List Int) (x : Int) : 0 ≤ far l x := Int.le_trans (Int.le_max_right _ _) (Int.le_max_left _ _)
theorem far_3 (l : List Int) (x : Int) : x - medHigh l ≤ far l x := Int.le_max_right _ _
theorem far_lub {l : List Int} {x F : Int} (h1 : medLow l - x ≤ F) (h2 : 0 ≤ F) (h3 : x - medHigh l ≤ F) : far l x ≤ F := Int.max_le.mpr ⟨Int.max_le.mpr ⟨h1, h2⟩, h3⟩
theorem far_lo {l : List Int} {x : Int} (hh : medLow l ≤ medHigh l) (h : x ≤ medLow l) : far l x = medLow l - x := Int.le_antisymm (far_lub (Int.le_refl _) (Int.sub_nonneg.mpr h) (by omega)) (far_1 l x)
theorem far_hi {l : List Int} {x : Int} (hh : medLow l ≤ medHigh l) (h : medHigh l ≤ x) : far l x = x - medHigh l := Int.le_antisymm (far_lub (by omega) (Int.sub_nonneg.mpr h) (Int.le_refl _)) (far_3 l x)
theorem far_in {l : List Int} {x : Int} (h1 : medLow l ≤ x) (h2 : x ≤ medHigh l) : far l x = 0 := Int.le_antisymm (far_lub (Int.sub_nonpos_of_le h1) (Int.le_refl _) (Int.sub_nonpos_of_le h2)) (far_2 l x)
theorem abs_sub {x t : Int} (h : x ≤ t) : ((t - x).natAbs : Int) = t - x := Int.natAbs_of_nonneg (Int.sub_nonneg.mpr h)
theorem abs_com (x t : Int) : ((t - x).natAbs : Int) = ((x - t).natAbs : Int) := by rw [← Int.natAbs_neg, Int.neg_sub]
theorem far_le (h : 0 < l.length) (t : Int) : dst l (medLow l) + far l t ≤ dst l t := by
  have hh := low_le_high h
  by_cases h1 : t ≤ medLow l
  · rw [far_lo hh h1]; exact low_left h h1
  have h1 := Int.le_of_lt (Int.not_le.mp h1)
  by_cases h2 : medHigh l ≤ t
  · rw [far_hi hh h2, ← mid_same h hh (Int.le_refl _)]; exact high_right h h2
  · rw [far_in h1 (Int.le_of_lt (Int.not_le.mp h2)), Int.add_zero]; exact low_right h h1
/-- the point of the stretch that is nearest to x -/
theorem far_at (h : 0 < l.length) (x : Int) : ∃ t, dst l t = dst l (medLow l) ∧ ((t - x).natAbs : Int) = far l x := by
  have hh := low_le_high h
  by_cases h1 : x ≤ medLow l
  · exact ⟨medLow l, rfl, (abs_sub h1).trans (far_lo hh h1).symm⟩
  have h1 := Int.le_of_lt (Int.not_le.mp h1)
  by_cases h2 : medHigh l ≤ x
  · exact ⟨medHigh l, mid_same h hh (Int.le_refl _), (abs_com _ _).trans ((abs_sub h2).trans (far_hi hh h2).symm)⟩
  · have h2 := Int.le_of_lt (Int.not_le.mp h2)
    exact ⟨x, mid_same h h1 h2, by rw [Int.sub_self, far_in h1 h2]; rfl⟩
theorem far_tri (l : List Int) (x t : Int) : far l x ≤ far l t + ((t - x).natAbs : Int) := by
  have a1 := far_1 l t
  have a2 := far_2 l t
  have a3 := far_3 l t
  have b1 : t - x ≤ ((t - x).natAbs : Int) := Int.le_natAbs
  have b2 : x - t ≤ ((t - x).natAbs : Int) := by rw [abs_com]; exact Int.le_natAbs
  generalize ((t - x).natAbs : Int) = N at b1 b2 ⊢
  generalize far l t = F at a1 a2 a3 ⊢
  exact far_lub (by omega) (by omega) (by omega)
end
noncomputable def cost (l : List Int) : Int := if l = [] then 0 else dst l (medLow l)
theorem medLow_perm {l l' : List Int} (h : l.Perm l') : medLow l = medLow l' := by unfold medLow; rw [isort_congr h, h.length_eq]
theorem cost_perm {l l' : List Int} (h : l.Perm l') : cost l = cost l' := by
  unfold cost
  rw [medLow_perm h, dst_perm h]
  by_cases e : l = []
  · subst e; rw [List.nil_perm.mp h]
  · rw [if_neg e, if_neg fun e' => e (by rw [e'] at h; exact List.perm_nil.mp h)]
theorem cost_ne {l : List Int} (h : 0 < l.length) : cost l = dst l (medLow l) := if_neg fun e => by rw [e] at h; cases h
noncomputable def fary (l : List Int) (x : Int) : Int := if l = [] then 0 else far l x
theorem cost_cons (x : Int) (l : List Int) : cost (x :: l) = cost l + fary l x := by
  have h1 : 0 < (x :: l).length := Nat.succ_pos _
  rw [cost_ne h1]
  by_cases e : l = []
  · subst e
    have hm : medLow [x] = x := by unfold medLow; simp [isort, ins]
    rw [hm, dst_cons]
    simp [cost, fary, dst]
  · have h : 0 < l.length := List.length_pos_iff.mpr e
    rw [cost_ne h, fary, if_neg e]
    obtain ⟨t, t1, t2⟩ := far_at h x
    have a1 : dst (x :: l) (medLow (x :: l)) ≤ dst (x :: l) t := by
      by_cases q : t ≤ medLow (x :: l)
      · have := low_left h1 q; omega
      · exact low_right h1 (Int.le_of_lt (Int.not_le.mp q))
    rw [dst_cons x l t, t1, t2] at a1
    have a2 := far_le h (medLow (x :: l))
    have a3 := far_tri l x (medLow (x :: l))
    have a4 := dst_cons x l (medLow (x :: l))
    omega
end Mine

end
section -- M05b
namespace Mine

noncomputable def uqc (row : List Int) (k : Nat) : Bool := k == 0 || row.getD (k - 1) 0 != row.getD k 0
noncomputable def uq (row : List Int) (i : Nat) : List Int := ((List.range i).filter (uqc row)).map fun k => row.getD k 0
theorem uq_succ (row : List Int) (i : Nat) : uq row (i + 1) = uq row i ++ (if uqc row i = true then [row.getD i 0] else []) := by
  unfold uq
  rw [List.range_succ, List.filter_append, List.map_append, List.filter_cons]
  cases uqc row i <;> rfl
theorem uq_ok {row : List Int} (hs : Sorted row) : ∀ i, i ≤ row.length → (∀ y, y ∈ uq row i ↔ y ∈ row.take i) ∧ (uq row i).Pairwise (· < ·)
  | 0, _ => ⟨fun y => by simp [uq], .nil⟩
  | i + 1, h => by
    obtain ⟨h1, h2⟩ := uq_ok hs i (Nat.le_of_succ_le h)
    rw [uq_succ, take_succ h]
    by_cases hc : uqc row i = true
    · rw [if_pos hc]
      refine ⟨fun y => by rw [List.mem_append, List.mem_append, h1], List.pairwise_append.mpr ⟨h2, List.pairwise_singleton _ _, fun a ha b hb => ?_⟩⟩
      rw [List.mem_singleton.mp hb]
      have hm := (h1 a).mp ha
      obtain ⟨j, hj, e⟩ := List.mem_iff_getElem.mp hm
      rw [List.length_take] at hj
      have ej : a = row.getD j 0 := by rw [← e, List.getElem_take, List.getD_eq_getElem?_getD, List.getElem?_eq_getElem (by omega)]; rfl
      have hi0 : i ≠ 0 := by omega
      have hne : row.getD (i - 1) 0 ≠ row.getD i 0 := by
        unfold uqc at hc
        rw [Bool.or_eq_true, beq_iff_eq, bne_iff_ne] at hc
        exact hc.resolve_left hi0
      have a1 := hs.le (i := j) (j := i - 1) (by omega) (by omega)
      have a2 := hs.le (i := i - 1) (j := i) (by omega) (by omega)
      omega
    · rw [if_neg hc, List.append_nil]
      refine ⟨fun y => ?_, h2⟩
      rw [h1, List.mem_append]
      refine ⟨.inl, fun q => q.elim id fun q => ?_⟩
      rw [List.mem_singleton.mp q]
      have hc' : i ≠ 0 ∧ row.getD (i - 1) 0 = row.getD i 0 := by
        unfold uqc at hc
        rw [Bool.or_eq_true, beq_iff_eq, bne_iff_ne] at hc
        exact ⟨fun e => hc (.inl e), Classical.byContradiction fun e => hc (.inr e)⟩
      rw [← hc'.2]
      have hlt : i - 1 < (row.take i).length := by rw [List.length_take]; omega
      have : row.getD (i - 1) 0 = (row.take i)[i - 1] := by rw [List.getElem_take, List.getD_eq_getElem?_getD, List.getElem?_eq_getElem (by omega)]; rfl
      rw [this]; exact List.getElem_mem hlt
theorem countP_ins {x : Int} {f : List Int} (hx : x ∉ f) : ∀ row : List Int, row.countP (fun y => decide (y ∈ x :: f)) = row.count x + row.countP (fun y => decide (y ∈ f))
  | [] => rfl
  | z :: row => by
    rw [List.countP_cons, List.countP_cons, List.count_cons, countP_ins hx row]
    by_cases e : z = x
    · subst e; simp [hx]; omega
    · simp [e]; omega
theorem count_sum (row : List Int) : ∀ f : List Int, f.Nodup → (f.map fun x => row.count x).sum = row.countP (fun y => decide (y ∈ f))
  | [], _ => by simp
  | x :: f, h => by
    obtain ⟨h1, h2⟩ := List.nodup_cons.mp h
    rw [List.map_cons, List.sum_cons, count_sum row f h2, countP_ins h1]
end Mine

end
section -- M05c
namespace Mine
/-- the sums of how often, up to each -/
noncomputable def cum (row e : List Int) (j : Nat) : Nat := ((e.take j).map fun x => row.count x).sum
noncomputable def cums (row e : List Int) (j : Nat) : List Int := (List.range j).map fun i => ((cum row e (i + 1) : Nat) : Int)
theorem cum_succ {row e : List Int} {j : Nat} (h : j < e.length) : cum row e (j + 1) = cum row e j + row.count (e.getD j 0) := by
  unfold cum; rw [take_succ h, List.map_append, List.sum_append]; simp
structure Each (row e : List Int) : Prop where
  mem : ∀ y, y ∈ e ↔ y ∈ row
  lt : e.Pairwise (· < ·)
theorem Each.of {row : List Int} (hs : Sorted row) : Each row (uq row row.length) := by
  have := uq_ok hs row.length (Nat.le_refl _)
  rw [List.take_length] at this
  exact ⟨this.1, this.2⟩
theorem Each.nodup {row e : List Int} (h : Each row e) : e.Nodup := h.lt.imp fun q => Int.ne_of_lt q
theorem Each.mono {row e : List Int} (h : Each row e) {i j : Nat} (hij : i < j) (hj : j < e.length) : e.getD i 0 < e.getD j 0 := by
  have := List.pairwise_iff_getElem.mp h.lt i j (by omega) hj hij
  simpa [List.getD_eq_getElem?_getD, List.getElem?_eq_getElem hj, List.getElem?_eq_getElem (show i < e.length by omega)] using this
theorem Each.cum {row e : List Int} (h : Each row e) {j : Nat} (hj : j < e.length) : cum row e (j + 1) = row.countP fun y => decide (y ≤ e.getD j 0) := by
  unfold Mine.cum
  rw [count_sum row _ (h.nodup.sublist (List.take_sublist _ _))]
  refine List.countP_congr fun y hy => ?_
  rw [decide_eq_true_eq, decide_eq_true_eq]
  obtain ⟨i, hi, e1⟩ := List.mem_iff_getElem.mp ((h.mem y).mpr hy)
  have ei : y = e.getD i 0 := by rw [← e1, List.getD_eq_getElem?_getD, List.getElem?_eq_getElem hi]; rfl
  constructor
  · intro q
    obtain ⟨k, hk, e2⟩ := List.mem_iff_getElem.mp q
    rw [List.length_take] at hk
    have ek : y = e.getD k 0 := by rw [← e2, List.getElem_take, List.getD_eq_getElem?_getD, List.getElem?_eq_getElem (by omega)]; rfl
    rw [ek]
    rcases Nat.lt_or_eq_of_le (show k ≤ j by omega) with q | q
    · exact Int.le_of_lt (h.mono q hj)
    · rw [q]; exact Int.le_refl _
  · intro q
    have hij : i ≤ j := Nat.not_lt.mp fun q' => by have := h.mono q' hi; omega
    rw [← e1]
    exact List.mem_take_iff_getElem.mpr ⟨i, by omega, rfl⟩
theorem cums_len (row e : List Int) (j : Nat) : (cums row e j).length = j := by unfold cums; rw [List.length_map, List.length_range]
theorem cums_get {row e : List Int} {j i : Nat} (h : i < j) : (cums row e j).getD i 0 = (cum row e (i + 1) : Nat) := by
  unfold cums; rw [List.getD_eq_getElem?_getD, List.getElem?_map, List.getElem?_range h]; rfl
end Mine

end
section -- M05d
namespace Mine
/-- the first of the unlike numbers up to which more than p lie is the one at place p -/
theorem at_place {l e : List Int} {p j : Nat} (h : Each l e) (hp : p < l.length) (hj : ∀ i, i < j → i < e.length → cum l e (i + 1) ≤ p) (hj2 : j < e.length → p < cum l e (j + 1)) (hle : j ≤ e.length) : j < e.length ∧ (isort l).getD p 0 = e.getD j 0 := by
  have hm : (isort l).getD p 0 ∈ e := (h.mem _).mpr (mem_isort.mp (getD_mem (by rw [isort_length]; exact hp)))
  obtain ⟨k, hk, e1⟩ := List.mem_iff_getElem.mp hm
  have ek : (isort l).getD p 0 = e.getD k 0 := by rw [← e1, List.getD_eq_getElem?_getD, List.getElem?_eq_getElem hk]; rfl
  have a1 : p < cum l e (k + 1) := by rw [h.cum hk, ← ek]; exact high_place hp
  have hjk : j ≤ k := Nat.not_lt.mp fun q => by have := hj k q hk; omega
  have hje : j < e.length := Nat.lt_of_le_of_lt hjk hk
  refine ⟨hje, ?_⟩
  have a2 := hj2 hje
  rw [h.cum hje, ← le_place hp] at a2
  rcases Nat.lt_or_eq_of_le hjk with q | q
  · have := h.mono q hk; omega
  · rw [q]; exact ek
theorem low_all {l : List Int} (h : 0 < l.length) (t : Int) : dst l (medLow l) ≤ dst l t := by
  by_cases q : t ≤ medLow l
  · have := low_left h q; omega
  · exact low_right h (Int.le_of_lt (Int.not_le.mp q))
theorem least_cost {l e : List Int} (h : Each l e) (h0 : 0 < l.length) : minL (e.map fun x => dst l x) = cost l := by
  rw [cost_ne h0]
  refine minL_eq (List.mem_map.mpr ⟨medLow l, (h.mem _).mpr (mem_isort.mp (getD_mem ?_)), rfl⟩) fun x hx => ?_
  · rw [isort_length]; exact low_idx h0
  · obtain ⟨y, _, rfl⟩ := List.mem_map.mp hx
    exact low_all h0 y
theorem cum_all {l e : List Int} (h : Each l e) : cum l e e.length = l.length := by
  unfold cum
  rw [List.take_length, count_sum l e h.nodup]
  exact List.countP_eq_length.mpr fun y hy => decide_eq_true ((h.mem y).mpr hy)
theorem Each.congr {l l' e : List Int} (h : Each l e) (p : l.Perm l') : Each l' e := ⟨fun y => (h.mem y).trans p.mem_iff, h.lt⟩
end Mine

end
section -- M05e
namespace Mine
theorem cum_step (row e : List Int) (i : Nat) : cum row e i ≤ cum row e (i + 1) := by
  by_cases h : i < e.length
  · rw [cum_succ h]; exact Nat.le_add_right _ _
  · unfold cum; rw [List.take_of_length_le (Nat.not_lt.mp h), List.take_of_length_le (Nat.le_succ_of_le (Nat.not_lt.mp h))]; exact Nat.le_refl _
theorem cum_mono (row e : List Int) (i : Nat) : ∀ k, cum row e i ≤ cum row e (i + k)
  | 0 => Nat.le_refl _
  | k + 1 => Nat.le_trans (cum_mono row e i k) (cum_step row e (i + k))
theorem cums_sorted (row e : List Int) (j : Nat) : Sorted (cums row e j) := by
  unfold Sorted cums
  rw [List.pairwise_map]
  refine List.pairwise_lt_range.imp fun {a b} h => Int.ofNat_le.mpr ?_
  have := cum_mono row e (a + 1) (b - a)
  rwa [show a + 1 + (b - a) = b + 1 by omega] at this
theorem cums_succ (row e : List Int) (j : Nat) : ivs (cums row e j) ++ [.int (cum row e (j + 1) : Nat)] = ivs (cums row e (j + 1)) := by
  unfold cums; rw [List.range_succ, List.map_append, ← ivs_append]; rfl
theorem told5 {row e : List Int} (h : Each row e) (hs : Sorted row) {p : Nat} (hp : p < row.length) {j : Nat} (hj : (cums row e e.length).countP (fun y => decide (y < ((p : Nat) : Int) + 1)) = j) : j < e.length ∧ row.getD p 0 = e.getD j 0 := by
  have hl := cums_len row e e.length
  have key : ∀ i, i < e.length → (((p : Nat) : Int) + 1 ≤ (cum row e (i + 1) : Nat) ↔ j ≤ i) := fun i hi => by
    have := ge_iff (t := ((p : Nat) : Int) + 1) (cums_sorted row e e.length) (show i < (cums row e e.length).length by rw [hl]; exact hi)
    rw [hj, cums_get hi] at this
    exact this
  have := at_place (l := row) (p := p) (j := j) h hp (fun i hi hie => by have := (key i hie); omega) (fun hje => by have := (key j hje).mpr (Nat.le_refl _); omega) (by rw [← hl, ← hj]; exact List.countP_le_length)
  rwa [isort_of_sorted hs] at this
theorem countP_le_lt (s : List Int) (p : Int) : s.countP (fun y => decide (y ≤ p)) = s.countP (fun y => decide (y < p + 1)) := by
  congr 1; exact funext fun y => decide_eq_decide.mpr (by omega)
end Mine

end
section -- L05a
namespace Mine
variable {W : Wd} {n : Nat} {σ : St} {cs : List Addr}

theorem eq_nil {a d : Addr} {l : List Int} {Q : Bool → St → Prop} (ga : σ a = some (.lst (ivs l))) (gd : σ d = some (.lst [])) (h : a ≠ d) (q : Q (decide (l = [])) σ) : cmpW .Eq (.ref a) (.ref d) σ Q := eq_ints (ys := []) ga gd rfl rfl h q
theorem ne_nil {a d : Addr} {l : List Int} {Q : Bool → St → Prop} (ga : σ a = some (.lst (ivs l))) (gd : σ d = some (.lst [])) (h : a ≠ d) (q : Q (!decide (l = [])) σ) : cmpW .NotEq (.ref a) (.ref d) σ Q := ne_ints (ys := []) ga gd rfl rfl h q
theorem type_int {x : Int} {Q : V → St → Prop} (q : Q (.typ "int") σ) : biW .type [.int x] σ Q := q
theorem dist_ok {P : Params} (X : Txt W (K05 P) tb05) {a : Addr} {l : List Int} {x : Int} {Q : V → St → Prop} (ga : σ a = some (.lst (ivs l))) (q : ∀ σ', Ext σ σ' → Q (.int (fary l x)) σ') : CallOK W (n + 2) (.ref 82) [.ref a, .int x] [] [] Q σ := by
  obtain ⟨cs, F⟩ := fn05__law_distance X
  refine F [_, _] (n + 1) Q σ rfl ?_
  unfold bd05_82
  simp only [List.cons_append, List.nil_append, undefs]
  refine seq_ite ?_
  simp only [t_cmp, x_loc, x_lst, l_nil, nth, ne_eq, reduceCtorEq, not_false_eq_true, true_and]
  refine ⟨Nat.zero_le _, alW_of fun d σ1 m1 e1 f1 => ?_⟩
  refine eq_nil (e1 _ _ ga) f1 (ne_new ga m1) ?_
  by_cases h : l = []
  · rw [decide_eq_true h, if_pos rfl]
    refine seq_seq (seq_ret ?_)
    rw [x_con]
    have e : fary l x = 0 := if_pos h
    rw [e] at q
    exact q _ e1
  rw [decide_eq_false h, if_neg nofun]
  refine seq_skip (seq_set ?_)
  simp only [x_call, x_con, x_loc, l_cons, l_nil, nth, ne_eq, reduceCtorEq, not_false_eq_true, true_and]
  refine median_low_ok (fn05_median_low X) (e1 _ _ ga) rfl h fun σ2 e2 => ?_
  simp only [stW, setN]
  refine seq_set ?_
  simp only [x_call, x_con, x_loc, l_cons, l_nil, nth, ne_eq, reduceCtorEq, not_false_eq_true, true_and]
  refine median_high_ok (fn05_median_high X) (e2 _ _ (e1 _ _ ga)) rfl h fun σ3 e3 => ?_
  simp only [stW, setN]
  refine seq_ite ?_
  simp only [t_or, t_cmp, x_bcall, x_con, x_loc, l_cons, l_nil, nth, ne_eq, reduceCtorEq, not_false_eq_true, true_and]
  refine type_int ?_
  rw [c_ty, bne_self_eq_false, if_neg nofun]
  refine type_int ?_
  rw [c_ty, bne_self_eq_false, if_neg nofun]
  refine seq_skip (seq_ret ?_)
  simp only [x_bcall, x_bin, x_con, x_loc, l_cons, l_nil, nth, ne_eq, reduceCtorEq, not_false_eq_true, true_and, b_sub, f_max3]
  have e : fary l x = far l x := if_neg h
  rw [e] at q
  exact q _ ((e1.trans e2).trans e3)
end Mine

end
section -- L05b
namespace Mine
variable {W : Wd} {n : Nat} {σ : St} {cs : List Addr}

noncomputable def refB : S := .seq (.tryx (.exp (.call (.loc 1) (.cons (.lst .nil) .nil) [] .nil)) (.loc 1) (.cons (.lst .nil) .nil) 24 (.appStr 2 0)) .skip
theorem ref_one {P : Params} (X : Txt W (K05 P) tb05) {fa d : Addr} {xs : List V} {v1 : V} {tl : List V} {Q : Fl → St → List V → Prop}
    (h : ∀ a σ' (R : St → Prop), σ' a = some (.lst (ivs [])) → (∀ σ'', Ext σ' σ'' → R σ'') → CallRz W (n + 1) (.ref fa) [.ref a] 24 "no median for empty data" R σ') (gd : σ d = some (.lst xs)) (hl : xs.length + 1 ≤ lim)
    (q : ∀ σ', Upd d σ σ' → σ' d = some (.lst (xs ++ [.str "no median for empty data"])) → Q .next σ' (.ref d :: .ref fa :: .undef :: tl)) : sW W (n + 1) refB cs (.ref d :: .ref fa :: v1 :: tl) σ Q := by
  unfold refB
  rw [s_seq, s_try]
  refine .inr ⟨excC_of X.inH (ex05 P), ?_⟩
  simp only [x_loc, x_lst, l_cons, l_nil, nth, ne_eq, reduceCtorEq, not_false_eq_true, true_and]
  refine ⟨Nat.zero_le _, alW_of fun a σ1 m1 e1 f1 => ⟨_, h a σ1 _ f1 fun σ2 e2 => ?_⟩⟩
  have g2 := e2 _ _ (e1 _ _ gd)
  show _ ∧ mlistW _ _ _
  refine ⟨nofun, mlist_of g2 ⟨hl, ?_⟩⟩
  exact q _ (((e1.trans e2).upd d).trans (Upd.set _ _ _)) (St.set_same _ _ _)
theorem bd05_89_eq : bd05_89 = .seq (.set (.l 0) (.lst .nil))
 (.seq (.for_ (.one (.l 1)) (.lst (.cons (.con (.ref 41)) (.cons (.con (.ref 34)) (.cons (.con (.ref 48)) .nil)))) refB)
 (.seq (.ret (.cmp .Eq (.loc 0) (.bin .Mult (.lst (.cons (.con (.str "no median for empty data")) .nil)) (.con (.int (3)))))) .skip)) := rfl
theorem Upd.ext {d : Addr} {σ' : St} (h : σ d = none) (u : Upd d σ σ') : Ext σ σ' := fun a o e => u a o (ne_new e h) e
theorem repS_ok {a : Addr} {xs : List V} {k : Nat} {Q : V → St → Prop} (ga : σ a = some (.lst xs)) (hk : k ≤ lim) (hl : xs.length * k ≤ lim) (q : ∀ d σ', σ d = none → Ext σ σ' → σ' d = some (.lst (List.replicate k xs).flatten) → Q (.ref d) σ') : binW .Mult (.ref a) (.int (k : Int)) σ Q := by
  rw [b_rep]
  refine mlist_of ga ⟨Int.natCast_nonneg _, Int.ofNat_le.mpr hk, ?_⟩
  rw [Int.toNat_natCast]
  exact ⟨hl, alW_of q⟩
theorem refused_ok {P : Params} (X : Txt W (K05 P) tb05) {Q : V → St → Prop} (q : ∀ σ', Ext σ σ' → Q (.bool true) σ') : CallOK W (n + 2) (.ref 89) [] [] [] Q σ := by
  obtain ⟨cs, F⟩ := fn05__law_refused X
  have hC : ExcC W.H 24 := excC_of X.inH (ex05 P)
  refine F [] (n + 1) Q σ rfl ?_
  rw [bd05_89_eq]
  simp only [List.cons_append, List.nil_append, undefs]
  refine seq_set ?_
  simp only [x_lst, l_nil]
  refine ⟨Nat.zero_le _, alW_of fun d σ1 m1 e1 f1 => ?_⟩
  simp only [stW, setN]
  refine seq_for ?_
  simp only [x_lst, l_nil, l_cons, x_con]
  refine ⟨by unfold lim; decide, alW_of fun d2 σ2 m2 e2 f2 => ?_⟩
  have hd : d2 ≠ d := (ne_new f1 m2).symm
  refine iter_lst f2 ?_
  refine forW_inv (k := 0) (fun i fr σ' => ∃ v1, fr = [.ref d, v1, .undef, .undef, .undef, .undef, .undef, .undef] ∧ Upd d σ2 σ' ∧ σ' d = some (.lst (List.replicate i (.str "no median for empty data")))) (fun _ _ _ => False) ⟨_, rfl, (Ext.refl _).upd d, e2 _ _ f1⟩ (fun i fr σ' hi hJ => ?_) (fun fr σ' hJ => ?_) (fun _ _ _ h => h.elim)
  · obtain ⟨v1, rfl, U, g⟩ := hJ
    rw [Nat.zero_add] at g ⊢
    refine ⟨U _ _ hd f2, fun Q' hQ' _ => ?_⟩
    have go : ∀ {fa : Addr}, (∀ a σ' (R : St → Prop), σ' a = some (.lst (ivs [])) → (∀ σ'', Ext σ' σ'' → R σ'') → CallRz W (n + 1) (.ref fa) [.ref a] 24 "no median for empty data" R σ') → tgW (.one (.l 1)) (.ref fa) cs [.ref d, v1, .undef, .undef, .undef, .undef, .undef, .undef] σ' fun fr1 σ2 => sW W (n + 1) refB cs fr1 σ2 Q' := fun h => by
      simp only [tgW, stW, setN]
      refine ref_one X h g (by rw [List.length_replicate]; have : i < 3 := hi; unfold lim; omega) fun σ3 u3 g3 => hQ' _ _ ⟨_, rfl, U.trans u3, ?_⟩
      rw [g3, List.replicate_succ']
    match i, hi with
    | 0, _ => exact go fun a σ' R g h => ml_rz (fr05_median_low X) hC g h
    | 1, _ => exact go fun a σ' R g h => md_rz (fr05_median X) hC g h
    | 2, _ => exact go fun a σ' R g h => mh_rz (fr05_median_high X) hC g h
  obtain ⟨v1, rfl, U, g⟩ := hJ
  refine ⟨U _ _ hd f2, seq_ret ?_⟩
  simp only [x_cmp, x_loc, x_bin, x_lst, l_cons, l_nil, x_con, nth, ne_eq, reduceCtorEq, not_false_eq_true, true_and]
  refine ⟨by unfold lim; decide, alW_of fun d3 σ3 m3 e3 f3 => ?_⟩
  refine repS_ok (k := 3) f3 (by unfold lim; decide) (by unfold lim; decide) fun d4 σ4 m4 e4 f4 => ?_
  have g4 := e4 _ _ (e3 _ _ g)
  have hne : d ≠ d4 := ne_new (e3 _ _ g) m4
  show optP (eqB σ4 3 (.ref d) (.ref d4)) _
  have : eqB σ4 3 (.ref d) (.ref d4) = some true := by
    show (if d = d4 then none else ((σ4 d).bind O.litems).bind fun xs => ((σ4 d4).bind O.litems).bind fun ys => if xs.length = ys.length then eqL (eqB σ4 2) xs ys else some false) = _
    rw [if_neg hne, g4, f4]
    rfl
  rw [this]
  refine q _ (Ext.trans (Upd.ext m1 ?_) (e3.trans e4))
  exact ((e1.trans e2).upd d).trans U
end Mine

end
section -- L05c
namespace Mine
variable {W : Wd} {n : Nat} {σ : St} {cs : List Addr}

noncomputable def eachX : X := .comp 3 [24, 24, 3] (.bcall .range (.cons (.bcall .len (.cons (.cel 3) .nil)) .nil)) 1 (.or (.cmp .Eq (.loc 1) (.con (.int (0)))) (.cmp .NotEq (.sub (.cel 2) (.bin .Sub (.loc 1) (.con (.int (1))))) (.sub (.cel 2) (.loc 1)))) (.sub (.cel 2) (.loc 1))
theorem each_ok {dr : Addr} {row : List Int} {fr : List V} {Q : V → St → Prop} (gc : σ (nthA cs 3) = some (.cell (.ref dr))) (gr : σ dr = some (.lst (ivs row))) (hl : row.length ≤ lim)
    (q : ∀ d σ', σ d = none → Ext σ σ' → σ' d = some (.lst (ivs (uq row row.length))) → Q (.ref d) σ') : xW W n eachX cs fr σ Q := by
  unfold eachX
  rw [x_comp, x_bcall, l_cons, x_bcall, l_cons]
  refine cel_of gc nofun ?_
  rw [l_nil]
  refine len_of gr rfl ?_
  rw [ivs_length, l_nil]
  refine range1_of (small_nat hl) fun dn σ1 m1 e1 f1 => ?_
  refine iter_rng f1 ⟨by decide, by decide⟩ (small_nat hl) (.inl rfl) ⟨by rw [len_range]; exact hl, ?_⟩
  refine compW_inv (k := 0) (fun i acc σ' => σ' = σ1 ∧ acc = ivs (uq row i)) ⟨rfl, rfl⟩ (fun i acc σ' hi hJ => ?_) (fun acc σ' hJ => ?_)
  · obtain ⟨rfl, rfl⟩ := hJ
    rw [len_range] at hi
    rw [Nat.zero_add]
    refine ⟨trivial, fun Q' hQ' => ?_⟩
    rw [nth_map_range hi]
    have gc1 := e1 _ _ gc
    have gr1 := e1 _ _ gr
    simp only [undefs, setN, List.map]
    have fin : uqc row i = true → xW W n (.sub (.cel 2) (.loc 1)) [nthA cs 24, nthA cs 24, nthA cs 3] [.undef, .int (i : Nat), .undef] σ' fun y σ4 => Q' (some y) σ4 := fun hc => by
      rw [x_sub]
      refine cel_of (i := 2) gc1 nofun ?_
      rw [x_loc]
      refine ⟨nofun, sub_of i rfl gr1 rfl (by rw [ivs_length]; exact hi) ?_⟩
      rw [nth_ivs hi]
      refine hQ' _ _ ⟨rfl, ?_⟩
      rw [uq_succ, if_pos hc, ← ivs_append]; rfl
    have fin0 : uqc row i = false → Q' none σ' := fun hc => hQ' _ _ ⟨rfl, by rw [uq_succ, hc, if_neg nofun]; exact (List.append_nil _).trans (congrArg ivs (List.append_nil _).symm)⟩
    rw [t_or, t_cmp, x_loc]
    refine ⟨nofun, ?_⟩
    rw [x_con]
    simp only [nth, c_eq]
    by_cases h0 : i = 0
    · subst h0
      exact fin rfl
    · have e0 : (((i : Nat) : Int) == 0) = false := beq_eq_false_iff_ne.mpr (by omega)
      rw [e0, if_neg nofun, t_cmp, x_sub]
      refine cel_of (i := 2) gc1 nofun ?_
      rw [x_bin, x_loc]
      refine ⟨nofun, ?_⟩
      rw [x_con]
      simp only [nth, b_sub]
      refine sub_of (i - 1) (by omega) gr1 rfl (by rw [ivs_length]; omega) ?_
      rw [nth_ivs (by omega), x_sub]
      refine cel_of (i := 2) gc1 nofun ?_
      rw [x_loc]
      refine ⟨nofun, sub_of i rfl gr1 rfl (by rw [ivs_length]; exact hi) ?_⟩
      rw [nth_ivs hi, c_ne]
      have e1 : uqc row i = (row.getD (i - 1) 0 != row.getD i 0) := by
        unfold uqc; rw [beq_eq_false_iff_ne.mpr h0, Bool.false_or]
      rw [← e1]
      by_cases hc : uqc row i = true
      · rw [if_pos hc]; exact fin hc
      · rw [if_neg hc]; exact fin0 (Bool.eq_false_iff.mpr hc)
  obtain ⟨rfl, rfl⟩ := hJ
  rw [len_range, Nat.zero_add]
  exact ⟨trivial, alW_of fun d σ2 m2 e2 f2 => q d σ2 (e1.none m2) (e1.trans e2) f2⟩

noncomputable def sumB : S := .seq (.set (.l 7) (.bin .Add (.loc 7) (.meth .count (.cel 3) (.cons (.loc 8) .nil)))) (.seq (.exp (.meth .append (.loc 6) (.cons (.loc 7) .nil))) .skip)
theorem sums_ok {dr de ds : Addr} {row e : List Int} {v0 v1 v2 v3 v4 v8 : V} {tl : List V} {rest : S} {Q : Fl → St → List V → Prop} (gc : σ (nthA cs 3) = some (.cell (.ref dr))) (gr : σ dr = some (.lst (ivs row))) (ge : σ de = some (.lst (ivs e))) (gs : σ ds = some (.lst []))
    (h1 : dr ≠ ds) (h2 : de ≠ ds) (hl : e.length ≤ lim) (q : ∀ σ' v8, Upd ds σ σ' → σ' ds = some (.lst (ivs (cums row e e.length))) → sW W n rest cs (v0 :: v1 :: v2 :: v3 :: v4 :: .ref de :: .ref ds :: .int (cum row e e.length : Nat) :: v8 :: tl) σ' Q) :
    sW W n (.seq (.for_ (.one (.l 8)) (.loc 5) sumB) rest) cs (v0 :: v1 :: v2 :: v3 :: v4 :: .ref de :: .ref ds :: .int 0 :: v8 :: tl) σ Q := by
  refine seq_for ?_
  rw [x_loc]
  refine ⟨nofun, iter_lst ge ?_⟩
  have hcs : nthA cs 3 ≠ ds := fun x => by rw [x, gs] at gc; cases gc
  refine forW_inv (k := 0) (fun i fr σ' => ∃ v8, fr = v0 :: v1 :: v2 :: v3 :: v4 :: .ref de :: .ref ds :: .int (cum row e i : Nat) :: v8 :: tl ∧ Upd ds σ σ' ∧ σ' ds = some (.lst (ivs (cums row e i)))) (fun _ _ _ => False) ⟨_, rfl, (Ext.refl _).upd _, gs⟩ (fun i fr σ' hi hJ => ?_) (fun fr σ' hJ => ?_) (fun _ _ _ h => h.elim)
  · obtain ⟨v8, rfl, U, g⟩ := hJ
    rw [Nat.zero_add] at g ⊢
    rw [ivs_length] at hi
    refine ⟨U _ _ h2 ge, fun Q' hQ' _ => ?_⟩
    rw [nth_ivs hi]
    simp only [tgW, stW, setN]
    refine seq_set ?_
    rw [x_bin, x_loc]
    refine ⟨nofun, ?_⟩
    rw [x_meth]
    have gr1 := U _ _ h1 gr
    refine cel_of (U _ _ hcs gc) nofun (mlist_of gr1 ?_)
    rw [l_cons, x_loc]
    refine ⟨nofun, ?_⟩
    rw [l_nil]
    simp only [nth, m_count]
    refine mlist_of gr1 ?_
    rw [asInts_ivs, optP_some, b_add]
    simp only [stW, setN]
    have e1 : (((cum row e i : Nat) : Int) + ((row.count (e.getD i 0) : Nat) : Int)) = ((cum row e (i + 1) : Nat) : Int) := by rw [cum_succ hi]; exact (Int.natCast_add _ _).symm
    rw [e1]
    refine seq_exp ?_
    rw [x_meth, x_loc]
    refine ⟨nofun, mlist_of g ?_⟩
    rw [l_cons, x_loc]
    refine ⟨nofun, ?_⟩
    rw [l_nil]
    refine append_of g (by rw [ivs_length, cums_len]; omega) ?_
    simp only [nth]
    rw [cums_succ]
    exact hQ' _ _ ⟨_, rfl, U.trans (Upd.set _ _ _), St.set_same _ _ _⟩
  obtain ⟨v8, rfl, U, g⟩ := hJ
  rw [ivs_length, Nat.zero_add] at g ⊢
  exact ⟨U _ _ h2 ge, q σ' v8 U g⟩

noncomputable def minX : X := .bcall .min (.cons (.compc 4 [24, 8, 24, 3] (.loc 5) 1 (.bcall .sum (.cons (.comp 4 [0, 4, 4, 1] (.cel 3) 1 (.con (.bool true)) (.bcall .abs (.cons (.bin .Sub (.cel 3) (.loc 1)) .nil))) .nil))) .nil)
theorem take_map {l : List Int} {i : Nat} (f : Int → Int) (h : i < l.length) : ivs ((l.take i).map f) ++ [.int (f (l.getD i 0))] = ivs ((l.take (i + 1)).map f) := by
  rw [take_succ h, List.map_append, ← ivs_append]; rfl
theorem sum_of {a : Addr} {o : O} {xs : List Int} {Q : V → St → Prop} (h : σ a = some o) (hi : o.litems = some (ivs xs)) (q : Q (.int xs.sum) σ) : biW .sum [.ref a] σ Q := by
  rw [f_sum]; unfold lintsW litemsW refW
  simp only [optP_some, h, hi, asInts_ivs]
  exact q
theorem minX_ok {dr de : Addr} {row e : List Int} {v0 v1 v2 v3 v4 : V} {tl : List V} {Q : V → St → Prop} (gc : σ (nthA cs 3) = some (.cell (.ref dr))) (gr : σ dr = some (.lst (ivs row))) (ge : σ de = some (.lst (ivs e))) (he : e ≠ [])
    (hl : row.length ≤ lim) (hl2 : e.length ≤ lim) (q : ∀ σ', Ext σ σ' → Q (.int (minL (e.map fun x => dst row x))) σ') : xW W n minX cs (v0 :: v1 :: v2 :: v3 :: v4 :: .ref de :: tl) σ Q := by
  unfold minX
  rw [x_bcall, l_cons, x_compc, x_loc]
  refine ⟨nofun, iter_lst ge ⟨by rw [ivs_length]; exact hl2, fun a na => ?_⟩⟩
  refine compW_inv (k := 0) (fun i acc σ' => Ext σ σ' ∧ (∃ u, σ' a = some (.cell u)) ∧ acc = ivs ((e.take i).map fun x => dst row x)) ⟨(Ext.refl _).put na, ⟨_, St.set_same _ _ _⟩, rfl⟩ (fun i acc σ' hi hJ => ?_) (fun acc σ' hJ => ?_)
  · obtain ⟨E, hu, rfl⟩ := hJ
    rw [Nat.zero_add]
    rw [ivs_length] at hi
    refine ⟨E _ _ ge, fun Q' hQ' => ⟨hu, ?_⟩⟩
    rw [nth_ivs hi]
    have E1 : Ext σ (σ'.set a (.cell (.int (e.getD i 0)))) := E.put na
    have ga := St.set_same σ' a (.cell (.int (e.getD i 0)))
    generalize σ'.set a (.cell (.int (e.getD i 0))) = σ1 at E1 ga
    rw [x_bcall, l_cons, x_comp]
    refine cel_of (i := 3) (E1 _ _ gc) nofun ?_
    have gr1 := E1 _ _ gr
    refine iter_lst gr1 ⟨by rw [ivs_length]; exact hl, ?_⟩
    refine compW_inv (k := 0) (fun j acc σ' => σ' = σ1 ∧ acc = ivs ((row.take j).map fun y => ((e.getD i 0 - y).natAbs : Int))) ⟨rfl, rfl⟩ (fun j acc σ' hj hJ => ?_) (fun acc σ' hJ => ?_)
    · obtain ⟨rfl, rfl⟩ := hJ
      rw [Nat.zero_add]
      rw [ivs_length] at hj
      refine ⟨gr1, fun Q2 hQ2 => ?_⟩
      rw [nth_ivs hj, t_con]
      show xW _ _ _ _ _ _ _
      rw [x_bcall, l_cons, x_bin]
      refine cel_of (i := 3) ga nofun ?_
      rw [x_loc]
      refine ⟨nofun, ?_⟩
      simp only [undefs, setN, nth, b_sub, l_nil, f_abs]
      exact hQ2 _ _ ⟨rfl, take_map (fun y => ((e.getD i 0 - y).natAbs : Int)) hj⟩
    obtain ⟨rfl, rfl⟩ := hJ
    rw [ivs_length, Nat.zero_add, List.take_length]
    refine ⟨gr1, alW_of fun d2 σ2 m2 e2 f2 => ?_⟩
    rw [l_nil]
    refine sum_of f2 rfl ?_
    exact hQ' _ _ ⟨E1.trans e2, ⟨_, e2 _ _ ga⟩, take_map (fun x => dst row x) hi⟩
  obtain ⟨E, hu, rfl⟩ := hJ
  rw [ivs_length, Nat.zero_add, List.take_length]
  refine ⟨E _ _ ge, alW_of fun d2 σ2 m2 e2 f2 => ?_⟩
  rw [l_nil]
  exact min_of f2 rfl (fun x => he (List.map_eq_nil_iff.mp x)) (q _ (E.trans e2))
end Mine

end
section -- L05d
namespace Mine
variable {W : Wd} {n : Nat} {σ : St} {cs : List Addr}

noncomputable def retF : S := .seq (.ret (.con (.bool false))) .skip
noncomputable def endC : S := .seq (.ite (.cmp .NotEq (.loc 0) (.loc 4)) retF .skip) (.seq (.ret (.cmp .Eq (.loc 2) minX)) .skip)
noncomputable def oddC : S := .seq (.set (.l 11) (.call (.con (.ref 34)) (.cons (.loc 0) .nil) [] .nil)) (.seq (.ite (.or (.cmp .IsNot (.bcall .type (.cons (.loc 11) .nil)) (.con (.typ "int"))) (.cmp .NotEq (.loc 11) (.loc 9))) retF .skip) .skip)
noncomputable def lowC : S := .seq (.ite (.cmp .NotEq (.loc 9) (.sub (.loc 5) (.call (.con (.ref 75)) (.cons (.loc 6) (.cons (.bin .FloorDiv (.bin .Add (.loc 7) (.con (.int (1)))) (.con (.int (2)))) .nil)) [] .nil))) retF .skip)
 (.seq (.ite (.cmp .NotEq (.loc 10) (.sub (.loc 5) (.call (.con (.ref 66)) (.cons (.loc 6) (.cons (.bin .FloorDiv (.loc 7) (.con (.int (2)))) .nil)) [] .nil))) retF .skip)
 (.seq (.ite (.cmp .Eq (.bin .Mod (.loc 7) (.con (.int (2)))) (.con (.int (1)))) oddC .skip) endC))
noncomputable def medC : S := .seq (.set (.l 9) (.call (.con (.ref 41)) (.cons (.loc 0) .nil) [] .nil))
 (.seq (.set (.l 10) (.call (.con (.ref 48)) (.cons (.loc 0) .nil) [] .nil))
 (.seq (.ite (.or (.cmp .IsNot (.bcall .type (.cons (.loc 9) .nil)) (.con (.typ "int"))) (.cmp .IsNot (.bcall .type (.cons (.loc 10) .nil)) (.con (.typ "int")))) retF .skip) lowC))
noncomputable def allC : S := .seq (.set (.l 4) (.bcall .list (.cons (.loc 0) .nil)))
 (.seq (.set (.l 5) eachX) (.seq (.set (.l 6) (.lst .nil)) (.seq (.set (.l 7) (.con (.int (0)))) (.seq (.for_ (.one (.l 8)) (.loc 5) sumB) medC))))
theorem bd05_94_eq : bd05_94 = .seq (.set (.c 3) (.bcall .sorted (.cons (.loc 0) .nil)))
 (.seq (.ite (.cmp .NotEq (.loc 1) (.cel 3)) retF .skip)
 (.seq (.ite (.cmp .Eq (.cel 3) (.lst .nil)) (.seq (.ret (.cmp .Eq (.loc 2) (.con (.int (0))))) .skip) .skip) allC)) := rfl
/-- what stands in the state's check -/
structure C5 (σ : St) (c a dr de da ds : Addr) (l row e : List Int) : Prop where
  c : σ c = some (.cell (.ref dr))
  a : σ a = some (.lst (ivs l))
  r : σ dr = some (.lst (ivs row))
  f : σ de = some (.lst (ivs e))
  d : σ da = some (.lst (ivs l))
  s : σ ds = some (.lst (ivs (cums row e e.length)))
theorem C5.ext {σ' : St} {c a dr de da ds : Addr} {l row e : List Int} (h : C5 σ c a dr de da ds l row e) (E : Ext σ σ') : C5 σ' c a dr de da ds l row e := ⟨E _ _ h.c, E _ _ h.a, E _ _ h.r, E _ _ h.f, E _ _ h.d, E _ _ h.s⟩
theorem endC_ok {a dr de da ds : Addr} {l row e : List Int} {v1 v3 : V} {tl : List V} {x : Int} {Q : Fl → St → List V → Prop} (h : C5 σ (nthA cs 3) a dr de da ds l row e) (hne : a ≠ da) (he : e ≠ []) (hl : row.length ≤ lim) (hl2 : e.length ≤ lim) (hx : x = minL (e.map fun x => dst row x))
    (q : ∀ σ' fr, Ext σ σ' → Q (.ret (.bool true)) σ' fr) : sW W n endC cs (.ref a :: v1 :: .int x :: v3 :: .ref da :: .ref de :: tl) σ Q := by
  unfold endC
  refine seq_ite ?_
  simp only [t_cmp, x_loc, nth, ne_eq, reduceCtorEq, not_false_eq_true, true_and]
  refine ne_ints h.a h.d rfl rfl hne ?_
  rw [decide_eq_true rfl, if_neg nofun]
  refine seq_skip (seq_ret ?_)
  rw [x_cmp, x_loc]
  refine ⟨nofun, minX_ok h.c h.r h.f he hl hl2 fun σ1 e1 => ?_⟩
  simp only [nth, c_eq]
  rw [hx, beq_self_eq_true]
  exact q _ _ e1
theorem oddC_ok {P : Params} (X : Txt W (K05 P) tb05) {a : Addr} {l : List Int} {v1 v2 v3 v4 v5 v6 v7 v8 v10 v11 : V} {tl : List V} {rest : S} {Q : Fl → St → List V → Prop} (ga : σ a = some (.lst (ivs l))) (h1 : l.length % 2 = 1)
    (q : ∀ σ' v11, Ext σ σ' → sW W (n + 1) rest cs (.ref a :: v1 :: v2 :: v3 :: v4 :: v5 :: v6 :: v7 :: v8 :: .int (medLow l) :: v10 :: v11 :: tl) σ' Q) :
    sW W (n + 1) (.seq oddC rest) cs (.ref a :: v1 :: v2 :: v3 :: v4 :: v5 :: v6 :: v7 :: v8 :: .int (medLow l) :: v10 :: v11 :: tl) σ Q := by
  unfold oddC
  refine seq_seq (seq_set ?_)
  simp only [x_call, x_con, x_loc, l_cons, l_nil, nth, ne_eq, reduceCtorEq, not_false_eq_true, true_and]
  refine median_ok (fn05_median X) ga rfl h1 fun σ1 e1 => ?_
  simp only [stW, setN]
  refine seq_seq (seq_ite ?_)
  simp only [t_or, t_cmp, x_bcall, x_con, x_loc, l_cons, l_nil, nth, ne_eq, reduceCtorEq, not_false_eq_true, true_and]
  refine type_int ?_
  rw [c_ty, bne_self_eq_false, if_neg nofun, c_ne, bne_self_eq_false, if_neg nofun]
  exact seq_skip (seq_skip (q _ _ e1))
theorem lowC_ok {P : Params} (X : Txt W (K05 P) tb05) {a dr de da ds : Addr} {l row e : List Int} {v1 v3 v8 v11 : V} {tl : List V} {x : Int} {Q : Fl → St → List V → Prop} (h : C5 σ (nthA cs 3) a dr de da ds l row e) (hne : a ≠ da) (hr : row = isort l) (h0 : 0 < l.length) (hE : Each row e) (hl : l.length ≤ lim) (hl2 : e.length ≤ lim) (hx : x = cost l)
    (q : ∀ σ' fr, Ext σ σ' → Q (.ret (.bool true)) σ' fr) : sW W (n + 1) lowC cs (.ref a :: v1 :: .int x :: v3 :: .ref da :: .ref de :: .ref ds :: .int (cum row e e.length : Nat) :: v8 :: .int (medLow l) :: .int (medHigh l) :: v11 :: tl) σ Q := by
  have hs : Sorted row := by rw [hr]; exact sorted_isort l
  have hrl : row.length = l.length := by rw [hr, isort_length]
  have hct : cum row e e.length = l.length := (cum_all hE).trans hrl
  rw [hct]
  have hd : (l.length - 1) / 2 < row.length ∧ l.length / 2 < row.length := by omega
  unfold lowC
  refine seq_ite ?_
  simp only [t_cmp, x_sub, x_call, x_bin, x_con, x_loc, l_cons, l_nil, nth, ne_eq, reduceCtorEq, not_false_eq_true, true_and, b_add, b_div]
  refine ⟨by decide, by decide, ?_⟩
  rw [show (((l.length : Int) + 1).fdiv 2) = (((l.length - 1) / 2 : Nat) : Int) + 1 by rw [show ((l.length : Int) + 1) = ((l.length + 1 : Nat) : Int) from rfl, fdiv2]; omega]
  refine bisect_left_ok (fn05_bisect_left X) h.s rfl (cums_sorted _ _ _) ?_
  obtain ⟨t1, t2⟩ := told5 hE hs hd.1 rfl
  refine sub_of _ rfl h.f rfl (by rw [ivs_length]; exact t1) ?_
  rw [nth_ivs t1, ← t2, c_ne, hr]
  have b1 : (medLow l != (isort l).getD ((l.length - 1) / 2) 0) = false := bne_self_eq_false _
  rw [b1, if_neg nofun]
  refine seq_skip (seq_ite ?_)
  simp only [t_cmp, x_sub, x_call, x_bin, x_con, x_loc, l_cons, l_nil, nth, ne_eq, reduceCtorEq, not_false_eq_true, true_and, b_div]
  refine ⟨by decide, by decide, ?_⟩
  rw [fdiv2]
  refine bisect_right_ok (fn05_bisect_right X) h.s rfl (cums_sorted _ _ _) ?_
  obtain ⟨u1, u2⟩ := told5 hE hs hd.2 (countP_le_lt _ _).symm
  refine sub_of _ rfl h.f rfl (by rw [ivs_length]; exact u1) ?_
  rw [nth_ivs u1, ← u2, c_ne, hr]
  have b2 : (medHigh l != (isort l).getD (l.length / 2) 0) = false := bne_self_eq_false _
  rw [b2, if_neg nofun]
  refine seq_skip (seq_ite ?_)
  simp only [t_cmp, x_bin, x_con, x_loc, nth, ne_eq, reduceCtorEq, not_false_eq_true, true_and, b_mod]
  refine ⟨by decide, ?_⟩
  rw [fmod2, c_eq]
  have he : e ≠ [] := fun x => by rw [x] at t1; cases t1
  have hmin : x = minL (e.map fun x => dst row x) := by
    rw [hx, least_cost hE (by omega), hr]; exact cost_perm (isort_perm l).symm
  by_cases h1 : l.length % 2 = 1
  · rw [if_pos (beq_iff_eq.mpr (by omega))]
    exact oddC_ok X h.a h1 fun σ1 v11 e1 => endC_ok (h.ext e1) hne he (by omega) hl2 hmin fun σ' fr e' => q _ _ (e1.trans e')
  · rw [if_neg (by rw [beq_iff_eq]; omega)]
    exact seq_skip (endC_ok h hne he (by omega) hl2 hmin q)
theorem medC_ok {P : Params} (X : Txt W (K05 P) tb05) {a dr de da ds : Addr} {l row e : List Int} {v1 v3 v8 v9 v10 v11 : V} {tl : List V} {x : Int} {Q : Fl → St → List V → Prop} (h : C5 σ (nthA cs 3) a dr de da ds l row e) (hne : a ≠ da) (hr : row = isort l) (h0 : 0 < l.length) (hE : Each row e) (hl : l.length ≤ lim) (hl2 : e.length ≤ lim) (hx : x = cost l)
    (q : ∀ σ' fr, Ext σ σ' → Q (.ret (.bool true)) σ' fr) : sW W (n + 1) medC cs (.ref a :: v1 :: .int x :: v3 :: .ref da :: .ref de :: .ref ds :: .int (cum row e e.length : Nat) :: v8 :: v9 :: v10 :: v11 :: tl) σ Q := by
  have hn : l ≠ [] := List.length_pos_iff.mp h0
  unfold medC
  refine seq_set ?_
  simp only [x_call, x_con, x_loc, l_cons, l_nil, nth, ne_eq, reduceCtorEq, not_false_eq_true, true_and]
  refine median_low_ok (fn05_median_low X) h.a rfl hn fun σ2 e2 => ?_
  simp only [stW, setN]
  refine seq_set ?_
  simp only [x_call, x_con, x_loc, l_cons, l_nil, nth, ne_eq, reduceCtorEq, not_false_eq_true, true_and]
  refine median_high_ok (fn05_median_high X) (e2 _ _ h.a) rfl hn fun σ3 e3 => ?_
  simp only [stW, setN]
  refine seq_ite ?_
  simp only [t_or, t_cmp, x_bcall, x_con, x_loc, l_cons, l_nil, nth, ne_eq, reduceCtorEq, not_false_eq_true, true_and]
  refine type_int ?_
  rw [c_ty, bne_self_eq_false, if_neg nofun]
  refine type_int ?_
  rw [c_ty, bne_self_eq_false, if_neg nofun]
  have E := e2.trans e3
  exact seq_skip (lowC_ok X (h.ext E) hne hr h0 hE hl hl2 hx fun σ' fr e' => q _ _ (E.trans e'))
theorem uq_len (row : List Int) (i : Nat) : (uq row i).length ≤ i := by
  unfold uq; rw [List.length_map]; exact Nat.le_trans (List.length_filter_le _ _) (Nat.le_of_eq List.length_range)
theorem allC_ok {P : Params} (X : Txt W (K05 P) tb05) {a dr : Addr} {l row : List Int} {v1 v3 v4 v5 v6 v7 v8 v9 v10 v11 : V} {tl : List V} {x : Int} {Q : Fl → St → List V → Prop} (gc : σ (nthA cs 3) = some (.cell (.ref dr))) (ga : σ a = some (.lst (ivs l))) (gr : σ dr = some (.lst (ivs row)))
    (hr : row = isort l) (h0 : 0 < l.length) (hl : l.length ≤ lim) (hx : x = cost l)
    (q : ∀ σ' fr, Ext σ σ' → Q (.ret (.bool true)) σ' fr) : sW W (n + 1) allC cs (.ref a :: v1 :: .int x :: v3 :: v4 :: v5 :: v6 :: v7 :: v8 :: v9 :: v10 :: v11 :: tl) σ Q := by
  have hs : Sorted row := by rw [hr]; exact sorted_isort l
  have hrl : row.length ≤ lim := by rw [hr, isort_length]; exact hl
  have hE := Each.of hs
  have hel := Nat.le_trans (uq_len row row.length) hrl
  unfold allC
  refine seq_set ?_
  simp only [x_bcall, x_loc, l_cons, l_nil, nth, ne_eq, reduceCtorEq, not_false_eq_true, true_and]
  refine list_of ga rfl fun da σ1 m1 e1 f1 => ?_
  simp only [stW, setN]
  refine seq_set (each_ok (e1 _ _ gc) (e1 _ _ gr) hrl fun de σ2 m2 e2 f2 => ?_)
  generalize uq row row.length = e at f2 hE hel
  simp only [stW, setN]
  refine seq_set ?_
  simp only [x_lst, l_nil]
  refine ⟨Nat.zero_le _, alW_of fun ds σ3 m3 e3 f3 => ?_⟩
  simp only [stW, setN]
  refine seq_set ?_
  rw [x_con]
  simp only [stW, setN]
  have E := (e1.trans e2).trans e3
  have E0 := e1.trans e2
  refine sums_ok (E _ _ gc) (E _ _ gr) (e3 _ _ f2) f3 (ne_new (E0 _ _ gr) m3) (ne_new f2 m3) hel fun σ4 v8 U f4 => ?_
  have E4 : Ext σ2 σ4 := Upd.ext m3 ((e3.upd ds).trans U)
  exact medC_ok X ⟨E4 _ _ (E0 _ _ gc), E4 _ _ (E0 _ _ ga), E4 _ _ (E0 _ _ gr), E4 _ _ f2, E4 _ _ (e2 _ _ f1), f4⟩ (ne_new ga m1) hr h0 hE hl hel hx fun σ' fr e' => q _ _ ((E0.trans E4).trans e')
theorem cells_94 {u v w : V} {Q : List Addr → St → Prop} (h : ∀ c, σ c = none → Q [0, 0, 0, c, 0, 0, 0, 0, 0, 0, 0, 0, 0, 0, 0, 0, 0, 0, 0, 0, 0, 0, 0, 0] (σ.set c (.cell .undef))) : cellW nm05_94 (parV ((["came", "kept", "paid"] : List Str).zip [u, v, w])) [] σ Q := by
  have e : cellW nm05_94 (parV ([("came", u), ("kept", v), ("paid", w)] : List (Str × V))) [] σ Q = ∀ c, σ c = none → Q [0, 0, 0, c, 0, 0, 0, 0, 0, 0, 0, 0, 0, 0, 0, 0, 0, 0, 0, 0, 0, 0, 0, 0] (σ.set c (.cell .undef)) := by kernel_rfl
  exact e.mpr h
theorem slots_94 {u v w : V} : slots0 nm05_94 (parV ((["came", "kept", "paid"] : List Str).zip [u, v, w])) = [u, v, w, .undef, .undef, .undef, .undef, .undef, .undef, .undef, .undef, .undef, .undef, .undef, .undef, .undef, .undef, .undef, .undef, .undef, .undef, .undef, .undef, .undef] := by kernel_rfl
theorem state_ok {P : Params} (X : Txt W (K05 P) tb05) {a k : Addr} {l : List Int} {x : Int} {Q : V → St → Prop} (ga : σ a = some (.lst (ivs l))) (gk : σ k = some (.lst (ivs (isort l)))) (hl : l.length ≤ lim) (hx : x = cost l)
    (q : ∀ σ', Ext σ σ' → Q (.bool true) σ') : CallOK W (n + 2) (.ref 94) [.ref a, .ref k, .int x] [] [] Q σ := by
  refine fn05__law_state X rfl (cells_94 fun c nc => ?_)
  rw [slots_94, bd05_94_eq]
  have E1 : Ext σ (σ.set c (.cell .undef)) := Ext.new nc
  have gc := St.set_same σ c (.cell .undef)
  have gc0 : ∀ {b o}, σ b = some o → b ≠ c := fun h => ne_new h nc
  generalize σ.set c (.cell .undef) = σ1 at E1 gc
  refine seq_set ?_
  simp only [x_bcall, x_loc, l_cons, l_nil, nth, ne_eq, reduceCtorEq, not_false_eq_true, true_and]
  refine sorted_of (E1 _ _ ga) rfl fun dr σ2 m2 e2 f2 => ?_
  have gc2 := e2 _ _ gc
  simp only [stW, nthA, gc2]
  have hdc : dr ≠ c := fun x => by rw [x, gc2] at f2; cases f2
  have E3 : Ext σ (σ2.set c (.cell (.ref dr))) := (E1.trans e2).put nc
  have f3 : (σ2.set c (.cell (.ref dr))) dr = some (.lst (ivs (isort l))) := by rw [St.set_other _ _ hdc]; exact f2
  have gc3 := St.set_same σ2 c (.cell (.ref dr))
  have hkd : k ≠ dr := ne_new (E1 _ _ gk) m2
  generalize σ2.set c (.cell (.ref dr)) = σ3 at E3 f3 gc3
  clear gc2 hdc f2 e2 m2 gc E1 gc0
  refine seq_ite ?_
  rw [t_cmp, x_loc]
  refine ⟨nofun, cel_of (i := 3) gc3 nofun ?_⟩
  simp only [nth]
  refine ne_ints (E3 _ _ gk) f3 rfl rfl hkd ?_
  rw [decide_eq_true rfl, if_neg nofun]
  refine seq_skip (seq_ite ?_)
  rw [t_cmp]
  refine cel_of (i := 3) gc3 nofun ?_
  rw [x_lst, l_nil]
  refine ⟨Nat.zero_le _, alW_of fun d4 σ4 m4 e4 f4 => ?_⟩
  refine eq_nil (e4 _ _ f3) f4 (ne_new f3 m4) ?_
  by_cases h0 : isort l = []
  · rw [decide_eq_true h0, if_pos rfl]
    have hl0 : l = [] := List.length_eq_zero_iff.mp (by rw [← isort_length, h0]; rfl)
    refine seq_seq (seq_ret ?_)
    simp only [x_cmp, x_loc, x_con, nth, ne_eq, reduceCtorEq, not_false_eq_true, true_and, c_eq]
    have : (x == 0) = true := by rw [hx, hl0]; rfl
    rw [this]
    exact q _ (E3.trans e4)
  · rw [decide_eq_false h0, if_neg nofun]
    have hl0 : 0 < l.length := by rw [← isort_length]; exact List.length_pos_iff.mpr h0
    exact seq_skip (allC_ok X (e4 _ _ gc3) (e4 _ _ (E3 _ _ ga)) (e4 _ _ f3) rfl hl0 hl hx fun σ' fr e' => q _ ((E3.trans e4).trans e'))
end Mine

end
section -- L05e
namespace Mine
variable {W : Wd} {n : Nat} {σ σ' σ0 : St} {cs : List Addr}

/-- the points in the list, the same in the row; what was there ahead is kept -/
structure R5 (σ0 σ : St) (da dk : Addr) (l : List Int) : Prop where
  e : Ext σ0 σ
  c : σ da = some (.lst (ivs l))
  k : σ dk = some (.lst (ivs (isort l)))
  na : σ0 da = none
  nk : σ0 dk = none
  ne : da ≠ dk
section
variable {da dk : Addr} {l : List Int}
theorem R5.ext (h : R5 σ0 σ da dk l) (E : Ext σ σ') : R5 σ0 σ' da dk l := ⟨h.e.trans E, E _ _ h.c, E _ _ h.k, h.na, h.nk, h.ne⟩
theorem R5.upd1 (h : R5 σ0 σ da dk l) (l' : List Int) : R5 σ0 ((σ.set dk (.lst (ivs (isort l')))).set da (.lst (ivs l'))) da dk l' :=
  ⟨(h.e.put h.nk).put h.na, St.set_same _ _ _, by rw [St.set_other _ _ h.ne.symm]; exact St.set_same _ _ _, h.na, h.nk, h.ne⟩
theorem R5.upd2 (h : R5 σ0 σ da dk l) (l' : List Int) : R5 σ0 ((σ.set da (.lst (ivs l'))).set dk (.lst (ivs (isort l')))) da dk l' :=
  ⟨(h.e.put h.na).put h.nk, by rw [St.set_other _ _ h.ne]; exact St.set_same _ _ _, St.set_same _ _ _, h.na, h.nk, h.ne⟩
end
noncomputable def farS (i : Nat) (rest : S) : S := .seq (.set (.l 9) (.call (.con (.ref 82)) (.cons (.loc 2) (.cons (.loc i) .nil)) [] .nil)) (.seq (.ite (.cmp .Is (.loc 9) (.con .none)) retF .skip) rest)
theorem far_ok {P : Params} (X : Txt W (K05 P) tb05) {da dk : Addr} {l : List Int} {i : Nat} {v : Int} {fr : List V} {rest : S} {Q : Fl → St → List V → Prop} (R : R5 σ0 σ da dk l) (h2 : nth fr 2 = .ref da) (hi : nth fr i = .int v) (h9 : ∀ w, nth (setN fr 9 w) 9 = w)
    (q : ∀ σ', R5 σ0 σ' da dk l → sW W (n + 2) rest cs (setN fr 9 (.int (fary l v))) σ' Q) : sW W (n + 2) (farS i rest) cs fr σ Q := by
  unfold farS
  refine seq_set ?_
  simp only [x_call, x_con, x_loc, l_cons, l_nil, h2, hi, ne_eq, reduceCtorEq, not_false_eq_true, true_and]
  refine dist_ok X R.c fun σ1 e1 => ?_
  simp only [stW]
  refine seq_ite ?_
  simp only [t_cmp, x_loc, x_con, h9, ne_eq, reduceCtorEq, not_false_eq_true, true_and, c_isi]
  rw [if_neg nofun]
  exact seq_skip (q _ (R.ext e1))
noncomputable def addB : S := farS 7 (.seq (.set (.l 4) (.bin .Add (.loc 4) (.loc 9))) (.seq (.exp (.meth .append (.loc 2) (.cons (.loc 7) .nil))) (.seq (.exp (.call (.con (.ref 57)) (.cons (.loc 3) (.cons (.loc 7) .nil)) [] .nil)) .skip)))
noncomputable def ltS (rest : S) : S := .seq (.del (.loc 3) (.call (.con (.ref 75)) (.cons (.loc 3) (.cons (.loc 8) .nil)) [] .nil)) rest
noncomputable def subS : S := farS 8 (.seq (.set (.l 4) (.bin .Sub (.loc 4) (.loc 9))) .skip)
noncomputable def remB : S := .seq (.set (.l 8) (.sub (.loc 3) (.bin .Mod (.loc 7) (.bcall .len (.cons (.loc 3) .nil))))) (ltS (.seq (.exp (.meth .remove (.loc 2) (.cons (.loc 8) .nil))) subS))
noncomputable def endB : S := .seq (.set (.l 8) (.sub (.loc 2) (.con (.int (0))))) (ltS (.seq (.del (.loc 2) (.con (.int (0)))) (.seq (.ite (.cmp .NotEq (.loc 3) (.bcall .sorted (.cons (.loc 2) .nil))) retF .skip) subS)))
noncomputable def stX : X := .call (.con (.ref 94)) (.cons (.loc 2) (.cons (.loc 3) (.cons (.loc 4) .nil))) [] .nil
noncomputable def forB : S := .seq (.set (.l 6) (.bin .Mod (.loc 5) (.con (.int (4))))) (.seq (.set (.l 7) (.bin .FloorDiv (.loc 5) (.con (.int (4)))))
 (.seq (.ite (.loc 1) (.seq (.set (.l 7) (.bin .Mod (.loc 7) (.con (.int (5))))) .skip) .skip)
 (.seq (.ite (.and (.cmp .Eq (.loc 6) (.con (.int (0)))) (.cmp .NotEq (.loc 2) (.lst .nil))) remB
   (.seq (.for_ (.one (.l 10)) (.bcall .range (.cons (.bcall .max (.cons (.loc 6) (.cons (.con (.int (1))) .nil))) .nil)) addB) .skip))
 (.seq (.ite (.not stX) retF .skip) .skip))))
noncomputable def lastS : S := .seq (.whl (.cmp .NotEq (.loc 2) (.lst .nil)) endB) (.seq (.ret stX) .skip)
theorem bd05_101_eq : bd05_101 = .seq (.set (.l 2) (.lst .nil)) (.seq (.set (.l 3) (.lst .nil)) (.seq (.set (.l 4) (.con (.int (0)))) (.seq (.for_ (.one (.l 5)) (.loc 0) forB) lastS))) := rfl
theorem cost_snoc (l : List Int) (x : Int) : cost (l ++ [x]) = cost l + fary l x := (cost_perm (List.perm_append_singleton _ _)).trans (cost_cons x l)
theorem cost_erase {l : List Int} {x : Int} (h : x ∈ l) : cost l - fary (l.erase x) x = cost (l.erase x) := by
  rw [cost_perm (List.perm_cons_erase h), cost_cons]; omega
theorem isort_snoc (l : List Int) (x : Int) : ins x (isort l) = isort (l ++ [x]) := (isort_congr (List.perm_append_singleton _ _)).symm
section
variable {P : Params} {da dk : Addr} {l : List Int} {v0 v1 v5 v6 v7 v8 v9 v10 : V} {tl : List V} {x v : Int} {Q : Fl → St → List V → Prop}
theorem add_ok (X : Txt W (K05 P) tb05) (R : R5 σ0 σ da dk l) (hl : l.length + 1 ≤ lim) (q : ∀ σ' v9, R5 σ0 σ' da dk (l ++ [v]) → Q .next σ' (v0 :: v1 :: .ref da :: .ref dk :: .int (cost (l ++ [v])) :: v5 :: v6 :: .int v :: v8 :: v9 :: v10 :: tl)) :
    sW W (n + 2) addB cs (v0 :: v1 :: .ref da :: .ref dk :: .int (cost l) :: v5 :: v6 :: .int v :: v8 :: v9 :: v10 :: tl) σ Q := by
  unfold addB
  refine far_ok X R rfl rfl (fun _ => rfl) fun σ1 R1 => ?_
  simp only [setN]
  refine seq_set ?_
  simp only [x_bin, x_loc, nth, ne_eq, reduceCtorEq, not_false_eq_true, true_and, b_add, stW, setN]
  rw [← cost_snoc]
  refine seq_exp ?_
  rw [x_meth, x_loc]
  refine ⟨nofun, mlist_of R1.c ?_⟩
  rw [l_cons, x_loc]
  refine ⟨nofun, ?_⟩
  rw [l_nil]
  refine append_of R1.c (by rw [ivs_length]; exact hl) ?_
  simp only [nth]
  rw [show ivs l ++ [.int v] = ivs (l ++ [v]) from (ivs_append l [v])]
  refine seq_exp ?_
  simp only [x_call, x_con, x_loc, l_cons, l_nil, nth, ne_eq, reduceCtorEq, not_false_eq_true, true_and]
  refine insort_right_ok (fn05_insort_right X) (fn05_bisect_right X) (ns := isort l) (by rw [St.set_other _ _ R1.ne.symm]; exact R1.k) (sorted_isort l) (by rw [isort_length]; exact hl) ?_
  rw [isort_snoc]
  exact q _ _ (R1.upd2 (l ++ [v]))
/-- the row loses it -/
theorem lt_ok (X : Txt W (K05 P) tb05) {rest : S} (R : R5 σ0 σ da dk l) (hx : x ∈ l)
    (q : sW W (n + 2) rest cs (v0 :: v1 :: .ref da :: .ref dk :: .int (cost l) :: v5 :: v6 :: v7 :: .int x :: tl) (σ.set dk (.lst (ivs (isort (l.erase x))))) Q) :
    sW W (n + 2) (ltS rest) cs (v0 :: v1 :: .ref da :: .ref dk :: .int (cost l) :: v5 :: v6 :: v7 :: .int x :: tl) σ Q := by
  unfold ltS
  refine seq_del ?_
  simp only [x_call, x_con, x_loc, l_cons, l_nil, nth, ne_eq, reduceCtorEq, not_false_eq_true, true_and]
  refine bisect_left_ok (fn05_bisect_left X) R.k rfl (sorted_isort l) ?_
  refine del_of R.k (by rw [ivs_length]; exact countP_lt (sorted_isort l) (mem_isort.mpr hx)) ?_
  rw [ivs_erase, del_isort x l hx]
  exact q
theorem sub_ok (X : Txt W (K05 P) tb05) (R : R5 σ0 σ da dk (l.erase x)) (hx : x ∈ l) (q : ∀ σ' v9, R5 σ0 σ' da dk (l.erase x) → Q .next σ' (v0 :: v1 :: .ref da :: .ref dk :: .int (cost (l.erase x)) :: v5 :: v6 :: v7 :: .int x :: v9 :: tl)) :
    sW W (n + 2) subS cs (v0 :: v1 :: .ref da :: .ref dk :: .int (cost l) :: v5 :: v6 :: v7 :: .int x :: v9 :: tl) σ Q := by
  unfold subS
  refine far_ok X R rfl rfl (fun _ => rfl) fun σ1 R1 => ?_
  simp only [setN]
  refine seq_set ?_
  simp only [x_bin, x_loc, nth, ne_eq, reduceCtorEq, not_false_eq_true, true_and, b_sub, stW, setN]
  rw [cost_erase hx]
  exact q _ _ R1
theorem rem_ok (X : Txt W (K05 P) tb05) (R : R5 σ0 σ da dk l) (h0 : l ≠ []) (q : ∀ l' σ' v8 v9, l'.length ≤ l.length → R5 σ0 σ' da dk l' → Q .next σ' (v0 :: v1 :: .ref da :: .ref dk :: .int (cost l') :: v5 :: v6 :: .int v :: v8 :: v9 :: tl)) :
    sW W (n + 2) remB cs (v0 :: v1 :: .ref da :: .ref dk :: .int (cost l) :: v5 :: v6 :: .int v :: v8 :: v9 :: tl) σ Q := by
  have hp : 0 < l.length := List.length_pos_iff.mpr h0
  unfold remB
  refine seq_set ?_
  simp only [x_sub, x_bin, x_bcall, x_loc, l_cons, l_nil, nth, ne_eq, reduceCtorEq, not_false_eq_true, true_and]
  refine len_of R.k rfl ?_
  rw [ivs_length, isort_length, b_mod]
  obtain ⟨k, e, hk⟩ : ∃ k : Nat, v.fmod (l.length : Int) = k ∧ k < l.length := by
    have h1 := Int.fmod_nonneg_of_pos v (b := (l.length : Int)) (by omega)
    have h2 := Int.fmod_lt_of_pos v (b := (l.length : Int)) (by omega)
    exact ⟨(v.fmod (l.length : Int)).toNat, by omega, by omega⟩
  refine ⟨by omega, ?_⟩
  rw [e]
  refine sub_of k rfl R.k rfl (by rw [ivs_length, isort_length]; exact hk) ?_
  rw [nth_ivs (by rw [isort_length]; exact hk)]
  have hg : (isort l).getD k 0 ∈ l := mem_isort.mp (getD_mem (by rw [isort_length]; exact hk))
  generalize (isort l).getD k 0 = g at hg
  simp only [stW, setN]
  refine lt_ok X R hg ?_
  refine seq_exp ?_
  rw [x_meth, x_loc]
  have gc : (σ.set dk (.lst (ivs (isort (l.erase g))))) da = some (.lst (ivs l)) := by rw [St.set_other _ _ R.ne]; exact R.c
  refine ⟨nofun, mlist_of gc ?_⟩
  rw [l_cons, x_loc]
  refine ⟨nofun, ?_⟩
  rw [l_nil]
  refine remove_of gc hg ?_
  exact sub_ok X (R.upd1 _) hg fun σ' v9 R' => q _ _ _ _ List.length_erase_le R'
theorem end_ok (X : Txt W (K05 P) tb05) (R : R5 σ0 σ da dk (x :: l)) (q : ∀ σ' v8 v9, R5 σ0 σ' da dk l → Q .next σ' (v0 :: v1 :: .ref da :: .ref dk :: .int (cost l) :: v5 :: v6 :: v7 :: v8 :: v9 :: tl)) :
    sW W (n + 2) endB cs (v0 :: v1 :: .ref da :: .ref dk :: .int (cost (x :: l)) :: v5 :: v6 :: v7 :: v8 :: v9 :: tl) σ Q := by
  have hx : x ∈ x :: l := List.mem_cons_self
  have ex : (x :: l).erase x = l := List.erase_cons_head _ _
  unfold endB
  refine seq_set ?_
  simp only [x_sub, x_con, x_loc, nth, ne_eq, reduceCtorEq, not_false_eq_true, true_and]
  refine sub_of 0 rfl R.c rfl (Nat.succ_pos _) ?_
  simp only [stW, setN]
  show sW _ _ _ _ (v0 :: v1 :: .ref da :: .ref dk :: .int (cost (x :: l)) :: v5 :: v6 :: v7 :: .int x :: v9 :: tl) _ _
  refine lt_ok X R hx ?_
  refine seq_del ?_
  simp only [x_con, x_loc, nth, ne_eq, reduceCtorEq, not_false_eq_true, true_and]
  refine del_of (i := 0) (xs := ivs (x :: l)) (by rw [St.set_other _ _ R.ne]; exact R.c) (Nat.succ_pos _) ?_
  have R1 := R.upd1 ((x :: l).erase x)
  rw [ivs_erase, show (x :: l).eraseIdx 0 = (x :: l).erase x from ex.symm]
  generalize (σ.set dk (.lst (ivs (isort ((x :: l).erase x))))).set da (.lst (ivs ((x :: l).erase x))) = σ1 at R1
  refine seq_ite ?_
  simp only [t_cmp, x_bcall, x_loc, l_cons, l_nil, nth, ne_eq, reduceCtorEq, not_false_eq_true, true_and]
  refine sorted_of R1.c rfl fun d σ2 m2 e2 f2 => ?_
  refine ne_ints (e2 _ _ R1.k) f2 rfl rfl (ne_new R1.k m2) ?_
  rw [decide_eq_true rfl, if_neg nofun]
  refine seq_skip (sub_ok X (R1.ext e2) hx ?_)
  rw [ex]
  exact fun σ' v9 R' => q _ _ _ R'
end
end Mine

end
section -- L05f
namespace Mine
variable {W : Wd} {n : Nat} {σ σ' τ : St} {cs : List Addr}
section
variable {P : Params} {da dk : Addr} {l : List Int} {v0 v1 v5 v6 v7 v8 v9 v10 : V} {tl : List V} {x v : Int} {Q : Fl → St → List V → Prop}
/-- the state is as it must be -/
theorem stt_ok (X : Txt W (K05 P) tb05) {Q : Bool → St → Prop} (R : R5 τ σ da dk l) (hl : l.length ≤ lim) (q : ∀ σ', R5 τ σ' da dk l → Q true σ') :
    tW W (n + 2) stX cs (v0 :: v1 :: .ref da :: .ref dk :: .int (cost l) :: tl) σ Q := by
  unfold stX
  simp only [t_call, x_con, x_loc, l_cons, l_nil, nth, ne_eq, reduceCtorEq, not_false_eq_true, true_and]
  exact state_ok X R.c R.k hl rfl fun σ' e => q _ (R.ext e)
/-- nothing is there yet, or something -/
theorem some_ok {Q : Bool → St → Prop} (R : R5 τ σ da dk l) (q : ∀ σ', R5 τ σ' da dk l → Q (!decide (l = [])) σ') :
    tW W n (.cmp .NotEq (.loc 2) (.lst .nil)) cs (v0 :: v1 :: .ref da :: .ref dk :: tl) σ Q := by
  simp only [t_cmp, x_loc, x_lst, l_nil, nth, ne_eq, reduceCtorEq, not_false_eq_true, true_and]
  refine ⟨Nat.zero_le _, alW_of fun d σ1 m1 e1 f1 => ?_⟩
  exact ne_nil (e1 _ _ R.c) f1 (ne_new R.c m1) (q _ (R.ext e1))
theorem adds_ok (X : Txt W (K05 P) tb05) {w : Int} (R : R5 τ σ da dk l) (hw : 0 ≤ w) (hw3 : w ≤ 3) (hl : l.length + 3 ≤ lim) (q : ∀ l' σ' v9 v10, l'.length ≤ l.length + 3 → R5 τ σ' da dk l' → Q .next σ' (v0 :: v1 :: .ref da :: .ref dk :: .int (cost l') :: v5 :: .int w :: .int v :: v8 :: v9 :: v10 :: tl)) :
    sW W (n + 2) (.seq (.for_ (.one (.l 10)) (.bcall .range (.cons (.bcall .max (.cons (.loc 6) (.cons (.con (.int (1))) .nil))) .nil)) addB) .skip) cs (v0 :: v1 :: .ref da :: .ref dk :: .int (cost l) :: v5 :: .int w :: .int v :: v8 :: v9 :: v10 :: tl) σ Q := by
  obtain ⟨k, hk, hk3⟩ : ∃ k : Nat, max w 1 = k ∧ k ≤ 3 := ⟨(max w 1).toNat, by omega, by omega⟩
  refine seq_for ?_
  simp only [x_bcall, x_con, x_loc, l_cons, l_nil, nth, ne_eq, reduceCtorEq, not_false_eq_true, true_and, f_max2]
  rw [hk]
  have hs : small (k : Int) := small_nat (by omega)
  refine range1_of hs fun d σ1 m1 e1 f1 => ?_
  refine iter_rng f1 ⟨by decide, by decide⟩ hs (.inl rfl) ?_
  refine forW_inv (k := 0) (fun i fr σ' => ∃ l' v9 v10, l'.length = l.length + i ∧ fr = v0 :: v1 :: .ref da :: .ref dk :: .int (cost l') :: v5 :: .int w :: .int v :: v8 :: v9 :: v10 :: tl ∧ R5 τ σ' da dk l') (fun _ _ _ => False) ⟨l, _, _, rfl, rfl, R.ext e1⟩ (fun i fr σ' hi hJ => ?_) (fun fr σ' hJ => ?_) (fun _ _ _ h => h.elim)
  · obtain ⟨l', v9, v10, h1, rfl, R'⟩ := hJ
    rw [len_range] at hi
    refine ⟨trivial, fun Q' hQ' _ => ?_⟩
    simp only [tgW, stW, setN]
    exact add_ok X R' (by omega) fun σ2 v9 R2 => hQ' _ _ ⟨_, _, _, by rw [List.length_append, h1]; rfl, rfl, R2⟩
  · obtain ⟨l', v9, v10, h1, rfl, R'⟩ := hJ
    rw [len_range] at h1
    exact ⟨trivial, q _ _ _ _ (by omega) R'⟩
theorem turn_ok (X : Txt W (K05 P) tb05) {b : Bool} (R : R5 τ σ da dk l) (hl : l.length + 3 ≤ lim) (q : ∀ l' σ' v6 v7 v8 v9 v10, l'.length ≤ l.length + 3 → R5 τ σ' da dk l' → Q .next σ' (v0 :: .bool b :: .ref da :: .ref dk :: .int (cost l') :: .int v :: v6 :: v7 :: v8 :: v9 :: v10 :: tl)) :
    sW W (n + 2) forB cs (v0 :: .bool b :: .ref da :: .ref dk :: .int (cost l) :: .int v :: v6 :: v7 :: v8 :: v9 :: v10 :: tl) σ Q := by
  unfold forB
  refine seq_set ?_
  simp only [x_bin, x_con, x_loc, nth, ne_eq, reduceCtorEq, not_false_eq_true, true_and, b_mod, stW, setN]
  refine ⟨by decide, ?_⟩
  have hw : 0 ≤ v.fmod 4 := Int.fmod_nonneg_of_pos v (by decide)
  have hw3 : v.fmod 4 ≤ 3 := by have := Int.fmod_lt_of_pos v (b := 4) (by decide); omega
  generalize v.fmod 4 = w at hw hw3
  refine seq_set ?_
  simp only [x_bin, x_con, x_loc, nth, ne_eq, reduceCtorEq, not_false_eq_true, true_and, b_div, stW, setN]
  refine ⟨by decide, by decide, ?_⟩
  generalize v.fdiv 4 = u
  -- the rest, whatever the value
  have fin : ∀ (u : Int), sW W (n + 2) (.seq (.ite (.and (.cmp .Eq (.loc 6) (.con (.int (0)))) (.cmp .NotEq (.loc 2) (.lst .nil))) remB
        (.seq (.for_ (.one (.l 10)) (.bcall .range (.cons (.bcall .max (.cons (.loc 6) (.cons (.con (.int (1))) .nil))) .nil)) addB) .skip))
      (.seq (.ite (.not stX) retF .skip) .skip)) cs (v0 :: .bool b :: .ref da :: .ref dk :: .int (cost l) :: .int v :: .int w :: .int u :: v8 :: v9 :: v10 :: tl) σ Q := fun u => by
    have tail : ∀ l' σ' v8 v9 v10, l'.length ≤ l.length + 3 → R5 τ σ' da dk l' → sW W (n + 2) (.seq (.ite (.not stX) retF .skip) .skip) cs (v0 :: .bool b :: .ref da :: .ref dk :: .int (cost l') :: .int v :: .int w :: .int u :: v8 :: v9 :: v10 :: tl) σ' Q := fun l' σ' v8 v9 v10 hl' R' => by
      refine seq_ite ?_
      rw [t_not]
      refine stt_ok X R' (by omega) fun σ2 R2 => ?_
      rw [Bool.not_true, if_neg nofun]
      exact seq_skip (q _ _ _ _ _ _ _ hl' R2)
    have adds : ∀ σ', R5 τ σ' da dk l → sW W (n + 2) (.seq (.seq (.for_ (.one (.l 10)) (.bcall .range (.cons (.bcall .max (.cons (.loc 6) (.cons (.con (.int (1))) .nil))) .nil)) addB) .skip) (.seq (.ite (.not stX) retF .skip) .skip)) cs
        (v0 :: .bool b :: .ref da :: .ref dk :: .int (cost l) :: .int v :: .int w :: .int u :: v8 :: v9 :: v10 :: tl) σ' Q := fun σ' R' => by
      rw [s_seq]
      exact adds_ok X R' hw hw3 hl fun l' σ2 v9 v10 hl' R2 => tail _ _ _ _ _ hl' R2
    refine seq_ite ?_
    rw [t_and, t_cmp]
    simp only [x_con, x_loc, nth, ne_eq, reduceCtorEq, not_false_eq_true, true_and, c_eq]
    by_cases h : (w == 0) = true
    · rw [h, if_pos rfl]
      refine some_ok R fun σ1 R1 => ?_
      by_cases h0 : l = []
      · rw [decide_eq_true h0, Bool.not_true, if_neg nofun]
        exact adds σ1 R1
      · rw [decide_eq_false h0, Bool.not_false, if_pos rfl, s_seq]
        exact rem_ok X R1 h0 fun l' σ2 v8 v9 hl' R2 => tail _ _ _ _ _ (by omega) R2
    · rw [if_neg h, if_neg nofun]
      exact adds σ R
  refine seq_ite ?_
  rw [t_loc]
  simp only [nth, ne_eq, reduceCtorEq, not_false_eq_true, true_and]
  show (if b = true then _ else _)
  by_cases hb : b = true
  · rw [if_pos hb]
    refine seq_seq (seq_set ?_)
    simp only [x_bin, x_con, x_loc, nth, ne_eq, reduceCtorEq, not_false_eq_true, true_and, b_mod, stW, setN]
    exact ⟨by decide, seq_skip (fin _)⟩
  · rw [if_neg hb]
    exact seq_skip (fin _)
theorem lastt_ok (X : Txt W (K05 P) tb05) (R : R5 τ σ da dk l) (q : ∀ σ' fr, Ext τ σ' → Q (.ret (.bool true)) σ' fr) :
    sW W (n + 2) lastS cs (v0 :: v1 :: .ref da :: .ref dk :: .int (cost l) :: v5 :: v6 :: v7 :: v8 :: v9 :: tl) σ Q := by
  unfold lastS
  rw [s_seq]
  show whW _ _ _ _ _
  refine ⟨fun j σ fr => ∃ l v8 v9, l.length = j ∧ fr = v0 :: v1 :: .ref da :: .ref dk :: .int (cost l) :: v5 :: v6 :: v7 :: v8 :: v9 :: tl ∧ R5 τ σ da dk l, ⟨l.length, l, _, _, rfl, rfl, R⟩, ?_⟩
  rintro j σ fr ⟨l, v8, v9, hj, rfl, R⟩
  refine some_ok R fun σ1 R1 => ?_
  cases l with
  | nil =>
    rw [decide_eq_true rfl, Bool.not_true, if_neg nofun]
    refine seq_ret ?_
    unfold stX
    simp only [x_call, x_con, x_loc, l_cons, l_nil, nth, ne_eq, reduceCtorEq, not_false_eq_true, true_and]
    exact state_ok X R1.c R1.k (Nat.zero_le _) rfl fun σ' e => q _ _ (R1.e.trans e)
  | cons x l =>
    rw [decide_eq_false nofun, Bool.not_false, if_pos rfl]
    exact end_ok X R1 fun σ2 v8 v9 R2 => ⟨l.length, by rw [← hj]; exact Nat.lt_succ_self _, l, _, _, rfl, rfl, R2⟩
end
theorem run_ok {P : Params} (X : Txt W (K05 P) tb05) {a : Addr} {ns : List Int} {b : Bool} {Q : V → St → Prop} (ga : σ a = some (.lst (ivs ns))) (hl : ns.length ≤ 100) (q : ∀ σ', Ext σ σ' → Q (.bool true) σ') :
    CallOK W (n + 3) (.ref 101) [.ref a, .bool b] [] [] Q σ := by
  obtain ⟨cs, F⟩ := fn05__law_run X
  refine F [_, _] (n + 2) Q σ rfl ?_
  rw [bd05_101_eq]
  simp only [List.cons_append, List.nil_append, undefs]
  refine seq_set ?_
  rw [x_lst, l_nil]
  refine ⟨Nat.zero_le _, alW_of fun da σ1 m1 e1 f1 => ?_⟩
  simp only [stW, setN]
  refine seq_set ?_
  rw [x_lst, l_nil]
  refine ⟨Nat.zero_le _, alW_of fun dk σ2 m2 e2 f2 => ?_⟩
  simp only [stW, setN]
  refine seq_set ?_
  rw [x_con]
  simp only [stW, setN]
  have R : R5 σ σ2 da dk [] := ⟨e1.trans e2, e2 _ _ f1, f2, m1, e1.none m2, ne_new f1 m2⟩
  refine seq_for ?_
  rw [x_loc]
  refine ⟨nofun, iter_lst (R.e _ _ ga) ?_⟩
  refine forW_inv (k := 0) (fun i fr σ' => ∃ l v5 v6 v7 v8 v9 v10, l.length ≤ 3 * i ∧ fr = .ref a :: .bool b :: .ref da :: .ref dk :: .int (cost l) :: v5 :: v6 :: v7 :: v8 :: v9 :: v10 :: undefs 8 ∧ R5 σ σ' da dk l) (fun _ _ _ => False) ⟨[], _, _, _, _, _, _, Nat.zero_le _, rfl, R⟩ (fun i fr σ' hi hJ => ?_) (fun fr σ' hJ => ?_) (fun _ _ _ h => h.elim)
  · obtain ⟨l, v5, v6, v7, v8, v9, v10, h1, rfl, R'⟩ := hJ
    rw [ivs_length] at hi
    rw [Nat.zero_add] at h1 ⊢
    refine ⟨R'.e _ _ ga, fun Q' hQ' _ => ?_⟩
    rw [nth_ivs hi]
    simp only [tgW, stW, setN]
    exact turn_ok X R' (by unfold lim; omega) fun l' σ2 v6 v7 v8 v9 v10 hl' R2 => hQ' _ _ ⟨l', _, _, _, _, _, _, by omega, rfl, R2⟩
  · obtain ⟨l, v5, v6, v7, v8, v9, v10, h1, rfl, R'⟩ := hJ
    refine ⟨R'.e _ _ ga, ?_⟩
    exact lastt_ok X R' fun σ' fr e => q _ e
theorem andB {A B : St → Prop} (h : A σ) : truW (.bool true) σ fun b σ2 => if b = true then A σ2 else B σ2 := show (if true = true then A σ else B σ) by rw [if_pos rfl]; exact h
theorem law05 {P : Params} (X : Txt W (K05 P) tb05) {a : Addr} {ns : List Int} (hn : ns.length ≤ 63) : CallOK W 500 (.ref 108) [.ref a] [] [] (fun v _ => v = .bool true) (σ0 a ns) := by
  have ga : σ0 a ns a = some (.ro (ivs ns)) := by simp [σ0]
  generalize σ0 a ns = σ at ga
  obtain ⟨cs, F⟩ := fn05_law X
  refine F [_] 499 _ _ rfl ?_
  unfold bd05_108
  simp only [List.cons_append, List.nil_append, undefs]
  refine seq_set ?_
  simp only [x_bin, x_loc, x_lst, x_con, l_cons, l_nil, nth, ne_eq, reduceCtorEq, not_false_eq_true, true_and]
  refine ⟨by unfold lim; decide, alW_of fun d1 σ1 m1 e1 f1 => ?_⟩
  refine add_ints (ys := [9, 22, 0, 15, 4, 26]) (e1 _ _ ga) rfl f1 rfl (by unfold lim; simp only [List.length_cons, List.length_nil]; omega) fun d2 σ2 m2 e2 f2 => ?_
  have hl : (ns ++ [9, 22, 0, 15, 4, 26]).length ≤ 100 := by rw [List.length_append]; simp only [List.length_cons, List.length_nil]; omega
  generalize ns ++ [9, 22, 0, 15, 4, 26] = l at f2 hl
  simp only [stW, setN]
  refine seq_ret ?_
  simp only [x_and, x_call, x_con, x_loc, l_cons, l_nil, nth, ne_eq, reduceCtorEq, not_false_eq_true, true_and]
  refine refused_ok X fun σ3 e3 => andB ?_
  refine run_ok X (e3 _ _ f2) hl fun σ4 e4 => andB ?_
  exact run_ok X (e4 _ _ (e3 _ _ f2)) hl fun σ5 e5 => rfl
end Mine

end
namespace Mine
theorem head05 (h : ∀ (W : Wd) (P : Params), Txt W (K05 P) tb05 → ∀ (a : Addr) (ns : List Int), ns.length ≤ 63 → CallOK W 500 (.ref 108) [.ref a] [] [] (fun v _ => v = .bool true) (σ0 a ns)) : PySem.Challenge.rw_dn0040_05.Holds := hd05 (by
  w_strict (
  k_fill
  intro w s₀ s₁ mg mb G Y fa o pm cd doc dV kV ho hd hcd hD hmg hg args vals as hpre hlay hrd hwl hlo
  have KX := kIn_of Y
  refine Ground.open G ?_
  intro T B D TE TW
  clear D
  have hfa : mg "law" = some (.ref fa) := hmg
  have e0 := (mg_of KX T.g (show nsIn (hd05.heap_39 w.params) mainGlobals "law" = some (some (.ref 108)) from by kernel_rfl)).symm.trans hfa
  cases e0
  clear ho hd hcd hD hmg hfa
  wrow_args hpre hlay hrd hwl hlo
  refine lawEnds (by assumption) (by assumption) (by omega) hg (raisesW_false ?h1) ?h2 ?_
  case h1 => wrow_none_raised
  case h2 => first | wrow_post | kc_post
  exact h _ w.params ⟨KX, glOK_of KX T.g T.b T.builtins (gl05 _), T.nolimit⟩ _ _ (by omega)))
end Mine
theorem PySem.Challenge.cw_dn0040_05_holds : PySem.Challenge.rw_dn0040_05.Holds :=
  Mine.head05 fun _ _ X _ _ h => Mine.law05 X h
