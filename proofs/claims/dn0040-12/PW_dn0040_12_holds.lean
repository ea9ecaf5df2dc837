import PyProof.Rows.All
import Wide.All
import OpenK.AllK
import Wide.FinOn
import PySem.Challenge.RW_dn0040_12
open PySem PySem.W PyProof.Rows
set_option Elab.async false
set_option linter.all false
set_option maxRecDepth 100000
set_option maxHeartbeats 8000000
set_option bootstrap.genMatcherCode false
set_option genSizeOf false
namespace Mine
theorem q1 {a b : Nat} (h : a < b) : a ≤ b := Nat.le_of_lt h
theorem q2 {a b c : Nat} (h : a < b) (k : b ≤ c) : a < c := Nat.lt_of_lt_of_le h k
theorem q3 {a b c : Nat} (h : a ≤ b) (k : b < c) : a < c := Nat.lt_of_le_of_lt h k
theorem q4 {a b c : Nat} (h : a ≤ b) (k : b ≤ c) : a ≤ c := Nat.le_trans h k
theorem q5 {a b : Nat} (h : a + 1 ≤ b) : a ≤ b := Nat.le_of_succ_le h
theorem q6 {a b : Nat} (h : a < b) : 0 < b := Nat.zero_lt_of_lt h
theorem nS {α : Type} {b : α} {P : Prop} (h : none = some b) : P := nomatch h
theorem nO {α : Type} {b : α} {P : Prop} (h : some b = none) : P := nomatch h
theorem nF {P : Prop} (h : false = true) : P := nomatch h
theorem nT {P : Prop} (h : true = false) : P := nomatch h
theorem nN {α : Type} {b : α} {l : List α} {P : Prop} (h : [] = b :: l) : P := nomatch h
theorem nC {α : Type} {b : α} {l : List α} {P : Prop} (h : b :: l = []) : P := nomatch h
end Mine
section -- F1
namespace Mine

/-- values without their tokens -/
inductive V where
  | undef | none | bool (b : Bool) | int (i : Int) | flt (b : UInt64) | str (s : Str) | typ (n : String) | bi (id : String) | ref (a : Addr)

noncomputable def ab : Value → V
  | .none => .none
  | .bool b => .bool b
  | .int i _ => .int i
  | .float b _ => .flt b
  | .str s _ => .str s
  | .type n => .typ n
  | .builtin i => .bi i
  | .ref a => .ref a
  | _ => .undef

theorem ab_int {v : Value} {i : Int} (h : ab v = .int i) : ∃ t, v = .int i t := by
  (first | exact nS v | exact nO v | exact nF v | exact nT v | exact nN v | exact nC v | cases v) <;> simp [ab] at h; subst h; exact ⟨_, rfl⟩
theorem ab_bool {v : Value} {b : Bool} (h : ab v = .bool b) : v = .bool b := by
  (first | exact nS v | exact nO v | exact nF v | exact nT v | exact nN v | exact nC v | cases v) <;> simp [ab] at h; subst h; rfl
theorem ab_ref {v : Value} {a : Addr} (h : ab v = .ref a) : v = .ref a := by
  (first | exact nS v | exact nO v | exact nF v | exact nT v | exact nN v | exact nC v | cases v) <;> simp [ab] at h; subst h; rfl
theorem ab_bi {v : Value} {a : String} (h : ab v = .bi a) : v = .builtin a := by
  (first | exact nS v | exact nO v | exact nF v | exact nT v | exact nN v | exact nC v | cases v) <;> simp [ab] at h; subst h; rfl
theorem ab_typ {v : Value} {a : String} (h : ab v = .typ a) : v = .type a := by
  (first | exact nS v | exact nO v | exact nF v | exact nT v | exact nN v | exact nC v | cases v) <;> simp [ab] at h; subst h; rfl
/-- abstract objects -/
inductive O where
  | lst (xs : List V) | ro (xs : List V) | tup (xs : List V) | rng (lo hi st : Int) | cell (v : V) | fn (f : FuncData) | tab (d : Option (Pos × Addr)) | code (q : Str)

noncomputable def O.mut : O → Bool
  | .lst _ => true
  | .cell _ => true
  | .tab _ => true
  | _ => false

/-- the longest list that this logic speaks of -/
noncomputable def lim : Nat := 1000000

noncomputable def abo : Option Value → V
  | some v => ab v
  | none => .undef

noncomputable def tabV : Option (Pos × Addr) → Array Value
  | none => #[]
  | some (p, c) => #[rawInt p.line, rawInt p.col, .ref c]
noncomputable def ObjR (h : Heap) (a : Addr) : O → Prop
  | .lst xs => ∃ items : Array Value, h.PlainList a items ∧ items.toList.map ab = xs ∧ xs.length ≤ lim
  | .ro xs => ∃ items : Array Value, h.IsList a items ∧ items.toList.map ab = xs ∧ xs.length ≤ lim
  | .tup xs => ∃ items : Array Value, IsTup h a items ∧ items.toList.map ab = xs ∧ xs.length ≤ lim
  | .rng lo hi st => ∃ t u v, IsRange h a lo hi st t u v
  | .cell v => ∃ c, h.IsCell a c ∧ abo c = v
  | .fn f => ∃ o, h.get? a = some o ∧ o.data = .func f
  | .tab d => h.get? a = some (tabObj (tabV d))
  | .code q => ∃ o vs t, h.get? a = some o ∧ o.data = .fields vs ∧ vs[1]? = some (.str q t)

theorem ObjR.get {h : Heap} {a : Addr} {x : O} (r : ObjR h a x) : ∃ o, h.get? a = some o := by
  cases x with
  | lst xs => obtain ⟨i, ⟨n, e⟩, _⟩ := r; exact ⟨_, e⟩
  | ro xs => obtain ⟨i, ⟨o, e, _⟩, _⟩ := r; exact ⟨_, e⟩
  | tup xs => obtain ⟨i, ⟨o, e, _⟩, _⟩ := r; exact ⟨_, e⟩
  | rng a b c => obtain ⟨t, u, v, e⟩ := r; exact ⟨_, e⟩
  | cell v => obtain ⟨c, ⟨o, e, _⟩, _⟩ := r; exact ⟨_, e⟩
  | fn f => obtain ⟨o, e, _⟩ := r; exact ⟨_, e⟩
  | tab d => exact ⟨_, r⟩
  | code q => obtain ⟨o, _, _, e, _⟩ := r; exact ⟨_, e⟩
theorem ObjR.at {h h' : Heap} {a : Addr} {x : O} (r : ObjR h a x) (k : ∀ o, h.get? a = some o → h'.get? a = some o) : ObjR h' a x := by
  cases x with
  | lst xs => obtain ⟨i, ⟨n, e⟩, q⟩ := r; exact ⟨i, ⟨n, k _ e⟩, q⟩
  | ro xs => obtain ⟨i, ⟨o, e, q1⟩, q⟩ := r; exact ⟨i, ⟨o, k _ e, q1⟩, q⟩
  | tup xs => obtain ⟨i, ⟨o, e, q1⟩, q⟩ := r; exact ⟨i, ⟨o, k _ e, q1⟩, q⟩
  | rng a b c => obtain ⟨t, u, v, e⟩ := r; exact ⟨t, u, v, k _ e⟩
  | cell v => obtain ⟨c, ⟨o, e, q1⟩, q⟩ := r; exact ⟨c, ⟨o, k _ e, q1⟩, q⟩
  | fn f => obtain ⟨o, e, q⟩ := r; exact ⟨o, k _ e, q⟩
  | tab d => exact k _ r
  | code q => obtain ⟨o, vs, t, e, q⟩ := r; exact ⟨o, vs, t, k _ e, q⟩

/-- the abstract store -/
abbrev St := Addr → Option O
noncomputable def St.set (σ : St) (a : Addr) (o : O) : St := fun b => if b = a then some o else σ b
@[simp] theorem St.set_same (σ : St) (a : Addr) (o : O) : σ.set a o a = some o := by simp [St.set]
theorem St.set_other (σ : St) {a b : Addr} (o : O) (h : b ≠ a) : σ.set a o b = σ b := by simp [St.set, h]

/-- what the heap owes the store; H is the heap at the law's call -/
structure RelG (H : Heap) (σ : St) (s : Shared) : Prop where
  base : ∀ b o, H.get? b = some o → s.heap.get? b = some o
  objs : ∀ a x, σ a = some x → ObjR s.heap a x
  own : ∀ a x, σ a = some x → x.mut = true → H.get? a = none

noncomputable def NoMut (σ : St) (b : Addr) : Prop := ∀ x, σ b = some x → x.mut = false

/-- one stretch of the run: L is what may be changed besides the mutable objects -/
structure Stp (L : Addr → Prop) (σ : St) (s : Shared) (σ' : St) (s' : Shared) : Prop where
  keep : ∀ b o, s.heap.get? b = some o → NoMut σ b → ¬ L b → (∀ es n, o.data ≠ .dict es n) → s'.heap.get? b = some o
  look : ∀ b o, s.heap.get? b = some o → NoMut σ b → ¬ L b → ∃ sl, s'.heap.get? b = some { o with slots := sl }
  dom : ∀ b x, σ' b = some x → (∃ y, σ b = some y ∧ (x.mut = true → y.mut = true)) ∨ s.heap.get? b = none
  alive : ∀ b o, s.heap.get? b = some o → ∃ o', s'.heap.get? b = some o'
  rest : ∃ h t, s' = { s with heap := h, toks := t }

/-- all that is there is kept as it is -/
theorem Stp.of {L : Addr → Prop} {σ σ' : St} {s s' : Shared} (hk : ∀ b o, s.heap.get? b = some o → NoMut σ b → ¬ L b → s'.heap.get? b = some o) (hd : ∀ b x, σ' b = some x → (∃ y, σ b = some y ∧ (x.mut = true → y.mut = true)) ∨ s.heap.get? b = none)
    (ha : ∀ b o, s.heap.get? b = some o → ∃ o', s'.heap.get? b = some o') (hr : ∃ h t, s' = { s with heap := h, toks := t }) : Stp L σ s σ' s' :=
  ⟨fun b o e m l _ => hk b o e m l, fun b o e m l => ⟨o.slots, hk b o e m l⟩, hd, ha, hr⟩
theorem Stp.refl (L : Addr → Prop) (σ : St) (s : Shared) : Stp L σ s σ s :=
  .of (fun _ _ e _ _ => e) (fun _ x e => .inl ⟨x, e, id⟩) (fun _ o e => ⟨o, e⟩) ⟨s.heap, s.toks, rfl⟩

theorem NoMut.step {σ σ' : St} {s : Shared} {b : Addr} {o : Obj} (d : ∀ x, σ' b = some x → (∃ y, σ b = some y ∧ (x.mut = true → y.mut = true)) ∨ s.heap.get? b = none) (e : s.heap.get? b = some o) (hm : NoMut σ b) : NoMut σ' b := fun z hz => by
  rcases d z hz with ⟨y', hy, hmm⟩ | h
  · cases hzm : z.mut with
    | false => rfl
    | true => have := hm y' hy; rw [hmm hzm] at this; exact this
  · rw [h] at e; (first | exact nS e | exact nO e | exact nF e | exact nT e | exact nN e | exact nC e | cases e)
theorem Stp.trans {L : Addr → Prop} {σ σ' σ'' : St} {s s' s'' : Shared} (x : Stp L σ s σ' s') (y : Stp L σ' s' σ'' s'') : Stp L σ s σ'' s'' where
  keep := fun b o e hm hl hd => y.keep b o (x.keep b o e hm hl hd) (hm.step (x.dom b) e) hl hd
  look := fun b o e hm hl => let ⟨_, e1⟩ := x.look b o e hm hl; let ⟨sl2, e2⟩ := y.look b _ e1 (hm.step (x.dom b) e) hl; ⟨sl2, e2⟩
  dom := fun b z hz => by
    rcases y.dom b z hz with ⟨y', hy, hmm⟩ | h
    · rcases x.dom b y' hy with ⟨y'', hy', hmm'⟩ | h
      · exact .inl ⟨y'', hy', fun q => hmm' (hmm q)⟩
      · exact .inr h
    · refine .inr ?_
      cases e : s.heap.get? b with
      | none => rfl
      | some o => obtain ⟨o', e'⟩ := x.alive b o e; rw [e'] at h; (first | exact nS h | exact nO h | exact nF h | exact nT h | exact nN h | exact nC h | cases h)
  alive := fun b o e => let ⟨o', e'⟩ := x.alive b o e; y.alive b o' e'
  rest := by
    obtain ⟨h, t, e⟩ := x.rest
    obtain ⟨h', t', e'⟩ := y.rest
    exact ⟨h', t', by rw [e', e]⟩

theorem Stp.weak {L L' : Addr → Prop} {σ σ' : St} {s s' : Shared} (x : Stp L σ s σ' s') (h : ∀ b, L b → L' b) : Stp L' σ s σ' s' :=
  ⟨fun b o e hm hl => x.keep b o e hm fun q => hl (h b q), fun b o e hm hl => x.look b o e hm fun q => hl (h b q), x.dom, x.alive, x.rest⟩

/-- nothing besides -/
noncomputable def No : Addr → Prop := fun _ => False
noncomputable def At (l : Addr) : Addr → Prop := fun b => b = l

/-- the frame's names: fr holds the slots, by the place in the scope's table -/
noncomputable def FrameR (names : List (Str × NameKind)) (fr : List V) (m : Str → Option Value) : Prop :=
  ∀ i x, names[i]? = some (x, NameKind.local) → fr.getD i .undef ≠ .undef → ∃ v, m x = some v ∧ ab v = fr.getD i .undef

noncomputable def Env.nm (env : Env) : List (Str × NameKind) := env.scope.names

/-- the world of a law: its program, its world, the heap at its call, the prefix of the names of what it makes -/
structure Wd where
  prog : Program
  w : World
  H : Heap
  eq : Str
abbrev Wd.M (W : Wd) : Model := model W.prog W.w
/-- what is known of the environment of a block once and for all -/
structure EnvOK (W : Wd) (env : Env) (cs : List Addr) : Prop where
  kind : env.scope.kind = .function
  glob : env.globals = mainGlobals
  bts : env.builtins = builtinsNs
  nodup : (env.scope.names.map (·.1)).Nodup
  cell : ∀ i x k, env.scope.names[i]? = some (x, k) → k = .cell ∨ k = .free → env.cells.lookup x = some (cs.getD i 0) ∧ x ≠ ("__classdict__" : Str)
  tab : ∀ P, cs[env.scope.names.length]? = some P → ∃ c mg, env.code = .ref c ∧ CodeHd W.H c P ∧ W.H.Ns mainGlobals mg ∧ mainGlobals ≠ P ∧ W.H.BuiltinsAt mg P ∧ env.qual = W.eq

/-- the frames on the stack -/
inductive FrO (H : Heap) (σ : St) (s : Shared) (env : Env) : Prop where
  | mk (hk : env.scope.kind = .function) (L : Addr) (o : Obj) (es n) (h2 : env.frame = some L) (h3 : H.get? L = none) (h4 : σ L = none) (h5 : s.heap.get? L = some o) (h6 : o.data = .dict es n) : FrO H σ s env
noncomputable def Frs (H : Heap) (A : Around) (σ : St) (s : Shared) : Prop := ∃ l, A.frames = some l ∧ ∀ env ∈ l, FrO H σ s env
theorem Frs.mono {H : Heap} {A : Around} {σ σ' : St} {s s' : Shared} (f : Frs H A σ s) (h : ∀ b o es n, s.heap.get? b = some o → o.data = .dict es n → σ b = none → σ' b = none ∧ ∃ o' es' n', s'.heap.get? b = some o' ∧ o'.data = .dict es' n') : Frs H A σ' s' := by
  obtain ⟨l, hl, hf⟩ := f
  refine ⟨l, hl, fun env he => ?_⟩
  obtain ⟨h1, L, o, es, n, h2, h3, h4, h5, h6⟩ := hf env he
  obtain ⟨k1, o', es', n', k2, k3⟩ := h L o es n h5 h6 h4
  exact ⟨h1, L, o', es', n', h2, h3, k1, k2, k3⟩
theorem Frs.step {H : Heap} {A : Around} {σ σ' : St} {s s' : Shared} (f : Frs H A σ s) (t : Stp No σ s σ' s') : Frs H A σ' s' := f.mono fun b o es n e hd hσ => by
  obtain ⟨sl, e'⟩ := t.look b o e (fun x hx => by rw [hσ] at hx; (first | exact nS hx | exact nO hx | exact nF hx | exact nT hx | exact nN hx | exact nC hx | cases hx)) id
  refine ⟨?_, _, es, n, e', hd⟩
  cases q : σ' b with
  | none => rfl
  | some x =>
    rcases t.dom b x q with ⟨y, hy, _⟩ | h'
    · rw [hσ] at hy; (first | exact nS hy | exact nO hy | exact nF hy | exact nT hy | exact nN hy | exact nC hy | cases hy)
    · rw [h'] at e; (first | exact nS e | exact nO e | exact nF e | exact nT e | exact nN e | exact nC e | cases e)
structure Rel (H : Heap) (A : Around) (env : Env) (σ : St) (fr : List V) (s : Shared) : Prop extends RelG H σ s where
  ns : ∃ m, s.heap.Ns env.locals m ∧ FrameR env.scope.names fr m
  off : σ env.locals = none
  new : H.get? env.locals = none
  frs : Frs H A σ s

/-- room below -/
structure Room (n : Nat) (A : Around) : Prop where
  handled : A.handled = none
  depth : A.depth + n ≤ 900
  units : A.units + 10 * n ≤ 9000

theorem Room.deeper {n : Nat} {A : Around} (r : Room (n + 1) A) (env : Env) : Room n (A.deeper env) :=
  ⟨r.handled, by show A.depth + 1 + n ≤ 900; have := r.depth; (first | assumption | exact q1 ‹_› | exact q2 ‹_› ‹_› | exact q3 ‹_› ‹_› | exact q4 ‹_› ‹_› | exact q5 ‹_› | exact q6 ‹_› | lia | omega), by show A.units + 3 + 10 * n ≤ 9000; have := r.units; (first | assumption | exact q1 ‹_› | exact q2 ‹_› ‹_› | exact q3 ‹_› ‹_› | exact q4 ‹_› ‹_› | exact q5 ‹_› | exact q6 ‹_› | lia | omega)⟩
theorem Room.in1 {n : Nat} {A : Around} (r : Room (n + 1) A) : Room n A.in1 :=
  ⟨r.handled, by show A.depth + n ≤ 900; have := r.depth; (first | assumption | exact q1 ‹_› | exact q2 ‹_› ‹_› | exact q3 ‹_› ‹_› | exact q4 ‹_› ‹_› | exact q5 ‹_› | exact q6 ‹_› | lia | omega), by show A.units + 1 + 10 * n ≤ 9000; have := r.units; (first | assumption | exact q1 ‹_› | exact q2 ‹_› ‹_› | exact q3 ‹_› ‹_› | exact q4 ‹_› ‹_› | exact q5 ‹_› | exact q6 ‹_› | lia | omega)⟩
theorem Room.mono {n m : Nat} {A : Around} (r : Room n A) (h : m ≤ n) : Room m A :=
  ⟨r.handled, by have := r.depth; (first | assumption | exact q1 ‹_› | exact q2 ‹_› ‹_› | exact q3 ‹_› ‹_› | exact q4 ‹_› ‹_› | exact q5 ‹_› | exact q6 ‹_› | lia | omega), by have := r.units; (first | assumption | exact q1 ‹_› | exact q2 ‹_› ‹_› | exact q3 ‹_› ‹_› | exact q4 ‹_› ‹_› | exact q5 ‹_› | exact q6 ‹_› | lia | omega)⟩
theorem Room.lim {n : Nat} {A : Around} (r : Room n A) : A.depth < recursionLimit := by
  have := r.depth; show A.depth < 1000; (first | assumption | exact q1 ‹_› | exact q2 ‹_› ‹_› | exact q3 ‹_› ‹_› | exact q4 ‹_› ‹_› | exact q5 ‹_› | exact q6 ‹_› | lia | omega)
theorem Room.cl {n : Nat} {A : Around} (r : Room n A) : A.units < cLine := by
  have := r.units; show A.units < 9900; (first | assumption | exact q1 ‹_› | exact q2 ‹_› ‹_› | exact q3 ‹_› ‹_› | exact q4 ‹_› ‹_› | exact q5 ‹_› | exact q6 ‹_› | lia | omega)

end Mine

end
section -- FT1
namespace Mine
open Float64

theorem exact_V {r : Nat} (h : r < 2 ^ 53) : ∃ t, t < infMag ∧ Float64.V t = r * 2 ^ 1074 := by
  rcases Nat.eq_zero_or_pos r with rfl | hp
  · exact ⟨0, by decide, by rw [V_zero, Nat.zero_mul]⟩
  have h1 : 2 ^ r.log2 ≤ r := Nat.log2_self_le (Nat.ne_of_gt hp)
  have h2 : r < 2 ^ (r.log2 + 1) := Nat.lt_log2_self
  have hl : r.log2 ≤ 52 := Nat.le_of_lt_succ (Nat.pow_lt_pow_iff_right (by decide : 1 < 2) |>.mp (Nat.lt_of_le_of_lt h1 h))
  obtain ⟨j, hj⟩ := Nat.exists_eq_add_of_le hl
  generalize r.log2 = l at h1 h2 hj hl
  have q1 : 2 ^ 52 ≤ r * 2 ^ j := by
    rw [hj, Nat.pow_add]; exact Nat.mul_le_mul_right _ h1
  have q2 : r * 2 ^ j ≤ 2 ^ 53 := by
    have : (2 : Nat) ^ 53 = 2 ^ (l + 1) * 2 ^ j := by rw [← Nat.pow_add]; congr 1; (first | lia | omega)
    rw [this]; exact Nat.mul_le_mul_right _ (Nat.le_of_lt h2)
  have hk : 1074 = (1074 - j) + j := by (first | lia | omega)
  have hv := V_at (k := 1074 - j) q2 (.inl q1)
  refine ⟨(1074 - j) * 2 ^ 52 + r * 2 ^ j, ?_, ?_⟩
  · have : (1074 - j) * 2 ^ 52 ≤ 1074 * 2 ^ 52 := Nat.mul_le_mul_right _ (Nat.sub_le _ _)
    unfold infMag
    (first | lia | omega)
  · rw [hv, Nat.mul_assoc, ← Nat.pow_add]
    congr 2
    (first | lia | omega)
theorem right_exact {x : UInt64} {neg : Bool} {r : Nat} (h : r < 2 ^ 53) (R : Right x neg (r * 2 ^ 1074) 1) : ∃ t, x = pack neg t ∧ t < infMag ∧ Float64.V t = r * 2 ^ 1074 := by
  obtain ⟨t, rfl, ht, hi, hn⟩ := R
  obtain ⟨t0, h0, e0⟩ := exact_V h
  have hne : t ≠ infMag := fun e => by
    have := hi.mp e
    rw [Nat.one_mul] at this
    have a1 : 2 * (r * 2 ^ 1074) < 2 ^ 54 * 2 ^ 1074 := by
      rw [← Nat.mul_assoc]; exact Nat.mul_lt_mul_of_pos_right (by (first | lia | omega)) (Nat.two_pow_pos _)
    have a2 : 2 ^ 54 * 2 ^ 1074 ≤ 2 ^ 2045 := by rw [← Nat.pow_add]; exact Nat.pow_le_pow_right (by decide) (by decide)
    have a3 : 1 * 2 ^ 2045 ≤ (2 ^ 54 - 1) * 2 ^ 2045 := Nat.mul_le_mul_right _ (by decide)
    rw [Nat.one_mul] at a3
    exact absurd (Nat.lt_of_lt_of_le a1 (Nat.le_trans a2 a3)) (Nat.not_lt.mpr this)
  have hlt := Nat.lt_of_le_of_ne ht hne
  refine ⟨t, rfl, hlt, ?_⟩
  have := (hn hlt t0).1
  rw [Nat.one_mul, Nat.one_mul, e0] at this
  generalize r * 2 ^ 1074 = w at this ⊢
  generalize Float64.V t = v at this ⊢
  unfold dist at this
  (first | lia | omega)
theorem V_inj {t t' : Nat} (h : Float64.V t = Float64.V t') : t = t' := by
  rcases Nat.lt_trichotomy t t' with q | q | q
  · have := V_lt q; (first | lia | omega)
  · exact q
  · have := V_lt q; (first | lia | omega)
theorem ofFrac_exact {neg : Bool} {r d : Nat} (hd : 0 < d) (h : r < 2 ^ 53) : ofFrac neg (r * d) d = ofFrac neg r 1 := by
  obtain ⟨t, e1, _, v1⟩ := right_exact (neg := neg) h (ofFrac_right (n := r * d) (d := d) hd (by rw [Nat.mul_one, Nat.mul_right_comm]) (by decide))
  obtain ⟨t', e2, _, v2⟩ := right_exact (neg := neg) h (ofFrac_right (n := r) (d := 1) (by decide) rfl (by decide))
  rw [e1, e2, V_inj (v1.trans v2.symm)]
theorem dec_ofInt {i : Int} (h : i.natAbs < 2 ^ 53) : ∃ m e, decode (ofInt i) = .fin (decide (i < 0)) m e ∧ m * 2 ^ (e + 1074).toNat = i.natAbs * 2 ^ 1074 := by
  obtain ⟨t, e1, h1, v1⟩ := right_exact h (ofInt_right i)
  obtain ⟨m, e, h2, h3⟩ := decode_pack (decide (i < 0)) h1
  exact ⟨m, e, by rw [e1]; exact h2, h3.trans v1⟩
theorem sgn_nat (i : Int) (k : Nat) : sgn (decide (i < 0)) (i.natAbs * k) = i * k := by
  rw [sgn_mul]
  congr 1
  unfold sgn
  by_cases h : i < 0
  · rw [if_pos (decide_eq_true h)]; (first | lia | omega)
  · rw [if_neg (by simpa using h)]; (first | lia | omega)
theorem cmp_ofInt {i j : Int} (h : i.natAbs < 2 ^ 53) : (cmpInt (ofInt i) j == some .eq) = (i == j) := by
  obtain ⟨m, e, hd, hv⟩ := dec_ofInt h
  rw [cmpInt_right hd, val_eq hd, hv, sgn_nat]
  have hp : ((2 ^ 1074 : Nat) : Int) = (2 : Int) ^ 1074 := by simp
  have hpos : (0 : Int) < (2 : Int) ^ 1074 := by rw [← hp]; exact Int.ofNat_lt.mpr (Nat.two_pow_pos _)
  rw [hp]
  generalize (2 : Int) ^ 1074 = K at hpos
  rw [Bool.eq_iff_iff, beq_iff_eq, beq_iff_eq, Option.some.injEq, Int.compare_eq_eq]
  exact ⟨fun q => Int.eq_of_mul_eq_mul_right (Int.ne_of_gt hpos) q, fun q => by rw [q]⟩
theorem floor_exact {n m : Nat} {e : Int} (he : -1074 ≤ e) (hv : m * 2 ^ (e + 1074).toNat = n * 2 ^ 1074) : floorOf false m e = n := by
  unfold floorOf sgn
  simp only [Bool.false_eq_true, if_false]
  by_cases h : e ≥ 0
  · rw [if_pos h]
    rw [show (e + 1074).toNat = e.toNat + 1074 by (first | lia | omega), Nat.pow_add, ← Nat.mul_assoc] at hv
    have := Nat.eq_of_mul_eq_mul_right (Nat.two_pow_pos _) hv
    rw [← this]; simp
  · rw [if_neg h]
    rw [show (2 : Nat) ^ 1074 = 2 ^ (-e).toNat * 2 ^ (e + 1074).toNat by rw [← Nat.pow_add]; congr 1; (first | lia | omega), ← Nat.mul_assoc] at hv
    have := Nat.eq_of_mul_eq_mul_right (Nat.two_pow_pos _) hv
    rw [this]
    have hp : ((2 ^ (-e).toNat : Nat) : Int) = (2 : Int) ^ (-e).toNat := by simp
    rw [← hp, Int.natCast_mul, Int.mul_fdiv_cancel]
    exact Int.ne_of_gt (Int.ofNat_lt.mpr (Nat.two_pow_pos _))
theorem trunc_ofInt {i : Int} {sg : Bool} {m : Nat} {e : Int} (h : i.natAbs < 2 ^ 53) (hd : decode (ofInt i) = .fin sg m e) : truncOf sg m e = i := by
  obtain ⟨m', e', hd', hv⟩ := dec_ofInt h
  rw [hd] at hd'
  cases hd'
  have hf := floor_exact (decode_ge hd) hv
  unfold truncOf ceilOf
  by_cases hi : i < 0
  · rw [if_pos (decide_eq_true hi), decide_eq_true hi, Bool.not_true, hf]; (first | lia | omega)
  · rw [if_neg (by simpa using hi), decide_eq_false hi, hf]; (first | lia | omega)
section
variable {prog : Program} {w : World} {A : Around} {E : Value → Shared → Prop} {s : Shared} {t u : Tok} {Q : Value → Shared → Prop}
theorem div_whole {r d : Int} (hA : A.handled = none) (hd : 0 < d) (hr : r.natAbs < 2 ^ 53) (h : Q (.float (ofInt r) s.toks) { s with toks := s.toks + 1 }) : wpAny (model prog w) A (binaryOp .Div (.int (r * d) t) (.int d u)) Q E s := by
  have hsg : (decide (r * d < 0) != decide (d < 0)) = decide (r < 0) := by
    rw [decide_eq_false (Int.not_lt.mpr (Int.le_of_lt hd)), Bool.bne_false]
    exact decide_eq_decide.mpr ⟨fun q => Int.not_le.mp fun q' => absurd q (Int.not_lt.mpr (Int.mul_nonneg q' (Int.le_of_lt hd))), fun q => Int.mul_neg_of_neg_of_pos q hd⟩
  have e : ofFrac (decide (r * d < 0) != decide (d < 0)) (r * d).natAbs d.natAbs = ofInt r := by
    rw [hsg, Int.natAbs_mul]; unfold ofInt; exact ofFrac_exact (Int.natAbs_pos.mpr (Int.ne_of_gt hd)) hr
  obtain ⟨m, e', hdc, _⟩ := dec_ofInt hr
  refine Flt.div_ii hA (fun q => absurd q (Int.ne_of_gt hd)) (fun _ q => ?_) fun _ _ => by rw [e]; exact h
  rw [e] at q
  unfold isInf at q
  rw [hdc] at q
  cases q
theorem int_whole {i : Int} (hi : i.natAbs < 2 ^ 53) (h : Q (.int i s.toks) { s with toks := s.toks + 1 }) : wpAny (model prog w) A (call (.type "int") [.float (ofInt i) t]) Q E s := by
  obtain ⟨m, e, hd, _⟩ := dec_ofInt hi
  exact call_int_float hd (by rw [trunc_ofInt hi hd]; exact h)
end
section
variable {A : Around} {s : Shared}
theorem rc_fi (a : UInt64) (t : Tok) (n : Int) (u : Tok) : SeqAt.RcAt A s (.float a t) (.int n u) (cmpInt a n == some .eq) := fun prog w E Q h => eq_fi h
theorem rn_fi (a : UInt64) (t : Tok) (n : Int) (u : Tok) : SeqAt.RcNeAt A s (.float a t) (.int n u) (!(cmpInt a n == some .eq)) := fun prog w E Q h => ne_fi h
theorem eq_at_fi (a : UInt64) (t : Tok) (n : Int) (u : Tok) : SeqAt.EqAt A s (.float a t) (.int n u) (cmpInt a n == some .eq) := fun prog w E Q h => by
  unfold eqBool
  refine wpAny_holding ?_
  refine wpAny_ite_split (fun hab => absurd (eq_of_beq hab) nofun) (fun _ => ?_)
  exact wpAny_bind (rc_fi a t n u prog w E _ (wpAny_truthy_bool h))
end
end Mine

end
section -- TS1
open PySem PyProof.Rows
namespace Mine
variable {prog : Program} {w : World} {A : Around} {E : Value → Shared → Prop} {s : Shared}

theorem wpS_elem {arr : Array Keyed} {i : Nat} {p : Keyed} {Q : Keyed → SortSt → Prop} {st : SortSt} (h : arr[i]? = some p) (q : Q p st) : wpS (model prog w) A E s (elem' arr i) Q st := by
  rw [elem'_eq, h]; exact wpS_pure q
theorem wpS_lt {x y : Keyed} {a b : Int} {t u : Tok} {Q : Option Bool → SortSt → Prop} {st : SortSt} (hk : kindOf st = oneType') (hx : x.1 = .int a t) (hy : y.1 = .int b u) (h : Q (some (decide (a < b))) st) : wpS (model prog w) A E s (lt' x y) Q st := by
  rw [lt'_eq]
  refine wpS_bind (wpS_get ?_)
  rw [hk, hx, hy, keyLt'_oneType]
  exact wpS_bind (wpS_lift (wpAny_attempt (oneLt_int ⟨rfl, wpS_pure h⟩)))

noncomputable def gallop' : Bool → Keyed → Array Keyed → Nat → Nat → Nat → StateT SortSt Sem (Option Nat) := sortPriv% PySem.Builtin.gallop
noncomputable def beyond' (left : Bool) (key : Keyed) (arr : Array Keyed) (base : Nat) (i : Nat) : StateT SortSt Sem (Option Bool) := do
    let x ← elem' arr (base + i)
    if left then lt' x key else return (← lt' key x).map (!·)
theorem wpS_if {α : Type} {c : Prop} [Decidable c] {x y : StateT SortSt Sem α} {st : SortSt} {Q : α → SortSt → Prop} (h1 : c → wpS (model prog w) A E s x Q st) (h2 : ¬c → wpS (model prog w) A E s y Q st) : wpS (model prog w) A E s (if c then x else y) Q st := by
  by_cases h : c
  · rw [if_pos h]; exact h1 h
  · rw [if_neg h]; exact h2 h
/-- beyond' answers by P -/
noncomputable def Bey (prog : Program) (w : World) (A : Around) (E : Value → Shared → Prop) (s : Shared) (left : Bool) (key : Keyed) (arr : Array Keyed) (base n : Nat) (st : SortSt) (P : Nat → Bool) : Prop :=
  ∀ i, i < n → ∀ Q : Option Bool → SortSt → Prop, Q (some (P i)) st → wpS (model prog w) A E s (beyond' left key arr base i) Q st
abbrev GaSt := Option (Option Nat) × Nat × Nat
/-- halving -/
noncomputable def gMid (left : Bool) (key : Keyed) (arr : Array Keyed) (base : Nat) (c : GaSt) : StateT SortSt Sem (ForInStep GaSt) :=
  if c.2.1 ≥ c.2.2 then pure (.done (none, c.2.1, c.2.2))
  else do
    let r ← beyond' left key arr base (c.2.1 + (c.2.2 - c.2.1) / 2)
    match r with
    | some more => if more = true then pure (.yield (none, c.2.1 + (c.2.2 - c.2.1) / 2 + 1, c.2.2)) else pure (.yield (none, c.2.1, c.2.1 + (c.2.2 - c.2.1) / 2))
    | _ => pure (.done (some none, c.2.1, c.2.2))
noncomputable def gEnd (c : GaSt) : StateT SortSt Sem (Option Nat) := match c.1 with
  | some r => pure r
  | none => pure (some c.2.2)
noncomputable def gLast (left : Bool) (key : Keyed) (arr : Array Keyed) (base n lo hi : Nat) : StateT SortSt Sem (Option Nat) := do
  let c ← forIn [:n] ((none, lo, hi) : GaSt) fun _ c => gMid left key arr base c
  gEnd c
/-- wider and wider, upwards and downwards -/
noncomputable def gUp (left : Bool) (key : Keyed) (arr : Array Keyed) (base hint mx : Nat) (c : GaSt) : StateT SortSt Sem (ForInStep GaSt) :=
  if c.2.2 ≥ mx then pure (.done (none, c.2.1, c.2.2))
  else do
    let r ← beyond' left key arr base (hint + c.2.2)
    match r with
    | some more => if (!more) = true then pure (.done (none, c.2.1, c.2.2)) else pure (.yield (none, c.2.2, 2 * c.2.2 + 1))
    | _ => pure (.done (some none, c.2.1, c.2.2))
noncomputable def gDn (left : Bool) (key : Keyed) (arr : Array Keyed) (base hint : Nat) (c : GaSt) : StateT SortSt Sem (ForInStep GaSt) :=
  if c.2.2 ≥ hint + 1 then pure (.done (none, c.2.1, c.2.2))
  else do
    let r ← beyond' left key arr base (hint - c.2.2)
    match r with
    | some found => if found = true then pure (.done (none, c.2.1, c.2.2)) else pure (.yield (none, c.2.2, 2 * c.2.2 + 1))
    | _ => pure (.done (some none, c.2.1, c.2.2))
noncomputable def gThen (c : GaSt) (f : Nat → Nat → StateT SortSt Sem (Option Nat)) : StateT SortSt Sem (Option Nat) := match c.1 with
  | some r => pure r
  | none => f c.2.1 c.2.2
theorem gallop_named (left : Bool) (key : Keyed) (arr : Array Keyed) (base n hint : Nat) : gallop' left key arr base n hint = (do
    let r ← beyond' left key arr base hint
    match r with
    | some right =>
      if right = true then do
        let c ← forIn [:n] ((none, 0, 1) : GaSt) fun _ c => gUp left key arr base hint (n - hint) c
        gThen c fun l o => gLast left key arr base n (hint + l + 1) (hint + min o (n - hint))
      else do
        let c ← forIn [:n] ((none, 0, 1) : GaSt) fun _ c => gDn left key arr base hint c
        gThen c fun l o => gLast left key arr base n (hint + 1 - min o (hint + 1)) (hint - l)
    | _ => pure none) := by kernel_rfl
section
variable {left : Bool} {key : Keyed} {arr : Array Keyed} {base n hint : Nat} {st : SortSt} {P : Nat → Bool} {Q : Option Nat → SortSt → Prop}
/-- the place, between l and r -/
noncomputable def GI (P : Nat → Bool) (n l r : Nat) : Prop := l ≤ r ∧ r ≤ n ∧ (∀ i, i < l → P i = true) ∧ ∀ i, r ≤ i → i < n → P i = false
noncomputable def Dwn (P : Nat → Bool) (n : Nat) : Prop := ∀ i j, i ≤ j → j < n → P j = true → P i = true
theorem Dwn.up (hm : Dwn P n) {i j : Nat} (h1 : i ≤ j) (h2 : j < n) (h3 : P i = false) : P j = false := by
  cases e : P j with
  | false => rfl
  | true => rw [hm i j h1 h2 e] at h3; (first | exact nS h3 | exact nO h3 | exact nF h3 | exact nT h3 | exact nN h3 | exact nC h3 | cases h3)
theorem mid_lt {l r : Nat} (h : l < r) : l + (r - l) / 2 < r := by
  obtain ⟨d, rfl⟩ := Nat.exists_eq_add_of_le (Nat.le_of_lt h)
  rw [Nat.add_sub_cancel_left]
  exact Nat.add_lt_add_left (Nat.div_lt_self (Nat.pos_of_lt_add_right h) (by decide)) l
theorem wpS_gMid (hB : Bey prog w A E s left key arr base n st P) (hm : Dwn P n) {x l r : Nat} {Z : ForInStep GaSt → SortSt → Prop} (h : GI P n l r) (hx : r + x ≤ l + n) (z1 : ∀ k, GI P n k k → Z (.done (none, k, k)) st) (z2 : ∀ l r, GI P n l r → r + (x + 1) ≤ l + n → Z (.yield (none, l, r)) st) :
    wpS (model prog w) A E s (gMid left key arr base (none, l, r)) Z st := by
  obtain ⟨a, b, e, f⟩ := h
  unfold gMid
  refine wpS_if (fun hge => ?_) fun hge => ?_
  · have : l = r := Nat.le_antisymm a hge
    subst this
    exact wpS_pure (z1 l ⟨a, b, e, f⟩)
  have hlt : l < r := Nat.not_le.mp hge
  have m1 : l ≤ l + (r - l) / 2 := Nat.le_add_right _ _
  have m2 := mid_lt hlt
  refine wpS_bind (hB _ (Nat.lt_of_lt_of_le m2 b) _ ?_)
  show wpS _ _ _ _ (if P (l + (r - l) / 2) = true then pure (.yield (none, l + (r - l) / 2 + 1, r)) else pure (.yield (none, l, l + (r - l) / 2))) Z st
  generalize l + (r - l) / 2 = m at m1 m2 ⊢
  refine wpS_if (fun ho => ?_) fun ho => ?_
  · exact wpS_pure (z2 _ _ ⟨m2, b, fun i hi => hm i m (Nat.le_of_lt_succ hi) (Nat.lt_of_lt_of_le m2 b) ho, f⟩ (by rw [Nat.add_right_comm m 1 n]; exact Nat.succ_le_succ (Nat.le_trans hx (Nat.add_le_add_right m1 n))))
  · exact wpS_pure (z2 _ _ ⟨m1, Nat.le_trans (Nat.le_of_lt m2) b, e, fun i h1 h2 => hm.up h1 h2 (Bool.eq_false_iff.mpr ho)⟩ (by rw [← Nat.add_assoc, Nat.add_right_comm]; exact Nat.le_trans (Nat.add_le_add_right m2 x) hx))
theorem wpS_gLast (hB : Bey prog w A E s left key arr base n st P) (hm : Dwn P n) {lo hi : Nat} (h : GI P n lo hi)
    (q : ∀ k, GI P n k k → Q (some k) st) : wpS (model prog w) A E s (gLast left key arr base n lo hi) Q st := by
  unfold gLast
  refine wpS_bind (wpS_mono (wpS_forRange (I := fun x c st' => st' = st ∧ ∃ l r, c = (none, l, r) ∧ GI P n l r ∧ r + x ≤ l + n)
    (Q := fun c st' => st' = st ∧ ∃ k, c = (none, k, k) ∧ GI P n k k) (fun x c st' _ _ h => ?_) (fun c st' h => ?_) ⟨rfl, lo, hi, rfl, h, Nat.le_trans h.2.1 (Nat.le_add_left _ _)⟩) fun c st' h => ?_)
  · obtain ⟨rfl, l, r, rfl, hG, hx⟩ := h
    exact wpS_gMid hB hm hG hx (fun k h => ⟨rfl, k, rfl, h⟩) fun l r h hx => ⟨rfl, l, r, rfl, h, hx⟩
  · obtain ⟨rfl, l, r, rfl, hG, hx⟩ := h
    rw [Nat.max_eq_right (Nat.zero_le _)] at hx
    have : r = l := Nat.le_antisymm (Nat.le_of_add_le_add_right hx) hG.1
    subst this
    exact ⟨rfl, r, rfl, hG⟩
  · obtain ⟨rfl, k, rfl, h⟩ := h
    exact wpS_pure (q k h)
theorem dbl {x o : Nat} (h : x < o) : x + 1 < 2 * o + 1 := by (first | assumption | exact q1 ‹_› | exact q2 ‹_› ‹_› | exact q3 ‹_› ‹_› | exact q4 ‹_› ‹_› | exact q5 ‹_› | exact q6 ‹_› | lia | omega)
theorem dbo (o : Nat) : o < 2 * o + 1 := by (first | assumption | exact q1 ‹_› | exact q2 ‹_› ‹_› | exact q3 ‹_› ‹_› | exact q4 ‹_› ‹_› | exact q5 ‹_› | exact q6 ‹_› | lia | omega)
/-- between two steps of the gallop -/
inductive GJ (st : SortSt) (R : Nat → Nat → Prop) (c : Option (Option Nat) × Nat × Nat) (st' : SortSt) : Prop where
  | mk (e : st' = st) (l o : Nat) (hc : c = (none, l, o)) (h : R l o) : GJ st R c st'
theorem wpS_gallop (hB : Bey prog w A E s left key arr base n st P) (hm : ∀ i j, i ≤ j → j < n → P j = true → P i = true) (hh : hint < n)
    (q : ∀ k, k ≤ n → (∀ i, i < k → P i = true) → (∀ i, k ≤ i → i < n → P i = false) → Q (some k) st) : wpS (model prog w) A E s (gallop' left key arr base n hint) Q st := by
  have fin : ∀ {lo hi}, GI P n lo hi → wpS (model prog w) A E s (gLast left key arr base n lo hi) Q st := fun h => wpS_gLast hB hm h fun k h => q k h.2.1 h.2.2.1 h.2.2.2
  clear q
  rw [gallop_named]
  refine wpS_bind (hB hint hh _ ?_)
  refine wpS_if (fun hp => ?_) fun hp => ?_
  · obtain ⟨mx, rfl⟩ := Nat.exists_eq_add_of_le (Nat.le_of_lt hh)
    rw [Nat.add_sub_cancel_left]
    have hmx : 0 < mx := Nat.pos_of_lt_add_right hh
    refine wpS_bind (wpS_mono (wpS_forRange (I := fun x c st' => GJ st (fun l o => l < o ∧ x < o ∧ l < mx ∧ P (hint + l) = true) c st')
      (Q := fun c st' => GJ st (fun l o => l < o ∧ l < mx ∧ P (hint + l) = true ∧ (o < mx → P (hint + o) = false)) c st') (fun x c st' _ _ h => ?_) (fun c st' h => ?_) ⟨rfl, 0, 1, rfl, Nat.one_pos, Nat.one_pos, hmx, hp⟩) fun c st' h => ?_)
    · obtain ⟨rfl, l, o, rfl, a, b, d, e⟩ := h
      unfold gUp
      refine wpS_if (fun hge => wpS_pure ⟨rfl, l, o, rfl, a, d, e, fun h => absurd h (Nat.not_lt.mpr hge)⟩) fun hge => ?_
      have ho := Nat.not_le.mp hge
      refine wpS_bind (hB _ (Nat.add_lt_add_left ho _) _ ?_)
      refine wpS_if (fun hn => wpS_pure ⟨rfl, l, o, rfl, a, d, e, fun _ => by rw [← Bool.not_eq_true']; exact hn⟩) fun hn => wpS_pure ⟨rfl, o, 2 * o + 1, rfl, dbo o, dbl b, ho, by simpa using hn⟩
    · obtain ⟨rfl, l, o, rfl, a, b, d, e⟩ := h
      rw [Nat.max_eq_right (Nat.zero_le _)] at b
      exact ⟨rfl, l, o, rfl, a, d, e, fun h => absurd (Nat.lt_trans b h) (Nat.not_lt.mpr (Nat.le_add_left _ _))⟩
    · obtain ⟨rfl, l, o, rfl, a, d, e, f⟩ := h
      refine fin ⟨?_, ?_, fun i hi => hm i (hint + l) (Nat.le_of_lt_succ hi) (Nat.add_lt_add_left d _) e, fun i h1 h2 => ?_⟩
      · exact Nat.add_le_add_left (Nat.le_min.mpr ⟨a, d⟩) hint
      · exact Nat.add_le_add_left (Nat.min_le_right _ _) hint
      · by_cases ho : o < mx
        · rw [Nat.min_eq_left (Nat.le_of_lt ho)] at h1
          exact Dwn.up hm h1 h2 (f ho)
        · rw [Nat.min_eq_right (Nat.not_lt.mp ho)] at h1
          exact absurd h2 (Nat.not_lt.mpr h1)
  · refine wpS_bind (wpS_mono (wpS_forRange (I := fun x c st' => GJ st (fun l o => l < o ∧ x < o ∧ l ≤ hint ∧ P (hint - l) = false) c st')
      (Q := fun c st' => GJ st (fun l o => l < o ∧ l ≤ hint ∧ P (hint - l) = false ∧ (o ≤ hint → P (hint - o) = true)) c st') (fun x c st' _ _ h => ?_) (fun c st' h => ?_) ⟨rfl, 0, 1, rfl, Nat.one_pos, Nat.one_pos, Nat.zero_le _, Bool.eq_false_iff.mpr hp⟩) fun c st' h => ?_)
    · obtain ⟨rfl, l, o, rfl, a, b, d, e⟩ := h
      unfold gDn
      refine wpS_if (fun hge => wpS_pure ⟨rfl, l, o, rfl, a, d, e, fun h => absurd h (Nat.not_le.mpr hge)⟩) fun hge => ?_
      have ho : o ≤ hint := Nat.le_of_lt_succ (Nat.not_le.mp hge)
      refine wpS_bind (hB _ (Nat.lt_of_le_of_lt (Nat.sub_le _ _) hh) _ ?_)
      refine wpS_if (fun hn => wpS_pure ⟨rfl, l, o, rfl, a, d, e, fun _ => hn⟩) fun hn => wpS_pure ⟨rfl, o, 2 * o + 1, rfl, dbo o, dbl b, ho, Bool.eq_false_iff.mpr hn⟩
    · obtain ⟨rfl, l, o, rfl, a, b, d, e⟩ := h
      rw [Nat.max_eq_right (Nat.zero_le _)] at b
      exact ⟨rfl, l, o, rfl, a, d, e, fun h => absurd (Nat.lt_of_lt_of_le b h) (Nat.not_lt.mpr (Nat.le_of_lt hh))⟩
    · obtain ⟨rfl, l, o, rfl, a, d, e, f⟩ := h
      refine fin ⟨?_, Nat.le_trans (Nat.sub_le _ _) (Nat.le_of_lt hh), fun i hi => ?_, fun i h1 h2 => Dwn.up hm h1 h2 e⟩
      · show hint + 1 - min o (hint + 1) ≤ hint - l
        (first | assumption | exact q1 ‹_› | exact q2 ‹_› ‹_› | exact q3 ‹_› ‹_› | exact q4 ‹_› ‹_› | exact q5 ‹_› | exact q6 ‹_› | omega)
      · by_cases ho : o ≤ hint
        · rw [Nat.min_eq_left (Nat.le_succ_of_le ho)] at hi
          exact hm i (hint - o) (by (first | assumption | exact q1 ‹_› | exact q2 ‹_› ‹_› | exact q3 ‹_› ‹_› | exact q4 ‹_› ‹_› | exact q5 ‹_› | exact q6 ‹_› | omega)) (Nat.lt_of_le_of_lt (Nat.sub_le _ _) hh) (f ho)
        · rw [Nat.min_eq_right (Nat.not_le.mp ho), Nat.sub_self] at hi
          exact absurd hi (Nat.not_lt_zero _)
end
end Mine

end
section -- TS2
open PySem PyProof.Rows
namespace Mine
variable {prog : Program} {w : World} {A : Around} {E : Value → Shared → Prop} {s : Shared}
abbrev setG (st : SortSt) (g : Nat) : SortSt := SortSt.mk' (kindOf st) (arrOf st) (pendingOf st) g (failedOf st)
noncomputable def setMinGallop' (g : Nat) : StateT SortSt Sem Unit := modify fun st => setG st g
noncomputable def mergeLo' : Array Keyed → Array Keyed → StateT SortSt Sem (Array Keyed) := sortPriv% PySem.Builtin.mergeLo
noncomputable def mergeHi' : Array Keyed → Array Keyed → StateT SortSt Sem (Array Keyed) := sortPriv% PySem.Builtin.mergeHi
noncomputable def kk (p : Keyed) : Int := numOf p.1
noncomputable def le (x y : Keyed) : Prop := kk x ≤ kk y
noncomputable def IK (l : List Keyed) : Prop := ∀ p ∈ l, ∃ n t, p.1 = .int n t
noncomputable def Srt (a : Array Keyed) : Prop := ∀ i j, i ≤ j → j < a.size → K a i ≤ K a j
theorem K_at {a : Array Keyed} {i : Nat} {p : Keyed} (h : a[i]? = some p) : K a i = kk p := by unfold K kk; rw [h]
inductive SegM (a : Array Keyed) (n k : Nat) (x : Keyed) : Prop where
  | mk (i : Nat) (h1 : n ≤ i) (h2 : i < n + k) (h3 : i < a.size) (h4 : kk x = K a i) : SegM a n k x
inductive DrM (a : Array Keyed) (n : Nat) (x : Keyed) : Prop where
  | mk (i : Nat) (h1 : n ≤ i) (h3 : i < a.size) (h4 : kk x = K a i) : DrM a n x
theorem drop_at {a : Array Keyed} {n i : Nat} {x : Keyed} (e : (a.toList.drop n)[i]? = some x) : n + i < a.size ∧ kk x = K a (n + i) := by
  rw [List.getElem?_drop, Array.getElem?_toList] at e
  exact ⟨(Array.getElem?_eq_some_iff.mp e).1, (K_at e).symm⟩
theorem seg_mem {a : Array Keyed} {n k : Nat} {x : Keyed} (h : x ∈ (a.toList.drop n).take k) : SegM a n k x := by
  obtain ⟨i, e⟩ := List.mem_iff_getElem?.mp h
  rw [List.getElem?_take] at e
  split at e
  · exact ⟨n + i, Nat.le_add_right _ _, Nat.add_lt_add_left ‹_› _, (drop_at e).1, (drop_at e).2⟩
  · (first | exact nS e | exact nO e | exact nF e | exact nT e | exact nN e | exact nC e | cases e)
theorem drop_mem {a : Array Keyed} {n : Nat} {x : Keyed} (h : x ∈ a.toList.drop n) : DrM a n x :=
  let ⟨i, e⟩ := List.mem_iff_getElem?.mp h
  ⟨n + i, Nat.le_add_right _ _, (drop_at e).1, (drop_at e).2⟩
theorem srt_pw {a : Array Keyed} (hs : Srt a) : a.toList.Pairwise le := List.pairwise_iff_getElem.mpr fun i j hi hj hij => by
  have e := hs i j (Nat.le_of_lt hij) hj
  rw [K_at (getElem?_pos a i hi), K_at (getElem?_pos a j hj)] at e
  exact e
theorem seg_srt {a : Array Keyed} (hs : Srt a) (n k : Nat) : ((a.toList.drop n).take k).Pairwise le := (srt_pw hs).sublist ((List.take_sublist _ _).trans (List.drop_sublist _ _))
theorem drop_srt {a : Array Keyed} (hs : Srt a) (n : Nat) : (a.toList.drop n).Pairwise le := (srt_pw hs).sublist (List.drop_sublist _ _)
structure MI (a b : Array Keyed) (o : List Keyed) (ia ib : Nat) : Prop where
  perm : (o ++ (a.toList.drop ia ++ b.toList.drop ib)).Perm (a.toList ++ b.toList)
  srt : o.Pairwise le
  la : ∀ x ∈ o, ∀ i, ia ≤ i → i < a.size → kk x ≤ K a i
  lb : ∀ x ∈ o, ∀ i, ib ≤ i → i < b.size → kk x ≤ K b i
section
variable {a b : Array Keyed} {o : List Keyed} {ia ib : Nat}
theorem MI.swap (h : MI a b o ia ib) : MI b a o ib ia :=
  ⟨((List.Perm.append_left o List.perm_append_comm).trans h.perm).trans List.perm_append_comm, h.srt, h.lb, h.la⟩
theorem MI.take (h : MI a b o ia ib) (hs : Srt a) {k : Nat} (hk : ∀ i j, ia ≤ i → i < ia + k → i < a.size → ib ≤ j → j < b.size → K a i ≤ K b j) : MI a b (o ++ (a.toList.drop ia).take k) (ia + k) ib := by
  refine ⟨?_, ?_, ?_, ?_⟩
  · have e : a.toList.drop ia = (a.toList.drop ia).take k ++ a.toList.drop (ia + k) := by rw [← List.drop_drop, List.take_append_drop]
    have := h.perm
    rw [e] at this
    simpa [List.append_assoc] using this
  · refine List.pairwise_append.mpr ⟨h.srt, seg_srt hs _ _, fun x hx y hy => ?_⟩
    obtain ⟨i, h1, h2, h3, h4⟩ := seg_mem hy
    show kk x ≤ kk y
    rw [h4]; exact h.la x hx i h1 h3
  · intro x hx i h1 h2
    rcases List.mem_append.mp hx with hx | hx
    · exact h.la x hx i (Nat.le_of_add_right_le h1) h2
    · obtain ⟨j, k1, k2, k3, k4⟩ := seg_mem hx
      rw [k4]; exact hs j i (Nat.le_of_lt (Nat.lt_of_lt_of_le k2 h1)) h2
  · intro x hx i h1 h2
    rcases List.mem_append.mp hx with hx | hx
    · exact h.lb x hx i h1 h2
    · obtain ⟨j, k1, k2, k3, k4⟩ := seg_mem hx
      rw [k4]; exact hk j i k1 k2 k3 h1 h2
theorem MI.done (h : MI a b o ia ib) (ha : Srt a) (hb : Srt b) (hk : ∀ i j, ia ≤ i → i < a.size → ib ≤ j → j < b.size → K a i ≤ K b j) :
    (o ++ a.toList.drop ia ++ b.toList.drop ib).Perm (a.toList ++ b.toList) ∧ (o ++ a.toList.drop ia ++ b.toList.drop ib).Pairwise le := by
  rw [List.append_assoc]
  refine ⟨h.perm, List.pairwise_append.mpr ⟨h.srt, List.pairwise_append.mpr ⟨drop_srt ha _, drop_srt hb _, fun x hx y hy => ?_⟩, fun x hx y hy => ?_⟩⟩
  · obtain ⟨i, h1, h2, h3⟩ := drop_mem hx
    obtain ⟨j, k1, k2, k3⟩ := drop_mem hy
    show kk x ≤ kk y
    rw [h3, k3]; exact hk i j h1 h2 k1 k2
  · show kk x ≤ kk y
    rcases List.mem_append.mp hy with hy | hy
    · obtain ⟨j, k1, k2, k3⟩ := drop_mem hy
      rw [k3]; exact h.la x hx j k1 k2
    · obtain ⟨j, k1, k2, k3⟩ := drop_mem hy
      rw [k3]; exact h.lb x hx j k1 k2
end
theorem take_one {a : Array Keyed} {i : Nat} {p : Keyed} (h : a[i]? = some p) : (a.toList.drop i).take 1 = [p] := by
  obtain ⟨h1, h2⟩ := Array.getElem?_eq_some_iff.mp h
  rw [List.drop_eq_getElem_cons (i := i) (l := a.toList) h1, ← h2]; rfl
theorem ext_list (a : Array Keyed) (i k : Nat) : (a.extract i (i + k)).toList = (a.toList.drop i).take k := by
  rw [Array.toList_extract, List.extract_eq_take_drop, Nat.add_sub_cancel_left]
theorem ext_all (a : Array Keyed) (i : Nat) : (a.extract i a.size).toList = a.toList.drop i := by
  rw [Array.toList_extract, List.extract_eq_take_drop]; exact List.take_of_length_le (by rw [List.length_drop, Array.length_toList]; exact Nat.le_refl _)

inductive IkAt (a : Array Keyed) (i : Nat) : Prop where
  | mk (p : Keyed) (t : Tok) (e : a[i]? = some p) (k1 : p.1 = .int (K a i) t) (k2 : K a i = kk p) : IkAt a i
theorem ik_at {a : Array Keyed} (h : IK a.toList) {i : Nat} (hi : i < a.size) : IkAt a i := by
  obtain ⟨n, t, e⟩ := h a[i] (Array.getElem_mem_toList hi)
  have k := K_at (getElem?_pos a i hi)
  refine ⟨a[i], t, getElem?_pos a i hi, ?_, k⟩
  rw [k]
  unfold kk; rw [e]; rfl
theorem bey_R {key : Keyed} {n : Int} {t : Tok} {arr : Array Keyed} {base m : Nat} {st : SortSt} (hk : kindOf st = oneType') (hkey : key.1 = .int n t) (ha : IK arr.toList) (hm : base + m ≤ arr.size) :
    Bey prog w A E s false key arr base m st fun i => !decide (n < K arr (base + i)) := fun i hi Q q => by
  obtain ⟨p, u, h1, h2, h3⟩ := ik_at ha (Nat.lt_of_lt_of_le (Nat.add_lt_add_left hi _) hm)
  exact wpS_bind (wpS_elem h1 (wpS_bind (wpS_lt hk hkey h2 (wpS_pure q))))
theorem bey_L {key : Keyed} {n : Int} {t : Tok} {arr : Array Keyed} {base m : Nat} {st : SortSt} (hk : kindOf st = oneType') (hkey : key.1 = .int n t) (ha : IK arr.toList) (hm : base + m ≤ arr.size) :
    Bey prog w A E s true key arr base m st fun i => decide (K arr (base + i) < n) := fun i hi Q q => by
  obtain ⟨p, u, h1, h2, h3⟩ := ik_at ha (Nat.lt_of_lt_of_le (Nat.add_lt_add_left hi _) hm)
  exact wpS_bind (wpS_elem h1 (wpS_lt hk h2 hkey q))
theorem shft {Q : Nat → Prop} {b k : Nat} (h : ∀ i, i < k → Q (b + i)) (i : Nat) (h1 : b ≤ i) (h2 : i < b + k) : Q i := by
  obtain ⟨j, rfl⟩ := Nat.exists_eq_add_of_le h1
  exact h j (Nat.lt_of_add_lt_add_left h2)
theorem shfu {Q : Nat → Prop} {b k m : Nat} (h : ∀ i, k ≤ i → i < m → Q (b + i)) (i : Nat) (h1 : b + k ≤ i) (h2 : i < b + m) : Q i := by
  obtain ⟨j, rfl⟩ := Nat.exists_eq_add_of_le (Nat.le_of_add_right_le h1)
  exact h j (Nat.le_of_add_le_add_left h1) (Nat.lt_of_add_lt_add_left h2)
theorem nd_t {p : Prop} [Decidable p] (h : (!decide p) = true) : ¬ p := fun q => by rw [decide_eq_true q] at h; (first | exact nS h | exact nO h | exact nF h | exact nT h | exact nN h | exact nC h | cases h)
theorem nd_f {p : Prop} [Decidable p] (h : (!decide p) = false) : p := Decidable.of_not_not fun q => by rw [decide_eq_false q] at h; (first | exact nS h | exact nO h | exact nF h | exact nT h | exact nN h | exact nC h | cases h)
theorem nd_i {p : Prop} [Decidable p] (h : ¬ p) : (!decide p) = true := by rw [decide_eq_false h]; rfl
section
variable {key : Keyed} {n : Int} {t : Tok} {arr : Array Keyed} {base m hint : Nat} {st : SortSt} {Q : Option Nat → SortSt → Prop}
/-- how many of a row are up to a number -/
theorem wpS_galR (hk : kindOf st = oneType') (hkey : key.1 = .int n t) (ha : IK arr.toList) (hs : ∀ i j, base ≤ i → i ≤ j → j < base + m → K arr i ≤ K arr j) (hm : base + m ≤ arr.size) (hh : hint < m)
    (q : ∀ k, k ≤ m → (∀ i, base ≤ i → i < base + k → K arr i ≤ n) → (∀ i, base + k ≤ i → i < base + m → n < K arr i) → Q (some k) st) : wpS (model prog w) A E s (gallop' false key arr base m hint) Q st :=
  wpS_gallop (bey_R hk hkey ha hm) (fun i j h1 h2 h3 => nd_i fun h => nd_t h3 (Int.lt_of_lt_of_le h (hs _ _ (Nat.le_add_right _ _) (Nat.add_le_add_left h1 _) (Nat.add_lt_add_left h2 _)))) hh
    fun k h1 h2 h3 => q k h1 (shft fun i h => Int.not_lt.mp (nd_t (h2 i h))) (shfu fun i h h' => nd_f (h3 i h h'))
/-- how many of a row are below a number -/
theorem wpS_galL (hk : kindOf st = oneType') (hkey : key.1 = .int n t) (ha : IK arr.toList) (hs : ∀ i j, base ≤ i → i ≤ j → j < base + m → K arr i ≤ K arr j) (hm : base + m ≤ arr.size) (hh : hint < m)
    (q : ∀ k, k ≤ m → (∀ i, base ≤ i → i < base + k → K arr i < n) → (∀ i, base + k ≤ i → i < base + m → n ≤ K arr i) → Q (some k) st) : wpS (model prog w) A E s (gallop' true key arr base m hint) Q st :=
  wpS_gallop (bey_L hk hkey ha hm) (fun i j h1 h2 h3 => decide_eq_true (Int.lt_of_le_of_lt (hs _ _ (Nat.le_add_right _ _) (Nat.add_le_add_left h1 _) (Nat.add_lt_add_left h2 _)) (of_decide_eq_true h3))) hh
    fun k h1 h2 h3 => q k h1 (shft fun i h => of_decide_eq_true (h2 i h)) (shfu fun i h h' => Int.not_lt.mp (of_decide_eq_false (h3 i h h')))
end
end Mine

end
section -- TS3
open PySem PyProof.Rows
namespace Mine
variable {prog : Program} {w : World} {A : Around} {E : Value → Shared → Prop} {s : Shared}
variable {a b : Array Keyed} {st : SortSt}

/-- the merged row -/
noncomputable def Mrg (a b : Array Keyed) (out : Array Keyed) : Prop := out.toList.Perm (a.toList ++ b.toList) ∧ out.toList.Pairwise le
theorem dn_list {out : Array Keyed} {ia ib : Nat} : (out ++ a.extract ia a.size ++ b.extract ib b.size).toList = out.toList ++ a.toList.drop ia ++ b.toList.drop ib := by simp only [Array.toList_append, ext_all]
theorem MI.dn {out : Array Keyed} {ia ib : Nat} (h : MI a b out.toList ia ib) (ha : Srt a) (hb : Srt b) (hk : ∀ i j, ia ≤ i → i < a.size → ib ≤ j → j < b.size → K a i ≤ K b j) : Mrg a b (out ++ a.extract ia a.size ++ b.extract ib b.size) := by
  unfold Mrg
  rw [dn_list]; exact h.done ha hb hk
theorem Mrg.swap {out : Array Keyed} (h : Mrg a b out) : Mrg b a out := ⟨h.1.trans List.perm_append_comm, h.2⟩
theorem MI.pushA {out : Array Keyed} {ia ib : Nat} {p : Keyed} (h : MI a b out.toList ia ib) (ha : Srt a) (hp : a[ia]? = some p) (hk : ∀ j, ib ≤ j → j < b.size → K a ia ≤ K b j) : MI a b (out.push p).toList (ia + 1) ib := by
  rw [Array.toList_push, ← take_one hp]
  exact h.take ha (k := 1) fun i j h1 h2 _ h3 h4 => Nat.le_antisymm (Nat.le_of_lt_succ h2) h1 ▸ hk j h3 h4
theorem MI.extA {out : Array Keyed} {ia ib k : Nat} (h : MI a b out.toList ia ib) (ha : Srt a) (hk : ∀ i j, ia ≤ i → i < ia + k → i < a.size → ib ≤ j → j < b.size → K a i ≤ K b j) : MI a b (out ++ a.extract ia (ia + k)).toList (ia + k) ib := by
  rw [Array.toList_append, ext_list]; exact h.take ha hk
theorem MI.start {p : Keyed} (h : b[0]? = some p) (ha : Srt a) (hb : Srt b) (h0 : ∀ j, j < a.size → K b 0 ≤ K a j) : MI a b (#[p] : Array Keyed).toList 0 1 := by
  have h1 : MI a b (#[] : Array Keyed).toList 0 0 := ⟨by simp, .nil, fun x hx => by simp at hx, fun x hx => by simp at hx⟩
  exact (h1.swap.pushA hb h fun j _ hj => h0 j hj).swap

abbrev LoSt := Option (Array Keyed) × Array Keyed × Nat × Nat × Nat × Nat × Nat
noncomputable def loDone (a b out : Array Keyed) (ia ib : Nat) : Array Keyed := out ++ a.extract ia a.size ++ b.extract ib b.size
noncomputable def loLast (a b out : Array Keyed) (ia ib : Nat) : Array Keyed := out ++ b.extract ib b.size ++ a.extract ia a.size
noncomputable def loC (a b out : Array Keyed) (ia ib mg ac bc : Nat) : StateT SortSt Sem (ForInStep LoSt) := do
  let out := out.push (← elem' a ia)
  let ia := ia + 1
  if ia + 1 == a.size then return .done (some (loLast a b out ia ib), out, ia, ib, mg, ac, bc)
  if ac < 7 && bc < 7 then return .done (none, out, ia, ib, mg, ac, bc)
  return .yield (none, out, ia, ib, mg, ac, bc)
noncomputable def loB (a b out : Array Keyed) (ia ib mg ac bc : Nat) : StateT SortSt Sem (ForInStep LoSt) := do
  let out := out.push (← elem' b ib)
  let ib := ib + 1
  if ib == b.size then return .done (some (loDone a b out ia ib), out, ia, ib, mg, ac, bc)
  let some k ← gallop' true (← elem' a ia) b ib (b.size - ib) 0 | return .done (some (loDone a b out ia ib), out, ia, ib, mg, ac, bc)
  if k > 0 then
    if ib + k == b.size then return .done (some (loDone a b (out ++ b.extract ib (ib + k)) ia (ib + k)), out ++ b.extract ib (ib + k), ia, ib + k, mg, ac, k)
    loC a b (out ++ b.extract ib (ib + k)) ia (ib + k) mg ac k
  else loC a b out ia ib mg ac k
noncomputable def loA (a b out : Array Keyed) (ia ib mg ac bc : Nat) : StateT SortSt Sem (ForInStep LoSt) := do
  setMinGallop' mg
  let some k ← gallop' false (← elem' b ib) a ia (a.size - ia) 0 | return .done (some (loDone a b out ia ib), out, ia, ib, mg, ac, bc)
  if k > 0 then
    if ia + k + 1 == a.size then return .done (some (loLast a b (out ++ a.extract ia (ia + k)) (ia + k) ib), out ++ a.extract ia (ia + k), ia + k, ib, mg, k, bc)
    if ia + k == a.size then return .done (some (loDone a b (out ++ a.extract ia (ia + k)) (ia + k) ib), out ++ a.extract ia (ia + k), ia + k, ib, mg, k, bc)
    loB a b (out ++ a.extract ia (ia + k)) (ia + k) ib mg k bc
  else loB a b out ia ib mg k bc
/-- both rows are left -/
noncomputable def LoB (a b : Array Keyed) (x : Nat) (out : Array Keyed) (ia ib : Nat) : Prop := MI a b out.toList ia ib ∧ ia + 1 < a.size ∧ ib < b.size ∧ x < ia + ib
/-- between two turns -/
inductive LoI (a b : Array Keyed) (st : SortSt) (x : Nat) (c : LoSt) (st' : SortSt) : Prop where
  | mk (out ia ib mg ac bc g) (e0 : c = (none, out, ia, ib, mg, ac, bc)) (e1 : st' = setG st g) (h : LoB a b x out ia ib) : LoI a b st x c st'
inductive LoQD (a b : Array Keyed) (st : SortSt) (c : LoSt) (st' : SortSt) : Prop where
  | mk (r rest g) (e0 : c = (some r, rest)) (e1 : st' = setG st g) (h : Mrg a b r) : LoQD a b st c st'
noncomputable def LoQ (a b : Array Keyed) (st : SortSt) (x : Nat) (c : LoSt) (st' : SortSt) : Prop := LoQD a b st c st' ∨ LoI a b st x c st'
noncomputable def LoP (a b : Array Keyed) (st : SortSt) (x : Nat) (r : ForInStep LoSt) (st' : SortSt) : Prop := match r with
  | .done c => LoQ a b st x c st'
  | .yield c => LoI a b st x c st'
/-- what the two rows are -/
structure Two (a b : Array Keyed) : Prop where
  ka : IK a.toList
  kb : IK b.toList
  sa : Srt a
  sb : Srt b
  na : 0 < a.size
  nb : 0 < b.size
  h0 : ∀ j, j < a.size → K b 0 ≤ K a j
  hl : ∀ i j, i + 1 = a.size → j < b.size → K b j ≤ K a i
section
variable {out : Array Keyed} {ia ib mg ac bc g x : Nat}
theorem Two.last (T : Two a b) (h : MI a b out.toList ia ib) (e : ia + 1 = a.size) : Mrg a b (loLast a b out ia ib) :=
  (h.swap.dn T.sb T.sa fun i j _ h4 h5 h6 => T.hl j i (Nat.le_antisymm h6 (e ▸ Nat.succ_le_succ h5)) h4).swap
theorem Two.endB (T : Two a b) (h : MI a b out.toList ia ib) (e : ib = b.size) : Mrg a b (loDone a b out ia ib) := h.dn T.sa T.sb fun i j _ _ h5 h6 => absurd (e ▸ h5) (Nat.not_le.mpr h6)
theorem Two.endA (T : Two a b) (h : MI a b out.toList ia ib) (e : ia = a.size) : Mrg a b (loDone a b out ia ib) := h.dn T.sa T.sb fun i j h3 h4 _ _ => absurd (e ▸ h3) (Nat.not_le.mpr h4)
theorem nbq {i n : Nat} (h : i ≤ n) (q : ¬ (i == n) = true) : i < n := Nat.lt_of_le_of_ne h fun e => q (beq_iff_eq.mpr e)
theorem zk {k i j : Nat} (h : ¬ k > 0) (q : i ≤ j) : i + k ≤ j := by rw [Nat.eq_zero_of_not_pos h]; exact q
theorem upA {x i j : Nat} (h : x ≤ i + j) : x < i + 1 + j := by (first | assumption | exact q1 ‹_› | exact q2 ‹_› ‹_› | exact q3 ‹_› ‹_› | exact q4 ‹_› ‹_› | exact q5 ‹_› | exact q6 ‹_› | lia | omega)
theorem upAk {x i j k : Nat} (h : x ≤ i + j) : x ≤ i + k + j := by (first | assumption | exact q1 ‹_› | exact q2 ‹_› ‹_› | exact q3 ‹_› ‹_› | exact q4 ‹_› ‹_› | exact q5 ‹_› | exact q6 ‹_› | lia | omega)
theorem upBk {x i j k : Nat} (h : x ≤ i + j) : x ≤ i + (j + 1 + k) := by (first | assumption | exact q1 ‹_› | exact q2 ‹_› ‹_› | exact q3 ‹_› ‹_› | exact q4 ‹_› ‹_› | exact q5 ‹_› | exact q6 ‹_› | lia | omega)
theorem wpS_loC (T : Two a b) (hM : MI a b out.toList ia ib) (h3 : ia + 1 < a.size) (h4 : ib < b.size) (h5 : x ≤ ia + ib) (hk : ∀ j, ib ≤ j → j < b.size → K a ia ≤ K b j) : wpS (model prog w) A E s (loC a b out ia ib mg ac bc) (LoP a b st x) (setG st g) := by
  obtain ⟨pa, ta, ea, ka1, ka2⟩ := ik_at T.ka (Nat.lt_of_succ_lt h3)
  have M1 := hM.pushA T.sa ea hk
  clear hk hM ka1 ka2
  unfold loC
  refine wpS_bind (wpS_elem ea ?_)
  clear ea
  refine wpS_if (fun hend => wpS_pure (.inl ⟨_, _, g, rfl, rfl, T.last M1 (eq_of_beq hend)⟩)) fun hend => ?_
  have I1 : LoB a b x (out.push pa) (ia + 1) ib := ⟨M1, nbq h3 hend, h4, upA h5⟩
  exact wpS_if (fun _ => wpS_pure (.inr ⟨_, _, _, _, _, _, g, rfl, rfl, I1⟩)) fun _ => wpS_pure ⟨_, _, _, _, _, _, g, rfl, rfl, I1⟩
theorem wpS_loB (T : Two a b) (hs : kindOf st = oneType') (hM : MI a b out.toList ia ib) (h3 : ia + 1 < a.size) (h4 : ib < b.size) (h5 : x ≤ ia + ib) (hk : ∀ i, ia ≤ i → i < a.size → K b ib ≤ K a i) : wpS (model prog w) A E s (loB a b out ia ib mg ac bc) (LoP a b st x) (setG st g) := by
  obtain ⟨pb, tb, eb, kb1, kb2⟩ := ik_at T.kb h4
  obtain ⟨pa, ta, ea, ka1, ka2⟩ := ik_at T.ka (Nat.lt_of_succ_lt h3)
  have M1 := (hM.swap.pushA T.sb eb hk).swap
  clear hM hk kb1 kb2 ka2
  unfold loB
  refine wpS_bind (wpS_elem eb ?_)
  clear eb
  refine wpS_if (fun hend => wpS_pure (.inl ⟨_, _, g, rfl, rfl, T.endB M1 (eq_of_beq hend)⟩)) fun hend => ?_
  have h4' := nbq h4 hend
  have e : ib + 1 + (b.size - (ib + 1)) = b.size := Nat.add_sub_of_le h4
  refine wpS_bind (wpS_elem ea (wpS_bind (wpS_galL hs ka1 T.kb (fun i j _ h6 h7 => T.sb i j h6 (Nat.lt_of_lt_of_eq h7 e)) (Nat.le_of_eq e) (Nat.sub_pos_of_lt h4') fun k hk1 hk2 hk3 => ?_)))
  have hk3' : ∀ j, ib + 1 + k ≤ j → j < b.size → K a ia ≤ K b j := fun j h6 h7 => hk3 j h6 (Nat.lt_of_lt_of_eq h7 e.symm)
  clear hk3 ka1 ea
  refine wpS_if (fun hk0 => ?_) fun hk0 => wpS_loC T M1 h3 h4' (upBk (k := 0) h5) fun j h6 h7 => hk3' j (zk hk0 h6) h7
  have M2 := (M1.swap.extA T.sb (k := k) fun i j h6 h7 h8 h9 h10 => Int.le_trans (Int.le_of_lt (hk2 i h6 h7)) (T.sa ia j h9 h10)).swap
  clear M1 hk2
  exact wpS_if (fun hend => wpS_pure (.inl ⟨_, _, g, rfl, rfl, T.endB M2 (eq_of_beq hend)⟩)) fun hend => wpS_loC T M2 h3 (nbq (Nat.le_trans (Nat.add_le_add_left hk1 _) (Nat.le_of_eq e)) hend) (upBk h5) hk3'
theorem wpS_loA (T : Two a b) (hs : kindOf st = oneType') (hM : MI a b out.toList ia ib) (h3 : ia + 1 < a.size) (h4 : ib < b.size) (h5 : x ≤ ia + ib) : wpS (model prog w) A E s (loA a b out ia ib mg ac bc) (LoP a b st x) (setG st g) := by
  obtain ⟨pb, tb, eb, kb1, kb2⟩ := ik_at T.kb h4
  have h3' := Nat.lt_of_succ_lt h3
  have e : ia + (a.size - ia) = a.size := Nat.add_sub_of_le (Nat.le_of_lt h3')
  unfold loA setMinGallop'
  refine wpS_bind (wpS_modify (wpS_bind (wpS_elem eb (wpS_bind (wpS_galR hs kb1 T.ka (fun i j _ h6 h7 => T.sa i j h6 (Nat.lt_of_lt_of_eq h7 e)) (Nat.le_of_eq e) (Nat.sub_pos_of_lt h3') fun k hk1 hk2 hk3 => ?_)))))
  have hk3' : ∀ j, ia + k ≤ j → j < a.size → K b ib ≤ K a j := fun j h6 h7 => Int.le_of_lt (hk3 j h6 (Nat.lt_of_lt_of_eq h7 e.symm))
  clear hk3 kb1 eb
  refine wpS_if (fun hk0 => ?_) fun hk0 => wpS_loB (st := st) (g := mg) T hs hM h3 h4 h5 fun j h6 h7 => hk3' j (zk hk0 h6) h7
  have M2 := hM.extA T.sa (k := k) fun i j h6 h7 h8 h9 h10 => Int.le_trans (hk2 i h6 h7) (T.sb ib j h9 h10)
  clear hM hk2
  exact wpS_if (fun hend => wpS_pure (.inl ⟨_, _, mg, rfl, rfl, T.last M2 (eq_of_beq hend)⟩)) fun hend => wpS_if (fun hend2 => wpS_pure (.inl ⟨_, _, mg, rfl, rfl, T.endA M2 (eq_of_beq hend2)⟩)) fun hend2 =>
    wpS_loB (st := st) (g := mg) T hs M2 (nbq (nbq (Nat.le_trans (Nat.add_le_add_left hk1 _) (Nat.le_of_eq e)) hend2) hend) h4 (upAk h5) hk3'
end
abbrev Lo1 := Option (Array Keyed) × Array Keyed × Nat × Nat × Nat × Nat
/-- one comparison -/
noncomputable def loS (a b : Array Keyed) (mg : Nat) (c : Lo1) : StateT SortSt Sem (ForInStep Lo1) := do
  let y ← elem' b c.2.2.2.1
  let x ← elem' a c.2.2.1
  let r ← lt' y x
  match r with
  | some bWins =>
    if bWins = true then do
      let p ← elem' b c.2.2.2.1
      if (c.2.2.2.1 + 1 == b.size) = true then pure (.done (some (loDone a b (c.2.1.push p) c.2.2.1 (c.2.2.2.1 + 1)), c.2.1.push p, c.2.2.1, c.2.2.2.1 + 1, 0, c.2.2.2.2.2 + 1))
      else if c.2.2.2.2.2 + 1 ≥ mg then pure (.done (none, c.2.1.push p, c.2.2.1, c.2.2.2.1 + 1, 0, c.2.2.2.2.2 + 1))
      else pure (.yield (none, c.2.1.push p, c.2.2.1, c.2.2.2.1 + 1, 0, c.2.2.2.2.2 + 1))
    else do
      let p ← elem' a c.2.2.1
      if (c.2.2.1 + 1 + 1 == a.size) = true then pure (.done (some (loLast a b (c.2.1.push p) (c.2.2.1 + 1) c.2.2.2.1), c.2.1.push p, c.2.2.1 + 1, c.2.2.2.1, c.2.2.2.2.1 + 1, 0))
      else if c.2.2.2.2.1 + 1 ≥ mg then pure (.done (none, c.2.1.push p, c.2.2.1 + 1, c.2.2.2.1, c.2.2.2.2.1 + 1, 0))
      else pure (.yield (none, c.2.1.push p, c.2.2.1 + 1, c.2.2.2.1, c.2.2.2.2.1 + 1, 0))
  | _ => pure (.done (some (loDone a b c.2.1 c.2.2.1 c.2.2.2.1), c.2))
noncomputable def loG (a b : Array Keyed) (c : LoSt) : StateT SortSt Sem (ForInStep LoSt) :=
  if c.2.2.2.2.1 > 1 then loA a b c.2.1 c.2.2.1 c.2.2.2.1 (c.2.2.2.2.1 - 1) c.2.2.2.2.2.1 c.2.2.2.2.2.2 else loA a b c.2.1 c.2.2.1 c.2.2.2.1 c.2.2.2.2.1 c.2.2.2.2.2.1 c.2.2.2.2.2.2
abbrev LoT := Option (Array Keyed) × Array Keyed × Nat × Nat × Nat
noncomputable def loE (c : LoSt) : StateT SortSt Sem (ForInStep LoT) := match c.1 with
  | some r => pure (.done (some r, c.2.1, c.2.2.1, c.2.2.2.1, c.2.2.2.2.1))
  | none => do
    setMinGallop' (c.2.2.2.2.1 + 1)
    pure (.yield (none, c.2.1, c.2.2.1, c.2.2.2.1, c.2.2.2.2.1 + 1))
noncomputable def loM (a b : Array Keyed) (mg : Nat) (c : Lo1) : StateT SortSt Sem (ForInStep LoT) := match c.1 with
  | some r => pure (.done (some r, c.2.1, c.2.2.1, c.2.2.2.1, mg))
  | none => do
    liftM (rule "list.sort.gallop")
    let d ← forIn [:a.size + b.size] ((none, c.2.1, c.2.2.1, c.2.2.2.1, mg + 1, c.2.2.2.2.1, c.2.2.2.2.2) : LoSt) fun _ d => loG a b d
    loE d
noncomputable def loT (a b : Array Keyed) (c : LoT) : StateT SortSt Sem (ForInStep LoT) := do
  let d ← forIn [:a.size + b.size] ((none, c.2.1, c.2.2.1, c.2.2.2.1, 0, 0) : Lo1) fun _ d => loS a b c.2.2.2.2 d
  loM a b c.2.2.2.2 d
noncomputable def loF (c : LoT) : StateT SortSt Sem (Array Keyed) := match c.1 with
  | some r => pure r
  | none => liftM (unsupported "internal:list.sort.merge-bound" : Sem (Array Keyed))
theorem mergeLo_named (a b : Array Keyed) : mergeLo' a b = (do
    liftM (rule "list.sort.merge-lo")
    let p ← elem' b 0
    if (1 == b.size) = true then pure (loDone a b #[p] 0 1)
    else if (0 + 1 == a.size) = true then pure (loLast a b #[p] 0 1)
    else do
      let t ← get
      let c ← forIn [:a.size + b.size] ((none, #[p], 0, 1, gallopOf t) : LoT) fun _ c => loT a b c
      loF c) := by
  kernel_rfl
/-- between two comparisons -/
inductive L1I (a b : Array Keyed) (x : Nat) (c : Lo1) : Prop where
  | mk (out ia ib ac bc) (e0 : c = (none, out, ia, ib, ac, bc)) (h : LoB a b x out ia ib) : L1I a b x c
inductive L1QD (a b : Array Keyed) (c : Lo1) : Prop where
  | mk (r rest) (e0 : c = (some r, rest)) (h : Mrg a b r) : L1QD a b c
noncomputable def L1Q (a b : Array Keyed) (x : Nat) (c : Lo1) : Prop := L1QD a b c ∨ L1I a b x c
theorem LoB.mono {x y ia ib : Nat} {out : Array Keyed} (h : LoB a b y out ia ib) (hx : x ≤ y) : LoB a b x out ia ib := ⟨h.1, h.2.1, h.2.2.1, Nat.lt_of_le_of_lt hx h.2.2.2⟩
theorem stA {x i j : Nat} (h : x < i + j) : x + 1 < i + 1 + j := by (first | assumption | exact q1 ‹_› | exact q2 ‹_› ‹_› | exact q3 ‹_› ‹_› | exact q4 ‹_› ‹_› | exact q5 ‹_› | exact q6 ‹_› | lia | omega)
theorem wpS_loS {x mg : Nat} {c : Lo1} {Z : ForInStep Lo1 → SortSt → Prop} (T : Two a b) (hk : kindOf st = oneType') (h : L1I a b x c) (z1 : ∀ c, L1Q a b (x + 1) c → Z (.done c) st) (z2 : ∀ c, L1I a b (x + 1) c → Z (.yield c) st) : wpS (model prog w) A E s (loS a b mg c) Z st := by
  obtain ⟨out, ia, ib, ac, bc, rfl, hM, h3, h4, h5⟩ := h
  obtain ⟨pb, tb, eb, kb1, kb2⟩ := ik_at T.kb h4
  obtain ⟨pa, ta, ea, ka1, ka2⟩ := ik_at T.ka (Nat.lt_of_succ_lt h3)
  unfold loS
  refine wpS_bind (wpS_elem eb (wpS_bind (wpS_elem ea (wpS_bind (wpS_lt hk kb1 ka1 ?_)))))
  clear kb1 kb2 ka1 ka2
  refine wpS_if (fun hlt => ?_) fun hlt => ?_
  · have M1 : MI a b (out.push pb).toList ia (ib + 1) := (hM.swap.pushA T.sb eb fun j h6 h7 => Int.le_trans (Int.le_of_lt (of_decide_eq_true hlt)) (T.sa ia j h6 h7)).swap
    refine wpS_bind (wpS_elem eb ?_)
    clear hM hlt ea eb
    refine wpS_if (fun hend => wpS_pure (z1 _ (.inl ⟨_, _, rfl, T.endB M1 (eq_of_beq hend)⟩))) fun hend => ?_
    have I1 : L1I a b (x + 1) (none, out.push pb, ia, ib + 1, 0, bc + 1) := ⟨_, _, _, _, _, rfl, M1, h3, nbq h4 hend, Nat.succ_lt_succ h5⟩
    exact wpS_if (fun _ => wpS_pure (z1 _ (.inr I1))) fun _ => wpS_pure (z2 _ I1)
  · have M1 : MI a b (out.push pa).toList (ia + 1) ib := hM.pushA T.sa ea fun j h6 h7 => Int.le_trans (Int.not_lt.mp fun q => hlt (decide_eq_true q)) (T.sb ib j h6 h7)
    refine wpS_bind (wpS_elem ea ?_)
    clear hM hlt ea eb
    refine wpS_if (fun hend => wpS_pure (z1 _ (.inl ⟨_, _, rfl, T.last M1 (eq_of_beq hend)⟩))) fun hend => ?_
    have I1 : L1I a b (x + 1) (none, out.push pa, ia + 1, ib, ac + 1, 0) := ⟨_, _, _, _, _, rfl, M1, nbq h3 hend, h4, stA h5⟩
    exact wpS_if (fun _ => wpS_pure (z1 _ (.inr I1))) fun _ => wpS_pure (z2 _ I1)
theorem L1I.mono {x y : Nat} {c : Lo1} (h : L1I a b y c) (hx : x ≤ y) : L1I a b x c := by
  obtain ⟨out, ia, ib, ac, bc, e, h⟩ := h
  exact ⟨out, ia, ib, ac, bc, e, h.mono hx⟩
theorem L1Q.mono {x y : Nat} {c : Lo1} (h : L1Q a b y c) (hx : x ≤ y) : L1Q a b x c := h.imp id fun h => h.mono hx
theorem wpS_loG {x : Nat} {c : LoSt} {st' : SortSt} (T : Two a b) (hk : kindOf st = oneType') (h : LoI a b st x c st') : wpS (model prog w) A E s (loG a b c) (LoP a b st x) st' := by
  obtain ⟨out, ia, ib, mg, ac, bc, g, rfl, rfl, hM, h3, h4, h5⟩ := h
  exact wpS_if (fun _ => wpS_loA T hk hM h3 h4 (Nat.le_of_lt h5)) fun _ => wpS_loA T hk hM h3 h4 (Nat.le_of_lt h5)
inductive LTI (a b : Array Keyed) (st : SortSt) (x : Nat) (c : LoT) (st' : SortSt) : Prop where
  | mk (out ia ib mg g) (e0 : c = (none, out, ia, ib, mg)) (e1 : st' = setG st g) (h : LoB a b x out ia ib) : LTI a b st x c st'
inductive LTQ (a b : Array Keyed) (st : SortSt) (c : LoT) (st' : SortSt) : Prop where
  | mk (r rest g) (e0 : c = (some r, rest)) (e1 : st' = setG st g) (h : Mrg a b r) : LTQ a b st c st'
noncomputable def LTP (a b : Array Keyed) (st : SortSt) (x : Nat) (r : ForInStep LoT) (st' : SortSt) : Prop := match r with
  | .done c => LTQ a b st c st'
  | .yield c => LTI a b st x c st'
theorem wpS_loM {x g mg : Nat} {c : Lo1} (T : Two a b) (hk : kindOf st = oneType') (h : L1Q a b x c) : wpS (model prog w) A E s (loM a b mg c) (LTP a b st x) (setG st g) := by
  rcases h with ⟨r, rest, rfl, hr⟩ | ⟨out, ia, ib, ac, bc, rfl, hB⟩
  · exact wpS_pure ⟨r, _, g, rfl, rfl, hr⟩
  · refine wpS_bind (wpS_lift (wpAny_rule ⟨rfl, ?_⟩))
    refine wpS_bind (wpS_mono (wpS_forRange (I := fun _ c st' => LoI a b st x c st') (Q := LoQ a b st x) (fun y c st' _ _ h => wpS_mono (wpS_loG T hk h) fun r st' h => by (first | exact nS r | exact nO r | exact nF r | exact nT r | exact nN r | exact nC r | cases r) <;> exact h) (fun c st' h => .inr h) ⟨out, ia, ib, mg + 1, ac, bc, g, rfl, rfl, hB⟩) ?_)
    rintro c st' (⟨r, rest, g', rfl, rfl, hr⟩ | ⟨out, ia, ib, mg', ac', bc', g', rfl, rfl, hB⟩)
    · exact wpS_pure ⟨r, _, g', rfl, rfl, hr⟩
    · exact wpS_bind (wpS_modify (wpS_pure ⟨out, ia, ib, mg' + 1, mg' + 1, rfl, rfl, hB⟩))
theorem wpS_loT {x : Nat} {c : LoT} {st' : SortSt} (T : Two a b) (hk : kindOf st = oneType') (h : LTI a b st x c st') : wpS (model prog w) A E s (loT a b c) (LTP a b st (x + 1)) st' := by
  obtain ⟨out, ia, ib, mg, g, rfl, rfl, hB⟩ := h
  refine wpS_bind (wpS_mono (wpS_forRange (I := fun y c st' => st' = setG st g ∧ L1I a b (x + y) c) (Q := fun c st' => st' = setG st g ∧ L1Q a b (x + 1) c) (fun y c st' _ _ h => ?_) (fun c st' h => ⟨h.1, L1Q.mono (.inr h.2) (Nat.add_le_add_left (Nat.le_trans T.na (Nat.le_add_right _ _)) x)⟩) ⟨rfl, out, ia, ib, 0, 0, rfl, hB⟩) ?_)
  · obtain ⟨rfl, h⟩ := h
    exact wpS_loS T hk h (fun c q => ⟨rfl, q.mono (Nat.succ_le_succ (Nat.le_add_right _ _))⟩) fun c q => ⟨rfl, q⟩
  · rintro c st' ⟨rfl, q⟩
    exact wpS_loM T hk q
theorem wpS_mergeLo {Q : Array Keyed → SortSt → Prop} (hk : kindOf st = oneType') (T : Two a b) (q : ∀ out g, Mrg a b out → Q out (setG st g)) : wpS (model prog w) A E s (mergeLo' a b) Q st := by
  rw [mergeLo_named]
  refine wpS_bind (wpS_lift (wpAny_rule ⟨rfl, ?_⟩))
  obtain ⟨p0, t0, e0, _, _⟩ := ik_at T.kb T.nb
  have M0 := MI.start e0 T.sa T.sb T.h0
  refine wpS_bind (wpS_elem e0 ?_)
  clear e0
  refine wpS_if (fun hb1 => wpS_pure (q _ (gallopOf st) (T.endB M0 (eq_of_beq hb1)))) fun hb1 => ?_
  refine wpS_if (fun ha1 => wpS_pure (q _ (gallopOf st) (T.last M0 (eq_of_beq ha1)))) fun ha1 => ?_
  have I0 : LTI a b st 0 (none, #[p0], 0, 1, gallopOf st) st := ⟨_, _, _, _, gallopOf st, rfl, rfl, M0, nbq T.na ha1, nbq T.nb hb1, Nat.zero_lt_one⟩
  clear M0
  refine wpS_bind (wpS_get (wpS_bind (wpS_mono (wpS_forRange (I := fun x c st' => LTI a b st x c st') (Q := LTQ a b st) (fun y c st' _ _ h => wpS_mono (wpS_loT T hk h) fun r st' h => by (first | exact nS r | exact nO r | exact nF r | exact nT r | exact nN r | exact nC r | cases r) <;> exact h) ?_ I0) ?_)))
  · rintro c st' ⟨out, ia, ib, mg, g, rfl, rfl, hM, h3, h4, h5⟩
    exact absurd h5 (Nat.not_lt.mpr (Nat.add_le_add (Nat.le_of_succ_le (Nat.le_of_lt h3)) (Nat.le_of_lt h4)))
  · rintro c st' ⟨r, rest, g, rfl, rfl, hM⟩
    exact wpS_pure (q _ _ hM)
end Mine

end
section -- TS4
open PySem PyProof.Rows
namespace Mine
variable {prog : Program} {w : World} {A : Around} {E : Value → Shared → Prop} {s : Shared}
variable {a b : Array Keyed} {st : SortSt}

structure HI (a b : Array Keyed) (out : Array Keyed) (na nb : Nat) : Prop where
  perm : (a.toList.take na ++ (b.toList.take nb ++ out.toList.reverse)).Perm (a.toList ++ b.toList)
  srt : out.toList.reverse.Pairwise le
  la : ∀ x ∈ out.toList, ∀ i, i < na → i < a.size → K a i ≤ kk x
  lb : ∀ x ∈ out.toList, ∀ i, i < nb → i < b.size → K b i ≤ kk x
section
variable {out : Array Keyed} {na nb : Nat}
theorem HI.swap (h : HI a b out na nb) : HI b a out nb na := by
  refine ⟨?_, h.srt, h.lb, h.la⟩
  have e : (b.toList.take nb ++ (a.toList.take na ++ out.toList.reverse)).Perm (a.toList.take na ++ (b.toList.take nb ++ out.toList.reverse)) := by
    rw [← List.append_assoc, ← List.append_assoc]; exact List.perm_append_comm.append_right _
  exact (e.trans h.perm).trans List.perm_append_comm
theorem take_split (a : Array Keyed) {m na : Nat} (hm : m ≤ na) : a.toList.take na = a.toList.take m ++ (a.toList.drop m).take (na - m) := by
  obtain ⟨d, rfl⟩ := Nat.exists_eq_add_of_le hm
  rw [Nat.add_sub_cancel_left, List.take_add]
theorem HI.take (h : HI a b out na nb) (hs : Srt a) {m : Nat} (hm : m ≤ na) (hn : na ≤ a.size) {out' : Array Keyed} (ho : out'.toList.reverse = (a.toList.drop m).take (na - m) ++ out.toList.reverse)
    (hk : ∀ i j, m ≤ i → i < na → j < nb → j < b.size → K b j ≤ K a i) : HI a b out' m nb := by
  have hmem : ∀ x, x ∈ out'.toList → SegM a m (na - m) x ∨ x ∈ out.toList := fun x hx => by
    have : x ∈ out'.toList.reverse := List.mem_reverse.mpr hx
    rw [ho] at this
    exact (List.mem_append.mp this).imp seg_mem List.mem_reverse.mp
  refine ⟨?_, ?_, fun x hx i h1 h2 => ?_, fun x hx i h1 h2 => ?_⟩
  · refine List.Perm.trans ?_ h.perm
    rw [take_split a hm, ho, List.append_assoc]
    refine List.Perm.append_left _ ?_
    rw [← List.append_assoc, ← List.append_assoc]
    exact List.perm_append_comm.append_right _
  · rw [ho]
    refine List.pairwise_append.mpr ⟨seg_srt hs _ _, h.srt, fun x hx y hy => ?_⟩
    obtain ⟨i, h1, h2, h3, h4⟩ := seg_mem hx
    show kk x ≤ kk y
    rw [h4]; exact h.la y (List.mem_reverse.mp hy) i (Nat.lt_of_lt_of_eq h2 (Nat.add_sub_of_le hm)) h3
  · rcases hmem x hx with ⟨j, k1, k2, k3, k4⟩ | q
    · rw [k4]; exact hs i j (Nat.le_of_lt (Nat.lt_of_lt_of_le h1 k1)) k3
    · exact h.la x q i (Nat.lt_of_lt_of_le h1 hm) h2
  · rcases hmem x hx with ⟨j, k1, k2, k3, k4⟩ | q
    · rw [k4]; exact hk j i k1 (Nat.lt_of_lt_of_eq k2 (Nat.add_sub_of_le hm)) h1 h2
    · exact h.lb x q i h1 h2
theorem HI.pushA {p : Keyed} {na : Nat} (h : HI a b out (na + 1) nb) (hs : Srt a) (hn : na < a.size) (hp : a[na]? = some p) (hk : ∀ j, j < nb → j < b.size → K b j ≤ K a na) : HI a b (out.push p) na nb := by
  refine h.take hs (Nat.le_succ _) hn ?_ fun i j h2 h3 h4 h5 => Nat.le_antisymm h2 (Nat.le_of_lt_succ h3) ▸ hk j h4 h5
  rw [Nat.add_sub_cancel_left, take_one hp, Array.toList_push, List.reverse_append]; rfl
theorem HI.extA {m : Nat} (h : HI a b out na nb) (hs : Srt a) (hm : m ≤ na) (hn : na ≤ a.size) (hk : ∀ i j, m ≤ i → i < na → j < nb → j < b.size → K b j ≤ K a i) : HI a b (out ++ (a.extract m na).reverse) m nb := by
  refine h.take hs hm hn ?_ hk
  have e := ext_list a m (na - m)
  rw [Nat.add_sub_of_le hm] at e
  rw [Array.toList_append, Array.toList_reverse, List.reverse_append, List.reverse_reverse, e]
theorem ext_take (a : Array Keyed) (n : Nat) : (a.extract 0 n).toList = a.toList.take n := by
  have := ext_list a 0 n
  rw [Nat.zero_add] at this
  exact this
theorem take_srt (hs : Srt a) (n : Nat) : (a.toList.take n).Pairwise le := (srt_pw hs).sublist (List.take_sublist _ _)
theorem take_mem {n : Nat} {x : Keyed} (h : x ∈ a.toList.take n) : SegM a 0 n x := seg_mem (n := 0) h
theorem HI.dn (h : HI a b out na nb) (ha : Srt a) (hb : Srt b) (hk : ∀ i j, i < na → i < a.size → j < nb → j < b.size → K a i ≤ K b j) : Mrg a b (a.extract 0 na ++ b.extract 0 nb ++ out.reverse) := by
  unfold Mrg
  rw [Array.toList_append, Array.toList_append, ext_take, ext_take, Array.toList_reverse, List.append_assoc]
  refine ⟨h.perm, List.pairwise_append.mpr ⟨take_srt ha _, List.pairwise_append.mpr ⟨take_srt hb _, h.srt, fun x hx y hy => ?_⟩, fun x hx y hy => ?_⟩⟩
  all_goals
    obtain ⟨i, _, h1, h2, h3⟩ := take_mem hx
    rw [Nat.zero_add] at h1
    show kk x ≤ kk y
    rw [h3]
  · exact h.lb y (List.mem_reverse.mp hy) i h1 h2
  · rcases List.mem_append.mp hy with hy | hy
    · obtain ⟨j, _, k1, k2, k3⟩ := take_mem hy
      rw [k3]; exact hk i j h1 h2 (Nat.lt_of_lt_of_eq k1 (Nat.zero_add _)) k2
    · exact h.la y (List.mem_reverse.mp hy) i h1 h2
end
end Mine

end
section -- TS5
open PySem PyProof.Rows
namespace Mine
variable {prog : Program} {w : World} {A : Around} {E : Value → Shared → Prop} {s : Shared}
variable {a b : Array Keyed} {st : SortSt}

noncomputable def hiDone (a b out : Array Keyed) (na nb : Nat) : Array Keyed := a.extract 0 na ++ b.extract 0 nb ++ out.reverse
noncomputable def hiFirst (a b out : Array Keyed) (na nb : Nat) : Array Keyed := b.extract 0 nb ++ a.extract 0 na ++ out.reverse
abbrev HiSt := Option (Array Keyed) × Nat × Nat × Array Keyed × Nat × Nat × Nat
noncomputable def hiC (a b out : Array Keyed) (na nb mg ac bc : Nat) : StateT SortSt Sem (ForInStep HiSt) := do
  let na := na - 1
  let out := out.push (← elem' a na)
  if na == 0 then return .done (some (hiDone a b out na nb), na, nb, out, mg, ac, bc)
  if ac < 7 && bc < 7 then return .done (none, na, nb, out, mg, ac, bc)
  return .yield (none, na, nb, out, mg, ac, bc)
noncomputable def hiB (a b out : Array Keyed) (na nb mg ac bc : Nat) : StateT SortSt Sem (ForInStep HiSt) := do
  let nb := nb - 1
  let out := out.push (← elem' b nb)
  if nb == 1 then return .done (some (hiFirst a b out na nb), na, nb, out, mg, ac, bc)
  let some m ← gallop' true (← elem' a (na - 1)) b 0 nb (nb - 1) | return .done (some (hiDone a b out na nb), na, nb, out, mg, ac, bc)
  if nb - m > 0 then
    if m == 1 then return .done (some (hiFirst a b (out ++ (b.extract m nb).reverse) na m), na, m, out ++ (b.extract m nb).reverse, mg, ac, nb - m)
    if m == 0 then return .done (some (hiDone a b (out ++ (b.extract m nb).reverse) na m), na, m, out ++ (b.extract m nb).reverse, mg, ac, nb - m)
    hiC a b (out ++ (b.extract m nb).reverse) na m mg ac (nb - m)
  else hiC a b out na nb mg ac (nb - m)
noncomputable def hiA (a b out : Array Keyed) (na nb mg ac bc : Nat) : StateT SortSt Sem (ForInStep HiSt) := do
  setMinGallop' mg
  let some m ← gallop' false (← elem' b (nb - 1)) a 0 na (na - 1) | return .done (some (hiDone a b out na nb), na, nb, out, mg, ac, bc)
  if na - m > 0 then
    if m == 0 then return .done (some (hiDone a b (out ++ (a.extract m na).reverse) m nb), m, nb, out ++ (a.extract m na).reverse, mg, na - m, bc)
    hiB a b (out ++ (a.extract m na).reverse) m nb mg (na - m) bc
  else hiB a b out na nb mg (na - m) bc
/-- both rows are left: k + 1 of the one, j + 2 of the other -/
noncomputable def HB (a b : Array Keyed) (x : Nat) (out : Array Keyed) (k j : Nat) : Prop := HI a b out (k + 1) (j + 2) ∧ k < a.size ∧ j + 1 < b.size ∧ x + (k + j + 3) < a.size + b.size
inductive HiI (a b : Array Keyed) (st : SortSt) (x : Nat) (c : HiSt) (st' : SortSt) : Prop where
  | mk (out k j mg ac bc g) (e0 : c = (none, k + 1, j + 2, out, mg, ac, bc)) (e1 : st' = setG st g) (h : HB a b x out k j) : HiI a b st x c st'
inductive HiQD (a b : Array Keyed) (st : SortSt) (c : HiSt) (st' : SortSt) : Prop where
  | mk (r rest g) (e0 : c = (some r, rest)) (e1 : st' = setG st g) (h : Mrg a b r) : HiQD a b st c st'
noncomputable def HiQ (a b : Array Keyed) (st : SortSt) (x : Nat) (c : HiSt) (st' : SortSt) : Prop := HiQD a b st c st' ∨ HiI a b st x c st'
noncomputable def HiP (a b : Array Keyed) (st : SortSt) (x : Nat) (r : ForInStep HiSt) (st' : SortSt) : Prop := match r with
  | .done c => HiQ a b st x c st'
  | .yield c => HiI a b st x c st'
section
variable {out : Array Keyed} {k j na nb mg ac bc g x : Nat}
theorem Two.first (T : Two a b) (h : HI a b out na 1) : Mrg a b (hiFirst a b out na 1) :=
  (h.swap.dn T.sb T.sa fun i j h3 h4 h5 h6 => by
      rw [Nat.lt_one_iff.mp h3]; exact T.h0 j h6).swap
theorem Two.hiA0 (T : Two a b) (h : HI a b out 0 nb) : Mrg a b (hiDone a b out 0 nb) := h.dn T.sa T.sb fun i j h3 h4 _ _ => absurd h3 (Nat.not_lt_zero _)
theorem Two.hiB0 (T : Two a b) (h : HI a b out na 0) : Mrg a b (hiDone a b out na 0) := h.dn T.sa T.sb fun i j _ _ h5 h6 => absurd h5 (Nat.not_lt_zero _)
theorem less {x k j n : Nat} (h : x + (k + 1 + j + 3) ≤ n) : x + (k + j + 3) < n := Nat.lt_of_lt_of_le (Nat.add_lt_add_left (Nat.add_lt_add_right (Nat.add_lt_add_right (Nat.lt_succ_self k) j) 3) x) h
theorem lessA {x k m j n : Nat} (h : x + (k + j + 3) ≤ n) (hm : m < k + 1) : x + (m + j + 3) ≤ n := Nat.le_trans (Nat.add_le_add_left (Nat.add_le_add_right (Nat.add_le_add_right (Nat.le_of_lt_succ hm) j) 3) x) h
theorem lessB {x k m j n : Nat} (h : x + (k + j + 3) ≤ n) (hm : m + 2 ≤ j + 1) : x + (k + m + 3) ≤ n := Nat.le_trans (Nat.add_le_add_left (Nat.add_le_add_right (Nat.add_le_add_left (Nat.le_of_succ_le (Nat.le_of_succ_le_succ hm)) k) 3) x) h
theorem wpS_hiC (T : Two a b) (hM : HI a b out (k + 1) (j + 2)) (h2 : k < a.size) (h4 : j + 1 < b.size) (h5 : x + (k + j + 3) ≤ a.size + b.size) (hk : ∀ i, i < j + 2 → i < b.size → K b i ≤ K a k) : wpS (model prog w) A E s (hiC a b out (k + 1) (j + 2) mg ac bc) (HiP a b st x) (setG st g) := by
  obtain ⟨pa, ta, ea, ka1, ka2⟩ := ik_at T.ka h2
  have M1 : HI a b (out.push pa) k (j + 2) := hM.pushA T.sa h2 ea hk
  unfold hiC
  refine wpS_bind (wpS_elem ea ?_)
  clear hM hk ea ka1 ka2
  cases k with
  | zero => exact wpS_pure (.inl ⟨_, _, g, rfl, rfl, T.hiA0 M1⟩)
  | succ k =>
    have I1 : HB a b x (out.push pa) k j := ⟨M1, Nat.lt_of_succ_lt h2, h4, less h5⟩
    exact wpS_if (fun h => (Bool.false_ne_true h).elim) fun _ => wpS_if (fun _ => wpS_pure (.inr ⟨_, _, _, _, _, _, g, rfl, rfl, I1⟩)) fun _ => wpS_pure ⟨_, _, _, _, _, _, g, rfl, rfl, I1⟩
theorem zadd {i m : Nat} (h : i < m) : i < 0 + m := by rw [Nat.zero_add]; exact h
theorem zadd' {i m : Nat} (h : i < 0 + m) : i < m := by rw [Nat.zero_add] at h; exact h
theorem zle {i m : Nat} (h : m ≤ i) : 0 + m ≤ i := by rw [Nat.zero_add]; exact h
theorem wpS_hiB (T : Two a b) (hs : kindOf st = oneType') (hM : HI a b out (k + 1) (j + 2)) (h2 : k < a.size) (h4 : j + 1 < b.size) (h5 : x + (k + j + 3) ≤ a.size + b.size) (hk : ∀ i, i < k + 1 → i < a.size → K a i ≤ K b (j + 1)) : wpS (model prog w) A E s (hiB a b out (k + 1) (j + 2) mg ac bc) (HiP a b st x) (setG st g) := by
  obtain ⟨pb, tb, eb, kb1, kb2⟩ := ik_at T.kb h4
  obtain ⟨pa, ta, ea, ka1, ka2⟩ := ik_at T.ka h2
  have M1 : HI a b (out.push pb) (k + 1) (j + 1) := (hM.swap.pushA T.sb h4 eb hk).swap
  clear hM hk kb1 kb2 ka2
  unfold hiB
  refine wpS_bind (wpS_elem eb ?_)
  clear eb
  cases j with
  | zero => exact wpS_pure (.inl ⟨_, _, g, rfl, rfl, T.first M1⟩)
  | succ j =>
    have hb2 : j + 2 ≤ b.size := Nat.le_of_succ_le h4
    refine wpS_bind (wpS_elem ea (wpS_bind (wpS_galL hs ka1 T.kb (fun i j' _ h6 h7 => T.sb i j' h6 (Nat.lt_of_lt_of_le (zadd' h7) hb2)) (by rw [Nat.zero_add]; exact hb2) (Nat.lt_succ_self _) fun m hk1 hk2 hk3 => ?_)))
    have hlow : ∀ i, i < m → i < b.size → K b i ≤ K a k := fun i h6 h7 => Int.le_of_lt (hk2 i (Nat.zero_le _) (zadd h6))
    refine wpS_if (fun hk0 => ?_) fun hk0 => ?_
    · have M2 : HI a b (out.push pb ++ (b.extract m (j + 2)).reverse) (k + 1) m := (M1.swap.extA T.sb hk1 hb2 fun i j' h6 h7 h8 h9 => Int.le_trans (T.sa j' k (Nat.le_of_lt_succ h8) h2) (hk3 i (zle h6) (zadd h7))).swap
      clear M1 hk1 hk2 hk3 ea ka1
      rcases m with _ | _ | m
      · exact wpS_pure (.inl ⟨_, _, g, rfl, rfl, T.hiB0 M2⟩)
      · exact wpS_pure (.inl ⟨_, _, g, rfl, rfl, T.first M2⟩)
      · have hm : m + 2 ≤ j + 2 := Nat.le_of_lt (Nat.lt_of_sub_pos hk0)
        exact wpS_hiC T M2 h2 (Nat.lt_of_lt_of_le hm hb2) (lessB h5 hm) hlow
    · have hmj : m = j + 2 := Nat.le_antisymm hk1 (Nat.le_of_sub_eq_zero (Nat.eq_zero_of_not_pos hk0))
      rw [hmj] at hlow ⊢
      exact wpS_hiC T M1 h2 hb2 (lessB h5 (Nat.le_refl _)) hlow
theorem wpS_hiA (T : Two a b) (hs : kindOf st = oneType') (hM : HI a b out (k + 1) (j + 2)) (h2 : k < a.size) (h4 : j + 1 < b.size) (h5 : x + (k + j + 3) ≤ a.size + b.size) : wpS (model prog w) A E s (hiA a b out (k + 1) (j + 2) mg ac bc) (HiP a b st x) (setG st g) := by
  obtain ⟨pb, tb, eb, kb1, kb2⟩ := ik_at T.kb h4
  unfold hiA setMinGallop'
  refine wpS_bind (wpS_modify (wpS_bind (wpS_elem eb (wpS_bind (wpS_galR hs kb1 T.ka (fun i j' _ h6 h7 => T.sa i j' h6 (Nat.lt_of_lt_of_le (zadd' h7) h2)) (by rw [Nat.zero_add]; exact h2) (Nat.lt_succ_self _) fun m hk1 hk2 hk3 => ?_)))))
  have hlow : ∀ i, i < m → i < a.size → K a i ≤ K b (j + 1) := fun i h6 h7 => hk2 i (Nat.zero_le _) (zadd h6)
  refine wpS_if (fun hk0 => ?_) fun hk0 => ?_
  · have M2 : HI a b (out ++ (a.extract m (k + 1)).reverse) m (j + 2) := hM.extA T.sa hk1 h2 fun i j' h6 h7 h8 h9 => Int.le_trans (T.sb j' (j + 1) (Nat.le_of_lt_succ h8) h4) (Int.le_of_lt (hk3 i (zle h6) (zadd h7)))
    clear hM hk1 hk2 hk3 eb kb1
    cases m with
    | zero => exact wpS_pure (.inl ⟨_, _, mg, rfl, rfl, T.hiA0 M2⟩)
    | succ m =>
      have hm : m + 1 < k + 1 := Nat.lt_of_sub_pos hk0
      exact wpS_hiB (st := st) (g := mg) T hs M2 (Nat.lt_trans (Nat.lt_of_succ_lt_succ hm) h2) h4 (lessA h5 (Nat.lt_of_succ_lt hm)) hlow
  · have hmk : m = k + 1 := Nat.le_antisymm hk1 (Nat.le_of_sub_eq_zero (Nat.eq_zero_of_not_pos hk0))
    rw [hmk] at hlow ⊢
    exact wpS_hiB (st := st) (g := mg) T hs hM h2 h4 h5 hlow
end
abbrev Hi1 := Option (Array Keyed) × Nat × Nat × Array Keyed × Nat × Nat
/-- one comparison -/
noncomputable def hiS (a b : Array Keyed) (mg : Nat) (c : Hi1) : StateT SortSt Sem (ForInStep Hi1) := do
  let y ← elem' b (c.2.2.1 - 1)
  let x ← elem' a (c.2.1 - 1)
  let r ← lt' y x
  match r with
  | some aWins =>
    if aWins = true then do
      let p ← elem' a (c.2.1 - 1)
      if (c.2.1 - 1 == 0) = true then pure (.done (some (hiDone a b (c.2.2.2.1.push p) (c.2.1 - 1) c.2.2.1), c.2.1 - 1, c.2.2.1, c.2.2.2.1.push p, c.2.2.2.2.1 + 1, 0))
      else if c.2.2.2.2.1 + 1 ≥ mg then pure (.done (none, c.2.1 - 1, c.2.2.1, c.2.2.2.1.push p, c.2.2.2.2.1 + 1, 0))
      else pure (.yield (none, c.2.1 - 1, c.2.2.1, c.2.2.2.1.push p, c.2.2.2.2.1 + 1, 0))
    else do
      let p ← elem' b (c.2.2.1 - 1)
      if (c.2.2.1 - 1 == 1) = true then pure (.done (some (hiFirst a b (c.2.2.2.1.push p) c.2.1 (c.2.2.1 - 1)), c.2.1, c.2.2.1 - 1, c.2.2.2.1.push p, 0, c.2.2.2.2.2 + 1))
      else if c.2.2.2.2.2 + 1 ≥ mg then pure (.done (none, c.2.1, c.2.2.1 - 1, c.2.2.2.1.push p, 0, c.2.2.2.2.2 + 1))
      else pure (.yield (none, c.2.1, c.2.2.1 - 1, c.2.2.2.1.push p, 0, c.2.2.2.2.2 + 1))
  | _ => pure (.done (some (hiDone a b c.2.2.2.1 c.2.1 c.2.2.1), c.2))
noncomputable def hiG (a b : Array Keyed) (c : HiSt) : StateT SortSt Sem (ForInStep HiSt) :=
  if c.2.2.2.2.1 > 1 then hiA a b c.2.2.2.1 c.2.1 c.2.2.1 (c.2.2.2.2.1 - 1) c.2.2.2.2.2.1 c.2.2.2.2.2.2 else hiA a b c.2.2.2.1 c.2.1 c.2.2.1 c.2.2.2.2.1 c.2.2.2.2.2.1 c.2.2.2.2.2.2
abbrev HiT := Option (Array Keyed) × Nat × Nat × Array Keyed × Nat
noncomputable def hiE (c : HiSt) : StateT SortSt Sem (ForInStep HiT) := match c.1 with
  | some r => pure (.done (some r, c.2.1, c.2.2.1, c.2.2.2.1, c.2.2.2.2.1))
  | none => do
    setMinGallop' (c.2.2.2.2.1 + 1)
    pure (.yield (none, c.2.1, c.2.2.1, c.2.2.2.1, c.2.2.2.2.1 + 1))
noncomputable def hiM (a b : Array Keyed) (mg : Nat) (c : Hi1) : StateT SortSt Sem (ForInStep HiT) := match c.1 with
  | some r => pure (.done (some r, c.2.1, c.2.2.1, c.2.2.2.1, mg))
  | none => do
    liftM (rule "list.sort.gallop")
    let d ← forIn [:a.size + b.size] ((none, c.2.1, c.2.2.1, c.2.2.2.1, mg + 1, c.2.2.2.2.1, c.2.2.2.2.2) : HiSt) fun _ d => hiG a b d
    hiE d
noncomputable def hiT (a b : Array Keyed) (c : HiT) : StateT SortSt Sem (ForInStep HiT) := do
  let d ← forIn [:a.size + b.size] ((none, c.2.1, c.2.2.1, c.2.2.2.1, 0, 0) : Hi1) fun _ d => hiS a b c.2.2.2.2 d
  hiM a b c.2.2.2.2 d
noncomputable def hiF (c : HiT) : StateT SortSt Sem (Array Keyed) := match c.1 with
  | some r => pure r
  | none => liftM (unsupported "internal:list.sort.merge-bound" : Sem (Array Keyed))
theorem mergeHi_named (a b : Array Keyed) : mergeHi' a b = (do
    liftM (rule "list.sort.merge-hi")
    let p ← elem' a (a.size - 1)
    if (a.size - 1 == 0) = true then pure (hiDone a b #[p] (a.size - 1) b.size)
    else if (b.size == 1) = true then pure (hiFirst a b #[p] (a.size - 1) b.size)
    else do
      let t ← get
      let c ← forIn [:a.size + b.size] ((none, a.size - 1, b.size, #[p], gallopOf t) : HiT) fun _ c => hiT a b c
      hiF c) := by
  kernel_rfl
/-- between two comparisons -/
inductive H1I (a b : Array Keyed) (x : Nat) (c : Hi1) : Prop where
  | mk (out k j ac bc) (e0 : c = (none, k + 1, j + 2, out, ac, bc)) (h : HB a b x out k j) : H1I a b x c
inductive H1QD (a b : Array Keyed) (c : Hi1) : Prop where
  | mk (r rest) (e0 : c = (some r, rest)) (h : Mrg a b r) : H1QD a b c
noncomputable def H1Q (a b : Array Keyed) (x : Nat) (c : Hi1) : Prop := H1QD a b c ∨ H1I a b x c
theorem HB.mono {x y : Nat} {out : Array Keyed} {k j : Nat} (h : HB a b y out k j) (hx : x ≤ y) : HB a b x out k j := ⟨h.1, h.2.1, h.2.2.1, Nat.lt_of_le_of_lt (Nat.add_le_add_right hx _) h.2.2.2⟩
theorem stepA {x k j n : Nat} (h : x + (k + 1 + j + 3) < n) : x + 1 + (k + j + 3) < n := by
  rw [Nat.add_right_comm k 1 j] at h
  rw [Nat.add_right_comm]; exact h
theorem stepB {x k j n : Nat} (h : x + (k + (j + 1) + 3) < n) : x + 1 + (k + j + 3) < n := by
  rw [Nat.add_right_comm]; exact h
theorem wpS_hiS {x mg : Nat} {c : Hi1} {Z : ForInStep Hi1 → SortSt → Prop} (T : Two a b) (hk : kindOf st = oneType') (h : H1I a b x c) (z1 : ∀ c, H1Q a b (x + 1) c → Z (.done c) st) (z2 : ∀ c, H1I a b (x + 1) c → Z (.yield c) st) : wpS (model prog w) A E s (hiS a b mg c) Z st := by
  obtain ⟨out, k, j, ac, bc, rfl, hM, h2, h4, h5⟩ := h
  obtain ⟨pb, tb, eb, kb1, kb2⟩ := ik_at T.kb h4
  obtain ⟨pa, ta, ea, ka1, ka2⟩ := ik_at T.ka h2
  unfold hiS
  refine wpS_bind (wpS_elem eb (wpS_bind (wpS_elem ea (wpS_bind (wpS_lt hk kb1 ka1 ?_)))))
  clear kb1 kb2 ka1 ka2
  refine wpS_if (fun hlt => ?_) fun hlt => ?_
  · have hlt' := of_decide_eq_true hlt
    have M1 : HI a b (out.push pa) k (j + 2) := hM.pushA T.sa h2 ea fun i h8 h9 => Int.le_trans (T.sb i (j + 1) (Nat.le_of_lt_succ h8) h4) (Int.le_of_lt hlt')
    refine wpS_bind (wpS_elem ea ?_)
    clear hM hlt hlt' ea eb
    cases k with
    | zero => exact wpS_pure (z1 _ (.inl ⟨_, _, rfl, T.hiA0 M1⟩))
    | succ k =>
      have I1 : H1I a b (x + 1) (none, k + 1, j + 2, out.push pa, ac + 1, 0) := ⟨_, _, _, _, _, rfl, M1, Nat.lt_of_succ_lt h2, h4, stepA h5⟩
      exact wpS_if (fun h => (Bool.false_ne_true h).elim) fun _ => wpS_if (fun _ => wpS_pure (z1 _ (.inr I1))) fun _ => wpS_pure (z2 _ I1)
  · have hlt' : ¬ K b (j + 1) < K a k := fun q => hlt (decide_eq_true q)
    have M1 : HI a b (out.push pb) (k + 1) (j + 1) := (hM.swap.pushA T.sb h4 eb fun i h8 h9 => Int.le_trans (T.sa i k (Nat.le_of_lt_succ h8) h2) (Int.not_lt.mp hlt')).swap
    refine wpS_bind (wpS_elem eb ?_)
    clear hM hlt hlt' ea eb
    cases j with
    | zero => exact wpS_pure (z1 _ (.inl ⟨_, _, rfl, T.first M1⟩))
    | succ j =>
      have I1 : H1I a b (x + 1) (none, k + 1, j + 2, out.push pb, 0, bc + 1) := ⟨_, _, _, _, _, rfl, M1, h2, Nat.lt_of_succ_lt h4, stepB h5⟩
      exact wpS_if (fun h => (Bool.false_ne_true h).elim) fun _ => wpS_if (fun _ => wpS_pure (z1 _ (.inr I1))) fun _ => wpS_pure (z2 _ I1)
theorem H1Q.mono {x y : Nat} {c : Hi1} (h : H1Q a b y c) (hx : x ≤ y) : H1Q a b x c := h.imp id fun ⟨out, k, j, ac, bc, e, h⟩ => ⟨out, k, j, ac, bc, e, h.mono hx⟩
theorem wpS_hiG {x : Nat} {c : HiSt} {st' : SortSt} (T : Two a b) (hk : kindOf st = oneType') (h : HiI a b st x c st') : wpS (model prog w) A E s (hiG a b c) (HiP a b st x) st' := by
  obtain ⟨out, k, j, mg, ac, bc, g, rfl, rfl, hM, h3, h4, h5⟩ := h
  exact wpS_if (fun _ => wpS_hiA T hk hM h3 h4 (Nat.le_of_lt h5)) fun _ => wpS_hiA T hk hM h3 h4 (Nat.le_of_lt h5)
inductive HTI (a b : Array Keyed) (st : SortSt) (x : Nat) (c : HiT) (st' : SortSt) : Prop where
  | mk (out k j mg g) (e0 : c = (none, k + 1, j + 2, out, mg)) (e1 : st' = setG st g) (h : HB a b x out k j) : HTI a b st x c st'
inductive HTQ (a b : Array Keyed) (st : SortSt) (c : HiT) (st' : SortSt) : Prop where
  | mk (r rest g) (e0 : c = (some r, rest)) (e1 : st' = setG st g) (h : Mrg a b r) : HTQ a b st c st'
noncomputable def HTP (a b : Array Keyed) (st : SortSt) (x : Nat) (r : ForInStep HiT) (st' : SortSt) : Prop := match r with
  | .done c => HTQ a b st c st'
  | .yield c => HTI a b st x c st'
theorem wpS_hiM {x g mg : Nat} {c : Hi1} (T : Two a b) (hk : kindOf st = oneType') (h : H1Q a b x c) : wpS (model prog w) A E s (hiM a b mg c) (HTP a b st x) (setG st g) := by
  rcases h with ⟨r, rest, rfl, hr⟩ | ⟨out, k, j, ac, bc, rfl, hB⟩
  · exact wpS_pure ⟨r, _, g, rfl, rfl, hr⟩
  · refine wpS_bind (wpS_lift (wpAny_rule ⟨rfl, ?_⟩))
    refine wpS_bind (wpS_mono (wpS_forRange (I := fun _ c st' => HiI a b st x c st') (Q := HiQ a b st x) (fun y c st' _ _ h => wpS_mono (wpS_hiG T hk h) fun r st' h => by (first | exact nS r | exact nO r | exact nF r | exact nT r | exact nN r | exact nC r | cases r) <;> exact h) (fun c st' h => .inr h) ⟨out, k, j, mg + 1, ac, bc, g, rfl, rfl, hB⟩) ?_)
    rintro c st' (⟨r, rest, g', rfl, rfl, hr⟩ | ⟨out, k, j, mg', ac', bc', g', rfl, rfl, hB⟩)
    · exact wpS_pure ⟨r, _, g', rfl, rfl, hr⟩
    · exact wpS_bind (wpS_modify (wpS_pure ⟨out, k, j, mg' + 1, mg' + 1, rfl, rfl, hB⟩))
theorem wpS_hiT {x : Nat} {c : HiT} {st' : SortSt} (T : Two a b) (hk : kindOf st = oneType') (h : HTI a b st x c st') : wpS (model prog w) A E s (hiT a b c) (HTP a b st (x + 1)) st' := by
  obtain ⟨out, k, j, mg, g, rfl, rfl, hB⟩ := h
  refine wpS_bind (wpS_mono (wpS_forRange (I := fun y c st' => st' = setG st g ∧ H1I a b (x + y) c) (Q := fun c st' => st' = setG st g ∧ H1Q a b (x + 1) c) (fun y c st' _ _ h => ?_) (fun c st' h => ⟨h.1, H1Q.mono (.inr h.2) (Nat.add_le_add_left (Nat.le_trans T.na (Nat.le_add_right _ _)) x)⟩) ⟨rfl, out, k, j, 0, 0, rfl, hB⟩) ?_)
  · obtain ⟨rfl, h⟩ := h
    exact wpS_hiS T hk h (fun c q => ⟨rfl, q.mono (Nat.succ_le_succ (Nat.le_add_right _ _))⟩) fun c q => ⟨rfl, q⟩
  · rintro c st' ⟨rfl, q⟩
    exact wpS_hiM T hk q
theorem hi0 (k j : Nat) : 0 + (k + j + 3) < k + 1 + 1 + (j + 1 + 1) := by
  rw [Nat.zero_add]; exact Nat.lt_of_lt_of_eq (Nat.lt_succ_self (k + j + 3)) (Nat.add_add_add_comm k 2 j 2).symm
theorem wpS_mergeHi {Q : Array Keyed → SortSt → Prop} (hk : kindOf st = oneType') (T : Two a b) (q : ∀ out g, Mrg a b out → Q out (setG st g)) : wpS (model prog w) A E s (mergeHi' a b) Q st := by
  rw [mergeHi_named]
  refine wpS_bind (wpS_lift (wpAny_rule ⟨rfl, ?_⟩))
  obtain ⟨k, ea⟩ : ∃ k, a.size = k + 1 := Nat.exists_eq_succ_of_ne_zero (Nat.ne_of_gt T.na)
  obtain ⟨j, eb⟩ : ∃ j, b.size = j + 1 := Nat.exists_eq_succ_of_ne_zero (Nat.ne_of_gt T.nb)
  have hka : k < a.size := by rw [ea]; exact Nat.lt_succ_self k
  obtain ⟨p0, t0, e0, _, _⟩ := ik_at T.ka hka
  have M00 : HI a b #[] (k + 1) b.size := ⟨by rw [← ea, ← Array.length_toList, ← Array.length_toList, List.take_length, List.take_length]; simp, .nil, fun x hx => by simp at hx, fun x hx => by simp at hx⟩
  have M0 : HI a b #[p0] k b.size := M00.pushA T.sa hka e0 fun i h3 h4 => T.hl k i ea.symm h4
  rw [show a.size - 1 = k by rw [ea]; rfl]
  refine wpS_bind (wpS_elem e0 ?_)
  clear M00 e0
  refine wpS_if (fun h => ?_) fun ha1 => ?_
  · rw [eq_of_beq h] at M0 ⊢
    exact wpS_pure (q _ (gallopOf st) (T.hiA0 M0))
  refine wpS_if (fun h => ?_) fun hb1 => ?_
  · rw [eq_of_beq h] at M0 ⊢
    exact wpS_pure (q _ (gallopOf st) (T.first M0))
  obtain ⟨k, rfl⟩ : ∃ i, k = i + 1 := Nat.exists_eq_succ_of_ne_zero fun e => ha1 (by rw [e]; rfl)
  obtain ⟨j, rfl⟩ : ∃ i, j = i + 1 := Nat.exists_eq_succ_of_ne_zero fun e => hb1 (by rw [eb, e]; rfl)
  have I0 : HTI a b st 0 (none, k + 1, b.size, #[p0], gallopOf st) st := ⟨#[p0], k, j, _, gallopOf st, by rw [eb], rfl, by rw [eb] at M0; exact M0, Nat.lt_of_succ_lt hka, by rw [eb]; exact Nat.lt_succ_self _, by rw [ea, eb]; exact hi0 k j⟩
  refine wpS_bind (wpS_get (wpS_bind (wpS_mono (wpS_forRange (I := fun x c st' => HTI a b st x c st') (Q := HTQ a b st) (fun y c st' _ _ h => wpS_mono (wpS_hiT T hk h) fun r st' h => by (first | exact nS r | exact nO r | exact nF r | exact nT r | exact nN r | exact nC r | cases r) <;> exact h) ?_ I0) ?_)))
  · rintro c st' ⟨out, k', j', mg, g, rfl, rfl, hM, h3, h4, h5⟩
    exact absurd h5 (Nat.not_lt.mpr (Nat.le_add_right _ _))
  · rintro c st' ⟨r, rest, g, rfl, rfl, hM⟩
    exact wpS_pure (q _ _ hM)
end Mine

end
section -- TS6
open PySem PyProof.Rows
namespace Mine
variable {prog : Program} {w : World} {A : Around} {E : Value → Shared → Prop} {s : Shared}
variable {st : SortSt}

/-- writing a row into an array -/
noncomputable def wr (xs : Array Keyed) (n : Nat) (l : List Keyed) : Array Keyed := l.zipIdx.foldl (fun a (q : Keyed × Nat) => a.setIfInBounds (n + q.2) q.1) xs
theorem wr_go : ∀ (l : List Keyed) (k : Nat) (xs : Array Keyed) (n : Nat), n + k + l.length ≤ xs.size →
    ((l.zipIdx k).foldl (fun a (q : Keyed × Nat) => a.setIfInBounds (n + q.2) q.1) xs).toList = xs.toList.take (n + k) ++ l ++ xs.toList.drop (n + k + l.length)
  | [], k, xs, n, h => by simp
  | p :: l, k, xs, n, h => by
    rw [List.length_cons] at h
    rw [List.zipIdx_cons, List.foldl_cons]
    have ih := wr_go l (k + 1) (xs.setIfInBounds (n + k) p) n (by rw [Array.size_setIfInBounds]; (first | assumption | exact q1 ‹_› | exact q2 ‹_› ‹_› | exact q3 ‹_› ‹_› | exact q4 ‹_› ‹_› | exact q5 ‹_› | exact q6 ‹_› | lia | omega))
    refine ih.trans ?_
    rw [Array.toList_setIfInBounds, List.length_cons]
    have hlen : n + k < xs.toList.length := by rw [Array.length_toList]; (first | assumption | exact q1 ‹_› | exact q2 ‹_› ‹_› | exact q3 ‹_› ‹_› | exact q4 ‹_› ‹_› | exact q5 ‹_› | exact q6 ‹_› | lia | omega)
    have e1 : (xs.toList.set (n + k) p).take (n + (k + 1)) = xs.toList.take (n + k) ++ [p] := by
      rw [show n + (k + 1) = n + k + 1 by (first | assumption | exact q1 ‹_› | exact q2 ‹_› ‹_› | exact q3 ‹_› ‹_› | exact q4 ‹_› ‹_› | exact q5 ‹_› | exact q6 ‹_› | lia | omega), List.take_add_one, List.take_set_of_le (Nat.le_refl _), List.getElem?_set_self hlen]; rfl
    have e2 : (xs.toList.set (n + k) p).drop (n + (k + 1) + l.length) = xs.toList.drop (n + k + (l.length + 1)) := by
      rw [List.drop_set_of_lt (by (first | assumption | exact q1 ‹_› | exact q2 ‹_› ‹_› | exact q3 ‹_› ‹_› | exact q4 ‹_› ‹_› | exact q5 ‹_› | exact q6 ‹_› | lia | omega))]; congr 1; (first | assumption | exact q1 ‹_› | exact q2 ‹_› ‹_› | exact q3 ‹_› ‹_› | exact q4 ‹_› ‹_› | exact q5 ‹_› | exact q6 ‹_› | lia | omega)
    rw [e1, e2]
    simp [List.append_assoc]
theorem wr_list {xs : Array Keyed} {n : Nat} {l : List Keyed} (h : n + l.length ≤ xs.size) : (wr xs n l).toList = xs.toList.take n ++ l ++ xs.toList.drop (n + l.length) := wr_go l 0 xs n h
end Mine

end
section -- TS7
open PySem PyProof.Rows
namespace Mine
variable {prog : Program} {w : World} {A : Around} {E : Value → Shared → Prop} {s : Shared}
variable {st : SortSt}

noncomputable def Sg (X : Array Keyed) (l r : Nat) : Prop := ∀ i j, l ≤ i → i ≤ j → j < r → K X i ≤ K X j
theorem K_same {X Y : Array Keyed} {i j : Nat} (h : X.toList[i]? = Y.toList[j]?) : K X i = K Y j := by
  unfold K; rw [← Array.getElem?_toList, ← Array.getElem?_toList, h]
theorem K_ext {X : Array Keyed} {l k i : Nat} (hi : i < k) : K (X.extract l (l + k)) i = K X (l + i) := by
  refine K_same ?_
  rw [ext_list, List.getElem?_take_of_lt hi, List.getElem?_drop]
theorem seg_len {X : Array Keyed} {l k : Nat} (h : l + k ≤ X.size) : ((X.toList.drop l).take k).length = k := List.length_take_of_le (by rw [List.length_drop, Array.length_toList]; exact Nat.le_sub_of_add_le' h)
theorem size_ext {X : Array Keyed} {l k : Nat} (h : l + k ≤ X.size) : (X.extract l (l + k)).size = k := by rw [← Array.length_toList, ext_list, seg_len h]
theorem ik_ext {X : Array Keyed} {l k : Nat} (h : IK X.toList) : IK (X.extract l (l + k)).toList := fun p hp => by
  rw [ext_list] at hp
  exact h p (List.mem_of_mem_drop (List.mem_of_mem_take hp))
section
variable {X : Array Keyed} {n : Nat} {l : List Keyed}
theorem wr_len (h : n + l.length ≤ X.size) : (X.toList.take n).length = n := List.length_take_of_le (by rw [Array.length_toList]; exact Nat.le_trans (Nat.le_add_right _ _) h)
theorem wr_lo (h : n + l.length ≤ X.size) {i : Nat} (hi : i < n) : K (wr X n l) i = K X i := by
  refine K_same ?_
  rw [wr_list h, List.append_assoc, List.getElem?_append_left (by rw [wr_len h]; exact hi), List.getElem?_take_of_lt hi]
theorem wr_mid (h : n + l.length ≤ X.size) {j : Nat} (hj : j < l.length) : K (wr X n l) (n + j) = kk l[j] := by
  have e : (wr X n l).toList[n + j]? = some l[j] := by
    rw [wr_list h, List.append_assoc, List.getElem?_append_right (by rw [wr_len h]; exact Nat.le_add_right _ _), wr_len h, Nat.add_sub_cancel_left, List.getElem?_append_left hj, List.getElem?_eq_getElem hj]
  rw [Array.getElem?_toList] at e
  exact K_at e
theorem wr_hi (h : n + l.length ≤ X.size) {i : Nat} (hi : n + l.length ≤ i) : K (wr X n l) i = K X i := by
  obtain ⟨t, rfl⟩ := Nat.exists_eq_add_of_le hi
  have hl : (X.toList.take n ++ l).length = n + l.length := by rw [List.length_append, wr_len h]
  refine K_same ?_
  rw [wr_list h, List.getElem?_append_right (by rw [hl]; exact Nat.le_add_right _ _), hl, List.getElem?_drop, Nat.add_sub_cancel_left]
end
/-- a stretch of an array, put in order -/
structure Out (X Y : Array Keyed) (l r : Nat) : Prop where
  perm : Y.toList.Perm X.toList
  lo : ∀ i, i < l → K Y i = K X i
  hi : ∀ i, r ≤ i → K Y i = K X i
  srt : Sg Y l r
  mem : ∀ j, l ≤ j → j < r → ∃ t, l ≤ t ∧ t < r ∧ K Y j = K X t
theorem Out.refl {X : Array Keyed} {l r : Nat} (h : Sg X l r) : Out X X l r := ⟨.refl _, fun _ _ => rfl, fun _ _ => rfl, h, fun j h1 h2 => ⟨j, h1, h2, rfl⟩⟩
theorem Sg.join {X : Array Keyed} {a b c : Nat} (s1 : Sg X a b) (s2 : Sg X b c) (h : ∀ i j, a ≤ i → i < b → b ≤ j → j < c → K X i ≤ K X j) : Sg X a c := fun i j h1 h2 h3 => by
  by_cases hj : j < b
  · exact s1 i j h1 h2 hj
  by_cases hi : i < b
  · exact h i j h1 hi (Nat.not_lt.mp hj) h3
  · exact s2 i j (Nat.not_lt.mp hi) h2 h3
/-- more on the left, none of it above the stretch -/
theorem Out.low {X Y : Array Keyed} {a l r : Nat} (h : Out X Y l r) (ha : a ≤ l) (hr : l ≤ r) (s : Sg X a l) (hlow : ∀ i t, a ≤ i → i < l → l ≤ t → t < r → K X i ≤ K X t) : Out X Y a r := by
  refine ⟨h.perm, fun i hi => h.lo i (Nat.lt_of_lt_of_le hi ha), h.hi, Sg.join (fun i j h1 h2 h3 => ?_) h.srt fun i j h1 h2 h3 h4 => ?_, fun j h1 h2 => ?_⟩
  · rw [h.lo i (Nat.lt_of_le_of_lt h2 h3), h.lo j h3]; exact s i j h1 h2 h3
  · obtain ⟨t, t1, t2, t3⟩ := h.mem j h3 h4
    rw [h.lo i h2, t3]; exact hlow i t h1 h2 t1 t2
  · by_cases hj : j < l
    · exact ⟨j, h1, h2, h.lo j hj⟩
    · obtain ⟨t, t1, t2, t3⟩ := h.mem j (Nat.not_lt.mp hj) h2
      exact ⟨t, Nat.le_trans ha t1, t2, t3⟩
/-- more on the right, none of it below the stretch -/
theorem Out.up {X Y : Array Keyed} {l r b : Nat} (h : Out X Y l r) (hb : r ≤ b) (hr : l ≤ r) (s : Sg X r b) (hup : ∀ t j, l ≤ t → t < r → r ≤ j → j < b → K X t ≤ K X j) : Out X Y l b := by
  refine ⟨h.perm, h.lo, fun i hi => h.hi i (Nat.le_trans hb hi), Sg.join h.srt (fun i j h1 h2 h3 => ?_) fun i j h1 h2 h3 h4 => ?_, fun j h1 h2 => ?_⟩
  · rw [h.hi i h1, h.hi j (Nat.le_trans h1 h2)]; exact s i j h1 h2 h3
  · obtain ⟨t, t1, t2, t3⟩ := h.mem i h1 h2
    rw [h.hi j h3, t3]; exact hup t j t1 t2 h3 h4
  · by_cases hj : j < r
    · obtain ⟨t, t1, t2, t3⟩ := h.mem j h1 hj
      exact ⟨t, t1, Nat.lt_of_lt_of_le t2 hb, t3⟩
    · exact ⟨j, h1, h2, h.hi j (Nat.not_lt.mp hj)⟩
/-- two neighbouring rows in an array, merged -/
theorem out_of {X m : Array Keyed} {l d e : Nat} (hr : l + d + e ≤ X.size) (hm : Mrg (X.extract l (l + d)) (X.extract (l + d) (l + d + e)) m) : Out X (wr X l m.toList) l (l + d + e) := by
  have hp := hm.1
  rw [ext_list, ext_list] at hp
  have hlen : m.toList.length = d + e := by
    rw [hp.length_eq, List.length_append, seg_len (Nat.le_trans (Nat.le_add_right _ _) hr), seg_len hr]
  have hfit : l + m.toList.length ≤ X.size := by rw [hlen, ← Nat.add_assoc]; exact hr
  have mid : ∀ j, l ≤ j → j < l + d + e → ∃ t, ∃ ht : t < m.toList.length, j = l + t ∧ K (wr X l m.toList) j = kk m.toList[t] := fun j h1 h2 => by
    obtain ⟨t, rfl⟩ := Nat.exists_eq_add_of_le h1
    have ht : t < m.toList.length := by rw [hlen]; rw [Nat.add_assoc] at h2; exact Nat.lt_of_add_lt_add_left h2
    exact ⟨t, ht, rfl, wr_mid hfit ht⟩
  refine ⟨?_, fun i hi => wr_lo hfit hi, fun i hi => wr_hi hfit (by rw [hlen, ← Nat.add_assoc]; exact hi), fun i j h1 h2 h3 => ?_, fun j h1 h2 => ?_⟩
  · rw [wr_list hfit, hlen, ← Nat.add_assoc]
    have e1 : X.toList = X.toList.take l ++ ((X.toList.drop l).take d ++ (X.toList.drop (l + d)).take e) ++ X.toList.drop (l + d + e) := by
      rw [← List.drop_drop (l := X.toList) (i := e) (j := l + d), List.append_assoc, List.append_assoc, List.take_append_drop, ← List.drop_drop (l := X.toList) (i := d) (j := l), List.take_append_drop, List.take_append_drop]
    exact List.Perm.trans ((hp.append_left _).append_right _) (List.Perm.of_eq e1.symm)
  · obtain ⟨a, ha, rfl, ea⟩ := mid i h1 (Nat.lt_of_le_of_lt h2 h3)
    obtain ⟨b, hb, rfl, eb⟩ := mid j (Nat.le_trans h1 h2) h3
    rw [ea, eb]
    rcases Nat.lt_or_eq_of_le (Nat.le_of_add_le_add_left h2) with q | rfl
    · exact List.pairwise_iff_getElem.mp hm.2 a b ha hb q
    · exact Int.le_refl _
  · obtain ⟨t, ht, rfl, et⟩ := mid j h1 h2
    rw [et]
    rcases List.mem_append.mp (hp.mem_iff.mp (List.getElem_mem ht)) with q | q
    · obtain ⟨u, u1, u2, _, u4⟩ := seg_mem q
      exact ⟨u, u1, Nat.lt_of_lt_of_le u2 (Nat.le_add_right _ _), u4⟩
    · obtain ⟨u, u1, u2, _, u4⟩ := seg_mem q
      exact ⟨u, Nat.le_trans (Nat.le_add_right _ _) u1, u2, u4⟩
end Mine

end
section -- TS8
open PySem PyProof.Rows
namespace Mine
variable {prog : Program} {w : World} {A : Around} {E : Value → Shared → Prop} {s : Shared}
variable {st : SortSt}
theorem wpS_set {σ : Type} {M : Model} {t st : σ} {Q : PUnit → σ → Prop} (h : Q ⟨⟩ t) : wpS M A E s (set t : StateT σ Sem PUnit) Q st := by
  unfold wpS; rw [StateT.run_set]; exact wpAny_pure ⟨rfl, h⟩
abbrev mkS (st : SortSt) (Y : Array Keyed) (P : Array (Nat × Nat × Nat)) (g : Nat) : SortSt := SortSt.mk' (kindOf st) Y P g (failedOf st)
/-- behind the first search -/
noncomputable def mAt3 (l : Nat) (m : Array Keyed) : StateT SortSt Sem Bool := do
  modify fun s => setArr s (wr (arrOf s) l m.toList)
  let t ← get
  pure (failedOf t).isNone
noncomputable def mAt2 (X : Array Keyed) (l d sb nb : Nat) : StateT SortSt Sem Bool :=
  if (d == 0) = true then pure true
  else do
    let p ← elem' X (l + d - 1)
    let r ← gallop' true p X sb nb (nb - 1)
    match r with
    | some e =>
      if (e == 0) = true then pure true
      else if d ≤ e then do
        let m ← mergeLo' (X.extract l sb) (X.extract sb (sb + e))
        mAt3 l m
      else do
        let m ← mergeHi' (X.extract l sb) (X.extract sb (sb + e))
        mAt3 l m
    | _ => pure false
theorem mergeAt_named (i : Nat) : mergeAt' i = (do
    let s ← get
    match ((pendingOf s)[i]?, (pendingOf s)[i + 1]?) with
    | (some (sa, na, power), some (sb, nb, _)) => do
      set (setPending s (((pendingOf s).setIfInBounds i (sa, na + nb, power)).eraseIdxIfInBounds (i + 1)))
      let p ← elem' (arrOf s) sb
      let r ← gallop' false p (arrOf s) sa na 0
      match r with
      | some k => mAt2 (arrOf s) (sa + k) (na - k) sb nb
      | _ => pure false
    | _ => liftM (unsupported "internal:list.sort.pending" : Sem Bool)) := by kernel_rfl
theorem wpS_mAt3 {l g : Nat} {m : Array Keyed} {Q : Bool → SortSt → Prop} (hf : failedOf st = none) (q : Q true (setArr (setG st g) (wr (arrOf st) l m.toList))) : wpS (model prog w) A E s (mAt3 l m) Q (setG st g) := by
  refine wpS_bind (wpS_modify (wpS_bind (wpS_get (wpS_pure ?_))))
  show Q (failedOf st).isNone _
  rw [hf]; exact q
theorem wpS_mAt2 {l d nb : Nat} {Q : Bool → SortSt → Prop} (hk : kindOf st = oneType') (hf : failedOf st = none) (hX : IK (arrOf st).toList) (hr : l + d + nb ≤ (arrOf st).size) (s1 : Sg (arrOf st) l (l + d)) (s2 : Sg (arrOf st) (l + d) (l + d + nb)) (hnb : 0 < nb)
    (c3 : ∀ i, l ≤ i → i < l + d → K (arrOf st) (l + d) < K (arrOf st) i) (q : ∀ Y g, Out (arrOf st) Y l (l + d + nb) → Q true (setArr (setG st g) Y)) : wpS (model prog w) A E s (mAt2 (arrOf st) l d (l + d) nb) Q st := by
  unfold mAt2
  cases d with
  | zero => exact wpS_pure (q (arrOf st) (gallopOf st) (.refl s2))
  | succ d =>
    refine wpS_if (fun h => (Bool.false_ne_true h).elim) fun _ => ?_
    have hb : l + d + 1 ≤ (arrOf st).size := Nat.le_trans (Nat.le_add_right _ _) hr
    obtain ⟨p2, t2, e2, k2, _⟩ := ik_at hX hb
    refine wpS_bind (wpS_elem e2 (wpS_bind (wpS_galL hk k2 hX s2 hr (Nat.sub_lt hnb Nat.one_pos) fun e d1 d2 d3 => ?_)))
    have up : ∀ i j, l ≤ i → i < l + (d + 1) → l + (d + 1) + e ≤ j → j < l + (d + 1) + nb → K (arrOf st) i ≤ K (arrOf st) j := fun i j h1 h2 h3 h4 => Int.le_trans (s1 i (l + d) h1 (Nat.le_of_lt_succ h2) (Nat.lt_succ_self _)) (d3 j h3 h4)
    clear d3 e2 k2
    cases e with
    | zero => exact wpS_pure (q (arrOf st) (gallopOf st) (.refl (s1.join s2 up)))
    | succ e =>
      refine wpS_if (fun h => (Bool.false_ne_true h).elim) fun _ => ?_
      have he : l + (d + 1) + (e + 1) ≤ l + (d + 1) + nb := Nat.add_le_add_left d1 _
      have z1 := size_ext (X := arrOf st) (l := l) (k := d + 1) hb
      have z2 := size_ext (X := arrOf st) (l := l + (d + 1)) (k := e + 1) (Nat.le_trans he hr)
      have T : Two ((arrOf st).extract l (l + (d + 1))) ((arrOf st).extract (l + (d + 1)) (l + (d + 1) + (e + 1))) := by
        refine ⟨ik_ext hX, ik_ext hX, fun i j h3 h4 => ?_, fun i j h3 h4 => ?_, by rw [z1]; exact Nat.succ_pos _, by rw [z2]; exact Nat.succ_pos _, fun j h3 => ?_, fun i j h5 h3 => ?_⟩
        · rw [z1] at h4
          rw [K_ext (Nat.lt_of_le_of_lt h3 h4), K_ext h4]; exact s1 _ _ (Nat.le_add_right _ _) (Nat.add_le_add_left h3 _) (Nat.add_lt_add_left h4 _)
        · rw [z2] at h4
          rw [K_ext (Nat.lt_of_le_of_lt h3 h4), K_ext h4]; exact s2 _ _ (Nat.le_add_right _ _) (Nat.add_le_add_left h3 _) (Nat.lt_of_lt_of_le (Nat.add_lt_add_left h4 _) he)
        · rw [z1] at h3
          rw [K_ext (Nat.succ_pos _), K_ext h3]; exact Int.le_of_lt (c3 _ (Nat.le_add_right _ _) (Nat.add_lt_add_left h3 _))
        · rw [z2] at h3
          rw [Nat.succ.inj (h5.trans z1), K_ext h3, K_ext (Nat.lt_succ_self d)]; exact Int.le_of_lt (d2 _ (Nat.le_add_right _ _) (Nat.add_lt_add_left h3 _))
      have fin : ∀ m g, Mrg ((arrOf st).extract l (l + (d + 1))) ((arrOf st).extract (l + (d + 1)) (l + (d + 1) + (e + 1))) m → wpS (model prog w) A E s (mAt3 l m) Q (setG st g) := fun m g hm =>
        wpS_mAt3 hf (q _ g ((out_of (Nat.le_trans he hr) hm).up he (Nat.le_trans (Nat.le_add_right _ _) (Nat.le_add_right _ _)) (fun i j h1 h2 h3 => s2 i j (Nat.le_trans (Nat.le_add_right _ _) h1) h2 h3) fun t j h1 h2 h3 h4 => by
          by_cases ht : t < l + (d + 1)
          · exact up t j h1 ht h3 h4
          · exact s2 t j (Nat.not_lt.mp ht) (Nat.le_of_lt (Nat.lt_of_lt_of_le h2 h3)) h4))
      exact wpS_if (fun _ => wpS_bind (wpS_mergeLo hk T fin)) fun _ => wpS_bind (wpS_mergeHi hk T fin)
theorem wpS_mergeAt {i sa na pw nb pw' : Nat} {Q : Bool → SortSt → Prop} (hk : kindOf st = oneType') (hf : failedOf st = none) (hX : IK (arrOf st).toList) (h1 : (pendingOf st)[i]? = some (sa, na, pw)) (h2 : (pendingOf st)[i + 1]? = some (sa + na, nb, pw'))
    (hr : sa + na + nb ≤ (arrOf st).size) (s1 : Sg (arrOf st) sa (sa + na)) (s2 : Sg (arrOf st) (sa + na) (sa + na + nb)) (hna : 0 < na) (hnb : 0 < nb)
    (q : ∀ Y g, Out (arrOf st) Y sa (sa + na + nb) → Q true (mkS st Y (((pendingOf st).setIfInBounds i (sa, na + nb, pw)).eraseIdxIfInBounds (i + 1)) g)) : wpS (model prog w) A E s (mergeAt' i) Q st := by
  rw [mergeAt_named]
  refine wpS_bind (wpS_get ?_)
  rw [h1, h2]
  refine wpS_bind (wpS_set ?_)
  generalize ((pendingOf st).setIfInBounds i (sa, na + nb, pw)).eraseIdxIfInBounds (i + 1) = P at q ⊢
  clear h1 h2
  obtain ⟨p1, t1, e1, k1, _⟩ := ik_at hX (Nat.lt_of_lt_of_le (Nat.lt_add_of_pos_right hnb) hr)
  refine wpS_bind (wpS_elem e1 (wpS_bind (wpS_galR hk k1 hX s1 (Nat.le_trans (Nat.le_add_right _ _) hr) hna fun k c1 c2 c3 => ?_)))
  clear e1 k1
  obtain ⟨d, rfl⟩ := Nat.exists_eq_add_of_le c1
  show wpS (model prog w) A E s (mAt2 (arrOf st) (sa + k) (k + d - k) (sa + (k + d)) nb) Q _
  rw [Nat.add_sub_cancel_left]
  rw [← Nat.add_assoc] at hr s1 s2 q c2 c3 ⊢
  refine wpS_mAt2 (st := setPending st P) hk hf hX hr (fun i j h1 h2 h3 => s1 i j (Nat.le_trans (Nat.le_add_right _ _) h1) h2 h3) s2 hnb c3 fun Y g O => q Y g (O.low (Nat.le_add_right _ _) (by rw [Nat.add_assoc]; exact Nat.le_add_right _ _) (fun i j h1 h2 h3 => s1 i j h1 h2 (Nat.lt_of_lt_of_le h3 (Nat.le_add_right _ _))) fun i t h1 h2 h3 h4 => ?_)
  by_cases ht : t < sa + k + d
  · exact s1 i t h1 (Nat.le_of_lt (Nat.lt_of_lt_of_le h2 h3)) ht
  · exact Int.le_trans (c2 i h1 h2) (s2 _ t (Nat.le_refl _) (Nat.not_lt.mp ht) h4)
end Mine

end
section -- TS9
open PySem PyProof.Rows
namespace Mine
variable {prog : Program} {w : World} {A : Around} {E : Value → Shared → Prop} {s : Shared}
variable {st st' : SortSt} {lo n nrem : Nat}

/-- a state behind steps that change nothing below lo -/
structure RB (st : SortSt) (lo : Nat) (st' : SortSt) : Prop where
  eq : st' = setArr st (arrOf st')
  perm : (arrOf st').toList.Perm (arrOf st).toList
  low : ∀ i, i < lo → K (arrOf st') i = K (arrOf st) i
theorem RB.refl : RB st lo st := ⟨rfl, .refl _, fun _ _ => rfl⟩
theorem RB.size (h : RB st lo st') : (arrOf st').size = (arrOf st).size := by
  have := h.perm.length_eq
  rwa [Array.length_toList, Array.length_toList] at this
theorem RB.ik (h : RB st lo st') (hX : IK (arrOf st).toList) : IK (arrOf st').toList := fun p hp => hX p (h.perm.mem_iff.mp hp)
theorem RB.set (h : RB st lo st') {Y : Array Keyed} (hp : Y.Perm (arrOf st')) (hl : ∀ i, i < lo → K Y i = K (arrOf st') i) : RB st lo (setArr st' Y) := by
  refine ⟨?_, (Array.perm_iff_toList_perm.mp hp).trans h.perm, fun i hi => (hl i hi).trans (h.low i hi)⟩
  rw [h.eq]
theorem RB.kind (h : RB st lo st') (hk : kindOf st = oneType') : kindOf st' = oneType' := by rw [h.eq]; exact hk
theorem wpS_ltX {α : Type} {F : Option Bool → StateT SortSt Sem α} {i j : Nat} {Q : α → SortSt → Prop} (hk : kindOf st = oneType') (hX : IK (arrOf st).toList) (hi : i < (arrOf st).size) (hj : j < (arrOf st).size)
    (h1 : K (arrOf st) i < K (arrOf st) j → wpS (model prog w) A E s (F (some true)) Q st) (h2 : ¬ K (arrOf st) i < K (arrOf st) j → wpS (model prog w) A E s (F (some false)) Q st) : wpS (model prog w) A E s (ltAt' i j >>= F) Q st := by
  obtain ⟨⟨p1, p2⟩, t, e1, e2, _⟩ := ik_at hX hi
  obtain ⟨⟨q1, q2⟩, u, f1, f2, _⟩ := ik_at hX hj
  (first | exact nS e2 | exact nO e2 | exact nF e2 | exact nT e2 | exact nN e2 | exact nC e2 | cases e2); (first | exact nS f2 | exact nO f2 | exact nF f2 | exact nT f2 | exact nN f2 | exact nC f2 | cases f2)
  refine wpS_bind (wpS_ltAt hk e1 f1 ?_)
  cases h : decide (K (arrOf st) i < K (arrOf st) j) with
  | true => exact h1 (of_decide_eq_true h)
  | false => exact h2 (of_decide_eq_false h)

noncomputable def ascL (lo a nrem : Nat) : StateT SortSt Sem (Option (Option Nat) × Nat) :=
  forIn [a:nrem] ((none, a) : Option (Option Nat) × Nat) fun _ c => do
    let x ← ltAt' (lo + c.snd) (lo + c.snd - 1)
    match x with
    | some smaller => if smaller = true then pure (ForInStep.done (none, c.snd)) else pure (ForInStep.yield (none, c.snd + 1))
    | _ => pure (ForInStep.done (some none, c.snd))
theorem Sg.succ {X : Array Keyed} {l r : Nat} (h : Sg X l r) (h1 : K X (r - 1) ≤ K X r) : Sg X l (r + 1) := fun i j a b c => by
  rcases Nat.lt_or_eq_of_le (Nat.le_of_lt_succ c) with hj | rfl
  · exact h i j a b hj
  rcases Nat.lt_or_eq_of_le b with hi | rfl
  · exact Int.le_trans (h i (j - 1) a (Nat.le_pred_of_lt hi) (Nat.sub_one_lt_of_lt hi)) h1
  · exact Int.le_refl _
theorem Sg.one {X : Array Keyed} {l : Nat} : Sg X l (l + 1) := fun i j a b c => by rw [Nat.le_antisymm b (Nat.le_trans (Nat.le_of_lt_succ c) a)]; exact Int.le_refl _
theorem wpS_ascL {a : Nat} {Q : Option (Option Nat) × Nat → SortSt → Prop} (hk : kindOf st = oneType') (hX : IK (arrOf st).toList) (hn : lo + nrem ≤ (arrOf st).size) (han : a ≤ nrem) (hs : Sg (arrOf st) lo (lo + a))
    (h : ∀ n, a ≤ n → n ≤ nrem → Sg (arrOf st) lo (lo + n) → (n = nrem ∨ K (arrOf st) (lo + n) < K (arrOf st) (lo + n - 1)) → Q (none, n) st) : wpS (model prog w) A E s (ascL lo a nrem) Q st := by
  refine wpS_forRange (I := fun x c st' => st' = st ∧ c = (none, x) ∧ Sg (arrOf st) lo (lo + x)) ?step ?fin ⟨rfl, rfl, hs⟩
  case fin =>
    rintro c st' ⟨rfl, rfl, hs'⟩
    rw [Nat.max_eq_right han] at hs' ⊢
    exact h nrem han (Nat.le_refl _) hs' (.inl rfl)
  case step =>
    rintro x c st' hax hxn ⟨rfl, rfl, hs'⟩
    have hin : lo + x < (arrOf st').size := Nat.lt_of_lt_of_le (Nat.add_lt_add_left hxn lo) hn
    clear hs hn
    exact wpS_ltX hk hX hin (Nat.lt_of_le_of_lt (Nat.sub_le _ _) hin) (fun q => wpS_pure (h x hax (Nat.le_of_lt hxn) hs' (.inr q))) fun q => wpS_pure ⟨rfl, rfl, hs'.succ (Int.not_lt.mp q)⟩

noncomputable def Dn (X : Array Keyed) (l r : Nat) : Prop := ∀ i j, l ≤ i → i ≤ j → j < r → K X j ≤ K X i
noncomputable def tailL (lo n nrem : Nat) : StateT SortSt Sem (Option Nat) := do
  reverseSlice' lo (lo + n)
  let c ← ascL lo n nrem
  match c.fst with
  | some r => pure r
  | none => pure (some c.snd)
theorem mirror_low {X : Array Keyed} {i j : Nat} (hj : j ≤ X.size) (k : Nat) (hk : k < i) : K (mirror X i j ((j - i) / 2)) k = K X k := by
  rw [K_mirror hj, if_neg fun q => Nat.not_le.mpr hk q.1]
theorem mir1 {l r j : Nat} (h : j < r) : l ≤ l + r - 1 - j := by (first | assumption | exact q1 ‹_› | exact q2 ‹_› ‹_› | exact q3 ‹_› ‹_› | exact q4 ‹_› ‹_› | exact q5 ‹_› | exact q6 ‹_› | lia | omega)
theorem mir3 {l r i : Nat} (h : l ≤ i) (h2 : i < r) : l + r - 1 - i < r := by (first | assumption | exact q1 ‹_› | exact q2 ‹_› ‹_› | exact q3 ‹_› ‹_› | exact q4 ‹_› ‹_› | exact q5 ‹_› | exact q6 ‹_› | lia | omega)
theorem Dn.mirror {X : Array Keyed} {l r : Nat} (h : Dn X l r) (hr : r ≤ X.size) : Sg (mirror X l r ((r - l) / 2)) l r := fun i j a b c => by
  rw [K_mirror hr, K_mirror hr, if_pos ⟨a, Nat.lt_of_le_of_lt b c⟩, if_pos ⟨Nat.le_trans a b, c⟩]
  exact h _ _ (mir1 c) (Nat.sub_le_sub_left b _) (mir3 a (Nat.lt_of_le_of_lt b c))
theorem wpS_tailL {st0 : SortSt} {Q : Option Nat → SortSt → Prop} (R : RB st0 lo st) (hk : kindOf st0 = oneType') (hX : IK (arrOf st0).toList) (hn : lo + nrem ≤ (arrOf st0).size) (h1 : 1 ≤ n) (hnn : n ≤ nrem)
    (hs : Dn (arrOf st) lo (lo + n)) (h : ∀ m st', RB st0 lo st' → 1 ≤ m → m ≤ nrem → Sg (arrOf st') lo (lo + m) → Q (some m) st') : wpS (model prog w) A E s (tailL lo n nrem) Q st := by
  have hsz : lo + n ≤ (arrOf st).size := by rw [R.size]; exact Nat.le_trans (Nat.add_le_add_left hnn lo) hn
  have R' : RB st0 lo (setArr st (mirror (arrOf st) lo (lo + n) ((lo + n - lo) / 2))) := R.set (mirror_perm _ _ _ _) fun i hi => mirror_low hsz i hi
  exact wpS_bind (wpS_reverse (wpS_bind (wpS_ascL (R'.kind hk) (R'.ik hX) (by rw [R'.size]; exact hn) hnn (hs.mirror hsz) fun m hm1 hm2 hsm _ => wpS_pure (h m _ R' (Nat.le_trans h1 hm1) hm2 hsm))))
noncomputable def descL (lo n nrem : Nat) : StateT SortSt Sem (Option (Option Nat) × Nat × Nat) :=
  forIn [n:nrem] ((none, n, 0) : Option (Option Nat) × Nat × Nat) fun _ c => do
    let x ← ltAt' (lo + c.snd.fst) (lo + c.snd.fst - 1)
    match x with
    | some smaller =>
      if smaller = true then
        if c.snd.snd > 0 then do
          reverseSlice' (lo + c.snd.fst - (c.snd.snd + 1)) (lo + c.snd.fst)
          pure (ForInStep.yield (none, c.snd.fst + 1, 0))
        else pure (ForInStep.yield (none, c.snd.fst + 1, 0))
      else do
        let y ← ltAt' (lo + c.snd.fst - 1) (lo + c.snd.fst)
        match y with
        | some larger =>
          if larger = true then pure (ForInStep.done (none, c.snd.fst, c.snd.snd))
          else pure (ForInStep.yield (none, c.snd.fst + 1, c.snd.snd + 1))
        | _ => pure (ForInStep.done (some none, c.snd.fst, c.snd.snd))
    | _ => pure (ForInStep.done (some none, c.snd.fst, c.snd.snd))
noncomputable def descP (lo n nrem : Nat) : StateT SortSt Sem (Option Nat) := do
  liftM (rule "list.sort.descending-run")
  let c ← descL lo (n + 1) nrem
  match c.fst with
  | some r => pure r
  | none =>
    if c.snd.snd > 0 then do
      reverseSlice' (lo + c.snd.fst - (c.snd.snd + 1)) (lo + c.snd.fst)
      tailL lo c.snd.fst nrem
    else tailL lo c.snd.fst nrem
theorem countRunL_eq (lo nrem : Nat) : countRun' lo nrem = (do
    let c ← ascL lo 1 nrem
    match c.fst with
    | some r => pure r
    | none =>
      if (c.snd == nrem) = true then pure (some c.snd)
      else if c.snd > 1 then do
        let x ← ltAt' lo (lo + c.snd - 1)
        match x with
        | some rose => if rose = true then pure (some c.snd) else do
            reverseSlice' lo (lo + c.snd)
            descP lo c.snd nrem
        | _ => pure none
      else descP lo c.snd nrem) := by kernel_rfl
end Mine

end
section -- TS10
open PySem PyProof.Rows
namespace Mine
variable {prog : Program} {w : World} {A : Around} {E : Value → Shared → Prop} {s : Shared}
variable {st st0 : SortSt} {lo n nrem : Nat}
theorem Dn.succ {X : Array Keyed} {l r : Nat} (h : Dn X l r) (h1 : K X r ≤ K X (r - 1)) : Dn X l (r + 1) := fun i j a b c => by
  rcases Nat.lt_or_eq_of_le (Nat.le_of_lt_succ c) with hj | rfl
  · exact h i j a b hj
  rcases Nat.lt_or_eq_of_le b with hi | rfl
  · exact Int.le_trans h1 (h i (j - 1) a (Nat.le_pred_of_lt hi) (Nat.sub_one_lt_of_lt hi))
  · exact Int.le_refl _
theorem Dn.congr {X Y : Array Keyed} {l r : Nat} (h : Dn X l r) (e : ∀ k, K Y k = K X k) : Dn Y l r := fun i j a b c => by rw [e, e]; exact h i j a b c
structure DI (X : Array Keyed) (lo x neq : Nat) : Prop where
  le : neq + 1 ≤ x
  dn : Dn X lo (lo + x)
  eq : ∀ i, lo + x - (neq + 1) ≤ i → i < lo + x → K X i = K X (lo + x - 1)
section
variable {X : Array Keyed} {x neq : Nat}
theorem DI.zero (h : Dn X lo (lo + x)) (h1 : 1 ≤ x) : DI X lo x 0 := ⟨h1, h, fun i a b => by rw [Nat.le_antisymm (Nat.le_pred_of_lt b) a]; rfl⟩
theorem DI.lw (h : DI X lo x neq) (i : Nat) (hi : i < lo) : i < lo + x - (neq + 1) := by
  rw [Nat.add_sub_assoc h.le]; exact Nat.lt_of_lt_of_le hi (Nat.le_add_right _ _)
theorem DI.fall (h : DI X lo x neq) (q : K X (lo + x) < K X (lo + x - 1)) : Dn X lo (lo + (x + 1)) := h.dn.succ (Int.le_of_lt q)
theorem DI.same (h : DI X lo x neq) (q : ¬ K X (lo + x) < K X (lo + x - 1)) (q2 : ¬ K X (lo + x - 1) < K X (lo + x)) : DI X lo (x + 1) (neq + 1) := by
  have e : K X (lo + x) = K X (lo + x - 1) := Int.le_antisymm (Int.not_lt.mp q2) (Int.not_lt.mp q)
  refine ⟨Nat.succ_le_succ h.le, h.dn.succ (Int.le_of_eq e), fun i a b => ?_⟩
  rw [Nat.add_succ_sub_one]
  rcases Nat.lt_or_eq_of_le (Nat.le_of_lt_succ b) with b | b
  · rw [e]; exact h.eq i (by rwa [← Nat.add_assoc, Nat.add_sub_add_right] at a) b
  · rw [b]; rfl
end
inductive DV (st0 : SortSt) (lo x : Nat) (c : Option (Option Nat) × Nat × Nat) (st' : SortSt) : Prop where
  | mk (neq : Nat) (e : c = (none, x, neq)) (R : RB st0 lo st') (D : DI (arrOf st') lo x neq) : DV st0 lo x c st'
theorem wpS_descL {Q : Option (Option Nat) × Nat × Nat → SortSt → Prop} (R : RB st0 lo st) (hk : kindOf st0 = oneType') (hX : IK (arrOf st0).toList) (hn : lo + nrem ≤ (arrOf st0).size) (h1 : 1 ≤ n) (hnn : n ≤ nrem)
    (hs : Dn (arrOf st) lo (lo + n)) (h : ∀ m neq st', RB st0 lo st' → n ≤ m → m ≤ nrem → DI (arrOf st') lo m neq → Q (none, m, neq) st') :
    wpS (model prog w) A E s (descL lo n nrem) Q st := by
  refine wpS_forRange (I := fun x c st' => DV st0 lo x c st') ?step ?fin ⟨0, rfl, R, .zero hs h1⟩
  case fin =>
    rintro c st' ⟨neq, rfl, R', D⟩
    rw [Nat.max_eq_right hnn] at D ⊢
    exact h nrem neq st' R' hnn (Nat.le_refl _) D
  case step =>
    rintro x c st' hax hxn ⟨neq, rfl, R', D⟩
    have hin : lo + x < (arrOf st').size := by rw [R'.size]; exact Nat.lt_of_lt_of_le (Nat.add_lt_add_left hxn lo) hn
    have hin' := Nat.lt_of_le_of_lt (Nat.sub_le (lo + x) 1) hin
    have hk' := R'.kind hk
    have hX' := R'.ik hX
    clear hs R h1 hnn hn hk hX
    refine wpS_ltX hk' hX' hin hin' (fun hless => ?_) fun hless => ?_
    · have D1 := D.fall hless
      refine wpS_if (fun _ => wpS_if (fun _ => wpS_bind (wpS_reverse (wpS_pure ?_))) fun _ => wpS_pure ?_) fun h => absurd rfl h
      · exact ⟨0, rfl, R'.set (mirror_perm _ _ _ _) fun i hi => mirror_low (Nat.le_of_lt hin) i (D.lw i hi), .zero (D1.congr (K_mirror_equal (Nat.le_of_lt hin) D.eq)) (Nat.succ_pos _)⟩
      · exact ⟨0, rfl, R', .zero D1 (Nat.succ_pos _)⟩
    · refine wpS_ltX hk' hX' hin' hin (fun hl => ?_) fun hl => ?_
      · exact wpS_pure (h x neq st' R' hax (Nat.le_of_lt hxn) D)
      · exact wpS_pure ⟨neq + 1, rfl, R', D.same hless hl⟩
theorem wpS_descP {Q : Option Nat → SortSt → Prop} (R : RB st0 lo st) (hk : kindOf st0 = oneType') (hX : IK (arrOf st0).toList) (hn : lo + nrem ≤ (arrOf st0).size) (hnn : n + 1 ≤ nrem)
    (hs : Dn (arrOf st) lo (lo + (n + 1))) (h : ∀ m st', RB st0 lo st' → 1 ≤ m → m ≤ nrem → Sg (arrOf st') lo (lo + m) → Q (some m) st') :
    wpS (model prog w) A E s (descP lo n nrem) Q st := by
  refine wpS_bind (wpS_lift (wpAny_rule ⟨rfl, wpS_bind (wpS_descL R hk hX hn (Nat.succ_pos _) hnn hs fun m neq st' R' hm1 hm2 D => ?_)⟩))
  have hsz : lo + m ≤ (arrOf st').size := by rw [R'.size]; exact Nat.le_trans (Nat.add_le_add_left hm2 lo) hn
  have h1 : 1 ≤ m := Nat.le_trans (Nat.succ_pos _) hm1
  exact wpS_if (fun _ => wpS_bind (wpS_reverse (wpS_tailL (R'.set (mirror_perm _ _ _ _) fun i hi => mirror_low hsz i (D.lw i hi)) hk hX hn h1 hm2 (D.dn.congr (K_mirror_equal hsz D.eq)) h))) fun _ => wpS_tailL R' hk hX hn h1 hm2 D.dn h
theorem flat_of {X : Array Keyed} {l r : Nat} (hs : Sg X l r) (h : ¬ K X l < K X (r - 1)) (k : Nat) (h1 : l ≤ k) (h2 : k < r) : K X k = K X (r - 1) :=
  Int.le_antisymm (hs k (r - 1) h1 (Nat.le_pred_of_lt h2) (Nat.sub_one_lt_of_lt h2)) (Int.le_trans (Int.not_lt.mp h) (hs l k (Nat.le_refl _) h1 h2))
theorem wpS_countRunL {Q : Option Nat → SortSt → Prop} (hk : kindOf st = oneType') (hX : IK (arrOf st).toList) (hn : lo + nrem ≤ (arrOf st).size) (h1 : 1 ≤ nrem)
    (h : ∀ m st', RB st lo st' → 1 ≤ m → m ≤ nrem → Sg (arrOf st') lo (lo + m) → Q (some m) st') : wpS (model prog w) A E s (countRun' lo nrem) Q st := by
  rw [countRunL_eq]
  refine wpS_bind (wpS_ascL hk hX hn h1 .one fun n hn1 hn2 hsn hor => ?_)
  refine wpS_if (fun _ => wpS_pure (h n st .refl hn1 hn2 hsn)) fun hnn => ?_
  have hnn : ¬ n = nrem := fun q => hnn (beq_iff_eq.mpr q)
  have hlt : K (arrOf st) (lo + n) < K (arrOf st) (lo + n - 1) := hor.resolve_left hnn
  have hn3 : n < nrem := Nat.lt_of_le_of_ne hn2 hnn
  have hsz : lo + n < (arrOf st).size := Nat.lt_of_lt_of_le (Nat.add_lt_add_left hn3 lo) hn
  clear hor hnn hn2
  refine wpS_if (fun hgt => ?_) fun hgt => ?_
  · refine wpS_ltX hk hX (Nat.lt_of_le_of_lt (Nat.le_add_right _ _) hsz) (Nat.lt_of_le_of_lt (Nat.sub_le _ _) hsz) (fun _ => wpS_pure (h n st .refl hn1 (Nat.le_of_lt hn3) hsn)) fun hr => ?_
    have hall := flat_of hsn hr
    have D0 : Dn (arrOf st) lo (lo + n) := fun i j a b c => by rw [hall i a (Nat.lt_of_le_of_lt b c), hall j (Nat.le_trans a b) c]; exact Int.le_refl _
    exact wpS_bind (wpS_reverse (wpS_descP (RB.refl.set (mirror_perm _ _ _ _) fun i hi => mirror_low (Nat.le_of_lt hsz) i hi) hk hX hn hn3 (Dn.congr (D0.succ (Int.le_of_lt hlt)) (K_mirror_equal (Nat.le_of_lt hsz) hall)) h))
  · have e : n = 1 := Nat.le_antisymm (Nat.not_lt.mp hgt) hn1
    subst e
    exact wpS_descP .refl hk hX hn hn3 (Dn.succ (r := lo + 1) (fun i j a b c => by rw [Nat.le_antisymm b (Nat.le_trans (Nat.le_of_lt_succ c) a)]; exact Int.le_refl _) (Int.le_of_lt hlt)) h
/-- the place of the item at k lies between l and r -/
structure BI (X : Array Keyed) (lo k x l r : Nat) : Prop where
  le : l ≤ r
  rk : r ≤ k
  few : r + x ≤ l + k
  low : ∀ i, lo ≤ i → i < lo + l → K X i ≤ K X (lo + k)
  high : ∀ i, lo + r ≤ i → i < lo + k → K X (lo + k) < K X i
section
variable {X : Array Keyed} {k x l r m : Nat}
theorem BI.start : BI X lo k 0 0 k := ⟨Nat.zero_le _, Nat.le_refl _, Nat.le_of_eq (Nat.add_comm _ _), fun i h1 h2 => absurd h1 (Nat.not_le.mpr h2), fun i h1 h2 => absurd h1 (Nat.not_le.mpr h2)⟩
theorem BI.fin (h : BI X lo k k l r) : BI X lo k 0 l l := by
  have e : l = r := Nat.le_antisymm h.le (Nat.le_of_add_le_add_right h.few)
  subst e
  exact ⟨h.le, h.rk, Nat.add_le_add_left (Nat.zero_le k) l, h.low, h.high⟩
theorem BI.met (h : BI X lo k x l r) (e : l ≥ r) : BI X lo k 0 l l := by
  have e : l = r := Nat.le_antisymm h.le e
  subst e
  exact ⟨h.le, h.rk, Nat.add_le_add_left (Nat.zero_le k) l, h.low, h.high⟩
theorem BI.dn (h : BI X lo k x l r) (hs : Sg X lo (lo + k)) (h1 : l ≤ m) (h2 : m < r) (hless : K X (lo + k) < K X (lo + m)) : BI X lo k (x + 1) l m :=
  ⟨h1, Nat.le_trans (Nat.le_of_lt h2) h.rk, Nat.le_trans (Nat.le_trans (Nat.le_of_eq (Nat.add_right_comm m x 1)) (Nat.add_le_add_right h2 x)) h.few, h.low, fun i a b => Int.lt_of_lt_of_le hless (hs _ _ (Nat.le_add_right _ _) a b)⟩
theorem BI.up (h : BI X lo k x l r) (hs : Sg X lo (lo + k)) (h1 : l ≤ m) (h2 : m < r) (hless : ¬ K X (lo + k) < K X (lo + m)) : BI X lo k (x + 1) (m + 1) r :=
  ⟨h2, h.rk, Nat.le_trans (Nat.succ_le_succ (Nat.le_trans h.few (Nat.add_le_add_right h1 k))) (Nat.le_of_eq (Nat.add_right_comm m k 1)), fun i a b => Int.le_trans (hs i (lo + m) a (Nat.le_of_lt_succ b) (Nat.add_lt_add_left (Nat.lt_of_lt_of_le h2 h.rk) lo)) (Int.not_lt.mp hless), h.high⟩
theorem Sg.of_step {b : Nat} (h : ∀ i, lo ≤ i → i + 1 < b → K X i ≤ K X (i + 1)) : Sg X lo b := fun i j h1 h2 h3 => by
  induction h2 with
  | refl => exact Int.le_refl _
  | step h2 ih => exact Int.le_trans (ih (Nat.lt_of_succ_lt h3)) (h _ (Nat.le_trans h1 h2) h3)
theorem BI.put (h : BI X lo k x l l) (hs : Sg X lo (lo + k)) (hk : lo + k < X.size) :
    (∀ i, i < lo + l → K (bubble X (lo + k) (lo + k - (lo + l))) i = K X i) ∧ Sg (bubble X (lo + k) (lo + k - (lo + l))) lo (lo + (k + 1)) := by
  have hp : lo + l ≤ lo + k := Nat.add_le_add_left h.rk lo
  have e : ∀ i, _ := K_bubble hk (Nat.sub_le (lo + k) (lo + l))
  rw [Nat.sub_sub_self hp] at e
  generalize bubble X (lo + k) (lo + k - (lo + l)) = Y at e ⊢
  obtain ⟨lk, low, high⟩ := And.intro h.rk (And.intro h.low h.high)
  clear h
  have hlp : lo ≤ lo + l := Nat.le_add_right _ _
  generalize lo + l = p at e hp low high hlp ⊢
  have e1 : ∀ i, i < p → K Y i = K X i := fun i q => by rw [e, if_neg (Nat.ne_of_lt q), if_neg fun q' => Nat.lt_asymm q q'.1]
  have e2 : K Y p = K X (lo + k) := by rw [e, if_pos rfl]
  have e3 : ∀ i, p ≤ i → i < lo + k → K Y (i + 1) = K X i := fun i q q' => by rw [e, if_neg (Nat.ne_of_gt (Nat.lt_succ_of_le q)), if_pos ⟨Nat.lt_succ_of_le q, q'⟩, Nat.add_sub_cancel]
  refine ⟨e1, .of_step fun i a b => ?_⟩
  have b : i < lo + k := Nat.lt_of_succ_lt_succ b
  rcases Nat.lt_trichotomy i p with q | q | q
  · rw [e1 i q]
    rcases Nat.lt_or_eq_of_le (Nat.succ_le_of_lt q) with q' | q'
    · rw [e1 _ q']; exact hs _ _ a (Nat.le_succ _) (Nat.lt_of_lt_of_le q' hp)
    · rw [show i + 1 = p from q', e2]; exact low i a q
  · rw [q, e2, e3 p (Nat.le_refl _) (q ▸ b)]; exact Int.le_of_lt (high p (Nat.le_refl _) (q ▸ b))
  · rw [e3 i (Nat.le_of_lt q) b]
    cases i with
    | zero => (first | exact nS q | exact nO q | exact nF q | exact nT q | exact nN q | exact nC q | cases q)
    | succ j =>
      rw [e3 j (Nat.le_of_lt_succ q) (Nat.lt_of_succ_lt b)]
      exact hs j (j + 1) (Nat.le_trans hlp (Nat.le_of_lt_succ q)) (Nat.le_succ _) b
end
inductive BJ (st' : SortSt) (lo k x : Nat) (f : Nat → Nat → Nat) (c : Option Bool × Nat × Nat) (st'' : SortSt) : Prop where
  | mk (e : st'' = st') (l r : Nat) (e1 : c = (none, l, r)) (B : BI (arrOf st') lo k x l (f l r)) : BJ st' lo k x f c st''
theorem mid2 {l r : Nat} (h : l < r) : l ≤ (l + r) / 2 ∧ (l + r) / 2 < r := by (first | assumption | exact q1 ‹_› | exact q2 ‹_› ‹_› | exact q3 ‹_› ‹_› | exact q4 ‹_› ‹_› | exact q5 ‹_› | exact q6 ‹_› | lia | omega)
theorem wpS_binL {ok : Nat} {Q : Bool → SortSt → Prop} (R : RB st0 lo st) (hk : kindOf st0 = oneType') (hX : IK (arrOf st0).toList) (hn : lo + n ≤ (arrOf st0).size) (hok : ok ≤ n) (hs : Sg (arrOf st) lo (lo + ok))
    (h : ∀ st', RB st0 lo st' → Sg (arrOf st') lo (lo + n) → Q true st') : wpS (model prog w) A E s (binarySort' lo n ok) Q st := by
  rw [binarySort'_eq]
  refine wpS_bind (wpS_mono (wpS_forRange (I := fun k c st' => c = (none, ()) ∧ RB st0 lo st' ∧ Sg (arrOf st') lo (lo + min k n))
    (Q := fun c st' => c = (none, ()) ∧ RB st0 lo st' ∧ Sg (arrOf st') lo (lo + n)) ?step ?fin ⟨rfl, R, ?init⟩) ?post)
  case post =>
    rintro c st' ⟨rfl, hB', hs'⟩
    exact wpS_pure (h st' hB' hs')
  case init =>
    cases ok with
    | zero => exact fun i j a b c => Sg.one i j a b (Nat.lt_of_lt_of_le c (Nat.add_le_add_left (Nat.min_le_left _ _) lo))
    | succ ok => rw [Nat.max_eq_left (Nat.succ_le_succ (Nat.zero_le ok)), Nat.min_eq_left hok]; exact hs
  case fin =>
    rintro c st' ⟨hc, hB', hs'⟩
    rw [Nat.min_eq_right (Nat.le_max_right _ _)] at hs'
    exact ⟨hc, hB', hs'⟩
  case step =>
    rintro k c st' hak hkn ⟨rfl, R', hs'⟩
    rw [Nat.min_eq_left (Nat.le_of_lt hkn)] at hs'
    have hks : lo + k < (arrOf st').size := by rw [R'.size]; exact Nat.lt_of_lt_of_le (Nat.add_lt_add_left hkn lo) hn
    have hk' := R'.kind hk
    have hX' := R'.ik hX
    clear hn hs R h hk hX hok hak
    refine wpS_bind (wpS_mono (wpS_forRange (I := fun x c st'' => BJ st' lo k x (fun _ r => r) c st'') (Q := fun c st'' => BJ st' lo k 0 (fun l _ => l) c st'') ?istep ?ifin ⟨rfl, 0, k, rfl, .start⟩) ?ipost)
    case ifin =>
      rintro c st'' ⟨rfl, l, r, rfl, B⟩
      rw [Nat.max_eq_right (Nat.zero_le k)] at B
      exact ⟨rfl, l, r, rfl, B.fin⟩
    case istep =>
      rintro x c st'' _ hxk ⟨rfl, l, r, rfl, B⟩
      refine wpS_if (fun hge => wpS_pure ⟨rfl, l, r, rfl, B.met hge⟩) (fun hge => ?_)
      obtain ⟨h1, h2⟩ := mid2 (Nat.not_le.mp hge)
      refine wpS_ltX hk' hX' hks (Nat.lt_trans (Nat.add_lt_add_left (Nat.lt_of_lt_of_le h2 B.rk) lo) hks) (fun q => ?_) fun q => ?_
      · exact wpS_pure ⟨rfl, l, _, rfl, B.dn hs' h1 h2 q⟩
      · exact wpS_pure ⟨rfl, _, r, rfl, B.up hs' h1 h2 q⟩
    case ipost =>
      rintro c st'' ⟨rfl, l, r, rfl, B⟩
      show wpS _ _ _ _ (do moveDown' (lo + k) (lo + l); pure (ForInStep.yield (none, ()))) _ _
      rw [moveDown'_eq]
      obtain ⟨p1, p2⟩ := B.put hs' hks
      refine wpS_bind (wpS_modify (wpS_pure ⟨rfl, R'.set (bubble_perm _ _ _) fun i hi => p1 i (Nat.lt_of_lt_of_le hi (Nat.le_add_right _ _)), ?_⟩))
      rw [Nat.min_eq_left (Nat.succ_le_of_lt hkn)]
      exact p2
end Mine

end
section -- TS11
open PySem PyProof.Rows
namespace Mine
variable {prog : Program} {w : World} {A : Around} {E : Value → Shared → Prop} {s : Shared}
variable {st st0 : SortSt} {lo n nrem : Nat}
abbrev Rn := Nat × Nat × Nat
/-- the runs that lie one behind the other -/
noncomputable def Runs (X : Array Keyed) : Nat → List Rn → Nat → Prop
  | b, [], e => b = e
  | b, q :: r, e => q.1 = b ∧ 0 < q.2.1 ∧ Sg X b (b + q.2.1) ∧ Runs X (b + q.2.1) r e
section
variable {X Y : Array Keyed}
theorem Runs.le : ∀ {l : List Rn} {b e : Nat}, Runs X b l e → b + l.length ≤ e
  | [], b, e, h => Nat.le_of_eq h
  | q :: r, b, e, h => Nat.le_trans (Nat.le_of_eq (Nat.add_right_comm b r.length 1)) (Nat.le_trans (Nat.add_le_add_right (Nat.add_le_add_left h.2.1 b) _) (Runs.le h.2.2.2))
theorem Runs.congr : ∀ {l : List Rn} {b e : Nat}, Runs X b l e → (∀ i, b ≤ i → i < e → K Y i = K X i) → Runs Y b l e
  | [], b, e, h, _ => h
  | q :: r, b, e, h, k => by
    have he := Nat.le_of_add_right_le (Runs.le h.2.2.2)
    refine ⟨h.1, h.2.1, fun i j a c d => ?_, Runs.congr h.2.2.2 fun i a c => k i (Nat.le_of_add_right_le a) c⟩
    have hj := Nat.lt_of_lt_of_le d he
    rw [k i a (Nat.lt_of_le_of_lt c hj), k j (Nat.le_trans a c) hj]; exact h.2.2.1 i j a c d
theorem Runs.app : ∀ {l l' : List Rn} {b e : Nat}, Runs X b (l ++ l') e ↔ ∃ m, Runs X b l m ∧ Runs X m l' e
  | [], l', b, e => ⟨fun h => ⟨b, rfl, h⟩, fun ⟨m, h1, h2⟩ => by
      have : b = m := h1
      subst this; exact h2⟩
  | q :: r, l', b, e => ⟨fun h => by
      obtain ⟨m, h1, h2⟩ := Runs.app.mp h.2.2.2
      exact ⟨m, ⟨h.1, h.2.1, h.2.2.1, h1⟩, h2⟩, fun ⟨m, h1, h2⟩ => ⟨h1.1, h1.2.1, h1.2.2.1, Runs.app.mpr ⟨m, h1.2.2.2, h2⟩⟩⟩
end
theorem split2 {P : Array Rn} {i : Nat} {u v : Rn} (h1 : P[i]? = some u) (h2 : P[i + 1]? = some v) : P.toList = P.toList.take i ++ (u :: v :: P.toList.drop (i + 2)) := by
  obtain ⟨a1, a2⟩ := Array.getElem?_eq_some_iff.mp h1
  obtain ⟨b1, b2⟩ := Array.getElem?_eq_some_iff.mp h2
  have e := List.take_append_drop i P.toList
  rw [List.drop_eq_getElem_cons (by rw [Array.length_toList]; exact a1), List.drop_eq_getElem_cons (by rw [Array.length_toList]; exact b1)] at e
  rw [Array.getElem_toList, Array.getElem_toList, a2, b2] at e
  exact e.symm
theorem set2 {P : Array Rn} {i : Nat} {u : Rn} (h : i + 1 < P.size) : ((P.setIfInBounds i u).eraseIdxIfInBounds (i + 1)).toList = P.toList.take i ++ (u :: P.toList.drop (i + 2)) := by
  have hs : i + 1 < (P.setIfInBounds i u).size := by rw [Array.size_setIfInBounds]; exact h
  rw [Array.eraseIdxIfInBounds, dif_pos hs, Array.toList_eraseIdx, Array.toList_setIfInBounds, List.eraseIdx_eq_take_drop_succ]
  rw [List.take_add_one, List.take_set_of_le (Nat.le_refl _), List.getElem?_set_self (Nat.lt_of_succ_lt h), List.drop_set_of_lt (Nat.lt_succ_of_lt (Nat.lt_succ_self i))]
  exact List.append_assoc (P.toList.take i) [u] _
theorem set2_size {P : Array Rn} {i : Nat} {u : Rn} (h : i + 1 < P.size) : ((P.setIfInBounds i u).eraseIdxIfInBounds (i + 1)).size + 1 = P.size := by
  have hs : i + 1 < (P.setIfInBounds i u).size := by rw [Array.size_setIfInBounds]; exact h
  rw [Array.eraseIdxIfInBounds, dif_pos hs, Array.size_eraseIdx, Array.size_setIfInBounds, Nat.sub_add_cancel (Nat.lt_of_le_of_lt (Nat.zero_le _) h)]
/-- a state between two runs -/
structure SR (X0 : Array Keyed) (lo : Nat) (st : SortSt) : Prop where
  kind : kindOf st = oneType'
  failed : failedOf st = none
  perm : (arrOf st).toList.Perm X0.toList
  runs : Runs (arrOf st) 0 (pendingOf st).toList lo
theorem SR.size {X0 : Array Keyed} (h : SR X0 lo st) : (arrOf st).size = X0.size := by
  have := h.perm.length_eq
  rwa [Array.length_toList, Array.length_toList] at this
theorem SR.ik {X0 : Array Keyed} (h : SR X0 lo st) (hX : IK X0.toList) : IK (arrOf st).toList := fun p hp => hX p (h.perm.mem_iff.mp hp)
/-- two runs in the row of runs -/
structure RT (X : Array Keyed) (L R : List Rn) (u v : Rn) (e : Nat) : Prop where
  r1 : Runs X 0 L u.1
  hv : v.1 = u.1 + u.2.1
  pu : 0 < u.2.1
  pv : 0 < v.2.1
  su : Sg X u.1 (u.1 + u.2.1)
  sv : Sg X (u.1 + u.2.1) (u.1 + u.2.1 + v.2.1)
  r2 : Runs X (u.1 + u.2.1 + v.2.1) R e
theorem RT.of {X : Array Keyed} {L R : List Rn} {u v : Rn} {e : Nat} (h : Runs X 0 (L ++ u :: v :: R) e) : RT X L R u v e := by
  obtain ⟨m, r1, e1, e2, e3, f1, f2, f3, f4⟩ := Runs.app.mp h
  (first | exact nS e1 | exact nO e1 | exact nF e1 | exact nT e1 | exact nN e1 | exact nC e1 | cases e1)
  exact ⟨r1, f1, e2, f2, e3, f3, f4⟩
theorem RT.fin {X Y : Array Keyed} {L R : List Rn} {u v : Rn} {e : Nat} (T : RT X L R u v e) (O : Out X Y u.1 (u.1 + u.2.1 + v.2.1)) : Runs Y 0 (L ++ (u.1, u.2.1 + v.2.1, u.2.2) :: R) e := by
  refine Runs.app.mpr ⟨u.1, T.r1.congr fun j _ hj => O.lo j hj, rfl, Nat.add_pos_left T.pu _, ?_, ?_⟩
  · show Sg Y u.1 (u.1 + (u.2.1 + v.2.1)); rw [← Nat.add_assoc]; exact O.srt
  · show Runs Y (u.1 + (u.2.1 + v.2.1)) R e; rw [← Nat.add_assoc]; exact T.r2.congr fun j hj _ => O.hi j hj
theorem wpS_mergeR {X0 : Array Keyed} {i : Nat} {Q : Bool → SortSt → Prop} (h : SR X0 lo st) (hX : IK X0.toList) (hl : lo ≤ X0.size) (hi : i + 1 < (pendingOf st).size)
    (q : ∀ st', SR X0 lo st' → (∀ j, lo ≤ j → K (arrOf st') j = K (arrOf st) j) → (pendingOf st').size + 1 = (pendingOf st).size → Q true st') : wpS (model prog w) A E s (mergeAt' i) Q st := by
  have h1 := getElem?_pos (pendingOf st) i (Nat.lt_of_succ_lt hi)
  have h2 := getElem?_pos (pendingOf st) (i + 1) hi
  generalize (pendingOf st)[i]'(Nat.lt_of_succ_lt hi) = u at h1
  generalize (pendingOf st)[i + 1]'hi = v at h2
  have T := RT.of (split2 h1 h2 ▸ h.runs)
  have hle := Nat.le_of_add_right_le (Runs.le T.r2)
  refine wpS_mergeAt h.kind h.failed (h.ik hX) h1 (h2.trans (congrArg (fun x => some (x, v.2)) T.hv)) (by rw [h.size]; exact Nat.le_trans hle hl) T.su T.sv T.pu T.pv fun Y g O => q _ ⟨h.kind, h.failed, O.perm.trans h.perm, ?_⟩ (fun j hj => O.hi j (Nat.le_trans hle hj)) (set2_size hi)
  show Runs Y 0 (((pendingOf st).setIfInBounds i (u.1, u.2.1 + v.2.1, u.2.2)).eraseIdxIfInBounds (i + 1)).toList lo
  rw [set2 hi]; exact T.fin O
end Mine

end
section -- TS12
open PySem PyProof.Rows
namespace Mine
variable {prog : Program} {w : World} {A : Around} {E : Value → Shared → Prop} {s : Shared}
variable {st : SortSt} {X0 : Array Keyed}
theorem SR.rb {lo : Nat} {st' : SortSt} (h : SR X0 lo st) (r : RB st lo st') : SR X0 lo st' := by
  have e := r.eq
  refine ⟨r.kind h.kind, by rw [e]; exact h.failed, r.perm.trans h.perm, ?_⟩
  have : (pendingOf st') = pendingOf st := by rw [e]
  rw [this]
  exact h.runs.congr fun i _ hi => r.low i hi
theorem Runs.pow {X : Array Keyed} : ∀ {l l' : List Rn} {b e : Nat}, Runs X b l e → l'.map (fun q => (q.1, q.2.1)) = l.map (fun q => (q.1, q.2.1)) → Runs X b l' e
  | [], [], b, e, h, _ => h
  | q :: r, q' :: r', b, e, h, k => by
    rw [List.map_cons, List.map_cons] at k
    obtain ⟨k1, k2⟩ := List.cons.inj k
    obtain ⟨k3, k4⟩ := Prod.mk.inj k1
    refine ⟨k3.trans h.1, by rw [k4]; exact h.2.1, by rw [k4]; exact h.2.2.1, ?_⟩
    rw [k4]; exact Runs.pow h.2.2.2 k2
  | [], _ :: _, _, _, _, k => nomatch k
  | _ :: _, [], _, _, _, k => nomatch k
theorem SR.push {lo n : Nat} (h : SR X0 lo st) (hn : 0 < n) (hs : Sg (arrOf st) lo (lo + n)) {P : Array Rn} (hP : P.toList.map (fun q => (q.1, q.2.1)) = (pendingOf st).toList.map (fun q => (q.1, q.2.1))) : SR X0 (lo + n) (setPending st (P.push (lo, n, 0))) := by
  refine ⟨h.kind, h.failed, h.perm, ?_⟩
  show Runs (arrOf st) 0 (P.push (lo, n, 0)).toList (lo + n)
  rw [Array.toList_push]
  exact Runs.app.mpr ⟨lo, h.runs.pow hP, rfl, hn, hs, rfl⟩
theorem two_lt {n : Nat} (h : 1 < n) : n - 2 + 1 < n := by
  obtain ⟨m, rfl⟩ := Nat.exists_eq_add_of_le' h
  exact Nat.lt_succ_self (m + 1)
theorem idx_lt {c : Prop} [Decidable c] {n : Nat} (h : 1 < n) : (if c then n - 2 - 1 else n - 2) + 1 < n := by
  split
  · exact Nat.lt_of_le_of_lt (Nat.add_le_add_right (Nat.sub_le _ 1) 1) (two_lt h)
  · exact two_lt h
noncomputable def RP (X0 : Array Keyed) (x : Nat) (r : ForInStep (Option Unit × Nat)) (st' : SortSt) : Prop := match r with
  | .done c' => c' = (none, X0.size) ∧ SR X0 X0.size st'
  | .yield c' => ∃ lo, c' = (none, lo) ∧ x + 1 ≤ lo ∧ lo ≤ X0.size ∧ SR X0 lo st'
theorem map_modify {P : Array Rn} {i : Nat} {f : Rn → Rn} (hf : ∀ q, ((f q).1, (f q).2.1) = (q.1, q.2.1)) : (P.modify i f).toList.map (fun q => (q.1, q.2.1)) = P.toList.map (fun q => (q.1, q.2.1)) := by
  rw [Array.toList_modify]
  refine List.ext_getElem? fun i => ?_
  rw [List.getElem?_map, List.getElem?_map, List.getElem?_modify]
  cases P.toList[i]? with
  | none => rfl
  | some q =>
    simp only [Option.map_eq_map, Option.map_some]
    split
    · exact congrArg some (hf q)
    · rfl
/-- one run more: what it stands above is merged -/
noncomputable def popS (N n s1 n1 : Nat) : StateT SortSt Sem (ForInStep (Option Unit × Unit)) := do
  let st ← get
  match (if (pendingOf st).size > 1 then (pendingOf st)[(pendingOf st).size - 2]? else none) with
  | some (_, _, older) =>
    if older ≤ power' N (2 * s1 + n1) (2 * s1 + n1 + n1 + n) N then pure (ForInStep.done (none, ()))
    else do
      let ok ← mergeAt' ((pendingOf st).size - 2)
      if (!ok) = true then pure (ForInStep.done (some (), ())) else pure (ForInStep.yield (none, ()))
  | _ => pure (ForInStep.done (none, ()))
noncomputable def pushS (lo n : Nat) : StateT SortSt Sem (ForInStep (Option Unit × Nat)) := do
  modify fun s => setPending s ((pendingOf s).push (lo, n, 0))
  pure (ForInStep.yield (none, lo + n))
noncomputable def restS (N lo n : Nat) : StateT SortSt Sem (ForInStep (Option Unit × Nat)) := do
  let st ← get
  match (pendingOf st).back? with
  | some (s1, n1, _) => do
    let c ← forIn [:N] ((none, ()) : Option Unit × Unit) fun _ _ => popS N n s1 n1
    match c.1 with
    | some r => pure (ForInStep.done (some r, lo))
    | none => do
      modify fun s => setPending s ((pendingOf s).modify ((pendingOf s).size - 1) fun (a, b, _) => (a, b, power' N (2 * s1 + n1) (2 * s1 + n1 + n1 + n) N))
      pushS lo n
  | _ => pushS lo n
noncomputable def binS (N lo n found : Nat) : StateT SortSt Sem (ForInStep (Option Unit × Nat)) := do
  liftM (rule "list.sort.binary-insertion")
  let ok ← binarySort' lo n found
  if (!ok) = true then pure (ForInStep.done (some (), lo)) else restS N lo n
noncomputable def turnS (N : Nat) (c : Option Unit × Nat) : StateT SortSt Sem (ForInStep (Option Unit × Nat)) :=
  if c.2 ≥ N then pure (ForInStep.done (none, c.2))
  else do
    let r ← countRun' c.2 (N - c.2)
    match r with
    | some found => if found < minRun' N N 0 then binS N c.2 (min (N - c.2) (minRun' N N 0)) found else restS N c.2 found
    | _ => pure (ForInStep.done (some (), c.2))
/-- all that is left is merged -/
noncomputable def mergeI (p : Array Rn) : Nat := if Option.any (fun x => decide (x < p[p.size - 2 + 1]?.elim 0 fun x => x.2.1)) (if p.size - 2 > 0 then Option.map (fun x => x.2.1) p[p.size - 2 - 1]? else none) = true then p.size - 2 - 1 else p.size - 2
noncomputable def allS : StateT SortSt Sem (ForInStep (Option Unit × Unit)) := do
  let st ← get
  if (pendingOf st).size ≤ 1 then pure (ForInStep.done (none, ()))
  else do
    let ok ← mergeAt' (mergeI (pendingOf st))
    if (!ok) = true then pure (ForInStep.done (some (), ())) else pure (ForInStep.yield (none, ()))
noncomputable def endS (N : Nat) : StateT SortSt Sem Unit := do
  let c ← forIn [:N] ((none, ()) : Option Unit × Unit) fun _ _ => allS
  match c.1 with
  | some r => pure r
  | none => pure ()
theorem sortRuns_named : sortRuns' = (do
    let st ← get
    let c ← forIn [:(arrOf st).size] ((none, 0) : Option Unit × Nat) fun _ c => turnS (arrOf st).size c
    match c.1 with
    | some r => pure r
    | none => endS (arrOf st).size) := by kernel_rfl
section
variable {lo n N : Nat}
theorem wpS_popS {s1 n1 : Nat} {Z : ForInStep (Option Unit × Unit) → SortSt → Prop} (hX : IK X0.toList) (hl : lo + n ≤ X0.size) (h : SR X0 lo st) (hs : Sg (arrOf st) lo (lo + n))
    (z1 : Z (.done (none, ())) st) (z2 : ∀ st', SR X0 lo st' → Sg (arrOf st') lo (lo + n) → Z (.yield (none, ())) st') : wpS (model prog w) A E s (popS N n s1 n1) Z st := by
  unfold popS
  refine wpS_bind (wpS_get ?_)
  split
  · rename_i older ho
    refine wpS_if (fun _ => wpS_pure z1) (fun _ => ?_)
    have hp : (pendingOf st).size > 1 := Classical.byContradiction fun hp => by rw [if_neg hp] at ho; (first | exact nS ho | exact nO ho | exact nF ho | exact nT ho | exact nN ho | exact nC ho | cases ho)
    exact wpS_bind (wpS_mergeR h hX (Nat.le_trans (Nat.le_add_right _ _) hl) (two_lt hp) fun st2 h2 k2 _ => wpS_pure (z2 st2 h2 fun i j a b c => by rw [k2 i a, k2 j (Nat.le_trans a b)]; exact hs i j a b c))
  · exact wpS_pure z1
theorem wpS_restS {x : Nat} (hX : IK X0.toList) (h : SR X0 lo st) (hs : Sg (arrOf st) lo (lo + n)) (hn : 0 < n) (hl : lo + n ≤ X0.size) (hx : x ≤ lo) : wpS (model prog w) A E s (restS N lo n) (RP X0 x) st := by
  have hx1 : x + 1 ≤ lo + n := Nat.add_le_add hx hn
  unfold restS
  refine wpS_bind (wpS_get ?_)
  split
  · rename_i s1 n1 p1 _
    refine wpS_bind (wpS_mono (wpS_forRange (I := fun _ c st' => c = (none, ()) ∧ SR X0 lo st' ∧ Sg (arrOf st') lo (lo + n)) (Q := fun c st' => c = (none, ()) ∧ SR X0 lo st' ∧ Sg (arrOf st') lo (lo + n)) (fun y c st' _ _ h => ?_) (fun c st' h => h) ⟨rfl, h, hs⟩) fun c st' h => ?_)
    · obtain ⟨rfl, h', hs'⟩ := h
      exact wpS_popS hX hl h' hs' ⟨rfl, h', hs'⟩ fun st2 h2 s2 => ⟨rfl, h2, s2⟩
    · obtain ⟨rfl, h', hs'⟩ := h
      exact wpS_bind (wpS_modify (wpS_bind (wpS_modify (wpS_pure ⟨lo + n, rfl, hx1, hl, h'.push hn hs' (map_modify fun _ => rfl)⟩))))
  · exact wpS_bind (wpS_modify (wpS_pure ⟨lo + n, rfl, hx1, hl, h.push hn hs rfl⟩))
theorem wpS_turnS {x : Nat} (hX : IK X0.toList) (h : SR X0 lo st) (hx : x ≤ lo) (hN : lo ≤ X0.size) : wpS (model prog w) A E s (turnS X0.size (none, lo)) (RP X0 x) st := by
  unfold turnS
  refine wpS_if (fun hlo => ?_) (fun hlo => ?_)
  · have : lo = X0.size := Nat.le_antisymm hN hlo
    subst this; exact wpS_pure ⟨rfl, h⟩
  have hlt : 1 ≤ X0.size - lo := Nat.sub_pos_of_lt (Nat.not_le.mp hlo)
  have hz : lo + (X0.size - lo) ≤ (arrOf st).size := by rw [h.size, Nat.add_sub_cancel' hN]; exact Nat.le_refl _
  have hin : ∀ {m : Nat}, m ≤ X0.size - lo → lo + m ≤ X0.size := fun q => by rw [Nat.add_comm]; exact Nat.add_le_of_le_sub hN q
  refine wpS_bind (wpS_countRunL h.kind (h.ik hX) hz hlt fun m st2 R2 hm1 hm2 hs2 => ?_)
  refine wpS_if (fun hlt => ?_) (fun _ => wpS_restS hX (h.rb R2) hs2 hm1 (hin hm2) hx)
  have hle : min (X0.size - lo) (minRun' X0.size X0.size 0) ≤ X0.size - lo := Nat.min_le_left _ _
  have hlm : m ≤ min (X0.size - lo) (minRun' X0.size X0.size 0) := Nat.le_min.mpr ⟨hm2, Nat.le_of_lt hlt⟩
  show wpS _ _ _ _ (binS X0.size lo (min (X0.size - lo) (minRun' X0.size X0.size 0)) m) _ _
  generalize min (X0.size - lo) (minRun' X0.size X0.size 0) = n at hle hlm ⊢
  unfold binS
  refine wpS_bind (wpS_lift (wpAny_rule ⟨rfl, ?_⟩))
  exact wpS_bind (wpS_binL R2 h.kind (h.ik hX) (by rw [h.size]; exact hin hle) hlm hs2 fun st3 R3 hs3 => wpS_restS hX (h.rb R3) hs3 (Nat.lt_of_lt_of_le hm1 hlm) (hin hle) hx)
theorem wpS_allS {Z : ForInStep (Option Unit × Unit) → SortSt → Prop} (hX : IK X0.toList) (h : SR X0 X0.size st) (z1 : (pendingOf st).size ≤ 1 → Z (.done (none, ())) st)
    (z2 : ∀ st', SR X0 X0.size st' → (pendingOf st').size + 1 = (pendingOf st).size → Z (.yield (none, ())) st') : wpS (model prog w) A E s allS Z st := by
  unfold allS
  refine wpS_bind (wpS_get (wpS_if (fun hp => wpS_pure (z1 hp)) fun hp => ?_))
  refine wpS_bind (wpS_mergeR h hX (Nat.le_refl _) ?_ fun st2 k2 _ k4 => wpS_pure (z2 st2 k2 k4))
  exact idx_lt (Nat.not_le.mp hp)
theorem sg_one {X : Array Keyed} {l : List Rn} {N : Nat} (hr : Runs X 0 l N) (hl : l.length ≤ 1) : Sg X 0 N := by
  cases l with
  | nil =>
    have : (0 : Nat) = N := hr
    subst this; exact fun i j _ _ c => absurd c (Nat.not_lt_zero _)
  | cons q r =>
    cases r with
    | cons _ _ => exact absurd (Nat.le_of_succ_le_succ hl) (Nat.not_succ_le_zero _)
    | nil =>
      obtain ⟨_, _, h6, h7⟩ := hr
      have h7 : 0 + q.2.1 = N := h7
      rw [h7] at h6; exact h6
theorem end1 {a b x N : Nat} (k : a + 1 = b) (h : b ≤ 1 ∨ b + x ≤ N) : a ≤ 1 ∨ a + (x + 1) ≤ N := by
  subst k
  exact h.imp Nat.le_of_succ_le fun h => by rw [Nat.add_right_comm] at h; exact h
theorem end2 {a N : Nat} (h : a ≤ 1 ∨ a + max 0 N ≤ N) : a ≤ 1 := h.elim id fun h => by
  rw [Nat.max_eq_right (Nat.zero_le _)] at h
  exact Nat.le_succ_of_le (Nat.le_of_add_le_add_right (Nat.le_trans h (Nat.le_of_eq (Nat.zero_add N).symm)))
theorem wpS_endS {Q : Unit → SortSt → Prop} (hX : IK X0.toList) (h0 : SR X0 X0.size st)
    (h : ∀ st', (arrOf st').toList.Perm X0.toList → failedOf st' = none → Sg (arrOf st') 0 X0.size → Q () st') : wpS (model prog w) A E s (endS X0.size) Q st := by
  unfold endS
  have hi := h0.runs.le
  rw [Array.length_toList, Nat.zero_add] at hi
  refine wpS_bind (wpS_mono (wpS_forRange (I := fun x c st' => c = (none, ()) ∧ SR X0 X0.size st' ∧ ((pendingOf st').size ≤ 1 ∨ (pendingOf st').size + x ≤ X0.size)) (Q := fun c st' => c = (none, ()) ∧ SR X0 X0.size st' ∧ (pendingOf st').size ≤ 1)
    (fun x c st' _ hx h => ?_) (fun c st' h => ?_) ⟨rfl, h0, .inr hi⟩) fun c st' h' => ?_)
  · obtain ⟨rfl, h3, h4⟩ := h
    exact wpS_allS hX h3 (fun hp => ⟨rfl, h3, hp⟩) fun st2 k2 k4 => ⟨rfl, k2, end1 k4 h4⟩
  · obtain ⟨rfl, h3, h4⟩ := h
    exact ⟨rfl, h3, end2 h4⟩
  · obtain ⟨rfl, h3, h4⟩ := h'
    exact wpS_pure (h st' h3.perm h3.failed (sg_one h3.runs (by rw [Array.length_toList]; exact h4)))
end
theorem wpS_sortR {Q : Unit → SortSt → Prop} (hX : IK X0.toList) (h2 : 2 ≤ X0.size) (h0 : SR X0 0 st)
    (h : ∀ st', (arrOf st').toList.Perm X0.toList → failedOf st' = none → Sg (arrOf st') 0 X0.size → Q () st') : wpS (model prog w) A E s sortRuns' Q st := by
  rw [sortRuns_named]
  refine wpS_bind (wpS_get ?_)
  rw [h0.size]
  refine wpS_bind (wpS_mono (wpS_forRange (I := fun x c st' => ∃ lo, c = (none, lo) ∧ x ≤ lo ∧ lo ≤ X0.size ∧ SR X0 lo st')
    (Q := fun c st' => c = (none, X0.size) ∧ SR X0 X0.size st') (fun x c st' _ hx h => ?_) (fun c st' h => ?_) ⟨0, rfl, Nat.le_refl _, Nat.zero_le _, h0⟩) fun c st' h' => ?_)
  · obtain ⟨lo, rfl, h3, h4, h5⟩ := h
    exact wpS_mono (wpS_turnS hX h5 h3 h4) (fun r st' h => by (first | exact nS r | exact nO r | exact nF r | exact nT r | exact nN r | exact nC r | cases r) <;> exact h)
  · obtain ⟨lo, rfl, h3, h4, h5⟩ := h
    rw [Nat.max_eq_right (Nat.zero_le _)] at h3
    have : lo = X0.size := Nat.le_antisymm h4 h3
    subst this; exact ⟨rfl, h5⟩
  · obtain ⟨rfl, hS⟩ := h'
    exact wpS_endS hX hS h
end Mine

end
section -- TS13
open PySem PyProof.Rows
namespace Mine
variable {prog : Program} {w : World} {A : Around} {E : Value → Shared → Prop} {s : Shared}
theorem ik_pairs {vs : List Value} {ns : List Int} (hI : IntsAre vs ns) : IK (pairsOf vs).toList := hI.intKeys
/-- list.sort of two ints or more -/
theorem sort_tree {a : Addr} {vs : List Value} {ns : List Int} {n : Nat} {P : Fin → Shared → Prop} (ho : s.heap.get? a = some (seqObj "list" vs.toArray n)) (hI : IntsAre vs ns) (h2 : 2 ≤ vs.length) (hz : vs.length ≤ sizeLine)
    (h : ∀ (out : Array Value) (ns' : List Int), IntsAre out.toList ns' → ns'.Perm ns → ns'.Pairwise (· ≤ ·) → P (.done (.ret .none)) { s with heap := sortedHeap s.heap a vs out }) :
    wpAny (model prog w) A (Builtin.«list.sort» ⟨[.ref a], []⟩) P E s := by
  rw [list_sort_plain]
  have ha : a < s.heap.objs.size := Heap.lt_size ho
  have hsz : vs.toArray.size = vs.length := by simp
  refine wpAny_bind (listItems_at ho rfl (wpAny_bind (listUpdate_at ho rfl ?_ (by rw [hsz]; exact hz) (Nat.zero_le _))))
  obtain ⟨e1, ho1⟩ : ∃ e1, (s.heap.update a (Obj.mapSeq fun _ => #[])).get? a = some (seqObj "list" #[] e1) := ⟨_, get?_update_seq ho (fun _ => #[])⟩
  refine wpAny_bind (seqEpoch_at ho1 rfl (wpAny_bind (wpAny_newTuple (wpAny_bind (wpAny_newList (wpAny_holding ?_))))))
  generalize hH : ((s.heap.update a (Obj.mapSeq fun _ => #[])).push (seqObj "tuple" vs.toArray 0)).push (seqObj "list" #[] 0) = H
  have ho6 : H.get? a = some (seqObj "list" #[] e1) := by
    rw [← hH, Heap.get?_push_ne _ _ _ (by rw [size_push', Heap.size_update]; exact Nat.ne_of_lt (Nat.lt_succ_of_lt ha)), Heap.get?_push_ne _ _ _ (by rw [Heap.size_update]; exact Nat.ne_of_lt ha)]
    exact ho1
  show wpAny (model prog w) A _ P E { s with heap := H }
  dsimp only
  rw [if_neg (by rw [hsz]; (first | assumption | exact q1 ‹_› | exact q2 ‹_› ‹_› | exact q3 ‹_› ‹_› | exact q4 ‹_› ‹_› | exact q5 ‹_› | exact q6 ‹_› | lia | omega)), if_neg (by rw [hsz]; (first | assumption | exact q1 ‹_› | exact q2 ‹_› ‹_› | exact q3 ‹_› ‹_› | exact q4 ‹_› ‹_› | exact q5 ‹_› | exact q6 ‹_› | lia | omega))]
  obtain ⟨v1, r1, rfl⟩ : ∃ v r, vs = v :: r := by
    cases vs with
    | nil => simp at h2
    | cons v r => exact ⟨v, r, rfl⟩
  obtain ⟨v2, r2, rfl⟩ : ∃ v r, r1 = v :: r := by
    cases r1 with
    | nil => simp at h2
    | cons v r => exact ⟨v, r, rfl⟩
  rw [keyKind_ints hI]
  refine wpAny_bind (wpAny_pure ?_)
  have h0 : SR (pairsOf (v1 :: v2 :: r2)) 0 (SortSt.mk' oneType' ((v1 :: v2 :: r2).toArray.zip (v1 :: v2 :: r2).toArray) #[] 7 none) := ⟨rfl, rfl, .refl _, rfl⟩
  refine wpAny_bind (wpAny_mono (wpS_sortR (ik_pairs hI) (by rw [pairsOf_size]; exact h2) h0 (Q := fun _ st' => (arrOf st').toList.Perm (pairsOf (v1 :: v2 :: r2)).toList ∧ failedOf st' = none ∧ Sg (arrOf st') 0 (pairsOf (v1 :: v2 :: r2)).size) fun st' a1 a2 a3 => ⟨a1, a2, a3⟩) ?_ fun _ _ e => e)
  rintro ⟨⟨⟩, st'⟩ s' ⟨rfl, hp, hf, hs⟩
  dsimp only
  have hpA : (arrOf st').Perm (pairsOf (v1 :: v2 :: r2)) := Array.perm_iff_toList_perm.mpr hp
  refine wpAny_bind (seqEpoch_at ho6 rfl (wpAny_bind (listUpdate_at ho6 rfl ?_ (Nat.zero_le _) (Nat.le_trans (Nat.le_of_eq ((Array.size_map ..).trans (hpA.size_eq.trans (pairsOf_size _)))) (Nat.le_succ_of_le hz)))))
  rw [hf]
  simp only [bne_self_eq_false, Bool.false_eq_true, if_false]
  obtain ⟨ns', g1, g2, g3⟩ := sorted_out hI hpA fun i j hij hj => hs i j (Nat.zero_le _) hij hj
  refine wpAny_pure ?_
  have := h _ ns' g1 g2 g3
  unfold sortedHeap at this
  rw [hH] at this
  exact this
end Mine

end
section -- TS14
open PySem PyProof.Rows
namespace Mine
variable {prog : Program} {w : World} {A : Around} {E : Value → Shared → Prop} {s : Shared}
theorem sorted_any {l : Addr} {vs : List Value} {ns : List Int} {Q : Value → Shared → Prop} (hl : s.heap.IsList l vs.toArray) (hI : IntsAre vs ns) (hz : vs.length ≤ sizeLine)
    (h : ∀ (out : Array Value) (ns' : List Int), IntsAre out.toList ns' → ns'.Perm ns → ns'.Pairwise (· ≤ ·) → Q (.ref (s.heap.objs.size + 1)) { s with heap := sortedAll s.heap vs out }) :
    wpAny (model prog w) A (call (.builtin "sorted") [.ref l]) Q E s := by
  by_cases h64 : vs.length < 64
  · exact sorted_ints hl hI h64 h
  refine Calls.call_function_entry kind_sorted plain_sorted entry_sorted (args_sorted1 _) ?_
  unfold Builtin.«sorted»
  refine wpAny_bind (m := checkCount "sorted" 1 1 _) (wpAny_pure ?_)
  refine wpAny_bind (collect_list hl ?_ hz)
  refine wpAny_bind (wpAny_newList ?_)
  generalize hH : (s.heap.push (seqObj "list" #[] 0)).update s.heap.objs.size (Obj.mapSeq (· ++ vs.toArray)) = H
  have hsz : H.objs.size = s.heap.objs.size + 1 := by rw [← hH, Heap.size_update, size_push']
  have hoL : (H.push (seqObj "list" vs.toArray 0)).get? (s.heap.objs.size + 1) = some (seqObj "list" vs.toArray 0) := by
    rw [← hsz]; exact Heap.get?_push_size _ rfl
  show wpAny _ _ _ _ _ { s with heap := H.push (seqObj "list" vs.toArray 0) }
  rw [hsz]
  refine wpAny_bind (wpAny_holding (wpAny_call_entry slot_list_sort ⟨_, hoL, rfl⟩ entry_list_sort (sort_tree hoL hI (by (first | assumption | exact q1 ‹_› | exact q2 ‹_› ‹_› | exact q3 ‹_› ‹_› | exact q4 ‹_› ‹_› | exact q5 ‹_› | exact q6 ‹_› | lia | omega)) hz fun out ns' a1 a2 a3 => ⟨_, rfl, ?_⟩) (args_list_sort _)))
  have := h out ns' a1 a2 a3
  unfold sortedAll at this
  rw [hH] at this
  exact wpAny_pure ⟨_, rfl, this⟩
end Mine

end
section -- B2
set_option bootstrap.genMatcherCode false
set_option genSizeOf false
set_option genInjectivity false
namespace Mine


abbrev NoE : Value → Shared → Prop := fun _ _ => False

/-- a function, of the text or made in the call -/
noncomputable def isFnV (W : Wd) (f : V) (σ : St) : Prop := ∃ a, f = .ref a ∧ ((∃ fd, σ a = some (.fn fd)) ∨ ∃ o fd, W.H.get? a = some o ∧ o.data = .func fd)
/-- the end of a stretch that σ and s began: anything that holds of such an end -/
noncomputable def Ends {α : Type} (H : Heap) (σ : St) (s : Shared) (Q : α → St → Prop) (Z : α → Shared → Prop) : Prop :=
  ∀ a σ' s', Q a σ' → RelG H σ' s' → Stp No σ s σ' s' → Z a s'
/-- a call ends, raises nothing, and its value and store are as Q asks -/
noncomputable def CallOK (W : Wd) (n : Nat) (f : V) (args : List V) (kn : List Str) (kargs : List V) (Q : V → St → Prop) (σ : St) : Prop :=
  isFnV W f σ ∧ ∀ A s Z, Room n A → RelG W.H σ s → Frs W.H A σ s → Ends W.H σ s (fun v => Q (ab v)) Z → ∀ fv vs kvs, ab fv = f → vs.map ab = args → kvs.map ab = kargs →
    wpAny W.M A (call fv vs (kn.zip kvs)) Z NoE s

noncomputable def bmV : List Value := [.type "ValueError", .type "Exception", .type "BaseException", .type "object"]
noncomputable def ExcC (H : Heap) (C : Addr) : Prop := ∃ (cd : ClassData) (dd : Option Addr) (f : Nat → Option Value) (mN : Str → Option Value), H.get? C = some (excClassObj cd.name cd.qualname C cd.ns cd.bases bmV cd.hasDict cd.slotNames cd.subclasses cd.abstract cd.collection dd (f 0) (f 1) (f 2) (f 3) (f 5) "ValueError.__new__") ∧ H.Ns cd.ns mN ∧ mN "__init__" = none ∧ mN "__str__" = none
/-- an exception in flight: s1 is the state ahead of its making, B what stays as it is -/
structure FlyAt (H : Heap) (σ : St) (s : Shared) (C : Addr) (m : Str) (R : St → Prop) (e : Addr) (h B : Heap) (l : List Env) (t : Addr) (u : Tok) (σ1 : St) (s1 : Shared) : Prop where
  hR : R σ1
  g : RelG H σ1 s1
  st : Stp No σ s σ1 s1
  stay : H.StaysIn B
  old : ∀ b o, s1.heap.get? b = some o → (∀ es n, o.data ≠ .dict es n) → B.get? b = some o
  fly : Heap.FlyingW B l e (.ref C) (.ref t) h
  tup : h.TupAt t [.str m u]
  up : s1.heap.UpToSlots h
noncomputable def RzPost (W : Wd) (A : Around) (σ : St) (s : Shared) (C : Addr) (m : Str) (R : St → Prop) : Value → Shared → Prop := fun ev s' =>
  ∃ e h B l t u σ1 s1 tk, ev = .ref e ∧ A.frames = some l ∧ s' = { s1 with heap := h, toks := tk } ∧ FlyAt W.H σ s C m R e h B l t u σ1 s1
inductive Bi where
  | len | sorted | min | max | sum | abs | range | list | type | isinstance | int | divmod | zip | str
inductive Me where
  | append | insert | pop | remove | extend | count

inductive X where
  | bad | con (v : V) | loc (i : Nat) | cel (i : Nat)
  | bin (op : Operator) (l r : X) | neg (x : X) | not (x : X) | and (l r : X) | or (l r : X)
  | cmp (op : CmpOp) (l r : X) | cmp2 (op op' : CmpOp) (a b c : X) | ife (t a b : X)
  | nil | cons (h t : X)
  | call (f : X) (args : X) (kn : List Str) (kargs : X) | bcall (b : Bi) (args : X) | meth (m : Me) (o : X) (args : X)
  | sub (o i : X) | sl (o lo hi st : X) | lst (args : X) | tup (args : X)
  | comp (sz : Nat) (cm : List Nat) (it : X) (tgt : Nat) (cond : X) (elt : X)
  | comp2 (sz : Nat) (cm : List Nat) (it : X) (tgt : Nat) (it' : X) (tgt' : Nat) (elt : X)

noncomputable def nth : List V → Nat → V
  | [], _ => .undef
  | v :: _, 0 => v
  | _ :: r, i + 1 => nth r i
theorem nth_eq (l : List V) (i : Nat) : nth l i = l.getD i .undef := by
  induction l generalizing i with
  | nil => (first | exact nS i | exact nO i | exact nF i | exact nT i | exact nN i | exact nC i | cases i) <;> rfl
  | cons v r ih => cases i with
    | zero => rfl
    | succ i => simpa [nth] using ih i
noncomputable def nthA : List Addr → Nat → Addr
  | [], _ => 0
  | v :: _, 0 => v
  | _ :: r, i + 1 => nthA r i
theorem nthA_eq (l : List Addr) (i : Nat) : nthA l i = l.getD i 0 := by
  induction l generalizing i with
  | nil => (first | exact nS i | exact nO i | exact nF i | exact nT i | exact nN i | exact nC i | cases i) <;> rfl
  | cons v r ih => cases i with
    | zero => rfl
    | succ i => simpa [nthA] using ih i

noncomputable def ivs (ns : List Int) : List V := ns.map V.int
noncomputable def asInts : List V → Option (List Int)
  | [] => some []
  | .int i :: r => (asInts r).map (i :: ·)
  | _ => none
@[simp] theorem asInts_ivs (ns : List Int) : asInts (ivs ns) = some ns := by
  induction ns with
  | nil => rfl
  | cons i r ih => show (asInts (ivs r)).map _ = _; rw [ih]; rfl
theorem asInts_some {xs : List V} {ns : List Int} (h : asInts xs = some ns) : xs = ivs ns := by
  induction xs generalizing ns with
  | nil => (first | exact nS h | exact nO h | exact nF h | exact nT h | exact nN h | exact nC h | cases h); rfl
  | cons v r ih =>
    (first | exact nS v | exact nO v | exact nF v | exact nT v | exact nN v | exact nC v | cases v) <;> simp [asInts] at h
    obtain ⟨a, ha, rfl⟩ := h
    rw [ih ha]; rfl

noncomputable def alW (σ : St) (o : O) (Q : V → St → Prop) : Prop := ∀ a, σ a = none → Q (.ref a) (σ.set a o)

/-- the items of a sequence of the store -/
noncomputable def O.items : O → Option (List V)
  | .lst xs => some xs
  | .ro xs => some xs
  | .tup xs => some xs
  | _ => none
/-- of a list -/
noncomputable def O.litems : O → Option (List V)
  | .lst xs => some xs
  | .ro xs => some xs
  | _ => none
noncomputable def optP {α : Type} (o : Option α) (K : α → Prop) : Prop := match o with
  | some x => K x
  | none => False
theorem optP_some {α : Type} {x : α} {K : α → Prop} : optP (some x) K = K x := rfl
noncomputable def refW (v : V) (σ : St) (K : Addr → O → Prop) : Prop := match v with
  | .ref a => optP (σ a) (K a)
  | _ => False
noncomputable def litemsW (v : V) (σ : St) (K : List V → Prop) : Prop := refW v σ fun _ o => optP o.litems K
noncomputable def lintsW (v : V) (σ : St) (K : List Int → Prop) : Prop := litemsW v σ fun xs => optP (asInts xs) K
/-- a list that may be changed -/
noncomputable def mlistW (v : V) (σ : St) (K : Addr → List V → Prop) : Prop := refW v σ fun a o => match o with
  | .lst xs => K a xs
  | _ => False

noncomputable def asI (v : V) (K : Int → Prop) : Prop := match v with
  | .int i => K i
  | _ => False
noncomputable def asR (v : V) (K : Addr → Prop) : Prop := match v with
  | .ref i => K i
  | _ => False
noncomputable def asT (v : V) (K : String → Prop) : Prop := match v with
  | .typ i => K i
  | _ => False
noncomputable def one (l : List V) (K : V → Prop) : Prop := match l with
  | [] => False
  | v :: r => (match r with
    | [] => K v
    | _ :: _ => False)
noncomputable def addW (a b : V) (σ : St) (Q : V → St → Prop) : Prop := match a with
  | .int x => asI b fun y => Q (.int (x + y)) σ
  | .ref x => asR b fun y => litemsW (.ref x) σ fun xs => litemsW (.ref y) σ fun ys => xs.length + ys.length ≤ lim ∧ alW σ (.lst (xs ++ ys)) Q
  | _ => False
noncomputable def mulW (a b : V) (σ : St) (Q : V → St → Prop) : Prop := match a with
  | .int x => asI b fun y => IntMulOk x y ∧ Q (.int (x * y)) σ
  | _ => False
noncomputable def binW (op : Operator) (a b : V) (σ : St) (Q : V → St → Prop) : Prop := match op with
  | .Add => addW a b σ Q
  | .Sub => asI a fun x => asI b fun y => Q (.int (x - y)) σ
  | .Mult => mulW a b σ Q
  | .Div => asI a fun x => asI b fun y => 0 < y ∧ ∃ r : Int, x = r * y ∧ r.natAbs < 2 ^ 53 ∧ Q (.flt (Float64.ofInt r)) σ
  | .FloorDiv => asI a fun x => asI b fun y => y ≠ 0 ∧ y.natAbs < 1073741824 ∧ Q (.int (x.fdiv y)) σ
  | .Mod => asI a fun x => asI b fun y => y ≠ 0 ∧ Q (.int (x.fmod y)) σ
  | .Pow => asI a fun x => asI b fun y => 0 ≤ y ∧ y ≤ 1000000 ∧ x.natAbs < 2 ^ 64 ∧ Q (.int (x ^ y.toNat)) σ
  | _ => False

/-- Python's == of values, lists item by item -/
noncomputable def eq0 (a b : V) : Option Bool := match a with
  | .int x => (match b with
    | .int y => some (x == y)
    | _ => none)
  | .str x => (match b with
    | .str y => some (x == y)
    | _ => none)
  | .bool x => (match b with
    | .bool y => some (x == y)
    | _ => none)
  | .flt x => (match b with
    | .int y => some (Float64.cmpInt x y == some .eq)
    | _ => none)
  | _ => none
noncomputable def eqL (f : V → V → Option Bool) : List V → List V → Option Bool
  | [], _ => some true
  | x :: xs, l => (match l with
    | [] => some true
    | y :: ys => (f x y).bind fun b => (eqL f xs ys).map fun c => b && c)
noncomputable def eqB (σ : St) : Nat → V → V → Option Bool
  | 0, a, b => eq0 a b
  | d + 1, a, b => (match a with
    | .ref x => (match b with
      | .ref y => if x = y then none else ((σ x).bind O.litems).bind fun xs => ((σ y).bind O.litems).bind fun ys => if xs.length = ys.length then eqL (eqB σ d) xs ys else some false
      | _ => none)
    | a => eq0 a b)
noncomputable def eqW (a b : V) (σ : St) (Q : Bool → Prop) : Prop := optP (eqB σ 3 a b) Q
noncomputable def isNW (a b : V) (Q : Bool → Prop) : Prop := match b with
  | .none => (match a with
    | .none => Q true
    | .int _ => Q false
    | .ref _ => Q false
    | _ => False)
  | _ => False
noncomputable def cmpW (op : CmpOp) (a b : V) (σ : St) (Q : Bool → St → Prop) : Prop := match op with
  | .Lt => asI a fun x => asI b fun y => Q (decide (x < y)) σ
  | .LtE => asI a fun x => asI b fun y => Q (decide (x ≤ y)) σ
  | .Gt => asI a fun x => asI b fun y => Q (decide (x > y)) σ
  | .GtE => asI a fun x => asI b fun y => Q (decide (x ≥ y)) σ
  | .Eq => eqW a b σ fun c => Q c σ
  | .NotEq => eqW a b σ fun c => Q (!c) σ
  | .Is => isNW a b fun c => Q c σ
  | .IsNot => asT a fun x => asT b fun y => Q (x != y) σ
  | _ => False
section
variable {σ : St} {Q : V → St → Prop} {P : Bool → St → Prop} {x y : Int} {a b : Addr}
theorem b_add : binW .Add (.int x) (.int y) σ Q = Q (.int (x + y)) σ := rfl
theorem b_sub : binW .Sub (.int x) (.int y) σ Q = Q (.int (x - y)) σ := rfl
theorem b_mul : binW .Mult (.int x) (.int y) σ Q = (IntMulOk x y ∧ Q (.int (x * y)) σ) := rfl
theorem b_cat : binW .Add (.ref a) (.ref b) σ Q = litemsW (.ref a) σ fun xs => litemsW (.ref b) σ fun ys => xs.length + ys.length ≤ lim ∧ alW σ (.lst (xs ++ ys)) Q := rfl
theorem c_lt : cmpW .Lt (.int x) (.int y) σ P = P (decide (x < y)) σ := rfl
theorem c_le : cmpW .LtE (.int x) (.int y) σ P = P (decide (x ≤ y)) σ := rfl
theorem c_gt : cmpW .Gt (.int x) (.int y) σ P = P (decide (x > y)) σ := rfl
theorem c_ge : cmpW .GtE (.int x) (.int y) σ P = P (decide (x ≥ y)) σ := rfl
theorem c_eq : cmpW .Eq (.int x) (.int y) σ P = P (x == y) σ := rfl
theorem c_ne : cmpW .NotEq (.int x) (.int y) σ P = P (x != y) σ := rfl
theorem c_is : cmpW .Is .none .none σ P = P true σ := rfl
theorem c_isi : cmpW .Is (.int x) .none σ P = P false σ := rfl
theorem c_isr : cmpW .Is (.ref a) .none σ P = P false σ := rfl
theorem c_ty {x y : String} : cmpW .IsNot (.typ x) (.typ y) σ P = P (x != y) σ := rfl
end

noncomputable def truW (v : V) (σ : St) (Q : Bool → St → Prop) : Prop := match v with
  | .bool b => Q b σ
  | .none => Q false σ
  | .int i => Q (i != 0) σ
  | _ => False


/-- an index as Python reads it -/
noncomputable def idx (i : Int) (n : Nat) : Nat := (if i < 0 then i + n else i).toNat
noncomputable def idxOk (i : Int) (n : Nat) : Prop := -(n : Int) ≤ i ∧ i < n

noncomputable def slB (o : Option Int) (d n : Nat) : Nat := match o with
  | none => d
  | some x => (if x < 0 then max 0 (x + n) else min x n).toNat
noncomputable def pick {α : Type} (xs : List α) (lo hi : Option Int) : List α := (xs.drop (slB lo 0 xs.length)).take (slB hi xs.length xs.length - slB lo 0 xs.length)

noncomputable def partW (v : V) (K : Option Int → Prop) : Prop := match v with
  | .none => K none
  | .int i => K (some i)
  | _ => False

/-- an item, a length: of a sequence, or of a range from 0 by ones -/
noncomputable def atW (o : O) (k : Int) (K : V → Prop) : Prop := match o with
  | o => optP o.items fun xs => idxOk k xs.length ∧ K (nth xs (idx k xs.length))
noncomputable def lenW (o : O) (K : Nat → Prop) : Prop := match o with
  | o => optP o.items fun xs => K xs.length
noncomputable def subW (o i : V) (σ : St) (Q : V → St → Prop) : Prop := match i with
  | .int k => refW o σ fun _ o => atW o k fun v => Q v σ
  | _ => False

noncomputable def slW (o lo hi st : V) (σ : St) (Q : V → St → Prop) : Prop := litemsW o σ fun xs => partW lo fun l => partW hi fun h => match st with
  | .none => alW σ (.lst (pick xs l h)) Q
  | _ => False

/-- rising insertion sort: what sorted gives -/
noncomputable def ins (x : Int) : List Int → List Int
  | [] => [x]
  | y :: r => if x ≤ y then x :: y :: r else y :: ins x r
noncomputable def isort : List Int → List Int
  | [] => []
  | x :: r => ins x (isort r)

/-- the numbers of a range -/
noncomputable def rangeL (lo hi st : Int) : List Int :=
  if st = 1 then (List.range (hi - lo).toNat).map fun (k : Nat) => lo + (k : Int)
  else (List.range (lo - hi).toNat).map fun (k : Nat) => lo - (k : Int)

noncomputable def small (i : Int) : Prop := -(2 ^ 62) ≤ i ∧ i < 2 ^ 62

noncomputable def rngW (args : List V) (σ : St) (Q : V → St → Prop) : Prop := match args with
  | [] => False
  | a :: r => asI a fun a => (match r with
    | [] => small a ∧ alW σ (.rng 0 a 1) Q
    | b :: r => asI b fun b => (match r with
      | [] => small a ∧ small b ∧ alW σ (.rng a b 1) Q
      | c :: r => asI c fun c => (match r with
        | [] => small a ∧ small b ∧ (c = 1 ∨ c = -1) ∧ alW σ (.rng a b c) Q
        | _ :: _ => False)))
noncomputable def asF (v : V) (K : UInt64 → Prop) : Prop := match v with
  | .flt f => K f
  | _ => False
noncomputable def isiW (args : List V) (σ : St) (Q : V → St → Prop) : Prop := match args with
  | [] => False
  | v :: r => asF v fun _ => one r fun w => asT w fun t => t = "float" ∧ Q (.bool true) σ
noncomputable def dvmW (args : List V) (σ : St) (Q : V → St → Prop) : Prop := match args with
  | [] => False
  | v :: r => asI v fun x => one r fun w => asI w fun y => y ≠ 0 ∧ y.natAbs < 1073741824 ∧ alW σ (.tup [.int (x.fdiv y), .int (x.fmod y)]) Q
noncomputable def biW (b : Bi) (args : List V) (σ : St) (Q : V → St → Prop) : Prop := match b with
  | .len => one args fun v => refW v σ fun _ o => lenW o fun k => Q (.int k) σ
  | .sorted => one args fun v => lintsW v σ fun ns => alW σ (.lst (ivs (isort ns))) Q
  | .range => rngW args σ Q
  | .sum => one args fun v => lintsW v σ fun ns => Q (.int ns.sum) σ
  | .isinstance => isiW args σ Q
  | .int => one args fun v => asF v fun f => ∃ i : Int, f = Float64.ofInt i ∧ i.natAbs < 2 ^ 53 ∧ Q (.int i) σ
  | .divmod => dvmW args σ Q
  | _ => False

noncomputable def meW (m : Me) (o : V) (args : List V) (σ : St) (Q : V → St → Prop) : Prop := match m with
  | .append => one args fun v => mlistW o σ fun a xs => xs.length + 1 ≤ lim ∧ Q .none (σ.set a (.lst (xs ++ [v])))
  | .insert => (match args with
    | [] => False
    | i :: r => asI i fun i => one r fun v => mlistW o σ fun a xs => 0 ≤ i ∧ i ≤ xs.length ∧ xs.length + 1 ≤ lim ∧ Q .none (σ.set a (.lst (xs.take i.toNat ++ v :: xs.drop i.toNat))))
  | .extend => one args fun v => mlistW o σ fun a xs => mlistW v σ fun b ys => a ≠ b ∧ xs.length + ys.length ≤ lim ∧ Q .none (σ.set a (.lst (xs ++ ys)))
  | _ => False
section
variable {σ : St} {Q : V → St → Prop} {v o : V} {x y z : Int}
theorem f_len : biW .len [v] σ Q = refW v σ fun _ o => lenW o fun k => Q (.int k) σ := rfl
theorem f_sorted : biW .sorted [v] σ Q = lintsW v σ fun ns => alW σ (.lst (ivs (isort ns))) Q := rfl
theorem f_range1 : biW .range [.int x] σ Q = (small x ∧ alW σ (.rng 0 x 1) Q) := rfl
theorem f_range2 : biW .range [.int x, .int y] σ Q = (small x ∧ small y ∧ alW σ (.rng x y 1) Q) := rfl
theorem f_range3 : biW .range [.int x, .int y, .int z] σ Q = (small x ∧ small y ∧ (z = 1 ∨ z = -1) ∧ alW σ (.rng x y z) Q) := rfl
theorem f_sum : biW .sum [v] σ Q = lintsW v σ fun ns => Q (.int ns.sum) σ := rfl
theorem f_int {f : UInt64} : biW .int [.flt f] σ Q = ∃ i : Int, f = Float64.ofInt i ∧ i.natAbs < 2 ^ 53 ∧ Q (.int i) σ := rfl
theorem f_dvm : biW .divmod [.int x, .int y] σ Q = (y ≠ 0 ∧ y.natAbs < 1073741824 ∧ alW σ (.tup [.int (x.fdiv y), .int (x.fmod y)]) Q) := rfl
theorem m_append : meW .append o [v] σ Q = mlistW o σ fun a xs => xs.length + 1 ≤ lim ∧ Q .none (σ.set a (.lst (xs ++ [v]))) := rfl
theorem m_insert : meW .insert o [.int x, v] σ Q = mlistW o σ fun a xs => 0 ≤ x ∧ x ≤ xs.length ∧ xs.length + 1 ≤ lim ∧ Q .none (σ.set a (.lst (xs.take x.toNat ++ v :: xs.drop x.toNat))) := rfl
theorem m_extend : meW .extend o [v] σ Q = mlistW o σ fun a xs => mlistW v σ fun b ys => a ≠ b ∧ xs.length + ys.length ≤ lim ∧ Q .none (σ.set a (.lst (xs ++ ys))) := rfl
end

/-- what a loop over v walks, and what must stand at each turn -/
noncomputable def iterW (v : V) (σ : St) (K : List V → (St → Prop) → Prop) : Prop := refW v σ fun a o => match o with
  | .lst xs => K xs (fun σ' => σ' a = some (.lst xs))
  | .ro xs => K xs (fun _ => True)
  | .tup xs => K xs (fun _ => True)
  | .rng lo hi st => small lo ∧ small hi ∧ (st = 1 ∨ st = -1) ∧ K (ivs (rangeL lo hi st)) (fun _ => True)
  | _ => False

/-- a row that grows turn by turn -/
noncomputable def comp2W (chk : St → Prop) (bod : V → List V → St → (List V → St → Prop) → Prop) : List V → List V → St → (List V → St → Prop) → Prop
  | [], acc, σ, K => chk σ ∧ K acc σ
  | v :: r, acc, σ, K => chk σ ∧ bod v acc σ fun acc' σ' => comp2W chk bod r acc' σ' K

noncomputable def compW (chk : St → Prop) (bod : V → St → (Option V → St → Prop) → Prop) (xs acc : List V) (σ : St) (K : List V → St → Prop) : Prop :=
  comp2W chk (fun v acc σ k => bod v σ fun o σ' => k (acc ++ o.toList) σ') xs acc σ K
noncomputable def undefs : Nat → List V
  | 0 => []
  | n + 1 => .undef :: undefs n
noncomputable def setN : List V → Nat → V → List V
  | [], _, _ => []
  | _ :: r, 0, v => v :: r
  | x :: r, i + 1, v => x :: setN r i v
theorem setN_eq (l : List V) (i : Nat) (v : V) : setN l i v = l.set i v := by
  induction l generalizing i with
  | nil => rfl
  | cons x r ih => cases i with
    | zero => rfl
    | succ i => simp [setN, ih]

mutual
/-- the value of an expression -/
noncomputable def xW (W : Wd) (n : Nat) : X → List Addr → List V → St → (V → St → Prop) → Prop
  | .bad, _, _, _, _ => False
  | .con v, _, _, σ, Q => Q v σ
  | .loc i, _, fr, σ, Q => nth fr i ≠ .undef ∧ Q (nth fr i) σ
  | .cel i, cs, _, σ, Q => (match σ (nthA cs i) with
    | some (.cell v) => v ≠ .undef ∧ Q v σ
    | _ => False)
  | .bin op l r, cs, fr, σ, Q => xW W n l cs fr σ fun a σ1 => xW W n r cs fr σ1 fun b σ2 => binW op a b σ2 Q
  | .neg x, cs, fr, σ, Q => xW W n x cs fr σ fun a σ1 => (match a with
    | .int i => Q (.int (-i)) σ1
    | _ => False)
  | .not x, cs, fr, σ, Q => xW W n x cs fr σ fun a σ1 => truW a σ1 fun b σ2 => Q (.bool (!b)) σ2
  | .and l r, cs, fr, σ, Q => xW W n l cs fr σ fun a σ1 => truW a σ1 fun b σ2 => if b = true then xW W n r cs fr σ2 Q else Q a σ2
  | .or l r, cs, fr, σ, Q => xW W n l cs fr σ fun a σ1 => truW a σ1 fun b σ2 => if b = true then Q a σ2 else xW W n r cs fr σ2 Q
  | .cmp op l r, cs, fr, σ, Q => xW W n l cs fr σ fun a σ1 => xW W n r cs fr σ1 fun b σ2 => cmpW op a b σ2 fun c σ3 => Q (.bool c) σ3
  | .cmp2 op op' x y z, cs, fr, σ, Q => xW W n x cs fr σ fun a σ1 => xW W n y cs fr σ1 fun b σ2 => cmpW op a b σ2 fun c σ3 =>
      if c = true then xW W n z cs fr σ3 fun d σ4 => cmpW op' b d σ4 fun c' σ5 => Q (.bool c') σ5 else Q (.bool false) σ3
  | .ife t a b, cs, fr, σ, Q => tW W n t cs fr σ fun c σ1 => if c = true then xW W n a cs fr σ1 Q else xW W n b cs fr σ1 Q
  | .nil, _, _, _, _ => False
  | .cons _ _, _, _, _, _ => False
  | .call f args kn kargs, cs, fr, σ, Q => xW W n f cs fr σ fun fv σ1 => lW W n args cs fr σ1 fun vs σ2 => lW W n kargs cs fr σ2 fun ks σ3 => CallOK W n fv vs kn ks Q σ3
  | .bcall b args, cs, fr, σ, Q => lW W n args cs fr σ fun vs σ1 => biW b vs σ1 Q
  | .meth m o args, cs, fr, σ, Q => xW W n o cs fr σ fun ov σ1 => mlistW ov σ1 fun _ _ => lW W n args cs fr σ1 fun vs σ2 => meW m ov vs σ2 Q
  | .sub o i, cs, fr, σ, Q => xW W n o cs fr σ fun a σ1 => xW W n i cs fr σ1 fun b σ2 => subW a b σ2 Q
  | .sl o lo hi st, cs, fr, σ, Q => xW W n o cs fr σ fun a σ1 => xW W n lo cs fr σ1 fun l σ2 => xW W n hi cs fr σ2 fun h σ3 => xW W n st cs fr σ3 fun k σ4 => slW a l h k σ4 Q
  | .lst args, cs, fr, σ, Q => lW W n args cs fr σ fun vs σ1 => vs.length ≤ lim ∧ alW σ1 (.lst vs) Q
  | .tup args, cs, fr, σ, Q => lW W n args cs fr σ fun vs σ1 => vs.length ≤ lim ∧ alW σ1 (.tup vs) Q
  | .comp sz cm it tgt cond elt, cs, fr, σ, Q => xW W n it cs fr σ fun v σ1 => iterW v σ1 fun xs chk => xs.length ≤ lim ∧
      compW chk (fun x σ2 k => tW W n cond (cm.map (nthA cs)) (setN (undefs sz) tgt x) σ2 fun c σ3 =>
        if c = true then xW W n elt (cm.map (nthA cs)) (setN (undefs sz) tgt x) σ3 fun y σ4 => k (some y) σ4 else k none σ3) xs [] σ1 fun ys σ5 => alW σ5 (.lst ys) Q
  | .comp2 sz cm it tgt it' tgt' elt, cs, fr, σ, Q => xW W n it cs fr σ fun v σ1 => iterW v σ1 fun xs chk =>
      comp2W chk (fun x acc σ2 k => xW W n it' (cm.map (nthA cs)) (setN (undefs sz) tgt x) σ2 fun v' σ3 => iterW v' σ3 fun ys chk' => acc.length + ys.length ≤ lim ∧
        compW chk' (fun y σ4 k' => xW W n elt (cm.map (nthA cs)) (setN (setN (undefs sz) tgt x) tgt' y) σ4 fun z σ5 => k' (some z) σ5) ys acc σ3 k) xs [] σ1 fun ys σ5 => alW σ5 (.lst ys) Q
/-- the truth of an expression -/
noncomputable def tW (W : Wd) (n : Nat) : X → List Addr → List V → St → (Bool → St → Prop) → Prop
  | .not x, cs, fr, σ, Q => tW W n x cs fr σ fun b σ1 => Q (!b) σ1
  | .and l r, cs, fr, σ, Q => tW W n l cs fr σ fun b σ1 => if b = true then tW W n r cs fr σ1 Q else Q false σ1
  | .or l r, cs, fr, σ, Q => tW W n l cs fr σ fun b σ1 => if b = true then Q true σ1 else tW W n r cs fr σ1 Q
  | .ife t a b, cs, fr, σ, Q => tW W n t cs fr σ fun c σ1 => if c = true then tW W n a cs fr σ1 Q else tW W n b cs fr σ1 Q
  | .cmp op l r, cs, fr, σ, Q => xW W n l cs fr σ fun a σ1 => xW W n r cs fr σ1 fun b σ2 => cmpW op a b σ2 Q
  | .cmp2 op op' x y z, cs, fr, σ, Q => xW W n x cs fr σ fun a σ1 => xW W n y cs fr σ1 fun b σ2 => cmpW op a b σ2 fun c σ3 =>
      if c = true then xW W n z cs fr σ3 fun d σ4 => cmpW op' b d σ4 Q else Q false σ3
  | .con v, _, _, σ, Q => truW v σ Q
  | .loc i, _, fr, σ, Q => nth fr i ≠ .undef ∧ truW (nth fr i) σ Q
  | .call f args kn kargs, cs, fr, σ, Q => xW W n f cs fr σ fun fv σ1 => lW W n args cs fr σ1 fun vs σ2 => lW W n kargs cs fr σ2 fun ks σ3 => CallOK W n fv vs kn ks (fun v σ4 => truW v σ4 Q) σ3
  | .bcall b args, cs, fr, σ, Q => lW W n args cs fr σ fun vs σ1 => biW b vs σ1 fun v σ4 => truW v σ4 Q
  | .sub o i, cs, fr, σ, Q => xW W n o cs fr σ fun a σ1 => xW W n i cs fr σ1 fun b σ2 => subW a b σ2 fun v σ4 => truW v σ4 Q
  | _, _, _, _, _ => False
/-- the values of arguments -/
noncomputable def lW (W : Wd) (n : Nat) : X → List Addr → List V → St → (List V → St → Prop) → Prop
  | .nil, _, _, σ, Q => Q [] σ
  | .cons h t, cs, fr, σ, Q => xW W n h cs fr σ fun v σ1 => lW W n t cs fr σ1 fun vs σ2 => Q (v :: vs) σ2
  | _, _, _, _, _ => False
end


section
variable {W : Wd} {n : Nat} {cs : List Addr} {fr : List V} {σ : St} {Q : V → St → Prop} {P : Bool → St → Prop} {R : List V → St → Prop}
theorem x_bad : xW W n .bad cs fr σ Q = False := rfl
theorem x_con {v : V} : xW W n (.con v) cs fr σ Q = Q v σ := rfl
theorem x_loc {i : Nat} : xW W n (.loc i) cs fr σ Q = (nth fr i ≠ .undef ∧ Q (nth fr i) σ) := rfl
theorem x_cel {i : Nat} : xW W n (.cel i) cs fr σ Q = (match σ (nthA cs i) with
    | some (.cell v) => v ≠ .undef ∧ Q v σ
    | _ => False) := rfl
theorem x_bin {op : Operator} {l r : X} : xW W n (.bin op l r) cs fr σ Q = xW W n l cs fr σ fun a σ1 => xW W n r cs fr σ1 fun b σ2 => binW op a b σ2 Q := rfl
theorem x_neg {x : X} : xW W n (.neg x) cs fr σ Q = xW W n x cs fr σ fun a σ1 => (match a with
    | .int i => Q (.int (-i)) σ1
    | _ => False) := rfl
theorem x_not {x : X} : xW W n (.not x) cs fr σ Q = xW W n x cs fr σ fun a σ1 => truW a σ1 fun b σ2 => Q (.bool (!b)) σ2 := rfl
theorem x_and {l r : X} : xW W n (.and l r) cs fr σ Q = xW W n l cs fr σ fun a σ1 => truW a σ1 fun b σ2 => if b = true then xW W n r cs fr σ2 Q else Q a σ2 := rfl
theorem x_or {l r : X} : xW W n (.or l r) cs fr σ Q = xW W n l cs fr σ fun a σ1 => truW a σ1 fun b σ2 => if b = true then Q a σ2 else xW W n r cs fr σ2 Q := rfl
theorem x_cmp {op : CmpOp} {l r : X} : xW W n (.cmp op l r) cs fr σ Q = xW W n l cs fr σ fun a σ1 => xW W n r cs fr σ1 fun b σ2 => cmpW op a b σ2 fun c σ3 => Q (.bool c) σ3 := rfl
theorem x_cmp2 {op op' : CmpOp} {x y z : X} : xW W n (.cmp2 op op' x y z) cs fr σ Q = xW W n x cs fr σ fun a σ1 => xW W n y cs fr σ1 fun b σ2 => cmpW op a b σ2 fun c σ3 =>
      if c = true then xW W n z cs fr σ3 fun d σ4 => cmpW op' b d σ4 fun c' σ5 => Q (.bool c') σ5 else Q (.bool false) σ3 := rfl
theorem x_ife {t a b : X} : xW W n (.ife t a b) cs fr σ Q = tW W n t cs fr σ fun c σ1 => if c = true then xW W n a cs fr σ1 Q else xW W n b cs fr σ1 Q := rfl
theorem x_call {f args kargs : X} {kn : List Str} : xW W n (.call f args kn kargs) cs fr σ Q = xW W n f cs fr σ fun fv σ1 => lW W n args cs fr σ1 fun vs σ2 => lW W n kargs cs fr σ2 fun ks σ3 => CallOK W n fv vs kn ks Q σ3 := rfl
theorem x_bcall {b : Bi} {args : X} : xW W n (.bcall b args) cs fr σ Q = lW W n args cs fr σ fun vs σ1 => biW b vs σ1 Q := rfl
theorem x_meth {m : Me} {o args : X} : xW W n (.meth m o args) cs fr σ Q = xW W n o cs fr σ fun ov σ1 => mlistW ov σ1 fun _ _ => lW W n args cs fr σ1 fun vs σ2 => meW m ov vs σ2 Q := rfl
theorem x_sub {o i : X} : xW W n (.sub o i) cs fr σ Q = xW W n o cs fr σ fun a σ1 => xW W n i cs fr σ1 fun b σ2 => subW a b σ2 Q := rfl
theorem x_sl {o lo hi st : X} : xW W n (.sl o lo hi st) cs fr σ Q = xW W n o cs fr σ fun a σ1 => xW W n lo cs fr σ1 fun l σ2 => xW W n hi cs fr σ2 fun h σ3 => xW W n st cs fr σ3 fun k σ4 => slW a l h k σ4 Q := rfl
theorem x_lst {args : X} : xW W n (.lst args) cs fr σ Q = lW W n args cs fr σ fun vs σ1 => vs.length ≤ lim ∧ alW σ1 (.lst vs) Q := rfl
theorem x_tup {args : X} : xW W n (.tup args) cs fr σ Q = lW W n args cs fr σ fun vs σ1 => vs.length ≤ lim ∧ alW σ1 (.tup vs) Q := rfl
theorem x_comp {sz tgt : Nat} {cm : List Nat} {it cond elt : X} : xW W n (.comp sz cm it tgt cond elt) cs fr σ Q = xW W n it cs fr σ fun v σ1 => iterW v σ1 fun xs chk => xs.length ≤ lim ∧
      compW chk (fun x σ2 k => tW W n cond (cm.map (nthA cs)) (setN (undefs sz) tgt x) σ2 fun c σ3 =>
        if c = true then xW W n elt (cm.map (nthA cs)) (setN (undefs sz) tgt x) σ3 fun y σ4 => k (some y) σ4 else k none σ3) xs [] σ1 fun ys σ5 => alW σ5 (.lst ys) Q := rfl
theorem t_not {x : X} : tW W n (.not x) cs fr σ P = tW W n x cs fr σ fun b σ1 => P (!b) σ1 := rfl
theorem t_and {l r : X} : tW W n (.and l r) cs fr σ P = tW W n l cs fr σ fun b σ1 => if b = true then tW W n r cs fr σ1 P else P false σ1 := rfl
theorem t_or {l r : X} : tW W n (.or l r) cs fr σ P = tW W n l cs fr σ fun b σ1 => if b = true then P true σ1 else tW W n r cs fr σ1 P := rfl
theorem t_ife {t a b : X} : tW W n (.ife t a b) cs fr σ P = tW W n t cs fr σ fun c σ1 => if c = true then tW W n a cs fr σ1 P else tW W n b cs fr σ1 P := rfl
theorem t_cmp {op : CmpOp} {l r : X} : tW W n (.cmp op l r) cs fr σ P = xW W n l cs fr σ fun a σ1 => xW W n r cs fr σ1 fun b σ2 => cmpW op a b σ2 P := rfl
theorem t_cmp2 {op op' : CmpOp} {x y z : X} : tW W n (.cmp2 op op' x y z) cs fr σ P = xW W n x cs fr σ fun a σ1 => xW W n y cs fr σ1 fun b σ2 => cmpW op a b σ2 fun c σ3 =>
      if c = true then xW W n z cs fr σ3 fun d σ4 => cmpW op' b d σ4 P else P false σ3 := rfl
theorem t_con {v : V} : tW W n (.con v) cs fr σ P = truW v σ P := rfl
theorem t_loc {i : Nat} : tW W n (.loc i) cs fr σ P = (nth fr i ≠ .undef ∧ truW (nth fr i) σ P) := rfl
theorem t_call {f args kargs : X} {kn : List Str} : tW W n (.call f args kn kargs) cs fr σ P = xW W n f cs fr σ fun fv σ1 => lW W n args cs fr σ1 fun vs σ2 => lW W n kargs cs fr σ2 fun ks σ3 => CallOK W n fv vs kn ks (fun v σ4 => truW v σ4 P) σ3 := rfl
theorem t_bcall {b : Bi} {args : X} : tW W n (.bcall b args) cs fr σ P = lW W n args cs fr σ fun vs σ1 => biW b vs σ1 fun v σ4 => truW v σ4 P := rfl
theorem t_sub {o i : X} : tW W n (.sub o i) cs fr σ P = xW W n o cs fr σ fun a σ1 => xW W n i cs fr σ1 fun b σ2 => subW a b σ2 fun v σ4 => truW v σ4 P := rfl
theorem t_bad : tW W n .bad cs fr σ P = False := rfl
theorem t_cel {i : Nat} : tW W n (.cel i) cs fr σ P = False := rfl
theorem t_bin {op : Operator} {l r : X} : tW W n (.bin op l r) cs fr σ P = False := rfl
theorem t_neg {x : X} : tW W n (.neg x) cs fr σ P = False := rfl
theorem t_sl {o lo hi st : X} : tW W n (.sl o lo hi st) cs fr σ P = False := rfl
theorem t_lst {args : X} : tW W n (.lst args) cs fr σ P = False := rfl
theorem t_tup {args : X} : tW W n (.tup args) cs fr σ P = False := rfl
theorem t_comp {sz tgt : Nat} {cm : List Nat} {it cond elt : X} : tW W n (.comp sz cm it tgt cond elt) cs fr σ P = False := rfl
theorem t_meth {m : Me} {o args : X} : tW W n (.meth m o args) cs fr σ P = False := rfl
theorem l_nil : lW W n .nil cs fr σ R = R [] σ := rfl
theorem l_cons {h t : X} : lW W n (.cons h t) cs fr σ R = xW W n h cs fr σ fun v σ1 => lW W n t cs fr σ1 fun vs σ2 => R (v :: vs) σ2 := rfl
theorem l_bad : lW W n .bad cs fr σ R = False := rfl
end
/-- the truth says nothing of these -/
noncomputable def noTr : X → Bool
  | .not _ => false
  | .and _ _ => false
  | .or _ _ => false
  | .ife _ _ _ => false
  | .cmp _ _ _ => false
  | .cmp2 _ _ _ _ _ => false
  | _ => true
theorem tW_val {W : Wd} {n : Nat} {cs : List Addr} {fr : List V} {σ : St} {P : Bool → St → Prop} {x : X} (hp : noTr x = true) (h : tW W n x cs fr σ P) : xW W n x cs fr σ fun v σ' => truW v σ' P := by
  (first | exact nS x | exact nO x | exact nF x | exact nT x | exact nN x | exact nC x | cases x) <;> first | exact h | exact h.elim | (first | exact nS hp | exact nO hp | exact nF hp | exact nT hp | exact nN hp | exact nC hp | cases hp)
end Mine

end
section -- B3
set_option bootstrap.genMatcherCode false
set_option genSizeOf false
set_option genInjectivity false
namespace Mine

/-- a name to store into: a slot, or a cell -/
inductive T where
  | l (i : Nat) | c (i : Nat)
inductive Tg where
  | one (t : T) | many (ts : List T)
inductive Fl where
  | next | brk | cont | ret (v : V)

inductive S where
  | bad | skip | seq (a b : S) | set (t : T) (x : X) | unp (ts : List T) (x : X)
  | aug (t : T) (op : Operator) (x : X) | exp (x : X) | ret (x : X) | ret0 | brk | cont
  | ite (t : X) (a b : S) | whl (t : X) (b : S) | for_ (t : Tg) (it : X) (b : S)
  | forz (ts : List T) (args : X) (b : S)

noncomputable def stW (t : T) (v : V) (cs : List Addr) (fr : List V) (σ : St) (K : List V → St → Prop) : Prop := match t with
  | .l i => K (setN fr i v) σ
  | .c i => match σ (nthA cs i) with
    | some (.cell _) => K fr (σ.set (nthA cs i) (.cell v))
    | _ => False
noncomputable def stsW : List T → List V → List Addr → List V → St → (List V → St → Prop) → Prop
  | [], [], _, fr, σ, K => K fr σ
  | t :: ts, v :: vs, cs, fr, σ, K => stW t v cs fr σ fun fr' σ' => stsW ts vs cs fr' σ' K
  | _, _, _, _, _, _ => False
noncomputable def tupW (v : V) (σ : St) (K : List V → Prop) : Prop := refW v σ fun _ o => match o with
  | .tup xs => K xs
  | _ => False
noncomputable def tgW (t : Tg) (v : V) (cs : List Addr) (fr : List V) (σ : St) (K : List V → St → Prop) : Prop := match t with
  | .one t => stW t v cs fr σ K
  | .many ts => tupW v σ fun xs => xs.length = ts.length ∧ stsW ts xs cs fr σ K
noncomputable def ldW (t : T) (cs : List Addr) (fr : List V) (σ : St) (K : V → Prop) : Prop := match t with
  | .l i => nth fr i ≠ .undef ∧ K (nth fr i)
  | .c i => match σ (nthA cs i) with
    | some (.cell v) => v ≠ .undef ∧ K v
    | _ => False

noncomputable def augW (op : Operator) (a b : V) (K : V → Prop) : Prop := match op with
  | .Add => asI a fun x => asI b fun y => K (.int (x + y))
  | .Sub => asI a fun x => asI b fun y => K (.int (x - y))
  | _ => False

/-- how a loop goes on behind a turn -/
noncomputable def lpW (again : St → List V → Prop) (Q : Fl → St → List V → Prop) (f : Fl) (σ : St) (fr : List V) : Prop := match f with
  | .next => again σ fr
  | .cont => again σ fr
  | .brk => Q .next σ fr
  | .ret v => Q (.ret v) σ fr
noncomputable def forW (chk : St → Prop) (bod : V → List V → St → (Fl → St → List V → Prop) → Prop) : List V → List V → St → (Fl → St → List V → Prop) → Prop
  | [], fr, σ, Q => chk σ ∧ Q .next σ fr
  | v :: r, fr, σ, Q => chk σ ∧ bod v fr σ (lpW (fun σ' fr' => forW chk bod r fr' σ' Q) Q)
noncomputable def whW (t : List V → St → (Bool → St → Prop) → Prop) (bod : List V → St → (Fl → St → List V → Prop) → Prop) (fr : List V) (σ : St) (Q : Fl → St → List V → Prop) : Prop :=
  ∃ I : Nat → St → List V → Prop, (∃ k, I k σ fr) ∧ ∀ j σ fr, I j σ fr →
    t fr σ fun b σ1 => if b = true then bod fr σ1 (lpW (fun σ' fr' => ∃ i, i < j ∧ I i σ' fr') Q) else Q .next σ1 fr

/-- the numbers below n -/
noncomputable def upto (n : Nat) : List V := (List.range n).map fun (i : Nat) => V.int (i : Int)
theorem upto_len {n : Nat} : (upto n).length = n := by unfold upto; rw [List.length_map, List.length_range]
theorem upto_nth {n i : Nat} (h : i < n) : nth (upto n) i = .int (i : Nat) := by
  unfold upto; rw [nth_eq, List.getD_eq_getElem?_getD, List.getElem?_map, List.getElem?_range h]; rfl
noncomputable def sW (W : Wd) (n : Nat) : S → List Addr → List V → St → (Fl → St → List V → Prop) → Prop
  | .bad, _, _, _, _ => False
  | .skip, _, fr, σ, Q => Q .next σ fr
  | .seq a b, cs, fr, σ, Q => sW W n a cs fr σ fun f σ1 fr1 => (match f with
    | .next => sW W n b cs fr1 σ1 Q
    | f => Q f σ1 fr1)
  | .set t x, cs, fr, σ, Q => xW W n x cs fr σ fun v σ1 => stW t v cs fr σ1 fun fr1 σ2 => Q .next σ2 fr1
  | .unp ts x, cs, fr, σ, Q => xW W n x cs fr σ fun v σ1 => tupW v σ1 fun xs => xs.length = ts.length ∧ stsW ts xs cs fr σ1 fun fr1 σ2 => Q .next σ2 fr1
  | .aug t op x, cs, fr, σ, Q => ldW t cs fr σ fun old => xW W n x cs fr σ fun v σ1 => augW op old v fun r => stW t r cs fr σ1 fun fr1 σ2 => Q .next σ2 fr1
  | .exp x, cs, fr, σ, Q => xW W n x cs fr σ fun _ σ1 => Q .next σ1 fr
  | .ret x, cs, fr, σ, Q => xW W n x cs fr σ fun v σ1 => Q (.ret v) σ1 fr
  | .ret0, _, fr, σ, Q => Q (.ret .none) σ fr
  | .brk, _, fr, σ, Q => Q .brk σ fr
  | .cont, _, fr, σ, Q => Q .cont σ fr
  | .ite t a b, cs, fr, σ, Q => tW W n t cs fr σ fun c σ1 => if c = true then sW W n a cs fr σ1 Q else sW W n b cs fr σ1 Q
  | .whl t b, cs, fr, σ, Q => whW (fun fr σ k => tW W n t cs fr σ k) (fun fr σ k => sW W n b cs fr σ k) fr σ Q
  | .for_ t it b, cs, fr, σ, Q => xW W n it cs fr σ fun v σ1 => iterW v σ1 fun xs chk =>
      forW chk (fun x fr σ k => tgW t x cs fr σ fun fr1 σ2 => sW W n b cs fr1 σ2 k) xs fr σ1 Q
  | .forz ts args b, cs, fr, σ, Q => lW W n args cs fr σ fun vs σ1 => ∃ a a' xs ys, vs = [.ref a, .ref a'] ∧ σ1 a = some (.lst xs) ∧ σ1 a' = some (.lst ys) ∧
      forW (fun σ' => σ' a = some (.lst xs) ∧ σ' a' = some (.lst ys)) (fun u fr σ k => asI u fun i => ∀ T, σ T = none → tgW (.many ts) (.ref T) cs fr (σ.set T (.tup [nth xs i.toNat, nth ys i.toNat])) fun fr1 σ2 => sW W n b cs fr1 σ2 k) (upto (min xs.length ys.length)) fr σ1 Q

section
variable {W : Wd} {n : Nat} {cs : List Addr} {fr : List V} {σ : St} {Q : Fl → St → List V → Prop}
theorem s_bad : sW W n .bad cs fr σ Q = False := rfl
theorem s_skip : sW W n .skip cs fr σ Q = Q .next σ fr := rfl
theorem s_seq {a b : S} : sW W n (.seq a b) cs fr σ Q = sW W n a cs fr σ fun f σ1 fr1 => (match f with
    | .next => sW W n b cs fr1 σ1 Q
    | f => Q f σ1 fr1) := rfl
theorem s_set {t : T} {x : X} : sW W n (.set t x) cs fr σ Q = xW W n x cs fr σ fun v σ1 => stW t v cs fr σ1 fun fr1 σ2 => Q .next σ2 fr1 := rfl
theorem s_unp {ts : List T} {x : X} : sW W n (.unp ts x) cs fr σ Q = xW W n x cs fr σ fun v σ1 => tupW v σ1 fun xs => xs.length = ts.length ∧ stsW ts xs cs fr σ1 fun fr1 σ2 => Q .next σ2 fr1 := rfl
theorem s_aug {t : T} {op : Operator} {x : X} : sW W n (.aug t op x) cs fr σ Q = ldW t cs fr σ fun old => xW W n x cs fr σ fun v σ1 => augW op old v fun r => stW t r cs fr σ1 fun fr1 σ2 => Q .next σ2 fr1 := rfl
theorem s_exp {x : X} : sW W n (.exp x) cs fr σ Q = xW W n x cs fr σ fun _ σ1 => Q .next σ1 fr := rfl
theorem s_ret {x : X} : sW W n (.ret x) cs fr σ Q = xW W n x cs fr σ fun v σ1 => Q (.ret v) σ1 fr := rfl
theorem s_ret0 : sW W n .ret0 cs fr σ Q = Q (.ret .none) σ fr := rfl
theorem s_brk : sW W n .brk cs fr σ Q = Q .brk σ fr := rfl
theorem s_cont : sW W n .cont cs fr σ Q = Q .cont σ fr := rfl
theorem s_ite {t : X} {a b : S} : sW W n (.ite t a b) cs fr σ Q = tW W n t cs fr σ fun c σ1 => if c = true then sW W n a cs fr σ1 Q else sW W n b cs fr σ1 Q := rfl
theorem s_whl {t : X} {b : S} : sW W n (.whl t b) cs fr σ Q = whW (fun fr σ k => tW W n t cs fr σ k) (fun fr σ k => sW W n b cs fr σ k) fr σ Q := rfl
theorem s_for {t : Tg} {it : X} {b : S} : sW W n (.for_ t it b) cs fr σ Q = xW W n it cs fr σ fun v σ1 => iterW v σ1 fun xs chk =>
      forW chk (fun x fr σ k => tgW t x cs fr σ fun fr1 σ2 => sW W n b cs fr1 σ2 k) xs fr σ1 Q := rfl
theorem s_forz {ts : List T} {args : X} {b : S} : sW W n (.forz ts args b) cs fr σ Q = lW W n args cs fr σ fun vs σ1 => ∃ a a' xs ys, vs = [.ref a, .ref a'] ∧ σ1 a = some (.lst xs) ∧ σ1 a' = some (.lst ys) ∧
      forW (fun σ' => σ' a = some (.lst xs) ∧ σ' a' = some (.lst ys)) (fun u fr σ k => asI u fun i => ∀ T, σ T = none → tgW (.many ts) (.ref T) cs fr (σ.set T (.tup [nth xs i.toNat, nth ys i.toNat])) fun fr1 σ2 => sW W n b cs fr1 σ2 k) (upto (min xs.length ys.length)) fr σ1 Q := rfl
end


inductive EK where
  | con (c : Const) (k : Nat) (p : Pos) | name (x : Str) (p : Pos) | bin (l : PySem.Expr) (op : Operator) (r : PySem.Expr) (p : Pos) | un (op : UnaryOp) (x : PySem.Expr) (p : Pos)
  | bop (op : BoolOp) (vs : List PySem.Expr) (p : Pos) | ife (t a b : PySem.Expr) (p : Pos) | lst (es : List PySem.Expr) (p : Pos) | tup (es : List PySem.Expr) (k : Nat) (p : Pos)
  | cmp (l : PySem.Expr) (ops : List CmpOp) (rs : List PySem.Expr) (p : Pos) | call (f : PySem.Expr) (args : List PySem.Expr) (ks : List Keyword) (p : Pos)
  | attr (o : PySem.Expr) (nm : Str) (p : Pos) | sub (o i : PySem.Expr) (p : Pos) | sl (lo hi st : Option PySem.Expr) (p : Pos)
  | lc (elt : PySem.Expr) (gens : List Comprehension) (sc : Scope) (p : Pos) | no (b : Bool)
noncomputable def ek (e : PySem.Expr) : EK := match e with
  | .Constant c k p => .con c k p
  | .Name x p => .name x p
  | .BinOp l op r p => .bin l op r p
  | .UnaryOp op x p => .un op x p
  | .BoolOp op vs p => .bop op vs p
  | .IfExp t a b p => .ife t a b p
  | .List es p => .lst es p
  | .Tuple es k p => .tup es k p
  | .Compare l ops rs p => .cmp l ops rs p
  | .Call f args ks p => .call f args ks p
  | .Attribute o nm p => .attr o nm p
  | .Subscript o i p => .sub o i p
  | .Slice lo hi st p => .sl lo hi st p
  | .ListComp elt gens sc p => .lc elt gens sc p
  | .Set .. => .no true
  | .Starred .. => .no true
  | _ => .no false
noncomputable def EK.is (e : PySem.Expr) : EK → Prop
  | .con c k p => e = .Constant c k p
  | .name x p => e = .Name x p
  | .tup es k p => e = .Tuple es k p
  | .sub o i p => e = .Subscript o i p
  | .attr o nm p => e = .Attribute o nm p
  | .sl lo hi st p => e = .Slice lo hi st p
  | .call f a k p => e = .Call f a k p
  | .cmp l o r p => e = .Compare l o r p
  | .lst l p => e = .List l p
  | _ => True
theorem ek_is (e : PySem.Expr) : (ek e).is e := by (first | exact nS e | exact nO e | exact nF e | exact nT e | exact nN e | exact nC e | cases e) <;> first | exact trivial | rfl
theorem ek_of {e : PySem.Expr} {v : EK} (h : ek e = v) : v.is e := h ▸ ek_is e
/-- neither starred nor a set's display -/
noncomputable def plainE (e : PySem.Expr) : Bool := match ek e with
  | .no b => !b
  | _ => true
noncomputable def noSet (e : PySem.Expr) : Bool := plainE e
noncomputable def noCall (e : PySem.Expr) : Bool := match ek e with
  | .call .. => false
  | _ => true
noncomputable def isLC (e : PySem.Expr) : Bool := match ek e with
  | .lc .. => true
  | _ => false

noncomputable def place (ns : List (Str × NameKind)) (x : Str) : Nat := ns.findIdx fun p => p.1 == x
noncomputable def grd (b : Bool) (x : X) : X := match b with
  | true => x
  | false => .bad
noncomputable def optX (o : Option V) : X := match o with
  | some v => .con v
  | none => .bad
noncomputable def nameX (k : Option NameKind) (g : X) (i : Nat) : X := match k with
  | none => .bad
  | some k => (match k with
    | .local => .loc i
    | .cell => .cel i
    | .free => .cel i
    | .globalImplicit => g
    | _ => .bad)
noncomputable def erName (gl : Str → Option V) (ns : List (Str × NameKind)) (x : Str) : X :=
  grd (x != ("__debug__" : Str)) (nameX (ns.lookup x) (optX (gl x)) (place ns x))
noncomputable def V.same (a b : V) : Bool := match a with
  | .ref x => (match b with
    | .ref y => decide (x = y)
    | _ => false)
  | .typ x => (match b with
    | .typ y => decide (x = y)
    | _ => false)
  | .bi x => (match b with
    | .bi y => decide (x = y)
    | _ => false)
  | _ => false
theorem V.of_same {a b : V} (h : a.same b = true) : a = b := by
  cases a with
  | ref x => cases b with
    | ref y => rw [of_decide_eq_true (p := x = y) h]
    | _ => (first | exact nS h | exact nO h | exact nF h | exact nT h | exact nN h | exact nC h | cases h)
  | typ x => cases b with
    | typ y => rw [of_decide_eq_true (p := x = y) h]
    | _ => (first | exact nS h | exact nO h | exact nF h | exact nT h | exact nN h | exact nC h | cases h)
  | bi x => cases b with
    | bi y => rw [of_decide_eq_true (p := x = y) h]
    | _ => (first | exact nS h | exact nO h | exact nF h | exact nT h | exact nN h | exact nC h | cases h)
  | _ => (first | exact nS h | exact nO h | exact nF h | exact nT h | exact nN h | exact nC h | cases h)
noncomputable def biV : Bi → Value
  | .len => .builtin "len"
  | .sorted => .builtin "sorted"
  | .min => .builtin "min"
  | .max => .builtin "max"
  | .sum => .builtin "sum"
  | .abs => .builtin "abs"
  | .divmod => .builtin "divmod"
  | .isinstance => .builtin "isinstance"
  | .range => .type "range"
  | .list => .type "list"
  | .type => .type "type"
  | .int => .type "int"
  | .zip => .type "zip"
  | .str => .type "str"
noncomputable def biAll : List Bi := [.len, .sorted, .min, .max, .sum, .abs, .range, .list, .type, .isinstance, .int, .divmod, .zip]
noncomputable def biOf (v : V) : Option Bi := biAll.find? fun b => (ab (biV b)).same v
theorem biOf_some {v : V} {b : Bi} (h : biOf v = some b) : v = ab (biV b) := (V.of_same (List.find?_some (p := fun b => (ab (biV b)).same v) h)).symm
noncomputable def meN : Me → Str
  | .append => "append"
  | .insert => "insert"
  | .pop => "pop"
  | .remove => "remove"
  | .extend => "extend"
  | .count => "count"
noncomputable def meOf (x : Str) : Option Me := ([.append, .insert, .pop, .remove, .extend, .count] : List Me).find? fun m => x == meN m
theorem meOf_some {x : Str} {m : Me} (h : meOf x = some m) : x = meN m := eq_of_beq (a := x) (b := meN m) (List.find?_some (p := fun m => x == meN m) h)
/-- a builtin that is called -/
noncomputable def biX (f : X) : Option Bi := match f with
  | .con v => biOf v
  | _ => none
noncomputable def callY (o : Option Bi) (args : X) (y : X) : X := match o with
  | some b => .bcall b args
  | none => y
noncomputable def callX (f : X) (args : X) (kn : List (Option Str)) (kargs : X) : X := callY (if kn.isEmpty then biX f else none) args (grd (kn.all (·.isSome)) (.call f args (kn.filterMap id) kargs))
noncomputable def methX (m : Option Me) (o args : X) : X := match m with
  | some m => .meth m o args
  | none => .bad
noncomputable def erC (c : Const) : X := match c with
  | .none => .con .none
  | .bool b => .con (.bool b)
  | .int i => .con (.int i)
  | .str x => .con (.str x)
  | _ => .bad
noncomputable def unX (op : UnaryOp) (x : X) : X := match op with
  | .Not => .not x
  | .USub => .neg x
  | _ => .bad
noncomputable def andX : List X → X
  | [] => .con (.bool true)
  | x :: r => (match r with
    | [] => x
    | _ :: _ => .and x (andX r))
noncomputable def orX : List X → X
  | [] => .bad
  | x :: r => (match r with
    | [] => x
    | _ :: _ => .or x (orX r))
noncomputable def bopX (op : BoolOp) (l : List X) : X := match op with
  | .And => grd (!l.isEmpty) (andX l)
  | .Or => orX l
noncomputable def xl : List X → X
  | [] => .nil
  | x :: r => .cons x (xl r)
noncomputable def cmp2X (op op' : CmpOp) (l r : X) (rs : List X) : X := match rs with
  | [] => .bad
  | r' :: rs => (match rs with
    | [] => .cmp2 op op' l r r'
    | _ :: _ => .bad)
noncomputable def cmpX (ops : List CmpOp) (l : X) (rs : List X) : X := match ops with
  | [] => .bad
  | op :: ops => (match rs with
    | [] => .bad
    | r :: rs => (match ops with
      | [] => grd rs.isEmpty (.cmp op l r)
      | op' :: ops => grd ops.isEmpty (cmp2X op op' l r rs)))

/-- the table of a comprehension's block, as the model lays it -/
noncomputable def rl (ns inner : List (Str × NameKind)) : List (Str × NameKind) := inner.map fun (y, k) => if (k == .free && true && ns.lookup y == some .cell) then (y, .cell) else (y, k)
noncomputable def scOk (ns : List (Str × NameKind)) (sc : Scope) (x : Str) : Bool :=
  sc.kind == .function && decide ((sc.names.map (·.1)).Nodup) && (sc.names.lookup x == some .local) &&
  sc.names.all (fun p => p.2 != .cell && p.1 != ("__classdict__" : Str) && (p.2 != .free || ns.lookup p.1 == some .cell || ns.lookup p.1 == some .free))
noncomputable def one? {α : Type} (l : List α) : Option α := match l with
  | [] => none
  | x :: r => if r.isEmpty then some x else none
noncomputable def nameOf (e : PySem.Expr) : Option Str := match ek e with
  | .name x _ => some x
  | _ => none
noncomputable def oX {α : Type} (o : Option α) (f : α → X) : X := match o with
  | some a => f a
  | none => .bad
/-- as scOk, the target in a cell of the block's own -/
noncomputable def compY (ns : List (Str × NameKind)) (sc : Scope) (x : Str) (b no : Bool) (it : X) (c elt : X) : X := match b with
  | false => grd (scOk ns sc x) (.comp sc.names.length (sc.names.map fun p => place ns p.1) it (place (rl ns sc.names) x) c elt)
  | true => .bad
noncomputable def compX (ns : List (Str × NameKind)) (sc : Scope) (g : Comprehension) (it : X) (ifs : List X) (elt : X) : X :=
  oX (nameOf g.target) fun x => grd (decide (g.is_async = 0) && noSet g.iter) (compY ns sc x (sc.names.lookup x == some .cell) g.ifs.isEmpty it (andX ifs) elt)
noncomputable def comp2X (ns : List (Str × NameKind)) (sc : Scope) (g g' : Comprehension) (it it' elt : X) : X :=
  oX (nameOf g.target) fun x => oX (nameOf g'.target) fun y => grd (decide (g.is_async = 0) && (scOk ns sc x && noSet g.iter) && (decide (g'.is_async = 0) && (scOk ns sc y && noSet g'.iter)) && (g.ifs.isEmpty && (g'.ifs.isEmpty && x != y)))
    (.comp2 sc.names.length (sc.names.map fun p => place ns p.1) it (place (rl ns sc.names) x) it' (place (rl ns sc.names) y) elt)
noncomputable def subX (i : EK) (o : X) (sl : Option PySem.Expr → X) (x : X) : X := match i with
  | .sl lo hi st _ => .sl o (sl lo) (sl hi) (sl st)
  | _ => .sub o x
noncomputable def callK (f : EK) (args : List PySem.Expr) (ks : List Keyword) (p : Pos) (name : Str → X) (obj : PySem.Expr → X) (as ka : X) : X := match f with
  | .name x _ => grd (args.all plainE) (callX (name x) as (ks.map fun k => k.arg) ka)
  | .attr o nm ap => grd (args.all plainE && (ks.isEmpty && (noCall o && ((ap.endLine == p.line) && decide (args.length < 20))))) (methX (meOf nm) (obj o) as)
  | _ => .bad
noncomputable def er (gl : Str → Option V) : Nat → List (Str × NameKind) → PySem.Expr → X
  | 0, _, _ => .bad
  | k + 1, ns, e => (match ek e with
    | .con c _ _ => erC c
    | .name x _ => erName gl ns x
    | .bin l op r _ => .bin op (er gl k ns l) (er gl k ns r)
    | .un op x _ => unX op (er gl k ns x)
    | .bop op vs _ => bopX op (vs.map (er gl k ns))
    | .ife t a b _ => .ife (er gl k ns t) (er gl k ns a) (er gl k ns b)
    | .lst es _ => grd (es.all plainE) (.lst (xl (es.map (er gl k ns))))
    | .tup es _ _ => grd (es.all plainE) (.tup (xl (es.map (er gl k ns))))
    | .cmp l ops rs _ => grd (rs.all noSet) (cmpX ops (er gl k ns l) (rs.map (er gl k ns)))
    | .call f args ks p => callK (ek f) args ks p (erName gl ns) (er gl k ns) (xl (args.map (er gl k ns))) (xl (ks.map fun q => er gl k ns q.value))
    | .sub o i _ => subX (ek i) (er gl k ns o) (fun o => match o with
      | none => .con .none
      | some e => er gl k ns e) (er gl k ns i)
    | .lc elt gens sc _ => (match gens with
      | [] => .bad
      | g :: r => (match r with
        | [] => compX ns sc g (er gl k ns g.iter) (g.ifs.map (er gl k (rl ns sc.names))) (er gl k (rl ns sc.names) elt)
        | g' :: r => grd r.isEmpty (comp2X ns sc g g' (er gl k ns g.iter) (er gl k (rl ns sc.names) g'.iter) (er gl k (rl ns sc.names) elt))))
    | _ => .bad)

noncomputable def tgOf (ns : List (Str × NameKind)) (x : Str) : Option T := match ns.lookup x with
  | some k => (match k with
    | .local => some (.l (place ns x))
    | .cell => some (.c (place ns x))
    | _ => none)
  | none => none
noncomputable def tgsOf (ns : List (Str × NameKind)) : List PySem.Expr → Option (List T)
  | [] => some []
  | e :: r => (nameOf e).bind fun x => (tgOf ns x).bind fun t => (tgsOf ns r).map (t :: ·)
noncomputable def tgK (ns : List (Str × NameKind)) (e : EK) : Option Tg := match e with
  | .name x _ => (tgOf ns x).map .one
  | .tup ts _ _ => (tgsOf ns ts).map .many
  | _ => none
noncomputable def oS {α : Type} (o : Option α) (f : α → S) : S := match o with
  | some a => f a
  | none => .bad
noncomputable def grdS (b : Bool) (x : S) : S := match b with
  | true => x
  | false => .bad
noncomputable def sl : List S → S
  | [] => .skip
  | x :: r => .seq x (sl r)
inductive SK where
  | ass (ts : List PySem.Expr) (v : PySem.Expr) | aug (t : PySem.Expr) (op : Operator) (v : PySem.Expr) | exp (v : PySem.Expr) | ret (v : Option PySem.Expr)
  | ite (t : PySem.Expr) (b o : List Stmt) | whl (t : PySem.Expr) (b o : List Stmt) | for_ (t it : PySem.Expr) (b o : List Stmt)
  | pass | brk | cont
  | no
noncomputable def sk (s : Stmt) : SK := match s with
  | .Assign ts v _ => .ass ts v
  | .AugAssign t op v _ => .aug t op v
  | .Expr v _ => .exp v
  | .Return v _ => .ret v
  | .If t b o _ => .ite t b o
  | .While t b o _ => .whl t b o
  | .For t it b o _ => .for_ t it b o
  | .Pass _ => .pass
  | .Break _ => .brk
  | .Continue _ => .cont
  | _ => .no

/-- what holds of a value, if there is one -/
noncomputable def ifSome {α : Type} (o : Option α) (P : α → Prop) : Prop := match o with
  | none => True
  | some a => P a
theorem ite_none {α : Type} {b : Bool} {x y : α} (h : (if b = true then some x else none) = some y) : b = true ∧ x = y := by
  cases b with
  | true => exact ⟨rfl, Option.some.inj h⟩
  | false => (first | exact nS h | exact nO h | exact nF h | exact nT h | exact nN h | exact nC h | cases h)
theorem ifSome_of {α : Type} {o : Option α} {P : α → Prop} (h : ifSome o P) {a : α} (e : o = some a) : P a := by subst e; exact h
noncomputable def eCall (e : PySem.Expr) : Option (PySem.Expr × List PySem.Expr × List Keyword × Pos) := match ek e with
  | .call f a k p => some (f, a, k, p)
  | _ => none
theorem eCall_is (e : PySem.Expr) : ifSome (eCall e) fun q => e = .Call q.1 q.2.1 q.2.2.1 q.2.2.2 := by (first | exact nS e | exact nO e | exact nF e | exact nT e | exact nN e | exact nC e | cases e) <;> first | exact trivial | rfl
noncomputable def assS (ns : List (Str × NameKind)) (t : EK) (tup : Bool) (x : X) : S := match t with
  | .name y _ => oS (tgOf ns y) fun t => .set t x
  | .tup ts _ _ => grdS (!tup) (oS (tgsOf ns ts) fun t => .unp t x)
  | _ => .bad
noncomputable def isTup (e : PySem.Expr) : Bool := match ek e with
  | .tup .. => true
  | _ => false
noncomputable def isZip (o : Option Bi) : Bool := match o with
  | some b => (match b with
    | .zip => true
    | _ => false)
  | none => false
/-- zip(..), as a text has it: the arguments -/
noncomputable def zipK (gl : Str → Option V) (ns : List (Str × NameKind)) (it : PySem.Expr) : Option (List PySem.Expr) := (eCall it).bind fun q => (nameOf q.1).bind fun x => if isZip (biX (erName gl ns x)) && (q.2.2.1.isEmpty && q.2.1.all plainE) then some q.2.1 else none
noncomputable def forS (tg : Tg) (z : Option (List PySem.Expr)) (f : List PySem.Expr → X) (x : X) (b : S) : S := match z with
  | none => .for_ tg x b
  | some as => (match tg with
    | .many ts => .forz ts (f as) b
    | .one _ => .bad)
noncomputable def erS (gl : Str → Option V) (ns : List (Str × NameKind)) : Nat → Stmt → S
  | 0, _ => .bad
  | k + 1, st => (match sk st with
    | .ass ts v => oS (one? ts) fun t => assS ns (ek t) (isTup v) (er gl k ns v)
    | .aug t op v => oS ((nameOf t).bind (tgOf ns)) fun t => .aug t op (er gl k ns v)
    | .exp v => grdS (!isLC v) (.exp (er gl k ns v))
    | .ret v => (match v with
      | some v => .ret (er gl k ns v)
      | none => .ret0)
    | .ite t b o => .ite (er gl k ns t) (sl (b.map (erS gl ns k))) (sl (o.map (erS gl ns k)))
    | .whl t b o => grdS o.isEmpty (.whl (er gl k ns t) (sl (b.map (erS gl ns k))))
    | .for_ t it b o => grdS (o.isEmpty && noSet it) (oS (tgK ns (ek t)) fun tg => forS tg (zipK gl ns it) (fun as => xl (as.map (er gl k ns))) (er gl k ns it) (sl (b.map (erS gl ns k))))
    | .pass => .skip
    | .brk => .brk
    | .cont => .cont
    | .no => .bad)
noncomputable def erSs (gl : Str → Option V) (k : Nat) (ns : List (Str × NameKind)) (l : List Stmt) : S := sl (l.map (erS gl ns k))
end Mine

end
section -- B4
namespace Mine

section
variable {H : Heap} {σ : St} {s s' : Shared} {L : Addr → Prop}

theorem RelG.ext (r : RelG H σ s) (hk : ∀ b o, s.heap.get? b = some o → s'.heap.get? b = some o) : RelG H σ s' :=
  ⟨fun b o e => hk b o (r.base b o e), fun a x e => (r.objs a x e).at fun o => hk a o, r.own⟩
theorem Stp.ext (hk : ∀ b o, s.heap.get? b = some o → s'.heap.get? b = some o) (hr : ∃ h t, s' = { s with heap := h, toks := t }) : Stp L σ s σ s' :=
  .of (fun b o e _ _ => hk b o e) (fun _ x e => .inl ⟨x, e, id⟩) (fun b o e => ⟨o, hk b o e⟩) hr
theorem RelG.fresh (r : RelG H σ s) {a : Addr} (h : s.heap.get? a = none) : σ a = none := by
  cases e : σ a with
  | none => rfl
  | some x => obtain ⟨o, ho⟩ := (r.objs a x e).get; rw [h] at ho; (first | exact nS ho | exact nO ho | exact nF ho | exact nT ho | exact nN ho | exact nC ho | cases ho)
theorem RelG.offbase (r : RelG H σ s) {a : Addr} (h : s.heap.get? a = none) : H.get? a = none := by
  cases e : H.get? a with
  | none => rfl
  | some x => have := r.base _ _ e; rw [h] at this; (first | exact nS this | exact nO this | exact nF this | exact nT this | exact nN this | exact nC this | cases this)
theorem get_size (h : Heap) : h.get? h.objs.size = none := by
  cases e : h.get? h.objs.size with
  | none => rfl
  | some o => exact absurd (Heap.lt_size e) (Nat.lt_irrefl _)
theorem RelG.alloc (r : RelG H σ s) {a : Addr} {x : O} (hk : ∀ b o, s.heap.get? b = some o → s'.heap.get? b = some o) (ha : s.heap.get? a = none) (ho : ObjR s'.heap a x) : RelG H (σ.set a x) s' := by
  refine ⟨fun b o e => hk b o (r.base b o e), fun b y e => ?_, fun b y e hm => ?_⟩
  · by_cases hb : b = a
    · subst hb; rw [St.set_same] at e; (first | exact nS e | exact nO e | exact nF e | exact nT e | exact nN e | exact nC e | cases e); exact ho
    · rw [St.set_other _ _ hb] at e; exact (r.objs b y e).at fun o => hk b o
  · by_cases hb : b = a
    · subst hb; exact r.offbase ha
    · rw [St.set_other _ _ hb] at e; exact r.own b y e hm
theorem Stp.alloc {a : Addr} {x : O} (hk : ∀ b o, s.heap.get? b = some o → s'.heap.get? b = some o) (ha : s.heap.get? a = none) (hr : ∃ h t, s' = { s with heap := h, toks := t }) :
    Stp L σ s (σ.set a x) s' :=
  .of (fun b o e _ _ => hk b o e) (fun b y e => by
    by_cases hb : b = a
    · subst hb; exact .inr ha
    · rw [St.set_other _ _ hb] at e; exact .inl ⟨y, e, id⟩) (fun b o e => ⟨o, hk b o e⟩) hr
theorem RelG.put (r : RelG H σ s) {a : Addr} {y x : O} (hy : σ a = some y) (hm : y.mut = true) (hs : Heap.SameBut a s.heap s'.heap) (ho : ObjR s'.heap a x) : RelG H (σ.set a x) s' := by
  have hH := r.own a y hy hm
  refine ⟨fun b o e => ?_, fun b z e => ?_, fun b z e hz => ?_⟩
  · have hb : b ≠ a := by rintro rfl; rw [hH] at e; (first | exact nS e | exact nO e | exact nF e | exact nT e | exact nN e | exact nC e | cases e)
    exact (hs.2 b hb).trans (r.base b o e)
  · by_cases hb : b = a
    · subst hb; rw [St.set_same] at e; (first | exact nS e | exact nO e | exact nF e | exact nT e | exact nN e | exact nC e | cases e); exact ho
    · rw [St.set_other _ _ hb] at e; exact (r.objs b z e).at fun o eo => (hs.2 b hb).trans eo
  · by_cases hb : b = a
    · subst hb; exact hH
    · rw [St.set_other _ _ hb] at e; exact r.own b z e hz
theorem Stp.put {a : Addr} {y x : O} (hy : σ a = some y) (hm : y.mut = true) (hs : Heap.SameBut a s.heap s'.heap) (ho : ObjR s'.heap a x) (hr : ∃ h t, s' = { s with heap := h, toks := t }) : Stp L σ s (σ.set a x) s' :=
  .of (fun b o e hn _ => by
    have hb : b ≠ a := by rintro rfl; have := hn y hy; rw [hm] at this; (first | exact nS this | exact nO this | exact nF this | exact nT this | exact nN this | exact nC this | cases this)
    exact (hs.2 b hb).trans e) (fun b z e => by
    by_cases hb : b = a
    · subst hb; exact .inl ⟨y, hy, fun _ => hm⟩
    · rw [St.set_other _ _ hb] at e; exact .inl ⟨z, e, id⟩) (fun b o e => by
    by_cases hb : b = a
    · subst hb; exact ho.get
    · exact ⟨o, (hs.2 b hb).trans e⟩) hr

theorem Frs.at {A : Around} {a : Addr} {h' : Heap} {tk : Nat} {m : Str → Option Value} (f : Frs H A σ s) (hs : Heap.SameBut a s.heap h') (ha : h'.Ns a m) : Frs H A σ { s with heap := h', toks := tk } := f.mono fun b o es n e hd hσ => by
  refine ⟨hσ, ?_⟩
  by_cases hb : b = a
  · subst hb; obtain ⟨o', es', ep', e', hd', _⟩ := ha; exact ⟨o', es', ep', e', hd'⟩
  · exact ⟨o, es, n, (hs.2 b hb).trans e, hd⟩
theorem Frs.put {A : Around} {a : Addr} {x y : O} {h' : Heap} {tk : Nat} (f : Frs H A σ s) (hy : σ a = some y) (hs : Heap.SameBut a s.heap h') : Frs H A (σ.set a x) { s with heap := h', toks := tk } := f.mono fun b o es n e hd hσ => by
  have hb : b ≠ a := fun q => by rw [q, hy] at hσ; (first | exact nS hσ | exact nO hσ | exact nF hσ | exact nT hσ | exact nN hσ | exact nC hσ | cases hσ)
  exact ⟨by rw [St.set_other _ _ hb]; exact hσ, o, es, n, (hs.2 b hb).trans e, hd⟩
theorem Ns_look {h h' : Heap} {a : Addr} {m : Str → Option Value} (x : h.Ns a m) (k : ∀ o, h.get? a = some o → ∃ sl, h'.get? a = some { o with slots := sl }) : h'.Ns a m := by
  obtain ⟨o, es, ep, e, hd, r⟩ := x
  obtain ⟨sl, e'⟩ := k o e
  exact ⟨_, es, ep, e', hd, r⟩
theorem Rel.step {A : Around} {env : Env} {fr : List V} {σ' : St} (r : Rel H A env σ fr s) (g : RelG H σ' s') (t : Stp No σ s σ' s') : Rel H A env σ' fr s' := by
  obtain ⟨m, hn, hf⟩ := r.ns
  refine ⟨g, ⟨m, Ns_look hn fun o e => t.look _ _ e (fun x hx => by rw [r.off] at hx; (first | exact nS hx | exact nO hx | exact nF hx | exact nT hx | exact nN hx | exact nC hx | cases hx)) id, hf⟩, ?_, r.new, r.frs.step t⟩
  cases e : σ' env.locals with
  | none => rfl
  | some x =>
    rcases t.dom _ _ e with ⟨y, hy, _⟩ | h
    · rw [r.off] at hy; (first | exact nS hy | exact nO hy | exact nF hy | exact nT hy | exact nN hy | exact nC hy | cases hy)
    · obtain ⟨o, _, _, e', _⟩ := hn; rw [h] at e'; (first | exact nS e' | exact nO e' | exact nF e' | exact nT e' | exact nN e' | exact nC e' | cases e')
theorem RelG.toks (r : RelG H σ s) (t : Nat) : RelG H σ { s with toks := t } := ⟨r.base, r.objs, r.own⟩
theorem Stp.toks (t : Nat) : Stp L σ s σ { s with toks := t } := .of (fun _ _ e _ _ => e) (fun _ x e => .inl ⟨x, e, id⟩) (fun _ o e => ⟨o, e⟩) ⟨s.heap, t, rfl⟩
end


section
variable {σ : St} {s s' : Shared} {L : Addr → Prop}
theorem RelG.hidden {H : Heap} (r : RelG H σ s) (hL : ∀ b, L b → σ b = none ∧ H.get? b = none) (hk : ∀ b o, ¬ L b → s.heap.get? b = some o → s'.heap.get? b = some o) : RelG H σ s' :=
  ⟨fun b o e => hk b o (fun hb => (by rw [(hL b hb).2] at e; (first | exact nS e | exact nO e | exact nF e | exact nT e | exact nN e | exact nC e | cases e))) (r.base b o e),
   fun a x e => (r.objs a x e).at fun o => hk a o fun hb => (by rw [(hL a hb).1] at e; (first | exact nS e | exact nO e | exact nF e | exact nT e | exact nN e | exact nC e | cases e)), r.own⟩
theorem Stp.hidden (hk : ∀ b o, ¬ L b → s.heap.get? b = some o → s'.heap.get? b = some o) (ha : ∀ b o, L b → s.heap.get? b = some o → ∃ o', s'.heap.get? b = some o') (hr : ∃ h t, s' = { s with heap := h, toks := t }) : Stp L σ s σ s' :=
  .of (fun b o e _ hl => hk b o hl e) (fun _ x e => .inl ⟨x, e, id⟩) (fun b o e => by
    by_cases hl : L b
    · exact ha b o hl e
    · exact ⟨o, hk b o hl e⟩) hr
theorem Stp.shown {σ' : St} (t : Stp L σ s σ' s') (h : ∀ b, L b → s.heap.get? b = none) : Stp No σ s σ' s' :=
  ⟨fun b o e hm _ => t.keep b o e hm fun hb => (by rw [h b hb] at e; (first | exact nS e | exact nO e | exact nF e | exact nT e | exact nN e | exact nC e | cases e)), fun b o e hm _ => t.look b o e hm fun hb => (by rw [h b hb] at e; (first | exact nS e | exact nO e | exact nF e | exact nT e | exact nN e | exact nC e | cases e)), t.dom, t.alive, t.rest⟩
theorem Stp.off {σ' : St} (t : Stp L σ s σ' s') {b : Addr} {o : Obj} (h : σ b = none) (e : s.heap.get? b = some o) : σ' b = none := by
  cases q : σ' b with
  | none => rfl
  | some x =>
    rcases t.dom b x q with ⟨y, hy, _⟩ | h'
    · rw [h] at hy; (first | exact nS hy | exact nO hy | exact nF hy | exact nT hy | exact nN hy | exact nC hy | cases hy)
    · rw [h'] at e; (first | exact nS e | exact nO e | exact nF e | exact nT e | exact nN e | exact nC e | cases e)
theorem Stp.nomut {σ' : St} (t : Stp L σ s σ' s') {b : Addr} {o : Obj} (h : NoMut σ b) (e : s.heap.get? b = some o) : NoMut σ' b := fun x hx => by
  rcases t.dom b x hx with ⟨y, hy, hm⟩ | h'
  · cases hx' : x.mut with
    | false => rfl
    | true => have := h y hy; rw [hm hx'] at this; exact this
  · rw [h'] at e; (first | exact nS e | exact nO e | exact nF e | exact nT e | exact nN e | exact nC e | cases e)

/-- a new object besides is changed -/
theorem Stp.sameBut {σ' : St} {C : Addr} {h' : Heap} (t : Stp L σ s σ' s') (hC : s.heap.get? C = none) (hs : Heap.SameBut C s'.heap h') : Stp L σ s σ' { s' with heap := h' } :=
  ⟨fun b o e hm hl hd => (hs.2 b fun q => (by subst q; rw [hC] at e; (first | exact nS e | exact nO e | exact nF e | exact nT e | exact nN e | exact nC e | cases e))).trans (t.keep b o e hm hl hd),
   fun b o e hm hl => let ⟨sl, e'⟩ := t.look b o e hm hl; ⟨sl, (hs.2 b fun q => (by subst q; rw [hC] at e; (first | exact nS e | exact nO e | exact nF e | exact nT e | exact nN e | exact nC e | cases e))).trans e'⟩, t.dom,
   fun b o e => let ⟨o', e'⟩ := t.alive b o e; ⟨o', (hs.2 b fun q => (by subst q; rw [hC] at e; (first | exact nS e | exact nO e | exact nF e | exact nT e | exact nN e | exact nC e | cases e))).trans e'⟩,
   let ⟨h, tk, e⟩ := t.rest; ⟨h', tk, by rw [e]⟩⟩
theorem Stp.up {L' : Addr → Prop} {σ' : St} (t : Stp No σ s σ' s') : Stp L' σ s σ' s' := t.weak fun _ q => q.elim
end

/-- the global names mean what gl says -/
noncomputable def GlOK (H : Heap) (gl : Str → Option V) : Prop := ∀ x v, gl x = some v → ∃ v', ab v' = v ∧
  ∃ mg, H.Ns mainGlobals mg ∧ (mg x = some v' ∨ mg x = none ∧ ∃ mb, H.Ns builtinsNs mb ∧ mb x = some v')
/-- where a block runs -/
structure Cx where
  W : Wd
  n : Nat
  gl : Str → Option V
  env : Env
  cs : List Addr
  ok : EnvOK W env cs
  G : GlOK W.H gl
abbrev Cx.ns (c : Cx) : List (Str × NameKind) := c.env.scope.names
abbrev Cx.x (c : Cx) (x : X) (fr : List V) (σ : St) (Q : V → St → Prop) : Prop := xW c.W c.n x c.cs fr σ Q
abbrev Cx.t (c : Cx) (x : X) (fr : List V) (σ : St) (Q : Bool → St → Prop) : Prop := tW c.W c.n x c.cs fr σ Q
abbrev Cx.l (c : Cx) (x : X) (fr : List V) (σ : St) (Q : List V → St → Prop) : Prop := lW c.W c.n x c.cs fr σ Q

section
variable {W : Wd} {n : Nat} {c : Cx} {fr : List V} {σ : St} {α β γ : Type}
/-- a stretch that needs no frame -/
noncomputable def HV (W : Wd) (n : Nat) (σ : St) (t : Sem α) (Q : α → St → Prop) : Prop :=
  ∀ A s Z, Room n A → RelG W.H σ s → Ends W.H σ s Q Z → wpAny W.M A t Z NoE s
/-- a stretch within a frame -/
noncomputable def GV (c : Cx) (fr : List V) (σ : St) (t : Sem α) (Q : α → St → Prop) : Prop :=
  ∀ A s Z, Room c.n A → Rel c.W.H A c.env σ fr s → Ends c.W.H σ s Q Z → wpAny c.W.M A t Z NoE s
/-- one computation stands for another -/
noncomputable def To (W : Wd) (t1 t : Sem α) : Prop := ∀ A s Z, wpAny W.M A t1 Z NoE s → wpAny W.M A t Z NoE s
theorem HV.gv {t : Sem α} {Q : α → St → Prop} (h : HV c.W c.n σ t Q) : GV c fr σ t Q := fun A s Z R r z => h A s Z R r.toRelG z
theorem GV.to {t1 t : Sem α} {Q : α → St → Prop} (h : GV c fr σ t1 Q) (L : To c.W t1 t) : GV c fr σ t Q := fun A s Z R r z => L A s Z (h A s Z R r z)
theorem GV.of {t : Sem α} {Q P : α → St → Prop} (h : GV c fr σ t Q) (m : ∀ a σ', Q a σ' → P a σ') : GV c fr σ t P := fun A s Z R r z => h A s Z R r fun a σ' s' q => z a σ' s' (m a σ' q)
theorem GV.l2 {t1 : Sem α} {t2 : α → Sem β} {t : Sem β} {Q1 : α → St → Prop} {Q : β → St → Prop} (L : ∀ A s Z, wpAny c.W.M A t1 (fun a s1 => wpAny c.W.M A (t2 a) Z NoE s1) NoE s → wpAny c.W.M A t Z NoE s)
    (h1 : GV c fr σ t1 Q1) (h2 : ∀ a σ1, Q1 a σ1 → GV c fr σ1 (t2 a) Q) : GV c fr σ t Q :=
  fun A s Z R r z => L A s Z (h1 A s _ R r fun a σ1 s1 q g t => h2 a σ1 q A s1 Z R (r.step g t) fun b σ2 s2 q' g' t' => z b σ2 s2 q' g' (t.trans t'))
theorem GV.bind {t1 : Sem α} {t2 : α → Sem β} {Q1 : α → St → Prop} {Q : β → St → Prop} (h1 : GV c fr σ t1 Q1) (h2 : ∀ a σ1, Q1 a σ1 → GV c fr σ1 (t2 a) Q) : GV c fr σ (t1 >>= t2) Q :=
  GV.l2 (fun _ _ _ => wpAny_bind) h1 h2
theorem GV.l3 {t1 : Sem α} {t2 : α → Sem β} {t3 : α → β → Sem γ} {t : Sem γ} {Q1 : α → St → Prop} {Q2 : α → β → St → Prop} {Q : γ → St → Prop}
    (L : ∀ A s Z, wpAny c.W.M A t1 (fun a s1 => wpAny c.W.M A (t2 a) (fun b s2 => wpAny c.W.M A (t3 a b) Z NoE s2) NoE s1) NoE s → wpAny c.W.M A t Z NoE s)
    (h1 : GV c fr σ t1 Q1) (h2 : ∀ a σ1, Q1 a σ1 → GV c fr σ1 (t2 a) (Q2 a)) (h3 : ∀ a b σ2, Q2 a b σ2 → GV c fr σ2 (t3 a b) Q) : GV c fr σ t Q :=
  fun A s Z R r z => L A s Z (h1 A s _ R r fun a σ1 s1 q1 g1 p1 => h2 a σ1 q1 A s1 _ R (r.step g1 p1) fun b σ2 s2 q2 g2 p2 => h3 a b σ2 q2 A s2 Z R ((r.step g1 p1).step g2 p2) fun x σ3 s3 q3 g3 p3 => z x σ3 s3 q3 g3 ((p1.trans p2).trans p3))
theorem HV.bind {t1 : Sem α} {t2 : α → Sem β} {Q1 : α → St → Prop} {Q : β → St → Prop} (h1 : HV W n σ t1 Q1) (h2 : ∀ a σ1, Q1 a σ1 → HV W n σ1 (t2 a) Q) : HV W n σ (t1 >>= t2) Q :=
  fun A s Z R r z => wpAny_bind (h1 A s _ R r fun a σ1 s1 q g t => h2 a σ1 q A s1 Z R g fun b σ2 s2 q' g' t' => z b σ2 s2 q' g' (t.trans t'))
theorem GV.pure {a : α} {Q : α → St → Prop} (q : Q a σ) : GV c fr σ (pure a) Q := fun A s Z R r z => wpAny_pure (z a σ s q r.toRelG (.refl ..))
theorem GV.hold {vs : List Value} {t : Sem α} {Q : α → St → Prop} (h : GV c fr σ t Q) : GV c fr σ (holding vs t) Q := h.to fun _ _ _ => wpAny_holding
theorem GV.stand {p : Pos} {t : Unit → Sem α} {Q : α → St → Prop} (h : GV c fr σ (t ()) Q) : GV c fr σ (standAt p >>= t) Q := h.to fun _ _ _ h => wpAny_bind (wpAny_standAt h)
theorem wpAny_release {M : Model} {A : Around} {s : Shared} {E : Value → Shared → Prop} {vs keep : List Value} {Z : Unit → Shared → Prop} (hz : Z () s) : wpAny M A (release vs keep) Z E s := fun Γ p hΓ => by
  rw [Sem.wp_release]; exact hz
theorem GV.rel {vs keep : List Value} {t : Unit → Sem α} {Q : α → St → Prop} (h : GV c fr σ (t ()) Q) : GV c fr σ (release vs keep >>= t) Q := h.to fun _ _ _ h => wpAny_bind (wpAny_release h)
theorem GV.op {vs : List Value} {t : Sem Value} {Q : Value → St → Prop} (h : GV c fr σ t Q) : GV c fr σ (operate vs t) Q := h.to fun _ _ _ h Γ p hΓ => by rw [Sem.wp_operate]; exact h Γ p hΓ
theorem Ends.here {s : Shared} {H : Heap} {Q : α → St → Prop} {Z : α → Shared → Prop} (z : Ends H σ s Q Z) {a : α} (r : RelG H σ s) (q : Q a σ) : Z a s := z a σ s q r (.refl ..)
theorem Ends.tok {s : Shared} {H : Heap} {Q : α → St → Prop} {Z : α → Shared → Prop} (z : Ends H σ s Q Z) {a : α} {t : Nat} (r : RelG H σ s) (q : Q a σ) : Z a { s with toks := t } := z a σ _ q (r.toks t) (.toks t)
theorem Ends.alloc {s : Shared} {H : Heap} {Q : α → St → Prop} {Z : α → Shared → Prop} (z : Ends H σ s Q Z) {v : α} {o : Obj} {x : O} {t : Nat} (r : RelG H σ s) (ho : ObjR (s.heap.push o) s.heap.objs.size x)
    (q : σ s.heap.objs.size = none → Q v (σ.set s.heap.objs.size x)) : Z v { s with heap := s.heap.push o, toks := t } :=
  z v _ _ (q (r.fresh (get_size _))) (r.alloc (fun _ _ e => Heap.get?_push_of_some _ e) (get_size _) ho) (.alloc (fun _ _ e => Heap.get?_push_of_some _ e) (get_size _) ⟨_, _, rfl⟩)
theorem Ends.new {s : Shared} {H : Heap} {Q : α → St → Prop} {Z : α → Shared → Prop} (z : Ends H σ s Q Z) {v : α} {x : O} {a : Addr} {h' : Heap} {t : Nat} (r : RelG H σ s) (hk : ∀ b o, s.heap.get? b = some o → h'.get? b = some o) (ha : s.heap.get? a = none) (ho : ObjR h' a x)
    (q : σ a = none → Q v (σ.set a x)) : Z v { s with heap := h', toks := t } := z v _ _ (q (r.fresh ha)) (r.alloc hk ha ho) (.alloc hk ha ⟨_, _, rfl⟩)
theorem Ends.ext {s : Shared} {H : Heap} {Q : α → St → Prop} {Z : α → Shared → Prop} (z : Ends H σ s Q Z) {v : α} {h' : Heap} {t : Nat} (r : RelG H σ s) (hk : ∀ b o, s.heap.get? b = some o → h'.get? b = some o) (q : Q v σ) : Z v { s with heap := h', toks := t } :=
  z v σ _ q (r.ext hk) (.ext hk ⟨_, _, rfl⟩)
theorem Ends.putL {s : Shared} {H : Heap} {Q : α → St → Prop} {Z : α → Shared → Prop} (z : Ends H σ s Q Z) {v : α} {ys : List V} {a : Addr} {xs : List V} {h' : Heap} {t : Nat} (r : RelG H σ s) (hy : σ a = some (.lst xs)) (hs : Heap.SameBut a s.heap h')
    (ho : ∃ items : Array Value, h'.PlainList a items ∧ items.toList.map ab = ys ∧ ys.length ≤ lim) (q : Q v (σ.set a (.lst ys))) : Z v { s with heap := h', toks := t } :=
  z v _ _ q (r.put (x := .lst ys) hy rfl hs ho) (.put (x := .lst ys) hy rfl hs ho ⟨_, _, rfl⟩)
end

/-- an expression's value, and its truth, as er and the rules say -/
noncomputable def SE (k : Nat) (e : PySem.Expr) : Prop := ∀ (c : Cx) fr σ Q, c.x (er c.gl k c.ns e) fr σ Q → GV c fr σ (eval e c.env) fun v => Q (ab v)
noncomputable def ST (k : Nat) (e : PySem.Expr) : Prop := ∀ (c : Cx) fr σ Q, c.t (er c.gl k c.ns e) fr σ Q → GV c fr σ (isTrue e c.env (eval e c.env)) Q
theorem grd_x {W : Wd} {n : Nat} {b : Bool} {x : X} {cs : List Addr} {fr : List V} {σ : St} {Q : V → St → Prop} (h : xW W n (grd b x) cs fr σ Q) : b = true ∧ xW W n x cs fr σ Q := by
  cases b with
  | true => exact ⟨rfl, h⟩
  | false => exact h.elim
theorem grd_t {W : Wd} {n : Nat} {b : Bool} {x : X} {cs : List Addr} {fr : List V} {σ : St} {Q : Bool → St → Prop} (h : tW W n (grd b x) cs fr σ Q) : b = true ∧ tW W n x cs fr σ Q := by
  cases b with
  | true => exact ⟨rfl, h⟩
  | false => exact h.elim
theorem noTr_grd {b : Bool} {x : X} (h : noTr x = true) : noTr (grd b x) = true := by
  cases b with
  | true => exact h
  | false => rfl
theorem place_of {ns : List (Str × NameKind)} {x : Str} {k : NameKind} (h : ns.lookup x = some k) : ns[place ns x]? = some (x, k) := by
  induction ns with
  | nil => (first | exact nS h | exact nO h | exact nF h | exact nT h | exact nN h | exact nC h | cases h)
  | cons p r ih =>
    obtain ⟨y, k'⟩ := p
    by_cases hy : y = x
    · subst hy; simp [List.lookup] at h; subst h; simp [place, List.findIdx_cons]
    · have e1 : (x == y) = false := by simpa using fun e : x = y => hy e.symm
      have e2 : (y == x) = false := by simpa using hy
      rw [List.lookup_cons, e1] at h
      have := ih h
      simpa [place, List.findIdx_cons, e2] using this


end Mine

end
section -- B5
namespace Mine
variable {W : Wd} {n : Nat} {c : Cx} {fr : List V} {σ : St} {A : Around} {s : Shared}

theorem lim_le : lim ≤ sizeLine := by rw [sizeLine_eq]; exact (by decide : lim ≤ 16777216)

theorem cel_elim {i : Nat} {cs : List Addr} {Q : V → St → Prop} (h : xW W n (.cel i) cs fr σ Q) : ∃ v, σ (nthA cs i) = some (.cell v) ∧ v ≠ .undef ∧ Q v σ := by
  rw [x_cel] at h
  cases e : σ (nthA cs i) with
  | none => rw [e] at h; exact h.elim
  | some o =>
    rw [e] at h
    cases o with
    | cell v => exact ⟨v, rfl, h⟩
    | _ => exact h.elim
theorem load_loc {x : Str} (hl : c.ns.lookup x = some .local) (hu : nth fr (place c.ns x) ≠ .undef) : GV c fr σ (loadName c.env x) fun v σ' => ab v = nth fr (place c.ns x) ∧ σ' = σ := fun A s Z R r z => by
  obtain ⟨m, hn, hf⟩ := r.ns
  rw [nth_eq] at hu z
  obtain ⟨v, hv, hav⟩ := hf _ _ (place_of hl) hu
  exact wpAny_loadName_local c.ok.kind hl hn hv (z.here r.toRelG ⟨hav, rfl⟩)
theorem load_cel {x : Str} {v : V} (hl : c.ns.lookup x = some .cell ∨ c.ns.lookup x = some .free) (e : σ (nthA c.cs (place c.ns x)) = some (.cell v)) (hu : v ≠ .undef) : GV c fr σ (loadName c.env x) fun u σ' => ab u = v ∧ σ' = σ := fun A s Z R r z => by
  rw [nthA_eq] at e
  obtain ⟨o, hcell, hab⟩ := r.objs _ _ e
  cases o with
  | none => exact absurd hab.symm hu
  | some cv =>
    have hz := z.here (a := cv) r.toRelG ⟨hab, rfl⟩
    rcases hl with hl | hl
    · exact wpAny_loadName_cell c.ok.kind hl (c.ok.cell _ _ _ (place_of hl) (.inl rfl)).1 hcell hz
    · have h2 := c.ok.cell _ _ _ (place_of hl) (.inr rfl)
      exact wpAny_loadName_free c.ok.kind hl h2.1 hcell hz (beq_eq_false_iff_ne.mpr h2.2)
/-- a global name, whatever is handled -/
theorem glob_any {x : Str} {v : V} (hl : c.ns.lookup x = some .globalImplicit) (hx : c.gl x = some v) (hb : ∀ b o, c.W.H.get? b = some o → s.heap.get? b = some o) {Z E : Value → Shared → Prop} (hZ : ∀ v', ab v' = v → Z v' s) : wpAny c.W.M A (loadName c.env x) Z E s := by
  obtain ⟨v', hab, mg, hg, hm⟩ := c.G _ _ hx
  have hg' := hg.keeps hb
  replace hZ := hZ v' hab
  have e1 : loadName c.env x = loadGlobal c.env x := by
    have hbk : c.env.blockKind = .function := by unfold Env.blockKind; rw [c.ok.kind]; rfl
    have hk : c.env.kindOf x = some .globalImplicit := hl
    unfold loadName
    rw [hbk, hk, c.ok.kind]
    rfl
  rw [e1]
  unfold loadGlobal
  rw [c.ok.glob, c.ok.bts]
  refine wpAny_bind (wpAny_nsGet hg' ?_)
  rcases hm with hm | ⟨hm, mb, hbb, hmb⟩
  · rw [hm]; exact wpAny_pure hZ
  · rw [hm]
    exact wpAny_bind (wpAny_nsGet (hbb.keeps hb) (by rw [hmb]; exact wpAny_pure hZ))
theorem load_glo {x : Str} {v : V} (hl : c.ns.lookup x = some .globalImplicit) (hx : c.gl x = some v) : GV c fr σ (loadName c.env x) fun u σ' => ab u = v ∧ σ' = σ :=
  fun A s Z R r z => glob_any hl hx r.base fun v' hv' => z.here r.toRelG ⟨hv', rfl⟩
theorem load_eq {t : Sem Value} {v : V} {Q : V → St → Prop} (h : GV c fr σ t fun u σ' => ab u = v ∧ σ' = σ) (q : Q v σ) : GV c fr σ t fun u => Q (ab u) := h.of fun a σ' e => by rw [e.1, e.2]; exact q
theorem nbeq {x y : Str} (h : (x != y) = true) : (x == y) = false := by rw [bne, Bool.not_eq_true'] at h; exact h
theorem name_ok {x : Str} {pos : Pos} {Q : V → St → Prop} (h : c.x (erName c.gl c.ns x) fr σ Q) : GV c fr σ (eval (.Name x pos) c.env) fun v => Q (ab v) := by
  obtain ⟨hd, h⟩ := grd_x h
  refine GV.to (t1 := loadName c.env x) ?_ fun _ _ _ h => wpAny_Name h (nbeq hd)
  cases hl : c.ns.lookup x with
  | none => rw [hl] at h; exact h.elim
  | some k =>
    rw [hl] at h
    cases k with
    | «local» => exact load_eq (load_loc hl h.1) h.2
    | cell => obtain ⟨v, e, hu, q⟩ := cel_elim h; exact load_eq (load_cel (.inl hl) e hu) q
    | free => obtain ⟨v, e, hu, q⟩ := cel_elim h; exact load_eq (load_cel (.inr hl) e hu) q
    | globalImplicit =>
      cases hg : c.gl x with
      | none => rw [hg] at h; exact h.elim
      | some v => rw [hg] at h; exact load_eq (load_glo hl hg) h
    | _ => exact h.elim
theorem noTr_name {gl : Str → Option V} {ns : List (Str × NameKind)} {x : Str} : noTr (erName gl ns x) = true := by
  refine noTr_grd ?_
  cases ns.lookup x with
  | none => rfl
  | some k =>
    cases k with
    | globalImplicit => cases gl x <;> rfl
    | _ => rfl

theorem asI_on {G : Value → Prop} {va : Value} {K : Int → Prop} (h : asI (ab va) K) (g : ∀ i t, K i → G (.int i t)) : G va := by
  (first | exact nS va | exact nO va | exact nF va | exact nT va | exact nN va | exact nC va | cases va) <;> first | exact g _ _ h | exact h.elim
theorem asR_on {G : Value → Prop} {va : Value} {K : Addr → Prop} (h : asR (ab va) K) (g : ∀ i, K i → G (.ref i)) : G va := by
  (first | exact nS va | exact nO va | exact nF va | exact nT va | exact nN va | exact nC va | cases va) <;> first | exact g _ h | exact h.elim
theorem asT_on {G : Value → Prop} {va : Value} {K : String → Prop} (h : asT (ab va) K) (g : ∀ i, K i → G (.type i)) : G va := by
  (first | exact nS va | exact nO va | exact nF va | exact nT va | exact nN va | exact nC va | cases va) <;> first | exact g _ h | exact h.elim
theorem opt_elim {α : Type} {o : Option α} {K : α → Prop} (h : optP o K) : ∃ x, o = some x ∧ K x := by
  cases o with
  | none => exact h.elim
  | some x => exact ⟨x, rfl, h⟩
theorem ref_on {G : Value → Prop} {va : Value} {K : Addr → O → Prop} (h : refW (ab va) σ K) (g : ∀ a o, σ a = some o → K a o → G (.ref a)) : G va := by
  cases va with
  | ref a => obtain ⟨o, e, h⟩ := opt_elim (show optP (σ a) (K a) from h); exact g a o e h
  | _ => exact h.elim
/-- a list of the store, in the heap -/
noncomputable def LstAt (s : Shared) (a : Addr) (xs : List V) : Prop := ∃ items : Array Value, s.heap.IsList a items ∧ items.size ≤ lim ∧ items.toList.map ab = xs
noncomputable def SeqOf (s : Shared) (a : Addr) (xs : List V) : Prop := ∃ items : Array Value, (s.heap.IsList a items ∨ IsTup s.heap a items) ∧ items.size ≤ lim ∧ items.toList.map ab = xs
theorem lstAt {a : Addr} {o : O} {xs : List V} {H : Heap} (r : RelG H σ s) (e : σ a = some o) (h : o.litems = some xs) : LstAt s a xs := by
  have R := r.objs a o e
  cases o with
  | lst ys => obtain ⟨items, hp, hx, hz⟩ := R; (first | exact nS h | exact nO h | exact nF h | exact nT h | exact nN h | exact nC h | cases h); exact ⟨items, hp.isList, by rw [← hx] at hz; simpa using hz, hx⟩
  | ro ys => obtain ⟨items, hp, hx, hz⟩ := R; (first | exact nS h | exact nO h | exact nF h | exact nT h | exact nN h | exact nC h | cases h); exact ⟨items, hp, by rw [← hx] at hz; simpa using hz, hx⟩
  | _ => (first | exact nS h | exact nO h | exact nF h | exact nT h | exact nN h | exact nC h | cases h)
theorem seqAt {a : Addr} {o : O} {xs : List V} {H : Heap} (r : RelG H σ s) (e : σ a = some o) (h : o.items = some xs) : SeqOf s a xs := by
  have R := r.objs a o e
  cases o with
  | lst ys => obtain ⟨items, hp, hx, hz⟩ := R; (first | exact nS h | exact nO h | exact nF h | exact nT h | exact nN h | exact nC h | cases h); exact ⟨items, .inl hp.isList, by rw [← hx] at hz; simpa using hz, hx⟩
  | ro ys => obtain ⟨items, hp, hx, hz⟩ := R; (first | exact nS h | exact nO h | exact nF h | exact nT h | exact nN h | exact nC h | cases h); exact ⟨items, .inl hp, by rw [← hx] at hz; simpa using hz, hx⟩
  | tup ys => obtain ⟨items, hp, hx, hz⟩ := R; (first | exact nS h | exact nO h | exact nF h | exact nT h | exact nN h | exact nC h | cases h); exact ⟨items, .inr hp, by rw [← hx] at hz; simpa using hz, hx⟩
  | _ => (first | exact nS h | exact nO h | exact nF h | exact nT h | exact nN h | exact nC h | cases h)
theorem litems_on {G : Value → Prop} {va : Value} {K : List V → Prop} (h : litemsW (ab va) σ K) (g : ∀ a o xs, σ a = some o → o.litems = some xs → K xs → G (.ref a)) : G va :=
  ref_on h fun a o e h => let ⟨xs, e2, h⟩ := opt_elim h; g a o xs e e2 h
theorem lints_on {G : Value → Prop} {va : Value} {K : List Int → Prop} (h : lintsW (ab va) σ K) (g : ∀ a o ns, σ a = some o → o.litems = some (ivs ns) → K ns → G (.ref a)) : G va :=
  litems_on h fun a o xs e e2 h => let ⟨ns, e3, h⟩ := opt_elim h; g a o ns e (asInts_some e3 ▸ e2) h
theorem mlist_on {G : Value → Prop} {va : Value} {K : Addr → List V → Prop} (h : mlistW (ab va) σ K) (g : ∀ a xs, σ a = some (.lst xs) → K a xs → G (.ref a)) : G va :=
  ref_on h fun a o e h => by
    cases o with
    | lst xs => exact g a xs e h
    | _ => exact h.elim
/-- a list that may be changed, in the heap -/
theorem plainAt {a : Addr} {xs : List V} {H : Heap} (r : RelG H σ s) (e : σ a = some (.lst xs)) : ∃ items : Array Value, s.heap.PlainList a items ∧ items.size ≤ lim ∧ items.toList.map ab = xs := by
  obtain ⟨items, hp, hx, hz⟩ := r.objs a _ e
  exact ⟨items, hp, by rw [← hx] at hz; simpa using hz, hx⟩
theorem one_on {G : List Value → Prop} {vs : List Value} {K : V → Prop} (h : one (vs.map ab) K) (g : ∀ v, K (ab v) → G [v]) : G vs := by
  rcases vs with _ | ⟨v, _ | ⟨w, r⟩⟩
  · exact h.elim
  · exact g v h
  · exact h.elim
theorem intsAre_of {vs : List Value} {ns : List Int} (h : vs.map ab = ivs ns) : IntsAre vs ns := by
  induction vs generalizing ns with
  | nil => cases ns with
    | nil => exact .nil
    | cons i r => (first | exact nS h | exact nO h | exact nF h | exact nT h | exact nN h | exact nC h | cases h)
  | cons v r ih =>
    cases ns with
    | nil => (first | exact nS h | exact nO h | exact nF h | exact nT h | exact nN h | exact nC h | cases h)
    | cons i q =>
      simp only [List.map_cons, ivs, List.cons.injEq] at h
      obtain ⟨t, rfl⟩ := ab_int h.1
      exact .cons i t (ih h.2)
theorem intsAre_ab {vs : List Value} {ns : List Int} (h : IntsAre vs ns) : vs.map ab = ivs ns := by
  induction h with
  | nil => rfl
  | cons i t _ ih => simp only [List.map_cons, ab, ih]; rfl
theorem objR_newList (h : Heap) (vs : List Value) (hz : vs.length ≤ lim) : ObjR (h.push { cls := .type "list", data := .seq vs.toArray }) h.objs.size (.lst (vs.map ab)) :=
  ⟨vs.toArray, ⟨0, Heap.get?_push_size _ rfl⟩, by simp, by simpa using hz⟩
theorem objR_newTuple (h : Heap) (vs : List Value) (hz : vs.length ≤ lim) : ObjR (h.push { cls := .type "tuple", data := .seq vs.toArray }) h.objs.size (.tup (vs.map ab)) :=
  ⟨vs.toArray, ⟨_, Heap.get?_push_size _ rfl, rfl, 0, rfl⟩, by simp, by simpa using hz⟩


section
variable {va vb : Value} {Q : V → St → Prop}
theorem two_on {G : Value → Value → Prop} {K : Int → Int → Prop} (h : asI (ab va) fun x => asI (ab vb) fun y => K x y) (g : ∀ x t y u, K x y → G (.int x t) (.int y u)) : G va vb :=
  asI_on (G := fun v => G v vb) h fun x t h => asI_on (G := fun v => G (.int x t) v) h fun y u h => g x t y u h
theorem bin_sub (h : binW .Sub (ab va) (ab vb) σ Q) : HV W n σ (binaryOp .Sub va vb) fun v => Q (ab v) :=
  two_on (G := fun a b => HV W n σ (binaryOp .Sub a b) fun v => Q (ab v)) h fun _ _ _ _ h _ _ _ _ r z => sub_int (z.tok r h)
theorem bin_div (h : binW .FloorDiv (ab va) (ab vb) σ Q) : HV W n σ (binaryOp .FloorDiv va vb) fun v => Q (ab v) :=
  two_on (G := fun a b => HV W n σ (binaryOp .FloorDiv a b) fun v => Q (ab v)) h fun _ _ _ _ h _ _ _ _ r z => floordiv_int h.1 (z.tok r h.2.2) (.inl (PyProof.noPylong_small h.2.1))
theorem bin_mod (h : binW .Mod (ab va) (ab vb) σ Q) : HV W n σ (binaryOp .Mod va vb) fun v => Q (ab v) :=
  two_on (G := fun a b => HV W n σ (binaryOp .Mod a b) fun v => Q (ab v)) h fun _ _ _ _ h _ _ _ _ r z => mod_int h.1 (z.tok r h.2)
theorem bin_pow (h : binW .Pow (ab va) (ab vb) σ Q) : HV W n σ (binaryOp .Pow va vb) fun v => Q (ab v) :=
  two_on (G := fun a b => HV W n σ (binaryOp .Pow a b) fun v => Q (ab v)) h fun _ _ _ _ h _ _ _ _ r z => pow_int_small h.1 h.2.1 h.2.2.1 (z.tok r h.2.2.2)
theorem bin_tdiv (h : binW .Div (ab va) (ab vb) σ Q) : HV W n σ (binaryOp .Div va vb) fun v => Q (ab v) :=
  two_on (G := fun a b => HV W n σ (binaryOp .Div a b) fun v => Q (ab v)) h fun x t y u h A s Z R r z => by
    obtain ⟨hd, i, rfl, hi, q⟩ := h
    exact div_whole R.handled hd hi (z.tok r q)
/-- two lists, end to end -/
theorem cat_ok {x y : Addr} {xs ys : List V} (hz : xs.length + ys.length ≤ lim) (q : alW σ (.lst (xs ++ ys)) Q) (h1 : ∀ s, RelG W.H σ s → LstAt s x xs) (h2 : ∀ s, RelG W.H σ s → LstAt s y ys) : HV W n σ (binaryOp .Add (.ref x) (.ref y)) fun v => Q (ab v) := fun A s Z R r z => by
  obtain ⟨it1, hl1, _, e1⟩ := h1 s r
  obtain ⟨it2, hl2, _, e2⟩ := h2 s r
  clear h1 h2
  subst e1 e2
  rw [List.length_map, List.length_map, Array.length_toList, Array.length_toList] at hz
  rw [← List.map_append] at q
  have zz : ∀ sz : (it1.toList ++ it2.toList).length ≤ lim, Z (.ref s.heap.objs.size) { s with heap := s.heap.push { cls := .type "list", data := .seq (it1.toList ++ it2.toList).toArray } } := fun sz => z.alloc r (objR_newList _ _ sz) (q _)
  clear z q r
  obtain ⟨⟨cls, dd, data, sl⟩, ho, hc, n1, hd⟩ := hl1
  obtain ⟨⟨cls2, dd2, data2, sl2⟩, ho2, hc2, n2, hd2⟩ := hl2
  (first | exact nS hc | exact nO hc | exact nF hc | exact nT hc | exact nN hc | exact nC hc | cases hc); (first | exact nS hd | exact nO hd | exact nF hd | exact nT hd | exact nN hd | exact nC hd | cases hd); (first | exact nS hc2 | exact nO hc2 | exact nF hc2 | exact nT hc2 | exact nN hc2 | exact nC hc2 | cases hc2); (first | exact nS hd2 | exact nO hd2 | exact nF hd2 | exact nT hd2 | exact nN hd2 | exact nC hd2 | cases hd2)
  refine concat_meets ⟨_, ho, rfl⟩ ⟨_, ho2, rfl⟩ noFill_list_add seq_list_add PySem.F.slot_list_add PySem.F.entry_list_add (PySem.F.args_list_add_2 _ _) (list_addW x y it1 it2 n1 n2 dd dd2 sl sl2 (Nat.le_trans hz lim_le)) ⟨ho, ho2, ?_⟩
  rw [show it1 ++ it2 = (it1.toList ++ it2.toList).toArray by rw [← Array.toList_append]]
  exact zz (by rw [List.length_append, Array.length_toList, Array.length_toList]; exact hz)
theorem bin_add (h : binW .Add (ab va) (ab vb) σ Q) : HV W n σ (binaryOp .Add va vb) fun v => Q (ab v) := by
  cases va with
  | int x t => exact asI_on (G := fun v => HV W n σ (binaryOp .Add (.int x t) v) fun v => Q (ab v)) h fun _ _ h _ _ _ _ r z => add_int (z.tok r h)
  | ref x =>
    refine asR_on (G := fun v => HV W n σ (binaryOp .Add (.ref x) v) fun v => Q (ab v)) h fun y h => ?_
    exact litems_on (va := .ref x) (G := fun v => HV W n σ (binaryOp .Add v (.ref y)) fun v => Q (ab v)) h fun a o xs e e2 h => litems_on (va := .ref y) (G := fun v => HV W n σ (binaryOp .Add (.ref a) v) fun v => Q (ab v)) h fun b o' ys e' e2' h =>
      cat_ok h.1 h.2 (fun s r => lstAt r e e2) fun s r => lstAt r e' e2'
  | _ => exact h.elim
theorem bin_mul (h : binW .Mult (ab va) (ab vb) σ Q) : HV W n σ (binaryOp .Mult va vb) fun v => Q (ab v) := by
  cases va with
  | int x t => exact asI_on (G := fun v => HV W n σ (binaryOp .Mult (.int x t) v) fun v => Q (ab v)) h fun _ _ h _ _ _ _ r z => mul_int (z.tok r h.2) h.1
  | _ => exact h.elim
theorem bin_ok {op : Operator} (h : binW op (ab va) (ab vb) σ Q) : HV W n σ (binaryOp op va vb) fun v => Q (ab v) := by
  cases op with
  | Add => exact bin_add h
  | Sub => exact bin_sub h
  | Mult => exact bin_mul h
  | Div => exact bin_tdiv h
  | FloorDiv => exact bin_div h
  | Mod => exact bin_mod h
  | Pow => exact bin_pow h
  | _ => exact h.elim
end

theorem litems_bind {a : Addr} {xs : List V} {H : Heap} (r : RelG H σ s) (h : (σ a).bind O.litems = some xs) : ∃ items, s.heap.IsList a items ∧ items.toList.map ab = xs := by
  cases e : σ a with
  | none => rw [e] at h; (first | exact nS h | exact nO h | exact nF h | exact nT h | exact nN h | exact nC h | cases h)
  | some o =>
    rw [e] at h
    have R := r.objs a o e
    cases o with
    | lst ys => obtain ⟨items, hp, hq, _⟩ := R; (first | exact nS h | exact nO h | exact nF h | exact nT h | exact nN h | exact nC h | cases h); exact ⟨items, hp.isList, hq⟩
    | ro ys => obtain ⟨items, hp, hq, _⟩ := R; (first | exact nS h | exact nO h | exact nF h | exact nT h | exact nN h | exact nC h | cases h); exact ⟨items, hp, hq⟩
    | tup _ => (first | exact nS h | exact nO h | exact nF h | exact nT h | exact nN h | exact nC h | cases h)
    | rng _ _ _ => (first | exact nS h | exact nO h | exact nF h | exact nT h | exact nN h | exact nC h | cases h)
    | cell _ => (first | exact nS h | exact nO h | exact nF h | exact nT h | exact nN h | exact nC h | cases h)
    | fn _ => (first | exact nS h | exact nO h | exact nF h | exact nT h | exact nN h | exact nC h | cases h)
    | tab _ => (first | exact nS h | exact nO h | exact nF h | exact nT h | exact nN h | exact nC h | cases h)
    | code _ => (first | exact nS h | exact nO h | exact nF h | exact nT h | exact nN h | exact nC h | cases h)
theorem eqL_at (P : Value → Value → Bool → Prop) {f : V → V → Option Bool} (hP : ∀ x y c, f (ab x) (ab y) = some c → P x y c) : ∀ (xs ys : List Value) (c : Bool), xs.length = ys.length → eqL f (xs.map ab) (ys.map ab) = some c →
    ∃ e : Nat → Bool, (∀ j (h1 : j < xs.length) (h2 : j < ys.length), P xs[j] ys[j] (e j)) ∧ (List.range xs.length).all e = c := by
  intro xs
  induction xs with
  | nil => intro ys c _ h; (first | exact nS h | exact nO h | exact nF h | exact nT h | exact nN h | exact nC h | cases h); exact ⟨fun _ => true, fun j h1 => absurd h1 (Nat.not_lt_zero _), rfl⟩
  | cons x xs ih =>
    intro ys c hl h
    cases ys with
    | nil => (first | exact nS hl | exact nO hl | exact nF hl | exact nT hl | exact nN hl | exact nC hl | cases hl)
    | cons y ys =>
      obtain ⟨b, e1, h⟩ := Option.bind_eq_some_iff.mp (show (f (ab x) (ab y)).bind _ = some c from h)
      obtain ⟨c', e2, rfl⟩ := Option.map_eq_some_iff.mp h
      obtain ⟨e, he, hc⟩ := ih ys c' (by simpa using hl) e2
      refine ⟨fun j => Nat.casesOn j b e, fun j h1 h2 => ?_, ?_⟩
      · cases j with
        | zero => exact hP _ _ _ e1
        | succ j => exact he j (by simpa using h1) (by simpa using h2)
      · rw [List.length_cons, List.range_succ_eq_map, List.all_cons, List.all_map, ← hc]
        rfl
/-- == and != in all three forms -/
noncomputable def EqP (A : Around) (s : Shared) (x y : Value) (b : Bool) : Prop := SeqAt.EqAt A s x y b ∧ SeqAt.RcAt A s x y b ∧ SeqAt.RcNeAt A s x y (!b)
theorem eq0_p {x y : Value} {b : Bool} (h : eq0 (ab x) (ab y) = some b) : EqP A s x y b := by
  cases x with
  | int i t => cases y with
    | int j u => (first | exact nS h | exact nO h | exact nF h | exact nT h | exact nN h | exact nC h | cases h); exact ⟨.int_int _ _ _ _, .int_int _ _ _ _, .int_int _ _ _ _⟩
    | _ => (first | exact nS h | exact nO h | exact nF h | exact nT h | exact nN h | exact nC h | cases h)
  | str i t => cases y with
    | str j u => (first | exact nS h | exact nO h | exact nF h | exact nT h | exact nN h | exact nC h | cases h); exact ⟨.str_str _ _ _ _, .str_str _ _ _ _, .str_str _ _ _ _⟩
    | _ => (first | exact nS h | exact nO h | exact nF h | exact nT h | exact nN h | exact nC h | cases h)
  | bool i => cases y with
    | bool j => (first | exact nS h | exact nO h | exact nF h | exact nT h | exact nN h | exact nC h | cases h); exact ⟨.bool_bool _ _, .bool_bool _ _, .bool_bool _ _⟩
    | _ => (first | exact nS h | exact nO h | exact nF h | exact nT h | exact nN h | exact nC h | cases h)
  | float i t => cases y with
    | int j u => (first | exact nS h | exact nO h | exact nF h | exact nT h | exact nN h | exact nC h | cases h); exact ⟨eq_at_fi _ _ _ _, rc_fi _ _ _ _, rn_fi _ _ _ _⟩
    | _ => (first | exact nS h | exact nO h | exact nF h | exact nT h | exact nN h | exact nC h | cases h)
  | _ => (first | exact nS h | exact nO h | exact nF h | exact nT h | exact nN h | exact nC h | cases h)
/-- what == of two lists rests on -/
theorem eqR {H : Heap} (r : RelG H σ s) {d : Nat} {a b : Addr} {c : Bool} (h : eqB σ (d + 1) (.ref a) (.ref b) = some c) : a ≠ b ∧ ∃ i1 i2 : Array Value, s.heap.IsList a i1 ∧ s.heap.IsList b i2 ∧
    ((i1.size = i2.size ∧ eqL (eqB σ d) (i1.toList.map ab) (i2.toList.map ab) = some c) ∨ (i1.size ≠ i2.size ∧ c = false)) := by
  have h' : (if a = b then none else ((σ a).bind O.litems).bind fun xs => ((σ b).bind O.litems).bind fun ys => if xs.length = ys.length then eqL (eqB σ d) xs ys else some false) = some c := h
  by_cases hne : a = b
  · rw [if_pos hne] at h'; (first | exact nS h' | exact nO h' | exact nF h' | exact nT h' | exact nN h' | exact nC h' | cases h')
  rw [if_neg hne] at h'
  obtain ⟨xs, e1, h'⟩ := Option.bind_eq_some_iff.mp h'
  obtain ⟨ys, e2, h'⟩ := Option.bind_eq_some_iff.mp h'
  obtain ⟨i1, hl1, rfl⟩ := litems_bind r e1
  obtain ⟨i2, hl2, rfl⟩ := litems_bind r e2
  refine ⟨hne, i1, i2, hl1, hl2, ?_⟩
  simp only [List.length_map, Array.length_toList] at h'
  by_cases hsz : i1.size = i2.size
  · rw [if_pos hsz] at h'; exact .inl ⟨hsz, h'⟩
  · rw [if_neg hsz] at h'; (first | exact nS h' | exact nO h' | exact nF h' | exact nT h' | exact nN h' | exact nC h' | cases h'); exact .inr ⟨hsz, rfl⟩
theorem eqB_p {H : Heap} (r : RelG H σ s) : ∀ (d : Nat) (A : Around), A.units + d < cLine → ∀ (x y : Value) (b : Bool), eqB σ d (ab x) (ab y) = some b → EqP A s x y b := by
  intro d
  induction d with
  | zero => intro A hu x y b h; exact eq0_p h
  | succ d ih =>
    intro A hu x y b h
    cases x with
    | ref a =>
      cases y with
      | ref a' =>
        obtain ⟨hne, i1, i2, hl1, hl2, hc⟩ := eqR r h
        have hu' : A.units < cLine := Nat.lt_of_le_of_lt (Nat.le_add_right _ _) hu
        have rc : SeqAt.RcAt A s (.ref a) (.ref a') b ∧ SeqAt.RcNeAt A s (.ref a) (.ref a') (!b) := by
          rcases hc with ⟨hsz, h⟩ | ⟨hsz, rfl⟩
          · obtain ⟨e, he, hc⟩ := eqL_at (fun x y b => SeqAt.EqAt A.in1 s x y b) (fun x y b hq => (ih A.in1 (by rw [show A.in1.units + d = A.units + (d + 1) from by show A.units + 1 + d = _; (first | assumption | exact q1 ‹_› | exact q2 ‹_› ‹_› | exact q3 ‹_› ‹_› | exact q4 ‹_› ‹_› | exact q5 ‹_› | exact q6 ‹_› | lia | omega)]; exact hu) x y b hq).1) i1.toList i2.toList b hsz h
            rw [show i1.toList.length = i1.size from rfl] at hc
            rw [← hc]
            exact ⟨.lists hl1 hl2 hsz hu' fun j h1 h2 => he j h1 h2, .lists hl1 hl2 hsz hu' fun j h1 h2 => he j h1 h2⟩
          · exact ⟨.lists_lengths hl1 hl2 (bne_iff_ne.mpr hsz) hu', .lists_lengths hl1 hl2 (bne_iff_ne.mpr hsz) hu'⟩
        exact ⟨.of_refs hne rc.1, rc⟩
      | _ => (first | exact nS h | exact nO h | exact nF h | exact nT h | exact nN h | exact nC h | cases h)
    | _ => exact eq0_p h
section
variable {va vb : Value} {B : Bool → St → Prop} {Q : Value → St → Prop}
theorem eq_ok {b : Bool} (R : Room n A) (r : RelG W.H σ s) (e : eqB σ 3 (ab va) (ab vb) = some b) : EqP A s va vb b := eqB_p r 3 A (by have := R.units; show A.units + 3 < 9900; (first | assumption | exact q1 ‹_› | exact q2 ‹_› ‹_› | exact q3 ‹_› ‹_› | exact q4 ‹_› ‹_› | exact q5 ‹_› | exact q6 ‹_› | omega)) _ _ _ e
theorem isN_ok (h : cmpW .Is (ab va) (ab vb) σ B) (m : ∀ b σ', B b σ' → Q (.bool b) σ') : HV W n σ (compareOp .Is va vb) Q := fun A s Z R r z => by
  cases vb with
  | none => cases va with
    | none => exact is_none_none (z.here r (m _ _ h))
    | int i t => exact is_int_none (z.here r (m _ _ h))
    | ref a => exact is_ref_none (z.here r (m _ _ h))
    | _ => exact h.elim
  | _ => exact h.elim
theorem isT_ok (h : cmpW .IsNot (ab va) (ab vb) σ B) (m : ∀ b σ', B b σ' → Q (.bool b) σ') : HV W n σ (compareOp .IsNot va vb) Q :=
  asT_on (G := fun v => HV W n σ (compareOp .IsNot v vb) Q) h fun x h => asT_on (G := fun v => HV W n σ (compareOp .IsNot (.type x) v) Q) h fun y h A s Z R r z => isnot_type (z.here r (m _ _ (by
    have : (!(Value.type x == Value.type y)) = (x != y) := by
      by_cases hxy : x = y
      · subst hxy; rw [bne_self_eq_false, beq_self_eq_true]; rfl
      · have h1 : (Value.type x == Value.type y) = false := beq_eq_false_iff_ne.mpr fun e => hxy (Value.type.inj e)
        rw [h1, bne_iff_ne.mpr hxy]; rfl
    rw [this]; exact h)))
theorem cmp_ok {op : CmpOp} (h : cmpW op (ab va) (ab vb) σ B) (m : ∀ b σ', B b σ' → Q (.bool b) σ') : HV W n σ (compareOp op va vb) Q := by
  cases op with
  | Lt => exact two_on (G := fun a b => HV W n σ (compareOp .Lt a b) Q) h fun _ _ _ _ h _ _ _ _ r z => P.lt_int (z.here r (m _ _ h))
  | LtE => exact two_on (G := fun a b => HV W n σ (compareOp .LtE a b) Q) h fun _ _ _ _ h _ _ _ _ r z => P.le_int (z.here r (m _ _ h))
  | Gt => exact two_on (G := fun a b => HV W n σ (compareOp .Gt a b) Q) h fun _ _ _ _ h _ _ _ _ r z => P.gt_int (z.here r (m _ _ h))
  | GtE => exact two_on (G := fun a b => HV W n σ (compareOp .GtE a b) Q) h fun _ _ _ _ h _ _ _ _ r z => P.ge_int (z.here r (m _ _ h))
  | Eq => obtain ⟨b, e, h⟩ := opt_elim h; exact fun A s Z R r z => (eq_ok R r e).2.1 W.prog W.w NoE Z (z.here r (m _ _ h))
  | NotEq => obtain ⟨b, e, h⟩ := opt_elim h; exact fun A s Z R r z => (eq_ok R r e).2.2 W.prog W.w NoE Z (z.here r (m _ _ h))
  | Is => exact isN_ok h m
  | IsNot => exact isT_ok h m
  | _ => exact h.elim
theorem tru_ok (h : truW (ab va) σ B) : HV W n σ (truthy va) B := fun A s Z R r z => by
  cases va with
  | bool b => exact wpAny_truthy_bool (z.here r h)
  | none => exact truthy_none (z.here r h)
  | int i t => exact P.truthy_int (z.here r h)
  | _ => exact h.elim
end
end Mine

end
section -- B6
namespace Mine
variable {W : Wd} {n k : Nat} {c : Cx} {fr : List V} {σ : St} {A : Around} {s : Shared}

theorem snd_const {v : Const} {i : Nat} {pos : Pos} : SE (k + 1) (.Constant v i pos) := fun c fr σ Q h A s Z R r z => by
  cases v with
  | none => exact wpAny_Constant_none (z.here r.toRelG h)
  | bool b => exact wpAny_Constant_bool (z.here r.toRelG h)
  | int i => exact wpAny_Constant_int (z.tok r.toRelG h)
  | str x => exact wpAny_Constant_str (z.tok r.toRelG h)
  | _ => exact h.elim
theorem snd_name {x : Str} {pos : Pos} : SE (k + 1) (.Name x pos) := fun c fr σ Q h => name_ok h
/-- what has no truth of its own -/
theorem tnd_plain {e : PySem.Expr} (he : SE k e) (ht : ∀ gl ns, noTr (er gl k ns e) = true) (hp : ∀ env whole, isTrue e env whole = (do let v ← whole; standAt e.pos; holding [v] (truthy v))) : ST k e := fun c fr σ Q h => by
  rw [hp]
  exact GV.bind (he c fr σ _ (tW_val (ht _ _) h)) fun v σ1 h1 => GV.stand (GV.hold (tru_ok h1).gv)
section
variable {l r x y t a b : PySem.Expr} {pos : Pos}
theorem snd_bin {op : Operator} (hl : SE k l) (hr : SE k r) : SE (k + 1) (.BinOp l op r pos) := fun c fr σ Q h =>
  GV.l3 (fun _ _ _ => wpAny_BinOp) (hl c fr σ _ h) (fun a σ1 h1 => hr c fr σ1 _ h1) fun a b σ2 h2 => (bin_ok h2).gv
theorem neg_ok {v : Value} {Q : V → St → Prop} (h : match ab v with
    | .int i => Q (.int (-i)) σ
    | _ => False) : HV W n σ (unaryOp .USub v) fun u => Q (ab u) := fun A s Z R r z => by
  cases v with
  | int i t => exact P.neg_int (z.tok r h)
  | _ => exact h.elim
theorem snd_neg (hx : SE k x) : SE (k + 1) (.UnaryOp .USub x pos) := fun c fr σ Q h =>
  GV.l2 (fun _ _ _ => wpAny_UnaryOp) (hx c fr σ _ h) fun a σ1 h1 => (neg_ok h1).gv
theorem snd_not (hx : SE k x) : SE (k + 1) (.UnaryOp .Not x pos) := fun c fr σ Q h =>
  GV.l2 (fun _ _ _ => wpAny_UnaryOp) (hx c fr σ _ h) fun a σ1 h1 A s Z R r z => not_of (tru_ok h1 A s _ R r.toRelG fun b σ2 s2 q g t => z _ σ2 s2 q g t)
theorem tnd_not (hx : ST k x) : ST (k + 1) (.UnaryOp .Not x pos) := fun c fr σ Q h A s Z R r z =>
  isTrue_not (hx c fr σ _ h A s _ R r fun b σ2 s2 q g t => z _ σ2 s2 q g t)
theorem gv_if {α : Type} {b : Bool} {t : Bool → Sem α} {P P' : Prop} {Q : α → St → Prop} (h : if b = true then P else P') (h1 : P → GV c fr σ (t true) Q) (h2 : P' → GV c fr σ (t false) Q) : GV c fr σ (t b) Q := by
  cases b with
  | true => exact h1 h
  | false => exact h2 h
theorem snd_ife (ht : ST k t) (ha : SE k a) (hb : SE k b) : SE (k + 1) (.IfExp t a b pos) := fun c fr σ Q h =>
  GV.l2 (t2 := fun v => if v = true then eval a c.env else eval b c.env) (fun A s Z h => wpAny_IfExp (wpAny_mono h (fun v s1 h => by (first | exact nS v | exact nO v | exact nF v | exact nT v | exact nN v | exact nC v | cases v) <;> exact h) fun _ _ x => x)) (ht c fr σ _ h) fun v σ1 h1 =>
    gv_if (t := fun v => if v = true then eval a c.env else eval b c.env) h1 (fun h => ha c fr σ1 _ h) fun h => hb c fr σ1 _ h
theorem tnd_ife (ht : ST k t) (ha : ST k a) (hb : ST k b) : ST (k + 1) (.IfExp t a b pos) := fun c fr σ Q h =>
  GV.l2 (t2 := fun v => if v = true then isTrue a c.env (eval a c.env) else isTrue b c.env (eval b c.env)) (fun A s Z h => isTrue_IfExp (wpAny_mono h (fun v s1 h => by (first | exact nS v | exact nO v | exact nF v | exact nT v | exact nN v | exact nC v | cases v) <;> exact h) fun _ _ x => x)) (ht c fr σ _ h) fun v σ1 h1 =>
    gv_if (t := fun v => if v = true then isTrue a c.env (eval a c.env) else isTrue b c.env (eval b c.env)) h1 (fun h => ha c fr σ1 _ h) fun h => hb c fr σ1 _ h
end

theorem boolOp_one {M : Model} {E : Value → Shared → Prop} {Q : Value → Shared → Prop} {pos : Pos} {op : BoolOp} {x : Sem Value} (h : wpAny M A x Q E s) : wpAny M A (boolOp pos op [x]) Q E s := h
theorem boolOp_more {M : Model} {E : Value → Shared → Prop} {Q : Value → Shared → Prop} {pos : Pos} {op : BoolOp} {x y : Sem Value} {rest : List (Sem Value)}
    (h : wpAny M A x (fun v s1 => wpAny M A (truthy v) (fun t s2 => match op, t with | .And, false | .Or, true => Q v s2 | _, _ => wpAny M A (boolOp pos op (y :: rest)) Q E s2) E s1) E s) :
    wpAny M A (boolOp pos op (x :: y :: rest)) Q E s := by
  rw [boolOp]
  · refine wpAny_bind (wpAny_mono h (fun v s1 h1 => wpAny_bind (wpAny_standAt (wpAny_bind (wpAny_holding (wpAny_mono h1 (fun t s2 h2 => ?_) fun _ _ x => x))))) fun _ _ x => x)
    (first | exact nS op | exact nO op | exact nF op | exact nT op | exact nN op | exact nC op | cases op) <;> (first | exact nS t | exact nO t | exact nF t | exact nT t | exact nN t | exact nC t | cases t) <;> first | exact wpAny_pure h2 | exact h2
  · nofun


theorem snd_and {pos : Pos} : ∀ (vs : List PySem.Expr), (∀ v ∈ vs, SE k v) → ∀ (c : Cx) fr σ Q, vs ≠ [] → c.x (andX (vs.map (er c.gl k c.ns))) fr σ Q → GV c fr σ (boolOp pos .And (evalEach vs c.env)) fun v => Q (ab v)
  | [], _ => fun c fr σ Q hne => absurd rfl hne
  | [e], hs => fun c fr σ Q _ h => GV.to (hs e (.head _) c fr σ Q h) fun _ _ _ => boolOp_one
  | e :: e' :: rest, hs => fun c fr σ Q _ h A s Z R r z => boolOp_more (hs e (.head _) c fr σ _ h A s _ R r fun v σ1 s1 q1 g1 t1 => tru_ok q1 A s1 _ R g1 fun b σ2 s2 q2 g2 t2 => by
    cases b with
    | false => exact z v σ2 s2 q2 g2 (t1.trans t2)
    | true => exact snd_and (e' :: rest) (fun v hv => hs v (.tail _ hv)) c fr σ2 Q nofun q2 A s2 Z R (r.step g2 (t1.trans t2)) fun v σ3 s3 q3 g3 t3 => z v σ3 s3 q3 g3 ((t1.trans t2).trans t3))
theorem snd_or {pos : Pos} : ∀ (vs : List PySem.Expr), (∀ v ∈ vs, SE k v) → ∀ (c : Cx) fr σ Q, c.x (orX (vs.map (er c.gl k c.ns))) fr σ Q → GV c fr σ (boolOp pos .Or (evalEach vs c.env)) fun v => Q (ab v)
  | [], _ => fun c fr σ Q h => h.elim
  | [e], hs => fun c fr σ Q h => GV.to (hs e (.head _) c fr σ Q h) fun _ _ _ => boolOp_one
  | e :: e' :: rest, hs => fun c fr σ Q h A s Z R r z => boolOp_more (hs e (.head _) c fr σ _ h A s _ R r fun v σ1 s1 q1 g1 t1 => tru_ok q1 A s1 _ R g1 fun b σ2 s2 q2 g2 t2 => by
    cases b with
    | true => exact z v σ2 s2 q2 g2 (t1.trans t2)
    | false => exact snd_or (e' :: rest) (fun v hv => hs v (.tail _ hv)) c fr σ2 Q q2 A s2 Z R (r.step g2 (t1.trans t2)) fun v σ3 s3 q3 g3 t3 => z v σ3 s3 q3 g3 ((t1.trans t2).trans t3))
theorem tnd_and {pos : Pos} {wh : Sem Value} : ∀ (vs : List PySem.Expr), (∀ v ∈ vs, ST k v) → ∀ (c : Cx) fr σ Q, c.t (andX (vs.map (er c.gl k c.ns))) fr σ Q → GV c fr σ (isTrue (.BoolOp .And vs pos) c.env wh) Q
  | [], _ => fun c fr σ Q h A s Z R r z => isTrue_and_nil (z.here r.toRelG h)
  | [e], hs => fun c fr σ Q h A s Z R r z => isTrue_and (hs e (.head _) c fr σ Q h A s _ R r fun b σ1 s1 q1 g1 t1 => by
    cases b with
    | false => exact z _ σ1 s1 q1 g1 t1
    | true => exact isTrue_and_nil (z _ σ1 s1 q1 g1 t1))
  | e :: e' :: rest, hs => fun c fr σ Q h A s Z R r z => isTrue_and (hs e (.head _) c fr σ _ h A s _ R r fun b σ1 s1 q1 g1 t1 => by
    cases b with
    | false => exact z _ σ1 s1 q1 g1 t1
    | true => exact tnd_and (e' :: rest) (fun v hv => hs v (.tail _ hv)) c fr σ1 Q q1 A s1 Z R (r.step g1 t1) fun v σ3 s3 q3 g3 t3 => z v σ3 s3 q3 g3 (t1.trans t3))
theorem tnd_or {pos : Pos} {wh : Sem Value} : ∀ (vs : List PySem.Expr), (∀ v ∈ vs, ST k v) → ∀ (c : Cx) fr σ Q, c.t (orX (vs.map (er c.gl k c.ns))) fr σ Q → GV c fr σ (isTrue (.BoolOp .Or vs pos) c.env wh) Q
  | [], _ => fun c fr σ Q h => h.elim
  | [e], hs => fun c fr σ Q h A s Z R r z => isTrue_or (hs e (.head _) c fr σ Q h A s _ R r fun b σ1 s1 q1 g1 t1 => by
    cases b with
    | true => exact z _ σ1 s1 q1 g1 t1
    | false => exact isTrue_or_nil (z _ σ1 s1 q1 g1 t1))
  | e :: e' :: rest, hs => fun c fr σ Q h A s Z R r z => isTrue_or (hs e (.head _) c fr σ _ h A s _ R r fun b σ1 s1 q1 g1 t1 => by
    cases b with
    | true => exact z _ σ1 s1 q1 g1 t1
    | false => exact tnd_or (e' :: rest) (fun v hv => hs v (.tail _ hv)) c fr σ1 Q q1 A s1 Z R (r.step g1 t1) fun v σ3 s3 q3 g3 t3 => z v σ3 s3 q3 g3 (t1.trans t3))
theorem isEmpty_map {α β : Type} {f : α → β} {l : List α} (h : (!(l.map f).isEmpty) = true) : l ≠ [] := by
  rintro rfl; (first | exact nS h | exact nO h | exact nF h | exact nT h | exact nN h | exact nC h | cases h)
theorem snd_bop {op : BoolOp} {vs : List PySem.Expr} {pos : Pos} (hE : ∀ v ∈ vs, SE k v) (hT : ∀ v ∈ vs, ST k v) : SE (k + 1) (.BoolOp op vs pos) ∧ ST (k + 1) (.BoolOp op vs pos) := by
  cases op with
  | And => exact ⟨fun c fr σ Q h => snd_and vs hE c fr σ Q (isEmpty_map (grd_x h).1) (grd_x h).2, fun c fr σ Q h => tnd_and vs hT c fr σ Q (grd_t h).2⟩
  | Or => exact ⟨fun c fr σ Q h => snd_or vs hE c fr σ Q h, fun c fr σ Q h => tnd_or vs hT c fr σ Q h⟩

theorem marks_ok {op : CmpOp} {e : PySem.Expr} (h : noSet e = true) : behindInMarks op e = false := by
  (first | exact nS e | exact nO e | exact nF e | exact nT e | exact nN e | exact nC e | cases e) <;> first | rfl | (first | exact nS h | exact nO h | exact nF h | exact nT h | exact nN h | exact nC h | cases h)
section
variable {l r rs : PySem.Expr} {op op' : CmpOp} {pos : Pos}
theorem cmp1_x (hl : SE k l) (hr : SE k r) (hm : noSet r = true) {Q : V → St → Prop} (h : c.x (.cmp op (er c.gl k c.ns l) (er c.gl k c.ns r)) fr σ Q) : GV c fr σ (eval (.Compare l [op] [r] pos) c.env) fun v => Q (ab v) :=
  GV.l3 (fun _ _ _ h => wpAny_Compare1 h (marks_ok hm)) (hl c fr σ _ h) (fun a σ1 h1 => hr c fr σ1 _ h1) fun a b σ2 h2 => (cmp_ok h2 fun _ _ q => q).gv
theorem cmp1_t (hl : SE k l) (hr : SE k r) (hm : noSet r = true) {wh : Sem Value} {Q : Bool → St → Prop} (h : c.t (.cmp op (er c.gl k c.ns l) (er c.gl k c.ns r)) fr σ Q) : GV c fr σ (isTrue (.Compare l [op] [r] pos) c.env wh) Q := fun A s Z R ρ z =>
  wpAny_isTrue_Compare1 (hl c fr σ _ h A s _ R ρ fun a σ1 s1 q1 g1 t1 => hr c fr σ1 _ q1 A s1 _ R (ρ.step g1 t1) fun b σ2 s2 q2 g2 t2 => cmp_ok (Q := fun v σ' => truW (ab v) σ' Q) q2 (fun _ _ q => q) A s2 _ R g2 fun v σ3 s3 q3 g3 t3 => tru_ok q3 A s3 _ R g3 fun b σ4 s4 q4 g4 t4 =>
    z b σ4 s4 q4 g4 (((t1.trans t2).trans t3).trans t4)) (marks_ok hm)
theorem marked2 {env : Env} (h : noSet rs = true) : markedEach [op, op'] [r, rs] (evalEach [r, rs] env) = [eval r env, eval rs env] := by
  show [eval r env, markedBehindIn op' rs (eval rs env)] = _
  rw [markedBehindIn_of_false (marks_ok h)]
theorem chain2 {a : Value} {x y : Sem Value} : compareChain pos a [op, op'] [x, y] = (do
    let b ← holding [a] x
    standAt pos
    let v ← holding [a, b] (compareOp op a b)
    release [a, b] [v]
    if ← holding [v, b] (truthy v) then (do
      let d ← holding [b] y
      standAt pos
      operate [b, d] (compareOp op' b d)) else pure v) := rfl
theorem test2 {a : Value} {x y : Sem Value} : testChain pos a [op, op'] [x, y] = (do
    let b ← holding [a] x
    standAt pos
    let v ← holding [a, b] (compareOp op a b)
    release [a, b] [v]
    if ← holding [v, b] (truthy v) then (do
      let d ← holding [b] y
      standAt pos
      let v ← operate [b, d] (compareOp op' b d)
      holding [v] (truthy v)) else pure false) := rfl
/-- the second link of a chain -/
noncomputable def link (pos : Pos) (op : CmpOp) (b : Value) (y : Sem Value) : Sem Value := do
  let d ← holding [b] y
  standAt pos
  operate [b, d] (compareOp op b d)
theorem link_ok {b : Value} {Q : Value → St → Prop} {P : Bool → St → Prop} (hs : SE k rs) (h : c.x (er c.gl k c.ns rs) fr σ fun d σ4 => cmpW op (ab b) d σ4 P) (m : ∀ b σ', P b σ' → Q (.bool b) σ') : GV c fr σ (link pos op b (eval rs c.env)) Q :=
  GV.bind (GV.hold (hs c fr σ _ h)) fun d σ1 h1 => GV.stand (GV.op (cmp_ok h1 m).gv)
theorem cmp_b {va vb : Value} {B : Bool → St → Prop} (h : cmpW op (ab va) (ab vb) σ B) : HV W n σ (compareOp op va vb) fun v σ' => ∃ x, v = .bool x ∧ B x σ' := cmp_ok h fun x σ' q => ⟨x, rfl, q⟩
theorem cmp2_x (hl : SE k l) (hr : SE k r) (hs : SE k rs) (hm : noSet rs = true) {Q : V → St → Prop} (h : c.x (.cmp2 op op' (er c.gl k c.ns l) (er c.gl k c.ns r) (er c.gl k c.ns rs)) fr σ Q) : GV c fr σ (eval (.Compare l [op, op'] [r, rs] pos) c.env) fun v => Q (ab v) := by
  show GV c fr σ (eval l c.env >>= fun a => compareChain pos a [op, op'] (markedEach [op, op'] [r, rs] (evalEach [r, rs] c.env))) _
  rw [marked2 hm]
  refine GV.bind (hl c fr σ _ h) fun a σ1 h1 => ?_
  rw [chain2]
  refine GV.bind (GV.hold (hr c fr σ1 _ h1)) fun b σ2 h2 => GV.stand (GV.bind (GV.hold (cmp_b h2).gv) fun v σ3 h3 => GV.rel ?_)
  obtain ⟨x, rfl, h3⟩ := h3
  refine GV.bind (GV.hold (tru_ok (va := .bool x) (B := fun y σ' => y = x ∧ σ' = σ3) ⟨rfl, rfl⟩).gv) fun y σ4 e => ?_
  obtain ⟨rfl, rfl⟩ := e
  exact gv_if (t := fun y => if y = true then link pos op' b (eval rs c.env) else pure (.bool y)) h3 (fun h => link_ok hs h fun _ _ q => q) fun h => GV.pure h
theorem cmp2_t (hl : SE k l) (hr : SE k r) (hs : SE k rs) (hm : noSet rs = true) {wh : Sem Value} {Q : Bool → St → Prop} (h : c.t (.cmp2 op op' (er c.gl k c.ns l) (er c.gl k c.ns r) (er c.gl k c.ns rs)) fr σ Q) : GV c fr σ (isTrue (.Compare l [op, op'] [r, rs] pos) c.env wh) Q := by
  show GV c fr σ (eval l c.env >>= fun a => testChain pos a [op, op'] (markedEach [op, op'] [r, rs] (evalEach [r, rs] c.env))) _
  rw [marked2 hm]
  refine GV.bind (hl c fr σ _ h) fun a σ1 h1 => ?_
  rw [test2]
  refine GV.bind (GV.hold (hr c fr σ1 _ h1)) fun b σ2 h2 => GV.stand (GV.bind (GV.hold (cmp_b h2).gv) fun v σ3 h3 => GV.rel ?_)
  obtain ⟨x, rfl, h3⟩ := h3
  refine GV.bind (GV.hold (tru_ok (va := .bool x) (B := fun y σ' => y = x ∧ σ' = σ3) ⟨rfl, rfl⟩).gv) fun y σ4 e => ?_
  obtain ⟨rfl, rfl⟩ := e
  exact gv_if (t := fun y => if y = true then (do let d ← holding [b] (eval rs c.env); standAt pos; let v ← operate [b, d] (compareOp op' b d); holding [v] (truthy v)) else pure false) h3
    (fun h => GV.bind (GV.hold (hs c fr σ4 _ h)) fun d σ5 h5 => GV.stand (GV.bind (GV.op (cmp_ok (Q := fun v σ' => truW (ab v) σ' Q) h5 fun _ _ q => q).gv) fun v σ6 h6 => GV.hold (tru_ok h6).gv)) fun h => GV.pure h
end
theorem snd_cmps {l : PySem.Expr} {ops : List CmpOp} {rs : List PySem.Expr} {p : Pos} (hl : SE k l) (hR : ∀ r ∈ rs, SE k r) : SE (k + 1) (.Compare l ops rs p) ∧ ST (k + 1) (.Compare l ops rs p) := by
  rcases ops with _ | ⟨op, ops⟩
  · exact ⟨fun c fr σ Q h => (grd_x h).2.elim, fun c fr σ Q h => (grd_t h).2.elim⟩
  rcases rs with _ | ⟨r, rs⟩
  · exact ⟨fun c fr σ Q h => h.elim, fun c fr σ Q h => h.elim⟩
  have hr := hR r (.head _)
  rcases ops with _ | ⟨op', ops⟩
  · rcases rs with _ | ⟨r', rs⟩
    · exact ⟨fun c fr σ Q h => cmp1_x hl hr (Bool.and_eq_true_iff.mp (grd_x h).1).1 (grd_x h).2, fun c fr σ Q h => cmp1_t hl hr (Bool.and_eq_true_iff.mp (grd_t h).1).1 (grd_t h).2⟩
    · exact ⟨fun c fr σ Q h => (grd_x h).2.elim, fun c fr σ Q h => (grd_t h).2.elim⟩
  · rcases ops with _ | ⟨_, _⟩
    · rcases rs with _ | ⟨r', rs⟩
      · exact ⟨fun c fr σ Q h => (grd_x h).2.elim, fun c fr σ Q h => (grd_t h).2.elim⟩
      have hr' := hR r' (.tail _ (.head _))
      rcases rs with _ | ⟨_, _⟩
      · exact ⟨fun c fr σ Q h => cmp2_x hl hr hr' (Bool.and_eq_true_iff.mp (Bool.and_eq_true_iff.mp (grd_x h).1).2).1 (grd_x h).2, fun c fr σ Q h => cmp2_t hl hr hr' (Bool.and_eq_true_iff.mp (Bool.and_eq_true_iff.mp (grd_t h).1).2).1 (grd_t h).2⟩
      · exact ⟨fun c fr σ Q h => (grd_x h).2.elim, fun c fr σ Q h => (grd_t h).2.elim⟩
    · exact ⟨fun c fr σ Q h => (grd_x h).2.elim, fun c fr σ Q h => (grd_t h).2.elim⟩
end Mine

end
section -- B7
namespace Mine
variable {W : Wd} {n k : Nat} {c : Cx} {fr : List V} {σ : St} {A : Around} {s : Shared}

theorem GV.m2 {α β γ : Type} {t1 : Sem α} {t2 : α → Sem β} {t : Sem γ} {f : α → β → γ} {Q1 : α → St → Prop} {Q : γ → St → Prop} (L : ∀ A s Z, wpAny c.W.M A t1 (fun a s1 => wpAny c.W.M A (t2 a) (fun b s2 => Z (f a b) s2) NoE s1) NoE s → wpAny c.W.M A t Z NoE s)
    (h1 : GV c fr σ t1 Q1) (h2 : ∀ a σ1, Q1 a σ1 → GV c fr σ1 (t2 a) fun b => Q (f a b)) : GV c fr σ t Q :=
  fun A s Z R r z => L A s Z (h1 A s _ R r fun a σ1 s1 q g t => h2 a σ1 q A s1 _ R (r.step g t) fun b σ2 s2 q' g' t' => z _ σ2 s2 q' g' (t.trans t'))
theorem star_cons {pos : Pos} {env : Env} {e : PySem.Expr} {r : List PySem.Expr} (h : plainE e = true) : backTo pos (starEach (e :: r) env) = (false, eval e env) :: backTo pos (starEach r env) := by
  (first | exact nS e | exact nO e | exact nF e | exact nT e | exact nN e | exact nC e | cases e) <;> first | rfl | (first | exact nS h | exact nO h | exact nF h | exact nT h | exact nN h | exact nC h | cases h)
theorem snd_args {pos : Pos} : ∀ (es : List PySem.Expr), (∀ e ∈ es, SE k e) → ∀ (c : Cx) fr σ Q, es.all plainE = true → c.l (xl (es.map (er c.gl k c.ns))) fr σ Q → GV c fr σ (spliced (backTo pos (starEach es c.env))) fun vs => Q (vs.map ab)
  | [], _ => fun c fr σ Q _ h A s Z R r z => Calls.spliced_nil (z.here r.toRelG h)
  | e :: rest, hs => fun c fr σ Q hp h => by
    obtain ⟨h1, h2⟩ := Bool.and_eq_true_iff.mp hp
    rw [star_cons h1]
    exact GV.m2 (fun _ _ _ => Calls.spliced_cons) (hs e (.head _) c fr σ _ h) fun v σ1 q => snd_args rest (fun v hv => hs v (.tail _ hv)) c fr σ1 _ h2 q
theorem snd_list {es : List PySem.Expr} {pos : Pos} (hs : ∀ e ∈ es, SE k e) : SE (k + 1) (.List es pos) := fun c fr σ Q h A s Z R r z => by
  obtain ⟨hp, h⟩ := grd_x h
  refine wpAny_List_spliced (snd_args es hs c fr σ _ hp h A s _ R r fun vs σ1 s1 q g t => ?_)
  have hz : vs.length ≤ lim := by rw [← List.length_map (f := ab)]; exact q.1
  exact ⟨Nat.le_trans hz lim_le, Ends.alloc (fun a σ2 s2 q2 g2 t2 => z a σ2 s2 q2 g2 (t.trans t2)) g (objR_newList _ _ hz) (q.2 _)⟩
theorem snd_tuple {es : List PySem.Expr} {i : Nat} {pos : Pos} (hs : ∀ e ∈ es, SE k e) : SE (k + 1) (.Tuple es i pos) := fun c fr σ Q h A s Z R r z => by
  obtain ⟨hp, h⟩ := grd_x h
  refine wpAny_Tuple_spliced (snd_args es hs c fr σ _ hp h A s _ R r fun vs σ1 s1 q g t => ?_)
  have hz : vs.length ≤ lim := by rw [← List.length_map (f := ab)]; exact q.1
  exact ⟨Nat.le_trans hz lim_le, Ends.alloc (fun a σ2 s2 q2 g2 t2 => z a σ2 s2 q2 g2 (t.trans t2)) g (objR_newTuple _ _ hz) (q.2 _)⟩
theorem noTr_list {es : List PySem.Expr} {pos : Pos} (gl : Str → Option V) (ns : List (Str × NameKind)) : noTr (er gl (k + 1) ns (.List es pos)) = true := noTr_grd rfl
theorem noTr_tuple {es : List PySem.Expr} {i : Nat} {pos : Pos} (gl : Str → Option V) (ns : List (Str × NameKind)) : noTr (er gl (k + 1) ns (.Tuple es i pos)) = true := noTr_grd rfl

theorem idx_ok {k : Int} {m : Nat} (h : idxOk k m) : seqIndex? k m = some (idx k m) ∧ idx k m < m := by
  unfold idxOk at h
  unfold seqIndex? idx
  constructor
  · by_cases hk : k < 0
    · simp only [hk, if_true]; rw [if_pos (by simp only [Bool.and_eq_true, decide_eq_true_eq]; (first | assumption | exact q1 ‹_› | exact q2 ‹_› ‹_› | exact q3 ‹_› ‹_› | exact q4 ‹_› ‹_› | exact q5 ‹_› | exact q6 ‹_› | lia | omega))]
    · simp only [hk, if_false]; rw [if_pos (by simp only [Bool.and_eq_true, decide_eq_true_eq]; (first | assumption | exact q1 ‹_› | exact q2 ‹_› ‹_› | exact q3 ‹_› ‹_› | exact q4 ‹_› ‹_› | exact q5 ‹_› | exact q6 ‹_› | lia | omega))]
  · split <;> (first | assumption | exact q1 ‹_› | exact q2 ‹_› ‹_› | exact q3 ‹_› ‹_› | exact q4 ‹_› ‹_› | exact q5 ‹_› | exact q6 ‹_› | lia | omega)
theorem nth_map {items : List Value} {k : Nat} {x : Value} (h : items[k]? = some x) : nth (items.map ab) k = ab x := by
  rw [nth_eq, List.getD_eq_getElem?_getD, List.getElem?_map, h]; rfl

theorem item_ok {a : Addr} {i : Int} {t : Tok} {items : Array Value} {M : Program} {w : World} {E : Value → Shared → Prop} {Q : Value → Shared → Prop} (hl : s.heap.IsList a items ∨ IsTup s.heap a items) (hz : items.size ≤ lim) (hk : idxOk i items.size) (q : ∀ v, items[idx i items.size]? = some v → Q v s) : wpAny (model M w) A (getItem (.ref a) (.int i t)) Q E s := by
  obtain ⟨h1, h2⟩ := idx_ok hk
  have hx : items[idx i items.size]? = some items[idx i items.size] := Array.getElem?_eq_getElem h2
  replace q := q _ hx
  have hk' := hk
  unfold idxOk at hk'
  have hlm : items.size ≤ 1000000 := hz
  rcases hl with hl | hl
  · by_cases hneg : i < 0
    · have e : idx i items.size = (i + items.size).toNat := by unfold idx; rw [if_pos hneg]
      exact wpAny_getItem_list_neg hl hneg hk'.1 (by (first | assumption | exact q1 ‹_› | exact q2 ‹_› ‹_› | exact q3 ‹_› ‹_› | exact q4 ‹_› ‹_› | exact q5 ‹_› | exact q6 ‹_› | lia | omega)) (by rw [← e]; exact hx) q
    · have e : idx i items.size = i.toNat := by unfold idx; rw [if_neg hneg]
      exact wpAny_getItem_list hl (by (first | assumption | exact q1 ‹_› | exact q2 ‹_› ‹_› | exact q3 ‹_› ‹_› | exact q4 ‹_› ‹_› | exact q5 ‹_› | exact q6 ‹_› | lia | omega)) (by (first | assumption | exact q1 ‹_› | exact q2 ‹_› ‹_› | exact q3 ‹_› ‹_› | exact q4 ‹_› ‹_› | exact q5 ‹_› | exact q6 ‹_› | lia | omega)) (by rw [← e]; exact hx) q
  · exact getItem_tuple hl (by (first | assumption | exact q1 ‹_› | exact q2 ‹_› ‹_› | exact q3 ‹_› ‹_› | exact q4 ‹_› ‹_› | exact q5 ‹_› | exact q6 ‹_› | lia | omega)) (by (first | assumption | exact q1 ‹_› | exact q2 ‹_› ‹_› | exact q3 ‹_› ‹_› | exact q4 ‹_› ‹_› | exact q5 ‹_› | exact q6 ‹_› | lia | omega)) h1 hx q
theorem getitem_py {M : Model} {E : Value → Shared → Prop} {a : Addr} {items : Array Value} {Q : Bool → Shared → Prop} (hl : s.heap.IsList a items ∨ IsTup s.heap a items) (h : Q false s) : wpAny M A (getitemInPython (.ref a)) Q E s := by
  rw [getitemInPython_of_ne (by intro h; (first | exact nS h | exact nO h | exact nF h | exact nT h | exact nN h | exact nC h | cases h))]
  rcases hl with hl | hl
  · exact wpAny_bind (wpAny_specialOf hl.typeIs slot_list_getitem.lookup (wpAny_pure h))
  · exact wpAny_bind (wpAny_specialOf hl.typeIs slot_tuple_getitem.lookup (wpAny_pure h))
theorem subscripted_ok {M : Model} {E : Value → Shared → Prop} {e : PySem.Expr} {o i : Value} {Q : Value → Shared → Prop} (h : wpAny M A (getItem o i) Q E s) : wpAny M A (subscripted e false o i) Q E s := by
  unfold subscripted
  cases e with
  | Slice lo hi st p => (first | exact nS st | exact nO st | exact nF st | exact nT st | exact nN st | exact nC st | cases st) <;> exact wpAny_operating h
  | _ => exact wpAny_operating h
/-- what stands behind the values of a subscript -/
noncomputable def subTail (o i : PySem.Expr) (pos : Pos) (ov iv : Value) : Sem Value := do
  standAt pos
  let r ← subscripted i (← getitemInPython ov) ov iv
  letTemporaryGo o ov r
  pure r
section
variable {prog : Program} {w : World} {E : Value → Shared → Prop}
end
theorem item_seq {o i : PySem.Expr} {pos : Pos} {a : Addr} {j : Int} {t : Tok} {xs : List V} {Q : V → St → Prop} (hs : ∀ s, RelG W.H σ s → SeqOf s a xs) (h : idxOk j xs.length ∧ Q (nth xs (idx j xs.length)) σ) : HV W n σ (subTail o i pos (.ref a) (.int j t)) fun v => Q (ab v) := fun A s Z R r z => by
  obtain ⟨items, hl, hz, hx⟩ := hs s r
  subst hx
  rw [List.length_map, Array.length_toList] at h
  refine wpAny_bind (wpAny_standAt (wpAny_bind (getitem_py hl (wpAny_bind (subscripted_ok (item_ok hl hz h.1 fun v hv => wpAny_bind (wpAny_letTemporaryGo (wpAny_pure (z.here r ?_)))))))))
  rw [nth_map (x := v) (by rw [← Array.getElem?_toList] at hv; exact hv)] at h
  exact h.2
theorem sub_int_ok {o i : PySem.Expr} {pos : Pos} {ov iv : Value} {Q : V → St → Prop} (h : subW (ab ov) (ab iv) σ Q) : HV W n σ (subTail o i pos ov iv) fun v => Q (ab v) := by
  cases iv with
  | int j t =>
    refine ref_on (G := fun v => HV W n σ (subTail o i pos v (.int j t)) fun v => Q (ab v)) h fun a ob e h => ?_
    cases ob with
    | lst xs => exact item_seq (fun s r => seqAt r e rfl) h
    | ro xs => exact item_seq (fun s r => seqAt r e rfl) h
    | tup xs => exact item_seq (fun s r => seqAt r e rfl) h
    | _ => exact h.elim
  | _ => exact h.elim
theorem snd_subi {o i : PySem.Expr} {pos : Pos} (ho : SE k o) (hi : SE k i) {Q : V → St → Prop} (h : c.x (.sub (er c.gl k c.ns o) (er c.gl k c.ns i)) fr σ Q) : GV c fr σ (eval (.Subscript o i pos) c.env) fun v => Q (ab v) := by
  rw [eval_Subscript]
  exact GV.bind (ho c fr σ _ h) fun ov σ1 h1 => GV.bind (GV.hold (hi c fr σ1 _ h1)) fun iv σ2 h2 => (sub_int_ok (o := o) (i := i) (pos := pos) h2).gv
theorem clampI (x : Int) (m : Nat) : (if (1 : Int) > 0 then max 0 (min (if x < 0 then x + (m : Int) else x) m) else max (-1) (min (if x < 0 then x + (m : Int) else x) (m - 1))) = (((if x < 0 then max 0 (x + (m : Int)) else min x m).toNat : Nat) : Int) := by
  rw [if_pos (by decide)]
  have hm : (0 : Int) ≤ m := Int.natCast_nonneg m
  by_cases h : x < 0
  · rw [if_pos h, if_pos h, Int.toNat_of_nonneg (Int.le_max_left ..), Int.min_eq_left (Int.le_trans (Int.add_le_add_right (Int.le_of_lt h) _) (Int.le_of_eq (Int.zero_add _)))]
  · have h0 := Int.not_lt.mp h
    rw [if_neg h, if_neg h, Int.toNat_of_nonneg (Int.le_min.mpr ⟨h0, hm⟩), Int.max_eq_right (Int.le_min.mpr ⟨h0, hm⟩)]
theorem bounds_up (lo hi : Option Int) (m : Nat) : sliceBounds lo hi none m = (((slB lo 0 m : Nat) : Int), ((slB hi m m : Nat) : Int), 1) := by
  unfold sliceBounds slB
  simp only [Option.getD_none]
  refine Prod.ext ?_ (Prod.ext ?_ rfl)
  · cases lo with
    | none => simp
    | some x => exact clampI x m
  · cases hi with
    | none => simp
    | some x => exact clampI x m
theorem slicePick_up (items : Array Value) (lo hi : Option Int) : (slicePick items lo hi none).toList.map ab = pick (items.toList.map ab) lo hi := by
  rw [kmk_pick_nat items (bounds_up lo hi items.size)]
  unfold pick
  simp [List.map_take, List.map_drop]
theorem part_on {v : Value} {K : Option Int → Prop} (h : partW (ab v) K) : ∃ o, IsPart v o ∧ K o := by
  cases v with
  | none => exact ⟨none, .none, h⟩
  | int i t => exact ⟨some i, .int i t, h⟩
  | _ => exact h.elim
/-- one part of a slice -/
noncomputable def opX (gl : Str → Option V) (k : Nat) (ns : List (Str × NameKind)) (o : Option PySem.Expr) : X := match o with
  | none => .con .none
  | some e => er gl k ns e
theorem part_ok {e : Option PySem.Expr} (he : ∀ x ∈ e, SE k x) {Q : V → St → Prop} (h : c.x (opX c.gl k c.ns e) fr σ Q) : GV c fr σ (valueOrNone (evalOpt e c.env)) fun v => Q (ab v) := by
  cases e with
  | none => exact GV.pure h
  | some x => exact he x rfl c fr σ Q h
/-- a slice is made and read -/
noncomputable def SlV (W : Wd) (n : Nat) (σ : St) (o i : PySem.Expr) (pos : Pos) (ov lv hv sv : Value) (Q : V → St → Prop) : Prop :=
  ∀ A s Z, Room n A → RelG W.H σ s → Ends W.H σ s (fun v => Q (ab v)) Z → wpAny W.M A (newFields "slice" [lv, hv, sv]) (fun iv s1 => wpAny W.M A (subTail o i pos ov iv) Z NoE s1) NoE s
theorem slice_new {o i : PySem.Expr} {pos : Pos} {a : Addr} {lv hv sv : Value} {xs ys : List V} {l u st : Option Int} {Q : V → St → Prop} (hx : ∀ s, RelG W.H σ s → LstAt s a xs) (pl : IsPart lv l) (pu : IsPart hv u) (ps : IsPart sv st) (h0 : st ≠ some 0)
    (hy : ∀ items : Array Value, items.toList.map ab = xs → (slicePick items l u st).toList.map ab = ys) (q : alW σ (.lst ys) Q) : SlV W n σ o i pos (.ref a) lv hv sv Q := fun A s Z R r z => by
  obtain ⟨items, hl, hz, e⟩ := hx s r
  refine wpAny_newObj_type ?_
  have hl' : ({ s with heap := s.heap.push { cls := .type "slice", data := .fields #[lv, hv, sv] } } : Shared).heap.IsList a items := hl.push _
  have k' : ∀ b o, s.heap.get? b = some o → (s.heap.push { cls := .type "slice", data := .fields #[lv, hv, sv] }).get? b = some o := fun _ _ e => Heap.get?_push_of_some _ e
  have r' : RelG W.H σ { s with heap := s.heap.push { cls := .type "slice", data := .fields #[lv, hv, sv] } } := r.ext k'
  have t' : Stp No σ s σ { s with heap := s.heap.push { cls := .type "slice", data := .fields #[lv, hv, sv] } } := .ext k' ⟨_, _, rfl⟩
  refine wpAny_bind (wpAny_standAt (wpAny_bind (getitem_py (.inl hl') (wpAny_bind (subscripted_ok (wpAny_getItem_list_slice hl' (Heap.IsSliceOf.new ..) pl pu ps h0 (wpAny_bind (wpAny_letTemporaryGo (wpAny_pure ?_))) (Nat.le_trans hz lim_le)))))))
  have e2 : slicePick items l u st = ((slicePick items l u st).toList).toArray := rfl
  rw [e2]
  refine Ends.alloc (fun a σ2 s2 q2 g2 t2 => z a σ2 s2 q2 g2 (t'.trans t2)) r' (objR_newList _ _ (Nat.le_trans (slicePick_size_le items l u st) hz)) ?_
  rw [hy items e]; exact q _
theorem slice_ok {o i : PySem.Expr} {pos : Pos} {ov lv hv sv : Value} {Q : V → St → Prop} (h : slW (ab ov) (ab lv) (ab hv) (ab sv) σ Q) : SlV W n σ o i pos ov lv hv sv Q :=
  litems_on (G := fun v => SlV W n σ o i pos v lv hv sv Q) h fun a ob xs e e2 h => by
    obtain ⟨l, pl, h1⟩ := part_on h
    obtain ⟨u, pu, h2⟩ := part_on h1
    clear h h1
    cases sv with
    | none => exact slice_new (fun s r => lstAt r e e2) pl pu .none nofun (fun items e => by rw [← e]; exact slicePick_up items l u) h2
    | _ => exact h2.elim
theorem snd_slice {o : PySem.Expr} {lo hi st : Option PySem.Expr} {p pos : Pos} (ho : SE k o) (hlo : ∀ x ∈ lo, SE k x) (hhi : ∀ x ∈ hi, SE k x) (hst : ∀ x ∈ st, SE k x) : SE (k + 1) (.Subscript o (.Slice lo hi st p) pos) := fun c fr σ Q h => by
  rw [eval_Subscript]
  refine GV.bind (ho c fr σ _ h) fun ov σ1 h1 => ?_
  rw [arm_eval_Slice]
  exact fun A s Z R r z => wpAny_bind (wpAny_holding (wpAny_bind (part_ok hlo h1 A s _ R r fun lv σ2 s2 q2 g2 t2 => wpAny_bind (wpAny_holding (part_ok hhi q2 A s2 _ R (r.step g2 t2) fun hv σ3 s3 q3 g3 t3 =>
    wpAny_bind (wpAny_holding (part_ok hst q3 A s3 _ R ((r.step g2 t2).step g3 t3) fun sv σ4 s4 q4 g4 t4 => slice_ok q4 A s4 Z R g4 fun v σ5 s5 q5 g5 t5 => z v σ5 s5 q5 g5 (((t2.trans t3).trans t4).trans t5))))))))
end Mine

end
section -- B8
namespace Mine
variable {W : Wd} {n k : Nat} {c : Cx} {fr : List V} {σ : St} {A : Around} {s : Shared}

theorem ins_perm (x : Int) : ∀ l, (ins x l).Perm (x :: l)
  | [] => .refl _
  | y :: r => by
    unfold ins; split
    · exact .refl _
    · exact ((ins_perm x r).cons y).trans (.swap x y r)
theorem isort_perm : ∀ l, (isort l).Perm l
  | [] => .refl _
  | x :: r => (ins_perm x _).trans ((isort_perm r).cons x)
theorem ins_sorted (x : Int) : ∀ {l : List Int}, l.Pairwise (· ≤ ·) → (ins x l).Pairwise (· ≤ ·)
  | [], _ => by simp [ins]
  | y :: r, h => by
    have h' := List.pairwise_cons.mp h
    unfold ins; split
    · rename_i hxy
      refine List.pairwise_cons.mpr ⟨fun z hz => ?_, h⟩
      rcases List.mem_cons.mp hz with rfl | hz
      · exact hxy
      · exact Int.le_trans hxy (h'.1 z hz)
    · rename_i hxy
      refine List.pairwise_cons.mpr ⟨fun z hz => ?_, ins_sorted x h'.2⟩
      rcases List.mem_cons.mp ((ins_perm x r).mem_iff.mp hz) with rfl | hz
      · (first | assumption | exact q1 ‹_› | exact q2 ‹_› ‹_› | exact q3 ‹_› ‹_› | exact q4 ‹_› ‹_› | exact q5 ‹_› | exact q6 ‹_› | lia | omega)
      · exact h'.1 z hz
theorem isort_sorted : ∀ l, (isort l).Pairwise (· ≤ ·)
  | [] => .nil
  | x :: r => ins_sorted x (isort_sorted r)
theorem sorted_unique : ∀ {a b : List Int}, a.Perm b → a.Pairwise (· ≤ ·) → b.Pairwise (· ≤ ·) → a = b
  | [], b, p, _, _ => (List.nil_perm.mp p).symm
  | x :: r, [], p, _, _ => absurd p.length_eq (by simp)
  | x :: r, y :: q, p, ha, hb => by
    have h1 := List.pairwise_cons.mp ha
    have h2 := List.pairwise_cons.mp hb
    have e : x = y := by
      have hx : x ∈ y :: q := p.mem_iff.mp (by simp)
      have hy : y ∈ x :: r := p.mem_iff.mpr (by simp)
      rcases List.mem_cons.mp hx with e | hx
      · exact e
      · rcases List.mem_cons.mp hy with e | hy
        · exact e.symm
        · have := h1.1 y hy; have := h2.1 x hx; (first | assumption | exact q1 ‹_› | exact q2 ‹_› ‹_› | exact q3 ‹_› ‹_› | exact q4 ‹_› ‹_› | exact q5 ‹_› | exact q6 ‹_› | lia | omega)
    subst e
    rw [sorted_unique (p.cons_inv) h1.2 h2.2]
theorem isort_length (l : List Int) : (isort l).length = l.length := (isort_perm l).length_eq
theorem isort_eq_of {a l : List Int} (p : a.Perm l) (h : a.Pairwise (· ≤ ·)) : a = isort l := sorted_unique (p.trans (isort_perm l).symm) h (isort_sorted l)


theorem objR_rng (h : Heap) (a b c : Int) (t u v : Tok) : ObjR (h.push { cls := .type "range", data := .fields #[.int a t, .int b u, .int c v] }) h.objs.size (.rng a b c) := ⟨t, u, v, IsRange.new ..⟩
noncomputable def BiV (W : Wd) (n : Nat) (σ : St) (b : Bi) (Q : V → St → Prop) (vs : List Value) : Prop := HV W n σ (call (biV b) vs) fun v => Q (ab v)
section
variable {Q : V → St → Prop} {vs : List Value}
/-- ints, in the heap -/
theorem intsAt {a : Addr} {o : O} {ns : List Int} {H : Heap} (r : RelG H σ s) (e : σ a = some o) (h : o.litems = some (ivs ns)) : ∃ items : Array Value, s.heap.IsList a items ∧ items.size ≤ lim ∧ IntsAre items.toList ns := by
  obtain ⟨items, hl, hz, hx⟩ := lstAt r e h
  exact ⟨items, hl, hz, intsAre_of hx⟩
theorem len_seq {a : Addr} {xs : List V} (hs : ∀ s, RelG W.H σ s → SeqOf s a xs) (h : Q (.int xs.length) σ) : BiV W n σ .len Q [.ref a] := fun A s Z R r z => by
  obtain ⟨items, hl, hz, hx⟩ := hs s r
  have hlm : (items.size : Int) < 2 ^ 63 := by have : items.size ≤ 1000000 := hz; (first | assumption | exact q1 ‹_› | exact q2 ‹_› ‹_› | exact q3 ‹_› ‹_› | exact q4 ‹_› ‹_› | exact q5 ‹_› | exact q6 ‹_› | omega)
  rw [← hx, List.length_map, Array.length_toList] at h
  rcases hl with hl | hl
  · exact Calls.call_len_list hl (by (first | assumption | exact q1 ‹_› | exact q2 ‹_› ‹_› | exact q3 ‹_› ‹_› | exact q4 ‹_› ‹_› | exact q5 ‹_› | exact q6 ‹_› | omega)) (z.tok r h)
  · exact len_tuple hl (by (first | assumption | exact q1 ‹_› | exact q2 ‹_› ‹_› | exact q3 ‹_› ‹_› | exact q4 ‹_› ‹_› | exact q5 ‹_› | exact q6 ‹_› | omega)) (z.tok r h)
theorem len_ok (h : biW .len (vs.map ab) σ Q) : BiV W n σ .len Q vs :=
  one_on (G := BiV W n σ .len Q) h fun v h => ref_on (G := fun v => BiV W n σ .len Q [v]) h fun a o e h => by
    cases o with
    | lst xs => exact len_seq (fun s r => seqAt r e rfl) h
    | ro xs => exact len_seq (fun s r => seqAt r e rfl) h
    | tup xs => exact len_seq (fun s r => seqAt r e rfl) h
    | _ => exact h.elim
theorem sorted_ok (h : biW .sorted (vs.map ab) σ Q) : BiV W n σ .sorted Q vs :=
  one_on (G := BiV W n σ .sorted Q) h fun v h => lints_on (G := fun v => BiV W n σ .sorted Q [v]) h fun a o ns e e2 h A s Z R r z => by
    obtain ⟨items, hl, hz, hi⟩ := intsAt r e e2
    refine sorted_any (vs := items.toList) hl hi (Nat.le_trans hz lim_le) fun out ns' a1 a2 a3 => ?_
    obtain ⟨e1, he⟩ := sortedAll_at s.heap items.toList out
    refine z.new (x := .lst (ivs (isort ns))) (t := s.toks) r (fun _ _ => sortedAll_old) ?_ ⟨out, ⟨e1, he⟩, ?_, ?_⟩ (h _)
    · cases q : s.heap.get? (s.heap.objs.size + 1) with
      | none => rfl
      | some o => exact absurd (Heap.lt_size q) (Nat.not_lt.mpr (Nat.le_succ _))
    · rw [intsAre_ab a1, isort_eq_of a2 a3]
    · rw [ivs, List.length_map, isort_length, ← hi.length]; exact hz
theorem range_ok (h : biW .range (vs.map ab) σ Q) : BiV W n σ .range Q vs := by
  rcases vs with _ | ⟨v, vs⟩
  · exact h.elim
  refine asI_on (G := fun v => BiV W n σ .range Q (v :: vs)) (show asI (ab v) _ from h) fun i t h => ?_
  rcases vs with _ | ⟨v', vs⟩
  · exact fun A s Z R r z => call_range_1 (z.alloc r (objR_rng ..) (h.2 _))
  refine asI_on (G := fun v' => BiV W n σ .range Q (.int i t :: v' :: vs)) (show asI (ab v') _ from h) fun j u h => ?_
  rcases vs with _ | ⟨v'', vs⟩
  · exact fun A s Z R r z => call_range_2 (z.alloc r (objR_rng ..) (h.2.2 _))
  refine asI_on (G := fun v'' => BiV W n σ .range Q (.int i t :: .int j u :: v'' :: vs)) (show asI (ab v'') _ from h) fun l w h => ?_
  rcases vs with _ | ⟨_, _⟩
  · obtain ⟨h1, h2, h3, h⟩ := h
    exact fun A s Z R r z => call_range_3 (by rcases h3 with rfl | rfl <;> decide) (z.alloc (t := s.toks) r (objR_rng ..) (h _)) (.inl (PyProof.noPylong_small (by rcases h3 with rfl | rfl <;> decide)))
  · exact h.elim
theorem numsAt {items : Array Value} {ns : List Int} (hi : IntsAre items.toList ns) : ∃ xs : Array (Int × Tok), items = intItems xs ∧ ns = xs.toList.map (·.1) := by
  obtain ⟨xs, ex⟩ := hi.allInts.items
  exact ⟨xs, ex, by rw [← hi.numsOf, ← nums_intItems, ← ex]⟩
theorem sum_ok (h : biW .sum (vs.map ab) σ Q) : BiV W n σ .sum Q vs :=
  one_on (G := BiV W n σ .sum Q) h fun v h => lints_on (G := fun v => BiV W n σ .sum Q [v]) h fun a o ns e e2 h A s Z R r z => by
    obtain ⟨items, hl, hz, hi⟩ := intsAt r e e2
    obtain ⟨xs, ex, hns⟩ := numsAt hi
    rw [ex] at hl
    refine sum_intListG R.handled hl fun h' tk t' hk => z.ext r hk ?_
    rw [preSum_eq, List.take_of_length_le (by rw [List.length_map, Array.length_toList]; exact Nat.le_refl _), ← hns]; exact h
theorem asF_on {G : Value → Prop} {va : Value} {K : UInt64 → Prop} (h : asF (ab va) K) (g : ∀ f t, K f → G (.float f t)) : G va := by
  (first | exact nS va | exact nO va | exact nF va | exact nT va | exact nN va | exact nC va | cases va) <;> first | exact g _ _ h | exact h.elim
theorem isi_ok (h : biW .isinstance (vs.map ab) σ Q) : BiV W n σ .isinstance Q vs := by
  rcases vs with _ | ⟨v, vs⟩
  · exact h.elim
  refine asF_on (G := fun v => BiV W n σ .isinstance Q (v :: vs)) (show asF (ab v) _ from h) fun f t h => ?_
  refine one_on (G := fun vs => BiV W n σ .isinstance Q (.float f t :: vs)) h fun w h => ?_
  refine asT_on (G := fun w => BiV W n σ .isinstance Q [.float f t, w]) h fun c h A s Z R r z => ?_
  obtain ⟨rfl, q⟩ := h
  exact IsiPair.float_float (z.here r q)
theorem int_ok (h : biW .int (vs.map ab) σ Q) : BiV W n σ .int Q vs :=
  one_on (G := BiV W n σ .int Q) h fun v h => asF_on (G := fun v => BiV W n σ .int Q [v]) h fun f t h A s Z R r z => by
    obtain ⟨i, rfl, hi, q⟩ := h
    exact int_whole hi (z.tok r q)
theorem dvm_ok (h : biW .divmod (vs.map ab) σ Q) : BiV W n σ .divmod Q vs := by
  rcases vs with _ | ⟨v, vs⟩
  · exact h.elim
  refine asI_on (G := fun v => BiV W n σ .divmod Q (v :: vs)) (show asI (ab v) _ from h) fun x t h => ?_
  refine one_on (G := fun vs => BiV W n σ .divmod Q (.int x t :: vs)) h fun w h => ?_
  refine asI_on (G := fun w => BiV W n σ .divmod Q [.int x t, w]) h fun y u h A s Z R r z => ?_
  obtain ⟨h0, h1, q⟩ := h
  exact divmod_int h0 (z.alloc (t := s.toks + 1 + 1) r (objR_newTuple _ [.int (x.fdiv y) s.toks, .int (x.fmod y) (s.toks + 1)] (show 2 ≤ lim by decide)) (q _)) (.inl (PyProof.noPylong_small h1))
theorem bi_ok {b : Bi} (h : biW b (vs.map ab) σ Q) : BiV W n σ b Q vs := by
  cases b with
  | len => exact len_ok h
  | sorted => exact sorted_ok h
  | sum => exact sum_ok h
  | range => exact range_ok h
  | isinstance => exact isi_ok h
  | int => exact int_ok h
  | divmod => exact dvm_ok h
  | _ => exact h.elim
end
end Mine

end
section -- B9
open PySem.MeetsSeq
namespace Mine
variable {W : Wd} {n k : Nat} {c : Cx} {fr : List V} {σ : St} {A : Around} {s : Shared}

noncomputable def meV : Me → String
  | .append => "list.append"
  | .insert => "list.insert"
  | .pop => "list.pop"
  | .remove => "list.remove"
  | .extend => "list.extend"
  | .count => "list.count"
theorem meSlot : ∀ m : Me, Slot "list" (meN m) (meV m)
  | .append => PySem.F.slot_list_append
  | .insert => PySem.F.slot_list_insert
  | .pop => PySem.F.slot_list_pop
  | .remove => PySem.F.slot_list_remove
  | .extend => PySem.F.slot_list_extend
  | .count => PySem.F.slot_list_count
theorem meType : ∀ m : Me, typeOf (.builtin (meV m)) = pure (.type "method_descriptor")
  | .append => PySem.F.type_list_append
  | .insert => PySem.F.type_list_insert
  | .pop => PySem.F.type_list_pop
  | .remove => PySem.F.type_list_remove
  | .extend => PySem.F.type_list_extend
  | .count => PySem.F.type_list_count
noncomputable def MeV (W : Wd) (n : Nat) (σ : St) (m : Me) (Q : V → St → Prop) (o : Value) (vs : List Value) : Prop := HV W n σ (call (.builtin (meV m)) (o :: vs)) fun v => Q (ab v)
section
variable {Q : V → St → Prop} {o : Value} {vs : List Value}
theorem append_ok (h : meW .append (ab o) (vs.map ab) σ Q) : MeV W n σ .append Q o vs :=
  one_on (G := MeV W n σ .append Q o) h fun v h => mlist_on (G := fun o => MeV W n σ .append Q o [v]) h fun a xs e h A s Z R r z => by
    obtain ⟨items, hl, hz, hx⟩ := plainAt r e
    refine wpAny_list_append_plain hl (fun h' hl' hs' => ?_) (Nat.le_trans hz lim_le)
    exact z.putL (t := s.toks) r e hs' ⟨_, hl', by rw [Array.toList_push, List.map_append, hx]; rfl, by rw [List.length_append]; exact h.1⟩ h.2
theorem insert_ok (h : meW .insert (ab o) (vs.map ab) σ Q) : MeV W n σ .insert Q o vs := by
  rcases vs with _ | ⟨v, vs⟩
  · exact h.elim
  refine asI_on (G := fun v => MeV W n σ .insert Q o (v :: vs)) (show asI (ab v) _ from h) fun i t h => ?_
  refine one_on (G := fun vs => MeV W n σ .insert Q o (.int i t :: vs)) h fun y h => mlist_on (G := fun o => MeV W n σ .insert Q o [.int i t, y]) h fun a xs e h A s Z R r z => ?_
  obtain ⟨items, ⟨m, hc⟩, hz, hx⟩ := plainAt r e
  obtain ⟨h0, h1, hz', q⟩ := h
  have hzz : (xs.take i.toNat ++ ab y :: xs.drop i.toNat).length ≤ lim := by
    rw [List.length_append, List.length_cons, ← Nat.add_assoc, ← List.length_append, List.take_append_drop]; exact hz'
  have hlen : xs.length = items.size := by rw [← hx, List.length_map]; rfl
  rw [hlen] at h1
  have hlm : items.size ≤ 1000000 := hz
  refine call_meets PySem.F.slot_list_insert ⟨_, hc, rfl⟩ PySem.F.entry_list_insert (PySem.F.args_list_insert_3 _ _ _) (AutoSeq1.list_insert_list_int_val_1 a items m i t y (by simp [Builtin.List.listFitsIndex]; (first | assumption | exact q1 ‹_› | exact q2 ‹_› ‹_› | exact q3 ‹_› ‹_› | exact q4 ‹_› ‹_› | exact q5 ‹_› | exact q6 ‹_› | lia | omega)) (Nat.le_trans hz lim_le)) ⟨hc, ?_⟩
  have hneg : ¬ i < 0 := Int.not_lt.mpr h0
  have hmin : min i.toNat items.size = i.toNat := by (first | assumption | exact q1 ‹_› | exact q2 ‹_› ‹_› | exact q3 ‹_› ‹_› | exact q4 ‹_› ‹_› | exact q5 ‹_› | exact q6 ‹_› | lia | omega)
  refine z.putL (t := s.toks) r e (Heap.SameBut.update ..) ⟨_, ⟨_, IsL.update (n := m) hc _⟩, ?_, hzz⟩ q
  clear z q r e
  subst hx
  simp only [hneg, if_false, hmin]
  simp [List.map_take, List.map_drop]
  exact List.take_of_length_le (by simp)
theorem extend_ok (h : meW .extend (ab o) (vs.map ab) σ Q) : MeV W n σ .extend Q o vs :=
  one_on (G := MeV W n σ .extend Q o) h fun v h => mlist_on (G := fun o => MeV W n σ .extend Q o [v]) h fun a xs e h => mlist_on (G := fun v => MeV W n σ .extend Q (.ref a) [v]) h fun b ys e' h A s Z R r z => by
    obtain ⟨items, ⟨m, hc⟩, hz, hx⟩ := plainAt r e
    obtain ⟨items2, ⟨m2, hc2⟩, hz2, hx2⟩ := plainAt r e'
    obtain ⟨_, hzz, q⟩ := h
    have hzz' : items.size + items2.size ≤ lim := by rw [← hx, ← hx2, List.length_map, List.length_map] at hzz; exact hzz
    have hle := lim_le
    refine call_meets PySem.F.slot_list_extend ⟨_, hc, rfl⟩ PySem.F.entry_list_extend (PySem.F.args_list_extend_2 _ _)
      (AutoSeq1.list_extend_list_list_0 a items m b items2 m2 (by simp [Builtin.List.listTooLong]; intro _; (first | assumption | exact q1 ‹_› | exact q2 ‹_› ‹_› | exact q3 ‹_› ‹_› | exact q4 ‹_› ‹_› | exact q5 ‹_› | exact q6 ‹_› | lia | omega)) (Nat.le_trans hz lim_le) (by (first | assumption | exact q1 ‹_› | exact q2 ‹_› ‹_› | exact q3 ‹_› ‹_› | exact q4 ‹_› ‹_› | exact q5 ‹_› | exact q6 ‹_› | lia | omega))) ⟨hc, hc2, ?_⟩
    exact z.putL (t := s.toks) r e (Heap.SameBut.update ..) ⟨_, ⟨_, IsL.update (n := m) hc _⟩, by rw [Array.toList_append, List.map_append, hx, hx2], by rw [List.length_append]; exact hzz⟩ q
theorem me_ok {m : Me} (h : meW m (ab o) (vs.map ab) σ Q) : MeV W n σ m Q o vs := by
  cases m with
  | append => exact append_ok h
  | insert => exact insert_ok h
  | extend => exact extend_ok h
  | _ => exact h.elim
end

theorem star_plain {pos : Pos} {env : Env} : ∀ {es : List PySem.Expr}, es.all plainE = true → (backTo pos (starEach es env)).all (fun x => !x.1) = true ∧ (backTo pos (starEach es env)).any (·.1) = false ∧ (backTo pos (starEach es env) = [] ∨ ∃ x rest, backTo pos (starEach es env) = (false, x) :: rest)
  | [], _ => ⟨rfl, rfl, .inl rfl⟩
  | e :: r, h => by
    obtain ⟨h1, h2⟩ := Bool.and_eq_true_iff.mp h
    obtain ⟨a, b, _⟩ := star_plain (es := r) (pos := pos) (env := env) h2
    rw [star_cons h1]
    exact ⟨a, b, .inr ⟨_, _, rfl⟩⟩
theorem evalArgs_ok {M : Model} {E : Value → Shared → Prop} {f : Value} {args : List (Bool × Sem Value)} {kws : List (Option Str × Sem Value)} {Q : Args → Shared → Prop} (ha : args = [] ∨ ∃ x rest, args = (false, x) :: rest) (hk : kws.all (·.1.isSome) = true)
    (h : wpAny M A (spliced args) (fun vs s1 => wpAny M A (evalAll (kws.map (·.2))) (fun ks s2 => Q ⟨vs, (kws.filterMap (·.1)).zip ks⟩ s2) E s1) E s) : wpAny M A (evalArgs f true args kws) Q E s := by
  unfold evalArgs
  rcases ha with rfl | ⟨x, rest, rfl⟩
  · show wpAny M A (spliced [] >>= _) Q E s
    refine wpAny_bind (wpAny_mono h (fun vs s1 h1 => wpAny_bind (wpAny_pure (wpAny_holding ?_))) fun _ _ x => x)
    simp only [hk, if_true]
    exact wpAny_bind (wpAny_mono h1 (fun ks s2 h2 => wpAny_bind (wpAny_pure (wpAny_pure h2))) fun _ _ x => x)
  · show wpAny M A (spliced ((false, x) :: rest) >>= _) Q E s
    refine wpAny_bind (wpAny_mono h (fun vs s1 h1 => wpAny_bind (wpAny_pure (wpAny_holding ?_))) fun _ _ x => x)
    simp only [hk, if_true]
    exact wpAny_bind (wpAny_mono h1 (fun ks s2 h2 => wpAny_bind (wpAny_pure (wpAny_pure h2))) fun _ _ x => x)


theorem snd_kws {pos : Pos} : ∀ (ks : List Keyword), (∀ k' ∈ ks, SE k k'.value) → ∀ (c : Cx) fr σ (Q : List V → St → Prop), c.l (xl (ks.map fun q => er c.gl k c.ns q.value)) fr σ Q → GV c fr σ (evalAll ((backToKw pos (keywordEach ks c.env)).map (·.2))) fun vs => Q (vs.map ab)
  | [], _ => fun c fr σ Q h => GV.pure h
  | ⟨nm, e, p⟩ :: rest, hs => fun c fr σ Q h => by
    show GV c fr σ (evalAll ((do let v ← eval e c.env; standAt pos; pure v) :: (backToKw pos (keywordEach rest c.env)).map (·.2))) _
    rw [evalAll]
    exact GV.bind (GV.bind (hs ⟨nm, e, p⟩ (.head _) c fr σ _ h) fun v σ1 h1 => GV.stand (GV.pure h1)) fun v σ1 h1 => GV.bind (GV.hold (snd_kws rest (fun k' hk => hs k' (.tail _ hk)) c fr σ1 _ h1)) fun vs σ2 h2 => GV.pure h2
theorem kw_names {pos : Pos} {env : Env} : ∀ (ks : List Keyword), (backToKw pos (keywordEach ks env)).filterMap (·.1) = (ks.map (·.arg)).filterMap id ∧ (backToKw pos (keywordEach ks env)).all (·.1.isSome) = (ks.map (·.arg)).all (·.isSome) ∧ ((ks.map (·.arg)).all (·.isSome) = true → (backToKw pos (keywordEach ks env)).any (·.1.isNone) = false)
  | [] => ⟨rfl, rfl, fun _ => rfl⟩
  | ⟨nm, e, p⟩ :: rest => by
    obtain ⟨a, b, d⟩ := kw_names rest (pos := pos) (env := env)
    have e1 : backToKw pos (keywordEach (⟨nm, e, p⟩ :: rest) env) = (nm, do let v ← eval e env; standAt pos; pure v) :: backToKw pos (keywordEach rest env) := rfl
    rw [e1]
    refine ⟨?_, ?_, fun h => ?_⟩
    · rw [List.filterMap_cons, List.map_cons, List.filterMap_cons, a]; rfl
    · rw [List.all_cons, List.map_cons, List.all_cons, b]
    · obtain ⟨h1, h2⟩ := Bool.and_eq_true_iff.mp h
      rw [List.any_cons, d h2, Bool.or_false]
      cases nm with
      | none => (first | exact nS h1 | exact nO h1 | exact nF h1 | exact nT h1 | exact nN h1 | exact nC h1 | cases h1)
      | some _ => rfl
theorem keeper_fn {f : V} (h : isFnV W f σ) (r : RelG W.H σ s) {fv : Value} (hf : ab fv = f) : ∃ k, (k = Keeper.frame ∨ k = Keeper.machine ∨ k = Keeper.boundFrame) ∧ Looks W.M s.heap (keeperOf fv) k := by
  obtain ⟨a, rfl, h⟩ := h
  rw [ab_ref hf]
  have : ∃ o fd, s.heap.get? a = some o ∧ o.data = .func fd := by
    rcases h with ⟨fd, e⟩ | ⟨o, fd, e, hd⟩
    · obtain ⟨o, e1, e2⟩ := r.objs _ _ e; exact ⟨o, fd, e1, e2⟩
    · exact ⟨o, fd, r.base _ _ e, hd⟩
  obtain ⟨o, fd, e, hd⟩ := this
  obtain ⟨_, d, dt, sl⟩ := o
  (first | exact nS hd | exact nO hd | exact nF hd | exact nT hd | exact nN hd | exact nC hd | cases hd)
  exact ⟨.frame, .inl rfl, (Looks.ld (part := none) e).andThen .now⟩
theorem biV_call {b : Bi} {pos : Pos} {args : List (Bool × Sem Value)} {Q : Value → Shared → Prop} (hp : args.any (·.1) = false)
    (h : wpAny W.M A (evalArgs (biV b) true args []) (fun a s1 => wpAny W.M A (call (biV b) a.pos a.kw) Q NoE s1) NoE s) : wpAny W.M A (callWith pos (biV b) [] args []) Q NoE s := by
  have hB : ∀ id, biV b = .builtin id → wpAny W.M A (callWith pos (biV b) [] args []) Q NoE s := fun id e => by
    rw [e] at h ⊢; exact Calls.callWith_builtin hp h
  have hT : ∀ id, biV b = .type id → wpAny W.M A (callWith pos (biV b) [] args []) Q NoE s := fun id e => by
    rw [e] at h ⊢; exact PySem.callWith_type hp h
  clear h
  (first | exact nS b | exact nO b | exact nF b | exact nT b | exact nN b | exact nC b | cases b) <;> first | exact hB _ rfl | exact hT _ rfl
theorem biV_eq {v : Value} {b : Bi} (h : ab v = ab (biV b)) : v = biV b := by
  (first | exact nS b | exact nO b | exact nF b | exact nT b | exact nN b | exact nC b | cases b) <;> first | exact ab_bi h | exact ab_typ h
theorem biX_is {f : X} {b : Bi} (h : biX f = some b) : ∃ v, f = .con v ∧ biOf v = some b := by
  cases f with
  | con v => exact ⟨v, rfl, h⟩
  | _ => (first | exact nS h | exact nO h | exact nF h | exact nT h | exact nN h | exact nC h | cases h)
section
variable {x : Str} {np pos : Pos} {args : List PySem.Expr} {ks : List Keyword} {Q : V → St → Prop}
/-- a function of the text's own -/
theorem call_own (ha : ∀ e ∈ args, SE k e) (hk : ∀ k' ∈ ks, SE k k'.value) (hp : args.all plainE = true) (hall : (ks.map (·.arg)).all (·.isSome) = true)
    (h : c.x (.call (erName c.gl c.ns x) (xl (args.map (er c.gl k c.ns))) ((ks.map (·.arg)).filterMap id) (xl (ks.map fun q => er c.gl k c.ns q.value))) fr σ Q) : GV c fr σ (eval (.Call (.Name x np) args ks pos) c.env) fun v => Q (ab v) := fun A s Z R r z => by
  obtain ⟨q1, q2, q3⟩ := star_plain (env := c.env) (pos := pos) hp
  obtain ⟨k1, k2, k3⟩ := kw_names (env := c.env) (pos := pos) ks
  refine wpAny_Call_ofName (name_ok h A s _ R r fun fv σ1 s1 h1 g1 t1 => ?_)
  refine callWith_of (P := fun hp => ∃ σ' s', hp = s'.heap ∧ isFnV c.W (ab fv) σ' ∧ RelG c.W.H σ' s') (by rw [q2, k3 hall]; rfl) (fun hp ⟨σ', s', e, hfn, g⟩ => by rw [e]; exact keeper_fn hfn g rfl) ?_
  refine evalArgs_ok q3 (k2.trans hall) (snd_args args ha c fr σ1 _ hp h1 A s1 _ R (r.step g1 t1) fun vs σ2 s2 h2 g2 t2 => snd_kws ks hk c fr σ2 _ h2 A s2 _ R ((r.step g1 t1).step g2 t2) fun kvs σ3 s3 h3 g3 t3 => ⟨⟨σ3, s3, rfl, h3.1, g3⟩, ?_⟩)
  rw [k1]
  exact h3.2 A s3 Z R g3 (((r.step g1 t1).step g2 t2).step g3 t3).frs (fun v σ4 s4 q4 g4 t4 => z v σ4 s4 q4 g4 (((t1.trans t2).trans t3).trans t4)) fv vs kvs rfl rfl rfl
/-- a builtin -/
theorem call_bi {b : Bi} (ha : ∀ e ∈ args, SE k e) (hp : args.all plainE = true) (hb : biX (erName c.gl c.ns x) = some b) (h : c.x (.bcall b (xl (args.map (er c.gl k c.ns)))) fr σ Q) : GV c fr σ (eval (.Call (.Name x np) args [] pos) c.env) fun v => Q (ab v) := fun A s Z R r z => by
  obtain ⟨q1, q2, q3⟩ := star_plain (env := c.env) (pos := pos) hp
  obtain ⟨v, e, hv⟩ := biX_is hb
  have hn : c.x (erName c.gl c.ns x) fr σ fun u σ' => u = v ∧ σ' = σ := by rw [e]; exact ⟨rfl, rfl⟩
  refine wpAny_Call_ofName (name_ok hn A s _ R r fun fv σ1 s1 h1 g1 t1 => ?_)
  obtain ⟨h1, rfl⟩ := h1
  rw [biV_eq (h1.trans (biOf_some hv))]
  exact biV_call q2 (evalArgs_ok q3 rfl (snd_args args ha c fr σ1 _ hp h A s1 _ R (r.step g1 t1) fun vs σ2 s2 h2 g2 t2 => wpAny_pure (bi_ok h2 A s2 Z R g2 fun v σ4 s4 q4 g4 t4 => z v σ4 s4 q4 g4 ((t1.trans t2).trans t4))))
theorem callX_elim {f as : X} {kn : List (Option Str)} {ka : X} {cs : List Addr} (h : xW W n (callX f as kn ka) cs fr σ Q) : (∃ b, kn = [] ∧ biX f = some b ∧ xW W n (.bcall b as) cs fr σ Q) ∨ (kn.all (·.isSome) = true ∧ xW W n (.call f as (kn.filterMap id) ka) cs fr σ Q) := by
  cases kn with
  | nil =>
    replace h : xW W n (callY (biX f) as (grd true (.call f as [] ka))) cs fr σ Q := h
    cases hb : biX f with
    | none => rw [hb] at h; exact .inr ⟨rfl, h⟩
    | some b => rw [hb] at h; exact .inl ⟨b, rfl, rfl, h⟩
  | cons a r => exact .inr (grd_x h)
theorem snd_callN (ha : ∀ e ∈ args, SE k e) (hk : ∀ k' ∈ ks, SE k k'.value) : SE (k + 1) (.Call (.Name x np) args ks pos) := fun c fr σ Q h => by
  obtain ⟨hp, h⟩ := grd_x h
  rcases callX_elim h with ⟨b, e, hb, h1⟩ | ⟨hall, h1⟩
  · cases List.map_eq_nil_iff.mp e; exact call_bi ha hp hb h1
  · exact call_own ha hk hp hall h1
end
theorem mlist_ref {va : Value} {K : Addr → List V → Prop} (h : mlistW (ab va) σ K) : ∃ a xs, va = .ref a ∧ σ a = some (.lst xs) ∧ K a xs := mlist_on (G := fun v => ∃ a xs, v = .ref a ∧ σ a = some (.lst xs) ∧ K a xs) h fun a xs e h => ⟨a, xs, rfl, e, h⟩
theorem meth_ok {o : PySem.Expr} {m : Me} {ap pos : Pos} {args : List PySem.Expr} {Q : V → St → Prop} (ho : SE k o) (ha : ∀ e ∈ args, SE k e) (hp : args.all plainE = true) (hn : noCall o = true) (hl : (ap.endLine == pos.line) = true) (h20 : args.length < 20)
    (h : c.x (.meth m (er c.gl k c.ns o) (xl (args.map (er c.gl k c.ns)))) fr σ Q) : GV c fr σ (eval (.Call (.Attribute o (meN m) ap) args [] pos) c.env) fun v => Q (ab v) := fun A s Z R r z => by
  obtain ⟨q1, q2, q3⟩ := star_plain (env := c.env) (pos := pos) hp
  refine wpAny_Call_method (T := "list") (by (first | exact nS o | exact nO o | exact nF o | exact nT o | exact nN o | exact nC o | cases o) <;> first | rfl | (first | exact nS hn | exact nO hn | exact nF hn | exact nT hn | exact nN hn | exact nC hn | cases hn)) (by
    rw [q1]; exact decide_eq_true (Nat.lt_trans h20 (by decide : 20 < 30))) hl PySem.F.plainAttrs_list (meSlot m) (meType m) ?_
  refine ho c fr σ _ h A s _ R r fun ov σ1 s1 h1 g1 t1 => ?_
  obtain ⟨a, xs, rfl, e, h2⟩ := mlist_ref h1
  obtain ⟨items, hpl, hz, hx⟩ := plainAt g1 e
  refine ⟨hpl.isList.typeIs, fun b hb => ?_, ?_⟩
  · (first | exact nS hb | exact nO hb | exact nF hb | exact nT hb | exact nN hb | exact nC hb | cases hb); obtain ⟨_, hc⟩ := hpl; exact ⟨_, hc, rfl⟩
  · exact Calls.callWith_builtin q2 (evalArgs_ok q3 rfl (snd_args args ha c fr σ1 _ hp h2 A s1 _ R (r.step g1 t1) fun vs σ2 s2 h3 g2 t2 => wpAny_pure (me_ok (o := .ref a) h3 A s2 Z R g2 fun v σ4 s4 q4 g4 t4 => z v σ4 s4 q4 g4 ((t1.trans t2).trans t4))))
theorem snd_meth {o : PySem.Expr} {nm : Str} {ap pos : Pos} {args : List PySem.Expr} {ks : List Keyword} (ho : SE k o) (ha : ∀ e ∈ args, SE k e) : SE (k + 1) (.Call (.Attribute o nm ap) args ks pos) := fun c fr σ Q h => by
  have g := grd_x h
  clear h
  obtain ⟨h1, hp⟩ := Bool.and_eq_true_iff.mp g.1
  obtain ⟨h2, hp⟩ := Bool.and_eq_true_iff.mp hp
  obtain ⟨h3, hp⟩ := Bool.and_eq_true_iff.mp hp
  obtain ⟨h4, h5⟩ := Bool.and_eq_true_iff.mp hp
  rw [List.isEmpty_iff.mp h2]
  cases hm : meOf nm with
  | none => rw [hm] at g; exact g.2.elim
  | some m =>
    rw [hm] at g
    rw [meOf_some hm]
    exact meth_ok ho ha h1 h3 h4 (of_decide_eq_true h5) g.2
end Mine

end
section -- B10
namespace Mine
variable {W : Wd} {n k : Nat} {c : Cx} {fr : List V} {σ σ' : St} {A : Around} {s s' : Shared} {L : Addr → Prop}

structure Itr (W : Wd) (A : Around) (I : Addr) (fp : List Addr) (xs : List V) (chk : St → Prop) (S : Nat → Heap → Prop) : Prop where
  mem : I ∈ fp
  frame : ∀ i h h', S i h → (∀ b ∈ fp, ∀ o, h.get? b = some o → h'.get? b = some o) → S i h'
  alive : ∀ i h, S i h → ∀ b ∈ fp, ∃ o, h.get? b = some o
  nd : ∀ i h, S i h → ∀ b ∈ fp, ∀ o, h.get? b = some o → ∀ es n, o.data ≠ .dict es n
  item : ∀ i (s : Shared) (σ : St) (Q : Option Value → Shared → Prop) (E : Value → Shared → Prop), i < xs.length → S i s.heap → RelG W.H σ s → chk σ →
    (∀ v h' tk, ab v = nth xs i → S (i + 1) h' → (∀ b o, b ≠ I → s.heap.get? b = some o → h'.get? b = some o) → Q (some v) { s with heap := h', toks := tk }) → wpAny W.M A (pyNext (.ref I)) Q E s
  done : ∀ (s : Shared) (σ : St) (Q : Option Value → Shared → Prop) (E : Value → Shared → Prop), S xs.length s.heap → RelG W.H σ s → chk σ →
    (∀ h' tk, (∀ b o, b ≠ I → s.heap.get? b = some o → h'.get? b = some o) → Q none { s with heap := h', toks := tk }) → wpAny W.M A (pyNext (.ref I)) Q E s
  self : ∀ i (s : Shared) (Q : Value → Shared → Prop) (E : Value → Shared → Prop), S i s.heap → Q (.ref I) s → wpAny W.M A (pyIter (.ref I)) Q E s
  own : ∀ i (s : Shared) (ts : List PySem.Expr) (k : Nat) (p : Pos) (v : Value) (Q : Unit → Shared → Prop) (E : Value → Shared → Prop), S i s.heap → Q () s → wpAny W.M A (letOwnedTupleGo (.Tuple ts k p) (.ref I) v) Q E s
noncomputable def plainIter (n : String) : Bool := !(["enumerate", "zip", "dict_itemiterator", "dict_reverseitemiterator", "odict_iterator", "itertools.zip_longest", "itertools.pairwise"].contains n)
theorem own_tup {M : Model} {E : Value → Shared → Prop} {ts : List PySem.Expr} {i : Nat} {p : Pos} {I : Addr} {v : Value} {o : Obj} {nm : String} {Q : Unit → Shared → Prop} (ho : s.heap.get? I = some o) (hc : o.cls = .type nm) (hn : plainIter nm = true) (h : Q () s) : wpAny M A (letOwnedTupleGo (.Tuple ts i p) (.ref I) v) Q E s := by
  have hn' : (["enumerate", "zip", "dict_itemiterator", "dict_reverseitemiterator", "odict_iterator", "itertools.zip_longest", "itertools.pairwise"] : List String).contains nm = false := (Bool.not_eq_true' _).mp hn
  cases v with
  | ref a =>
    refine wpAny_bind (wpAny_load ho ?_)
    obtain ⟨oc, d, dt, sl⟩ := o
    (first | exact nS hc | exact nO hc | exact nF hc | exact nT hc | exact nN hc | exact nC hc | cases hc)
    cases dt with
    | fields vs =>
      show wpAny M A (if (List.contains _ nm && _) = true then _ else _) Q E s
      rw [hn', Bool.false_and, if_neg Bool.false_ne_true]
      exact wpAny_pure h
    | _ => exact wpAny_pure h
  | _ => exact wpAny_pure h

theorem itr_lst (hh : A.handled = none) (I a : Addr) (hne : a ≠ I) (xs : List V) :
    Itr W A I [I] xs (fun σ => σ a = some (.lst xs)) (fun i h => h.IsListIter I a i) where
  mem := by simp
  frame := fun i h h' st hk => st.at fun o e => hk I (by simp) o e
  alive := fun i h st b hb => by
    have : b = I := by simpa using hb
    subst this; obtain ⟨o, e, _⟩ := st; exact ⟨o, e⟩
  nd := fun i h st b hb o e es n q => by
    have : b = I := by simpa using hb
    subst this; obtain ⟨o', e', _, hd⟩ := st; rw [e'] at e; (first | exact nS e | exact nO e | exact nF e | exact nT e | exact nN e | exact nC e | cases e); rw [hd] at q; (first | exact nS q | exact nO q | exact nF q | exact nT q | exact nN q | exact nC q | cases q)
  item := fun i s σ Q E hi st r hc hQ => by
    obtain ⟨items, hp, hm, hz⟩ := r.objs _ _ hc
    have hi' : i < items.size := by rw [← hm] at hi; simpa using hi
    refine wpAny_pyNext_list_item st hp.isList (x := items[i]) (by simp [hi']) fun h' hit' hs' => ?_
    refine hQ _ h' s.toks ?_ hit' fun b o hb e => hs'.extBut b o hb e
    rw [← hm, nth_map (x := items[i])]
    simp [hi']
  done := fun s σ Q E st r hc hQ => by
    obtain ⟨items, hp, hm, hz⟩ := r.objs _ _ hc
    have hsz : items.size = xs.length := by rw [← hm]; simp
    exact wpAny_pyNext_list_end hh st hp.isList (by simp [hsz]) fun h' he' => hQ h' s.toks fun b o hb e => he' b o hb e
  self := fun i s Q E st hQ => wpAny_pyIter_listiter st hQ
  own := fun i s ts k p v Q E st h => by obtain ⟨o, e, hc, _⟩ := st; exact own_tup e hc (by decide) h

theorem itr_of {I : Addr} {fp : List Addr} {m : Nat} {P : Nat → Value → Prop} {S : Nat → Heap → Prop} {xs : List V} (Wk : Walks W.prog W.w A I fp [I] m P S) (hm : m = xs.length) (hP : ∀ i v, i < m → P i v → ab v = nth xs i)
    (ha : ∀ i h, S i h → ∀ b ∈ fp, ∃ o, h.get? b = some o) (hn : ∀ i h, S i h → ∃ o nm, h.get? I = some o ∧ o.cls = .type nm ∧ plainIter nm = true) (hd : ∀ i h, S i h → ∀ b ∈ fp, ∀ o, h.get? b = some o → ∀ es n, o.data ≠ .dict es n) : Itr W A I fp xs (fun _ => True) S where
  mem := Wk.sub I (by simp)
  frame := Wk.frame
  alive := ha
  nd := hd
  item := fun i s σ Q E hi st r _ hQ => Wk.item i s Q E (hm ▸ hi) st fun v h' tk hp st' hk => hQ v h' tk (hP i v (hm ▸ hi) hp) st' fun b o hb e => hk b o (by simpa using hb) e
  done := fun s σ Q E st r _ hQ => Wk.done s Q E (hm ▸ st) fun h' tk hk => hQ h' tk fun b o hb e => hk b o (by simpa using hb) e
  self := Wk.self
  own := fun i s ts k p v Q E st h => by obtain ⟨o, nm, e, hc, hp⟩ := hn _ _ st; exact own_tup e hc hp h

theorem rangeSize_one' (a b : Int) : Builtin.Range.rangeSize a b 1 = ((b - a).toNat : Int) := by
  unfold Builtin.Range.rangeSize; simp only [show (1 : Int) > 0 by (first | assumption | exact q1 ‹_› | exact q2 ‹_› ‹_› | exact q3 ‹_› ‹_› | exact q4 ‹_› ‹_› | exact q5 ‹_› | exact q6 ‹_› | lia | omega), if_true, Int.ediv_one]; split <;> (first | assumption | exact q1 ‹_› | exact q2 ‹_› ‹_› | exact q3 ‹_› ‹_› | exact q4 ‹_› ‹_› | exact q5 ‹_› | exact q6 ‹_› | lia | omega)
theorem rangeSize_neg (a b : Int) : Builtin.Range.rangeSize a b (-1) = ((a - b).toNat : Int) := by
  unfold Builtin.Range.rangeSize; simp only [show ¬ ((-1 : Int) > 0) by (first | assumption | exact q1 ‹_› | exact q2 ‹_› ‹_› | exact q3 ‹_› ‹_› | exact q4 ‹_› ‹_› | exact q5 ‹_› | exact q6 ‹_› | lia | omega), if_false, Int.neg_neg, Int.ediv_one]; split <;> (first | assumption | exact q1 ‹_› | exact q2 ‹_› ‹_› | exact q3 ‹_› ‹_› | exact q4 ‹_› ‹_› | exact q5 ‹_› | exact q6 ‹_› | lia | omega)
theorem rangeL_length (a b c : Int) (hc : c = 1 ∨ c = -1) : Builtin.Range.rangeSize a b c = ((rangeL a b c).length : Int) := by
  unfold rangeL
  rcases hc with rfl | rfl
  · rw [rangeSize_one']; simp
  · rw [rangeSize_neg]; simp
theorem rangeL_get (a b c : Int) (hc : c = 1 ∨ c = -1) {i : Nat} (hi : i < (rangeL a b c).length) : nth (ivs (rangeL a b c)) i = .int (a + (i : Int) * c) := by
  have e : (rangeL a b c)[i]? = some (a + (i : Int) * c) := by
    unfold rangeL at hi ⊢
    rcases hc with rfl | rfl
    · simp only [if_true, List.length_map, List.length_range] at hi
      simp only [if_true, List.getElem?_map, List.getElem?_range hi, Option.map_some, Int.mul_one]
    · have h1 : ¬ ((-1 : Int) = 1) := by (first | assumption | exact q1 ‹_› | exact q2 ‹_› ‹_› | exact q3 ‹_› ‹_› | exact q4 ‹_› ‹_› | exact q5 ‹_› | exact q6 ‹_› | lia | omega)
      simp only [h1, if_false, List.length_map, List.length_range] at hi
      simp only [h1, if_false, List.getElem?_map, List.getElem?_range hi, Option.map_some]
      congr 1; (first | assumption | exact q1 ‹_› | exact q2 ‹_› ‹_› | exact q3 ‹_› ‹_› | exact q4 ‹_› ‹_› | exact q5 ‹_› | exact q6 ‹_› | lia | omega)
  rw [nth_eq, List.getD_eq_getElem?_getD, ivs, List.getElem?_map, e]; rfl
theorem fits_of {x : Int} (h1 : -9223372036854775808 ≤ x) (h2 : x < 9223372036854775808) : Builtin.Range.rangeFitsLong x = true := by
  unfold Builtin.Range.rangeFitsLong; simp only [Bool.and_eq_true, decide_eq_true_eq]; (first | assumption | exact q1 ‹_› | exact q2 ‹_› ‹_› | exact q3 ‹_› ‹_› | exact q4 ‹_› ‹_› | exact q5 ‹_› | exact q6 ‹_› | lia | omega)
theorem fits_near {x d : Int} (h : small x) (h1 : -2 ≤ d) (h2 : d ≤ 2) : Builtin.Range.rangeFitsLong (x + d) = true := by
  unfold small at h; exact fits_of (by (first | assumption | exact q1 ‹_› | exact q2 ‹_› ‹_› | exact q3 ‹_› ‹_› | exact q4 ‹_› ‹_› | exact q5 ‹_› | exact q6 ‹_› | lia | omega)) (by (first | assumption | exact q1 ‹_› | exact q2 ‹_› ‹_› | exact q3 ‹_› ‹_› | exact q4 ‹_› ‹_› | exact q5 ‹_› | exact q6 ‹_› | lia | omega))
theorem fits_small {x : Int} (h : small x) : Builtin.Range.rangeFitsLong x = true := by have := fits_near h (d := 0) (by decide) (by decide); rwa [Int.add_zero] at this
theorem fits_size {a b : Int} (ha : small a) (hb : small b) : Builtin.Range.rangeFitsLong ((b - a).toNat : Int) = true := by
  unfold small at ha hb; exact fits_of (by (first | assumption | exact q1 ‹_› | exact q2 ‹_› ‹_› | exact q3 ‹_› ‹_› | exact q4 ‹_› ‹_› | exact q5 ‹_› | exact q6 ‹_› | lia | omega)) (by (first | assumption | exact q1 ‹_› | exact q2 ‹_› ‹_› | exact q3 ‹_› ‹_› | exact q4 ‹_› ‹_› | exact q5 ‹_› | exact q6 ‹_› | lia | omega))
theorem small_of {a b c : Int} (ha : small a) (hb : small b) (hc : c = 1 ∨ c = -1) : Builtin.Range.small a b c = true := by
  unfold Builtin.Range.small
  rw [fits_small ha, fits_small hb]
  rcases hc with rfl | rfl
  · rw [rangeSize_one', fits_size ha hb, if_pos (by decide), fits_near hb (by decide) (by decide), Bool.or_true]; rfl
  · rw [rangeSize_neg, fits_size hb ha, if_neg (by decide), fits_near hb (by decide) (by decide), Bool.or_true]; rfl


/-- an iterator that has just been made -/
noncomputable def Its (W : Wd) (A : Around) (σ : St) (I : Addr) (xs : List V) (chk : St → Prop) (h : Heap) : Prop := ∃ fp S, Itr W A I fp xs chk S ∧ S 0 h ∧ (∀ b ∈ fp, NoMut σ b) ∧ ∀ b ∈ fp, b = I ∨ ∃ x, σ b = some x
theorem mem1 {α : Type} {a b : α} (h : b ∈ [a]) : b = a := List.mem_singleton.mp h
theorem mem2 {α : Type} {a b x : α} (h : x ∈ [a, b]) : x = a ∨ x = b := (List.mem_cons.mp h).imp id mem1
theorem nomut_new (r : RelG W.H σ s) : NoMut σ s.heap.objs.size := fun x hx => by rw [r.fresh (get_size _)] at hx; (first | exact nS hx | exact nO hx | exact nF hx | exact nT hx | exact nN hx | exact nC hx | cases hx)
/-- over a sequence that does not change -/
theorem its_seq {a : Addr} {o : O} {xs : List V} {items : Array Value} {S : Nat → Heap → Prop} {h' : Heap} (r : RelG W.H σ s) (e : σ a = some o) (hm : o.mut = false) (Wk : Walks W.prog W.w A s.heap.objs.size [s.heap.objs.size, a] [s.heap.objs.size] items.size (fun i v => items[i]? = some v) S) (hx : items.toList.map ab = xs) (h0 : S 0 h')
    (hS : ∀ i h, S i h → (∃ o nm, h.get? s.heap.objs.size = some o ∧ o.cls = .type nm ∧ plainIter nm = true ∧ ∀ es n, o.data ≠ .dict es n) ∧ ∃ o, h.get? a = some o ∧ ∀ es n, o.data ≠ .dict es n) : Its W A σ s.heap.objs.size xs (fun _ => True) h' := by
  refine ⟨_, S, itr_of Wk (by rw [← hx, List.length_map]; rfl) (fun i v hi hP => ?_) (fun i h st b hb => ?_) (fun i h st => ?_) (fun i h st b hb o eo => ?_), h0, fun b hb => ?_, fun b hb => ?_⟩
  · rw [← hx, nth_map (x := v) (by rw [← Array.getElem?_toList] at hP; exact hP)]
  · obtain ⟨⟨o1, _, e1, _⟩, o2, e2, _⟩ := hS i h st
    rcases mem2 hb with rfl | rfl
    · exact ⟨_, e1⟩
    · exact ⟨_, e2⟩
  · obtain ⟨⟨o1, nm, e1, c1, p1, _⟩, _⟩ := hS i h st
    exact ⟨o1, nm, e1, c1, p1⟩
  · obtain ⟨⟨o1, _, e1, _, _, d1⟩, o2, e2, d2⟩ := hS i h st
    rcases mem2 hb with rfl | rfl
    · rw [e1] at eo; (first | exact nS eo | exact nO eo | exact nF eo | exact nT eo | exact nN eo | exact nC eo | cases eo); exact d1
    · rw [e2] at eo; (first | exact nS eo | exact nO eo | exact nF eo | exact nT eo | exact nN eo | exact nC eo | cases eo); exact d2
  · rcases mem2 hb with rfl | rfl
    · exact nomut_new r
    · intro x hx; rw [e] at hx; (first | exact nS hx | exact nO hx | exact nF hx | exact nT hx | exact nN hx | exact nC hx | cases hx); exact hm
  · exact (mem2 hb).imp id fun (q : b = a) => ⟨o, q ▸ e⟩
theorem iter_ok {xv : Value} {K : List V → (St → Prop) → Prop} (h : iterW (ab xv) σ K) (A : Around) (s : Shared) (Z : Value → Shared → Prop) (R : Room n A) (r : RelG W.H σ s)
    (z : ∀ xs chk h', K xs chk → Its W A σ s.heap.objs.size xs chk h' → (∀ b o, s.heap.get? b = some o → h'.get? b = some o) → Z (.ref s.heap.objs.size) { s with heap := h' }) : wpAny W.M A (pyIter xv) Z NoE s := by
  refine ref_on (G := fun xv => wpAny W.M A (pyIter xv) Z NoE s) h fun a o e h => ?_
  have Ro := r.objs a o e
  have hne : a ≠ s.heap.objs.size := by obtain ⟨oa, hoa⟩ := Ro.get; exact Nat.ne_of_lt (Heap.lt_size hoa)
  cases o with
  | lst xs =>
    obtain ⟨items, hp, hm, hz⟩ := Ro
    exact wpAny_pyIter_list hp.isList (z xs _ _ h ⟨[s.heap.objs.size], _, itr_lst R.handled _ a hne xs, ⟨_, Heap.get?_push_size _ rfl, rfl, rfl⟩, fun b hb => by rw [mem1 hb]; exact nomut_new r, fun b hb => .inl (mem1 hb)⟩ fun _ _ e => Heap.get?_push_of_some _ e)
  | ro xs =>
    obtain ⟨items, hp, hm, hz⟩ := Ro
    refine wpAny_pyIter_list hp (z xs _ _ h (its_seq r e rfl (Walks.list R.handled _ a hne items) hm ⟨⟨_, Heap.get?_push_size _ rfl, rfl, rfl⟩, hp.push _⟩ fun i h st => ?_) fun _ _ e => Heap.get?_push_of_some _ e)
    obtain ⟨⟨o1, e1, c1, d1⟩, ⟨o2, e2, _, _, d2⟩⟩ := st
    exact ⟨⟨o1, _, e1, c1, by decide, fun es n q => by rw [d1] at q; (first | exact nS q | exact nO q | exact nF q | exact nT q | exact nN q | exact nC q | cases q)⟩, o2, e2, fun es n q => by rw [d2] at q; (first | exact nS q | exact nO q | exact nF q | exact nT q | exact nN q | exact nC q | cases q)⟩
  | tup xs =>
    obtain ⟨items, hp, hm, hz⟩ := Ro
    refine wpAny_pyIter_tuple hp (z xs _ _ h (its_seq r e rfl (Walks.tuple R.handled _ a hne items) hm ⟨⟨_, Heap.get?_push_size _ rfl, rfl, rfl⟩, IsTup.push hp _⟩ fun i h st => ?_) fun _ _ e => Heap.get?_push_of_some _ e)
    obtain ⟨⟨o1, e1, c1, d1⟩, ⟨o2, e2, _, _, d2⟩⟩ := st
    exact ⟨⟨o1, _, e1, c1, by decide, fun es n q => by rw [d1] at q; (first | exact nS q | exact nO q | exact nF q | exact nT q | exact nN q | exact nC q | cases q)⟩, o2, e2, fun es n q => by rw [d2] at q; (first | exact nS q | exact nO q | exact nF q | exact nT q | exact nN q | exact nC q | cases q)⟩
  | rng lo hi st =>
    obtain ⟨t, u, w, hr⟩ := Ro
    obtain ⟨h1, h2, h3, h⟩ := h
    refine wpAny_pyIter_range hr (small_of h1 h2 h3) (z _ _ _ h ⟨[s.heap.objs.size], _, itr_of (Walks.range R.handled _ lo st (rangeL lo hi st).length) (by rw [ivs, List.length_map]) (fun i v hi' hP => ?_) (fun i h st b hb => ?_) (fun i h st => ⟨_, _, st, rfl, by decide⟩) (fun i h st b hb o e es n q => ?_), ?_, fun b hb => by rw [mem1 hb]; exact nomut_new r, fun b hb => .inl (mem1 hb)⟩ fun _ _ e => Heap.get?_push_of_some _ e)
    · obtain ⟨t', rfl⟩ := hP; rw [rangeL_get _ _ _ h3 hi']; rfl
    · rw [mem1 hb]; exact ⟨_, st⟩
    · rw [mem1 hb, show h.get? _ = some _ from st] at e; (first | exact nS e | exact nO e | exact nF e | exact nT e | exact nN e | exact nC e | cases e); (first | exact nS q | exact nO q | exact nF q | exact nT q | exact nN q | exact nC q | cases q)
    · show IsRangeIter _ _ _ _ _
      have e := Heap.get?_push_size s.heap (o := { cls := .type "range_iterator", data := .fields #[rawInt lo, rawInt (Builtin.Range.rangeSize lo hi st), rawInt st] }) rfl
      rw [rangeL_length _ _ _ h3] at e
      unfold IsRangeIter
      simpa [rangeL_length _ _ _ h3] using e
  | _ => exact h.elim

section
variable {I : Addr} {fp : List Addr} {xs : List V} {chk : St → Prop} {S : Nat → Heap → Prop} {i : Nat}
noncomputable def J (I : Addr) (fp : List Addr) (S : Nat → Heap → Prop) (i : Nat) (σ : St) (s : Shared) : Prop := S i s.heap ∧ σ I = none ∧ ∀ b ∈ fp, NoMut σ b
theorem J.step (j : J I fp S i σ s) (X : Itr W A I fp xs chk S) (t : Stp L σ s σ' s') (hL : ∀ b ∈ fp, ¬ L b) : J I fp S i σ' s' :=
  ⟨X.frame _ _ _ j.1 fun b hb o e => t.keep b o e (j.2.2 b hb) (hL b hb) (X.nd _ _ j.1 b hb o e),
   let ⟨_, e⟩ := X.alive _ _ j.1 I X.mem; t.off j.2.1 e, fun b hb => let ⟨_, e⟩ := X.alive _ _ j.1 b hb; t.nomut (j.2.2 b hb) e⟩
/-- only I is changed -/
structure Only (I : Addr) (s s' : Shared) : Prop where
  keep : ∀ b o, b ≠ I → s.heap.get? b = some o → s'.heap.get? b = some o
  rest : ∃ h t, s' = { s with heap := h, toks := t }
theorem RelG.only {H : Heap} (r : RelG H σ s) (o : Only I s s') (hσ : σ I = none) (hH : H.get? I = none) : RelG H σ s' := r.hidden (L := fun b => b = I) (fun b hb => by rw [hb]; exact ⟨hσ, hH⟩) o.keep
theorem Rel.only {H : Heap} {env : Env} (r : Rel H A env σ fr s) (o : Only I s s') (hσ : σ I = none) (hH : H.get? I = none) (hL : env.locals ≠ I) (hd : ∀ o es n, s.heap.get? I = some o → o.data ≠ .dict es n) : Rel H A env σ fr s' :=
  ⟨r.toRelG.only o hσ hH, let ⟨m, hn, hf⟩ := r.ns; ⟨m, hn.at' fun ob e => o.keep _ ob hL e, hf⟩, r.off, r.new, r.frs.mono fun b ob es n e hdb hσb => ⟨hσb, ob, es, n, o.keep b ob (fun q => hd ob es n (q ▸ e) hdb) e, hdb⟩⟩
theorem Stp.only (o : Only I s s') (hL : L I) (ha : ∃ o', s'.heap.get? I = some o') : Stp L σ s σ s' :=
  .hidden (fun b ob hb e => o.keep b ob (fun q => hb (q ▸ hL)) e) (fun b ob hb e => by
    by_cases q : b = I
    · rw [q]; exact ha
    · exact ⟨ob, o.keep b ob q e⟩) o.rest
/-- at the end of a walk that began behind s0 the iterator itself is of no account -/
theorem Stp.endW {σ0 : St} {s0 : Shared} (t : Stp (fun b => b = I ∨ L b) σ0 s0 σ s) (o : Only I s s') (h0 : s0.heap.get? I = none) : Stp L σ0 s0 σ s' := by
  have ne : ∀ {b ob}, s0.heap.get? b = some ob → b ≠ I := fun e q => by rw [q, h0] at e; (first | exact nS e | exact nO e | exact nF e | exact nT e | exact nN e | exact nC e | cases e)
  refine ⟨fun b ob e hm hl hd => o.keep b ob (ne e) (t.keep b ob e hm (fun q => q.elim (ne e) hl) hd), fun b ob e hm hl => ?_, t.dom, fun b ob e => ?_, ?_⟩
  · obtain ⟨sl, e'⟩ := t.look b ob e hm fun q => q.elim (ne e) hl
    exact ⟨sl, o.keep b _ (ne e) e'⟩
  · obtain ⟨o', e'⟩ := t.alive b ob e
    exact ⟨o', o.keep b o' (ne e) e'⟩
  · obtain ⟨h1, t1, e1⟩ := t.rest
    obtain ⟨h2, t2, e2⟩ := o.rest
    exact ⟨h2, t2, by rw [e2, e1]⟩
theorem Only.refl : Only I s s := ⟨fun _ _ _ e => e, s.heap, s.toks, rfl⟩
theorem Itr.next (X : Itr W A I fp xs chk S) (j : J I fp S i σ s) (r : RelG W.H σ s) (hc : chk σ) (hi : i < xs.length) {Z : Option Value → Shared → Prop} {E : Value → Shared → Prop} (z : ∀ v s', ab v = nth xs i → J I fp S (i + 1) σ s' → Only I s s' → Z (some v) s') : wpAny W.M A (pyNext (.ref I)) Z E s :=
  X.item i s σ Z E hi j.1 r hc fun v h' tk hv hS hk => z v _ hv ⟨hS, j.2.1, j.2.2⟩ ⟨fun b o hb e => hk b o hb e, h', tk, rfl⟩
theorem Itr.stop (X : Itr W A I fp xs chk S) (j : J I fp S xs.length σ s) (r : RelG W.H σ s) (hc : chk σ) {Z : Option Value → Shared → Prop} {E : Value → Shared → Prop} (z : ∀ s', Only I s s' → Z none s') : wpAny W.M A (pyNext (.ref I)) Z E s :=
  X.done s σ Z E j.1 r hc fun h' tk hk => z _ ⟨fun b o hb e => hk b o hb e, h', tk, rfl⟩
theorem Itr.nod (X : Itr W A I fp xs chk S) (j : J I fp S i σ s) : ∀ o es n, s.heap.get? I = some o → o.data ≠ .dict es n := fun o es n e => X.nd _ _ j.1 I X.mem o e es n
theorem drop_nth (h : i < xs.length) : xs.drop i = nth xs i :: xs.drop (i + 1) := by
  rw [nth_eq, List.getD_eq_getElem?_getD, List.getElem?_eq_getElem h]
  exact List.drop_eq_getElem_cons h
end
end Mine

end
section -- B11
namespace Mine
variable {W : Wd} {n k : Nat} {c : Cx} {env : Env} {cs : List Addr} {fr : List V} {σ σ' : St} {A : Around} {s s' : Shared} {L : Addr → Prop}

noncomputable def caddrs : Nat → List (Str × NameKind) → List Addr
  | _, [] => []
  | m, (_, k) :: r => if k == .cell then m :: caddrs (m + 1) r else 0 :: caddrs m r
noncomputable def cset : Nat → List (Str × NameKind) → (Str → V) → St → St
  | _, [], _, σ => σ
  | m, (x, k) :: r, b, σ => if k == .cell then cset (m + 1) r b (σ.set m (.cell (b x))) else cset m r b σ
theorem cset_spec {b : Str → V} : ∀ (names : List (Str × NameKind)) (m : Nat) (σ : St) (a : Nat) (x : O), cset m names b σ a = some x → σ a = some x ∨ (m ≤ a ∧ ∃ (i : Nat) (y : Str), names[i]? = some (y, NameKind.cell) ∧ (caddrs m names)[i]? = some a ∧ x = .cell (b y))
  | [], m, σ, a, x, h => .inl h
  | (z, k) :: r, m, σ, a, x, h => by
    unfold cset at h
    unfold caddrs
    by_cases hk : (k == NameKind.cell) = true
    · rw [if_pos hk] at h ⊢
      rcases cset_spec r (m + 1) _ a x h with e | ⟨hm, i, y, h1, h2, h3⟩
      · by_cases ha : a = m
        · subst ha
          rw [St.set_same] at e
          refine .inr ⟨Nat.le_refl _, 0, z, ?_, rfl, (Option.some.inj e).symm⟩
          rw [eq_of_beq hk]; rfl
        · rw [St.set_other _ _ ha] at e; exact .inl e
      · exact .inr ⟨by (first | assumption | exact q1 ‹_› | exact q2 ‹_› ‹_› | exact q3 ‹_› ‹_› | exact q4 ‹_› ‹_› | exact q5 ‹_› | exact q6 ‹_› | lia | omega), i + 1, y, by simpa using h1, by simpa using h2, h3⟩
    · rw [if_neg hk] at h ⊢
      rcases cset_spec r m _ a x h with e | ⟨hm, i, y, h1, h2, h3⟩
      · exact .inl e
      · exact .inr ⟨hm, i + 1, y, by simpa using h1, by simpa using h2, h3⟩
theorem cset_new {b : Str → V} : ∀ (names : List (Str × NameKind)) (m : Nat) (σ : St) (a : Nat), a < m → cset m names b σ a = σ a
  | [], _, _, _, _ => rfl
  | (z, k) :: r, m, σ, a, h => by
    unfold cset
    by_cases hk : (k == NameKind.cell) = true
    · rw [if_pos hk, cset_new r (m + 1) _ a (Nat.lt_succ_of_lt h), St.set_other _ _ (show a ≠ m from Nat.ne_of_lt h)]
    · rw [if_neg hk, cset_new r m _ a h]
theorem cellsFrom_keep {y : Str} {c : Addr} : ∀ (l : List (Str × NameKind)) (m : Nat) (acc : List (Str × Addr)), (∀ p ∈ l, p.1 = y → p.2 ≠ .cell) → acc.lookup y = some c → (cellsFrom m l acc).lookup y = some c
  | [], m, acc, _, h => h
  | (z, k') :: l, m, acc, hy, h => by
    have hl := fun p hp => hy p (List.mem_cons_of_mem _ hp)
    unfold cellsFrom
    by_cases hk : (k' == NameKind.cell) = true
    · rw [if_pos hk]
      refine cellsFrom_keep l _ _ hl ?_
      have e1 : (y == z) = false := by
        rw [beq_eq_false_iff_ne]
        exact fun e => hy (z, k') List.mem_cons_self e.symm (eq_of_beq hk)
      rw [List.lookup_cons, e1]; exact h
    · rw [if_neg hk]; exact cellsFrom_keep l _ _ hl h
theorem cellsFrom_get {x : Str} : ∀ (names : List (Str × NameKind)) (m i : Nat) (acc : List (Str × Addr)), (names.map (·.1)).Nodup → names[i]? = some (x, NameKind.cell) → (cellsFrom m names acc).lookup x = some ((caddrs m names).getD i 0)
  | [], m, i, acc, _, h => by simp at h
  | (y, k) :: r, m, i, acc, hn, h => by
    obtain ⟨h1, h2⟩ := List.nodup_cons.mp (by simpa using hn : (y :: r.map (·.1)).Nodup)
    unfold cellsFrom caddrs
    cases i with
    | zero =>
      simp at h
      obtain ⟨rfl, rfl⟩ := h
      have hkk : (NameKind.cell == NameKind.cell) = true := rfl
      rw [if_pos hkk, if_pos hkk]
      exact cellsFrom_keep r (m + 1) _ (fun p hp e => absurd (List.mem_map.mpr ⟨p, hp, e⟩) h1) (by simp [List.lookup])
    | succ i =>
      have h' : r[i]? = some (x, NameKind.cell) := by simpa using h
      by_cases hk : (k == NameKind.cell) = true
      · rw [if_pos hk, if_pos hk, cellsFrom_get r (m + 1) i _ h2 h']; rfl
      · rw [if_neg hk, if_neg hk, cellsFrom_get r m i _ h2 h']; rfl
theorem caddrs_len : ∀ (names : List (Str × NameKind)) (m : Nat), (caddrs m names).length = names.length
  | [], _ => rfl
  | (_, k) :: r, m => by
    unfold caddrs
    split <;> rw [List.length_cons, List.length_cons, caddrs_len r]

theorem nodup_lookup : ∀ {ns : List (Str × NameKind)}, (ns.map (·.1)).Nodup → ∀ {i : Nat} {x : Str} {k : NameKind}, ns[i]? = some (x, k) → ns.lookup x = some k ∧ place ns x = i
  | [], _, i, x, k, h => by simp at h
  | (y, k') :: r, hn, i, x, k, h => by
    obtain ⟨h1, h2⟩ := List.nodup_cons.mp (by simpa using hn : (y :: r.map (·.1)).Nodup)
    cases i with
    | zero => simp at h; obtain ⟨rfl, rfl⟩ := h; simp [List.lookup, place, List.findIdx_cons]
    | succ i =>
      have h' : r[i]? = some (x, k) := by simpa using h
      have hx : x ∈ r.map (·.1) := List.mem_map.mpr ⟨(x, k), List.mem_of_getElem? h', rfl⟩
      have hxy : x ≠ y := fun e => h1 (e ▸ hx)
      obtain ⟨a, b⟩ := nodup_lookup h2 h'
      have e1 : (x == y) = false := by simpa using hxy
      have e2 : (y == x) = false := by simpa using fun e : y = x => hxy e.symm
      exact ⟨by rw [List.lookup_cons, e1]; exact a, by unfold place at b ⊢; rw [List.findIdx_cons, e2]; simpa using b⟩

theorem closureFor_ok (K : EnvOK W env cs) {sc : Scope} {cl : List (Str × NameKind) → List (Str × Addr) → List (Str × Addr)}
    (hcl0 : ∀ acc, cl [] acc = acc) (hcl1 : ∀ p r acc, cl (p :: r) acc = cl r (if p.2 == .free then (p.1, nthA cs (place env.scope.names p.1)) :: acc else acc))
    (h : ∀ p ∈ sc.names, p.2 = .free → env.scope.names.lookup p.1 = some .cell ∨ env.scope.names.lookup p.1 = some .free) : closureFor sc env = pure (cl sc.names []) := by
  unfold closureFor
  have g : ∀ (l : List (Str × NameKind)) (acc : List (Str × Addr)), (∀ p ∈ l, p.2 = .free → env.scope.names.lookup p.1 = some .cell ∨ env.scope.names.lookup p.1 = some .free) →
      (forIn l acc fun (x : Str × NameKind) (cs : List (Str × Addr)) => match x with | (name, kind) => (if (kind == NameKind.free) = true then do let c ← cellOf env name; pure (ForInStep.yield ((name, c) :: cs)) else pure (ForInStep.yield cs) : Sem _)) = pure (cl l acc) := by
    intro l
    induction l with
    | nil => intro acc _; rw [hcl0]; rfl
    | cons p r ih =>
      intro acc hp
      obtain ⟨y, k⟩ := p
      rw [List.forIn_cons, hcl1]
      by_cases hk : (k == NameKind.free) = true
      · have hk' : k = .free := eq_of_beq hk
        have hl : ∃ k', env.scope.names.lookup y = some k' ∧ (k' = .cell ∨ k' = .free) := by
          rcases hp (y, k) (by simp) hk' with e | e
          · exact ⟨_, e, .inl rfl⟩
          · exact ⟨_, e, .inr rfl⟩
        obtain ⟨k', e, hk2⟩ := hl
        have hc := (K.cell _ _ _ (place_of e) hk2).1
        have ec : cellOf env y = pure (nthA cs (place env.scope.names y)) := by unfold cellOf; rw [hc, nthA_eq]
        simp only [hk, if_true, ec]
        exact ih _ fun p hp' => hp p (by simp [hp'])
      · simp only [hk, Bool.false_eq_true, if_false]
        exact ih _ fun p hp' => hp p (by simp [hp'])
  exact (congrArg (fun t : Sem (List (Str × Addr)) => t >>= fun cs => pure cs) (g sc.names [] h)).trans rfl

noncomputable def clOf (ons : List (Str × NameKind)) (cs : List Addr) : List (Str × NameKind) → List (Str × Addr) → List (Str × Addr)
  | [], acc => acc
  | p :: r, acc => clOf ons cs r (if p.2 == .free then (p.1, nthA cs (place ons p.1)) :: acc else acc)
theorem clOf_lookup {ons : List (Str × NameKind)} {x : Str} : ∀ (l : List (Str × NameKind)) (acc : List (Str × Addr)), (acc.lookup x = some (nthA cs (place ons x)) ∨ (x, NameKind.free) ∈ l) →
    (∀ p ∈ acc, p.1 = x → p.2 = nthA cs (place ons x)) → (clOf ons cs l acc).lookup x = some (nthA cs (place ons x))
  | [], acc, h, _ => by
    rcases h with h | h
    · exact h
    · (first | exact nS h | exact nO h | exact nF h | exact nT h | exact nN h | exact nC h | cases h)
  | (y, k) :: r, acc, h, hacc => by
    unfold clOf
    by_cases hk : (k == NameKind.free) = true
    · simp only [hk, if_true]
      refine clOf_lookup r _ ?_ fun p hp e => ?_
      · by_cases hxy : x = y
        · subst hxy; exact .inl (by simp [List.lookup])
        · have e1 : (x == y) = false := by simpa using hxy
          rcases h with h | h
          · exact .inl (by rw [List.lookup_cons, e1]; exact h)
          · rcases List.mem_cons.mp h with e | h
            · (first | exact nS e | exact nO e | exact nF e | exact nT e | exact nN e | exact nC e | cases e); exact absurd rfl hxy
            · exact .inr h
      · rcases List.mem_cons.mp hp with rfl | hp
        · simp only at e; subst e; rfl
        · exact hacc p hp e
    · simp only [hk, Bool.false_eq_true, if_false]
      refine clOf_lookup r acc ?_ hacc
      rcases h with h | h
      · exact .inl h
      · rcases List.mem_cons.mp h with e | h
        · (first | exact nS e | exact nO e | exact nF e | exact nT e | exact nN e | exact nC e | cases e); simp at hk
        · exact .inr h

theorem rl_names (K : EnvOK W env cs) (sc : Scope) : (relabel sc env).names = rl env.scope.names sc.names := by
  unfold relabel rl
  have hk : (env.scope.kind == ScopeKind.function) = true := by rw [K.kind]; rfl
  simp only [hk]
  rfl
theorem rl_get {ns inner : List (Str × NameKind)} {i : Nat} {x : Str} {k : NameKind} (h : (rl ns inner)[i]? = some (x, k)) : ∃ k', inner[i]? = some (x, k') ∧ (k = k' ∨ k = .cell ∧ k' = .free) := by
  unfold rl at h
  rw [List.getElem?_map] at h
  cases e : inner[i]? with
  | none => rw [e] at h; (first | exact nS h | exact nO h | exact nF h | exact nT h | exact nN h | exact nC h | cases h)
  | some p =>
    obtain ⟨y, k'⟩ := p
    rw [e] at h
    simp only [Option.map_some, Option.some.injEq] at h
    split at h
    · rename_i hc
      simp only [Bool.and_true, Bool.and_eq_true] at hc
      (first | exact nS h | exact nO h | exact nF h | exact nT h | exact nN h | exact nC h | cases h)
      exact ⟨k', rfl, .inr ⟨rfl, eq_of_beq hc.1⟩⟩
    · (first | exact nS h | exact nO h | exact nF h | exact nT h | exact nN h | exact nC h | cases h); exact ⟨_, rfl, .inl rfl⟩
theorem rl_map (ns inner : List (Str × NameKind)) : (rl ns inner).map (·.1) = inner.map (·.1) := by
  unfold rl
  rw [List.map_map]
  apply List.map_congr_left
  intro p _
  obtain ⟨y, k⟩ := p
  simp only [Function.comp]
  split <;> rfl

theorem scOk_facts {ns : List (Str × NameKind)} {sc : Scope} {x : Str} (h : scOk ns sc x = true) : sc.kind = .function ∧ (sc.names.map (·.1)).Nodup ∧ sc.names.lookup x = some .local ∧ (∀ p ∈ sc.names, p.2 ≠ .cell) ∧ (∀ p ∈ sc.names, p.1 ≠ ("__classdict__" : Str)) ∧
    (∀ p ∈ sc.names, p.2 = .free → ns.lookup p.1 = some .cell ∨ ns.lookup p.1 = some .free) := by
  unfold scOk at h
  simp only [Bool.and_eq_true, decide_eq_true_eq, beq_iff_eq, List.all_eq_true, bne_iff_ne, Bool.or_eq_true] at h
  obtain ⟨⟨⟨h1, h2⟩, h3⟩, h4⟩ := h
  refine ⟨h1, h2, h3, fun p hp => (h4 p hp).1.1, fun p hp => (h4 p hp).1.2, fun p hp e => ?_⟩
  rcases (h4 p hp).2 with (q | q) | q
  · exact absurd e q
  · exact .inl q
  · exact .inr q

theorem folded_ok {it : PySem.Expr} (h : noSet it = true) : ∀ x, foldedSetIterable it env x = pure x := by
  intro x; (first | exact nS it | exact nO it | exact nF it | exact nT it | exact nN it | exact nC it | cases it) <;> first | rfl | (first | exact nS h | exact nO h | exact nF h | exact nT h | exact nN h | exact nC h | cases h)
/-- the cells of a block: its own from m on, the others as they are -/
noncomputable def ownC : Nat → List (Str × NameKind) → List Addr → List Addr
  | _, [], _ => []
  | _, _ :: _, [] => []
  | m, p :: r, a :: l => if p.2 == .cell then m :: ownC (m + 1) r l else a :: ownC m r l
theorem ownC_no : ∀ (names : List (Str × NameKind)) (l : List Addr) (m : Nat), l.length = names.length → (∀ p ∈ names, p.2 ≠ .cell) → ownC m names l = l
  | [], [], _, _, _ => rfl
  | p :: r, a :: l, m, hl, h => by
    unfold ownC
    rw [if_neg (fun e => h p List.mem_cons_self (eq_of_beq e)), ownC_no r l m (Nat.succ.inj hl) fun q hq => h q (List.mem_cons_of_mem _ hq)]
theorem cset_no {b : Str → V} : ∀ (names : List (Str × NameKind)) (m : Nat) (σ : St), (∀ p ∈ names, p.2 ≠ .cell) → cset m names b σ = σ
  | [], _, _, _ => rfl
  | p :: r, m, σ, h => by
    unfold cset
    rw [if_neg (fun e => h p List.mem_cons_self (eq_of_beq e)), cset_no r m σ fun q hq => h q (List.mem_cons_of_mem _ hq)]
theorem ownC_get : ∀ (names : List (Str × NameKind)) (l : List Addr) (m i : Nat) (y : Str) (k : NameKind), l.length = names.length → names[i]? = some (y, k) → (ownC m names l)[i]? = some (if k == .cell then (caddrs m names).getD i 0 else l.getD i 0)
  | [], _, _, _, _, _, _, h => by (first | exact nS h | exact nO h | exact nF h | exact nT h | exact nN h | exact nC h | cases h)
  | p :: r, [], _, _, _, _, hl, _ => by (first | exact nS hl | exact nO hl | exact nF hl | exact nT hl | exact nN hl | exact nC hl | cases hl)
  | p :: r, a :: l, m, 0, y, k, hl, h => by
    (first | exact nS h | exact nO h | exact nF h | exact nT h | exact nN h | exact nC h | cases h)
    unfold ownC caddrs
    by_cases hk : (k == NameKind.cell) = true
    · rw [if_pos hk, if_pos hk, if_pos hk]; rfl
    · rw [if_neg hk, if_neg hk]; rfl
  | p :: r, a :: l, m, i + 1, y, k, hl, h => by
    have ih := fun m => ownC_get r l m i y k (Nat.succ.inj hl) h
    unfold ownC caddrs
    by_cases hk : (p.2 == NameKind.cell) = true
    · rw [if_pos hk, if_pos hk]; exact ih (m + 1)
    · rw [if_neg hk, if_neg hk]; exact ih m
theorem ownC_len : ∀ (names : List (Str × NameKind)) (l : List Addr) (m : Nat), l.length = names.length → (ownC m names l).length = names.length
  | [], _, _, _ => rfl
  | _ :: _, [], _, h => by (first | exact nS h | exact nO h | exact nF h | exact nT h | exact nN h | exact nC h | cases h)
  | p :: r, a :: l, m, h => by
    unfold ownC
    split <;> rw [List.length_cons, List.length_cons, ownC_len r l _ (Nat.succ.inj h)]
/-- what is asked of a block's names -/
structure Blk (ns : List (Str × NameKind)) (sc : Scope) : Prop where
  kind : sc.kind = .function
  nodup : (sc.names.map (·.1)).Nodup
  nocls : ∀ p ∈ sc.names, p.1 ≠ ("__classdict__" : Str)
  free : ∀ p ∈ sc.names, p.2 = .free → ns.lookup p.1 = some .cell ∨ ns.lookup p.1 = some .free
noncomputable def cmOf (c : Cx) (sc : Scope) : List Addr := (sc.names.map fun p => place c.ns p.1).map (nthA c.cs)
theorem cmOf_len (c : Cx) (sc : Scope) : (cmOf c sc).length = sc.names.length := by unfold cmOf; rw [List.length_map, List.length_map]
/-- the environment of a comprehension's block -/
theorem compEnv_ok {sc : Scope} (B : Blk c.ns sc) (C : Addr) :
    EnvOK c.W (compEnvC sc (cellsFrom (C + 1) sc.names (clOf c.ns c.cs sc.names [])) C c.env) (ownC (C + 1) sc.names (cmOf c sc)) := by
  have hnm : (compEnvC sc (cellsFrom (C + 1) sc.names (clOf c.ns c.cs sc.names [])) C c.env).scope.names = rl c.ns sc.names := rl_names c.ok sc
  refine ⟨B.kind, c.ok.glob, c.ok.bts, by rw [hnm, rl_map]; exact B.nodup, fun i y k hi hk => ?_, fun P hP => ?_⟩
  · rw [hnm] at hi
    obtain ⟨k', e, hk'⟩ := rl_get hi
    refine ⟨?_, B.nocls _ (List.mem_of_getElem? e)⟩
    show (cellsFrom (C + 1) sc.names (clOf c.ns c.cs sc.names [])).lookup y = _
    rw [List.getD_eq_getElem?_getD, ownC_get _ _ _ _ _ _ (cmOf_len c sc) e]
    by_cases hc : k' = .cell
    · rw [hc] at e ⊢
      exact cellsFrom_get _ _ _ _ B.nodup e
    · have hf : k' = .free := by
        rcases hk' with rfl | ⟨_, e'⟩
        · exact hk.resolve_left hc
        · exact e'
      rw [hf] at e ⊢
      have := clOf_lookup (ons := c.ns) (cs := c.cs) sc.names [] (.inr (List.mem_of_getElem? e)) (fun p hp => nomatch hp)
      rw [cellsFrom_keep sc.names _ _ (fun p hp q => ?_) this]
      · congr 1
        show _ = (cmOf c sc).getD i 0
        unfold cmOf
        rw [List.getD_eq_getElem?_getD, List.getElem?_map, List.getElem?_map, e]; rfl
      · obtain ⟨j, hj⟩ := List.getElem?_of_mem hp
        have h1 := (nodup_lookup B.nodup (show sc.names[j]? = some (y, p.2) by rw [hj, ← q])).1
        rw [(nodup_lookup B.nodup e).1] at h1
        rw [← Option.some.inj h1]; nofun
  · rw [hnm, show (rl c.ns sc.names).length = sc.names.length by unfold rl; rw [List.length_map], List.getElem?_eq_none (by rw [ownC_len _ _ _ (cmOf_len c sc)]; exact Nat.le_refl _)] at hP
    (first | exact nS hP | exact nO hP | exact nF hP | exact nT hP | exact nN hP | exact nC hP | cases hP)
noncomputable def compCx (c : Cx) {sc : Scope} (B : Blk c.ns sc) (C : Addr) : Cx := ⟨c.W, c.n, c.gl, _, _, compEnv_ok B C, c.G⟩
theorem compCx_ns {sc : Scope} (B : Blk c.ns sc) (C : Addr) : (compCx c B C).ns = rl c.ns sc.names := rl_names c.ok sc
theorem compCx_x {sc : Scope} (B : Blk c.ns sc) (C : Addr) {e : PySem.Expr} (he : SE k e) {Q : V → St → Prop} (hx : xW c.W c.n (er c.gl k (rl c.ns sc.names) e) (compCx c B C).cs fr σ Q) : GV (compCx c B C) fr σ (eval e (compCx c B C).env) fun v => Q (ab v) :=
  he (compCx c B C) fr σ Q (by rw [compCx_ns]; exact hx)
theorem scOk_blk {ns : List (Str × NameKind)} {sc : Scope} {x : Str} (h : scOk ns sc x = true) : Blk ns sc := let ⟨h1, h2, _, _, h5, h6⟩ := scOk_facts h; ⟨h1, h2, h5, h6⟩
theorem wpW {α : Type} {M : Model} {t : Sem α} {Z : α → Shared → Prop} {E : Value → Shared → Prop} (h : wpAny M A t Z NoE s) : wpAny M A t Z E s := wpAny_mono h (fun _ _ q => q) fun _ _ x => x.elim
noncomputable def tests (ifs : List PySem.Expr) (env : Env) (b : Bool) : Sem Bool := forIn ifs b fun c r => if r = true then do let ok ← isTrue c env (eval c env); pure (ForInStep.yield ok) else pure (ForInStep.yield r)
theorem tests_no {Q : Bool → St → Prop} (q : Q false σ) : ∀ ifs : List PySem.Expr, GV c fr σ (tests ifs c.env false) Q
  | [] => GV.pure q
  | _ :: r => by
    unfold tests; rw [List.forIn_cons]
    exact GV.bind (GV.pure (a := ForInStep.yield false) (Q := fun a σ' => a = .yield false ∧ σ' = σ) ⟨rfl, rfl⟩) fun a σ1 h => by rw [h.1, h.2]; exact tests_no q r
theorem tests_ok : ∀ (ifs : List PySem.Expr), (∀ e ∈ ifs, ST k e) → ∀ (c : Cx) fr σ Q, c.t (andX (ifs.map (er c.gl k c.ns))) fr σ Q → GV c fr σ (tests ifs c.env true) Q
  | [], _ => fun c fr σ Q h => GV.pure h
  | [e], hs => fun c fr σ Q h => by
    unfold tests; rw [List.forIn_cons]
    refine GV.bind (Q1 := fun a σ' => ∃ b, a = .yield b ∧ Q b σ') (GV.bind (hs e (.head _) c fr σ Q h) fun b σ1 h1 => GV.pure ⟨b, rfl, h1⟩) fun a σ1 h => ?_
    obtain ⟨b, rfl, h⟩ := h
    exact GV.pure h
  | e :: e' :: r, hs => fun c fr σ Q h => by
    unfold tests; rw [List.forIn_cons]
    refine GV.bind (Q1 := fun a σ' => ∃ b, a = .yield b ∧ if b = true then c.t (andX ((e' :: r).map (er c.gl k c.ns))) fr σ' Q else Q false σ') (GV.bind (hs e (.head _) c fr σ _ h) fun b σ1 h1 => GV.pure ⟨b, rfl, h1⟩) fun a σ1 h => ?_
    obtain ⟨b, rfl, h⟩ := h
    exact gv_if (t := fun b => tests (e' :: r) c.env b) h (fun h => tests_ok (e' :: r) (fun v hv => hs v (.tail _ hv)) c fr σ1 Q h) fun h => tests_no h _
end Mine

end
section -- B12
namespace Mine
variable {W : Wd} {n k : Nat} {c : Cx} {env : Env} {cs : List Addr} {fr : List V} {σ σ' : St} {A : Around} {s s' : Shared} {L : Addr → Prop}

theorem frame_set {ns : List (Str × NameKind)} {x : Str} {v : Value} {m : Str → Option Value} (hn : (ns.map (·.1)).Nodup) (hx : ns.lookup x = some .local) (hf : FrameR ns fr m) :
    FrameR ns (setN fr (place ns x) (ab v)) (fun y => if y = x then some v else m y) := by
  intro i y hi hu
  rw [setN_eq] at hu ⊢
  by_cases e : i = place ns x
  · have h1 := place_of hx
    rw [← e, hi] at h1
    have hyx : y = x := (Prod.mk.inj (Option.some.inj h1)).1
    subst hyx
    refine ⟨v, if_pos rfl, ?_⟩
    rw [List.getD_eq_getElem?_getD, List.getElem?_set, if_pos e.symm] at hu ⊢
    split
    · rfl
    · rename_i hlt; rw [if_neg hlt] at hu; exact absurd rfl hu
  · have hne : y ≠ x := fun q => by
      subst q
      exact e (nodup_lookup hn hi).2.symm
    rw [List.getD_eq_getElem?_getD, List.getElem?_set_ne (fun q => e q.symm), ← List.getD_eq_getElem?_getD] at hu ⊢
    obtain ⟨v', h1, h2⟩ := hf i y hi hu
    exact ⟨v', (if_neg hne).trans h1, h2⟩
/-- a local name is bound -/
theorem store_loc {x : Str} {vv : Value} (hl : c.ns.lookup x = some .local) (r : Rel c.W.H A c.env σ fr s) {Z : Unit → Shared → Prop} {E : Value → Shared → Prop} (z : ∀ s', Rel c.W.H A c.env σ (setN fr (place c.ns x) (ab vv)) s' → Stp (At c.env.locals) σ s σ s' → Only c.env.locals s s' → (∃ m, s'.heap.Ns c.env.locals (fun y => if y = x then some vv else m y) ∧ FrameR c.ns fr m) → Z () s') : wpAny c.W.M A (storeName c.env x vv) Z E s := by
  obtain ⟨m, hn, hf⟩ := r.ns
  refine wpAny_storeName_local hl hn (fun h' hn' hs' => ?_) (by rw [c.ok.kind]; rfl)
  have hk : ∀ b o, ¬ At c.env.locals b → s.heap.get? b = some o → h'.get? b = some o := fun b o hb e => (hs'.2 b hb).trans e
  refine z _ ⟨r.toRelG.hidden (L := At c.env.locals) (fun b hb => by rw [show b = c.env.locals from hb]; exact ⟨r.off, r.new⟩) hk, ⟨_, hn', frame_set c.ok.nodup hl hf⟩, r.off, r.new, r.frs.at hs' hn'⟩ ?_ ⟨fun b o hb e => hk b o hb e, h', _, rfl⟩ ⟨m, hn', hf⟩
  exact .hidden hk (fun b o hb _ => by rw [show b = c.env.locals from hb]; obtain ⟨o, _, _, e, _⟩ := hn'; exact ⟨o, e⟩) ⟨h', _, rfl⟩
/-- a slot is forgotten -/
theorem Rel.unset {H : Heap} {i : Nat} {v : V} (r : Rel H A env σ (setN fr i v) s) (hi : nth fr i = .undef) : Rel H A env σ fr s :=
  ⟨r.toRelG, let ⟨m, hn, hf⟩ := r.ns; ⟨m, hn, fun j y hj hu => by
    have e : (setN fr i v).getD j .undef = fr.getD j .undef := by
      rw [setN_eq, List.getD_eq_getElem?_getD, List.getElem?_set_ne (fun q => hu (by rw [← q, ← nth_eq]; exact hi)), ← List.getD_eq_getElem?_getD]
    have := hf j y hj (by rw [e]; exact hu)
    rw [e] at this; exact this⟩, r.off, r.new, r.frs⟩
theorem nth_undefs : ∀ m i, nth (undefs m) i = .undef
  | 0, _ => rfl
  | _ + 1, 0 => rfl
  | m + 1, i + 1 => nth_undefs m i
theorem nth_setN : ∀ (l : List V) (i j : Nat) (v : V), i ≠ j → nth (setN l i v) j = nth l j
  | [], _, _, _, _ => rfl
  | _ :: _, 0, 0, _, h => absurd rfl h
  | _ :: _, 0, _ + 1, _, _ => rfl
  | _ :: _, _ + 1, 0, _, _ => rfl
  | _ :: r, i + 1, j + 1, v, h => nth_setN r i j v fun e => h (congrArg _ e)

/-- what a turn of it does: D is the row, the names are in c's block -/
noncomputable def Bdy (c : Cx) (D : Addr) (fr : List V) (σ : St) (acc : List V) (T : Around → (Shared → Prop) → Shared → Prop) (K : List V → St → Prop) : Prop :=
  ∀ A s Z (itD : Array Value), Room c.n A → Rel c.W.H A c.env σ fr s → s.heap.PlainList D itD → σ D = none → c.W.H.get? D = none → D ≠ c.env.locals → itD.toList.map ab = acc →
    (∀ acc' σ' s' (itD' : Array Value), K acc' σ' → Rel c.W.H A c.env σ' fr s' → s'.heap.PlainList D itD' → σ' D = none → itD'.toList.map ab = acc' → Stp (fun b => b = D ∨ b = c.env.locals) σ s σ' s' → Z s') → T A Z s
theorem pl_nd {D : Addr} {itD : Array Value} (h : s.heap.PlainList D itD) {o : Obj} (e : s.heap.get? D = some o) : ∀ es n, o.data ≠ .dict es n := fun es n q => by
  obtain ⟨m, e'⟩ := h; rw [e'] at e; (first | exact nS e | exact nO e | exact nF e | exact nT e | exact nN e | exact nC e | cases e); (first | exact nS q | exact nO q | exact nF q | exact nT q | exact nN q | exact nC q | cases q)
theorem PL.step {D : Addr} {itD : Array Value} (h : s.heap.PlainList D itD) (hσ : σ D = none) (t : Stp L σ s σ' s') (hL : ¬ L D) : s'.heap.PlainList D itD ∧ σ' D = none :=
  ⟨h.at fun o e => t.keep D o e (fun y hy => by rw [hσ] at hy; (first | exact nS hy | exact nO hy | exact nF hy | exact nT hy | exact nN hy | exact nC hy | cases hy)) hL (pl_nd h e), by obtain ⟨m, e⟩ := h; exact t.off hσ e⟩
section
variable {I D : Addr} {fp : List Addr} {xs : List V} {chk : St → Prop} {S : Nat → Heap → Prop} {x : Str} {px : Pos} {T : Around → (Shared → Prop) → Shared → Prop} {cd : Code} {R : Result → Shared → Prop}
  {bod : V → List V → St → (List V → St → Prop) → Prop} {fin : List V → St → Prop} {P : Nat → List V → Prop} {σ0 σb : St} {s0 sb : Shared} {acc0 : List V} {it0 : Array Value}
/-- the code of such a loop -/
noncomputable def Rule (W : Wd) (A : Around) (env : Env) (I : Addr) (x : Str) (px : Pos) (T : Around → (Shared → Prop) → Shared → Prop) (cd : Code) (R : Result → Shared → Prop) (s0 : Shared) : Prop :=
  ∀ Inv : Nat → Shared → Prop, (∀ n s, Inv n s → wpAny W.M A (pyNext (.ref I)) (fun r s1 => match r with
    | none => R (.ok .next) s1
    | some v => wpAny W.M A (assign (.Name x px) env v) (fun _ s2 => T A (fun s3 => ∃ m, m < n ∧ Inv m s3) s2) NoE s1) NoE s) → ∀ n, Inv n s0 → codeAny W.M A cd R s0
/-- between two turns -/
structure LI (c : Cx) (A : Around) (I D : Addr) (fp : List Addr) (S : Nat → Heap → Prop) (fr : List V) (σb : St) (sb : Shared) (i : Nat) (itD : Array Value) (σ : St) (s : Shared) : Prop where
  rel : Rel c.W.H A c.env σ fr s
  j : J I fp S i σ s
  d : s.heap.PlainList D itD
  od : σ D = none
  t : Stp (fun b => b = I ∨ (b = D ∨ b = c.env.locals)) σb sb σ s
/-- the target is bound, then the turn -/
noncomputable def storeT (c : Cx) (x : Str) (px : Pos) (v : Value) (T : Around → (Shared → Prop) → Shared → Prop) (A : Around) (Z : Shared → Prop) (s : Shared) : Prop :=
  wpAny c.W.M A (assign (.Name x px) c.env v) (fun _ s2 => T A Z s2) NoE s
theorem bdy_loc {v : Value} {acc : List V} {K : List V → St → Prop} (hx : c.ns.lookup x = some .local) (hu : nth fr (place c.ns x) = .undef) (h : Bdy c D (setN fr (place c.ns x) (ab v)) σ acc T K) : Bdy c D fr σ acc (storeT c x px v T) K := fun A s Z itD R r hd hσ hH hDC hacc z =>
  wpAny_assign_Name (store_loc hx r fun s2 r2 t2 o2 _ => h A s2 Z itD R r2 (hd.at fun o e => o2.keep D o hDC e) hσ hH hDC hacc fun acc' σ3 s3 itD3 q3 r3 d3 od3 e3 t3 => z acc' σ3 s3 itD3 q3 (r3.unset hu) d3 od3 e3 ((t2.weak fun b q => .inr q).trans t3))
/-- ahead of a turn -/
inductive CT (c : Cx) (A : Around) (I D : Addr) (fp : List Addr) (S : Nat → Heap → Prop) (fr : List V) (σb : St) (sb : Shared) (xs : List V) (chk : St → Prop) (bod : V → List V → St → (List V → St → Prop) → Prop) (fin : List V → St → Prop) (P : Nat → List V → Prop) (m : Nat) (s' : Shared) : Prop where
  | mk (i : Nat) (σ' : St) (acc : List V) (itD : Array Value) (hk : m = xs.length + 1 - i) (hi : i ≤ xs.length) (h : comp2W chk bod (xs.drop i) acc σ' fin) (hP : P i acc) (hacc : itD.toList.map ab = acc) (l : LI c A I D fp S fr σb sb i itD σ' s') : CT c A I D fp S fr σb sb xs chk bod fin P m s'
theorem loop_ok (X : Itr c.W A I fp xs chk S) (Rm : Room c.n A) (rule : Rule c.W A c.env I x px T cd R s0) (hID : I ≠ D) (hIC : I ≠ c.env.locals) (hDC : D ≠ c.env.locals) (hDf : D ∉ fp) (hCf : c.env.locals ∉ fp) (hI : c.W.H.get? I = none) (hD : c.W.H.get? D = none) (hIb : sb.heap.get? I = none)
    (hb : ∀ i v acc σ k, i < xs.length → P i acc → bod (ab v) acc σ k → Bdy c D fr σ acc (storeT c x px v T) fun acc' σ' => P (i + 1) acc' ∧ k acc' σ')
    (hc : comp2W chk bod xs acc0 σ0 fin) (h0 : P 0 acc0) (hi0 : it0.toList.map ab = acc0) (l0 : LI c A I D fp S fr σb sb 0 it0 σ0 s0)
    (z : ∀ acc σ' s' (itD : Array Value), fin acc σ' → P xs.length acc → Rel c.W.H A c.env σ' fr s' → s'.heap.PlainList D itD → itD.toList.map ab = acc → σ' D = none → Stp (fun b => b = D ∨ b = c.env.locals) σb sb σ' s' → R (.ok .next) s') : codeAny c.W.M A cd R s0 := by
  refine rule (CT c A I D fp S fr σb sb xs chk bod fin P) (fun k s' h => ?_) (xs.length + 1) ⟨0, σ0, acc0, it0, rfl, Nat.zero_le _, hc, h0, hi0, l0⟩
  clear l0 h0 hi0 hc rule
  obtain ⟨i, σ', acc, itD, hk, hi, hcw, hP, hacc, l⟩ := h
  have hfL : ∀ b ∈ fp, ¬ (b = D ∨ b = c.env.locals) := fun b hb q => q.elim (fun q => hDf (q ▸ hb)) fun q => hCf (q ▸ hb)
  by_cases hlt : i < xs.length
  · rw [drop_nth hlt] at hcw
    refine X.next l.j l.rel.toRelG hcw.1 hlt fun v s1 hv j1 o1 => ?_
    have r1 := l.rel.only o1 l.j.2.1 hI (Ne.symm hIC) (X.nod l.j)
    have d1 : s1.heap.PlainList D itD := l.d.at fun o e => o1.keep D o (Ne.symm hID) e
    have t1 : Stp (fun b => b = I ∨ (b = D ∨ b = c.env.locals)) σ' s' σ' s1 := .only o1 (.inl rfl) (X.alive _ _ j1.1 I X.mem)
    have hcw2 := hcw.2
    rw [← hv] at hcw2
    refine hb i v acc σ' _ hlt hP hcw2 A s1 _ itD Rm r1 d1 l.od hD hDC hacc fun acc' σ3 s3 itD3 q3 r3 d3 od3 e3 t3 => ⟨_, by rw [hk]; exact Nat.sub_succ_lt_self _ _ (Nat.lt_succ_of_lt hlt), i + 1, σ3, acc', itD3, rfl, hlt, q3.2, q3.1, e3, r3, j1.step X t3 hfL, d3, od3, ?_⟩
    exact (l.t.trans t1).trans (t3.weak fun b q => .inr q)
  · have hin : i = xs.length := Nat.le_antisymm hi (Nat.not_lt.mp hlt)
    rw [hin] at l hcw hP
    rw [List.drop_of_length_le (Nat.le_refl _)] at hcw
    exact X.stop l.j l.rel.toRelG hcw.1 fun s1 o1 => z acc σ' s1 itD hcw.2 hP (l.rel.only o1 l.j.2.1 hI (Ne.symm hIC) (X.nod l.j)) (l.d.at fun o e => o1.keep D o (Ne.symm hID) e) hacc l.od (l.t.endW o1 hIb)
end
end Mine

end
section -- B13
namespace Mine
variable {W : Wd} {n k : Nat} {c : Cx} {env : Env} {cs : List Addr} {fr : List V} {σ σ' : St} {A : Around} {s s' : Shared} {L : Addr → Prop}

/-- the element goes behind the row -/
noncomputable def emitT (W : Wd) (D : Addr) (elt : PySem.Expr) (env : Env) (A : Around) (Z : Shared → Prop) (s : Shared) : Prop :=
  wpAny W.M A (eval elt env) (fun x s4 => wpAny W.M A (call (.builtin "list.append") [.ref D, x]) (fun _ s5 => Z s5) NoE s4) NoE s
noncomputable def testT (W : Wd) (D : Addr) (ifs : List PySem.Expr) (elt : PySem.Expr) (env : Env) (A : Around) (Z : Shared → Prop) (s : Shared) : Prop :=
  wpAny W.M A (tests ifs env true) (fun ok s3 => if ok = true then emitT W D elt env A Z s3 else Z s3) NoE s
theorem emit_ok {D : Addr} {elt : PySem.Expr} {acc : List V} {K : List V → St → Prop} (hz : acc.length + 1 ≤ lim) (h : GV c fr σ (eval elt c.env) fun y σ' => K (acc ++ [ab y]) σ') : Bdy c D fr σ acc (emitT c.W D elt c.env) K := fun A s Z itD R r hd hσ hH hDC hacc z => by
  refine h A s _ R r fun y σ1 s1 q g t => ?_
  obtain ⟨d1, od1⟩ := PL.step hd hσ t id
  have hsz : itD.size ≤ lim := by rw [← hacc, List.length_map] at hz; exact Nat.le_of_succ_le hz
  refine wpAny_list_append_plain d1 (fun h8 hpl8 hs8 => ?_) (Nat.le_trans hsz lim_le)
  have o8 : Only D s1 { s1 with heap := h8 } := ⟨fun b o hb e => (hs8.2 b hb).trans e, h8, s1.toks, rfl⟩
  have r1 := r.step g t
  refine z _ σ1 _ _ q (r1.only o8 od1 hH (Ne.symm hDC) fun o es n e => pl_nd d1 e es n) hpl8 od1 (by rw [Array.toList_push, List.map_append, hacc]; rfl) (t.up.trans (.only o8 (.inl rfl) ?_))
  obtain ⟨m, e⟩ := hpl8; exact ⟨_, e⟩
theorem test_ok {D : Addr} {ifs : List PySem.Expr} {elt : PySem.Expr} {acc : List V} {K : List V → St → Prop} (hz : acc.length + 1 ≤ lim) (h : GV c fr σ (tests ifs c.env true) fun b σ1 => if b = true then GV c fr σ1 (eval elt c.env) (fun y σ' => K (acc ++ [ab y]) σ') else K acc σ1) : Bdy c D fr σ acc (testT c.W D ifs elt c.env) K := fun A s Z itD R r hd hσ hH hDC hacc z => by
  refine h A s _ R r fun b σ1 s1 q g t => ?_
  obtain ⟨d1, od1⟩ := PL.step hd hσ t id
  have r1 := r.step g t
  cases b with
  | false => exact z acc σ1 s1 itD q r1 d1 od1 hacc t.up
  | true => exact emit_ok hz q A s1 Z itD R r1 d1 od1 hH hDC hacc fun acc' σ2 s2 itD2 q2 r2 d2 od2 e2 t2 => z acc' σ2 s2 itD2 q2 r2 d2 od2 e2 (t.up.trans t2)

section
variable {elt it it' : PySem.Expr} {ifs : List PySem.Expr} {x y : Str} {px py pos : Pos} {sc : Scope} {I D : Addr} {R : Result → Shared → Prop}
theorem rule_one : Rule W A env I x px (testT W D ifs elt env) (.compLoop (.ListComp elt [⟨.Name x px, it, ifs, 0⟩] sc pos) 0 (.ref I) (.ref D) env) R s := fun Inv turn n h =>
  codeAny_compLoop_tests Inv (fun n s hI => wpAny_mono (wpW (turn n s hI)) (fun r s1 h1 => by
    cases r with
    | none => exact h1
    | some v => exact wpAny_mono (wpW h1) (fun _ s2 h2 => wpAny_mono (wpW h2) (fun ok s3 h3 => by
        cases ok with
        | false => exact h3
        | true => exact wpAny_mono (wpW h3) (fun x s4 h4 => wpW h4) fun _ _ e => e) fun _ _ e => e) fun _ _ e => e) fun _ _ e => e) n h
/-- the outer of two clauses -/
noncomputable def outT (W : Wd) (e : PySem.Expr) (D : Addr) (it' : PySem.Expr) (env : Env) (A : Around) (Z : Shared → Prop) (s : Shared) : Prop :=
  wpAny W.M A (eval it' env) (fun x s1 => wpAny W.M A (pyIter x) (fun i s2 => codeAny W.M A (.compStart e 1 i (.ref D) env) (fun r s' => match r with
    | .ok _ => Z s'
    | .error _ => False) s2) NoE s1) NoE s
theorem turn_out (acc itv : Value) : compTurn (.ListComp elt [⟨.Name x px, it, [], 0⟩, ⟨.Name y py, it', [], 0⟩] sc pos) 0 itv acc env = (standAt it.pos >>= fun _ => pyNext itv >>= fun r => match r with
    | none => pure (.done .next)
    | some v => letOwnedTupleGo (.Name x px) itv v >>= fun _ => assign (.Name x px) env v >>= fun _ => eval it' env >>= fun x' => standAt it'.pos >>= fun _ => foldedSetIterable it' env x' >>= fun x' => holding [x'] (pyIter x') >>= fun i =>
      runOwn (.compStart (.ListComp elt [⟨.Name x px, it, [], 0⟩, ⟨.Name y py, it', [], 0⟩] sc pos) 1 i acc env) env >>= fun _ => again (.compLoop (.ListComp elt [⟨.Name x px, it, [], 0⟩, ⟨.Name y py, it', [], 0⟩] sc pos) 0 itv acc env)) := rfl
theorem turn_in (acc itv : Value) : compTurn (.ListComp elt [⟨.Name x px, it, [], 0⟩, ⟨.Name y py, it', [], 0⟩] sc pos) 1 itv acc env = (standAt it'.pos >>= fun _ => pyNext itv >>= fun r => match r with
    | none => pure (.done .next)
    | some v => letOwnedTupleGo (.Name y py) itv v >>= fun _ => assign (.Name y py) env v >>= fun _ => (eval elt env >>= fun x => call (.builtin "list.append") [acc, x] >>= fun _ => pure ()) >>= fun _ =>
      again (.compLoop (.ListComp elt [⟨.Name x px, it, [], 0⟩, ⟨.Name y py, it', [], 0⟩] sc pos) 1 itv acc env)) := rfl
theorem rule_in : Rule W A env I y py (emitT W D elt env) (.compLoop (.ListComp elt [⟨.Name x px, it, [], 0⟩, ⟨.Name y py, it', [], 0⟩] sc pos) 1 (.ref I) (.ref D) env) R s := fun Inv turn n h => by
  refine codeAny_loop rfl Inv (fun n s hI => ?_) n h
  show wpAny _ A ((compTurn (.ListComp elt [⟨.Name x px, it, [], 0⟩, ⟨.Name y py, it', [], 0⟩] sc pos) 1 (.ref I) (.ref D) env).onRaise (fun x => do noteFrame x env; theTreesLotGoes x)) _ _ s
  refine wpAny_noted ?_
  rw [turn_in]
  refine wpAny_bind (wpAny_standAt (wpAny_bind (wpAny_mono (wpW (turn n s hI)) (fun r s1 h1 => ?_) fun _ _ e => e)))
  cases r with
  | none => exact wpAny_pure h1
  | some v => exact wpAny_bind (wpAny_pure (wpAny_bind (wpAny_mono (wpW h1) (fun _ s2 h2 => wpAny_bind (wpAny_bind (wpAny_mono (wpW h2) (fun x s4 h4 => wpAny_bind (wpAny_mono (wpW h4) (fun _ s5 h5 => wpAny_pure (wpAny_pure ⟨rfl, h5⟩)) fun _ _ e => e)) fun _ _ e => e))) fun _ _ e => e)))
theorem rule_out (hns : noSet it' = true) : Rule W A env I x px (outT W (.ListComp elt [⟨.Name x px, it, [], 0⟩, ⟨.Name y py, it', [], 0⟩] sc pos) D it' env) (.compLoop (.ListComp elt [⟨.Name x px, it, [], 0⟩, ⟨.Name y py, it', [], 0⟩] sc pos) 0 (.ref I) (.ref D) env) R s := fun Inv turn n h => by
  refine codeAny_loop rfl Inv (fun n s hI => ?_) n h
  show wpAny _ A ((compTurn (.ListComp elt [⟨.Name x px, it, [], 0⟩, ⟨.Name y py, it', [], 0⟩] sc pos) 0 (.ref I) (.ref D) env).onRaise (fun x => do noteFrame x env; theTreesLotGoes x)) _ _ s
  refine wpAny_noted ?_
  rw [turn_out]
  refine wpAny_bind (wpAny_standAt (wpAny_bind (wpAny_mono (wpW (turn n s hI)) (fun r s1 h1 => ?_) fun _ _ e => e)))
  cases r with
  | none => exact wpAny_pure h1
  | some v =>
    refine wpAny_bind (wpAny_pure (wpAny_bind (wpAny_mono (wpW h1) (fun _ s2 h2 => wpAny_bind (wpAny_mono (wpW h2) (fun x' s3 h3 => wpAny_bind (wpAny_standAt ?_)) fun _ _ e => e)) fun _ _ e => e)))
    rw [folded_ok hns]
    refine wpAny_bind (wpAny_pure (wpAny_bind (wpAny_holding (wpAny_mono (wpW h3) (fun i s4 h4 => wpAny_bind (wpAny_runOwn ?_)) fun _ _ e => e))))
    exact codeAny_mono h4 fun r s' h5 => by
      cases r with
      | ok f => exact wpAny_pure ⟨rfl, h5⟩
      | error e => exact h5.elim
end
end Mine

end
section -- B14
namespace Mine
variable {W : Wd} {n k : Nat} {c : Cx} {env : Env} {cs : List Addr} {fr : List V} {σ σ' : St} {A : Around} {s s' : Shared} {L : Addr → Prop}

theorem start_in {elt it it' : PySem.Expr} {x y : Str} {px py pos : Pos} {sc : Scope} {itv acc : Value} {R : Result → Shared → Prop}
    (h0 : codeAny W.M A (.compLoop (.ListComp elt [⟨.Name x px, it, [], 0⟩, ⟨.Name y py, it', [], 0⟩] sc pos) 1 itv acc env) R s)
    (h : wpAny W.M A (pyIter itv) (fun i s' => codeAny W.M A (.compLoop (.ListComp elt [⟨.Name x px, it, [], 0⟩, ⟨.Name y py, it', [], 0⟩] sc pos) 1 i acc env) R s') NoE s) :
    codeAny W.M A (.compStart (.ListComp elt [⟨.Name x px, it, [], 0⟩, ⟨.Name y py, it', [], 0⟩] sc pos) 1 itv acc env) R s := by
  refine codeAny_of_tree ?_
  show wpAny _ _ ((compStart (.ListComp elt [⟨.Name x px, it, [], 0⟩, ⟨.Name y py, it', [], 0⟩] sc pos) 1 itv acc env).onRaise (fun x => do noteFrame x env; standAt theWindowsPlace)) _ _ s
  refine wpAny_notedAt ?_
  unfold compStart
  show wpAny _ _ (ask >>= _) _ _ s
  refine wpAny_bind (wpAny_askSetting (wpAny_ite ?_))
  split
  · first
      | exact wpAny_bind (wpAny_pure (wpAny_pure (And.intro rfl h0)))
      | exact wpAny_pure (And.intro rfl h0)
  · first
      | exact wpAny_bind (wpAny_rule (wpAny_bind (wpAny_standAt (wpAny_bind (wpAny_mono (wpW h) (fun it' s' h' => wpAny_pure (And.intro rfl h')) fun _ _ x => x)))))
      | (refine wpAny_bind (wpAny_rule ?_); show wpAny _ _ (standAt it'.pos >>= _) _ _ s; exact wpAny_bind (wpAny_standAt (wpAny_bind (wpAny_mono (wpW h) (fun it' s' h' => wpAny_pure (And.intro rfl h')) fun _ _ x => x))))

/-- how a comprehension goes on with its row -/
noncomputable def CEnd (W : Wd) (A : Around) (σ : St) (s : Shared) (use : Option (Value → Sem Unit)) (Q : V → St → Prop) (Z : Value → Shared → Prop) : Prop :=
  ∀ D C s' σ', Q (.ref D) σ' → RelG W.H σ' s' → Stp No σ s σ' s' → (∃ m, s'.heap.Ns C m) → σ' C = none → W.H.get? C = none → s.heap.get? C = none → compPost W.M A NoE use Z (.ref D) C (.ok .next) s'
theorem RelG.show {H : Heap} {D : Addr} {itD : Array Value} {acc : List V} (g : RelG H σ s) (hd : s.heap.PlainList D itD) (ha : itD.toList.map ab = acc) (hz : acc.length ≤ lim) (hH : H.get? D = none) : RelG H (σ.set D (.lst acc)) s := by
  refine ⟨g.base, fun b z e => ?_, fun b z e hz => ?_⟩
  · by_cases hb : b = D
    · rw [hb, St.set_same] at e; (first | exact nS e | exact nO e | exact nF e | exact nT e | exact nN e | exact nC e | cases e); rw [hb]; exact ⟨itD, hd, ha, hz⟩
    · rw [St.set_other _ _ hb] at e; exact g.objs b z e
  · by_cases hb : b = D
    · rw [hb]; exact hH
    · rw [St.set_other _ _ hb] at e; exact g.own b z e hz
theorem Stp.show {D : Addr} {x : O} (t : Stp L σ s σ' s') (h : s.heap.get? D = none) : Stp L σ s (σ'.set D x) s' :=
  ⟨t.keep, t.look, fun b z e => by
    by_cases hb : b = D
    · rw [hb]; exact .inr h
    · rw [St.set_other _ _ hb] at e; exact t.dom b z e, t.alive, t.rest⟩
theorem newEnv_around {M : Model} {E : Value → Shared → Prop} {scope : Scope} {globals : Addr} {cl : List (Str × Addr)} {qual : Str} {env : Env} {Q : Env → Shared → Prop}
    (hQ : Q { scope := scope, locals := s.heap.objs.size, globals := globals, cells := cellsFrom (s.heap.objs.size + 1) scope.names cl, qual := qual, func := none, code := env.code, frame := env.frame, builtins := env.builtins } { s with heap := pushCells (s.heap.push { cls := .type "dict", data := .dict #[] }) scope.names }) :
    wpAny M A (newFunctionEnv scope globals cl [] qual none .none (some env)) Q E s := by
  simp only [newFunctionEnv, Option.isSome_some, if_true]
  refine wpAny_bind (wpAny_alloc (wpAny_bind (wpAny_layCells _ (fun name kind cells => by cases hkc : kind == NameKind.cell <;> simp [hkc]) _ _ _ _ ?_)))
  rw [show ({ s with heap := s.heap.push { cls := .type "dict", data := .dict #[] } } : Shared).heap.objs.size = s.heap.objs.size + 1 from Heap.size_push .., List.forIn_nil]
  exact wpAny_bind (wpAny_pure (wpAny_pure hQ))
/-- the own cells of a new block -/
theorem cells_new {H : Heap} {m : Nat} {names : List (Str × NameKind)} {b : Str → V} (r : RelG H σ s) (hn : (names.map (·.1)).Nodup) (hk : ∀ b o, s.heap.get? b = some o → s'.heap.get? b = some o) (hrest : ∃ h t, s' = { s with heap := h, toks := t }) (hnew : ∀ j, m ≤ j → s.heap.get? j = none)
    (hc : ∀ y a, (cellsFrom m names []).lookup y = some a → ObjR s'.heap a (.cell (b y))) : RelG H (cset m names b σ) s' ∧ Stp No σ s (cset m names b σ) s' := by
  refine ⟨⟨fun b o e => hk b o (r.base b o e), fun a z e => ?_, fun a z e hm => ?_⟩, .of (fun b o e _ _ => hk b o e) (fun b z e => ?_) (fun b o e => ⟨o, hk b o e⟩) hrest⟩
  · rcases cset_spec names _ _ _ _ e with e | ⟨hm, i, y, h1, h2, rfl⟩
    · exact (r.objs a z e).at fun o => hk a o
    · exact hc y a (by rw [cellsFrom_get names _ _ [] hn h1, List.getD_eq_getElem?_getD, h2]; rfl)
  · rcases cset_spec names _ _ _ _ e with e | ⟨hm', _⟩
    · exact r.own a z e hm
    · exact r.offbase (hnew a hm')
  · rcases cset_spec names _ _ _ _ e with e | ⟨hm', _⟩
    · exact .inl ⟨z, e, id⟩
    · exact .inr (hnew b hm')
theorem comp_open {elt it : PySem.Expr} {ifs : List PySem.Expr} {gs : List Comprehension} {x : Str} {px pos pos' : Pos} {sc : Scope} {use : Option (Value → Sem Unit)} {Z : Value → Shared → Prop} {Q : V → St → Prop} {K : List V → (St → Prop) → St → Prop}
    (B : Blk c.ns sc) (hns : noSet it = true) (hit : GV c fr σ (eval it c.env) fun v σ1 => iterW (ab v) σ1 fun xs chk => K xs chk σ1) (Rm : Room c.n A) (r : Rel c.W.H A c.env σ fr s) (z : CEnd c.W A σ s use Q Z)
    (hloop : ∀ I D C fp xs chk S σ1 s1 s3 R, σ1 (C + 1) = none → Itr c.W A I fp xs chk S → K xs chk σ1 → I ≠ D → I ≠ C → D ≠ C → D ∉ fp → C ∉ fp → c.W.H.get? I = none → c.W.H.get? D = none → s1.heap.get? I = none →
      LI (compCx c B C) A I D fp S (undefs sc.names.length) σ1 s1 0 #[] (cset (C + 1) sc.names (fun _ => .undef) σ1) s3 →
      (∀ acc σ' s' (itD : Array Value), alW σ' (.lst acc) Q → acc.length ≤ lim → Rel c.W.H A (compCx c B C).env σ' (undefs sc.names.length) s' → s'.heap.PlainList D itD → itD.toList.map ab = acc → σ' D = none → Stp (fun b => b = D ∨ b = C) σ1 s1 σ' s' → R (.ok .next) s') →
      codeAny c.W.M A (.compLoop (.ListComp elt (⟨.Name x px, it, ifs, 0⟩ :: gs) sc pos) 0 (.ref I) (.ref D) (compCx c B C).env) R s3) :
    wpAny c.W.M A (comprehension (.ListComp elt (⟨.Name x px, it, ifs, 0⟩ :: gs) sc pos) sc c.env pos' (newList []) false (eval it c.env) use) Z NoE s := by
  refine wpAny_comprehension_free (g := ⟨.Name x px, it, ifs, 0⟩) rfl (folded_ok hns) (closureFor_ok (cl := clOf c.ns c.cs) c.ok (fun _ => rfl) (fun _ _ _ => rfl) B.free) B.kind (fun y hy hl => ?_) ?_
  · obtain ⟨i, hi⟩ := List.getElem?_of_mem hy
    obtain ⟨z, k⟩ := y
    (first | exact nS hl | exact nO hl | exact nF hl | exact nT hl | exact nN hl | exact nC hl | cases hl)
    exact (nodup_lookup B.nodup hi).1
  refine hit A s _ Rm r fun xv σ1 s1 q1 g1 t1 => iter_ok q1 A s1 _ Rm g1 fun xs chk h' hK hI hkeep => ?_
  obtain ⟨fp, S, X, hS0, hfm, hfa⟩ := hI
  have r1 := r.step g1 t1
  clear hit q1 r
  generalize hIe : s1.heap.objs.size = I at hfa X ⊢
  have hI0 : s1.heap.get? I = none := hIe ▸ get_size _
  generalize hs2 : ({ s1 with heap := h' } : Shared) = s2
  have hs2h : s2.heap = h' := by rw [← hs2]
  have g2 : RelG c.W.H σ1 s2 := g1.ext (by rw [hs2h]; exact hkeep)
  have t2 : Stp No σ1 s1 σ1 s2 := .ext (by rw [hs2h]; exact hkeep) ⟨h', s1.toks, hs2.symm⟩
  refine wpAny_newObj_type (newEnv_around ?_)
  dsimp only
  generalize hD : s2.heap.objs.size = D
  generalize hH2 : s2.heap.push { cls := .type "list", dict := none, data := .seq ([] : List Value).toArray } = H2
  generalize hC : H2.objs.size = C
  have hCD : C = D + 1 := by rw [← hC, ← hH2, Heap.size_push, hD]
  have hDC : D ≠ C := by rw [hCD]; exact Nat.ne_of_lt (Nat.lt_succ_self _)
  have ok := cellsFrom_ok sc.names (H2.push { cls := .type "dict", data := .dict #[] }) (C + 1) [] ⟨fun _ _ hm => (nomatch hm), List.Pairwise.nil⟩ (by rw [Heap.size_push, hC]; exact Nat.le_refl _)
  rw [Heap.size_push, hC] at ok
  have hns₁ : (pushCells (H2.push { cls := .type "dict", data := .dict #[] }) sc.names).Ns C fun _ => none := hC ▸ (Heap.Ns.new H2 (.type "dict")).keeps (pushCells_keeps _ _)
  have old2 : ∀ b o, H2.get? b = some o → (pushCells (H2.push { cls := .type "dict", data := .dict #[] }) sc.names).get? b = some o := fun b o e => pushCells_keeps _ _ b o (Heap.get?_push_of_some _ e)
  generalize pushCells (H2.push { cls := .type "dict", data := .dict #[] }) sc.names = h₁ at ok hns₁ old2
  have old : ∀ b o, s2.heap.get? b = some o → h₁.get? b = some o := fun b o e => old2 b o (hH2 ▸ Heap.get?_push_of_some _ e)
  have hacc : h₁.PlainList D #[] := ⟨_, old2 _ _ (hH2 ▸ hD ▸ Heap.get?_push_size _ rfl)⟩
  have nw : ∀ b, D ≤ b → s2.heap.get? b = none := fun b hb => by
    cases e : s2.heap.get? b with
    | none => rfl
    | some o => have := Heap.lt_size e; rw [hD] at this; exact absurd hb (Nat.not_le.mpr this)
  have hle : ∀ b, b = D ∨ b = C → D ≤ b := fun b hb => hb.elim (fun e => e ▸ Nat.le_refl _) fun e => by rw [e, hCD]; exact Nat.le_succ _
  have nw1 : ∀ b, D ≤ b → s1.heap.get? b = none := fun b hb => by
    cases e : s1.heap.get? b with
    | none => rfl
    | some o => have := hkeep b o e; rw [← hs2h, nw b hb] at this; (first | exact nS this | exact nO this | exact nF this | exact nT this | exact nN this | exact nC this | cases this)
  obtain ⟨oI, eI⟩ : ∃ o, s2.heap.get? I = some o := by rw [hs2h]; exact X.alive 0 h' hS0 I X.mem
  have hfn : ∀ b, D ≤ b → b ∉ fp := fun b hb hm => by
    rcases hfa b hm with e | ⟨o, e⟩
    · rw [e] at hb; rw [nw I hb] at eI; (first | exact nS eI | exact nO eI | exact nF eI | exact nT eI | exact nN eI | exact nC eI | cases eI)
    · rw [g2.fresh (nw b hb)] at e; (first | exact nS e | exact nO e | exact nF e | exact nT e | exact nN e | exact nC e | cases e)
  have hCD' : D ≤ C := hle C (.inr rfl)
  have hHC := g2.offbase (nw C hCD')
  have hHD := g2.offbase (nw D (Nat.le_refl _))
  obtain ⟨g3, t3⟩ := cells_new (s' := { s2 with heap := h₁ }) (m := C + 1) (b := fun _ => V.undef) g2 B.nodup old ⟨h₁, _, rfl⟩ (fun j hj => nw j (Nat.le_trans hCD' (Nat.le_of_succ_le hj))) fun y a hl => ⟨none, (ok.empty y a (mem_of_lookup hl)).1, rfl⟩
  have low : ∀ b, b ≤ C → cset (C + 1) sc.names (fun _ => V.undef) σ1 b = σ1 b := fun b hb => cset_new sc.names _ _ _ (Nat.lt_succ_of_le hb)
  have hσC : cset (C + 1) sc.names (fun _ => V.undef) σ1 C = none := by rw [low C (Nat.le_refl _)]; exact g2.fresh (nw C hCD')
  have hσD : cset (C + 1) sc.names (fun _ => V.undef) σ1 D = none := by rw [low D hCD']; exact g2.fresh (nw D (Nat.le_refl _))
  have j2 : J I fp S 0 σ1 s2 := ⟨by rw [hs2h]; exact hS0, g1.fresh hI0, hfm⟩
  clear ok old2 low hS0 hfm
  have loop : codeAny c.W.M A (.compLoop (.ListComp elt (⟨.Name x px, it, ifs, 0⟩ :: gs) sc pos) 0 (.ref I) (.ref D) (compCx c B C).env) (compPost c.W.M A NoE use Z (.ref D) C) { s2 with heap := h₁ } := by
    refine hloop I D C fp xs chk S σ1 s1 _ _ (g2.fresh (nw _ (Nat.le_trans hCD' (Nat.le_succ _)))) X hK (fun e => hfn D (Nat.le_refl _) (e ▸ X.mem)) (fun e => hfn C hCD' (e ▸ X.mem)) hDC (hfn D (Nat.le_refl _)) (hfn C hCD') (g1.offbase hI0) hHD hI0 ⟨⟨g3, ⟨_, hns₁, fun i y hi hu => absurd ((nth_eq _ _).symm.trans (nth_undefs _ _)) hu⟩, hσC, hHC, (r1.frs.step t2).step t3⟩, j2.step X t3 fun _ _ q => q, hacc, hσD, (t2.trans t3).up⟩ fun acc σ' s' itD q hz r' hd ha hσ' t' => ?_
    obtain ⟨m, hn, _⟩ := r'.ns
    have off : ∀ b, D ≤ b → s.heap.get? b = none := fun b hb => by
      cases e : s.heap.get? b with
      | none => rfl
      | some o => obtain ⟨o', e'⟩ := t1.alive b o e; rw [nw1 b hb] at e'; (first | exact nS e' | exact nO e' | exact nF e' | exact nT e' | exact nN e' | exact nC e' | cases e')
    exact z D C s' _ (q D hσ') (r'.toRelG.show hd ha hz hHD) ((t1.trans (t'.shown fun b hb => nw1 b (hle b hb))).show (off D (Nat.le_refl _))) ⟨m, hn⟩ (by rw [St.set_other _ _ (Ne.symm hDC)]; exact r'.off) hHC (off C hCD')
  exact codeAny_compStart_list loop (X.self 0 _ _ _ (j2.step X t3 fun _ _ q => q).1 loop)
end Mine

end
section -- B15
namespace Mine
variable {W : Wd} {n k : Nat} {c : Cx} {env : Env} {cs : List Addr} {fr : List V} {σ σ' : St} {A : Around} {s s' : Shared} {L : Addr → Prop}

section
variable {elt it it' : PySem.Expr} {ifs : List PySem.Expr} {x y : Str} {px py pos pos' : Pos} {sc : Scope} {use : Option (Value → Sem Unit)} {Z : Value → Shared → Prop} {Q : V → St → Prop}
theorem place_inner {C : Addr} {z : Str} (B : Blk c.ns sc) : place (compCx c B C).ns z = place (rl c.ns sc.names) z := by rw [compCx_ns]
theorem loc_inner {C : Addr} {z : Str} (B : Blk c.ns sc) (hz : scOk c.ns sc z = true) : (compCx c B C).ns.lookup z = some .local := lookup_relabel_local (scOk_facts hz).2.2.1
theorem no_own (hsc : scOk c.ns sc x = true) (C : Addr) : (compCx c (scOk_blk hsc) C).cs = (sc.names.map fun p => place c.ns p.1).map (nthA c.cs) := ownC_no _ _ _ (cmOf_len c sc) (scOk_facts hsc).2.2.2.1
theorem no_set (hsc : scOk c.ns sc x = true) (C : Addr) : cset (C + 1) sc.names (fun _ => .undef) σ = σ := cset_no _ _ _ (scOk_facts hsc).2.2.2.1
theorem comp1_run (hit : SE k it) (hifs : ∀ e ∈ ifs, ST k e) (helt : SE k elt) (hsc : scOk c.ns sc x = true) (hns : noSet it = true) (Rm : Room c.n A) (r : Rel c.W.H A c.env σ fr s) (z : CEnd c.W A σ s use Q Z)
    (h : c.x (.comp sc.names.length (sc.names.map fun p => place c.ns p.1) (er c.gl k c.ns it) (place (rl c.ns sc.names) x) (andX (ifs.map (er c.gl k (rl c.ns sc.names)))) (er c.gl k (rl c.ns sc.names) elt)) fr σ Q) :
    wpAny c.W.M A (comprehension (.ListComp elt [⟨.Name x px, it, ifs, 0⟩] sc pos) sc c.env pos' (newList []) false (eval it c.env) use) Z NoE s := by
  refine comp_open (scOk_blk hsc) hns (hit c fr σ _ h) Rm r z fun I D C fp xs chk S σ1 s1 s3 R _ X hK hID hIC hDC hDf hCf hI hD hIb l0 zz => ?_
  rw [no_set hsc] at l0
  refine loop_ok (c := compCx c (scOk_blk hsc) C) (T := testT c.W D ifs elt (compCx c (scOk_blk hsc) C).env) (P := fun i acc => acc.length + (xs.length - i) ≤ lim) (x := x) X Rm rule_one hID hIC hDC hDf hCf hI hD hIb (fun i v acc σ2 k' hi hP hb => ?_) hK.2 ?_ rfl l0 fun acc σ' s' itD q hP r' hd ha hσ t => zz acc σ' s' itD q (Nat.le_trans (Nat.le_add_right _ _) hP) r' hd ha hσ t
  · refine bdy_loc (loc_inner _ hsc) (nth_undefs _ _) (test_ok (Nat.le_trans (Nat.add_le_add_left (Nat.sub_pos_of_lt hi) _) hP) ?_)
    rw [place_inner]
    rw [← no_own hsc C] at hb
    refine GV.of (tests_ok ifs hifs (compCx c (scOk_blk hsc) C) _ σ2 _ (by rw [compCx_ns]; exact hb)) fun b σ3 h3 => ?_
    have hlen : acc.length + (xs.length - (i + 1)) ≤ lim ∧ acc.length + 1 + (xs.length - (i + 1)) ≤ lim := by (first | assumption | exact q1 ‹_› | exact q2 ‹_› ‹_› | exact q3 ‹_› ‹_› | exact q4 ‹_› ‹_› | exact q5 ‹_› | exact q6 ‹_› | omega)
    cases b with
    | true => exact (compCx_x _ C helt h3).of fun u σ4 h4 => ⟨by rw [List.length_append]; exact hlen.2, h4⟩
    | false => exact ⟨hlen.1, by rw [if_neg Bool.false_ne_true] at h3; rw [← List.append_nil acc]; exact h3⟩
  · rw [List.length_nil, Nat.zero_add]; exact hK.1
theorem place_ne {ns : List (Str × NameKind)} {x y : Str} {a b : NameKind} (hx : ns.lookup x = some a) (hy : ns.lookup y = some b) (h : (x != y) = true) : place ns x ≠ place ns y := fun e => by
  have h1 := place_of hx
  rw [e, place_of hy] at h1
  exact bne_iff_ne.mp h (Prod.mk.inj (Option.some.inj h1)).1.symm
theorem comp2_run (hit : SE k it) (hit' : SE k it') (helt : SE k elt) (hsc : scOk c.ns sc x = true) (hsy : scOk c.ns sc y = true) (hns : noSet it = true) (hns' : noSet it' = true) (hxy : (x != y) = true) (Rm : Room c.n A) (r : Rel c.W.H A c.env σ fr s) (z : CEnd c.W A σ s use Q Z)
    (h : c.x (.comp2 sc.names.length (sc.names.map fun p => place c.ns p.1) (er c.gl k c.ns it) (place (rl c.ns sc.names) x) (er c.gl k (rl c.ns sc.names) it') (place (rl c.ns sc.names) y) (er c.gl k (rl c.ns sc.names) elt)) fr σ Q) :
    wpAny c.W.M A (comprehension (.ListComp elt [⟨.Name x px, it, [], 0⟩, ⟨.Name y py, it', [], 0⟩] sc pos) sc c.env pos' (newList []) false (eval it c.env) use) Z NoE s := by
  refine comp_open (scOk_blk hsc) hns (hit c fr σ _ h) Rm r z fun I D C fp xs chk S σ1 s1 s3 R _ X hK hID hIC hDC hDf hCf hI hD hIb l0 zz => ?_
  rw [no_set hsc] at l0
  rw [← no_own hsc C] at hK
  refine loop_ok (c := compCx c (scOk_blk hsc) C) (P := fun i acc => acc.length ≤ lim) (x := x) X Rm (rule_out hns') hID hIC hDC hDf hCf hI hD hIb (fun i v acc σ2 k' hi hP hb => ?_) hK (Nat.zero_le _) rfl l0 fun acc σ' s' itD q hP r' hd ha hσ t => zz acc σ' s' itD q hP r' hd ha hσ t
  refine bdy_loc (loc_inner _ hsc) (nth_undefs _ _) ?_
  rw [place_inner]
  clear l0 zz hK X
  refine fun A2 s2 Z2 itD R2 r2 hd2 hσ2 hH2 hDC2 hacc z2 => compCx_x _ C hit' hb A2 s2 _ R2 r2 fun xv σ3 s4 q3 g3 t3 => iter_ok q3 A2 s4 _ R2 g3 fun ys chk' h' hK' hI' hkeep => ?_
  obtain ⟨fp', S', X', hS0, hfm, hfa⟩ := hI'
  have r4 := r2.step g3 t3
  obtain ⟨hd4, hσ4⟩ := PL.step hd2 hσ2 t3 id
  generalize hIe : s4.heap.objs.size = I' at hfa X' ⊢
  have hI0 : s4.heap.get? I' = none := hIe ▸ get_size _
  have r5 := r4.step (s' := { s4 with heap := h' }) (g3.ext hkeep) (.ext hkeep ⟨h', _, rfl⟩)
  have hd5 : ({ s4 with heap := h' } : Shared).heap.PlainList D itD := hd4.at fun o e => hkeep _ o e
  have aliveD : ∃ o, s4.heap.get? D = some o := by obtain ⟨m, e⟩ := hd4; exact ⟨_, e⟩
  have aliveC : ∃ o, s4.heap.get? C = some o := by obtain ⟨m, ⟨o, _, _, e, _⟩, _⟩ := r4.ns; exact ⟨o, e⟩
  have ne : ∀ b, (∃ o, s4.heap.get? b = some o) → I' ≠ b := fun b ⟨o, e⟩ q => by rw [← q, hI0] at e; (first | exact nS e | exact nO e | exact nF e | exact nT e | exact nN e | exact nC e | cases e)
  have nf : ∀ b, (∃ o, s4.heap.get? b = some o) → σ3 b = none → b ∉ fp' := fun b hb hσ hm => (hfa b hm).elim (fun e => ne b hb e.symm) fun ⟨o, e⟩ => by rw [hσ] at e; (first | exact nS e | exact nO e | exact nF e | exact nT e | exact nN e | exact nC e | cases e)
  have loop : codeAny c.W.M A2 (.compLoop (.ListComp elt [⟨.Name x px, it, [], 0⟩, ⟨.Name y py, it', [], 0⟩] sc pos) 1 (.ref I') (.ref D) (compCx c (scOk_blk hsc) C).env) (fun r s' => match r with
      | .ok _ => Z2 s'
      | .error _ => False) { s4 with heap := h' } := by
    refine loop_ok (c := compCx c (scOk_blk hsc) C) (P := fun i acc => acc.length + (ys.length - i) ≤ lim) (x := y) (σb := σ3) (sb := s4) (fr := setN (undefs sc.names.length) (place (rl c.ns sc.names) x) (ab v)) X' R2 rule_in (ne D aliveD) (ne C aliveC) hDC (nf D aliveD hσ4) (nf C aliveC r4.off) (g3.offbase hI0) hH2 hI0 (fun i v' acc' σ5 k5 hi5 hP5 hb5 => ?_) hK'.2 hK'.1 hacc ⟨r5, ⟨hS0, g3.fresh hI0, hfm⟩, hd5, hσ4, .ext hkeep ⟨h', _, rfl⟩⟩ fun acc' σ' s' itD' q hP' r' hd' ha' hσ' t' => z2 acc' σ' s' itD' ⟨Nat.le_trans (Nat.le_add_right _ _) hP', q⟩ r' hd' hσ' ha' (t3.up.trans t')
    · refine bdy_loc (loc_inner _ hsy) ?_ (emit_ok (Nat.le_trans (Nat.add_le_add_left (Nat.sub_pos_of_lt hi5) _) hP5) ?_)
      · rw [place_inner, nth_setN _ _ _ _ (by rw [← place_inner (C := C) (scOk_blk hsc), ← place_inner (C := C) (scOk_blk hsc)]; exact place_ne (loc_inner _ hsc) (loc_inner _ hsy) hxy), nth_undefs]
      rw [place_inner]
      have hlen : acc'.length + 1 + (ys.length - (i + 1)) ≤ lim := by (first | assumption | exact q1 ‹_› | exact q2 ‹_› ‹_› | exact q3 ‹_› ‹_› | exact q4 ‹_› ‹_› | exact q5 ‹_› | exact q6 ‹_› | lia | omega)
      exact (compCx_x _ C helt hb5).of fun u σ6 h6 => ⟨by rw [List.length_append]; exact hlen, h6⟩
  exact start_in loop (X'.self 0 _ _ _ hS0 loop)
/-- a comprehension's own value -/
theorem cend_value {Q : V → St → Prop} (r : Rel c.W.H A c.env σ fr s) (z : Ends c.W.H σ s (fun v => Q (ab v)) Z) : CEnd c.W A σ s none Q Z := fun D C s' σ' q g t hn hσC hHC hsC => by
  obtain ⟨m, hn⟩ := hn
  exact ⟨m, hn, fun h' hs' => z (.ref D) σ' _ q (g.hidden (L := fun b => b = C) (fun b hb => by rw [hb]; exact ⟨hσC, hHC⟩) fun b o hb e => (hs'.2 b hb).trans e) (t.sameBut hsC hs')⟩
end
theorem oX_elim {α : Type} {o : Option α} {f : α → X} {Q : V → St → Prop} (h : xW W n (oX o f) cs fr σ Q) : ∃ a, o = some a ∧ xW W n (f a) cs fr σ Q := by
  cases o with
  | none => exact h.elim
  | some a => exact ⟨a, rfl, h⟩
theorem nameOf_sp (e : PySem.Expr) : ifSome (nameOf e) fun x => ∃ p, e = .Name x p := by (first | exact nS e | exact nO e | exact nF e | exact nT e | exact nN e | exact nC e | cases e) <;> first | exact trivial | exact ⟨_, rfl⟩
theorem nameOf_is {e : PySem.Expr} {x : Str} (h : nameOf e = some x) : ∃ p, e = .Name x p := ifSome_of (nameOf_sp e) h
/-- the two shapes of a comprehension -/
inductive Shape (k : Nat) (c : Cx) (fr : List V) (σ : St) (Q : V → St → Prop) (elt : PySem.Expr) (sc : Scope) (gens : List Comprehension) : Prop where
  | one (x : Str) (px : Pos) (it : PySem.Expr) (ifs : List PySem.Expr) (e : gens = [⟨.Name x px, it, ifs, 0⟩]) (hsc : scOk c.ns sc x = true) (hns : noSet it = true)
      (h : c.x (.comp sc.names.length (sc.names.map fun p => place c.ns p.1) (er c.gl k c.ns it) (place (rl c.ns sc.names) x) (andX (ifs.map (er c.gl k (rl c.ns sc.names)))) (er c.gl k (rl c.ns sc.names) elt)) fr σ Q) : Shape k c fr σ Q elt sc gens
  | two (x y : Str) (px py : Pos) (it it' : PySem.Expr) (e : gens = [⟨.Name x px, it, [], 0⟩, ⟨.Name y py, it', [], 0⟩]) (hsc : scOk c.ns sc x = true) (hsy : scOk c.ns sc y = true) (hns : noSet it = true) (hns' : noSet it' = true) (hxy : (x != y) = true)
      (h : c.x (.comp2 sc.names.length (sc.names.map fun p => place c.ns p.1) (er c.gl k c.ns it) (place (rl c.ns sc.names) x) (er c.gl k (rl c.ns sc.names) it') (place (rl c.ns sc.names) y) (er c.gl k (rl c.ns sc.names) elt)) fr σ Q) : Shape k c fr σ Q elt sc gens
theorem shape_of {elt : PySem.Expr} {gens : List Comprehension} {sc : Scope} {pos : Pos} {Q : V → St → Prop} (h : c.x (er c.gl (k + 1) c.ns (.ListComp elt gens sc pos)) fr σ Q) : Shape k c fr σ Q elt sc gens := by
  rcases gens with _ | ⟨⟨t, it, ifs, a⟩, gens⟩
  · exact h.elim
  rcases gens with _ | ⟨⟨t', it', ifs', a'⟩, gens⟩
  · obtain ⟨x, e, h1⟩ := oX_elim h
    obtain ⟨px, et⟩ := nameOf_is e
    obtain ⟨g, h2⟩ := grd_x h1
    clear h h1
    obtain ⟨g1, g4⟩ := Bool.and_eq_true_iff.mp g
    have ea : a = 0 := of_decide_eq_true (p := a = 0) g1
    cases hb : (sc.names.lookup x == some .cell) with
    | false =>
      replace h2 : c.x (compY c.ns sc x (sc.names.lookup x == some .cell) _ _ _ _) fr σ Q := h2
      rw [hb] at h2
      obtain ⟨g3, h3⟩ := grd_x h2
      exact .one x px it ifs (by rw [show t = _ from et, ea]) g3 g4 h3
    | true =>
      replace h2 : c.x (compY c.ns sc x (sc.names.lookup x == some .cell) _ _ _ _) fr σ Q := h2
      rw [hb] at h2
      exact h2.elim
  · obtain ⟨g0, h0⟩ := grd_x h
    obtain ⟨x, e, h1⟩ := oX_elim h0
    obtain ⟨y, e', h2⟩ := oX_elim h1
    obtain ⟨px, et⟩ := nameOf_is e
    obtain ⟨py, et'⟩ := nameOf_is e'
    obtain ⟨g, h3⟩ := grd_x h2
    clear h h0 h1 h2
    obtain ⟨g1, g2⟩ := Bool.and_eq_true_iff.mp g
    obtain ⟨g1', g3⟩ := Bool.and_eq_true_iff.mp g1
    obtain ⟨g4, g5⟩ := Bool.and_eq_true_iff.mp g1'
    obtain ⟨g6, g7⟩ := Bool.and_eq_true_iff.mp g5
    obtain ⟨g8, g9⟩ := Bool.and_eq_true_iff.mp g3
    obtain ⟨g10, g11⟩ := Bool.and_eq_true_iff.mp g9
    obtain ⟨g12, g13⟩ := Bool.and_eq_true_iff.mp g2
    obtain ⟨g14, g15⟩ := Bool.and_eq_true_iff.mp g13
    refine .two x y px py it it' ?_ g6 g10 g7 g11 g15 h3
    rw [show t = _ from et, show t' = _ from et', show a = 0 from of_decide_eq_true (p := a = 0) g4, show a' = 0 from of_decide_eq_true (p := a' = 0) g8, show ifs = [] from List.isEmpty_iff.mp g12, show ifs' = [] from List.isEmpty_iff.mp g14, show gens = [] from List.isEmpty_iff.mp g0]
/-- all that a comprehension is made of -/
noncomputable def GenOK (k : Nat) (g : Comprehension) : Prop := SE k g.iter ∧ ∀ e ∈ g.ifs, ST k e
theorem comp_run {elt : PySem.Expr} {gens : List Comprehension} {sc : Scope} {pos pos' : Pos} {use : Option (Value → Sem Unit)} {Z : Value → Shared → Prop} {Q : V → St → Prop} (helt : SE k elt) (hg : ∀ g ∈ gens, GenOK k g) (h : Shape k c fr σ Q elt sc gens) (Rm : Room c.n A) (r : Rel c.W.H A c.env σ fr s) (z : CEnd c.W A σ s use Q Z) :
    wpAny c.W.M A (comprehension (.ListComp elt gens sc pos) sc c.env pos' (newList []) (firstAsync gens) (firstIter gens c.env) use) Z NoE s := by
  cases h with
  | one x px it ifs e hsc hns h => subst e; exact comp1_run (hg _ (.head _)).1 (hg _ (.head _)).2 helt hsc hns Rm r z h
  | two x y px py it it' e hsc hsy hns hns' hxy h => subst e; exact comp2_run (hg _ (.head _)).1 (hg _ (.tail _ (.head _))).1 helt hsc hsy hns hns' hxy Rm r z h
theorem snd_comp {elt : PySem.Expr} {gens : List Comprehension} {sc : Scope} {pos : Pos} (helt : SE k elt) (hg : ∀ g ∈ gens, GenOK k g) : SE (k + 1) (.ListComp elt gens sc pos) := fun c fr σ Q h A s Z R r z => by
  rw [eval_ListComp]
  exact comp_run helt hg (shape_of h) R r (cend_value r z)
theorem noTr_oX {α : Type} {o : Option α} {f : α → X} (h : ∀ a, noTr (f a) = true) : noTr (oX o f) = true := by
  cases o with
  | none => rfl
  | some a => exact h a
theorem noTr_y {ns : List (Str × NameKind)} {sc : Scope} {x : Str} {no : Bool} {it c elt : X} (b : Bool) : noTr (compY ns sc x b no it c elt) = true := by
  cases b with
  | false => exact noTr_grd rfl
  | true => rfl
theorem noTr_comp {elt : PySem.Expr} {gens : List Comprehension} {sc : Scope} {pos : Pos} (gl : Str → Option V) (ns : List (Str × NameKind)) : noTr (er gl (k + 1) ns (.ListComp elt gens sc pos)) = true := by
  rcases gens with _ | ⟨g, _ | ⟨g', gens⟩⟩
  · rfl
  · exact noTr_oX fun x => noTr_grd (noTr_y _)
  · exact noTr_grd (noTr_oX fun x => noTr_oX fun y => noTr_grd rfl)

theorem noTr_call {f : PySem.Expr} {args : List PySem.Expr} {ks : List Keyword} {pos : Pos} (gl : Str → Option V) (ns : List (Str × NameKind)) : noTr (er gl (k + 1) ns (.Call f args ks pos)) = true := by
  show noTr (callK (ek f) args ks pos _ _ _ _) = true
  cases ek f with
  | name x p =>
    refine noTr_grd ?_
    show noTr (callY _ _ _) = true
    cases (if (ks.map fun k => k.arg).isEmpty then biX (erName gl ns x) else none) with
    | none => exact noTr_grd rfl
    | some b => rfl
  | attr o nm p =>
    refine noTr_grd ?_
    cases meOf nm <;> rfl
  | _ => rfl
theorem noTr_sub {o i : PySem.Expr} {pos : Pos} (gl : Str → Option V) (ns : List (Str × NameKind)) : noTr (er gl (k + 1) ns (.Subscript o i pos)) = true := by
  show noTr (subX (ek i) _ _ _) = true
  cases ek i <;> rfl
theorem noTr_con {v : Const} {i : Nat} {pos : Pos} (gl : Str → Option V) (ns : List (Str × NameKind)) : noTr (er gl (k + 1) ns (.Constant v i pos)) = true := by (first | exact nS v | exact nO v | exact nF v | exact nT v | exact nN v | exact nC v | cases v) <;> rfl
noncomputable def Snd (k : Nat) (e : PySem.Expr) : Prop := SE k e ∧ ST k e
theorem snd_bad {e : PySem.Expr} (h : ∀ gl ns, er gl k ns e = .bad) : Snd k e :=
  ⟨fun c fr σ Q q => by rw [Cx.x, h] at q; exact q.elim, fun c fr σ Q q => by rw [Cx.t, h] at q; exact q.elim⟩
theorem snd_sub {o i : PySem.Expr} {pos : Pos} (ih : ∀ e, SE k e) : SE (k + 1) (.Subscript o i pos) := fun c fr σ Q h => by
  by_cases hs : ∃ lo hi st p, i = .Slice lo hi st p
  · obtain ⟨lo, hi, st, p, rfl⟩ := hs
    exact snd_slice (ih o) (fun x _ => ih x) (fun x _ => ih x) (fun x _ => ih x) c fr σ Q h
  · refine snd_subi (ih o) (ih i) ?_
    replace h : c.x (subX (ek i) (er c.gl k c.ns o) _ (er c.gl k c.ns i)) fr σ Q := h
    cases e : ek i with
    | sl lo hi st p => exact absurd ⟨lo, hi, st, p, ek_of e⟩ hs
    | _ => rw [e] at h; exact h
theorem snd_call {f : PySem.Expr} {args : List PySem.Expr} {ks : List Keyword} {pos : Pos} (ih : ∀ e, SE k e) : SE (k + 1) (.Call f args ks pos) := fun c fr σ Q h => by
  have hk : c.x (callK (ek f) args ks pos (erName c.gl c.ns) (er c.gl k c.ns) (xl (args.map (er c.gl k c.ns))) (xl (ks.map fun q => er c.gl k c.ns q.value))) fr σ Q := h
  cases e : ek f with
  | name x p => cases (show f = .Name x p from ek_of e); exact snd_callN (fun e _ => ih e) (fun q _ => ih q.value) c fr σ Q h
  | attr o nm p => cases (show f = .Attribute o nm p from ek_of e); exact snd_meth (ih o) (fun e _ => ih e) c fr σ Q h
  | _ => rw [e] at hk; exact hk.elim
theorem snd_un {op : UnaryOp} {x : PySem.Expr} {pos : Pos} (ih : Snd k x) : Snd (k + 1) (.UnaryOp op x pos) := by
  cases op with
  | Not => exact ⟨snd_not ih.1, tnd_not ih.2⟩
  | USub => exact ⟨snd_neg ih.1, tnd_plain (snd_neg ih.1) (fun _ _ => rfl) fun _ _ => rfl⟩
  | _ => exact snd_bad fun _ _ => rfl
theorem snd : ∀ k e, Snd k e
  | 0, e => snd_bad fun _ _ => rfl
  | k + 1, e => by
    have ih := snd k
    have i1 := fun e => (ih e).1
    cases e with
    | Constant v i p => exact ⟨snd_const, tnd_plain snd_const noTr_con fun _ _ => rfl⟩
    | Name x p => exact ⟨snd_name, tnd_plain snd_name (fun _ _ => noTr_name) fun _ _ => rfl⟩
    | BinOp l op r p => exact ⟨snd_bin (i1 l) (i1 r), tnd_plain (snd_bin (i1 l) (i1 r)) (fun _ _ => rfl) fun _ _ => rfl⟩
    | UnaryOp op x p => exact snd_un (ih x)
    | BoolOp op vs p => exact snd_bop (fun v _ => i1 v) fun v _ => (ih v).2
    | IfExp t a b p => exact ⟨snd_ife (ih t).2 (i1 a) (i1 b), tnd_ife (ih t).2 (ih a).2 (ih b).2⟩
    | List es p => exact ⟨snd_list fun e _ => i1 e, tnd_plain (snd_list fun e _ => i1 e) noTr_list fun _ _ => rfl⟩
    | Tuple es i p => exact ⟨snd_tuple fun e _ => i1 e, tnd_plain (snd_tuple fun e _ => i1 e) noTr_tuple fun _ _ => rfl⟩
    | Compare l ops rs p => exact snd_cmps (i1 l) fun r _ => i1 r
    | Call f args ks p => exact ⟨snd_call i1, tnd_plain (snd_call i1) noTr_call fun _ _ => rfl⟩
    | Subscript o i p => exact ⟨snd_sub i1, tnd_plain (snd_sub i1) noTr_sub fun _ _ => rfl⟩
    | ListComp elt gens sc p => exact ⟨snd_comp (i1 elt) fun g _ => ⟨i1 g.iter, fun e _ => (ih e).2⟩, tnd_plain (snd_comp (i1 elt) fun g _ => ⟨i1 g.iter, fun e _ => (ih e).2⟩) noTr_comp fun _ _ => rfl⟩
    | _ => exact snd_bad fun _ _ => rfl
theorem sndE (k : Nat) (e : PySem.Expr) : SE k e := (snd k e).1
theorem sndT (k : Nat) (e : PySem.Expr) : ST k e := (snd k e).2
end Mine

end
section -- B16
namespace Mine
variable {W : Wd} {n k : Nat} {c : Cx} {env : Env} {cs : List Addr} {fr : List V} {σ σ' : St} {A : Around} {s s' : Shared} {L : Addr → Prop}

noncomputable def abF : Flow → Fl
  | .next => .next
  | .brk => .brk
  | .cont => .cont
  | .ret v => .ret (ab v)
/-- a function's own block: its frame is the topmost -/
noncomputable def Top (A : Around) (env : Env) : Prop := env.frame = some env.locals ∧ ∃ outer, A.frames = some (env :: outer)
noncomputable def EndS {α : Type} (c : Cx) (A : Around) (σ : St) (s : Shared) (Q : α → St → List V → Prop) (Z : α → Shared → Prop) : Prop :=
  ∀ a σ' fr' s', Q a σ' fr' → Rel c.W.H A c.env σ' fr' s' → Stp (At c.env.locals) σ s σ' s' → Z a s'
/-- a stretch that may bind names -/
noncomputable def SV {α : Type} (c : Cx) (fr : List V) (σ : St) (t : Sem α) (Q : α → St → List V → Prop) : Prop :=
  ∀ A s Z, Room c.n A → Rel c.W.H A c.env σ fr s → Mine.Top A c.env → EndS c A σ s Q Z → wpAny c.W.M A t Z NoE s
section
variable {α β : Type}
theorem EndS.trans {Q : α → St → List V → Prop} {Z : α → Shared → Prop} (z : EndS c A σ s Q Z) (t : Stp (At c.env.locals) σ s σ' s') : EndS c A σ' s' Q Z := fun a σ2 fr2 s2 q r t2 => z a σ2 fr2 s2 q r (t.trans t2)
theorem SV.bind {t1 : Sem α} {t2 : α → Sem β} {Q1 : α → St → List V → Prop} {Q : β → St → List V → Prop} (h1 : SV c fr σ t1 Q1) (h2 : ∀ a σ1 fr1, Q1 a σ1 fr1 → SV c fr1 σ1 (t2 a) Q) : SV c fr σ (t1 >>= t2) Q :=
  fun A s Z R r T z => wpAny_bind (h1 A s _ R r T fun a σ1 fr1 s1 q r1 t1 => h2 a σ1 fr1 q A s1 Z R r1 T (z.trans t1))
/-- first a value -/
theorem SV.g2 {t1 : Sem α} {t2 : α → Sem β} {t : Sem β} {Q1 : α → St → Prop} {Q : β → St → List V → Prop} (L : ∀ A s Z, wpAny c.W.M A t1 (fun a s1 => wpAny c.W.M A (t2 a) Z NoE s1) NoE s → wpAny c.W.M A t Z NoE s) (h1 : GV c fr σ t1 Q1) (h2 : ∀ a σ1, Q1 a σ1 → SV c fr σ1 (t2 a) Q) : SV c fr σ t Q :=
  fun A s Z R r T z => L A s Z (h1 A s _ R r fun a σ1 s1 q g t => h2 a σ1 q A s1 Z R (r.step g t) T (z.trans t.up))
theorem SV.bindG {t1 : Sem α} {t2 : α → Sem β} {Q1 : α → St → Prop} {Q : β → St → List V → Prop} (h1 : GV c fr σ t1 Q1) (h2 : ∀ a σ1, Q1 a σ1 → SV c fr σ1 (t2 a) Q) : SV c fr σ (t1 >>= t2) Q := SV.g2 (fun _ _ _ => wpAny_bind) h1 h2
theorem SV.g1 {t1 : Sem α} {t : Sem β} {f : α → β} {Q : β → St → List V → Prop} (L : ∀ A s Z, wpAny c.W.M A t1 (fun a s1 => Z (f a) s1) NoE s → wpAny c.W.M A t Z NoE s) (h : GV c fr σ t1 fun a σ1 => Q (f a) σ1 fr) : SV c fr σ t Q :=
  fun A s Z R r T z => L A s Z (h A s _ R r fun a σ1 s1 q g t => z _ σ1 fr s1 q (r.step g t) t.up)
theorem SV.to {t1 t : Sem α} {Q : α → St → List V → Prop} (h : SV c fr σ t1 Q) (L : To c.W t1 t) : SV c fr σ t Q := fun A s Z R r T z => L A s Z (h A s Z R r T z)
theorem SV.pure {a : α} {Q : α → St → List V → Prop} (q : Q a σ fr) : SV c fr σ (pure a) Q := fun A s Z R r T z => wpAny_pure (z a σ fr s q r (.refl ..))
theorem SV.here {t : Sem α} {a : α} {Q : α → St → List V → Prop} (L : ∀ A s Z, Z a s → wpAny c.W.M A t Z NoE s) (q : Q a σ fr) : SV c fr σ t Q := fun A s Z R r T z => L A s Z (z a σ fr s q r (.refl ..))
theorem SV.stand {p : Pos} {t : Unit → Sem α} {Q : α → St → List V → Prop} (h : SV c fr σ (t ()) Q) : SV c fr σ (standAt p >>= t) Q := h.to fun _ _ _ h => wpAny_bind (wpAny_standAt h)
theorem SV.hold {vs : List Value} {t : Sem α} {Q : α → St → List V → Prop} (h : SV c fr σ t Q) : SV c fr σ (holding vs t) Q := h.to fun _ _ _ => wpAny_holding
theorem SV.of {t : Sem α} {Q P : α → St → List V → Prop} (h : SV c fr σ t Q) (m : ∀ a σ' fr', Q a σ' fr' → P a σ' fr') : SV c fr σ t P := fun A s Z R r T z => h A s Z R r T fun a σ' fr' s' q => z a σ' fr' s' (m a σ' fr' q)
end

theorem tgOf_is {ns : List (Str × NameKind)} {x : Str} {t : T} (h : tgOf ns x = some t) : (ns.lookup x = some .local ∧ t = .l (place ns x)) ∨ (ns.lookup x = some .cell ∧ t = .c (place ns x)) := by
  unfold tgOf at h
  cases hl : ns.lookup x with
  | none => rw [hl] at h; (first | exact nS h | exact nO h | exact nF h | exact nT h | exact nN h | exact nC h | cases h)
  | some k => (first | exact nS k | exact nO k | exact nF k | exact nT k | exact nN k | exact nC k | cases k) <;> rw [hl] at h <;> (first | exact nS h | exact nO h | exact nF h | exact nT h | exact nN h | exact nC h | cases h) <;> first | exact .inl ⟨rfl, rfl⟩ | exact .inr ⟨rfl, rfl⟩
theorem cellP {o : Option O} {K : V → Prop} (h : match o with
    | some (.cell v) => K v
    | _ => False) : ∃ v, o = some (.cell v) ∧ K v := by
  cases o with
  | none => exact h.elim
  | some o => cases o with
    | cell v => exact ⟨v, rfl, h⟩
    | _ => exact h.elim
theorem st_ok {t : T} {x : Str} {vv : Value} {K : List V → St → Prop} (ht : tgOf c.ns x = some t) (h : stW t (ab vv) c.cs fr σ K) : SV c fr σ (storeName c.env x vv) fun _ σ' fr' => K fr' σ' := fun A s Z R r T z => by
  rcases tgOf_is ht with ⟨hl, rfl⟩ | ⟨hl, rfl⟩
  · exact store_loc hl r fun s' r' t' _ _ => z () σ _ s' h r' t'
  · obtain ⟨v0, e, h⟩ := cellP (K := fun _ => K fr (σ.set (nthA c.cs (place c.ns x)) (.cell (ab vv)))) h
    rw [nthA_eq] at e h
    obtain ⟨o, hcell, _⟩ := r.objs _ _ e
    refine wpAny_storeName_cell c.ok.kind hl (c.ok.cell _ _ _ (place_of hl) (.inl rfl)).1 hcell fun h' hc' hs' => ?_
    have hob : ObjR h' (c.cs.getD (place c.ns x) 0) (.cell (ab vv)) := ⟨_, hc', rfl⟩
    have hne : c.env.locals ≠ c.cs.getD (place c.ns x) 0 := fun q => by rw [← q, r.off] at e; (first | exact nS e | exact nO e | exact nF e | exact nT e | exact nN e | exact nC e | cases e)
    obtain ⟨m, hn, hf⟩ := r.ns
    exact z () _ fr _ h ⟨r.toRelG.put (s' := { s with heap := h' }) e rfl hs' hob, ⟨m, hn.sameBut hs' hne, hf⟩, by rw [St.set_other _ _ hne]; exact r.off, r.new, r.frs.put e hs'⟩ (.put e rfl hs' hob ⟨h', s.toks, rfl⟩)
theorem assign_ok {t : T} {x : Str} {p : Pos} {vv : Value} {K : List V → St → Prop} (ht : tgOf c.ns x = some t) (h : stW t (ab vv) c.cs fr σ K) : SV c fr σ (assign (.Name x p) c.env vv) fun _ σ' fr' => K fr' σ' := (st_ok ht h).to fun _ _ _ => wpAny_assign_Name
theorem ld_ok {t : T} {x : Str} {K : V → Prop} (ht : tgOf c.ns x = some t) (h : ldW t c.cs fr σ K) : GV c fr σ (loadName c.env x) fun v σ' => K (ab v) ∧ σ' = σ := by
  rcases tgOf_is ht with ⟨hl, rfl⟩ | ⟨hl, rfl⟩
  · exact (load_loc hl h.1).of fun v σ' e => ⟨by rw [e.1]; exact h.2, e.2⟩
  · obtain ⟨v, e, hu, q⟩ := cellP (K := fun v => v ≠ .undef ∧ K v) h
    exact (load_cel (.inl hl) e hu).of fun u σ' e => ⟨by rw [e.1]; exact q, e.2⟩

noncomputable def SS (k : Nat) (st : Stmt) : Prop := ∀ (c : Cx) fr σ Q, sW c.W c.n (erS c.gl c.ns k st) c.cs fr σ Q → SV c fr σ (exec st c.env) fun f => Q (abF f)
noncomputable def SSs (k : Nat) (l : List Stmt) : Prop := ∀ (c : Cx) fr σ Q, sW c.W c.n (sl (l.map (erS c.gl c.ns k))) c.cs fr σ Q → SV c fr σ (execs l c.env) fun f => Q (abF f)
theorem oS_elim {α : Type} {o : Option α} {f : α → S} {Q : Fl → St → List V → Prop} (h : sW W n (oS o f) cs fr σ Q) : ∃ a, o = some a ∧ sW W n (f a) cs fr σ Q := by
  cases o with
  | none => exact h.elim
  | some a => exact ⟨a, rfl, h⟩
theorem grd_s {b : Bool} {x : S} {Q : Fl → St → List V → Prop} (h : sW W n (grdS b x) cs fr σ Q) : b = true ∧ sW W n x cs fr σ Q := by
  cases b with
  | true => exact ⟨rfl, h⟩
  | false => exact h.elim
theorem snss (ih : ∀ st, SS k st) : ∀ l : List Stmt, SSs k l
  | [] => fun c fr σ Q h => SV.here (fun _ _ _ => wpAny_execs_nil) h
  | st :: rest => fun c fr σ Q h A s Z R r T z => wpAny_execs_cons (ih st c fr σ _ h A s _ R r T fun f σ1 fr1 s1 q1 r1 t1 => by
    cases f with
    | next => exact snss ih rest c fr1 σ1 Q q1 A s1 Z R r1 T (z.trans t1)
    | brk => exact z _ σ1 fr1 s1 q1 r1 t1
    | cont => exact z _ σ1 fr1 s1 q1 r1 t1
    | ret v => exact z _ σ1 fr1 s1 q1 r1 t1)
section
variable {t v : PySem.Expr} {b o : List Stmt} {p : Pos}
theorem sns_ret : SS (k + 1) (.Return (some v) p) := fun c fr σ Q h => SV.g1 (fun _ _ _ => wpAny_Return_some) (sndE k v c fr σ _ h)
theorem sns_ret0 : SS (k + 1) (.Return none p) := fun c fr σ Q h => SV.here (fun _ _ _ => wpAny_Return_none) h
theorem sns_pass : SS (k + 1) (.Pass p) := fun c fr σ Q h => SV.here (fun _ _ _ => wpAny_Pass) h
theorem sns_break : SS (k + 1) (.Break p) := fun c fr σ Q h => SV.here (fun _ _ _ => wpAny_Break) h
theorem sns_cont : SS (k + 1) (.Continue p) := fun c fr σ Q h => SV.here (fun _ _ _ => wpAny_Continue) h
theorem sns_if (ih : ∀ st, SS k st) : SS (k + 1) (.If t b o p) := fun c fr σ Q h A s Z R r T z => wpAny_If (sndT k t c fr σ _ h A s _ R r fun x σ1 s1 q g t1 => by
  cases x with
  | true => exact snss ih b c fr σ1 Q q A s1 Z R (r.step g t1) T (z.trans t1.up)
  | false => exact snss ih o c fr σ1 Q q A s1 Z R (r.step g t1) T (z.trans t1.up))
theorem exp_sw {l : Nat} (h : (!isLC v) = true) : swapsWith v none l env = pure false ∨ ∀ k gl ns, er gl k ns v = .bad := by
  (first | exact nS v | exact nO v | exact nF v | exact nT v | exact nN v | exact nC v | cases v) <;> first | exact .inl rfl | exact (Bool.false_ne_true h).elim | exact .inr fun k gl ns => by (first | exact nS k | exact nO k | exact nF k | exact nT k | exact nN k | exact nC k | cases k) <;> rfl
theorem sns_exp : SS (k + 1) (.Expr v p) := fun c fr σ Q h => by
  obtain ⟨hg, h1⟩ := grd_s h
  clear h
  rcases exp_sw (env := c.env) (l := p.line) hg with hs | hs
  · have hi : interactive c.env = false := by unfold interactive; rw [c.ok.kind]; rfl
    rw [exec_Expr c.env v p hi hs]
    exact SV.stand (SV.bindG (sndE k v c fr σ _ h1) fun u σ1 q => SV.here (fun _ _ _ => wpAny_dropValue) q)
  · rw [s_exp, hs] at h1; exact h1.elim
end
end Mine

end
section -- B17
namespace Mine
variable {W : Wd} {n k : Nat} {c : Cx} {env : Env} {cs : List Addr} {fr : List V} {σ σ' : St} {A : Around} {s s' : Shared} {L : Addr → Prop}

section
variable {x : Str} {px p : Pos} {v : PySem.Expr} {t : T}
/-- the plain road -/
noncomputable def plainSet (ts : List PySem.Expr) (v : PySem.Expr) (env : Env) : Sem Flow := do
  let v' ← eval v env
  assignStores env v' (← swappedStores ts v env) ((assignEach ts env).map (·.2))
theorem plain_ok {Q : Fl → St → List V → Prop} (ht : tgOf c.ns x = some t) (h : c.x (er c.gl k c.ns v) fr σ fun u σ1 => stW t u c.cs fr σ1 fun fr1 σ2 => Q .next σ2 fr1) : SV c fr σ (plainSet [.Name x px] v c.env) fun f => Q (abF f) := by
  unfold plainSet
  refine SV.bindG (sndE k v c fr σ _ h) fun u σ1 q => ?_
  have e1 : swappedStores [.Name x px] v c.env = pure none := by unfold swappedStores; rfl
  rw [e1]
  refine SV.bind (SV.pure (Q := fun a σ' fr' => a = none ∧ σ' = σ1 ∧ fr' = fr) ⟨rfl, rfl, rfl⟩) fun a σ2 fr2 e => ?_
  obtain ⟨rfl, rfl, rfl⟩ := e
  exact SV.bind (t1 := assignAll u [assign (.Name x px) c.env]) (assign_ok ht q) fun _ σ3 fr3 q3 => SV.pure q3
theorem Frs.only {H : Heap} {C : Addr} (f : Frs H A σ' s) {s0 : Shared} (f0 : Frs H A σ s0) (hC : s0.heap.get? C = none) (o : Only C s s') : Frs H A σ' s' := by
  obtain ⟨l, hl, hf⟩ := f
  obtain ⟨l0, hl0, hf0⟩ := f0
  rw [hl] at hl0; (first | exact nS hl0 | exact nO hl0 | exact nF hl0 | exact nT hl0 | exact nN hl0 | exact nC hl0 | cases hl0)
  refine ⟨l, hl, fun ev he => ?_⟩
  obtain ⟨h1, L, ob, es, n, h2, h3, h4, h5, h6⟩ := hf ev he
  obtain ⟨_, L0, o0, _, _, k2, _, _, k5, _⟩ := hf0 ev he
  rw [h2] at k2; (first | exact nS k2 | exact nO k2 | exact nF k2 | exact nT k2 | exact nN k2 | exact nC k2 | cases k2)
  exact ⟨h1, L, ob, es, n, h2, h3, h4, o.keep L ob (fun q => by rw [q, hC] at k5; (first | exact nS k5 | exact nO k5 | exact nF k5 | exact nT k5 | exact nN k5 | exact nC k5 | cases k5)) h5, h6⟩
/-- a comprehension's row goes into a name -/
theorem cend_store {Q : Fl → St → List V → Prop} {Z : Value → Shared → Prop} (ht : tgOf c.ns x = some t) (R : Room c.n A) (r : Rel c.W.H A c.env σ fr s) (Tp : Mine.Top A c.env) (z : ∀ σ' fr' s', Q .next σ' fr' → Rel c.W.H A c.env σ' fr' s' → Stp (At c.env.locals) σ s σ' s' → Z .none s') :
    CEnd c.W A σ s (some fun v => assignAll v [assign (.Name x px) c.env]) (fun u σ1 => stW t u c.cs fr σ1 fun fr1 σ2 => Q .next σ2 fr1) Z := fun D C s1 σ1 q g t1 hn hσC hHC hsC => by
  have r1 := r.step g t1
  refine assign_ok ht (vv := .ref D) q A s1 _ R r1 Tp fun _ σ2 fr2 s2 q2 r2 t2 => ?_
  have hCL : C ≠ c.env.locals := fun e => by
    obtain ⟨m', ⟨o, _, _, e', _⟩, _⟩ := r.ns
    rw [← e, hsC] at e'; (first | exact nS e' | exact nO e' | exact nF e' | exact nT e' | exact nN e' | exact nC e' | cases e')
  obtain ⟨m, hn⟩ := hn
  obtain ⟨oC, _, _, eC, _⟩ := id hn
  have hn2 : s2.heap.Ns C m := Ns_look hn fun o e => t2.look C o e (fun y hy => by rw [hσC] at hy; (first | exact nS hy | exact nO hy | exact nF hy | exact nT hy | exact nN hy | exact nC hy | cases hy)) hCL
  refine ⟨m, hn2, fun h' hs' => ?_⟩
  have o2 : Only C s2 { s2 with heap := h' } := ⟨fun b o hb e => (hs'.2 b hb).trans e, h', s2.toks, rfl⟩
  exact z σ2 fr2 _ q2 ⟨r2.toRelG.only o2 (t2.off hσC eC) hHC, let ⟨m', hn', hf'⟩ := r2.ns; ⟨m', hn'.sameBut hs' (Ne.symm hCL), hf'⟩, r2.off, r2.new, r2.frs.only r.frs hsC o2⟩ ((t1.up.trans t2).sameBut hsC hs')
theorem lc_is {v : PySem.Expr} (h : isLC v = true) : ∃ elt gens sc q, v = .ListComp elt gens sc q := by
  (first | exact nS v | exact nO v | exact nF v | exact nT v | exact nN v | exact nC v | cases v) <;> first | exact ⟨_, _, _, _, rfl⟩ | (first | exact nS h | exact nO h | exact nF h | exact nT h | exact nN h | exact nC h | cases h)
theorem set_sw {l : Nat} (h : isLC v = false) : swapsWithSole [.Name x px] v l env = pure false ∨ ∀ k gl ns, er gl k ns v = .bad := by
  (first | exact nS v | exact nO v | exact nF v | exact nT v | exact nN v | exact nC v | cases v) <;> first | exact .inl rfl | exact Bool.noConfusion (show true = false from h) | exact .inr fun k gl ns => by (first | exact nS k | exact nO k | exact nF k | exact nT k | exact nN k | exact nC k | cases k) <;> rfl
theorem comp_set {elt : PySem.Expr} {gens : List Comprehension} {sc : Scope} {q : Pos} {Q : Fl → St → List V → Prop} (ht : tgOf c.ns x = some t) (h : c.x (er c.gl (k + 1) c.ns (.ListComp elt gens sc q)) fr σ fun u σ1 => stW t u c.cs fr σ1 fun fr1 σ2 => Q .next σ2 fr1) :
    SV c fr σ (do evalThenUse (.ListComp elt gens sc q) c.env fun v => assignAll v [assign (.Name x px) c.env]; pure Flow.next) fun f => Q (abF f) := fun A s Z R r Tp z => by
  refine wpAny_bind ?_
  show wpAny c.W.M A (do let _ ← comprehension (.ListComp elt gens sc q) sc c.env (firstIterPos gens q) (newList []) (firstAsync gens) (firstIter gens c.env) (some fun v => assignAll v [assign (.Name x px) c.env])) _ _ s
  exact wpAny_bind (comp_run (sndE k elt) (fun g _ => ⟨sndE k g.iter, fun e _ => sndT k e⟩) (shape_of h) R r (cend_store ht R r Tp fun σ2 fr2 s2 q2 r2 t2 => wpAny_pure (wpAny_pure (z _ σ2 fr2 s2 q2 r2 t2))))
theorem sns_set : SS (k + 1) (.Assign [.Name x px] v p) := fun c fr σ Q h => by
  obtain ⟨t, ht, h1⟩ := oS_elim (o := tgOf c.ns x) h
  clear h
  rw [arm_exec_Assign]
  refine SV.stand ?_
  have plain := plain_ok (px := px) ht h1
  cases hlc : isLC v with
  | true =>
    obtain ⟨elt, gens, sc, q, rfl⟩ := lc_is hlc
    obtain ⟨b, e1⟩ : ∃ b, swapsWithSole [.Name x px] (.ListComp elt gens sc q) p.line c.env = pure b := ⟨_, rfl⟩
    rw [e1]
    refine SV.to (t1 := if b = true then _ else _) ?_ fun A s Z h => wpAny_bind (wpAny_pure h)
    cases b with
    | false => exact plain
    | true => cases k with
      | zero => exact h1.elim
      | succ k => exact comp_set ht h1
  | false =>
    rcases set_sw (env := c.env) (x := x) (px := px) (l := p.line) hlc with e1 | e1
    · rw [e1]; exact plain.to fun A s Z h => wpAny_bind (wpAny_pure h)
    · rw [s_set, e1] at h1; exact h1.elim
end

section
variable {o i v : PySem.Expr} {sp p np : Pos} {x : Str} {op : Operator}
theorem aug_ok {va vb : Value} {K : V → Prop} (h : augW op (ab va) (ab vb) K) : HV W n σ (inplaceOp op va vb) fun v σ' => K (ab v) ∧ σ' = σ := by
  cases op with
  | Add => exact two_on (G := fun a b => HV W n σ (inplaceOp .Add a b) fun v σ' => K (ab v) ∧ σ' = σ) h fun _ _ _ _ h _ _ _ _ r z => P.iadd_int (z.tok r ⟨h, rfl⟩)
  | Sub => exact two_on (G := fun a b => HV W n σ (inplaceOp .Sub a b) fun v σ' => K (ab v) ∧ σ' = σ) h fun _ _ _ _ h _ _ _ _ r z => P.isub_int (z.tok r ⟨h, rfl⟩)
  | _ => exact h.elim
theorem sns_aug : SS (k + 1) (.AugAssign (.Name x np) op v p) := fun c fr σ Q h => by
  obtain ⟨t, ht, h1⟩ := oS_elim (o := tgOf c.ns x) h
  clear h
  refine fun A s Z R r Tp z => wpAny_AugAssign_Name (ld_ok ht h1 A s _ R r fun old σ0 s0 h0 g0 t0 => ?_)
  obtain ⟨h0, rfl⟩ := h0
  refine sndE k v c fr σ0 _ h0 A s0 _ R (r.step g0 t0) fun u σ1 s1 q1 g1 t1 => aug_ok q1 A s1 _ R g1 fun nw σ2 s2 q2 g2 t2 => ?_
  obtain ⟨q2, rfl⟩ := q2
  exact st_ok ht q2 A s2 _ R (((r.step g0 t0).step g1 t1).step g2 t2) Tp fun a σ3 fr3 s3 q3 r3 t3 => z _ σ3 fr3 s3 q3 r3 (((t0.trans t1).trans t2).up.trans t3)
end

theorem tup_on {va : Value} {K : List V → Prop} (h : tupW (ab va) σ K) : ∃ a xs, va = .ref a ∧ σ a = some (.tup xs) ∧ K xs :=
  ref_on (G := fun v => ∃ a xs, v = .ref a ∧ σ a = some (.tup xs) ∧ K xs) h fun a o e h => by
    cases o with
    | tup xs => exact ⟨a, xs, rfl, e, h⟩
    | _ => exact h.elim
/-- the names of a target -/
theorem tgs_cons {ns : List (Str × NameKind)} {e : PySem.Expr} {r : List PySem.Expr} {t : List T} (h : tgsOf ns (e :: r) = some t) : ∃ x p t0 t1, e = .Name x p ∧ tgOf ns x = some t0 ∧ tgsOf ns r = some t1 ∧ t = t0 :: t1 := by
  obtain ⟨x, h1, h2⟩ := Option.bind_eq_some_iff.mp h
  obtain ⟨t0, h3, h4⟩ := Option.bind_eq_some_iff.mp h2
  obtain ⟨t1, h5, h6⟩ := Option.map_eq_some_iff.mp h4
  obtain ⟨p, h7⟩ := nameOf_is h1
  exact ⟨x, p, t0, t1, h7, h3, h5, h6.symm⟩
theorem tup_assign {K : List V → St → Prop} : ∀ (ts : List PySem.Expr) (t : List T) (vs : List Value) (c : Cx) (fr : List V) (σ : St), tgsOf c.ns ts = some t → stsW t (vs.map ab) c.cs fr σ K → SV c fr σ (assignInOrder ((assignEach ts c.env).map (·.2)) vs) fun _ σ' fr' => K fr' σ'
  | [], t, vs, c, fr, σ, e, h => by
    (first | exact nS e | exact nO e | exact nF e | exact nT e | exact nN e | exact nC e | cases e)
    cases vs with
    | nil => exact SV.pure h
    | cons _ _ => exact h.elim
  | ex :: rest, t, vs, c, fr, σ, e, h => by
    obtain ⟨x, p, t0, t1, rfl, h0, h1, rfl⟩ := tgs_cons e
    cases vs with
    | nil => exact h.elim
    | cons v vs => exact SV.bind (t1 := holding vs (assign (.Name x p) c.env v)) (t2 := fun _ => assignInOrder ((assignEach rest c.env).map (·.2)) vs) (SV.hold (assign_ok h0 h)) fun _ σ1 fr1 q => tup_assign rest t1 vs c fr1 σ1 h1 q
theorem each_len {ns : List (Str × NameKind)} : ∀ {ts : List PySem.Expr} {t : List T}, tgsOf ns ts = some t → (assignEach ts env).length = t.length ∧ (assignEach ts env).findIdx? (·.1) = none
  | [], t, h => by (first | exact nS h | exact nO h | exact nF h | exact nT h | exact nN h | exact nC h | cases h); exact ⟨rfl, rfl⟩
  | e :: r, t, h => by
    obtain ⟨x, p, t0, t1, rfl, h0, h1, rfl⟩ := tgs_cons h
    obtain ⟨a, b⟩ := each_len h1
    have e1 : assignEach (.Name x p :: r) env = (false, assign (.Name x p) env) :: assignEach r env := rfl
    rw [e1]
    exact ⟨by rw [List.length_cons, List.length_cons, a], by rw [List.findIdx?_cons, b]; rfl⟩
/-- a tuple unpacked into names -/
theorem unpack_ok {ts : List PySem.Expr} {i : Nat} {p : Pos} {t : List T} {vv : Value} {K : List V → St → Prop} (ht : tgsOf c.ns ts = some t) (h : tupW (ab vv) σ fun xs => xs.length = t.length ∧ stsW t xs c.cs fr σ K) : SV c fr σ (assign (.Tuple ts i p) c.env vv) fun _ σ' fr' => K fr' σ' := fun A s Z R r Tp z => by
  obtain ⟨a, xs, rfl, e, hlen, h⟩ := tup_on h
  obtain ⟨items, hit, hx, hz⟩ := r.objs _ _ e
  obtain ⟨l1, l2⟩ := each_len (env := c.env) ht
  show wpAny c.W.M A (do standAt p; unpack (.ref a) (assignEach ts c.env)) _ _ s
  refine wpAny_bind (wpAny_standAt (wpAny_unpack_tuple R.handled hit (by rw [l1, ← hlen, ← hx, List.length_map]; rfl) l2 fun h' he => ?_))
  have hk : ∀ b o, s.heap.get? b = some o → h'.get? b = some o := fun b o e => he b o (Nat.ne_of_lt (Heap.lt_size e)) e
  have t0 : Stp No σ s σ { s with heap := h' } := .ext hk ⟨h', s.toks, rfl⟩
  rw [← hx] at h
  exact tup_assign ts t items.toList c fr σ ht h A _ Z R (r.step (r.toRelG.ext hk) t0) Tp fun a σ' fr' s' q r' t' => z a σ' fr' s' q r' (t0.up.trans t')
theorem sns_unp {ts : List PySem.Expr} {i : Nat} {tp p : Pos} {v : PySem.Expr} : SS (k + 1) (.Assign [.Tuple ts i tp] v p) := fun c fr σ Q h => by
  obtain ⟨hv, h1⟩ := grd_s h
  obtain ⟨t, ht, h2⟩ := oS_elim h1
  clear h h1
  rw [arm_exec_Assign]
  refine SV.stand ?_
  have e1 : swapsWithSole [.Tuple ts i tp] v p.line c.env = pure false := by (first | exact nS v | exact nO v | exact nF v | exact nT v | exact nN v | exact nC v | cases v) <;> rfl
  have e2 : swappedStores [.Tuple ts i tp] v c.env = pure none := by (first | exact nS v | exact nO v | exact nF v | exact nT v | exact nN v | exact nC v | cases v) <;> first | rfl | exact (Bool.false_ne_true hv).elim
  rw [e1]
  refine SV.to (t1 := plainSet [.Tuple ts i tp] v c.env) ?_ fun A s Z h => wpAny_bind (wpAny_pure h)
  unfold plainSet
  refine SV.bindG (sndE k v c fr σ _ h2) fun u σ1 q => ?_
  rw [e2]
  exact SV.to (t1 := assign (.Tuple ts i tp) c.env u >>= fun _ => pure Flow.next) (SV.bind (unpack_ok ht q) fun _ σ2 fr2 q2 => SV.pure q2) fun A s Z h => wpAny_bind (wpAny_pure h)
end Mine

end
section -- B18
namespace Mine
variable {W : Wd} {n k : Nat} {c : Cx} {env : Env} {cs : List Addr} {fr : List V} {σ σ' : St} {A : Around} {s s' : Shared} {L : Addr → Prop}

theorem sns_while {t : PySem.Expr} {b o : List Stmt} {p : Pos} (ih : ∀ st, SS k st) : SS (k + 1) (.While t b o p) := fun c fr σ Q h A s Z R r Tp z => by
  obtain ⟨ho, h1⟩ := grd_s h
  clear h
  cases List.isEmpty_iff.mp ho
  obtain ⟨I, ⟨j0, hI⟩, turn⟩ := h1
  refine wpAny_While (codeAny_whileLoop (fun j s' => ∃ σ' fr', I j σ' fr' ∧ Rel c.W.H A c.env σ' fr' s' ∧ Stp (At c.env.locals) σ s σ' s') ?_ j0 ⟨σ, fr, hI, r, .refl ..⟩)
  intro j s' h
  obtain ⟨σ', fr', hI', r', t'⟩ := h
  refine wpW (sndT k t c fr' σ' _ (turn j σ' fr' hI') A s' _ R r' fun x σ1 s1 q1 g1 t1 => ?_)
  have r1 := r'.step g1 t1
  cases x with
  | false => exact wpAny_execs_nil (z _ σ1 fr' s1 q1 r1 (t'.trans t1.up))
  | true =>
    refine wpW (snss ih b c fr' σ1 _ q1 A s1 _ R r1 Tp fun f σ2 fr2 s2 q2 r2 t2 => ?_)
    have tt := (t'.trans t1.up).trans t2
    cases f with
    | next => obtain ⟨i, hi, hI2⟩ := q2; exact ⟨i, hi, σ2, fr2, hI2, r2, tt⟩
    | cont => obtain ⟨i, hi, hI2⟩ := q2; exact ⟨i, hi, σ2, fr2, hI2, r2, tt⟩
    | brk => exact z _ σ2 fr2 s2 q2 r2 tt
    | ret v => exact z _ σ2 fr2 s2 q2 r2 tt
theorem tg_ok {tgt : PySem.Expr} {tg : Tg} {vv : Value} {K : List V → St → Prop} (ht : tgK c.ns (ek tgt) = some tg) (h : tgW tg (ab vv) c.cs fr σ K) : SV c fr σ (assign tgt c.env vv) fun _ σ' fr' => K fr' σ' := by
  cases hk : ek tgt with
  | name x p =>
    cases (show tgt = .Name x p from ek_of hk)
    obtain ⟨t, h1, rfl⟩ := Option.map_eq_some_iff.mp (show (tgOf c.ns x).map .one = some tg from ht)
    exact assign_ok h1 h
  | tup ts i p =>
    cases (show tgt = .Tuple ts i p from ek_of hk)
    obtain ⟨t, h1, rfl⟩ := Option.map_eq_some_iff.mp (show (tgsOf c.ns ts).map .many = some tg from ht)
    exact unpack_ok h1 h
  | _ => rw [hk] at ht; (first | exact nS ht | exact nO ht | exact nF ht | exact nT ht | exact nN ht | exact nC ht | cases ht)
section
variable {I : Addr} {fp : List Addr} {xs : List V} {chk : St → Prop} {S : Nat → Heap → Prop} {tgt : PySem.Expr} {b : List Stmt} {bod : V → List V → St → (Fl → St → List V → Prop) → Prop} {Q : Fl → St → List V → Prop} {σb : St} {sb : Shared}
theorem own_ok {tg : Tg} (X : Itr W A I fp xs chk S) {i : Nat} (hS : S i s.heap) (ht : tgK c.ns (ek tgt) = some tg) {v : Value} {Z : Unit → Shared → Prop} {E : Value → Shared → Prop} (h : Z () s) : wpAny W.M A (letOwnedTupleGo tgt (.ref I) v) Z E s := by
  cases hk : ek tgt with
  | name x p => cases (show tgt = .Name x p from ek_of hk); exact wpAny_pure h
  | tup ts j p => cases (show tgt = .Tuple ts j p from ek_of hk); exact X.own i s ts j p v Z E hS h
  | _ => rw [hk] at ht; (first | exact nS ht | exact nO ht | exact nF ht | exact nT ht | exact nN ht | exact nC ht | cases ht)
/-- between two turns -/
structure FI (c : Cx) (A : Around) (I : Addr) (fp : List Addr) (S : Nat → Heap → Prop) (σb : St) (sb : Shared) (i : Nat) (fr : List V) (σ : St) (s : Shared) : Prop where
  rel : Rel c.W.H A c.env σ fr s
  j : J I fp S i σ s
  t : Stp (fun b => b = I ∨ At c.env.locals b) σb sb σ s
/-- ahead of a turn -/
inductive FT (c : Cx) (A : Around) (I : Addr) (fp : List Addr) (xs : List V) (chk : St → Prop) (S : Nat → Heap → Prop) (bod : V → List V → St → (Fl → St → List V → Prop) → Prop) (Q : Fl → St → List V → Prop) (σb : St) (sb : Shared) (m : Nat) (s' : Shared) : Prop where
  | mk (i : Nat) (σ' : St) (fr' : List V) (hk : m = xs.length + 1 - i) (hi : i ≤ xs.length) (h : forW chk bod (xs.drop i) fr' σ' Q) (l : FI c A I fp S σb sb i fr' σ' s') : FT c A I fp xs chk S bod Q σb sb m s'
theorem for_run {tg : Tg} {Z : Flow → Shared → Prop} {R : Result → Shared → Prop} (X : Itr c.W A I fp xs chk S) (Rm : Room c.n A) (Tp : Mine.Top A c.env) (ht : tgK c.ns (ek tgt) = some tg) (hI : c.W.H.get? I = none) (hIb : sb.heap.get? I = none) (hLf : c.env.locals ∉ fp) (hIL : I ≠ c.env.locals)
    (hb : ∀ v fr σ K, bod v fr σ K → ∀ vv, ab vv = v → SV c fr σ (assign tgt c.env vv) fun _ σ' fr' => SV c fr' σ' (execs b c.env) fun f => K (abF f))
    (z : EndS c A σb sb (fun f => Q (abF f)) Z) (hR : ∀ f s', Z f s' → R (.ok f) s') {fr0 : List V} {σ0 : St} {s0 : Shared} (hf : forW chk bod xs fr0 σ0 Q) (l0 : FI c A I fp S σb sb 0 fr0 σ0 s0) : codeAny c.W.M A (.forLoop tgt (.ref I) b [] c.env) R s0 := by
  refine codeAny_forLoop_any (FT c A I fp xs chk S bod Q σb sb) (fun k s' h => ?_) (xs.length + 1) ⟨0, σ0, fr0, rfl, Nat.zero_le _, hf, l0⟩
  clear l0 hf
  obtain ⟨i, σ', fr', hk, hi, hfw, l⟩ := h
  by_cases hlt : i < xs.length
  · rw [drop_nth hlt] at hfw
    refine X.next l.j l.rel.toRelG hfw.1 hlt fun v s1 hv j1 o1 => own_ok X j1.1 ht ?_
    have r1 := l.rel.only o1 l.j.2.1 hI (Ne.symm hIL) (X.nod l.j)
    refine wpW (hb _ fr' σ' _ hfw.2 v hv A s1 _ Rm r1 Tp fun _ σ2 fr2 s2 q2 r2 t2 => wpW (q2 A s2 _ Rm r2 Tp fun f σ3 fr3 s3 q3 r3 t3 => ?_))
    have hn : ∀ b ∈ fp, ¬ At c.env.locals b := fun b hb q => hLf ((show b = c.env.locals from q) ▸ hb)
    have j3 := (j1.step X t2 hn).step X t3 hn
    have t3' : Stp (fun b => b = I ∨ At c.env.locals b) σb sb σ3 s3 := (l.t.trans (.only o1 (.inl rfl) (X.alive _ _ j1.1 I X.mem))).trans ((t2.trans t3).weak fun _ q => .inr q)
    have more : lpW (fun σ' fr' => forW chk bod (xs.drop (i + 1)) fr' σ' Q) Q (abF f) σ3 fr3 → (abF f = .next ∨ abF f = .cont) → ∃ m, m < k ∧ FT c A I fp xs chk S bod Q σb sb m s3 := fun q h => ⟨_, by rw [hk]; exact Nat.sub_succ_lt_self _ _ (Nat.lt_succ_of_lt hlt), i + 1, σ3, fr3, rfl, hlt, by
      rcases h with h | h <;> (rw [h] at q; exact q), r3, j3, t3'⟩
    cases f with
    | next => exact more q3 (.inl rfl)
    | cont => exact more q3 (.inr rfl)
    | brk => exact hR _ _ (z _ σ3 fr3 s3 q3 r3 (t3'.endW .refl hIb))
    | ret v => exact hR _ _ (z _ σ3 fr3 s3 q3 r3 (t3'.endW .refl hIb))
  · have hin : i = xs.length := Nat.le_antisymm hi (Nat.not_lt.mp hlt)
    rw [hin] at l hfw
    rw [List.drop_of_length_le (Nat.le_refl _)] at hfw
    exact X.stop l.j l.rel.toRelG hfw.1 fun s1 o1 => wpAny_execs_nil (hR _ _ (z _ σ' fr' s1 hfw.2 (l.rel.only o1 l.j.2.1 hI (Ne.symm hIL) (X.nod l.j)) (l.t.endW o1 hIb)))
end
theorem Stp.drop {F : List Addr} {L : Addr → Prop} {h' : Heap} (t : Stp (fun b => b ∈ F ∨ L b) σ s σ' s') (h : ∀ b ∈ F, s.heap.get? b = none) (hk : ∀ b o, b ∉ F → s'.heap.get? b = some o → h'.get? b = some o) : Stp L σ s σ' { s' with heap := h' } := by
  have nF : ∀ {b o}, s.heap.get? b = some o → b ∉ F := fun e q => by rw [h _ q] at e; (first | exact nS e | exact nO e | exact nF e | exact nT e | exact nN e | exact nC e | cases e)
  refine ⟨fun b o e hm hl hd => hk b o (nF e) (t.keep b o e hm (fun q => q.elim (nF e) hl) hd), fun b o e hm hl => ?_, t.dom, fun b o e => ?_, ?_⟩
  · obtain ⟨sl, e1⟩ := t.look b o e hm fun q => q.elim (nF e) hl
    exact ⟨sl, hk b _ (nF e) e1⟩
  · obtain ⟨o', e1⟩ := t.alive b o e
    exact ⟨o', hk b _ (nF e) e1⟩
  · obtain ⟨h1, tk, e⟩ := t.rest
    exact ⟨h', tk, by rw [e]⟩
theorem RelG.setI {H : Heap} {a : Addr} {x : O} (r : RelG H σ s) (ho : ObjR s.heap a x) (hH : H.get? a = none) : RelG H (σ.set a x) s := by
  refine ⟨r.base, fun b z e => ?_, fun b z e hz => ?_⟩
  · by_cases hb : b = a
    · rw [hb, St.set_same] at e; (first | exact nS e | exact nO e | exact nF e | exact nT e | exact nN e | exact nC e | cases e); rw [hb]; exact ho
    · rw [St.set_other _ _ hb] at e; exact r.objs b z e
  · by_cases hb : b = a
    · rw [hb]; exact hH
    · rw [St.set_other _ _ hb] at e; exact r.own b z e hz
/-- between two turns; z is the zip, of the lists a and a' -/
structure ZI (c : Cx) (A : Around) (z TI TO i1 i2 a a' : Addr) (σb : St) (sb : Shared) (i : Nat) (fr : List V) (σ : St) (s : Shared) : Prop where
  rel : Rel c.W.H A c.env σ fr s
  zip : IsZip s.heap z TI TO .none
  ti : IsPair s.heap TI (.ref i1) (.ref i2)
  to : ∃ x y, IsPair s.heap TO x y
  it1 : s.heap.IsListIter i1 a i
  it2 : s.heap.IsListIter i2 a' i
  off : ∀ b ∈ [z, TI, TO, i1, i2], σ b = none
  t : Stp (fun b => b ∈ [z, TI, TO, i1, i2] ∨ At c.env.locals b) σb sb σ s
section
variable {z TI TO i1 i2 a a' : Addr} {σb : St} {sb : Shared} {i : Nat}
theorem zmem {P : Addr → Prop} (h1 : P z) (h2 : P TI) (h3 : P TO) (h4 : P i1) (h5 : P i2) : ∀ b ∈ [z, TI, TO, i1, i2], P b := fun b hb => by
  rcases List.mem_cons.mp hb with rfl | hb
  · exact h1
  rcases List.mem_cons.mp hb with rfl | hb
  · exact h2
  rcases List.mem_cons.mp hb with rfl | hb
  · exact h3
  rcases List.mem_cons.mp hb with rfl | hb
  · exact h4
  · rw [List.mem_singleton.mp hb]; exact h5
theorem ZI.there (Z : ZI c A z TI TO i1 i2 a a' σb sb i fr σ s) : ∀ b ∈ [z, TI, TO, i1, i2], ∃ o, s.heap.get? b = some o ∧ ∀ es n, o.data ≠ .dict es n := by
  obtain ⟨x, y, hto⟩ := Z.to
  obtain ⟨o1, e1, _, d1⟩ := Z.it1
  obtain ⟨o2, e2, _, d2⟩ := Z.it2
  exact zmem (P := fun b => ∃ o, s.heap.get? b = some o ∧ ∀ es n, o.data ≠ .dict es n) ⟨_, Z.zip, nofun⟩ ⟨_, Z.ti, nofun⟩ ⟨_, hto, nofun⟩ ⟨_, e1, by rw [d1]; nofun⟩ ⟨_, e2, by rw [d2]; nofun⟩
theorem ZI.step {fr' : List V} (Z : ZI c A z TI TO i1 i2 a a' σb sb i fr σ s) (r' : Rel c.W.H A c.env σ' fr' s') (t : Stp (At c.env.locals) σ s σ' s') (hL : c.env.locals ∉ [z, TI, TO, i1, i2]) : ZI c A z TI TO i1 i2 a a' σb sb i fr' σ' s' := by
  have kp : ∀ b ∈ [z, TI, TO, i1, i2], ∀ o, s.heap.get? b = some o → s'.heap.get? b = some o := fun b hb o e => by
    obtain ⟨o', e', hd⟩ := Z.there b hb
    rw [e] at e'; (first | exact nS e' | exact nO e' | exact nF e' | exact nT e' | exact nN e' | exact nC e' | cases e')
    exact t.keep b o e (fun x hx => by rw [Z.off b hb] at hx; (first | exact nS hx | exact nO hx | exact nF hx | exact nT hx | exact nN hx | exact nC hx | cases hx)) (fun q => hL ((show b = c.env.locals from q) ▸ hb)) hd
  obtain ⟨x, y, hto⟩ := Z.to
  exact ⟨r', kp _ (.head _) _ Z.zip, kp _ (.tail _ (.head _)) _ Z.ti, ⟨x, y, kp _ (.tail _ (.tail _ (.head _))) _ hto⟩, Z.it1.at fun o e => kp _ (.tail _ (.tail _ (.tail _ (.head _)))) o e, Z.it2.at fun o e => kp _ (.tail _ (.tail _ (.tail _ (.tail _ (.head _))))) o e,
    fun b hb => let ⟨_, e, _⟩ := Z.there b hb; t.off (Z.off b hb) e, Z.t.trans (t.weak fun _ q => .inr q)⟩
/-- only what belongs to the zip is changed -/
theorem ZI.hid (Z : ZI c A z TI TO i1 i2 a a' σb sb i fr σ s) (hH : ∀ b ∈ [z, TI, TO, i1, i2], c.W.H.get? b = none) (hL : c.env.locals ∉ [z, TI, TO, i1, i2]) {h' : Heap} (hk : ∀ b o, b ∉ [z, TI, TO, i1, i2] → s.heap.get? b = some o → h'.get? b = some o) : Rel c.W.H A c.env σ fr { s with heap := h' } := by
  refine ⟨Z.rel.toRelG.hidden (L := fun b => b ∈ [z, TI, TO, i1, i2]) (fun b hb => ⟨Z.off b hb, hH b hb⟩) fun b o hb e => hk b o hb e, ?_, Z.rel.off, Z.rel.new, ?_⟩
  · obtain ⟨m, hn, hf⟩ := Z.rel.ns
    exact ⟨m, hn.at' fun ob e => hk _ ob hL e, hf⟩
  · refine Z.rel.frs.mono fun b ob es n e hdb hσb => ⟨hσb, ob, es, n, hk b ob (fun q => ?_) e, hdb⟩
    obtain ⟨o', e', hd⟩ := Z.there b q
    rw [e] at e'; (first | exact nS e' | exact nO e' | exact nF e' | exact nT e' | exact nN e' | exact nC e' | cases e')
    exact hd es n hdb
theorem zip_turn (D : ZipApart z TI TO i1 i2 a a') (Z : ZI c A z TI TO i1 i2 a a' σb sb i fr σ s) (hH : ∀ b ∈ [z, TI, TO, i1, i2], c.W.H.get? b = none) (hL : c.env.locals ∉ [z, TI, TO, i1, i2]) {xs ys : List V} (ea : σ a = some (.lst xs)) (ea' : σ a' = some (.lst ys))
    (hi : i < xs.length) (hi' : i < ys.length) {elts : List PySem.Expr} {k : Nat} {pos : Pos} {N : Option Value → Shared → Prop} {G : Value → Unit → Shared → Prop} {E E' : Value → Shared → Prop} (hN : ∀ v s', wpAny c.W.M A (letOwnedTupleGo (.Tuple elts k pos) (.ref z) v) (G v) E s' → N (some v) s')
    (q : ∀ T s1, σ T = none → ZI c A z TI TO i1 i2 a a' σb sb (i + 1) fr (σ.set T (.tup [nth xs i, nth ys i])) s1 → G (.ref T) () s1) : wpAny c.W.M A (pyNext (.ref z)) N E' s := by
  obtain ⟨it1, hp1, hx1, _⟩ := Z.rel.objs _ _ ea
  obtain ⟨it2, hp2, hx2, _⟩ := Z.rel.objs _ _ ea'
  obtain ⟨u, v, hto⟩ := Z.to
  have g1 : i < it1.size := by rw [← hx1, List.length_map, Array.length_toList] at hi; exact hi
  have g2 : i < it2.size := by rw [← hx2, List.length_map, Array.length_toList] at hi'; exact hi'
  have n1 : nth xs i = ab it1[i] := by rw [← hx1]; exact nth_map (by rw [Array.getElem?_toList]; exact Array.getElem?_eq_getElem g1)
  have n2 : nth ys i = ab it2[i] := by rw [← hx2]; exact nth_map (by rw [Array.getElem?_toList]; exact Array.getElem?_eq_getElem g2)
  refine wpAny_pyNext_zip_item D Z.zip Z.ti hto Z.it1 Z.it2 hp1.isList hp2.isList (Array.getElem?_eq_getElem g1) (Array.getElem?_eq_getElem g2) fun h1 a1 a2 a3 a4 a5 a6 hk => hN _ _ (wpAny_letOwnedTupleGo_zip a1 fun h2 hz2 hs2 => ?_)
  have hT0 : s.heap.get? s.heap.objs.size = none := get_size _
  generalize s.heap.objs.size = T at a1 a5 a6 hT0 hz2
  have nT : T ∉ [z, TI, TO, i1, i2] := fun hm => by obtain ⟨o, e, _⟩ := Z.there T hm; rw [hT0] at e; (first | exact nS e | exact nO e | exact nF e | exact nT e | exact nN e | exact nC e | cases e)
  have nz : T ≠ z := fun e => nT (e ▸ .head _)
  have hk2 : ∀ b o, b ∉ [z, TI, TO, i1, i2] → s.heap.get? b = some o → h2.get? b = some o := fun b o hb e => hs2.extBut b o (fun x => hb (x ▸ .head _)) (hk b o (fun x => hb (x ▸ .head _)) (fun x => hb (x ▸ .tail _ (.tail _ (.head _)))) (fun x => hb (x ▸ .tail _ (.tail _ (.tail _ (.head _))))) (fun x => hb (x ▸ .tail _ (.tail _ (.tail _ (.tail _ (.head _)))))) e)
  have ti2 : IsPair h2 TI (.ref i1) (.ref i2) := hs2.extBut _ _ D.TIz (hk _ _ D.TIz D.TITO D.TIi1 D.TIi2 Z.ti)
  have to2 : IsPair h2 TO it1[i] it2[i] := hs2.extBut _ _ D.TOz a2
  have b3 : h2.IsListIter i1 a (i + 1) := a3.at fun o e => hs2.extBut _ o D.i1z e
  have b4 : h2.IsListIter i2 a' (i + 1) := a4.at fun o e => hs2.extBut _ o D.i2z e
  have hT2 : IsPair h2 T it1[i] it2[i] := hs2.extBut _ _ nz a5
  have al : ∀ b ∈ [z, TI, TO, i1, i2], ∃ o, h2.get? b = some o := by
    obtain ⟨_, e3, _⟩ := id b3
    obtain ⟨_, e4, _⟩ := id b4
    exact zmem (P := fun b => ∃ o, h2.get? b = some o) ⟨_, hz2⟩ ⟨_, ti2⟩ ⟨_, to2⟩ ⟨_, e3⟩ ⟨_, e4⟩
  have r1 := Z.hid hH hL hk2
  rw [n1, n2] at q
  have r2 : RelG c.W.H (σ.set T (.tup [ab it1[i], ab it2[i]])) { s with heap := h2 } := r1.toRelG.setI ⟨#[it1[i], it2[i]], ⟨_, hT2, rfl, _, rfl⟩, rfl, show 2 ≤ lim by decide⟩ (Z.rel.toRelG.offbase hT0)
  have hLT : c.env.locals ≠ T := fun e => by
    obtain ⟨m, ⟨o, _, _, e', _⟩, _⟩ := Z.rel.ns
    rw [e, hT0] at e'; (first | exact nS e' | exact nO e' | exact nF e' | exact nT e' | exact nN e' | exact nC e' | cases e')
  have nF : ∀ b ∈ [z, TI, TO, i1, i2], b ≠ T := fun b hb e => nT (e ▸ hb)
  clear hk a1 a2 a3 a4 a5 a6 hp1 hp2 hx1 hx2
  refine q T _ (Z.rel.toRelG.fresh hT0) ⟨⟨r2, r1.ns, by rw [St.set_other _ _ hLT]; exact Z.rel.off, Z.rel.new, r1.frs.mono fun b ob es n e hdb hσb => ⟨?_, ob, es, n, e, hdb⟩⟩, hz2, ti2, ⟨_, _, to2⟩, b3, b4, fun b hb => by rw [St.set_other _ _ (nF b hb)]; exact Z.off b hb, Z.t.trans ?_⟩
  · rw [St.set_other _ _ fun x => ?_]
    · exact hσb
    · subst x
      have hT3 : h2.get? b = some _ := hT2
      rw [show h2.get? b = some ob from e] at hT3; (first | exact nS hT3 | exact nO hT3 | exact nF hT3 | exact nT hT3 | exact nN hT3 | exact nC hT3 | cases hT3); (first | exact nS hdb | exact nO hdb | exact nF hdb | exact nT hdb | exact nN hdb | exact nC hdb | cases hdb)
  · refine .of (fun b o e _ hl => hk2 b o (fun q => hl (.inl q)) e) (fun b x hx => ?_) (fun b o e => ?_) ⟨h2, s.toks, rfl⟩
    · by_cases hb : b = T
      · rw [hb]; exact .inr hT0
      · rw [St.set_other _ _ hb] at hx; exact .inl ⟨x, hx, id⟩
    · by_cases hm : b ∈ [z, TI, TO, i1, i2]
      · exact al b hm
      · exact ⟨o, hk2 b o hm e⟩
end
/-- one turn -/
noncomputable def zBod (c : Cx) (k : Nat) (ts : List T) (b : List Stmt) (xs ys : List V) (u : V) (fr : List V) (σ : St) (q : Fl → St → List V → Prop) : Prop :=
  asI u fun i => ∀ T, σ T = none → tgW (.many ts) (.ref T) c.cs fr (σ.set T (.tup [nth xs i.toNat, nth ys i.toNat])) fun fr1 σ2 => sW c.W c.n (sl (b.map (erS c.gl c.ns k))) c.cs fr1 σ2 q
noncomputable def zChk (a a' : Addr) (xs ys : List V) (σ : St) : Prop := σ a = some (.lst xs) ∧ σ a' = some (.lst ys)
/-- ahead of a turn -/
inductive ZT (c : Cx) (k : Nat) (A : Around) (z TI TO i1 i2 a a' : Addr) (σb : St) (sb : Shared) (ts : List T) (b : List Stmt) (xs ys : List V) (Q : Fl → St → List V → Prop) (m : Nat) (s' : Shared) : Prop where
  | mk (i : Nat) (σ' : St) (fr' : List V) (hk : m = min xs.length ys.length + 1 - i) (hi : i ≤ min xs.length ys.length) (h : forW (zChk a a' xs ys) (zBod c k ts b xs ys) ((upto (min xs.length ys.length)).drop i) fr' σ' Q) (Z : ZI c A z TI TO i1 i2 a a' σb sb i fr' σ' s') : ZT c k A z TI TO i1 i2 a a' σb sb ts b xs ys Q m s'
theorem zip_run {z TI TO i1 i2 a a' : Addr} {elts : List PySem.Expr} {kk : Nat} {pos : Pos} {ts : List T} {b : List Stmt} {xs ys : List V} {Q : Fl → St → List V → Prop} {Z : Flow → Shared → Prop} {σb : St} {sb : Shared} (ih : ∀ st, SS k st) (Rm : Room c.n A) (Tp : Mine.Top A c.env)
    (ht : tgK c.ns (ek (.Tuple elts kk pos)) = some (.many ts)) (D : ZipApart z TI TO i1 i2 a a') (hH : ∀ b ∈ [z, TI, TO, i1, i2], c.W.H.get? b = none) (hN : ∀ b ∈ [z, TI, TO, i1, i2], sb.heap.get? b = none) (hL : c.env.locals ∉ [z, TI, TO, i1, i2])
    (ez : EndS c A σb sb (fun f => Q (abF f)) Z) {σ0 : St} {s0 : Shared} {fr0 : List V} (hf : forW (zChk a a' xs ys) (zBod c k ts b xs ys) (upto (min xs.length ys.length)) fr0 σ0 Q)
    (Z0 : ZI c A z TI TO i1 i2 a a' σb sb 0 fr0 σ0 s0) : codeAny c.W.M A (.forLoop (.Tuple elts kk pos) (.ref z) b [] c.env) (fun r s' => match r with | .ok f => Z f s' | .error e => cameBackBy c.W.M A c.env NoE e s') s0 := by
  refine codeAny_forLoop_any (ZT c k A z TI TO i1 i2 a a' σb sb ts b xs ys Q) (fun m s' h => ?_) (min xs.length ys.length + 1) ⟨0, σ0, fr0, rfl, Nat.zero_le _, hf, Z0⟩
  clear Z0 hf
  obtain ⟨i, σ', fr', hk, hi, hfw, Zi⟩ := h
  have hx : min xs.length ys.length ≤ xs.length := Nat.min_le_left _ _
  have hy : min xs.length ys.length ≤ ys.length := Nat.min_le_right _ _
  by_cases hlt : i < min xs.length ys.length
  · rw [drop_nth (by rw [upto_len]; exact hlt), upto_nth hlt] at hfw
    obtain ⟨⟨ea, ea'⟩, hb⟩ := hfw
    refine zip_turn D Zi hH hL ea ea' (Nat.lt_of_lt_of_le hlt hx) (Nat.lt_of_lt_of_le hlt hy) (fun v s1 q => q) fun T s1 hT Z1 => ?_
    replace hb := (show ∀ T, _ → _ from hb) T hT
    rw [Int.toNat_natCast] at hb
    refine wpW (((tg_ok (vv := .ref T) ht hb).of fun _ σ2 fr2 q => snss ih b c fr2 σ2 _ q) A s1 _ Rm Z1.rel Tp fun _ σ2 fr2 s2 q2 r2 t2 => wpW (q2 A s2 _ Rm r2 Tp fun f σ3 fr3 s3 q3 r3 t3 => ?_))
    have Z3 := (Z1.step r2 t2 hL).step r3 t3 hL
    have lt : min xs.length ys.length + 1 - (i + 1) < m := by rw [hk]; exact Nat.sub_succ_lt_self _ _ (Nat.lt_succ_of_lt hlt)
    have fin : Stp (At c.env.locals) σb sb σ3 s3 := Z3.t.drop hN (h' := s3.heap) fun _ _ _ e => e
    cases f with
    | next => exact ⟨_, lt, i + 1, σ3, fr3, rfl, hlt, q3, Z3⟩
    | cont => exact ⟨_, lt, i + 1, σ3, fr3, rfl, hlt, q3, Z3⟩
    | brk => exact ez _ σ3 fr3 s3 q3 r3 fin
    | ret v => exact ez _ σ3 fr3 s3 q3 r3 fin
  · have hin : i = min xs.length ys.length := Nat.le_antisymm hi (Nat.not_lt.mp hlt)
    rw [hin, List.drop_of_length_le (Nat.le_of_eq upto_len)] at hfw
    obtain ⟨⟨ea, ea'⟩, hq⟩ := hfw
    obtain ⟨it1, hp1, hx1, _⟩ := Zi.rel.objs _ _ ea
    obtain ⟨it2, hp2, hx2, _⟩ := Zi.rel.objs _ _ ea'
    obtain ⟨u, v, hto⟩ := Zi.to
    have g1 : it1.size = xs.length := by rw [← hx1, List.length_map, Array.length_toList]
    have g2 : it2.size = ys.length := by rw [← hx2, List.length_map, Array.length_toList]
    have hend : it1[i]? = none ∨ it2[i]? = none := by
      rcases Nat.le_total xs.length ys.length with h | h
      · exact .inl (Array.getElem?_eq_none (by (first | assumption | exact q1 ‹_› | exact q2 ‹_› ‹_› | exact q3 ‹_› ‹_› | exact q4 ‹_› ‹_› | exact q5 ‹_› | exact q6 ‹_› | lia | omega)))
      · exact .inr (Array.getElem?_eq_none (by (first | assumption | exact q1 ‹_› | exact q2 ‹_› ‹_› | exact q3 ‹_› ‹_› | exact q4 ‹_› ‹_› | exact q5 ‹_› | exact q6 ‹_› | lia | omega)))
    refine wpAny_pyNext_zip_end Rm.handled D Zi.zip Zi.ti hto Zi.it1 Zi.it2 hp1.isList hp2.isList hend fun h2 hk2 => wpAny_execs_nil ?_
    have hk3 : ∀ b o, b ∉ [z, TI, TO, i1, i2] → s'.heap.get? b = some o → h2.get? b = some o := fun b o hb e => hk2 b o (fun x => hb (x ▸ .head _)) (fun x => hb (x ▸ .tail _ (.tail _ (.head _)))) (fun x => hb (x ▸ .tail _ (.tail _ (.tail _ (.head _))))) (fun x => hb (x ▸ .tail _ (.tail _ (.tail _ (.tail _ (.head _)))))) e
    exact ez _ σ' fr' _ hq (Zi.hid hH hL hk3) (Zi.t.drop hN hk3)
/-- zip(x, y) is called -/
theorem zip_call {x : Str} {np pos : Pos} {args : List PySem.Expr} (hb : isZip (biX (erName c.gl c.ns x)) = true) (hp : args.all plainE = true) {K : Addr → Addr → List V → List V → St → Prop} (h : c.l (xl (args.map (er c.gl k c.ns))) fr σ fun vs σ' => ∃ a a' xs ys, vs = [.ref a, .ref a'] ∧ σ' a = some (.lst xs) ∧ σ' a' = some (.lst ys) ∧ K a a' xs ys σ')
    (R : Room c.n A) (r : Rel c.W.H A c.env σ fr s) {Z : Value → Shared → Prop} (z : ∀ a a' xs ys σ1 s1, σ1 a = some (.lst xs) → σ1 a' = some (.lst ys) → K a a' xs ys σ1 → RelG c.W.H σ1 s1 → Stp No σ s σ1 s1 → wpAny c.W.M A (call (.type "zip") [.ref a, .ref a']) Z NoE s1) : wpAny c.W.M A (eval (.Call (.Name x np) args [] pos) c.env) Z NoE s := by
  obtain ⟨q1, q2, q3⟩ := star_plain (env := c.env) (pos := pos) hp
  have hz : biX (erName c.gl c.ns x) = some .zip := by
    cases e : biX (erName c.gl c.ns x) with
    | none => rw [e] at hb; (first | exact nS hb | exact nO hb | exact nF hb | exact nT hb | exact nN hb | exact nC hb | cases hb)
    | some b => (first | exact nS b | exact nO b | exact nF b | exact nT b | exact nN b | exact nC b | cases b) <;> first | rfl | (rw [e] at hb; (first | exact nS hb | exact nO hb | exact nF hb | exact nT hb | exact nN hb | exact nC hb | cases hb))
  obtain ⟨v, e, hv⟩ := biX_is hz
  have hn : c.x (erName c.gl c.ns x) fr σ fun u σ' => u = v ∧ σ' = σ := by rw [e]; exact ⟨rfl, rfl⟩
  refine wpAny_Call_ofName (name_ok hn A s _ R r fun fv σ1 s1 h1 g1 t1 => ?_)
  obtain ⟨h1, rfl⟩ := h1
  rw [biV_eq (h1.trans (biOf_some hv))]
  refine biV_call (W := c.W) (b := .zip) q2 (evalArgs_ok q3 rfl (snd_args args (fun e _ => sndE k e) c fr σ1 _ hp h A s1 _ R (r.step g1 t1) fun vs σ2 s2 h2 g2 t2 => wpAny_pure ?_))
  obtain ⟨a, a', xs, ys, hvs, ea, ea', hK⟩ := h2
  obtain ⟨u1, l1, rfl, e1, hvs⟩ := List.map_eq_cons_iff.mp hvs
  obtain ⟨u2, l2, rfl, e2, hvs⟩ := List.map_eq_cons_iff.mp hvs
  cases List.map_eq_nil_iff.mp hvs
  rw [ab_ref e1, ab_ref e2]
  exact z a a' xs ys σ2 s2 ea ea' hK g2 (t1.trans t2)
theorem forz_ok {tgt it : PySem.Expr} {b : List Stmt} {p : Pos} {as : List PySem.Expr} {tg : Tg} {x : X} {Q : Fl → St → List V → Prop} (ih : ∀ st, SS k st) (ht : tgK c.ns (ek tgt) = some tg) (hz : zipK c.gl c.ns it = some as)
    (h : sW c.W c.n (forS tg (some as) (fun as => xl (as.map (er c.gl k c.ns))) x (sl (b.map (erS c.gl c.ns k)))) c.cs fr σ Q) (hf : ∀ x, foldedSetIterable it c.env x = pure x) : SV c fr σ (exec (.For tgt it b [] p) c.env) fun f => Q (abF f) := by
  cases tg with
  | one t => exact h.elim
  | many ts =>
    obtain ⟨q, e0, e1⟩ := Option.bind_eq_some_iff.mp hz
    have e0 := ifSome_of (eCall_is it) e0
    obtain ⟨x, e2, e3⟩ := Option.bind_eq_some_iff.mp e1
    obtain ⟨np, e4⟩ := nameOf_is e2
    obtain ⟨g, rfl⟩ := ite_none e3
    obtain ⟨g1, g2⟩ := Bool.and_eq_true_iff.mp g
    obtain ⟨g3, g4⟩ := Bool.and_eq_true_iff.mp g2
    rw [e4, List.isEmpty_iff.mp g3] at e0
    subst e0
    clear hz e1 e2 e3 e4 g g2 g3
    obtain ⟨elts, kk, pos, rfl⟩ : ∃ elts kk pos, tgt = .Tuple elts kk pos := by
      cases hk : ek tgt with
      | tup es i p => exact ⟨es, i, p, ek_of hk⟩
      | name y p => rw [hk] at ht; obtain ⟨_, _, q⟩ := Option.map_eq_some_iff.mp (show (tgOf c.ns y).map Tg.one = some (.many ts) from ht); (first | exact nS q | exact nO q | exact nF q | exact nT q | exact nN q | exact nC q | cases q)
      | _ => rw [hk] at ht; (first | exact nS ht | exact nO ht | exact nF ht | exact nT ht | exact nN ht | exact nC ht | cases ht)
    intro A s Z R r Tp z
    refine wpAny_For (zip_call (k := k) g1 g4 h R r fun a a' xs ys σ1 s1 ea ea' hK gg1 t1 => ?_) hf
    clear h
    have r1 := r.step gg1 t1
    obtain ⟨it1, hp1, _, _⟩ := gg1.objs _ _ ea
    obtain ⟨it2, hp2, _, _⟩ := gg1.objs _ _ ea'
    have la : a < s1.heap.objs.size := by obtain ⟨_, e, _⟩ := hp1.isList; exact Heap.lt_size e
    have la' : a' < s1.heap.objs.size := by obtain ⟨_, e, _⟩ := hp2.isList; exact Heap.lt_size e
    refine call_zip_2 hp1.isList hp2.isList fun h' hz hTI hTO h1 h2 hsz hk => wpAny_pyIter_zip hz ?_
    have D := zipApart_new la la'
    have nw : ∀ j, s1.heap.get? (s1.heap.objs.size + j) = none := fun j => Heap.get?_none_of_le (Nat.le_add_right _ _)
    have hN : ∀ b ∈ [s1.heap.objs.size + 4, s1.heap.objs.size + 2, s1.heap.objs.size + 3, s1.heap.objs.size, s1.heap.objs.size + 1], s1.heap.get? b = none := zmem (P := fun b => s1.heap.get? b = none) (nw 4) (nw 2) (nw 3) (nw 0) (nw 1)
    have Z0 : ZI c A (s1.heap.objs.size + 4) (s1.heap.objs.size + 2) (s1.heap.objs.size + 3) s1.heap.objs.size (s1.heap.objs.size + 1) a a' σ1 s1 0 fr σ1 { s1 with heap := h' } :=
      ⟨r1.step (s' := { s1 with heap := h' }) (gg1.ext hk) (.ext hk ⟨h', _, rfl⟩), hz, hTI, ⟨_, _, hTO⟩, h1, h2, fun b hb => gg1.fresh (hN b hb), .ext hk ⟨h', _, rfl⟩⟩
    have hH : ∀ b ∈ [s1.heap.objs.size + 4, s1.heap.objs.size + 2, s1.heap.objs.size + 3, s1.heap.objs.size, s1.heap.objs.size + 1], c.W.H.get? b = none := fun b hb => gg1.offbase (hN b hb)
    have hL : c.env.locals ∉ [s1.heap.objs.size + 4, s1.heap.objs.size + 2, s1.heap.objs.size + 3, s1.heap.objs.size, s1.heap.objs.size + 1] := fun hm => by
      obtain ⟨m, ⟨o, _, _, e', _⟩, _⟩ := r1.ns
      rw [hN _ hm] at e'; (first | exact nS e' | exact nO e' | exact nF e' | exact nT e' | exact nN e' | exact nC e' | cases e')
    clear hz hTI hTO h1 h2 hsz hk nw la la' hp1 hp2
    generalize s1.heap.objs.size + 4 = w1 at *
    generalize s1.heap.objs.size + 2 = w2 at *
    generalize s1.heap.objs.size + 3 = w3 at *
    generalize s1.heap.objs.size + 1 = w5 at *
    generalize s1.heap.objs.size = w4 at *
    exact zip_run ih R Tp ht D hH hN hL (z.trans t1.up) hK Z0
theorem sns_for {tgt it : PySem.Expr} {b o : List Stmt} {p : Pos} (ih : ∀ st, SS k st) : SS (k + 1) (.For tgt it b o p) := fun c fr σ Q h A s Z R r Tp z => by
  obtain ⟨hg, h1⟩ := grd_s h
  obtain ⟨tg, ht, h2⟩ := oS_elim h1
  clear h h1
  obtain ⟨ho, hns⟩ := Bool.and_eq_true_iff.mp hg
  cases List.isEmpty_iff.mp ho
  rcases hzk : zipK c.gl c.ns it with _ | as
  case some => rw [hzk] at h2; exact forz_ok ih ht hzk h2 (folded_ok hns) A s Z R r Tp z
  rw [hzk] at h2
  refine wpAny_For (sndE k it c fr σ _ h2 A s _ R r fun xv σ1 s1 q1 g1 t1 => iter_ok q1 A s1 _ R g1 fun xs chk h' hK hI hkeep => ?_) (folded_ok hns)
  obtain ⟨fp, S, X, hS0, hfm, hfa⟩ := hI
  have r1 := r.step g1 t1
  generalize hIe : s1.heap.objs.size = I at hfa X ⊢
  have hI0 : s1.heap.get? I = none := hIe ▸ get_size _
  have hIL : I ≠ c.env.locals := fun e => by
    obtain ⟨m, ⟨o, _, _, e', _⟩, _⟩ := r1.ns
    rw [← e, hI0] at e'; (first | exact nS e' | exact nO e' | exact nF e' | exact nT e' | exact nN e' | exact nC e' | cases e')
  have hLf : c.env.locals ∉ fp := fun hm => by
    rcases hfa _ hm with e | ⟨o, e⟩
    · exact hIL e.symm
    · rw [r1.off] at e; (first | exact nS e | exact nO e | exact nF e | exact nT e | exact nN e | exact nC e | cases e)
  exact for_run (σb := σ1) (sb := s1) X R Tp ht (g1.offbase hI0) hI0 hLf hIL (fun v fr' σ' K hb vv hv => by rw [← hv] at hb; exact (tg_ok ht hb).of fun _ σ2 fr2 q => snss ih b c fr2 σ2 K q) (z.trans t1.up) (fun f s' q => q) hK
    ⟨r1.step (s' := { s1 with heap := h' }) (g1.ext hkeep) (.ext hkeep ⟨h', _, rfl⟩), ⟨hS0, g1.fresh hI0, hfm⟩, .ext hkeep ⟨h', _, rfl⟩⟩
end Mine

end
section -- B19
open Builtin Builtin.Str Builtin.BaseException Builtin.Exceptions
namespace Mine
variable {A : Around} {s : Shared}

theorem ExcC.keeps {h h' : Heap} {C : Addr} (x : ExcC h C) (hk : ∀ b o, h.get? b = some o → h'.get? b = some o) : ExcC h' C := by
  obtain ⟨cd, dd, f0, mN, h1, h2, h3, h4⟩ := x
  exact ⟨cd, dd, f0, mN, hk _ _ h1, h2.keeps hk, h3, h4⟩
end Mine

end
section -- B20
namespace Mine
variable {W : Wd} {n k : Nat} {c : Cx} {env : Env} {cs : List Addr} {fr : List V} {σ σ' : St} {A : Around} {s s' : Shared} {L : Addr → Prop}

theorem ObjR.nd {h : Heap} {a : Addr} {x : O} (r : ObjR h a x) : ∃ o, h.get? a = some o ∧ ∀ es n, o.data ≠ .dict es n := by
  cases x with
  | lst xs => obtain ⟨i, ⟨k, e⟩, _⟩ := r; exact ⟨_, e, nofun⟩
  | ro xs => obtain ⟨i, ⟨o, e, _, k, hd⟩, _⟩ := r; exact ⟨o, e, by rw [hd]; nofun⟩
  | tup xs => obtain ⟨i, ⟨o, e, _, k, hd⟩, _⟩ := r; exact ⟨o, e, by rw [hd]; nofun⟩
  | rng a b c => obtain ⟨t, u, v, e⟩ := r; exact ⟨_, e, nofun⟩
  | cell v => obtain ⟨c, ⟨o, e, hd⟩, _⟩ := r; exact ⟨o, e, by rw [hd]; nofun⟩
  | fn f => obtain ⟨o, e, hd⟩ := r; exact ⟨o, e, by rw [hd]; nofun⟩
  | tab d => exact ⟨_, r, nofun⟩
  | code c => obtain ⟨o, vs, t, e, hd, _⟩ := r; exact ⟨o, e, by rw [hd]; nofun⟩
theorem one_is {α : Type} {l : List α} {x : α} (h : one? l = some x) : l = [x] := by
  cases l with
  | nil => (first | exact nS h | exact nO h | exact nF h | exact nT h | exact nN h | exact nC h | cases h)
  | cons y r =>
    replace h : (if r.isEmpty then some y else none) = some x := h
    cases r with
    | nil => (first | exact nS h | exact nO h | exact nF h | exact nT h | exact nN h | exact nC h | cases h); rfl
    | cons _ _ => (first | exact nS h | exact nO h | exact nF h | exact nT h | exact nN h | exact nC h | cases h)
theorem FlyAt.trans {H : Heap} {C : Addr} {m : Str} {R : St → Prop} {e : Addr} {h B : Heap} {l : List Env} {a : Addr} {u : Tok} {σ1 : St} {s1 : Shared} (t : Stp No σ s σ' s') (F : FlyAt H σ' s' C m R e h B l a u σ1 s1) : FlyAt H σ s C m R e h B l a u σ1 s1 := ⟨F.hR, F.g, t.trans F.st, F.stay, F.old, F.fly, F.tup, F.up⟩
theorem RzPost.trans {C : Addr} {m : Str} {R0 : St → Prop} {ev : Value} {s2 : Shared} (t : Stp No σ s σ' s') (h : RzPost W A σ' s' C m R0 ev s2) : RzPost W A σ s C m R0 ev s2 := by
  obtain ⟨e, h, B, l, a, u, σ1, s1, tk, e1, e2, e3, F⟩ := h
  exact ⟨e, h, B, l, a, u, σ1, s1, tk, e1, e2, e3, F.trans t⟩
section
variable {f : Str} {np q : Pos} {args : List PySem.Expr} {C : Addr} {R0 : Str → St → Prop}
end
end Mine

end
section -- B21
namespace Mine
variable {W : Wd} {n k : Nat} {c : Cx} {env : Env} {cs : List Addr} {fr : List V} {σ σ' : St} {A : Around} {s s' : Shared} {L : Addr → Prop}

section
variable {Q : Fl → St → List V → Prop} {Z : Flow → Shared → Prop} {C e : Addr} {m : Str} {hp : Pos} {s5 : Shared}
end
end Mine

end
section -- B22
namespace Mine
variable {W : Wd} {n k : Nat} {c : Cx} {env : Env} {cs : List Addr} {fr : List V} {σ σ' : St} {A : Around} {s s' : Shared} {L : Addr → Prop}

end Mine

end
section -- B23
namespace Mine
variable {W : Wd} {n k : Nat} {c : Cx} {env : Env} {cs : List Addr} {fr : List V} {σ σ' : St} {A : Around} {s s' : Shared} {L : Addr → Prop}

theorem RelG.set {H : Heap} {a : Addr} {x : O} (r : RelG H σ s) (ho : ObjR s.heap a x) (hH : H.get? a = none) : RelG H (σ.set a x) s := by
  refine ⟨r.base, fun b z e => ?_, fun b z e hz => ?_⟩
  · by_cases hb : b = a
    · rw [hb, St.set_same] at e; (first | exact nS e | exact nO e | exact nF e | exact nT e | exact nN e | exact nC e | cases e); rw [hb]; exact ho
    · rw [St.set_other _ _ hb] at e; exact r.objs b z e
  · by_cases hb : b = a
    · rw [hb]; exact hH
    · rw [St.set_other _ _ hb] at e; exact r.own b z e hz
theorem sns_bad {st : Stmt} (h : ∀ gl ns, erS gl ns k st = .bad) : SS k st := fun c fr σ Q q => by rw [h] at q; exact q.elim
theorem sns_assign {ts : List PySem.Expr} {v : PySem.Expr} {p : Pos} : SS (k + 1) (.Assign ts v p) := fun c fr σ Q h => by
  obtain ⟨t, e, h1⟩ := oS_elim h
  rw [one_is e] at h ⊢
  replace h1 : sW c.W c.n (assS c.ns (ek t) _ _) c.cs fr σ Q := h1
  cases hk : ek t with
  | name x q => cases (show t = .Name x q from ek_of hk); exact sns_set c fr σ Q h
  | tup es i q => cases (show t = .Tuple es i q from ek_of hk); exact sns_unp c fr σ Q h
  | _ => rw [hk] at h1; exact h1.elim
theorem sns_augs {t : PySem.Expr} {op : Operator} {v : PySem.Expr} {p : Pos} : SS (k + 1) (.AugAssign t op v p) := fun c fr σ Q h => by
  obtain ⟨q, e, h1⟩ := oS_elim h
  obtain ⟨x, e1, e2⟩ := Option.bind_eq_some_iff.mp e
  obtain ⟨np, e3⟩ := nameOf_is e1
  rw [e3] at h ⊢
  exact sns_aug c fr σ Q h
theorem sns : ∀ k st, SS k st
  | 0, st => sns_bad fun _ _ => rfl
  | k + 1, st => by
    have ih := sns k
    cases st with
    | Assign ts v p => exact sns_assign
    | AugAssign t op v p => exact sns_augs
    | Expr v p => exact sns_exp
    | Return v p => cases v with
      | none => exact sns_ret0
      | some v => exact sns_ret
    | If t b o p => exact sns_if ih
    | While t b o p => exact sns_while ih
    | For t it b o p => exact sns_for ih
    | Pass p => exact sns_pass
    | Break p => exact sns_break
    | Continue p => exact sns_cont
    | _ => exact sns_bad fun _ _ => rfl
end Mine

end
section -- B24
namespace Mine
variable {W : Wd} {n k : Nat} {gl : Str → Option V} {σ : St} {A : Around} {s s' : Shared}

noncomputable def cellW : List (Str × NameKind) → (Str → V) → List Addr → St → (List Addr → St → Prop) → Prop
  | [], _, acc, σ, K => K acc σ
  | (x, k) :: r, b, acc, σ, K => if k == .cell then ∀ a, σ a = none → cellW r b (acc ++ [a]) (σ.set a (.cell (b x))) K else cellW r b (acc ++ [0]) σ K
noncomputable def slots0 (names : List (Str × NameKind)) (b : Str → V) : List V := names.map fun p => if p.2 == .local then b p.1 else .undef
noncomputable def parV (abinds : List (Str × V)) (x : Str) : V := (abinds.lookup x).getD .undef

theorem cellW_at {b : Str → V} {K : List Addr → St → Prop} : ∀ (names : List (Str × NameKind)) (m : Nat) (acc : List Addr) (σ : St), cellW names b acc σ K → (∀ j, m ≤ j → σ j = none) → K (acc ++ caddrs m names) (cset m names b σ)
  | [], m, acc, σ, h, _ => by simpa [caddrs, cset, cellW] using h
  | (x, k) :: r, m, acc, σ, h, hf => by
    unfold cellW at h
    unfold caddrs cset
    by_cases hk : (k == NameKind.cell) = true
    · rw [if_pos hk] at h ⊢
      rw [if_pos hk]
      have := cellW_at r (m + 1) _ _ (h m (hf m (Nat.le_refl _))) fun j hj => by
        rw [St.set_other _ _ (show j ≠ m from Nat.ne_of_gt hj)]; exact hf j (Nat.le_of_succ_le hj)
      simpa using this
    · rw [if_neg hk] at h ⊢
      rw [if_neg hk]
      have := cellW_at r m _ _ h hf
      simpa using this
theorem store_cells {env : Env} {x : Str} {v : Value} {l : List (Str × Addr)} (h : env.kindOf x = some .local ∨ env.cells.lookup x = l.lookup x) : storeName env x v = storeName { env with cells := l } x v := by
  rcases h with h | h
  · have h' : ({ env with cells := l } : Env).kindOf x = some .local := h
    unfold storeName
    rw [h, h']; rfl
  · unfold storeName cellOf
    rw [h]; rfl
theorem forIn_same {α β : Type} {f g : α → β → Sem (ForInStep β)} : ∀ (l : List α) (b : β), (∀ x ∈ l, ∀ b, f x b = g x b) → forIn l b f = forIn l b g
  | [], b, _ => by rw [List.forIn_nil, List.forIn_nil]
  | x :: r, b, h => by
    rw [List.forIn_cons, List.forIn_cons, h x List.mem_cons_self]
    congr 1
    funext u
    cases u with
    | done b => rfl
    | yield b => exact forIn_same r b fun y hy => h y (List.mem_cons_of_mem _ hy)
/-- a new frame, with cells from outside -/
theorem newEnv_clo {M : Model} {E : Value → Shared → Prop} {scope : Scope} {globals : Addr} {clo : List (Str × Addr)} {binds : List (Str × Value)} {qual : Str} {func : Option Addr} {code : Value} {builtins : Addr} {Q : Env → Shared → Prop}
    (hk : scope.kind = .function) (hn : (scope.names.map (·.1)).Nodup) (hkind : ∀ x ∈ binds, scope.names.lookup x.1 = some .local ∨ scope.names.lookup x.1 = some .cell)
    (hQ : ∀ env, env = newEnv scope s.heap.objs.size globals (cellsFrom (s.heap.objs.size + 1) scope.names clo) qual func code none builtins →
      ∀ s', InCallC s env.locals (bindL env.kindOf binds fun _ => none) (cellsFrom (s.heap.objs.size + 1) scope.names []) (bindC env.kindOf binds fun _ => none) s' → Q env s') :
    wpAny M A (newFunctionEnv scope globals clo binds qual func code none builtins) Q E s := by
  simp only [newFunctionEnv, Option.isSome_none, Bool.false_eq_true, if_false]
  refine wpAny_bind (wpAny_alloc ?_)
  refine wpAny_bind (wpAny_layCells _ (fun name kind cells => by cases hkc : kind == NameKind.cell <;> simp [hkc]) _ _ _ _ ?_)
  have ok := cellsFrom_ok scope.names (s.heap.push { cls := .type "frame", data := .dict #[] }) (s.heap.objs.size + 1) [] ⟨fun _ _ hm => (nomatch hm), List.Pairwise.nil⟩ (by rw [Heap.size_push]; exact Nat.le_refl _)
  rw [Heap.size_push] at ok
  rw [show ({ s with heap := s.heap.push { cls := .type "frame", data := .dict #[] } } : Shared).heap.objs.size = s.heap.objs.size + 1 from Heap.size_push ..]
  have own : ∀ x acc, scope.names.lookup x = some .cell → (cellsFrom (s.heap.objs.size + 1) scope.names acc).lookup x = some ((caddrs (s.heap.objs.size + 1) scope.names).getD (place scope.names x) 0) := fun x acc hx => cellsFrom_get scope.names _ _ acc hn (place_of hx)
  rw [forIn_same (g := fun p (_ : PUnit) => do
    storeName { newEnv scope s.heap.objs.size globals (cellsFrom (s.heap.objs.size + 1) scope.names clo) qual func code none builtins with cells := cellsFrom (s.heap.objs.size + 1) scope.names [] } p.1 p.2
    pure (.yield ⟨⟩)) binds _ fun p hp _ => by
      rw [← store_cells (env := newEnv scope s.heap.objs.size globals (cellsFrom (s.heap.objs.size + 1) scope.names clo) qual func code none builtins)]
      · rfl
      rcases hkind p hp with h | h
      · exact .inl h
      · exact .inr ((own _ _ h).trans (own _ _ h).symm)]
  refine wpAny_bind (wpAny_bindParams (s₀ := s) (env := { newEnv scope s.heap.objs.size globals (cellsFrom (s.heap.objs.size + 1) scope.names clo) qual func code none builtins with cells := cellsFrom (s.heap.objs.size + 1) scope.names [] })
    _ (fun _ _ _ => rfl) hk binds (fun _ => none) (fun _ => none) _ _
    ⟨⟨⟨_, _, rfl⟩, (Heap.Ns.new s.heap (.type "frame")).keeps (pushCells_keeps _ _), fun b o e => pushCells_keeps _ _ b o (Heap.get?_push_of_some _ e), Nat.le_refl _⟩,
      fun n c hc => (ok.empty n c (mem_of_lookup hc)).1, ok.apart, fun n c hm => (ok.empty n c hm).2⟩
    (fun x hx => (hkind x hx).imp id fun h => ⟨h, by rw [own _ _ h]; rfl⟩) fun s' x => wpAny_pure (hQ _ rfl s' x))

theorem bindL_at {kindOf : Str → Option NameKind} : ∀ (binds : List (Str × Value)) (m : Str → Option Value) (x : Str), (binds.map (·.1)).Nodup → kindOf x = some .local → bindL kindOf binds m x = (binds.lookup x).or (m x)
  | [], m, x, _, _ => by simp [bindL]
  | (y, v) :: r, m, x, hn, hk => by
    obtain ⟨h1, h2⟩ := List.nodup_cons.mp (by simpa using hn : (y :: r.map (·.1)).Nodup)
    unfold bindL
    rw [bindL_at r _ x h2 hk]
    by_cases e : x = y
    · subst e
      rw [if_pos hk]
      have : r.lookup x = none := by
        rw [List.lookup_eq_none_iff]
        intro p hp
        have : p.1 ≠ x := fun q => h1 (List.mem_map.mpr ⟨p, hp, q⟩)
        simpa using Ne.symm this
      simp [this, List.lookup_cons]
    · have e1 : (x == y) = false := by simpa using e
      rw [List.lookup_cons, e1]
      split <;> simp [e]
theorem bindC_at {kindOf : Str → Option NameKind} : ∀ (binds : List (Str × Value)) (m : Str → Option Value) (x : Str), (binds.map (·.1)).Nodup → kindOf x ≠ some .local → bindC kindOf binds m x = (binds.lookup x).or (m x)
  | [], m, x, _, _ => by simp [bindC]
  | (y, v) :: r, m, x, hn, hk => by
    obtain ⟨h1, h2⟩ := List.nodup_cons.mp (by simpa using hn : (y :: r.map (·.1)).Nodup)
    unfold bindC
    rw [bindC_at r _ x h2 hk]
    by_cases e : x = y
    · subst e
      rw [if_neg hk]
      have : r.lookup x = none := by
        rw [List.lookup_eq_none_iff]
        intro p hp
        have : p.1 ≠ x := fun q => h1 (List.mem_map.mpr ⟨p, hp, q⟩)
        simpa using Ne.symm this
      simp [this, List.lookup_cons]
    · have e1 : (x == y) = false := by simpa using e
      rw [List.lookup_cons, e1]
      split <;> simp [e]
noncomputable def abB (b : List (Str × Value)) : List (Str × V) := b.map fun p => (p.1, ab p.2)
theorem abB_lookup : ∀ (b : List (Str × Value)) (x : Str), (abB b).lookup x = (b.lookup x).map ab
  | [], x => rfl
  | (y, v) :: r, x => by
    show List.lookup x ((y, ab v) :: abB r) = _
    rw [List.lookup_cons, List.lookup_cons]
    cases x == y with
    | true => rfl
    | false => exact abB_lookup r x

/-- what is asked of a function -/
structure FnC (clo : List (Str × Addr)) (names : List (Str × NameKind)) (body : List Stmt) (fd : FuncData) : Prop where
  body : fd.body = .stmts body
  clo : fd.closure = clo
  glob : fd.globals = mainGlobals
  blt : fd.builtins = builtinsNs
  nm : fd.scope.names = names
  kind : fd.scope.kind = .function
  gen : fd.scope.isGenerator = false
  cor : fd.scope.isCoroutine = false
  nodup : (names.map (·.1)).Nodup
  nocls : ∀ p ∈ names, p.1 ≠ ("__classdict__" : Str)
/-- what is asked of a function of the text -/
structure FnOK (W : Wd) (fa : Addr) (names : List (Str × NameKind)) (body : List Stmt) (fd : FuncData) : Prop extends FnC [] names body fd where
  obj : ∃ o, W.H.get? fa = some o ∧ o.data = .func fd
  code : W.H.CodeRec fd.code fd.qualname
  nofree : ∀ p ∈ names, p.2 ≠ .free

noncomputable def retV : Fl → V
  | .ret v => v
  | _ => .none

/-- how the cells from outside stand among the own -/
noncomputable def Fix (clo : List (Str × Addr)) (names : List (Str × NameKind)) (fix : List Addr → List Addr) : Prop := ∀ l : List Addr, l.length = names.length → (fix l).length = names.length ∧ ∀ i y k, names[i]? = some (y, k) → (k = .cell → (fix l).getD i 0 = l.getD i 0) ∧ (k = .free → clo.lookup y = some ((fix l).getD i 0))
/-- into a function -/
theorem enter_fn (hlim : W.H.NoLimit) {fa : Addr} {names : List (Str × NameKind)} {body : List Stmt} {fd : FuncData} {clo : List (Str × Addr)} {fix : List Addr → List Addr} (F : FnC clo names body fd) (hfix : Fix clo names fix) {vs kvs : List Value} {kn : List Str} {binds : List (Str × Value)} {abinds : List (Str × V)}
    {o : Obj} (ho : s.heap.get? fa = some o) (hd : o.data = .func fd) (hcode : s.heap.CodeRec fd.code fd.qualname) (hB : BindsTo s fd ⟨vs, kn.zip kvs⟩ binds) (hab : abB binds = abinds)
    (hnd : (abinds.map (·.1)).Nodup) (hkinds : ∀ p ∈ abinds, names.lookup p.1 = some .local ∨ names.lookup p.1 = some .cell)
    (ex : List Addr) (hex : ∀ P, ex[0]? = some P → ∃ c mg, fd.code = .ref c ∧ CodeHd W.H c P ∧ W.H.Ns mainGlobals mg ∧ mainGlobals ≠ P ∧ W.H.BuiltinsAt mg P ∧ fd.qualname ++ ".<locals>." = W.eq)
    {K' : List Addr → St → Prop} (h : cellW names (parV abinds) [] σ K') {Z ZE : Value → Shared → Prop} (R : Room (n + 1) A) (r : RelG W.H σ s) (fs : Frs W.H A σ s)
    (hbody : ∀ cs σ1 env s1, K' cs σ1 → EnvOK W env (fix cs ++ ex) → Rel W.H (A.deeper env) env σ1 (slots0 names (parV abinds)) s1 → Stp (At env.locals) σ s σ1 s1 → env.scope.names = names → Mine.Top (A.deeper env) env → s.heap.get? env.locals = none → Room n (A.deeper env) →
      wpAny W.M (A.deeper env) (execs body env) (fun f s' => Z (match f with | .ret v => v | _ => .none) s') (fun e s' => wpAny W.M (A.deeper env) (leaving env e) (fun _ s'' => ZE e s'') (fun e' s'' => ZE e' s'') s') s1) :
    wpAny W.M A (call (.ref fa) vs (kn.zip kvs)) Z ZE s := by
  refine wpAny_call ?_
  have hbn : (binds.map (·.1)).Nodup := by
    have : binds.map (·.1) = abinds.map (·.1) := by rw [← hab, abB, List.map_map]; rfl
    rw [this]; exact hnd
  refine codeAny_call_function R.lim ho hd F.cor F.gen F.body hcode (hB _ _ _ _ ?_)
  rw [F.clo]
  refine newEnv_clo F.kind (by rw [F.nm]; exact F.nodup) (fun p hp => ?_) fun env he s1 x => ?_
  · rw [F.nm]; exact hkinds (p.1, ab p.2) (by rw [← hab]; exact List.mem_map.mpr ⟨p, hp, rfl⟩)
  subst he
  refine ⟨(hlim.keeps r.base).keeps x.toInCall.keep, codeAny_func ?_⟩
  generalize hL : s.heap.objs.size = L at x ⊢
  generalize henv : newEnv fd.scope L fd.globals (cellsFrom (L + 1) fd.scope.names clo) (fd.qualname ++ ".<locals>.") (some fa) fd.code none fd.builtins = env at x ⊢
  rw [F.nm] at x
  obtain ⟨hloc, hcells, hnames, hkind, hglob, hblt, hfrm⟩ : env.locals = L ∧ env.cells = cellsFrom (L + 1) names clo ∧ env.scope.names = names ∧ env.scope.kind = .function ∧ env.globals = mainGlobals ∧ env.builtins = builtinsNs ∧ env.frame = some L := by
    rw [← henv]; exact ⟨rfl, by show cellsFrom (L + 1) fd.scope.names clo = _; rw [F.nm], F.nm, F.kind, F.glob, F.blt, rfl⟩
  have hkd : ∀ y, env.kindOf y = names.lookup y := fun y => by unfold Env.kindOf; rw [hnames]
  have hLn : s.heap.get? L = none := by rw [← hL]; exact get_size _
  have hfr : ∀ j, L ≤ j → s.heap.get? j = none := fun j hj => by
    cases q : s.heap.get? j with
    | none => rfl
    | some o => have := Heap.lt_size q; rw [hL] at this; exact absurd this (Nat.not_lt.mpr hj)
  have hσL : ∀ j, L ≤ j → σ j = none := fun j hj => r.fresh (hfr j hj)
  have hK := cellW_at names (L + 1) [] σ h fun j hj => hσL j (Nat.le_of_succ_le hj)
  rw [List.nil_append] at hK
  obtain ⟨hcl, hfx⟩ := hfix _ (caddrs_len names (L + 1))
  have E : EnvOK W env (fix (caddrs (L + 1) names) ++ ex) := by
    refine ⟨hkind, hglob, hblt, by rw [hnames]; exact F.nodup, fun i y k hi hk => ?_, fun P hP => ?_⟩
    · rw [hnames] at hi
      have hlt : i < (fix (caddrs (L + 1) names)).length := by rw [hcl]; exact (List.getElem?_eq_some_iff.mp hi).1
      have e : (fix (caddrs (L + 1) names) ++ ex).getD i 0 = (fix (caddrs (L + 1) names)).getD i 0 := by
        rw [List.getD_eq_getElem?_getD, List.getElem?_append_left hlt, ← List.getD_eq_getElem?_getD]
      refine ⟨?_, F.nocls _ (List.mem_of_getElem? hi)⟩
      rw [hcells, e]
      rcases hk with rfl | rfl
      · rw [(hfx i y _ hi).1 rfl]; exact cellsFrom_get names _ _ clo F.nodup hi
      · refine cellsFrom_keep names _ _ (fun p hp e => ?_) ((hfx i y _ hi).2 rfl)
        obtain ⟨j, hj⟩ := List.getElem?_of_mem hp
        have := (nodup_lookup F.nodup (show names[j]? = some (y, p.2) by rw [hj, ← e])).1
        rw [(nodup_lookup F.nodup hi).1] at this
        rw [← Option.some.inj this]; nofun
    · rw [hnames, List.getElem?_append_right (Nat.le_of_eq hcl), hcl, Nat.sub_self] at hP
      obtain ⟨c, mg, h1, h2⟩ := hex P hP
      exact ⟨c, mg, by rw [← henv]; exact h1, by rw [← henv]; exact h2⟩
  have hkeep := x.toInCall.keep
  have g1 : RelG W.H (cset (L + 1) names (parV abinds) σ) s1 := by
    refine ⟨fun b o e => hkeep b o (r.base b o e), fun a z e => ?_, fun a z e hm => ?_⟩
    · rcases cset_spec names _ _ _ _ e with e | ⟨hm, i, y, h1, h2, rfl⟩
      · exact (r.objs a z e).at fun o => hkeep a o
      · have hl : (cellsFrom (L + 1) names []).lookup y = some a := by
          rw [cellsFrom_get names _ _ [] F.nodup h1, List.getD_eq_getElem?_getD, h2]; rfl
        refine ⟨_, x.cell y a hl, ?_⟩
        have hky : env.kindOf y ≠ some .local := by rw [hkd, (nodup_lookup F.nodup h1).1]; decide
        rw [bindC_at _ _ _ hbn hky]
        unfold parV
        rw [← hab, abB_lookup]
        cases binds.lookup y <;> rfl
    · rcases cset_spec names _ _ _ _ e with e | ⟨hm', _⟩
      · exact r.own a z e hm
      · exact r.offbase (hfr a (Nat.le_of_succ_le hm'))
  have t1 : Stp (At env.locals) σ s (cset (L + 1) names (parV abinds) σ) s1 := by
    refine .of (fun b o e _ _ => hkeep b o e) (fun b z e => ?_) (fun b o e => ⟨o, hkeep b o e⟩) x.toInCall.same
    rcases cset_spec names _ _ _ _ e with e | ⟨hm', _⟩
    · exact .inl ⟨z, e, id⟩
    · exact .inr (hfr b (Nat.le_of_succ_le hm'))
  have r1 : Rel W.H (A.deeper env) env (cset (L + 1) names (parV abinds) σ) (slots0 names (parV abinds)) s1 := by
    refine ⟨g1, ⟨_, x.toInCall.ns, fun i y hi hu => ?_⟩, ?_, ?_, ?_⟩
    · rw [hnames] at hi
      have hky : env.kindOf y = some .local := by rw [hkd, (nodup_lookup F.nodup hi).1]
      rw [bindL_at _ _ _ hbn hky]
      have hsl : (slots0 names (parV abinds)).getD i .undef = parV abinds y := by
        unfold slots0
        rw [List.getD_eq_getElem?_getD, List.getElem?_map, hi]; rfl
      rw [hsl] at hu ⊢
      unfold parV at hu ⊢
      rw [← hab, abB_lookup] at hu ⊢
      cases q : binds.lookup y with
      | none => rw [q] at hu; exact absurd rfl hu
      | some v => exact ⟨v, rfl, rfl⟩
    · rw [hloc, cset_new names _ _ _ (Nat.lt_succ_self _)]; exact hσL L (Nat.le_refl _)
    · rw [hloc]; exact r.offbase hLn
    · obtain ⟨l, hl, hf⟩ := fs
      refine ⟨env :: l, Around.frames_deeper hl, fun ev he => ?_⟩
      rcases List.mem_cons.mp he with rfl | he
      · obtain ⟨o', es, ep, e', hd', _⟩ := x.toInCall.ns
        exact ⟨hkind, L, o', es, ep, hfrm, r.offbase hLn, by rw [cset_new names _ _ _ (Nat.lt_succ_self _)]; exact hσL L (Nat.le_refl _), by rw [← hloc]; exact e', hd'⟩
      · obtain ⟨h1, L', o', es, ep, h2, h3, h4, h5, h6⟩ := hf ev he
        refine ⟨h1, L', o', es, ep, h2, h3, ?_, hkeep _ _ h5, h6⟩
        cases q : cset (L + 1) names (parV abinds) σ L' with
        | none => rfl
        | some z =>
          rcases cset_spec names _ _ _ _ q with e | ⟨hm', _⟩
          · rw [h4] at e; (first | exact nS e | exact nO e | exact nF e | exact nT e | exact nN e | exact nC e | cases e)
          · rw [hfr L' (Nat.le_of_succ_le hm')] at h5; (first | exact nS h5 | exact nO h5 | exact nF h5 | exact nT h5 | exact nN h5 | exact nC h5 | cases h5)
  obtain ⟨lf, hlf, _⟩ := fs
  exact hbody _ _ env s1 hK E r1 t1 hnames ⟨by rw [← henv]; rfl, lf, Around.frames_deeper hlf⟩ (by rw [hloc]; exact hLn) (R.deeper env)
theorem Fix.id {names : List (Str × NameKind)} (h : ∀ p ∈ names, p.2 ≠ .free) : Fix [] names id := fun l hl => ⟨hl, fun i y k hi => ⟨fun _ => rfl, fun e => absurd e (h _ (List.mem_of_getElem? hi))⟩⟩
theorem call_fnX (G : GlOK W.H gl) (hlim : W.H.NoLimit) {fa : Addr} {names : List (Str × NameKind)} {body : List Stmt} {fd : FuncData} (F : FnOK W fa names body fd) {args : List V} {kn : List Str} {kargs : List V} {abinds : List (Str × V)} {Q : V → St → Prop}
    (hbind : ∀ s vs kvs, (∀ b o, W.H.get? b = some o → s.heap.get? b = some o) → vs.map ab = args → kvs.map ab = kargs → ∃ binds, BindsTo s fd ⟨vs, kn.zip kvs⟩ binds ∧ abB binds = abinds)
    (hnd : (abinds.map (·.1)).Nodup) (hkinds : ∀ p ∈ abinds, names.lookup p.1 = some .local ∨ names.lookup p.1 = some .cell)
    (ex : List Addr) (hex : ∀ P, ex[0]? = some P → ∃ c mg, fd.code = .ref c ∧ CodeHd W.H c P ∧ W.H.Ns mainGlobals mg ∧ mainGlobals ≠ P ∧ W.H.BuiltinsAt mg P ∧ fd.qualname ++ ".<locals>." = W.eq)
    (h : cellW names (parV abinds) [] σ fun cs σ' => sW W n (erSs gl k names body) (cs ++ ex) (slots0 names (parV abinds)) σ' fun f σ'' _ => Q (retV f) σ'') :
    CallOK W (n + 1) (.ref fa) args kn kargs Q σ := by
  obtain ⟨o, ho, hd⟩ := id F.obj
  refine ⟨⟨fa, rfl, .inr ⟨o, fd, ho, hd⟩⟩, fun A s Z R r fs z fv vs kvs hf hv hk => ?_⟩
  rw [ab_ref hf]
  obtain ⟨binds, hB, hab⟩ := hbind s vs kvs r.base hv hk
  refine enter_fn (fix := id) hlim F.toFnC (Fix.id F.nofree) (r.base _ _ ho) hd (F.code.keeps r.base) hB hab hnd hkinds ex hex h R r fs fun cs σ1 env s1 hK E r1 t1 hnames Tp hLn Rd => ?_
  refine wpW (snss (sns k) body ⟨W, n, gl, env, cs ++ ex, E, G⟩ _ σ1 _ (by show sW W n (erSs gl k env.scope.names body) _ _ _ _; rw [hnames]; exact hK) _ s1 _ Rd r1 Tp fun f σ2 fr2 s2 q2 r2 t2 => z _ σ2 s2 ?_ r2.toRelG ((t1.trans t2).shown fun b hb => by rw [show b = env.locals from hb]; exact hLn))
  (first | exact nS f | exact nO f | exact nF f | exact nT f | exact nN f | exact nC f | cases f) <;> exact q2
theorem call_fn (G : GlOK W.H gl) (hlim : W.H.NoLimit) {fa : Addr} {names : List (Str × NameKind)} {body : List Stmt} {fd : FuncData} (F : FnOK W fa names body fd) {args : List V} {kn : List Str} {kargs : List V} {abinds : List (Str × V)} {Q : V → St → Prop}
    (hbind : ∀ s vs kvs, (∀ b o, W.H.get? b = some o → s.heap.get? b = some o) → vs.map ab = args → kvs.map ab = kargs → ∃ binds, BindsTo s fd ⟨vs, kn.zip kvs⟩ binds ∧ abB binds = abinds)
    (hnd : (abinds.map (·.1)).Nodup) (hkinds : ∀ p ∈ abinds, names.lookup p.1 = some .local ∨ names.lookup p.1 = some .cell)
    (h : cellW names (parV abinds) [] σ fun cs σ' => sW W n (erSs gl k names body) cs (slots0 names (parV abinds)) σ' fun f σ'' _ => Q (retV f) σ'') :
    CallOK W (n + 1) (.ref fa) args kn kargs Q σ :=
  call_fnX G hlim F hbind hnd hkinds [] nofun (by simpa only [List.append_nil] using h)
end Mine

end
section -- B25
namespace Mine
variable {W : Wd} {n : Nat} {gl : Str → Option V} {σ : St} {A : Around} {s s' : Shared}

noncomputable def isParB (p : Arguments) : Bool :=
  p.posonlyargs.isEmpty && decide (p.args.map (·.arg) = (["a", "x", "lo", "hi"] : List Str)) && p.vararg.isNone && decide (p.kwonlyargs.map (·.arg) = (["key"] : List Str)) && p.kwarg.isNone
noncomputable def bindB (a x lo hi key : Value) : List (Str × Value) := [("a", a), ("x", x), ("lo", lo), ("hi", hi), ("key", key)]
structure DfB (fd : FuncData) (h : Heap) : Prop where
  par : isParB fd.params = true
  dfs : ∃ T o t n, fd.defaults = .ref T ∧ h.get? T = some o ∧ o.data = .seq #[.int 0 t, .none] n
  kdf : ∃ D m, fd.kwdefaults = .ref D ∧ h.Ns D m ∧ m "key" = some .none
theorem isParB_is {p : Arguments} (h : isParB p = true) : ∃ (f : Nat → Arg) (kd : List (Option PySem.Expr)) (df : List PySem.Expr), p = { posonlyargs := [], args := [⟨"a", (f 0).annotation, (f 0).pos⟩, ⟨"x", (f 1).annotation, (f 1).pos⟩, ⟨"lo", (f 2).annotation, (f 2).pos⟩, ⟨"hi", (f 3).annotation, (f 3).pos⟩], vararg := none, kwonlyargs := [⟨"key", (f 4).annotation, (f 4).pos⟩], kw_defaults := kd, kwarg := none, defaults := df } := by
  obtain ⟨po, ar, va, ko, kd, kw, df⟩ := p
  simp only [isParB, Bool.and_eq_true, decide_eq_true_eq, List.isEmpty_iff, Option.isNone_iff_eq_none] at h
  obtain ⟨⟨⟨⟨h1, h2⟩, h3⟩, h4⟩, h5⟩ := h
  obtain ⟨⟨x1, n1, p1⟩, r1, e1, f1, g1⟩ := List.map_eq_cons_iff.mp h2
  obtain ⟨⟨x2, n2, p2⟩, r2, e2, f2, g2⟩ := List.map_eq_cons_iff.mp g1
  obtain ⟨⟨x3, n3, p3⟩, r3, e3, f3, g3⟩ := List.map_eq_cons_iff.mp g2
  obtain ⟨⟨x4, n4, p4⟩, r4, e4, f4, g4⟩ := List.map_eq_cons_iff.mp g3
  obtain ⟨⟨x5, n5, p5⟩, r5, e5, f5, g5⟩ := List.map_eq_cons_iff.mp h4
  refine ⟨fun i => [⟨x1, n1, p1⟩, ⟨x2, n2, p2⟩, ⟨x3, n3, p3⟩, ⟨x4, n4, p4⟩, ⟨x5, n5, p5⟩].getD i ⟨x1, n1, p1⟩, kd, df, ?_⟩
  rw [h1, h3, h5, e1, e2, e3, e4, e5, List.map_eq_nil_iff.mp g4, List.map_eq_nil_iff.mp g5, ← f1, ← f2, ← f3, ← f4, ← f5]
  rfl
theorem bind_B2 {fd : FuncData} {v w : Value} (h : DfB fd s.heap) : ∃ t, BindsTo s fd ⟨[v, w], []⟩ (bindB v w (.int 0 t) .none .none) := by
  obtain ⟨hp, ⟨T, o, t, n, hd, ho, hs⟩, ⟨D, m, hk, hD, hm⟩⟩ := h
  refine ⟨t, fun M A E Q hq => ?_⟩
  obtain ⟨_, _, _, hp⟩ := isParB_is hp
  obtain ⟨nm, qn, pr, bd, sc, gb, cl, de, kde, r1, r2, r3, r4, r5, r6⟩ := fd
  simp only at hp hd hk
  subst hp hd hk
  show wpAny M A (seqItems? (.ref T) >>= _) Q E s
  refine wpAny_bind (wpAny_seqItems ho hs ?_)
  show wpAny M A (((nsGet D "key" >>= _) >>= _) >>= _) Q E s
  refine wpAny_bind (wpAny_bind (wpAny_bind (wpAny_nsGet hD ?_)))
  rw [hm]
  refine wpAny_pure (wpAny_pure ?_)
  exact wpAny_pure hq
theorem bind_B4 {fd : FuncData} {v w x y : Value} (h : DfB fd s.heap) : BindsTo s fd ⟨[v, w, x, y], []⟩ (bindB v w x y .none) := by
  obtain ⟨hp, ⟨T, o, t, n, hd, ho, hs⟩, ⟨D, m, hk, hD, hm⟩⟩ := h
  refine fun M A E Q hq => ?_
  obtain ⟨_, _, _, hp⟩ := isParB_is hp
  obtain ⟨nm, qn, pr, bd, sc, gb, cl, de, kde, r1, r2, r3, r4, r5, r6⟩ := fd
  simp only at hp hd hk
  subst hp hd hk
  show wpAny M A (seqItems? (.ref T) >>= _) Q E s
  refine wpAny_bind (wpAny_seqItems ho hs ?_)
  show wpAny M A (((nsGet D "key" >>= _) >>= _) >>= _) Q E s
  refine wpAny_bind (wpAny_bind (wpAny_bind (wpAny_nsGet hD ?_)))
  rw [hm]
  refine wpAny_pure (wpAny_pure ?_)
  exact wpAny_pure hq
end Mine

end
section -- B26
namespace Mine
variable {W : Wd} {n k : Nat} {gl : Str → Option V} {σ : St} {A : Around} {s s' : Shared} {K : Frag}

noncomputable def glT (t : List (Str × V)) (x : Str) : Option V := t.lookup x
noncomputable def glChk (K : Frag) (t : List (Str × V)) : Bool := t.all fun p => match nsIn K mainGlobals p.1 with
  | some (some v) => (ab v).same p.2
  | some none => (match bootBuiltins p.1 with
    | some v => (ab v).same p.2 && decide (p.1 ≠ "__name__")
    | none => false)
  | none => false
theorem glmem : ∀ {t : List (Str × V)} {x : Str} {v : V}, t.lookup x = some v → (x, v) ∈ t
  | [], _, _, h => by (first | exact nS h | exact nO h | exact nF h | exact nT h | exact nN h | exact nC h | cases h)
  | (y, u) :: r, x, v, h => by
    rw [List.lookup_cons] at h
    split at h
    · rename_i e; (first | exact nS h | exact nO h | exact nF h | exact nT h | exact nN h | exact nC h | cases h); rw [eq_of_beq e]; exact .head _
    · exact .tail _ (glmem h)
theorem glOK_of {H : Heap} {t : List (Str × V)} {mg mb : Str → Option Value} (X : K.In H) (hg : H.Ns mainGlobals mg) (hb : H.Ns builtinsNs mb) (hbb : ∀ x : Str, x ≠ "__name__" → mb x = bootBuiltins x) (h : glChk K t = true) : GlOK H (glT t) := by
  intro x v hx
  have hm := List.all_eq_true.mp h _ (glmem hx)
  simp only at hm
  split at hm
  · rename_i u hu
    exact ⟨u, V.of_same hm, mg, hg, .inl (mg_of X hg hu)⟩
  · rename_i hu
    split at hm
    · rename_i u hv
      obtain ⟨h1, h2⟩ := Bool.and_eq_true_iff.mp hm
      exact ⟨u, V.of_same h1, mg, hg, .inr ⟨mg_none_of X hg hu, mb, hb, (hbb x (of_decide_eq_true h2)).trans hv⟩⟩
    · (first | exact nS hm | exact nO hm | exact nF hm | exact nT hm | exact nN hm | exact nC hm | cases hm)
  · (first | exact nS hm | exact nO hm | exact nF hm | exact nT hm | exact nN hm | exact nC hm | cases hm)

noncomputable def fdK (K : Frag) (a : Addr) : Option FuncData := match K.lookup a with
  | some ⟨_, _, .func fd, _⟩ => some fd
  | _ => none
noncomputable def bodyK (K : Frag) (a : Addr) : List Stmt := match fdK K a with
  | some fd => (match fd.body with
    | .stmts b => b
    | _ => [])
  | none => []
noncomputable def fnChk (K : Frag) (a : Addr) (names : List (Str × NameKind)) : Bool := match fdK K a with
  | some fd => (match fd.body with
    | .stmts _ => true
    | _ => false) && fd.closure.isEmpty && decide (fd.globals = mainGlobals) && decide (fd.builtins = builtinsNs) && codeIn K fd.code fd.qualname && decide (fd.scope.names = names) &&
      decide (fd.scope.kind = .function) && !fd.scope.isGenerator && !fd.scope.isCoroutine && decide ((names.map (·.1)).Nodup) && names.all (fun p => p.2 != .free && p.1 != ("__classdict__" : Str))
  | none => false
theorem fnOK_of {a : Addr} {names : List (Str × NameKind)} (X : K.In W.H) (h : fnChk K a names = true) : ∃ fd, fdK K a = some fd ∧ FnOK W a names (bodyK K a) fd := by
  unfold fnChk at h
  split at h
  · rename_i fd hfd
    refine ⟨fd, hfd, ?_⟩
    simp only [Bool.and_eq_true, decide_eq_true_eq] at h
    obtain ⟨⟨⟨⟨⟨⟨⟨⟨⟨⟨h1, h2⟩, h3⟩, h4⟩, h5⟩, h6⟩, h7⟩, h8⟩, h9⟩, h10⟩, h11⟩ := h
    have hb : fd.body = .stmts (bodyK K a) := by
      unfold bodyK; rw [hfd]; dsimp only; split at h1
      · rename_i b hb; rw [hb]
      · (first | exact nS h1 | exact nO h1 | exact nF h1 | exact nT h1 | exact nN h1 | exact nC h1 | cases h1)
    have h12 : ∀ p ∈ names, p.2 ≠ .free ∧ p.1 ≠ ("__classdict__" : Str) := fun p hp => by
      obtain ⟨x, y⟩ := Bool.and_eq_true_iff.mp (List.all_eq_true.mp h11 p hp)
      exact ⟨bne_iff_ne.mp x, bne_iff_ne.mp y⟩
    refine ⟨⟨hb, List.isEmpty_iff.mp h2, h3, h4, h6, h7, by simpa using h8, by simpa using h9, h10, fun p hp => (h12 p hp).2⟩, ?_, codeRec_of X h5, fun p hp => (h12 p hp).1⟩
    · unfold fdK at hfd
      split at hfd
      · rename_i c d f sl hl
        (first | exact nS hfd | exact nO hfd | exact nF hfd | exact nT hfd | exact nN hfd | exact nC hfd | cases hfd)
        exact ⟨_, X _ _ hl, rfl⟩
      · (first | exact nS hfd | exact nO hfd | exact nF hfd | exact nT hfd | exact nN hfd | exact nC hfd | cases hfd)
  · (first | exact nS h | exact nO h | exact nF h | exact nT h | exact nN h | exact nC h | cases h)

/-- what is said once of a law's text -/
structure Txt (W : Wd) (K : Frag) (t : List (Str × V)) : Prop where
  inH : K.In W.H
  gl : GlOK W.H (glT t)
  lim : W.H.NoLimit

noncomputable def parOk (names : List (Str × NameKind)) (xs : List Str) : Bool := decide xs.Nodup && xs.all fun x => match names.lookup x with
  | some .local => true
  | some .cell => true
  | _ => false
theorem parOk_is {names : List (Str × NameKind)} {xs : List Str} (h : parOk names xs = true) : xs.Nodup ∧ ∀ x ∈ xs, names.lookup x = some .local ∨ names.lookup x = some .cell := by
  obtain ⟨h1, h2⟩ := Bool.and_eq_true_iff.mp h
  refine ⟨of_decide_eq_true h1, fun x hx => ?_⟩
  have := List.all_eq_true.mp h2 x hx
  split at this
  · rename_i e; exact .inl e
  · rename_i e; exact .inr e
  · (first | exact nS this | exact nO this | exact nF this | exact nT this | exact nN this | exact nC this | cases this)

theorem abB_zip : ∀ (xs : List Str) (vs : List Value), abB (xs.zip vs) = xs.zip (vs.map ab)
  | [], _ => by simp [abB]
  | _ :: _, [] => by simp [abB]
  | x :: xs, v :: vs => by have := abB_zip xs vs; simp only [abB] at this ⊢; simp [this]

/-- a call by position of a function of the text -/
theorem callP {t : List (Str × V)} (X : Txt W K t) {fa : Addr} {names : List (Str × NameKind)} {S0 : S} {xs : List Str} (hf : fnChk K fa names = true) (hS : erSs (glT t) k names (bodyK K fa) = S0)
    (hp : parOk names xs = true) (hb : ∀ fd vs, fdK K fa = some fd → vs.length = xs.length → bindArgs fd ⟨vs, []⟩ = pure (xs.zip vs)) {us : List V} (hl : us.length = xs.length) {Q : V → St → Prop}
    (h : cellW names (parV (xs.zip us)) [] σ fun cs σ' => sW W n S0 cs (slots0 names (parV (xs.zip us))) σ' fun f σ'' _ => Q (retV f) σ'') : CallOK W (n + 1) (.ref fa) us [] [] Q σ := by
  obtain ⟨fd, hfd, F⟩ := fnOK_of X.inH hf
  obtain ⟨p1, p2⟩ := parOk_is hp
  have hz : (xs.zip us).map (·.1) = xs := by rw [List.map_fst_zip]; rw [hl]; exact Nat.le_refl _
  refine call_fn X.gl X.lim F (abinds := xs.zip us) (fun s vs kvs _ hv hk => ?_) (by rw [hz]; exact p1) (fun p hp => p2 _ ?_) (by rw [hS]; exact h)
  · refine ⟨xs.zip vs, BindsTo.of_eq ?_, by rw [abB_zip, hv]⟩
    have e : kvs = [] := by simpa using hk
    subst e
    exact hb fd vs hfd (by rw [← hl, ← hv, List.length_map])
  · rw [← hz]; exact List.mem_map.mpr ⟨p, hp, rfl⟩

noncomputable def vAddr (v : Value) : Option Addr := match v with
  | .ref a => some a
  | _ => none
noncomputable def vInt0 (v : Value) : Bool := match v with
  | .int i _ => decide (i = 0)
  | _ => false
noncomputable def vNone (v : Value) : Bool := match v with
  | .none => true
  | _ => false
noncomputable def vKey (v : Value) : Bool := match v with
  | .str k _ => decide (k = ("key" : Str))
  | _ => false
noncomputable def dSeq (d : Data) : Option (List Value) := match d with
  | .seq i _ => some i.toList
  | _ => none
noncomputable def dDict (d : Data) : Option (List DictEntry) := match d with
  | .dict i _ => some i.toList
  | _ => none
noncomputable def two? {α : Type} (l : List α) : Option (α × α) := match l with
  | [] => none
  | x :: r => (one? r).map fun y => (x, y)
theorem lenS {α : Type} {l : List α} {k : Nat} (h : l.length = k + 1) : ∃ x r, l = x :: r ∧ r.length = k := by
  cases l with
  | nil => (first | exact nS h | exact nO h | exact nF h | exact nT h | exact nN h | exact nC h | cases h)
  | cons x r => exact ⟨x, r, rfl, Nat.succ.inj h⟩
noncomputable def dfSeq (K : Frag) (v : Value) : Option (Value × Value) := (vAddr v).bind fun T => (K.lookup T).bind fun o => (dSeq o.data).bind two?
noncomputable def dfKey (K : Frag) (v : Value) : Option DictEntry := (vAddr v).bind fun T => (K.lookup T).bind fun o => (dDict o.data).bind one?
noncomputable def dfChk (K : Frag) (a : Addr) : Bool := match fdK K a with
  | some fd => isParB fd.params && (match dfSeq K fd.defaults with
      | some q => vInt0 q.1 && vNone q.2
      | none => false) && (match dfKey K fd.kwdefaults with
      | some e => vKey e.key && vNone e.val
      | none => false)
  | none => false
end Mine

end
section -- B27
namespace Mine
variable {W : Wd} {n k : Nat} {gl : Str → Option V} {σ : St} {A : Around} {s s' : Shared} {K : Frag}

theorem map_one {vs : List Value} {v : V} (h : vs.map ab = [v]) : ∃ x, vs = [x] ∧ ab x = v := by
  obtain ⟨x, l, rfl, e, h⟩ := List.map_eq_cons_iff.mp h
  rw [List.map_eq_nil_iff.mp h]; exact ⟨x, rfl, e⟩
theorem map_two {vs : List Value} {v w : V} (h : vs.map ab = [v, w]) : ∃ x y, vs = [x, y] ∧ ab x = v ∧ ab y = w := by
  obtain ⟨x, l, rfl, e, h⟩ := List.map_eq_cons_iff.mp h
  obtain ⟨y, rfl, e'⟩ := map_one h
  exact ⟨x, y, rfl, e, e'⟩
theorem map_three {vs : List Value} {v w u : V} (h : vs.map ab = [v, w, u]) : ∃ x y z, vs = [x, y, z] ∧ ab x = v ∧ ab y = w ∧ ab z = u := by
  obtain ⟨x, l, rfl, e, h⟩ := List.map_eq_cons_iff.mp h
  obtain ⟨y, z, rfl, e', e''⟩ := map_two h
  exact ⟨x, y, z, rfl, e, e', e''⟩

theorem vAddr_is {v : Value} {a : Addr} (h : vAddr v = some a) : v = .ref a := by (first | exact nS v | exact nO v | exact nF v | exact nT v | exact nN v | exact nC v | cases v) <;> (first | exact nS h | exact nO h | exact nF h | exact nT h | exact nN h | exact nC h | cases h); rfl
theorem vInt0_is {v : Value} (h : vInt0 v = true) : ∃ t, v = .int 0 t := by
  cases v with
  | int i t => exact ⟨t, by rw [of_decide_eq_true (p := i = 0) h]⟩
  | _ => (first | exact nS h | exact nO h | exact nF h | exact nT h | exact nN h | exact nC h | cases h)
theorem vNone_is {v : Value} (h : vNone v = true) : v = .none := by (first | exact nS v | exact nO v | exact nF v | exact nT v | exact nN v | exact nC v | cases v) <;> first | rfl | (first | exact nS h | exact nO h | exact nF h | exact nT h | exact nN h | exact nC h | cases h)
theorem vKey_is {v : Value} (h : vKey v = true) : ∃ t, v = .str ("key" : Str) t := by
  cases v with
  | str i t => exact ⟨t, by rw [of_decide_eq_true (p := i = ("key" : Str)) h]⟩
  | _ => (first | exact nS h | exact nO h | exact nF h | exact nT h | exact nN h | exact nC h | cases h)
theorem dSeq_is {d : Data} {l : List Value} (h : dSeq d = some l) : ∃ n, d = .seq l.toArray n := by
  cases d with
  | seq i n => (first | exact nS h | exact nO h | exact nF h | exact nT h | exact nN h | exact nC h | cases h); exact ⟨n, rfl⟩
  | _ => (first | exact nS h | exact nO h | exact nF h | exact nT h | exact nN h | exact nC h | cases h)
theorem dDict_is {d : Data} {l : List DictEntry} (h : dDict d = some l) : ∃ n, d = .dict l.toArray n := by
  cases d with
  | dict i n => (first | exact nS h | exact nO h | exact nF h | exact nT h | exact nN h | exact nC h | cases h); exact ⟨n, rfl⟩
  | _ => (first | exact nS h | exact nO h | exact nF h | exact nT h | exact nN h | exact nC h | cases h)
theorem two_is {α : Type} {l : List α} {x y : α} (h : two? l = some (x, y)) : l = [x, y] := by
  cases l with
  | nil => (first | exact nS h | exact nO h | exact nF h | exact nT h | exact nN h | exact nC h | cases h)
  | cons z r =>
    obtain ⟨w, h1, h2⟩ := Option.map_eq_some_iff.mp h
    (first | exact nS h2 | exact nO h2 | exact nF h2 | exact nT h2 | exact nN h2 | exact nC h2 | cases h2)
    rw [one_is h1]
theorem dfB_of {a : Addr} {fd : FuncData} {h : Heap} (X : K.In h) (hfd : fdK K a = some fd) (hc : dfChk K a = true) : DfB fd h := by
  unfold dfChk at hc
  rw [hfd] at hc
  obtain ⟨hc, h3⟩ := Bool.and_eq_true_iff.mp hc
  obtain ⟨h1, h2⟩ := Bool.and_eq_true_iff.mp hc
  refine ⟨h1, ?_, ?_⟩
  · cases hq : dfSeq K fd.defaults with
    | none => rw [hq] at h2; (first | exact nS h2 | exact nO h2 | exact nF h2 | exact nT h2 | exact nN h2 | exact nC h2 | cases h2)
    | some q =>
      rw [hq] at h2
      obtain ⟨v1, v2⟩ := q
      obtain ⟨h4, h5⟩ := Bool.and_eq_true_iff.mp h2
      obtain ⟨T, k1, k2⟩ := Option.bind_eq_some_iff.mp hq
      obtain ⟨o, k3, k4⟩ := Option.bind_eq_some_iff.mp k2
      obtain ⟨l, k5, k6⟩ := Option.bind_eq_some_iff.mp k4
      obtain ⟨n, k7⟩ := dSeq_is k5
      obtain ⟨t, rfl⟩ := vInt0_is h4
      cases vNone_is h5
      exact ⟨T, o, t, n, vAddr_is k1, X _ _ k3, by rw [k7, two_is k6]⟩
  · cases hq : dfKey K fd.kwdefaults with
    | none => rw [hq] at h3; (first | exact nS h3 | exact nO h3 | exact nF h3 | exact nT h3 | exact nN h3 | exact nC h3 | cases h3)
    | some e =>
      rw [hq] at h3
      obtain ⟨hh, kk, vv⟩ := e
      obtain ⟨h4, h5⟩ := Bool.and_eq_true_iff.mp h3
      obtain ⟨D, k1, k2⟩ := Option.bind_eq_some_iff.mp hq
      obtain ⟨o, k3, k4⟩ := Option.bind_eq_some_iff.mp k2
      obtain ⟨l, k5, k6⟩ := Option.bind_eq_some_iff.mp k4
      obtain ⟨n, k7⟩ := dDict_is k5
      obtain ⟨t, ht⟩ := vKey_is h4
      have hv := vNone_is h5
      dsimp only at ht hv
      subst ht hv
      rw [one_is k6] at k7
      refine ⟨D, _, vAddr_is k1, ⟨_, _, n, X _ _ k3, k7, ?_, fun _ => rfl⟩, ?_⟩
      · intro e h
        simp at h
        subst h
        exact ⟨_, _, rfl⟩
      · rfl

noncomputable def namesB : List Str := ["a", "x", "lo", "hi", "key"]
noncomputable def argsB (us ks : List V) : Option (List V) := match us with
  | [] => none
  | a :: us => (match us with
    | [] => none
    | x :: us => (match ks with
      | _ :: _ => none
      | [] => (match us with
        | [] => some [a, x, .int 0, .none, .none]
        | lo :: us => (match us with
          | [] => none
          | hi :: us => (match us with
            | [] => some [a, x, lo, hi, .none]
            | _ :: _ => none)))))
/-- the shapes of a call -/
inductive ArgB : List V → List V → List V → Prop where
  | a2 (a x : V) : ArgB [a, x] [] [a, x, .int 0, .none, .none]
  | a4 (a x lo hi : V) : ArgB [a, x, lo, hi] [] [a, x, lo, hi, .none]
theorem argsB_is {us ks bs : List V} (h : argsB us ks = some bs) : ArgB us ks bs := by
  cases us with
  | nil => (first | exact nS h | exact nO h | exact nF h | exact nT h | exact nN h | exact nC h | cases h)
  | cons a us =>
    cases us with
    | nil => (first | exact nS h | exact nO h | exact nF h | exact nT h | exact nN h | exact nC h | cases h)
    | cons x us =>
      cases ks with
      | cons _ _ => (first | exact nS h | exact nO h | exact nF h | exact nT h | exact nN h | exact nC h | cases h)
      | nil =>
        cases us with
        | nil => (first | exact nS h | exact nO h | exact nF h | exact nT h | exact nN h | exact nC h | cases h); exact .a2 a x
        | cons lo us =>
          cases us with
          | nil => (first | exact nS h | exact nO h | exact nF h | exact nT h | exact nN h | exact nC h | cases h)
          | cons hi us =>
            cases us with
            | nil => (first | exact nS h | exact nO h | exact nF h | exact nT h | exact nN h | exact nC h | cases h); exact .a4 a x lo hi
            | cons _ _ => (first | exact nS h | exact nO h | exact nF h | exact nT h | exact nN h | exact nC h | cases h)
theorem ArgB.five {us ks bs : List V} (h : ArgB us ks bs) : ∃ a b c d e, bs = [a, b, c, d, e] := by (first | exact nS h | exact nO h | exact nF h | exact nT h | exact nN h | exact nC h | cases h) <;> exact ⟨_, _, _, _, _, rfl⟩
noncomputable def knB : List V → List Str
  | [] => []
  | _ => ["key"]
theorem callB {t : List (Str × V)} (X : Txt W K t) {fa : Addr} {names : List (Str × NameKind)} {S0 : S} (hf : fnChk K fa names = true) (hS : erSs (glT t) k names (bodyK K fa) = S0)
    (hp : parOk names namesB = true) (hb : dfChk K fa = true) {us ks bs : List V} (hl : argsB us ks = some bs) {Q : V → St → Prop}
    (h : cellW names (parV (namesB.zip bs)) [] σ fun cs σ' => sW W n S0 cs (slots0 names (parV (namesB.zip bs))) σ' fun f σ'' _ => Q (retV f) σ'') : CallOK W (n + 1) (.ref fa) us (knB ks) ks Q σ := by
  obtain ⟨fd, hfd, F⟩ := fnOK_of X.inH hf
  obtain ⟨p1, p2⟩ := parOk_is hp
  have hl5 : namesB.length ≤ bs.length := by
    obtain ⟨_, _, _, _, _, rfl⟩ := (argsB_is hl).five
    exact Nat.le_refl _
  have hz : (namesB.zip bs).map (·.1) = namesB := List.map_fst_zip hl5
  refine call_fn X.gl X.lim F (abinds := namesB.zip bs) (fun s vs kvs hbase hv hk => ?_) (by rw [hz]; exact p1) (fun p hp => p2 _ ?_) (by rw [hS]; exact h)
  · have D : DfB fd s.heap := dfB_of (fun a o e => hbase _ _ (X.inH a o e)) hfd hb
    have B := argsB_is hl
    clear hl hl5 hz h
    cases B with
    | a2 a x =>
      obtain ⟨v, w, rfl, rfl, rfl⟩ := map_two hv
      cases List.map_eq_nil_iff.mp hk
      obtain ⟨t, B⟩ := bind_B2 (v := v) (w := w) D
      exact ⟨_, by rw [List.zip_nil_right]; exact B, rfl⟩
    | a4 a x lo hi =>
      obtain ⟨v, l, rfl, rfl, e3⟩ := List.map_eq_cons_iff.mp hv
      obtain ⟨w, y, z, rfl, rfl, rfl, rfl⟩ := map_three e3
      cases List.map_eq_nil_iff.mp hk
      exact ⟨_, by rw [List.zip_nil_right]; exact bind_B4 D, rfl⟩
  · rw [← hz]; exact List.mem_map.mpr ⟨p, hp, rfl⟩

noncomputable def σ0 (a : Addr) (ns : List Int) : St := fun b => if b = a then some (.ro (ivs ns)) else none
theorem ints_ab : ∀ {vs : List Value} {ns : List Int}, IntsAre vs ns → vs.map ab = ivs ns := by
  intro vs ns h
  induction h with
  | nil => rfl
  | cons => simp_all [ivs, ab]

theorem lawEnds {prog : Program} {w : World} {s₁ : Shared} {fa a : Addr} {vs : List Value} {ns : List Int} {c : ClaimW} {cl : Str → Option Addr} {mean : ExcName → Option Value} {args : List WData}
    (hL : s₁.heap.IsList a vs.toArray) (hI : IntsAre vs ns) (hlen : ns.length ≤ 63) (hg : s₁.gens = #[]) (hn : ∀ cls, c.raises args cls = false) (hp : c.post args (.bool true) args = true)
    (h : CallOK ⟨prog, w, s₁.heap, ""⟩ 500 (.ref fa) [.ref a] [] [] (fun v _ => v = .bool true) (σ0 a ns)) :
    wpAny (model prog w) callerA (call (.ref fa) [.ref a] []) (fun v s' => GoodWG c cl mean args s₁ (.ok (.ret v)) s') (fun e s' => GoodWG c cl mean args s₁ (.error e) s') s₁ := by
  have R : Room 500 callerA := ⟨rfl, by decide, by decide⟩
  have G : RelG s₁.heap (σ0 a ns) s₁ := by
    refine ⟨fun _ _ e => e, fun b x e => ?_, fun b x e hm => ?_⟩
    · unfold σ0 at e
      split at e
      · rename_i hb; (first | exact nS e | exact nO e | exact nF e | exact nT e | exact nN e | exact nC e | cases e); subst hb
        exact ⟨_, hL, by rw [← ints_ab hI], by rw [ivs, List.length_map]; unfold lim; (first | assumption | exact q1 ‹_› | exact q2 ‹_› ‹_› | exact q3 ‹_› ‹_› | exact q4 ‹_› ‹_› | exact q5 ‹_› | exact q6 ‹_› | lia | omega)⟩
      · (first | exact nS e | exact nO e | exact nF e | exact nT e | exact nN e | exact nC e | cases e)
    · unfold σ0 at e
      split at e
      · (first | exact nS e | exact nO e | exact nF e | exact nT e | exact nN e | exact nC e | cases e); (first | exact nS hm | exact nO hm | exact nF hm | exact nT hm | exact nN hm | exact nC hm | cases hm)
      · (first | exact nS e | exact nO e | exact nF e | exact nT e | exact nN e | exact nC e | cases e)
  refine h.2 callerA s₁ _ R G ⟨[], rfl, fun _ h => by (first | exact nS h | exact nO h | exact nF h | exact nT h | exact nN h | exact nC h | cases h)⟩ (fun v σ' s' q g t => ?_) (.ref fa) [.ref a] [] rfl rfl rfl |> wpW
  obtain ⟨hh, tt, rfl⟩ := t.rest
  refine GoodW.toG ⟨.inl ⟨v, .bool true, [], rfl, hn, ?_, hp, unshared_nil⟩, g.base, rfl, hg⟩
  rw [ab_bool q]
  exact .bool true
end Mine

end
section -- B28
namespace Mine
variable {W : Wd} {n k : Nat} {σ : St} {K : Frag}

/-- a function with bisect's parameters -/
noncomputable def FnB (W : Wd) (fa : Addr) (S0 : S) (m : Nat) : Prop := ∃ cs, ∀ us ks bs n Q σ, argsB us ks = some bs → sW W n S0 cs (bs ++ undefs m) σ (fun f σ' _ => Q (retV f) σ') → CallOK W (n + 1) (.ref fa) us (knB ks) ks Q σ
/-- a function called by position, without cells -/
noncomputable def FnP (W : Wd) (fa : Addr) (S0 : S) (k m : Nat) : Prop := ∃ cs, ∀ us n Q σ, us.length = k → sW W n S0 cs (us ++ undefs m) σ (fun f σ' _ => Q (retV f) σ') → CallOK W (n + 1) (.ref fa) us [] [] Q σ

theorem cellW_acc {b : Str → V} {Q : List Addr → St → Prop} : ∀ (names : List (Str × NameKind)) (acc : List Addr), names.all (fun p => !(p.2 == .cell)) = true → Q (acc ++ List.replicate names.length 0) σ → cellW names b acc σ Q
  | [], acc, _, h => by simpa [cellW] using h
  | (x, k) :: r, acc, hn, h => by
    obtain ⟨h1, h2⟩ : (!(k == NameKind.cell)) = true ∧ r.all (fun p => !(p.2 == .cell)) = true := Bool.and_eq_true_iff.mp (by simpa only [List.all_cons] using hn)
    unfold cellW
    rw [if_neg (by intro e; rw [e] at h1; (first | exact nS h1 | exact nO h1 | exact nF h1 | exact nT h1 | exact nN h1 | exact nC h1 | cases h1))]
    refine cellW_acc r _ h2 ?_
    have : acc ++ [0] ++ List.replicate r.length 0 = acc ++ List.replicate (r.length + 1) (0 : Addr) := by rw [List.append_assoc, List.replicate_succ]; rfl
    rw [this]; exact h
theorem cellW_none {b : Str → V} {Q : List Addr → St → Prop} {names : List (Str × NameKind)} (hn : names.all (fun p => !(p.2 == .cell)) = true) (h : Q (List.replicate names.length 0) σ) : cellW names b [] σ Q :=
  cellW_acc names [] hn (by simpa using h)

theorem fnB_of {t : List (Str × V)} (X : Txt W K t) {fa : Addr} {names : List (Str × NameKind)} {S0 : S} {m : Nat} (hf : fnChk K fa names = true) (hS : erSs (glT t) k names (bodyK K fa) = S0)
    (hp : parOk names namesB = true ∧ dfChk K fa = true) (hc : names.all (fun p => !(p.2 == .cell)) = true) (hs : ∀ a b c d e, slots0 names (parV (namesB.zip [a, b, c, d, e])) = a :: b :: c :: d :: e :: undefs m) : FnB W fa S0 m := by
  refine ⟨List.replicate names.length 0, fun us ks bs n Q σ hb h => callB X hf hS hp.1 hp.2 hb (cellW_none hc ?_)⟩
  have : ∃ a b c d e, bs = [a, b, c, d, e] := by
    exact (argsB_is hb).five
  obtain ⟨a, b, c, d, e, rfl⟩ := this
  rw [hs]; exact h

theorem fnP_of {t : List (Str × V)} (X : Txt W K t) {fa : Addr} {names : List (Str × NameKind)} {S0 : S} {m : Nat} {xs : List Str} (hf : fnChk K fa names = true) (hS : erSs (glT t) k names (bodyK K fa) = S0)
    (hp : parOk names xs = true) (hb : ∀ vs, vs.length = xs.length → (fdK K fa).map (fun fd => bindArgs fd ⟨vs, []⟩) = some (pure (xs.zip vs))) (hc : names.all (fun p => !(p.2 == .cell)) = true)
    (hs : ∀ us : List V, us.length = xs.length → slots0 names (parV (xs.zip us)) = us ++ undefs m) : FnP W fa S0 xs.length m := by
  refine ⟨List.replicate names.length 0, fun us n Q σ hl h => callP X hf hS hp (fun fd vs hfd hv => ?_) hl (cellW_none hc ?_)⟩
  · have := hb vs hv
    rw [hfd] at this
    exact Option.some.inj this
  · rw [hs us hl]; exact h
/-- with cells: the function's own frame is the caller's care -/
theorem fnC_of {t : List (Str × V)} (X : Txt W K t) {fa : Addr} {names : List (Str × NameKind)} {S0 : S} {xs : List Str} (hf : fnChk K fa names = true) (hS : erSs (glT t) k names (bodyK K fa) = S0)
    (hp : parOk names xs = true) (hb : ∀ vs, vs.length = xs.length → (fdK K fa).map (fun fd => bindArgs fd ⟨vs, []⟩) = some (pure (xs.zip vs))) {us : List V} {Q : V → St → Prop} (hl : us.length = xs.length)
    (h : cellW names (parV (xs.zip us)) [] σ fun cs σ' => sW W n S0 cs (slots0 names (parV (xs.zip us))) σ' fun f σ'' _ => Q (retV f) σ'') : CallOK W (n + 1) (.ref fa) us [] [] Q σ :=
  callP X hf hS hp (fun fd vs hfd hv => by
    have := hb vs hv
    rw [hfd] at this
    exact Option.some.inj this) hl h
end Mine

end
section -- B32
namespace Mine
variable {W : Wd} {n k : Nat} {σ : St} {K : Frag} {s : Shared}

theorem bind_Blo {fd : FuncData} {v w x : Value} (h : DfB fd s.heap) : BindsTo s fd ⟨[v, w], [("lo", x)]⟩ (bindB v w x .none .none) := by
  obtain ⟨hp, ⟨T, o, t, n, hd, ho, hs⟩, ⟨D, m, hk, hD, hm⟩⟩ := h
  refine fun M A E Q hq => ?_
  obtain ⟨_, _, _, hp⟩ := isParB_is hp
  obtain ⟨nm, qn, pr, bd, sc, gb, cl, de, kde, r1, r2, r3, r4, r5, r6⟩ := fd
  simp only at hp hd hk
  subst hp hd hk
  show wpAny M A (seqItems? (.ref T) >>= _) Q E s
  refine wpAny_bind (wpAny_seqItems ho hs ?_)
  show wpAny M A (((nsGet D "key" >>= _) >>= _) >>= _) Q E s
  refine wpAny_bind (wpAny_bind (wpAny_bind (wpAny_nsGet hD ?_)))
  rw [hm]
  refine wpAny_pure (wpAny_pure ?_)
  exact wpAny_pure hq
/-- a function with bisect's parameters, lo by keyword -/
noncomputable def FnL (W : Wd) (fa : Addr) (S0 : S) (m : Nat) : Prop := ∃ cs, ∀ a x lo n Q σ, sW W n S0 cs (a :: x :: lo :: .none :: .none :: undefs m) σ (fun f σ' _ => Q (retV f) σ') → CallOK W (n + 1) (.ref fa) [a, x] ["lo"] [lo] Q σ
theorem fnL_of {t : List (Str × V)} (X : Txt W K t) {fa : Addr} {names : List (Str × NameKind)} {S0 : S} {m : Nat} (hf : fnChk K fa names = true) (hS : erSs (glT t) k names (bodyK K fa) = S0)
    (hp : parOk names namesB = true ∧ dfChk K fa = true) (hc : names.all (fun p => !(p.2 == .cell)) = true) (hs : ∀ a b c d e, slots0 names (parV (namesB.zip [a, b, c, d, e])) = a :: b :: c :: d :: e :: undefs m) : FnL W fa S0 m := by
  refine ⟨List.replicate names.length 0, fun a x lo n Q σ h => ?_⟩
  obtain ⟨fd, hfd, F⟩ := fnOK_of X.inH hf
  obtain ⟨p1, p2⟩ := parOk_is hp.1
  have hz : (namesB.zip [a, x, lo, .none, .none]).map (·.1) = namesB := rfl
  refine call_fn X.gl X.lim F (abinds := namesB.zip [a, x, lo, .none, .none]) (fun s vs kvs hbase hv hk => ?_) (by rw [hz]; exact p1) (fun p hp => p2 _ ?_) (by rw [hS]; exact cellW_none hc (by rw [hs]; exact h))
  · have D : DfB fd s.heap := dfB_of (fun a o e => hbase _ _ (X.inH a o e)) hfd hp.2
    obtain ⟨v, w, rfl, rfl, rfl⟩ := map_two hv
    obtain ⟨u, rfl, rfl⟩ := map_one hk
    exact ⟨_, bind_Blo D, rfl⟩
  · rw [← hz]; exact List.mem_map.mpr ⟨p, hp, rfl⟩
noncomputable def ifV {α : Type} (o : Option α) (f : α → Bool) : Bool := match o with
  | some a => f a
  | none => false
theorem ifV_is {α : Type} {o : Option α} {f : α → Bool} (h : ifV o f = true) : ∃ a, o = some a ∧ f a = true := by
  cases o with
  | none => (first | exact nS h | exact nO h | exact nF h | exact nT h | exact nN h | exact nC h | cases h)
  | some a => exact ⟨a, rfl, h⟩
noncomputable def isParQ (p : Arguments) : Bool :=
  p.posonlyargs.isEmpty && (decide (p.args.map (·.arg) = (["data"] : List Str)) && (p.vararg.isNone && (decide (p.kwonlyargs.map (·.arg) = (["n", "method"] : List Str)) && p.kwarg.isNone)))
theorem one_arg : ∀ {l : List Arg} {x : Str}, l.map (·.arg) = [x] → ∃ a p, l = [⟨x, a, p⟩]
  | [], _, h => nomatch h
  | [⟨y, n, p⟩], x, h => ⟨n, p, by cases (List.head_eq_of_cons_eq h : y = x); rfl⟩
  | _ :: _ :: _, _, h => nomatch List.tail_eq_of_cons_eq h
theorem isParQ_is {p : Arguments} (h : isParQ p = true) : ∃ a1 p1 a2 p2 a3 p3 kd df, p = { posonlyargs := [], args := [⟨"data", a1, p1⟩], vararg := none, kwonlyargs := [⟨"n", a2, p2⟩, ⟨"method", a3, p3⟩], kw_defaults := kd, kwarg := none, defaults := df } := by
  obtain ⟨po, ar, va, ko, kd, kw, df⟩ := p
  obtain ⟨h1, h⟩ := Bool.and_eq_true_iff.mp h
  obtain ⟨h2, h⟩ := Bool.and_eq_true_iff.mp h
  obtain ⟨h3, h⟩ := Bool.and_eq_true_iff.mp h
  obtain ⟨h4, h5⟩ := Bool.and_eq_true_iff.mp h
  obtain ⟨a1, p1, e1⟩ := one_arg (of_decide_eq_true h2)
  obtain ⟨⟨y2, a2, p2⟩, r, e2, f2, g2⟩ := List.map_eq_cons_iff.mp (of_decide_eq_true h4)
  obtain ⟨a3, p3, e3⟩ := one_arg g2
  refine ⟨a1, p1, a2, p2, a3, p3, kd, df, ?_⟩
  rw [show po = [] from List.isEmpty_iff.mp h1, show va = none from Option.isNone_iff_eq_none.mp h3, show kw = none from Option.isNone_iff_eq_none.mp h5, show ar = _ from e1, show ko = _ from e2, e3, show y2 = _ from f2]
structure DfQ (fd : FuncData) (h : Heap) : Prop where
  par : isParQ fd.params = true
  dfs : fd.defaults = .none
  kdf : ∃ D m t, fd.kwdefaults = .ref D ∧ h.Ns D m ∧ m "method" = some (.str ("exclusive" : Str) t)
inductive FdQ (fd : FuncData) (h : Heap) : Prop where
  | mk (a1 p1 a2 p2 a3 p3 kd df) (D : Addr) (m : Str → Option Value) (t : Tok)
    (e : fd = { fd with params := { posonlyargs := [], args := [⟨"data", a1, p1⟩], vararg := none, kwonlyargs := [⟨"n", a2, p2⟩, ⟨"method", a3, p3⟩], kw_defaults := kd, kwarg := none, defaults := df }, defaults := .none, kwdefaults := .ref D })
    (hD : h.Ns D m) (hm : m "method" = some (.str ("exclusive" : Str) t)) : FdQ fd h
theorem DfQ.fd {fd : FuncData} {h : Heap} (H : DfQ fd h) : FdQ fd h := by
  obtain ⟨hp, hd, ⟨D, m, t, hk, hD, hm⟩⟩ := H
  obtain ⟨a1, p1, a2, p2, a3, p3, kd, df, hp⟩ := isParQ_is hp
  exact ⟨a1, p1, a2, p2, a3, p3, kd, df, D, m, t, by rw [← hp, ← hd, ← hk], hD, hm⟩
theorem bind_Q1 {fd : FuncData} {v x : Value} (h : DfQ fd s.heap) : ∃ t, BindsTo s fd ⟨[v], [("n", x)]⟩ [("data", v), ("n", x), ("method", .str ("exclusive" : Str) t)] := by
  obtain ⟨_, _, _, _, _, _, _, _, D, m, t, e, hD, hm⟩ := h.fd
  refine ⟨t, fun M A E Q hq => ?_⟩
  rw [e]
  show wpAny M A (((nsGet D "method" >>= _) >>= _) >>= _) Q E s
  refine wpAny_bind (wpAny_bind (wpAny_bind (wpAny_nsGet hD ?_)))
  rw [hm]
  refine wpAny_pure (wpAny_pure ?_)
  exact wpAny_pure hq
theorem bind_Q2 {fd : FuncData} {v x y : Value} (h : DfQ fd s.heap) : BindsTo s fd ⟨[v], [("n", x), ("method", y)]⟩ [("data", v), ("n", x), ("method", y)] := by
  obtain ⟨_, _, _, _, _, _, _, _, D, m, t, e, hD, hm⟩ := h.fd
  refine fun M A E Q hq => ?_
  rw [e]
  exact wpAny_pure hq
theorem ns_some_of {h : Heap} {N : Addr} {mg : Str → Option Value} {x : Str} {v : Value} (X : K.In h) (G : h.Ns N mg) (e : nsIn K N x = some (some v)) : mg x = some v := by
  obtain ⟨o, es, ep, ho, hd, _, hf⟩ := G
  unfold nsIn at e
  split at e
  · rename_i c d es' n' sl q
    have := X _ _ q
    rw [ho] at this
    (first | exact nS this | exact nO this | exact nF this | exact nT this | exact nN this | exact nC this | cases this)
    (first | exact nS hd | exact nO hd | exact nF hd | exact nT hd | exact nN hd | exact nC hd | cases hd)
    split at e
    · rename_i en he
      (first | exact nS e | exact nO e | exact nF e | exact nT e | exact nN e | exact nC e | cases e)
      rw [← hf]
      unfold nsFind findBy
      rw [← Array.find?_toList, he]
      rfl
    · split at e <;> (first | exact nS e | exact nO e | exact nF e | exact nT e | exact nN e | exact nC e | cases e)
  · (first | exact nS e | exact nO e | exact nF e | exact nT e | exact nN e | exact nC e | cases e)
noncomputable def isExc (v : Value) : Bool := match v with
  | .str x _ => decide (x = ("exclusive" : Str))
  | _ => false
theorem isExc_is {v : Value} (h : isExc v = true) : ∃ t, v = .str ("exclusive" : Str) t := by
  cases v with
  | str x t => exact ⟨t, by rw [of_decide_eq_true (p := x = ("exclusive" : Str)) h]⟩
  | _ => (first | exact nS h | exact nO h | exact nF h | exact nT h | exact nN h | exact nC h | cases h)
noncomputable def dfQ (K : Frag) (a : Addr) : Bool := ifV (fdK K a) fun fd => isParQ fd.params && (vNone fd.defaults && ifV (vAddr fd.kwdefaults) fun D => nsOkIn K D && ifV (nsIn K D "method") fun o => ifV o isExc)
theorem dfQ_of {a : Addr} {fd : FuncData} {h : Heap} (X : K.In h) (hfd : fdK K a = some fd) (hc : dfQ K a = true) : DfQ fd h := by
  obtain ⟨fd', e, hc⟩ := ifV_is hc
  rw [hfd] at e; (first | exact nS e | exact nO e | exact nF e | exact nT e | exact nN e | exact nC e | cases e)
  obtain ⟨h1, hc⟩ := Bool.and_eq_true_iff.mp hc
  obtain ⟨h2, hc⟩ := Bool.and_eq_true_iff.mp hc
  obtain ⟨D, h3, hc⟩ := ifV_is hc
  obtain ⟨h4, hc⟩ := Bool.and_eq_true_iff.mp hc
  obtain ⟨o, h5, hc⟩ := ifV_is hc
  obtain ⟨v, rfl, hc⟩ := ifV_is hc
  obtain ⟨t, rfl⟩ := isExc_is hc
  have G : h.Ns D (h.nsMap D) := .of_isNs (isNs_of_in X h4)
  exact ⟨h1, vNone_is h2, D, _, t, vAddr_is h3, G, ns_some_of X G h5⟩
/-- a function with quantiles' parameters -/
noncomputable def FnQ (W : Wd) (fa : Addr) (S0 : S) (m : Nat) : Prop := ∃ cs, (∀ d k n Q σ, sW W n S0 cs (d :: k :: .str ("exclusive" : Str) :: undefs m) σ (fun f σ' _ => Q (retV f) σ') → CallOK W (n + 1) (.ref fa) [d] ["n"] [k] Q σ) ∧
  ∀ d k w n Q σ, sW W n S0 cs (d :: k :: w :: undefs m) σ (fun f σ' _ => Q (retV f) σ') → CallOK W (n + 1) (.ref fa) [d] ["n", "method"] [k, w] Q σ
noncomputable def namesQ : List Str := ["data", "n", "method"]
theorem fnQ_of {t : List (Str × V)} (X : Txt W K t) {fa : Addr} {names : List (Str × NameKind)} {S0 : S} {m : Nat} (hf : fnChk K fa names = true) (hS : erSs (glT t) k names (bodyK K fa) = S0)
    (hp : parOk names namesQ = true ∧ dfQ K fa = true) (hc : names.all (fun p => !(p.2 == .cell)) = true) (hs : ∀ a b c, slots0 names (parV (namesQ.zip [a, b, c])) = a :: b :: c :: undefs m) : FnQ W fa S0 m := by
  obtain ⟨fd, hfd, F⟩ := fnOK_of X.inH hf
  obtain ⟨p1, p2⟩ := parOk_is hp.1
  have D : ∀ s : Shared, (∀ b o, W.H.get? b = some o → s.heap.get? b = some o) → DfQ fd s.heap := fun s hbase => dfQ_of (fun a o e => hbase _ _ (X.inH a o e)) hfd hp.2
  have go : ∀ (a b c : V) (us ks : List V) (kn : List Str) (n : Nat) (Q : V → St → Prop) (σ : St), (∀ s vs kvs, DfQ fd s.heap → vs.map ab = us → kvs.map ab = ks → ∃ binds, BindsTo s fd ⟨vs, kn.zip kvs⟩ binds ∧ abB binds = namesQ.zip [a, b, c]) →
      sW W n S0 (List.replicate names.length 0) (a :: b :: c :: undefs m) σ (fun f σ' _ => Q (retV f) σ') → CallOK W (n + 1) (.ref fa) us kn ks Q σ := fun a b c us ks kn n Q σ hb h => by
    have hz : (namesQ.zip [a, b, c]).map (·.1) = namesQ := rfl
    exact call_fn X.gl X.lim F (abinds := namesQ.zip [a, b, c]) (fun s vs kvs hbase hv hk => hb s vs kvs (D s hbase) hv hk) (by rw [hz]; exact p1) (fun p hp => p2 _ (by rw [← hz]; exact List.mem_map.mpr ⟨p, hp, rfl⟩)) (by rw [hS]; exact cellW_none hc (by rw [hs]; exact h))
  refine ⟨List.replicate names.length 0, fun d k n Q σ h => go d k (.str ("exclusive" : Str)) [d] [k] ["n"] n Q σ (fun s vs kvs DD hv hk => ?_) h, fun d k w n Q σ h => go d k w [d] [k, w] ["n", "method"] n Q σ (fun s vs kvs DD hv hk => ?_) h⟩
  · obtain ⟨v, rfl, rfl⟩ := map_one hv
    obtain ⟨u, rfl, rfl⟩ := map_one hk
    obtain ⟨t, B⟩ := bind_Q1 (v := v) (x := u) DD
    exact ⟨_, B, rfl⟩
  · obtain ⟨v, rfl, rfl⟩ := map_one hv
    obtain ⟨u, u', rfl, rfl, rfl⟩ := map_two hk
    exact ⟨_, bind_Q2 DD, rfl⟩
end Mine

end
section -- K1
namespace Mine
variable {W : Wd} {n : Nat} {σ : St} {cs : List Addr}

noncomputable def whB (tst : X) (a b : S) : S := .whl (.cmp .Lt (.loc 2) (.loc 3)) (.seq (.set (.l 5) (.bin .FloorDiv (.bin .Add (.loc 2) (.loc 3)) (.con (.int (2)))))
 (.seq (.ite tst (.seq a .skip) (.seq b .skip)) .skip))
noncomputable def loUp : S := .set (.l 2) (.bin .Add (.loc 5) (.con (.int (1))))
noncomputable def hiDn : S := .set (.l 3) (.loc 5)
theorem half {l h : Nat} (hlh : l < h) : ((l : Int) + (h : Int)).fdiv 2 = ((l + h) / 2 : Nat) := by
  rw [Int.fdiv_eq_ediv_of_nonneg _ (by decide)]; (first | assumption | exact q1 ‹_› | exact q2 ‹_› ‹_› | exact q3 ‹_› ‹_› | exact q4 ‹_› ‹_› | exact q5 ‹_› | exact q6 ‹_› | lia | omega)

/-- where a search is: up to l all pass, from h on none -/
structure BW (p : Nat → Bool) (lo hi l h : Nat) : Prop where
  low : lo ≤ l
  le : l ≤ h
  hih : h ≤ hi
  up : ∀ i, lo ≤ i → i < l → p i = true
  dn : ∀ i, h ≤ i → i < hi → p i = false
section
variable {p : Nat → Bool} {lo hi l h m : Nat}
theorem BW.start (q : lo ≤ hi) : BW p lo hi lo hi := ⟨Nat.le_refl _, q, Nat.le_refl _, fun i a b => absurd a (Nat.not_le.mpr b), fun i a b => absurd a (Nat.not_le.mpr b)⟩
theorem BW.inc (B : BW p lo hi l h) (hm : ∀ i j, lo ≤ i → i ≤ j → j < hi → p j = true → p i = true) (h1 : l ≤ m) (h2 : m < h) (q : p m = true) : BW p lo hi (m + 1) h :=
  ⟨Nat.le_succ_of_le (Nat.le_trans B.low h1), h2, B.hih, fun i a b => hm i m a (Nat.le_of_lt_succ b) (Nat.lt_of_lt_of_le h2 B.hih) q, B.dn⟩
theorem BW.dec (B : BW p lo hi l h) (hm : ∀ i j, lo ≤ i → i ≤ j → j < hi → p j = true → p i = true) (h1 : l ≤ m) (h2 : m < h) (q : p m = false) : BW p lo hi l m :=
  ⟨B.low, h1, Nat.le_trans (Nat.le_of_lt h2) B.hih, B.up, fun i a b => Bool.eq_false_iff.mpr fun e => by rw [hm m i (Nat.le_trans B.low h1) a b e] at q; (first | exact nS q | exact nO q | exact nF q | exact nT q | exact nN q | exact nC q | cases q)⟩
end
noncomputable def sel (r : Bool) : S := match r with
  | true => hiDn
  | false => loUp
theorem mid_of {l h : Nat} (q : l < h) : ∃ m : Nat, ((l : Int) + (h : Int)).fdiv 2 = (m : Nat) ∧ l ≤ m ∧ m < h := ⟨(l + h) / 2, half q, by (first | assumption | exact q1 ‹_› | exact q2 ‹_› ‹_› | exact q3 ‹_› ‹_› | exact q4 ‹_› ‹_› | exact q5 ‹_› | exact q6 ‹_› | lia | omega), by (first | assumption | exact q1 ‹_› | exact q2 ‹_› ‹_› | exact q3 ‹_› ‹_› | exact q4 ‹_› ‹_› | exact q5 ‹_› | exact q6 ‹_› | lia | omega)⟩
theorem ite_t {A B : Prop} (h : A) : if true = true then A else B := (if_pos rfl).mpr h
theorem ite_f {A B : Prop} (h : B) : if false = true then A else B := (if_neg nofun).mpr h
theorem inc_ok {a x k : V} {m : Nat} {l h : Int} {tl : List V} {Q : Fl → St → List V → Prop} (q : Q .next σ (a :: x :: .int (m + 1 : Nat) :: .int h :: k :: .int (m : Nat) :: tl)) : sW W n (.seq (.seq loUp .skip) .skip) cs (a :: x :: .int l :: .int h :: k :: .int (m : Nat) :: tl) σ Q := ⟨nofun, q⟩
theorem dec_ok {a x k : V} {m : Nat} {l h : Int} {tl : List V} {Q : Fl → St → List V → Prop} (q : Q .next σ (a :: x :: .int l :: .int (m : Nat) :: k :: .int (m : Nat) :: tl)) : sW W n (.seq (.seq hiDn .skip) .skip) cs (a :: x :: .int l :: .int h :: k :: .int (m : Nat) :: tl) σ Q := ⟨nofun, q⟩
theorem wh_ok (r : Bool) {a : V} {x k : V} {tl : List V} {tst : X} {lo hi : Nat} {I : St → Prop} {p : Nat → Bool} {Q : Fl → St → List V → Prop} (hlh : lo ≤ hi)
    (hm : ∀ i j, lo ≤ i → i ≤ j → j < hi → p j = true → p i = true)
    (ht : ∀ mid l h σ, lo ≤ mid → mid < hi → I σ → ∀ Q, (∀ σ', I σ' → Q (p mid != r) σ') → tW W n tst cs (a :: x :: .int l :: .int h :: k :: .int (mid : Nat) :: tl) σ Q)
    {v : V} (hI : I σ) (hQ : ∀ r σ' v', lo ≤ r → r ≤ hi → (∀ i, lo ≤ i → i < r → p i = true) → (∀ i, r ≤ i → i < hi → p i = false) → I σ' → Q .next σ' (a :: x :: .int r :: .int r :: k :: v' :: tl)) :
    sW W n (whB tst (sel r) (sel !r)) cs (a :: x :: .int lo :: .int hi :: k :: v :: tl) σ Q := by
  show whW _ _ _ _ _
  refine ⟨fun j σ fr => ∃ (l h : Nat) (v : V), j = h - l ∧ BW p lo hi l h ∧ fr = a :: x :: .int l :: .int h :: k :: v :: tl ∧ I σ, ⟨hi - lo, lo, hi, v, rfl, .start hlh, rfl, hI⟩, ?_⟩
  rintro j σ fr ⟨l, h, v, rfl, B, rfl, hI⟩
  show _ ∧ _ ∧ (if decide ((l : Int) < (h : Int)) = true then _ else _)
  refine ⟨nofun, nofun, ?_⟩
  by_cases hlt : l < h
  · rw [if_pos (decide_eq_true (Int.ofNat_lt.mpr hlt))]
    obtain ⟨m, e, h1, h2⟩ := mid_of hlt
    refine ⟨nofun, nofun, (by decide : (2 : Int) ≠ 0), (by decide), ?_⟩
    rw [e]
    refine ht m l h σ (Nat.le_trans B.low h1) (Nat.lt_of_lt_of_le h2 B.hih) hI _ fun σ' hI' => ?_
    have U : p m = true → sW W n (.seq (.seq loUp .skip) .skip) cs (a :: x :: .int l :: .int h :: k :: .int (m : Nat) :: tl) σ' (lpW (fun σ' fr' => ∃ i, i < h - l ∧ ∃ (l h : Nat) (v : V), i = h - l ∧ BW p lo hi l h ∧ fr' = a :: x :: .int l :: .int h :: k :: v :: tl ∧ I σ') Q) := fun q =>
      inc_ok ⟨_, Nat.sub_lt_sub_left hlt (Nat.lt_succ_of_le h1), _, _, _, rfl, B.inc hm h1 h2 q, rfl, hI'⟩
    have D : p m = false → sW W n (.seq (.seq hiDn .skip) .skip) cs (a :: x :: .int l :: .int h :: k :: .int (m : Nat) :: tl) σ' (lpW (fun σ' fr' => ∃ i, i < h - l ∧ ∃ (l h : Nat) (v : V), i = h - l ∧ BW p lo hi l h ∧ fr' = a :: x :: .int l :: .int h :: k :: v :: tl ∧ I σ') Q) := fun q =>
      dec_ok ⟨_, Nat.sub_lt_sub_right h1 h2, _, _, _, rfl, B.dec hm h1 h2 q, rfl, hI'⟩
    cases r with
    | true => cases hp : p m with
      | true => exact ite_f (U hp)
      | false => exact ite_t (D hp)
    | false => cases hp : p m with
      | true => exact ite_t (U hp)
      | false => exact ite_f (D hp)
  · rw [if_neg (by rw [decide_eq_true_eq]; exact fun q => hlt (Int.ofNat_lt.mp q))]
    have : l = h := Nat.le_antisymm B.le (Nat.not_lt.mp hlt)
    subst this
    exact hQ l σ v B.low B.hih B.up B.dn hI
theorem wh_left {a : V} {x k : V} {tl : List V} {tst : X} {lo hi : Nat} {I : St → Prop} {p : Nat → Bool} {Q : Fl → St → List V → Prop} (hlh : lo ≤ hi)
    (hm : ∀ i j, lo ≤ i → i ≤ j → j < hi → p j = true → p i = true)
    (ht : ∀ mid l h σ, lo ≤ mid → mid < hi → I σ → ∀ Q, (∀ σ', I σ' → Q (p mid) σ') → tW W n tst cs (a :: x :: .int l :: .int h :: k :: .int (mid : Nat) :: tl) σ Q)
    {v : V} (hI : I σ) (hQ : ∀ r σ' v', lo ≤ r → r ≤ hi → (∀ i, lo ≤ i → i < r → p i = true) → (∀ i, r ≤ i → i < hi → p i = false) → I σ' → Q .next σ' (a :: x :: .int r :: .int r :: k :: v' :: tl)) :
    sW W n (whB tst loUp hiDn) cs (a :: x :: .int lo :: .int hi :: k :: v :: tl) σ Q := wh_ok false hlh hm (fun mid l h σ h1 h2 h3 Q q => ht mid l h σ h1 h2 h3 Q fun σ' i => by have := q σ' i; rwa [Bool.bne_false] at this) hI hQ
theorem wh_right {a : V} {x k : V} {tl : List V} {tst : X} {lo hi : Nat} {I : St → Prop} {p : Nat → Bool} {Q : Fl → St → List V → Prop} (hlh : lo ≤ hi)
    (hm : ∀ i j, lo ≤ i → i ≤ j → j < hi → p j = true → p i = true)
    (ht : ∀ mid l h σ, lo ≤ mid → mid < hi → I σ → ∀ Q, (∀ σ', I σ' → Q (!p mid) σ') → tW W n tst cs (a :: x :: .int l :: .int h :: k :: .int (mid : Nat) :: tl) σ Q)
    {v : V} (hI : I σ) (hQ : ∀ r σ' v', lo ≤ r → r ≤ hi → (∀ i, lo ≤ i → i < r → p i = true) → (∀ i, r ≤ i → i < hi → p i = false) → I σ' → Q .next σ' (a :: x :: .int r :: .int r :: k :: v' :: tl)) :
    sW W n (whB tst hiDn loUp) cs (a :: x :: .int lo :: .int hi :: k :: v :: tl) σ Q := wh_ok true hlh hm (fun mid l h σ h1 h2 h3 Q q => ht mid l h σ h1 h2 h3 Q fun σ' i => by have := q σ' i; rwa [Bool.bne_true] at this) hI hQ

noncomputable def stB (tst tstk : X) (a b : S) : S := (.seq (.ite (.cmp .Lt (.loc 2) (.con (.int (0)))) (.seq .bad .skip) .skip)
 (.seq (.ite (.cmp .Is (.loc 3) (.con .none)) (.seq (.set (.l 3) (.bcall .len (.cons (.loc 0) .nil))) .skip) .skip)
 (.seq (.ite (.cmp .Is (.loc 4) (.con .none)) (.seq (whB tst a b) .skip) (.seq (whB tstk a b) .skip))
 (.seq (.ret (.loc 2)) .skip))))
noncomputable def S_bl : S := stB (.cmp .Lt (.sub (.loc 0) (.loc 5)) (.loc 1)) (.cmp .Lt (.call (.loc 4) (.cons (.sub (.loc 0) (.loc 5)) .nil) [] .nil) (.loc 1)) loUp hiDn
noncomputable def S_br : S := stB (.cmp .Lt (.loc 1) (.sub (.loc 0) (.loc 5))) (.cmp .Lt (.loc 1) (.call (.loc 4) (.cons (.sub (.loc 0) (.loc 5)) .nil) [] .nil)) hiDn loUp
noncomputable def S_in (b : Addr) : S := (.seq (.ite (.cmp .Is (.loc 4) (.con .none)) (.seq (.set (.l 2) (.call (.con (.ref b)) (.cons (.loc 0) (.cons (.loc 1) (.cons (.loc 2) (.cons (.loc 3) .nil)))) [] .nil))
 .skip) (.seq (.set (.l 2) (.call (.con (.ref b)) (.cons (.loc 0) (.cons (.call (.loc 4) (.cons (.loc 1) .nil) [] .nil) (.cons (.loc 2) (.cons (.loc 3) .nil)))) ["key"] (.cons (.loc 4) .nil)))
 .skip))
 (.seq (.exp (.meth .insert (.loc 0) (.cons (.loc 2) (.cons (.loc 1) .nil)))) .skip))

/-- how far a search may go: hi as it is handed -/
noncomputable def hiIs (v : V) (len hi : Nat) : Prop := (v = .none ∧ hi = len) ∨ (v = .int hi ∧ hi ≤ len)
theorem nth_ivs {ns : List Int} {i : Nat} (h : i < ns.length) : nth (ivs ns) i = .int (ns.getD i 0) := by
  rw [nth_eq]; simp [ivs, List.getD_eq_getElem?_getD, List.getElem?_eq_getElem h]
theorem idx_nat {i : Nat} {l : Nat} : idx (i : Int) l = i := by
  unfold idx; rw [if_neg (by (first | assumption | exact q1 ‹_› | exact q2 ‹_› ‹_› | exact q3 ‹_› ‹_› | exact q4 ‹_› ‹_› | exact q5 ‹_› | exact q6 ‹_› | lia | omega))]; (first | assumption | exact q1 ‹_› | exact q2 ‹_› ‹_› | exact q3 ‹_› ‹_› | exact q4 ‹_› ‹_› | exact q5 ‹_› | exact q6 ‹_› | lia | omega)
theorem ivs_length {ns : List Int} : (ivs ns).length = ns.length := List.length_map _

theorem at_items {o : O} {xs : List V} {k : Int} {K : V → Prop} (h : o.items = some xs) : atW o k K = (idxOk k xs.length ∧ K (nth xs (idx k xs.length))) := by
  (first | exact nS o | exact nO o | exact nF o | exact nT o | exact nN o | exact nC o | cases o) <;> (first | exact nS h | exact nO h | exact nF h | exact nT h | exact nN h | exact nC h | cases h) <;> rfl
theorem len_items {o : O} {xs : List V} {K : Nat → Prop} (h : o.items = some xs) : lenW o K = K xs.length := by
  (first | exact nS o | exact nO o | exact nF o | exact nT o | exact nN o | exact nC o | cases o) <;> (first | exact nS h | exact nO h | exact nF h | exact nT h | exact nN h | exact nC h | cases h) <;> rfl
theorem sub_items {a : Addr} {o : O} {xs : List V} {k : Int} {Q : V → St → Prop} (ho : σ a = some o) (hi : o.items = some xs) (h : idxOk k xs.length) (q : Q (nth xs (idx k xs.length)) σ) : subW (.ref a) (.int k) σ Q := by
  show optP (σ a) _
  rw [ho]
  exact (at_items (K := fun v => Q v σ) hi).mpr ⟨h, q⟩
theorem lenR_of {a : Addr} {o : O} {xs : List V} {K : Nat → Prop} (ho : σ a = some o) (hi : o.items = some xs) (q : K xs.length) : refW (.ref a) σ fun _ o => lenW o K := by
  show optP (σ a) _
  rw [ho]
  exact (len_items (K := K) hi).mpr q
theorem sub_int {a : Addr} {o : O} {ns : List Int} {i : Nat} {Q : V → St → Prop} (ho : σ a = some o) (hi : o.items = some (ivs ns)) (h : i < ns.length) (q : Q (.int (ns.getD i 0)) σ) : subW (.ref a) (.int (i : Int)) σ Q := by
  refine sub_items ho hi ?_ ?_
  · rw [ivs_length]; exact ⟨by (first | assumption | exact q1 ‹_› | exact q2 ‹_› ‹_› | exact q3 ‹_› ‹_› | exact q4 ‹_› ‹_› | exact q5 ‹_› | exact q6 ‹_› | lia | omega), by (first | assumption | exact q1 ‹_› | exact q2 ‹_› ‹_› | exact q3 ‹_› ‹_› | exact q4 ‹_› ‹_› | exact q5 ‹_› | exact q6 ‹_› | lia | omega)⟩
  · rw [ivs_length, idx_nat, nth_ivs h]; exact q

/-- bisect_left without a key -/
theorem bl_run {a : Addr} {o : O} {ns : List Int} {x : Int} {lo hi : Nat} {vh : V} {m : Nat} {Q : Fl → St → List V → Prop} (ho : σ a = some o) (hi' : o.items = some (ivs ns)) (hh : hiIs vh ns.length hi) (hlh : lo ≤ hi)
    (hm : ∀ i j, lo ≤ i → i ≤ j → j < hi → ns.getD i 0 ≤ ns.getD j 0)
    (hQ : ∀ r : Nat, ∀ fr, lo ≤ r → r ≤ hi → (∀ i, lo ≤ i → i < r → ns.getD i 0 < x) → (∀ i, r ≤ i → i < hi → x ≤ ns.getD i 0) → Q (.ret (.int r)) σ fr) :
    sW W n S_bl cs (.ref a :: .int x :: .int lo :: vh :: .none :: .undef :: undefs m) σ Q := by
  have hle : hi ≤ ns.length := by rcases hh with ⟨_, h⟩ | ⟨_, h⟩ <;> (first | assumption | exact q1 ‹_› | exact q2 ‹_› ‹_› | exact q3 ‹_› ‹_› | exact q4 ‹_› ‹_› | exact q5 ‹_› | exact q6 ‹_› | lia | omega)
  have fin : ∀ Q', (∀ r : Nat, ∀ v, lo ≤ r → r ≤ hi → (∀ i, lo ≤ i → i < r → ns.getD i 0 < x) → (∀ i, r ≤ i → i < hi → x ≤ ns.getD i 0) → Q' Fl.next σ (.ref a :: .int x :: .int r :: .int r :: .none :: v :: undefs m)) →
      sW W n (whB (.cmp .Lt (.sub (.loc 0) (.loc 5)) (.loc 1)) loUp hiDn) cs (.ref a :: .int x :: .int lo :: .int hi :: .none :: .undef :: undefs m) σ Q' := fun Q' hQ' => by
    refine wh_left (I := fun σ' => σ' = σ) (p := fun i => decide (ns.getD i 0 < x)) hlh (fun i j h1 h2 h3 h4 => ?_) (fun mid l h σ' h1 h2 e Q hq => ?_) rfl (fun r σ' v' h1 h2 h3 h4 e => ?_)
    · have := hm i j h1 h2 h3
      simp only [decide_eq_true_eq] at h4 ⊢; (first | assumption | exact q1 ‹_› | exact q2 ‹_› ‹_› | exact q3 ‹_› ‹_› | exact q4 ‹_› ‹_› | exact q5 ‹_› | exact q6 ‹_› | lia | omega)
    · subst e
      simp only [t_not, t_and, t_or, t_ife, t_cmp, t_cmp2, t_con, t_loc, t_call, t_bcall, t_sub, t_bad, t_cel, t_bin, t_neg, t_sl, t_lst, t_tup, t_comp, t_meth, x_bad, x_con, x_loc, x_cel, x_bin, x_neg, x_not, x_and, x_or, x_cmp, x_cmp2, x_ife, x_call, x_bcall, x_meth, x_sub, x_sl, x_lst, x_tup, x_comp, nth]
      refine ⟨nofun, nofun, sub_int ho hi' (by (first | assumption | exact q1 ‹_› | exact q2 ‹_› ‹_› | exact q3 ‹_› ‹_› | exact q4 ‹_› ‹_› | exact q5 ‹_› | exact q6 ‹_› | lia | omega)) ⟨nofun, ?_⟩⟩
      exact hq _ rfl
    · subst e
      exact hQ' r _ h1 h2 (fun i i1 i2 => of_decide_eq_true (h3 i i1 i2)) (fun i i1 i2 => by have := of_decide_eq_false (h4 i i1 i2); (first | assumption | exact q1 ‹_› | exact q2 ‹_› ‹_› | exact q3 ‹_› ‹_› | exact q4 ‹_› ‹_› | exact q5 ‹_› | exact q6 ‹_› | lia | omega))
  simp only [S_bl, stB, s_bad, s_skip, s_seq, s_set, s_unp, s_aug, s_exp, s_ret, s_ret0, s_brk, s_cont, s_ite, s_whl, s_for, t_not, t_and, t_or, t_ife, t_cmp, t_cmp2, t_con, t_loc, t_call, t_bcall, t_sub, t_bad, t_cel, t_bin, t_neg, t_sl, t_lst, t_tup, t_comp, t_meth, x_bad, x_con, x_loc, x_cel, x_bin, x_neg, x_not, x_and, x_or, x_cmp, x_cmp2, x_ife, x_call, x_bcall, x_meth, x_sub, x_sl, x_lst, x_tup, x_comp, nth, c_lt, c_le, c_gt, c_ge, c_eq, c_ne, c_is, c_isi, c_isr, c_ty]
  refine ⟨nofun, ?_⟩
  rw [if_neg (by simp)]
  rcases hh with ⟨rfl, rfl⟩ | ⟨rfl, _⟩
  · simp only [c_lt, c_le, c_gt, c_ge, c_eq, c_ne, c_is, c_isi, c_isr, c_ty, if_true, l_nil, l_cons, l_bad, x_bad, x_con, x_loc, x_cel, x_bin, x_neg, x_not, x_and, x_or, x_cmp, x_cmp2, x_ife, x_call, x_bcall, x_meth, x_sub, x_sl, x_lst, x_tup, x_comp, nth, f_len, f_sorted, f_range1, f_range2, f_range3, f_sum, refW, optP_some, ho, len_items hi', stW, setN, ivs_length]
    refine ⟨nofun, nofun, nofun, fin _ fun r v h1 h2 h3 h4 => ?_⟩
    simp only [nth]
    exact ⟨nofun, hQ r _ h1 h2 h3 h4⟩
  · simp only [c_lt, c_le, c_gt, c_ge, c_eq, c_ne, c_is, c_isi, c_isr, c_ty, Bool.false_eq_true, if_false, if_true]
    refine ⟨nofun, nofun, fin _ fun r v h1 h2 h3 h4 => ?_⟩
    simp only [nth]
    exact ⟨nofun, hQ r _ h1 h2 h3 h4⟩
end Mine

end
section -- K2
namespace Mine
variable {W : Wd} {n : Nat} {σ : St} {cs : List Addr}
/-- bisect_right without a key -/
theorem br_run {a : Addr} {o : O} {ns : List Int} {x : Int} {lo hi : Nat} {vh : V} {m : Nat} {Q : Fl → St → List V → Prop} (ho : σ a = some o) (hi' : o.items = some (ivs ns)) (hh : hiIs vh ns.length hi) (hlh : lo ≤ hi)
    (hm : ∀ i j, lo ≤ i → i ≤ j → j < hi → ns.getD i 0 ≤ ns.getD j 0)
    (hQ : ∀ r : Nat, ∀ fr, lo ≤ r → r ≤ hi → (∀ i, lo ≤ i → i < r → ns.getD i 0 ≤ x) → (∀ i, r ≤ i → i < hi → x < ns.getD i 0) → Q (.ret (.int r)) σ fr) :
    sW W n S_br cs (.ref a :: .int x :: .int lo :: vh :: .none :: .undef :: undefs m) σ Q := by
  have hle : hi ≤ ns.length := by rcases hh with ⟨_, h⟩ | ⟨_, h⟩ <;> (first | assumption | exact q1 ‹_› | exact q2 ‹_› ‹_› | exact q3 ‹_› ‹_› | exact q4 ‹_› ‹_› | exact q5 ‹_› | exact q6 ‹_› | lia | omega)
  have fin : ∀ Q', (∀ r : Nat, ∀ v, lo ≤ r → r ≤ hi → (∀ i, lo ≤ i → i < r → ns.getD i 0 ≤ x) → (∀ i, r ≤ i → i < hi → x < ns.getD i 0) → Q' Fl.next σ (.ref a :: .int x :: .int r :: .int r :: .none :: v :: undefs m)) →
      sW W n (whB (.cmp .Lt (.loc 1) (.sub (.loc 0) (.loc 5))) hiDn loUp) cs (.ref a :: .int x :: .int lo :: .int hi :: .none :: .undef :: undefs m) σ Q' := fun Q' hQ' => by
    refine wh_right (I := fun σ' => σ' = σ) (p := fun i => decide (ns.getD i 0 ≤ x)) hlh (fun i j h1 h2 h3 h4 => ?_) (fun mid l h σ' h1 h2 e Q hq => ?_) rfl (fun r σ' v' h1 h2 h3 h4 e => ?_)
    · have := hm i j h1 h2 h3
      simp only [decide_eq_true_eq] at h4 ⊢; (first | assumption | exact q1 ‹_› | exact q2 ‹_› ‹_› | exact q3 ‹_› ‹_› | exact q4 ‹_› ‹_› | exact q5 ‹_› | exact q6 ‹_› | lia | omega)
    · subst e
      simp only [t_not, t_and, t_or, t_ife, t_cmp, t_cmp2, t_con, t_loc, t_call, t_bcall, t_sub, t_bad, t_cel, t_bin, t_neg, t_sl, t_lst, t_tup, t_comp, t_meth, x_bad, x_con, x_loc, x_cel, x_bin, x_neg, x_not, x_and, x_or, x_cmp, x_cmp2, x_ife, x_call, x_bcall, x_meth, x_sub, x_sl, x_lst, x_tup, x_comp, nth]
      refine ⟨nofun, nofun, nofun, sub_int ho hi' (by (first | assumption | exact q1 ‹_› | exact q2 ‹_› ‹_› | exact q3 ‹_› ‹_› | exact q4 ‹_› ‹_› | exact q5 ‹_› | exact q6 ‹_› | lia | omega)) ?_⟩
      have e : (!decide (ns.getD mid 0 ≤ x)) = decide (x < ns.getD mid 0) := by rw [← decide_not]; exact decide_eq_decide.mpr (by (first | assumption | exact q1 ‹_› | exact q2 ‹_› ‹_› | exact q3 ‹_› ‹_› | exact q4 ‹_› ‹_› | exact q5 ‹_› | exact q6 ‹_› | lia | omega))
      have := hq _ rfl
      rw [e] at this
      exact this
    · subst e
      exact hQ' r _ h1 h2 (fun i i1 i2 => of_decide_eq_true (h3 i i1 i2)) (fun i i1 i2 => by have := of_decide_eq_false (h4 i i1 i2); (first | assumption | exact q1 ‹_› | exact q2 ‹_› ‹_› | exact q3 ‹_› ‹_› | exact q4 ‹_› ‹_› | exact q5 ‹_› | exact q6 ‹_› | lia | omega))
  simp only [S_br, stB, s_bad, s_skip, s_seq, s_set, s_unp, s_aug, s_exp, s_ret, s_ret0, s_brk, s_cont, s_ite, s_whl, s_for, t_not, t_and, t_or, t_ife, t_cmp, t_cmp2, t_con, t_loc, t_call, t_bcall, t_sub, t_bad, t_cel, t_bin, t_neg, t_sl, t_lst, t_tup, t_comp, t_meth, x_bad, x_con, x_loc, x_cel, x_bin, x_neg, x_not, x_and, x_or, x_cmp, x_cmp2, x_ife, x_call, x_bcall, x_meth, x_sub, x_sl, x_lst, x_tup, x_comp, nth, c_lt, c_le, c_gt, c_ge, c_eq, c_ne, c_is, c_isi, c_isr, c_ty]
  refine ⟨nofun, ?_⟩
  rw [if_neg (by simp)]
  rcases hh with ⟨rfl, rfl⟩ | ⟨rfl, _⟩
  · simp only [c_lt, c_le, c_gt, c_ge, c_eq, c_ne, c_is, c_isi, c_isr, c_ty, if_true, l_nil, l_cons, l_bad, x_bad, x_con, x_loc, x_cel, x_bin, x_neg, x_not, x_and, x_or, x_cmp, x_cmp2, x_ife, x_call, x_bcall, x_meth, x_sub, x_sl, x_lst, x_tup, x_comp, nth, f_len, f_sorted, f_range1, f_range2, f_range3, f_sum, refW, optP_some, ho, len_items hi', stW, setN, ivs_length]
    refine ⟨nofun, nofun, nofun, fin _ fun r v h1 h2 h3 h4 => ?_⟩
    simp only [nth]
    exact ⟨nofun, hQ r _ h1 h2 h3 h4⟩
  · simp only [c_lt, c_le, c_gt, c_ge, c_eq, c_ne, c_is, c_isi, c_isr, c_ty, Bool.false_eq_true, if_false, if_true]
    refine ⟨nofun, nofun, fin _ fun r v h1 h2 h3 h4 => ?_⟩
    simp only [nth]
    exact ⟨nofun, hQ r _ h1 h2 h3 h4⟩

theorem countP_at {p : Int → Bool} : ∀ {ns : List Int} {r : Nat}, r ≤ ns.length → (∀ i, i < r → p (ns.getD i 0) = true) → (∀ i, r ≤ i → i < ns.length → p (ns.getD i 0) = false) → ns.countP p = r
  | [], r, h, _, _ => by simp at h; subst h; rfl
  | y :: l, 0, _, _, h2 => by
    have h0 := h2 0 (Nat.le_refl _) (Nat.succ_pos _)
    have e0 : p y = false := h0
    rw [List.countP_cons_of_neg (by simp [e0])]
    exact countP_at (Nat.zero_le _) (fun i hi => absurd hi (by (first | assumption | exact q1 ‹_› | exact q2 ‹_› ‹_› | exact q3 ‹_› ‹_› | exact q4 ‹_› ‹_› | exact q5 ‹_› | exact q6 ‹_› | lia | omega))) fun i _ h4 => by
      have := h2 (i + 1) (by (first | assumption | exact q1 ‹_› | exact q2 ‹_› ‹_› | exact q3 ‹_› ‹_› | exact q4 ‹_› ‹_› | exact q5 ‹_› | exact q6 ‹_› | lia | omega)) (by simpa using h4)
      simpa using this
  | y :: l, r + 1, h, h1, h2 => by
    have h0 := h1 0 (Nat.succ_pos _)
    have e0 : p y = true := h0
    rw [List.countP_cons_of_pos e0]
    congr 1
    refine countP_at (Nat.le_of_succ_le_succ h) (fun i hi => ?_) fun i h3 h4 => ?_
    · have := h1 (i + 1) (by (first | assumption | exact q1 ‹_› | exact q2 ‹_› ‹_› | exact q3 ‹_› ‹_› | exact q4 ‹_› ‹_› | exact q5 ‹_› | exact q6 ‹_› | lia | omega)); simpa using this
    · have := h2 (i + 1) (by (first | assumption | exact q1 ‹_› | exact q2 ‹_› ‹_› | exact q3 ‹_› ‹_› | exact q4 ‹_› ‹_› | exact q5 ‹_› | exact q6 ‹_› | lia | omega)) (by simpa using h4); simpa using this
noncomputable def Sorted (ns : List Int) : Prop := ns.Pairwise (· ≤ ·)
theorem Sorted.le {ns : List Int} (h : Sorted ns) {i j : Nat} (hij : i ≤ j) (hj : j < ns.length) : ns.getD i 0 ≤ ns.getD j 0 := by
  rcases Nat.lt_or_eq_of_le hij with h1 | rfl
  · have := List.pairwise_iff_getElem.mp h i j (by (first | assumption | exact q1 ‹_› | exact q2 ‹_› ‹_› | exact q3 ‹_› ‹_› | exact q4 ‹_› ‹_› | exact q5 ‹_› | exact q6 ‹_› | lia | omega)) hj h1
    simpa [List.getD_eq_getElem?_getD, List.getElem?_eq_getElem hj, List.getElem?_eq_getElem (show i < ns.length by (first | assumption | exact q1 ‹_› | exact q2 ‹_› ‹_› | exact q3 ‹_› ‹_› | exact q4 ‹_› ‹_› | exact q5 ‹_› | exact q6 ‹_› | lia | omega))] using this
  · exact Int.le_refl _
theorem ins_at {x : Int} : ∀ {ns : List Int} {r : Nat}, r ≤ ns.length → (∀ i, i < r → ns.getD i 0 ≤ x) → (∀ i, r ≤ i → i < ns.length → x ≤ ns.getD i 0) → Sorted ns → ns.take r ++ x :: ns.drop r = ins x ns := by
  intro ns r hr h1 h2 hs
  refine sorted_unique ?_ ?_ (ins_sorted x hs)
  · refine (List.perm_middle).trans ?_
    rw [List.take_append_drop]
    exact (ins_perm x ns).symm
  · refine List.pairwise_append.mpr ⟨hs.sublist (List.take_sublist _ _), List.pairwise_cons.mpr ⟨fun y hy => ?_, hs.sublist (List.drop_sublist _ _)⟩, fun y hy z hz => ?_⟩
    · obtain ⟨k, hk, rfl⟩ := List.mem_iff_getElem.mp hy
      have := h2 (r + k) (by (first | assumption | exact q1 ‹_› | exact q2 ‹_› ‹_› | exact q3 ‹_› ‹_› | exact q4 ‹_› ‹_› | exact q5 ‹_› | exact q6 ‹_› | lia | omega)) (by simp at hk; (first | assumption | exact q1 ‹_› | exact q2 ‹_› ‹_› | exact q3 ‹_› ‹_› | exact q4 ‹_› ‹_› | exact q5 ‹_› | exact q6 ‹_› | lia | omega))
      have e : ns.getD (r + k) 0 = (ns.drop r)[k] := by rw [List.getElem_drop, List.getD_eq_getElem?_getD, List.getElem?_eq_getElem (by simp at hk; (first | assumption | exact q1 ‹_› | exact q2 ‹_› ‹_› | exact q3 ‹_› ‹_› | exact q4 ‹_› ‹_› | exact q5 ‹_› | exact q6 ‹_› | lia | omega))]; rfl
      rw [e] at this; exact this
    · obtain ⟨k, hk, rfl⟩ := List.mem_iff_getElem.mp hy
      have hk' : k < r ∧ k < ns.length := by simp at hk; (first | assumption | exact q1 ‹_› | exact q2 ‹_› ‹_› | exact q3 ‹_› ‹_› | exact q4 ‹_› ‹_› | exact q5 ‹_› | exact q6 ‹_› | lia | omega)
      have e : (ns.take r)[k] = ns.getD k 0 := by rw [List.getElem_take, List.getD_eq_getElem?_getD, List.getElem?_eq_getElem hk'.2]; rfl
      have hy1 : (ns.take r)[k] ≤ x := by rw [e]; exact h1 k hk'.1
      rcases List.mem_cons.mp hz with rfl | hz
      · exact hy1
      · obtain ⟨j, hj, rfl⟩ := List.mem_iff_getElem.mp hz
        have := h2 (r + j) (by (first | assumption | exact q1 ‹_› | exact q2 ‹_› ‹_› | exact q3 ‹_› ‹_› | exact q4 ‹_› ‹_› | exact q5 ‹_› | exact q6 ‹_› | lia | omega)) (by simp at hj; (first | assumption | exact q1 ‹_› | exact q2 ‹_› ‹_› | exact q3 ‹_› ‹_› | exact q4 ‹_› ‹_› | exact q5 ‹_› | exact q6 ‹_› | lia | omega))
        have e' : ns.getD (r + j) 0 = (ns.drop r)[j] := by rw [List.getElem_drop, List.getD_eq_getElem?_getD, List.getElem?_eq_getElem (by simp at hj; (first | assumption | exact q1 ‹_› | exact q2 ‹_› ‹_› | exact q3 ‹_› ‹_› | exact q4 ‹_› ‹_› | exact q5 ‹_› | exact q6 ‹_› | lia | omega))]; rfl
        rw [e'] at this
        (first | assumption | exact q1 ‹_› | exact q2 ‹_› ‹_› | exact q3 ‹_› ‹_› | exact q4 ‹_› ‹_› | exact q5 ‹_› | exact q6 ‹_› | lia | omega)

theorem take_ivs (ns : List Int) (r : Nat) (x : Int) : (ivs ns).take r ++ .int x :: (ivs ns).drop r = ivs (ns.take r ++ x :: ns.drop r) := by
  simp [ivs, List.map_take, List.map_drop]
theorem insort_left_ok {fa fb : Addr} (F : FnB W fa (S_in fb) 1) (F' : FnB W fb S_bl 3) {a : Addr} {ns : List Int} {x : Int} {Q : V → St → Prop} (ho : σ a = some (.lst (ivs ns))) (hs : Sorted ns) (hl : ns.length < lim)
    (q : Q .none (σ.set a (.lst (ivs (ins x ns))))) : CallOK W (n + 2) (.ref fa) [.ref a, .int x] [] [] Q σ := by
  obtain ⟨cs, F⟩ := F
  obtain ⟨cs', F'⟩ := F'
  refine F [_, _] [] _ (n + 1) Q σ rfl ?_
  simp only [S_in, s_bad, s_skip, s_seq, s_set, s_unp, s_aug, s_exp, s_ret, s_ret0, s_brk, s_cont, s_ite, s_whl, s_for, t_not, t_and, t_or, t_ife, t_cmp, t_cmp2, t_con, t_loc, t_call, t_bcall, t_sub, t_bad, t_cel, t_bin, t_neg, t_sl, t_lst, t_tup, t_comp, t_meth, x_bad, x_con, x_loc, x_cel, x_bin, x_neg, x_not, x_and, x_or, x_cmp, x_cmp2, x_ife, x_call, x_bcall, x_meth, x_sub, x_sl, x_lst, x_tup, x_comp, nth, c_lt, c_le, c_gt, c_ge, c_eq, c_ne, c_is, c_isi, c_isr, c_ty, List.cons_append, List.nil_append, undefs, if_true, l_nil, l_cons, l_bad]
  refine ⟨nofun, nofun, nofun, nofun, nofun, ?_⟩
  refine F' [_, _, _, _] [] _ n _ σ rfl ?_
  refine bl_run (lo := 0) (hi := ns.length) ho rfl (.inl ⟨rfl, rfl⟩) (Nat.zero_le _) (fun i j _ h2 h3 => hs.le h2 h3) fun r fr _ h2 h3 h4 => ?_
  simp only [retV, stW, setN, nth, mlistW, refW, optP_some, ho, m_append, m_insert, m_extend, ivs_length]
  refine ⟨nofun, nofun, nofun, by (first | assumption | exact q1 ‹_› | exact q2 ‹_› ‹_› | exact q3 ‹_› ‹_› | exact q4 ‹_› ‹_› | exact q5 ‹_› | exact q6 ‹_› | lia | omega), by (first | assumption | exact q1 ‹_› | exact q2 ‹_› ‹_› | exact q3 ‹_› ‹_› | exact q4 ‹_› ‹_› | exact q5 ‹_› | exact q6 ‹_› | lia | omega), by (first | assumption | exact q1 ‹_› | exact q2 ‹_› ‹_› | exact q3 ‹_› ‹_› | exact q4 ‹_› ‹_› | exact q5 ‹_› | exact q6 ‹_› | lia | omega), ?_⟩
  rw [Int.toNat_natCast, take_ivs, ins_at h2 (fun i hi => by have := h3 i (Nat.zero_le _) hi; (first | assumption | exact q1 ‹_› | exact q2 ‹_› ‹_› | exact q3 ‹_› ‹_› | exact q4 ‹_› ‹_› | exact q5 ‹_› | exact q6 ‹_› | lia | omega)) h4 hs]
  exact q
/-- the store grows -/
noncomputable def Ext (σ σ' : St) : Prop := ∀ a o, σ a = some o → σ' a = some o
theorem Ext.refl (σ : St) : Ext σ σ := fun _ _ h => h
theorem Ext.trans {σ σ' σ'' : St} (h : Ext σ σ') (k : Ext σ' σ'') : Ext σ σ'' := fun a o e => k a o (h a o e)
theorem Ext.new {σ : St} {a : Addr} {o : O} (h : σ a = none) : Ext σ (σ.set a o) := fun b x e => by
  rw [St.set_other]; exact e
  intro q; rw [q, h] at e; (first | exact nS e | exact nO e | exact nF e | exact nT e | exact nN e | exact nC e | cases e)
end Mine

end
section -- K3
namespace Mine
variable {W : Wd} {n : Nat} {σ : St} {cs : List Addr}

theorem alW_of {o : O} {Q : V → St → Prop} (h : ∀ b σ', σ b = none → Ext σ σ' → σ' b = some o → Q (.ref b) σ') : alW σ o Q := fun b hb => h b _ hb (Ext.new hb) (St.set_same _ _ _)
theorem ne_new {a b : Addr} {o : O} (h : σ a = some o) (hb : σ b = none) : a ≠ b := fun e => by rw [e, hb] at h; (first | exact nS h | exact nO h | exact nF h | exact nT h | exact nN h | exact nC h | cases h)
theorem seq_set {t : T} {x : X} {b : S} {fr : List V} {Q : Fl → St → List V → Prop} (h : xW W n x cs fr σ fun v σ1 => stW t v cs fr σ1 fun fr1 σ2 => sW W n b cs fr1 σ2 Q) : sW W n (.seq (.set t x) b) cs fr σ Q := h
theorem seq_exp {x : X} {b : S} {fr : List V} {Q : Fl → St → List V → Prop} (h : xW W n x cs fr σ fun _ σ1 => sW W n b cs fr σ1 Q) : sW W n (.seq (.exp x) b) cs fr σ Q := h
theorem eqL_ints {d : Nat} : ∀ {xs ys : List Int}, xs.length = ys.length → eqL (eqB σ d) (ivs xs) (ivs ys) = some (decide (xs = ys))
  | [], [], _ => rfl
  | x :: xs, y :: ys, h => by
    have ih := eqL_ints (d := d) (xs := xs) (ys := ys) (by simpa using h)
    have e : eqB σ d (.int x) (.int y) = some (x == y) := by (first | exact nS d | exact nO d | exact nF d | exact nT d | exact nN d | exact nC d | cases d) <;> rfl
    show (eqB σ d (.int x) (.int y)).bind (fun b => (eqL (eqB σ d) (ivs xs) (ivs ys)).map fun c => b && c) = _
    rw [e, ih]
    by_cases hx : x = y <;> simp [hx]
theorem eqB_ints {d : Nat} {a b : Addr} {o o' : O} {xs ys : List Int} (h : σ a = some o) (h' : σ b = some o') (hl : o.litems = some (ivs xs)) (hl' : o'.litems = some (ivs ys)) (hne : a ≠ b) : eqB σ (d + 1) (.ref a) (.ref b) = some (decide (xs = ys)) := by
  show (if a = b then none else ((σ a).bind O.litems).bind fun xs => ((σ b).bind O.litems).bind fun ys => if xs.length = ys.length then eqL (eqB σ d) xs ys else some false) = _
  rw [if_neg hne, h, h']
  show (o.litems.bind fun xs => o'.litems.bind fun ys => if xs.length = ys.length then eqL (eqB σ d) xs ys else some false) = _
  rw [hl, hl']
  show (if (ivs xs).length = (ivs ys).length then eqL (eqB σ d) (ivs xs) (ivs ys) else some false) = _
  rw [ivs_length, ivs_length]
  by_cases e : xs.length = ys.length
  · rw [if_pos e]; exact eqL_ints e
  · rw [if_neg e, decide_eq_false fun q => e (by rw [q])]
theorem ne_ints {a b : Addr} {o o' : O} {xs ys : List Int} {Q : Bool → St → Prop} (h : σ a = some o) (h' : σ b = some o') (hl : o.litems = some (ivs xs)) (hl' : o'.litems = some (ivs ys)) (hne : a ≠ b) (q : Q (!decide (xs = ys)) σ) : cmpW .NotEq (.ref a) (.ref b) σ Q := by
  show eqW _ _ _ _
  unfold eqW
  rw [eqB_ints h h' hl hl' hne]
  exact q
theorem forW_inv {chk : St → Prop} {bod : V → List V → St → (Fl → St → List V → Prop) → Prop} {Q : Fl → St → List V → Prop} (J : Nat → List V → St → Prop) (R : V → St → List V → Prop) : ∀ {xs : List V} {k : Nat} {fr : List V} {σ : St}, J k fr σ →
    (∀ i fr σ, i < xs.length → J (k + i) fr σ → chk σ ∧ ∀ Q' : Fl → St → List V → Prop, (∀ fr' σ', J (k + i + 1) fr' σ' → Q' .next σ' fr') → (∀ v fr' σ', R v σ' fr' → Q' (.ret v) σ' fr') → bod (nth xs i) fr σ Q') →
    (∀ fr σ, J (k + xs.length) fr σ → chk σ ∧ Q .next σ fr) → (∀ v fr σ, R v σ fr → Q (.ret v) σ fr) → forW chk bod xs fr σ Q
  | [], k, fr, σ, h0, _, h2, _ => h2 fr σ h0
  | x :: xs, k, fr, σ, h0, h1, h2, h3 => by
    obtain ⟨hc, hb⟩ := h1 0 fr σ (Nat.succ_pos _) h0
    refine ⟨hc, hb _ (fun fr' σ' h => ?_) (fun v fr' σ' h => h3 v fr' σ' h)⟩
    refine forW_inv J R (k := k + 1) h (fun i fr σ hi h => ?_) (fun fr σ h => h2 fr σ ?_) h3
    · have := h1 (i + 1) fr σ (Nat.succ_lt_succ hi) (by rw [show k + (i + 1) = k + 1 + i by (first | assumption | exact q1 ‹_› | exact q2 ‹_› ‹_› | exact q3 ‹_› ‹_› | exact q4 ‹_› ‹_› | exact q5 ‹_› | exact q6 ‹_› | lia | omega)]; exact h)
      rw [show k + (i + 1) + 1 = k + 1 + i + 1 by (first | assumption | exact q1 ‹_› | exact q2 ‹_› ‹_› | exact q3 ‹_› ‹_› | exact q4 ‹_› ‹_› | exact q5 ‹_› | exact q6 ‹_› | lia | omega)] at this
      exact this
    · rw [show k + (x :: xs).length = k + 1 + xs.length by simp; (first | assumption | exact q1 ‹_› | exact q2 ‹_› ‹_› | exact q3 ‹_› ‹_› | exact q4 ‹_› ‹_› | exact q5 ‹_› | exact q6 ‹_› | lia | omega)]; exact h
theorem compW_inv {chk : St → Prop} {bod : V → St → (Option V → St → Prop) → Prop} {K : List V → St → Prop} (J : Nat → List V → St → Prop) : ∀ {xs : List V} {k : Nat} {acc : List V} {σ : St}, J k acc σ →
    (∀ i acc σ, i < xs.length → J (k + i) acc σ → chk σ ∧ ∀ Q' : Option V → St → Prop, (∀ o σ', J (k + i + 1) (acc ++ o.toList) σ' → Q' o σ') → bod (nth xs i) σ Q') →
    (∀ acc σ, J (k + xs.length) acc σ → chk σ ∧ K acc σ) → compW chk bod xs acc σ K
  | [], k, fr, σ, h0, _, h2 => h2 fr σ h0
  | x :: xs, k, fr, σ, h0, h1, h2 => by
    obtain ⟨hc, hb⟩ := h1 0 fr σ (Nat.succ_pos _) h0
    refine ⟨hc, hb _ (fun o σ' h => ?_)⟩
    refine compW_inv J (k := k + 1) h (fun i fr σ hi h => ?_) (fun fr σ h => h2 fr σ ?_)
    · have := h1 (i + 1) fr σ (Nat.succ_lt_succ hi) (by rw [show k + (i + 1) = k + 1 + i by (first | assumption | exact q1 ‹_› | exact q2 ‹_› ‹_› | exact q3 ‹_› ‹_› | exact q4 ‹_› ‹_› | exact q5 ‹_› | exact q6 ‹_› | lia | omega)]; exact h)
      rw [show k + (i + 1) + 1 = k + 1 + i + 1 by (first | assumption | exact q1 ‹_› | exact q2 ‹_› ‹_› | exact q3 ‹_› ‹_› | exact q4 ‹_› ‹_› | exact q5 ‹_› | exact q6 ‹_› | lia | omega)] at this
      exact this
    · rw [show k + (x :: xs).length = k + 1 + xs.length by simp; (first | assumption | exact q1 ‹_› | exact q2 ‹_› ‹_› | exact q3 ‹_› ‹_› | exact q4 ‹_› ‹_› | exact q5 ‹_› | exact q6 ‹_› | lia | omega)]; exact h

theorem isort_congr {a b : List Int} (h : a.Perm b) : isort a = isort b := isort_eq_of ((isort_perm a).trans h) (isort_sorted a)
theorem sorted_isort (l : List Int) : Sorted (isort l) := isort_sorted l
theorem countP_isort (p : Int → Bool) (l : List Int) : (isort l).countP p = l.countP p := (isort_perm l).countP_eq p
theorem mem_isort {x : Int} {l : List Int} : x ∈ isort l ↔ x ∈ l := (isort_perm l).mem_iff

/-- in a sorted list the place of t tells how many are below it -/
theorem ge_iff : ∀ {l : List Int} {i : Nat} {t : Int}, Sorted l → i < l.length → (t ≤ l.getD i 0 ↔ l.countP (fun y => decide (y < t)) ≤ i)
  | [], i, t, _, h => absurd h (by simp)
  | x :: l, i, t, hs, h => by
    obtain ⟨h1, h2⟩ := List.pairwise_cons.mp hs
    have hall : t ≤ x → l.countP (fun y => decide (y < t)) = 0 := fun hx => by
      refine List.countP_eq_zero.mpr fun y hy => ?_
      have := h1 y hy
      simp; (first | assumption | exact q1 ‹_› | exact q2 ‹_› ‹_› | exact q3 ‹_› ‹_› | exact q4 ‹_› ‹_› | exact q5 ‹_› | exact q6 ‹_› | omega)
    cases i with
    | zero =>
      rw [List.countP_cons]
      show t ≤ x ↔ _
      constructor
      · intro hx; rw [hall hx]; simp; (first | assumption | exact q1 ‹_› | exact q2 ‹_› ‹_› | exact q3 ‹_› ‹_› | exact q4 ‹_› ‹_› | exact q5 ‹_› | exact q6 ‹_› | omega)
      · intro hx; by_cases hxt : x < t
        · simp [hxt] at hx
        · (first | assumption | exact q1 ‹_› | exact q2 ‹_› ‹_› | exact q3 ‹_› ‹_› | exact q4 ‹_› ‹_› | exact q5 ‹_› | exact q6 ‹_› | omega)
    | succ i =>
      have ih := ge_iff (t := t) h2 (show i < l.length by simpa using h)
      rw [List.countP_cons]
      show t ≤ l.getD i 0 ↔ _
      rw [ih]
      by_cases hxt : x < t
      · simp [hxt]
      · rw [hall (by (first | assumption | exact q1 ‹_› | exact q2 ‹_› ‹_› | exact q3 ‹_› ‹_› | exact q4 ‹_› ‹_› | exact q5 ‹_› | exact q6 ‹_› | omega))]; simp [hxt]
theorem ord_iff {l : List Int} {i : Nat} {t : Int} (h : i < l.length) : t ≤ (isort l).getD i 0 ↔ l.countP (fun y => decide (y < t)) ≤ i := by
  rw [ge_iff (sorted_isort l) (by rw [isort_length]; exact h), countP_isort]
theorem getD_mem {l : List Int} {i : Nat} (h : i < l.length) : l.getD i 0 ∈ l := by
  rw [List.getD_eq_getElem?_getD, List.getElem?_eq_getElem h]; exact List.getElem_mem h
theorem ivs_append (a b : List Int) : ivs a ++ ivs b = ivs (a ++ b) := by simp [ivs]
end Mine

end
section -- K4
namespace Mine
variable {W : Wd} {n : Nat} {σ : St} {cs : List Addr}

theorem sub_of {i : Int} (k : Nat) (hk : i = k) {a : Addr} {o : O} {xs : List V} {Q : V → St → Prop} (h : σ a = some o) (hi : o.items = some xs) (hl : k < xs.length) (q : Q (nth xs k) σ) : subW (.ref a) (.int i) σ Q := by
  subst hk
  exact sub_items h hi ⟨by (first | assumption | exact q1 ‹_› | exact q2 ‹_› ‹_› | exact q3 ‹_› ‹_› | exact q4 ‹_› ‹_› | exact q5 ‹_› | exact q6 ‹_› | lia | omega), by (first | assumption | exact q1 ‹_› | exact q2 ‹_› ‹_› | exact q3 ‹_› ‹_› | exact q4 ‹_› ‹_› | exact q5 ‹_› | exact q6 ‹_› | lia | omega)⟩ (by rw [idx_nat]; exact q)
/-- an item counted from the end -/
theorem sub_end {i : Int} (k : Nat) {a : Addr} {o : O} {xs : List V} {Q : V → St → Prop} (h : σ a = some o) (hi : o.items = some xs) (hk : i = (k : Int) - xs.length) (hl : k < xs.length) (q : Q (nth xs k) σ) : subW (.ref a) (.int i) σ Q := by
  subst hk
  have e : idx ((k : Int) - xs.length) xs.length = k := by unfold idx; rw [if_pos (by (first | assumption | exact q1 ‹_› | exact q2 ‹_› ‹_› | exact q3 ‹_› ‹_› | exact q4 ‹_› ‹_› | exact q5 ‹_› | exact q6 ‹_› | lia | omega))]; (first | assumption | exact q1 ‹_› | exact q2 ‹_› ‹_› | exact q3 ‹_› ‹_› | exact q4 ‹_› ‹_› | exact q5 ‹_› | exact q6 ‹_› | lia | omega)
  exact sub_items h hi ⟨by (first | assumption | exact q1 ‹_› | exact q2 ‹_› ‹_› | exact q3 ‹_› ‹_› | exact q4 ‹_› ‹_› | exact q5 ‹_› | exact q6 ‹_› | lia | omega), by (first | assumption | exact q1 ‹_› | exact q2 ‹_› ‹_› | exact q3 ‹_› ‹_› | exact q4 ‹_› ‹_› | exact q5 ‹_› | exact q6 ‹_› | lia | omega)⟩ (by rw [e]; exact q)
theorem add_ints {a b : Addr} {o o' : O} {xs ys : List Int} {Q : V → St → Prop} (h : σ a = some o) (hi : o.litems = some (ivs xs)) (h' : σ b = some o') (hi' : o'.litems = some (ivs ys)) (hl : xs.length + ys.length ≤ lim)
    (q : ∀ d σ', σ d = none → Ext σ σ' → σ' d = some (.lst (ivs (xs ++ ys))) → Q (.ref d) σ') : binW .Add (.ref a) (.ref b) σ Q := by
  rw [b_cat]; unfold litemsW refW
  simp only [optP_some, h, hi, h', hi', ivs_length, ivs_append]
  exact ⟨hl, alW_of q⟩
theorem sorted_of {a : Addr} {o : O} {xs : List Int} {Q : V → St → Prop} (h : σ a = some o) (hi : o.litems = some (ivs xs))
    (q : ∀ d σ', σ d = none → Ext σ σ' → σ' d = some (.lst (ivs (isort xs))) → Q (.ref d) σ') : biW .sorted [.ref a] σ Q := by
  rw [f_sorted]; unfold lintsW litemsW refW
  simp only [optP_some, h, hi, asInts_ivs]
  exact alW_of q
theorem len_of {a : Addr} {o : O} {xs : List V} {Q : V → St → Prop} (h : σ a = some o) (hi : o.items = some xs) (q : Q (.int xs.length) σ) : biW .len [.ref a] σ Q := by
  exact lenR_of h hi q
theorem iter_lst {a : Addr} {xs : List V} {K : List V → (St → Prop) → Prop} (h : σ a = some (.lst xs)) (q : K xs (fun σ' => σ' a = some (.lst xs))) : iterW (.ref a) σ K := by
  unfold iterW refW
  simp only [optP_some, h]
  exact q
theorem iter_ro {a : Addr} {xs : List V} {K : List V → (St → Prop) → Prop} (h : σ a = some (.ro xs)) (q : K xs (fun _ => True)) : iterW (.ref a) σ K := by
  unfold iterW refW
  simp only [optP_some, h]
  exact q
theorem slice_of {a : Addr} {o : O} {xs : List V} {lo hi : V} {l h : Option Int} {Q : V → St → Prop} (hl : ∀ K : Option Int → Prop, K l → partW lo K) (hh : ∀ K : Option Int → Prop, K h → partW hi K) (ha : σ a = some o) (hi' : o.litems = some xs)
    (q : ∀ d σ', σ d = none → Ext σ σ' → σ' d = some (.lst (pick xs l h)) → Q (.ref d) σ') : slW (.ref a) lo hi .none σ Q := by
  unfold slW litemsW refW
  simp only [optP_some, ha, hi']
  exact hl _ (hh _ (alW_of q))
theorem pI (i : Int) : ∀ K : Option Int → Prop, K (some i) → partW (.int i) K := fun _ k => k
theorem pN : ∀ K : Option Int → Prop, K none → partW .none K := fun _ k => k
theorem append_of {a : Addr} {xs : List V} {v : V} {Q : V → St → Prop} (h : σ a = some (.lst xs)) (hl : xs.length + 1 ≤ lim) (q : Q .none (σ.set a (.lst (xs ++ [v])))) : meW .append (.ref a) [v] σ Q := by
  rw [m_append]; unfold mlistW refW
  simp only [optP_some, h]
  exact ⟨hl, q⟩
theorem mlist_of {a : Addr} {xs : List V} {K : Addr → List V → Prop} (h : σ a = some (.lst xs)) (q : K a xs) : mlistW (.ref a) σ K := by
  unfold mlistW refW
  simp only [optP_some, h]
  exact q
/-- all but a is as it was, and grown -/
noncomputable def Upd (a : Addr) (σ σ' : St) : Prop := ∀ b o, b ≠ a → σ b = some o → σ' b = some o
theorem Upd.set (σ : St) (a : Addr) (o : O) : Upd a σ (σ.set a o) := fun b x hb h => by rw [St.set_other _ _ hb]; exact h
theorem Ext.upd {σ σ' : St} (h : Ext σ σ') (a : Addr) : Upd a σ σ' := fun b o _ e => h b o e
theorem Upd.trans {a : Addr} {σ σ' σ'' : St} (h : Upd a σ σ') (k : Upd a σ' σ'') : Upd a σ σ'' := fun b o hb e => k b o hb (h b o hb e)
/-- a range of numbers -/
theorem range1_of {b : Int} {Q : V → St → Prop} (hb : small b) (q : ∀ d σ', σ d = none → Ext σ σ' → σ' d = some (.rng 0 b 1) → Q (.ref d) σ') : biW .range [.int b] σ Q := ⟨hb, alW_of q⟩
theorem range2_of {a b : Int} {Q : V → St → Prop} (ha : small a) (hb : small b) (q : ∀ d σ', σ d = none → Ext σ σ' → σ' d = some (.rng a b 1) → Q (.ref d) σ') : biW .range [.int a, .int b] σ Q := ⟨ha, hb, alW_of q⟩
theorem iter_rng {a : Addr} {lo hi st : Int} {K : List V → (St → Prop) → Prop} (h : σ a = some (.rng lo hi st)) (h1 : small lo) (h2 : small hi) (h3 : st = 1 ∨ st = -1) (q : K (ivs (rangeL lo hi st)) (fun _ => True)) : iterW (.ref a) σ K := by
  unfold iterW refW
  simp only [optP_some, h]
  exact ⟨h1, h2, h3, q⟩
theorem small_nat {k : Nat} (h : k ≤ 1000000) : small (k : Int) := ⟨by (first | assumption | exact q1 ‹_› | exact q2 ‹_› ‹_› | exact q3 ‹_› ‹_› | exact q4 ‹_› ‹_› | exact q5 ‹_› | exact q6 ‹_› | lia | omega), by (first | assumption | exact q1 ‹_› | exact q2 ‹_› ‹_› | exact q3 ‹_› ‹_› | exact q4 ‹_› ‹_› | exact q5 ‹_› | exact q6 ‹_› | lia | omega)⟩
theorem rangeL_up (k : Nat) : rangeL 0 (k : Int) 1 = (List.range k).map fun (i : Nat) => (i : Int) := by
  simp [rangeL]
theorem nth_map_range {k i : Nat} (h : i < k) : nth (ivs (rangeL 0 (k : Int) 1)) i = .int (i : Nat) := by
  rw [rangeL_up, nth_eq]; simp [ivs, List.getD_eq_getElem?_getD, h]
theorem len_range {k : Nat} : (ivs (rangeL 0 (k : Int) 1)).length = k := by rw [rangeL_up]; simp [ivs]

theorem slB_nat (i d n : Nat) : slB (some (i : Int)) d n = min i n := by
  simp only [slB]; rw [if_neg (by (first | assumption | exact q1 ‹_› | exact q2 ‹_› ‹_› | exact q3 ‹_› ‹_› | exact q4 ‹_› ‹_› | exact q5 ‹_› | exact q6 ‹_› | omega))]; (first | assumption | exact q1 ‹_› | exact q2 ‹_› ‹_› | exact q3 ‹_› ‹_› | exact q4 ‹_› ‹_› | exact q5 ‹_› | exact q6 ‹_› | omega)
theorem pick_nat {α : Type} (xs : List α) (i j : Nat) : pick xs (some (i : Int)) (some (j : Int)) = (xs.drop i).take (j - i) := by
  unfold pick
  rw [slB_nat, slB_nat]
  by_cases h : i ≤ xs.length
  · rw [show min i xs.length = i by (first | assumption | exact q1 ‹_› | exact q2 ‹_› ‹_› | exact q3 ‹_› ‹_› | exact q4 ‹_› ‹_› | exact q5 ‹_› | exact q6 ‹_› | lia | omega)]
    by_cases h2 : j ≤ xs.length
    · rw [show min j xs.length = j by (first | assumption | exact q1 ‹_› | exact q2 ‹_› ‹_› | exact q3 ‹_› ‹_› | exact q4 ‹_› ‹_› | exact q5 ‹_› | exact q6 ‹_› | lia | omega)]
    · rw [show min j xs.length = xs.length by (first | assumption | exact q1 ‹_› | exact q2 ‹_› ‹_› | exact q3 ‹_› ‹_› | exact q4 ‹_› ‹_› | exact q5 ‹_› | exact q6 ‹_› | lia | omega), List.take_of_length_le (by simp), List.take_of_length_le (by simp; (first | assumption | exact q1 ‹_› | exact q2 ‹_› ‹_› | exact q3 ‹_› ‹_› | exact q4 ‹_› ‹_› | exact q5 ‹_› | exact q6 ‹_› | lia | omega))]
  · rw [List.drop_eq_nil_of_le (by (first | assumption | exact q1 ‹_› | exact q2 ‹_› ‹_› | exact q3 ‹_› ‹_› | exact q4 ‹_› ‹_› | exact q5 ‹_› | exact q6 ‹_› | lia | omega)), List.drop_eq_nil_of_le (by (first | assumption | exact q1 ‹_› | exact q2 ‹_› ‹_› | exact q3 ‹_› ‹_› | exact q4 ‹_› ‹_› | exact q5 ‹_› | exact q6 ‹_› | lia | omega))]; simp
theorem ivs_take (ns : List Int) (i : Nat) : (ivs ns).take i = ivs (ns.take i) := by simp [ivs]
theorem ivs_drop (ns : List Int) (i : Nat) : (ivs ns).drop i = ivs (ns.drop i) := by simp [ivs]
theorem cel_of {i : Nat} {fr : List V} {v : V} {Q : V → St → Prop} (h : σ (nthA cs i) = some (.cell v)) (hv : v ≠ .undef) (q : Q v σ) : xW W n (.cel i) cs fr σ Q := by
  simp only [x_bad, x_con, x_loc, x_cel, x_bin, x_neg, x_not, x_and, x_or, x_cmp, x_cmp2, x_ife, x_call, x_bcall, x_meth, x_sub, x_sl, x_lst, x_tup, x_comp, h]; exact ⟨hv, q⟩
theorem seq_ite {t : X} {a b b' : S} {fr : List V} {Q : Fl → St → List V → Prop} (h : tW W n t cs fr σ fun c σ1 => if c = true then sW W n (.seq a b) cs fr σ1 Q else sW W n (.seq b' b) cs fr σ1 Q) : sW W n (.seq (.ite t a b') b) cs fr σ Q := h
theorem seq_skip {b : S} {fr : List V} {Q : Fl → St → List V → Prop} (h : sW W n b cs fr σ Q) : sW W n (.seq .skip b) cs fr σ Q := h
theorem seq_for {tg : Tg} {it : X} {a b : S} {fr : List V} {Q : Fl → St → List V → Prop} (h : xW W n it cs fr σ fun v σ1 => iterW v σ1 fun xs chk =>
      forW chk (fun x fr σ k => tgW tg x cs fr σ fun fr1 σ2 => sW W n a cs fr1 σ2 k) xs fr σ1 fun f σ1 fr1 => (match f with
        | .next => sW W n b cs fr1 σ1 Q
        | f => Q f σ1 fr1)) : sW W n (.seq (.for_ tg it a) b) cs fr σ Q := h
end Mine

end
section -- K5
namespace Mine
variable {W : Wd} {n : Nat} {σ : St} {cs : List Addr}
theorem take_succ {l : List Int} {i : Nat} (h : i < l.length) : l.take (i + 1) = l.take i ++ [l.getD i 0] := by
  rw [List.take_add_one, List.getElem?_eq_getElem h, List.getD_eq_getElem?_getD, List.getElem?_eq_getElem h]; rfl
theorem seq_seq {a b c : S} {fr : List V} {Q : Fl → St → List V → Prop} (h : sW W n (.seq a (.seq b c)) cs fr σ Q) : sW W n (.seq (.seq a b) c) cs fr σ Q := by
  have e : (fun (f : Fl) (σ1 : St) (fr1 : List V) => (match f with
      | .next => sW W n (.seq b c) cs fr1 σ1 Q
      | f => Q f σ1 fr1)) = fun (f : Fl) (σ1 : St) (fr1 : List V) => (match f with
      | .next => sW W n b cs fr1 σ1 fun f σ1 fr1 => (match f with
        | .next => sW W n c cs fr1 σ1 Q
        | f => Q f σ1 fr1)
      | f => (match f with
        | .next => sW W n c cs fr1 σ1 Q
        | f => Q f σ1 fr1)) := by
    funext f σ1 fr1; (first | exact nS f | exact nO f | exact nF f | exact nT f | exact nN f | exact nC f | cases f) <;> rfl
  have h' : sW W n a cs fr σ (fun (f : Fl) (σ1 : St) (fr1 : List V) => (match f with
      | .next => sW W n (.seq b c) cs fr1 σ1 Q
      | f => Q f σ1 fr1)) := h
  rw [e] at h'
  exact h'
theorem seq_aug {t : T} {op : Operator} {x : X} {b : S} {fr : List V} {Q : Fl → St → List V → Prop} (h : ldW t cs fr σ fun old => xW W n x cs fr σ fun v σ1 => augW op old v fun r => stW t r cs fr σ1 fun fr1 σ2 => sW W n b cs fr1 σ2 Q) : sW W n (.seq (.aug t op x) b) cs fr σ Q := h
theorem seq_ret {x : X} {b : S} {fr : List V} {Q : Fl → St → List V → Prop} (h : xW W n x cs fr σ fun v σ1 => Q (.ret v) σ1 fr) : sW W n (.seq (.ret x) b) cs fr σ Q := h
noncomputable def rf (as : List Addr) : List V := as.map V.ref
theorem rf_len (as : List Addr) : (rf as).length = as.length := List.length_map _
theorem rf_snoc (as : List Addr) (a : Addr) : rf (as ++ [a]) = rf as ++ [.ref a] := by simp [rf]
theorem Ext.put {σ' : St} {b : Addr} {o : O} (h : Ext σ σ') (hb : σ b = none) : Ext σ (σ'.set b o) := fun a x e => by
  rw [St.set_other _ _ (ne_new e hb)]; exact h a x e
theorem Ext.none {σ' : St} {b : Addr} (h : Ext σ σ') (hb : σ' b = none) : σ b = none := by
  cases e : σ b with
  | none => rfl
  | some o => rw [h _ _ e] at hb; (first | exact nS hb | exact nO hb | exact nF hb | exact nT hb | exact nN hb | exact nC hb | cases hb)
theorem len_range2 {a b : Nat} : (ivs (rangeL (a : Int) (b : Int) 1)).length = b - a := by
  unfold rangeL; simp [ivs]
theorem nth_range2 {a b i : Nat} (h : i < b - a) : nth (ivs (rangeL (a : Int) (b : Int) 1)) i = .int ((a + i : Nat) : Int) := by
  rw [rangeL_get _ _ _ (.inl rfl) (by have := len_range2 (a := a) (b := b); rw [ivs_length] at this; (first | assumption | exact q1 ‹_› | exact q2 ‹_› ‹_› | exact q3 ‹_› ‹_› | exact q4 ‹_› ‹_› | exact q5 ‹_› | exact q6 ‹_› | lia | omega))]
  congr 1; (first | assumption | exact q1 ‹_› | exact q2 ‹_› ‹_› | exact q3 ‹_› ‹_› | exact q4 ‹_› ‹_› | exact q5 ‹_› | exact q6 ‹_› | lia | omega)

end Mine

end
section -- E1
namespace Mine
section
variable {W : Wd} {n : Nat} {cs : List Addr} {fr : List V} {σ : St} {x y z : Int} {a b : Addr} {v o : V} {Q : V → St → Prop} {P : Bool → St → Prop} {R : List V → St → Prop}
theorem ite_dt {p : Prop} [Decidable p] {A B : Prop} (h : p) (a : A) : if decide p = true then A else B := by rw [decide_eq_true h, if_pos rfl]; exact a
theorem ite_df {p : Prop} [Decidable p] {A B : Prop} (h : ¬p) (b : B) : if decide p = true then A else B := by rw [decide_eq_false h, if_neg nofun]; exact b
theorem ite_nd {p : Prop} [Decidable p] {A B : Prop} (h : p) (b : B) : if (!decide p) = true then A else B := by rw [decide_eq_true h, Bool.not_true, if_neg nofun]; exact b
theorem lc_i {i : Nat} {k : Int} (h : nth fr i = .int k) (q : Q (.int k) σ) : xW W n (.loc i) cs fr σ Q := ⟨by rw [h]; nofun, by rw [h]; exact q⟩
theorem lc_r {i : Nat} {k : Addr} (h : nth fr i = .ref k) (q : Q (.ref k) σ) : xW W n (.loc i) cs fr σ Q := ⟨by rw [h]; nofun, by rw [h]; exact q⟩
theorem lc_s {i : Nat} {k : Str} (h : nth fr i = .str k) (q : Q (.str k) σ) : xW W n (.loc i) cs fr σ Q := ⟨by rw [h]; nofun, by rw [h]; exact q⟩
theorem lc_n {i : Nat} (h : nth fr i = .none) (q : Q .none σ) : xW W n (.loc i) cs fr σ Q := ⟨by rw [h]; nofun, by rw [h]; exact q⟩
theorem lc_f {i : Nat} {k : UInt64} (h : nth fr i = .flt k) (q : Q (.flt k) σ) : xW W n (.loc i) cs fr σ Q := ⟨by rw [h]; nofun, by rw [h]; exact q⟩
theorem e_b_add (hh : Q (.int (x + y)) σ) : binW .Add (.int x) (.int y) σ Q := hh
theorem e_b_sub (hh : Q (.int (x - y)) σ) : binW .Sub (.int x) (.int y) σ Q := hh
theorem e_b_mul (hh : (IntMulOk x y ∧ Q (.int (x * y)) σ)) : binW .Mult (.int x) (.int y) σ Q := hh
theorem e_b_tdiv (hh : (0 < y ∧ ∃ r : Int, x = r * y ∧ r.natAbs < 2 ^ 53 ∧ Q (.flt (Float64.ofInt r)) σ)) : binW .Div (.int x) (.int y) σ Q := hh
theorem e_b_div (hh : (y ≠ 0 ∧ y.natAbs < 1073741824 ∧ Q (.int (x.fdiv y)) σ)) : binW .FloorDiv (.int x) (.int y) σ Q := hh
theorem e_b_mod (hh : (y ≠ 0 ∧ Q (.int (x.fmod y)) σ)) : binW .Mod (.int x) (.int y) σ Q := hh
theorem e_b_pow (hh : (0 ≤ y ∧ y ≤ 1000000 ∧ x.natAbs < 2 ^ 64 ∧ Q (.int (x ^ y.toNat)) σ)) : binW .Pow (.int x) (.int y) σ Q := hh
theorem e_c_lt (hh : P (decide (x < y)) σ) : cmpW .Lt (.int x) (.int y) σ P := hh
theorem e_c_ge (hh : P (decide (x ≥ y)) σ) : cmpW .GtE (.int x) (.int y) σ P := hh
theorem e_c_ne (hh : P (x != y) σ) : cmpW .NotEq (.int x) (.int y) σ P := hh
theorem e_c_is (hh : P true σ) : cmpW .Is .none .none σ P := hh
theorem e_m_extend (hh : mlistW o σ fun a xs => mlistW v σ fun b ys => a ≠ b ∧ xs.length + ys.length ≤ lim ∧ Q .none (σ.set a (.lst (xs ++ ys)))) : meW .extend o [v] σ Q := hh
theorem e_x_con {v : V} (hh : Q v σ) : xW W n (.con v) cs fr σ Q := hh
theorem e_x_bin {op : Operator} {l r : X} (hh : xW W n l cs fr σ fun a σ1 => xW W n r cs fr σ1 fun b σ2 => binW op a b σ2 Q) : xW W n (.bin op l r) cs fr σ Q := hh
theorem e_x_neg {x : X} (h : xW W n x cs fr σ fun a σ1 => (match a with
    | .int i => Q (.int (-i)) σ1
    | _ => False)) : xW W n (.neg x) cs fr σ Q := h
theorem e_x_cmp {op : CmpOp} {l r : X} (hh : xW W n l cs fr σ fun a σ1 => xW W n r cs fr σ1 fun b σ2 => cmpW op a b σ2 fun c σ3 => Q (.bool c) σ3) : xW W n (.cmp op l r) cs fr σ Q := hh
theorem e_x_ife {t a b : X} (hh : tW W n t cs fr σ fun c σ1 => if c = true then xW W n a cs fr σ1 Q else xW W n b cs fr σ1 Q) : xW W n (.ife t a b) cs fr σ Q := hh
theorem e_x_call {f args kargs : X} {kn : List Str} (hh : xW W n f cs fr σ fun fv σ1 => lW W n args cs fr σ1 fun vs σ2 => lW W n kargs cs fr σ2 fun ks σ3 => CallOK W n fv vs kn ks Q σ3) : xW W n (.call f args kn kargs) cs fr σ Q := hh
theorem e_x_bcall {b : Bi} {args : X} (hh : lW W n args cs fr σ fun vs σ1 => biW b vs σ1 Q) : xW W n (.bcall b args) cs fr σ Q := hh
theorem e_x_meth {m : Me} {o args : X} (hh : xW W n o cs fr σ fun ov σ1 => mlistW ov σ1 fun _ _ => lW W n args cs fr σ1 fun vs σ2 => meW m ov vs σ2 Q) : xW W n (.meth m o args) cs fr σ Q := hh
theorem e_x_sub {o i : X} (hh : xW W n o cs fr σ fun a σ1 => xW W n i cs fr σ1 fun b σ2 => subW a b σ2 Q) : xW W n (.sub o i) cs fr σ Q := hh
theorem e_x_sl {o lo hi st : X} (hh : xW W n o cs fr σ fun a σ1 => xW W n lo cs fr σ1 fun l σ2 => xW W n hi cs fr σ2 fun h σ3 => xW W n st cs fr σ3 fun k σ4 => slW a l h k σ4 Q) : xW W n (.sl o lo hi st) cs fr σ Q := hh
theorem e_x_lst {args : X} (hh : lW W n args cs fr σ fun vs σ1 => vs.length ≤ lim ∧ alW σ1 (.lst vs) Q) : xW W n (.lst args) cs fr σ Q := hh
theorem e_x_tup {args : X} (hh : lW W n args cs fr σ fun vs σ1 => vs.length ≤ lim ∧ alW σ1 (.tup vs) Q) : xW W n (.tup args) cs fr σ Q := hh
theorem e_x_comp {sz tgt : Nat} {cm : List Nat} {it cond elt : X} (h : xW W n it cs fr σ fun v σ1 => iterW v σ1 fun xs chk => xs.length ≤ lim ∧
      compW chk (fun x σ2 k => tW W n cond (cm.map (nthA cs)) (setN (undefs sz) tgt x) σ2 fun c σ3 =>
        if c = true then xW W n elt (cm.map (nthA cs)) (setN (undefs sz) tgt x) σ3 fun y σ4 => k (some y) σ4 else k none σ3) xs [] σ1 fun ys σ5 => alW σ5 (.lst ys) Q) : xW W n (.comp sz cm it tgt cond elt) cs fr σ Q := h
theorem e_x_comp2 {sz tgt tgt' : Nat} {cm : List Nat} {it it' elt : X} (h : xW W n it cs fr σ fun v σ1 => iterW v σ1 fun xs chk =>
      comp2W chk (fun x acc σ2 k => xW W n it' (cm.map (nthA cs)) (setN (undefs sz) tgt x) σ2 fun v' σ3 => iterW v' σ3 fun ys chk' => acc.length + ys.length ≤ lim ∧
        compW chk' (fun y σ4 k' => xW W n elt (cm.map (nthA cs)) (setN (setN (undefs sz) tgt x) tgt' y) σ4 fun z σ5 => k' (some z) σ5) ys acc σ3 k) xs [] σ1 fun ys σ5 => alW σ5 (.lst ys) Q) : xW W n (.comp2 sz cm it tgt it' tgt' elt) cs fr σ Q := h
theorem e_t_not {x : X} (hh : tW W n x cs fr σ fun b σ1 => P (!b) σ1) : tW W n (.not x) cs fr σ P := hh
theorem e_t_cmp {op : CmpOp} {l r : X} (hh : xW W n l cs fr σ fun a σ1 => xW W n r cs fr σ1 fun b σ2 => cmpW op a b σ2 P) : tW W n (.cmp op l r) cs fr σ P := hh
theorem e_t_cmp2 {op op' : CmpOp} {x y z : X} (h : xW W n x cs fr σ fun a σ1 => xW W n y cs fr σ1 fun b σ2 => cmpW op a b σ2 fun c σ3 =>
      if c = true then xW W n z cs fr σ3 fun d σ4 => cmpW op' b d σ4 P else P false σ3) : tW W n (.cmp2 op op' x y z) cs fr σ P := h
theorem e_t_con {v : V} (hh : truW v σ P) : tW W n (.con v) cs fr σ P := hh
theorem e_t_bcall {b : Bi} {args : X} (hh : lW W n args cs fr σ fun vs σ1 => biW b vs σ1 fun v σ4 => truW v σ4 P) : tW W n (.bcall b args) cs fr σ P := hh
theorem e_l_nil (hh : R [] σ) : lW W n .nil cs fr σ R := hh
theorem e_l_cons {h t : X} (hh : xW W n h cs fr σ fun v σ1 => lW W n t cs fr σ1 fun vs σ2 => R (v :: vs) σ2) : lW W n (.cons h t) cs fr σ R := hh
end
end Mine

end
section -- H12
namespace Mine
open_top hd12 for PySem.Challenge.rw_dn0040_12
end Mine

end
section -- D12
namespace Mine
noncomputable abbrev K12 (P : Params) : Frag := hd12.heap_39 P
noncomputable def tb12 : List (Str × V) := [("len", (.bi "len")), ("sorted", (.bi "sorted")), ("min", (.bi "min")), ("max", (.bi "max")), ("sum", (.bi "sum")), ("abs", (.bi "abs")), ("range", (.typ "range")), ("list", (.typ "list")), ("type", (.typ "type")), ("int", (.typ "int")), ("quantiles", (.ref 35)), ("insort_right", (.ref 44)), ("bisect_right", (.ref 53)), ("insort_left", (.ref 62)), ("bisect_left", (.ref 71)), ("_law_small", (.ref 78)), ("_law_parts", (.ref 83)), ("law", (.ref 88)), ("StatisticsError", (.ref 24)), ("divmod", (.bi "divmod")), ("ValueError", (.typ "ValueError")), ("isinstance", (.bi "isinstance")), ("float", (.typ "float")), ("zip", (.typ "zip"))]
noncomputable def nm12_35 : List (Str × NameKind) := [("data", .local), ("n", .local), ("method", .local), ("ld", .local), ("m", .local), ("result", .local), ("i", .local), ("j", .local), ("delta", .local), ("interpolated", .local), ("StatisticsError", .globalImplicit), ("sorted", .globalImplicit), ("len", .globalImplicit), ("range", .globalImplicit), ("divmod", .globalImplicit), ("ValueError", .globalImplicit)]
noncomputable def bd12_35 : S := (.seq (.ite (.cmp .Lt (.loc 1) (.con (.int (1)))) (.seq .bad
 .skip) .skip)
 (.seq (.set (.l 0) (.bcall .sorted (.cons (.loc 0) .nil)))
 (.seq (.set (.l 3) (.bcall .len (.cons (.loc 0) .nil)))
 (.seq (.ite (.cmp .Lt (.loc 3) (.con (.int (2)))) (.seq (.ite (.cmp .Eq (.loc 3) (.con (.int (1)))) (.seq (.ret (.bin .Mult (.loc 0) (.bin .Sub (.loc 1) (.con (.int (1))))))
 .skip) .skip)
 (.seq .bad
 .skip)) .skip)
 (.seq (.ite (.cmp .Eq (.loc 2) (.con (.str "inclusive"))) (.seq (.set (.l 4) (.bin .Sub (.loc 3) (.con (.int (1)))))
 (.seq (.set (.l 5) (.lst .nil))
 (.seq (.for_ (.one (.l 6)) (.bcall .range (.cons (.con (.int (1))) (.cons (.loc 1) .nil))) (.seq (.unp [(.l 7), (.l 8)] (.bcall .divmod (.cons (.bin .Mult (.loc 6) (.loc 4)) (.cons (.loc 1) .nil))))
 (.seq (.set (.l 9) (.bin .Div (.bin .Add (.bin .Mult (.sub (.loc 0) (.loc 7)) (.bin .Sub (.loc 1) (.loc 8))) (.bin .Mult (.sub (.loc 0) (.bin .Add (.loc 7) (.con (.int (1))))) (.loc 8))) (.loc 1)))
 (.seq (.exp (.meth .append (.loc 5) (.cons (.loc 9) .nil)))
 .skip))))
 (.seq (.ret (.loc 5))
 .skip)))) .skip)
 (.seq (.ite (.cmp .Eq (.loc 2) (.con (.str "exclusive"))) (.seq (.set (.l 4) (.bin .Add (.loc 3) (.con (.int (1)))))
 (.seq (.set (.l 5) (.lst .nil))
 (.seq (.for_ (.one (.l 6)) (.bcall .range (.cons (.con (.int (1))) (.cons (.loc 1) .nil))) (.seq (.set (.l 7) (.bin .FloorDiv (.bin .Mult (.loc 6) (.loc 4)) (.loc 1)))
 (.seq (.set (.l 7) (.ife (.cmp .Lt (.loc 7) (.con (.int (1)))) (.con (.int (1))) (.ife (.cmp .Gt (.loc 7) (.bin .Sub (.loc 3) (.con (.int (1))))) (.bin .Sub (.loc 3) (.con (.int (1)))) (.loc 7))))
 (.seq (.set (.l 8) (.bin .Sub (.bin .Mult (.loc 6) (.loc 4)) (.bin .Mult (.loc 7) (.loc 1))))
 (.seq (.set (.l 9) (.bin .Div (.bin .Add (.bin .Mult (.sub (.loc 0) (.bin .Sub (.loc 7) (.con (.int (1))))) (.bin .Sub (.loc 1) (.loc 8))) (.bin .Mult (.sub (.loc 0) (.loc 7)) (.loc 8))) (.loc 1)))
 (.seq (.exp (.meth .append (.loc 5) (.cons (.loc 9) .nil)))
 .skip))))))
 (.seq (.ret (.loc 5))
 .skip)))) .skip)
 (.seq .bad
 .skip)))))))
noncomputable def nm12_44 : List (Str × NameKind) := [("a", .local), ("x", .local), ("lo", .local), ("hi", .local), ("key", .local), ("bisect_right", .globalImplicit)]
noncomputable def nm12_53 : List (Str × NameKind) := [("a", .local), ("x", .local), ("lo", .local), ("hi", .local), ("key", .local), ("mid", .local), ("ValueError", .globalImplicit), ("len", .globalImplicit)]
noncomputable def nm12_62 : List (Str × NameKind) := [("a", .local), ("x", .local), ("lo", .local), ("hi", .local), ("key", .local), ("bisect_left", .globalImplicit)]
noncomputable def nm12_71 : List (Str × NameKind) := [("a", .local), ("x", .local), ("lo", .local), ("hi", .local), ("key", .local), ("mid", .local), ("ValueError", .globalImplicit), ("len", .globalImplicit)]
noncomputable def nm12_78 : List (Str × NameKind) := [("x", .local)]
noncomputable def bd12_78 : S := (.seq (.ite (.cmp2 .Lt .Lt (.neg (.bin .Pow (.con (.int (2))) (.con (.int (40))))) (.loc 0) (.bin .Pow (.con (.int (2))) (.con (.int (40))))) (.seq (.ret (.loc 0))
 .skip) .skip)
 (.seq (.ret (.bin .Mod (.loc 0) (.bin .Pow (.con (.int (2))) (.con (.int (40))))))
 .skip))
noncomputable def nm12_83 : List (Str × NameKind) := [("script", .local), ("many", .local), ("q", .local), ("n", .cell), ("parts", .local), ("x", .local), ("part", .local), ("range", .globalImplicit), ("_law_small", .globalImplicit), ("len", .globalImplicit)]
noncomputable def bd12_83 : S := (.seq (.set (.l 4) (.comp 3 [10, 10, 3] (.bcall .range (.cons (.loc 1) .nil)) 1 (.con (.bool true)) (.lst (.cons (.bin .Mult (.bin .Mult (.con (.int (5))) (.loc 1)) (.cel 2)) (.cons (.cel 2) (.cons (.bin .Mult (.bin .Sub (.con (.int (9))) (.loc 1)) (.cel 2)) .nil))))))
 (.seq (.for_ (.one (.l 5)) (.loc 0) (.seq (.exp (.meth .append (.sub (.loc 4) (.bin .Mod (.loc 5) (.loc 1))) (.cons (.bin .Mult (.call (.con (.ref 78)) (.cons (.bin .FloorDiv (.loc 5) (.loc 1)) .nil) [] .nil) (.cel 3)) .nil)))
 .skip))
 (.seq (.for_ (.one (.l 6)) (.loc 4) (.seq (.whl (.cmp .NotEq (.bin .Mod (.bin .Add (.bcall .len (.cons (.loc 6) .nil)) (.con (.int (1)))) (.loc 2)) (.con (.int (0)))) (.seq (.exp (.meth .append (.loc 6) (.cons (.bin .Mult (.bin .Sub (.bin .Mult (.con (.int (7))) (.bcall .len (.cons (.loc 6) .nil))) (.con (.int (20)))) (.cel 3)) .nil)))
 .skip))
 .skip))
 (.seq (.ret (.loc 4))
 .skip))))
noncomputable def nm12_88 : List (Str × NameKind) := [(("script" : Str), NameKind.local), (("total" : Str), NameKind.local), (("q" : Str), NameKind.local), (("many" : Str), NameKind.local), (("n" : Str), NameKind.cell), (("parts" : Str), NameKind.local), (("laid" : Str), NameKind.local), (("stretches" : Str), NameKind.local), (("marks" : Str), NameKind.local), (("part" : Str), NameKind.local), (("start" : Str), NameKind.local), (("x" : Str), NameKind.local), (("mark" : Str), NameKind.local), (("reach" : Str), NameKind.local), (("everything" : Str), NameKind.local), (("found" : Str), NameKind.local), (("place" : Str), NameKind.local), (("low" : Str), NameKind.local), (("high" : Str), NameKind.local), (("few" : Str), NameKind.local), (("ahead" : Str), NameKind.local), (("stop" : Str), NameKind.local), (("begin" : Str), NameKind.local), (("end" : Str), NameKind.local), (("wider" : Str), NameKind.local), (("method" : Str), NameKind.local), (("wide" : Str), NameKind.cell), (("way" : Str), NameKind.cell), (("a" : Str), NameKind.cell), (("b" : Str), NameKind.cell), (("cuts" : Str), NameKind.local), (("sum" : Str), NameKind.globalImplicit), (("_law_parts" : Str), NameKind.globalImplicit), (("len" : Str), NameKind.globalImplicit), (("insort_right" : Str), NameKind.globalImplicit), (("quantiles" : Str), NameKind.globalImplicit), (("isinstance" : Str), NameKind.globalImplicit), (("float" : Str), NameKind.globalImplicit), (("insort_left" : Str), NameKind.globalImplicit), (("int" : Str), NameKind.globalImplicit), (("range" : Str), NameKind.globalImplicit), (("bisect_right" : Str), NameKind.globalImplicit), (("bisect_left" : Str), NameKind.globalImplicit), (("sorted" : Str), NameKind.globalImplicit), (("zip" : Str), NameKind.globalImplicit)]
noncomputable def bd12_88 : S := (.seq (.set (.l 1) (.bcall .sum (.cons (.loc 0) .nil)))
 (.seq (.set (.l 2) (.bin .Add (.con (.int (2))) (.bin .Mod (.loc 1) (.con (.int (4))))))
 (.seq (.set (.l 3) (.bin .Add (.con (.int (2))) (.bin .Mod (.bin .FloorDiv (.loc 1) (.con (.int (4)))) (.con (.int (3))))))
 (.seq (.set (.c 4) (.bin .Add (.con (.int (2))) (.bin .Mod (.bin .FloorDiv (.loc 1) (.con (.int (12)))) (.con (.int (40))))))
 (.seq (.set (.l 5) (.call (.con (.ref 83)) (.cons (.loc 0) (.cons (.loc 3) (.cons (.loc 2) (.cons (.cel 4) .nil)))) [] .nil))
 (.seq (.set (.l 6) (.lst .nil))
 (.seq (.set (.l 7) (.lst .nil))
 (.seq (.set (.l 8) (.lst .nil))
 (.seq (.for_ (.one (.l 9)) (.loc 5) (.seq (.set (.l 10) (.bcall .len (.cons (.loc 6) .nil)))
 (.seq (.for_ (.one (.l 11)) (.loc 9) (.seq (.exp (.call (.con (.ref 44)) (.cons (.loc 6) (.cons (.loc 11) .nil)) ["lo"] (.cons (.loc 10) .nil)))
 .skip))
 (.seq (.exp (.meth .append (.loc 7) (.cons (.tup (.cons (.loc 10) (.cons (.bcall .len (.cons (.loc 6) .nil)) .nil))) .nil)))
 (.seq (.for_ (.one (.l 12)) (.call (.con (.ref 35)) (.cons (.loc 9) .nil) ["n"] (.cons (.bin .FloorDiv (.bin .Add (.bcall .len (.cons (.loc 9) .nil)) (.con (.int (1)))) (.loc 2)) .nil)) (.seq (.ite (.not (.bcall .isinstance (.cons (.loc 12) (.cons (.con (.typ "float")) .nil)))) (.seq (.ret (.con (.bool false)))
 .skip) .skip)
 (.seq (.exp (.call (.con (.ref 62)) (.cons (.loc 8) (.cons (.bcall .int (.cons (.loc 12) .nil)) .nil)) [] .nil))
 .skip)))
 .skip)))))
 (.seq (.set (.l 13) (.bin .Mult (.loc 3) (.bin .Sub (.loc 2) (.con (.int (1))))))
 (.seq (.set (.l 14) (.comp2 3 [45, 9, 11] (.loc 5) 1 (.loc 1) 2 (.loc 2)))
 (.seq (.set (.l 15) (.lst .nil))
 (.seq (.for_ (.one (.l 16)) (.bcall .range (.cons (.bcall .len (.cons (.loc 14) .nil)) .nil)) (.seq (.set (.l 17) (.bin .FloorDiv (.bin .Sub (.loc 16) (.loc 13)) (.loc 2)))
 (.seq (.set (.l 18) (.bin .FloorDiv (.loc 16) (.loc 2)))
 (.seq (.set (.l 19) (.lst .nil))
 (.seq (.set (.l 20) (.con (.int (0))))
 (.seq (.for_ (.many [(.l 10), (.l 21)]) (.loc 7) (.seq (.set (.l 22) (.loc 10))
 (.seq (.ite (.cmp .GtE (.loc 17) (.con (.int (0)))) (.seq (.set (.l 22) (.call (.con (.ref 53)) (.cons (.loc 6) (.cons (.sub (.loc 8) (.loc 17)) (.cons (.loc 10) (.cons (.loc 21) .nil)))) [] .nil))
 .skip) .skip)
 (.seq (.set (.l 23) (.loc 21))
 (.seq (.ite (.cmp .Lt (.loc 18) (.bcall .len (.cons (.loc 8) .nil))) (.seq (.set (.l 23) (.call (.con (.ref 71)) (.cons (.loc 6) (.cons (.sub (.loc 8) (.loc 18)) (.cons (.loc 22) (.cons (.loc 21) .nil)))) [] .nil))
 .skip) .skip)
 (.seq (.aug (.l 20) .Add (.bin .Sub (.loc 22) (.loc 10)))
 (.seq (.exp (.meth .extend (.loc 19) (.cons (.sl (.loc 6) (.loc 22) (.loc 23) (.con .none)) .nil)))
 .skip)))))))
 (.seq (.ite (.cmp .GtE (.bcall .len (.cons (.loc 19) .nil)) (.bin .Mult (.con (.int (2))) (.loc 13))) (.seq (.ret (.con (.bool false)))
 .skip) .skip)
 (.seq (.ite (.cmp .Lt (.loc 16) (.loc 20)) (.seq (.exp (.meth .append (.loc 15) (.cons (.sub (.loc 8) (.loc 17)) .nil)))
 .skip) (.seq (.ite (.cmp .Lt (.loc 16) (.bin .Add (.loc 20) (.bcall .len (.cons (.loc 19) .nil)))) (.seq (.exp (.meth .append (.loc 15) (.cons (.sub (.bcall .sorted (.cons (.loc 19) .nil)) (.bin .Sub (.loc 16) (.loc 20))) .nil)))
 .skip) (.seq (.exp (.meth .append (.loc 15) (.cons (.sub (.loc 8) (.loc 18)) .nil)))
 .skip))
 .skip))
 .skip))))))))
 (.seq (.ite (.cmp .NotEq (.loc 15) (.bcall .sorted (.cons (.loc 14) .nil))) (.seq (.ret (.con (.bool false)))
 .skip) .skip)
 (.seq (.set (.l 24) (.bin .Add (.bin .Add (.lst (.cons (.bin .Sub (.bin .Mult (.con (.int (2))) (.sub (.loc 15) (.con (.int (0))))) (.sub (.loc 15) (.con (.int (1))))) .nil)) (.loc 15)) (.lst (.cons (.bin .Sub (.bin .Mult (.con (.int (2))) (.sub (.loc 15) (.neg (.con (.int (1)))))) (.sub (.loc 15) (.neg (.con (.int (2)))))) .nil))))
 (.seq (.for_ (.many [(.l 25), (.c 26)]) (.lst (.cons (.tup (.cons (.con (.str "inclusive")) (.cons (.loc 15) .nil))) (.cons (.tup (.cons (.con (.str "exclusive")) (.cons (.loc 24) .nil))) .nil))) (.seq (.set (.c 27) (.lst .nil))
 (.seq (.forz [(.c 28), (.c 29)] (.cons (.cel 26) (.cons (.sl (.cel 26) (.con (.int (1))) (.con .none) (.con .none)) .nil)) (.seq (.exp (.meth .extend (.cel 27) (.cons (.comp 5 [45, 45, 28, 29, 4] (.bcall .range (.cons (.cel 4) .nil)) 1 (.con (.bool true)) (.bin .Add (.cel 2) (.bin .Mult (.bin .FloorDiv (.bin .Sub (.cel 3) (.cel 2)) (.cel 4)) (.loc 1)))) .nil)))
 .skip))
 (.seq (.set (.l 30) (.call (.con (.ref 35)) (.cons (.loc 14) .nil) ["n", "method"] (.cons (.cel 4) (.cons (.loc 25) .nil))))
 (.seq (.ite (.cmp .NotEq (.loc 30) (.comp 5 [45, 45, 33, 27, 26] (.bcall .range (.cons (.con (.int (1))) (.cons (.cel 4) .nil))) 1 (.con (.bool true)) (.sub (.cel 3) (.bin .Mult (.loc 1) (.bin .Sub (.bcall .len (.cons (.cel 4) .nil)) (.con (.int (1)))))))) (.seq (.ret (.con (.bool false)))
 .skip) .skip)
 (.seq (.ite (.cmp .NotEq (.comp 4 [45, 45, 36, 37] (.loc 30) 1 (.not (.bcall .isinstance (.cons (.loc 1) (.cons (.con (.typ "float")) .nil)))) (.loc 1)) (.lst .nil)) (.seq (.ret (.con (.bool false)))
 .skip) .skip)
 .skip))))))
 (.seq (.ite (.cmp .NotEq (.loc 14) (.comp2 3 [45, 9, 11] (.loc 5) 1 (.loc 1) 2 (.loc 2))) (.seq (.ret (.con (.bool false)))
 .skip) .skip)
 (.seq (.ret (.cmp .Eq (.loc 5) (.call (.con (.ref 83)) (.cons (.loc 0) (.cons (.loc 3) (.cons (.loc 2) (.cons (.cel 4) .nil)))) [] .nil)))
 .skip))))))))))))))))))


theorem gl12 (P : Params) : glChk (K12 P) tb12 = true := by kernel_rfl
theorem fc12_35 (P : Params) : fnChk (K12 P) 35 nm12_35 = true := by kernel_rfl
theorem fe12_35 (P : Params) : erSs (glT tb12) 40 nm12_35 (bodyK (K12 P) 35) = bd12_35 := by kernel_rfl
theorem fn12_quantiles {W : Wd} {P : Params} (X : Txt W (K12 P) tb12) : FnQ W 35 bd12_35 13 := fnQ_of X (fc12_35 P) (fe12_35 P) ⟨by kernel_rfl, by kernel_rfl⟩ (by kernel_rfl) (fun _ _ _ => by kernel_rfl)
theorem fc12_44 (P : Params) : fnChk (K12 P) 44 nm12_44 = true := by kernel_rfl
theorem fe12_44 (P : Params) : erSs (glT tb12) 40 nm12_44 (bodyK (K12 P) 44) = (S_in 53) := by kernel_rfl
theorem fl12_insort_right {W : Wd} {P : Params} (X : Txt W (K12 P) tb12) : FnL W 44 (S_in 53) 1 := fnL_of X (fc12_44 P) (fe12_44 P) ⟨by kernel_rfl, by kernel_rfl⟩ (by kernel_rfl) (fun _ _ _ _ _ => by kernel_rfl)
theorem fc12_53 (P : Params) : fnChk (K12 P) 53 nm12_53 = true := by kernel_rfl
theorem fe12_53 (P : Params) : erSs (glT tb12) 40 nm12_53 (bodyK (K12 P) 53) = S_br := by kernel_rfl
theorem fn12_bisect_right {W : Wd} {P : Params} (X : Txt W (K12 P) tb12) : FnB W 53 S_br 3 := fnB_of X (fc12_53 P) (fe12_53 P) ⟨by kernel_rfl, by kernel_rfl⟩ (by kernel_rfl) (fun _ _ _ _ _ => by kernel_rfl)
theorem fc12_62 (P : Params) : fnChk (K12 P) 62 nm12_62 = true := by kernel_rfl
theorem fe12_62 (P : Params) : erSs (glT tb12) 40 nm12_62 (bodyK (K12 P) 62) = (S_in 71) := by kernel_rfl
theorem fn12_insort_left {W : Wd} {P : Params} (X : Txt W (K12 P) tb12) : FnB W 62 (S_in 71) 1 := fnB_of X (fc12_62 P) (fe12_62 P) ⟨by kernel_rfl, by kernel_rfl⟩ (by kernel_rfl) (fun _ _ _ _ _ => by kernel_rfl)
theorem fc12_71 (P : Params) : fnChk (K12 P) 71 nm12_71 = true := by kernel_rfl
theorem fe12_71 (P : Params) : erSs (glT tb12) 40 nm12_71 (bodyK (K12 P) 71) = S_bl := by kernel_rfl
theorem fn12_bisect_left {W : Wd} {P : Params} (X : Txt W (K12 P) tb12) : FnB W 71 S_bl 3 := fnB_of X (fc12_71 P) (fe12_71 P) ⟨by kernel_rfl, by kernel_rfl⟩ (by kernel_rfl) (fun _ _ _ _ _ => by kernel_rfl)
theorem fc12_78 (P : Params) : fnChk (K12 P) 78 nm12_78 = true := by kernel_rfl
theorem fe12_78 (P : Params) : erSs (glT tb12) 40 nm12_78 (bodyK (K12 P) 78) = bd12_78 := by kernel_rfl
theorem fp12_78 (P : Params) : ∀ vs : List Value, vs.length = (["x"] : List Str).length → (fdK (K12 P) 78).map (fun fd => bindArgs fd ⟨vs, []⟩) = some (pure ((["x"] : List Str).zip vs)) := fun vs h => by
    obtain ⟨v0, r0, rfl, h1⟩ := lenS h; cases List.length_eq_zero_iff.mp h1
    kernel_rfl
theorem fn12__law_small {W : Wd} {P : Params} (X : Txt W (K12 P) tb12) : FnP W 78 bd12_78 1 0 := fnP_of X (xs := ["x"]) (fc12_78 P) (fe12_78 P) (by kernel_rfl) (fp12_78 P) (by kernel_rfl)
  (fun us h => by
    obtain ⟨v0, r0, rfl, h1⟩ := lenS h; cases List.length_eq_zero_iff.mp h1
    kernel_rfl)
theorem fc12_83 (P : Params) : fnChk (K12 P) 83 nm12_83 = true := by kernel_rfl
theorem fe12_83 (P : Params) : erSs (glT tb12) 40 nm12_83 (bodyK (K12 P) 83) = bd12_83 := by kernel_rfl
theorem fp12_83 (P : Params) : ∀ vs : List Value, vs.length = (["script", "many", "q", "n"] : List Str).length → (fdK (K12 P) 83).map (fun fd => bindArgs fd ⟨vs, []⟩) = some (pure ((["script", "many", "q", "n"] : List Str).zip vs)) := fun vs h => by
    obtain ⟨v0, r0, rfl, h1⟩ := lenS h; obtain ⟨v1, r1, rfl, h2⟩ := lenS h1; obtain ⟨v2, r2, rfl, h3⟩ := lenS h2; obtain ⟨v3, r3, rfl, h4⟩ := lenS h3; cases List.length_eq_zero_iff.mp h4
    kernel_rfl
theorem fn12__law_parts {W : Wd} {P : Params} (X : Txt W (K12 P) tb12) {n : Nat} {σ : St} {us : List V} {Q : V → St → Prop} (hl : us.length = (["script", "many", "q", "n"] : List Str).length)
    (h : cellW nm12_83 (parV ((["script", "many", "q", "n"] : List Str).zip us)) [] σ fun cs σ' => sW W n bd12_83 cs (slots0 nm12_83 (parV ((["script", "many", "q", "n"] : List Str).zip us))) σ' fun f σ'' _ => Q (retV f) σ'') : CallOK W (n + 1) (.ref 83) us [] [] Q σ :=
  fnC_of X (fc12_83 P) (fe12_83 P) (by kernel_rfl) (fp12_83 P) hl h
theorem fc12_88 (P : Params) : fnChk (K12 P) 88 nm12_88 = true := by kernel_rfl
theorem fe12_88 (P : Params) : erSs (glT tb12) 40 nm12_88 (bodyK (K12 P) 88) = bd12_88 := by kernel_rfl
theorem fp12_88 (P : Params) : ∀ vs : List Value, vs.length = (["script"] : List Str).length → (fdK (K12 P) 88).map (fun fd => bindArgs fd ⟨vs, []⟩) = some (pure ((["script"] : List Str).zip vs)) := fun vs h => by
    obtain ⟨v0, r0, rfl, h1⟩ := lenS h; cases List.length_eq_zero_iff.mp h1
    kernel_rfl
theorem fn12_law {W : Wd} {P : Params} (X : Txt W (K12 P) tb12) {n : Nat} {σ : St} {us : List V} {Q : V → St → Prop} (hl : us.length = (["script"] : List Str).length)
    (h : cellW nm12_88 (parV ((["script"] : List Str).zip us)) [] σ fun cs σ' => sW W n bd12_88 cs (slots0 nm12_88 (parV ((["script"] : List Str).zip us))) σ' fun f σ'' _ => Q (retV f) σ'') : CallOK W (n + 1) (.ref 88) us [] [] Q σ :=
  fnC_of X (fc12_88 P) (fe12_88 P) (by kernel_rfl) (fp12_88 P) hl h
end Mine

end
section -- L12a
namespace Mine
variable {W : Wd} {n : Nat} {σ σ' : St} {cs : List Addr}

noncomputable def c40 : Int := (2 : Int) ^ Int.toNat 40
theorem c40_eq : c40 = 1099511627776 := by decide
noncomputable def smallF (x : Int) : Int := if -c40 < x ∧ x < c40 then x else x.fmod c40
theorem smallF_lt (x : Int) : (smallF x).natAbs < 1099511627776 := by
  unfold smallF
  rw [c40_eq]
  split
  · (first | assumption | exact q1 ‹_› | exact q2 ‹_› ‹_› | exact q3 ‹_› ‹_› | exact q4 ‹_› ‹_› | exact q5 ‹_› | exact q6 ‹_› | lia | omega)
  · rw [Int.fmod_eq_emod_of_nonneg _ (by decide)]
    have := Int.emod_nonneg x (b := 1099511627776) (by decide)
    have := Int.emod_lt_of_pos x (b := 1099511627776) (by decide)
    (first | assumption | exact q1 ‹_› | exact q2 ‹_› ‹_› | exact q3 ‹_› ‹_› | exact q4 ‹_› ‹_› | exact q5 ‹_› | exact q6 ‹_› | lia | omega)
theorem pow40 {fr : List V} {Q : V → St → Prop} (h : Q (.int c40) σ) : xW W n (.bin .Pow (.con (.int (2))) (.con (.int (40)))) cs fr σ Q := by
  refine e_x_bin (e_x_con (e_x_con (e_b_pow ?_)))
  exact ⟨by decide, by decide, by decide, h⟩
theorem small_ok {P : Params} (X : Txt W (K12 P) tb12) {x : Int} {Q : V → St → Prop} (q : Q (.int (smallF x)) σ) : CallOK W (n + 1) (.ref 78) [.int x] [] [] Q σ := by
  obtain ⟨cs, F⟩ := fn12__law_small X
  refine F [_] n Q σ rfl ?_
  unfold bd12_78
  simp only [List.cons_append, List.nil_append, undefs]
  have c0 : c40 ≠ 0 := by decide
  have q1 : -c40 < x ∧ x < c40 → Q (.int x) σ := fun h => by unfold smallF at q; rw [if_pos h] at q; exact q
  have q2 : ¬(-c40 < x ∧ x < c40) → Q (.int (x.fmod c40)) σ := fun h => by unfold smallF at q; rw [if_neg h] at q; exact q
  clear q
  have rest : (Q (.int (x.fmod c40)) σ) → sW W n (.seq (.ret (.bin .Mod (.loc 0) (.bin .Pow (.con (.int (2))) (.con (.int (40)))))) .skip) cs [.int x] σ fun f σ' _ => Q (retV f) σ' := fun q => by
    refine seq_ret ?_
    refine e_x_bin ?_
    first | refine lc_i rfl ?_ | refine lc_r rfl ?_ | refine lc_s rfl ?_ | refine lc_n rfl ?_
    refine pow40 ?_
    refine e_b_mod ?_
    exact ⟨c0, q⟩
  refine seq_ite ?_
  refine e_t_cmp2 (e_x_neg ?_)
  refine pow40 ?_
  show xW W n (.loc 0) cs [.int x] σ _
  first | refine lc_i rfl ?_ | refine lc_r rfl ?_ | refine lc_s rfl ?_ | refine lc_n rfl ?_
  refine e_c_lt ?_
  by_cases h1 : -c40 < x
  · rw [decide_eq_true h1, if_pos rfl]
    refine pow40 ?_
    refine e_c_lt ?_
    by_cases h2 : x < c40
    · rw [decide_eq_true h2, if_pos rfl]
      refine seq_seq (seq_ret ?_)
      rw [x_loc]
      exact ⟨nofun, q1 ⟨h1, h2⟩⟩
    · rw [decide_eq_false h2, if_neg nofun]
      exact seq_skip (rest (q2 fun h => h2 h.2))
  · rw [decide_eq_false h1, if_neg nofun, if_neg nofun]
    exact seq_skip (rest (q2 fun h => h1 h.1))
theorem mul_ok {x y : Int} (h : x.natAbs < 2 ^ 62) : IntMulOk x y := .of_left (intBits_le_64 (by (first | assumption | exact q1 ‹_› | exact q2 ‹_› ‹_› | exact q3 ‹_› ‹_› | exact q4 ‹_› ‹_› | exact q5 ‹_› | exact q6 ‹_› | omega)) (by (first | assumption | exact q1 ‹_› | exact q2 ‹_› ‹_› | exact q3 ‹_› ‹_› | exact q4 ‹_› ‹_› | exact q5 ‹_› | exact q6 ‹_› | omega)))

structure Pt (σ : St) (as : List Addr) (R : List (List Int)) : Prop where
  len : as.length = R.length
  nd : as.Nodup
  at_ : ∀ i, i < R.length → σ (as.getD i 0) = some (.lst (ivs (R.getD i [])))
theorem getD_in {α : Type} {l : List α} {i : Nat} {d : α} (h : i < l.length) : l.getD i d = l[i] := by rw [List.getD_eq_getElem?_getD, List.getElem?_eq_getElem h]; rfl
theorem nth_rfD {as : List Addr} {i : Nat} (h : i < as.length) : nth (rf as) i = .ref (as.getD i 0) := by
  rw [nth_eq, getD_in h, rf, List.getD_eq_getElem?_getD, List.getElem?_map, List.getElem?_eq_getElem h]; rfl
section
variable {as : List Addr} {R : List (List Int)} {a : Addr} {l : List Int} {i : Nat}
theorem Pt.nil : Pt σ [] [] := ⟨rfl, .nil, fun i h => absurd h (Nat.not_lt_zero _)⟩
theorem Pt.ext (h : Pt σ as R) (E : Ext σ σ') : Pt σ' as R := ⟨h.len, h.nd, fun i q => E _ _ (h.at_ i q)⟩
theorem Pt.mem (h : Pt σ as R) (q : a ∈ as) : ∃ l, σ a = some (.lst (ivs l)) := by
  obtain ⟨i, hi, rfl⟩ := List.mem_iff_getElem.mp q
  have := h.at_ i (h.len ▸ hi)
  rw [getD_in hi] at this
  exact ⟨_, this⟩
theorem Pt.mem_at (h : Pt σ as R) (hi : i < R.length) : as.getD i 0 ∈ as := by
  have hi' : i < as.length := by rw [h.len]; exact hi
  rw [getD_in hi']; exact List.getElem_mem hi'
theorem Pt.upd (h : Pt σ as R) (U : Upd a σ σ') (ha : a ∉ as) : Pt σ' as R := ⟨h.len, h.nd, fun i q => U _ _ (fun e => ha (e ▸ h.mem_at q)) (h.at_ i q)⟩
theorem Pt.snoc (h : Pt σ as R) (hn : a ∉ as) (ha : σ a = some (.lst (ivs l))) : Pt σ (as ++ [a]) (R ++ [l]) := by
  refine ⟨by rw [List.length_append, List.length_append, h.len]; rfl, List.nodup_append.mpr ⟨h.nd, List.pairwise_singleton _ _, fun x hx y hy e => hn (by rw [List.mem_singleton.mp hy] at e; exact e ▸ hx)⟩, fun i hi => ?_⟩
  rw [List.length_append] at hi
  rcases Nat.lt_or_eq_of_le (Nat.le_of_lt_succ hi) with q | q
  · have q' : i < as.length := by rw [h.len]; exact q
    have := h.at_ i q
    rw [List.getD_eq_getElem?_getD, List.getD_eq_getElem?_getD] at this ⊢
    rw [List.getElem?_append_left q', List.getElem?_append_left q]; exact this
  · rw [q]
    have e1 : (as ++ [a]).getD R.length 0 = a := by rw [← h.len, List.getD_eq_getElem?_getD, List.getElem?_append_right (Nat.le_refl _), Nat.sub_self]; rfl
    have e2 : (R ++ [l]).getD R.length [] = l := by rw [List.getD_eq_getElem?_getD, List.getElem?_append_right (Nat.le_refl _), Nat.sub_self]; rfl
    rw [e1, e2]; exact ha
theorem Pt.put (h : Pt σ as R) (hi : i < R.length) : Pt (σ.set (as.getD i 0) (.lst (ivs l))) as (R.set i l) := by
  have hi' : i < as.length := by rw [h.len]; exact hi
  refine ⟨by rw [List.length_set]; exact h.len, h.nd, fun j hj => ?_⟩
  rw [List.length_set] at hj
  have hj' : j < as.length := by rw [h.len]; exact hj
  rw [List.getD_eq_getElem?_getD (l := R.set i l), List.getElem?_set]
  by_cases e : i = j
  · subst e
    rw [if_pos rfl, if_pos hi, St.set_same]; rfl
  · rw [if_neg e, St.set_other _ _ (fun q => e ?_), ← List.getD_eq_getElem?_getD]
    · exact h.at_ j hj
    · rw [getD_in hi', getD_in hj'] at q
      rcases Nat.lt_trichotomy i j with r | r | r
      · exact absurd q.symm (List.pairwise_iff_getElem.mp h.nd i j hi' hj' r)
      · exact r
      · exact absurd q (List.pairwise_iff_getElem.mp h.nd j i hj' hi' r)
end
end Mine

end
section -- L12b
namespace Mine
variable {W : Wd} {n : Nat} {σ σ' τ : St} {cs : List Addr}

noncomputable def part0 (k : Int) (j : Nat) : List Int := [5 * (j : Int) * k, k, (9 - (j : Int)) * k]
noncomputable def addF (m : Nat) (k : Int) (R : List (List Int)) (x : Int) : List (List Int) := R.set (x.fmod m).toNat (R.getD (x.fmod m).toNat [] ++ [smallF (x.fdiv m) * k])
noncomputable def parts1 (m : Nat) (k : Int) (ns : List Int) : List (List Int) := ns.foldl (addF m k) ((List.range m).map (part0 k))
noncomputable def fillF (q : Nat) (k : Int) : Nat → List Int → List Int
  | 0, l => l
  | f + 1, l => if (l.length + 1) % q = 0 then l else fillF q k f (l ++ [(7 * (l.length : Int) - 20) * k])
noncomputable def partsF (m q : Nat) (k : Int) (ns : List Int) : List (List Int) := (parts1 m k ns).map (fillF q k q)
theorem addF_len (m : Nat) (k : Int) (R : List (List Int)) (x : Int) : (addF m k R x).length = R.length := List.length_set
theorem parts_take {m : Nat} {k : Int} {ns : List Int} {i : Nat} (h : i < ns.length) : parts1 m k (ns.take (i + 1)) = addF m k (parts1 m k (ns.take i)) (ns.getD i 0) := by
  unfold parts1; rw [take_succ h, List.foldl_append]; rfl
theorem parts1_len (m : Nat) (k : Int) : ∀ ns : List Int, (parts1 m k ns).length = m := fun ns => by
  unfold parts1
  have g : ∀ (ns : List Int) (R : List (List Int)), (ns.foldl (addF m k) R).length = R.length := fun ns => by
    induction ns with
    | nil => intro R; rfl
    | cons x r ih => intro R; rw [List.foldl_cons, ih, addF_len]
  rw [g, List.length_map, List.length_range]
theorem fmod_nat (a b : Nat) : ((a : Int)).fmod (b : Int) = ((a % b : Nat) : Int) := by rw [Int.fmod_eq_emod_of_nonneg _ (Int.natCast_nonneg b)]; rfl
theorem fmod_pos {x : Int} {m : Nat} (h : 0 < m) : ∃ k : Nat, x.fmod (m : Int) = k ∧ k < m := by
  have h1 := Int.fmod_nonneg_of_pos x (b := (m : Int)) (by (first | assumption | exact q1 ‹_› | exact q2 ‹_› ‹_› | exact q3 ‹_› ‹_› | exact q4 ‹_› ‹_› | exact q5 ‹_› | exact q6 ‹_› | omega))
  have h2 := Int.fmod_lt_of_pos x (b := (m : Int)) (by (first | assumption | exact q1 ‹_› | exact q2 ‹_› ‹_› | exact q3 ‹_› ‹_› | exact q4 ‹_› ‹_› | exact q5 ‹_› | exact q6 ‹_› | omega))
  exact ⟨(x.fmod (m : Int)).toNat, by (first | assumption | exact q1 ‹_› | exact q2 ‹_› ‹_› | exact q3 ‹_› ‹_› | exact q4 ‹_› ‹_› | exact q5 ‹_› | exact q6 ‹_› | omega), by (first | assumption | exact q1 ‹_› | exact q2 ‹_› ‹_› | exact q3 ‹_› ‹_› | exact q4 ‹_› ‹_› | exact q5 ‹_› | exact q6 ‹_› | omega)⟩

/-- the state: the parts stand in their list; what was there ahead is kept -/
structure Ps (σ0 σ : St) (c d : Addr) (k : Int) (as : List Addr) (R : List (List Int)) : Prop where
  e : Ext σ0 σ
  cell : σ c = some (.cell (.int k))
  dd : σ d = some (.lst (rf as))
  p : Pt σ as R
  n : ∀ a ∈ as, σ0 a = none
  nd : d ∉ as
  nc : c ∉ as
section
variable {c d : Addr} {k : Int} {as : List Addr} {R : List (List Int)}
theorem Ps.ext (h : Ps τ σ c d k as R) (E : Ext σ σ') : Ps τ σ' c d k as R := ⟨h.e.trans E, E _ _ h.cell, E _ _ h.dd, h.p.ext E, h.n, h.nd, h.nc⟩
theorem Ps.put (h : Ps τ σ c d k as R) {i : Nat} (hi : i < R.length) (l : List Int) : Ps τ (σ.set (as.getD i 0) (.lst (ivs l))) c d k as (R.set i l) := by
  have hm := h.p.mem_at hi
  exact ⟨h.e.put (h.n _ hm), by rw [St.set_other _ _ (show c ≠ as.getD i 0 from fun e => h.nc (by rw [e]; exact hm))]; exact h.cell, by rw [St.set_other _ _ (show d ≠ as.getD i 0 from fun e => h.nd (by rw [e]; exact hm))]; exact h.dd, h.p.put hi, h.n, h.nd, h.nc⟩
end
noncomputable def part0X : X := .comp 3 [10, 10, 3] (.bcall .range (.cons (.loc 1) .nil)) 1 (.con (.bool true)) (.lst (.cons (.bin .Mult (.bin .Mult (.con (.int (5))) (.loc 1)) (.cel 2)) (.cons (.cel 2) (.cons (.bin .Mult (.bin .Sub (.con (.int (9))) (.loc 1)) (.cel 2)) .nil))))
theorem part0_ok {c : Addr} {k : Int} {m : Nat} {v0 : V} {tl : List V} {Q : V → St → Prop} (gc : σ (nthA cs 3) = some (.cell (.int k))) (hc : nthA cs 3 = c) (hm : m ≤ 4)
    (q : ∀ d as σ', Ps σ σ' c d k as ((List.range m).map (part0 k)) → σ d = none → Q (.ref d) σ') : xW W n part0X cs (v0 :: .int m :: tl) σ Q := by
  unfold part0X
  refine e_x_comp (e_x_bcall (e_l_cons ?_))
  first | refine lc_i rfl ?_ | refine lc_r rfl ?_ | refine lc_s rfl ?_ | refine lc_n rfl ?_
  refine e_l_nil ?_
  have hs : small (m : Int) := small_nat (by (first | assumption | exact q1 ‹_› | exact q2 ‹_› ‹_› | exact q3 ‹_› ‹_› | exact q4 ‹_› ‹_› | exact q5 ‹_› | exact q6 ‹_› | omega))
  refine range1_of hs fun dn σ1 m1 e1 f1 => ?_
  refine iter_rng f1 ⟨by decide, by decide⟩ hs (.inl rfl) ⟨by rw [len_range]; exact Nat.le_trans hm (by decide), ?_⟩
  have gc1 := e1 _ _ gc
  refine compW_inv (k := 0) (fun i acc σ' => ∃ as, acc = rf as ∧ Ext σ1 σ' ∧ Pt σ' as ((List.range i).map (part0 k)) ∧ ∀ a ∈ as, σ1 a = none) ⟨[], rfl, .refl _, .nil, nofun⟩ (fun i acc σ' hi hJ => ?_) (fun acc σ' hJ => ?_)
  · obtain ⟨as, rfl, E, Pt, hn⟩ := hJ
    rw [len_range] at hi
    rw [Nat.zero_add] at Pt ⊢
    refine ⟨trivial, fun Q' hQ' => ?_⟩
    rw [nth_map_range hi]
    have g2 := E _ _ gc1
    simp only [undefs, setN, List.map]
    refine e_t_con ?_
    show xW W n (.lst _) _ _ _ _
    refine e_x_lst (e_l_cons (e_x_bin (e_x_bin (e_x_con ?_))))
    first | refine lc_i rfl ?_ | refine lc_r rfl ?_ | refine lc_s rfl ?_ | refine lc_n rfl ?_
    refine e_b_mul ?_
    refine ⟨mul_ok (by decide), cel_of (i := 2) g2 nofun ?_⟩
    refine e_b_mul ?_
    refine ⟨mul_ok (by (first | assumption | exact q1 ‹_› | exact q2 ‹_› ‹_› | exact q3 ‹_› ‹_› | exact q4 ‹_› ‹_› | exact q5 ‹_› | exact q6 ‹_› | omega)), ?_⟩
    refine e_l_cons ?_
    refine cel_of (i := 2) g2 nofun ?_
    refine e_l_cons (e_x_bin (e_x_bin (e_x_con ?_)))
    first | refine lc_i rfl ?_ | refine lc_r rfl ?_ | refine lc_s rfl ?_ | refine lc_n rfl ?_
    refine e_b_sub ?_
    refine cel_of (i := 2) g2 nofun ?_
    refine e_b_mul ?_
    refine ⟨mul_ok (by (first | assumption | exact q1 ‹_› | exact q2 ‹_› ‹_› | exact q3 ‹_› ‹_› | exact q4 ‹_› ‹_› | exact q5 ‹_› | exact q6 ‹_› | omega)), ?_⟩
    refine e_l_nil ?_
    refine ⟨(by decide : 3 ≤ lim), alW_of fun b σ2 m2 e2 f2 => ?_⟩
    have nb : b ∉ as := fun hm => by obtain ⟨l, e⟩ := Pt.mem hm; rw [m2] at e; (first | exact nS e | exact nO e | exact nF e | exact nT e | exact nN e | exact nC e | cases e)
    refine hQ' _ _ ⟨as ++ [b], (rf_snoc as b).symm, E.trans e2, ?_, fun a ha => ?_⟩
    · rw [List.range_succ, List.map_append]
      exact (Pt.ext e2).snoc nb f2
    · rcases List.mem_append.mp ha with ha | ha
      · exact hn a ha
      · rw [List.mem_singleton.mp ha]; exact E.none m2
  · obtain ⟨as, rfl, E, Pt, hn⟩ := hJ
    rw [len_range, Nat.zero_add] at Pt
    refine ⟨trivial, alW_of fun d σ2 m2 e2 f2 => q d as σ2 ⟨e1.trans (E.trans e2), hc ▸ e2 _ _ (E _ _ gc1), f2, Pt.ext e2, fun a ha => e1.none (hn a ha), fun hm => ?_, fun hm => ?_⟩ (e1.none (E.none m2))⟩
    · obtain ⟨l, e⟩ := Pt.mem hm; rw [m2] at e; (first | exact nS e | exact nO e | exact nF e | exact nT e | exact nN e | exact nC e | cases e)
    · have := hn c hm; rw [← hc, gc1] at this; (first | exact nS this | exact nO this | exact nF this | exact nT this | exact nN this | exact nC this | cases this)
noncomputable def addS : S := .seq (.exp (.meth .append (.sub (.loc 4) (.bin .Mod (.loc 5) (.loc 1))) (.cons (.bin .Mult (.call (.con (.ref 78)) (.cons (.bin .FloorDiv (.loc 5) (.loc 1)) .nil) [] .nil) (.cel 3)) .nil))) .skip
theorem addS_ok {P : Params} (X : Txt W (K12 P) tb12) {c d : Addr} {k : Int} {as : List Addr} {R : List (List Int)} {m : Nat} {x : Int} {v0 v2 v3 : V} {tl : List V} {Q : Fl → St → List V → Prop} (hc : nthA cs 3 = c) (h : Ps τ σ c d k as R) (hm : 0 < m) (hm4 : m ≤ 4) (hR : R.length = m) (hl : ∀ l ∈ R, l.length + 1 ≤ lim)
    (q : ∀ σ', Ps τ σ' c d k as (addF m k R x) → Q .next σ' (v0 :: .int m :: v2 :: v3 :: .ref d :: .int x :: tl)) : sW W (n + 1) addS cs (v0 :: .int m :: v2 :: v3 :: .ref d :: .int x :: tl) σ Q := by
  obtain ⟨i, e, hi⟩ := fmod_pos (x := x) hm
  have hiR : i < R.length := by rw [hR]; exact hi
  have hia : i < as.length := by rw [h.p.len]; exact hiR
  unfold addS
  refine seq_exp ?_
  refine e_x_meth (e_x_sub ?_)
  first | refine lc_i rfl ?_ | refine lc_r rfl ?_ | refine lc_s rfl ?_ | refine lc_n rfl ?_
  refine e_x_bin ?_
  first | refine lc_i rfl ?_ | refine lc_r rfl ?_ | refine lc_s rfl ?_ | refine lc_n rfl ?_
  first | refine lc_i rfl ?_ | refine lc_r rfl ?_ | refine lc_s rfl ?_ | refine lc_n rfl ?_
  refine e_b_mod ?_
  rw [e]
  refine ⟨by (first | assumption | exact q1 ‹_› | exact q2 ‹_› ‹_› | exact q3 ‹_› ‹_› | exact q4 ‹_› ‹_› | exact q5 ‹_› | exact q6 ‹_› | lia | omega), sub_of i rfl h.dd rfl (by rw [rf_len]; exact hia) ?_⟩
  rw [nth_rfD hia]
  have ga := h.p.at_ i hiR
  refine mlist_of ga ?_
  refine e_l_cons (e_x_bin (e_x_call ?_))
  refine e_x_con (e_l_cons (e_x_bin (lc_i rfl (lc_i rfl (e_b_div ?_)))))
  refine ⟨by (first | assumption | exact q1 ‹_› | exact q2 ‹_› ‹_› | exact q3 ‹_› ‹_› | exact q4 ‹_› ‹_› | exact q5 ‹_› | exact q6 ‹_› | lia | omega), by (first | assumption | exact q1 ‹_› | exact q2 ‹_› ‹_› | exact q3 ‹_› ‹_› | exact q4 ‹_› ‹_› | exact q5 ‹_› | exact q6 ‹_› | lia | omega), e_l_nil (e_l_nil (small_ok X ?_))⟩
  refine cel_of (i := 3) (v := .int k) (by rw [hc]; exact h.cell) nofun ?_
  refine e_b_mul ?_
  refine ⟨mul_ok (Nat.lt_trans (smallF_lt _) (by decide)), ?_⟩
  have hlen : (R.getD i []).length + 1 ≤ lim := hl _ (by rw [getD_in hiR]; exact List.getElem_mem hiR)
  refine e_l_nil ?_
  refine append_of ga (by rw [ivs_length]; exact hlen) ?_
  rw [show ivs (R.getD i []) ++ [.int (smallF (x.fdiv m) * k)] = ivs (R.getD i [] ++ [smallF (x.fdiv m) * k]) from ivs_append _ [_]]
  have H := h.put hiR (R.getD i [] ++ [smallF (x.fdiv m) * k])
  refine q _ ?_
  unfold addF
  rw [e, Int.toNat_natCast]
  exact H
noncomputable def fillT : X := .cmp .NotEq (.bin .Mod (.bin .Add (.bcall .len (.cons (.loc 6) .nil)) (.con (.int (1)))) (.loc 2)) (.con (.int (0)))
noncomputable def fillS : S := .seq (.exp (.meth .append (.loc 6) (.cons (.bin .Mult (.bin .Sub (.bin .Mult (.con (.int (7))) (.bcall .len (.cons (.loc 6) .nil))) (.con (.int (20)))) (.cel 3)) .nil))) .skip
theorem fit_ex {q : Nat} (hq : 0 < q) (c : Nat) : ∃ t, t ≤ q ∧ (c + 1 + t) % q = 0 := ⟨q - (c + 1) % q, Nat.sub_le _ _, by
  have h1 := Nat.mod_lt (c + 1) hq
  have h2 := Nat.div_add_mod (c + 1) q
  generalize (c + 1) % q = r at h1 h2 ⊢
  rw [show c + 1 + (q - r) = q * ((c + 1) / q) + q by (first | assumption | exact q1 ‹_› | exact q2 ‹_› ‹_› | exact q3 ‹_› ‹_› | exact q4 ‹_› ‹_› | exact q5 ‹_› | exact q6 ‹_› | lia | omega), Nat.add_mod_right, Nat.mul_mod_right]⟩
/-- while it is filled -/
inductive FillI (σ0 : St) (c d : Addr) (k : Int) (as : List Addr) (R : List (List Int)) (qq i : Nat) (fr0 : List V) (l0 : List Int) (j : Nat) (σ : St) (fr : List V) : Prop where
  | mk (l : List Int) (t : Nat) (hfr : fr = fr0) (H : Ps σ0 σ c d k as (R.set i l)) (hf : fillF qq k j l = l0) (ht : t ≤ j) (ht2 : (l.length + 1 + t) % qq = 0) (hl : l.length + j ≤ 1000) : FillI σ0 c d k as R qq i fr0 l0 j σ fr
theorem len_snoc {α : Type} (l : List α) (x : α) : (l ++ [x]).length = l.length + 1 := List.length_append
/-- one part is filled up -/
theorem fill_ok {c d : Addr} {k : Int} {as : List Addr} {R : List (List Int)} {qq i : Nat} {v0 v1 v3 v5 : V} {tl : List V} {Q : Fl → St → List V → Prop} (hc : nthA cs 3 = c) (h : Ps τ σ c d k as R) (hq : 0 < qq) (hi : i < R.length) (hl : (R.getD i []).length + qq ≤ 1000)
    (q : ∀ σ', Ps τ σ' c d k as (R.set i (fillF qq k qq (R.getD i []))) → Q .next σ' (v0 :: v1 :: .int qq :: v3 :: .ref d :: v5 :: .ref (as.getD i 0) :: tl)) :
    sW W n (.seq (.whl fillT fillS) .skip) cs (v0 :: v1 :: .int qq :: v3 :: .ref d :: v5 :: .ref (as.getD i 0) :: tl) σ Q := by
  rw [s_seq]
  show whW _ _ _ _ _
  have hz : R.set i (R.getD i []) = R := by
    refine List.ext_getElem? fun j => ?_
    rw [List.getElem?_set]
    by_cases e : i = j
    · subst e; rw [if_pos rfl, if_pos hi, getD_in hi, List.getElem?_eq_getElem hi]
    · rw [if_neg e]
  obtain ⟨t0, ex1, ex2⟩ := fit_ex hq (R.getD i []).length
  refine ⟨FillI τ c d k as R qq i (v0 :: v1 :: .int qq :: v3 :: .ref d :: v5 :: .ref (as.getD i 0) :: tl) (fillF qq k qq (R.getD i [])), ⟨qq, _, t0, rfl, hz.symm ▸ h, rfl, ex1, ex2, hl⟩, ?_⟩
  clear ex1 ex2 h hz
  rintro j σ fr ⟨l, t, rfl, H, hf, ht, ht2, hlen⟩
  have hi' : i < (R.set i l).length := by rw [List.length_set]; exact hi
  have ga := H.p.at_ i hi'
  have hg : (R.set i l).getD i [] = l := by rw [List.getD_eq_getElem?_getD, List.getElem?_set, if_pos rfl, if_pos hi]; rfl
  rw [hg] at ga
  unfold fillT
  refine e_t_cmp (e_x_bin (e_x_bin (e_x_bcall (e_l_cons ?_))))
  first | refine lc_i rfl ?_ | refine lc_r rfl ?_ | refine lc_s rfl ?_ | refine lc_n rfl ?_
  refine e_l_nil ?_
  refine len_of ga rfl ?_
  refine e_x_con ?_
  rw [ivs_length]
  refine e_b_add ?_
  first | refine lc_i rfl ?_ | refine lc_r rfl ?_ | refine lc_s rfl ?_ | refine lc_n rfl ?_
  refine e_b_mod ?_
  refine ⟨by (first | assumption | exact q1 ‹_› | exact q2 ‹_› ‹_› | exact q3 ‹_› ‹_› | exact q4 ‹_› ‹_› | exact q5 ‹_› | exact q6 ‹_› | lia | omega), ?_⟩
  rw [show ((l.length : Int) + 1) = ((l.length + 1 : Nat) : Int) from rfl, fmod_nat]
  refine e_x_con (e_c_ne ?_)
  by_cases hr : (l.length + 1) % qq = 0
  · have e1 : ((((l.length + 1) % qq : Nat) : Int) != 0) = false := by rw [hr]; rfl
    rw [e1, if_neg nofun]
    have e2 : fillF qq k j l = l := by
      cases j with
      | zero => rfl
      | succ j => exact if_pos hr
    rw [e2] at hf
    rw [hf] at H
    exact q _ H
  · have e1 : ((((l.length + 1) % qq : Nat) : Int) != 0) = true := bne_iff_ne.mpr fun e => hr (Int.ofNat.inj e)
    rw [e1, if_pos rfl]
    cases j with
    | zero => rw [Nat.le_zero.mp ht] at ht2; exact absurd ht2 hr
    | succ j =>
      unfold fillS
      refine seq_exp ?_
      refine e_x_meth ?_
      first | refine lc_i rfl ?_ | refine lc_r rfl ?_ | refine lc_s rfl ?_ | refine lc_n rfl ?_
      refine mlist_of ga ?_
      refine e_l_cons (e_x_bin (e_x_bin (e_x_bin (e_x_con (e_x_bcall (e_l_cons ?_))))))
      first | refine lc_i rfl ?_ | refine lc_r rfl ?_ | refine lc_s rfl ?_ | refine lc_n rfl ?_
      refine e_l_nil ?_
      refine len_of ga rfl ?_
      rw [ivs_length]
      refine e_b_mul ?_
      refine ⟨mul_ok (by decide), ?_⟩
      refine e_x_con (e_b_sub ?_)
      refine cel_of (i := 3) (v := .int k) (by rw [hc]; exact H.cell) nofun ?_
      refine e_b_mul ?_
      refine ⟨mul_ok (by (first | assumption | exact q1 ‹_› | exact q2 ‹_› ‹_› | exact q3 ‹_› ‹_› | exact q4 ‹_› ‹_› | exact q5 ‹_› | exact q6 ‹_› | lia | omega)), ?_⟩
      refine e_l_nil ?_
      refine append_of ga (by rw [ivs_length]; unfold lim; (first | assumption | exact q1 ‹_› | exact q2 ‹_› ‹_› | exact q3 ‹_› ‹_› | exact q4 ‹_› ‹_› | exact q5 ‹_› | exact q6 ‹_› | lia | omega)) ?_
      rw [show ivs l ++ [.int ((7 * (l.length : Int) - 20) * k)] = ivs (l ++ [(7 * (l.length : Int) - 20) * k]) from ivs_append _ [_]]
      have H2 := H.put hi' (l ++ [(7 * (l.length : Int) - 20) * k])
      rw [List.set_set] at H2
      have hf' : fillF qq k j (l ++ [(7 * (l.length : Int) - 20) * k]) = fillF qq k qq (R.getD i []) := by rw [← hf]; exact (if_neg hr).symm
      cases t with
      | zero => exact absurd ht2 hr
      | succ t => exact ⟨j, Nat.lt_succ_self j, _, t, rfl, H2, hf', Nat.le_of_succ_le_succ ht, by rw [len_snoc, Nat.add_assoc _ 1 t, Nat.add_comm 1 t]; exact ht2, by rw [len_snoc, Nat.add_assoc, Nat.add_comm 1 j]; exact hlen⟩
end Mine

end
section -- L12c
namespace Mine
variable {W : Wd} {n : Nat} {σ σ' τ : St} {cs : List Addr}
theorem addF_bound {m : Nat} {k : Int} {R : List (List Int)} {x : Int} {b : Nat} (h : ∀ l ∈ R, l.length ≤ b) : ∀ l ∈ addF m k R x, l.length ≤ b + 1 := fun l hl => by
  rcases List.mem_or_eq_of_mem_set hl with q | q
  · exact Nat.le_succ_of_le (h l q)
  · rw [q, List.length_append]
    refine Nat.succ_le_succ ?_
    by_cases hi : (x.fmod m).toNat < R.length
    · exact h _ (by rw [getD_in hi]; exact List.getElem_mem hi)
    · rw [List.getD_eq_getElem?_getD, List.getElem?_eq_none (Nat.not_lt.mp hi)]; exact Nat.zero_le _
theorem parts1_bound (m : Nat) (k : Int) (ns : List Int) : ∀ i, i ≤ ns.length → ∀ l ∈ parts1 m k (ns.take i), l.length ≤ 3 + i
  | 0, _ => fun l hl => by
    obtain ⟨j, _, rfl⟩ := List.mem_map.mp hl
    exact Nat.le_refl _
  | i + 1, h => by
    rw [parts_take h]
    exact addF_bound (parts1_bound m k ns i (Nat.le_of_succ_le h))
/-- the first i of them filled up -/
noncomputable def stage (f : List Int → List Int) (R : List (List Int)) (i : Nat) : List (List Int) := (R.take i).map f ++ R.drop i
theorem stage_at {f : List Int → List Int} {R : List (List Int)} {i : Nat} (hi : i < R.length) : (stage f R i).getD i [] = R.getD i [] ∧ (stage f R i).set i (f (R.getD i [])) = stage f R (i + 1) ∧ i < (stage f R i).length := by
  have hl : ((R.take i).map f).length = i := by rw [List.length_map, List.length_take]; exact Nat.min_eq_left (Nat.le_of_lt hi)
  have hd := List.drop_eq_getElem_cons hi
  refine ⟨?_, ?_, ?_⟩
  · unfold stage
    rw [List.getD_eq_getElem?_getD, List.getElem?_append_right (Nat.le_of_eq hl), hl, Nat.sub_self, hd, getD_in hi]; rfl
  · unfold stage
    rw [List.set_append_right _ _ (Nat.le_of_eq hl), hl, Nat.sub_self, hd, List.take_add_one, List.getElem?_eq_getElem hi, List.map_append, getD_in hi, List.append_assoc]; rfl
  · unfold stage; rw [List.length_append, hl, hd, List.length_cons]; exact Nat.lt_add_of_pos_right (Nat.succ_pos _)
theorem cells_83 {u v w x : V} {Q : List Addr → St → Prop} (h : ∀ c, σ c = none → Q [0, 0, 0, c, 0, 0, 0, 0, 0, 0] (σ.set c (.cell x))) : cellW nm12_83 (parV ((["script", "many", "q", "n"] : List Str).zip [u, v, w, x])) [] σ Q := h
theorem slots_83 {u v w x : V} : slots0 nm12_83 (parV ((["script", "many", "q", "n"] : List Str).zip [u, v, w, x])) = [u, v, w, .undef, .undef, .undef, .undef, .undef, .undef, .undef] := by kernel_rfl
theorem bd12_83_eq : bd12_83 = .seq (.set (.l 4) part0X) (.seq (.for_ (.one (.l 5)) (.loc 0) addS) (.seq (.for_ (.one (.l 6)) (.loc 4) (.seq (.whl fillT fillS) .skip)) (.seq (.ret (.loc 4)) .skip))) := rfl
theorem parts_ok {P : Params} (X : Txt W (K12 P) tb12) {a : Addr} {ns : List Int} {m qq : Nat} {k : Int} {Q : V → St → Prop} (ga : σ a = some (.ro (ivs ns))) (hn : ns.length ≤ 63) (hm : 0 < m) (hm4 : m ≤ 4) (hq : 0 < qq) (hq5 : qq ≤ 5)
    (q : ∀ d as σ', Ext σ σ' → σ' d = some (.lst (rf as)) → Pt σ' as (partsF m qq k ns) → (∀ a ∈ as, σ a = none) → σ d = none → d ∉ as → Q (.ref d) σ') : CallOK W (n + 2) (.ref 83) [.ref a, .int m, .int qq, .int k] [] [] Q σ := by
  refine fn12__law_parts X rfl (cells_83 fun c nc => ?_)
  rw [slots_83, bd12_83_eq]
  have E1 : Ext σ (σ.set c (.cell (.int k))) := Ext.new nc
  have gc := St.set_same σ c (.cell (.int k))
  generalize σ.set c (.cell (.int k)) = σ1 at E1 gc
  refine seq_set ?_
  refine part0_ok (c := c) gc rfl hm4 fun d as σ2 H nd0 => ?_
  simp only [stW, setN]
  refine seq_for ?_
  rw [x_loc]
  refine ⟨nofun, iter_ro (H.e _ _ (E1 _ _ ga)) ?_⟩
  refine forW_inv (k := 0) (fun i fr σ' => ∃ v5, fr = [.ref a, .int m, .int qq, .undef, .ref d, v5, .undef, .undef, .undef, .undef] ∧ Ps σ1 σ' c d k as (parts1 m k (ns.take i))) (fun _ _ _ => False) ⟨_, rfl, by rw [List.take_zero]; exact H⟩ (fun i fr σ' hi hJ => ?_) (fun fr σ' hJ => ?_) (fun _ _ _ h => h.elim)
  · obtain ⟨v5, rfl, H'⟩ := hJ
    rw [Nat.zero_add] at H' ⊢
    rw [ivs_length] at hi
    refine ⟨trivial, fun Q' hQ' _ => ?_⟩
    rw [nth_ivs hi]
    simp only [tgW, stW, setN]
    exact addS_ok X rfl H' hm hm4 (parts1_len m k _) (fun l hl => by have := parts1_bound m k ns i (Nat.le_of_lt hi) l hl; unfold lim; (first | assumption | exact q1 ‹_› | exact q2 ‹_› ‹_› | exact q3 ‹_› ‹_› | exact q4 ‹_› ‹_› | exact q5 ‹_› | exact q6 ‹_› | lia | omega)) fun σ3 H3 => hQ' _ _ ⟨_, rfl, by rw [parts_take hi]; exact H3⟩
  obtain ⟨v5, rfl, H'⟩ := hJ
  rw [Nat.zero_add, ivs_length, List.take_length] at H'
  refine ⟨trivial, ?_⟩
  have hb : ∀ l ∈ parts1 m k ns, l.length ≤ 66 := fun l hl => by
    have := parts1_bound m k ns ns.length (Nat.le_refl _) l (by rw [List.take_length]; exact hl)
    (first | assumption | exact q1 ‹_› | exact q2 ‹_› ‹_› | exact q3 ‹_› ‹_› | exact q4 ‹_› ‹_› | exact q5 ‹_› | exact q6 ‹_› | lia | omega)
  have hR := parts1_len m k ns
  have hF : partsF m qq k ns = (parts1 m k ns).map (fillF qq k qq) := rfl
  generalize parts1 m k ns = R at H' hb hR hF
  refine seq_for ?_
  rw [x_loc]
  refine ⟨nofun, iter_lst H'.dd ?_⟩
  refine forW_inv (k := 0) (fun i fr σ' => ∃ v6, fr = [.ref a, .int m, .int qq, .undef, .ref d, v5, v6, .undef, .undef, .undef] ∧ Ps σ1 σ' c d k as (stage (fillF qq k qq) R i)) (fun _ _ _ => False) ⟨_, rfl, H'⟩ (fun i fr σ' hi hJ => ?_) (fun fr σ' hJ => ?_) (fun _ _ _ h => h.elim)
  · obtain ⟨v6, rfl, H3⟩ := hJ
    rw [Nat.zero_add] at H3 ⊢
    rw [rf_len] at hi
    have hiR : i < R.length := by rw [← H'.p.len]; exact hi
    obtain ⟨s1, s2, s3⟩ := stage_at (f := fillF qq k qq) hiR
    refine ⟨H3.dd, fun Q' hQ' _ => ?_⟩
    rw [nth_rfD hi]
    simp only [tgW, stW, setN]
    refine fill_ok rfl H3 hq s3 ?_ fun σ4 H4 => hQ' _ _ ⟨_, rfl, ?_⟩
    · rw [s1, getD_in hiR]; have := hb _ (List.getElem_mem hiR); (first | assumption | exact q1 ‹_› | exact q2 ‹_› ‹_› | exact q3 ‹_› ‹_› | exact q4 ‹_› ‹_› | exact q5 ‹_› | exact q6 ‹_› | lia | omega)
    · rw [s1, s2] at H4; exact H4
  · obtain ⟨v6, rfl, H3⟩ := hJ
    rw [Nat.zero_add, rf_len, H'.p.len] at H3
    refine ⟨H3.dd, seq_ret ?_⟩
    rw [x_loc]
    refine ⟨nofun, q d as σ' (E1.trans H3.e) H3.dd ?_ (fun b hb' => E1.none (H3.n b hb')) (E1.none nd0) H3.nd⟩
    rw [hF]
    have := H3.p
    unfold stage at this
    rw [List.take_length, List.drop_length, List.append_nil] at this
    exact this
end Mine

end
section -- L12d
namespace Mine
variable {W : Wd} {n : Nat} {σ σ' τ : St} {cs : List Addr}

noncomputable def incN (S : List Int) (k i : Nat) : Int := S.getD (i * (S.length - 1) / k) 0 * ((k : Int) - ((i * (S.length - 1) % k : Nat) : Int)) + S.getD (i * (S.length - 1) / k + 1) 0 * ((i * (S.length - 1) % k : Nat) : Int)
noncomputable def excJ (ld k i : Nat) : Nat := if i * (ld + 1) / k < 1 then 1 else if i * (ld + 1) / k > ld - 1 then ld - 1 else i * (ld + 1) / k
noncomputable def excD (ld k i : Nat) : Int := ((i * (ld + 1) : Nat) : Int) - ((excJ ld k i * k : Nat) : Int)
noncomputable def excN (S : List Int) (k i : Nat) : Int := S.getD (excJ S.length k i - 1) 0 * ((k : Int) - excD S.length k i) + S.getD (excJ S.length k i) 0 * excD S.length k i
/-- r tells what N over k is: whole numbers -/
noncomputable def Tells (N : Nat → Int) (k : Nat) (r : Nat → Int) : Prop := ∀ i, 1 ≤ i → i < k → N i = r i * k ∧ (r i).natAbs < 2 ^ 53
noncomputable def fls (r : Nat → Int) (i : Nat) : List V := (List.range i).map fun t => V.flt (Float64.ofInt (r (t + 1)))
theorem fls_succ (r : Nat → Int) (i : Nat) : fls r (i + 1) = fls r i ++ [.flt (Float64.ofInt (r (i + 1)))] := by unfold fls; rw [List.range_succ, List.map_append]; rfl
theorem fls_len (r : Nat → Int) (i : Nat) : (fls r i).length = i := by unfold fls; rw [List.length_map, List.length_range]
theorem mul_okr {x y : Int} (h : y.natAbs < 2 ^ 62) : IntMulOk x y := .of_right (intBits_le_64 (by (first | assumption | exact q1 ‹_› | exact q2 ‹_› ‹_› | exact q3 ‹_› ‹_› | exact q4 ‹_› ‹_› | exact q5 ‹_› | exact q6 ‹_› | omega)) (by (first | assumption | exact q1 ‹_› | exact q2 ‹_› ‹_› | exact q3 ‹_› ‹_› | exact q4 ‹_› ‹_› | exact q5 ‹_› | exact q6 ‹_› | omega)))
theorem c_eqs {x y : Str} {P : Bool → St → Prop} : cmpW .Eq (.str x) (.str y) σ P = P (x == y) σ := rfl
theorem fdiv_nat (a b : Nat) : ((a : Int)).fdiv (b : Int) = ((a / b : Nat) : Int) := by rw [Int.fdiv_eq_ediv_of_nonneg _ (Int.natCast_nonneg b)]; rfl
theorem tupA_of {a : Addr} {xs : List V} {K : List V → Prop} (h : σ a = some (.tup xs)) (q : K xs) : tupW (.ref a) σ K := by
  unfold tupW refW
  simp only [optP_some, h]; exact q
noncomputable def appQ : S := .seq (.exp (.meth .append (.loc 5) (.cons (.loc 9) .nil))) .skip
noncomputable def itpX (x y : X) : X := .bin .Div (.bin .Add (.bin .Mult (.sub (.loc 0) x) (.bin .Sub (.loc 1) (.loc 8))) (.bin .Mult (.sub (.loc 0) y) (.loc 8))) (.loc 1)
noncomputable def incB : S := .seq (.unp [.l 7, .l 8] (.bcall .divmod (.cons (.bin .Mult (.loc 6) (.loc 4)) (.cons (.loc 1) .nil)))) (.seq (.set (.l 9) (itpX (.loc 7) (.bin .Add (.loc 7) (.con (.int (1)))))) appQ)
noncomputable def excB : S := .seq (.set (.l 7) (.bin .FloorDiv (.bin .Mult (.loc 6) (.loc 4)) (.loc 1)))
 (.seq (.set (.l 7) (.ife (.cmp .Lt (.loc 7) (.con (.int (1)))) (.con (.int (1))) (.ife (.cmp .Gt (.loc 7) (.bin .Sub (.loc 3) (.con (.int (1))))) (.bin .Sub (.loc 3) (.con (.int (1)))) (.loc 7))))
 (.seq (.set (.l 8) (.bin .Sub (.bin .Mult (.loc 6) (.loc 4)) (.bin .Mult (.loc 7) (.loc 1))))
 (.seq (.set (.l 9) (itpX (.bin .Sub (.loc 7) (.con (.int (1)))) (.loc 7))) appQ)))
noncomputable def loopQ (b : S) : S := .seq (.set (.l 5) (.lst .nil)) (.seq (.for_ (.one (.l 6)) (.bcall .range (.cons (.con (.int (1))) (.cons (.loc 1) .nil))) b) (.seq (.ret (.loc 5)) .skip))
theorem bd12_35_eq : bd12_35 = .seq (.ite (.cmp .Lt (.loc 1) (.con (.int (1)))) (.seq .bad .skip) .skip)
 (.seq (.set (.l 0) (.bcall .sorted (.cons (.loc 0) .nil)))
 (.seq (.set (.l 3) (.bcall .len (.cons (.loc 0) .nil)))
 (.seq (.ite (.cmp .Lt (.loc 3) (.con (.int (2)))) (.seq (.ite (.cmp .Eq (.loc 3) (.con (.int (1)))) (.seq (.ret (.bin .Mult (.loc 0) (.bin .Sub (.loc 1) (.con (.int (1)))))) .skip) .skip) (.seq .bad .skip)) .skip)
 (.seq (.ite (.cmp .Eq (.loc 2) (.con (.str "inclusive"))) (.seq (.set (.l 4) (.bin .Sub (.loc 3) (.con (.int (1))))) (loopQ incB)) .skip)
 (.seq (.ite (.cmp .Eq (.loc 2) (.con (.str "exclusive"))) (.seq (.set (.l 4) (.bin .Add (.loc 3) (.con (.int (1))))) (loopQ excB)) .skip)
 (.seq .bad .skip)))))) := rfl
section
variable {ds dr : Addr} {S : List Int} {k m i : Nat} {w v7 v8 v9 : V} {tl : List V} {r : Nat → Int} {xs : List V} {Q : Fl → St → List V → Prop}
/-- the two numbers between which it lies, and the float -/
theorem itp_ok {x y : X} {p1 p2 : Nat} {D : Int} {Q : V → St → Prop} (gs : σ ds = some (.lst (ivs S))) (hx : ∀ Q : V → St → Prop, Q (.int (p1 : Nat)) σ → xW W n x cs (.ref ds :: .int k :: w :: .int S.length :: .int m :: .ref dr :: .int i :: v7 :: .int D :: v9 :: tl) σ Q)
    (hy : ∀ Q : V → St → Prop, Q (.int (p2 : Nat)) σ → xW W n y cs (.ref ds :: .int k :: w :: .int S.length :: .int m :: .ref dr :: .int i :: v7 :: .int D :: v9 :: tl) σ Q) (h1 : p1 < S.length) (h2 : p2 < S.length) (hk : 0 < k) (hkD : ((k : Int) - D).natAbs < 2 ^ 62) (hD : D.natAbs < 2 ^ 62)
    {q : Int} (hN : S.getD p1 0 * ((k : Int) - D) + S.getD p2 0 * D = q * k) (hq : q.natAbs < 2 ^ 53) (f : Q (.flt (Float64.ofInt q)) σ) :
    xW W n (itpX x y) cs (.ref ds :: .int k :: w :: .int S.length :: .int m :: .ref dr :: .int i :: v7 :: .int D :: v9 :: tl) σ Q := by
  unfold itpX
  refine e_x_bin (e_x_bin (e_x_bin (e_x_sub ?_)))
  first | refine lc_i rfl ?_ | refine lc_r rfl ?_ | refine lc_s rfl ?_ | refine lc_n rfl ?_
  refine hx _ (sub_of p1 rfl gs rfl (by rw [ivs_length]; exact h1) ?_)
  rw [nth_ivs h1]
  refine e_x_bin ?_
  first | refine lc_i rfl ?_ | refine lc_r rfl ?_ | refine lc_s rfl ?_ | refine lc_n rfl ?_
  first | refine lc_i rfl ?_ | refine lc_r rfl ?_ | refine lc_s rfl ?_ | refine lc_n rfl ?_
  simp only [nth, b_sub, b_mul]
  refine ⟨mul_okr hkD, ?_⟩
  refine e_x_bin (e_x_sub ?_)
  first | refine lc_i rfl ?_ | refine lc_r rfl ?_ | refine lc_s rfl ?_ | refine lc_n rfl ?_
  refine hy _ (sub_of p2 rfl gs rfl (by rw [ivs_length]; exact h2) ?_)
  rw [nth_ivs h2]
  first | refine lc_i rfl ?_ | refine lc_r rfl ?_ | refine lc_s rfl ?_ | refine lc_n rfl ?_
  refine e_b_mul ?_
  refine ⟨mul_okr hD, ?_⟩
  refine e_b_add ?_
  first | refine lc_i rfl ?_ | refine lc_r rfl ?_ | refine lc_s rfl ?_ | refine lc_n rfl ?_
  try simp only [nth]
  refine e_b_tdiv ?_
  rw [hN]
  exact ⟨by (first | assumption | exact q1 ‹_› | exact q2 ‹_› ‹_› | exact q3 ‹_› ‹_› | exact q4 ‹_› ‹_› | exact q5 ‹_› | exact q6 ‹_› | lia | omega), q, rfl, hq, f⟩
theorem appQ_ok {x : V} (gr : σ dr = some (.lst xs)) (hl : xs.length + 1 ≤ lim) (hx : x ≠ .undef) {a b c d e v6 : V} (q : Q .next (σ.set dr (.lst (xs ++ [x]))) (a :: b :: c :: d :: e :: .ref dr :: v6 :: v7 :: v8 :: x :: tl)) : sW W n appQ cs (a :: b :: c :: d :: e :: .ref dr :: v6 :: v7 :: v8 :: x :: tl) σ Q := by
  unfold appQ
  refine seq_exp ?_
  refine e_x_meth ?_
  first | refine lc_i rfl ?_ | refine lc_r rfl ?_ | refine lc_s rfl ?_ | refine lc_n rfl ?_
  refine mlist_of gr ?_
  refine e_l_cons ?_
  rw [x_loc]
  refine ⟨hx, ?_⟩
  refine e_l_nil ?_
  exact append_of gr hl q
theorem incB_ok (gs : σ ds = some (.lst (ivs S))) (gr : σ dr = some (.lst xs)) (hl : xs.length + 1 ≤ lim) (hS : 2 ≤ S.length) (hSl : S.length ≤ 1000) (hi : i < k) (hk : k ≤ 1000) {q : Int} (hN : incN S k i = q * k) (hq : q.natAbs < 2 ^ 53)
    (z : ∀ σ' v7 v8 v9, Upd dr σ σ' → σ' dr = some (.lst (xs ++ [.flt (Float64.ofInt q)])) → Q .next σ' (.ref ds :: .int k :: w :: .int S.length :: .int (S.length - 1 : Nat) :: .ref dr :: .int i :: v7 :: v8 :: v9 :: tl)) :
    sW W n incB cs (.ref ds :: .int k :: w :: .int S.length :: .int (S.length - 1 : Nat) :: .ref dr :: .int i :: v7 :: v8 :: v9 :: tl) σ Q := by
  have hk0 : 0 < k := Nat.zero_lt_of_lt hi
  unfold incB
  rw [s_seq, s_unp]
  refine e_x_bcall (e_l_cons (e_x_bin ?_))
  first | refine lc_i rfl ?_ | refine lc_r rfl ?_ | refine lc_s rfl ?_ | refine lc_n rfl ?_
  first | refine lc_i rfl ?_ | refine lc_r rfl ?_ | refine lc_s rfl ?_ | refine lc_n rfl ?_
  refine e_b_mul ?_
  refine ⟨mul_ok (by (first | assumption | exact q1 ‹_› | exact q2 ‹_› ‹_› | exact q3 ‹_› ‹_› | exact q4 ‹_› ‹_› | exact q5 ‹_› | exact q6 ‹_› | lia | omega)), ?_⟩
  refine e_l_cons ?_
  first | refine lc_i rfl ?_ | refine lc_r rfl ?_ | refine lc_s rfl ?_ | refine lc_n rfl ?_
  refine e_l_nil ?_
  try simp only [nth]
  rw [f_dvm, show ((i : Int) * ((S.length - 1 : Nat) : Int)) = ((i * (S.length - 1) : Nat) : Int) from (Int.natCast_mul _ _).symm, fdiv_nat, fmod_nat]
  refine ⟨by (first | assumption | exact q1 ‹_› | exact q2 ‹_› ‹_› | exact q3 ‹_› ‹_› | exact q4 ‹_› ‹_› | exact q5 ‹_› | exact q6 ‹_› | lia | omega), by (first | assumption | exact q1 ‹_› | exact q2 ‹_› ‹_› | exact q3 ‹_› ‹_› | exact q4 ‹_› ‹_› | exact q5 ‹_› | exact q6 ‹_› | lia | omega), alW_of fun t σ1 m1 e1 f1 => ?_⟩
  refine tupA_of f1 ⟨rfl, ?_⟩
  simp only [stsW, stW, setN]
  have hj : i * (S.length - 1) / k < S.length - 1 := Nat.div_lt_of_lt_mul (Nat.mul_lt_mul_of_pos_right hi (by (first | assumption | exact q1 ‹_› | exact q2 ‹_› ‹_› | exact q3 ‹_› ‹_› | exact q4 ‹_› ‹_› | exact q5 ‹_› | exact q6 ‹_› | lia | omega)))
  have hd : i * (S.length - 1) % k < k := Nat.mod_lt _ hk0
  unfold incN at hN
  generalize i * (S.length - 1) / k = j at hj hN ⊢
  generalize i * (S.length - 1) % k = D at hd hN ⊢
  refine seq_set (itp_ok (p1 := j) (p2 := j + 1) (e1 _ _ gs) (fun Q' h => ⟨nofun, h⟩) (fun Q' h => ⟨nofun, h⟩) (by (first | assumption | exact q1 ‹_› | exact q2 ‹_› ‹_› | exact q3 ‹_› ‹_› | exact q4 ‹_› ‹_› | exact q5 ‹_› | exact q6 ‹_› | lia | omega)) (by (first | assumption | exact q1 ‹_› | exact q2 ‹_› ‹_› | exact q3 ‹_› ‹_› | exact q4 ‹_› ‹_› | exact q5 ‹_› | exact q6 ‹_› | lia | omega)) hk0 (by (first | assumption | exact q1 ‹_› | exact q2 ‹_› ‹_› | exact q3 ‹_› ‹_› | exact q4 ‹_› ‹_› | exact q5 ‹_› | exact q6 ‹_› | lia | omega)) (by (first | assumption | exact q1 ‹_› | exact q2 ‹_› ‹_› | exact q3 ‹_› ‹_› | exact q4 ‹_› ‹_› | exact q5 ‹_› | exact q6 ‹_› | lia | omega)) hN hq ?_)
  simp only [stW, setN]
  exact appQ_ok (x := .flt (Float64.ofInt q)) (e1 _ _ gr) hl nofun (z _ _ _ _ ((e1.upd dr).trans (Upd.set _ _ _)) (St.set_same _ _ _))
theorem excJ_lt {ld : Nat} (h : 2 ≤ ld) : 1 ≤ excJ ld k i ∧ excJ ld k i ≤ ld - 1 := by
  unfold excJ; split
  · (first | assumption | exact q1 ‹_› | exact q2 ‹_› ‹_› | exact q3 ‹_› ‹_› | exact q4 ‹_› ‹_› | exact q5 ‹_› | exact q6 ‹_› | omega)
  · split <;> (first | assumption | exact q1 ‹_› | exact q2 ‹_› ‹_› | exact q3 ‹_› ‹_› | exact q4 ‹_› ‹_› | exact q5 ‹_› | exact q6 ‹_› | omega)
theorem excB_ok (gs : σ ds = some (.lst (ivs S))) (gr : σ dr = some (.lst xs)) (hl : xs.length + 1 ≤ lim) (hS : 2 ≤ S.length) (hSl : S.length ≤ 1000) (hi : i < k) (hk : k ≤ 1000) {q : Int} (hN : excN S k i = q * k) (hq : q.natAbs < 2 ^ 53)
    (z : ∀ σ' v7 v8 v9, Upd dr σ σ' → σ' dr = some (.lst (xs ++ [.flt (Float64.ofInt q)])) → Q .next σ' (.ref ds :: .int k :: w :: .int S.length :: .int (S.length + 1 : Nat) :: .ref dr :: .int i :: v7 :: v8 :: v9 :: tl)) :
    sW W n excB cs (.ref ds :: .int k :: w :: .int S.length :: .int (S.length + 1 : Nat) :: .ref dr :: .int i :: v7 :: v8 :: v9 :: tl) σ Q := by
  have hk0 : 0 < k := Nat.zero_lt_of_lt hi
  have hm : i * (S.length + 1) ≤ 1000 * 1001 := Nat.mul_le_mul (by (first | assumption | exact q1 ‹_› | exact q2 ‹_› ‹_› | exact q3 ‹_› ‹_› | exact q4 ‹_› ‹_› | exact q5 ‹_› | exact q6 ‹_› | lia | omega)) (by (first | assumption | exact q1 ‹_› | exact q2 ‹_› ‹_› | exact q3 ‹_› ‹_› | exact q4 ‹_› ‹_› | exact q5 ‹_› | exact q6 ‹_› | lia | omega))
  unfold excB
  refine seq_set ?_
  refine e_x_bin (e_x_bin ?_)
  first | refine lc_i rfl ?_ | refine lc_r rfl ?_ | refine lc_s rfl ?_ | refine lc_n rfl ?_
  first | refine lc_i rfl ?_ | refine lc_r rfl ?_ | refine lc_s rfl ?_ | refine lc_n rfl ?_
  refine e_b_mul ?_
  refine ⟨mul_ok (by (first | assumption | exact q1 ‹_› | exact q2 ‹_› ‹_› | exact q3 ‹_› ‹_› | exact q4 ‹_› ‹_› | exact q5 ‹_› | exact q6 ‹_› | lia | omega)), ?_⟩
  first | refine lc_i rfl ?_ | refine lc_r rfl ?_ | refine lc_s rfl ?_ | refine lc_n rfl ?_
  try simp only [nth]
  refine e_b_div ?_
  rw [show ((i : Int) * ((S.length + 1 : Nat) : Int)) = ((i * (S.length + 1) : Nat) : Int) from (Int.natCast_mul _ _).symm, fdiv_nat]
  refine ⟨by (first | assumption | exact q1 ‹_› | exact q2 ‹_› ‹_› | exact q3 ‹_› ‹_› | exact q4 ‹_› ‹_› | exact q5 ‹_› | exact q6 ‹_› | lia | omega), by (first | assumption | exact q1 ‹_› | exact q2 ‹_› ‹_› | exact q3 ‹_› ‹_› | exact q4 ‹_› ‹_› | exact q5 ‹_› | exact q6 ‹_› | lia | omega), ?_⟩
  simp only [stW, setN]
  obtain ⟨j1, j2⟩ := excJ_lt (k := k) (i := i) hS
  have hJ : excJ S.length k i = if i * (S.length + 1) / k < 1 then 1 else if i * (S.length + 1) / k > S.length - 1 then S.length - 1 else i * (S.length + 1) / k := rfl
  unfold excN excD at hN
  -- the place, clamped
  refine seq_set ?_
  have clamp : ∀ (J : Nat) (Q' : V → St → Prop), Q' (.int ((if J < 1 then 1 else if J > S.length - 1 then S.length - 1 else J : Nat) : Int)) σ →
      xW W n (.ife (.cmp .Lt (.loc 7) (.con (.int (1)))) (.con (.int (1))) (.ife (.cmp .Gt (.loc 7) (.bin .Sub (.loc 3) (.con (.int (1))))) (.bin .Sub (.loc 3) (.con (.int (1)))) (.loc 7))) cs (.ref ds :: .int k :: w :: .int S.length :: .int (S.length + 1 : Nat) :: .ref dr :: .int i :: .int (J : Nat) :: v8 :: v9 :: tl) σ Q' := fun J Q' h => by
    refine e_x_ife (e_t_cmp ?_)
    first | refine lc_i rfl ?_ | refine lc_r rfl ?_ | refine lc_s rfl ?_ | refine lc_n rfl ?_
    refine e_x_con ?_
    refine e_c_lt ?_
    by_cases h1 : J < 1
    · refine ite_dt (by (first | assumption | exact q1 ‹_› | exact q2 ‹_› ‹_› | exact q3 ‹_› ‹_› | exact q4 ‹_› ‹_› | exact q5 ‹_› | exact q6 ‹_› | lia | omega)) ?_
      refine e_x_con ?_
      rw [if_pos h1] at h; exact h
    · refine ite_df (by (first | assumption | exact q1 ‹_› | exact q2 ‹_› ‹_› | exact q3 ‹_› ‹_› | exact q4 ‹_› ‹_› | exact q5 ‹_› | exact q6 ‹_› | lia | omega)) ?_
      refine e_x_ife (e_t_cmp ?_)
      rw [x_loc]
      rw [if_neg h1] at h
      refine ⟨nofun, ?_⟩
      refine e_x_bin ?_
      first | refine lc_i rfl ?_ | refine lc_r rfl ?_ | refine lc_s rfl ?_ | refine lc_n rfl ?_
      refine e_x_con ?_
      simp only [nth, b_sub, c_gt]
      by_cases h2 : J > S.length - 1
      · refine ite_dt (by (first | assumption | exact q1 ‹_› | exact q2 ‹_› ‹_› | exact q3 ‹_› ‹_› | exact q4 ‹_› ‹_› | exact q5 ‹_› | exact q6 ‹_› | lia | omega)) ?_
        refine e_x_bin ?_
        rw [x_loc]
        rw [if_pos h2] at h
        refine ⟨nofun, ?_⟩
        refine e_x_con ?_
        refine e_b_sub ?_
        rw [show ((S.length : Int) - 1) = ((S.length - 1 : Nat) : Int) by (first | assumption | exact q1 ‹_› | exact q2 ‹_› ‹_› | exact q3 ‹_› ‹_› | exact q4 ‹_› ‹_› | exact q5 ‹_› | exact q6 ‹_› | lia | omega)]
        exact h
      · refine ite_df (by (first | assumption | exact q1 ‹_› | exact q2 ‹_› ‹_› | exact q3 ‹_› ‹_› | exact q4 ‹_› ‹_› | exact q5 ‹_› | exact q6 ‹_› | lia | omega)) ?_
        rw [x_loc]
        rw [if_neg h2] at h
        exact ⟨nofun, h⟩
  refine clamp _ _ ?_
  rw [← hJ]
  generalize excJ S.length k i = J at j1 j2 hN ⊢
  have hJk : J * k ≤ 1000 * 1000 := Nat.mul_le_mul (by (first | assumption | exact q1 ‹_› | exact q2 ‹_› ‹_› | exact q3 ‹_› ‹_› | exact q4 ‹_› ‹_› | exact q5 ‹_› | exact q6 ‹_› | lia | omega)) (by (first | assumption | exact q1 ‹_› | exact q2 ‹_› ‹_› | exact q3 ‹_› ‹_› | exact q4 ‹_› ‹_› | exact q5 ‹_› | exact q6 ‹_› | lia | omega))
  simp only [stW, setN]
  refine seq_set ?_
  refine e_x_bin (e_x_bin ?_)
  first | refine lc_i rfl ?_ | refine lc_r rfl ?_ | refine lc_s rfl ?_ | refine lc_n rfl ?_
  first | refine lc_i rfl ?_ | refine lc_r rfl ?_ | refine lc_s rfl ?_ | refine lc_n rfl ?_
  refine e_b_mul ?_
  refine ⟨mul_ok (by (first | assumption | exact q1 ‹_› | exact q2 ‹_› ‹_› | exact q3 ‹_› ‹_› | exact q4 ‹_› ‹_› | exact q5 ‹_› | exact q6 ‹_› | lia | omega)), ?_⟩
  refine e_x_bin ?_
  first | refine lc_i rfl ?_ | refine lc_r rfl ?_ | refine lc_s rfl ?_ | refine lc_n rfl ?_
  first | refine lc_i rfl ?_ | refine lc_r rfl ?_ | refine lc_s rfl ?_ | refine lc_n rfl ?_
  refine e_b_mul ?_
  refine ⟨mul_ok (by (first | assumption | exact q1 ‹_› | exact q2 ‹_› ‹_› | exact q3 ‹_› ‹_› | exact q4 ‹_› ‹_› | exact q5 ‹_› | exact q6 ‹_› | lia | omega)), ?_⟩
  refine e_b_sub ?_
  rw [show ((i : Int) * ((S.length + 1 : Nat) : Int)) = ((i * (S.length + 1) : Nat) : Int) from (Int.natCast_mul _ _).symm, show ((J : Int) * (k : Int)) = ((J * k : Nat) : Int) from (Int.natCast_mul _ _).symm]
  simp only [stW, setN]
  generalize i * (S.length + 1) = T at hm hN ⊢
  generalize J * k = U at hJk hN ⊢
  refine seq_set (itp_ok (p1 := J - 1) (p2 := J) gs (fun Q' h => ?_) (fun Q' h => ⟨nofun, h⟩) (by (first | assumption | exact q1 ‹_› | exact q2 ‹_› ‹_› | exact q3 ‹_› ‹_› | exact q4 ‹_› ‹_› | exact q5 ‹_› | exact q6 ‹_› | lia | omega)) (by (first | assumption | exact q1 ‹_› | exact q2 ‹_› ‹_› | exact q3 ‹_› ‹_› | exact q4 ‹_› ‹_› | exact q5 ‹_› | exact q6 ‹_› | lia | omega)) hk0 (by (first | assumption | exact q1 ‹_› | exact q2 ‹_› ‹_› | exact q3 ‹_› ‹_› | exact q4 ‹_› ‹_› | exact q5 ‹_› | exact q6 ‹_› | lia | omega)) (by (first | assumption | exact q1 ‹_› | exact q2 ‹_› ‹_› | exact q3 ‹_› ‹_› | exact q4 ‹_› ‹_› | exact q5 ‹_› | exact q6 ‹_› | lia | omega)) hN hq ?_)
  · refine e_x_bin ?_
    first | refine lc_i rfl ?_ | refine lc_r rfl ?_ | refine lc_s rfl ?_ | refine lc_n rfl ?_
    refine e_x_con ?_
    refine e_b_sub ?_
    rw [show ((J : Int) - 1) = ((J - 1 : Nat) : Int) by (first | assumption | exact q1 ‹_› | exact q2 ‹_› ‹_› | exact q3 ‹_› ‹_› | exact q4 ‹_› ‹_› | exact q5 ‹_› | exact q6 ‹_› | lia | omega)]
    exact h
  simp only [stW, setN]
  exact appQ_ok (x := .flt (Float64.ofInt q)) gr hl nofun (z _ _ _ _ (Upd.set _ _ _) (St.set_same _ _ _))
end
end Mine

end
section -- L12e
namespace Mine
variable {W : Wd} {n : Nat} {σ σ' τ : St} {cs : List Addr}
section
variable {ds dr : Addr} {S : List Int} {k m i : Nat} {w v5 v6 v7 v8 v9 : V} {tl : List V} {r : Nat → Int} {xs : List V} {Q : Fl → St → List V → Prop}
theorem loopQ_ok {b : Mine.S} {ld : Int} (gs : σ ds = some (.lst (ivs S))) (hk : 1 ≤ k) (hk2 : k ≤ 1000)
    (hb : ∀ dr i σ1 v7 v8 v9 xs (Q : Fl → St → List V → Prop), 1 ≤ i → i < k → σ1 ds = some (.lst (ivs S)) → σ1 dr = some (.lst xs) → xs.length + 1 ≤ lim →
      (∀ σ' v7 v8 v9, Upd dr σ1 σ' → σ' dr = some (.lst (xs ++ [.flt (Float64.ofInt (r i))])) → Q .next σ' (.ref ds :: .int k :: w :: .int ld :: .int m :: .ref dr :: .int (i : Nat) :: v7 :: v8 :: v9 :: tl)) →
      sW W n b cs (.ref ds :: .int k :: w :: .int ld :: .int m :: .ref dr :: .int (i : Nat) :: v7 :: v8 :: v9 :: tl) σ1 Q)
    (q : ∀ dr σ' fr, σ dr = none → Ext σ σ' → σ' dr = some (.lst (fls r (k - 1))) → Q (.ret (.ref dr)) σ' fr) :
    sW W n (loopQ b) cs (.ref ds :: .int k :: w :: .int ld :: .int m :: v5 :: v6 :: v7 :: v8 :: v9 :: tl) σ Q := by
  unfold loopQ
  refine seq_set ?_
  refine e_x_lst (e_l_nil ?_)
  refine ⟨Nat.zero_le _, alW_of fun dr σ1 m1 e1 f1 => ?_⟩
  simp only [stW, setN]
  have hne : ds ≠ dr := ne_new gs m1
  refine seq_for ?_
  refine e_x_bcall (e_l_cons (e_x_con (e_l_cons ?_)))
  first | refine lc_i rfl ?_ | refine lc_r rfl ?_ | refine lc_s rfl ?_ | refine lc_n rfl ?_
  refine e_l_nil ?_
  try simp only [nth]
  have hs : small (k : Int) := small_nat (by (first | assumption | exact q1 ‹_› | exact q2 ‹_› ‹_› | exact q3 ‹_› ‹_› | exact q4 ‹_› ‹_› | exact q5 ‹_› | exact q6 ‹_› | lia | omega))
  refine range2_of (small_nat (k := 1) (by decide)) hs fun d2 σ2 m2 e2 f2 => ?_
  refine iter_rng f2 (small_nat (k := 1) (by decide)) hs (.inl rfl) ?_
  have len : (ivs (rangeL 1 (k : Int) 1)).length = k - 1 := len_range2 (a := 1)
  refine forW_inv (k := 0) (fun i fr σ' => fr = .ref ds :: .int k :: w :: .int ld :: .int m :: .ref dr :: nth fr 6 :: nth fr 7 :: nth fr 8 :: nth fr 9 :: tl ∧ Upd dr σ2 σ' ∧ σ' dr = some (.lst (fls r i))) (fun _ _ _ => False) ⟨rfl, (Ext.refl _).upd dr, e2 _ _ f1⟩ (fun i fr σ' hi hJ => ?_) (fun fr σ' hJ => ?_) (fun _ _ _ h => h.elim)
  · obtain ⟨hf, U, g⟩ := hJ
    rw [hf]
    rw [len] at hi
    rw [Nat.zero_add] at g ⊢
    refine ⟨trivial, fun Q' hQ' _ => ?_⟩
    rw [show nth (ivs (rangeL 1 (k : Int) 1)) i = .int ((1 + i : Nat) : Int) from nth_range2 (a := 1) hi, Nat.add_comm 1 i]
    simp only [tgW, stW, setN]
    refine hb dr (i + 1) σ' _ _ _ (fls r i) Q' (Nat.succ_pos _) (by (first | assumption | exact q1 ‹_› | exact q2 ‹_› ‹_› | exact q3 ‹_› ‹_› | exact q4 ‹_› ‹_› | exact q5 ‹_› | exact q6 ‹_› | lia | omega)) (U _ _ hne (e2 _ _ (e1 _ _ gs))) g (by rw [fls_len]; unfold lim; (first | assumption | exact q1 ‹_› | exact q2 ‹_› ‹_› | exact q3 ‹_› ‹_› | exact q4 ‹_› ‹_› | exact q5 ‹_› | exact q6 ‹_› | lia | omega)) fun σ3 v7 v8 v9 U3 g3 => ?_
    exact hQ' _ _ ⟨rfl, U.trans U3, by rw [fls_succ]; exact g3⟩
  · obtain ⟨hf, U, g⟩ := hJ
    rw [hf]
    rw [Nat.zero_add, len] at g
    refine ⟨trivial, seq_ret ?_⟩
    first | refine lc_i rfl ?_ | refine lc_r rfl ?_ | refine lc_s rfl ?_ | refine lc_n rfl ?_
    refine q dr σ' _ m1 (fun b o h => ?_) g
    exact U _ _ (ne_new h m1) (e2 _ _ (e1 _ _ h))
theorem head35 {a : Addr} {l : List Int} {k : Nat} {tl : List V} (ga : σ a = some (.lst (ivs l))) (hl : 2 ≤ l.length) (hk : 1 ≤ k)
    (q : ∀ ds σ', Ext σ σ' → σ' ds = some (.lst (ivs (isort l))) → sW W n (.seq (.ite (.cmp .Eq (.loc 2) (.con (.str "inclusive"))) (.seq (.set (.l 4) (.bin .Sub (.loc 3) (.con (.int (1))))) (loopQ incB)) .skip)
      (.seq (.ite (.cmp .Eq (.loc 2) (.con (.str "exclusive"))) (.seq (.set (.l 4) (.bin .Add (.loc 3) (.con (.int (1))))) (loopQ excB)) .skip) (.seq .bad .skip))) cs (.ref ds :: .int k :: w :: .int (isort l).length :: tl) σ' Q) :
    sW W n bd12_35 cs (.ref a :: .int k :: w :: v5 :: tl) σ Q := by
  rw [bd12_35_eq]
  refine seq_ite ?_
  refine e_t_cmp ?_
  first | refine lc_i rfl ?_ | refine lc_r rfl ?_ | refine lc_s rfl ?_ | refine lc_n rfl ?_
  refine e_x_con ?_
  refine e_c_lt ?_
  refine ite_df (by (first | assumption | exact q1 ‹_› | exact q2 ‹_› ‹_› | exact q3 ‹_› ‹_› | exact q4 ‹_› ‹_› | exact q5 ‹_› | exact q6 ‹_› | lia | omega)) ?_
  refine seq_skip (seq_set ?_)
  refine e_x_bcall (e_l_cons ?_)
  first | refine lc_i rfl ?_ | refine lc_r rfl ?_ | refine lc_s rfl ?_ | refine lc_n rfl ?_
  refine e_l_nil ?_
  refine sorted_of ga rfl fun ds σ1 m1 e1 f1 => ?_
  simp only [stW, setN]
  refine seq_set ?_
  refine e_x_bcall (e_l_cons ?_)
  first | refine lc_i rfl ?_ | refine lc_r rfl ?_ | refine lc_s rfl ?_ | refine lc_n rfl ?_
  refine e_l_nil ?_
  refine len_of f1 rfl ?_
  rw [ivs_length]
  simp only [stW, setN]
  refine seq_ite ?_
  refine e_t_cmp ?_
  first | refine lc_i rfl ?_ | refine lc_r rfl ?_ | refine lc_s rfl ?_ | refine lc_n rfl ?_
  refine e_x_con ?_
  refine e_c_lt ?_
  refine ite_df (by rw [isort_length]; (first | assumption | exact q1 ‹_› | exact q2 ‹_› ‹_› | exact q3 ‹_› ‹_› | exact q4 ‹_› ‹_› | exact q5 ‹_› | exact q6 ‹_› | lia | omega)) ?_
  exact seq_skip (q ds σ1 e1 f1)
end
theorem quant_exc {cs : List Addr} {a : Addr} {l : List Int} {k : Nat} {r : Nat → Int} {Q : V → St → Prop} (ga : σ a = some (.lst (ivs l))) (hl : 2 ≤ l.length) (hl2 : l.length ≤ 1000) (hk : 1 ≤ k) (hk2 : k ≤ 1000) (hT : Tells (excN (isort l) k) k r)
    (q : ∀ d σ', σ d = none → Ext σ σ' → σ' d = some (.lst (fls r (k - 1))) → Q (.ref d) σ') : sW W n bd12_35 cs (.ref a :: .int k :: .str "exclusive" :: undefs 13) σ fun f σ' _ => Q (retV f) σ' := by
  refine head35 ga hl hk fun ds σ1 e1 f1 => ?_
  refine seq_ite ?_
  refine e_t_cmp ?_
  first | refine lc_i rfl ?_ | refine lc_r rfl ?_ | refine lc_s rfl ?_ | refine lc_n rfl ?_
  refine e_x_con ?_
  simp only [nth, c_eqs]
  rw [show (("exclusive" : Str) == ("inclusive" : Str)) = false by decide +kernel, if_neg nofun]
  refine seq_skip (seq_ite ?_)
  refine e_t_cmp ?_
  first | refine lc_i rfl ?_ | refine lc_r rfl ?_ | refine lc_s rfl ?_ | refine lc_n rfl ?_
  refine e_x_con ?_
  simp only [nth, c_eqs]
  rw [beq_self_eq_true, if_pos rfl]
  refine seq_seq (seq_set ?_)
  refine e_x_bin ?_
  first | refine lc_i rfl ?_ | refine lc_r rfl ?_ | refine lc_s rfl ?_ | refine lc_n rfl ?_
  refine e_x_con ?_
  simp only [undefs, nth, b_add, stW, setN]
  rw [s_seq]
  have hS : (isort l).length = l.length := isort_length l
  generalize isort l = S at f1 hT hS
  refine loopQ_ok (ld := S.length) (m := S.length + 1) f1 hk hk2 (fun dr i σ2 v7 v8 v9 xs Q' h1 h2 gs gr hx z => ?_) fun dr σ' fr m2 e2 g2 => q dr σ' (e1.none m2) (e1.trans e2) g2
  obtain ⟨hN, hq⟩ := hT i h1 h2
  exact excB_ok gs gr hx (by (first | assumption | exact q1 ‹_› | exact q2 ‹_› ‹_› | exact q3 ‹_› ‹_› | exact q4 ‹_› ‹_› | exact q5 ‹_› | exact q6 ‹_› | lia | omega)) (by (first | assumption | exact q1 ‹_› | exact q2 ‹_› ‹_› | exact q3 ‹_› ‹_› | exact q4 ‹_› ‹_› | exact q5 ‹_› | exact q6 ‹_› | lia | omega)) h2 hk2 hN hq z
theorem quant_inc {cs : List Addr} {a : Addr} {l : List Int} {k : Nat} {r : Nat → Int} {Q : V → St → Prop} (ga : σ a = some (.lst (ivs l))) (hl : 2 ≤ l.length) (hl2 : l.length ≤ 1000) (hk : 1 ≤ k) (hk2 : k ≤ 1000) (hT : Tells (incN (isort l) k) k r)
    (q : ∀ d σ', σ d = none → Ext σ σ' → σ' d = some (.lst (fls r (k - 1))) → Q (.ref d) σ') : sW W n bd12_35 cs (.ref a :: .int k :: .str "inclusive" :: undefs 13) σ fun f σ' _ => Q (retV f) σ' := by
  refine head35 ga hl hk fun ds σ1 e1 f1 => ?_
  refine seq_ite ?_
  refine e_t_cmp ?_
  first | refine lc_i rfl ?_ | refine lc_r rfl ?_ | refine lc_s rfl ?_ | refine lc_n rfl ?_
  refine e_x_con ?_
  simp only [nth, c_eqs]
  rw [beq_self_eq_true, if_pos rfl]
  refine seq_seq (seq_set ?_)
  refine e_x_bin ?_
  first | refine lc_i rfl ?_ | refine lc_r rfl ?_ | refine lc_s rfl ?_ | refine lc_n rfl ?_
  refine e_x_con ?_
  simp only [undefs, nth, b_sub, stW, setN]
  rw [s_seq]
  have hS : (isort l).length = l.length := isort_length l
  generalize isort l = S at f1 hT hS
  rw [show ((S.length : Int) - 1) = ((S.length - 1 : Nat) : Int) by (first | assumption | exact q1 ‹_› | exact q2 ‹_› ‹_› | exact q3 ‹_› ‹_› | exact q4 ‹_› ‹_› | exact q5 ‹_› | exact q6 ‹_› | lia | omega)]
  refine loopQ_ok (ld := S.length) (m := S.length - 1) f1 hk hk2 (fun dr i σ2 v7 v8 v9 xs Q' h1 h2 gs gr hx z => ?_) fun dr σ' fr m2 e2 g2 => q dr σ' (e1.none m2) (e1.trans e2) g2
  obtain ⟨hN, hq⟩ := hT i h1 h2
  exact incB_ok gs gr hx (by (first | assumption | exact q1 ‹_› | exact q2 ‹_› ‹_› | exact q3 ‹_› ‹_› | exact q4 ‹_› ‹_› | exact q5 ‹_› | exact q6 ‹_› | lia | omega)) (by (first | assumption | exact q1 ‹_› | exact q2 ‹_› ‹_› | exact q3 ‹_› ‹_› | exact q4 ‹_› ‹_› | exact q5 ‹_› | exact q6 ‹_› | lia | omega)) h2 hk2 hN hq z
end Mine

end
section -- L12f
namespace Mine
variable {W : Wd} {n : Nat} {σ σ' τ : St} {cs : List Addr}

noncomputable def sgt (ns : List Int) (lo hi : Nat) : List Int := (ns.drop lo).take (hi - lo)
theorem sgt_get {ns : List Int} {lo hi i : Nat} (h : i < hi - lo) : (sgt ns lo hi).getD i 0 = ns.getD (lo + i) 0 := by
  unfold sgt
  rw [List.getD_eq_getElem?_getD, List.getElem?_take_of_lt h, List.getElem?_drop, ← List.getD_eq_getElem?_getD]
theorem sgt_len {ns : List Int} {lo hi : Nat} (h : hi ≤ ns.length) : (sgt ns lo hi).length = hi - lo := by
  unfold sgt; rw [List.length_take, List.length_drop, Nat.min_eq_left (Nat.sub_le_sub_right h lo)]
theorem sgt_count {ns : List Int} {lo hi r : Nat} {p : Int → Bool} (hh : hi ≤ ns.length) (h1 : lo ≤ r) (h2 : r ≤ hi) (h3 : ∀ i, lo ≤ i → i < r → p (ns.getD i 0) = true) (h4 : ∀ i, r ≤ i → i < hi → p (ns.getD i 0) = false) : r = lo + (sgt ns lo hi).countP p := by
  have hl := sgt_len (lo := lo) hh
  have := countP_at (p := p) (ns := sgt ns lo hi) (r := r - lo) (by rw [hl]; (first | assumption | exact q1 ‹_› | exact q2 ‹_› ‹_› | exact q3 ‹_› ‹_› | exact q4 ‹_› ‹_› | exact q5 ‹_› | exact q6 ‹_› | lia | omega)) (fun i hi' => by rw [sgt_get (by (first | assumption | exact q1 ‹_› | exact q2 ‹_› ‹_› | exact q3 ‹_› ‹_› | exact q4 ‹_› ‹_› | exact q5 ‹_› | exact q6 ‹_› | lia | omega))]; exact h3 _ (Nat.le_add_right _ _) (by (first | assumption | exact q1 ‹_› | exact q2 ‹_› ‹_› | exact q3 ‹_› ‹_› | exact q4 ‹_› ‹_› | exact q5 ‹_› | exact q6 ‹_› | lia | omega))) (fun i h5 h6 => by rw [hl] at h6; rw [sgt_get h6]; exact h4 _ (by (first | assumption | exact q1 ‹_› | exact q2 ‹_› ‹_› | exact q3 ‹_› ‹_› | exact q4 ‹_› ‹_› | exact q5 ‹_› | exact q6 ‹_› | lia | omega)) (by (first | assumption | exact q1 ‹_› | exact q2 ‹_› ‹_› | exact q3 ‹_› ‹_› | exact q4 ‹_› ‹_› | exact q5 ‹_› | exact q6 ‹_› | lia | omega)))
  rw [this]; (first | assumption | exact q1 ‹_› | exact q2 ‹_› ‹_› | exact q3 ‹_› ‹_› | exact q4 ‹_› ‹_› | exact q5 ‹_› | exact q6 ‹_› | lia | omega)
theorem sgt_mono {ns : List Int} {lo hi : Nat} (hh : hi ≤ ns.length) (hs : Sorted (sgt ns lo hi)) {i j : Nat} (h1 : lo ≤ i) (h2 : i ≤ j) (h3 : j < hi) : ns.getD i 0 ≤ ns.getD j 0 := by
  have := hs.le (i := i - lo) (j := j - lo) (by (first | assumption | exact q1 ‹_› | exact q2 ‹_› ‹_› | exact q3 ‹_› ‹_› | exact q4 ‹_› ‹_› | exact q5 ‹_› | exact q6 ‹_› | lia | omega)) (by rw [sgt_len hh]; (first | assumption | exact q1 ‹_› | exact q2 ‹_› ‹_› | exact q3 ‹_› ‹_› | exact q4 ‹_› ‹_› | exact q5 ‹_› | exact q6 ‹_› | lia | omega))
  rwa [sgt_get (by (first | assumption | exact q1 ‹_› | exact q2 ‹_› ‹_› | exact q3 ‹_› ‹_› | exact q4 ‹_› ‹_› | exact q5 ‹_› | exact q6 ‹_› | lia | omega)), sgt_get (by (first | assumption | exact q1 ‹_› | exact q2 ‹_› ‹_› | exact q3 ‹_› ‹_› | exact q4 ‹_› ‹_› | exact q5 ‹_› | exact q6 ‹_› | lia | omega)), show lo + (i - lo) = i by (first | assumption | exact q1 ‹_› | exact q2 ‹_› ‹_› | exact q3 ‹_› ‹_› | exact q4 ‹_› ‹_› | exact q5 ‹_› | exact q6 ‹_› | lia | omega), show lo + (j - lo) = j by (first | assumption | exact q1 ‹_› | exact q2 ‹_› ‹_› | exact q3 ‹_› ‹_› | exact q4 ‹_› ‹_› | exact q5 ‹_› | exact q6 ‹_› | lia | omega)] at this
theorem bl_seg {fa : Addr} (F : FnB W fa S_bl 3) {a : Addr} {ns : List Int} {x : Int} {lo hi : Nat} {Q : V → St → Prop} (ho : σ a = some (.lst (ivs ns))) (hlh : lo ≤ hi) (hh : hi ≤ ns.length) (hs : Sorted (sgt ns lo hi))
    (q : Q (.int ((lo + (sgt ns lo hi).countP (fun y => decide (y < x)) : Nat) : Int)) σ) : CallOK W (n + 1) (.ref fa) [.ref a, .int x, .int lo, .int hi] [] [] Q σ := by
  obtain ⟨cs, F⟩ := F
  refine F [_, _, _, _] [] _ n Q σ rfl (bl_run (lo := lo) (hi := hi) ho rfl (.inr ⟨rfl, hh⟩) hlh (fun i j h1 h2 h3 => sgt_mono hh hs h1 h2 h3) fun r fr h1 h2 h3 h4 => ?_)
  rw [← sgt_count (r := r) hh h1 h2 (fun i a b => decide_eq_true (h3 i a b)) (fun i a b => decide_eq_false (Int.not_lt.mpr (h4 i a b)))] at q
  exact q
theorem br_seg {fa : Addr} (F : FnB W fa S_br 3) {a : Addr} {ns : List Int} {x : Int} {lo hi : Nat} {Q : V → St → Prop} (ho : σ a = some (.lst (ivs ns))) (hlh : lo ≤ hi) (hh : hi ≤ ns.length) (hs : Sorted (sgt ns lo hi))
    (q : Q (.int ((lo + (sgt ns lo hi).countP (fun y => decide (y ≤ x)) : Nat) : Int)) σ) : CallOK W (n + 1) (.ref fa) [.ref a, .int x, .int lo, .int hi] [] [] Q σ := by
  obtain ⟨cs, F⟩ := F
  refine F [_, _, _, _] [] _ n Q σ rfl (br_run (lo := lo) (hi := hi) ho rfl (.inr ⟨rfl, hh⟩) hlh (fun i j h1 h2 h3 => sgt_mono hh hs h1 h2 h3) fun r fr h1 h2 h3 h4 => ?_)
  rw [← sgt_count (r := r) hh h1 h2 (fun i a b => decide_eq_true (h3 i a b)) (fun i a b => decide_eq_false (Int.not_le.mpr (h4 i a b)))] at q
  exact q
theorem sgt_tail (A s : List Int) : sgt (A ++ s) A.length (A ++ s).length = s := by
  unfold sgt
  rw [List.drop_left, List.length_append, Nat.add_sub_cancel_left, List.take_length]
/-- into the stretch behind A -/
theorem insort_lo {fa fb : Addr} (F : FnL W fa (S_in fb) 1) (F' : FnB W fb S_br 3) {a : Addr} {A s : List Int} {x : Int} {Q : V → St → Prop} (ho : σ a = some (.lst (ivs (A ++ s)))) (hs : Sorted s) (hl : (A ++ s).length < lim)
    (q : Q .none (σ.set a (.lst (ivs (A ++ ins x s))))) : CallOK W (n + 2) (.ref fa) [.ref a, .int x] ["lo"] [.int A.length] Q σ := by
  obtain ⟨cs, F⟩ := F
  obtain ⟨cs', F'⟩ := F'
  refine F _ _ _ (n + 1) Q σ ?_
  unfold S_in
  refine seq_ite ?_
  refine e_t_cmp ?_
  first | refine lc_i rfl ?_ | refine lc_r rfl ?_ | refine lc_s rfl ?_ | refine lc_n rfl ?_
  refine e_x_con ?_
  try simp only [nth]
  refine e_c_is ?_
  rw [if_pos rfl]
  refine seq_seq (seq_set ?_)
  refine e_x_call (e_x_con (e_l_cons ?_))
  first | refine lc_i rfl ?_ | refine lc_r rfl ?_ | refine lc_s rfl ?_ | refine lc_n rfl ?_
  refine e_l_cons ?_
  first | refine lc_i rfl ?_ | refine lc_r rfl ?_ | refine lc_s rfl ?_ | refine lc_n rfl ?_
  refine e_l_cons ?_
  first | refine lc_i rfl ?_ | refine lc_r rfl ?_ | refine lc_s rfl ?_ | refine lc_n rfl ?_
  refine e_l_cons ?_
  first | refine lc_i rfl ?_ | refine lc_r rfl ?_ | refine lc_s rfl ?_ | refine lc_n rfl ?_
  simp only [nth, l_nil]
  have hst := sgt_tail A s
  have hle : A.length ≤ (A ++ s).length := by rw [List.length_append]; exact Nat.le_add_right _ _
  refine F' [_, _, _, _] [] _ n _ σ rfl (br_run (lo := A.length) (hi := (A ++ s).length) ho rfl (.inl ⟨rfl, rfl⟩) hle (fun i j h1 h2 h3 => sgt_mono (Nat.le_refl _) (by rw [hst]; exact hs) h1 h2 h3) fun r fr h1 h2 h3 h4 => ?_)
  simp only [retV, stW, setN]
  refine seq_skip (seq_exp ?_)
  refine e_x_meth ?_
  first | refine lc_i rfl ?_ | refine lc_r rfl ?_ | refine lc_s rfl ?_ | refine lc_n rfl ?_
  refine mlist_of ho ?_
  refine e_l_cons ?_
  first | refine lc_i rfl ?_ | refine lc_r rfl ?_ | refine lc_s rfl ?_ | refine lc_n rfl ?_
  refine e_l_cons ?_
  first | refine lc_i rfl ?_ | refine lc_r rfl ?_ | refine lc_s rfl ?_ | refine lc_n rfl ?_
  simp only [nth, l_nil, m_insert]
  refine mlist_of ho ⟨Int.natCast_nonneg _, by rw [ivs_length]; exact Int.ofNat_le.mpr h2, by rw [ivs_length]; exact hl, ?_⟩
  rw [Int.toNat_natCast, take_ivs]
  have hg : ∀ i, i < s.length → s.getD i 0 = (A ++ s).getD (A.length + i) 0 := fun i hi => by
    rw [List.getD_eq_getElem?_getD, List.getD_eq_getElem?_getD, List.getElem?_append_right (Nat.le_add_right _ _), Nat.add_sub_cancel_left]
  rw [List.length_append] at h2 h4
  have e : (A ++ s).take r ++ x :: (A ++ s).drop r = A ++ ins x s := by
    have hr : r = A.length + (r - A.length) := by (first | assumption | exact q1 ‹_› | exact q2 ‹_› ‹_› | exact q3 ‹_› ‹_› | exact q4 ‹_› ‹_› | exact q5 ‹_› | exact q6 ‹_› | lia | omega)
    have h5 : r - A.length ≤ s.length := by (first | assumption | exact q1 ‹_› | exact q2 ‹_› ‹_› | exact q3 ‹_› ‹_› | exact q4 ‹_› ‹_› | exact q5 ‹_› | exact q6 ‹_› | lia | omega)
    rw [hr, List.take_length_add_append, List.drop_length_add_append, List.append_assoc]
    congr 1
    exact ins_at h5 (fun i hi => by rw [hg i (by (first | assumption | exact q1 ‹_› | exact q2 ‹_› ‹_› | exact q3 ‹_› ‹_› | exact q4 ‹_› ‹_› | exact q5 ‹_› | exact q6 ‹_› | lia | omega))]; exact h3 _ (Nat.le_add_right _ _) (by (first | assumption | exact q1 ‹_› | exact q2 ‹_› ‹_› | exact q3 ‹_› ‹_› | exact q4 ‹_› ‹_› | exact q5 ‹_› | exact q6 ‹_› | lia | omega))) (fun i h6 h7 => by rw [hg i h7]; exact Int.le_of_lt (h4 _ (by (first | assumption | exact q1 ‹_› | exact q2 ‹_› ‹_› | exact q3 ‹_› ‹_› | exact q4 ‹_› ‹_› | exact q5 ‹_› | exact q6 ‹_› | lia | omega)) (by (first | assumption | exact q1 ‹_› | exact q2 ‹_› ‹_› | exact q3 ‹_› ‹_› | exact q4 ‹_› ‹_› | exact q5 ‹_› | exact q6 ‹_› | lia | omega)))) hs
  rw [e]
  exact q
end Mine

end
section -- M12
namespace Mine

/-- every q-th number of a part -/
noncomputable def mk (q : Nat) (l : List Int) : List Int := (List.range ((l.length + 1) / q - 1)).map fun i => (isort l).getD ((i + 1) * q - 1) 0
noncomputable def cnt (t : Int) (l : List Int) : Nat := l.countP fun y => decide (y < t)
theorem cnt_app (t : Int) (a b : List Int) : cnt t (a ++ b) = cnt t a + cnt t b := List.countP_append
theorem place_ge {l : List Int} {i : Nat} {t : Int} (h : i < l.length) : t ≤ (isort l).getD i 0 ↔ cnt t l ≤ i := ord_iff h
theorem place_le {l : List Int} {p : Nat} {B : Int} (h : p < l.length) : (isort l).getD p 0 ≤ B ↔ p < l.countP (fun y => decide (y ≤ B)) := by
  have := ord_iff (l := l) (t := B + 1) h
  have e : (fun y : Int => decide (y < B + 1)) = fun y => decide (y ≤ B) := funext fun y => decide_eq_decide.mpr Int.lt_add_one_iff
  rw [e] at this
  (first | assumption | exact q1 ‹_› | exact q2 ‹_› ‹_› | exact q3 ‹_› ‹_› | exact q4 ‹_› ‹_› | exact q5 ‹_› | exact q6 ‹_› | lia | omega)
theorem cnt_range (m : Nat) : ∀ K : Nat, (List.range K).countP (fun i => decide (i < m)) = min m K
  | 0 => (Nat.min_zero m).symm
  | K + 1 => by
    rw [List.range_succ, List.countP_append, cnt_range m K, List.countP_singleton]
    by_cases h : K < m
    · rw [if_pos (decide_eq_true h), Nat.min_eq_right (Nat.le_of_lt h), Nat.min_eq_right h]
    · rw [if_neg (by rw [decide_eq_true_eq]; exact h), Nat.min_eq_left (Nat.not_lt.mp h), Nat.min_eq_left (Nat.le_succ_of_le (Nat.not_lt.mp h))]; rfl
section
variable {q : Nat} {l : List Int}
theorem parts_k (hq : 0 < q) (h : (l.length + 1) % q = 0) : ∃ k, l.length + 1 = (k + 1) * q ∧ (l.length + 1) / q = k + 1 := by
  have h1 := Nat.div_add_mod (l.length + 1) q
  rw [h, Nat.add_zero] at h1
  have h2 : (l.length + 1) / q ≠ 0 := fun e => by rw [e, Nat.mul_zero] at h1; (first | exact nS h1 | exact nO h1 | exact nF h1 | exact nT h1 | exact nN h1 | exact nC h1 | cases h1)
  obtain ⟨k, hk⟩ := Nat.exists_eq_succ_of_ne_zero h2
  exact ⟨k, by rw [show k + 1 = _ from hk.symm, Nat.mul_comm]; exact h1.symm, hk⟩
theorem mk_len (hq : 0 < q) (h : (l.length + 1) % q = 0) : l.length = q * (mk q l).length + (q - 1) := by
  obtain ⟨k, h1, h2⟩ := parts_k hq h
  have e : (mk q l).length = k := by unfold mk; rw [List.length_map, List.length_range, h2]; rfl
  rw [e]
  rw [Nat.add_mul, Nat.one_mul, Nat.mul_comm] at h1
  (first | assumption | exact q1 ‹_› | exact q2 ‹_› ‹_› | exact q3 ‹_› ‹_› | exact q4 ‹_› ‹_› | exact q5 ‹_› | exact q6 ‹_› | lia | omega)
theorem mk_count (hq : 0 < q) (h : (l.length + 1) % q = 0) (t : Int) : cnt t (mk q l) = cnt t l / q := by
  obtain ⟨k, h1, h2⟩ := parts_k hq h
  have hc : cnt t l ≤ l.length := List.countP_le_length
  have hk : cnt t l / q ≤ k := Nat.le_of_lt_succ (Nat.div_lt_of_lt_mul (by rw [Nat.mul_comm, ← h1]; (first | assumption | exact q1 ‹_› | exact q2 ‹_› ‹_› | exact q3 ‹_› ‹_› | exact q4 ‹_› ‹_› | exact q5 ‹_› | exact q6 ‹_› | lia | omega)))
  have e : mk q l = (List.range k).map fun i => (isort l).getD ((i + 1) * q - 1) 0 := by unfold mk; rw [h2]; rfl
  rw [e]
  unfold cnt at hc hk ⊢
  rw [List.countP_map]
  rw [show (List.range k).countP _ = (List.range k).countP (fun i => decide (i < (l.countP fun y => decide (y < t)) / q)) from List.countP_congr fun i hi => ?_, cnt_range, Nat.min_eq_left hk]
  have hi := List.mem_range.mp hi
  have hlt : (i + 1) * q ≤ k * q := Nat.mul_le_mul_right q hi
  rw [Nat.add_mul, Nat.one_mul] at h1
  have hp : 0 < (i + 1) * q := Nat.mul_pos (Nat.succ_pos _) hq
  have hin : (i + 1) * q - 1 < l.length := by (first | assumption | exact q1 ‹_› | exact q2 ‹_› ‹_› | exact q3 ‹_› ‹_› | exact q4 ‹_› ‹_› | exact q5 ‹_› | exact q6 ‹_› | lia | omega)
  rw [Function.comp_apply, decide_eq_true_eq, decide_eq_true_eq, ← Int.not_le, place_ge hin]
  unfold cnt
  rw [← Nat.succ_le_iff (m := i), Nat.le_div_iff_mul_le hq]
  show _ ↔ (i + 1) * q ≤ _
  (first | assumption | exact q1 ‹_› | exact q2 ‹_› ‹_› | exact q3 ‹_› ‹_› | exact q4 ‹_› ‹_› | exact q5 ‹_› | exact q6 ‹_› | lia | omega)
end
/-- all marks, all items -/
noncomputable def marks (q : Nat) (P : List (List Int)) : List Int := (P.map (mk q)).flatten
theorem rank_both {q : Nat} (hq : 0 < q) : ∀ {P : List (List Int)}, (∀ l ∈ P, (l.length + 1) % q = 0) →
    P.flatten.length = q * (marks q P).length + P.length * (q - 1) ∧ ∀ t, q * cnt t (marks q P) ≤ cnt t P.flatten ∧ cnt t P.flatten ≤ q * cnt t (marks q P) + P.length * (q - 1)
  | [], _ => ⟨by simp [marks], fun t => by simp [marks, cnt]⟩
  | l :: P, h => by
    have hl := h l (.head _)
    obtain ⟨h1, h2⟩ := rank_both hq (P := P) fun l hl => h l (.tail _ hl)
    have e1 : (l :: P).flatten = l ++ P.flatten := List.flatten_cons
    have e2 : marks q (l :: P) = mk q l ++ marks q P := by unfold marks; rw [List.map_cons, List.flatten_cons]
    have e3 : (l :: P).length * (q - 1) = P.length * (q - 1) + (q - 1) := by rw [List.length_cons, Nat.add_mul, Nat.one_mul]
    rw [e1, e2, e3]
    refine ⟨?_, fun t => ?_⟩
    · have := mk_len hq hl
      rw [List.length_append, List.length_append, Nat.mul_add]; (first | assumption | exact q1 ‹_› | exact q2 ‹_› ‹_› | exact q3 ‹_› ‹_› | exact q4 ‹_› ‹_› | exact q5 ‹_› | exact q6 ‹_› | lia | omega)
    · obtain ⟨h3, h4⟩ := h2 t
      rw [cnt_app, cnt_app, mk_count hq hl, Nat.mul_add]
      have h5 := Nat.div_add_mod (cnt t l) q
      have h6 := Nat.mod_lt (cnt t l) hq
      (first | assumption | exact q1 ‹_› | exact q2 ‹_› ‹_› | exact q3 ‹_› ‹_› | exact q4 ‹_› ‹_› | exact q5 ‹_› | exact q6 ‹_› | lia | omega)
theorem split_count {A B c : Int → Bool} (h1 : ∀ y, A y = true → c y = true) (h2 : ∀ y, A y = false → B y = true → c y = false) : ∀ E : List Int, E.countP c = E.countP A + (E.filter fun y => !A y && !B y).countP c
  | [] => rfl
  | y :: E => by
    rw [List.countP_cons, List.countP_cons, split_count h1 h2 E, List.filter_cons]
    cases hA : A y with
    | true => rw [h1 y hA]; simp only [Bool.not_true, Bool.false_and, Bool.false_eq_true, if_false, if_true]; (first | assumption | exact q1 ‹_› | exact q2 ‹_› ‹_› | exact q3 ‹_› ‹_› | exact q4 ‹_› ‹_› | exact q5 ‹_› | exact q6 ‹_› | lia | omega)
    | false =>
      cases hB : B y with
      | true => rw [h2 y hA hB]; simp
      | false =>
        simp only [Bool.not_false, Bool.and_self, if_true, List.countP_cons, Bool.false_eq_true, if_false]; (first | assumption | exact q1 ‹_› | exact q2 ‹_› ‹_› | exact q3 ‹_› ‹_› | exact q4 ‹_› ‹_› | exact q5 ‹_› | exact q6 ‹_› | lia | omega)
section
variable {A B : Int → Bool} {E F : List Int} {p : Nat}
/-- a place among those between -/
theorem mid_place (hA : ∀ x y, A x = true → y ≤ x → A y = true) (hB : ∀ x y, B x = true → x ≤ y → B y = true) (hF : (isort F) = isort (E.filter fun y => !A y && !B y)) (hE : p < E.length) (h1 : E.countP A ≤ p) (h2 : p < E.countP A + F.length) :
    (isort F).getD (p - E.countP A) 0 = (isort E).getD p 0 := by
  have hl : F.length = (E.filter fun y => !A y && !B y).length := by rw [← isort_length F, hF, isort_length]
  rw [hF]
  have hG : ∀ x ∈ E.filter (fun y => !A y && !B y), A x = false ∧ B x = false := fun x hx => by
    have := (List.mem_filter.mp hx).2
    cases hA : A x <;> cases hB : B x <;> rw [hA, hB] at this <;> first | exact ⟨rfl, rfl⟩ | (first | exact nS this | exact nO this | exact nF this | exact nT this | exact nN this | exact nC this | cases this)
  have sc := fun c h1 h2 => split_count (A := A) (B := B) (c := c) h1 h2 E
  generalize E.filter (fun y => !A y && !B y) = G at hl hG sc
  have hpG : p - E.countP A < G.length := by (first | assumption | exact q1 ‹_› | exact q2 ‹_› ‹_› | exact q3 ‹_› ‹_› | exact q4 ‹_› ‹_› | exact q5 ‹_› | exact q6 ‹_› | omega)
  obtain ⟨ha, hb⟩ := hG _ (mem_isort.mp (getD_mem (by rw [isort_length]; exact hpG)))
  have e1 : p - E.countP A < G.countP fun y => decide (y ≤ (isort G).getD (p - E.countP A) 0) := (place_le hpG).mp (Int.le_refl _)
  have e2 : cnt ((isort G).getD (p - E.countP A) 0) G ≤ p - E.countP A := (place_ge hpG).mp (Int.le_refl _)
  generalize (isort G).getD (p - E.countP A) 0 = x at ha hb e1 e2
  have no : ∀ {b : Bool}, b = true → b = false → False := fun h h' => by rw [h] at h'; (first | exact nS h' | exact nO h' | exact nF h' | exact nT h' | exact nN h' | exact nC h' | cases h')
  refine Int.le_antisymm ?_ ?_
  · rw [place_ge hE]
    unfold cnt at e2 ⊢
    rw [sc (fun y => decide (y < x)) (fun y h => decide_eq_true (Int.not_le.mp fun q => no (hA y x h q) ha)) fun y _ h => decide_eq_false fun q => no (hB y x h (Int.le_of_lt q)) hb]
    (first | assumption | exact q1 ‹_› | exact q2 ‹_› ‹_› | exact q3 ‹_› ‹_› | exact q4 ‹_› ‹_› | exact q5 ‹_› | exact q6 ‹_› | omega)
  · rw [place_le hE, sc (fun y => decide (y ≤ x)) (fun y h => decide_eq_true (Int.not_lt.mp fun q => no (hA y x h (Int.le_of_lt q)) ha)) fun y _ h => decide_eq_false fun q => no (hB y x h q) hb]
    (first | assumption | exact q1 ‹_› | exact q2 ‹_› ‹_› | exact q3 ‹_› ‹_› | exact q4 ‹_› ‹_› | exact q5 ‹_› | exact q6 ‹_› | omega)
end
/-- the numbers between two bounds, where there are any -/
noncomputable def upTo (v : Option Int) (y : Int) : Bool := match v with
  | none => false
  | some v => decide (y ≤ v)
noncomputable def from_ (w : Option Int) (y : Int) : Bool := match w with
  | none => false
  | some w => decide (w ≤ y)
theorem upTo_dn (v : Option Int) (x y : Int) (h : upTo v x = true) (hy : y ≤ x) : upTo v y = true := by
  cases v with
  | none => (first | exact nS h | exact nO h | exact nF h | exact nT h | exact nN h | exact nC h | cases h)
  | some v => exact decide_eq_true (Int.le_trans hy (of_decide_eq_true h))
theorem from_up (w : Option Int) (x y : Int) (h : from_ w x = true) (hy : x ≤ y) : from_ w y = true := by
  cases w with
  | none => (first | exact nS h | exact nO h | exact nF h | exact nT h | exact nN h | exact nC h | cases h)
  | some w => exact decide_eq_true (Int.le_trans (of_decide_eq_true h) hy)
noncomputable def btw (v w : Option Int) (y : Int) : Bool := !upTo v y && !from_ w y
section
variable {q p : Nat} {P : List (List Int)}
/-- the marks that shut the item at place p in -/
noncomputable def loB12 (q reach : Nat) (M : List Int) (p : Nat) : Option Int := if reach ≤ p then some (M.getD ((p - reach) / q) 0) else none
noncomputable def hiB12 (q : Nat) (M : List Int) (p : Nat) : Option Int := if p / q < M.length then some (M.getD (p / q) 0) else none
structure Rank (q : Nat) (E M : List Int) (reach : Nat) : Prop where
  q2 : 2 ≤ q
  len : E.length = q * M.length + reach
  ge : ∀ t, q * cnt t M ≤ cnt t E
  le : ∀ t, cnt t E ≤ q * cnt t M + reach
theorem Rank.of {q : Nat} (hq : 2 ≤ q) (h : ∀ l ∈ P, (l.length + 1) % q = 0) : Rank q P.flatten (marks q P) (P.length * (q - 1)) := by
  obtain ⟨h1, h2⟩ := rank_both (Nat.lt_of_lt_of_le (by decide) hq) h
  exact ⟨hq, h1, fun t => (h2 t).1, fun t => (h2 t).2⟩
variable {E M : List Int} {reach : Nat}
theorem Rank.q0 (R : Rank q E M reach) : 0 < q := Nat.lt_of_lt_of_le (by decide) R.q2
theorem Rank.low_lt (R : Rank q E M reach) (hp : p < E.length) (h : reach ≤ p) : (p - reach) / q < M.length := Nat.div_lt_of_lt_mul (by have := R.len; (first | assumption | exact q1 ‹_› | exact q2 ‹_› ‹_› | exact q3 ‹_› ‹_› | exact q4 ‹_› ‹_› | exact q5 ‹_› | exact q6 ‹_› | omega))
theorem Rank.low_le (R : Rank q E M reach) (hp : p < E.length) (h : reach ≤ p) : (isort M).getD ((p - reach) / q) 0 ≤ (isort E).getD p 0 := by
  have h1 := (place_ge (R.low_lt hp h)).mp (Int.le_refl _)
  rw [place_ge hp]
  have h2 := R.le ((isort M).getD ((p - reach) / q) 0)
  have h3 := Nat.mul_le_mul_left q h1
  have h4 := Nat.mul_div_le (p - reach) q
  (first | assumption | exact q1 ‹_› | exact q2 ‹_› ‹_› | exact q3 ‹_› ‹_› | exact q4 ‹_› ‹_› | exact q5 ‹_› | exact q6 ‹_› | lia | omega)
theorem Rank.high_ge (R : Rank q E M reach) (hp : p < E.length) (h : p / q < M.length) : (isort E).getD p 0 ≤ (isort M).getD (p / q) 0 := by
  rw [place_ge h]
  have h1 := (place_ge hp).mp (Int.le_refl ((isort E).getD p 0))
  have h2 := R.ge ((isort E).getD p 0)
  exact (Nat.le_div_iff_mul_le R.q0).mpr (by rw [Nat.mul_comm]; (first | assumption | exact q1 ‹_› | exact q2 ‹_› ‹_› | exact q3 ‹_› ‹_› | exact q4 ‹_› ‹_› | exact q5 ‹_› | exact q6 ‹_› | lia | omega))
variable {v w : Option Int} {F : List Int}
theorem Rank.first (R : Rank q E M reach) (hp : p < E.length) (hv : v = loB12 q reach (isort M) p) (h : p < E.countP (upTo v)) : reach ≤ p ∧ (isort M).getD ((p - reach) / q) 0 = (isort E).getD p 0 := by
  unfold loB12 at hv
  by_cases hr : reach ≤ p
  · rw [if_pos hr] at hv
    subst hv
    exact ⟨hr, Int.le_antisymm (R.low_le hp hr) ((place_le hp).mpr h)⟩
  · rw [if_neg hr] at hv
    subst hv
    have e : E.countP (upTo none) = 0 := List.countP_eq_zero.mpr fun _ _ h => by (first | exact nS h | exact nO h | exact nF h | exact nT h | exact nN h | exact nC h | cases h)
    rw [e] at h; (first | exact nS h | exact nO h | exact nF h | exact nT h | exact nN h | exact nC h | cases h)
theorem Rank.last (R : Rank q E M reach) (hp : p < E.length) (hw : w = hiB12 q (isort M) p) (hF : F.length = (E.filter (btw v w)).length) (h : E.countP (upTo v) + F.length ≤ p) : p / q < M.length ∧ (isort M).getD (p / q) 0 = (isort E).getD p 0 := by
  have sc := fun c h1 h2 => split_count (A := upTo v) (B := from_ w) (c := c) h1 h2 E
  unfold hiB12 at hw
  rw [isort_length] at hw
  have lim : ∀ c : Int → Bool, (E.filter (btw v w)).countP c ≤ F.length := fun c => by rw [hF]; exact List.countP_le_length
  by_cases hr : p / q < M.length
  · rw [if_pos hr] at hw
    refine ⟨hr, Int.le_antisymm ?_ (R.high_ge hp hr)⟩
    rw [place_ge hp]
    generalize (isort M).getD (p / q) 0 = u at hw
    subst hw
    have key : cnt u E ≤ E.countP (upTo v) + F.length := by
      have h1 : cnt u E ≤ E.countP (fun y => upTo v y || decide (y < u)) := List.countP_mono_left fun y _ h => by rw [h, Bool.or_true]
      have h2 := sc (fun y => upTo v y || decide (y < u)) (fun y h => by rw [h]; rfl) fun y h h' => by
        rw [h, Bool.false_or]; exact decide_eq_false (Int.not_lt.mpr (of_decide_eq_true h'))
      have h3 := lim fun y => upTo v y || decide (y < u)
      unfold btw at h3
      (first | assumption | exact q1 ‹_› | exact q2 ‹_› ‹_› | exact q3 ‹_› ‹_› | exact q4 ‹_› ‹_› | exact q5 ‹_› | exact q6 ‹_› | lia | omega)
    (first | assumption | exact q1 ‹_› | exact q2 ‹_› ‹_› | exact q3 ‹_› ‹_› | exact q4 ‹_› ‹_› | exact q5 ‹_› | exact q6 ‹_› | lia | omega)
  · rw [if_neg hr] at hw
    subst hw
    have h2 := sc (fun _ => true) (fun _ _ => rfl) fun y _ h => by (first | exact nS h | exact nO h | exact nF h | exact nT h | exact nN h | exact nC h | cases h)
    rw [List.countP_true] at h2
    have e : (E.filter (btw v none)).length = F.length := hF.symm
    unfold btw at e
    (first | assumption | exact q1 ‹_› | exact q2 ‹_› ‹_› | exact q3 ‹_› ‹_› | exact q4 ‹_› ‹_› | exact q5 ‹_› | exact q6 ‹_› | lia | omega)
theorem Rank.few (R : Rank q E M reach) (hr : 0 < reach) (hp : p < E.length) (hv : v = loB12 q reach (isort M) p) (hw : w = hiB12 q (isort M) p) : (E.filter (btw v w)).length < 2 * reach := by
  cases hG : E.filter (btw v w) with
  | nil => show 0 < _; (first | assumption | exact q1 ‹_› | exact q2 ‹_› ‹_› | exact q3 ‹_› ‹_› | exact q4 ‹_› ‹_› | exact q5 ‹_› | exact q6 ‹_› | lia | omega)
  | cons x G =>
    have hx : x ∈ E.filter (btw v w) := by rw [hG]; exact .head _
    have hb := (List.mem_filter.mp hx).2
    rw [← hG]
    clear hG hx
    have hxa : upTo v x = false := by
      unfold btw at hb
      cases h : upTo v x with
      | false => rfl
      | true => rw [h] at hb; (first | exact nS hb | exact nO hb | exact nF hb | exact nT hb | exact nN hb | exact nC hb | cases hb)
    have hxb : from_ w x = false := by
      unfold btw at hb
      cases h : from_ w x with
      | false => rfl
      | true => rw [h, Bool.and_comm] at hb; (first | exact nS hb | exact nO hb | exact nF hb | exact nT hb | exact nN hb | exact nC hb | cases hb)
    have h2 := split_count (A := upTo v) (B := from_ w) (c := fun y => !from_ w y) (fun y h => by
      cases h' : from_ w y with
      | false => rfl
      | true =>
        have h3 : y < x := Int.not_le.mp fun q => by rw [upTo_dn v y x h q] at hxa; (first | exact nS hxa | exact nO hxa | exact nF hxa | exact nT hxa | exact nN hxa | exact nC hxa | cases hxa)
        rw [from_up w y x h' (Int.le_of_lt h3)] at hxb; (first | exact nS hxb | exact nO hxb | exact nF hxb | exact nT hxb | exact nN hxb | exact nC hxb | cases hxb)) (fun y _ h => by rw [h]; rfl) E
    have h3 : (E.filter (btw v w)).countP (fun y => !from_ w y) = (E.filter (btw v w)).length := List.countP_eq_length.mpr fun y hy => by
      have := (List.mem_filter.mp hy).2
      unfold btw at this
      cases h : from_ w y with
      | false => rfl
      | true => rw [h, Bool.and_comm] at this; (first | exact nS this | exact nO this | exact nF this | exact nT this | exact nN this | exact nC this | cases this)
    have h4 : E.countP (fun y => !from_ w y) ≤ p + reach := by
      unfold hiB12 at hw
      rw [isort_length] at hw
      have h8 := Nat.mul_div_le p q
      by_cases h : p / q < M.length
      · rw [if_pos h] at hw
        have h5 := (place_ge h).mp (Int.le_refl _)
        generalize (isort M).getD (p / q) 0 = u at hw h5
        subst hw
        have h6 := R.le u
        have h7 := Nat.mul_le_mul_left q h5
        have h9 : E.countP (fun y => !from_ (some u) y) = cnt u E := List.countP_congr fun y _ => by
          show (!decide (u ≤ y)) = true ↔ _
          rw [Bool.not_eq_true', decide_eq_false_iff_not, decide_eq_true_eq]; exact Int.not_le
        (first | assumption | exact q1 ‹_› | exact q2 ‹_› ‹_› | exact q3 ‹_› ‹_› | exact q4 ‹_› ‹_› | exact q5 ‹_› | exact q6 ‹_› | lia | omega)
      · have h5 : E.countP (fun y => !from_ w y) ≤ E.length := List.countP_le_length
        have h6 := R.len
        have h7 := Nat.mul_le_mul_left q (Nat.not_lt.mp h)
        (first | assumption | exact q1 ‹_› | exact q2 ‹_› ‹_› | exact q3 ‹_› ‹_› | exact q4 ‹_› ‹_› | exact q5 ‹_› | exact q6 ‹_› | lia | omega)
    have h5 : p + 1 ≤ E.countP (upTo v) + reach ∨ p < reach := by
      unfold loB12 at hv
      by_cases h : reach ≤ p
      · rw [if_pos h] at hv
        left
        have hl := R.low_lt hp h
        have h5 := (place_le hl).mp (Int.le_refl _)
        generalize (isort M).getD ((p - reach) / q) 0 = u at hv h5
        subst hv
        have e : ∀ l : List Int, cnt (u + 1) l = l.countP (upTo (some u)) := fun l => List.countP_congr fun y _ => by
          show decide (y < u + 1) = true ↔ decide (y ≤ u) = true
          rw [decide_eq_true_eq, decide_eq_true_eq]; exact Int.lt_add_one_iff
        have h6 := R.ge (u + 1)
        rw [e, e] at h6
        have h7 : q * ((p - reach) / q + 1) ≤ q * M.countP (upTo (some u)) := Nat.mul_le_mul_left q h5
        have h8 := Nat.lt_mul_div_succ (p - reach) R.q0
        (first | assumption | exact q1 ‹_› | exact q2 ‹_› ‹_› | exact q3 ‹_› ‹_› | exact q4 ‹_› ‹_› | exact q5 ‹_› | exact q6 ‹_› | lia | omega)
      · exact .inr (Nat.not_le.mp h)
    unfold btw at h3 ⊢
    rw [h3] at h2
    (first | assumption | exact q1 ‹_› | exact q2 ‹_› ‹_› | exact q3 ‹_› ‹_› | exact q4 ‹_› ‹_› | exact q5 ‹_› | exact q6 ‹_› | lia | omega)
end
end Mine

end
section -- M12b
namespace Mine

theorem marks_tell {l : List Int} {q : Nat} (hq : 2 ≤ q) (h : (l.length + 1) % q = 0) (hb : ∀ y ∈ l, y.natAbs < 2 ^ 53) : Tells (excN (isort l) ((l.length + 1) / q)) ((l.length + 1) / q) (fun i => (isort l).getD (i * q - 1) 0) := fun i h1 h2 => by
  obtain ⟨k, e1, e2⟩ := parts_k (Nat.lt_of_lt_of_le (by decide) hq) h
  rw [e2] at h2 ⊢
  have hS : (isort l).length = l.length := isort_length l
  have hiq : i * q + q ≤ l.length + 1 := by
    rw [e1, ← Nat.succ_mul]; exact Nat.mul_le_mul_right q h2
  have hq1 : 2 ≤ i * q := Nat.le_trans hq (Nat.le_mul_of_pos_left q h1)
  have hdiv : i * (l.length + 1) / (k + 1) = i * q := by
    rw [e1, show i * ((k + 1) * q) = (k + 1) * (i * q) by rw [Nat.mul_left_comm], Nat.mul_div_cancel_left _ (Nat.succ_pos k)]
  have hJ : excJ (isort l).length (k + 1) i = i * q := by
    unfold excJ
    rw [hS, hdiv, if_neg (by (first | assumption | exact q1 ‹_› | exact q2 ‹_› ‹_› | exact q3 ‹_› ‹_› | exact q4 ‹_› ‹_› | exact q5 ‹_› | exact q6 ‹_› | lia | omega)), if_neg (by (first | assumption | exact q1 ‹_› | exact q2 ‹_› ‹_› | exact q3 ‹_› ‹_› | exact q4 ‹_› ‹_› | exact q5 ‹_› | exact q6 ‹_› | lia | omega))]
  have hD : excD (isort l).length (k + 1) i = 0 := by
    unfold excD
    rw [hJ, hS, e1, show i * ((k + 1) * q) = i * q * (k + 1) by rw [Nat.mul_assoc, Nat.mul_comm q]]; (first | assumption | exact q1 ‹_› | exact q2 ‹_› ‹_› | exact q3 ‹_› ‹_› | exact q4 ‹_› ‹_› | exact q5 ‹_› | exact q6 ‹_› | lia | omega)
  refine ⟨?_, hb _ (mem_isort.mp (getD_mem (by (first | assumption | exact q1 ‹_› | exact q2 ‹_› ‹_› | exact q3 ‹_› ‹_› | exact q4 ‹_› ‹_› | exact q5 ‹_› | exact q6 ‹_› | lia | omega))))⟩
  unfold excN
  rw [hJ, hD, Int.mul_zero, Int.add_zero, Int.sub_zero]
/-- the way from item to item, in n even steps each -/
noncomputable def wayF (wide : List Int) (n t : Nat) : Int := wide.getD (t / n) 0 + (wide.getD (t / n + 1) 0 - wide.getD (t / n) 0).fdiv n * ((t % n : Nat) : Int)
theorem step_div {a b : Int} {n : Nat} (hn : 0 < n) : (b * n - a * n).fdiv n = b - a := by
  rw [← Int.sub_mul, Int.mul_fdiv_cancel _ (Int.ne_of_gt (Int.natCast_pos.mpr hn))]
theorem sub_add3 (x y z : Int) : x - y + z = x + (z - y) := by rw [Int.sub_eq_add_neg, Int.add_assoc, Int.add_comm (-y) z, ← Int.sub_eq_add_neg]
theorem tell_at {a b D : Int} {n : Nat} (ha : (a * n).natAbs ≤ 2 ^ 46) (hb : (b * n).natAbs ≤ 2 ^ 46) (hD : D.natAbs ≤ 2 * n) : a * n * (n - D) + b * n * D = (a * n + (b - a) * D) * n ∧ (a * n + (b - a) * D).natAbs < 2 ^ 53 := by
  refine ⟨?_, ?_⟩
  · rw [Int.add_mul, Int.mul_sub, Int.mul_assoc (b - a), Int.mul_comm D, ← Int.mul_assoc (b - a), Int.sub_mul b, Int.sub_mul (b * n)]
    exact sub_add3 _ _ _
  · have h2 : (b - a).natAbs * n = (b * n - a * n).natAbs := by rw [← Int.sub_mul, Int.natAbs_mul]; rfl
    have h1 : ((b - a) * D).natAbs ≤ (2 ^ 46 + 2 ^ 46) * 2 := by
      rw [Int.natAbs_mul]
      refine Nat.le_trans (Nat.mul_le_mul_left _ hD) ?_
      rw [Nat.mul_left_comm, h2, Nat.mul_comm]
      exact Nat.mul_le_mul_right 2 (Nat.le_trans (Int.natAbs_sub_le _ _) (Nat.add_le_add hb ha))
    exact Nat.lt_of_le_of_lt (Nat.le_trans (Int.natAbs_add_le _ _) (Nat.add_le_add ha h1)) (by decide)
/-- the ways at both ends -/
theorem way_lo (a b k : Int) (n : Nat) : 2 * (a * n) - b * n + (b - a) * k = a * n + (b - a) * (k - n) := by
  rw [Int.mul_sub, Int.sub_mul b a n]; (first | assumption | exact q1 ‹_› | exact q2 ‹_› ‹_› | exact q3 ‹_› ‹_› | exact q4 ‹_› ‹_› | exact q5 ‹_› | exact q6 ‹_› | lia | omega)
theorem way_hi (a b k : Int) (n : Nat) : b * n + (b - a) * k = a * n + (b - a) * (k + n) := by
  rw [Int.mul_add, Int.sub_mul b a n]; (first | assumption | exact q1 ‹_› | exact q2 ‹_› ‹_› | exact q3 ‹_› ‹_› | exact q4 ‹_› ‹_› | exact q5 ‹_› | exact q6 ‹_› | lia | omega)
theorem gap_lo (x y : Int) : x - (2 * x - y) = y - x := by (first | assumption | exact q1 ‹_› | exact q2 ‹_› ‹_› | exact q3 ‹_› ‹_› | exact q4 ‹_› ‹_› | exact q5 ‹_› | exact q6 ‹_› | lia | omega)
theorem gap_hi (x y : Int) : 2 * y - x - y = y - x := by (first | assumption | exact q1 ‹_› | exact q2 ‹_› ‹_› | exact q3 ‹_› ‹_› | exact q4 ‹_› ‹_› | exact q5 ‹_› | exact q6 ‹_› | lia | omega)
/-- multiples of n, not too far from 0 -/
noncomputable def Mul46 (n : Nat) (S : List Int) : Prop := ∀ y ∈ S, (∃ z : Int, y = z * n) ∧ y.natAbs ≤ 2 ^ 46
theorem Mul46.at_ {n : Nat} {S : List Int} (h : Mul46 n S) {i : Nat} (hi : i < S.length) : ∃ z : Int, S.getD i 0 = z * n ∧ (z * n).natAbs ≤ 2 ^ 46 := by
  obtain ⟨⟨z, e⟩, hb⟩ := h _ (getD_mem hi)
  exact ⟨z, e, e ▸ hb⟩
/-- one gap more at both ends -/
noncomputable def wider (S : List Int) : List Int := (2 * S.getD 0 0 - S.getD 1 0) :: S ++ [2 * S.getD (S.length - 1) 0 - S.getD (S.length - 2) 0]
theorem wider_len (S : List Int) : (wider S).length = S.length + 2 := by unfold wider; rw [List.length_append]; rfl
theorem wider_mid {S : List Int} {i : Nat} (h : i < S.length) : (wider S).getD (i + 1) 0 = S.getD i 0 := by
  unfold wider
  rw [List.getD_eq_getElem?_getD, List.cons_append, List.getElem?_cons_succ, List.getElem?_append_left h, ← List.getD_eq_getElem?_getD]
theorem wider_end {S : List Int} : (wider S).getD (S.length + 1) 0 = 2 * S.getD (S.length - 1) 0 - S.getD (S.length - 2) 0 := by
  unfold wider
  rw [List.getD_eq_getElem?_getD, List.cons_append, List.getElem?_cons_succ, List.getElem?_append_right (Nat.le_refl _), Nat.sub_self]; rfl
theorem dif_mid (n j k : Nat) : ((n * j + k : Nat) : Int) - ((j * n : Nat) : Int) = k := by rw [Nat.mul_comm, Int.natCast_add, Int.add_comm]; exact Int.add_sub_cancel _ _
theorem dif_hi (n j k : Nat) : ((n * (j + 1) + k : Nat) : Int) - ((j * n : Nat) : Int) = k + n := by
  rw [Nat.mul_succ, Nat.add_assoc, dif_mid, Nat.add_comm]; rfl
theorem dif_lo (n k : Nat) : ((n * 0 + k : Nat) : Int) - ((1 * n : Nat) : Int) = k - n := by rw [Nat.mul_zero, Nat.zero_add, Nat.one_mul]
theorem abs_2 {k n : Nat} (h : k < n) : k + n ≤ 2 * n := by rw [Nat.two_mul]; exact Nat.add_le_add_right (Nat.le_of_lt h) n
/-- the first, the last, and those between -/
theorem exc_lo {S : List Int} {n k : Nat} (h0 : 0 < S.length) (h1 : 1 < S.length) (hn : 0 < n) (hd : k < n) (h : Mul46 n S) : S.getD 0 0 * (n - ((k : Int) - n)) + S.getD 1 0 * ((k : Int) - n) = (2 * S.getD 0 0 - S.getD 1 0 + (S.getD 0 0 - (2 * S.getD 0 0 - S.getD 1 0)).fdiv n * k) * n ∧ (2 * S.getD 0 0 - S.getD 1 0 + (S.getD 0 0 - (2 * S.getD 0 0 - S.getD 1 0)).fdiv n * k).natAbs < 2 ^ 53 := by
  obtain ⟨a, ea, ba⟩ := h.at_ h0
  obtain ⟨b, eb, bb⟩ := h.at_ h1
  rw [ea, eb, gap_lo, step_div hn, way_lo]
  exact tell_at ba bb (Nat.le_trans (Int.natAbs_sub_le _ _) (abs_2 hd))
theorem exc_mid {S : List Int} {n k j : Nat} (h0 : j < S.length) (h1 : j + 1 < S.length) (hn : 0 < n) (hd : k < n) (h : Mul46 n S) : S.getD j 0 * (n - (k : Int)) + S.getD (j + 1) 0 * (k : Int) = (S.getD j 0 + (S.getD (j + 1) 0 - S.getD j 0).fdiv n * k) * n ∧ (S.getD j 0 + (S.getD (j + 1) 0 - S.getD j 0).fdiv n * k).natAbs < 2 ^ 53 := by
  obtain ⟨a, ea, ba⟩ := h.at_ h0
  obtain ⟨b, eb, bb⟩ := h.at_ h1
  rw [ea, eb, step_div hn]
  exact tell_at ba bb (Nat.le_trans (Nat.le_add_right _ _) (abs_2 hd))
theorem exc_hi {S : List Int} {n k j : Nat} (h0 : j < S.length) (h1 : j + 1 < S.length) (hn : 0 < n) (hd : k < n) (h : Mul46 n S) : S.getD j 0 * (n - ((k : Int) + n)) + S.getD (j + 1) 0 * ((k : Int) + n) = (S.getD (j + 1) 0 + (2 * S.getD (j + 1) 0 - S.getD j 0 - S.getD (j + 1) 0).fdiv n * k) * n ∧ (S.getD (j + 1) 0 + (2 * S.getD (j + 1) 0 - S.getD j 0 - S.getD (j + 1) 0).fdiv n * k).natAbs < 2 ^ 53 := by
  obtain ⟨a, ea, ba⟩ := h.at_ h0
  obtain ⟨b, eb, bb⟩ := h.at_ h1
  rw [ea, eb, gap_hi, step_div hn, way_hi]
  exact tell_at ba bb (Nat.le_trans (Int.natAbs_add_le _ _) (abs_2 hd))
theorem tells_inc {S : List Int} {n : Nat} (hS : 2 ≤ S.length) (hn : 0 < n) (h : Mul46 n S) : Tells (incN S n) n (fun i => wayF S n (i * (S.length - 1))) := fun i h1 h2 => by
  have hj : i * (S.length - 1) / n < S.length - 1 := Nat.div_lt_of_lt_mul (Nat.mul_lt_mul_of_pos_right h2 (Nat.sub_pos_of_lt hS))
  have hj1 := Nat.add_lt_of_lt_sub hj
  exact exc_mid (Nat.lt_of_succ_lt hj1) hj1 hn (Nat.mod_lt _ hn) h
theorem tells_exc {S : List Int} {n : Nat} (hS : 2 ≤ S.length) (hn : 0 < n) (h : Mul46 n S) : Tells (excN S n) n (fun i => wayF (wider S) n (i * (S.length + 1))) := fun i h1 h2 => by
  have hj : i * (S.length + 1) / n < S.length + 1 := Nat.div_lt_of_lt_mul (Nat.mul_lt_mul_of_pos_right h2 (Nat.succ_pos _))
  have hd : i * (S.length + 1) % n < n := Nat.mod_lt _ hn
  have he := Nat.div_add_mod (i * (S.length + 1)) n
  have hJ : excJ S.length n i = if i * (S.length + 1) / n < 1 then 1 else if i * (S.length + 1) / n > S.length - 1 then S.length - 1 else i * (S.length + 1) / n := rfl
  obtain ⟨L, hL⟩ : ∃ L, S.length = L + 2 := ⟨_, (Nat.sub_add_cancel hS).symm⟩
  have g1 : L + 1 < S.length := by rw [hL]; exact Nat.lt_succ_self _
  have g0 : L < S.length := Nat.lt_of_succ_lt g1
  show excN S n i = wayF (wider S) n (i * (S.length + 1)) * n ∧ (wayF (wider S) n (i * (S.length + 1))).natAbs < 2 ^ 53
  unfold excN excD wayF
  generalize i * (S.length + 1) = T at hj hd he hJ ⊢
  generalize T / n = j at hj he hJ ⊢
  generalize T % n = k at hd he ⊢
  subst he
  rw [hJ]
  clear hJ
  cases j with
  | zero =>
    rw [if_pos (by decide), wider_mid (i := 0) (Nat.zero_lt_of_lt g0), dif_lo]
    exact exc_lo (Nat.zero_lt_of_lt g0) (Nat.lt_of_le_of_lt (Nat.le_add_left _ _) g1) hn hd h
  | succ j =>
    rw [if_neg (Nat.not_lt.mpr (Nat.le_add_left _ _)), show S.length - 1 = L + 1 by rw [hL]; rfl]
    by_cases hl : j + 1 > L + 1
    · have ej : j = L + 1 := Nat.le_antisymm (by rw [hL] at hj; exact Nat.le_of_succ_le_succ (Nat.le_of_succ_le_succ hj)) (Nat.le_of_succ_le_succ hl)
      subst ej
      have ew : (wider S).getD (L + 1 + 1 + 1) 0 = 2 * S.getD (L + 1) 0 - S.getD L 0 := by
        have := wider_end (S := S)
        rw [hL] at this; exact this
      rw [if_pos hl, wider_mid g1, ew, dif_hi]
      exact exc_hi g0 g1 hn hd h
    · have hj1 : j + 1 < S.length := by rw [hL]; exact Nat.lt_succ_of_le (Nat.not_lt.mp hl)
      rw [if_neg hl, wider_mid (Nat.lt_of_succ_lt hj1), wider_mid hj1, dif_mid]
      exact exc_mid (Nat.lt_of_succ_lt hj1) hj1 hn hd h
end Mine

end
section -- L12g
namespace Mine
variable {W : Wd} {n : Nat} {σ σ' τ : St} {cs : List Addr}

theorem isort_snoc2 (l : List Int) (x : Int) : ins x (isort l) = isort (l ++ [x]) := (isort_congr (List.perm_append_singleton _ _)).symm
noncomputable def retN : S := .seq (.ret (.con (.bool false))) .skip
noncomputable def b1Ins : S := .seq (.exp (.call (.con (.ref 44)) (.cons (.loc 6) (.cons (.loc 11) .nil)) ["lo"] (.cons (.loc 10) .nil))) .skip
noncomputable def b1Mk : S := .seq (.ite (.not (.bcall .isinstance (.cons (.loc 12) (.cons (.con (.typ "float")) .nil)))) retN .skip) (.seq (.exp (.call (.con (.ref 62)) (.cons (.loc 8) (.cons (.bcall .int (.cons (.loc 12) .nil)) .nil)) [] .nil)) .skip)
noncomputable def b1Q : X := .call (.con (.ref 35)) (.cons (.loc 9) .nil) ["n"] (.cons (.bin .FloorDiv (.bin .Add (.bcall .len (.cons (.loc 9) .nil)) (.con (.int (1)))) (.loc 2)) .nil)
noncomputable def b1 : S := .seq (.set (.l 10) (.bcall .len (.cons (.loc 6) .nil)))
 (.seq (.for_ (.one (.l 11)) (.loc 9) b1Ins)
 (.seq (.exp (.meth .append (.loc 7) (.cons (.tup (.cons (.loc 10) (.cons (.bcall .len (.cons (.loc 6) .nil)) .nil))) .nil)))
 (.seq (.for_ (.one (.l 12)) b1Q b1Mk) .skip)))
section
variable {P : Params} {dl dt dm p : Addr} {l A M : List Int} {v0 v1 v2 v3 v4 v5 v6 v7 v8 v9 v10 v11 v12 : V} {tl : List V} {rest : S} {Q : Fl → St → List V → Prop}
theorem insL_ok (X : Txt W (K12 P) tb12) (gl : σ dl = some (.lst (ivs A))) (gp : σ p = some (.lst (ivs l))) (hne : p ≠ dl) (hl : A.length + l.length ≤ 10000)
    (q : ∀ σ' v11, Upd dl σ σ' → σ' dl = some (.lst (ivs (A ++ isort l))) → sW W (n + 2) rest cs (v0 :: v1 :: v2 :: v3 :: v4 :: v5 :: .ref dl :: v7 :: v8 :: .ref p :: .int A.length :: v11 :: tl) σ' Q) :
    sW W (n + 2) (.seq (.for_ (.one (.l 11)) (.loc 9) b1Ins) rest) cs (v0 :: v1 :: v2 :: v3 :: v4 :: v5 :: .ref dl :: v7 :: v8 :: .ref p :: .int A.length :: v11 :: tl) σ Q := by
  refine seq_for ?_
  first | refine lc_i rfl ?_ | refine lc_r rfl ?_ | refine lc_s rfl ?_ | refine lc_n rfl ?_
  refine iter_lst gp ?_
  refine forW_inv (k := 0) (fun i fr σ' => ∃ v11, fr = v0 :: v1 :: v2 :: v3 :: v4 :: v5 :: .ref dl :: v7 :: v8 :: .ref p :: .int A.length :: v11 :: tl ∧ Upd dl σ σ' ∧ σ' dl = some (.lst (ivs (A ++ isort (l.take i))))) (fun _ _ _ => False) ⟨_, rfl, (Ext.refl _).upd dl, by rw [List.take_zero]; exact gl.trans (by rw [show isort ([] : List Int) = [] from rfl, List.append_nil])⟩ (fun i fr σ' hi hJ => ?_) (fun fr σ' hJ => ?_) (fun _ _ _ h => h.elim)
  · obtain ⟨v11, rfl, U, g⟩ := hJ
    rw [ivs_length] at hi
    rw [Nat.zero_add] at g ⊢
    refine ⟨U _ _ hne gp, fun Q' hQ' _ => ?_⟩
    rw [nth_ivs hi]
    simp only [tgW, stW, setN]
    unfold b1Ins
    refine seq_exp ?_
    refine e_x_call (e_x_con (e_l_cons (lc_r rfl (e_l_cons (lc_i rfl (e_l_nil (e_l_cons (lc_i rfl (e_l_nil ?_)))))))))
    refine insort_lo (fl12_insort_right X) (fn12_bisect_right X) g (sorted_isort _) (by rw [List.length_append, isort_length, List.length_take]; unfold lim; (first | assumption | exact q1 ‹_› | exact q2 ‹_› ‹_› | exact q3 ‹_› ‹_› | exact q4 ‹_› ‹_› | exact q5 ‹_› | exact q6 ‹_› | lia | omega)) ?_
    rw [isort_snoc2, ← take_succ hi]
    exact hQ' _ _ ⟨_, rfl, U.trans (Upd.set _ _ _), St.set_same _ _ _⟩
  · obtain ⟨v11, rfl, U, g⟩ := hJ
    rw [Nat.zero_add, ivs_length, List.take_length] at g
    exact ⟨U _ _ hne gp, q σ' v11 U g⟩
noncomputable def rmap (r : Nat → Int) (i : Nat) : List Int := (List.range i).map fun t => r (t + 1)
theorem rmap_succ (r : Nat → Int) (i : Nat) : rmap r (i + 1) = rmap r i ++ [r (i + 1)] := by unfold rmap; rw [List.range_succ, List.map_append]; rfl
theorem rmap_len (r : Nat → Int) (i : Nat) : (rmap r i).length = i := by unfold rmap; rw [List.length_map, List.length_range]
theorem nth_fls {r : Nat → Int} {i K : Nat} (h : i < K) : nth (fls r K) i = .flt (Float64.ofInt (r (i + 1))) := by
  unfold fls; rw [nth_eq, List.getD_eq_getElem?_getD, List.getElem?_map, List.getElem?_range h]; rfl
theorem isi_no {Q1 Q2 : St → Prop} {f : UInt64} (h : Q2 σ) : biW .isinstance [.flt f, .typ "float"] σ (fun v σ4 => truW v σ4 fun b σ1 => if (!b) = true then Q1 σ1 else Q2 σ1) :=
  ⟨rfl, show (if (!true) = true then Q1 σ else Q2 σ) by rw [Bool.not_true, if_neg nofun]; exact h⟩
/-- the marks of one part come into the row -/
theorem mkL_ok (X : Txt W (K12 P) tb12) {d : Addr} {r : Nat → Int} {K : Nat} (gm : σ dm = some (.lst (ivs (isort M)))) (gd : σ d = some (.lst (fls r K))) (hne : d ≠ dm) (hl : M.length + K ≤ 10000) (hr : ∀ i, i < K → (r (i + 1)).natAbs < 2 ^ 53)
    (q : ∀ σ' v12, Upd dm σ σ' → σ' dm = some (.lst (ivs (isort (M ++ rmap r K)))) → Q .next σ' (v0 :: v1 :: v2 :: v3 :: v4 :: v5 :: v6 :: v7 :: .ref dm :: v9 :: v10 :: v11 :: v12 :: tl)) :
    iterW (.ref d) σ fun xs chk => forW chk (fun x fr σ k => tgW (.one (.l 12)) x cs fr σ fun fr1 σ2 => sW W (n + 2) b1Mk cs fr1 σ2 k) xs (v0 :: v1 :: v2 :: v3 :: v4 :: v5 :: v6 :: v7 :: .ref dm :: v9 :: v10 :: v11 :: v12 :: tl) σ Q := by
  refine iter_lst gd ?_
  refine forW_inv (k := 0) (fun i fr σ' => ∃ v12, fr = v0 :: v1 :: v2 :: v3 :: v4 :: v5 :: v6 :: v7 :: .ref dm :: v9 :: v10 :: v11 :: v12 :: tl ∧ Upd dm σ σ' ∧ σ' dm = some (.lst (ivs (isort (M ++ rmap r i))))) (fun _ _ _ => False) ⟨_, rfl, (Ext.refl _).upd dm, by rw [show rmap r 0 = [] from rfl, List.append_nil]; exact gm⟩ (fun i fr σ' hi hJ => ?_) (fun fr σ' hJ => ?_) (fun _ _ _ h => h.elim)
  · obtain ⟨v12, rfl, U, g⟩ := hJ
    rw [fls_len] at hi
    rw [Nat.zero_add] at g ⊢
    refine ⟨U _ _ hne gd, fun Q' hQ' _ => ?_⟩
    rw [nth_fls hi]
    simp only [tgW, stW, setN]
    unfold b1Mk
    refine seq_ite ?_
    refine e_t_not (e_t_bcall (e_l_cons (lc_f rfl (e_l_cons (e_x_con (e_l_nil ?_))))))
    refine isi_no (seq_skip (seq_exp ?_))
    refine e_x_call (e_x_con (e_l_cons (lc_r rfl (e_l_cons (e_x_bcall (e_l_cons (lc_f rfl (e_l_nil ?_))))))))
    rw [f_int]
    refine ⟨_, rfl, hr i hi, e_l_nil (e_l_nil ?_)⟩
    refine insort_left_ok (fn12_insort_left X) (fn12_bisect_left X) g (sorted_isort _) (by rw [isort_length, List.length_append, rmap_len]; unfold lim; (first | assumption | exact q1 ‹_› | exact q2 ‹_› ‹_› | exact q3 ‹_› ‹_› | exact q4 ‹_› ‹_› | exact q5 ‹_› | exact q6 ‹_› | lia | omega)) ?_
    rw [isort_snoc2, List.append_assoc, ← rmap_succ]
    exact hQ' _ _ ⟨_, rfl, U.trans (Upd.set _ _ _), St.set_same _ _ _⟩
  · obtain ⟨v12, rfl, U, g⟩ := hJ
    rw [Nat.zero_add, fls_len] at g
    exact ⟨U _ _ hne gd, q σ' v12 U g⟩
end
end Mine

end
section -- L12h
namespace Mine
variable {W : Wd} {n : Nat} {σ σ' τ : St} {cs : List Addr}
/-- what is known of the parts -/
structure PP (q : Nat) (R : List (List Int)) : Prop where
  q2 : 2 ≤ q
  q5 : q ≤ 5
  m4 : R.length ≤ 4
  fit : ∀ l ∈ R, (l.length + 1) % q = 0
  lo : ∀ l ∈ R, 3 ≤ l.length
  hi : ∀ l ∈ R, l.length ≤ 100
  small : ∀ l ∈ R, ∀ y ∈ l, y.natAbs ≤ 2 ^ 46
noncomputable def laidF (R : List (List Int)) (i : Nat) : List Int := ((R.take i).map isort).flatten
theorem takeR {R : List (List Int)} {i : Nat} (h : i < R.length) : R.take (i + 1) = R.take i ++ [R.getD i []] := by
  rw [List.take_add_one, List.getElem?_eq_getElem h, getD_in h]; rfl
theorem laid_succ {R : List (List Int)} {i : Nat} (h : i < R.length) : laidF R (i + 1) = laidF R i ++ isort (R.getD i []) := by
  unfold laidF; rw [takeR h, List.map_append, List.flatten_append]; simp
theorem marks_succ {R : List (List Int)} {q i : Nat} (h : i < R.length) : marks q (R.take (i + 1)) = marks q (R.take i) ++ mk q (R.getD i []) := by
  unfold marks; rw [takeR h, List.map_append, List.flatten_append]; simp
theorem getD_memR {R : List (List Int)} {i : Nat} (h : i < R.length) : R.getD i [] ∈ R := by rw [getD_in h]; exact List.getElem_mem h
section
variable {q : Nat} {R : List (List Int)}
theorem PP.laid_len (H : PP q R) : ∀ i, i ≤ R.length → (laidF R i).length ≤ 100 * i
  | 0, _ => Nat.le_refl _
  | i + 1, h => by
    have := H.laid_len i (Nat.le_of_succ_le h)
    have := H.hi _ (getD_memR h)
    rw [laid_succ h, List.length_append, isort_length]; (first | assumption | exact q1 ‹_› | exact q2 ‹_› ‹_› | exact q3 ‹_› ‹_› | exact q4 ‹_› ‹_› | exact q5 ‹_› | exact q6 ‹_› | lia | omega)
theorem PP.q0 (H : PP q R) : 0 < q := Nat.lt_of_lt_of_le (by decide) H.q2
theorem PP.mk_le (H : PP q R) {i : Nat} (h : i < R.length) : (Mine.mk q (R.getD i [])).length ≤ 100 := by
  have h1 := mk_len H.q0 (H.fit _ (getD_memR h))
  have h2 := H.hi _ (getD_memR h)
  have h3 := Nat.le_mul_of_pos_left (Mine.mk q (R.getD i [])).length H.q0
  (first | assumption | exact q1 ‹_› | exact q2 ‹_› ‹_› | exact q3 ‹_› ‹_› | exact q4 ‹_› ‹_› | exact q5 ‹_› | exact q6 ‹_› | lia | omega)
theorem PP.marks_len (H : PP q R) : ∀ i, i ≤ R.length → (marks q (R.take i)).length ≤ 100 * i
  | 0, _ => Nat.le_refl _
  | i + 1, h => by
    have := H.marks_len i (Nat.le_of_succ_le h)
    have := H.mk_le h
    rw [marks_succ h, List.length_append]; (first | assumption | exact q1 ‹_› | exact q2 ‹_› ‹_› | exact q3 ‹_› ‹_› | exact q4 ‹_› ‹_› | exact q5 ‹_› | exact q6 ‹_› | lia | omega)
end
/-- the places of the lists, and what stands there ahead of the loop -/
structure LB (σ0 : St) (d dl dt dm : Addr) (as : List Addr) (R : List (List Int)) : Prop where
  d : σ0 d = some (.lst (rf as))
  p : Pt σ0 as R
  nl : σ0 dl = none
  nt : σ0 dt = none
  nm : σ0 dm = none
  lt : dl ≠ dt
  lm : dl ≠ dm
  tm : dt ≠ dm
/-- i parts are laid -/
structure LS (σ0 σ : St) (dl dt dm : Addr) (ts : List Addr) (R : List (List Int)) (q i : Nat) : Prop where
  e : Ext σ0 σ
  laid : σ dl = some (.lst (ivs (laidF R i)))
  str : σ dt = some (.lst (rf ts))
  tup : ∀ j, j < i → σ (ts.getD j 0) = some (.tup [.int (laidF R j).length, .int (laidF R (j + 1)).length])
  len : ts.length = i
  mks : σ dm = some (.lst (ivs (isort (marks q (R.take i)))))
theorem LS.ext {dl dt dm : Addr} {ts : List Addr} {R : List (List Int)} {q i : Nat} (h : LS τ σ dl dt dm ts R q i) (E : Ext σ σ') : LS τ σ' dl dt dm ts R q i := ⟨h.e.trans E, E _ _ h.laid, E _ _ h.str, fun j hj => E _ _ (h.tup j hj), h.len, E _ _ h.mks⟩
theorem fnQ12 {P : Params} (X : Txt W (K12 P) tb12) {a : Addr} {l : List Int} {k : Nat} {r : Nat → Int} {Q : V → St → Prop} (ga : σ a = some (.lst (ivs l))) (hl : 2 ≤ l.length) (hl2 : l.length ≤ 1000) (hk : 1 ≤ k) (hk2 : k ≤ 1000) (hT : Tells (excN (isort l) k) k r)
    (q : ∀ d σ', σ d = none → Ext σ σ' → σ' d = some (.lst (fls r (k - 1))) → Q (.ref d) σ') : CallOK W (n + 1) (.ref 35) [.ref a] ["n"] [.int k] Q σ := by
  obtain ⟨cs, F, _⟩ := fn12_quantiles X
  exact F _ _ n Q σ (quant_exc ga hl hl2 hk hk2 hT q)
theorem b1_ok {P : Params} (X : Txt W (K12 P) tb12) {d dl dt dm : Addr} {as ts : List Addr} {R : List (List Int)} {q i : Nat} {v0 v1 v3 v4 v5 v10 v11 v12 : V} {tl : List V} {Q : Fl → St → List V → Prop} (H : PP q R) (B : LB τ d dl dt dm as R) (hi : i < R.length) (h : LS τ σ dl dt dm ts R q i)
    (z : ∀ ts' σ' v10 v11 v12, LS τ σ' dl dt dm ts' R q (i + 1) → Q .next σ' (v0 :: v1 :: .int q :: v3 :: v4 :: v5 :: .ref dl :: .ref dt :: .ref dm :: .ref (as.getD i 0) :: v10 :: v11 :: v12 :: tl)) :
    sW W (n + 2) b1 cs (v0 :: v1 :: .int q :: v3 :: v4 :: v5 :: .ref dl :: .ref dt :: .ref dm :: .ref (as.getD i 0) :: v10 :: v11 :: v12 :: tl) σ Q := by
  have hm := getD_memR hi
  have gp0 := B.p.at_ i hi
  have npl : as.getD i 0 ≠ dl := ne_new gp0 B.nl
  have npt : as.getD i 0 ≠ dt := ne_new gp0 B.nt
  have npm : as.getD i 0 ≠ dm := ne_new gp0 B.nm
  have hlen := H.laid_len i (Nat.le_of_lt hi)
  have h100 := H.hi _ hm
  have h4 := H.m4
  unfold b1
  refine seq_set ?_
  refine e_x_bcall (e_l_cons ?_)
  first | refine lc_i rfl ?_ | refine lc_r rfl ?_ | refine lc_s rfl ?_ | refine lc_n rfl ?_
  refine e_l_nil ?_
  refine len_of h.laid rfl ?_
  rw [ivs_length]
  simp only [stW, setN]
  refine insL_ok X h.laid (h.e _ _ gp0) npl (by (first | assumption | exact q1 ‹_› | exact q2 ‹_› ‹_› | exact q3 ‹_› ‹_› | exact q4 ‹_› ‹_› | exact q5 ‹_› | exact q6 ‹_› | lia | omega)) fun σ1 v11 U1 g1 => ?_
  rw [← laid_succ hi] at g1
  refine seq_exp ?_
  refine e_x_meth ?_
  rw [x_loc]
  have gt1 := U1 _ _ B.lt.symm h.str
  refine ⟨nofun, mlist_of gt1 ?_⟩
  refine e_l_cons (e_x_tup (e_l_cons ?_))
  first | refine lc_i rfl ?_ | refine lc_r rfl ?_ | refine lc_s rfl ?_ | refine lc_n rfl ?_
  refine e_l_cons (e_x_bcall (e_l_cons ?_))
  first | refine lc_i rfl ?_ | refine lc_r rfl ?_ | refine lc_s rfl ?_ | refine lc_n rfl ?_
  refine e_l_nil ?_
  refine len_of g1 rfl ?_
  rw [ivs_length]
  refine e_l_nil ?_
  refine ⟨(by decide : 2 ≤ lim), alW_of fun T σ2 m2 e2 f2 => ?_⟩
  refine e_l_nil ?_
  refine append_of (e2 _ _ gt1) (by rw [rf_len, h.len]; unfold lim; (first | assumption | exact q1 ‹_› | exact q2 ‹_› ‹_› | exact q3 ‹_› ‹_› | exact q4 ‹_› ‹_› | exact q5 ‹_› | exact q6 ‹_› | lia | omega)) ?_
  rw [← rf_snoc]
  have nTt : T ≠ dt := (ne_new gt1 m2).symm
  -- the state behind the stretch
  have U2 : Upd dt σ1 (σ2.set dt (.lst (rf (ts ++ [T])))) := (e2.upd dt).trans (Upd.set _ _ _)
  have gt2 := St.set_same σ2 dt (.lst (rf (ts ++ [T])))
  have gT2 : (σ2.set dt (.lst (rf (ts ++ [T])))) T = some (.tup [.int (laidF R i).length, .int (laidF R (i + 1)).length]) := by rw [St.set_other _ _ nTt]; exact f2
  generalize σ2.set dt (.lst (rf (ts ++ [T]))) = σ3 at U2 gt2 gT2
  have gl3 := U2 _ _ B.lt g1
  have gm3 : σ3 dm = some (.lst (ivs (isort (marks q (R.take i))))) := U2 _ _ B.tm.symm (U1 _ _ B.lm.symm h.mks)
  have gp3 : σ3 (as.getD i 0) = some (.lst (ivs (R.getD i []))) := U2 _ _ npt (U1 _ _ npl (h.e _ _ gp0))
  have E3 : Ext τ σ3 := fun b o hb => U2 _ _ (ne_new hb B.nt) (U1 _ _ (ne_new hb B.nl) (h.e _ _ hb))
  have tup3 : ∀ j, j < i + 1 → σ3 ((ts ++ [T]).getD j 0) = some (.tup [.int (laidF R j).length, .int (laidF R (j + 1)).length]) := fun j hj => by
    rcases Nat.lt_or_eq_of_le (Nat.le_of_lt_succ hj) with q | q
    · have e : (ts ++ [T]).getD j 0 = ts.getD j 0 := by
        rw [List.getD_eq_getElem?_getD, List.getElem?_append_left (by rw [h.len]; exact q), ← List.getD_eq_getElem?_getD]
      have ht := h.tup j q
      rw [e]
      exact U2 _ _ (fun x => by rw [x, h.str] at ht; (first | exact nS ht | exact nO ht | exact nF ht | exact nT ht | exact nN ht | exact nC ht | cases ht)) (U1 _ _ (fun x => by rw [x, h.laid] at ht; (first | exact nS ht | exact nO ht | exact nF ht | exact nT ht | exact nN ht | exact nC ht | cases ht)) ht)
    · have e : (ts ++ [T]).getD j 0 = T := by
        rw [q, ← h.len, List.getD_eq_getElem?_getD, List.getElem?_append_right (Nat.le_refl _), Nat.sub_self]; rfl
      rw [e, q]; exact gT2
  clear U1 U2 g1 gt1 e2 m2 f2 gT2 nTt
  refine seq_for ?_
  unfold b1Q
  refine e_x_call (e_x_con (e_l_cons ?_))
  first | refine lc_i rfl ?_ | refine lc_r rfl ?_ | refine lc_s rfl ?_ | refine lc_n rfl ?_
  refine e_l_nil (e_l_cons (e_x_bin (e_x_bin (e_x_bcall (e_l_cons ?_)))))
  first | refine lc_i rfl ?_ | refine lc_r rfl ?_ | refine lc_s rfl ?_ | refine lc_n rfl ?_
  refine e_l_nil ?_
  refine len_of gp3 rfl ?_
  rw [ivs_length]
  refine e_x_con (e_b_add ?_)
  first | refine lc_i rfl ?_ | refine lc_r rfl ?_ | refine lc_s rfl ?_ | refine lc_n rfl ?_
  try simp only [nth]
  have hq0 := H.q0
  have hq5 := H.q5
  refine e_b_div ?_
  rw [show (((R.getD i []).length : Int) + 1) = (((R.getD i []).length + 1 : Nat) : Int) from rfl, fdiv_nat]
  rw [l_nil]
  refine ⟨by (first | assumption | exact q1 ‹_› | exact q2 ‹_› ‹_› | exact q3 ‹_› ‹_› | exact q4 ‹_› ‹_› | exact q5 ‹_› | exact q6 ‹_› | lia | omega), by (first | assumption | exact q1 ‹_› | exact q2 ‹_› ‹_› | exact q3 ‹_› ‹_› | exact q4 ‹_› ‹_› | exact q5 ‹_› | exact q6 ‹_› | lia | omega), ?_⟩
  have hlo := H.lo _ hm
  obtain ⟨k, k1, k2⟩ := parts_k hq0 (H.fit _ hm)
  have hk : k + 1 ≤ (R.getD i []).length + 1 := by rw [k1]; exact Nat.le_mul_of_pos_right _ hq0
  have hT := marks_tell H.q2 (H.fit _ hm) (fun y hy => Nat.lt_of_le_of_lt (H.small _ hm y hy) (by decide))
  have hmk : mk q (R.getD i []) = rmap (fun i' => (isort (R.getD i [])).getD (i' * q - 1) 0) (((R.getD i []).length + 1) / q - 1) := rfl
  have hsm : ∀ j, j < ((R.getD i []).length + 1) / q - 1 → ((isort (R.getD i [])).getD ((j + 1) * q - 1) 0).natAbs < 2 ^ 53 := fun j hj => (hT (j + 1) (Nat.succ_pos _) (by (first | assumption | exact q1 ‹_› | exact q2 ‹_› ‹_› | exact q3 ‹_› ‹_› | exact q4 ‹_› ‹_› | exact q5 ‹_› | exact q6 ‹_› | lia | omega))).2
  refine fnQ12 X gp3 (by (first | assumption | exact q1 ‹_› | exact q2 ‹_› ‹_› | exact q3 ‹_› ‹_› | exact q4 ‹_› ‹_› | exact q5 ‹_› | exact q6 ‹_› | lia | omega)) (by (first | assumption | exact q1 ‹_› | exact q2 ‹_› ‹_› | exact q3 ‹_› ‹_› | exact q4 ‹_› ‹_› | exact q5 ‹_› | exact q6 ‹_› | lia | omega)) (by rw [k2]; exact Nat.succ_pos _) (by rw [k2]; (first | assumption | exact q1 ‹_› | exact q2 ‹_› ‹_› | exact q3 ‹_› ‹_› | exact q4 ‹_› ‹_› | exact q5 ‹_› | exact q6 ‹_› | lia | omega)) hT fun dr σ4 m4 e4 f4 => ?_
  have hml := H.marks_len i (Nat.le_of_lt hi)
  refine mkL_ok X (M := marks q (R.take i)) (e4 _ _ gm3) f4 (ne_new gm3 m4).symm (by rw [k2]; (first | assumption | exact q1 ‹_› | exact q2 ‹_› ‹_› | exact q3 ‹_› ‹_› | exact q4 ‹_› ‹_› | exact q5 ‹_› | exact q6 ‹_› | lia | omega)) hsm fun σ5 v12 U5 g5 => ?_
  rw [← hmk, ← marks_succ hi] at g5
  refine z (ts ++ [T]) σ5 _ _ _ ⟨fun b o hb => U5 _ _ (ne_new hb B.nm) (e4 _ _ (E3 _ _ hb)), U5 _ _ B.lm (e4 _ _ gl3), U5 _ _ B.tm (e4 _ _ gt2), fun j hj => ?_, by rw [List.length_append, h.len]; rfl, g5⟩
  have ht := tup3 j hj
  exact U5 _ _ (fun x => by rw [x, gm3] at ht; (first | exact nS ht | exact nO ht | exact nF ht | exact nT ht | exact nN ht | exact nC ht | cases ht)) (e4 _ _ ht)
end Mine

end
section -- M12c
namespace Mine

theorem dropA {A : Int → Bool} (hA : ∀ x y, A x = true → y ≤ x → A y = true) : ∀ {S : List Int}, Sorted S → S.drop (S.countP A) = S.filter (fun y => !A y) ∧ S.take (S.countP A) = S.filter A
  | [], _ => ⟨rfl, rfl⟩
  | y :: r, h => by
    obtain ⟨h1, h2⟩ := List.pairwise_cons.mp h
    obtain ⟨i1, i2⟩ := dropA hA h2
    cases hy : A y with
    | true =>
      rw [List.countP_cons_of_pos hy, List.drop_succ_cons, List.take_succ_cons, List.filter_cons_of_pos hy, List.filter_cons_of_neg (by rw [hy]; nofun), i1, i2]
      exact ⟨rfl, rfl⟩
    | false =>
      have hr : ∀ x ∈ r, A x = false := fun x hx => Bool.eq_false_iff.mpr fun e => by rw [hA x y e (h1 x hx)] at hy; (first | exact nS hy | exact nO hy | exact nF hy | exact nT hy | exact nN hy | exact nC hy | cases hy)
      have h0 : (y :: r).countP A = 0 := List.countP_eq_zero.mpr fun x hx => by
        rcases List.mem_cons.mp hx with rfl | hx
        · rw [hy]; nofun
        · rw [hr x hx]; nofun
      rw [h0]
      refine ⟨(List.filter_eq_self.mpr fun x hx => ?_).symm, (List.filter_eq_nil_iff.mpr fun x hx => ?_).symm⟩
      all_goals
        rcases List.mem_cons.mp hx with rfl | hx
        · rw [hy]; first | rfl | nofun
        · rw [hr x hx]; first | rfl | nofun
theorem notFrom_dn (w : Option Int) (x y : Int) (h : (!from_ w x) = true) (hy : y ≤ x) : (!from_ w y) = true := by
  cases h' : from_ w y with
  | false => rfl
  | true => rw [from_up w y x h' hy] at h; (first | exact nS h | exact nO h | exact nF h | exact nT h | exact nN h | exact nC h | cases h)
theorem sorted_drop {S : List Int} (h : Sorted S) (b : Nat) : Sorted (S.drop b) := List.Pairwise.sublist (List.drop_sublist b S) h
/-- what a stretch gives -/
theorem between {S : List Int} (h : Sorted S) (v w : Option Int) : (S.drop (S.countP (upTo v))).take ((S.drop (S.countP (upTo v))).countP fun y => !from_ w y) = S.filter (btw v w) := by
  rw [(dropA (notFrom_dn w) (sorted_drop h _)).2, (dropA (upTo_dn v) h).1, List.filter_filter]
  exact List.filter_congr fun y _ => Bool.and_comm _ _
theorem sgt_drop {L : List Int} {s e b : Nat} : sgt L (s + b) e = (sgt L s e).drop b := by
  unfold sgt
  rw [List.drop_take, List.drop_drop, Nat.sub_add_eq]
theorem sgt_take {L : List Int} {s e c : Nat} (hc : c ≤ e - s) : (L.drop s).take c = (sgt L s e).take c := by
  unfold sgt
  rw [List.take_take, Nat.min_eq_left hc]
noncomputable def aheadF (v : Option Int) (R : List (List Int)) : Nat := (R.map fun l => (isort l).countP (upTo v)).sum
noncomputable def fewF (v w : Option Int) (R : List (List Int)) : List Int := (R.map fun l => (isort l).filter (btw v w)).flatten
theorem ahead_eq (v : Option Int) : ∀ R : List (List Int), aheadF v R = R.flatten.countP (upTo v)
  | [] => rfl
  | l :: R => by
    have := ahead_eq v R
    unfold aheadF at this ⊢
    rw [List.map_cons, List.sum_cons, this, List.flatten_cons, List.countP_append, countP_isort]
theorem few_perm (v w : Option Int) : ∀ R : List (List Int), (fewF v w R).Perm (R.flatten.filter (btw v w))
  | [] => .refl _
  | l :: R => by
    have := few_perm v w R
    unfold fewF at this ⊢
    rw [List.map_cons, List.flatten_cons, List.flatten_cons, List.filter_append]
    exact ((isort_perm l).filter _).append this
theorem ahead_succ {v : Option Int} {R : List (List Int)} {i : Nat} (h : i < R.length) : aheadF v (R.take (i + 1)) = aheadF v (R.take i) + (isort (R.getD i [])).countP (upTo v) := by
  unfold aheadF; rw [takeR h, List.map_append, List.sum_append]; simp
theorem few_succ {v w : Option Int} {R : List (List Int)} {i : Nat} (h : i < R.length) : fewF v w (R.take (i + 1)) = fewF v w (R.take i) ++ (isort (R.getD i [])).filter (btw v w) := by
  unfold fewF; rw [takeR h, List.map_append, List.flatten_append]; simp
theorem sgt_part {R : List (List Int)} : ∀ {i : Nat}, i < R.length → sgt (laidF R R.length) (laidF R i).length (laidF R (i + 1)).length = isort (R.getD i []) := fun {i} h => by
  have e : laidF R R.length = laidF R i ++ (isort (R.getD i []) ++ ((R.drop (i + 1)).map isort).flatten) := by
    rw [← List.append_assoc, ← laid_succ h]
    unfold laidF
    rw [← List.flatten_append, ← List.map_append, List.take_append_drop, List.take_length]
  have e2 : (laidF R (i + 1)).length = (laidF R i).length + (isort (R.getD i [])).length := by rw [laid_succ h, List.length_append]
  unfold sgt
  rw [e, e2, List.drop_left, Nat.add_sub_cancel_left, List.take_left]
theorem laid_mono {R : List (List Int)} {i : Nat} (h : i < R.length) : (laidF R i).length ≤ (laidF R (i + 1)).length ∧ (laidF R (i + 1)).length ≤ (laidF R R.length).length := by
  constructor
  · rw [laid_succ h, List.length_append]; exact Nat.le_add_right _ _
  · have : laidF R R.length = laidF R (i + 1) ++ ((R.drop (i + 1)).map isort).flatten := by
      unfold laidF
      rw [← List.flatten_append, ← List.map_append, List.take_append_drop, List.take_length]
    rw [this, List.length_append]; exact Nat.le_add_right _ _
end Mine

end
section -- L12i
namespace Mine
variable {W : Wd} {n : Nat} {σ σ' τ : St} {cs : List Addr}

noncomputable def in2a : S := .ite (.cmp .GtE (.loc 17) (.con (.int (0)))) (.seq (.set (.l 22) (.call (.con (.ref 53)) (.cons (.loc 6) (.cons (.sub (.loc 8) (.loc 17)) (.cons (.loc 10) (.cons (.loc 21) .nil)))) [] .nil)) .skip) .skip
noncomputable def in2b : S := .ite (.cmp .Lt (.loc 18) (.bcall .len (.cons (.loc 8) .nil))) (.seq (.set (.l 23) (.call (.con (.ref 71)) (.cons (.loc 6) (.cons (.sub (.loc 8) (.loc 18)) (.cons (.loc 22) (.cons (.loc 21) .nil)))) [] .nil)) .skip) .skip
noncomputable def in2c : S := .seq (.aug (.l 20) .Add (.bin .Sub (.loc 22) (.loc 10))) (.seq (.exp (.meth .extend (.loc 19) (.cons (.sl (.loc 6) (.loc 22) (.loc 23) (.con .none)) .nil))) .skip)
noncomputable def in2 : S := .seq (.set (.l 22) (.loc 10)) (.seq in2a (.seq (.set (.l 23) (.loc 21)) (.seq in2b in2c)))
theorem aug_add {x y : Int} {K : V → Prop} : augW .Add (.int x) (.int y) K = K (.int (x + y)) := rfl
/-- the lower mark, as the text finds it -/
noncomputable def LowIs (M : List Int) (low : Int) (v : Option Int) : Prop := (∃ k : Nat, low = k ∧ k < M.length ∧ v = some (M.getD k 0)) ∨ (low < 0 ∧ v = none)
noncomputable def HighIs (M : List Int) (hg : Nat) (w : Option Int) : Prop := (hg < M.length ∧ w = some (M.getD hg 0)) ∨ (M.length ≤ hg ∧ w = none)
section
variable {P : Params} {dl dm dw : Addr} {L M S G : List Int} {low : Int} {hg s0 e0 ah b c : Nat} {v w : Option Int} {v0 v1 v2 v3 v4 v5 v7 v9 v11 v12 v13 v14 v15 v16 v22 v23 v20 v21 : V} {tl : List V} {rest : Mine.S} {Q : Fl → St → List V → Prop}
theorem in2a_ok (X : Txt W (K12 P) tb12) (gl : σ dl = some (.lst (ivs L))) (gm : σ dm = some (.lst (ivs M))) (hl : LowIs M low v) (h1 : s0 ≤ e0) (h2 : e0 ≤ L.length) (hS : sgt L s0 e0 = S) (hs : Sorted S)
    (q : sW W (n + 1) rest cs (v0 :: v1 :: v2 :: v3 :: v4 :: v5 :: .ref dl :: v7 :: .ref dm :: v9 :: .int (s0 : Nat) :: v11 :: v12 :: v13 :: v14 :: v15 :: v16 :: .int low :: .int (hg : Nat) :: .ref dw :: .int (ah : Nat) :: .int (e0 : Nat) :: .int ((s0 + S.countP (upTo v) : Nat) : Int) :: v23 :: tl) σ Q) :
    sW W (n + 1) (.seq in2a rest) cs (v0 :: v1 :: v2 :: v3 :: v4 :: v5 :: .ref dl :: v7 :: .ref dm :: v9 :: .int (s0 : Nat) :: v11 :: v12 :: v13 :: v14 :: v15 :: v16 :: .int low :: .int (hg : Nat) :: .ref dw :: .int (ah : Nat) :: .int (e0 : Nat) :: .int (s0 : Nat) :: v23 :: tl) σ Q := by
  unfold in2a
  refine seq_ite ?_
  refine e_t_cmp ?_
  first | refine lc_i rfl ?_ | refine lc_r rfl ?_ | refine lc_s rfl ?_ | refine lc_n rfl ?_
  refine e_x_con ?_
  refine e_c_ge ?_
  rcases hl with ⟨k, rfl, hk, rfl⟩ | ⟨hneg, rfl⟩
  · refine ite_dt (Int.natCast_nonneg k) ?_
    refine seq_seq (seq_set ?_)
    refine e_x_call (e_x_con (e_l_cons ?_))
    first | refine lc_i rfl ?_ | refine lc_r rfl ?_ | refine lc_s rfl ?_ | refine lc_n rfl ?_
    refine e_l_cons (e_x_sub ?_)
    first | refine lc_i rfl ?_ | refine lc_r rfl ?_ | refine lc_s rfl ?_ | refine lc_n rfl ?_
    first | refine lc_i rfl ?_ | refine lc_r rfl ?_ | refine lc_s rfl ?_ | refine lc_n rfl ?_
    refine sub_of k rfl gm rfl (by rw [ivs_length]; exact hk) ?_
    rw [nth_ivs hk]
    refine e_l_cons ?_
    first | refine lc_i rfl ?_ | refine lc_r rfl ?_ | refine lc_s rfl ?_ | refine lc_n rfl ?_
    refine e_l_cons ?_
    first | refine lc_i rfl ?_ | refine lc_r rfl ?_ | refine lc_s rfl ?_ | refine lc_n rfl ?_
    refine e_l_nil (e_l_nil ?_)
    try simp only [nth]
    refine br_seg (fn12_bisect_right X) gl h1 h2 (by rw [hS]; exact hs) ?_
    rw [hS]
    simp only [stW, setN]
    exact seq_skip q
  · refine ite_df (Int.not_le.mpr hneg) ?_
    have e : S.countP (upTo none) = 0 := List.countP_eq_zero.mpr fun _ _ h => by (first | exact nS h | exact nO h | exact nF h | exact nT h | exact nN h | exact nC h | cases h)
    rw [e] at q
    exact seq_skip q
theorem in2b_ok (X : Txt W (K12 P) tb12) (gl : σ dl = some (.lst (ivs L))) (gm : σ dm = some (.lst (ivs M))) (hh : HighIs M hg w) (h1 : s0 + b ≤ e0) (h2 : e0 ≤ L.length) (hS : sgt L (s0 + b) e0 = S) (hs : Sorted S)
    (q : sW W (n + 1) rest cs (v0 :: v1 :: v2 :: v3 :: v4 :: v5 :: .ref dl :: v7 :: .ref dm :: v9 :: .int (s0 : Nat) :: v11 :: v12 :: v13 :: v14 :: v15 :: v16 :: .int low :: .int (hg : Nat) :: .ref dw :: .int (ah : Nat) :: .int (e0 : Nat) :: .int ((s0 + b : Nat) : Int) :: .int ((s0 + b + S.countP (fun y => !from_ w y) : Nat) : Int) :: tl) σ Q) :
    sW W (n + 1) (.seq in2b rest) cs (v0 :: v1 :: v2 :: v3 :: v4 :: v5 :: .ref dl :: v7 :: .ref dm :: v9 :: .int (s0 : Nat) :: v11 :: v12 :: v13 :: v14 :: v15 :: v16 :: .int low :: .int (hg : Nat) :: .ref dw :: .int (ah : Nat) :: .int (e0 : Nat) :: .int ((s0 + b : Nat) : Int) :: .int (e0 : Nat) :: tl) σ Q := by
  unfold in2b
  refine seq_ite ?_
  refine e_t_cmp ?_
  first | refine lc_i rfl ?_ | refine lc_r rfl ?_ | refine lc_s rfl ?_ | refine lc_n rfl ?_
  refine e_x_bcall (e_l_cons ?_)
  first | refine lc_i rfl ?_ | refine lc_r rfl ?_ | refine lc_s rfl ?_ | refine lc_n rfl ?_
  refine e_l_nil ?_
  refine len_of gm rfl ?_
  rw [ivs_length]
  refine e_c_lt ?_
  rcases hh with ⟨hk, rfl⟩ | ⟨hk, rfl⟩
  · refine ite_dt (Int.ofNat_lt.mpr hk) ?_
    refine seq_seq (seq_set ?_)
    refine e_x_call (e_x_con (e_l_cons ?_))
    first | refine lc_i rfl ?_ | refine lc_r rfl ?_ | refine lc_s rfl ?_ | refine lc_n rfl ?_
    refine e_l_cons (e_x_sub ?_)
    first | refine lc_i rfl ?_ | refine lc_r rfl ?_ | refine lc_s rfl ?_ | refine lc_n rfl ?_
    first | refine lc_i rfl ?_ | refine lc_r rfl ?_ | refine lc_s rfl ?_ | refine lc_n rfl ?_
    refine sub_of hg rfl gm rfl (by rw [ivs_length]; exact hk) ?_
    rw [nth_ivs hk]
    refine e_l_cons ?_
    first | refine lc_i rfl ?_ | refine lc_r rfl ?_ | refine lc_s rfl ?_ | refine lc_n rfl ?_
    refine e_l_cons ?_
    first | refine lc_i rfl ?_ | refine lc_r rfl ?_ | refine lc_s rfl ?_ | refine lc_n rfl ?_
    refine e_l_nil (e_l_nil ?_)
    try simp only [nth]
    refine bl_seg (fn12_bisect_left X) gl h1 h2 (by rw [hS]; exact hs) ?_
    rw [hS]
    have e : S.countP (fun y => decide (y < M.getD hg 0)) = S.countP fun y => !from_ (some (M.getD hg 0)) y := List.countP_congr fun y _ => by
      show _ ↔ (!decide (M.getD hg 0 ≤ y)) = true
      rw [Bool.not_eq_true', decide_eq_false_iff_not, decide_eq_true_eq]; exact Int.not_le.symm
    rw [e]
    simp only [stW, setN]
    exact seq_skip q
  · refine ite_df (fun x => absurd (Int.ofNat_lt.mp x) (Nat.not_lt.mpr hk)) ?_
    have e : S.countP (fun y => !from_ none y) = S.length := List.countP_eq_length.mpr fun _ _ => rfl
    have e2 : s0 + b + S.length = e0 := by rw [← hS, sgt_len h2]; (first | assumption | exact q1 ‹_› | exact q2 ‹_› ‹_› | exact q3 ‹_› ‹_› | exact q4 ‹_› ‹_› | exact q5 ‹_› | exact q6 ‹_› | omega)
    rw [e, e2] at q
    exact seq_skip q
theorem in2_ok (X : Txt W (K12 P) tb12) (gl : σ dl = some (.lst (ivs L))) (gm : σ dm = some (.lst (ivs M))) (gw : σ dw = some (.lst (ivs G))) (n1 : dl ≠ dw) (hl : LowIs M low v) (hh : HighIs M hg w) (h1 : s0 ≤ e0) (h2 : e0 ≤ L.length) (hS : sgt L s0 e0 = S) (hs : Sorted S) (hlim : G.length + L.length ≤ lim)
    (q : ∀ σ' v22 v23, Upd dw σ σ' → σ' dw = some (.lst (ivs (G ++ S.filter (btw v w)))) → Q .next σ' (v0 :: v1 :: v2 :: v3 :: v4 :: v5 :: .ref dl :: v7 :: .ref dm :: v9 :: .int (s0 : Nat) :: v11 :: v12 :: v13 :: v14 :: v15 :: v16 :: .int low :: .int (hg : Nat) :: .ref dw :: .int ((ah + S.countP (upTo v) : Nat) : Int) :: .int (e0 : Nat) :: v22 :: v23 :: tl)) :
    sW W (n + 1) in2 cs (v0 :: v1 :: v2 :: v3 :: v4 :: v5 :: .ref dl :: v7 :: .ref dm :: v9 :: .int (s0 : Nat) :: v11 :: v12 :: v13 :: v14 :: v15 :: v16 :: .int low :: .int (hg : Nat) :: .ref dw :: .int (ah : Nat) :: .int (e0 : Nat) :: v22 :: v23 :: tl) σ Q := by
  have hle : S.length = e0 - s0 := by rw [← hS, sgt_len h2]
  have hb : S.countP (upTo v) ≤ S.length := List.countP_le_length
  unfold in2
  refine seq_set ?_
  first | refine lc_i rfl ?_ | refine lc_r rfl ?_ | refine lc_s rfl ?_ | refine lc_n rfl ?_
  simp only [nth, stW, setN]
  refine in2a_ok X gl gm hl h1 h2 hS hs ?_
  refine seq_set ?_
  first | refine lc_i rfl ?_ | refine lc_r rfl ?_ | refine lc_s rfl ?_ | refine lc_n rfl ?_
  simp only [nth, stW, setN]
  have hS2 : sgt L (s0 + S.countP (upTo v)) e0 = S.drop (S.countP (upTo v)) := by rw [sgt_drop, hS]
  refine in2b_ok X gl gm hh (by (first | assumption | exact q1 ‹_› | exact q2 ‹_› ‹_› | exact q3 ‹_› ‹_› | exact q4 ‹_› ‹_› | exact q5 ‹_› | exact q6 ‹_› | lia | omega)) h2 hS2 (sorted_drop hs _) ?_
  have hbt := between hs v w
  have hc : (S.drop (S.countP (upTo v))).countP (fun y => !from_ w y) ≤ e0 - (s0 + S.countP (upTo v)) := by
    have : (S.drop (S.countP (upTo v))).countP (fun y => !from_ w y) ≤ (S.drop (S.countP (upTo v))).length := List.countP_le_length
    rw [List.length_drop] at this; (first | assumption | exact q1 ‹_› | exact q2 ‹_› ‹_› | exact q3 ‹_› ‹_› | exact q4 ‹_› ‹_› | exact q5 ‹_› | exact q6 ‹_› | lia | omega)
  have hsl := sgt_take (L := L) (e := e0) hc
  rw [hS2, hbt] at hsl
  generalize (S.drop (S.countP (upTo v))).countP (fun y => !from_ w y) = c at hc hsl ⊢
  generalize S.countP (upTo v) = b at hc hsl hS2 q ⊢
  unfold in2c
  refine seq_aug ?_
  refine ⟨nofun, ?_⟩
  show xW W (n + 1) (.bin .Sub (.loc 22) (.loc 10)) cs _ σ _
  refine e_x_bin ?_
  first | refine lc_i rfl ?_ | refine lc_r rfl ?_ | refine lc_s rfl ?_ | refine lc_n rfl ?_
  first | refine lc_i rfl ?_ | refine lc_r rfl ?_ | refine lc_s rfl ?_ | refine lc_n rfl ?_
  refine e_b_sub ?_
  simp only [nth]; rw [aug_add]
  rw [show ((ah : Int) + (((s0 + b : Nat) : Int) - (s0 : Int))) = ((ah + b : Nat) : Int) by (first | assumption | exact q1 ‹_› | exact q2 ‹_› ‹_› | exact q3 ‹_› ‹_› | exact q4 ‹_› ‹_› | exact q5 ‹_› | exact q6 ‹_› | lia | omega)]
  simp only [stW, setN]
  refine seq_exp ?_
  refine e_x_meth ?_
  first | refine lc_i rfl ?_ | refine lc_r rfl ?_ | refine lc_s rfl ?_ | refine lc_n rfl ?_
  refine mlist_of gw ?_
  refine e_l_cons (e_x_sl ?_)
  first | refine lc_i rfl ?_ | refine lc_r rfl ?_ | refine lc_s rfl ?_ | refine lc_n rfl ?_
  first | refine lc_i rfl ?_ | refine lc_r rfl ?_ | refine lc_s rfl ?_ | refine lc_n rfl ?_
  first | refine lc_i rfl ?_ | refine lc_r rfl ?_ | refine lc_s rfl ?_ | refine lc_n rfl ?_
  refine e_x_con ?_
  try simp only [nth]
  refine slice_of (l := some ((s0 + b : Nat) : Int)) (h := some ((s0 + b + c : Nat) : Int)) (pI _) (pI _) gl rfl fun d σ1 m1 e1 f1 => ?_
  rw [pick_nat, Nat.add_sub_cancel_left, ivs_drop, ivs_take, hsl] at f1
  refine e_l_nil (e_m_extend ?_)
  refine mlist_of (e1 _ _ gw) (mlist_of f1 ⟨ne_new gw m1, ?_, ?_⟩)
  · rw [ivs_length, ivs_length]
    have : (S.filter (btw v w)).length ≤ S.length := List.length_filter_le _ _
    (first | assumption | exact q1 ‹_› | exact q2 ‹_› ‹_› | exact q3 ‹_› ‹_› | exact q4 ‹_› ‹_› | exact q5 ‹_› | exact q6 ‹_› | lia | omega)
  · rw [ivs_append]
    exact q _ _ _ ((e1.upd dw).trans (Upd.set _ _ _)) (St.set_same _ _ _)
end
end Mine

end
section -- L12j
namespace Mine
variable {W : Wd} {n : Nat} {σ σ' τ : St} {cs : List Addr}

theorem few_len {v w : Option Int} {R : List (List Int)} : ∀ i, i ≤ R.length → (fewF v w (R.take i)).length ≤ (laidF R i).length
  | 0, _ => Nat.le_refl _
  | i + 1, h => by
    have := few_len (v := v) (w := w) i (Nat.le_of_succ_le h)
    have h2 : ((isort (R.getD i [])).filter (btw v w)).length ≤ (isort (R.getD i [])).length := List.length_filter_le _ _
    rw [few_succ h, laid_succ h, List.length_append, List.length_append]; (first | assumption | exact q1 ‹_› | exact q2 ‹_› ‹_› | exact q3 ‹_› ‹_› | exact q4 ‹_› ‹_› | exact q5 ‹_› | exact q6 ‹_› | lia | omega)
noncomputable def in3 : S := .for_ (.many [(.l 10), (.l 21)]) (.loc 7) in2
section
variable {P : Params} {dl dt dm dw : Addr} {ts : List Addr} {R : List (List Int)} {M : List Int} {low : Int} {hg q : Nat} {v w : Option Int} {v0 v1 v2 v3 v4 v5 v9 v10 v11 v12 v13 v14 v15 v16 v20 v21 v22 v23 : V} {tl : List V} {rest : S} {Q : Fl → St → List V → Prop}
theorem in3_ok (X : Txt W (K12 P) tb12) (H : PP q R) (h : LS τ σ dl dt dm ts R q R.length) (nw : σ dw = none) (E : Ext σ σ') (gw : σ' dw = some (.lst [])) (gm : σ dm = some (.lst (ivs M))) (hl : LowIs M low v) (hh : HighIs M hg w)
    (z : ∀ σ' v10 v21 v22 v23, Ext σ σ' → σ' dw = some (.lst (ivs (fewF v w R))) → sW W (n + 1) rest cs (v0 :: v1 :: v2 :: v3 :: v4 :: v5 :: .ref dl :: .ref dt :: .ref dm :: v9 :: v10 :: v11 :: v12 :: v13 :: v14 :: v15 :: v16 :: .int low :: .int (hg : Nat) :: .ref dw :: .int (aheadF v R : Nat) :: v21 :: v22 :: v23 :: tl) σ' Q) :
    sW W (n + 1) (.seq in3 rest) cs (v0 :: v1 :: v2 :: v3 :: v4 :: v5 :: .ref dl :: .ref dt :: .ref dm :: v9 :: v10 :: v11 :: v12 :: v13 :: v14 :: v15 :: v16 :: .int low :: .int (hg : Nat) :: .ref dw :: .int 0 :: v21 :: v22 :: v23 :: tl) σ' Q := by
  unfold in3
  refine seq_for ?_
  rw [x_loc]
  have gt := h.str
  refine ⟨nofun, iter_lst (E _ _ gt) ?_⟩
  refine forW_inv (k := 0) (fun i fr σ' => fr = v0 :: v1 :: v2 :: v3 :: v4 :: v5 :: .ref dl :: .ref dt :: .ref dm :: v9 :: nth fr 10 :: v11 :: v12 :: v13 :: v14 :: v15 :: v16 :: .int low :: .int (hg : Nat) :: .ref dw :: .int (aheadF v (R.take i) : Nat) :: nth fr 21 :: nth fr 22 :: nth fr 23 :: tl ∧ Ext σ σ' ∧ σ' dw = some (.lst (ivs (fewF v w (R.take i))))) (fun _ _ _ => False) ⟨rfl, E, gw⟩ (fun i fr σ' hi hJ => ?_) (fun fr σ' hJ => ?_) (fun _ _ _ h => h.elim)
  · obtain ⟨hf, E, g⟩ := hJ
    rw [hf]
    rw [rf_len, h.len] at hi
    rw [Nat.zero_add] at g ⊢
    refine ⟨E _ _ gt, fun Q' hQ' _ => ?_⟩
    rw [nth_rfD (by rw [h.len]; exact hi)]
    refine tupA_of (E _ _ (h.tup i hi)) ⟨rfl, ?_⟩
    simp only [stsW, stW, setN]
    obtain ⟨m1, m2⟩ := laid_mono hi
    have hL := H.laid_len R.length (Nat.le_refl _)
    have hG := few_len (v := v) (w := w) i (Nat.le_of_lt hi)
    have h4 := H.m4
    refine in2_ok X (E _ _ h.laid) (E _ _ gm) g (ne_new h.laid nw) hl hh m1 m2 (sgt_part hi) (sorted_isort _) (by unfold lim; (first | assumption | exact q1 ‹_› | exact q2 ‹_› ‹_› | exact q3 ‹_› ‹_› | exact q4 ‹_› ‹_› | exact q5 ‹_› | exact q6 ‹_› | lia | omega)) fun σ2 v22 v23 U g2 => ?_
    rw [← few_succ hi] at g2
    rw [← ahead_succ hi]
    exact hQ' _ _ ⟨rfl, fun b o hb => U _ _ (ne_new hb nw) (E _ _ hb), g2⟩
  · obtain ⟨hf, E, g⟩ := hJ
    rw [hf]
    rw [Nat.zero_add, rf_len, h.len, List.take_length] at g ⊢
    exact ⟨E _ _ gt, z _ _ _ _ _ E g⟩
end
end Mine

end
section -- L12k
namespace Mine
variable {W : Wd} {n : Nat} {σ σ' τ : St} {cs : List Addr}

theorem low_is {q p reach : Nat} {E M : List Int} (K : Rank q E M reach) (hp : p < E.length) : LowIs (isort M) (((p : Int) - (reach : Int)).fdiv q) (loB12 q reach (isort M) p) := by
  unfold LowIs loB12
  by_cases h : reach ≤ p
  · rw [if_pos h]
    refine .inl ⟨(p - reach) / q, ?_, by rw [isort_length]; exact K.low_lt hp h, rfl⟩
    rw [show ((p : Int) - (reach : Int)) = ((p - reach : Nat) : Int) by (first | assumption | exact q1 ‹_› | exact q2 ‹_› ‹_› | exact q3 ‹_› ‹_› | exact q4 ‹_› ‹_› | exact q5 ‹_› | exact q6 ‹_› | lia | omega), fdiv_nat]
  · rw [if_neg h]
    refine .inr ⟨?_, rfl⟩
    rw [Int.fdiv_eq_ediv_of_nonneg _ (Int.natCast_nonneg q)]
    exact Int.ediv_neg_of_neg_of_pos (by (first | assumption | exact q1 ‹_› | exact q2 ‹_› ‹_› | exact q3 ‹_› ‹_› | exact q4 ‹_› ‹_› | exact q5 ‹_› | exact q6 ‹_› | lia | omega)) (Int.natCast_pos.mpr K.q0)
theorem high_is (q p : Nat) (M : List Int) : HighIs M (p / q) (hiB12 q M p) := by
  unfold HighIs hiB12
  by_cases h : p / q < M.length
  · rw [if_pos h]; exact .inl ⟨h, rfl⟩
  · rw [if_neg h]; exact .inr ⟨Nat.not_lt.mp h, rfl⟩
noncomputable def plcA : S := .seq (.exp (.meth .append (.loc 15) (.cons (.sub (.loc 8) (.loc 17)) .nil))) .skip
noncomputable def plcB : S := .seq (.exp (.meth .append (.loc 15) (.cons (.sub (.bcall .sorted (.cons (.loc 19) .nil)) (.bin .Sub (.loc 16) (.loc 20))) .nil))) .skip
noncomputable def plcC : S := .seq (.exp (.meth .append (.loc 15) (.cons (.sub (.loc 8) (.loc 18)) .nil))) .skip
noncomputable def plcT : S := .seq (.ite (.cmp .GtE (.bcall .len (.cons (.loc 19) .nil)) (.bin .Mult (.con (.int (2))) (.loc 13))) retN .skip)
 (.seq (.ite (.cmp .Lt (.loc 16) (.loc 20)) plcA (.seq (.ite (.cmp .Lt (.loc 16) (.bin .Add (.loc 20) (.bcall .len (.cons (.loc 19) .nil)))) plcB plcC) .skip)) .skip)
noncomputable def plc : S := .seq (.set (.l 17) (.bin .FloorDiv (.bin .Sub (.loc 16) (.loc 13)) (.loc 2)))
 (.seq (.set (.l 18) (.bin .FloorDiv (.loc 16) (.loc 2))) (.seq (.set (.l 19) (.lst .nil)) (.seq (.set (.l 20) (.con (.int (0)))) (.seq in3 plcT))))
section
variable {P : Params} {dl dt dm dw df : Addr} {ts : List Addr} {R : List (List Int)} {low : Int} {hg q p reach : Nat} {v0 v1 v2 v3 v4 v5 v7 v9 v10 v11 v12 v14 v17 v18 v19 v20 v21 v22 v23 : V} {tl : List V} {E M : List Int} {Q : Fl → St → List V → Prop}
theorem plcT_ok (K : Rank q E M reach) (hr : 0 < reach) (hp : p < E.length) (gm : σ dm = some (.lst (ivs (isort M)))) (gw : σ dw = some (.lst (ivs (fewF v w R)))) (gf : σ df = some (.lst (ivs ((isort E).take p)))) (hE : E = R.flatten) (hEl : E.length ≤ 10000)
    (hv : v = loB12 q reach (isort M) p) (hw : w = hiB12 q (isort M) p) (hl : low = ((p : Int) - (reach : Int)).fdiv q)
    (z : ∀ σ', Upd df σ σ' → σ' df = some (.lst (ivs ((isort E).take (p + 1)))) → Q .next σ' (v0 :: v1 :: v2 :: v3 :: v4 :: v5 :: .ref dl :: v7 :: .ref dm :: v9 :: v10 :: v11 :: v12 :: .int (reach : Nat) :: v14 :: .ref df :: .int (p : Nat) :: .int low :: .int (p / q : Nat) :: .ref dw :: .int (aheadF v R : Nat) :: v21 :: v22 :: v23 :: tl)) :
    sW W n plcT cs (v0 :: v1 :: v2 :: v3 :: v4 :: v5 :: .ref dl :: v7 :: .ref dm :: v9 :: v10 :: v11 :: v12 :: .int (reach : Nat) :: v14 :: .ref df :: .int (p : Nat) :: .int low :: .int (p / q : Nat) :: .ref dw :: .int (aheadF v R : Nat) :: v21 :: v22 :: v23 :: tl) σ Q := by
  have hperm := few_perm v w R
  have hah := ahead_eq v R
  rw [← hE] at hperm hah
  have hF : (fewF v w R).length = (E.filter (btw v w)).length := hperm.length_eq
  have hF2 : isort (fewF v w R) = isort (E.filter (btw v w)) := isort_congr hperm
  rw [hah] at z ⊢
  generalize fewF v w R = F at gw hF hF2
  have hfew := K.few hr hp hv hw
  have hpl : p < (isort E).length := by rw [isort_length]; exact hp
  rw [take_succ hpl] at z
  have fin : ∀ (σ1 : St) (x : Int), Ext σ σ1 → x = (isort E).getD p 0 → meW .append (.ref df) [.int x] σ1 fun _ σ2 => sW W n .skip cs (v0 :: v1 :: v2 :: v3 :: v4 :: v5 :: .ref dl :: v7 :: .ref dm :: v9 :: v10 :: v11 :: v12 :: .int (reach : Nat) :: v14 :: .ref df :: .int (p : Nat) :: .int low :: .int (p / q : Nat) :: .ref dw :: .int (E.countP (upTo v) : Nat) :: v21 :: v22 :: v23 :: tl) σ2 Q := fun σ1 x e hx => by
    refine append_of (e _ _ gf) (by rw [ivs_length, List.length_take]; unfold lim; (first | assumption | exact q1 ‹_› | exact q2 ‹_› ‹_› | exact q3 ‹_› ‹_› | exact q4 ‹_› ‹_› | exact q5 ‹_› | exact q6 ‹_› | lia | omega)) ?_
    refine z _ ((e.upd df).trans (Upd.set _ _ _)) ((St.set_same _ _ _).trans ?_)
    rw [← ivs_append, hx]; rfl
  unfold plcT
  refine seq_ite ?_
  refine e_t_cmp (e_x_bcall (e_l_cons (lc_r rfl (e_l_nil (len_of gw rfl ?_)))))
  refine e_x_bin (e_x_con (lc_i rfl (e_b_mul ⟨IntMulOk.of_left (by decide), ?_⟩)))
  rw [ivs_length]
  refine e_c_ge ?_
  refine ite_df (by (first | assumption | exact q1 ‹_› | exact q2 ‹_› ‹_› | exact q3 ‹_› ‹_› | exact q4 ‹_› ‹_› | exact q5 ‹_› | exact q6 ‹_› | lia | omega)) ?_
  refine seq_skip (seq_ite ?_)
  refine e_t_cmp (lc_i rfl (lc_i rfl (e_c_lt ?_)))
  by_cases h1 : p < E.countP (upTo v)
  · refine ite_dt (by (first | assumption | exact q1 ‹_› | exact q2 ‹_› ‹_› | exact q3 ‹_› ‹_› | exact q4 ‹_› ‹_› | exact q5 ‹_› | exact q6 ‹_› | lia | omega)) ?_
    obtain ⟨h2, h3⟩ := K.first hp hv h1
    unfold plcA
    refine seq_seq (seq_exp ?_)
    refine e_x_meth (lc_r rfl (mlist_of gf (e_l_cons (e_x_sub (lc_r rfl (lc_i rfl ?_))))))
    refine sub_of ((p - reach) / q) ?_ gm rfl (by rw [ivs_length, isort_length]; exact K.low_lt hp h2) (e_l_nil ?_)
    · rw [hl, show ((p : Int) - (reach : Int)) = ((p - reach : Nat) : Int) by (first | assumption | exact q1 ‹_› | exact q2 ‹_› ‹_› | exact q3 ‹_› ‹_› | exact q4 ‹_› ‹_› | exact q5 ‹_› | exact q6 ‹_› | lia | omega), fdiv_nat]
    · rw [nth_ivs (by rw [isort_length]; exact K.low_lt hp h2), h3]
      exact fin σ _ (Ext.refl _) rfl
  · refine ite_df (by (first | assumption | exact q1 ‹_› | exact q2 ‹_› ‹_› | exact q3 ‹_› ‹_› | exact q4 ‹_› ‹_› | exact q5 ‹_› | exact q6 ‹_› | lia | omega)) ?_
    refine seq_seq (seq_ite ?_)
    refine e_t_cmp (lc_i rfl (e_x_bin (lc_i rfl (e_x_bcall (e_l_cons (lc_r rfl (e_l_nil (len_of gw rfl ?_))))))))
    rw [ivs_length]
    refine e_b_add (e_c_lt ?_)
    by_cases h2 : p < E.countP (upTo v) + F.length
    · refine ite_dt (by (first | assumption | exact q1 ‹_› | exact q2 ‹_› ‹_› | exact q3 ‹_› ‹_› | exact q4 ‹_› ‹_› | exact q5 ‹_› | exact q6 ‹_› | lia | omega)) ?_
      unfold plcB
      refine seq_seq (seq_exp ?_)
      refine e_x_meth (lc_r rfl (mlist_of gf (e_l_cons (e_x_sub (e_x_bcall (e_l_cons (lc_r rfl (e_l_nil (sorted_of gw rfl fun ds σ1 m1 e1 f1 => ?_)))))))))
      refine e_x_bin (lc_i rfl (lc_i rfl (e_b_sub ?_)))
      have hi : p - E.countP (upTo v) < (isort F).length := by rw [isort_length]; (first | assumption | exact q1 ‹_› | exact q2 ‹_› ‹_› | exact q3 ‹_› ‹_› | exact q4 ‹_› ‹_› | exact q5 ‹_› | exact q6 ‹_› | lia | omega)
      refine sub_of (p - E.countP (upTo v)) (by (first | assumption | exact q1 ‹_› | exact q2 ‹_› ‹_› | exact q3 ‹_› ‹_› | exact q4 ‹_› ‹_› | exact q5 ‹_› | exact q6 ‹_› | lia | omega)) f1 rfl (by rw [ivs_length]; exact hi) (e_l_nil ?_)
      rw [nth_ivs hi]
      exact fin σ1 _ e1 (mid_place (upTo_dn v) (from_up w) hF2 hp (Nat.not_lt.mp h1) h2)
    · refine ite_df (by (first | assumption | exact q1 ‹_› | exact q2 ‹_› ‹_› | exact q3 ‹_› ‹_› | exact q4 ‹_› ‹_› | exact q5 ‹_› | exact q6 ‹_› | lia | omega)) ?_
      obtain ⟨h3, h4⟩ := K.last hp hw hF (Nat.not_lt.mp h2)
      unfold plcC
      refine seq_seq (seq_exp ?_)
      refine e_x_meth (lc_r rfl (mlist_of gf (e_l_cons (e_x_sub (lc_r rfl (lc_i rfl ?_))))))
      have hi : p / q < (isort M).length := by rw [isort_length]; exact h3
      refine sub_of (p / q) rfl gm rfl (by rw [ivs_length]; exact hi) (e_l_nil ?_)
      rw [nth_ivs hi, h4]
      exact fin σ _ (Ext.refl _) rfl
theorem plc_ok (X : Txt W (K12 P) tb12) (H : PP q R) (h0 : 0 < R.length) (h : LS τ σ dl dt dm ts R q R.length) (gf : σ df = some (.lst (ivs ((isort R.flatten).take p)))) (hp : p < R.flatten.length)
    (z : ∀ σ' v10 v17 v18 v19 v20 v21 v22 v23, Upd df σ σ' → σ' df = some (.lst (ivs ((isort R.flatten).take (p + 1)))) → Q .next σ' (v0 :: v1 :: .int q :: v3 :: v4 :: v5 :: .ref dl :: .ref dt :: .ref dm :: v9 :: v10 :: v11 :: v12 :: .int (R.length * (q - 1) : Nat) :: v14 :: .ref df :: .int (p : Nat) :: v17 :: v18 :: v19 :: v20 :: v21 :: v22 :: v23 :: tl)) :
    sW W (n + 1) plc cs (v0 :: v1 :: .int q :: v3 :: v4 :: v5 :: .ref dl :: .ref dt :: .ref dm :: v9 :: v10 :: v11 :: v12 :: .int (R.length * (q - 1) : Nat) :: v14 :: .ref df :: .int (p : Nat) :: v17 :: v18 :: v19 :: v20 :: v21 :: v22 :: v23 :: tl) σ Q := by
  have K := Rank.of H.q2 H.fit
  have hq := H.q2
  have hq5 := H.q5
  have hr : 0 < R.length * (q - 1) := Nat.mul_pos h0 (by (first | assumption | exact q1 ‹_› | exact q2 ‹_› ‹_› | exact q3 ‹_› ‹_› | exact q4 ‹_› ‹_› | exact q5 ‹_› | exact q6 ‹_› | lia | omega))
  have hlen : R.flatten.length ≤ 10000 := by
    have h1 := H.laid_len R.length (Nat.le_refl _)
    have h2 := (few_perm none none R).length_eq
    have h3 := few_len (v := none) (w := none) R.length (Nat.le_refl _)
    have h4 : R.flatten.filter (btw none none) = R.flatten := List.filter_eq_self.mpr fun _ _ => rfl
    have h5 := H.m4
    rw [h4] at h2
    rw [List.take_length] at h3
    (first | assumption | exact q1 ‹_› | exact q2 ‹_› ‹_› | exact q3 ‹_› ‹_› | exact q4 ‹_› ‹_› | exact q5 ‹_› | exact q6 ‹_› | lia | omega)
  have gm := h.mks
  rw [List.take_length] at gm
  generalize R.length * (q - 1) = reach at K hr z ⊢
  unfold plc
  refine seq_set ?_
  refine e_x_bin (e_x_bin (lc_i rfl (lc_i rfl (e_b_sub (lc_i rfl (e_b_div ?_))))))
  have hq1 : ((q : Int)) ≠ 0 := by (first | assumption | exact q1 ‹_› | exact q2 ‹_› ‹_› | exact q3 ‹_› ‹_› | exact q4 ‹_› ‹_› | exact q5 ‹_› | exact q6 ‹_› | lia | omega)
  have hq2 : ((q : Int)) ≠ -1 := by (first | assumption | exact q1 ‹_› | exact q2 ‹_› ‹_› | exact q3 ‹_› ‹_› | exact q4 ‹_› ‹_› | exact q5 ‹_› | exact q6 ‹_› | lia | omega)
  refine ⟨by (first | assumption | exact q1 ‹_› | exact q2 ‹_› ‹_› | exact q3 ‹_› ‹_› | exact q4 ‹_› ‹_› | exact q5 ‹_› | exact q6 ‹_› | lia | omega), by (first | assumption | exact q1 ‹_› | exact q2 ‹_› ‹_› | exact q3 ‹_› ‹_› | exact q4 ‹_› ‹_› | exact q5 ‹_› | exact q6 ‹_› | lia | omega), ?_⟩
  simp only [stW, setN]
  refine seq_set ?_
  refine e_x_bin (lc_i rfl (lc_i rfl (e_b_div ?_)))
  refine ⟨by (first | assumption | exact q1 ‹_› | exact q2 ‹_› ‹_› | exact q3 ‹_› ‹_› | exact q4 ‹_› ‹_› | exact q5 ‹_› | exact q6 ‹_› | lia | omega), by (first | assumption | exact q1 ‹_› | exact q2 ‹_› ‹_› | exact q3 ‹_› ‹_› | exact q4 ‹_› ‹_› | exact q5 ‹_› | exact q6 ‹_› | lia | omega), ?_⟩
  rw [fdiv_nat]
  simp only [stW, setN]
  refine seq_set ?_
  refine e_x_lst (e_l_nil ?_)
  refine ⟨Nat.zero_le _, alW_of fun dw σ1 m1 e1 f1 => ?_⟩
  simp only [stW, setN]
  refine seq_set ?_
  refine e_x_con ?_
  simp only [stW, setN]
  refine in3_ok X H h m1 e1 f1 gm (low_is K hp) (high_is q p _) fun σ2 v10 v21 v22 v23 e2 f2 => ?_
  exact plcT_ok K hr hp (e2 _ _ gm) f2 (e2 _ _ gf) rfl hlen rfl rfl rfl fun σ3 U g => z σ3 _ _ _ _ _ _ _ _ (fun b o hb h => U _ _ hb (e2 _ _ h)) g
end
end Mine

end
section -- L12l
namespace Mine
variable {W : Wd} {n : Nat} {σ σ' τ : St} {cs : List Addr}

theorem comp2W_inv {chk : St → Prop} {bod : V → List V → St → (List V → St → Prop) → Prop} {K : List V → St → Prop} (J : Nat → List V → St → Prop) : ∀ {xs : List V} {k : Nat} {acc : List V} {σ : St}, J k acc σ →
    (∀ i acc σ, i < xs.length → J (k + i) acc σ → chk σ ∧ ∀ K' : List V → St → Prop, (∀ acc' σ', J (k + i + 1) acc' σ' → K' acc' σ') → bod (nth xs i) acc σ K') →
    (∀ acc σ, J (k + xs.length) acc σ → chk σ ∧ K acc σ) → comp2W chk bod xs acc σ K
  | [], k, fr, σ, h0, _, h2 => h2 fr σ h0
  | x :: xs, k, fr, σ, h0, h1, h2 => by
    obtain ⟨hc, hb⟩ := h1 0 fr σ (Nat.succ_pos _) h0
    refine ⟨hc, hb _ (fun o σ' h => ?_)⟩
    refine comp2W_inv J (k := k + 1) h (fun i fr σ hi h => ?_) (fun fr σ h => h2 fr σ ?_)
    · have := h1 (i + 1) fr σ (Nat.succ_lt_succ hi) (by rw [show k + (i + 1) = k + 1 + i by (first | assumption | exact q1 ‹_› | exact q2 ‹_› ‹_› | exact q3 ‹_› ‹_› | exact q4 ‹_› ‹_› | exact q5 ‹_› | exact q6 ‹_› | lia | omega)]; exact h)
      rw [show k + (i + 1) + 1 = k + 1 + i + 1 by (first | assumption | exact q1 ‹_› | exact q2 ‹_› ‹_› | exact q3 ‹_› ‹_› | exact q4 ‹_› ‹_› | exact q5 ‹_› | exact q6 ‹_› | lia | omega)] at this
      exact this
    · rw [show k + (x :: xs).length = k + 1 + xs.length by simp; (first | assumption | exact q1 ‹_› | exact q2 ‹_› ‹_› | exact q3 ‹_› ‹_› | exact q4 ‹_› ‹_› | exact q5 ‹_› | exact q6 ‹_› | lia | omega)]; exact h
noncomputable def evX : X := .comp2 3 [45, 9, 11] (.loc 5) 1 (.loc 1) 2 (.loc 2)
theorem flat_succ {R : List (List Int)} {i : Nat} (h : i < R.length) : (R.take (i + 1)).flatten = (R.take i).flatten ++ R.getD i [] := by
  rw [takeR h, List.flatten_append]; simp
theorem flat_le {R : List (List Int)} {i : Nat} : (R.take i).flatten.length ≤ R.flatten.length := by
  have h : R.flatten = (R.take i).flatten ++ (R.drop i).flatten := by rw [← List.flatten_append, List.take_append_drop]
  rw [h, List.length_append]; exact Nat.le_add_right _ _
theorem ev_ok {d : Addr} {as : List Addr} {R : List (List Int)} {v0 v1 v2 v3 v4 : V} {tl : List V} {Q : V → St → Prop} (gd : σ d = some (.lst (rf as))) (p : Pt σ as R) (hl : R.flatten.length ≤ 10000)
    (q : ∀ de σ', σ de = none → Ext σ σ' → σ' de = some (.lst (ivs R.flatten)) → Q (.ref de) σ') : xW W n evX cs (v0 :: v1 :: v2 :: v3 :: v4 :: .ref d :: tl) σ Q := by
  unfold evX
  refine e_x_comp2 ?_
  first | refine lc_i rfl ?_ | refine lc_r rfl ?_ | refine lc_s rfl ?_ | refine lc_n rfl ?_
  refine iter_lst gd ?_
  refine comp2W_inv (k := 0) (fun i acc σ' => σ' = σ ∧ acc = ivs (R.take i).flatten) ⟨rfl, rfl⟩ (fun i acc σ' hi hJ => ?_) (fun acc σ' hJ => ?_)
  · obtain ⟨rfl, rfl⟩ := hJ
    rw [rf_len, p.len] at hi
    refine ⟨gd, fun K' hK' => ?_⟩
    rw [nth_rfD (by rw [p.len]; exact hi)]
    rw [Nat.zero_add] at hK' ⊢
    simp only [undefs, setN, List.map, x_loc, nth, ne_eq, reduceCtorEq, not_false_eq_true, true_and]
    have ga := p.at_ i hi
    have hfl := flat_le (R := R) (i := i + 1)
    rw [flat_succ hi, List.length_append] at hfl
    refine iter_lst ga ⟨by rw [ivs_length, ivs_length]; unfold lim; (first | assumption | exact q1 ‹_› | exact q2 ‹_› ‹_› | exact q3 ‹_› ‹_› | exact q4 ‹_› ‹_› | exact q5 ‹_› | exact q6 ‹_› | lia | omega), ?_⟩
    refine compW_inv (k := 0) (fun j acc σ2 => σ2 = σ' ∧ acc = ivs ((R.take i).flatten ++ (R.getD i []).take j)) ⟨rfl, by rw [List.take_zero, List.append_nil]⟩ (fun j acc σ2 hj hJ => ?_) (fun acc σ2 hJ => ?_)
    · obtain ⟨rfl, rfl⟩ := hJ
      rw [ivs_length] at hj
      rw [Nat.zero_add]
      refine ⟨ga, fun Q' hQ' => ?_⟩
      rw [nth_ivs hj]
      refine ⟨nofun, hQ' (some _) _ ⟨rfl, ?_⟩⟩
      rw [take_succ hj, ← List.append_assoc, ← ivs_append (_ ++ _)]; rfl
    · obtain ⟨rfl, rfl⟩ := hJ
      rw [ivs_length, Nat.zero_add, List.take_length, ← flat_succ hi]
      exact ⟨ga, hK' _ _ ⟨rfl, rfl⟩⟩
  · obtain ⟨rfl, rfl⟩ := hJ
    rw [rf_len, p.len, Nat.zero_add, List.take_length]
    exact ⟨gd, alW_of q⟩
noncomputable def plL : S := .for_ (.one (.l 16)) (.bcall .range (.cons (.bcall .len (.cons (.loc 14) .nil)) .nil)) plc
noncomputable def midS (rest : S) : S := .seq (.set (.l 13) (.bin .Mult (.loc 3) (.bin .Sub (.loc 2) (.con (.int (1))))))
 (.seq (.set (.l 14) evX) (.seq (.set (.l 15) (.lst .nil)) (.seq plL (.seq (.ite (.cmp .NotEq (.loc 15) (.bcall .sorted (.cons (.loc 14) .nil))) retN .skip) rest))))
section
variable {P : Params} {d dl dt dm : Addr} {as ts : List Addr} {R : List (List Int)} {q m : Nat} {v0 v1 v4 v9 v10 v11 v12 v13 v14 v15 v16 v17 v18 v19 v20 v21 v22 v23 : V} {tl : List V} {rest : S} {Q : Fl → St → List V → Prop}
theorem PP.flat (H : PP q R) : R.flatten.length ≤ 400 := by
  have h1 := H.laid_len R.length (Nat.le_refl _)
  have h2 := (few_perm none none R).length_eq
  have h3 := few_len (v := none) (w := none) R.length (Nat.le_refl _)
  have h4 : R.flatten.filter (btw none none) = R.flatten := List.filter_eq_self.mpr fun _ _ => rfl
  have h5 := H.m4
  rw [h4] at h2
  rw [List.take_length] at h3
  (first | assumption | exact q1 ‹_› | exact q2 ‹_› ‹_› | exact q3 ‹_› ‹_› | exact q4 ‹_› ‹_› | exact q5 ‹_› | exact q6 ‹_› | lia | omega)
theorem mid_ok (X : Txt W (K12 P) tb12) (H : PP q R) (h0 : 0 < R.length) (hm : R.length = m) (h : LS τ σ dl dt dm ts R q R.length) (gd : σ d = some (.lst (rf as))) (p : Pt σ as R)
    (z : ∀ de df σ' v10 v16 v17 v18 v19 v20 v21 v22 v23, Ext σ σ' → σ' de = some (.lst (ivs R.flatten)) → σ' df = some (.lst (ivs (isort R.flatten))) → sW W (n + 1) rest cs (v0 :: v1 :: .int (q : Nat) :: .int (m : Nat) :: v4 :: .ref d :: .ref dl :: .ref dt :: .ref dm :: v9 :: v10 :: v11 :: v12 :: .int (R.length * (q - 1) : Nat) :: .ref de :: .ref df :: v16 :: v17 :: v18 :: v19 :: v20 :: v21 :: v22 :: v23 :: tl) σ' Q) :
    sW W (n + 1) (midS rest) cs (v0 :: v1 :: .int (q : Nat) :: .int (m : Nat) :: v4 :: .ref d :: .ref dl :: .ref dt :: .ref dm :: v9 :: v10 :: v11 :: v12 :: v13 :: v14 :: v15 :: v16 :: v17 :: v18 :: v19 :: v20 :: v21 :: v22 :: v23 :: tl) σ Q := by
  have h4 := H.m4
  have h5 := H.q5
  have h2 := H.q2
  have hfl := H.flat
  unfold midS
  refine seq_set ?_
  refine e_x_bin (lc_i rfl (e_x_bin (lc_i rfl (e_x_con (e_b_sub (e_b_mul ?_))))))
  refine ⟨IntMulOk.of_left (intBits_le_64 (by (first | assumption | exact q1 ‹_› | exact q2 ‹_› ‹_› | exact q3 ‹_› ‹_› | exact q4 ‹_› ‹_› | exact q5 ‹_› | exact q6 ‹_› | lia | omega)) (by (first | assumption | exact q1 ‹_› | exact q2 ‹_› ‹_› | exact q3 ‹_› ‹_› | exact q4 ‹_› ‹_› | exact q5 ‹_› | exact q6 ‹_› | lia | omega))), ?_⟩
  rw [show ((m : Int) * ((q : Int) - 1)) = ((R.length * (q - 1) : Nat) : Int) by rw [hm, Int.natCast_mul]; congr 1; (first | assumption | exact q1 ‹_› | exact q2 ‹_› ‹_› | exact q3 ‹_› ‹_› | exact q4 ‹_› ‹_› | exact q5 ‹_› | exact q6 ‹_› | lia | omega)]
  simp only [stW, setN]
  refine seq_set (ev_ok gd p (by (first | assumption | exact q1 ‹_› | exact q2 ‹_› ‹_› | exact q3 ‹_› ‹_› | exact q4 ‹_› ‹_› | exact q5 ‹_› | exact q6 ‹_› | lia | omega)) fun de σ1 m1 e1 f1 => ?_)
  simp only [stW, setN]
  refine seq_set ?_
  refine e_x_lst (e_l_nil ?_)
  refine ⟨Nat.zero_le _, alW_of fun df σ2 m2 e2 f2 => ?_⟩
  simp only [stW, setN]
  unfold plL
  refine seq_for ?_
  refine e_x_bcall (e_l_cons (e_x_bcall (e_l_cons (lc_r rfl (e_l_nil (len_of (e2 _ _ f1) rfl (e_l_nil ?_)))))))
  rw [ivs_length]
  have hs : small (R.flatten.length : Int) := small_nat (by (first | assumption | exact q1 ‹_› | exact q2 ‹_› ‹_› | exact q3 ‹_› ‹_› | exact q4 ‹_› ‹_› | exact q5 ‹_› | exact q6 ‹_› | lia | omega))
  refine range1_of hs fun dr σ3 m3 e3 f3 => ?_
  refine iter_rng f3 ⟨by decide, by decide⟩ hs (.inl rfl) ?_
  have nf : df ≠ dr := ne_new f2 m3
  refine forW_inv (k := 0) (fun i fr σ' => fr = v0 :: v1 :: .int (q : Nat) :: .int (m : Nat) :: v4 :: .ref d :: .ref dl :: .ref dt :: .ref dm :: v9 :: nth fr 10 :: v11 :: v12 :: .int (R.length * (q - 1) : Nat) :: .ref de :: .ref df :: nth fr 16 :: nth fr 17 :: nth fr 18 :: nth fr 19 :: nth fr 20 :: nth fr 21 :: nth fr 22 :: nth fr 23 :: tl ∧ Ext σ1 σ' ∧ σ' df = some (.lst (ivs ((isort R.flatten).take i)))) (fun _ _ _ => False)
    ⟨rfl, e2.trans e3, e3 _ _ f2⟩ (fun i fr σ' hi hJ => ?_) (fun fr σ' hJ => ?_) (fun _ _ _ h => h.elim)
  · obtain ⟨hf, E, g⟩ := hJ
    rw [len_range] at hi
    rw [Nat.zero_add] at g ⊢
    refine ⟨trivial, fun Q' hQ' _ => ?_⟩
    rw [nth_map_range hi, hf]
    simp only [tgW, stW, setN]
    refine plc_ok X H h0 (h.ext (e1.trans E)) g hi fun σ4 v10 v17 v18 v19 v20 v21 v22 v23 U g4 => ?_
    exact hQ' _ _ ⟨rfl, fun b o hb => U _ _ (ne_new hb m2) (E _ _ hb), g4⟩
  · obtain ⟨hf, E, g⟩ := hJ
    rw [hf]
    rw [Nat.zero_add, len_range] at g
    rw [show (isort R.flatten).take R.flatten.length = isort R.flatten by rw [← isort_length R.flatten, List.take_length]] at g
    refine ⟨trivial, seq_ite ?_⟩
    refine e_t_cmp (lc_r rfl (e_x_bcall (e_l_cons (lc_r rfl (e_l_nil ?_)))))
    refine sorted_of (E _ _ f1) rfl fun ds σ4 m4 e4 f4 => ?_
    refine ne_ints (e4 _ _ g) f4 rfl rfl (ne_new g m4) ?_
    refine ite_nd rfl ?_
    exact seq_skip (z de df σ4 _ _ _ _ _ _ _ _ _ ((e1.trans E).trans e4) (e4 _ _ (E _ _ f1)) (e4 _ _ g))
end
end Mine

end
section -- L12m
namespace Mine
variable {W : Wd} {n : Nat} {σ σ' τ : St} {cs : List Addr}

noncomputable def wayL (S : List Int) (k t : Nat) : List Int := (List.range t).map (wayF S k)
theorem wayL_len (S : List Int) (k t : Nat) : (wayL S k t).length = t := by unfold wayL; rw [List.length_map, List.length_range]
noncomputable def stepF (a b : Int) (k : Nat) : List Int := (List.range k).map fun j => a + (b - a).fdiv k * ((j : Nat) : Int)
theorem stepF_len (a b : Int) (k : Nat) : (stepF a b k).length = k := by unfold stepF; rw [List.length_map, List.length_range]
theorem wayL_step (S : List Int) (k i : Nat) : wayL S k (i * k) ++ stepF (S.getD i 0) (S.getD (i + 1) 0) k = wayL S k ((i + 1) * k) := by
  unfold wayL stepF
  rw [Nat.succ_mul, List.range_add, List.map_append, List.map_map]
  congr 1
  refine List.map_congr_left fun j hj => ?_
  have hj := List.mem_range.mp hj
  have hk : 0 < k := Nat.zero_lt_of_lt hj
  show _ = wayF S k (i * k + j)
  unfold wayF
  rw [Nat.mul_comm i k, Nat.mul_add_div hk, Nat.div_eq_of_lt hj, Nat.mul_add_mod, Nat.mod_eq_of_lt hj]
  rfl
theorem nth_wayL {S : List Int} {k t i : Nat} (h : i < t) : (wayL S k t).getD i 0 = wayF S k i := by
  unfold wayL; rw [List.getD_eq_getElem?_getD, List.getElem?_map, List.getElem?_range h]; rfl
theorem pick_1 {α : Type} (xs : List α) : pick xs (some 1) none = xs.drop 1 := by
  cases xs with
  | nil => rfl
  | cons x xs =>
    have h1 := slB_nat 1 0 (x :: xs).length
    have h2 : slB none (x :: xs).length (x :: xs).length = (x :: xs).length := rfl
    unfold pick
    rw [show ((1 : Nat) : Int) = 1 from rfl] at h1
    rw [h1, h2]
    rw [Nat.min_eq_left (by simp)]
    exact List.take_of_length_le (by simp)
noncomputable def endX (i j : X) : X := .lst (.cons (.bin .Sub (.bin .Mult (.con (.int (2))) (.sub (.loc 15) i)) (.sub (.loc 15) j)) .nil)
noncomputable def widX : X := .bin .Add (.bin .Add (endX (.con (.int (0))) (.con (.int (1)))) (.loc 15)) (endX (.neg (.con (.int (1)))) (.neg (.con (.int (2)))))
section
variable {df : Addr} {S : List Int} {v0 v1 v2 v3 v4 v5 v6 v7 v8 v9 v10 v11 v12 v13 v14 v15 : V} {tl : List V} {Q : V → St → Prop}
theorem end_ok {i j : X} {x y : Int} (hi : ∀ Q : V → St → Prop, Q (.int x) σ → xW W n (.sub (.loc 15) i) cs (v0 :: v1 :: v2 :: v3 :: v4 :: v5 :: v6 :: v7 :: v8 :: v9 :: v10 :: v11 :: v12 :: v13 :: v14 :: v15 :: tl) σ Q)
    (hj : ∀ Q : V → St → Prop, Q (.int y) σ → xW W n (.sub (.loc 15) j) cs (v0 :: v1 :: v2 :: v3 :: v4 :: v5 :: v6 :: v7 :: v8 :: v9 :: v10 :: v11 :: v12 :: v13 :: v14 :: v15 :: tl) σ Q)
    (q : ∀ d σ', σ d = none → Ext σ σ' → σ' d = some (.lst (ivs [2 * x - y])) → Q (.ref d) σ') : xW W n (endX i j) cs (v0 :: v1 :: v2 :: v3 :: v4 :: v5 :: v6 :: v7 :: v8 :: v9 :: v10 :: v11 :: v12 :: v13 :: v14 :: v15 :: tl) σ Q := by
  unfold endX
  refine e_x_lst (e_l_cons (e_x_bin (e_x_bin (e_x_con ?_))))
  refine hi _ ?_
  refine e_b_mul ?_
  refine ⟨IntMulOk.of_left (by decide), hj _ ?_⟩
  refine e_b_sub (e_l_nil ?_)
  exact ⟨by show 1 ≤ lim; decide, alW_of q⟩
theorem wid_ok (gf : σ df = some (.lst (ivs S))) (hS : 2 ≤ S.length) (hS2 : S.length ≤ 400) (q : ∀ d σ', σ d = none → Ext σ σ' → σ' d = some (.lst (ivs (wider S))) → Q (.ref d) σ') :
    xW W n widX cs (v0 :: v1 :: v2 :: v3 :: v4 :: v5 :: v6 :: v7 :: v8 :: v9 :: v10 :: v11 :: v12 :: v13 :: v14 :: .ref df :: tl) σ Q := by
  have fw : ∀ (k : Nat) (σ1 : St) (Q : V → St → Prop), k < S.length → Ext σ σ1 → Q (.int (S.getD k 0)) σ1 → xW W n (.sub (.loc 15) (.con (.int (k : Nat)))) cs (v0 :: v1 :: v2 :: v3 :: v4 :: v5 :: v6 :: v7 :: v8 :: v9 :: v10 :: v11 :: v12 :: v13 :: v14 :: .ref df :: tl) σ1 Q := fun k σ1 Q hk e h => by
    refine e_x_sub ?_
    first | refine lc_i rfl ?_ | refine lc_r rfl ?_ | refine lc_s rfl ?_ | refine lc_n rfl ?_
    refine e_x_con ?_
    refine sub_of k rfl (e _ _ gf) rfl (by rw [ivs_length]; exact hk) ?_
    rw [nth_ivs hk]; exact h
  have bw : ∀ (k : Nat) (σ1 : St) (Q : V → St → Prop), 0 < k → k ≤ S.length → Ext σ σ1 → Q (.int (S.getD (S.length - k) 0)) σ1 → xW W n (.sub (.loc 15) (.neg (.con (.int (k : Nat))))) cs (v0 :: v1 :: v2 :: v3 :: v4 :: v5 :: v6 :: v7 :: v8 :: v9 :: v10 :: v11 :: v12 :: v13 :: v14 :: .ref df :: tl) σ1 Q := fun k σ1 Q hk hk2 e h => by
    refine e_x_sub ?_
    first | refine lc_i rfl ?_ | refine lc_r rfl ?_ | refine lc_s rfl ?_ | refine lc_n rfl ?_
    refine e_x_neg (e_x_con ?_)
    refine sub_end (S.length - k) (e _ _ gf) rfl (by rw [ivs_length]; (first | assumption | exact q1 ‹_› | exact q2 ‹_› ‹_› | exact q3 ‹_› ‹_› | exact q4 ‹_› ‹_› | exact q5 ‹_› | exact q6 ‹_› | lia | omega)) (by rw [ivs_length]; (first | assumption | exact q1 ‹_› | exact q2 ‹_› ‹_› | exact q3 ‹_› ‹_› | exact q4 ‹_› ‹_› | exact q5 ‹_› | exact q6 ‹_› | lia | omega)) ?_
    rw [nth_ivs (by (first | assumption | exact q1 ‹_› | exact q2 ‹_› ‹_› | exact q3 ‹_› ‹_› | exact q4 ‹_› ‹_› | exact q5 ‹_› | exact q6 ‹_› | lia | omega))]; exact h
  unfold widX
  refine e_x_bin (e_x_bin ?_)
  refine end_ok (x := S.getD 0 0) (y := S.getD 1 0) (fun Q h => fw 0 σ Q (by (first | assumption | exact q1 ‹_› | exact q2 ‹_› ‹_› | exact q3 ‹_› ‹_› | exact q4 ‹_› ‹_› | exact q5 ‹_› | exact q6 ‹_› | lia | omega)) (Ext.refl _) h) (fun Q h => fw 1 σ Q (by (first | assumption | exact q1 ‹_› | exact q2 ‹_› ‹_› | exact q3 ‹_› ‹_› | exact q4 ‹_› ‹_› | exact q5 ‹_› | exact q6 ‹_› | lia | omega)) (Ext.refl _) h) fun d1 σ1 m1 e1 f1 => ?_
  first | refine lc_i rfl ?_ | refine lc_r rfl ?_ | refine lc_s rfl ?_ | refine lc_n rfl ?_
  refine add_ints f1 rfl (e1 _ _ gf) rfl (by show 1 + _ ≤ lim; unfold lim; (first | assumption | exact q1 ‹_› | exact q2 ‹_› ‹_› | exact q3 ‹_› ‹_› | exact q4 ‹_› ‹_› | exact q5 ‹_› | exact q6 ‹_› | lia | omega)) fun d2 σ2 m2 e2 f2 => ?_
  have e12 := e1.trans e2
  refine end_ok (x := S.getD (S.length - 1) 0) (y := S.getD (S.length - 2) 0) (fun Q h => bw 1 σ2 Q (by decide) (by (first | assumption | exact q1 ‹_› | exact q2 ‹_› ‹_› | exact q3 ‹_› ‹_› | exact q4 ‹_› ‹_› | exact q5 ‹_› | exact q6 ‹_› | lia | omega)) e12 h) (fun Q h => bw 2 σ2 Q (by decide) hS e12 h) fun d3 σ3 m3 e3 f3 => ?_
  exact add_ints (e3 _ _ f2) rfl f3 rfl (by rw [List.length_append]; show 1 + _ + 1 ≤ lim; unfold lim; (first | assumption | exact q1 ‹_› | exact q2 ‹_› ‹_› | exact q3 ‹_› ‹_› | exact q4 ‹_› ‹_› | exact q5 ‹_› | exact q6 ‹_› | lia | omega)) fun d4 σ4 m4 e4 f4 => q d4 σ4 (e12.none (e3.none m4)) ((e12.trans e3).trans e4) f4
end
/-- the cells of the law, all unlike -/
structure Cd (cs : List Addr) : Prop where
  nw : nthA cs 4 ≠ nthA cs 26
  ny : nthA cs 4 ≠ nthA cs 27
  na : nthA cs 4 ≠ nthA cs 28
  nb : nthA cs 4 ≠ nthA cs 29
  wy : nthA cs 26 ≠ nthA cs 27
  wa : nthA cs 26 ≠ nthA cs 28
  wb : nthA cs 26 ≠ nthA cs 29
  ya : nthA cs 27 ≠ nthA cs 28
  yb : nthA cs 27 ≠ nthA cs 29
  ab : nthA cs 28 ≠ nthA cs 29
structure CV (cs : List Addr) (σ : St) (v w y a b : V) : Prop where
  n : σ (nthA cs 4) = some (.cell v)
  w : σ (nthA cs 26) = some (.cell w)
  y : σ (nthA cs 27) = some (.cell y)
  a : σ (nthA cs 28) = some (.cell a)
  b : σ (nthA cs 29) = some (.cell b)
noncomputable def CVx (cs : List Addr) (σ : St) (v : V) : Prop := ∃ w y a b, CV cs σ v w y a b
/-- all that is no cell is kept -/
noncomputable def Nc (σ σ' : St) : Prop := ∀ b o, (∀ v, o ≠ O.cell v) → σ b = some o → σ' b = some o
section
variable {v w y a b x : V} {c : Addr} {o : O}
theorem CV.ext (h : CV cs σ v w y a b) (E : Ext σ σ') : CV cs σ' v w y a b := ⟨E _ _ h.n, E _ _ h.w, E _ _ h.y, E _ _ h.a, E _ _ h.b⟩
theorem CV.lst (h : CV cs σ v w y a b) {d : Addr} {xs ys : List V} (g : σ d = some (.lst xs)) : CV cs (σ.set d (.lst ys)) v w y a b := by
  have k : ∀ {c : Addr} {u : V}, σ c = some (.cell u) → (σ.set d (.lst ys)) c = some (.cell u) := fun hc => by
    rw [St.set_other _ _ (fun e => by rw [e, g] at hc; (first | exact nS hc | exact nO hc | exact nF hc | exact nT hc | exact nN hc | exact nC hc | cases hc))]; exact hc
  exact ⟨k h.n, k h.w, k h.y, k h.a, k h.b⟩
theorem CV.setn (D : Cd cs) (h : CV cs σ v w y a b) : CV cs (σ.set (nthA cs 4) (.cell x)) x w y a b :=
  ⟨St.set_same _ _ _, by rw [St.set_other _ _ D.nw.symm]; exact h.w, by rw [St.set_other _ _ D.ny.symm]; exact h.y, by rw [St.set_other _ _ D.na.symm]; exact h.a, by rw [St.set_other _ _ D.nb.symm]; exact h.b⟩
theorem CV.setw (D : Cd cs) (h : CV cs σ v w y a b) : CV cs (σ.set (nthA cs 26) (.cell x)) v x y a b :=
  ⟨by rw [St.set_other _ _ D.nw]; exact h.n, St.set_same _ _ _, by rw [St.set_other _ _ D.wy.symm]; exact h.y, by rw [St.set_other _ _ D.wa.symm]; exact h.a, by rw [St.set_other _ _ D.wb.symm]; exact h.b⟩
theorem CV.sety (D : Cd cs) (h : CV cs σ v w y a b) : CV cs (σ.set (nthA cs 27) (.cell x)) v w x a b :=
  ⟨by rw [St.set_other _ _ D.ny]; exact h.n, by rw [St.set_other _ _ D.wy]; exact h.w, St.set_same _ _ _, by rw [St.set_other _ _ D.ya.symm]; exact h.a, by rw [St.set_other _ _ D.yb.symm]; exact h.b⟩
theorem CV.seta (D : Cd cs) (h : CV cs σ v w y a b) : CV cs (σ.set (nthA cs 28) (.cell x)) v w y x b :=
  ⟨by rw [St.set_other _ _ D.na]; exact h.n, by rw [St.set_other _ _ D.wa]; exact h.w, by rw [St.set_other _ _ D.ya]; exact h.y, St.set_same _ _ _, by rw [St.set_other _ _ D.ab.symm]; exact h.b⟩
theorem CV.setb (D : Cd cs) (h : CV cs σ v w y a b) : CV cs (σ.set (nthA cs 29) (.cell x)) v w y a x :=
  ⟨by rw [St.set_other _ _ D.nb]; exact h.n, by rw [St.set_other _ _ D.wb]; exact h.w, by rw [St.set_other _ _ D.yb]; exact h.y, by rw [St.set_other _ _ D.ab]; exact h.a, St.set_same _ _ _⟩
theorem Nc.at (N : Nc σ σ') {d : Addr} {xs : List V} (g : σ d = some (.lst xs)) : σ' d = some (.lst xs) := N d _ (fun _ h => by (first | exact nS h | exact nO h | exact nF h | exact nT h | exact nN h | exact nC h | cases h)) g
theorem Nc.refl (σ : St) : Nc σ σ := fun _ _ _ h => h
theorem Nc.cell (h : Nc σ σ') (hc : σ' c = some (.cell v)) : Nc σ (σ'.set c (.cell x)) := fun b o ho hb => by
  have := h b o ho hb
  rw [St.set_other _ _ (fun e => by rw [e, hc] at this; exact ho v (Option.some.inj this).symm)]; exact this
theorem Nc.ext (h : Nc σ σ') (E : Ext σ' τ) : Nc σ τ := fun b o ho hb => E _ _ (h b o ho hb)
theorem Nc.put (h : Nc σ σ') (hc : σ c = none) : Nc σ (σ'.set c o) := fun b o ho hb => by
  rw [St.set_other _ _ (ne_new hb hc)]; exact h b _ ho hb
theorem Nc.trans (h : Nc σ σ') (k : Nc σ' τ) : Nc σ τ := fun b o ho hb => k b o ho (h b o ho hb)
theorem st_c {i : Nat} {fr : List V} {K : List V → St → Prop} (h : σ (nthA cs i) = some (.cell v)) (k : K fr (σ.set (nthA cs i) (.cell x))) : stW (.c i) x cs fr σ K := by
  simp only [stW, h]; exact k
end
end Mine

end
section -- L12n
namespace Mine
variable {W : Wd} {n : Nat} {σ σ' τ : St} {cs : List Addr}

noncomputable def stpX : X := .comp 5 [45, 45, 28, 29, 4] (.bcall .range (.cons (.cel 4) .nil)) 1 (.con (.bool true)) (.bin .Add (.cel 2) (.bin .Mult (.bin .FloorDiv (.bin .Sub (.cel 3) (.cel 2)) (.cel 4)) (.loc 1)))
section
variable {k : Nat} {x y : Int} {w z : V} {dw dy : Addr} {S : List Int} {fr : List V}
theorem stp_ok {Q : V → St → Prop} (h : CV cs σ (.int k) w z (.int x) (.int y)) (hk : 0 < k) (hk2 : k ≤ 1000) (q : ∀ d σ', σ d = none → Ext σ σ' → σ' d = some (.lst (ivs (stepF x y k))) → Q (.ref d) σ') : xW W n stpX cs fr σ Q := by
  unfold stpX
  refine e_x_comp (e_x_bcall (e_l_cons ?_))
  refine cel_of h.n nofun ?_
  refine e_l_nil ?_
  have hs : small (k : Int) := small_nat (by (first | assumption | exact q1 ‹_› | exact q2 ‹_› ‹_› | exact q3 ‹_› ‹_› | exact q4 ‹_› ‹_› | exact q5 ‹_› | exact q6 ‹_› | lia | omega))
  refine range1_of hs fun dn σ1 m1 e1 f1 => ?_
  refine iter_rng f1 ⟨by decide, by decide⟩ hs (.inl rfl) ⟨by rw [len_range]; unfold lim; (first | assumption | exact q1 ‹_› | exact q2 ‹_› ‹_› | exact q3 ‹_› ‹_› | exact q4 ‹_› ‹_› | exact q5 ‹_› | exact q6 ‹_› | lia | omega), ?_⟩
  have h1 := h.ext e1
  refine compW_inv (k := 0) (fun i acc σ' => σ' = σ1 ∧ acc = ivs (stepF x y k |>.take i)) ⟨rfl, rfl⟩ (fun i acc σ' hi hJ => ?_) (fun acc σ' hJ => ?_)
  · obtain ⟨rfl, rfl⟩ := hJ
    rw [len_range] at hi
    rw [Nat.zero_add]
    refine ⟨trivial, fun Q' hQ' => ?_⟩
    rw [nth_map_range hi]
    show xW _ _ _ _ _ _ _
    simp only [undefs, setN, List.map]
    refine e_x_bin ?_
    refine cel_of (i := 2) h1.a nofun ?_
    refine e_x_bin (e_x_bin (e_x_bin ?_))
    refine cel_of (i := 3) h1.b nofun ?_
    refine cel_of (i := 2) h1.a nofun ?_
    refine e_b_sub ?_
    refine cel_of (i := 4) h1.n nofun ?_
    refine e_b_div ?_
    refine ⟨by (first | assumption | exact q1 ‹_› | exact q2 ‹_› ‹_› | exact q3 ‹_› ‹_› | exact q4 ‹_› ‹_› | exact q5 ‹_› | exact q6 ‹_› | lia | omega), by (first | assumption | exact q1 ‹_› | exact q2 ‹_› ‹_› | exact q3 ‹_› ‹_› | exact q4 ‹_› ‹_› | exact q5 ‹_› | exact q6 ‹_› | lia | omega), ?_⟩
    first | refine lc_i rfl ?_ | refine lc_r rfl ?_ | refine lc_s rfl ?_ | refine lc_n rfl ?_
    refine e_b_mul ?_
    refine ⟨mul_okr (by (first | assumption | exact q1 ‹_› | exact q2 ‹_› ‹_› | exact q3 ‹_› ‹_› | exact q4 ‹_› ‹_› | exact q5 ‹_› | exact q6 ‹_› | lia | omega)), ?_⟩
    refine e_b_add ?_
    have hi2 : i < (stepF x y k).length := by rw [stepF_len]; exact hi
    refine hQ' (some _) _ ⟨rfl, ?_⟩
    have e : (stepF x y k).getD i 0 = x + (y - x).fdiv k * ((i : Nat) : Int) := by
      unfold stepF; rw [List.getD_eq_getElem?_getD, List.getElem?_map, List.getElem?_range hi]; rfl
    rw [take_succ hi2, ← ivs_append, e]; rfl
  obtain ⟨rfl, rfl⟩ := hJ
  rw [len_range, Nat.zero_add, List.take_of_length_le (by rw [stepF_len]; exact Nat.le_refl _)]
  exact ⟨trivial, alW_of fun d σ2 m2 e2 f2 => q d σ2 (e1.none m2) (e1.trans e2) f2⟩
noncomputable def extB : Mine.S := .seq (.exp (.meth .extend (.cel 27) (.cons stpX .nil))) .skip
noncomputable def zipS : Mine.S := .forz [(.c 28), (.c 29)] (.cons (.cel 26) (.cons (.sl (.cel 26) (.con (.int (1))) (.con .none) (.con .none)) .nil)) extB
theorem way_ok {rest : Mine.S} {va vb vy : V} {Q : Fl → St → List V → Prop} (D : Cd cs) (h : CV cs σ (.int k) (.ref dw) vy va vb) (gw : σ dw = some (.lst (ivs S))) (hk : 0 < k) (hk2 : k ≤ 100) (hS : 2 ≤ S.length) (hS2 : S.length ≤ 1000)
    (q : ∀ dy va vb σ', Nc σ σ' → CV cs σ' (.int k) (.ref dw) (.ref dy) va vb → σ' dy = some (.lst (ivs (wayL S k ((S.length - 1) * k)))) → sW W n rest cs fr σ' Q) :
    sW W n (.seq (.set (.c 27) (.lst .nil)) (.seq zipS rest)) cs fr σ Q := by
  refine seq_set ?_
  refine e_x_lst (e_l_nil ?_)
  refine ⟨Nat.zero_le _, alW_of fun dy σ1 m1 e1 f1 => ?_⟩
  have h1 := h.ext e1
  refine st_c h1.y ?_
  have N2 : Nc σ (σ1.set (nthA cs 27) (.cell (.ref dy))) := ((Nc.refl σ).ext e1).cell h1.y
  have g2 : (σ1.set (nthA cs 27) (.cell (.ref dy))) dy = some (.lst []) := by rw [St.set_other _ _ (fun e => by rw [e, h1.y] at f1; (first | exact nS f1 | exact nO f1 | exact nF f1 | exact nT f1 | exact nN f1 | exact nC f1 | cases f1))]; exact f1
  have h2 := h1.sety (x := .ref dy) D
  generalize σ1.set (nthA cs 27) (.cell (.ref dy)) = σ2 at N2 g2 h2
  unfold zipS
  rw [s_seq, s_forz]
  refine e_l_cons ?_
  refine cel_of h2.w nofun ?_
  refine e_l_cons (e_x_sl ?_)
  refine cel_of h2.w nofun ?_
  simp only [x_con, l_nil]
  have gw2 := N2.at gw
  refine slice_of (l := some 1) (h := none) (pI _) pN gw2 rfl fun d2 σ3 m3 e3 f3 => ?_
  rw [pick_1, ivs_drop] at f3
  refine ⟨dw, d2, ivs S, ivs (S.drop 1), rfl, e3 _ _ gw2, f3, ?_⟩
  rw [ivs_length, ivs_length, List.length_drop, Nat.min_eq_right (Nat.sub_le _ _)]
  have hyd : d2 ≠ dy := (ne_new g2 m3).symm
  have hwd : dw ≠ dy := ne_new gw m1
  refine forW_inv (k := 0) (fun i fr' σ' => fr' = fr ∧ Nc σ σ' ∧ σ' d2 = some (.lst (ivs (S.drop 1))) ∧ (∃ va vb, CV cs σ' (.int k) (.ref dw) (.ref dy) va vb) ∧ σ' dy = some (.lst (ivs (wayL S k (i * k))))) (fun _ _ _ => False)
    ⟨rfl, N2.ext e3, f3, ⟨_, _, h2.ext e3⟩, by rw [Nat.zero_mul]; exact e3 _ _ g2⟩ (fun i fr' σ' hi hJ => ?_) (fun fr' σ' hJ => ?_) (fun _ _ _ h => h.elim)
  · obtain ⟨rfl, N, g, ⟨va, vb, hc⟩, gy⟩ := hJ
    rw [upto_len] at hi
    rw [Nat.zero_add] at gy ⊢
    have gwN := N.at gw
    refine ⟨⟨gwN, g⟩, fun Q' hQ' _ => ?_⟩
    rw [upto_nth hi]
    show ∀ T, σ' T = none → _
    intro T hT
    have hT2 := St.set_same σ' T (.tup [nth (ivs S) i, nth (ivs (S.drop 1)) i])
    have E4 : Ext σ' (σ'.set T (.tup [nth (ivs S) i, nth (ivs (S.drop 1)) i])) := Ext.new hT
    rw [nth_ivs (by (first | assumption | exact q1 ‹_› | exact q2 ‹_› ‹_› | exact q3 ‹_› ‹_› | exact q4 ‹_› ‹_› | exact q5 ‹_› | exact q6 ‹_› | lia | omega)), nth_ivs (by rw [List.length_drop]; exact hi)] at hT2 E4
    rw [Int.toNat_natCast, nth_ivs (by (first | assumption | exact q1 ‹_› | exact q2 ‹_› ‹_› | exact q3 ‹_› ‹_› | exact q4 ‹_› ‹_› | exact q5 ‹_› | exact q6 ‹_› | lia | omega)), nth_ivs (by rw [List.length_drop]; exact hi)]
    generalize σ'.set T (.tup [.int (S.getD i 0), .int ((S.drop 1).getD i 0)]) = σ4 at hT2 E4
    rw [show (S.drop 1).getD i 0 = S.getD (i + 1) 0 by rw [List.getD_eq_getElem?_getD, List.getElem?_drop, Nat.add_comm, ← List.getD_eq_getElem?_getD]] at hT2
    refine tupA_of hT2 ⟨rfl, ?_⟩
    have h4 := hc.ext E4
    show stW (.c 28) _ cs _ σ4 _
    refine st_c h4.a ?_
    have N5 := (Nc.refl σ4).cell (x := .int (S.getD i 0)) h4.a
    have h5 := h4.seta (x := .int (S.getD i 0)) D
    generalize σ4.set (nthA cs 28) (.cell (.int (S.getD i 0))) = σ5 at N5 h5
    show stW (.c 29) _ cs _ σ5 _
    refine st_c h5.b ?_
    have N6 := N5.cell (x := .int (S.getD (i + 1) 0)) h5.b
    have h6 := h5.setb (x := .int (S.getD (i + 1) 0)) D
    generalize σ5.set (nthA cs 29) (.cell (.int (S.getD (i + 1) 0))) = σ6 at N6 h6
    have N7 : Nc σ' σ6 := ((Nc.refl _).ext E4).trans N6
    show sW W n extB cs _ σ6 _
    unfold extB
    refine seq_exp ?_
    refine e_x_meth ?_
    have gy6 := N7.at gy
    refine cel_of h6.y nofun (mlist_of gy6 ?_)
    refine e_l_cons ?_
    refine stp_ok h6 hk (by (first | assumption | exact q1 ‹_› | exact q2 ‹_› ‹_› | exact q3 ‹_› ‹_› | exact q4 ‹_› ‹_› | exact q5 ‹_› | exact q6 ‹_› | lia | omega)) fun d σ7 m7 e7 f7 => ?_
    refine e_l_nil (e_m_extend ?_)
    have hm : i * k ≤ 1000 * 100 := Nat.mul_le_mul (by (first | assumption | exact q1 ‹_› | exact q2 ‹_› ‹_› | exact q3 ‹_› ‹_› | exact q4 ‹_› ‹_› | exact q5 ‹_› | exact q6 ‹_› | lia | omega)) hk2
    refine mlist_of (e7 _ _ gy6) (mlist_of f7 ⟨ne_new gy6 m7, by rw [ivs_length, ivs_length, wayL_len, stepF_len]; unfold lim; (first | assumption | exact q1 ‹_› | exact q2 ‹_› ‹_› | exact q3 ‹_› ‹_› | exact q4 ‹_› ‹_› | exact q5 ‹_› | exact q6 ‹_› | lia | omega), ?_⟩)
    rw [ivs_append, wayL_step]
    refine hQ' _ _ ⟨rfl, fun b o hn hb => ?_, ?_, ⟨_, _, (h6.ext e7).lst (e7 _ _ gy6)⟩, St.set_same _ _ _⟩
    · rw [St.set_other _ _ (ne_new hb m1)]; exact e7 _ _ (N7 _ _ hn (N _ _ hn hb))
    · rw [St.set_other _ _ hyd]; exact e7 _ _ (N7.at g)
  · obtain ⟨rfl, N, g, ⟨va, vb, hc⟩, gy⟩ := hJ
    rw [Nat.zero_add, upto_len] at gy
    exact ⟨⟨N.at gw, g⟩, q dy va vb σ' N hc gy⟩
end
end Mine

end
section -- L12o
namespace Mine
variable {W : Wd} {n : Nat} {σ σ' τ : St} {cs : List Addr}

theorem eqL_fls {d : Nat} {r : Nat → Int} : ∀ ts : List Nat, (∀ t, t ∈ ts → (r (t + 1)).natAbs < 2 ^ 53) → eqL (eqB σ d) (ts.map fun t => V.flt (Float64.ofInt (r (t + 1)))) (ts.map fun t => V.int (r (t + 1))) = some true
  | [], _ => rfl
  | t :: ts, h => by
    have ih := eqL_fls (d := d) ts fun u hu => h u (.tail _ hu)
    have e : eqB σ d (.flt (Float64.ofInt (r (t + 1)))) (.int (r (t + 1))) = some (Float64.cmpInt (Float64.ofInt (r (t + 1))) (r (t + 1)) == some .eq) := by (first | exact nS d | exact nO d | exact nF d | exact nT d | exact nN d | exact nC d | cases d) <;> rfl
    rw [cmp_ofInt (h t (.head _)), beq_self_eq_true] at e
    show (eqB σ d (.flt (Float64.ofInt (r (t + 1)))) (.int (r (t + 1)))).bind (fun b => (eqL (eqB σ d) (ts.map fun t => V.flt (Float64.ofInt (r (t + 1)))) (ts.map fun t => V.int (r (t + 1)))).map fun c => b && c) = _
    rw [e, ih]; rfl
theorem ne_fls {a b : Addr} {r : Nat → Int} {K : Nat} {Q : Bool → St → Prop} (ha : σ a = some (.lst (fls r K))) (hb : σ b = some (.lst (ivs (rmap r K)))) (hne : a ≠ b) (hr : ∀ t, t < K → (r (t + 1)).natAbs < 2 ^ 53) (q : Q false σ) : cmpW .NotEq (.ref a) (.ref b) σ Q := by
  show eqW _ _ _ _
  have e : eqB σ 3 (.ref a) (.ref b) = some true := by
    show (if a = b then none else ((σ a).bind O.litems).bind fun xs => ((σ b).bind O.litems).bind fun ys => if xs.length = ys.length then eqL (eqB σ 2) xs ys else some false) = _
    rw [if_neg hne, ha, hb]
    show (if (fls r K).length = (ivs (rmap r K)).length then eqL (eqB σ 2) (fls r K) (ivs (rmap r K)) else some false) = _
    rw [fls_len, ivs_length, rmap_len, if_pos rfl]
    have h2 : ivs (rmap r K) = (List.range K).map fun t => V.int (r (t + 1)) := by unfold rmap ivs; rw [List.map_map]; rfl
    rw [h2]
    exact eqL_fls _ fun t ht => hr t (List.mem_range.mp ht)
  unfold eqW
  rw [e]; exact q
noncomputable def wayX : X := .comp 5 [45, 45, 33, 27, 26] (.bcall .range (.cons (.con (.int (1))) (.cons (.cel 4) .nil))) 1 (.con (.bool true)) (.sub (.cel 3) (.bin .Mult (.loc 1) (.bin .Sub (.bcall .len (.cons (.cel 4) .nil)) (.con (.int (1))))))
noncomputable def noX : X := .comp 4 [45, 45, 36, 37] (.loc 30) 1 (.not (.bcall .isinstance (.cons (.loc 1) (.cons (.con (.typ "float")) .nil)))) (.loc 1)
noncomputable def cutS : S := .seq (.set (.l 30) (.call (.con (.ref 35)) (.cons (.loc 14) .nil) ["n", "method"] (.cons (.cel 4) (.cons (.loc 25) .nil))))
 (.seq (.ite (.cmp .NotEq (.loc 30) wayX) retN .skip) (.seq (.ite (.cmp .NotEq noX (.lst .nil)) retN .skip) .skip))
section
variable {k : Nat} {va vb m : V} {dw dy de : Addr} {S E : List Int} {fr : List V} {r : Nat → Int}
theorem wayX_ok {Q : V → St → Prop} (h : CV cs σ (.int k) (.ref dw) (.ref dy) va vb) (gw : σ dw = some (.lst (ivs S))) (gy : σ dy = some (.lst (ivs (wayL S k ((S.length - 1) * k))))) (hk : 0 < k) (hk2 : k ≤ 100) (hS : 2 ≤ S.length)
    (q : ∀ d σ', σ d = none → Ext σ σ' → σ' d = some (.lst (ivs (rmap (fun i => wayF S k (i * (S.length - 1))) (k - 1)))) → Q (.ref d) σ') : xW W n wayX cs fr σ Q := by
  unfold wayX
  refine e_x_comp (e_x_bcall (e_l_cons (e_x_con (e_l_cons ?_))))
  refine cel_of h.n nofun ?_
  refine e_l_nil ?_
  have hs : small (k : Int) := small_nat (by (first | assumption | exact q1 ‹_› | exact q2 ‹_› ‹_› | exact q3 ‹_› ‹_› | exact q4 ‹_› ‹_› | exact q5 ‹_› | exact q6 ‹_› | lia | omega))
  refine range2_of (small_nat (k := 1) (by decide)) hs fun dn σ1 m1 e1 f1 => ?_
  have len : (ivs (rangeL 1 (k : Int) 1)).length = k - 1 := len_range2 (a := 1)
  refine iter_rng f1 (small_nat (k := 1) (by decide)) hs (.inl rfl) ⟨by rw [len]; unfold lim; (first | assumption | exact q1 ‹_› | exact q2 ‹_› ‹_› | exact q3 ‹_› ‹_› | exact q4 ‹_› ‹_› | exact q5 ‹_› | exact q6 ‹_› | lia | omega), ?_⟩
  have h1 := h.ext e1
  refine compW_inv (k := 0) (fun i acc σ' => σ' = σ1 ∧ acc = ivs (rmap (fun i => wayF S k (i * (S.length - 1))) i)) ⟨rfl, rfl⟩ (fun i acc σ' hi hJ => ?_) (fun acc σ' hJ => ?_)
  · obtain ⟨rfl, rfl⟩ := hJ
    rw [len] at hi
    rw [Nat.zero_add]
    refine ⟨trivial, fun Q' hQ' => ?_⟩
    rw [show nth (ivs (rangeL 1 (k : Int) 1)) i = .int ((1 + i : Nat) : Int) from nth_range2 (a := 1) hi, Nat.add_comm 1 i]
    show xW _ _ _ _ _ _ _
    simp only [undefs, setN, List.map]
    refine e_x_sub ?_
    refine cel_of (i := 3) h1.y nofun ?_
    refine e_x_bin ?_
    first | refine lc_i rfl ?_ | refine lc_r rfl ?_ | refine lc_s rfl ?_ | refine lc_n rfl ?_
    refine e_x_bin (e_x_bcall (e_l_cons ?_))
    refine cel_of (i := 4) h1.w nofun ?_
    refine e_l_nil ?_
    refine len_of (e1 _ _ gw) rfl ?_
    rw [ivs_length]
    refine e_x_con ?_
    simp only [nth, b_sub, b_mul]
    refine ⟨mul_ok (by (first | assumption | exact q1 ‹_› | exact q2 ‹_› ‹_› | exact q3 ‹_› ‹_› | exact q4 ‹_› ‹_› | exact q5 ‹_› | exact q6 ‹_› | lia | omega)), ?_⟩
    have hlt : (i + 1) * (S.length - 1) < (S.length - 1) * k := by rw [Nat.mul_comm]; exact Nat.mul_lt_mul_of_pos_left (by (first | assumption | exact q1 ‹_› | exact q2 ‹_› ‹_› | exact q3 ‹_› ‹_› | exact q4 ‹_› ‹_› | exact q5 ‹_› | exact q6 ‹_› | lia | omega)) (by (first | assumption | exact q1 ‹_› | exact q2 ‹_› ‹_› | exact q3 ‹_› ‹_› | exact q4 ‹_› ‹_› | exact q5 ‹_› | exact q6 ‹_› | lia | omega))
    refine sub_of ((i + 1) * (S.length - 1)) ?_ (e1 _ _ gy) rfl (by rw [ivs_length, wayL_len]; exact hlt) ?_
    · rw [Int.natCast_mul]; congr 1; (first | assumption | exact q1 ‹_› | exact q2 ‹_› ‹_› | exact q3 ‹_› ‹_› | exact q4 ‹_› ‹_› | exact q5 ‹_› | exact q6 ‹_› | lia | omega)
    rw [nth_ivs (by rw [wayL_len]; exact hlt), nth_wayL hlt]
    refine hQ' (some _) _ ⟨rfl, ?_⟩
    rw [rmap_succ, ← ivs_append]; rfl
  obtain ⟨rfl, rfl⟩ := hJ
  rw [len, Nat.zero_add]
  exact ⟨trivial, alW_of fun d σ2 m2 e2 f2 => q d σ2 (e1.none m2) (e1.trans e2) f2⟩
theorem noX_ok {d : Addr} {K : Nat} {Q : V → St → Prop} (h30 : nth fr 30 = .ref d) (gd : σ d = some (.lst (fls r K))) (hK : K ≤ 100) (q : ∀ d' σ', σ d' = none → Ext σ σ' → σ' d' = some (.lst []) → Q (.ref d') σ') : xW W n noX cs fr σ Q := by
  unfold noX
  refine e_x_comp ?_
  rw [x_loc]
  rw [h30]
  refine ⟨nofun, iter_lst gd ⟨by rw [fls_len]; unfold lim; (first | assumption | exact q1 ‹_› | exact q2 ‹_› ‹_› | exact q3 ‹_› ‹_› | exact q4 ‹_› ‹_› | exact q5 ‹_› | exact q6 ‹_› | lia | omega), ?_⟩⟩
  refine compW_inv (k := 0) (fun i acc σ' => σ' = σ ∧ acc = []) ⟨rfl, rfl⟩ (fun i acc σ' hi hJ => ?_) (fun acc σ' hJ => ?_)
  · obtain ⟨rfl, rfl⟩ := hJ
    rw [fls_len] at hi
    refine ⟨gd, fun Q' hQ' => ?_⟩
    rw [nth_fls hi]
    simp only [undefs, setN, List.map, t_not, t_bcall, x_con, x_loc, l_cons, l_nil, nth, ne_eq, reduceCtorEq, not_false_eq_true, true_and]
    exact isi_no (hQ' none _ ⟨rfl, rfl⟩)
  · obtain ⟨rfl, rfl⟩ := hJ
    exact ⟨gd, alW_of q⟩
theorem cut_ok {Q : Fl → St → List V → Prop} (h : CV cs σ (.int k) (.ref dw) (.ref dy) va vb) (gw : σ dw = some (.lst (ivs S))) (gy : σ dy = some (.lst (ivs (wayL S k ((S.length - 1) * k))))) (ge : σ de = some (.lst (ivs E))) (hk : 0 < k) (hk2 : k ≤ 100) (hS : 2 ≤ S.length)
    (h14 : nth fr 14 = .ref de) (h25 : nth fr 25 = m) (h30 : ∀ v, nth (setN fr 30 v) 30 = v) (hm : m ≠ .undef)
    (hq : ∀ (Q : V → St → Prop), (∀ d σ', σ d = none → Ext σ σ' → σ' d = some (.lst (fls (fun i => wayF S k (i * (S.length - 1))) (k - 1))) → Q (.ref d) σ') → CallOK W n (.ref 35) [.ref de] ["n", "method"] [.int k, m] Q σ)
    (hr : ∀ i, 1 ≤ i → i < k → (wayF S k (i * (S.length - 1))).natAbs < 2 ^ 53)
    (q : ∀ σ' v, Ext σ σ' → Q .next σ' (setN fr 30 v)) : sW W n cutS cs fr σ Q := by
  unfold cutS
  refine seq_set ?_
  refine e_x_call (e_x_con (e_l_cons ?_))
  rw [x_loc]
  rw [h14]
  refine ⟨nofun, ?_⟩
  refine e_l_nil (e_l_cons ?_)
  refine cel_of h.n nofun ?_
  refine e_l_cons ?_
  rw [x_loc]
  rw [h25]
  refine ⟨hm, ?_⟩
  refine e_l_nil ?_
  refine hq _ fun d σ1 m1 e1 f1 => ?_
  simp only [stW]
  refine seq_ite ?_
  refine e_t_cmp ?_
  rw [x_loc]
  rw [h30]
  refine ⟨nofun, ?_⟩
  refine wayX_ok (h.ext e1) (e1 _ _ gw) (e1 _ _ gy) hk hk2 hS fun d2 σ2 m2 e2 f2 => ?_
  refine ne_fls (e2 _ _ f1) f2 (ne_new f1 m2) (fun t ht => hr (t + 1) (Nat.succ_pos _) (by (first | assumption | exact q1 ‹_› | exact q2 ‹_› ‹_› | exact q3 ‹_› ‹_› | exact q4 ‹_› ‹_› | exact q5 ‹_› | exact q6 ‹_› | lia | omega))) ?_
  rw [if_neg nofun]
  refine seq_skip (seq_ite ?_)
  refine e_t_cmp ?_
  refine noX_ok (h30 _) (e2 _ _ f1) (by (first | assumption | exact q1 ‹_› | exact q2 ‹_› ‹_› | exact q3 ‹_› ‹_› | exact q4 ‹_› ‹_› | exact q5 ‹_› | exact q6 ‹_› | lia | omega)) fun d3 σ3 m3 e3 f3 => ?_
  refine e_x_lst (e_l_nil ?_)
  refine ⟨Nat.zero_le _, alW_of fun d4 σ4 m4 e4 f4 => ?_⟩
  refine ne_ints (xs := []) (ys := []) (e4 _ _ f3) f4 rfl rfl (ne_new f3 m4) ?_
  refine ite_nd rfl ?_
  exact seq_skip (q σ4 _ (((e1.trans e2).trans e3).trans e4))
end
end Mine

end
section -- L12p
namespace Mine
variable {W : Wd} {n : Nat} {σ σ' τ : St} {cs : List Addr}

theorem fnQ12w {P : Params} (X : Txt W (K12 P) tb12) : ∃ cs : List Addr, ∀ d k w n Q σ, sW W n bd12_35 cs (d :: k :: w :: undefs 13) σ (fun f σ' _ => Q (retV f) σ') → CallOK W (n + 1) (.ref 35) [d] ["n", "method"] [k, w] Q σ := by
  obtain ⟨cs, _, F⟩ := fn12_quantiles X
  exact ⟨cs, F⟩
noncomputable def twB : S := .seq (.set (.c 27) (.lst .nil)) (.seq zipS cutS)
noncomputable def twL : X := .lst (.cons (.tup (.cons (.con (.str "inclusive")) (.cons (.loc 15) .nil))) (.cons (.tup (.cons (.con (.str "exclusive")) (.cons (.loc 24) .nil))) .nil))
noncomputable def twS (rest : S) : S := .seq (.set (.l 24) widX) (.seq (.for_ (.many [(.l 25), (.c 26)]) twL twB) rest)
section
variable {P : Params} {k : Nat} {m w y a b : V} {dw de df : Addr} {S E : List Int} {fr : List V} {v0 v1 v2 v3 v4 v5 v6 v7 v8 v9 v10 v11 v12 v13 v16 v17 v18 v19 v20 v21 v22 v23 v24 v25 v26 v27 v28 v29 v30 : V} {tl : List V} {rest : Mine.S} {Q : Fl → St → List V → Prop}
/-- one method -/
theorem tw1_ok (D : Cd cs) (h : CV cs σ (.int k) w y a b) (gw : σ dw = some (.lst (ivs S))) (ge : σ de = some (.lst (ivs E))) (hk : 0 < k) (hk2 : k ≤ 100) (hS : 2 ≤ S.length) (hS2 : S.length ≤ 1000)
    (h14 : nth fr 14 = .ref de) (h25 : nth fr 25 = m) (h30 : ∀ v, nth (setN fr 30 v) 30 = v) (hm : m ≠ .undef)
    (hq : ∀ (σ : St) (Q : V → St → Prop), σ de = some (.lst (ivs E)) → (∀ d σ', σ d = none → Ext σ σ' → σ' d = some (.lst (fls (fun i => wayF S k (i * (S.length - 1))) (k - 1))) → Q (.ref d) σ') → CallOK W n (.ref 35) [.ref de] ["n", "method"] [.int k, m] Q σ)
    (hr : ∀ i, 1 ≤ i → i < k → (wayF S k (i * (S.length - 1))).natAbs < 2 ^ 53)
    (q : ∀ σ' v w y a b, Nc σ σ' → CV cs σ' (.int k) w y a b → Q .next σ' (setN fr 30 v)) : stW (.c 26) (.ref dw) cs fr σ fun fr1 σ2 => sW W n twB cs fr1 σ2 Q := by
  refine st_c h.w ?_
  have N1 := (Nc.refl σ).cell (x := .ref dw) h.w
  have h1 := h.setw (x := .ref dw) D
  generalize σ.set (nthA cs 26) (.cell (.ref dw)) = σ1 at N1 h1
  unfold twB
  refine way_ok D h1 (N1.at gw) hk hk2 hS hS2 fun dy va vb σ2 N2 h2 g2 => ?_
  refine cut_ok h2 (N2.at (N1.at gw)) g2 (N2.at (N1.at ge)) hk hk2 hS h14 h25 h30 hm (fun Q => hq σ2 Q (N2.at (N1.at ge))) hr fun σ3 v e3 => ?_
  exact q σ3 v _ _ _ _ ((N1.trans N2).ext e3) (h2.ext e3)
theorem tw_ok (X : Txt W (K12 P) tb12) (D : Cd cs) (h : CV cs σ (.int k) w y a b) (ge : σ de = some (.lst (ivs E))) (gf : σ df = some (.lst (ivs (isort E)))) (hE : 2 ≤ E.length) (hE2 : E.length ≤ 400) (hk : 0 < k) (hk2 : k ≤ 100) (hM : Mul46 k (isort E))
    (q : ∀ σ' v24 v25 v30 w y a b, Nc σ σ' → CV cs σ' (.int k) w y a b → sW W (n + 1) rest cs (v0 :: v1 :: v2 :: v3 :: v4 :: v5 :: v6 :: v7 :: v8 :: v9 :: v10 :: v11 :: v12 :: v13 :: .ref de :: .ref df :: v16 :: v17 :: v18 :: v19 :: v20 :: v21 :: v22 :: v23 :: v24 :: v25 :: v26 :: v27 :: v28 :: v29 :: v30 :: tl) σ' Q) :
    sW W (n + 1) (twS rest) cs (v0 :: v1 :: v2 :: v3 :: v4 :: v5 :: v6 :: v7 :: v8 :: v9 :: v10 :: v11 :: v12 :: v13 :: .ref de :: .ref df :: v16 :: v17 :: v18 :: v19 :: v20 :: v21 :: v22 :: v23 :: v24 :: v25 :: v26 :: v27 :: v28 :: v29 :: v30 :: tl) σ Q := by
  have hS : (isort E).length = E.length := isort_length E
  unfold twS
  refine seq_set (wid_ok gf (by (first | assumption | exact q1 ‹_› | exact q2 ‹_› ‹_› | exact q3 ‹_› ‹_› | exact q4 ‹_› ‹_› | exact q5 ‹_› | exact q6 ‹_› | lia | omega)) (by (first | assumption | exact q1 ‹_› | exact q2 ‹_› ‹_› | exact q3 ‹_› ‹_› | exact q4 ‹_› ‹_› | exact q5 ‹_› | exact q6 ‹_› | lia | omega)) fun dw σ1 m1 e1 f1 => ?_)
  simp only [stW, setN]
  refine seq_for ?_
  unfold twL
  refine e_x_lst (e_l_cons (e_x_tup (e_l_cons (e_x_con (e_l_cons (lc_r rfl (e_l_nil ?_)))))))
  refine ⟨(by decide : 2 ≤ lim), alW_of fun t1 σ2 m2 e2 f2 => ?_⟩
  refine e_l_cons (e_x_tup (e_l_cons (e_x_con (e_l_cons (lc_r rfl (e_l_nil ?_))))))
  refine ⟨(by decide : 2 ≤ lim), alW_of fun t2 σ3 m3 e3 f3 => ?_⟩
  refine e_l_nil ?_
  refine ⟨(by decide : 2 ≤ lim), alW_of fun t0 σ4 m4 e4 f4 => ?_⟩
  have E4 : Ext σ σ4 := ((e1.trans e2).trans e3).trans e4
  have g1 : σ4 t1 = some (.tup [.str "inclusive", .ref df]) := e4 _ _ (e3 _ _ f2)
  have g2 : σ4 t2 = some (.tup [.str "exclusive", .ref dw]) := e4 _ _ f3
  have gw4 := e4 _ _ (e3 _ _ (e2 _ _ f1))
  have ge4 := E4 _ _ ge
  have gf4 := E4 _ _ gf
  refine iter_lst f4 ?_
  refine forW_inv (k := 0) (fun i fr σ' => fr = v0 :: v1 :: v2 :: v3 :: v4 :: v5 :: v6 :: v7 :: v8 :: v9 :: v10 :: v11 :: v12 :: v13 :: .ref de :: .ref df :: v16 :: v17 :: v18 :: v19 :: v20 :: v21 :: v22 :: v23 :: .ref dw :: nth fr 25 :: v26 :: v27 :: v28 :: v29 :: nth fr 30 :: tl ∧ Nc σ4 σ' ∧ CVx cs σ' (.int k)) (fun _ _ _ => False)
    ⟨rfl, Nc.refl _, _, _, _, _, h.ext E4⟩ (fun i fr σ' hi hJ => ?_) (fun fr σ' hJ => ?_) (fun _ _ _ h => h.elim)
  · obtain ⟨hf, N, w, y, a, b, hc⟩ := hJ
    rw [hf]
    refine ⟨N.at f4, fun Q' hQ' _ => ?_⟩
    obtain ⟨cs', F⟩ := fnQ12w X
    match i, hi with
    | 0, _ =>
      refine tupA_of (N t1 _ (fun _ h => by (first | exact nS h | exact nO h | exact nF h | exact nT h | exact nN h | exact nC h | cases h)) g1) ⟨rfl, ?_⟩
      have hT := tells_inc (by (first | assumption | exact q1 ‹_› | exact q2 ‹_› ‹_› | exact q3 ‹_› ‹_› | exact q4 ‹_› ‹_› | exact q5 ‹_› | exact q6 ‹_› | lia | omega)) hk hM
      exact tw1_ok (n := n + 1) (m := .str "inclusive") (S := isort E) D hc (N.at gf4) (N.at ge4) hk hk2 (by (first | assumption | exact q1 ‹_› | exact q2 ‹_› ‹_› | exact q3 ‹_› ‹_› | exact q4 ‹_› ‹_› | exact q5 ‹_› | exact q6 ‹_› | lia | omega)) (by (first | assumption | exact q1 ‹_› | exact q2 ‹_› ‹_› | exact q3 ‹_› ‹_› | exact q4 ‹_› ‹_› | exact q5 ‹_› | exact q6 ‹_› | lia | omega)) rfl rfl (fun _ => rfl) nofun (fun σ1 Q g q => F _ _ _ n Q σ1 (quant_inc g hE (by (first | assumption | exact q1 ‹_› | exact q2 ‹_› ‹_› | exact q3 ‹_› ‹_› | exact q4 ‹_› ‹_› | exact q5 ‹_› | exact q6 ‹_› | lia | omega)) hk (by (first | assumption | exact q1 ‹_› | exact q2 ‹_› ‹_› | exact q3 ‹_› ‹_› | exact q4 ‹_› ‹_› | exact q5 ‹_› | exact q6 ‹_› | lia | omega)) hT q)) (fun i h1 h2 => (hT i h1 h2).2) fun σ5 v w y a b N5 h5 => hQ' _ _ ⟨rfl, N.trans N5, w, y, a, b, h5⟩
    | 1, _ =>
      refine tupA_of (N t2 _ (fun _ h => by (first | exact nS h | exact nO h | exact nF h | exact nT h | exact nN h | exact nC h | cases h)) g2) ⟨rfl, ?_⟩
      have hT := tells_exc (by (first | assumption | exact q1 ‹_› | exact q2 ‹_› ‹_› | exact q3 ‹_› ‹_› | exact q4 ‹_› ‹_› | exact q5 ‹_› | exact q6 ‹_› | lia | omega)) hk hM
      have hl : (wider (isort E)).length - 1 = (isort E).length + 1 := by rw [wider_len]; rfl
      exact tw1_ok (n := n + 1) (m := .str "exclusive") (S := wider (isort E)) D hc (N.at gw4) (N.at ge4) hk hk2 (by (first | assumption | exact q1 ‹_› | exact q2 ‹_› ‹_› | exact q3 ‹_› ‹_› | exact q4 ‹_› ‹_› | exact q5 ‹_› | exact q6 ‹_› | lia | omega)) (by (first | assumption | exact q1 ‹_› | exact q2 ‹_› ‹_› | exact q3 ‹_› ‹_› | exact q4 ‹_› ‹_› | exact q5 ‹_› | exact q6 ‹_› | lia | omega)) rfl rfl (fun _ => rfl) nofun (fun σ1 Q g q => F _ _ _ n Q σ1 (quant_exc g hE (by (first | assumption | exact q1 ‹_› | exact q2 ‹_› ‹_› | exact q3 ‹_› ‹_› | exact q4 ‹_› ‹_› | exact q5 ‹_› | exact q6 ‹_› | lia | omega)) hk (by (first | assumption | exact q1 ‹_› | exact q2 ‹_› ‹_› | exact q3 ‹_› ‹_› | exact q4 ‹_› ‹_› | exact q5 ‹_› | exact q6 ‹_› | lia | omega)) hT (by rw [hl] at q; exact q))) (fun i h1 h2 => by rw [hl]; exact (hT i h1 h2).2) fun σ5 v w y a b N5 h5 => hQ' _ _ ⟨rfl, N.trans N5, w, y, a, b, h5⟩
  · obtain ⟨hf, N, w, y, a, b, hc⟩ := hJ
    rw [hf]
    exact ⟨N.at f4, q σ' _ _ _ w y a b (((Nc.refl σ).ext E4).trans N) hc⟩
end
end Mine

end
section -- M12d
namespace Mine

noncomputable def Gd (k : Nat) (x : Int) : Prop := ∃ z : Int, x = z * k ∧ z.natAbs ≤ 1099511627776
noncomputable def GL (k : Nat) (l : List Int) : Prop := 3 ≤ l.length ∧ ∀ y ∈ l, Gd k y
theorem Gd.le {k : Nat} {x : Int} (h : Gd k x) (hk : k ≤ 41) : x.natAbs ≤ 2 ^ 46 := by
  obtain ⟨z, rfl, hz⟩ := h
  rw [Int.natAbs_mul]
  exact Nat.le_trans (Nat.mul_le_mul hz (show ((k : Int)).natAbs ≤ 41 from hk)) (by decide)
theorem GL.snoc {k : Nat} {l : List Int} {x : Int} (h : GL k l) (hx : Gd k x) : GL k (l ++ [x]) := by
  refine ⟨by rw [List.length_append]; exact Nat.le_succ_of_le h.1, fun y hy => ?_⟩
  rcases List.mem_append.mp hy with hy | hy
  · exact h.2 y hy
  · rw [List.mem_singleton.mp hy]; exact hx
theorem part0_gd {k j : Nat} (hj : j < 4) : GL k (part0 k j) := by
  refine ⟨Nat.le_refl _, fun y hy => ?_⟩
  unfold part0 at hy
  rcases List.mem_cons.mp hy with rfl | hy
  · exact ⟨5 * j, rfl, by (first | assumption | exact q1 ‹_› | exact q2 ‹_› ‹_› | exact q3 ‹_› ‹_› | exact q4 ‹_› ‹_› | exact q5 ‹_› | exact q6 ‹_› | omega)⟩
  rcases List.mem_cons.mp hy with rfl | hy
  · exact ⟨1, (Int.one_mul _).symm, by decide⟩
  rw [List.mem_singleton.mp hy]
  exact ⟨9 - j, rfl, by (first | assumption | exact q1 ‹_› | exact q2 ‹_› ‹_› | exact q3 ‹_› ‹_› | exact q4 ‹_› ‹_› | exact q5 ‹_› | exact q6 ‹_› | omega)⟩
theorem parts1_gd {m k : Nat} (hm : 0 < m) (hm4 : m ≤ 4) (ns : List Int) : ∀ l ∈ parts1 m k ns, GL k l := by
  have g : ∀ (ns : List Int) (R : List (List Int)), R.length = m → (∀ l ∈ R, GL k l) → ∀ l ∈ ns.foldl (addF m k) R, GL k l := fun ns => by
    induction ns with
    | nil => intro R _ h; exact h
    | cons x r ih =>
      intro R hR h
      refine ih _ (by rw [addF_len]; exact hR) fun l hl => ?_
      rcases List.mem_or_eq_of_mem_set hl with q | q
      · exact h l q
      · obtain ⟨i, e, hi⟩ := fmod_pos (x := x) hm
        rw [q, e, Int.toNat_natCast]
        exact (h _ (getD_memR (by (first | assumption | exact q1 ‹_› | exact q2 ‹_› ‹_› | exact q3 ‹_› ‹_› | exact q4 ‹_› ‹_› | exact q5 ‹_› | exact q6 ‹_› | lia | omega)))).snoc ⟨_, rfl, Nat.le_of_lt (smallF_lt _)⟩
  refine g ns _ (by rw [List.length_map, List.length_range]) fun l hl => ?_
  obtain ⟨j, hj, rfl⟩ := List.mem_map.mp hl
  exact part0_gd (by have := List.mem_range.mp hj; (first | assumption | exact q1 ‹_› | exact q2 ‹_› ‹_› | exact q3 ‹_› ‹_› | exact q4 ‹_› ‹_› | exact q5 ‹_› | exact q6 ‹_› | lia | omega))
theorem fill_gd {q k : Nat} : ∀ (f : Nat) {l : List Int}, GL k l → l.length + f ≤ 100 → GL k (fillF q k f l) ∧ (fillF q k f l).length ≤ 100
  | 0, l, h, hl => ⟨h, hl⟩
  | f + 1, l, h, hl => by
    unfold fillF
    split
    · exact ⟨h, by (first | assumption | exact q1 ‹_› | exact q2 ‹_› ‹_› | exact q3 ‹_› ‹_› | exact q4 ‹_› ‹_› | exact q5 ‹_› | exact q6 ‹_› | lia | omega)⟩
    · exact fill_gd f (h.snoc ⟨_, rfl, by (first | assumption | exact q1 ‹_› | exact q2 ‹_› ‹_› | exact q3 ‹_› ‹_› | exact q4 ‹_› ‹_› | exact q5 ‹_› | exact q6 ‹_› | lia | omega)⟩) (by rw [List.length_append]; show l.length + 1 + f ≤ 100; (first | assumption | exact q1 ‹_› | exact q2 ‹_› ‹_› | exact q3 ‹_› ‹_› | exact q4 ‹_› ‹_› | exact q5 ‹_› | exact q6 ‹_› | lia | omega))
theorem fill_fit {q k : Nat} : ∀ (f : Nat) {l : List Int}, (∃ t, t ≤ f ∧ (l.length + 1 + t) % q = 0) → ((fillF q k f l).length + 1) % q = 0
  | 0, l, ⟨t, h1, h2⟩ => by rw [Nat.le_zero.mp h1] at h2; exact h2
  | f + 1, l, ⟨t, h1, h2⟩ => by
    unfold fillF
    split
    · next h => exact h
    · next h =>
      refine fill_fit f ?_
      cases t with
      | zero => exact absurd h2 h
      | succ t => exact ⟨t, Nat.le_of_succ_le_succ h1, by rw [List.length_append, ← h2]; show (l.length + 1 + 1 + t) % q = _; congr 1; (first | assumption | exact q1 ‹_› | exact q2 ‹_› ‹_› | exact q3 ‹_› ‹_› | exact q4 ‹_› ‹_› | exact q5 ‹_› | exact q6 ‹_› | lia | omega)⟩
theorem parts_pp {m q k : Nat} {ns : List Int} (hm : 0 < m) (hm4 : m ≤ 4) (hq : 2 ≤ q) (hq5 : q ≤ 5) (hk : k ≤ 41) (hn : ns.length ≤ 63) : PP q (partsF m q k ns) ∧ Mul46 k (isort (partsF m q k ns).flatten) ∧ (partsF m q k ns).length = m ∧ 3 ≤ (partsF m q k ns).flatten.length := by
  have hl : (partsF m q k ns).length = m := by unfold partsF; rw [List.length_map, parts1_len]
  have hg : ∀ l ∈ partsF m q k ns, GL k l ∧ l.length ≤ 100 ∧ (l.length + 1) % q = 0 := fun l hl => by
    obtain ⟨l', hl', rfl⟩ := List.mem_map.mp hl
    have hb := parts1_bound m k ns ns.length (Nat.le_refl _) l' (by rw [List.take_length]; exact hl')
    obtain ⟨h1, h2⟩ := fill_gd (q := q) q (parts1_gd hm hm4 ns l' hl') (by (first | assumption | exact q1 ‹_› | exact q2 ‹_› ‹_› | exact q3 ‹_› ‹_› | exact q4 ‹_› ‹_› | exact q5 ‹_› | exact q6 ‹_› | lia | omega))
    exact ⟨h1, h2, fill_fit q (fit_ex (by (first | assumption | exact q1 ‹_› | exact q2 ‹_› ‹_› | exact q3 ‹_› ‹_› | exact q4 ‹_› ‹_› | exact q5 ‹_› | exact q6 ‹_› | lia | omega)) _)⟩
  have h0 := hg _ (getD_memR (i := 0) (by (first | assumption | exact q1 ‹_› | exact q2 ‹_› ‹_› | exact q3 ‹_› ‹_› | exact q4 ‹_› ‹_› | exact q5 ‹_› | exact q6 ‹_› | lia | omega)))
  generalize partsF m q k ns = R at hl hg h0 ⊢
  refine ⟨⟨hq, hq5, by (first | assumption | exact q1 ‹_› | exact q2 ‹_› ‹_› | exact q3 ‹_› ‹_› | exact q4 ‹_› ‹_› | exact q5 ‹_› | exact q6 ‹_› | lia | omega), fun l h => (hg l h).2.2, fun l h => (hg l h).1.1, fun l h => (hg l h).2.1, fun l h y hy => ((hg l h).1.2 y hy).le hk⟩, fun y hy => ?_, hl, ?_⟩
  · obtain ⟨l, h1, h2⟩ := List.mem_flatten.mp (mem_isort.mp hy)
    have hy := (hg l h1).1.2 y h2
    exact ⟨hy.elim fun z hz => ⟨z, hz.1⟩, hy.le hk⟩
  · have h1 := flat_le (R := R) (i := 0 + 1)
    rw [flat_succ (by (first | assumption | exact q1 ‹_› | exact q2 ‹_› ‹_› | exact q3 ‹_› ‹_› | exact q4 ‹_› ‹_› | exact q5 ‹_› | exact q6 ‹_› | lia | omega)), List.length_append] at h1
    have := h0.1.1
    (first | assumption | exact q1 ‹_› | exact q2 ‹_› ‹_› | exact q3 ‹_› ‹_› | exact q4 ‹_› ‹_› | exact q5 ‹_› | exact q6 ‹_› | lia | omega)
end Mine

end
section -- L12q
namespace Mine
variable {W : Wd} {n : Nat} {σ σ' τ : St} {cs : List Addr}

theorem Cd.of {σ : St} {c4 cw cy ca cb : Addr} (n4 : σ c4 = none) (nw : (σ.set c4 (.cell .undef)) cw = none) (ny : ((σ.set c4 (.cell .undef)).set cw (.cell .undef)) cy = none) (na : (((σ.set c4 (.cell .undef)).set cw (.cell .undef)).set cy (.cell .undef)) ca = none)
    (nb : ((((σ.set c4 (.cell .undef)).set cw (.cell .undef)).set cy (.cell .undef)).set ca (.cell .undef)) cb = none) :
    Cd [0, 0, 0, 0, c4, 0, 0, 0, 0, 0, 0, 0, 0, 0, 0, 0, 0, 0, 0, 0, 0, 0, 0, 0, 0, 0, cw, cy, ca, cb, 0, 0, 0, 0, 0, 0, 0, 0, 0, 0, 0, 0, 0, 0, 0] ∧
    Ext σ (((((σ.set c4 (.cell .undef)).set cw (.cell .undef)).set cy (.cell .undef)).set ca (.cell .undef)).set cb (.cell .undef)) ∧
    CV [0, 0, 0, 0, c4, 0, 0, 0, 0, 0, 0, 0, 0, 0, 0, 0, 0, 0, 0, 0, 0, 0, 0, 0, 0, 0, cw, cy, ca, cb, 0, 0, 0, 0, 0, 0, 0, 0, 0, 0, 0, 0, 0, 0, 0] (((((σ.set c4 (.cell .undef)).set cw (.cell .undef)).set cy (.cell .undef)).set ca (.cell .undef)).set cb (.cell .undef)) .undef .undef .undef .undef .undef := by
  have g4 := St.set_same σ c4 (.cell .undef)
  have e1 : Ext σ (σ.set c4 (.cell .undef)) := Ext.new n4
  generalize σ.set c4 (.cell .undef) = σ1 at g4 e1 nw ny na nb ⊢
  have gw := St.set_same σ1 cw (.cell .undef)
  have e2 : Ext σ1 (σ1.set cw (.cell .undef)) := Ext.new nw
  generalize σ1.set cw (.cell .undef) = σ2 at gw e2 ny na nb ⊢
  have gy := St.set_same σ2 cy (.cell .undef)
  have e3 : Ext σ2 (σ2.set cy (.cell .undef)) := Ext.new ny
  generalize σ2.set cy (.cell .undef) = σ3 at gy e3 na nb ⊢
  have ga := St.set_same σ3 ca (.cell .undef)
  have e4 : Ext σ3 (σ3.set ca (.cell .undef)) := Ext.new na
  generalize σ3.set ca (.cell .undef) = σ4 at ga e4 nb ⊢
  have gb := St.set_same σ4 cb (.cell .undef)
  have e5 : Ext σ4 (σ4.set cb (.cell .undef)) := Ext.new nb
  generalize σ4.set cb (.cell .undef) = σ5 at gb e5 ⊢
  have g42 := e2 _ _ g4
  have g43 := e3 _ _ g42
  have g44 := e4 _ _ g43
  have gw3 := e3 _ _ gw
  have gw4 := e4 _ _ gw3
  have gy4 := e4 _ _ gy
  exact ⟨⟨ne_new g4 nw, ne_new g42 ny, ne_new g43 na, ne_new g44 nb, ne_new gw ny, ne_new gw3 na, ne_new gw4 nb, ne_new gy na, ne_new gy4 nb, ne_new ga nb⟩, (((e1.trans e2).trans e3).trans e4).trans e5, ⟨e5 _ _ g44, e5 _ _ gw4, e5 _ _ gy4, e5 _ _ ga, gb⟩⟩
theorem cells_88 {u : V} {Q : List Addr → St → Prop} (h : ∀ cs σ', Cd cs → Ext σ σ' → CV cs σ' .undef .undef .undef .undef .undef → Q cs σ') : cellW nm12_88 (parV ((["script"] : List Str).zip [u])) [] σ Q := by
  have k : ∀ c4, σ c4 = none → ∀ cw, (σ.set c4 (.cell .undef)) cw = none → ∀ cy, ((σ.set c4 (.cell .undef)).set cw (.cell .undef)) cy = none → ∀ ca, (((σ.set c4 (.cell .undef)).set cw (.cell .undef)).set cy (.cell .undef)) ca = none →
    ∀ cb, ((((σ.set c4 (.cell .undef)).set cw (.cell .undef)).set cy (.cell .undef)).set ca (.cell .undef)) cb = none → Q [0, 0, 0, 0, c4, 0, 0, 0, 0, 0, 0, 0, 0, 0, 0, 0, 0, 0, 0, 0, 0, 0, 0, 0, 0, 0, cw, cy, ca, cb, 0, 0, 0, 0, 0, 0, 0, 0, 0, 0, 0, 0, 0, 0, 0] (((((σ.set c4 (.cell .undef)).set cw (.cell .undef)).set cy (.cell .undef)).set ca (.cell .undef)).set cb (.cell .undef)) := fun c4 n4 cw nw cy ny ca na cb nb => by
    obtain ⟨h1, h2, h3⟩ := Cd.of n4 nw ny na nb
    exact h _ _ h1 h2 h3
  have e : cellW nm12_88 (parV ([("script", u)] : List (Str × V))) [] σ Q = ∀ c4, σ c4 = none → ∀ cw, (σ.set c4 (.cell .undef)) cw = none → ∀ cy, ((σ.set c4 (.cell .undef)).set cw (.cell .undef)) cy = none → ∀ ca, (((σ.set c4 (.cell .undef)).set cw (.cell .undef)).set cy (.cell .undef)) ca = none →
    ∀ cb, ((((σ.set c4 (.cell .undef)).set cw (.cell .undef)).set cy (.cell .undef)).set ca (.cell .undef)) cb = none → Q [0, 0, 0, 0, c4, 0, 0, 0, 0, 0, 0, 0, 0, 0, 0, 0, 0, 0, 0, 0, 0, 0, 0, 0, 0, 0, cw, cy, ca, cb, 0, 0, 0, 0, 0, 0, 0, 0, 0, 0, 0, 0, 0, 0, 0] (((((σ.set c4 (.cell .undef)).set cw (.cell .undef)).set cy (.cell .undef)).set ca (.cell .undef)).set cb (.cell .undef)) := by kernel_rfl
  exact e.mpr k
theorem slots_88 {u : V} : slots0 nm12_88 (parV ((["script"] : List Str).zip [u])) = u :: undefs 44 := by kernel_rfl
theorem sum_of {a : Addr} {o : O} {xs : List Int} {Q : V → St → Prop} (h : σ a = some o) (hi : o.litems = some (ivs xs)) (q : Q (.int xs.sum) σ) : biW .sum [.ref a] σ Q := by
  rw [f_sum]; unfold lintsW litemsW refW
  simp only [optP_some, h, hi, asInts_ivs]
  exact q
theorem eqL_all {f : V → V → Option Bool} : ∀ xs ys : List V, (∀ i, i < xs.length → i < ys.length → f (nth xs i) (nth ys i) = some true) → eqL f xs ys = some true
  | [], _, _ => rfl
  | x :: xs, [], _ => rfl
  | x :: xs, y :: ys, h => by
    have h0 : f x y = some true := h 0 (Nat.succ_pos _) (Nat.succ_pos _)
    show (f x y).bind (fun b => (eqL f xs ys).map fun c => b && c) = _
    rw [h0, eqL_all xs ys fun i h1 h2 => h (i + 1) (Nat.succ_lt_succ h1) (Nat.succ_lt_succ h2)]; rfl
theorem eq_parts {d d' : Addr} {as bs : List Addr} {R : List (List Int)} {Q : Bool → St → Prop} (hd : σ d = some (.lst (rf as))) (hd' : σ d' = some (.lst (rf bs))) (p : Pt σ as R) (p' : Pt σ bs R) (hne : d ≠ d') (hn : ∀ a, a ∈ as → a ∉ bs) (q : Q true σ) : cmpW .Eq (.ref d) (.ref d') σ Q := by
  show eqW _ _ _ _
  have e : eqB σ 3 (.ref d) (.ref d') = some true := by
    show (if d = d' then none else ((σ d).bind O.litems).bind fun xs => ((σ d').bind O.litems).bind fun ys => if xs.length = ys.length then eqL (eqB σ 2) xs ys else some false) = _
    rw [if_neg hne, hd, hd']
    show (if (rf as).length = (rf bs).length then eqL (eqB σ 2) (rf as) (rf bs) else some false) = _
    rw [rf_len, rf_len, p.len, p'.len, if_pos rfl]
    refine eqL_all _ _ fun i h1 h2 => ?_
    rw [rf_len] at h1 h2
    have hi : i < R.length := by rw [← p.len]; exact h1
    rw [nth_rfD h1, nth_rfD h2]
    have := eqB_ints (d := 1) (p.at_ i hi) (p'.at_ i hi) rfl rfl fun e => hn _ (p.mem_at hi) (by rw [e]; exact p'.mem_at hi)
    rw [this, decide_eq_true rfl]
  unfold eqW
  rw [e]; exact q
noncomputable def ptX : X := .call (.con (.ref 83)) (.cons (.loc 0) (.cons (.loc 3) (.cons (.loc 2) (.cons (.cel 4) .nil)))) [] .nil
noncomputable def finS : S := .seq (.ite (.cmp .NotEq (.loc 14) evX) retN .skip) (.seq (.ret (.cmp .Eq (.loc 5) ptX)) .skip)
noncomputable def ptL (rest : S) : S := .seq (.for_ (.one (.l 9)) (.loc 5) b1) rest
theorem bd12_88_eq : bd12_88 = .seq (.set (.l 1) (.bcall .sum (.cons (.loc 0) .nil)))
 (.seq (.set (.l 2) (.bin .Add (.con (.int (2))) (.bin .Mod (.loc 1) (.con (.int (4))))))
 (.seq (.set (.l 3) (.bin .Add (.con (.int (2))) (.bin .Mod (.bin .FloorDiv (.loc 1) (.con (.int (4)))) (.con (.int (3))))))
 (.seq (.set (.c 4) (.bin .Add (.con (.int (2))) (.bin .Mod (.bin .FloorDiv (.loc 1) (.con (.int (12)))) (.con (.int (40))))))
 (.seq (.set (.l 5) ptX)
 (.seq (.set (.l 6) (.lst .nil)) (.seq (.set (.l 7) (.lst .nil)) (.seq (.set (.l 8) (.lst .nil)) (ptL (midS (twS finS)))))))))) := rfl
section
variable {P : Params} {a d de : Addr} {as : List Addr} {R : List (List Int)} {ns : List Int} {m q k : Nat} {w y va vb v1 v3 v4 v6 v7 v8 v9 v10 v11 v12 v13 v15 : V} {tl : List V} {Q : Fl → St → List V → Prop}
/-- the parts are made -/
theorem pt_ok (X : Txt W (K12 P) tb12) (ga : σ a = some (.ro (ivs ns))) (hn : ns.length ≤ 63) (hm : 0 < m) (hm4 : m ≤ 4) (hq : 0 < q) (hq5 : q ≤ 5) (hc : CV cs σ (.int k) w y va vb) {Q : V → St → Prop}
    (z : ∀ d as σ', Ext σ σ' → σ' d = some (.lst (rf as)) → Pt σ' as (partsF m q k ns) → (∀ a ∈ as, σ a = none) → σ d = none → d ∉ as → Q (.ref d) σ') : xW W (n + 2) ptX cs (.ref a :: v1 :: .int (q : Nat) :: .int (m : Nat) :: tl) σ Q := by
  unfold ptX
  refine e_x_call (e_x_con (e_l_cons ?_))
  first | refine lc_i rfl ?_ | refine lc_r rfl ?_ | refine lc_s rfl ?_ | refine lc_n rfl ?_
  refine e_l_cons ?_
  first | refine lc_i rfl ?_ | refine lc_r rfl ?_ | refine lc_s rfl ?_ | refine lc_n rfl ?_
  refine e_l_cons ?_
  first | refine lc_i rfl ?_ | refine lc_r rfl ?_ | refine lc_s rfl ?_ | refine lc_n rfl ?_
  refine e_l_cons ?_
  refine cel_of hc.n nofun ?_
  refine e_l_nil (e_l_nil ?_)
  exact parts_ok X ga hn hm hm4 hq hq5 z
theorem fin_ok (X : Txt W (K12 P) tb12) (ga : σ a = some (.ro (ivs ns))) (hn : ns.length ≤ 63) (hm : 0 < m) (hm4 : m ≤ 4) (hq : 0 < q) (hq5 : q ≤ 5) (hc : CV cs σ (.int k) w y va vb) (gd : σ d = some (.lst (rf as))) (p : Pt σ as (partsF m q k ns)) (ge : σ de = some (.lst (ivs (partsF m q k ns).flatten)))
    (hf : (partsF m q k ns).flatten.length ≤ 400) (z : ∀ σ' fr, Q (.ret (.bool true)) σ' fr) : sW W (n + 2) finS cs (.ref a :: v1 :: .int (q : Nat) :: .int (m : Nat) :: v4 :: .ref d :: v6 :: v7 :: v8 :: v9 :: v10 :: v11 :: v12 :: v13 :: .ref de :: tl) σ Q := by
  unfold finS
  refine seq_ite ?_
  refine e_t_cmp ?_
  first | refine lc_i rfl ?_ | refine lc_r rfl ?_ | refine lc_s rfl ?_ | refine lc_n rfl ?_
  refine ev_ok gd p (by (first | assumption | exact q1 ‹_› | exact q2 ‹_› ‹_› | exact q3 ‹_› ‹_› | exact q4 ‹_› ‹_› | exact q5 ‹_› | exact q6 ‹_› | lia | omega)) fun de2 σ1 m1 e1 f1 => ?_
  refine ne_ints (e1 _ _ ge) f1 rfl rfl (ne_new ge m1) ?_
  refine ite_nd rfl ?_
  refine seq_skip (seq_ret ?_)
  refine e_x_cmp ?_
  first | refine lc_i rfl ?_ | refine lc_r rfl ?_ | refine lc_s rfl ?_ | refine lc_n rfl ?_
  refine pt_ok X (e1 _ _ ga) hn hm hm4 hq hq5 (hc.ext e1) fun d2 bs σ2 e2 g2 p2 nb nd _ => ?_
  have p1 := p.ext e1
  refine eq_parts (e2 _ _ (e1 _ _ gd)) g2 (p1.ext e2) p2 (ne_new (e1 _ _ gd) nd) (fun x hx hb => ?_) (z _ _)
  obtain ⟨l, hl⟩ := p1.mem hx
  rw [nb x hb] at hl; (first | exact nS hl | exact nO hl | exact nF hl | exact nT hl | exact nN hl | exact nC hl | cases hl)
theorem ptL_ok (X : Txt W (K12 P) tb12) {dl dt dm : Addr} {v0 v3 v4 : V} {rest : S} (H : PP q R) (B : LB τ d dl dt dm as R) (h : LS τ σ dl dt dm [] R q 0)
    (z : ∀ ts σ' v9 v10 v11 v12, LS τ σ' dl dt dm ts R q R.length → sW W (n + 2) rest cs (v0 :: v1 :: .int (q : Nat) :: v3 :: v4 :: .ref d :: .ref dl :: .ref dt :: .ref dm :: v9 :: v10 :: v11 :: v12 :: tl) σ' Q) :
    sW W (n + 2) (ptL rest) cs (v0 :: v1 :: .int (q : Nat) :: v3 :: v4 :: .ref d :: .ref dl :: .ref dt :: .ref dm :: v9 :: v10 :: v11 :: v12 :: tl) σ Q := by
  unfold ptL
  refine seq_for ?_
  first | refine lc_i rfl ?_ | refine lc_r rfl ?_ | refine lc_s rfl ?_ | refine lc_n rfl ?_
  refine iter_lst (h.e _ _ B.d) ?_
  refine forW_inv (k := 0) (fun i fr σ' => ∃ ts, fr = v0 :: v1 :: .int (q : Nat) :: v3 :: v4 :: .ref d :: .ref dl :: .ref dt :: .ref dm :: nth fr 9 :: nth fr 10 :: nth fr 11 :: nth fr 12 :: tl ∧ LS τ σ' dl dt dm ts R q i) (fun _ _ _ => False) ⟨_, rfl, h⟩ (fun i fr σ' hi hJ => ?_) (fun fr σ' hJ => ?_) (fun _ _ _ h => h.elim)
  · obtain ⟨ts, hf, h⟩ := hJ
    rw [hf]
    rw [rf_len] at hi
    rw [Nat.zero_add] at h ⊢
    refine ⟨h.e _ _ B.d, fun Q' hQ' _ => ?_⟩
    rw [nth_rfD hi]
    simp only [tgW, stW, setN]
    exact b1_ok X H B (by rw [← B.p.len]; exact hi) h fun ts' σ2 v10 v11 v12 h2 => hQ' _ _ ⟨_, rfl, h2⟩
  · obtain ⟨ts, hf, h⟩ := hJ
    rw [hf]
    rw [Nat.zero_add, rf_len, B.p.len] at h
    exact ⟨h.e _ _ B.d, z _ _ _ _ _ _ h⟩
end
theorem law12 {P : Params} (X : Txt W (K12 P) tb12) {a : Addr} {ns : List Int} (hn : ns.length ≤ 63) : CallOK W 500 (.ref 88) [.ref a] [] [] (fun v _ => v = .bool true) (σ0 a ns) := by
  have ga : σ0 a ns a = some (.ro (ivs ns)) := by simp [σ0]
  generalize σ0 a ns = σ at ga
  refine fn12_law (n := 499) X rfl (cells_88 fun cs σ1 D E1 h1 => ?_)
  rw [slots_88, bd12_88_eq]
  simp only [undefs]
  have ga1 := E1 _ _ ga
  refine seq_set (e_x_bcall (e_l_cons (lc_r rfl (e_l_nil (sum_of ga1 rfl ?_)))))
  simp only [stW, setN]
  generalize ns.sum = t
  obtain ⟨q', e2, hq⟩ := fmod_pos (x := t) (m := 4) (by decide)
  obtain ⟨m', e3, hm⟩ := fmod_pos (x := t.fdiv 4) (m := 3) (by decide)
  obtain ⟨k', e4, hk⟩ := fmod_pos (x := t.fdiv 12) (m := 40) (by decide)
  refine seq_set (e_x_bin (e_x_con (e_x_bin (lc_i rfl (e_x_con (e_b_mod ⟨by decide, e_b_add ?_⟩))))))
  rw [show t.fmod 4 = (q' : Int) from e2, show (2 : Int) + (q' : Int) = ((2 + q' : Nat) : Int) from rfl]
  simp only [stW, setN]
  refine seq_set (e_x_bin (e_x_con (e_x_bin (e_x_bin (lc_i rfl (e_x_con (e_b_div ⟨by decide, by decide, e_x_con (e_b_mod ⟨by decide, e_b_add ?_⟩)⟩)))))))
  rw [show (t.fdiv 4).fmod 3 = (m' : Int) from e3, show (2 : Int) + (m' : Int) = ((2 + m' : Nat) : Int) from rfl]
  simp only [stW, setN]
  refine seq_set (e_x_bin (e_x_con (e_x_bin (e_x_bin (lc_i rfl (e_x_con (e_b_div ⟨by decide, by decide, e_x_con (e_b_mod ⟨by decide, e_b_add ?_⟩)⟩)))))))
  rw [show (t.fdiv 12).fmod 40 = (k' : Int) from e4, show (2 : Int) + (k' : Int) = ((2 + k' : Nat) : Int) from rfl]
  refine st_c h1.n ?_
  have N2 := (Nc.refl σ1).cell (x := .int ((2 + k' : Nat) : Int)) h1.n
  have h2 := h1.setn (x := .int ((2 + k' : Nat) : Int)) D
  generalize σ1.set (nthA cs 4) (.cell (.int ((2 + k' : Nat) : Int))) = σ2 at N2 h2
  have ga2 : σ2 a = some (.ro (ivs ns)) := N2 a _ (fun _ h => by (first | exact nS h | exact nO h | exact nF h | exact nT h | exact nN h | exact nC h | cases h)) ga1
  obtain ⟨H, hM, hl, hf3⟩ := parts_pp (m := 2 + m') (q := 2 + q') (k := 2 + k') (ns := ns) (by (first | assumption | exact q1 ‹_› | exact q2 ‹_› ‹_› | exact q3 ‹_› ‹_› | exact q4 ‹_› ‹_› | exact q5 ‹_› | exact q6 ‹_› | lia | omega)) (by (first | assumption | exact q1 ‹_› | exact q2 ‹_› ‹_› | exact q3 ‹_› ‹_› | exact q4 ‹_› ‹_› | exact q5 ‹_› | exact q6 ‹_› | lia | omega)) (by (first | assumption | exact q1 ‹_› | exact q2 ‹_› ‹_› | exact q3 ‹_› ‹_› | exact q4 ‹_› ‹_› | exact q5 ‹_› | exact q6 ‹_› | lia | omega)) (by (first | assumption | exact q1 ‹_› | exact q2 ‹_› ‹_› | exact q3 ‹_› ‹_› | exact q4 ‹_› ‹_› | exact q5 ‹_› | exact q6 ‹_› | lia | omega)) (by (first | assumption | exact q1 ‹_› | exact q2 ‹_› ‹_› | exact q3 ‹_› ‹_› | exact q4 ‹_› ‹_› | exact q5 ‹_› | exact q6 ‹_› | lia | omega)) hn
  have hfl := H.flat
  refine seq_set (pt_ok (n := 497) X ga2 hn (by (first | assumption | exact q1 ‹_› | exact q2 ‹_› ‹_› | exact q3 ‹_› ‹_› | exact q4 ‹_› ‹_› | exact q5 ‹_› | exact q6 ‹_› | lia | omega)) (by (first | assumption | exact q1 ‹_› | exact q2 ‹_› ‹_› | exact q3 ‹_› ‹_› | exact q4 ‹_› ‹_› | exact q5 ‹_› | exact q6 ‹_› | lia | omega)) (by (first | assumption | exact q1 ‹_› | exact q2 ‹_› ‹_› | exact q3 ‹_› ‹_› | exact q4 ‹_› ‹_› | exact q5 ‹_› | exact q6 ‹_› | lia | omega)) (by (first | assumption | exact q1 ‹_› | exact q2 ‹_› ‹_› | exact q3 ‹_› ‹_› | exact q4 ‹_› ‹_› | exact q5 ‹_› | exact q6 ‹_› | lia | omega)) h2 fun d as σ3 e3 gd p na nd hd => ?_)
  simp only [stW, setN]
  refine seq_set ?_
  refine e_x_lst (e_l_nil ?_)
  refine ⟨Nat.zero_le _, alW_of fun dl σ4 m4 e4 f4 => ?_⟩
  simp only [stW, setN]
  refine seq_set ?_
  refine e_x_lst (e_l_nil ?_)
  refine ⟨Nat.zero_le _, alW_of fun dt σ5 m5 e5 f5 => ?_⟩
  simp only [stW, setN]
  refine seq_set ?_
  refine e_x_lst (e_l_nil ?_)
  refine ⟨Nat.zero_le _, alW_of fun dm σ6 m6 e6 f6 => ?_⟩
  simp only [stW, setN]
  have e46 := (e4.trans e5).trans e6
  have B : LB σ3 d dl dt dm as (partsF (2 + m') (2 + q') ((2 + k' : Nat) : Int) ns) := ⟨gd, p, m4, e4.none m5, (e4.trans e5).none m6, ne_new f4 m5, ne_new (e5 _ _ f4) m6, ne_new f5 m6⟩
  refine ptL_ok (n := 497) X H B ⟨e46, e6 _ _ (e5 _ _ f4), e6 _ _ f5, fun j hj => absurd hj (Nat.not_lt_zero _), rfl, f6⟩ fun ts σ7 v9 v10 v11 v12 L => ?_
  refine mid_ok (n := 498) X H (by (first | assumption | exact q1 ‹_› | exact q2 ‹_› ‹_› | exact q3 ‹_› ‹_› | exact q4 ‹_› ‹_› | exact q5 ‹_› | exact q6 ‹_› | lia | omega)) hl L (L.e _ _ gd) (p.ext L.e) fun de df σ8 v10 v16 v17 v18 v19 v20 v21 v22 v23 e8 g8 f8 => ?_
  have e38 := L.e.trans e8
  refine tw_ok (n := 498) X D (h2.ext (e3.trans e38)) g8 f8 (by (first | assumption | exact q1 ‹_› | exact q2 ‹_› ‹_› | exact q3 ‹_› ‹_› | exact q4 ‹_› ‹_› | exact q5 ‹_› | exact q6 ‹_› | lia | omega)) (by (first | assumption | exact q1 ‹_› | exact q2 ‹_› ‹_› | exact q3 ‹_› ‹_› | exact q4 ‹_› ‹_› | exact q5 ‹_› | exact q6 ‹_› | lia | omega)) (by (first | assumption | exact q1 ‹_› | exact q2 ‹_› ‹_› | exact q3 ‹_› ‹_› | exact q4 ‹_› ‹_› | exact q5 ‹_› | exact q6 ‹_› | lia | omega)) (by (first | assumption | exact q1 ‹_› | exact q2 ‹_› ‹_› | exact q3 ‹_› ‹_› | exact q4 ‹_› ‹_› | exact q5 ‹_› | exact q6 ‹_› | lia | omega)) hM fun σ9 v24 v25 v30 w y va vb N9 h9 => ?_
  have p8 := p.ext e38
  refine fin_ok (n := 497) X (N9 a _ (fun _ h => by (first | exact nS h | exact nO h | exact nF h | exact nT h | exact nN h | exact nC h | cases h)) (e38 _ _ (e3 _ _ ga2))) hn (by (first | assumption | exact q1 ‹_› | exact q2 ‹_› ‹_› | exact q3 ‹_› ‹_› | exact q4 ‹_› ‹_› | exact q5 ‹_› | exact q6 ‹_› | lia | omega)) (by (first | assumption | exact q1 ‹_› | exact q2 ‹_› ‹_› | exact q3 ‹_› ‹_› | exact q4 ‹_› ‹_› | exact q5 ‹_› | exact q6 ‹_› | lia | omega)) (by (first | assumption | exact q1 ‹_› | exact q2 ‹_› ‹_› | exact q3 ‹_› ‹_› | exact q4 ‹_› ‹_› | exact q5 ‹_› | exact q6 ‹_› | lia | omega)) (by (first | assumption | exact q1 ‹_› | exact q2 ‹_› ‹_› | exact q3 ‹_› ‹_› | exact q4 ‹_› ‹_› | exact q5 ‹_› | exact q6 ‹_› | lia | omega)) h9 (N9.at (e38 _ _ gd)) ⟨p8.len, p8.nd, fun i hi => N9.at (p8.at_ i hi)⟩ (N9.at g8) hfl fun _ _ => rfl
end Mine

end
namespace Mine
theorem head12 (h : ∀ (W : Wd) (P : Params), Txt W (K12 P) tb12 → ∀ (a : Addr) (ns : List Int), ns.length ≤ 63 → CallOK W 500 (.ref 88) [.ref a] [] [] (fun v _ => v = .bool true) (σ0 a ns)) : PySem.Challenge.rw_dn0040_12.Holds := hd12 (by
  w_strict (
  k_fill
  intro w s₀ s₁ mg mb G Y fa o pm cd doc dV kV ho hd hcd hD hmg hg args vals as hpre hlay hrd hwl hlo
  have KX := kIn_of Y
  refine Ground.open G ?_
  intro T B D TE TW
  clear D
  have hfa : mg "law" = some (.ref fa) := hmg
  have e0 := (mg_of KX T.g (show nsIn (hd12.heap_39 w.params) mainGlobals "law" = some (some (.ref 88)) from by kernel_rfl)).symm.trans hfa
  (first | exact nS e0 | exact nO e0 | exact nF e0 | exact nT e0 | exact nN e0 | exact nC e0 | cases e0)
  clear ho hd hcd hD hmg hfa
  wrow_args hpre hlay hrd hwl hlo
  refine lawEnds (by assumption) (by assumption) (by (first | assumption | exact q1 ‹_› | exact q2 ‹_› ‹_› | exact q3 ‹_› ‹_› | exact q4 ‹_› ‹_› | exact q5 ‹_› | exact q6 ‹_› | omega)) hg (raisesW_false ?h1) ?h2 ?_
  case h1 => wrow_none_raised
  case h2 => first | wrow_post | kc_post
  exact h _ w.params ⟨KX, glOK_of KX T.g T.b T.builtins (gl12 _), T.nolimit⟩ _ _ (by (first | assumption | exact q1 ‹_› | exact q2 ‹_› ‹_› | exact q3 ‹_› ‹_› | exact q4 ‹_› ‹_› | exact q5 ‹_› | exact q6 ‹_› | omega))))
end Mine
theorem PySem.Challenge.cw_dn0040_12_holds : PySem.Challenge.rw_dn0040_12.Holds :=
  Mine.head12 fun _ _ X _ _ h => Mine.law12 X h
