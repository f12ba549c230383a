import PyProof.Rows.All
import Wide.All
import OpenK.AllK
import Wide.FinOn
import PySem.Challenge.RW_xg0061_01
set_option Elab.async false

section
open PySem PySem.W PySem.Calls PySem.Spec
set_option linter.unusedVariables false
namespace Mine

/-- a kind of value: what a heap says of it, kept as the heap grows -/
structure Ty where
  P : Value → Heap → Prop
  mono : ∀ v h h', (∀ b o, h.get? b = some o → h'.get? b = some o) → P v h → P v h'

noncomputable def Py (d : PyData) : Ty := ⟨fun v h => ∃ as, Reads h v d as, fun _ _ _ hk ⟨as, r⟩ => ⟨as, PyProof.Rows.Reads.keeps hk r⟩⟩
noncomputable abbrev TI (i : Int) : Ty := Py (.int i)
noncomputable abbrev TB (b : Bool) : Ty := Py (.bool b)
noncomputable abbrev TS (x : Str) : Ty := Py (.str x)
noncomputable def By (b : List UInt8) : Ty := ⟨fun v _ => ∃ t, v = .bytes b.toArray t, fun _ _ _ _ h => h⟩

theorem py_int {i : Int} {v : Value} {h : Heap} (x : (TI i).P v h) : ∃ t, v = .int i t := by
  obtain ⟨as, r⟩ := x; cases r; exact ⟨_, rfl⟩
theorem py_bool {b : Bool} {v : Value} {h : Heap} (x : (TB b).P v h) : v = .bool b := by
  obtain ⟨as, r⟩ := x; cases r; rfl
theorem py_str {x : Str} {v : Value} {h : Heap} (y : (TS x).P v h) : ∃ t, v = .str x t := by
  obtain ⟨as, r⟩ := y; cases r; exact ⟨_, rfl⟩
theorem py_none {v : Value} {h : Heap} (y : (Py .none).P v h) : v = .none := by
  obtain ⟨as, r⟩ := y; cases r; rfl
theorem int_py (i : Int) (t : Tok) (h : Heap) : (TI i).P (.int i t) h := ⟨[], .int i t⟩
theorem str_py (x : Str) (t : Tok) (h : Heap) : (TS x).P (.str x t) h := ⟨[], .str x t⟩
theorem bool_py (b : Bool) (h : Heap) : (TB b).P (.bool b) h := ⟨[], .bool b⟩
theorem none_py (h : Heap) : (Py .none).P .none h := ⟨[], .none⟩

/-- items of a sequence -/
inductive All2 (h : Heap) : List Value → List PyData → Prop
  | nil : All2 h [] []
  | cons {v vs d ds} : (Py d).P v h → All2 h vs ds → All2 h (v :: vs) (d :: ds)
theorem All2.of {h : Heap} : ∀ {vs : List Value} {ds : List PyData} {as}, ReadsAll h vs ds as → All2 h vs ds
  | _, _, _, .nil => .nil
  | _, _, _, .cons r rs => .cons ⟨_, r⟩ (All2.of rs)
theorem All2.reads {h : Heap} : ∀ {vs : List Value} {ds : List PyData}, All2 h vs ds → ∃ as, ReadsAll h vs ds as
  | _, _, .nil => ⟨_, .nil⟩
  | _, _, .cons ⟨_, r⟩ rs => let ⟨_, q⟩ := rs.reads; ⟨_, .cons r q⟩
theorem All2.length {h : Heap} : ∀ {vs : List Value} {ds : List PyData}, All2 h vs ds → vs.length = ds.length
  | _, _, .nil => rfl
  | _, _, .cons _ r => by simp [r.length]
theorem All2.keeps {h h' : Heap} (hk : ∀ b o, h.get? b = some o → h'.get? b = some o) : ∀ {vs : List Value} {ds : List PyData}, All2 h vs ds → All2 h' vs ds
  | _, _, .nil => .nil
  | _, _, .cons r rs => .cons ((Py _).mono _ _ _ hk r) (rs.keeps hk)
theorem All2.append {h : Heap} : ∀ {vs ws : List Value} {ds es : List PyData}, All2 h vs ds → All2 h ws es → All2 h (vs ++ ws) (ds ++ es)
  | _, _, _, _, .nil, k => k
  | _, _, _, _, .cons r rs, k => .cons r (rs.append k)
theorem All2.get {h : Heap} : ∀ {vs : List Value} {ds : List PyData}, All2 h vs ds → ∀ {i : Nat} {d}, ds[i]? = some d → ∃ v, vs[i]? = some v ∧ (Py d).P v h
  | _, _, .nil, _, _, e => by simp at e
  | _, _, .cons (v := v) r rs, 0, _, e => by simp at e; subst e; exact ⟨v, rfl, r⟩
  | _, _, .cons r rs, i + 1, _, e => by simp at e; simpa using rs.get e
theorem py_list {ds : List PyData} {v : Value} {h : Heap} (x : (Py (.list ds)).P v h) : ∃ a vs, v = .ref a ∧ h.IsList a vs.toArray ∧ All2 h vs ds := by
  obtain ⟨as, r⟩ := x
  cases r with
  | list h1 h2 h3 h4 => exact ⟨_, _, rfl, ⟨_, h1, h2, _, h3⟩, .of h4⟩
theorem list_py {ds : List PyData} {a : Addr} {vs : List Value} {h : Heap} (hl : h.IsList a vs.toArray) (x : All2 h vs ds) : (Py (.list ds)).P (.ref a) h := by
  obtain ⟨o, h1, h2, n, h3⟩ := hl
  obtain ⟨as, r⟩ := x.reads
  exact ⟨_, .list h1 h2 h3 r⟩
theorem py_tuple {ds : List PyData} {v : Value} {h : Heap} (x : (Py (.tuple ds)).P v h) : ∃ a vs, v = .ref a ∧ h.IsTuple a vs.toArray ∧ All2 h vs ds := by
  obtain ⟨as, r⟩ := x
  cases r with
  | tuple h1 h2 h3 h4 => exact ⟨_, _, rfl, ⟨_, h1, h2, _, h3⟩, .of h4⟩
theorem tuple_py {ds : List PyData} {a : Addr} {vs : List Value} {h : Heap} (hl : h.IsTuple a vs.toArray) (x : All2 h vs ds) : (Py (.tuple ds)).P (.ref a) h := by
  obtain ⟨o, h1, h2, n, h3⟩ := hl
  obtain ⟨as, r⟩ := x.reads
  exact ⟨_, .tuple h1 h2 h3 r⟩

/-- the heap without the things that may still turn -/
noncomputable abbrev hid (F : List Addr) (h : Heap) : Heap := hideAll h F
noncomputable abbrev Ext (h h' : Heap) : Prop := ∀ b o, h.get? b = some o → h'.get? b = some o
theorem hid_notin {F : List Addr} {h : Heap} {b : Addr} {o : Obj} (e : (hid F h).get? b = some o) : b ∉ F := fun m => by
  rw [hideAll_none F m] at e; cases e
theorem hid_ext {F : List Addr} {h h' : Heap} (k : ∀ b o, b ∉ F → h.get? b = some o → h'.get? b = some o) : Ext (hid F h) (hid F h') :=
  fun b o e => hideAll_get F (k b o (hid_notin e) (of_hideAll F e)) (hid_notin e)
theorem hid_ext' {F F' : List Addr} {h h' : Heap} (k : ∀ b o, b ∉ F → h.get? b = some o → h'.get? b = some o ∧ b ∉ F') : Ext (hid F h) (hid F' h') :=
  fun b o e => let q := k b o (hid_notin e) (of_hideAll F e); hideAll_get F' q.1 q.2
theorem hid_le {F F' : List Addr} {h : Heap} (k : ∀ b, b ∈ F → b ∈ F') : Ext (hid F' h) (hid F h) :=
  fun b o e => hideAll_get F (of_hideAll F' e) fun m => hid_notin e (k b m)
theorem hid_self {F : List Addr} {h : Heap} : Ext (hid F h) h := fun _ _ e => of_hideAll F e

/-- where a name's value lies -/
noncomputable def Loc (h : Heap) (env : Env) (x : Str) (v : Value) : Prop :=
  (env.kindOf x = some .local ∧ ∃ m, h.Ns env.locals m ∧ m x = some v) ∨
  ((env.kindOf x = some .cell ∨ env.kindOf x = some .free) ∧ ∃ c, env.cells.lookup x = some c ∧ h.IsCell c (some v))
theorem Loc.keeps {h h' : Heap} {env : Env} {x : Str} {v : Value} (k : Ext h h') : Loc h env x v → Loc h' env x v
  | .inl ⟨e, m, n, q⟩ => .inl ⟨e, m, n.keeps k, q⟩
  | .inr ⟨e, c, l, q⟩ => .inr ⟨e, c, l, q.keeps k⟩

structure Fm (base : Heap) (F : List Addr) (env : Env) (σ : List (Str × Ty)) (h : Heap) : Prop where
  kind : env.scope.kind = .function
  base : Ext base h
  old : ∀ b ∈ F, ∃ o, h.get? b = some o
  var : ∀ p ∈ σ, ∃ v, p.2.P v (hid F h) ∧ Loc h env p.1 v
theorem Fm.keeps {base : Heap} {F : List Addr} {env : Env} {σ : List (Str × Ty)} {h h' : Heap} (f : Fm base F env σ h) (k : Ext h h') : Fm base F env σ h' :=
  ⟨f.kind, fun b o e => k b o (f.base b o e), fun b m => let ⟨o, e⟩ := f.old b m; ⟨o, k b o e⟩, fun p m => let ⟨v, q, l⟩ := f.var p m
    ⟨v, p.2.mono _ _ _ (hid_ext fun b o _ e => k b o e) q, l.keeps k⟩⟩
theorem Fm.fresh {base : Heap} {F : List Addr} {env : Env} {σ : List (Str × Ty)} {h : Heap} (f : Fm base F env σ h) {a : Addr} (ha : h.get? a = none) : a ∉ F := fun m => by
  obtain ⟨o, e⟩ := f.old a m; rw [ha] at e; cases e
theorem Fm.sub {base : Heap} {F : List Addr} {env : Env} {σ τ : List (Str × Ty)} {h : Heap} (f : Fm base F env σ h) (s : ∀ p ∈ τ, p ∈ σ) : Fm base F env τ h :=
  ⟨f.kind, f.base, f.old, fun p m => f.var p (s p m)⟩

noncomputable abbrev Kp (s s' : Shared) : Prop := Keeps s s'
theorem Kp.ext {s s' : Shared} (x : Kp s s') : Ext s.heap s'.heap := by
  obtain ⟨_, _, rfl, k⟩ := x
  exact k
theorem Kp.refl (s : Shared) : Kp s s := ⟨s.heap, s.toks, rfl, fun _ _ e => e⟩
theorem Kp.trans {a b c : Shared} (x : Kp a b) (y : Kp b c) : Kp a c := by
  obtain ⟨_, _, rfl, k⟩ := x
  obtain ⟨_, _, rfl, k'⟩ := y
  exact ⟨_, _, rfl, fun b o e => k' b o (k b o e)⟩
theorem Kp.tok (s : Shared) (t : Nat) : Kp s { s with toks := t } := ⟨s.heap, t, rfl, fun _ _ e => e⟩
theorem Kp.push (s : Shared) (o : Obj) : Kp s { s with heap := s.heap.push o } := ⟨_, s.toks, rfl, fun _ _ e => Heap.get?_push_of_some _ e⟩
theorem Kp.heap {s : Shared} {h : Heap} {t : Nat} (k : Ext s.heap h) : Kp s { s with heap := h, toks := t } := ⟨_, _, rfl, k⟩

section
variable (prog : Program) (w : World)

/-- the room that calls need -/
structure Room (n : Nat) (A : Around) : Prop where
  hh : A.handled = none
  depth : A.depth + n ≤ 900
  units : A.units + 10 * n ≤ 9000
theorem Room.le {n m : Nat} {A : Around} (r : Room n A) (h : m ≤ n) : Room m A := ⟨r.hh, by have := r.depth; omega, by have := r.units; omega⟩
theorem Room.deeper {n : Nat} {A : Around} {env : Env} (r : Room (n + 1) A) : Room n (A.deeper env) :=
  ⟨r.hh, by have := r.depth; show A.depth + 1 + n ≤ 900; omega, by have := r.units; show A.units + 3 + 10 * n ≤ 9000; omega⟩
theorem Room.in1 {n : Nat} {A : Around} (r : Room (n + 1) A) : Room n A.in1 :=
  ⟨r.hh, by have := r.depth; show A.depth + n ≤ 900; omega, by have := r.units; show A.units + 1 + 10 * n ≤ 9000; omega⟩
theorem Room.u {n : Nat} {A : Around} (r : Room n A) (k : Nat) (hk : k ≤ 800 := by decide) : A.units + k < cLine := by
  have := r.units; have e : cLine = 9900 := rfl; omega
theorem Room.d {n : Nat} {A : Around} (r : Room n A) : A.depth < recursionLimit := by
  have := r.depth; have e : recursionLimit = 1000 := rfl; omega

/-- an expression denotes a thing of a kind, and the heap only grows -/
structure Ev (A : Around) (base : Heap) (F : List Addr) (env : Env) (σ : List (Str × Ty)) (e : Expr) (T : Ty) : Prop where
  go : ∀ s, Fm base F env σ s.heap → ∀ (Q E : Value → Shared → Prop), (∀ v s', Kp s s' → T.P v (hid F s'.heap) → Q v s') → wpAny (model prog w) A (eval e env) Q E s

/-- a truth test -/
structure Tr (A : Around) (base : Heap) (F : List Addr) (env : Env) (σ : List (Str × Ty)) (e : Expr) (b : Bool) : Prop where
  go : ∀ s, Fm base F env σ s.heap → ∀ (Q : Bool → Shared → Prop) (E : Value → Shared → Prop), (∀ s', Kp s s' → Q b s') → wpAny (model prog w) A (isTrue e env (eval e env)) Q E s

variable {prog w} {A : Around} {base : Heap} {F : List Addr} {env : Env} {σ : List (Str × Ty)}

theorem Ev.cons_int {i : Int} {k : Nat} {pos : Pos} : Ev prog w A base F env σ (.Constant (.int i) k pos) (TI i) :=
  .mk fun s _ _ _ h => wpAny_Constant_int (h _ _ (Kp.tok s _) (int_py _ _ _))
theorem Ev.cons_str {x : Str} {k : Nat} {pos : Pos} : Ev prog w A base F env σ (.Constant (.str x) k pos) (TS x) :=
  .mk fun s _ _ _ h => wpAny_Constant_str (h _ _ (Kp.tok s _) (str_py _ _ _))
theorem Ev.cons_bool {b : Bool} {k : Nat} {pos : Pos} : Ev prog w A base F env σ (.Constant (.bool b) k pos) (TB b) :=
  .mk fun s _ _ _ h => wpAny_Constant_bool (h _ _ (Kp.refl s) (bool_py _ _))
theorem Ev.cons_none {k : Nat} {pos : Pos} : Ev prog w A base F env σ (.Constant .none k pos) (Py .none) :=
  .mk fun s _ _ _ h => wpAny_Constant_none (h _ _ (Kp.refl s) (none_py _))
theorem Ev.cons_bytes {x : List UInt8} {k : Nat} {pos : Pos} : Ev prog w A base F env σ (.Constant (.bytes x) k pos) (By x) :=
  .mk fun s _ _ _ h => (fun _ _ _ => h _ _ (Kp.tok s _) ⟨_, rfl⟩)

theorem Ev.name {x : Str} {pos : Pos} {T : Ty} (m : (x, T) ∈ σ := by walk_at "mem") (hd : (x == ("__debug__" : Str)) = false := by decide +kernel) (hn : (x == ("__classdict__" : Str)) = false := by decide +kernel) :
    Ev prog w A base F env σ (.Name x pos) T := .mk fun s f _ _ h => by
  obtain ⟨v, q, l⟩ := f.var _ m
  refine wpAny_Name ?_ hd
  rcases l with ⟨e, mm, n, qq⟩ | ⟨e, c, lk, qq⟩
  · exact wpAny_loadName_local f.kind e n qq (h _ _ (Kp.refl s) q)
  · rcases e with e | e
    · exact wpAny_loadName_cell f.kind e lk qq (h _ _ (Kp.refl s) q)
    · exact wpAny_loadName_free f.kind e lk qq (h _ _ (Kp.refl s) q) hn

/-- what an operator makes of two values -/
structure BinR (prog : Program) (w : World) (op : Operator) (T₁ T₂ T : Ty) : Prop where
  go : ∀ A F s v₁ v₂, Room 1 A → (∀ b ∈ F, ∃ o, s.heap.get? b = some o) → T₁.P v₁ (hid F s.heap) → T₂.P v₂ (hid F s.heap) → ∀ (Q E : Value → Shared → Prop),
    (∀ v s', Kp s s' → T.P v (hid F s'.heap) → Q v s') → wpAny (model prog w) A (binaryOp op v₁ v₂) Q E s
theorem Ev.bin {l r : Expr} {op : Operator} {pos : Pos} {T₁ T₂ T : Ty} (R : Room 1 A) (hl : Ev prog w A base F env σ l T₁) (hr : Ev prog w A base F env σ r T₂) (ho : BinR prog w op T₁ T₂ T) :
    Ev prog w A base F env σ (.BinOp l op r pos) T := .mk fun s f Q E h =>
  wpAny_BinOp (hl.go s f _ E fun v₁ s₁ k₁ q₁ => hr.go s₁ (f.keeps k₁.ext) _ E fun v₂ s₂ k₂ q₂ =>
    have k := k₁.trans k₂
    ho.go A F s₂ v₁ v₂ R (f.keeps k.ext).old (T₁.mono _ _ _ (hid_ext fun b o _ e => k₂.ext b o e) q₁) q₂ Q E fun v s' k' q => h v s' (k.trans k') q)
structure CmpR (prog : Program) (w : World) (op : CmpOp) (T₁ T₂ : Ty) (b : Bool) : Prop where
  go : ∀ A F s v₁ v₂, Room 1 A → (∀ b ∈ F, ∃ o, s.heap.get? b = some o) → T₁.P v₁ (hid F s.heap) → T₂.P v₂ (hid F s.heap) → ∀ (Q E : Value → Shared → Prop),
    (∀ s', Kp s s' → Q (.bool b) s') → wpAny (model prog w) A (compareOp op v₁ v₂) Q E s
theorem Ev.cmp {l r : Expr} {op : CmpOp} {pos : Pos} {T₁ T₂ : Ty} {b : Bool} (R : Room 1 A) (hl : Ev prog w A base F env σ l T₁) (hr : Ev prog w A base F env σ r T₂) (ho : CmpR prog w op T₁ T₂ b)
    (hm : behindInMarks op r = false := by with_unfolding_all rfl) :
    Ev prog w A base F env σ (.Compare l [op] [r] pos) (TB b) := .mk fun s f Q E h =>
  wpAny_Compare1 (hl.go s f _ E fun v₁ s₁ k₁ q₁ => hr.go s₁ (f.keeps k₁.ext) _ E fun v₂ s₂ k₂ q₂ =>
    have k := k₁.trans k₂
    ho.go A F s₂ v₁ v₂ R (f.keeps k.ext).old (T₁.mono _ _ _ (hid_ext fun b o _ e => k₂.ext b o e) q₁) q₂ Q E fun s' k' => h _ s' (k.trans k') (bool_py _ _)) hm
theorem Tr.cmp {l r : Expr} {op : CmpOp} {pos : Pos} {T₁ T₂ : Ty} {b : Bool} (R : Room 1 A) (hl : Ev prog w A base F env σ l T₁) (hr : Ev prog w A base F env σ r T₂) (ho : CmpR prog w op T₁ T₂ b)
    (hm : behindInMarks op r = false := by with_unfolding_all rfl) :
    Tr prog w A base F env σ (.Compare l [op] [r] pos) b := .mk fun s f Q E h =>
  wpAny_isTrue_Compare1 (hl.go s f _ E fun v₁ s₁ k₁ q₁ => hr.go s₁ (f.keeps k₁.ext) _ E fun v₂ s₂ k₂ q₂ =>
    have k := k₁.trans k₂
    ho.go A F s₂ v₁ v₂ R (f.keeps k.ext).old (T₁.mono _ _ _ (hid_ext fun b o _ e => k₂.ext b o e) q₁) q₂ _ E fun s' k' => wpAny_truthy_bool (h s' (k.trans k'))) hm

theorem Ev.ifExp {t b o : Expr} {pos : Pos} {c : Bool} {T : Ty} (ht : Tr prog w A base F env σ t c) (h₁ : c = true → Ev prog w A base F env σ b T) (h₂ : c = false → Ev prog w A base F env σ o T) :
    Ev prog w A base F env σ (.IfExp t b o pos) T := .mk fun s f Q E h => by
  refine wpAny_IfExp (ht.go s f _ E fun s' k => ?_)
  cases c with
  | true => exact (h₁ rfl).go s' (f.keeps k.ext) Q E fun v s'' k' q => h v s'' (k.trans k') q
  | false => exact (h₂ rfl).go s' (f.keeps k.ext) Q E fun v s'' k' q => h v s'' (k.trans k') q
end

section
variable {prog : Program} {w : World}
theorem BinR.add {a b : Int} : BinR prog w .Add (TI a) (TI b) (TI (a + b)) := .mk fun A F s v₁ v₂ R _ q₁ q₂ Q E h => by
  obtain ⟨t, rfl⟩ := py_int q₁; obtain ⟨u, rfl⟩ := py_int q₂
  exact PyProof.Rows.add_int (h _ _ (Kp.tok s _) (int_py _ _ _))
theorem BinR.sub {a b : Int} : BinR prog w .Sub (TI a) (TI b) (TI (a - b)) := .mk fun A F s v₁ v₂ R _ q₁ q₂ Q E h => by
  obtain ⟨t, rfl⟩ := py_int q₁; obtain ⟨u, rfl⟩ := py_int q₂
  exact PyProof.Rows.sub_int' (h _ _ (Kp.tok s _) (int_py _ _ _))
theorem BinR.mod {a b : Int} (hb : b ≠ 0) : BinR prog w .Mod (TI a) (TI b) (TI (a.fmod b)) := .mk fun A F s v₁ v₂ R _ q₁ q₂ Q E h => by
  obtain ⟨t, rfl⟩ := py_int q₁; obtain ⟨u, rfl⟩ := py_int q₂
  exact PyProof.Rows.mod_int' hb (h _ _ (Kp.tok s _) (int_py _ _ _))
theorem BinR.cat {x y : Str} (hsz : x.length + y.length ≤ sizeLine) : BinR prog w .Add (TS x) (TS y) (TS (x ++ y)) := .mk fun A F s v₁ v₂ R _ q₁ q₂ Q E h => by
  obtain ⟨t, rfl⟩ := py_str q₁; obtain ⟨u, rfl⟩ := py_str q₂
  exact PyProof.Rows.add_str (fun _ _ => h _ _ (Kp.tok s _) (str_py _ _ _)) hsz
end
end Mine
end

section
open PySem PySem.W PySem.Calls PySem.Spec
set_option linter.unusedVariables false
namespace Mine

noncomputable def drop (x : Str) (σ : List (Str × Ty)) : List (Str × Ty) := σ.filter fun p => !(p.1 == x)
theorem mem_drop {x y : Str} {T : Ty} {σ : List (Str × Ty)} (h : (y, T) ∈ σ) (n : (y == x) = false) : (y, T) ∈ drop x σ := List.mem_filter.mpr ⟨h, by simp only [n]; rfl⟩
theorem sub_nil {σ : List (Str × Ty)} : ∀ p ∈ ([] : List (Str × Ty)), p ∈ σ := fun _ m => nomatch m
theorem sub_cons {a : Str × Ty} {τ σ : List (Str × Ty)} (h : a ∈ σ) (t : ∀ p ∈ τ, p ∈ σ) : ∀ p ∈ a :: τ, p ∈ σ := fun p m => (List.mem_cons.mp m).elim (fun e => e ▸ h) (t p)
theorem of_drop {x : Str} {σ : List (Str × Ty)} {p : Str × Ty} (h : p ∈ drop x σ) : p ∈ σ ∧ p.1 ≠ x := by
  obtain ⟨a, b⟩ := List.mem_filter.mp h
  exact ⟨a, fun e => by rw [e] at b; simp at b⟩

structure Sd (base : Heap) (W F : List Addr) (env : Env) (σ : List (Str × Ty)) (h : Heap) : Prop where
  fm : Fm base F env σ h
  ns : ∃ m, h.Ns env.locals m
  cel : ∀ x c, env.cells.lookup x = some c → ∃ v, h.IsCell c v
  inL : env.locals ∈ W
  nb : ∀ b ∈ W, base.get? b = none
  sub : ∀ b ∈ W, b ∈ F
  apart : ∀ x y c, c ∈ W → env.cells.lookup x = some c → env.cells.lookup y = some c → x = y
  nl : ∀ x c, env.cells.lookup x = some c → c ≠ env.locals

noncomputable def KF (W : List Addr) (s s' : Shared) : Prop := ∃ h' tk, s' = { s with heap := h', toks := tk } ∧ ∀ b o, s.heap.get? b = some o → ∃ o', h'.get? b = some o' ∧ (b ∉ W → o' = o)
theorem KF.of {W : List Addr} {s s' : Shared} (k : Kp s s') : KF W s s' := by
  obtain ⟨h, t, rfl, k⟩ := k
  exact ⟨h, t, rfl, fun b o e => ⟨o, k b o e, fun _ => rfl⟩⟩
theorem KF.trans {W : List Addr} {a b c : Shared} (x : KF W a b) (y : KF W b c) : KF W a c := by
  obtain ⟨_, _, rfl, k⟩ := x
  obtain ⟨_, _, rfl, k'⟩ := y
  exact ⟨_, _, rfl, fun b o e => let ⟨o', e', n⟩ := k b o e; let ⟨o'', e'', n'⟩ := k' b o' e'; ⟨o'', e'', fun m => (n' m).trans (n m)⟩⟩
theorem KF.le {W W' : List Addr} {a b : Shared} (x : KF W a b) (h : ∀ b ∈ W, b ∈ W') : KF W' a b := by
  obtain ⟨h', t, rfl, k⟩ := x
  exact ⟨h', t, rfl, fun b o e => let ⟨o', e', n⟩ := k b o e; ⟨o', e', fun m => n fun q => m (h b q)⟩⟩
theorem KF.not {W : List Addr} {s s' : Shared} (x : KF W s s') {b : Addr} {o : Obj} (e : s.heap.get? b = some o) (m : b ∉ W) : s'.heap.get? b = some o := by
  obtain ⟨h', t, rfl, k⟩ := x
  obtain ⟨o', e', n⟩ := k b o e
  rw [← n m]; exact e'
theorem KF.ex {W : List Addr} {s s' : Shared} (x : KF W s s') {b : Addr} {o : Obj} (e : s.heap.get? b = some o) : ∃ o', s'.heap.get? b = some o' := by
  obtain ⟨h', t, rfl, k⟩ := x
  obtain ⟨o', e', n⟩ := k b o e
  exact ⟨o', e'⟩
theorem KF.kp {W : List Addr} {s s' : Shared} (x : KF W s s') (h : ∀ b ∈ W, s.heap.get? b = none) : Kp s s' := by
  obtain ⟨h', t, rfl, k⟩ := x
  refine ⟨h', t, rfl, fun b o e => ?_⟩
  obtain ⟨o', e', n⟩ := k b o e
  rw [← n fun m => by rw [h b m] at e; cases e]; exact e'
/-- only one thing turns -/
theorem KF.but {W : List Addr} {s : Shared} {h' : Heap} {t : Nat} {a : Addr} (ha : a ∈ W) (hs : Heap.SameBut a s.heap h') {o : Obj} (he : h'.get? a = some o) : KF W s { s with heap := h', toks := t } :=
  ⟨h', t, rfl, fun b o' e => by
    by_cases q : b = a
    · exact ⟨o, by rw [q]; exact he, fun m => absurd (by rw [q]; exact ha) m⟩
    · exact ⟨o', (hs.2 b q).trans e, fun _ => rfl⟩⟩

theorem Sd.keeps {base : Heap} {W F : List Addr} {env : Env} {σ : List (Str × Ty)} {h h' : Heap} (S : Sd base W F env σ h) (k : Ext h h') : Sd base W F env σ h' :=
  ⟨S.fm.keeps k, let ⟨m, n⟩ := S.ns; ⟨m, n.keeps k⟩, fun x c e => let ⟨v, q⟩ := S.cel x c e; ⟨v, q.keeps k⟩, S.inL, S.nb, S.sub, S.apart, S.nl⟩
theorem Sd.less {base : Heap} {W F : List Addr} {env : Env} {σ τ : List (Str × Ty)} {h : Heap} (S : Sd base W F env σ h) (k : ∀ p ∈ τ, p ∈ σ) : Sd base W F env τ h :=
  ⟨S.fm.sub k, S.ns, S.cel, S.inL, S.nb, S.sub, S.apart, S.nl⟩
/-- a name that the frame itself holds -/
noncomputable def Own (W : List Addr) (env : Env) (x : Str) : Prop := env.kindOf x = some .local ∨ (env.kindOf x = some .cell ∧ ∃ c, env.cells.lookup x = some c ∧ c ∈ W)
/-- hidden things that are no part of the frame have turned -/
theorem Sd.other {base : Heap} {W F N : List Addr} {env : Env} {σ : List (Str × Ty)} {h h' : Heap} (S : Sd base W F env σ h) (k : ∀ b o, b ∉ N → h.get? b = some o → h'.get? b = some o) (hN : ∀ b ∈ N, b ∈ F) (hL : env.locals ∉ N)
    (hC : ∀ x c, env.cells.lookup x = some c → c ∉ N) (hb : ∀ b ∈ N, base.get? b = none) (ho : ∀ b ∈ N, ∃ o, h'.get? b = some o) : Sd base W F env σ h' := by
  obtain ⟨m, oL, es, ep, gL, rL⟩ := S.ns
  have eL := k _ _ hL gL
  refine ⟨⟨S.fm.kind, fun b o e => k b o (fun m => by rw [hb b m] at e; cases e) (S.fm.base b o e), fun b mF => ?_, fun p mp => ?_⟩, ⟨m, oL, es, ep, eL, rL⟩, fun x c e => ?_, S.inL, S.nb, S.sub, S.apart, S.nl⟩
  · by_cases q : b ∈ N
    · exact ho b q
    · obtain ⟨o, e⟩ := S.fm.old b mF
      exact ⟨o, k b o q e⟩
  · obtain ⟨v, q, l⟩ := S.fm.var p mp
    refine ⟨v, p.2.mono _ _ _ (hid_ext fun b o nm e => k b o (fun z => nm (hN b z)) e) q, ?_⟩
    rcases l with ⟨e, m', ⟨o1, e1, e2, g1, r1⟩, z⟩ | ⟨e, c, lk, o, g, d⟩
    · exact .inl ⟨e, m', ⟨o1, e1, e2, k _ _ hL g1, r1⟩, z⟩
    · exact .inr ⟨e, c, lk, o, k _ _ (hC _ _ lk) g, d⟩
  · obtain ⟨v, o, g, d⟩ := S.cel x c e
    exact ⟨v, o, k _ _ (hC _ _ e) g, d⟩

section
variable {M : Model} {A : Around} {base : Heap} {W F : List Addr} {env : Env} {σ : List (Str × Ty)} {s : Shared}

theorem Sd.store {x : Str} {T : Ty} {v : Value} (S : Sd base W F env σ s.heap) (q : T.P v (hid F s.heap)) (hk : Own W env x)
    (Q : Unit → Shared → Prop) (E : Value → Shared → Prop) (h : ∀ s', KF W s s' → Sd base W F env ((x, T) :: drop x σ) s'.heap → Q () s') : wpAny M A (storeName env x v) Q E s := by
  have up : ∀ (a : Addr) (h' : Heap), a ∈ W → Heap.SameBut a s.heap h' → Ext (hid F s.heap) (hid F h') := fun a h' ha hs =>
    hid_ext fun b o nm e => (hs.2 b fun z => nm (z ▸ S.sub a ha)).trans e
  have upb : ∀ (a : Addr) (h' : Heap), a ∈ W → Heap.SameBut a s.heap h' → Ext base h' := fun a h' ha hs b o e =>
    (hs.2 b fun z => by rw [z, S.nb a ha] at e; cases e).trans (S.fm.base b o e)
  have old : ∀ (a : Addr) (h' : Heap) (o' : Obj), a ∈ W → h'.get? a = some o' → Heap.SameBut a s.heap h' → ∀ b ∈ F, ∃ o, h'.get? b = some o := fun a h' o' ha he hs b m => by
    obtain ⟨o, e⟩ := S.fm.old b m
    by_cases z : b = a
    · exact ⟨o', by rw [z]; exact he⟩
    · exact ⟨o, (hs.2 b z).trans e⟩
  rcases hk with hl | ⟨hl, hc⟩
  · obtain ⟨m, n⟩ := S.ns
    refine wpAny_storeName_local hl n (fun h' n' hs => ?_) (by rw [S.fm.kind]; rfl)
    obtain ⟨o', _, _, he, _⟩ := id n'
    refine h _ (KF.but S.inL hs he) ⟨⟨S.fm.kind, upb _ _ S.inL hs, old _ _ _ S.inL he hs, fun p mp => ?_⟩, ⟨_, n'⟩, fun y c e => ?_, S.inL, S.nb, S.sub, S.apart, S.nl⟩
    · rcases List.mem_cons.mp mp with rfl | mp
      · exact ⟨v, T.mono _ _ _ (up _ _ S.inL hs) q, .inl ⟨hl, _, n', by simp⟩⟩
      · obtain ⟨mp, ne⟩ := of_drop mp
        obtain ⟨v', q', l'⟩ := S.fm.var p mp
        refine ⟨v', p.2.mono _ _ _ (up _ _ S.inL hs) q', ?_⟩
        rcases l' with ⟨e, m', n'', z⟩ | ⟨e, c, lk, z⟩
        · refine .inl ⟨e, _, n', ?_⟩
          have : m' = m := by
            obtain ⟨o1, es1, _, g1, d1, _, f1⟩ := n''
            obtain ⟨o2, es2, _, g2, d2, _, f2⟩ := n
            rw [g1] at g2; cases g2; rw [d1] at d2; cases d2
            funext y; rw [← f1, ← f2]
          subst this
          simpa [ne] using z
        · exact .inr ⟨e, c, lk, z.sameBut hs (S.nl _ _ lk)⟩
    · obtain ⟨v', z⟩ := S.cel y c e
      exact ⟨v', z.sameBut hs (S.nl _ _ e)⟩
  · obtain ⟨c, hc, cW⟩ := hc
    obtain ⟨v₀, hv₀⟩ := S.cel x c hc
    refine wpAny_storeName_cell S.fm.kind hl hc hv₀ fun h' n' hs => ?_
    obtain ⟨o', he, _⟩ := id n'
    obtain ⟨m, n⟩ := S.ns
    have nn := n.sameBut hs (Ne.symm (S.nl _ _ hc))
    refine h _ (KF.but (t := s.toks) cW hs he) ⟨⟨S.fm.kind, upb _ _ cW hs, old _ _ _ cW he hs, fun p mp => ?_⟩, ⟨_, nn⟩, fun y c' e => ?_, S.inL, S.nb, S.sub, S.apart, S.nl⟩
    · rcases List.mem_cons.mp mp with rfl | mp
      · exact ⟨v, T.mono _ _ _ (up _ _ cW hs) q, .inr ⟨.inl hl, c, hc, n'⟩⟩
      · obtain ⟨mp, ne⟩ := of_drop mp
        obtain ⟨v', q', l'⟩ := S.fm.var p mp
        refine ⟨v', p.2.mono _ _ _ (up _ _ cW hs) q', ?_⟩
        rcases l' with ⟨e, m', n'', z⟩ | ⟨e, c', lk, z⟩
        · exact .inl ⟨e, _, n''.sameBut hs (Ne.symm (S.nl _ _ hc)), z⟩
        · exact .inr ⟨e, c', lk, z.sameBut hs fun z => ne (S.apart _ _ _ cW (z ▸ lk) hc)⟩
    · by_cases z : c' = c
      · exact ⟨_, z ▸ n'⟩
      · obtain ⟨v', q'⟩ := S.cel y c' e
        exact ⟨v', q'.sameBut hs z⟩
end

/-- what a run may turn -/
structure Gd where
  R : Shared → Shared → Prop
  tr : ∀ a b c, R a b → R b c → R a c
noncomputable def Gd.Rel (G : Gd) (s s' : Shared) : Prop := G.R s s'
theorem Gd.Rel.trans {G : Gd} {a b c : Shared} (x : G.Rel a b) (y : G.Rel b c) : G.Rel a c := G.tr _ _ _ x y
noncomputable def Gd.of (V : List Addr) : Gd := ⟨KF V, fun _ _ _ => KF.trans⟩
structure Sub (W : List Addr) (G : Gd) : Prop where
  go : ∀ s s', KF W s s' → G.Rel s s'
theorem Sub.kp {W : List Addr} {G : Gd} (h : Sub W G) {s s' : Shared} (k : Kp s s') : G.Rel s s' := h.go _ _ (KF.of k)
theorem Sub.of {W V : List Addr} (h : ∀ b ∈ W, b ∈ V) : Sub W (Gd.of V) := ⟨fun _ _ k => k.le h⟩
theorem Sub.self {W : List Addr} : Sub W (Gd.of W) := ⟨fun _ _ k => k⟩

section
variable (prog : Program) (w : World)
/-- statements, and what they leave -/
structure Bx (A : Around) (base : Heap) (W : List Addr) (V : Gd) (F : List Addr) (env : Env) (σ : List (Str × Ty)) (ss : List Stmt) (R : Flow → Heap → Prop) : Prop where
  go : Sub W V → ∀ s, Sd base W F env σ s.heap → ∀ (Q : Flow → Shared → Prop) (E : Value → Shared → Prop), (∀ fl s', V.Rel s s' → R fl s'.heap → Q fl s') → wpAny (model prog w) A (execs ss env) Q E s
end

section
variable {prog : Program} {w : World} {A : Around} {base : Heap} {W : List Addr} {V : Gd} {F : List Addr} {env : Env} {σ : List (Str × Ty)} {rest : List Stmt} {R : Flow → Heap → Prop}

theorem Bx.nil (h : ∀ h', Sd base W F env σ h' → R .next h') : Bx prog w A base W V F env σ [] R := .mk fun hV s S Q E k =>
  wpAny_execs_nil (k _ _ (hV.kp (Kp.refl s)) (h _ S))
theorem Bx.brk {pos : Pos} (h : ∀ h', Sd base W F env σ h' → R .brk h') : Bx prog w A base W V F env σ (.Break pos :: rest) R := .mk fun hV s S Q E k =>
  wpAny_execs_cons (wpAny_Break (k _ _ (hV.kp (Kp.refl s)) (h _ S)))
theorem Bx.ret {e : Expr} {pos : Pos} {T : Ty} (he : Ev prog w A base F env σ e T) (h : ∀ v h', T.P v (hid F h') → R (.ret v) h') : Bx prog w A base W V F env σ (.Return (some e) pos :: rest) R := .mk fun hV s S Q E k =>
  wpAny_execs_cons (wpAny_Return_some (he.go s S.fm _ E fun v s' kp q => k _ _ (hV.kp kp) (h v _ q)))
theorem Bx.assign {x : Str} {p' pos : Pos} {e : Expr} {T : Ty} (he : Ev prog w A base F env σ e T) (hk : Own W env x)
    (hr : Bx prog w A base W V F env ((x, T) :: drop x σ) rest R) (hs : swapsWith e (some (.Name x p')) pos.line env = pure false := by rfl) :
    Bx prog w A base W V F env σ (.Assign [.Name x p'] e pos :: rest) R := .mk fun hV s S Q E k =>
  wpAny_execs_cons (wpAny_Assign_Name (he.go s S.fm _ E fun v s₁ kp q => (S.keeps kp.ext).store q hk _ E fun s₂ k₂ S₂ => hr.go hV s₂ S₂ Q E fun fl s₃ k₃ r => k fl s₃ ((hV.kp kp).trans ((hV.go _ _ k₂).trans k₃)) r) hs)

/-- what a branch leaves, where the rest goes on behind it -/
noncomputable def Th (prog : Program) (w : World) (A : Around) (base : Heap) (W : List Addr) (V : Gd) (F : List Addr) (env : Env) (rest : List Stmt) (R : Flow → Heap → Prop) : Flow → Heap → Prop := fun fl h => match fl with
  | .next => ∃ σ, Sd base W F env σ h ∧ Bx prog w A base W V F env σ rest R
  | fl => R fl h
theorem Th.run {s s' : Shared} {Q : Flow → Shared → Prop} {E : Value → Shared → Prop} (hV : Sub W V) (kf : V.Rel s s') (k : ∀ fl s', V.Rel s s' → R fl s'.heap → Q fl s') (fl : Flow) (r : Th prog w A base W V F env rest R fl s'.heap) :
    match fl with | .next => wpAny (model prog w) A (execs rest env) Q E s' | fl => Q fl s' := by
  cases fl with
  | next =>
    obtain ⟨σ, S, B⟩ := r
    exact B.go hV s' S Q E fun fl s'' k' r => k fl s'' (kf.trans k') r
  | _ => exact k _ _ kf r
theorem Bx.ite {t : Expr} {b : Bool} {body orelse : List Stmt} {pos : Pos} (ht : Tr prog w A base F env σ t b) (h₁ : b = true → Bx prog w A base W V F env σ body (Th prog w A base W V F env rest R))
    (h₀ : b = false → Bx prog w A base W V F env σ orelse (Th prog w A base W V F env rest R)) : Bx prog w A base W V F env σ (.If t body orelse pos :: rest) R := .mk fun hV s S Q E k => by
  refine wpAny_execs_cons (wpAny_If (ht.go s S.fm _ E fun s' kp => ?_))
  cases b with
  | true => exact (h₁ rfl).go hV s' (S.keeps kp.ext) _ E fun fl s'' k' r => (by
      have z := Th.run (E := E) hV ((hV.kp kp).trans k') k fl r
      cases fl <;> exact z)
  | false => exact (h₀ rfl).go hV s' (S.keeps kp.ext) _ E fun fl s'' k' r => (by
      have z := Th.run (E := E) hV ((hV.kp kp).trans k') k fl r
      cases fl <;> exact z)
theorem Bx.done (h : Bx prog w A base W V F env σ rest R) : Bx prog w A base W V F env σ [] (Th prog w A base W V F env rest R) := Bx.nil fun _ S => ⟨σ, S, h⟩
theorem Bx.doneLess {τ : List (Str × Ty)} (h : Bx prog w A base W V F env τ rest R) (s : ∀ p ∈ τ, p ∈ σ) : Bx prog w A base W V F env σ [] (Th prog w A base W V F env rest R) := Bx.nil fun _ S => ⟨τ, S.less s, h⟩

theorem Bx.mono {R' : Flow → Heap → Prop} {ss : List Stmt} (h : Bx prog w A base W V F env σ ss R) (hR : ∀ fl h, R fl h → R' fl h) : Bx prog w A base W V F env σ ss R' := .mk fun hV s S Q E k => h.go hV s S Q E fun fl s' k' r => k fl s' k' (hR _ _ r)
/-- what a branch leaves, the kinds behind it given -/
noncomputable def Jn (base : Heap) (W F : List Addr) (env : Env) (τ : List (Str × Ty)) (R : Flow → Heap → Prop) : Flow → Heap → Prop := fun fl h => match fl with
  | .next => Sd base W F env τ h
  | fl => R fl h
theorem Bx.iteJ (τ : List (Str × Ty)) {t : Expr} {b : Bool} {body orelse : List Stmt} {pos : Pos} (ht : Tr prog w A base F env σ t b) (h₁ : b = true → Bx prog w A base W V F env σ body (Jn base W F env τ R))
    (h₀ : b = false → Bx prog w A base W V F env σ orelse (Jn base W F env τ R)) (hr : Bx prog w A base W V F env τ rest R) : Bx prog w A base W V F env σ (.If t body orelse pos :: rest) R := by
  have up : ∀ fl h, Jn base W F env τ R fl h → Th prog w A base W V F env rest R fl h := fun fl h r => by
    cases fl with
    | next => exact ⟨τ, r, hr⟩
    | _ => exact r
  exact Bx.ite ht (fun e => (h₁ e).mono up) fun e => (h₀ e).mono up
theorem Bx.join {τ : List (Str × Ty)} (s : ∀ p ∈ τ, p ∈ σ) : Bx prog w A base W V F env σ [] (Jn base W F env τ R) := Bx.nil fun _ S => S.less s
theorem Bx.aug {x : Str} {op : Operator} {p' pos : Pos} {e : Expr} {T₁ T₂ T : Ty} (R1 : Room 1 A) (hm : (x, T₁) ∈ σ) (he : Ev prog w A base F env σ e T₂)
    (ho : ∀ A F s v₁ v₂, Room 1 A → (∀ b ∈ F, ∃ o, s.heap.get? b = some o) → T₁.P v₁ (hid F s.heap) → T₂.P v₂ (hid F s.heap) → ∀ (Q E : Value → Shared → Prop),
      (∀ v s', Kp s s' → T.P v (hid F s'.heap) → Q v s') → wpAny (model prog w) A (inplaceOp op v₁ v₂) Q E s)
    (hk : Own W env x) (hr : Bx prog w A base W V F env ((x, T) :: drop x σ) rest R) (hn : (x == ("__classdict__" : Str)) = false := by decide +kernel) :
    Bx prog w A base W V F env σ (.AugAssign (.Name x p') op e pos :: rest) R := .mk fun hV s S Q E k => by
  refine wpAny_execs_cons (wpAny_AugAssign_Name ?_)
  obtain ⟨v, q, l⟩ := S.fm.var _ hm
  have go : wpAny (model prog w) A (eval e env) (fun v₂ s₂ => wpAny (model prog w) A (inplaceOp op v v₂)
      (fun r s₃ => wpAny (model prog w) A (storeName env x r) (fun _ s₄ => wpAny (model prog w) A (execs rest env) Q E s₄) E s₃) E s₂) E s :=
    he.go s S.fm _ E fun v₂ s₂ k₂ q₂ => ho A F s₂ v v₂ R1 (S.fm.keeps k₂.ext).old (T₁.mono _ _ _ (hid_ext fun b o _ e => k₂.ext b o e) q) q₂ _ E fun r s₃ k₃ q₃ =>
      (S.keeps (k₂.trans k₃).ext).store q₃ hk _ E fun s₄ k₄ S₄ => hr.go hV s₄ S₄ Q E fun fl s₅ k₅ r => k fl s₅ ((hV.kp (k₂.trans k₃)).trans ((hV.go _ _ k₄).trans k₅)) r
  rcases l with ⟨e', mm, n, qq⟩ | ⟨e', c, lk, qq⟩
  · exact wpAny_loadName_local S.fm.kind e' n qq go
  · rcases e' with e' | e'
    · exact wpAny_loadName_cell S.fm.kind e' lk qq go
    · exact wpAny_loadName_free S.fm.kind e' lk qq go hn

/-- an iterator that is walked turn by turn, each thing handed to tg -/
structure Wks (prog : Program) (w : World) (A : Around) (tg : Expr) (I : Addr) (fp wr : List Addr) (n : Nat) (P : Nat → Value → Heap → Heap → Prop) (St : Nat → Heap → Prop) : Prop where
  sub : ∀ b ∈ wr, b ∈ fp
  frame : ∀ i h h', St i h → (∀ b ∈ fp, ∀ o, h.get? b = some o → h'.get? b = some o) → St i h'
  item : ∀ i (s : Shared) (Q : Value → Shared → Prop) (R : Option Value → Shared → Prop) (E : Value → Shared → Prop), (∀ v s₁, wpAny (model prog w) A (letOwnedTupleGo tg (.ref I) v) (fun _ s₂ => Q v s₂) E s₁ → R (some v) s₁) → i < n → St i s.heap →
    (∀ v h' tk, P i v s.heap h' → St (i + 1) h' → (∀ b o, b ∉ wr → s.heap.get? b = some o → h'.get? b = some o) → Q v { s with heap := h', toks := tk }) →
    wpAny (model prog w) A (pyNext (.ref I)) R E s
  done : ∀ (s : Shared) (Q : Option Value → Shared → Prop) (E : Value → Shared → Prop), St n s.heap →
    (∀ h' tk, (∀ b o, b ∉ wr → s.heap.get? b = some o → h'.get? b = some o) → Q none { s with heap := h', toks := tk }) → wpAny (model prog w) A (pyNext (.ref I)) Q E s
  self : ∀ i (s : Shared) (Q : Value → Shared → Prop) (E : Value → Shared → Prop), St i s.heap → Q (.ref I) s → wpAny (model prog w) A (pyIter (.ref I)) Q E s
theorem Wks.of {I : Addr} {fp wr : List Addr} {n : Nat} {P : Nat → Value → Prop} {St : Nat → Heap → Prop} {x : Str} {px : Pos} (W : Walks prog w A I fp wr n P St) : Wks prog w A (.Name x px) I fp wr n (fun i v _ _ => P i v) St :=
  ⟨W.sub, W.frame, fun i s Q R E hR hi st hQ => W.item i s _ E hi st fun v h' tk hP st' hk => hR _ _ (wpAny_pure (hQ v h' tk hP st' hk)), W.done, W.self⟩
/-- an iterable: evaluated and asked for its iterator -/
structure It (prog : Program) (w : World) (A : Around) (base : Heap) (F : List Addr) (env : Env) (σ : List (Str × Ty)) (tg iter : Expr) (n : Nat) (τ : Nat → Ty) : Prop where
  go : ∀ s, Fm base F env σ s.heap → ∀ (Q E : Value → Shared → Prop),
    (∀ s' I fp wr P St, Kp s s' → Wks prog w A tg I fp wr n P St → (∀ b ∈ wr, s.heap.get? b = none ∧ ∃ o, s'.heap.get? b = some o) → (∀ b ∈ fp, b ∉ F ∧ ∃ o, s'.heap.get? b = some o) → St 0 s'.heap → (∀ i h, St i h → ∀ b ∈ wr, ∃ o, h.get? b = some o) →
      (∀ F' i v h h', i < n → P i v h h' → (∀ b ∈ F', ∃ o, h.get? b = some o) → Ext (hid (wr ++ F) s'.heap) (hid F' h') → (τ i).P v (hid F' h')) → Q (.ref I) s') →
    wpAny (model prog w) A (eval iter env) (fun x s₁ => wpAny (model prog w) A (pyIter x) Q E s₁) E s
/-- a value is bound to a target -/
structure As (prog : Program) (w : World) (A : Around) (base : Heap) (W F : List Addr) (env : Env) (t : Expr) (T : Ty) (σ σ' : List (Str × Ty)) : Prop where
  go : ∀ s v, Sd base W F env σ s.heap → T.P v (hid F s.heap) → ∀ (Q : Unit → Shared → Prop) (E : Value → Shared → Prop), (∀ s', KF W s s' → Sd base W F env σ' s'.heap → Q () s') → wpAny (model prog w) A (PySem.assign t env v) Q E s
theorem As.name {x : Str} {px : Pos} {T : Ty} (hk : Own W env x) : As prog w A base W F env (.Name x px) T σ ((x, T) :: drop x σ) := .mk fun s v S q Q E k =>
  wpAny_assign_Name (S.store q hk _ _ fun s₂ k₂ S₂ => k s₂ k₂ S₂)
theorem As.less {t : Expr} {T : Ty} {σ₁ σ₂ σ' : List (Str × Ty)} (h : As prog w A base W F env t T σ₁ σ₂) (h1 : ∀ p ∈ σ₁, p ∈ σ) (h2 : ∀ p ∈ σ', p ∈ σ₂) : As prog w A base W F env t T σ σ' := .mk fun s v S q Q E k =>
  h.go s v (S.less h1) q Q E fun s' k' S' => k s' k' (S'.less h2)

/-- a for loop: the kinds at each turn -/
theorem Bx.for {x : Str} {px pos : Pos} {iter : Expr} {body : List Stmt} {n : Nat} {τ : Nat → Ty} (σs : Nat → List (Str × Ty)) (hi : It prog w A base F env σ (.Name x px) iter n τ) (h0 : ∀ p ∈ σs 0, p ∈ σ)
    (hk : env.kindOf x = some .local)
    (hb : ∀ i, i < n → ∀ wr, Bx prog w A base W (Gd.of W) (wr ++ F) env ((x, τ i) :: drop x (σs i)) body (fun fl h => match fl with
      | .next => Sd base W (wr ++ F) env (σs (i + 1)) h
      | .cont => Sd base W (wr ++ F) env (σs (i + 1)) h
      | .brk => ∃ σ', Sd base W (wr ++ F) env σ' h ∧ Bx prog w A base W V F env σ' rest R
      | .ret v => R (.ret v) h))
    (hr : Bx prog w A base W V F env (σs n) rest R)
    (hs : ∀ x, foldedSetIterable iter env x = pure x := by intro _; rfl) :
    Bx prog w A base W V F env σ (.For (.Name x px) iter body [] pos :: rest) R := .mk fun hV s S Q E k => by
  refine wpAny_execs_cons (wpAny_For (hi.go s S.fm _ E fun s' I fp wr P St kp Wk hnew hfp hst hob hP => ?_) hs)
  have S' := S.keeps kp.ext
  have nbw : ∀ b ∈ wr, base.get? b = none := fun b m => by
    cases q : base.get? b with
    | none => rfl
    | some o => have := S.fm.base b o q; rw [(hnew b m).1] at this; cases this
  have hid0 : ∀ p ∈ σs 0, ∀ v, p.2.P v (hid F s.heap) → p.2.P v (hid (wr ++ F) s'.heap) := fun p _ v q => p.2.mono _ _ _ (hid_ext' fun b o nm e => ⟨kp.ext b o e, fun m => (List.mem_append.mp m).elim (fun m => by rw [(hnew b m).1] at e; cases e) nm⟩) q
  have S0 : Sd base W (wr ++ F) env (σs 0) s'.heap := by
    refine ⟨⟨S.fm.kind, S'.fm.base, fun b m => (List.mem_append.mp m).elim (fun m => (hnew b m).2) (S'.fm.old b), fun p m => ?_⟩, S'.ns, S'.cel, S.inL, S.nb, fun b m => List.mem_append_right _ (S.sub b m), S.apart, S.nl⟩
    obtain ⟨v, q, l⟩ := S.fm.var p (h0 p m)
    exact ⟨v, hid0 p m v q, l.keeps kp.ext⟩
  have fpW : ∀ b ∈ fp, b ∉ W := fun b m q => (hfp b m).1 (S.sub b q)
  have Lw : env.locals ∉ wr := fun m => by
    obtain ⟨_, _, _, _, g, _⟩ := S.ns
    rw [(hnew _ m).1] at g; cases g
  have Cw : ∀ x c, env.cells.lookup x = some c → c ∉ wr := fun x c e m => by
    obtain ⟨_, _, g, _⟩ := S.cel x c e
    rw [(hnew _ m).1] at g; cases g
  have out : ∀ s₂, KF (wr ++ W) s' s₂ → KF W s s₂ := fun s₂ kf => by
    obtain ⟨h', t, e, kk⟩ := kf
    obtain ⟨h₁, t₁, rfl, k₁⟩ := kp
    refine ⟨h', t, e, fun b o e' => ?_⟩
    obtain ⟨o', g, nn⟩ := kk b o (k₁ b o e')
    exact ⟨o', g, fun m => nn fun m' => (List.mem_append.mp m').elim (fun m' => by rw [(hnew b m').1] at e'; cases e') m⟩
  have unh : ∀ {σ' : List (Str × Ty)} {h : Heap}, Sd base W (wr ++ F) env σ' h → Sd base W F env σ' h := fun Z =>
    ⟨⟨Z.fm.kind, Z.fm.base, fun b m => Z.fm.old b (List.mem_append_right _ m), fun p m => let ⟨v, q, l⟩ := Z.fm.var p m; ⟨v, p.2.mono _ _ _ (hid_le fun b m => List.mem_append_right _ m) q, l⟩⟩, Z.ns, Z.cel, Z.inL, Z.nb, S.sub, Z.apart, Z.nl⟩
  have go : ∀ {σ' : List (Str × Ty)} {s₂ : Shared}, KF (wr ++ W) s' s₂ → Sd base W F env σ' s₂.heap → Bx prog w A base W V F env σ' rest R → wpAny (model prog w) A (execs rest env) Q E s₂ := fun kf Z B =>
    B.go hV _ Z Q E fun fl s₃ k₃ r => k fl s₃ ((hV.go _ _ (out _ kf)).trans k₃) r
  have leW : ∀ {a b : Shared}, KF W a b → KF (wr ++ W) a b := fun z => z.le fun b m => List.mem_append_right _ m
  refine codeAny_forLoop_any (fun k' s₁ => ∃ i, i ≤ n ∧ k' = n - i ∧ KF (wr ++ W) s' s₁ ∧ St i s₁.heap ∧ Sd base W (wr ++ F) env (σs i) s₁.heap) ?_ n ⟨0, Nat.zero_le _, rfl, KF.of (Kp.refl _), hst, S0⟩
  rintro k' s₁ ⟨i, hin, rfl, kf, sti, Si⟩
  by_cases hlt : i < n
  · refine Wk.item i s₁ _ _ _ (fun v s₂ z => z) hlt sti fun v h₁ tk hPv st₁ hk₁ => ?_
    have S₁ : Sd base W (wr ++ F) env (σs i) h₁ := Si.other hk₁ (fun b m => List.mem_append_left _ m) Lw Cw nbw (hob _ _ st₁)
    have kf₁ : KF (wr ++ W) s₁ { s₁ with heap := h₁, toks := tk } := ⟨h₁, tk, rfl, fun b o e => by
      by_cases m : b ∈ wr
      · obtain ⟨o', e'⟩ := hob _ _ st₁ b m
        exact ⟨o', e', fun nm => absurd (List.mem_append_left _ m) nm⟩
      · exact ⟨o, hk₁ b o m e, fun _ => rfl⟩⟩
    have kfa := kf.trans kf₁
    have hv : (τ i).P v (hid (wr ++ F) h₁) := hP _ i v _ _ hlt hPv Si.fm.old (hid_ext' fun b o nm e => ⟨kfa.not e fun m => nm ((List.mem_append.mp m).elim (fun m => List.mem_append_left _ m) fun m => List.mem_append_right _ (S.sub b m)), nm⟩)
    refine wpAny_assign_Name (S₁.store (s := { s₁ with heap := h₁, toks := tk }) hv (.inl hk) _ _ fun s₂ k₂ S₂ => ?_)
    refine (hb i hlt wr).go Sub.self s₂ S₂ _ _ fun fl s₃ k₃ r => ?_
    have kfb := kfa.trans (leW (k₂.trans k₃))
    have next : Sd base W (wr ++ F) env (σs (i + 1)) s₃.heap → ∃ m, m < n - i ∧ ∃ j, j ≤ n ∧ m = n - j ∧ KF (wr ++ W) s' s₃ ∧ St j s₃.heap ∧ Sd base W (wr ++ F) env (σs j) s₃.heap := fun S₃ =>
      ⟨n - (i + 1), by omega, i + 1, hlt, rfl, kfb, Wk.frame _ _ _ st₁ fun b m o e => (k₂.trans k₃).not e (fpW b m), S₃⟩
    cases fl with
    | next => exact next r
    | cont => exact next r
    | brk =>
      obtain ⟨σ', S₃, B⟩ := r
      exact go kfb (unh S₃) B
    | ret v => exact k _ _ (hV.go _ _ (out _ kfb)) r
  · have : i = n := by omega
    subst this
    refine Wk.done s₁ _ _ sti fun h₁ tk hk₁ => wpAny_execs_nil ?_
    have kf₁ : KF W s { s₁ with heap := h₁, toks := tk } := by
      obtain ⟨h', t', e, kk⟩ := out _ kf
      subst e
      refine ⟨h₁, tk, rfl, fun b o e' => ?_⟩
      obtain ⟨o', g, nn⟩ := kk b o e'
      exact ⟨o', hk₁ b o' (fun m => by rw [(hnew b m).1] at e'; cases e') g, nn⟩
    have Fw : ∀ b ∈ F, b ∉ wr := fun b m m' => by
      obtain ⟨o, e⟩ := S.fm.old b m
      rw [(hnew b m').1] at e; cases e
    obtain ⟨m, oL, es, ep, gL, rL⟩ := Si.ns
    have Sn : Sd base W F env (σs i) h₁ := by
      refine ⟨⟨Si.fm.kind, fun b o e => hk₁ b o (fun m => by rw [nbw b m] at e; cases e) (Si.fm.base b o e), fun b mF => ?_, fun p mp => ?_⟩, ⟨m, oL, es, ep, hk₁ _ _ Lw gL, rL⟩, fun x c e => ?_, S.inL, S.nb, S.sub, S.apart, S.nl⟩
      · obtain ⟨o, e⟩ := Si.fm.old b (List.mem_append_right _ mF)
        exact ⟨o, hk₁ b o (Fw b mF) e⟩
      · obtain ⟨v, q, l⟩ := Si.fm.var p mp
        refine ⟨v, p.2.mono _ _ _ (hid_ext' fun b o nm e => ⟨hk₁ b o (fun z => nm (List.mem_append_left _ z)) e, fun z => nm (List.mem_append_right _ z)⟩) q, ?_⟩
        rcases l with ⟨e, m', ⟨o1, e1, e2, g1, r1⟩, z⟩ | ⟨e, c, lk, o, g, d⟩
        · exact .inl ⟨e, m', ⟨o1, e1, e2, hk₁ _ _ Lw g1, r1⟩, z⟩
        · exact .inr ⟨e, c, lk, o, hk₁ _ _ (Cw _ _ lk) g, d⟩
      · obtain ⟨v, o, g, d⟩ := Si.cel x c e
        exact ⟨v, o, hk₁ _ _ (Cw _ _ e) g, d⟩
    exact hr.go hV _ Sn Q E fun fl s₃ k₃ r => k fl s₃ ((hV.go _ _ kf₁).trans k₃) r
end
end Mine
end

section
open PySem PySem.W PySem.Calls PySem.Spec
set_option linter.unusedVariables false
namespace Mine

inductive AllT (h : Heap) : List Value → List Ty → Prop
  | nil : AllT h [] []
  | cons {v vs T Ts} : T.P v h → AllT h vs Ts → AllT h (v :: vs) (T :: Ts)
theorem AllT.keeps {h h' : Heap} (hk : Ext h h') : ∀ {vs : List Value} {Ts : List Ty}, AllT h vs Ts → AllT h' vs Ts
  | _, _, .nil => .nil
  | _, _, .cons r rs => .cons (Ty.mono _ _ _ _ hk r) (rs.keeps hk)

section
variable (prog : Program) (w : World)
/-- a callable: on things of these kinds it gives a thing of that kind -/
structure Fn (n : Nat) (base : Heap) (f : Value) (Ts : List Ty) (T : Ty) : Prop where
  go : ∀ A F s vs, Room n A → Ext base s.heap → (∀ b ∈ F, ∃ o, s.heap.get? b = some o) → AllT (hid F s.heap) vs Ts → ∀ (Q E : Value → Shared → Prop),
    (∀ v s', Kp s s' → T.P v (hid F s'.heap) → Q v s') → wpAny (model prog w) A (call f vs) Q E s
/-- arguments, one by one -/
structure Evs (A : Around) (base : Heap) (F : List Addr) (env : Env) (σ : List (Str × Ty)) (pos : Pos) (es : List Expr) (Ts : List Ty) : Prop where
  go : ∀ s, Fm base F env σ s.heap → ∀ (Q : List Value → Shared → Prop) (E : Value → Shared → Prop), (∀ vs s', Kp s s' → AllT (hid F s'.heap) vs Ts → Q vs s') → wpAny (model prog w) A (spliced (backTo pos (starEach es env))) Q E s
/-- it is called as itself -/
structure Cal (base : Heap) (f : Value) : Prop where
  go : ∀ h, Ext base h → ∃ k, (k = Keeper.frame ∨ k = Keeper.machine ∨ k = Keeper.boundFrame) ∧ Looks (model prog w) h (keeperOf f) k
end
/-- a name of the module's, or a built-in one -/
structure Gn (base : Heap) (x : Str) (f : Value) : Prop where
  go : ∃ mg, base.Ns mainGlobals mg ∧ (mg x = some f ∨ (mg x = none ∧ ∃ mb, base.Ns builtinsNs mb ∧ mb x = some f))

section
variable {prog : Program} {w : World} {A : Around} {base : Heap} {F : List Addr} {env : Env} {σ : List (Str × Ty)}

theorem Evs.nil {pos : Pos} : Evs prog w A base F env σ pos [] [] := .mk fun s f Q E h => spliced_nil (h _ _ (Kp.refl s) .nil)
theorem Evs.cons {pos : Pos} {e : Expr} {es : List Expr} {T : Ty} {Ts : List Ty} (he : Ev prog w A base F env σ e T) (hs : Evs prog w A base F env σ pos es Ts)
    (hse : starEach (e :: es) env = (false, eval e env) :: starEach es env := by rfl) : Evs prog w A base F env σ pos (e :: es) (T :: Ts) := .mk fun s f Q E h => by
  rw [hse]
  show wpAny _ _ (spliced ((false, eval e env) :: backTo pos (starEach es env))) _ _ _
  exact spliced_cons (he.go s f _ E fun v s₁ k₁ q₁ => hs.go s₁ (f.keeps k₁.ext) _ E fun vs s₂ k₂ q₂ => h _ _ (k₁.trans k₂) (.cons (T.mono _ _ _ (hid_ext fun b o _ e => k₂.ext b o e) q₁) q₂))

theorem Cal.builtin {id : String} : Cal prog w base (.builtin id) := .mk fun h _ => ⟨.machine, .inr (.inl rfl), Looks.of_pure rfl⟩
theorem Cal.type {id : String} : Cal prog w base (.type id) := .mk fun h _ => ⟨.machine, .inr (.inl rfl), Looks.of_pure rfl⟩
theorem Cal.fn {a : Addr} {o : Obj} {fd : FuncData} (ho : base.get? a = some o) (hd : o.data = .func fd) : Cal prog w base (.ref a) := .mk fun h k =>
  ⟨.frame, .inl rfl, by
    unfold keeperOf
    refine (Looks.ld (part := none) (k _ _ ho)).andThen ?_
    rw [hd]
    exact .now⟩

theorem callTail0 {pos : Pos} {f : Value} {first : List Value} {s : Shared} {Q E : Value → Shared → Prop} (hc : Cal prog w base f) (hb : Ext base s.heap)
    (h : wpAny (model prog w) A (PySem.call f (first ++ [])) Q E s) : wpAny (model prog w) A (callWith pos f first (backTo pos (starEach [] env)) []) Q E s :=
  callWith_of (P := fun h => Ext base h) rfl hc.go (evalArgs_none ⟨hb, h⟩)
theorem callTail {pos : Pos} {f : Value} {first : List Value} {e : Expr} {args : List Expr} {Ts : List Ty} {s : Shared} {Q E : Value → Shared → Prop} (hc : Cal prog w base f) (fm : Fm base F env σ s.heap) (ha : Evs prog w A base F env σ pos (e :: args) Ts)
    (hpl : (backTo pos (starEach (e :: args) env)).any (·.1) = false) (hse : starEach (e :: args) env = (false, eval e env) :: starEach args env)
    (h : ∀ vs s', Kp s s' → AllT (hid F s'.heap) vs Ts → wpAny (model prog w) A (PySem.call f (first ++ vs)) Q E s') : wpAny (model prog w) A (callWith pos f first (backTo pos (starEach (e :: args) env)) []) Q E s := by
  refine callWith_of (P := fun h => Ext base h) (by rw [hpl]; rfl) hc.go ?_
  have := ha.go s fm (fun vs s' => Ext base s'.heap ∧ wpAny (model prog w) A (PySem.call f (first ++ vs)) Q E s') E fun vs s' k q => ⟨fun b o e => k.ext b o (fm.base b o e), h vs s' k q⟩
  rw [hse] at this ⊢
  exact evalArgs_plain this

/-- a name of the module's block or a built-in name -/
theorem Ev.gname {x : Str} {pos : Pos} {f : Value} (hg : Gn base x f) (hx : env.kindOf x = some .globalImplicit) (h1 : env.globals = mainGlobals) (h2 : env.builtins = builtinsNs) {s : Shared} (fm : Fm base F env σ s.heap) {Q E : Value → Shared → Prop} (h : Q f s)
    (hd : (x == ("__debug__" : Str)) = false := by decide +kernel) : wpAny (model prog w) A (eval (.Name x pos) env) Q E s := by
  obtain ⟨mg, n, q⟩ := hg.go
  refine Name_function_global fm.kind hx ?_ hd
  rcases q with q | ⟨q, mb, nb, qb⟩
  · exact loadGlobal_global (env := env) (by rw [h1]; exact n.keeps fm.base) q h
  · exact loadGlobal_builtin (env := env) (by rw [h1]; exact n.keeps fm.base) q (by rw [h2]; exact nb.keeps fm.base) qb h

theorem Ev.call {x : Str} {p pos : Pos} {f : Value} {e : Expr} {args : List Expr} {Ts : List Ty} {T : Ty} {n : Nat} (R : Room n A) (hF : Fn prog w n base f Ts T) (hg : Gn base x f) (hc : Cal prog w base f) (ha : Evs prog w A base F env σ pos (e :: args) Ts)
    (hx : env.kindOf x = some .globalImplicit) (h1 : env.globals = mainGlobals) (h2 : env.builtins = builtinsNs)
    (hpl : (backTo pos (starEach (e :: args) env)).any (·.1) = false := by rfl) (hse : starEach (e :: args) env = (false, eval e env) :: starEach args env := by rfl) (hd : (x == ("__debug__" : Str)) = false := by decide +kernel) :
    Ev prog w A base F env σ (.Call (.Name x p) (e :: args) [] pos) T := .mk fun s f Q E h =>
  wpAny_Call_NameR (Ev.gname hg hx h1 h2 f (callTail hc f ha hpl hse fun vs s' k q => hF.go A F s' vs R (f.keeps k.ext).base (f.keeps k.ext).old q Q E fun v s'' k' q' => h v s'' (k.trans k') q') hd)

/-- a method of a built-in kind: the object is handed first -/
structure Md (F : List Addr) (T₀ : Ty) (name : Str) (id : String) : Prop where
  a : ∀ v (s : Shared), T₀.P v (hid F s.heap) → ∃ T, PlainAttrs T ∧ Slot T name id ∧ s.TypeIs v T ∧ (∀ a, v = .ref a → ∃ ob, s.heap.get? a = some ob ∧ ob.dict = none)
  b : typeOf (.builtin id) = pure (.type "method_descriptor")

theorem Ev.meth {o : Expr} {name : Str} {apos pos : Pos} {id : String} {e : Expr} {args : List Expr} {T₀ T : Ty} {Ts : List Ty} {n : Nat} (R : Room n A) (ho : Ev prog w A base F env σ o T₀) (ha : Evs prog w A base F env σ pos (e :: args) Ts)
    (hM : Md F T₀ name id) (hF : Fn prog w n base (.builtin id) (T₀ :: Ts) T)
    (hbase : attributeBase o name env (eval o env) = eval o env := by rfl) (hline : (apos.endLine == pos.line) = true := by rfl)
    (hfew : ((backTo pos (starEach (e :: args) env)).all (fun x => !x.1) && (backToKw pos (keywordEach [] env)).all (fun x => x.1.isSome)
      && decide ((e :: args).length + ([] : List Keyword).length + (if ([] : List Keyword).isEmpty then 0 else 1) < 30)) = true := by rfl)
    (hpl : (backTo pos (starEach (e :: args) env)).any (·.1) = false := by rfl) (hse : starEach (e :: args) env = (false, eval e env) :: starEach args env := by rfl) :
    Ev prog w A base F env σ (.Call (.Attribute o name apos) (e :: args) [] pos) T := .mk fun s f Q E h =>
  wpAny_Call_method_late hbase hfew hline rfl (ho.go s f _ E fun v s₁ k₁ q₁ => by
    obtain ⟨T', pa, sl, ti, hd⟩ := hM.a v s₁ q₁
    refine ⟨T', id, pa, sl, hM.b, ti, hd, callTail (first := [v]) (Ts := Ts) Cal.builtin (f.keeps k₁.ext) ha hpl hse fun vs s' k q => ?_⟩
    have f' := f.keeps (k₁.trans k).ext
    exact hF.go A F s' (v :: vs) R f'.base f'.old (.cons (T₀.mono _ _ _ (hid_ext fun b o _ e => k.ext b o e) q₁) q) Q E fun v s'' k' q' => h v s'' ((k₁.trans k).trans k') q')
theorem Ev.meth0 {o : Expr} {name : Str} {apos pos : Pos} {id : String} {T₀ T : Ty} {n : Nat} (R : Room n A) (ho : Ev prog w A base F env σ o T₀) (hM : Md F T₀ name id) (hF : Fn prog w n base (.builtin id) [T₀] T)
    (hbase : attributeBase o name env (eval o env) = eval o env := by rfl) (hline : (apos.endLine == pos.line) = true := by rfl) :
    Ev prog w A base F env σ (.Call (.Attribute o name apos) [] [] pos) T := .mk fun s f Q E h =>
  wpAny_Call_method_late (args := []) hbase rfl hline rfl (ho.go s f _ E fun v s₁ k₁ q₁ => by
    obtain ⟨T', pa, sl, ti, hd⟩ := hM.a v s₁ q₁
    have f' := f.keeps k₁.ext
    exact ⟨T', id, pa, sl, hM.b, ti, hd, callTail0 (base := base) (first := [v]) Cal.builtin f'.base (hF.go A F s₁ [v] R f'.base f'.old (.cons q₁ .nil) Q E fun v s'' k' q' => h v s'' (k₁.trans k') q')⟩)

theorem AllT.length {h : Heap} : ∀ {vs : List Value} {Ts : List Ty}, AllT h vs Ts → vs.length = Ts.length
  | _, _, .nil => rfl
  | _, _, .cons _ r => by simp [r.length]
theorem bindL_not {k : Str → Option NameKind} {x : Str} : ∀ (bs : List (Str × Value)) (m : Str → Option Value), x ∉ bs.map (·.1) → bindL k bs m x = m x
  | [], _, _ => rfl
  | (n, v) :: r, m, h => by
    have h' : x ≠ n ∧ x ∉ r.map (·.1) := by simpa using h
    rw [bindL, bindL_not r _ h'.2]
    split
    · simp [h'.1]
    · rfl
theorem bindC_not {k : Str → Option NameKind} {x : Str} : ∀ (bs : List (Str × Value)) (m : Str → Option Value), x ∉ bs.map (·.1) → bindC k bs m x = m x
  | [], _, _ => rfl
  | (n, v) :: r, m, h => by
    have h' : x ≠ n ∧ x ∉ r.map (·.1) := by simpa using h
    rw [bindC, bindC_not r _ h'.2]
    split
    · rfl
    · simp [h'.1]
theorem bindL_of {k : Str → Option NameKind} {x : Str} {v : Value} (hk : k x = some .local) : ∀ (bs : List (Str × Value)) (m : Str → Option Value), (bs.map (·.1)).Nodup → (x, v) ∈ bs → bindL k bs m x = some v
  | (n, u) :: r, m, nd, h => by
    have nd' := List.nodup_cons.mp nd
    rcases List.mem_cons.mp h with e | h
    · cases e
      rw [bindL, bindL_not r _ nd'.1, if_pos hk]; simp
    · rw [bindL]; exact bindL_of hk r _ nd'.2 h
theorem bindC_of {k : Str → Option NameKind} {x : Str} {v : Value} (hk : k x ≠ some .local) : ∀ (bs : List (Str × Value)) (m : Str → Option Value), (bs.map (·.1)).Nodup → (x, v) ∈ bs → bindC k bs m x = some v
  | (n, u) :: r, m, nd, h => by
    have nd' := List.nodup_cons.mp nd
    rcases List.mem_cons.mp h with e | h
    · cases e
      rw [bindC, bindC_not r _ nd'.1, if_neg hk]; simp
    · rw [bindC]; exact bindC_of hk r _ nd'.2 h
theorem AllT.zip {h : Heap} : ∀ {vs : List Value} {Ts : List Ty} {names : List Str} {x : Str} {T : Ty}, AllT h vs Ts → (x, T) ∈ names.zip Ts → ∃ v, (x, v) ∈ names.zip vs ∧ T.P v h
  | _, _, [], _, _, _, m => by simp at m
  | _, _, _ :: _, _, _, .nil, m => by simp at m
  | _, _, n :: ns, x, T, .cons (v := v) r rs, m => by
    rcases List.mem_cons.mp m with e | m
    · cases e; exact ⟨v, .head _, r⟩
    · obtain ⟨v', m', q⟩ := rs.zip m
      exact ⟨v', .tail _ m', q⟩
theorem lookup_of_mem {α : Type} : ∀ {l : List (Str × α)} {n : Str} {c : α}, (l.Pairwise fun x y => x.1 ≠ y.1) → (n, c) ∈ l → l.lookup n = some c
  | (k, v) :: r, n, c, hp, h => by
    obtain ⟨h1, h2⟩ := List.pairwise_cons.mp hp
    rw [List.lookup_cons]
    rcases List.mem_cons.mp h with e | h
    · cases e; simp
    · have ne : n ≠ k := fun e => h1 _ h e.symm
      have : (n == k) = false := beq_eq_false_iff_ne.mpr ne
      rw [this]; exact lookup_of_mem h2 h

/-- what a def's frame turns: its names and its cells -/
noncomputable def foot (fd : FuncData) (L : Addr) : List Addr := L :: (cellsFrom (L + 1) fd.scope.names []).map (·.2)

/-- the room and the frames as a def is entered -/
theorem sd_enter {a : Addr} {fd : FuncData} {Ts : List Ty} {names : List Str} {F : List Addr} {s s₁ : Shared} {vs : List Value}
    (hnd : (cellsFrom (s.heap.objs.size + 1) fd.scope.names []).Pairwise fun x y => x.1 ≠ y.1) (hnm : names.Nodup)
    (hkind : ∀ x ∈ names, fd.scope.names.lookup x = some .local ∨ (fd.scope.names.lookup x = some .cell ∧ ((cellsFrom (s.heap.objs.size + 1) fd.scope.names []).lookup x).isSome = true))
    (hk : fd.scope.kind = .function) (hb : Ext base s.heap) (hF : ∀ b ∈ F, ∃ o, s.heap.get? b = some o) (ha : AllT (hid F s.heap) vs Ts) (hlen : names.length = Ts.length)
    (x : InCallC s (callEnvC fd s.heap.objs.size a).locals (bindL (callEnvC fd s.heap.objs.size a).kindOf (names.zip vs) fun _ => none) (callEnvC fd s.heap.objs.size a).cells
        (bindC (callEnvC fd s.heap.objs.size a).kindOf (names.zip vs) fun _ => none) s₁) :
    Sd base (foot fd s.heap.objs.size) (foot fd s.heap.objs.size ++ F) (callEnvC fd s.heap.objs.size a) (names.zip Ts) s₁.heap := by
  have hge : ∀ b ∈ foot fd s.heap.objs.size, s.heap.objs.size ≤ b := fun b m => by
    rcases List.mem_cons.mp m with rfl | m
    · exact Nat.le_refl _
    · obtain ⟨⟨n, c⟩, hm, rfl⟩ := List.mem_map.mp m
      exact Nat.le_of_lt (x.above n c hm)
  have hno : ∀ b ∈ foot fd s.heap.objs.size, s.heap.get? b = none := fun b m => by
    cases q : s.heap.get? b with
    | none => rfl
    | some o => exact absurd (Heap.lt_size q) (Nat.not_lt.mpr (hge b m))
  have hvl := ha.length
  have hzip : (names.zip vs).map (·.1) = names := by rw [List.map_fst_zip (by omega)]
  refine ⟨⟨hk, fun b o e => x.toInCall.keep b o (hb b o e), fun b m => ?_, fun p m => ?_⟩, ⟨_, x.toInCall.ns⟩, fun n c e => ⟨_, x.cell n c e⟩, .head _, fun b m => ?_, fun b m => List.mem_append_left _ m, fun n n' c _ e e' => name_of_addr x.apart (mem_of_lookup e) (mem_of_lookup e'),
    fun n c e => Nat.ne_of_gt (x.above n c (mem_of_lookup e))⟩
  · rcases List.mem_append.mp m with m | m
    · rcases List.mem_cons.mp m with rfl | m
      · obtain ⟨_, o, _, _, g, _⟩ := x.toInCall.ns.at' (fun o e => e) |> fun z => (⟨(), z⟩ : ∃ _ : Unit, _)
        exact ⟨o, g⟩
      · obtain ⟨⟨n, c⟩, hm, rfl⟩ := List.mem_map.mp m
        obtain ⟨o, g, _⟩ := x.cell n c (lookup_of_mem hnd hm)
        exact ⟨o, g⟩
    · obtain ⟨o, e⟩ := hF b m
      exact ⟨o, x.toInCall.keep b o e⟩
  · obtain ⟨n, T⟩ := p
    obtain ⟨v, mv, q⟩ := ha.zip m
    have hn : n ∈ names := (List.of_mem_zip m).1
    refine ⟨v, T.mono _ _ _ (hid_ext' fun b o nm e => ⟨x.toInCall.keep b o e, fun z => (List.mem_append.mp z).elim (fun z => by rw [hno b z] at e; cases e) nm⟩) q, ?_⟩
    rcases hkind n hn with hl | ⟨hl, hc⟩
    · exact .inl ⟨hl, _, x.toInCall.ns, bindL_of hl _ _ (by rw [hzip]; exact hnm) mv⟩
    · obtain ⟨c, hc⟩ := Option.isSome_iff_exists.mp hc
      refine .inr ⟨.inl hl, c, hc, ?_⟩
      have := x.cell n c hc
      rwa [bindC_of (k := (callEnvC fd s.heap.objs.size a).kindOf) (x := n) (v := v) (by show fd.scope.names.lookup n ≠ _; rw [hl]; decide) _ _ (by rw [hzip]; exact hnm) mv] at this
  · cases q : base.get? b with
    | none => rfl
    | some o => have := hb b o q; rw [hno b m] at this; cases this

theorem foot_none {fd : FuncData} {s : Shared} {a : Addr} {m cm} {s₁ : Shared} (x : InCallC s (callEnvC fd s.heap.objs.size a).locals m (callEnvC fd s.heap.objs.size a).cells cm s₁) : ∀ b ∈ foot fd s.heap.objs.size, s.heap.get? b = none := fun b hm => by
  have hge : s.heap.objs.size ≤ b := by
    rcases List.mem_cons.mp hm with rfl | hm
    · exact Nat.le_refl _
    · obtain ⟨⟨n, c⟩, hm', rfl⟩ := List.mem_map.mp hm
      exact Nat.le_of_lt (x.above n c hm')
  cases q : s.heap.get? b with
  | none => rfl
  | some o => exact absurd (Heap.lt_size q) (Nat.not_lt.mpr hge)

/-- a def of the text: its body walked once -/
theorem Fn.def {n : Nat} {a : Addr} {o : Obj} {fd : FuncData} {body : List Stmt} {Ts : List Ty} {T : Ty} {names : List Str}
    (ho : base.get? a = some o) (hd : o.data = .func fd) (hl : base.NoLimit) (hcd : base.CodeRec fd.code fd.qualname) (hbody : fd.body = .stmts body) (hclo : fd.closure = [])
    (hbind : ∀ vs : List Value, vs.length = names.length → bindArgs fd ⟨vs, []⟩ = pure (names.zip vs)) (hlen : names.length = Ts.length)
    (hkind : ∀ k, ∀ x ∈ names, fd.scope.names.lookup x = some .local ∨ (fd.scope.names.lookup x = some .cell ∧ ((cellsFrom k fd.scope.names []).lookup x).isSome = true))
    (hnd : ∀ k, (cellsFrom k fd.scope.names []).Pairwise fun x y => x.1 ≠ y.1) (hnm : names.Nodup)
    (hk : fd.scope.kind = .function) (hco : fd.scope.isCoroutine = false) (hgen : fd.scope.isGenerator = false)
    (hB : ∀ A F L, Room n A → Bx prog w A base (foot fd L) (Gd.of (foot fd L)) (foot fd L ++ F) (callEnvC fd L a) (names.zip Ts) body (fun fl h => ∃ v, fl = .ret v ∧ T.P v (hid (foot fd L ++ F) h))) :
    Fn prog w (n + 1) base (.ref a) Ts T := .mk fun A F s vs R hb hF ha Q E h => by
  have hvl := ha.length
  have hzip : (names.zip vs).map (·.1) = names := by rw [List.map_fst_zip (by omega)]
  refine wpAny_call (codeAny_call_cells (body := body) (binds := names.zip vs) R.d (hb _ _ ho) hd (hl.keeps hb) (hcd.keeps hb) hbody (hbind vs (by omega)) hclo (fun p m => hkind _ p.1 (List.of_mem_zip (a := p.1) (b := p.2) m).1) (fun s₁ x => ?_) hco hgen hk)
  refine (hB _ F _ R.deeper).go Sub.self s₁ (sd_enter (hnd _) hnm (hkind _) hk hb hF ha hlen x) _ _ fun fl s' kf r => ?_
  obtain ⟨v, rfl, q⟩ := r
  refine h v s' ?_ (T.mono _ _ _ (hid_le fun b m => List.mem_append_right _ m) q)
  obtain ⟨h₁, t₁, e₁⟩ := x.toInCall.same
  obtain ⟨h₂, t₂, e₂, kk⟩ := kf
  refine ⟨h₂, t₂, by rw [e₂, e₁], fun b o e => ?_⟩
  obtain ⟨o', g, nn⟩ := kk b o (x.toInCall.keep b o e)
  rw [← nn fun m => by rw [foot_none x b m] at e; cases e]; exact g
end
end Mine
end

section
open PySem PySem.W PySem.Calls PySem.Spec
set_option linter.unusedVariables false
namespace Mine

/-- a list without a dict of its own -/
noncomputable def Pl (ds : List PyData) : Ty := ⟨fun v h => ∃ a vs, v = .ref a ∧ h.PlainList a vs.toArray ∧ All2 h vs ds, fun v h h' k x => by
  obtain ⟨a, vs, e, ⟨n, p⟩, q⟩ := x
  exact ⟨a, vs, e, ⟨n, k _ _ p⟩, q.keeps k⟩⟩
noncomputable def Le (T T' : Ty) : Prop := ∀ v h, T.P v h → T'.P v h
theorem Le.rfl {T : Ty} : Le T T := fun _ _ h => h
theorem Pl.le {ds : List PyData} : Le (Pl ds) (Py (.list ds)) := fun _ _ ⟨a, vs, e, p, q⟩ => by subst e; exact list_py p.isList q

theorem none_some {h : Heap} {a : Addr} {o : Obj} (n : h.get? a = none) (e : h.get? a = some o) : False := by rw [n] at e; cases e
theorem none_of {h h' : Heap} {a : Addr} (k : Ext h h') (n : h'.get? a = none) : h.get? a = none := by
  cases q : h.get? a with
  | none => rfl
  | some o => exact (none_some n (k a o q)).elim
noncomputable def cenvOf (scope : Scope) (cl : List (Str × Addr)) (C : Addr) (env : Env) : Env :=
  { scope := relabel scope env, locals := C, globals := env.globals, cells := cellsFrom (C + 1) scope.names cl, qual := env.qual, func := none, code := env.code, frame := env.frame, builtins := env.builtins }
noncomputable def cfoot (scope : Scope) (C : Addr) : List Addr := C :: (cellsFrom (C + 1) scope.names []).map (·.2)

theorem cellsFrom_app : ∀ (names : List (Str × NameKind)) (n : Nat) (acc : List (Str × Addr)), cellsFrom n names acc = cellsFrom n names [] ++ acc
  | [], _, _ => rfl
  | (name, kind) :: r, n, acc => by
    unfold cellsFrom
    split
    · rw [cellsFrom_app r _ ((name, n) :: acc), cellsFrom_app r _ [(name, n)]]; simp
    · exact cellsFrom_app r n acc

section
variable {prog : Program} {w : World} {A : Around} {base : Heap} {F : List Addr} {env : Env} {σ : List (Str × Ty)}

theorem Ev.sub {e : Expr} {T T' : Ty} (h : Ev prog w A base F env σ e T) (l : Le T T') : Ev prog w A base F env σ e T' := .mk fun s f Q E k => h.go s f Q E fun v s' kp q => k v s' kp (l _ _ q)

theorem newEnv_comp {M : Model} {scope : Scope} {cl : List (Str × Addr)} {s : Shared} {Q : Env → Shared → Prop} {E : Value → Shared → Prop}
    (hQ : Q { scope, locals := s.heap.objs.size, globals := env.globals, cells := cellsFrom (s.heap.objs.size + 1) scope.names cl, qual := env.qual, func := none, code := env.code, frame := env.frame, builtins := env.builtins }
      { s with heap := pushCells (s.heap.push { cls := .type "dict", data := .dict #[] }) scope.names }) :
    wpAny M A (newFunctionEnv scope env.globals cl [] env.qual none .none (some env)) Q E s := by
  simp only [newFunctionEnv, Option.isSome_some, if_true]
  refine wpAny_bind (wpAny_alloc ?_)
  refine wpAny_bind (wpAny_layCells _ (fun name kind cells => by cases hkc : kind == NameKind.cell <;> simp [hkc]) _ _ _ _ ?_)
  rw [show ({ s with heap := s.heap.push { cls := .type "dict", data := .dict #[] } } : Shared).heap.objs.size = s.heap.objs.size + 1 from Heap.size_push ..]
  rw [List.forIn_nil]
  exact wpAny_bind (wpAny_pure (wpAny_pure hQ))

/-- what a comprehension's block may read: the names that are cells around it -/
noncomputable def Reach (scope : Scope) (cl : List (Str × Addr)) (env : Env) (σ σc : List (Str × Ty)) : Prop :=
  (∀ p ∈ σc, p ∈ σ ∧ env.kindOf p.1 ≠ some .local ∧ ∃ c, env.cells.lookup p.1 = some c ∧ (p.1, c) ∈ cl ∧ ((relabel scope env).names.lookup p.1 = some .cell ∨ (relabel scope env).names.lookup p.1 = some .free) ∧
    (∀ k, (cellsFrom k scope.names cl).lookup p.1 = some c)) ∧
  ∀ x c, (x, c) ∈ cl → env.kindOf x ≠ some .local ∧ env.cells.lookup x = some c ∧ ∃ T, (x, T) ∈ σ

theorem cfoot_ge {scope : Scope} {h : Heap} {b : Addr} (m : b ∈ cfoot scope h.objs.size) : h.objs.size ≤ b := by
  rcases List.mem_cons.mp m with rfl | m
  · exact Nat.le_refl _
  · obtain ⟨⟨n, c⟩, hm, rfl⟩ := List.mem_map.mp m
    have ok := cellsFrom_ok scope.names (h.push { cls := .type "dict", data := .dict #[] }) (h.objs.size + 1) [] ⟨fun _ _ hm => (nomatch hm), List.Pairwise.nil⟩ (by rw [Heap.size_push]; exact Nat.le_refl _)
    rw [Heap.size_push] at ok
    have := (ok.empty n c hm).2
    omega

/-- the comprehension's own frame as it is laid -/
theorem sd_comp {scope : Scope} {cl : List (Str × Addr)} {σc : List (Str × Ty)} {h h₁ : Heap} (f : Fm base F env σ h) (k₁ : Ext h h₁) (hk : scope.kind = .function) (hr : Reach scope cl env σ σc)
    (N : List Addr) (hN : ∀ b ∈ N, h.get? b = none ∧ ∃ o, h₁.get? b = some o) :
    Sd base (cfoot scope h₁.objs.size) (cfoot scope h₁.objs.size ++ (N ++ F)) (cenvOf scope cl h₁.objs.size env) σc (pushCells (h₁.push { cls := .type "dict", data := .dict #[] }) scope.names) := by
  have kp : Ext h₁ (pushCells (h₁.push { cls := .type "dict", data := .dict #[] }) scope.names) := fun b o e => pushCells_keeps _ _ b o (Heap.get?_push_of_some _ e)
  have hno : ∀ b ∈ cfoot scope h₁.objs.size, h₁.get? b = none := fun b m => by
    cases q : h₁.get? b with
    | none => rfl
    | some o => exact absurd (Heap.lt_size q) (Nat.not_lt.mpr (cfoot_ge m))
  have ok := cellsFrom_ok scope.names (h₁.push { cls := .type "dict", data := .dict #[] }) (h₁.objs.size + 1) [] ⟨fun _ _ hm => (nomatch hm), List.Pairwise.nil⟩ (by rw [Heap.size_push]; exact Nat.le_refl _)
  rw [Heap.size_push] at ok
  have ns := (Heap.Ns.new h₁ (.type "dict")).keeps (pushCells_keeps scope.names _)
  have clv : ∀ x c, (x, c) ∈ cl → ∃ v, h.IsCell c (some v) := fun x c m => by
    obtain ⟨nl, lk, T, mT⟩ := hr.2 x c m
    obtain ⟨v, _, l⟩ := f.var _ mT
    rcases l with ⟨e, _⟩ | ⟨_, c', lk', z⟩
    · exact absurd e nl
    · rw [lk] at lk'; cases lk'; exact ⟨v, z⟩
  have look : ∀ x c, (cenvOf scope cl h₁.objs.size env).cells.lookup x = some c → (x, c) ∈ cellsFrom (h₁.objs.size + 1) scope.names [] ∨ (x, c) ∈ cl := fun x c e => by
    have e' : (cellsFrom (h₁.objs.size + 1) scope.names cl).lookup x = some c := e
    rw [cellsFrom_app] at e'
    exact List.mem_append.mp (mem_of_lookup e')
  refine ⟨⟨by show (relabel scope env).kind = _; exact hk, fun b o e => kp b o (k₁ b o (f.base b o e)), fun b m => ?_, fun p m => ?_⟩, ⟨_, ns⟩, fun x c e => ?_, .head _, fun b m => ?_, fun b m => List.mem_append_left _ m, fun x y c mc e e' => ?_, fun x c e => ?_⟩
  · rcases List.mem_append.mp m with m | m
    · rcases List.mem_cons.mp m with rfl | m
      · obtain ⟨o, _, _, g, _⟩ := ns; exact ⟨o, g⟩
      · obtain ⟨⟨n, c⟩, hm, rfl⟩ := List.mem_map.mp m
        obtain ⟨⟨o, g, _⟩, _⟩ := ok.empty n c hm
        exact ⟨o, g⟩
    · rcases List.mem_append.mp m with m | m
      · obtain ⟨o, e⟩ := (hN b m).2; exact ⟨o, kp b o e⟩
      · obtain ⟨o, e⟩ := f.old b m; exact ⟨o, kp b o (k₁ b o e)⟩
  · obtain ⟨ms, nl, c, lk, mc, kd, lk'⟩ := hr.1 p m
    obtain ⟨v, q, l⟩ := f.var p ms
    refine ⟨v, p.2.mono _ _ _ (hid_ext' fun b o nm e => ⟨kp b o (k₁ b o e), fun z => (List.mem_append.mp z).elim (fun z => ?_) fun z => (List.mem_append.mp z).elim (fun z => by rw [(hN b z).1] at e; cases e) nm⟩) q, ?_⟩
    · have := k₁ b o e; rw [hno b z] at this; cases this
    rcases l with ⟨e, _⟩ | ⟨_, c', lk'', z⟩
    · exact absurd e nl
    · rw [lk] at lk''; cases lk''
      exact .inr ⟨kd, c, lk' _, (z.keeps k₁).keeps kp⟩
  · rcases look x c e with hm | hm
    · exact ⟨_, (ok.empty x c hm).1⟩
    · obtain ⟨v, z⟩ := clv x c hm
      exact ⟨_, (z.keeps k₁).keeps kp⟩
  · cases q : base.get? b with
    | none => rfl
    | some o => have := k₁ b o (f.base b o q); rw [hno b m] at this; cases this
  · have own : ∀ x, (cenvOf scope cl h₁.objs.size env).cells.lookup x = some c → (x, c) ∈ cellsFrom (h₁.objs.size + 1) scope.names [] := fun x e => by
      rcases look x c e with hm | hm
      · exact hm
      · obtain ⟨v, o, g, _⟩ := clv x c hm
        have := k₁ c o g
        rw [hno c mc] at this; cases this
    exact name_of_addr ok.apart (own x e) (own y e')
  · intro z
    rcases look x c e with hm | hm
    · have := (ok.empty x c hm).2
      rw [show c = h₁.objs.size from z] at this
      exact absurd this (Nat.not_succ_le_self _)
    · obtain ⟨v, o, g, _⟩ := clv x c hm
      have := Heap.lt_size (k₁ c o g)
      rw [show c = h₁.objs.size from z] at this
      exact absurd this (Nat.lt_irrefl _)

/-- the tests of a comprehension -/
structure Trs (prog : Program) (w : World) (A : Around) (base : Heap) (F : List Addr) (env : Env) (σ : List (Str × Ty)) (ifs : List Expr) (b : Bool) : Prop where
  go : ∀ s, Fm base F env σ s.heap → ∀ (Q : Bool → Shared → Prop) (E : Value → Shared → Prop), (∀ s', Kp s s' → Q b s') →
    wpAny (model prog w) A (forIn ifs true fun c r => if r = true then do let ok ← isTrue c env (eval c env); pure (ForInStep.yield ok) else pure (ForInStep.yield r)) Q E s
theorem Trs.nil : Trs prog w A base F env σ [] true := .mk fun s f Q E h => wpAny_tests_nil (h s (Kp.refl s))
theorem Trs.one {c : Expr} {b : Bool} (ht : Tr prog w A base F env σ c b) : Trs prog w A base F env σ [c] b := .mk fun s f Q E h => wpAny_tests_one (ht.go s f Q E h)

noncomputable def doneTo (b : Nat → Bool) (d : Nat → PyData) (i : Nat) : List PyData := ((List.range i).filter b).map d
theorem doneTo_succ (b : Nat → Bool) (d : Nat → PyData) (i : Nat) : doneTo b d (i + 1) = if b i then doneTo b d i ++ [d i] else doneTo b d i := by
  unfold doneTo
  rw [List.range_succ, List.filter_append]
  cases h : b i <;> simp [h]
theorem doneTo_len (b : Nat → Bool) (d : Nat → PyData) (i : Nat) : (doneTo b d i).length ≤ i := by
  unfold doneTo
  rw [List.length_map]
  exact Nat.le_trans (List.length_filter_le _ _) (by simp)

/-- as KF, and nothing is said of some spent things -/
noncomputable def KB (wr W : List Addr) (s s' : Shared) : Prop := ∃ h' tk, s' = { s with heap := h', toks := tk } ∧ ∀ b o, b ∉ wr → s.heap.get? b = some o → ∃ o', h'.get? b = some o' ∧ (b ∉ W → o' = o)
/-- the turns of a list comprehension, the thing handed over included -/
theorem codeAny_compLoop_own {elt target iter : Expr} {ifs : List Expr} {scope : Scope} {pos : Pos} {it acc : Value} {env : Env} {R : Result → Shared → Prop} {s : Shared} (I : Nat → Shared → Prop)
    (turn : ∀ n s, I n s → wpAny (model prog w) A (pyNext it) (fun r s₁ => match r with
      | none => R (.ok .next) s₁
      | some v => wpAny (model prog w) A (letOwnedTupleGo target it v) (fun _ s₁' => wpAny (model prog w) A (PySem.assign target env v) (fun _ s₂ =>
          wpAny (model prog w) A (forIn ifs true fun c r => if r = true then do let ok ← isTrue c env (eval c env); pure (ForInStep.yield ok) else pure (ForInStep.yield r)) (fun ok s₃ =>
            if ok = true then wpAny (model prog w) A (eval elt env) (fun x s₄ =>
              wpAny (model prog w) A (PySem.call (.builtin "list.append") [acc, x]) (fun _ s₅ => ∃ m, m < n ∧ I m s₅) (notedBy (model prog w) A env fun e s' => R (.error e) s') s₄) (notedBy (model prog w) A env fun e s' => R (.error e) s') s₃
            else ∃ m, m < n ∧ I m s₃) (notedBy (model prog w) A env fun e s' => R (.error e) s') s₂) (notedBy (model prog w) A env fun e s' => R (.error e) s') s₁') (notedBy (model prog w) A env fun e s' => R (.error e) s') s₁) (notedBy (model prog w) A env fun e s' => R (.error e) s') s)
    (n : Nat) (h : I n s) : codeAny (model prog w) A (.compLoop (.ListComp elt [⟨target, iter, ifs, 0⟩] scope pos) 0 it acc env) R s := by
  refine codeAny_loop rfl I (fun n s hI => ?_) n h
  show wpAny _ A ((compTurn (.ListComp elt [⟨target, iter, ifs, 0⟩] scope pos) 0 it acc env).onRaise (fun x => do noteFrame x env; theTreesLotGoes x)) _ _ s
  refine wpAny_noted ?_
  rw [compTurn_list]
  refine wpAny_bind (wpAny_standAt (wpAny_bind (wpAny_mono (turn n s hI) (fun r s₁ h₁ => ?_) fun _ _ h' => h')))
  cases r with
  | none => exact wpAny_pure h₁
  | some v =>
    refine wpAny_bind (wpAny_mono h₁ (fun _ s₁' h₁' => ?_) fun _ _ h' => h')
    refine wpAny_bind (wpAny_mono h₁' (fun _ s₂ h₂ => wpAny_bind (wpAny_mono h₂ (fun ok s₃ h₃ => ?_) fun _ _ h' => h')) fun _ _ h' => h')
    cases ok with
    | false => exact wpAny_pure ⟨rfl, h₃⟩
    | true =>
      exact wpAny_bind (wpAny_bind (wpAny_mono h₃ (fun x s₄ h₄ => wpAny_bind (wpAny_mono h₄ (fun _ s₅ h₅ => wpAny_pure (wpAny_pure ⟨rfl, h₅⟩)) fun _ _ h' => h')) fun _ _ h' => h'))

/-- the loop of a list comprehension over one source -/
theorem comp_loop {elt tg iter : Expr} {ifs : List Expr} {scope : Scope} {pos : Pos} {cenv : Env} {σc : List (Str × Ty)} {Wc Fc : List Addr} {I D : Addr} {fp wr : List Addr} {n : Nat} {P : Nat → Value → Heap → Heap → Prop} {St : Nat → Heap → Prop}
    {τ : Nat → Ty} {σx : Nat → List (Str × Ty)} {b : Nat → Bool} {d : Nat → PyData} {R : Result → Shared → Prop} {s : Shared}
    (Wk : Wks prog w A tg I fp wr n P St) (hob : ∀ i h, St i h → ∀ b ∈ wr, ∃ o, h.get? b = some o) (hst : St 0 s.heap) (S0 : Sd base Wc Fc cenv σc s.heap) (hD : s.heap.PlainList D #[])
    (hAs : ∀ i, i < n → As prog w A base Wc Fc cenv tg (τ i) σc (σx i)) (hback : ∀ i, ∀ p ∈ σc, p ∈ σx i) (hDF : D ∈ Fc) (hwF : ∀ b ∈ wr, b ∈ Fc) (hDfp : D ∉ fp) (hDW : D ∉ Wc) (hfW : ∀ b ∈ fp, b ∉ Wc) (hbD : base.get? D = none) (hbw : ∀ b ∈ wr, base.get? b = none)
    (hcD : ∀ y c, cenv.cells.lookup y = some c → c ≠ D ∧ c ∉ wr) (hLD : cenv.locals ≠ D ∧ cenv.locals ∉ wr)
    (hP : ∀ i v h h', i < n → P i v h h' → (∀ b ∈ Fc, ∃ o, h.get? b = some o) → Ext (hid Fc s.heap) (hid Fc h') → (τ i).P v (hid Fc h')) (hsz : n ≤ sizeLine)
    (htest : ∀ i, i < n → Trs prog w A base Fc cenv (σx i) ifs (b i))
    (helt : ∀ i, i < n → b i = true → Ev prog w A base Fc cenv (σx i) elt (Py (d i)))
    (hR : ∀ s' ys, KB wr (D :: Wc) s s' → (∃ m, s'.heap.Ns cenv.locals m) → s'.heap.PlainList D ys → All2 (hid Fc s'.heap) ys.toList (doneTo b d n) → R (.ok .next) s') :
    codeAny (model prog w) A (.compLoop (.ListComp elt [⟨tg, iter, ifs, 0⟩] scope pos) 0 (.ref I) (.ref D) cenv) R s := by
  have hDw : D ∉ wr := fun m => hDfp (Wk.sub _ m)
  have leW : ∀ {a b : Shared}, KF Wc a b → KF (D :: (wr ++ Wc)) a b := fun z => z.le fun b m => .tail _ (List.mem_append_right _ m)
  refine codeAny_compLoop_own (fun k s' => ∃ i ys, i ≤ n ∧ k = n + 1 - i ∧ KF (D :: (wr ++ Wc)) s s' ∧ St i s'.heap ∧ Sd base Wc Fc cenv σc s'.heap ∧ s'.heap.PlainList D ys ∧ All2 (hid Fc s'.heap) ys.toList (doneTo b d i)) ?_ (n + 1)
    ⟨0, #[], Nat.zero_le _, rfl, KF.of (Kp.refl _), hst, S0, hD, .nil⟩
  rintro k s₁ ⟨i, ys, hin, rfl, kf, sti, Si, hDi, hys⟩
  by_cases hlt : i < n
  · refine Wk.item i s₁ _ _ _ (fun v s₂ z => z) hlt sti fun v h₁ tk hPv st₁ hk₁ => ?_
    have S₁ : Sd base Wc Fc cenv σc h₁ := Si.other hk₁ hwF hLD.2 (fun y c e => (hcD y c e).2) hbw (hob _ _ st₁)
    have kf₁ : KF (D :: (wr ++ Wc)) s₁ { s₁ with heap := h₁, toks := tk } := ⟨h₁, tk, rfl, fun b o e => by
      by_cases m : b ∈ wr
      · obtain ⟨o', e'⟩ := hob _ _ st₁ b m
        exact ⟨o', e', fun nm => absurd (.tail _ (List.mem_append_left _ m)) nm⟩
      · exact ⟨o, hk₁ b o m e, fun _ => rfl⟩⟩
    have kfa := kf.trans kf₁
    have notin : ∀ b, b ∉ Fc → b ∉ D :: (wr ++ Wc) := fun b nm m => by
      rcases List.mem_cons.mp m with rfl | m
      · exact nm hDF
      · exact (List.mem_append.mp m).elim (fun m => nm (hwF b m)) fun m => nm (S0.sub b m)
    have hv : (τ i).P v (hid Fc h₁) := hP i v _ _ hlt hPv Si.fm.old (hid_ext fun b o nm e => kfa.not e (notin b nm))
    have hD₁ : h₁.PlainList D ys := hDi.at fun o e => hk₁ D o hDw e
    refine (hAs i hlt).go { s₁ with heap := h₁, toks := tk } v S₁ hv _ _ fun s₂ k₂ S₂' => ?_
    have hD₂ : s₂.heap.PlainList D ys := hD₁.at fun o e => k₂.not e hDW
    refine (htest i hlt).go s₂ S₂'.fm _ _ fun s₃ k₃ => ?_
    have kfc := kfa.trans ((leW k₂).trans (KF.of k₃))
    have st₃ : St (i + 1) s₃.heap := Wk.frame _ _ _ st₁ fun b m o e => k₃.ext b o (k₂.not e (hfW b m))
    have S₃ := S₂'.keeps k₃.ext
    have hD₃ : s₃.heap.PlainList D ys := hD₂.at fun o e => k₃.ext _ o e
    have hys₃ : All2 (hid Fc s₃.heap) ys.toList (doneTo b d i) := hys.keeps (hid_ext fun b o nm e => (kf₁.trans ((leW k₂).trans (KF.of k₃))).not e (notin b nm))
    cases hbi : b i with
    | false =>
      simp only [Bool.false_eq_true, if_false]
      refine ⟨n + 1 - (i + 1), by omega, i + 1, ys, hlt, rfl, kfc, st₃, S₃.less (hback i), hD₃, ?_⟩
      rw [doneTo_succ, hbi]; exact hys₃
    | true =>
      simp only [if_true]
      refine (helt i hlt hbi).go s₃ S₃.fm _ _ fun y s₄ k₄ q₄ => ?_
      have hD₄ : s₄.heap.PlainList D ys := hD₃.at fun o e => k₄.ext _ o e
      have hszy : ys.size ≤ sizeLine := by
        have e1 := hys.length
        have e2 := doneTo_len b d i
        have e4 : ys.toList.length = ys.size := by simp
        omega
      refine wpAny_list_append_plain (hsz := hszy) hD₄ fun h₅ hD₅ hs₅ => ?_
      have S₄ := S₃.keeps k₄.ext
      obtain ⟨_, eD⟩ := id hD₅
      have S₅ : Sd base Wc Fc cenv (σx i) h₅ := S₄.other (N := [D]) (fun b o nm e => (hs₅.2 b fun z => nm (by simp [z])).trans e) (fun b m => by simp at m; rw [m]; exact hDF) (by simp [hLD.1]) (fun y c e => by simp [(hcD y c e).1])
        (fun b m => by simp at m; rw [m]; exact hbD) fun b m => by simp at m; rw [m]; exact ⟨_, eD⟩
      have kf₅ : KF (D :: (wr ++ Wc)) s₄ { s₄ with heap := h₅ } := KF.but (t := s₄.toks) (.head _) hs₅ eD
      refine ⟨n + 1 - (i + 1), by omega, i + 1, ys.push y, hlt, rfl, kfc.trans ((KF.of k₄).trans kf₅), Wk.frame _ _ _ st₃ fun b m o e => (hs₅.2 b fun z => hDfp (z ▸ m)).trans (k₄.ext b o e), S₅.less (hback i), hD₅, ?_⟩
      rw [doneTo_succ, hbi]
      have up : Ext (hid Fc s₄.heap) (hid Fc h₅) := hid_ext fun b o nm e => (hs₅.2 b fun z => nm (z ▸ hDF)).trans e
      have e1 : (ys.push y).toList = ys.toList ++ [y] := by simp
      rw [e1]
      exact ((hys₃.keeps (hid_ext fun b o _ e => k₄.ext b o e)).keeps up).append (.cons ((Py _).mono _ _ _ up q₄) .nil)
  · have : i = n := by omega
    subst this
    refine Wk.done s₁ _ _ sti fun h₁ tk hk₁ => ?_
    obtain ⟨m, oL, es, ep, gL, rL⟩ := Si.ns
    refine hR _ ys ?_ ⟨m, oL, es, ep, hk₁ _ _ hLD.2 gL, rL⟩ (hDi.at fun o e => hk₁ D o hDw e) (hys.keeps (hid_ext fun b o nm e => hk₁ b o (fun z => nm (hwF b z)) e))
    obtain ⟨h', t', e, kk⟩ := kf
    subst e
    refine ⟨h₁, tk, rfl, fun b o nw e' => ?_⟩
    obtain ⟨o', g, nn⟩ := kk b o e'
    refine ⟨o', hk₁ b o' nw g, fun nm => nn fun m => ?_⟩
    rcases List.mem_cons.mp m with rfl | m
    · exact nm (.head _)
    · exact (List.mem_append.mp m).elim nw fun m => nm (.tail _ m)

/-- the parts of a comprehension's run up to its loop, and behind it -/
theorem comp_main {elt tg iter : Expr} {ifs : List Expr} {scope : Scope} {pos : Pos} {cl : List (Str × Addr)} {σc : List (Str × Ty)} {n : Nat} {τ : Nat → Ty} {σx : Nat → List (Str × Ty)} {b : Nat → Bool} {d : Nat → PyData}
    (hi : It prog w A base F env σ tg iter n τ) (hclos : closureFor scope env = pure cl) (hr : Reach scope cl env σ σc) (hk : scope.kind = .function) (hnames : ∀ y ∈ scope.names, y.2 = .local → scope.names.lookup y.1 = some .local)
    (hAs : ∀ C Fc i, i < n → As prog w A base (cfoot scope C) Fc (cenvOf scope cl C env) tg (τ i) σc (σx i)) (hback : ∀ i, ∀ p ∈ σc, p ∈ σx i) (hsz : n ≤ sizeLine)
    (htest : ∀ C Fc i, i < n → Trs prog w A base Fc (cenvOf scope cl C env) (σx i) ifs (b i))
    (helt : ∀ C Fc i, i < n → b i = true → Ev prog w A base Fc (cenvOf scope cl C env) (σx i) elt (Py (d i)))
    (hs : ∀ x, foldedSetIterable iter env x = pure x) {s : Shared} (f : Fm base F env σ s.heap) {use : Option (Value → Sem Unit)} {Q E : Value → Shared → Prop} {pos' : Pos}
    (hfin : ∀ s' D C ys, (∃ h' tk, s' = { s with heap := h', toks := tk }) → Ext s.heap s'.heap → s.heap.get? D = none → s.heap.get? C = none → D ≠ C → (∃ m, s'.heap.Ns C m) → s'.heap.PlainList D ys →
      (∀ h', (∀ b o, b ≠ C → s'.heap.get? b = some o → h'.get? b = some o) → ∀ F', (∀ b ∈ F', b ∈ C :: F) → All2 (hid F' h') ys.toList (doneTo b d n)) → compPost (model prog w) A E use Q (.ref D) C (.ok .next) s') :
    wpAny (model prog w) A (comprehension (.ListComp elt [⟨tg, iter, ifs, 0⟩] scope pos) scope env pos' (newList []) false (eval iter env) use) Q E s := by
  refine wpAny_comprehension_free (use := use) rfl hs hclos hk hnames (hi.go s f _ E fun s₂ I fp wr P St kp Wk hnew hfp hst hob hP => ?_)
  refine wpAny_newObj_type (hd := by size_fits) (newEnv_comp ?_)
  generalize hH : s₂.heap.push { cls := .type "list", dict := none, data := .seq ([] : List Value).toArray } = H
  have f₂ := f.keeps kp.ext
  have kH : Ext s₂.heap H := fun b o e => hH ▸ Heap.get?_push_of_some _ e
  have hD0 : s₂.heap.get? s₂.heap.objs.size = none := by
    cases q : s₂.heap.get? s₂.heap.objs.size with
    | none => rfl
    | some o => exact absurd (Heap.lt_size q) (Nat.lt_irrefl _)
  have pD : H.PlainList s₂.heap.objs.size #[] := ⟨0, hH ▸ Heap.get?_push_size _ rfl⟩
  have S := sd_comp (scope := scope) (cl := cl) f (fun b o e => kH b o (kp.ext b o e)) hk hr (s₂.heap.objs.size :: wr) (fun b m => by
    rcases List.mem_cons.mp m with rfl | m
    · obtain ⟨_, e⟩ := id pD
      exact ⟨none_of kp.ext hD0, _, e⟩
    · exact ⟨(hnew b m).1, let ⟨o, e⟩ := (hnew b m).2; ⟨o, kH b o e⟩⟩)
  generalize hH₁ : pushCells (H.push { cls := .type "dict", data := .dict #[] }) scope.names = H₁ at S ⊢
  have kH₁ : Ext H H₁ := fun b o e => hH₁ ▸ pushCells_keeps _ _ b o (Heap.get?_push_of_some _ e)
  have k₁ : Ext s₂.heap H₁ := fun b o e => kH₁ b o (kH b o e)
  have pD₁ : H₁.PlainList s₂.heap.objs.size #[] := pD.at fun o e => kH₁ _ o e
  have hDH : H.get? s₂.heap.objs.size ≠ none := by obtain ⟨_, e⟩ := pD; rw [e]; simp
  have cno : ∀ b ∈ cfoot scope H.objs.size, H.get? b = none := fun b m => by
    cases q : H.get? b with
    | none => rfl
    | some o => exact absurd (Heap.lt_size q) (Nat.not_lt.mpr (cfoot_ge m))
  have hDfp : s₂.heap.objs.size ∉ fp := fun m => by obtain ⟨o, e⟩ := (hfp _ m).2; rw [hD0] at e; cases e
  have hDw : s₂.heap.objs.size ∉ wr := fun m => hDfp (Wk.sub _ m)
  have nb : ∀ b, s.heap.get? b = none → base.get? b = none := fun b e => none_of f.base e
  have hDs : s.heap.get? s₂.heap.objs.size = none := none_of kp.ext hD0
  have hcell : ∀ y c, (cenvOf scope cl H.objs.size env).cells.lookup y = some c → c ≠ s₂.heap.objs.size ∧ c ∉ wr := fun y c e => by
    have e' : (cellsFrom (H.objs.size + 1) scope.names cl).lookup y = some c := e
    rw [cellsFrom_app] at e'
    rcases List.mem_append.mp (mem_of_lookup e') with hm | hm
    · have mm : c ∈ cfoot scope H.objs.size := .tail _ (List.mem_map.mpr ⟨_, hm, rfl⟩)
      refine ⟨fun z => hDH (z ▸ cno c mm), fun m => ?_⟩
      obtain ⟨o, g⟩ := (hnew c m).2
      have := kH _ _ g; rw [cno c mm] at this; cases this
    · obtain ⟨nl, lk, T, mT⟩ := hr.2 y c hm
      obtain ⟨v, _, l⟩ := f.var _ mT
      rcases l with ⟨e, _⟩ | ⟨_, c', lk', o, g, _⟩
      · exact absurd e nl
      · rw [lk] at lk'; cases lk'
        exact ⟨fun z => none_some hDs (z ▸ g), fun m => none_some (hnew c m).1 g⟩
  have hWw : ∀ b ∈ cfoot scope H.objs.size, b ∉ fp := fun b m m' => by
    obtain ⟨o, g⟩ := (hfp b m').2
    have := kH _ _ g; rw [cno b m] at this; cases this
  have loop : codeAny (model prog w) A (.compLoop (.ListComp elt [⟨tg, iter, ifs, 0⟩] scope pos) 0 (.ref I) (.ref s₂.heap.objs.size) (cenvOf scope cl H.objs.size env))
      (compPost (model prog w) A E use Q (.ref s₂.heap.objs.size) H.objs.size) { s₂ with heap := H₁ } := by
    refine comp_loop (s := { s₂ with heap := H₁ }) (Wc := cfoot scope H.objs.size) (Fc := cfoot scope H.objs.size ++ (s₂.heap.objs.size :: wr ++ F)) (τ := τ) (b := b) (d := d) (σc := σc) Wk hob (Wk.frame _ _ _ hst fun b _ o e => k₁ b o e) S pD₁ (fun i hi' => hAs _ _ i hi') hback
      (List.mem_append_right _ (.head _)) (fun b m => List.mem_append_right _ (.tail _ (List.mem_append_left _ m))) hDfp (fun m => hDH (cno _ m)) (fun b m m' => hWw b m' m) (nb _ hDs) (fun b m => nb b (hnew b m).1) hcell
      ⟨fun z => hDH (z ▸ cno _ (.head _)), fun m => hWw _ (.head _) (Wk.sub _ m)⟩ (fun i v h₁ h₂ hi' hPv ho he => hP _ i v h₁ h₂ hi' hPv ho fun b o e => he b o (hid_ext' (F := wr ++ F) (fun b o nm e => ⟨k₁ b o e, fun z => ?_⟩) b o e)) hsz (fun i hi' => htest _ _ i hi') (fun i hi' hb' => helt _ _ i hi' hb') ?_
    · rcases List.mem_append.mp z with z | z
      · exact none_some (cno b z) (kH b o e)
      · rcases List.mem_cons.mp z with rfl | z
        · exact none_some hD0 e
        · exact nm z
    · intro s' ys kb hns hDy hys
      obtain ⟨h₃, t₃, e₃, kk⟩ := kb
      subst e₃
      have kk' : ∀ b o, b ∉ wr → b ≠ s₂.heap.objs.size → b ∉ cfoot scope H.objs.size → H₁.get? b = some o → h₃.get? b = some o := fun b o nw nD nC e => by
        obtain ⟨o', g, nn⟩ := kk b o nw e
        rw [← nn fun m => (List.mem_cons.mp m).elim nD nC]
        exact g
      have kfin : Ext s.heap h₃ := fun b o e => kk' b o (fun m => none_some (hnew b m).1 e) (fun z => none_some hDs (z ▸ e)) (fun m => none_some (cno b m) (kH b o (kp.ext b o e))) (k₁ b o (kp.ext b o e))
      obtain ⟨h₂', t₂', e₂', k₂'⟩ := kp
      subst e₂'
      refine hfin _ _ _ ys ⟨h₃, t₃, rfl⟩ kfin hDs (none_of k₂' (none_of kH (cno _ (.head _)))) (fun z => hDH (z ▸ cno _ (.head _))) hns hDy fun h' hsb F' hF' => ?_
      exact hys.keeps (hid_ext' fun b o nm e => ⟨hsb b o (fun z => nm (List.mem_append_left _ (z ▸ .head _))) e, fun z => by
        rcases List.mem_cons.mp (hF' b z) with rfl | z
        · exact nm (List.mem_append_left _ (.head _))
        · exact nm (List.mem_append_right _ (.tail _ (List.mem_append_right _ z)))⟩)
  exact codeAny_compStart_list loop (Wk.self 0 _ _ _ (Wk.frame _ _ _ hst fun b _ o e => k₁ b o e) loop)

theorem Ev.listComp {elt tg iter : Expr} {ifs : List Expr} {scope : Scope} {pos : Pos} {cl : List (Str × Addr)} {σc : List (Str × Ty)} {n : Nat} {τ : Nat → Ty} {σx : Nat → List (Str × Ty)} {b : Nat → Bool} {d : Nat → PyData}
    (hi : It prog w A base F env σ tg iter n τ) (hclos : closureFor scope env = pure cl) (hr : Reach scope cl env σ σc) (hk : scope.kind = .function) (hnames : ∀ y ∈ scope.names, y.2 = .local → scope.names.lookup y.1 = some .local)
    (hAs : ∀ C Fc i, i < n → As prog w A base (cfoot scope C) Fc (cenvOf scope cl C env) tg (τ i) σc (σx i)) (hback : ∀ i, ∀ p ∈ σc, p ∈ σx i) (hsz : n ≤ sizeLine)
    (htest : ∀ C Fc i, i < n → Trs prog w A base Fc (cenvOf scope cl C env) (σx i) ifs (b i))
    (helt : ∀ C Fc i, i < n → b i = true → Ev prog w A base Fc (cenvOf scope cl C env) (σx i) elt (Py (d i)))
    (hs : ∀ x, foldedSetIterable iter env x = pure x := by intro _; rfl) :
    Ev prog w A base F env σ (.ListComp elt [⟨tg, iter, ifs, 0⟩] scope pos) (Pl (doneTo b d n)) := .mk fun s f Q E h => by
  rw [eval_ListComp]
  refine comp_main hi hclos hr hk hnames hAs hback hsz htest helt hs f fun s' D C ys hs' k hD hC hDC hns hDy hys => ?_
  obtain ⟨h₃, t₃, rfl⟩ := hs'
  obtain ⟨m, hm⟩ := hns
  refine ⟨m, hm, fun h' hsb => ?_⟩
  have kf : Ext s.heap h' := fun b o e => (hsb.2 b fun z => none_some hC (z ▸ e)).trans (k b o e)
  refine h _ _ ⟨h', t₃, rfl, kf⟩ ⟨_, ys.toList, rfl, ?_, hys h' (fun b o ne e => (hsb.2 b ne).trans e) F fun b m => .tail _ m⟩
  obtain ⟨nD, gD⟩ := hDy
  exact ⟨nD, hideAll_get F ((hsb.2 _ hDC).trans gD) (f.fresh hD)⟩

/-- fresh things are hidden besides -/
theorem Sd.hide {W N : List Addr} {h h' : Heap} (S : Sd base W F env σ h) (k : Ext h h') (hN : ∀ b ∈ N, h.get? b = none ∧ ∃ o, h'.get? b = some o) : Sd base W (N ++ F) env σ h' := by
  have S' := S.keeps k
  refine ⟨⟨S.fm.kind, S'.fm.base, fun b m => (List.mem_append.mp m).elim (fun m => (hN b m).2) (S'.fm.old b), fun p m => ?_⟩, S'.ns, S'.cel, S.inL, S.nb, fun b m => List.mem_append_right _ (S.sub b m), S.apart, S.nl⟩
  obtain ⟨v, q, l⟩ := S.fm.var p m
  exact ⟨v, p.2.mono _ _ _ (hid_ext' fun b o nm e => ⟨k b o e, fun m => (List.mem_append.mp m).elim (fun m => none_some (hN b m).1 e) nm⟩) q, l.keeps k⟩
/-- they are let go -/
theorem Sd.letGo {W N : List Addr} {h h' : Heap} (S : Sd base W (N ++ F) env σ h) (k : ∀ b o, b ∉ N → h.get? b = some o → h'.get? b = some o) (hL : env.locals ∉ N) (hC : ∀ x c, env.cells.lookup x = some c → c ∉ N) (hb : ∀ b ∈ N, base.get? b = none)
    (hF : ∀ b ∈ F, b ∉ N) (hW : ∀ b ∈ W, b ∈ F) : Sd base W F env σ h' := by
  obtain ⟨m, oL, es, ep, gL, rL⟩ := S.ns
  refine ⟨⟨S.fm.kind, fun b o e => k b o (fun m => none_some (hb b m) e) (S.fm.base b o e), fun b mF => ?_, fun p mp => ?_⟩, ⟨m, oL, es, ep, k _ _ hL gL, rL⟩, fun x c e => ?_, S.inL, S.nb, hW, S.apart, S.nl⟩
  · obtain ⟨o, e⟩ := S.fm.old b (List.mem_append_right _ mF)
    exact ⟨o, k b o (hF b mF) e⟩
  · obtain ⟨v, q, l⟩ := S.fm.var p mp
    refine ⟨v, p.2.mono _ _ _ (hid_ext' fun b o nm e => ⟨k b o (fun z => nm (List.mem_append_left _ z)) e, fun z => nm (List.mem_append_right _ z)⟩) q, ?_⟩
    rcases l with ⟨e, m', ⟨o1, e1, e2, g1, r1⟩, z⟩ | ⟨e, c, lk, o, g, d⟩
    · exact .inl ⟨e, m', ⟨o1, e1, e2, k _ _ hL g1, r1⟩, z⟩
    · exact .inr ⟨e, c, lk, o, k _ _ (hC _ _ lk) g, d⟩
  · obtain ⟨v, o, g, d⟩ := S.cel x c e
    exact ⟨v, o, k _ _ (hC _ _ e) g, d⟩

/-- x = [..] on one line: the name is bound before the block's names go -/
theorem Bx.assignComp {W : List Addr} {V : Gd} {rest : List Stmt} {R : Flow → Heap → Prop} {elt tg iter : Expr} {y : Str} {py spos : Pos} {ifs : List Expr} {scope : Scope} {pos : Pos} {cl : List (Str × Addr)} {σc : List (Str × Ty)} {n : Nat} {τ : Nat → Ty} {σx : Nat → List (Str × Ty)} {b : Nat → Bool} {d : Nat → PyData}
    (hi : It prog w A base F env σ tg iter n τ) (hclos : closureFor scope env = pure cl) (hr : Reach scope cl env σ σc) (hk : scope.kind = .function) (hnames : ∀ y ∈ scope.names, y.2 = .local → scope.names.lookup y.1 = some .local)
    (hAs : ∀ C Fc i, i < n → As prog w A base (cfoot scope C) Fc (cenvOf scope cl C env) tg (τ i) σc (σx i)) (hback : ∀ i, ∀ p ∈ σc, p ∈ σx i) (hsz : n ≤ sizeLine)
    (htest : ∀ C Fc i, i < n → Trs prog w A base Fc (cenvOf scope cl C env) (σx i) ifs (b i))
    (helt : ∀ C Fc i, i < n → b i = true → Ev prog w A base Fc (cenvOf scope cl C env) (σx i) elt (Py (d i)))
    (hy : env.kindOf y = some .local) (hrest : Bx prog w A base W V F env ((y, Pl (doneTo b d n)) :: drop y σ) rest R)
    (hsw : swapsWith (.ListComp elt [⟨tg, iter, ifs, 0⟩] scope pos) (some (.Name y py)) spos.line env = pure true := by rfl) (hs : ∀ x, foldedSetIterable iter env x = pure x := by intro _; rfl) :
    Bx prog w A base W V F env σ (.Assign [.Name y py] (.ListComp elt [⟨tg, iter, ifs, 0⟩] scope pos) spos :: rest) R := .mk fun hV s S Q E k => by
  refine wpAny_execs_cons ?_
  rw [exec_Assign_Name_used _ _ _ _ hsw]
  refine wpAny_bind (wpAny_standAt (wpAny_bind ?_))
  show wpAny _ A (do let _ ← comprehension (.ListComp elt [⟨tg, iter, ifs, 0⟩] scope pos) scope env _ (newList []) false (eval iter env) (some (PySem.assign (PySem.Expr.Name y py) env))) _ _ s
  refine wpAny_bind (wpAny_mono (Q := fun _ s' => wpAny (model prog w) A (execs rest env) Q E s') ?_ (fun _ s' hq => wpAny_pure (wpAny_pure hq)) fun _ _ e => e)
  refine comp_main hi hclos hr hk hnames hAs hback hsz htest helt hs S.fm fun s' D C ys hs' k' hD hC hDC hns hDy hys => ?_
  obtain ⟨h₃, t₃, rfl⟩ := hs'
  obtain ⟨m, hm⟩ := hns
  have hCe : ∃ o, h₃.get? C = some o := by obtain ⟨o, _, _, g, _⟩ := hm; exact ⟨o, g⟩
  have Sh : Sd base W ([C] ++ F) env σ h₃ := S.hide k' fun b mb => by
    rw [List.mem_singleton.mp mb]; exact ⟨hC, hCe⟩
  have Lw : env.locals ∉ [C] := fun mb => by
    obtain ⟨_, _, _, _, g, _⟩ := S.ns
    rw [List.mem_singleton.mp mb] at g; exact none_some hC g
  have Cw : ∀ x c, env.cells.lookup x = some c → c ∉ [C] := fun x c e mb => by
    obtain ⟨_, _, g, _⟩ := S.cel x c e
    rw [List.mem_singleton.mp mb] at g; exact none_some hC g
  have qD : (Pl (doneTo b d n)).P (.ref D) (hid ([C] ++ F) h₃) := by
    refine ⟨_, ys.toList, rfl, ?_, hys h₃ (fun b o _ e => e) _ fun b mb => mb⟩
    obtain ⟨nD, gD⟩ := hDy
    exact ⟨nD, hideAll_get _ gD fun mb => (List.mem_cons.mp mb).elim (fun z => hDC z) fun z => S.fm.fresh hD z⟩
  show wpAny _ A (PySem.assign (PySem.Expr.Name y py) env (.ref D)) _ _ _
  refine wpAny_assign_Name (Sh.store (s := { s with heap := h₃, toks := t₃ }) qD (.inl hy) _ _ fun s₄ k₄ S₄ => ?_)
  have hns₄ : s₄.heap.Ns C m := hm.at' fun o g => k₄.not g fun mb => by
    have := S.nb C mb
    obtain ⟨o', e⟩ := S.fm.old C (S.sub C mb)
    exact none_some hC e
  refine ⟨m, hns₄, fun h' hsb => ?_⟩
  have S₅ : Sd base W F env ((y, Pl (doneTo b d n)) :: drop y σ) h' := S₄.letGo (fun b o nm e => (hsb.2 b fun z => nm (z ▸ .head _)).trans e) Lw Cw (fun b mb => by rw [List.mem_singleton.mp mb]; exact none_of S.fm.base hC)
    (fun b mb z => by rw [List.mem_singleton.mp z] at mb; exact S.fm.fresh hC mb) S.sub
  refine hrest.go hV { s₄ with heap := h' } S₅ Q E fun fl s₆ k₆ r => k fl s₆ ((hV.go _ _ ?_).trans k₆) r
  obtain ⟨h₄, t₄, e₄, kk⟩ := k₄
  subst e₄
  refine ⟨h', t₄, rfl, fun b o e => ?_⟩
  obtain ⟨o', g, nn⟩ := kk b o (k' b o e)
  exact ⟨o', (hsb.2 b fun z => none_some hC (z ▸ e)).trans g, nn⟩
end
end Mine
end

section
open PySem PySem.W PySem.Calls PySem.Spec
set_option linter.unusedVariables false
namespace Mine

noncomputable def Rg (a b : Int) : Ty := ⟨fun v h => ∃ r t u z, v = .ref r ∧ IsRange h r a b 1 t u z, fun v h h' k x => by
  obtain ⟨r, t, u, z, e, q⟩ := x
  exact ⟨r, t, u, z, e, k _ _ q⟩⟩

section
variable {prog : Program} {w : World} {A : Around} {base : Heap} {F : List Addr} {env : Env} {σ : List (Str × Ty)} {n : Nat}

theorem size_none (h : Heap) : h.get? h.objs.size = none := by
  cases q : h.get? h.objs.size with
  | none => rfl
  | some o => exact absurd (Heap.lt_size q) (Nat.lt_irrefl _)
theorem size_out {F : List Addr} {s : Shared} (hF : ∀ b ∈ F, ∃ o, s.heap.get? b = some o) : s.heap.objs.size ∉ F := fun m => by
  obtain ⟨o, e⟩ := hF _ m
  exact none_some (size_none _) e

theorem It.list {x : Str} {px : Pos} {iter : Expr} {ds : List PyData} (R : Room n A) (he : Ev prog w A base F env σ iter (Py (.list ds))) : It prog w A base F env σ (.Name x px) iter ds.length (fun i => Py (ds.getD i .none)) := .mk fun s f Q E h =>
  he.go s f _ E fun v s₁ k₁ q₁ => by
    obtain ⟨a, vs, rfl, hl, hv⟩ := py_list q₁
    have f₁ := f.keeps k₁.ext
    have hla : s₁.heap.IsList a vs.toArray := let ⟨o, e, r⟩ := hl; ⟨o, of_hideAll F e, r⟩
    have haF : a ∉ F := by obtain ⟨o, e, _⟩ := hl; exact hid_notin e
    have hne : a ≠ s₁.heap.objs.size := by obtain ⟨o, e, _⟩ := hla; exact fun z => none_some (size_none _) (z ▸ e)
    refine wpAny_pyIter_list hla ?_
    have k₂ := Kp.push s₁ { cls := .type "list_iterator", data := .fields #[.ref a, .int 0 0] }
    have Wk := Walks.list (prog := prog) (w := w) R.hh s₁.heap.objs.size a hne vs.toArray
    have hlen : vs.toArray.size = ds.length := by simp [hv.length]
    rw [hlen] at Wk
    have hI : (s₁.heap.push { cls := .type "list_iterator", data := .fields #[.ref a, .int 0 0] }).get? s₁.heap.objs.size = some { cls := .type "list_iterator", data := .fields #[.ref a, .int 0 0] } := Heap.get?_push_size _ rfl
    refine h _ _ _ _ _ _ (k₁.trans k₂) (Wks.of Wk) (fun b m => ?_) (fun b m => ?_) ⟨⟨_, hI, rfl, rfl⟩, hla.at fun o e => k₂.ext _ o e⟩ (fun i h st b m => ?_) fun F' i v h₀ h' hi hPv ho he => ?_
    · rw [List.mem_singleton.mp m]; exact ⟨none_of k₁.ext (size_none _), _, hI⟩
    · rcases List.mem_cons.mp m with rfl | m
      · exact ⟨size_out f₁.old, _, hI⟩
      · rw [List.mem_singleton.mp m]
        obtain ⟨o, e, _⟩ := hla
        exact ⟨haF, o, k₂.ext _ o e⟩
    · rw [List.mem_singleton.mp m]; obtain ⟨o, e, _⟩ := st.1; exact ⟨o, e⟩
    · have hd : ds[i]? = some (ds.getD i .none) := by simp [hi]
      obtain ⟨v', e', q'⟩ := hv.get hd
      have : v = v' := by
        have hPv' : vs.toArray[i]? = some v := hPv
        simp only [List.getElem?_toArray] at hPv'
        rw [e'] at hPv'; exact (Option.some.inj hPv').symm
      subst this
      exact (Py _).mono _ _ _ he ((Py _).mono _ _ _ (hid_ext' fun b o nm e => ⟨k₂.ext b o e, fun m => (List.mem_append.mp m).elim (fun m => none_some (size_none s₁.heap) ((List.mem_singleton.mp m) ▸ e)) nm⟩) q')

theorem It.range {x : Str} {px : Pos} {iter : Expr} {a b : Int} {k : Nat} (R : Room n A) (he : Ev prog w A base F env σ iter (Rg a b)) (ha : -(2 ^ 62) ≤ a) (ha' : a < 2 ^ 62) (hb : -(2 ^ 62) ≤ b) (hb' : b < 2 ^ 62) (hk : (b - a).toNat = k) :
    It prog w A base F env σ (.Name x px) iter k (fun i => TI (a + i)) := .mk fun s f Q E h =>
  he.go s f _ E fun v s₁ k₁ q₁ => by
    obtain ⟨r, t, u, z, rfl, hr⟩ := q₁
    have f₁ := f.keeps k₁.ext
    refine wpAny_pyIter_range (of_hideAll F hr) (small_one ha ha' hb hb') ?_
    have k₂ := Kp.push s₁ { cls := .type "range_iterator", data := .fields #[rawInt a, rawInt (Builtin.Range.rangeSize a b 1), rawInt 1] }
    have Wk := Walks.range (prog := prog) (w := w) R.hh s₁.heap.objs.size a 1 k
    have hI : (s₁.heap.push { cls := .type "range_iterator", data := .fields #[rawInt a, rawInt (Builtin.Range.rangeSize a b 1), rawInt 1] }).get? s₁.heap.objs.size = some { cls := .type "range_iterator", data := .fields #[rawInt a, rawInt (Builtin.Range.rangeSize a b 1), rawInt 1] } := Heap.get?_push_size _ rfl
    have hs : Builtin.Range.rangeSize a b 1 = (k : Int) := by rw [rangeSize_one]; split <;> omega
    refine h _ _ _ _ _ _ (k₁.trans k₂) (Wks.of Wk) (fun b m => ?_) (fun b m => ?_) ?_ (fun i h st b m => ?_) fun F' i v h₀ h' hi hPv ho he => ?_
    · rw [List.mem_singleton.mp m]; exact ⟨none_of k₁.ext (size_none _), _, hI⟩
    · rw [List.mem_singleton.mp m]; exact ⟨size_out f₁.old, _, hI⟩
    · show IsRangeIter _ _ _ _ _
      have e1 : a + ((0 : Nat) : Int) * 1 = a := by omega
      have e2 : (k : Int) - ((0 : Nat) : Int) = Builtin.Range.rangeSize a b 1 := by rw [hs]; omega
      rw [e1, e2]; exact hI
    · rw [List.mem_singleton.mp m]; exact ⟨_, st⟩
    · obtain ⟨t, e⟩ := hPv
      rw [e, show a + (i : Int) * 1 = a + i by omega]; exact int_py _ _ _

theorem Fn.range1 {a : Int} : Fn prog w n base (.type "range") [TI a] (Rg 0 a) := .mk fun A F s vs R hb hF ha Q E h => by
  cases ha with
  | cons q r => cases r; obtain ⟨t, rfl⟩ := py_int q; exact call_range_1 (h _ _ ⟨_, _, rfl, fun b o e => Heap.get?_push_of_some _ e⟩ ⟨_, _, _, _, rfl, hideAll_get F (Heap.get?_push_size _ rfl) (size_out hF)⟩)
theorem Fn.range2 {a b : Int} : Fn prog w n base (.type "range") [TI a, TI b] (Rg a b) := .mk fun A F s vs R hb hF ha Q E h => by
  cases ha with
  | cons q r =>
    cases r with
    | cons q' r => cases r; obtain ⟨t, rfl⟩ := py_int q; obtain ⟨u, rfl⟩ := py_int q'; exact call_range_2 (h _ _ ⟨_, _, rfl, fun b o e => Heap.get?_push_of_some _ e⟩ ⟨_, _, _, _, rfl, hideAll_get F (Heap.get?_push_size _ rfl) (size_out hF)⟩)
end
end Mine
end

section
open PySem PySem.W PySem.Calls PySem.Spec
open PyProof.Rows (IntsAre)
set_option linter.unusedVariables false
namespace Mine

noncomputable abbrev TL (ns : List Int) : Ty := Py (.list (ns.map .int))
noncomputable abbrev TLs (xs : List Str) : Ty := Py (.list (xs.map .str))

section
variable {prog : Program} {w : World} {A : Around} {base : Heap} {F : List Addr} {env : Env} {σ : List (Str × Ty)} {n : Nat}

theorem isl {a : Addr} {vs : Array Value} {h : Heap} (hl : (hid F h).IsList a vs) : h.IsList a vs := let ⟨o, e, r⟩ := hl; ⟨o, of_hideAll F e, r⟩
theorem ist {a : Addr} {vs : Array Value} {h : Heap} (hl : (hid F h).IsTuple a vs) : h.IsTuple a vs := let ⟨o, e, r⟩ := hl; ⟨o, of_hideAll F e, r⟩

theorem Md.str {x : Str} {name : Str} {id : String} (sl : Slot "str" name id) (ty : typeOf (.builtin id) = pure (.type "method_descriptor")) : Md F (TS x) name id :=
  ⟨fun v s q => by obtain ⟨t, rfl⟩ := py_str q; exact ⟨"str", PySem.F.plainAttrs_str, sl, typeIs_str s x t, fun _ e => nomatch e⟩, ty⟩

theorem all2_strs {h : Heap} : ∀ {vs : List Value} {xs : List Str}, All2 h vs (xs.map .str) → ∃ l : List (Str × Tok), vs = strValues l ∧ l.map (·.1) = xs
  | [], [], _ => ⟨[], rfl, rfl⟩
  | [], _ :: _, h => by cases h
  | _ :: _, [], h => by cases h
  | v :: vs, x :: xs, .cons q r => by
    obtain ⟨t, rfl⟩ := py_str q
    obtain ⟨l, rfl, rfl⟩ := all2_strs r
    exact ⟨(x, t) :: l, rfl, rfl⟩
theorem all2_ints {h : Heap} : ∀ {vs : List Value} {ns : List Int}, All2 h vs (ns.map .int) → IntsAre vs ns
  | [], [], _ => .nil
  | [], _ :: _, h => by cases h
  | _ :: _, [], h => by cases h
  | v :: vs, x :: xs, .cons q r => by
    obtain ⟨t, rfl⟩ := py_int q
    exact .cons _ _ (all2_ints r)
theorem ints_all2 {h : Heap} : ∀ {vs : List Value} {ns : List Int}, IntsAre vs ns → All2 h vs (ns.map .int)
  | _, _, .nil => .nil
  | _, _, .cons _ _ r => .cons (int_py _ _ _) (ints_all2 r)

theorem Fn.join {sep : Str} {xs : List Str} (hok : JoinOk sep xs = true) : Fn prog w n base (.builtin "str.join") [TS sep, TLs xs] (TS (Txt.join sep xs)) := .mk fun A F s vs R hb hF ha Q E h => by
  cases ha with
  | cons q r =>
    cases r with
    | cons q' r =>
      cases r
      obtain ⟨t, rfl⟩ := py_str q
      obtain ⟨a, vs, rfl, hl, hv⟩ := py_list q'
      obtain ⟨l, rfl, e⟩ := all2_strs hv
      exact SC.join (isl hl) e hok fun t' k => h _ _ (Kp.tok s _) (str_py _ _ _)

/-- an item by its place -/
structure SubR (prog : Program) (w : World) (T₁ T₂ T : Ty) : Prop where
  go : ∀ A F s v₁ v₂, Room 1 A → (∀ b ∈ F, ∃ o, s.heap.get? b = some o) → T₁.P v₁ (hid F s.heap) → T₂.P v₂ (hid F s.heap) →
    (∃ T id, s.TypeIs v₁ T ∧ typeLookup (.type T) "__getitem__" = pure (some (.builtin id))) ∧ ∀ (Q E : Value → Shared → Prop),
    (∀ v s', Kp s s' → T.P v (hid F s'.heap) → Q v s') → wpAny (model prog w) A (getItem v₁ v₂) Q E s
theorem Ev.item {value slice : Expr} {pos : Pos} {T₁ T₂ T : Ty} (R : Room 1 A) (hl : Ev prog w A base F env σ value T₁) (hr : Ev prog w A base F env σ slice T₂) (ho : SubR prog w T₁ T₂ T)
    (hs : ∀ o i, subscripted slice false o i = operate [o, i] (getItem o i) := by intro _ _; rfl) :
    Ev prog w A base F env σ (.Subscript value slice pos) T := .mk fun s f Q E h =>
  PyProof.Rows.Subscript_ (hl.go s f _ E fun v₁ s₁ k₁ q₁ => hr.go s₁ (f.keeps k₁.ext) _ E fun v₂ s₂ k₂ q₂ => by
    have k := k₁.trans k₂
    obtain ⟨⟨T, id, ti, tl⟩, g⟩ := ho.go A F s₂ v₁ v₂ R (f.keeps k.ext).old (T₁.mono _ _ _ (hid_ext fun b o _ e => k₂.ext b o e) q₁) q₂
    exact PyProof.Rows.tail_any ti tl (g Q E fun v s' k' q => h v s' (k.trans k') q) (hs _ _))
theorem SubR.list {ds : List PyData} {k : Int} {d : PyData} (h0 : 0 ≤ k) (hk : k < 2 ^ 63) (hd : ds[k.toNat]? = some d) : SubR prog w (Py (.list ds)) (TI k) (Py d) := .mk fun A F s v₁ v₂ R _ q₁ q₂ => by
  obtain ⟨a, vs, rfl, hl, hv⟩ := py_list q₁
  obtain ⟨t, rfl⟩ := py_int q₂
  obtain ⟨v, e, q⟩ := hv.get hd
  exact ⟨⟨_, _, (isl hl).typeIs, slot_list_getitem.lookup⟩, fun Q E h => wpAny_getItem_list (isl hl) h0 hk (by simpa using e) (h v s (Kp.refl s) q)⟩

noncomputable def intEq (k : Int) : Value → Bool
  | .int i _ => i == k
  | _ => false
theorem ints_any {k : Int} : ∀ {vs : List Value} {ns : List Int}, IntsAre vs ns → vs.any (intEq k) = ns.any (· == k)
  | _, _, .nil => rfl
  | _, _, .cons n t r => by simp [intEq, ints_any r]
theorem ints_mem {vs : List Value} {ns : List Int} : IntsAre vs ns → ∀ v ∈ vs, ∃ i t, v = .int i t
  | .nil, _, m => by cases m
  | .cons n t r, v, m => by
    rcases List.mem_cons.mp m with rfl | m
    · exact ⟨_, _, rfl⟩
    · exact ints_mem r v m
theorem CmpR.inList {k : Int} {ns : List Int} : CmpR prog w .In (TI k) (TL ns) (ns.any (· == k)) := .mk fun A F s v₁ v₂ R _ q₁ q₂ Q E h => by
  obtain ⟨t, rfl⟩ := py_int q₁
  obtain ⟨a, vs, rfl, hl, hv⟩ := py_list q₂
  have hi := all2_ints hv
  refine SeqAt.in_listAt (intEq k) (isl hl) (fun y hy => ?_) ?_
  · obtain ⟨i, u, rfl⟩ := ints_mem hi y (by simpa using hy)
    exact SeqAt.EqAt.int_int _ _ _ _
  · have : vs.toArray.any (intEq k) = ns.any (· == k) := by rw [← ints_any hi]; simp
    rw [this]; exact h s (Kp.refl s)
theorem CmpR.notInList {k : Int} {ns : List Int} : CmpR prog w .NotIn (TI k) (TL ns) (!ns.any (· == k)) := .mk fun A F s v₁ v₂ R _ q₁ q₂ Q E h => by
  obtain ⟨t, rfl⟩ := py_int q₁
  obtain ⟨a, vs, rfl, hl, hv⟩ := py_list q₂
  have hi := all2_ints hv
  refine SeqAt.notIn_listAt (intEq k) (isl hl) (fun y hy => ?_) ?_
  · obtain ⟨i, u, rfl⟩ := ints_mem hi y (by simpa using hy)
    exact SeqAt.EqAt.int_int _ _ _ _
  · have : vs.toArray.any (intEq k) = ns.any (· == k) := by rw [← ints_any hi]; simp
    rw [this]; exact h s (Kp.refl s)
end
end Mine
end

section
open PySem PySem.W PySem.Calls PySem.Spec
set_option linter.unusedVariables false
namespace Mine

/-- what can be seen of a comprehension's block -/
noncomputable def compOk (scope : Scope) (x : Str) (fs : List Str) : Bool :=
  scope.kind == .function && scope.names.all (fun y => y.2 != .local || scope.names.lookup y.1 == some .local) && scope.names.lookup x == some .local && fs.all fun y => !(y == x)

structure Free (scope : Scope) (cl : List (Str × Addr)) (env : Env) (σ : List (Str × Ty)) (x : Str) (c : Addr) (T : Ty) : Prop where
  mem : (x, T) ∈ σ
  kind : env.kindOf x = some .cell
  cell : env.cells.lookup x = some c
  here : (relabel scope env).names.lookup x = some .cell
  look : ∀ k, (cellsFrom k scope.names cl).lookup x = some c
inductive Frees (scope : Scope) (cl : List (Str × Addr)) (env : Env) (σ : List (Str × Ty)) : List (Str × Addr) → List (Str × Ty) → Prop
  | nil : Frees scope cl env σ [] []
  | cons {x c T cs τ} : Free scope cl env σ x c T → Frees scope cl env σ cs τ → Frees scope cl env σ ((x, c) :: cs) ((x, T) :: τ)
theorem Frees.left {scope : Scope} {cl cs : List (Str × Addr)} {env : Env} {σ τ : List (Str × Ty)} (h : Frees scope cl env σ cs τ) : ∀ p ∈ τ, ∃ c, (p.1, c) ∈ cs ∧ Free scope cl env σ p.1 c p.2 := by
  induction h with
  | nil => intro p m; cases m
  | cons f r ih =>
    intro p m
    rcases List.mem_cons.mp m with rfl | m
    · exact ⟨_, .head _, f⟩
    · obtain ⟨c, m', f'⟩ := ih p m
      exact ⟨c, .tail _ m', f'⟩
theorem Frees.right {scope : Scope} {cl cs : List (Str × Addr)} {env : Env} {σ τ : List (Str × Ty)} (h : Frees scope cl env σ cs τ) : ∀ p ∈ cs, ∃ T, Free scope cl env σ p.1 p.2 T := by
  induction h with
  | nil => intro p m; cases m
  | cons f r ih =>
    intro p m
    rcases List.mem_cons.mp m with rfl | m
    · exact ⟨_, f⟩
    · exact ih p m
theorem Frees.names {scope : Scope} {cl cs : List (Str × Addr)} {env : Env} {σ τ : List (Str × Ty)} (h : Frees scope cl env σ cs τ) : τ.map (·.1) = cs.map (·.1) := by
  induction h with
  | nil => rfl
  | cons f r ih => simp [ih]
theorem Frees.reach {scope : Scope} {cl : List (Str × Addr)} {env : Env} {σ τ : List (Str × Ty)} (h : Frees scope cl env σ cl τ) : Reach scope cl env σ τ :=
  ⟨fun p m => by
    obtain ⟨c, mc, f⟩ := h.left p m
    exact ⟨f.mem, by rw [f.kind]; simp, c, f.cell, mc, .inl f.here, f.look⟩, fun x c m => by
    obtain ⟨T, f⟩ := h.right (x, c) m
    exact ⟨by rw [f.kind]; simp, f.cell, T, f.mem⟩⟩

theorem doneTo_all (d : Nat → PyData) (n : Nat) : doneTo (fun _ => true) d n = (List.range n).map d := by
  unfold doneTo; rw [List.filter_eq_self.mpr (fun _ _ => rfl)]
theorem Pl.le' {ds es : List PyData} (h : ds = es) : Le (Pl ds) (Py (.list es)) := h ▸ Pl.le

section
variable {prog : Program} {w : World} {A : Around} {base : Heap} {F : List Addr} {env : Env} {σ : List (Str × Ty)}
theorem ok_parts {scope : Scope} {x : Str} {fs : List Str} (h : compOk scope x fs = true) : scope.kind = .function ∧ (∀ y ∈ scope.names, y.2 = .local → scope.names.lookup y.1 = some .local) ∧ scope.names.lookup x = some .local ∧ ∀ y ∈ fs, y ≠ x := by
  unfold compOk at h
  simp only [Bool.and_eq_true, beq_iff_eq, List.all_eq_true, Bool.or_eq_true, bne_iff_ne, ne_eq, Bool.not_eq_true'] at h
  obtain ⟨⟨⟨h1, h2⟩, h3⟩, h4⟩ := h
  exact ⟨h1, fun y m e => (h2 y m).elim (fun n => absurd e n) id, h3, fun y m e => by have := h4 y m; rw [e] at this; simp at this⟩

theorem hname {scope : Scope} {x : Str} {px : Pos} {cl : List (Str × Addr)} {σc : List (Str × Ty)} {n : Nat} {τ : Nat → Ty} (hf : Frees scope cl env σ cl σc) (h3 : scope.names.lookup x = some .local) (h4 : ∀ y ∈ cl.map (·.1), y ≠ x) :
    ∀ C Fc i, i < n → As prog w A base (cfoot scope C) Fc (cenvOf scope cl C env) (.Name x px) (τ i) σc ((x, τ i) :: σc) := fun C Fc i _ =>
  (As.name (env := cenvOf scope cl C env) (x := x) (px := px) (.inl (show (relabel scope env).names.lookup x = some .local from lookup_relabel_local h3))).less (fun p m => m) fun p m => by
    rcases List.mem_cons.mp m with rfl | m
    · exact .head _
    · refine .tail _ (List.mem_filter.mpr ⟨m, ?_⟩)
      have := h4 p.1 (by rw [← hf.names]; exact List.mem_map.mpr ⟨p, m, rfl⟩)
      simp [this]
theorem Ev.comp {elt iter : Expr} {x : Str} {px : Pos} {ifs : List Expr} {scope : Scope} {pos : Pos} {cl : List (Str × Addr)} {σc : List (Str × Ty)} {n : Nat} {τ : Nat → Ty} {b : Nat → Bool} {d : Nat → PyData}
    (hi : It prog w A base F env σ (.Name x px) iter n τ) (hclos : closureFor scope env = pure cl) (hf : Frees scope cl env σ cl σc) (hsz : n ≤ 1000)
    (htest : ∀ C Fc i, i < n → Trs prog w A base Fc (cenvOf scope cl C env) ((x, τ i) :: σc) ifs (b i))
    (helt : ∀ C Fc i, i < n → b i = true → Ev prog w A base Fc (cenvOf scope cl C env) ((x, τ i) :: σc) elt (Py (d i)))
    (ok : compOk scope x (cl.map (·.1)) = true := by kernel_rfl) (hs : ∀ x, foldedSetIterable iter env x = pure x := by intro _; rfl) :
    Ev prog w A base F env σ (.ListComp elt [⟨.Name x px, iter, ifs, 0⟩] scope pos) (Pl (doneTo b d n)) := by
  obtain ⟨h1, h2, h3, h4⟩ := ok_parts ok
  refine Ev.listComp hi hclos hf.reach h1 h2 (hname hf h3 h4) (fun i p m => .tail _ m) (Nat.le_trans hsz (by decide)) htest helt hs
theorem Bx.comp {W : List Addr} {V : Gd} {rest : List Stmt} {R : Flow → Heap → Prop} {elt iter : Expr} {x y : Str} {px py spos : Pos} {ifs : List Expr} {scope : Scope} {pos : Pos} {cl : List (Str × Addr)} {σc : List (Str × Ty)} {n : Nat} {τ : Nat → Ty} {b : Nat → Bool} {d : Nat → PyData}
    (hi : It prog w A base F env σ (.Name x px) iter n τ) (hclos : closureFor scope env = pure cl) (hf : Frees scope cl env σ cl σc) (hsz : n ≤ 1000)
    (htest : ∀ C Fc i, i < n → Trs prog w A base Fc (cenvOf scope cl C env) ((x, τ i) :: σc) ifs (b i))
    (helt : ∀ C Fc i, i < n → b i = true → Ev prog w A base Fc (cenvOf scope cl C env) ((x, τ i) :: σc) elt (Py (d i)))
    (hy : env.kindOf y = some .local) (hrest : Bx prog w A base W V F env ((y, Pl (doneTo b d n)) :: drop y σ) rest R)
    (hsw : swapsWith (.ListComp elt [⟨.Name x px, iter, ifs, 0⟩] scope pos) (some (.Name y py)) spos.line env = pure true := by rfl) (ok : compOk scope x (cl.map (·.1)) = true := by kernel_rfl) (hs : ∀ x, foldedSetIterable iter env x = pure x := by intro _; rfl) :
    Bx prog w A base W V F env σ (.Assign [.Name y py] (.ListComp elt [⟨.Name x px, iter, ifs, 0⟩] scope pos) spos :: rest) R := by
  obtain ⟨h1, h2, h3, h4⟩ := ok_parts ok
  refine Bx.assignComp hi hclos hf.reach h1 h2 (hname hf h3 h4) (fun i p m => .tail _ m) (Nat.le_trans hsz (by decide)) htest helt hy hrest hsw hs
end
end Mine
end

section
open PySem PySem.W PySem.Calls PySem.Spec
open PyProof.Rows (IntsAre)
set_option linter.unusedVariables false
namespace Mine

section
variable {prog : Program} {w : World}
theorem BinR.mul {a b : Int} (hm : IntMulOk a b) : BinR prog w .Mult (TI a) (TI b) (TI (a * b)) := .mk fun A F s v₁ v₂ R _ q₁ q₂ Q E h => by
  obtain ⟨t, rfl⟩ := py_int q₁; obtain ⟨u, rfl⟩ := py_int q₂
  exact PyProof.Rows.mul_int (h _ _ (Kp.tok s _) (int_py _ _ _)) hm
theorem BinR.fdiv {a b : Int} (hb : b ≠ 0) (hp : Builtin.divisionGoesByPylong a b = false) : BinR prog w .FloorDiv (TI a) (TI b) (TI (a.fdiv b)) := .mk fun A F s v₁ v₂ R _ q₁ q₂ Q E h => by
  obtain ⟨t, rfl⟩ := py_int q₁; obtain ⟨u, rfl⟩ := py_int q₂
  exact PyProof.Rows.floordiv_int hb (h _ _ (Kp.tok s _) (int_py _ _ _)) (.inl hp)
theorem BinR.pow {a n : Int} (hn : 0 ≤ n) (hsz : (Builtin.Int.intBits a : Int) * n ≤ 2 ^ 27) : BinR prog w .Pow (TI a) (TI n) (TI (a ^ n.toNat)) := .mk fun A F s v₁ v₂ R _ q₁ q₂ Q E h => by
  obtain ⟨t, rfl⟩ := py_int q₁; obtain ⟨u, rfl⟩ := py_int q₂
  exact PyProof.Rows.pow_int hn hsz (h _ _ (Kp.tok s _) (int_py _ _ _))
theorem CmpR.eqI {a b : Int} : CmpR prog w .Eq (TI a) (TI b) (a == b) := .mk fun A F s v₁ v₂ R _ q₁ q₂ Q E h => by
  obtain ⟨t, rfl⟩ := py_int q₁; obtain ⟨u, rfl⟩ := py_int q₂
  exact PyProof.Rows.eq_int (h s (Kp.refl s))
theorem CmpR.neI {a b : Int} : CmpR prog w .NotEq (TI a) (TI b) (a != b) := .mk fun A F s v₁ v₂ R _ q₁ q₂ Q E h => by
  obtain ⟨t, rfl⟩ := py_int q₁; obtain ⟨u, rfl⟩ := py_int q₂
  exact PyProof.Rows.ne_int (h s (Kp.refl s))
theorem CmpR.ltI {a b : Int} : CmpR prog w .Lt (TI a) (TI b) (decide (a < b)) := .mk fun A F s v₁ v₂ R _ q₁ q₂ Q E h => by
  obtain ⟨t, rfl⟩ := py_int q₁; obtain ⟨u, rfl⟩ := py_int q₂
  exact PyProof.Rows.lt_int (h s (Kp.refl s))
theorem CmpR.leI {a b : Int} : CmpR prog w .LtE (TI a) (TI b) (decide (a ≤ b)) := .mk fun A F s v₁ v₂ R _ q₁ q₂ Q E h => by
  obtain ⟨t, rfl⟩ := py_int q₁; obtain ⟨u, rfl⟩ := py_int q₂
  exact PyProof.Rows.le_int (h s (Kp.refl s))
theorem CmpR.geI {a b : Int} : CmpR prog w .GtE (TI a) (TI b) (decide (b ≤ a)) := .mk fun A F s v₁ v₂ R _ q₁ q₂ Q E h => by
  obtain ⟨t, rfl⟩ := py_int q₁; obtain ⟨u, rfl⟩ := py_int q₂
  exact PyProof.Rows.ge_int (h s (Kp.refl s))
theorem CmpR.eqS {a b : Str} : CmpR prog w .Eq (TS a) (TS b) (a == b) := .mk fun A F s v₁ v₂ R _ q₁ q₂ Q E h => by
  obtain ⟨t, rfl⟩ := py_str q₁; obtain ⟨u, rfl⟩ := py_str q₂
  exact PyProof.Rows.eq_str (h s (Kp.refl s))
theorem CmpR.neS {a b : Str} : CmpR prog w .NotEq (TS a) (TS b) (a != b) := .mk fun A F s v₁ v₂ R _ q₁ q₂ Q E h => by
  obtain ⟨t, rfl⟩ := py_str q₁; obtain ⟨u, rfl⟩ := py_str q₂
  exact PyProof.Rows.ne_str (h s (Kp.refl s))
theorem CmpR.eqD {a b : PyData} (ha : a.canLay0 = true) (hb : b.canLay0 = true) (hd : min a.depth b.depth ≤ 800) : CmpR prog w .Eq (Py a) (Py b) (PyData.eqv a b) := .mk fun A F s v₁ v₂ R _ q₁ q₂ Q E h => by
  obtain ⟨as, r⟩ := q₁; obtain ⟨bs, r'⟩ := q₂
  exact SeqAt.compareEq_reads (PyProof.Rows.Reads.keeps hid_self r) (PyProof.Rows.Reads.keeps hid_self r') ha hb (R.u _ hd) (h s (Kp.refl s))
theorem CmpR.neD {a b : PyData} (ha : a.canLay0 = true) (hb : b.canLay0 = true) (hd : min a.depth b.depth ≤ 800) : CmpR prog w .NotEq (Py a) (Py b) (!PyData.eqv a b) := .mk fun A F s v₁ v₂ R _ q₁ q₂ Q E h => by
  obtain ⟨as, r⟩ := q₁; obtain ⟨bs, r'⟩ := q₂
  exact SeqAt.compareNe_reads (PyProof.Rows.Reads.keeps hid_self r) (PyProof.Rows.Reads.keeps hid_self r') ha hb (R.u _ hd) (h s (Kp.refl s))
noncomputable def isN : PyData → Bool
  | .none => true
  | _ => false
theorem reads_none {h : Heap} {v : Value} {d : PyData} (q : (Py d).P v h) : (v == .none) = isN d := by
  obtain ⟨as, r⟩ := q
  cases r <;> rfl
theorem CmpR.isNone {d : PyData} : CmpR prog w .Is (Py d) (Py .none) (isN d) := .mk fun A F s v₁ v₂ R _ q₁ q₂ Q E h => by
  have e := reads_none q₁
  have := py_none q₂; subst this
  exact is_none (by rw [e]; exact h s (Kp.refl s))
theorem CmpR.isNotNone {d : PyData} : CmpR prog w .IsNot (Py d) (Py .none) (!(isN d)) := .mk fun A F s v₁ v₂ R _ q₁ q₂ Q E h => by
  have e := reads_none q₁
  have := py_none q₂; subst this
  exact isNot_none (by rw [e]; exact h s (Kp.refl s))
/-- membership in a tuple of ints -/
theorem CmpR.inTuple {k : Int} {ns : List Int} : CmpR prog w .In (TI k) (Py (.tuple (ns.map .int))) (ns.any (· == k)) := .mk fun A F s v₁ v₂ R _ q₁ q₂ Q E h => by
  obtain ⟨t, rfl⟩ := py_int q₁
  obtain ⟨a, vs, rfl, hl, hv⟩ := py_tuple q₂
  have hi := all2_ints hv
  refine SeqAt.in_tupleAt (intEq k) (ist hl) (fun y hy => ?_) ?_
  · obtain ⟨i, u, rfl⟩ := ints_mem hi y (by simpa using hy)
    exact SeqAt.EqAt.int_int _ _ _ _
  · have : vs.toArray.any (intEq k) = ns.any (· == k) := by rw [← ints_any hi]; simp
    rw [this]; exact h s (Kp.refl s)
end

section
variable {prog : Program} {w : World} {A : Around} {base : Heap} {F : List Addr} {env : Env} {σ : List (Str × Ty)} {n : Nat}

theorem Tr.not {e : Expr} {b : Bool} {pos : Pos} (h : Tr prog w A base F env σ e b) : Tr prog w A base F env σ (.UnaryOp .Not e pos) (!b) := .mk fun s f Q E k =>
  PyProof.Rows.isTrue_not (h.go s f _ E fun s' kp => k s' kp)
theorem Tr.and {a b : Expr} {x y : Bool} {pos : Pos} (h₁ : Tr prog w A base F env σ a x) (h₂ : x = true → Tr prog w A base F env σ b y) : Tr prog w A base F env σ (.BoolOp .And [a, b] pos) (x && y) := .mk fun s f Q E k =>
  PyProof.Rows.isTrue_and (h₁.go s f _ E fun s' kp => by
    cases x with
    | false => exact k s' kp
    | true => exact PyProof.Rows.isTrue_and ((h₂ rfl).go s' (f.keeps kp.ext) _ E fun s'' kp' => by
        cases y with
        | false => exact k s'' (kp.trans kp')
        | true => exact PyProof.Rows.isTrue_and_nil (k s'' (kp.trans kp'))))
theorem Tr.or {a b : Expr} {x y : Bool} {pos : Pos} (h₁ : Tr prog w A base F env σ a x) (h₂ : x = false → Tr prog w A base F env σ b y) : Tr prog w A base F env σ (.BoolOp .Or [a, b] pos) (x || y) := .mk fun s f Q E k =>
  PyProof.Rows.isTrue_or (h₁.go s f _ E fun s' kp => by
    cases x with
    | true => exact k s' kp
    | false => exact PyProof.Rows.isTrue_or ((h₂ rfl).go s' (f.keeps kp.ext) _ E fun s'' kp' => by
        cases y with
        | true => exact k s'' (kp.trans kp')
        | false => exact PyProof.Rows.isTrue_or_nil (k s'' (kp.trans kp'))))
/-- a truth test of a value -/
theorem Tr.bool {e : Expr} {b : Bool} (h : Ev prog w A base F env σ e (TB b)) (he : isTrue e env (eval e env) = (do let v ← eval e env; standAt e.pos; holding [v] (truthy v)) := by rfl) : Tr prog w A base F env σ e b := .mk fun s f Q E k =>
  PyProof.Rows.isTrue_plain (h.go s f _ E fun v s' kp q => by have := py_bool q; subst this; exact wpAny_truthy_bool (k s' kp)) he
theorem Tr.int {e : Expr} {i : Int} (h : Ev prog w A base F env σ e (TI i)) (he : isTrue e env (eval e env) = (do let v ← eval e env; standAt e.pos; holding [v] (truthy v)) := by rfl) : Tr prog w A base F env σ e (i != 0) := .mk fun s f Q E k =>
  PyProof.Rows.isTrue_plain (h.go s f _ E fun v s' kp q => by obtain ⟨t, rfl⟩ := py_int q; exact PyProof.Rows.truthy_int (k s' kp)) he
theorem Ev.or {a b : Expr} {x y : Bool} {pos : Pos} (h₁ : Ev prog w A base F env σ a (TB x)) (h₂ : x = false → Ev prog w A base F env σ b (TB y)) : Ev prog w A base F env σ (.BoolOp .Or [a, b] pos) (TB (x || y)) := .mk fun s f Q E k =>
  PyProof.Rows.BoolOp_or (h₁.go s f _ E fun v s' kp q => by
    have := py_bool q; subst this
    refine wpAny_truthy_bool ?_
    cases x with
    | true => exact k _ _ kp (bool_py _ _)
    | false => exact PyProof.Rows.BoolOp_one ((h₂ rfl).go s' (f.keeps kp.ext) _ E fun v s'' kp' q => k v s'' (kp.trans kp') q))
theorem Ev.or3 {a b c : Expr} {x y z : Bool} {pos : Pos} (h₁ : Ev prog w A base F env σ a (TB x)) (h₂ : x = false → Ev prog w A base F env σ b (TB y)) (h₃ : x = false → y = false → Ev prog w A base F env σ c (TB z)) : Ev prog w A base F env σ (.BoolOp .Or [a, b, c] pos) (TB (x || y || z)) := .mk fun s f Q E k =>
  PyProof.Rows.BoolOp_or (h₁.go s f _ E fun v s' kp q => by
    have := py_bool q; subst this
    refine wpAny_truthy_bool ?_
    cases x with
    | true => exact k _ _ kp (bool_py _ _)
    | false =>
      refine PyProof.Rows.BoolOp_or ((h₂ rfl).go s' (f.keeps kp.ext) _ E fun v s'' kp' q => ?_)
      have := py_bool q; subst this
      refine wpAny_truthy_bool ?_
      cases y with
      | true => exact k _ _ (kp.trans kp') (bool_py _ _)
      | false => exact PyProof.Rows.BoolOp_one ((h₃ rfl rfl).go s'' (f.keeps (kp.trans kp').ext) _ E fun v s₃ kp₃ q => k v s₃ ((kp.trans kp').trans kp₃) q))

/-- a tuple whose items are of these kinds -/
noncomputable def TT (Ts : List Ty) : Ty := ⟨fun v h => ∃ a vs, v = .ref a ∧ h.IsTuple a vs.toArray ∧ AllT h vs Ts, fun v h h' k x => by
  obtain ⟨a, vs, e, ⟨o, g, r⟩, q⟩ := x
  exact ⟨a, vs, e, ⟨o, k _ _ g, r⟩, q.keeps k⟩⟩
theorem allT_py {h : Heap} : ∀ {vs : List Value} {ds : List PyData}, AllT h vs (ds.map Py) → All2 h vs ds
  | [], [], _ => .nil
  | _ :: _, [], x => by cases x
  | [], _ :: _, x => by cases x
  | v :: vs, d :: ds, .cons q r => .cons q (allT_py r)
theorem py_allT {h : Heap} : ∀ {vs : List Value} {ds : List PyData}, All2 h vs ds → AllT h vs (ds.map Py)
  | _, _, .nil => .nil
  | _, _, .cons q r => .cons q (py_allT r)
theorem TT.py {ds : List PyData} : Le (TT (ds.map Py)) (Py (.tuple ds)) := fun v h ⟨a, vs, e, p, q⟩ => by subst e; exact tuple_py p (allT_py q)
theorem TT.of {ds : List PyData} : Le (Py (.tuple ds)) (TT (ds.map Py)) := fun v h q => by
  obtain ⟨a, vs, rfl, hl, hv⟩ := py_tuple q
  exact ⟨a, vs, rfl, hl, py_allT hv⟩

theorem Ev.tuple {elts : List Expr} {k : Nat} {pos : Pos} {Ts : List Ty} (h : Evs prog w A base F env σ pos elts Ts) (hsz : Ts.length ≤ 1000 := by simp) : Ev prog w A base F env σ (.Tuple elts k pos) (TT Ts) := .mk fun s f Q E q =>
  wpAny_Tuple (h.go s f _ E fun vs s' kp r => by
    have kp' := Kp.push s' { cls := .type "tuple", data := .seq vs.toArray }
    refine ⟨by rw [r.length]; exact Nat.le_trans hsz (by decide), q _ _ (kp.trans kp') ⟨_, vs, rfl, ⟨_, hideAll_get F (Heap.get?_push_size _ rfl) (size_out (f.keeps kp.ext).old), rfl, _, rfl⟩, r.keeps (hid_ext fun b o _ e => kp'.ext b o e)⟩⟩)
theorem Ev.list {elts : List Expr} {pos : Pos} {ds : List PyData} (h : Evs prog w A base F env σ pos elts (ds.map Py)) (hsz : ds.length ≤ 1000 := by simp) : Ev prog w A base F env σ (.List elts pos) (Pl ds) := .mk fun s f Q E q =>
  wpAny_List (h.go s f _ E fun vs s' kp r => by
    have kp' := Kp.push s' { cls := .type "list", data := .seq vs.toArray }
    have hl := r.length
    refine ⟨by rw [r.length, List.length_map]; exact Nat.le_trans hsz (by decide), q _ _ (kp.trans kp') ⟨_, vs, rfl, ⟨_, hideAll_get F (Heap.get?_push_size _ rfl) (size_out (f.keeps kp.ext).old)⟩, (allT_py r).keeps (hid_ext fun b o _ e => kp'.ext b o e)⟩⟩)

theorem Fn.lenL {ds : List PyData} (hs : ds.length ≤ 1000000) : Fn prog w n base (.builtin "len") [Py (.list ds)] (TI ds.length) := .mk fun A F s vs R hb hF ha Q E h => by
  cases ha with
  | cons q r =>
    cases r
    obtain ⟨a, vs, rfl, hl, hv⟩ := py_list q
    have e := hv.length
    refine PyProof.Rows.len_list (isl hl) (by simp [e]; omega) ?_
    have := h (.int ds.length (s.toks + 1)) _ (Kp.tok s (s.toks + 1 + 1)) (int_py _ _ _)
    simpa [e] using this
theorem Fn.lenI {ns : List Int} (hs : ns.length ≤ 1000000) : Fn prog w n base (.builtin "len") [TL ns] (TI ns.length) := by
  have := Fn.lenL (prog := prog) (w := w) (base := base) (n := n) (ds := ns.map .int) (by simpa using hs)
  simpa using this
theorem Fn.lenS {x : Str} (hs : x.length ≤ 1000000) : Fn prog w n base (.builtin "len") [TS x] (TI x.length) := .mk fun A F s vs R hb hF ha Q E h => by
  cases ha with
  | cons q r =>
    cases r
    obtain ⟨t, rfl⟩ := py_str q
    exact P.len_str (by omega) (h _ _ (Kp.tok s _) (int_py _ _ _))

theorem preSum_ints {vs : List Value} {ns : List Int} {xs : Array (Int × Tok)} (hi : IntsAre vs ns) (e : vs.toArray = intItems xs) : preSum (numAt xs) xs.size = ns.sum := by
  rw [preSum_eq, List.take_of_length_le (by simp), ← nums_intItems, ← e]
  show (numsOf vs).sum = _
  rw [hi.numsOf]
theorem Fn.sum {ns : List Int} : Fn prog w n base (.builtin "sum") [TL ns] (TI ns.sum) := .mk fun A F s vs R hb hF ha Q E h => by
  cases ha with
  | cons q r =>
    cases r
    obtain ⟨a, vs, rfl, hl, hv⟩ := py_list q
    have hi := all2_ints hv
    obtain ⟨xs, e⟩ := hi.allInts.items
    refine sum_intListG R.hh (xs := xs) (by rw [← e]; exact isl hl) fun h' tk t' k => ?_
    rw [preSum_ints hi e]
    exact h _ _ ⟨h', tk, rfl, k⟩ (int_py _ _ _)

noncomputable def maxL : List Int → Int
  | [] => 0
  | [x] => x
  | x :: y :: r => max x (maxL (y :: r))
theorem maxL_ge : ∀ {l : List Int} {x}, x ∈ l → x ≤ maxL l
  | [y], x, m => by simp at m; simp [maxL, m]
  | y :: z :: r, x, m => by
    rcases List.mem_cons.mp m with rfl | m
    · exact Int.le_max_left _ _
    · exact Int.le_trans (maxL_ge m) (Int.le_max_right _ _)
theorem maxL_mem : ∀ {l : List Int}, l ≠ [] → maxL l ∈ l
  | [], h => absurd rfl h
  | [y], _ => by simp [maxL]
  | y :: z :: r, _ => by
    have := maxL_mem (l := z :: r) (by simp)
    show max y (maxL (z :: r)) ∈ _
    rcases Int.le_total y (maxL (z :: r)) with h | h
    · rw [Int.max_eq_right h]; exact .tail _ this
    · rw [Int.max_eq_left h]; exact .head _
theorem maxL_of {l : List Int} {M : Int} (h1 : M ∈ l) (h2 : ∀ a ∈ l, a ≤ M) : M = maxL l :=
  Int.le_antisymm (maxL_ge h1) (h2 _ (maxL_mem (by intro e; subst e; cases h1)))
theorem numAt_mem {xs : Array (Int × Tok)} {i : Nat} (h : i < xs.size) : numAt xs i ∈ xs.toList.map (·.1) := by
  simp only [numAt, Array.getElem?_eq_getElem h, Option.map_some, Option.getD_some]
  exact List.mem_map.mpr ⟨xs[i], by simp, rfl⟩
theorem mem_numAt {xs : Array (Int × Tok)} {a : Int} (h : a ∈ xs.toList.map (·.1)) : ∃ i, i < xs.size ∧ numAt xs i = a := by
  obtain ⟨p, m, rfl⟩ := List.mem_map.mp h
  obtain ⟨i, hi, e⟩ := List.getElem_of_mem m
  have hi' : i < xs.size := by simpa using hi
  refine ⟨i, hi', ?_⟩
  simp only [numAt, Array.getElem?_eq_getElem hi', Option.map_some, Option.getD_some]
  rw [← e]; simp
theorem Fn.max {ns : List Int} (hne : ns ≠ []) : Fn prog w n base (.builtin "max") [TL ns] (TI (maxL ns)) := .mk fun A F s vs R hb hF ha Q E h => by
  cases ha with
  | cons q r =>
    cases r
    obtain ⟨a, vs, rfl, hl, hv⟩ := py_list q
    have hi := all2_ints hv
    obtain ⟨xs, e⟩ := hi.allInts.items
    have en : xs.toList.map (·.1) = ns := by
      rw [← nums_intItems, ← e]; exact hi.numsOf
    have hs : 0 < xs.size := by
      have : ns.length = xs.size := by rw [← en]; simp
      have := List.length_pos_iff.mpr hne
      omega
    refine max_intList R.hh (xs := xs) (by rw [← e]; exact isl hl) hs fun v h' tk hv' k => ?_
    obtain ⟨t, rfl⟩ := intItems_at hv'
    obtain ⟨b1, b2⟩ := argBest_gt (numAt xs) (xs.size - 1)
    have : numAt xs (argBest (fun i j => decide (numAt xs i > numAt xs j)) (xs.size - 1)) = maxL ns := by
      refine maxL_of (by rw [← en]; exact numAt_mem (by omega)) fun a m => ?_
      rw [← en] at m
      obtain ⟨i, hi, rfl⟩ := mem_numAt m
      exact b2 i (by omega)
    rw [this]
    exact h _ _ ⟨h', tk, rfl, k⟩ (int_py _ _ _)
theorem Fn.max2 {a b : Int} : Fn prog w n base (.builtin "max") [TI a, TI b] (TI (if b > a then b else a)) := .mk fun A F s vs R hb hF ha Q E h => by
  cases ha with
  | cons q r =>
    cases r with
    | cons q' r =>
      cases r
      obtain ⟨t, rfl⟩ := py_int q
      obtain ⟨u, rfl⟩ := py_int q'
      refine max_two_ints R.hh fun h' tk k => ?_
      have e : (if b > a then Value.int b u else Value.int a t) = .int (if b > a then b else a) (if b > a then u else t) := by split <;> rfl
      rw [e]
      exact h _ _ ⟨h', tk, rfl, k⟩ (int_py _ _ _)
theorem Ev.ref {e : Expr} {T T' : Ty} (l : Le T T') (h : Ev prog w A base F env σ e T) : Ev prog w A base F env σ e T' := Ev.sub h l
end
end Mine
end

section
open PySem PySem.W PySem.Calls PySem.Spec
open PyProof.Rows (IntsAre)
set_option linter.unusedVariables false
namespace Mine

section
variable {prog : Program} {w : World} {A : Around} {base : Heap} {F : List Addr} {env : Env} {σ : List (Str × Ty)} {n : Nat}

theorem Fn.find {x y : Str} : Fn prog w n base (.builtin "str.find") [TS x, TS y] (TI (Txt.find x y)) := .mk fun A F s vs R hb hF ha Q E h => by
  cases ha with
  | cons q r => cases r with
    | cons q' r => cases r; obtain ⟨t, rfl⟩ := py_str q; obtain ⟨u, rfl⟩ := py_str q'; exact SC.find (h _ _ (Kp.tok s _) (int_py _ _ _))
theorem Fn.find3 {x y : Str} {i : Int} : Fn prog w n base (.builtin "str.find") [TS x, TS y, TI i] (TI (Txt.find3 x y i)) := .mk fun A F s vs R hb hF ha Q E h => by
  cases ha with
  | cons q r => cases r with
    | cons q' r => cases r with
      | cons q'' r => cases r; obtain ⟨t, rfl⟩ := py_str q; obtain ⟨u, rfl⟩ := py_str q'; obtain ⟨z, rfl⟩ := py_int q''; exact SC.find3 (h _ _ (Kp.tok s _) (int_py _ _ _))
theorem Fn.strI {i : Int} (hi : i.natAbs.log2 < 1920) : Fn prog w n base (.type "str") [TI i] (TS (toString i : String)) := .mk fun A F s vs R hb hF ha Q E h => by
  cases ha with
  | cons q r => cases r; obtain ⟨t, rfl⟩ := py_int q; exact P.str_of_int hi (h _ _ (Kp.tok s _) (str_py _ _ _))
theorem Fn.intS {x : Str} {i : Int} (hi : PySem.intText? x = some i) (hl : x.length ≤ 640) : Fn prog w n base (.type "int") [TS x] (TI i) := .mk fun A F s vs R hb hF ha Q E h => by
  cases ha with
  | cons q r => cases r; obtain ⟨t, rfl⟩ := py_str q; exact KIN.call_text hi hl (h _ _ (Kp.tok s _) (int_py _ _ _))
theorem BinR.mulS {x : Str} {k : Int} (hok : MulOk x k) : BinR prog w .Mult (TS x) (TI k) (TS (Txt.mul x k)) := .mk fun A F s v₁ v₂ R _ q₁ q₂ Q E h => by
  obtain ⟨t, rfl⟩ := py_str q₁; obtain ⟨u, rfl⟩ := py_int q₂
  exact SB.mul hok fun t' k => h _ _ (Kp.tok s _) (str_py _ _ _)

theorem strs_all2 {h : Heap} : ∀ (l : List (Str × Tok)), All2 h (strValues l) ((l.map (·.1)).map .str)
  | [] => .nil
  | (x, t) :: r => .cons (str_py x t h) (strs_all2 r)
theorem strs_new {s : Shared} {F : List Addr} {k : Nat} (hF : ∀ b ∈ F, ∃ o, s.heap.get? b = some o) (l : List (Str × Tok)) {Q : Value → Shared → Prop} {T : List Str} (e : l.map (·.1) = T)
    (h : ∀ v s', Kp s s' → (TLs T).P v (hid F s'.heap) → Q v s') : Q (.ref s.heap.objs.size) { s with heap := s.heap.push { cls := .type "list", data := .seq (strValues l).toArray }, toks := k } := by
  have kp : Kp s { s with heap := s.heap.push { cls := .type "list", data := .seq (strValues l).toArray }, toks := k } := ⟨_, k, rfl, fun _ _ e => Heap.get?_push_of_some _ e⟩
  refine h _ _ kp ?_
  subst e
  exact list_py (vs := strValues l) ⟨_, hideAll_get F (Heap.get?_push_size _ rfl) (size_out hF), rfl, 0, rfl⟩ (strs_all2 l)
open PySem.Builtin PySem.Builtin.Str in
theorem Fn.split {x y : Str} (hy : (y.length == 0) = false) (hx : x.length ≤ 10000) : Fn prog w n base (.builtin "str.split") [TS x, TS y] (TLs (Txt.split x y)) := .mk fun A F s vs R hb hF ha Q E h => by
  cases ha with
  | cons q r => cases r with
    | cons q' r =>
      cases r; obtain ⟨t, rfl⟩ := py_str q; obtain ⟨u, rfl⟩ := py_str q'
      have e : sizeLine = 16777216 := sizeLine_eq
      have hn : (partsBetween x (occurrences x y 0 x.length (x.length + 1)) y.length).length ≤ sizeLine := by
        have := StrLaws.occ_length_le x y 0 x.length (x.length + 1)
        rw [length_partsBetween]; omega
      by_cases h1 : (decide (x.length < y.length) || decide (strKind x < strKind y)) = true
      · exact call_meets PySem.F.slot_str_split (typeIs_str _ _ _) PySem.F.entry_str_split (PySem.F.args_str_split_2 _ _) (meets_str_split_cannot_occur x y t u h1)
          (strs_new (k := s.toks) hF [(x, t)] (if_pos h1).symm h)
      · have h1' := eq_false_of_ne_true h1
        by_cases hf : (occurrences x y 0 x.length (x.length + 1)).isEmpty = true
        · exact call_meets PySem.F.slot_str_split (typeIs_str _ _ _) PySem.F.entry_str_split (PySem.F.args_str_split_2 _ _) (meets_str_split_not_found x y t u h1' hy hf)
            (strs_new (k := s.toks) hF [(x, t)] ((if_neg h1).trans (if_pos hf)).symm h)
        · refine call_meets PySem.F.slot_str_split (typeIs_str _ _ _) PySem.F.entry_str_split (PySem.F.args_str_split_2 _ _) (meets_str_split_sep x y t u h1' hy (eq_false_of_ne_true hf) (by omega) hn) ?_
          have := strs_new (k := s.toks + (partsBetween x (occurrences x y 0 x.length (x.length + 1)) y.length).length) hF (numbered s.toks (partsBetween x (occurrences x y 0 x.length (x.length + 1)) y.length)) ((numbered_texts _ _).trans ((if_neg h1).trans (if_neg hf)).symm) h
          rw [← strsFrom_eq] at this
          exact this
theorem SubR.strItem {x : Str} {i : Int} (h1 : -(x.length : Int) ≤ i) (h2 : i < x.length) (hx : x.length ≤ 1000000) : SubR prog w (TS x) (TI i) (TS (Txt.item x i)) := .mk fun A F s v₁ v₂ R _ q₁ q₂ => by
  obtain ⟨t, rfl⟩ := py_str q₁; obtain ⟨u, rfl⟩ := py_int q₂
  exact ⟨⟨_, _, typeIs_str _ _ _, PySem.F.slot_str_getitem.lookup⟩, fun Q E h => by
    obtain ⟨T, id, _, _, g⟩ := PyProof.Rows.SBL.item (prog := prog) (w := w) (A := A) (E := E) (s := s) (x := x) (t := t) (u := u) (Q := Q) h1 h2 (by omega) (fun _ => h _ _ (Kp.tok s _) (str_py _ _ _))
    exact g⟩

/-- a part of a slice -/
structure EvP (prog : Program) (w : World) (A : Around) (base : Heap) (F : List Addr) (env : Env) (σ : List (Str × Ty)) (e : Option Expr) (p : Option Int) : Prop where
  go : ∀ s, Fm base F env σ s.heap → ∀ (Q E : Value → Shared → Prop), (∀ v s', Kp s s' → IsPart v p → Q v s') → wpAny (model prog w) A (evalPart e env) Q E s
theorem EvP.none : EvP prog w A base F env σ none none := .mk fun s f Q E h => wpAny_pure (h _ _ (Kp.refl s) .none)
theorem EvP.some {e : Expr} {i : Int} (he : Ev prog w A base F env σ e (TI i)) : EvP prog w A base F env σ (some e) (some i) := .mk fun s f Q E h =>
  he.go s f Q E fun v s' kp q => by obtain ⟨t, rfl⟩ := py_int q; exact h _ _ kp (.int i t)

structure SliceR (prog : Program) (w : World) (T₁ : Ty) (lo hi st : Option Int) (T : Ty) : Prop where
  go : ∀ A F s v sl vl vu vk, Room 1 A → (∀ b ∈ F, ∃ o, s.heap.get? b = some o) → T₁.P v (hid F s.heap) → s.heap.IsSliceOf sl vl vu vk → IsPart vl lo → IsPart vu hi → IsPart vk st →
    (∃ T id, s.TypeIs v T ∧ typeLookup (.type T) "__getitem__" = pure (some (.builtin id))) ∧ ∀ (Q E : Value → Shared → Prop),
    (∀ v s', Kp s s' → T.P v (hid F s'.heap) → Q v s') → wpAny (model prog w) A (getItem v (.ref sl)) Q E s

theorem Ev.slice {value : Expr} {lower upper step : Option Expr} {p pos : Pos} {T₁ T : Ty} {lo hi st : Option Int} {ops : Value → Value → List Value} (R : Room 1 A) (hv : Ev prog w A base F env σ value T₁)
    (hlo : EvP prog w A base F env σ lower lo) (hhi : EvP prog w A base F env σ upper hi) (hst : EvP prog w A base F env σ step st) (ho : SliceR prog w T₁ lo hi st T)
    (hs : ∀ o i, subscripted (.Slice lower upper step p) false o i = operate (ops o i) (getItem o i)) :
    Ev prog w A base F env σ (.Subscript value (.Slice lower upper step p) pos) T := .mk fun s f Q E h =>
  PyProof.Rows.Subscript_ (hv.go s f _ E fun v s₁ k₁ q₁ => wpAny_Slice (hlo.go s₁ (f.keeps k₁.ext) _ E fun vl s₂ k₂ pl => hhi.go s₂ (f.keeps (k₁.trans k₂).ext) _ E fun vu s₃ k₃ pu =>
    hst.go s₃ (f.keeps ((k₁.trans k₂).trans k₃).ext) _ E fun vk s₄ k₄ pk => by
    have k₅ := Kp.push s₄ { cls := .type "slice", data := .fields #[vl, vu, vk] }
    have kv := ((k₂.trans k₃).trans k₄).trans k₅
    have k := k₁.trans kv
    obtain ⟨⟨T, id, ti, tl⟩, g⟩ := ho.go A F { s₄ with heap := s₄.heap.push { cls := .type "slice", data := .fields #[vl, vu, vk] } } v s₄.heap.objs.size vl vu vk R (f.keeps k.ext).old
      (T₁.mono _ _ _ (hid_ext fun b o _ e => kv.ext b o e) q₁) (Heap.IsSliceOf.new _ _ _ _) pl pu pk
    exact PyProof.Rows.tail_any ti tl (g Q E fun v s' k' q => h v s' (k.trans k') q) (hs _ _)))

theorem pick_all2 {h : Heap} {vs : List Value} {ds : List PyData} (hv : All2 h vs ds) : ∀ (is : List Nat), All2 h (is.filterMap (vs[·]?)) (is.filterMap (ds[·]?))
  | [] => .nil
  | i :: is => by
    cases e : ds[i]? with
    | none =>
      have : vs[i]? = none := by
        rw [List.getElem?_eq_none_iff] at e ⊢
        rw [hv.length]; exact e
      simp only [List.filterMap_cons, e, this]
      exact pick_all2 hv is
    | some d =>
      obtain ⟨v, ev, q⟩ := hv.get e
      simp only [List.filterMap_cons, e, ev]
      exact .cons q (pick_all2 hv is)
/-- what a slice picks -/
noncomputable def pick {α : Type} (ds : List α) (lo hi st : Option Int) : List α :=
  (sliceRange (sliceBounds lo hi st ds.length).1 (sliceBounds lo hi st ds.length).2.1 (sliceBounds lo hi st ds.length).2.2).filterMap (ds[·]?)
theorem SliceR.list {ds : List PyData} {lo hi st : Option Int} (h0 : st ≠ some 0) (hz : ds.length ≤ 1000000) : SliceR prog w (Py (.list ds)) lo hi st (Py (.list (pick ds lo hi st))) := .mk fun A F s v sl vl vu vk R hF q hs pl pu pk => by
  obtain ⟨a, vs, rfl, hl, hv⟩ := py_list q
  refine ⟨⟨_, _, (isl hl).typeIs, slot_list_getitem.lookup⟩, fun Q E h => ?_⟩
  have e : sizeLine = 16777216 := sizeLine_eq
  have el := hv.length
  refine wpAny_getItem_list_slice (isl hl) hs pl pu pk h0 ?_ (by simp; omega)
  have kp := Kp.push s { cls := .type "list", data := .seq (slicePick vs.toArray lo hi st) }
  refine h _ _ kp (list_py (vs := (slicePick vs.toArray lo hi st).toList) ⟨_, hideAll_get F (Heap.get?_push_size _ rfl) (size_out hF), rfl, 0, rfl⟩ ?_)
  have : (slicePick vs.toArray lo hi st).toList = (sliceRange (sliceBounds lo hi st ds.length).1 (sliceBounds lo hi st ds.length).2.1 (sliceBounds lo hi st ds.length).2.2).filterMap (vs[·]?) := by
    unfold slicePick
    simp [el]
  rw [this]
  exact (pick_all2 hv _).keeps (hid_ext fun b o _ e => kp.ext b o e)
noncomputable def optTok : Option Int → Option Int := id
theorem SliceR.str {x : Str} {lo hi : Option Int} (hz : x.length ≤ 1000000) : SliceR prog w (TS x) lo hi none (TS (Txt.slice x lo hi)) := .mk fun A F s v sl vl vu vk R hF q hs pl pu pk => by
  obtain ⟨t, rfl⟩ := py_str q
  refine ⟨⟨_, _, typeIs_str _ _ _, PySem.F.slot_str_getitem.lookup⟩, fun Q E h => ?_⟩
  have e : sizeLine = 16777216 := sizeLine_eq
  have key : ∀ l u, l.map (·.1) = lo → u.map (·.1) = hi → s.heap.IsSlice sl l u none → wpAny (model prog w) A (getItem (.str x t) (.ref sl)) Q E s := fun l u el eu hs => by
    subst el eu
    exact wpAny_getItem_str_slice hs rfl (post_val_or_str ⟨Nat.le_trans (Txt.slice_le x _ _) (by omega), fun t' k => h _ _ (Kp.tok s _) (str_py _ _ _)⟩)
  obtain ⟨o, ho, hc, hd⟩ := hs
  cases pk
  cases pl <;> cases pu
  · exact key none none rfl rfl ⟨o, ho, hc, hd⟩
  · exact key none (some (_, _)) rfl rfl ⟨o, ho, hc, hd⟩
  · exact key (some (_, _)) none rfl rfl ⟨o, ho, hc, hd⟩
  · exact key (some (_, _)) (some (_, _)) rfl rfl ⟨o, ho, hc, hd⟩

/-- the signs of a text -/
noncomputable def sgn (x : Str) (i : Nat) : Str := ⟨#[x.cps.getD i 0]⟩
theorem It.str {y : Str} {py : Pos} {iter : Expr} {x : Str} (R : Room n A) (he : Ev prog w A base F env σ iter (TS x)) (hx : x.cps.all (· < 128) = true) : It prog w A base F env σ (.Name y py) iter x.length (fun i => TS (sgn x i)) := .mk fun s f Q E h =>
  he.go s f _ E fun v s₁ k₁ q₁ => by
    obtain ⟨t, rfl⟩ := py_str q₁
    have f₁ := f.keeps k₁.ext
    refine wpAny_pyIter_ascii hx ?_
    have k₂ := Kp.push s₁ { cls := .type "str_ascii_iterator", data := .fields #[.str x t, .int 0 0] }
    have hI : (s₁.heap.push { cls := .type "str_ascii_iterator", data := .fields #[.str x t, .int 0 0] }).get? s₁.heap.objs.size = some { cls := .type "str_ascii_iterator", data := .fields #[.str x t, .int 0 0] } := Heap.get?_push_size _ rfl
    refine h _ _ _ _ _ _ (k₁.trans k₂) (Wks.of (Walks.strAscii (prog := prog) (w := w) R.hh s₁.heap.objs.size x t)) (fun b m => ?_) (fun b m => ?_) ⟨_, hI, rfl, rfl⟩ (fun i h st b m => ?_) fun F' i v h₀ h' hi hPv ho he => ?_
    · rw [List.mem_singleton.mp m]; exact ⟨none_of k₁.ext (size_none _), _, hI⟩
    · rw [List.mem_singleton.mp m]; exact ⟨size_out f₁.old, _, hI⟩
    · rw [List.mem_singleton.mp m]; obtain ⟨o, e, _⟩ := st; exact ⟨o, e⟩
    · obtain ⟨c, u, e, rfl⟩ := hPv
      have : sgn x i = ⟨#[c]⟩ := by unfold sgn; rw [Array.getD_eq_getD_getElem?, e]; rfl
      rw [this]; exact str_py _ _ _
end
end Mine
end

section
open PySem PySem.W PySem.Calls PySem.Spec
set_option linter.unusedVariables false
namespace Mine

noncomputable def stmtAt (i : Nat) : Stmt := (PySem.Challenge.pw_xg0061_01.main.body[i]?).getD (.Pass default)
noncomputable def clsBody : List Stmt := match stmtAt 13 with | .ClassDef _ _ _ b _ _ _ _ _ _ _ => b | _ => []
noncomputable def methAt (j : Nat) : Stmt := (clsBody[j]?).getD (.Pass default)
noncomputable def bodyOf (s : Stmt) : List Stmt := match s with | .FunctionDef _ _ b _ _ _ _ _ _ _ => b | _ => []
noncomputable def paramsOf (s : Stmt) : Arguments := match s with | .FunctionDef _ a _ _ _ _ _ _ _ _ => a | _ => default
noncomputable def nameOf (s : Stmt) : Str := match s with | .FunctionDef n _ _ _ _ _ _ _ _ _ => n | _ => Str.empty
noncomputable def scopeOf (s : Stmt) : Scope := match s with | .FunctionDef _ _ _ _ _ _ s _ _ _ => s | _ => default

/-- what a def's record holds besides its text -/
structure Fv where
  qual : Str
  doc : Value
  pm : Value
  an : Option Addr
  cd : Value
  ct : Value
noncomputable abbrev fdAt (st : Stmt) (z : Fv) : FuncData := fnOf (nameOf st) z.qual (paramsOf st) (bodyOf st) (scopeOf st) .none .none z.doc z.pm z.an z.cd z.ct
noncomputable abbrev envAt (st : Stmt) (z : Fv) (L a : Addr) : Env := callEnvC (fdAt st z) L a
noncomputable abbrev ftAt (st : Stmt) (z : Fv) (L : Addr) : List Addr := foot (fdAt st z) L

/-- a value is returned -/
noncomputable def Ret (T : Ty) (F : List Addr) : Flow → Heap → Prop := fun fl h => ∃ v, fl = .ret v ∧ T.P v (hid F h)
section
variable {prog : Program} {w : World} {A : Around} {base : Heap} {W : List Addr} {V : Gd} {F : List Addr} {env : Env} {σ : List (Str × Ty)} {rest : List Stmt}
theorem Bx.retR {e : Expr} {pos : Pos} {T : Ty} (he : Ev prog w A base F env σ e T) : Bx prog w A base W V F env σ (.Return (some e) pos :: rest) (Ret T F) := Bx.ret he fun v h q => ⟨v, rfl, q⟩
end

/-- a def of the text lies at a -/
structure Has (base : Heap) (st : Stmt) (a : Addr) : Prop where
  go : ∃ o z, base.get? a = some o ∧ o.data = .func (fdAt st z) ∧ base.CodeRec (fdAt st z).code (fdAt st z).qualname
/-- a module function -/
structure Gf (base : Heap) (st : Stmt) (x : Str) (a : Addr) : Prop where
  has : Has base st a
  gn : Gn base x (.ref a)
theorem Has.cal {prog : Program} {w : World} {base : Heap} {st : Stmt} {a : Addr} (g : Has base st a) : Cal prog w base (.ref a) := by
  obtain ⟨o, z, ho, hd, _⟩ := g.go
  exact Cal.fn ho hd
theorem Has.up {base h : Heap} {st : Stmt} {a : Addr} (g : Has base st a) (k : Ext base h) : Has h st a := by
  obtain ⟨o, z, ho, hd, hc⟩ := g.go
  exact ⟨o, z, k _ _ ho, hd, hc.keeps k⟩

noncomputable def cellNames (ns : List (Str × NameKind)) : List Str := (ns.filter (·.2 == .cell)).map (·.1)
theorem cellsFrom_names : ∀ (ns : List (Str × NameKind)) (k : Nat) (acc : List (Str × Addr)), (cellsFrom k ns acc).map (·.1) = (cellNames ns).reverse ++ acc.map (·.1)
  | [], _, _ => rfl
  | (x, kd) :: r, k, acc => by
    unfold cellsFrom cellNames
    cases kd <;> simp [cellsFrom_names r, cellNames]
theorem lookup_isSome {α : Type} : ∀ {l : List (Str × α)} {x : Str}, x ∈ l.map (·.1) → (l.lookup x).isSome = true
  | (y, v) :: r, x, m => by
    rw [List.lookup_cons]
    cases h : x == y with
    | true => rfl
    | false =>
      rcases List.mem_cons.mp m with e | m
      · exact absurd e (by simpa using h)
      · exact lookup_isSome m
noncomputable def scopeOk (sc : Scope) (names : List Str) : Bool :=
  decide (names.Nodup) && names.all (fun x => sc.names.lookup x == some .local || (sc.names.lookup x == some .cell && decide (x ∈ cellNames sc.names))) && decide (cellNames sc.names).Nodup && sc.kind == .function && !sc.isCoroutine && !sc.isGenerator
theorem scopeOk_parts {sc : Scope} {names : List Str} (h : scopeOk sc names = true) : (∀ k, ∀ x ∈ names, sc.names.lookup x = some .local ∨ (sc.names.lookup x = some .cell ∧ ((cellsFrom k sc.names []).lookup x).isSome = true)) ∧
    (∀ k, (cellsFrom k sc.names []).Pairwise fun x y => x.1 ≠ y.1) ∧ names.Nodup ∧ sc.kind = .function ∧ sc.isCoroutine = false ∧ sc.isGenerator = false := by
  unfold scopeOk at h
  simp only [Bool.and_eq_true, beq_iff_eq, List.all_eq_true, Bool.or_eq_true, Bool.not_eq_true', decide_eq_true_eq] at h
  obtain ⟨⟨⟨⟨⟨h1, h2⟩, h3⟩, h4⟩, h5⟩, h6⟩ := h
  refine ⟨fun k x m => ?_, fun k => ?_, h1, h4, h5, h6⟩
  · rcases h2 x m with e | ⟨e, c⟩
    · exact .inl e
    · exact .inr ⟨e, lookup_isSome (by rw [cellsFrom_names]; simpa using c)⟩
  · have : ((cellsFrom k sc.names []).map (·.1)).Nodup := by
      rw [cellsFrom_names, List.map_nil, List.append_nil]
      exact (List.pairwise_reverse (R := fun a b => a ≠ b)).mpr (h3.imp fun h => Ne.symm h)
    exact List.pairwise_map.mp this
/-- a def of the module's, by its body -/
theorem Fn.at {prog : Program} {w : World} {base : Heap} {n : Nat} {st : Stmt} {a : Addr} {Ts : List Ty} {T : Ty} (g : Has base st a) (hl : base.NoLimit) (names : List Str)
    (hB : ∀ z A F L, Room n A → Bx prog w A base (ftAt st z L) (Gd.of (ftAt st z L)) (ftAt st z L ++ F) (envAt st z L a) (names.zip Ts) (bodyOf st) (Ret T (ftAt st z L ++ F)))
    (hbind : ∀ (z : Fv) (vs : List Value), vs.length = names.length → bindArgs (fdAt st z) ⟨vs, []⟩ = pure (names.zip vs)) (hlen : names.length = Ts.length)
    (hok : scopeOk (scopeOf st) names = true) : Fn prog w (n + 1) base (.ref a) Ts T := by
  obtain ⟨o, z, ho, hd, hcd⟩ := g.go
  obtain ⟨hkind, hnd, hnm, hk, hco, hgen⟩ := scopeOk_parts hok
  exact Fn.def ho hd hl hcd rfl rfl (hbind z) hlen hkind hnd hnm hk hco hgen fun A F L R => hB z A F L R

theorem small_div {a b : Int} (h : b.natAbs < 2 ^ 60) : Builtin.divisionGoesByPylong a b = false := by
  unfold Builtin.divisionGoesByPylong
  have : ¬ ((if (b == 0) = true then 0 else b.natAbs.log2 / 30 + 1) > 300) := by
    split
    · omega
    · have := Nat.log2_lt (n := b.natAbs) (k := 60) (by intro e; simp_all)
      have := this.mpr h
      omega
  dsimp only
  rw [decide_eq_false this, Bool.false_and]
theorem small_mul {a b : Int} (h : b.natAbs < 2 ^ 60) : IntMulOk a b := by
  refine IntMulOk.of_right ?_
  unfold Builtin.Int.intBits
  split
  · omega
  · have := Nat.log2_lt (n := b.natAbs) (k := 60) (by intro e; simp_all)
    have := this.mpr h
    omega

theorem small_mulL {a b : Int} (h : a.natAbs < 2 ^ 60) : IntMulOk a b := by
  refine IntMulOk.of_left ?_
  unfold Builtin.Int.intBits
  split
  · omega
  · have := Nat.log2_lt (n := a.natAbs) (k := 60) (by intro e; simp_all)
    have := this.mpr h
    omega
end Mine
end

section
open PySem PySem.W PySem.Calls PySem.Spec
set_option linter.unusedVariables false
namespace Mine
local macro_rules | `(tactic| walk_at "mem") => `(tactic| first | with_reducible exact List.mem_cons_self | (with_reducible refine List.mem_cons_of_mem _ ?_; walk_at "mem") | (with_reducible refine mem_drop ?_ (by decide +kernel); walk_at "mem"))
local macro_rules | `(tactic| walk_at "sub") => `(tactic| first | with_reducible exact sub_nil | (with_reducible refine sub_cons (by walk_at "mem") ?_; walk_at "sub"))

noncomputable def leadSign (ms : List Int) (step : Int) : Str := if ms.any (· == ((ms.headD 0) + step).fmod 7) then "\t" else " "
noncomputable def leadF (ms : List Int) : Str := Txt.join "" ((List.range 7).map fun i => leadSign ms (1 + (i : Nat)))

section
variable {prog : Program} {w : World} {A : Around} {base : Heap} {F : List Addr} {z : Fv} {L a : Addr} {ms : List Int} {n : Nat}

set_option maxRecDepth 100000 in
theorem lead_body (R : Room 3 A) (hm : ms ≠ []) (hr : Gn base "range" (.type "range")) (hj : JoinOk "" ((List.range 7).map fun i => leadSign ms (1 + (i : Nat))) = true) :
    Bx prog w A base (ftAt (stmtAt 16) z L) (Gd.of (ftAt (stmtAt 16) z L)) (ftAt (stmtAt 16) z L ++ F) (envAt (stmtAt 16) z L a) [("marks", TL ms)] (bodyOf (stmtAt 16)) (Ret (TS (leadF ms)) (ftAt (stmtAt 16) z L ++ F)) := by
  have h0 : (ms.map PyData.int)[(0 : Int).toNat]? = some (.int (ms.headD 0)) := by cases ms with
    | nil => exact absurd rfl hm
    | cons x r => rfl
  refine Bx.retR (Ev.meth (n := 1) (T₀ := TS "") (Ts := [TLs ((List.range 7).map fun i => leadSign ms (1 + (i : Nat)))]) (R.le (by decide)) Ev.cons_str (Evs.cons ?_ Evs.nil) (Md.str PySem.F.slot_str_join PySem.F.type_str_join) (Fn.join hj))
  refine Ev.sub (Ev.comp (n := 7) (τ := fun i => TI (1 + i)) (b := fun _ => true) (d := fun i => .str (leadSign ms (1 + (i : Nat)))) (cl := [("marks", L + 1)]) (σc := [("marks", TL ms)])
    (It.range R (Ev.call R Fn.range2 hr Cal.type (Evs.cons Ev.cons_int (Evs.cons Ev.cons_int Evs.nil)) rfl rfl rfl) (by decide) (by decide) (by decide) (by decide) rfl) rfl
    (.cons ⟨.head _, rfl, rfl, rfl, fun _ => rfl⟩ .nil) (by decide) (fun _ _ _ _ => Trs.nil) ?_) (Pl.le' ?_)
  · intro C Fc i hi _
    have R1 : Room 1 A := R.le (by decide)
    refine Ev.sub (Ev.ifExp (T := TS (leadSign ms (1 + (i : Nat)))) (Tr.cmp R1 (Ev.bin R1 (Ev.bin R1 (Ev.item R1 Ev.name Ev.cons_int (SubR.list (by decide) (by decide) h0)) Ev.name BinR.add) Ev.cons_int (BinR.mod (by decide))) Ev.name CmpR.inList) (fun h => ?_) (fun h => ?_)) Le.rfl
    · rw [show leadSign ms (1 + (i : Nat)) = "\t" from if_pos h]; exact Ev.cons_str
    · rw [show leadSign ms (1 + (i : Nat)) = " " from if_neg (by rw [h]; decide)]; exact Ev.cons_str
  · rw [doneTo_all, List.map_map]; rfl
set_option maxRecDepth 100000 in
theorem lead_fn (g : Has base (stmtAt 16) a) (hl : base.NoLimit) (hm : ms ≠ []) (hr : Gn base "range" (.type "range")) (hj : JoinOk "" ((List.range 7).map fun i => leadSign ms (1 + (i : Nat))) = true) :
    Fn prog w 4 base (.ref a) [TL ms] (TS (leadF ms)) := by
  refine Fn.at g hl ["marks"] (fun z A F L R => lead_body R hm hr hj) (fun z vs h => ?_) rfl (by decide +kernel)
  match vs, h with
  | [v], _ => rfl
end

noncomputable def colAt (x : Str) (size : Int) : Nat → Int
  | 0 => 0
  | i + 1 => if sgn x i == " " then colAt x size i + 1 else (colAt x size i).fdiv size * size + size
noncomputable abbrev columnF (x : Str) (size : Int) : Int := colAt x size x.length
section
variable {prog : Program} {w : World} {A : Around} {base : Heap} {F : List Addr} {z : Fv} {L a : Addr} {x : Str} {size : Int} {n : Nat}
set_option maxRecDepth 100000 in
theorem column_body (R : Room 2 A) (h0 : size ≠ 0) (h1 : size.natAbs < 2 ^ 60) (hx : x.cps.all (· < 128) = true) :
    Bx prog w A base (ftAt (stmtAt 17) z L) (Gd.of (ftAt (stmtAt 17) z L)) (ftAt (stmtAt 17) z L ++ F) (envAt (stmtAt 17) z L a) [("lead", TS x), ("size", TI size)] (bodyOf (stmtAt 17)) (Ret (TI (columnF x size)) (ftAt (stmtAt 17) z L ++ F)) := by
  have R1 : Room 1 A := R.le (by decide)
  refine Bx.assign Ev.cons_int (.inl rfl) (Bx.for (n := x.length) (τ := fun i => TS (sgn x i)) (fun i => [("at", TI (colAt x size i)), ("lead", TS x), ("size", TI size)]) (It.str R Ev.name hx) (sub_cons (.head _) (by walk_at "sub")) rfl (fun i hi wr => ?_) (Bx.retR Ev.name))
  refine Bx.assign (T := TI (colAt x size (i + 1))) (Ev.ifExp (Tr.cmp R1 Ev.name Ev.cons_str CmpR.eqS) (fun h => ?_) fun h => ?_) (.inl rfl) (Bx.nil fun h' S => S.less (by walk_at "sub"))
  · rw [show colAt x size (i + 1) = colAt x size i + 1 from if_pos h]
    exact Ev.bin R1 Ev.name Ev.cons_int BinR.add
  · rw [show colAt x size (i + 1) = (colAt x size i).fdiv size * size + size from if_neg (by rw [h]; decide)]
    exact Ev.bin R1 (Ev.bin R1 (Ev.bin R1 Ev.name Ev.name (BinR.fdiv h0 (small_div h1))) Ev.name (BinR.mul (small_mul h1))) Ev.name BinR.add
set_option maxRecDepth 100000 in
theorem column_fn (g : Has base (stmtAt 17) a) (hl : base.NoLimit) (h0 : size ≠ 0) (h1 : size.natAbs < 2 ^ 60) (hx : x.cps.all (· < 128) = true) : Fn prog w 3 base (.ref a) [TS x, TI size] (TI (columnF x size)) := by
  refine Fn.at g hl ["lead", "size"] (fun z A F L R => column_body R h0 h1 hx) (fun z vs h => ?_) rfl (by decide +kernel)
  match vs, h with
  | [v, u], _ => rfl
end
end Mine
end

section
open PySem PySem.W PySem.Calls PySem.Spec
set_option linter.unusedVariables false
namespace Mine

structure AsL (prog : Program) (w : World) (A : Around) (base : Heap) (W F : List Addr) (env : Env) (ts : List Expr) (Ts : List Ty) (σ σ' : List (Str × Ty)) : Prop where
  go : ∀ s vs, Sd base W F env σ s.heap → AllT (hid F s.heap) vs Ts → ∀ (Q : Unit → Shared → Prop) (E : Value → Shared → Prop), (∀ s', KF W s s' → Sd base W F env σ' s'.heap → Q () s') → wpAny (model prog w) A (assignInOrder ((assignEach ts env).map (·.2)) vs) Q E s
section
variable {prog : Program} {w : World} {A : Around} {base : Heap} {W : List Addr} {V : Gd} {F : List Addr} {env : Env} {σ : List (Str × Ty)} {rest : List Stmt} {R : Flow → Heap → Prop}
theorem AsL.nil : AsL prog w A base W F env [] [] σ σ := .mk fun s vs S q Q E k => by
  cases q
  exact PyProof.Rows.assignInOrder_nil (k s (KF.of (Kp.refl s)) S)
theorem Sd.sees {h : Heap} (S : Sd base W F env σ h) : True := trivial
theorem AsL.cons {t : Expr} {T : Ty} {ts : List Expr} {Ts : List Ty} {σ₁ σ₂ : List (Str × Ty)} (h₁ : As prog w A base W F env t T σ σ₁) (h₂ : AsL prog w A base W F env ts Ts σ₁ σ₂)
    (he : (assignEach (t :: ts) env).map (·.2) = PySem.assign t env :: (assignEach ts env).map (·.2) := by rfl) : AsL prog w A base W F env (t :: ts) (T :: Ts) σ σ₂ := .mk fun s vs S q Q E k => by
  cases q with
  | cons q r =>
    rw [he]
    refine PyProof.Rows.assignInOrder_cons (h₁.go s _ S q _ E fun s₁ k₁ S₁ => h₂.go s₁ _ S₁ (r.keeps ?_) _ E fun s₂ k₂ S₂ => k s₂ (k₁.trans k₂) S₂)
    exact hid_ext fun b o nm e => k₁.not e fun m => nm (S.sub b m)
theorem As.tup {ts : List Expr} {Ts : List Ty} {k : Nat} {pos : Pos} {σ' : List (Str × Ty)} (hh : A.handled = none) (h : AsL prog w A base W F env ts Ts σ σ')
    (hn : (assignEach ts env).length = Ts.length := by rfl) (hstar : (assignEach ts env).findIdx? (·.1) = none := by rfl) : As prog w A base W F env (.Tuple ts k pos) (TT Ts) σ σ' := .mk fun s v S q Q E kk => by
  obtain ⟨a, vs, rfl, hl, hv⟩ := q
  refine wpAny_assign_Tuple hh (ist hl) (by rw [hn]; simp [hv.length]) hstar fun h' he => ?_
  have kp : Kp s { s with heap := h' } := ⟨h', s.toks, rfl, fun b o e => he b o (fun z => Nat.lt_irrefl _ (z ▸ Heap.lt_size e)) e⟩
  exact h.go { s with heap := h' } vs (S.keeps kp.ext) (hv.keeps (hid_ext fun b o _ e => kp.ext b o e)) Q E fun s' k' S' => kk s' ((KF.of kp).trans k') S'

/-- x, y = e -/
theorem Bx.assignTup {ts : List Expr} {k : Nat} {tp pos : Pos} {e : Expr} {T : Ty} {σ' : List (Str × Ty)} (he : Ev prog w A base F env σ e T) (ha : As prog w A base W F env (.Tuple ts k tp) T σ σ')
    (hr : Bx prog w A base W V F env σ' rest R) (hs : swapsWithSole [.Tuple ts k tp] e pos.line env = pure false := by rfl) (hw : swappedStores [.Tuple ts k tp] e env = pure none := by rfl) :
    Bx prog w A base W V F env σ (.Assign [.Tuple ts k tp] e pos :: rest) R := .mk fun hV s S Q E kk =>
  wpAny_execs_cons (PyProof.Rows.Assign_Tuple (he.go s S.fm _ E fun v s₁ kp q => ha.go s₁ v (S.keeps kp.ext) q _ E fun s₂ k₂ S₂ => hr.go hV s₂ S₂ Q E fun fl s₃ k₃ r => kk fl s₃ ((hV.kp kp).trans ((hV.go _ _ k₂).trans k₃)) r) hs hw)

/-- a kind that does not hang on the heap -/
noncomputable def Flat (T : Ty) : Prop := ∀ v h h', T.P v h → T.P v h'
theorem Flat.int {i : Int} : Flat (TI i) := fun v h h' q => by obtain ⟨t, rfl⟩ := py_int q; exact int_py _ _ _
theorem Flat.str {i : Str} : Flat (TS i) := fun v h h' q => by obtain ⟨t, rfl⟩ := py_str q; exact str_py _ _ _
theorem Flat.bool {i : Bool} : Flat (TB i) := fun v h h' q => by have := py_bool q; subst this; exact bool_py _ _
theorem Flat.none : Flat (Py .none) := fun v h h' q => by have := py_none q; subst this; exact none_py _
/-- a kind that stands while X turns -/
noncomputable def Frz (X : List Addr) (T : Ty) : Prop := ∀ v h h', (∀ b o, b ∉ X → h.get? b = some o → h'.get? b = some o) → T.P v h → T.P v h'
theorem Flat.frz {X : List Addr} {T : Ty} (f : Flat T) : Frz X T := fun v h h' _ q => f v h h' q
/-- a kind, as an earlier heap has it -/
noncomputable def At (hb : Heap) (T : Ty) : Ty := ⟨fun v h => T.P v hb ∧ Ext hb h, fun v h h' k q => ⟨q.1, fun b o e => k b o (q.2 b o e)⟩⟩
theorem At.le {hb : Heap} {T : Ty} : Le (At hb T) T := fun v h q => T.mono _ _ _ q.2 q.1
theorem At.frz {X : List Addr} {hb : Heap} {T : Ty} (hX : ∀ a ∈ X, hb.get? a = none) : Frz X (At hb T) := fun v h h' k q => ⟨q.1, fun b o e => k b o (fun m => none_some (hX b m) e) (q.2 b o e)⟩

theorem Fm.hide {X : List Addr} {σ₀ : List (Str × Ty)} {h : Heap} (f : Fm base F env σ h) (hX : ∀ b ∈ X, ∃ o, h.get? b = some o) (h0 : ∀ p ∈ σ₀, p ∈ σ ∧ Frz X p.2) : Fm base (X ++ F) env σ₀ h :=
  ⟨f.kind, f.base, fun b m => (List.mem_append.mp m).elim (hX b) (f.old b), fun p m => by
    obtain ⟨ms, fz⟩ := h0 p m
    obtain ⟨v, q, l⟩ := f.var p ms
    exact ⟨v, fz v _ _ (fun b o nm e => hideAll_get _ (of_hideAll F e) fun z => (List.mem_append.mp z).elim nm (hid_notin e)) q, l⟩⟩

section
variable {V : List Addr}
/-- a for loop, its body may turn V -/
theorem Bx.loop {tg : Expr} {pos : Pos} {iter : Expr} {body : List Stmt} {n : Nat} {τ : Nat → Ty} {σ₀ : List (Str × Ty)} (σs σb : Nat → List (Str × Ty)) (hi : It prog w A base (V ++ F) env σ₀ tg iter n τ)
    (hσ₀ : ∀ p ∈ σ₀, p ∈ σ ∧ Frz V p.2) (hVx : ∀ h, Sd base W F env σ h → ∀ b ∈ V, ∃ o, h.get? b = some o) (h0 : ∀ p ∈ σs 0, p ∈ σ)
    (ha : ∀ i, i < n → ∀ wr, As prog w A base W (wr ++ F) env tg (τ i) (σs i) (σb i))
    (hb : ∀ i, i < n → ∀ wr, Bx prog w A base W (Gd.of V) (wr ++ F) env (σb i) body (fun fl h => match fl with
      | .next => Sd base W (wr ++ F) env (σs (i + 1)) h
      | .cont => Sd base W (wr ++ F) env (σs (i + 1)) h
      | .brk => ∃ σ', Sd base W (wr ++ F) env σ' h ∧ Bx prog w A base W (Gd.of V) F env σ' rest R
      | .ret v => R (.ret v) h))
    (hr : Bx prog w A base W (Gd.of V) F env (σs n) rest R)
    (hs : ∀ x, foldedSetIterable iter env x = pure x := by intro _; rfl) :
    Bx prog w A base W (Gd.of V) F env σ (.For tg iter body [] pos :: rest) R := .mk fun hV s S Q E k => by
  refine wpAny_execs_cons (wpAny_For (hi.go s (S.fm.hide (hVx _ S) hσ₀) _ E fun s' I fp wr P St kp Wk hnew hfp hst hob hP => ?_) hs)
  have S' := S.keeps kp.ext
  have nbw : ∀ b ∈ wr, base.get? b = none := fun b m => by
    cases q : base.get? b with
    | none => rfl
    | some o => have := S.fm.base b o q; rw [(hnew b m).1] at this; cases this
  have hid0 : ∀ p ∈ σs 0, ∀ v, p.2.P v (hid F s.heap) → p.2.P v (hid (wr ++ F) s'.heap) := fun p _ v q => p.2.mono _ _ _ (hid_ext' fun b o nm e => ⟨kp.ext b o e, fun m => (List.mem_append.mp m).elim (fun m => by rw [(hnew b m).1] at e; cases e) nm⟩) q
  have S0 : Sd base W (wr ++ F) env (σs 0) s'.heap := by
    refine ⟨⟨S.fm.kind, S'.fm.base, fun b m => (List.mem_append.mp m).elim (fun m => (hnew b m).2) (S'.fm.old b), fun p m => ?_⟩, S'.ns, S'.cel, S.inL, S.nb, fun b m => List.mem_append_right _ (S.sub b m), S.apart, S.nl⟩
    obtain ⟨v, q, l⟩ := S.fm.var p (h0 p m)
    exact ⟨v, hid0 p m v q, l.keeps kp.ext⟩
  have fpV : ∀ b ∈ fp, b ∉ V := fun b m q => (hfp b m).1 (List.mem_append_left _ q)
  have Lw : env.locals ∉ wr := fun m => by
    obtain ⟨_, _, _, _, g, _⟩ := S.ns
    rw [(hnew _ m).1] at g; cases g
  have Cw : ∀ x c, env.cells.lookup x = some c → c ∉ wr := fun x c e m => by
    obtain ⟨_, _, g, _⟩ := S.cel x c e
    rw [(hnew _ m).1] at g; cases g
  have out : ∀ s₂, KF (wr ++ V) s' s₂ → KF V s s₂ := fun s₂ kf => by
    obtain ⟨h', t, e, kk⟩ := kf
    obtain ⟨h₁, t₁, rfl, k₁⟩ := kp
    refine ⟨h', t, e, fun b o e' => ?_⟩
    obtain ⟨o', g, nn⟩ := kk b o (k₁ b o e')
    exact ⟨o', g, fun m => nn fun m' => (List.mem_append.mp m').elim (fun m' => by rw [(hnew b m').1] at e'; cases e') m⟩
  have unh : ∀ {σ' : List (Str × Ty)} {h : Heap}, Sd base W (wr ++ F) env σ' h → Sd base W F env σ' h := fun Z =>
    ⟨⟨Z.fm.kind, Z.fm.base, fun b m => Z.fm.old b (List.mem_append_right _ m), fun p m => let ⟨v, q, l⟩ := Z.fm.var p m; ⟨v, p.2.mono _ _ _ (hid_le fun b m => List.mem_append_right _ m) q, l⟩⟩, Z.ns, Z.cel, Z.inL, Z.nb, S.sub, Z.apart, Z.nl⟩
  have go : ∀ {σ' : List (Str × Ty)} {s₂ : Shared}, KF (wr ++ V) s' s₂ → Sd base W F env σ' s₂.heap → Bx prog w A base W (Gd.of V) F env σ' rest R → wpAny (model prog w) A (execs rest env) Q E s₂ := fun kf Z B =>
    B.go hV _ Z Q E fun fl s₃ k₃ r => k fl s₃ ((out _ kf).trans k₃) r
  have leW : ∀ {a b : Shared}, KF V a b → KF (wr ++ V) a b := fun z => z.le fun b m => List.mem_append_right _ m
  refine codeAny_forLoop_any (fun k' s₁ => ∃ i, i ≤ n ∧ k' = n - i ∧ KF (wr ++ V) s' s₁ ∧ St i s₁.heap ∧ Sd base W (wr ++ F) env (σs i) s₁.heap) ?_ n ⟨0, Nat.zero_le _, rfl, KF.of (Kp.refl _), hst, S0⟩
  rintro k' s₁ ⟨i, hin, rfl, kf, sti, Si⟩
  by_cases hlt : i < n
  · refine Wk.item i s₁ _ _ _ (fun v s₂ z => z) hlt sti fun v h₁ tk hPv st₁ hk₁ => ?_
    have S₁ : Sd base W (wr ++ F) env (σs i) h₁ := Si.other hk₁ (fun b m => List.mem_append_left _ m) Lw Cw nbw (hob _ _ st₁)
    have kf₁ : KF (wr ++ V) s₁ { s₁ with heap := h₁, toks := tk } := ⟨h₁, tk, rfl, fun b o e => by
      by_cases m : b ∈ wr
      · obtain ⟨o', e'⟩ := hob _ _ st₁ b m
        exact ⟨o', e', fun nm => absurd (List.mem_append_left _ m) nm⟩
      · exact ⟨o, hk₁ b o m e, fun _ => rfl⟩⟩
    have kfa := kf.trans kf₁
    have exV : ∀ b ∈ V, ∃ o, s₁.heap.get? b = some o := fun b m => by
      obtain ⟨o, e⟩ := hVx _ S b m
      exact kf.ex (kp.ext b o e)
    have hv0 : (τ i).P v (hid (wr ++ (V ++ F)) h₁) := hP _ i v _ _ hlt hPv (fun b m => (List.mem_append.mp m).elim (fun m => Si.fm.old b (List.mem_append_left _ m)) fun m => (List.mem_append.mp m).elim (exV b) fun m => Si.fm.old b (List.mem_append_right _ m))
      (hid_ext' fun b o nm e => ⟨kfa.not e fun m => nm ((List.mem_append.mp m).elim (fun m => List.mem_append_left _ m) fun m => List.mem_append_right _ (List.mem_append_left _ m)), nm⟩)
    have hv : (τ i).P v (hid (wr ++ F) h₁) := (τ i).mono _ _ _ (hid_le fun b m => (List.mem_append.mp m).elim (fun m => List.mem_append_left _ m) fun m => List.mem_append_right _ (List.mem_append_right _ m)) hv0
    refine (ha i hlt wr).go { s₁ with heap := h₁, toks := tk } v S₁ hv _ _ fun s₂ k₂ S₂ => ?_
    refine (hb i hlt wr).go hV s₂ S₂ _ _ fun fl s₃ k₃ r => ?_
    have kfb := kfa.trans (leW ((hV.go _ _ k₂ : KF V _ _).trans k₃))
    have next : Sd base W (wr ++ F) env (σs (i + 1)) s₃.heap → ∃ m, m < n - i ∧ ∃ j, j ≤ n ∧ m = n - j ∧ KF (wr ++ V) s' s₃ ∧ St j s₃.heap ∧ Sd base W (wr ++ F) env (σs j) s₃.heap := fun S₃ =>
      ⟨n - (i + 1), by omega, i + 1, hlt, rfl, kfb, Wk.frame _ _ _ st₁ fun b m o e => ((hV.go _ _ k₂ : KF V _ _).trans k₃).not e (fpV b m), S₃⟩
    cases fl with
    | next => exact next r
    | cont => exact next r
    | brk =>
      obtain ⟨σ', S₃, B⟩ := r
      exact go kfb (unh S₃) B
    | ret v => exact k _ _ (out _ kfb) r
  · have : i = n := by omega
    subst this
    refine Wk.done s₁ _ _ sti fun h₁ tk hk₁ => wpAny_execs_nil ?_
    have kf₁ : KF V s { s₁ with heap := h₁, toks := tk } := by
      obtain ⟨h', t', e, kk⟩ := out _ kf
      subst e
      refine ⟨h₁, tk, rfl, fun b o e' => ?_⟩
      obtain ⟨o', g, nn⟩ := kk b o e'
      exact ⟨o', hk₁ b o' (fun m => by rw [(hnew b m).1] at e'; cases e') g, nn⟩
    have Fw : ∀ b ∈ F, b ∉ wr := fun b m m' => by
      obtain ⟨o, e⟩ := S.fm.old b m
      rw [(hnew b m').1] at e; cases e
    obtain ⟨m, oL, es, ep, gL, rL⟩ := Si.ns
    have Sn : Sd base W F env (σs i) h₁ := by
      refine ⟨⟨Si.fm.kind, fun b o e => hk₁ b o (fun m => by rw [nbw b m] at e; cases e) (Si.fm.base b o e), fun b mF => ?_, fun p mp => ?_⟩, ⟨m, oL, es, ep, hk₁ _ _ Lw gL, rL⟩, fun x c e => ?_, S.inL, S.nb, S.sub, S.apart, S.nl⟩
      · obtain ⟨o, e⟩ := Si.fm.old b (List.mem_append_right _ mF)
        exact ⟨o, hk₁ b o (Fw b mF) e⟩
      · obtain ⟨v, q, l⟩ := Si.fm.var p mp
        refine ⟨v, p.2.mono _ _ _ (hid_ext' fun b o nm e => ⟨hk₁ b o (fun z => nm (List.mem_append_left _ z)) e, fun z => nm (List.mem_append_right _ z)⟩) q, ?_⟩
        rcases l with ⟨e, m', ⟨o1, e1, e2, g1, r1⟩, z⟩ | ⟨e, c, lk, o, g, d⟩
        · exact .inl ⟨e, m', ⟨o1, e1, e2, hk₁ _ _ Lw g1, r1⟩, z⟩
        · exact .inr ⟨e, c, lk, o, hk₁ _ _ (Cw _ _ lk) g, d⟩
      · obtain ⟨v, o, g, d⟩ := Si.cel x c e
        exact ⟨v, o, hk₁ _ _ (Cw _ _ e) g, d⟩
    exact hr.go hV _ Sn Q E fun fl s₃ k₃ r => k fl s₃ (kf₁.trans k₃) r

end
end
end Mine
end

section
open PySem PySem.W PySem.Calls PySem.Spec
set_option linter.unusedVariables false
namespace Mine

/-- a list that may turn: at a -/
noncomputable def Mu (a : Addr) (ds : List PyData) : Ty := ⟨fun v h => v = .ref a ∧ ∃ vs, h.PlainList a vs.toArray ∧ All2 (hid [a] h) vs ds, fun v h h' k q => by
  obtain ⟨e, vs, ⟨n, p⟩, r⟩ := q
  exact ⟨e, vs, ⟨n, k _ _ p⟩, r.keeps (hid_ext fun b o _ e => k b o e)⟩⟩
theorem Mu.le {a : Addr} {ds : List PyData} : Le (Mu a ds) (Pl ds) := fun v h ⟨e, vs, p, r⟩ => ⟨a, vs, e, p, r.keeps hid_self⟩
/-- a turning thing lies apart from the frame -/
structure Ap (base : Heap) (V : Gd) (env : Env) (a : Addr) : Prop where
  nb : base.get? a = none
  inV : ∀ (s : Shared) h' t o', Heap.SameBut a s.heap h' → h'.get? a = some o' → V.Rel s { s with heap := h', toks := t }
  nl : env.locals ≠ a
  nc : ∀ y c, env.cells.lookup y = some c → c ≠ a
theorem Ap.list {V : List Addr} {a : Addr} (m : a ∈ V) (s : Shared) (h' : Heap) (t : Nat) (o' : Obj) (hs : Heap.SameBut a s.heap h') (he : h'.get? a = some o') : (Gd.of V).Rel s { s with heap := h', toks := t } := KF.but m hs he
noncomputable abbrev frost (hb : Heap) (σ : List (Str × Ty)) : List (Str × Ty) := σ.map fun p => (p.1, At hb p.2)

section
variable {prog : Program} {w : World} {A : Around} {base : Heap} {W : List Addr} {V : Gd} {F : List Addr} {env : Env} {σ : List (Str × Ty)} {rest : List Stmt} {R : Flow → Heap → Prop}

theorem mem_frost {hb : Heap} {x : Str} {T : Ty} (m : (x, T) ∈ σ) : (x, At hb T) ∈ frost hb σ := List.mem_map.mpr ⟨_, m, rfl⟩
theorem exist_mu {x : Str} {a : Addr} {ds : List PyData} (m : (x, Mu a ds) ∈ σ) : ∀ h, Sd base W F env σ h → ∀ b ∈ a :: W, ∃ o, h.get? b = some o := fun h S b mb => by
  rcases List.mem_cons.mp mb with rfl | mb
  · obtain ⟨v, ⟨e, vs, ⟨n, p⟩, _⟩, _⟩ := S.fm.var _ m
    exact ⟨_, of_hideAll F p⟩
  · exact S.fm.old b (S.sub b mb)
theorem drop_frost {hb : Heap} {x : Str} : drop x (frost hb σ) = frost hb (drop x σ) := by
  unfold drop frost
  rw [List.filter_map]; rfl
theorem Sd.frost {h h' : Heap} (S : Sd base W F env σ h) (k : Ext h h') : Sd base W F env (frost (hid F h) σ) h' := by
  have S' := S.keeps k
  refine ⟨⟨S'.fm.kind, S'.fm.base, S'.fm.old, fun p m => ?_⟩, S'.ns, S'.cel, S'.inL, S'.nb, S'.sub, S'.apart, S'.nl⟩
  obtain ⟨q, mq, rfl⟩ := List.mem_map.mp m
  obtain ⟨v, r, l⟩ := S.fm.var q mq
  exact ⟨v, ⟨r, hid_ext fun b o _ e => k b o e⟩, l.keeps k⟩

/-- x = [] : a list that may turn -/
theorem Bx.newList {V : List Addr} {x : Str} {p' pos' pos : Pos} (hk : env.kindOf x = some .local)
    (hr : ∀ a hb, (∀ b ∈ a :: F, hb.get? b = none) → Ap base (Gd.of (a :: V)) env a → Bx prog w A base W (Gd.of (a :: V)) F env ((x, Mu a []) :: frost hb (drop x σ)) rest R)
    (hs : swapsWith (.List [] pos') (some (.Name x p')) pos.line env = pure false := by rfl) : Bx prog w A base W (Gd.of V) F env σ (.Assign [.Name x p'] (.List [] pos') pos :: rest) R := .mk fun hV s S Q E k => by
  refine wpAny_execs_cons (wpAny_Assign_Name (wpAny_List (wpAny_pure ⟨Nat.zero_le _, ?_⟩)) hs)
  have kp := Kp.push s { cls := .type "list", data := .seq ([] : List Value).toArray }
  have hI : (s.heap.push { cls := .type "list", data := .seq ([] : List Value).toArray }).get? s.heap.objs.size = some { cls := .type "list", data := .seq ([] : List Value).toArray } := Heap.get?_push_size _ rfl
  have S₁ := S.frost kp.ext
  have nF := size_out S.fm.old
  refine S₁.store (x := x) (v := .ref s.heap.objs.size) (T := Mu s.heap.objs.size []) ⟨rfl, [], ⟨0, hideAll_get F hI nF⟩, .nil⟩ (.inl hk) _ E fun s₂ k₂ S₂ => ?_
  rw [drop_frost] at S₂
  refine (hr s.heap.objs.size (hid F s.heap) ?_ ⟨none_of S.fm.base (size_none _), Ap.list (.head _), fun z => ?_, fun y c e z => ?_⟩).go ⟨fun _ _ z => (show KF V _ _ from hV.go _ _ z).le fun b m => .tail _ m⟩ s₂ S₂ Q E fun fl s₃ k₃ r => k fl s₃ ?_ r
  · intro b m
    rcases List.mem_cons.mp m with rfl | m
    · cases q : (hid F s.heap).get? s.heap.objs.size with
      | none => rfl
      | some o => exact (none_some (size_none _) (of_hideAll F q)).elim
    · exact hideAll_none F m
  · obtain ⟨_, _, _, _, g, _⟩ := S.ns
    exact none_some (size_none _) (z ▸ g)
  · obtain ⟨_, _, g, _⟩ := S.cel y c e
    exact none_some (size_none _) (z ▸ g)
  · obtain ⟨h', t, e', kk⟩ := (KF.of (W := s.heap.objs.size :: V) kp).trans (((show KF V _ _ from hV.go _ _ k₂).le fun b m => .tail _ m).trans k₃)
    refine ⟨h', t, e', fun b o e => ?_⟩
    obtain ⟨o', g, nn⟩ := kk b o e
    exact ⟨o', g, fun m => nn fun m' => (List.mem_cons.mp m').elim (fun z => none_some (size_none _) (z ▸ e)) m⟩

theorem Ap.loc {a : Addr} {h h' : Heap} {x : Str} {v : Value} (P : Ap base V env a) (up : ∀ b o, b ≠ a → h.get? b = some o → h'.get? b = some o) (l : Loc h env x v) : Loc h' env x v := by
  rcases l with ⟨e, m', ⟨o1, e1, e2, g1, r1⟩, z⟩ | ⟨e, c, lk, o, g, d⟩
  · exact .inl ⟨e, m', ⟨o1, e1, e2, up _ _ P.nl g1, r1⟩, z⟩
  · exact .inr ⟨e, c, lk, o, up _ _ (P.nc _ _ lk) g, d⟩
/-- what stands as a turns -/
theorem Sd.turn' {σ' : List (Str × Ty)} {a : Addr} {h h' : Heap} {o' : Obj} (S : Sd base W F env σ h) (P : Ap base V env a) (nF : a ∉ F) (hs : Heap.SameBut a h h') (he : h'.get? a = some o') (hσ : ∀ p ∈ σ', p ∈ σ ∧ ∀ v, p.2.P v (hid F h) → p.2.P v (hid F h')) : Sd base W F env σ' h' := by
  have up : ∀ b o, b ≠ a → h.get? b = some o → h'.get? b = some o := fun b o n e => (hs.2 b n).trans e
  obtain ⟨m, oL, es, ep, gL, rL⟩ := S.ns
  refine ⟨⟨S.fm.kind, fun b o e => up b o (fun z => none_some P.nb (z ▸ e)) (S.fm.base b o e), fun b mF => ?_, fun p mp => ?_⟩, ⟨m, oL, es, ep, up _ _ P.nl gL, rL⟩, fun x c e => ?_, S.inL, S.nb, S.sub, S.apart, S.nl⟩
  · obtain ⟨o, e⟩ := S.fm.old b mF
    exact ⟨o, up b o (fun z => nF (z ▸ mF)) e⟩
  · obtain ⟨ms, fz⟩ := hσ p mp
    obtain ⟨v, q, l⟩ := S.fm.var p ms
    refine ⟨v, fz v q, ?_⟩
    exact P.loc up l
  · obtain ⟨v, o, g, d⟩ := S.cel x c e
    exact ⟨v, o, up _ _ (P.nc _ _ e) g, d⟩

theorem Sd.turn {σ' : List (Str × Ty)} {a : Addr} {h h' : Heap} {o' : Obj} (S : Sd base W F env σ h) (P : Ap base V env a) (nF : a ∉ F) (hs : Heap.SameBut a h h') (he : h'.get? a = some o') (hσ : ∀ p ∈ σ', p ∈ σ ∧ Frz [a] p.2) : Sd base W F env σ' h' :=
  S.turn' P nF hs he fun p m => ⟨(hσ p m).1, fun v q => (hσ p m).2 v _ _ (fun b o nm e => hideAll_get F ((hs.2 b fun z => nm (z ▸ .head _)).trans (of_hideAll F e)) (hid_notin e)) q⟩
/-- what a kind says apart from a list at a -/
noncomputable def Off (a : Addr) (T : Ty) (d : PyData) : Prop := ∀ v h vs, h.PlainList a vs → T.P v h → (Py d).P v (hid [a] h)
theorem Off.flat {a : Addr} {d : PyData} (f : Flat (Py d)) : Off a (Py d) d := fun v h vs _ q => f v _ _ q
theorem allT_flat {h h' : Heap} : ∀ {vs : List Value} {ds : List PyData}, (∀ d ∈ ds, Flat (Py d)) → AllT h vs (ds.map Py) → AllT h' vs (ds.map Py)
  | [], [], _, _ => .nil
  | _ :: _, [], _, x => by cases x
  | [], _ :: _, _, x => by cases x
  | v :: vs, d :: ds, f, .cons q r => .cons (f d (.head _) _ _ _ q) (allT_flat (fun d m => f d (.tail _ m)) r)
theorem Off.tup {a : Addr} {ds : List PyData} (f : ∀ d ∈ ds, Flat (Py d)) : Off a (TT (ds.map Py)) (.tuple ds) := fun v h vs p q => by
  obtain ⟨t, ws, rfl, ⟨o, g, c, r⟩, hv⟩ := q
  obtain ⟨n, e⟩ := p
  refine TT.py _ _ ⟨t, ws, rfl, ⟨o, hideAll_get _ g fun m => ?_, c, r⟩, allT_flat f hv⟩
  rw [List.mem_singleton.mp m, e] at g
  cases g
  injection c with c
  exact absurd c (by decide)

/-- x.append(e) -/
theorem Bx.append {x : Str} {px apos pos pos' : Pos} {e : Expr} {a : Addr} {ds : List PyData} {d : PyData} {T : Ty} {σ' : List (Str × Ty)} (hm : (x, Mu a ds) ∈ σ) (P : Ap base V env a) (he : Ev prog w A base F env σ e T) (ho : Off a T d)
    (hσ : ∀ p ∈ σ', p ∈ σ ∧ Frz [a] p.2) (hx : env.kindOf x = some .local) (hr : Bx prog w A base W V F env ((x, Mu a (ds ++ [d])) :: drop x σ') rest R) (hsz : ds.length ≤ 1000)
    (hfew : ((backTo pos (starEach [e] env)).all (fun x => !x.1) && (backToKw pos (keywordEach [] env)).all (fun x => x.1.isSome)
      && decide (([e] : List Expr).length + ([] : List Keyword).length + (if ([] : List Keyword).isEmpty then 0 else 1) < 30)) = true := by rfl)
    (hline : (apos.endLine == pos.line) = true := by rfl) (htrees : backTo pos (starEach [e] env) = [(false, eval e env)] := by rfl) (hbase : attributeBase (.Name x px) "append" env (eval (.Name x px) env) = eval (.Name x px) env := by rfl)
    (hi : interactive env = false := by rfl) (hs : swapsWith (.Call (.Attribute (.Name x px) "append" apos) [e] [] pos) none pos'.line env = pure false := by rfl)
    (hd : (x == ("__debug__" : Str)) = false := by decide +kernel) (hn : (x == ("__classdict__" : Str)) = false := by decide +kernel) :
    Bx prog w A base W V F env σ (.Expr (.Call (.Attribute (.Name x px) "append" apos) [e] [] pos) pos' :: rest) R := .mk fun hV s S Q E k => by
  refine wpAny_execs_cons (wpAny_Expr (wpAny_Call_append hbase hfew hline htrees ?_) hi hs)
  refine (Ev.name (pos := px) hm hd hn : Ev prog w A base F env σ (.Name x px) (Mu a ds)).go s S.fm _ E fun v s₁ k₁ q₁ => ?_
  obtain ⟨rfl, vs, ⟨n, p⟩, r⟩ := q₁
  have p' := of_hideAll F p
  have nF : a ∉ F := hid_notin p
  refine ⟨a, vs.toArray, rfl, ⟨_, n, p', rfl, rfl, rfl⟩, he.go s₁ (S.fm.keeps k₁.ext) _ E fun y s₂ k₂ q₂ => ?_⟩
  have S₂ := S.keeps (k₁.trans k₂).ext
  have pl : s₂.heap.PlainList a vs.toArray := ⟨n, k₂.ext _ _ p'⟩
  have hl := r.length
  have e' : sizeLine = 16777216 := sizeLine_eq
  refine wpAny_list_append_plain pl (fun h₃ pl₃ hs₃ => ?_) (by simp; omega)
  obtain ⟨n₃, g₃⟩ := id pl₃
  have S₃ := (S₂.turn P nF hs₃ g₃ hσ).less (τ := drop x σ') fun p m => (of_drop m).1
  have up : ∀ b o, b ≠ a → s₂.heap.get? b = some o → h₃.get? b = some o := fun b o n e => (hs₃.2 b n).trans e
  have S₄ : Sd base W F env ((x, Mu a (ds ++ [d])) :: drop x σ') h₃ := by
    refine ⟨⟨S₃.fm.kind, S₃.fm.base, S₃.fm.old, fun p m => ?_⟩, S₃.ns, S₃.cel, S₃.inL, S₃.nb, S₃.sub, S₃.apart, S₃.nl⟩
    rcases List.mem_cons.mp m with rfl | m
    · obtain ⟨v₀, ⟨rfl, _⟩, l₀⟩ := S₂.fm.var _ hm
      refine ⟨.ref a, ⟨rfl, vs ++ [y], ⟨n₃, hideAll_get F (by simpa using g₃) nF⟩, ?_⟩, P.loc up l₀⟩
      have e2 : (Py d).P y (hid [a] (hid F s₂.heap)) := ho y (hid F s₂.heap) vs.toArray ⟨n, hideAll_get F (k₂.ext _ _ p') nF⟩ q₂
      have z : Ext (hid [a] (hid F s₂.heap)) (hid [a] (hid F h₃)) := fun b o g => hideAll_get _ (hideAll_get F (up b o (fun z => hid_notin g (z ▸ .head _)) (of_hideAll F (of_hideAll [a] g))) (hid_notin (of_hideAll [a] g))) (hid_notin g)
      exact (r.keeps fun b o g => z b o (hid_ext (fun b o nm g => hideAll_get F (k₂.ext b o (of_hideAll F g)) (hid_notin g)) b o g)).append (.cons ((Py d).mono _ _ _ z e2) .nil)
    · exact S₃.fm.var p m
  refine hr.go hV { s₂ with heap := h₃ } S₄ Q E fun fl s₅ k₅ r => k fl s₅ ((hV.kp (k₁.trans k₂)).trans ((P.inV s₂ h₃ s₂.toks _ hs₃ g₃).trans k₅)) r
end
end Mine
end

section
open PySem PySem.W PySem.Calls PySem.Spec
set_option linter.unusedVariables false
namespace Mine

/-- a class of the text, as its fragment knows it -/
structure Kc (K : Frag) (base : Heap) (C : Addr) : Prop where
  inn : K.In base
  mks : makesIn K C = true
  ga : plainGet K C "x" = true
  hd : hasDictIn K C = true
  po : plainOver K C = true
  sa : findIn K (.ref C) "__setattr__" = some (some (.builtin "object.__setattr__"))
structure Kfld (K : Frag) (C : Addr) (name : Str) : Prop where
  ta : takerIn K C name = some none
  fi : ∃ attr, findIn K (.ref C) name = some attr ∧ noGet K attr = true
structure Kmeth (K : Frag) (C : Addr) (name : Str) (f : Addr) : Prop where
  fi : findIn K (.ref C) name = some (some (.ref f))
  fn : isFn K (.ref f) = true
theorem Kc.up {K : Frag} {base h : Heap} {C : Addr} (X : Kc K base C) (k : Ext base h) : Kc K h C := ⟨X.inn.keeps k, X.mks, X.ga, X.hd, X.po, X.sa⟩

noncomputable def Keyed (es : List DictEntry) : Prop := ∀ e ∈ es, ∃ k t, e.key = .str k t
theorem key_is {k name : Str} {t : Tok} : (Value.str k t).isStr name = (k == name) := rfl
theorem keyed_ref {es : List DictEntry} (h : Keyed es) : es.any (·.refKey) = false := by
  rw [List.any_eq_false]
  intro e m
  obtain ⟨k, t, q⟩ := h e m
  simp [DictEntry.refKey, q]
theorem keyed_put {es : List DictEntry} (h : Keyed es) (name : Str) (hs : Int) (t : Tok) (v : Value) : Keyed (putL name hs (.str name t) v es) ∧ (putL name hs (.str name t) v es).length ≤ es.length + 1 := by
  induction es with
  | nil => exact ⟨fun e m => ⟨name, t, by rw [List.mem_singleton.mp m]⟩, Nat.le_refl _⟩
  | cons e r ih =>
    obtain ⟨i1, i2⟩ := ih fun x m => h x (.tail _ m)
    unfold putL
    split
    · exact ⟨fun x m => (List.mem_cons.mp m).elim (fun q => by rw [q]; exact h e (.head _)) fun m => h x (.tail _ m), Nat.le_succ _⟩
    · exact ⟨fun x m => (List.mem_cons.mp m).elim (fun q => by rw [q]; exact h e (.head _)) fun m => i1 x m, by simp; exact i2⟩
theorem get_put_self {es : List DictEntry} (h : Keyed es) (name : Str) (hs : Int) (t : Tok) (v : Value) : getL name (putL name hs (.str name t) v es) = some (some v) := by
  induction es with
  | nil => unfold putL getL; simp [List.find?_cons, key_is]
  | cons e r ih =>
    have := ih fun x m => h x (.tail _ m)
    unfold putL
    split
    · next q => unfold getL; simp [List.find?_cons, q]
    · next q =>
      unfold getL at this ⊢
      rw [List.find?_cons, eq_false_of_ne_true q]
      revert this
      cases hf : List.find? (fun x => x.key.isStr name) (putL name hs (.str name t) v r) with
      | some z => exact id
      | none => intro z; simp only at z; split at z <;> simp at z
theorem get_put_other {es : List DictEntry} (h : Keyed es) {name other : Str} (ne : other ≠ name) (hs : Int) (t : Tok) (v : Value) : getL other (putL name hs (.str name t) v es) = getL other es := by
  have key : ∀ es : List DictEntry, (putL name hs (.str name t) v es).find? (·.key.isStr other) = (es.find? (·.key.isStr other)).map id ∨ True := fun _ => .inr trivial
  have fnd : ∀ {es : List DictEntry}, Keyed es → (putL name hs (.str name t) v es).find? (·.key.isStr other) = es.find? (·.key.isStr other) := by
    intro es
    induction es with
    | nil =>
      intro _
      have : (name == other) = false := beq_eq_false_iff_ne.mpr (Ne.symm ne)
      unfold putL; simp [List.find?_cons, key_is, this]
    | cons e r ih =>
      intro h
      have i := ih fun x m => h x (.tail _ m)
      obtain ⟨k, tk, q⟩ := h e (.head _)
      unfold putL
      split
      · next z =>
        rw [q, key_is] at z
        have zk : k = name := beq_iff_eq.mp z
        have : (k == other) = false := beq_eq_false_iff_ne.mpr (by rw [zk]; exact Ne.symm ne)
        simp [List.find?_cons, q, key_is, this]
      · rw [List.find?_cons, List.find?_cons, i]
  unfold getL
  rw [fnd h, keyed_ref h, keyed_ref (keyed_put h name hs t v).1]

noncomputable def Flds (es : List DictEntry) (fs : List (Str × Ty)) (h : Heap) : Prop :=
  Keyed es ∧ es.length ≤ fs.length ∧ (∀ p ∈ fs, ∃ u, getL p.1 es = some (some u) ∧ handedIn u = true ∧ p.2.P u h) ∧ ∀ name, (∀ p ∈ fs, p.1 ≠ name) → getL name es = some none
theorem Flds.keeps {es : List DictEntry} {fs : List (Str × Ty)} {h h' : Heap} (x : Flds es fs h) (k : Ext h h') : Flds es fs h' :=
  ⟨x.1, x.2.1, fun p m => let ⟨u, a, b, c⟩ := x.2.2.1 p m; ⟨u, a, b, p.2.mono _ _ _ k c⟩, x.2.2.2⟩
theorem all_ne {fs : List (Str × Ty)} {name : Str} (h : (fs.all fun p => !(p.1 == name)) = true) : ∀ p ∈ fs, p.1 ≠ name := fun p m e => by
  have := List.all_eq_true.mp h p m
  rw [e] at this; simp at this
/-- an object that turns no more -/
noncomputable def Ins (C : Addr) (fs : List (Str × Ty)) : Ty := ⟨fun v h => ∃ x dx es n, v = .ref x ∧ h.get? x = some (instObj C dx) ∧ h.get? dx = some (dictOf es n) ∧ Flds es fs h, fun v h h' k q => by
  obtain ⟨x, dx, es, n, e, a, b, c⟩ := q
  exact ⟨x, dx, es, n, e, k _ _ a, k _ _ b, c.keeps k⟩⟩
/-- an object under its making -/
noncomputable def Mo (C x dx : Addr) (fs : List (Str × Ty)) : Ty := ⟨fun v h => v = .ref x ∧ h.get? x = some (instObj C dx) ∧ ∃ es n, h.get? dx = some (dictOf es n) ∧ Flds es fs (hid [dx] h), fun v h h' k q => by
  obtain ⟨e, a, es, n, b, c⟩ := q
  exact ⟨e, k _ _ a, es, n, k _ _ b, c.keeps (hid_ext fun b o _ e => k b o e)⟩⟩
theorem Mo.le {C x dx : Addr} {fs : List (Str × Ty)} : Le (Mo C x dx fs) (Ins C fs) := fun v h ⟨e, a, es, n, b, c⟩ => ⟨x, dx, es, n, e, a, b, c.keeps hid_self⟩
theorem inst_at {h : Heap} {x C dx : Addr} {es : List DictEntry} {n : Nat} (a : h.get? x = some (instObj C dx)) (b : h.get? dx = some (dictOf es n)) : InstAt h x (instObj C dx) C (some (dictOf es n)) := ⟨a, rfl, rfl, b⟩

section
variable {prog : Program} {w : World} {A : Around} {base : Heap} {W : List Addr} {V : Gd} {F : List Addr} {env : Env} {σ : List (Str × Ty)} {rest : List Stmt} {R : Flow → Heap → Prop} {K : Frag} {C : Addr} {fs : List (Str × Ty)} {n : Nat}

theorem Ev.attr {y name : Str} {py pos : Pos} {T : Ty} (X : Kc K base C) (ho : Ev prog w A base F env σ (.Name y py) (Ins C fs)) (hm : (name, T) ∈ fs) (hf : Kfld K C name) : Ev prog w A base F env σ (.Attribute (.Name y py) name pos) T := .mk fun s f Q E h =>
  PyProof.Rows.Attribute_name (ho.go s f _ E fun v s₁ k₁ q₁ => by
    obtain ⟨x, dx, es, n, rfl, a, b, c⟩ := q₁
    obtain ⟨u, gu, hu, pu⟩ := c.2.2.1 _ hm
    obtain ⟨attr, fa, ng⟩ := hf.fi
    exact get_value (X.inn.keeps (f.keeps k₁.ext).base) (inst_at (of_hideAll F a) (of_hideAll F b)) (plainGet_of (name := "x") X.ga).1 (findObj_own X.hd fa ng gu) hu (h u _ (k₁.trans (Kp.tok s₁ _)) pu))

theorem Ev.methI {o : Expr} {name : Str} {apos pos : Pos} {e : Expr} {args : List Expr} {T : Ty} {Ts : List Ty} {f : Addr} (R : Room n A) (X : Kc K base C) (ho : Ev prog w A base F env σ o (Ins C fs)) (ha : Evs prog w A base F env σ pos (e :: args) Ts)
    (hm : Kmeth K C name f) (hc : Cal prog w base (.ref f)) (hF : Fn prog w n base (.ref f) (Ins C fs :: Ts) T) {pl : Sem Bool} (hn' : (fs.all fun p => !(p.1 == name)) = true := by kernel_rfl)
    (he : eval (.Call (.Attribute o name apos) (e :: args) [] pos) env = (do
      let ov ← eval o env
      standAt apos.atName
      let (f, first) ← holding [ov] (getMethod ov name pl)
      callWith pos f first (backTo pos (starEach (e :: args) env)) []) := by rfl)
    (hpl : (backTo pos (starEach (e :: args) env)).any (·.1) = false := by rfl) (hse : starEach (e :: args) env = (false, eval e env) :: starEach args env := by rfl) :
    Ev prog w A base F env σ (.Call (.Attribute o name apos) (e :: args) [] pos) T := .mk fun s fm Q E h =>
  PyProof.Rows.MethodCall_ (ho.go s fm _ E fun v s₁ k₁ q₁ => by
    obtain ⟨x, dx, es, n, rfl, a, b, c⟩ := id q₁
    have f₁ := fm.keeps k₁.ext
    refine method_fn (X.inn.keeps f₁.base) (inst_at (of_hideAll F a) (of_hideAll F b)) (plainGet_of (name := "x") X.ga).1 (plainGet_of (name := "x") X.ga).2 hm.fi (beq_iff_eq.mp hm.fn) (by show (lookIn name (dictOf es n)).map _ = _; rw [lookIn_dict, c.2.2.2 name (all_ne hn')]; rfl) ?_
    refine callTail (first := [.ref x]) (Ts := Ts) hc f₁ ha hpl hse fun vs s' k q => ?_
    have f' := fm.keeps (k₁.trans k).ext
    exact hF.go A F s' (.ref x :: vs) R f'.base f'.old (.cons ((Ins C fs).mono _ _ _ (hid_ext fun b o _ e => k.ext b o e) q₁) q) Q E fun v s'' k' q' => h v s'' ((k₁.trans k).trans k') q') he
theorem Ev.methI0 {o : Expr} {name : Str} {apos pos : Pos} {T : Ty} {f : Addr} (R : Room n A) (X : Kc K base C) (ho : Ev prog w A base F env σ o (Ins C fs))
    (hm : Kmeth K C name f) (hc : Cal prog w base (.ref f)) (hF : Fn prog w n base (.ref f) [Ins C fs] T) {pl : Sem Bool} (hn' : (fs.all fun p => !(p.1 == name)) = true := by kernel_rfl)
    (he : eval (.Call (.Attribute o name apos) [] [] pos) env = (do
      let ov ← eval o env
      standAt apos.atName
      let (f, first) ← holding [ov] (getMethod ov name pl)
      callWith pos f first (backTo pos (starEach [] env)) []) := by rfl) :
    Ev prog w A base F env σ (.Call (.Attribute o name apos) [] [] pos) T := .mk fun s fm Q E h =>
  PyProof.Rows.MethodCall_ (ho.go s fm _ E fun v s₁ k₁ q₁ => by
    obtain ⟨x, dx, es, n, rfl, a, b, c⟩ := id q₁
    have f₁ := fm.keeps k₁.ext
    refine method_fn (X.inn.keeps f₁.base) (inst_at (of_hideAll F a) (of_hideAll F b)) (plainGet_of (name := "x") X.ga).1 (plainGet_of (name := "x") X.ga).2 hm.fi (beq_iff_eq.mp hm.fn) (by show (lookIn name (dictOf es n)).map _ = _; rw [lookIn_dict, c.2.2.2 name (all_ne hn')]; rfl) ?_
    exact callTail0 (base := base) (first := [.ref x]) hc f₁.base (hF.go A F s₁ [.ref x] R f₁.base f₁.old (.cons q₁ .nil) Q E fun v s'' k' q' => h v s'' (k₁.trans k') q')) he

/-- storing into the own dict -/
theorem osa_set {s : Shared} {R : Result → Shared → Prop} {x dx : Addr} {ox od od' : Obj} {name : Str} {tk : Tok} {v : Value} {es : List DictEntry} {n : Nat} (X : K.In s.heap)
    (I : InstAt s.heap x ox C (some od)) (hd : ox.dict = some dx) (hp : plainOver K C = true) (ht : takerIn K C name = some none) (hh : (clsIn K C).any (·.hasDict) = true)
    (hl : (lookIn name od).isSome = true)
    (e : Obj.putName name (PyData.keyHash w.params name) (.str name s.toks) v od = od') (e' : od'.data = .dict es.toArray n) (hz : es.length ≤ 1000) (hnf : od'.isFreed = false)
    (h : ∀ h', h'.get? dx = some od' → Heap.SameBut dx s.heap h' → R (.ok (.ret .none)) { s with heap := h', toks := s.toks + 1 }) :
    codeAny (model prog w) A (.call (.builtin "object.__setattr__") ⟨[.ref x, .str name tk, v], []⟩) R s := by
  refine osa_open X I hp ht fun b => ?_
  obtain ⟨cd, hc, hd'⟩ := any_some hh
  obtain ⟨hx, hcl, hn, D⟩ := I
  obtain ⟨oc, odi, oda, osl⟩ := ox
  dsimp only at hcl hd D
  subst hcl hd
  dsimp only at D
  have D' : (s.heap.update dx (Obj.putName name (PyData.keyHash w.params name) (.str name s.toks) v)).get? dx = some od' := by
    rw [← e]; exact Heap.get?_update_self _ D (by rw [e]; exact hnf)
  have SB : Heap.SameBut dx s.heap (s.heap.update dx (Obj.putName name (PyData.keyHash w.params name) (.str name s.toks) v)) := Heap.SameBut.update ..
  refine wpAny_bind (wpAny_pure (wpAny_bind (wpAny_bind (wpAny_loadPart hx (wpAny_bind ((looks_clsIn X hc).here ?_))))))
  rw [hd']
  refine wpAny_pure (a := some dx) (wpAny_bind (wpAny_pure (wpAny_bind ?_)))
  unfold nsSet
  refine wpAny_bind (wpAny_bind (wpAny_askSetting (wpAny_pure (wpAny_bind (wpAny_mkText (wpAny_bind (wpAny_loadPart D ?_)))))))
  unfold lookIn at hl
  split at hl
  · rename_i es₀ n₀ q
    rw [q]
    dsimp only
    have c : (!es₀.any (·.key.isStr name) && es₀.any (·.refKey)) = false := by
      rw [← Array.any_toList, ← Array.any_toList]
      split at hl
      · rename_i en he
        rw [List.any_eq_true.mpr ⟨en, List.mem_of_find?_eq_some he, List.find?_some he⟩]; rfl
      · split at hl
        · cases hl
        · rename_i z; rw [Bool.not_eq_true] at z; rw [z, Bool.and_false]
    rw [aRefKeyMayBeTheName_at, c]
    refine wpAny_updatePart D ?_
    refine wpAny_bind (wpAny_lookBehind D' (by rw [e']; exact pastItsLine_dict (by rw [List.size_toArray, sizeLine_eq]; omega)) ?_)
    exact wpAny_pure (h _ D' SB)
  · cases hl

/-- a kind that says nothing of a dict at dx -/
noncomputable def OffD (dx : Addr) (T : Ty) : Prop := ∀ v h es n, h.get? dx = some (dictOf es n) → T.P v h → T.P v (hid [dx] h)
theorem OffD.flat {dx : Addr} {T : Ty} (f : Flat T) : OffD dx T := fun v h es n _ q => f v _ _ q
noncomputable def Hand (T : Ty) : Prop := ∀ v h, T.P v h → handedIn v = true
theorem Hand.py {d : PyData} : Hand (Py d) := fun v h ⟨as, r⟩ => by cases r <;> rfl

/-- a kind that stands as the dict at dx turns -/
noncomputable def FrzD (dx : Addr) (T : Ty) : Prop := ∀ v h h' es n, h.get? dx = some (dictOf es n) → (∀ b o, b ≠ dx → h.get? b = some o → h'.get? b = some o) → T.P v h → T.P v h'
theorem Flat.frzD {dx : Addr} {T : Ty} (f : Flat T) : FrzD dx T := fun v h h' _ _ _ _ q => f v h h' q
mutual
theorem reads_off {h : Heap} {dx : Addr} {es : List DictEntry} {n : Nat} (g : h.get? dx = some (dictOf es n)) : ∀ {v : Value} {d : PyData} {as : List Addr}, Reads h v d as → d.canLay0 = true → Reads (hid [dx] h) v d as
  | _, _, _, .none, _ => .none
  | _, _, _, .bool b, _ => .bool b
  | _, _, _, .int i t, _ => .int i t
  | _, _, _, .str x t, _ => .str x t
  | _, _, _, .list h1 h2 h3 h4, c => .list (hideAll_get _ h1 fun m => by rw [List.mem_singleton.mp m, g] at h1; cases h1; simp at h2) h2 h3 (readsAll_off g h4 c)
  | _, _, _, .tuple h1 h2 h3 h4, c => .tuple (hideAll_get _ h1 fun m => by rw [List.mem_singleton.mp m, g] at h1; cases h1; simp at h2) h2 h3 (readsAll_off g h4 c)
  | _, _, _, .dict h1 h2 h3 h4 h5, c => by simp [PyData.canLay0] at c
theorem readsAll_off {h : Heap} {dx : Addr} {es : List DictEntry} {n : Nat} (g : h.get? dx = some (dictOf es n)) : ∀ {vs : List Value} {ds : List PyData} {as : List Addr}, ReadsAll h vs ds as → PyData.canLayAll0 ds = true → ReadsAll (hid [dx] h) vs ds as
  | _, _, _, .nil, _ => .nil
  | _, _, _, .cons r rs, c => by
    simp only [PyData.canLayAll0, Bool.and_eq_true] at c
    exact .cons (reads_off g r c.1) (readsAll_off g rs c.2)
end
theorem OffD.py {dx : Addr} {d : PyData} (c : d.canLay0 = true) : OffD dx (Py d) := fun v h es n g ⟨as, r⟩ => ⟨as, reads_off g r c⟩
theorem FrzD.py {dx : Addr} {d : PyData} (c : d.canLay0 = true) : FrzD dx (Py d) := fun v h h' es n g up q => (Py d).mono _ _ _ (fun b o e => up b o (fun z => hid_notin e (z ▸ .head _)) (of_hideAll [dx] e)) (OffD.py c v h es n g q)
/-- self.name = e -/
theorem Bx.setAttr {y name : Str} {py pos' pos : Pos} {e : Expr} {x dx : Addr} {T : Ty} {σ' : List (Str × Ty)} (X : Kc K base C) (hm : (y, Mo C x dx fs) ∈ σ) (P : Ap base V env dx) (he : Ev prog w A base F env σ e T) (hT : OffD dx T) (hH : Hand T)
    (hf : takerIn K C name = some none) (hσ : ∀ p ∈ σ', p ∈ σ ∧ FrzD dx p.2) (hr : Bx prog w A base W V F env ((y, Mo C x dx ((name, T) :: fs)) :: drop y σ') rest R) (hnew' : (fs.all fun p => !(p.1 == name)) = true := by kernel_rfl) (hsz : fs.length ≤ 100 := by simp)
    (hs : swapsWith e (some (.Attribute (.Name y py) name pos')) pos.line env = pure false := by rfl) (hd : (y == ("__debug__" : Str)) = false := by decide +kernel) (hn : (y == ("__classdict__" : Str)) = false := by decide +kernel) :
    Bx prog w A base W V F env σ (.Assign [.Attribute (.Name y py) name pos'] e pos :: rest) R := .mk fun hV s S Q E k => by
  have hnew := all_ne hnew'
  refine wpAny_execs_cons (plainObj_wpAny_Assign_Attribute (he.go s S.fm _ E fun v s₁ k₁ q₁ => ?_) hs)
  refine (Ev.name (pos := py) hm hd hn : Ev prog w A base F env σ (.Name y py) (Mo C x dx fs)).go s₁ (S.fm.keeps k₁.ext) _ E fun ov s₂ k₂ q₂ => ?_
  obtain ⟨rfl, a, es, n, b, c⟩ := q₂
  have S₂ := S.keeps (k₁.trans k₂).ext
  have a' := of_hideAll F a
  have b' := of_hideAll F b
  have nF : dx ∉ F := hid_notin b
  have XX := X.inn.keeps S₂.fm.base
  have I := inst_at a' b'
  have kl := keyed_put c.1 name (PyData.keyHash w.params name) (s₂.toks + 1) v
  have gl : (getL name es).isSome = true := by rw [c.2.2.2 name hnew]; rfl
  refine set_plain XX I X.sa (osa_set (s := { s₂ with toks := s₂.toks + 1 }) (es := putL name (PyData.keyHash w.params name) (.str name (s₂.toks + 1)) v es) (n := putN name es n) XX I rfl X.po hf X.hd gl (putName_dict ..) rfl (by have := kl.2; have := c.2.1; omega) rfl fun h₃ g₃ hs₃ => ?_)
  have S₃ := (S₂.turn' P nF hs₃ g₃ (σ' := σ') fun p m => ⟨(hσ p m).1, fun v q => (hσ p m).2 v _ _ es n b (fun b o nm e => hideAll_get F ((hs₃.2 b nm).trans (of_hideAll F e)) (hid_notin e)) q⟩).less (τ := drop y σ') fun p m => (of_drop m).1
  have up : ∀ b o, b ≠ dx → s₂.heap.get? b = some o → h₃.get? b = some o := fun b o n e => (hs₃.2 b n).trans e
  have xd : x ≠ dx := fun z => by rw [z, b'] at a'; cases a'
  have S₄ : Sd base W F env ((y, Mo C x dx ((name, T) :: fs)) :: drop y σ') h₃ := by
    refine ⟨⟨S₃.fm.kind, S₃.fm.base, S₃.fm.old, fun p m => ?_⟩, S₃.ns, S₃.cel, S₃.inL, S₃.nb, S₃.sub, S₃.apart, S₃.nl⟩
    rcases List.mem_cons.mp m with rfl | m
    · obtain ⟨v₀, ⟨rfl, _⟩, l₀⟩ := S₂.fm.var _ hm
      refine ⟨.ref x, ⟨rfl, hideAll_get F (up _ _ xd a') (hid_notin a), _, _, hideAll_get F g₃ nF, kl.1, ?_, fun p m => ?_, fun nm hnm => ?_⟩, P.loc up l₀⟩
      · have := kl.2; have := c.2.1; simp; omega
      · have z : Ext (hid [dx] (hid F s₂.heap)) (hid [dx] (hid F h₃)) := fun b o g => hideAll_get _ (hideAll_get F (up b o (fun z => hid_notin g (z ▸ .head _)) (of_hideAll F (of_hideAll [dx] g))) (hid_notin (of_hideAll [dx] g))) (hid_notin g)
        rcases List.mem_cons.mp m with rfl | m
        · exact ⟨v, get_put_self c.1 _ _ _ _, hH v _ q₁, T.mono _ _ _ z (hT v _ es n b (T.mono _ _ _ (hid_ext fun b o _ e => k₂.ext b o e) q₁))⟩
        · obtain ⟨u, g1, g2, g3⟩ := c.2.2.1 p m
          exact ⟨u, (get_put_other c.1 (hnew p m) _ _ _).trans g1, g2, p.2.mono _ _ _ z g3⟩
      · rw [get_put_other c.1 (Ne.symm (hnm (name, T) (.head _)))]
        exact c.2.2.2 nm fun p m => hnm p (.tail _ m)
    · exact S₃.fm.var p m
  exact hr.go hV { s₂ with heap := h₃, toks := s₂.toks + 1 + 1 } S₄ Q E fun fl s₅ k₅ r => k fl s₅ ((hV.kp (k₁.trans k₂)).trans ((P.inV s₂ h₃ _ _ hs₃ g₃).trans k₅)) r
end
end Mine
end

section
open PySem PySem.W PySem.Calls PySem.Spec
set_option linter.unusedVariables false
namespace Mine

/-- anything may turn: what stands is what the base says -/
noncomputable def Ginf : Gd := ⟨fun s s' => ∃ h' tk, s' = { s with heap := h', toks := tk }, fun a b c x y => by
  obtain ⟨h, t, rfl⟩ := x
  obtain ⟨h', t', rfl⟩ := y
  exact ⟨h', t', rfl⟩⟩
theorem Ginf.sub {W : List Addr} : Sub W Ginf := ⟨fun s s' k => let ⟨h, t, e, _⟩ := k; ⟨h, t, e⟩⟩
theorem Ap.inf {s : Shared} {h' : Heap} {t : Nat} : Ginf.Rel s { s with heap := h', toks := t } := ⟨h', t, rfl⟩

section
variable {prog : Program} {w : World} {A : Around} {base : Heap} {F : List Addr} {K : Frag} {C : Addr} {fs : List (Str × Ty)} {n : Nat}
theorem Fn.up {f : Value} {Ts : List Ty} {T : Ty} {h : Heap} (x : Fn prog w n base f Ts T) (k : Ext base h) : Fn prog w n h f Ts T := .mk fun A F s vs R hb hF ha Q E q => x.go A F s vs R (fun b o e => hb b o (k b o e)) hF ha Q E q
theorem Fn.le {f : Value} {Ts : List Ty} {T : Ty} {m : Nat} (x : Fn prog w n base f Ts T) (k : n ≤ m) : Fn prog w m base f Ts T := .mk fun A F s vs R hb hF ha Q E q => x.go A F s vs (R.le k) hb hF ha Q E q
theorem Gn.up {x : Str} {f : Value} {h : Heap} (g : Gn base x f) (k : Ext base h) : Gn h x f := by
  obtain ⟨mg, n, q⟩ := g.go
  refine ⟨mg, n.keeps k, ?_⟩
  rcases q with q | ⟨q, mb, nb, qb⟩
  · exact .inl q
  · exact .inr ⟨q, mb, nb.keeps k, qb⟩
theorem Cal.up {f : Value} {h : Heap} (c : Cal prog w base f) (k : Ext base h) : Cal prog w h f := .mk fun h' k' => c.go h' fun b o e => k' b o (k b o e)
theorem Cal.cls (X : Kc K base C) (hk : keepIn K (.ref C) = true) : Cal prog w base (.ref C) := .mk fun h k => by
  obtain ⟨z, hz, l⟩ := looks_keep (M := model prog w) hk (X.inn.keeps k)
  exact ⟨z, hz.elim .inl fun e => .inr (.inl e), l⟩

theorem tc_weight {C : Addr} {vs : List Value} : (Code.builtin "type.__call__" ⟨.ref C :: vs, []⟩).weight = 1 := by rfl
theorem tc_units {C : Addr} {vs : List Value} : (Code.builtin "type.__call__" ⟨.ref C :: vs, []⟩).cUnits = 1 := by rfl
theorem Room.made {n : Nat} {A : Around} {C : Addr} {vs : List Value} (R : Room (n + 1) A) : Room n (A.under (.builtin "type.__call__" ⟨.ref C :: vs, []⟩)) :=
  ⟨R.hh, by have := R.depth; show A.depth + (Code.builtin "type.__call__" ⟨.ref C :: vs, []⟩).weight + n ≤ 900; rw [tc_weight]; omega, by have := R.units; show A.units + (Code.builtin "type.__call__" ⟨.ref C :: vs, []⟩).cUnits + 10 * n ≤ 9000; rw [tc_units]; omega⟩

/-- a thing is made: the class is called -/
theorem Fn.make {fI : Addr} {o : Obj} {fd : FuncData} {body : List Stmt} {Ts : List Ty} {names : List Str} (X : Kc K base C) (hi : findIn K (.ref C) "__init__" = some (some (.ref fI))) (hft : isFn K (.ref fI) = true)
    (ho : base.get? fI = some o) (hd : o.data = .func fd) (hl : base.NoLimit) (hcd : base.CodeRec fd.code fd.qualname) (hbody : fd.body = .stmts body) (hclo : fd.closure = [])
    (hbind : ∀ vs : List Value, vs.length = names.length → bindArgs fd ⟨vs, []⟩ = pure (names.zip vs)) (hlen : names.length = Ts.length + 1) (hok : scopeOk fd.scope names = true)
    (hB : ∀ h A F L x dx, Ext base h → Room n A → h.get? dx = none → h.get? x = none → x ≠ dx → Ap h Ginf (callEnvC fd L fI) dx →
      Bx prog w A h (foot fd L) Ginf (foot fd L ++ F) (callEnvC fd L fI) (names.zip (Mo C x dx [] :: Ts)) body (fun fl h' => (fl = .next) ∧ Ext h h' ∧ (Ins C fs).P (.ref x) (hid (foot fd L ++ F) h'))) :
    Fn prog w (n + 2) base (.ref C) Ts (Ins C fs) := .mk fun A F s vs R hb hF ha Q E h => by
  obtain ⟨hkind, hnd, hnm, hk, hco, hgen⟩ := scopeOk_parts hok
  obtain ⟨hh, g, dr, t, os⟩ := s
  have XX := X.inn.keeps hb
  refine wpAny_call (make_core (makes_of XX X.mks) (looks_findIn XX hi) (fun self => bind_fn XX self (beq_iff_eq.mp hft)) (.inl rfl) ?_)
  have R1 : Room (n + 1) (A.under (.builtin "type.__call__" ⟨.ref C :: vs, []⟩)) := R.made
  have k0 : Ext hh ((hh.push emptyDict).push (instObj C hh.objs.size)) := fun b o e => Heap.get?_push_of_some _ (Heap.get?_push_of_some _ e)
  have gx : ((hh.push emptyDict).push (instObj C hh.objs.size)).get? (hh.objs.size + 1) = some (instObj C hh.objs.size) := by
    have : ((hh.push emptyDict).push (instObj C hh.objs.size)).get? (hh.push emptyDict).objs.size = some (instObj C hh.objs.size) := Heap.get?_push_size _ rfl
    rwa [Heap.size_push] at this
  have gd : ((hh.push emptyDict).push (instObj C hh.objs.size)).get? hh.objs.size = some emptyDict := Heap.get?_push_of_some _ (Heap.get?_push_size _ rfl)
  have nx : hh.get? (hh.objs.size + 1) = none := by
    cases q : hh.get? (hh.objs.size + 1) with
    | none => rfl
    | some o => exact absurd (Heap.lt_size q) (Nat.not_lt.mpr (Nat.le_succ _))
  have nd := size_none hh
  have nF : ∀ b ∈ F, b ≠ hh.objs.size ∧ b ≠ hh.objs.size + 1 := fun b m => by
    obtain ⟨o, e⟩ := hF b m
    have := Heap.lt_size e
    exact ⟨Nat.ne_of_lt this, Nat.ne_of_lt (Nat.lt_succ_of_lt this)⟩
  generalize hH : (hh.push emptyDict).push (instObj C hh.objs.size) = H at k0 gx gd ⊢
  have kh : Ext (hid F hh) (hid F H) := hid_ext fun b o _ e => k0 b o e
  have hmo : (Mo C (hh.objs.size + 1) hh.objs.size []).P (.ref (hh.objs.size + 1)) (hid F H) :=
    ⟨rfl, hideAll_get F gx fun m => (nF _ m).2 rfl, [], 0, hideAll_get F gd fun m => (nF _ m).1 rfl, (fun e m => nomatch m), Nat.le_refl _, (fun p m => nomatch m), fun _ _ => rfl⟩
  have ha' : AllT (hid F H) (.ref (hh.objs.size + 1) :: vs) (Mo C (hh.objs.size + 1) hh.objs.size [] :: Ts) := .cons hmo (ha.keeps kh)
  have hvl : vs.length = Ts.length := ha.length
  have hnl : names.length = Ts.length + 1 := hlen
  have hzip : (names.zip (.ref (hh.objs.size + 1) :: vs)).map (·.1) = names := by rw [List.map_fst_zip (by simp; omega)]
  refine codeAny_call_cells (s := ⟨H, g, dr, t, os⟩) (body := body) (binds := names.zip (.ref (hh.objs.size + 1) :: vs)) R1.d (k0 _ _ (hb _ _ ho)) hd ((hl.keeps hb).keeps k0) ((hcd.keeps hb).keeps k0) hbody (hbind _ (by simp; omega)) hclo (fun p m => hkind _ p.1 (List.of_mem_zip (a := p.1) (b := p.2) m).1) (fun s₁ x => ?_) hco hgen hk
  have S := sd_enter (base := hh) (names := names) (Ts := Mo C (hh.objs.size + 1) hh.objs.size [] :: Ts) (F := F) (s := ⟨H, g, dr, t, os⟩) (vs := .ref (hh.objs.size + 1) :: vs) (hnd _) hnm (hkind _) hk k0 (fun b m => let ⟨o, e⟩ := hF b m; ⟨o, k0 b o e⟩) ha' (by simp; omega) x
  have fn := foot_none (s := ⟨H, g, dr, t, os⟩) x
  have P : Ap hh Ginf (callEnvC fd H.objs.size fI) hh.objs.size := by
    refine ⟨nd, fun _ _ _ _ _ _ => Ap.inf, fun z => ?_, fun y c e z => ?_⟩
    · exact none_some (fn _ (.head _)) (show H.get? H.objs.size = _ from (show H.objs.size = hh.objs.size from z) ▸ gd)
    · have : c ∈ foot fd H.objs.size := .tail _ (List.mem_map.mpr ⟨_, mem_of_lookup e, rfl⟩)
      exact none_some (fn _ this) (z ▸ gd)
  refine (hB hh _ F H.objs.size (hh.objs.size + 1) hh.objs.size hb R1.deeper nd nx (Nat.succ_ne_self _) P).go Ginf.sub s₁ S _ _ fun fl s' kf r => ?_
  obtain ⟨rfl, kb, q⟩ := r
  obtain ⟨h₁, t₁, e₁⟩ := x.toInCall.same
  obtain ⟨h₂, t₂, e₂⟩ := kf
  refine ⟨rfl, h _ _ ⟨h₂, t₂, ?_, fun b o e => by have := kb b o e; rw [e₂] at this; exact this⟩ ((Ins C fs).mono _ _ _ (hid_le fun b m => List.mem_append_right _ m) q)⟩
  rw [e₂, e₁]
end
end Mine
end

section
open PySem PySem.W PySem.Calls PySem.Spec
open PyProof.Rows (IntsAre)
set_option linter.unusedVariables false
namespace Mine

/-- nothing but I is sure to stand -/
noncomputable def Gk (I : Addr) : Gd := ⟨fun s s' => (∃ h' tk, s' = { s with heap := h', toks := tk }) ∧ ∀ o, s.heap.get? I = some o → s'.heap.get? I = some o, fun a b c x y => by
  obtain ⟨⟨h, t, rfl⟩, k⟩ := x
  obtain ⟨⟨h', t', rfl⟩, k'⟩ := y
  exact ⟨⟨h', t', rfl⟩, fun o e => k' o (k o e)⟩⟩
theorem Gk.sub {W : List Addr} {I : Addr} (h : I ∉ W) : Sub W (Gk I) := ⟨fun s s' k => ⟨let ⟨h, t, e, _⟩ := k; ⟨h, t, e⟩, fun o e => k.not e h⟩⟩
/-- what is seen may turn -/
structure Tv (V : Gd) (F : List Addr) : Prop where
  go : ∀ a, a ∉ F → ∀ (s : Shared) h' t, Heap.SameBut a s.heap h' → V.Rel s { s with heap := h', toks := t }
theorem Tv.inf {F : List Addr} : Tv Ginf F := ⟨fun _ _ s h' t _ => ⟨h', t, rfl⟩⟩
theorem Tv.gk {F : List Addr} {I : Addr} : Tv (Gk I) (I :: F) := ⟨fun a na s h' t hs => ⟨⟨h', t, rfl⟩, fun o e => (hs.2 I fun z => na (z ▸ .head _)).trans e⟩⟩

/-- a list of ints that may turn, not of the base -/
noncomputable def Me (base : Heap) (ns : List Int) : Ty := ⟨fun v h => ∃ a vs, v = .ref a ∧ base.get? a = none ∧ h.PlainList a vs.toArray ∧ IntsAre vs ns, fun v h h' k q => by
  obtain ⟨a, vs, e, b, ⟨n, p⟩, r⟩ := q
  exact ⟨a, vs, e, b, ⟨n, k _ _ p⟩, r⟩⟩
theorem Me.le {base : Heap} {ns : List Int} : Le (Me base ns) (TL ns) := fun v h ⟨a, vs, e, b, p, r⟩ => by subst e; exact list_py p.isList (ints_all2 r)
noncomputable def FrzL (base : Heap) (T : Ty) : Prop := ∀ v h h' a vs, base.get? a = none → h.PlainList a vs → (∀ b o, b ≠ a → h.get? b = some o → h'.get? b = some o) → T.P v h → T.P v h'
theorem Flat.frzL {base : Heap} {T : Ty} (f : Flat T) : FrzL base T := fun v h h' _ _ _ _ _ q => f v h h' q
theorem Mo.frzL {base : Heap} {C x dx : Addr} {fs : List (Str × Ty)} (f : ∀ p ∈ fs, Flat p.2) : FrzL base (Mo C x dx fs) := fun v h h' a vs _ pl up q => by
  obtain ⟨e, ex, es, n, ed, fl⟩ := q
  obtain ⟨k, g⟩ := pl
  have n1 : x ≠ a := fun z => by rw [z, g] at ex; cases ex
  have n2 : dx ≠ a := fun z => by rw [z, g] at ed; simp at ed
  exact ⟨e, up _ _ n1 ex, es, n, up _ _ n2 ed, fl.1, fl.2.1, fun p m => let ⟨u, a1, a2, a3⟩ := fl.2.2.1 p m; ⟨u, a1, a2, f p m _ _ _ a3⟩, fl.2.2.2⟩

theorem Me.frzD {base : Heap} {dx : Addr} {ns : List Int} : FrzD dx (Me base ns) := fun v h h' es n g up q => by
  obtain ⟨a, vs, e, b, ⟨m, p⟩, r⟩ := q
  exact ⟨a, vs, e, b, ⟨m, up _ _ (fun z => by rw [z, g] at p; simp at p) p⟩, r⟩
theorem frzL_nil {base : Heap} {σ : List (Str × Ty)} : ∀ p ∈ ([] : List (Str × Ty)), p ∈ σ ∧ FrzL base p.2 := fun _ m => nomatch m
theorem frzL_cons {base : Heap} {a : Str × Ty} {τ σ : List (Str × Ty)} (h : a ∈ σ) (f : FrzL base a.2) (t : ∀ p ∈ τ, p ∈ σ ∧ FrzL base p.2) : ∀ p ∈ a :: τ, p ∈ σ ∧ FrzL base p.2 := fun p m => (List.mem_cons.mp m).elim (fun e => e ▸ ⟨h, f⟩) (t p)
theorem frzD_nil {dx : Addr} {σ : List (Str × Ty)} : ∀ p ∈ ([] : List (Str × Ty)), p ∈ σ ∧ FrzD dx p.2 := fun _ m => nomatch m
theorem frzD_cons {dx : Addr} {a : Str × Ty} {τ σ : List (Str × Ty)} (h : a ∈ σ) (f : FrzD dx a.2) (t : ∀ p ∈ τ, p ∈ σ ∧ FrzD dx p.2) : ∀ p ∈ a :: τ, p ∈ σ ∧ FrzD dx p.2 := fun p m => (List.mem_cons.mp m).elim (fun e => e ▸ ⟨h, f⟩) (t p)
section
variable {prog : Program} {w : World} {A : Around} {base : Heap} {W : List Addr} {V : Gd} {F : List Addr} {env : Env} {σ : List (Str × Ty)} {rest : List Stmt} {R : Flow → Heap → Prop} {K : Frag} {C : Addr} {n : Nat}

theorem Ev.newL {pos : Pos} : Ev prog w A base F env σ (.List [] pos) (Me base []) := .mk fun s f Q E q =>
  wpAny_List (wpAny_pure ⟨Nat.zero_le _, q _ _ (Kp.push s _) ⟨_, [], rfl, none_of f.base (size_none _), ⟨0, hideAll_get F (Heap.get?_push_size _ rfl) (size_out f.old)⟩, .nil⟩⟩)
theorem ints_append {vs ws : List Value} {ns ms : List Int} : IntsAre vs ns → IntsAre ws ms → IntsAre (vs ++ ws) (ns ++ ms)
  | .nil, q => q
  | .cons _ _ r, q => .cons _ _ (ints_append r q)
/-- l + r, plain lists of ints -/
theorem Ev.catL {l r : Expr} {pos : Pos} {xs ys : List Int} (hl : Ev prog w A base F env σ l (Me base xs)) (hr : Ev prog w A base F env σ r (Me base ys)) (hz : xs.length + ys.length ≤ 1000) :
    Ev prog w A base F env σ (.BinOp l .Add r pos) (Me base (xs ++ ys)) := .mk fun s f Q E h =>
  wpAny_BinOp (hl.go s f _ E fun v₁ s₁ k₁ q₁ => hr.go s₁ (f.keeps k₁.ext) _ E fun v₂ s₂ k₂ q₂ => by
    obtain ⟨a, vs, rfl, na, ⟨n, p⟩, i₁⟩ := q₁
    obtain ⟨b, ws, rfl, nb, ⟨m, p'⟩, i₂⟩ := q₂
    have k := k₁.trans k₂
    have f₂ := f.keeps k.ext
    have e1 := i₁.length
    have e2 := i₂.length
    have e' : sizeLine = 16777216 := sizeLine_eq
    refine P.add_list (n := n) (n2 := m) (items := vs.toArray) (items2 := ws.toArray) (k₂.ext _ _ (of_hideAll F p)) (of_hideAll F p') ?_ (by simp; omega)
    refine h _ _ (k.trans (Kp.push s₂ _)) ⟨_, vs ++ ws, rfl, none_of f₂.base (size_none _), ⟨0, hideAll_get F (by rw [show (vs ++ ws).toArray = vs.toArray ++ ws.toArray by simp]; exact Heap.get?_push_size _ rfl) (size_out f₂.old)⟩, ints_append i₁ i₂⟩)
theorem mul_plain {s : Shared} {E Q : Value → Shared → Prop} {l : Addr} {items : Array Value} {k : Nat} {x : Int} {u : Tok}
    (hl : s.heap.get? l = some { cls := .type "list", dict := none, data := .seq items k, slots := #[] })
    (hlo : -(2 ^ 63 : Int) ≤ x) (hhi : x < 2 ^ 63) (hsz : items.size * x.toNat ≤ 2 ^ 24)
    (h : Q (.ref s.heap.objs.size) { s with heap := s.heap.push { cls := .type "list", data := .seq (List.foldl (fun x1 x2 => x1 ++ x2) #[] (List.replicate (if items.isEmpty = true then 0 else x.toNat) items)) } }) :
    wpAny (model prog w) A (binaryOp .Mult (.ref l) (.int x u)) Q E s :=
  wpAny_binaryOp_repeat_ref (T := "list") (U := "int") (by decide) ⟨_, hl, rfl⟩ (fun s' => typeIs_int s' x u) noFill_list_mul PySem.F.fills_int_mul PySem.F.slot_int_rmul repeat_list PySem.F.slot_int_index.lookup
    (call_meets PySem.F.slot_int_rmul (typeIs_int s x u) PySem.F.entry_int_rmul (PySem.F.args_int_rmul_2 _ _) (int___rmul___int_list x u l items k)
      ⟨hl, rfl, ⟨_, hl, rfl⟩, call_meets PySem.F.slot_list_mul ⟨_, hl, rfl⟩ PySem.F.entry_list_mul (PySem.F.args_list_mul_2 _ _)
        (AutoListH.list___mul___list_int_3 l items k x u (by simp [Builtin.List.listFitsIndex]; omega) (by omega) (by simp [Builtin.List.listTooLong, sizeLine]; omega))
        ⟨hl, h⟩⟩)
theorem ints_rep {x : Int} {t : Tok} : ∀ k : Nat, IntsAre (List.replicate k (Value.int x t)) (List.replicate k x)
  | 0 => .nil
  | k + 1 => .cons _ _ (ints_rep k)
/-- [0] * k -/
theorem Ev.mulL {l r : Expr} {pos : Pos} {x : Int} {k : Int} (hl : Ev prog w A base F env σ l (Pl [.int x])) (hr : Ev prog w A base F env σ r (TI k)) (hk : 0 ≤ k) (hz : k ≤ 1000) :
    Ev prog w A base F env σ (.BinOp l .Mult r pos) (Me base (List.replicate k.toNat x)) := .mk fun s f Q E h =>
  wpAny_BinOp (hl.go s f _ E fun v₁ s₁ k₁ q₁ => hr.go s₁ (f.keeps k₁.ext) _ E fun v₂ s₂ k₂ q₂ => by
    obtain ⟨a, vs, rfl, ⟨n, p⟩, i₁⟩ := q₁
    obtain ⟨t, rfl⟩ := py_int q₂
    have kk := k₁.trans k₂
    have f₂ := f.keeps kk.ext
    have hl' := k₂.ext _ _ (of_hideAll F p)
    cases i₁ with
    | cons q r =>
      cases r
      obtain ⟨tx, rfl⟩ := py_int q
      refine mul_plain hl' (by omega) (by omega) (by simp; omega) ?_
      have e : (List.foldl (fun x1 x2 => x1 ++ x2) #[] (List.replicate (if ([Value.int x tx] : List Value).toArray.isEmpty = true then 0 else k.toNat) ([Value.int x tx] : List Value).toArray)) = (List.replicate k.toNat (Value.int x tx)).toArray := by
        rw [if_neg (by simp), PyProof.Rows.listMul_foldl]
        simp [PyProof.Rows.lm_rep_flat_one]
      rw [e]
      refine h _ _ (kk.trans (Kp.push s₂ _)) ⟨_, List.replicate k.toNat (Value.int x tx), rfl, none_of f₂.base (size_none _), ⟨0, hideAll_get F (Heap.get?_push_size _ rfl) (size_out f₂.old)⟩, ints_rep _⟩)
theorem Fn.tupleL {ds : List PyData} (hz : ds.length ≤ 1000) : Fn prog w n base (.type "tuple") [Py (.list ds)] (Py (.tuple ds)) := .mk fun A F s vs R hb hF ha Q E h => by
  cases ha with
  | cons q r =>
    cases r
    obtain ⟨a, vs, rfl, hl, hv⟩ := py_list q
    have e := hv.length
    have e' : sizeLine = 16777216 := sizeLine_eq
    refine call_tuple_list (isl hl) (fun h' k => ?_) (by simp; omega)
    have kp : Kp s { s with heap := h'.push { cls := .type "tuple", data := .seq vs.toArray } } := ⟨_, s.toks, rfl, fun b o e => Heap.get?_push_of_some _ (k b o e)⟩
    refine h _ _ kp (tuple_py (vs := vs) ⟨_, hideAll_get F (Heap.get?_push_size _ rfl) fun m => ?_, rfl, 0, rfl⟩ (hv.keeps (hid_ext fun b o _ e => kp.ext b o e)))
    obtain ⟨o, g⟩ := hF _ m
    exact none_some (size_none h') (k _ _ g)

/-- a name bound, twice or thrice, to one value -/
theorem Bx.assign3 {x y z : Str} {px py pz pos : Pos} {e : Expr} {T : Ty} (he : Ev prog w A base F env σ e T) (hf : Flat T) (hx : Own W env x) (hy : Own W env y) (hz : Own W env z)
    (hr : Bx prog w A base W V F env ((z, T) :: drop z ((y, T) :: drop y ((x, T) :: drop x σ))) rest R)
    (h1 : (assignEach [.Name x px, .Name y py, .Name z pz] env).map (·.2) = [PySem.assign (.Name x px) env, PySem.assign (.Name y py) env, PySem.assign (.Name z pz) env] := by rfl)
    (hw : swappedStores [.Name x px, .Name y py, .Name z pz] e env = pure none := by rfl) :
    Bx prog w A base W V F env σ (.Assign [.Name x px, .Name y py, .Name z pz] e pos :: rest) R := .mk fun hV s S Q E k =>
  wpAny_execs_cons (wpAny_Assign_three (he.go s S.fm _ E fun v s₁ kp q => wpAny_assign_Name ((S.keeps kp.ext).store q hx _ E fun s₂ k₂ S₂ => wpAny_assign_Name (S₂.store (hf v _ _ q) hy _ E fun s₃ k₃ S₃ => wpAny_assign_Name (S₃.store (hf v _ _ q) hz _ E fun s₄ k₄ S₄ =>
    hr.go hV s₄ S₄ Q E fun fl s₅ k₅ r => k fl s₅ ((hV.kp kp).trans ((hV.go _ _ (k₂.trans (k₃.trans k₄))).trans k₅)) r)))) h1 hw)
/-- x, y = (e, f) : stored from the last on -/
theorem Bx.swap2 {x y : Str} {px py tp pos vp : Pos} {k k' : Nat} {e f : Expr} {T₁ T₂ : Ty} (hh : A.handled = none) (he : Evs prog w A base F env σ vp [e, f] [T₁, T₂]) (hx : Own W env x) (hy : Own W env y)
    (hr : Bx prog w A base W V F env ((x, T₁) :: drop x ((y, T₂) :: drop y σ)) rest R)
    (hs : swapsWithSole [.Tuple [.Name x px, .Name y py] k tp] (.Tuple [e, f] k' vp) pos.line env = pure false := by rfl) (hw : swappedStores [.Tuple [.Name x px, .Name y py] k tp] (.Tuple [e, f] k' vp) env = pure (some [x, y]) := by rfl) :
    Bx prog w A base W V F env σ (.Assign [.Tuple [.Name x px, .Name y py] k tp] (.Tuple [e, f] k' vp) pos :: rest) R := .mk fun hV s S Q E kk =>
  wpAny_execs_cons (PyProof.Rows.Assign_Tuple_swapped (names := [x, y]) ((Ev.tuple he (by simp)).go s S.fm _ E fun v s₁ kp q => by
    obtain ⟨a, vs, rfl, hl, hv⟩ := q
    cases hv with
    | cons q₁ r => cases r with
      | cons q₂ r =>
        cases r
        refine wpAny_unpackItems_tuple (items := [_, _].toArray) hh (ist hl) fun h' he' => ?_
        have kp' : Kp s₁ { s₁ with heap := h' } := ⟨h', s₁.toks, rfl, fun b o e => he' b o (fun z => Nat.lt_irrefl _ (z ▸ Heap.lt_size e)) e⟩
        have S₂ := (S.keeps kp.ext).keeps kp'.ext
        have up := hid_ext (F := F) fun b o _ e => kp'.ext b o e
        refine PyProof.Rows.assignInOrder_cons (PyProof.Rows.bindName_ (S₂.store (s := { s₁ with heap := h' }) (T₂.mono _ _ _ up q₂) hy _ E fun s₃ k₃ S₃ => ?_))
        refine PyProof.Rows.assignInOrder_cons (PyProof.Rows.bindName_ (S₃.store (T₁.mono _ _ _ (hid_ext fun b o nm e => k₃.not e fun m => nm (S.sub b m)) (T₁.mono _ _ _ up q₁)) hx _ E fun s₄ k₄ S₄ => ?_))
        exact PyProof.Rows.assignInOrder_nil (hr.go hV s₄ S₄ Q E fun fl s₅ k₅ r => kk fl s₅ ((hV.kp (kp.trans kp')).trans ((hV.go _ _ (k₃.trans k₄)).trans k₅)) r)) hs hw)
/-- a value that the class holds -/
structure Kcv (K : Frag) (C : Addr) (name : Str) (v : Value) : Prop where
  go : ∃ mc, readsIn K C mc = true ∧ findCls K (.ref C) mc name = some (.val v) ∧ handedIn v = true
theorem Ev.cattr {y name : Str} {py pos : Pos} {v : Value} {T : Ty} (X : Kc K base C) (hg : Gn base y (.ref C)) (hx : env.kindOf y = some .globalImplicit) (h1 : env.globals = mainGlobals) (h2 : env.builtins = builtinsNs) (hv : Kcv K C name v) (hT : ∀ h, T.P v h)
    (hd : (y == ("__debug__" : Str)) = false := by decide +kernel) : Ev prog w A base F env σ (.Attribute (.Name y py) name pos) T := .mk fun s f Q E h =>
  PyProof.Rows.Attribute_name (Ev.gname hg hx h1 h2 f (by
    obtain ⟨mc, r, e, hh⟩ := hv.go
    exact cls_value (X.inn.keeps f.base) r e hh (h v _ (Kp.tok s _) (hT _))) hd)

theorem mapSeq_plain (its : Array Value) (n : Nat) (j : Nat) (v : Value) : Obj.mapSeq (·.setIfInBounds j v) { cls := .type "list", data := .seq its n } = { cls := .type "list", data := .seq (its.setIfInBounds j v) n } := by
  simp [Obj.mapSeq]
theorem setItem_plain {s : Shared} {E : Value → Shared → Prop} {l : Addr} {items : Array Value} {k : Int} {m : Nat} {t : Tok} {v : Value} {Q : Unit → Shared → Prop} (ho : s.heap.get? l = some { cls := .type "list", data := .seq items m })
    (h0 : 0 ≤ k) (hfit : k < 2 ^ 63) (hn : k < items.size)
    (hQ : ∀ h', h'.get? l = some { cls := .type "list", data := .seq (items.setIfInBounds k.toNat v) m } → Heap.SameBut l s.heap h' → Q () { s with heap := h' }) :
    wpAny (model prog w) A (setItem (.ref l) (.int k t) v) Q E s := by
  have hl : s.heap.IsList l items := ⟨_, ho, rfl, m, rfl⟩
  unfold setItem
  try with_reducible refine wpAny_holding ?_
  first | refine wpAny_bind (wpAny_pure ?_) | skip
  refine wpAny_bind (wpAny_sequenceKey hl.typeIs (by decide) ?_)
  refine wpAny_bind (wpAny_callSpecial?_slot (name := Str.ofString "__setitem__") hl.typeIs slot_list_setitem
    (wpAny_call_entry slot_list_setitem hl.typeIs entry_list_setitem ?_ (args_list_setitem _ _ _)))
  show wpAny _ _ (Builtin.List.listSubscript? (.int k t) >>= _) _ _ s
  refine wpAny_bind (wpAny_listSubscript_int (fitsIndex_of h0 hfit) ?_)
  clear hfit
  obtain ⟨j, rfl⟩ := Int.eq_ofNat_of_zero_le h0
  have hj : j < items.size := by omega
  have hx' : items[j]? = some items[j] := Array.getElem?_eq_getElem hj
  show wpAny _ _ ((seqItemAt l j >>= fun r => pure (r.map (j, ·))) >>= _) _ _ s
  refine wpAny_bind (wpAny_bind (wpAny_seqItemAt ho rfl (wpAny_pure ?_)))
  rw [hx']
  show wpAny _ _ (setSeqItemAt l j v >>= _) _ _ s
  have hfin : (s.heap.update l (Obj.mapSeq (·.setIfInBounds j v))).get? l = some { cls := .type "list", data := .seq (items.setIfInBounds j v) m } := by
    rw [Heap.get?_update_self _ ho (by rw [mapSeq_plain]; rfl), mapSeq_plain]
  refine wpAny_bind (wpAny_setSeqItemAt ho rfl ?_)
  first
    | exact wpAny_bind (wpAny_pure (wpAny_pure ⟨.none, rfl, wpAny_pure (hQ _ hfin (Heap.SameBut.update ..))⟩))
    | exact wpAny_pure ⟨.none, rfl, wpAny_pure (hQ _ hfin (Heap.SameBut.update ..))⟩
theorem ints_set {tv : Tok} {v : Int} : ∀ {vs : List Value} {ns : List Int} (j : Nat), IntsAre vs ns → IntsAre (vs.set j (.int v tv)) (ns.set j v)
  | _, _, _, .nil => .nil
  | _, _, 0, .cons _ _ r => .cons _ _ r
  | _, _, j + 1, .cons _ _ r => .cons _ _ (ints_set j r)
theorem loc_read {s : Shared} {Q E : Value → Shared → Prop} {x : Str} {px : Pos} {v : Value} (hk : env.scope.kind = .function) (l : Loc s.heap env x v) (h : Q v s)
    (hd : (x == ("__debug__" : Str)) = false) (hn : (x == ("__classdict__" : Str)) = false) : wpAny (model prog w) A (eval (.Name x px) env) Q E s := by
  refine wpAny_Name ?_ hd
  rcases l with ⟨e, mm, n, qq⟩ | ⟨e, c, lk, qq⟩
  · exact wpAny_loadName_local hk e n qq h
  · rcases e with e | e
    · exact wpAny_loadName_cell hk e lk qq h
    · exact wpAny_loadName_free hk e lk qq h hn
/-- l[k] = e, where the list may turn -/
theorem Bx.setItem {x i : Str} {px pi pos' pos : Pos} {e : Expr} {ns : List Int} {k v : Int} {σ' : List (Str × Ty)} (hm : (x, Me base ns) ∈ σ) (hi : (i, TI k) ∈ σ) (he : Ev prog w A base F env σ e (TI v)) (h0 : 0 ≤ k) (hk : k < ns.length) (hz : ns.length ≤ 1000)
    (hV' : Tv V F) (hnc : env.cells = []) (hσ : ∀ p ∈ σ', p ∈ σ ∧ FrzL base p.2) (hr : Bx prog w A base W V F env ((x, Me base (ns.set k.toNat v)) :: drop x σ') rest R)
    (hs : swapsWith e (some (.Subscript (.Name x px) (.Name i pi) pos')) pos.line env = pure false := by rfl) (hd : (x == ("__debug__" : Str)) = false := by decide +kernel) (hn : (x == ("__classdict__" : Str)) = false := by decide +kernel)
    (hd' : (i == ("__debug__" : Str)) = false := by decide +kernel) (hn' : (i == ("__classdict__" : Str)) = false := by decide +kernel) :
    Bx prog w A base W V F env σ (.Assign [.Subscript (.Name x px) (.Name i pi) pos'] e pos :: rest) R := .mk fun hV s S Q E kk => by
  refine wpAny_execs_cons (wpAny_Assign_Subscript (he.go s S.fm _ E fun vv s₁ k₁ q₁ => ?_) hs)
  have S₁ := S.keeps k₁.ext
  obtain ⟨v₀, q₂, l₀⟩ := S₁.fm.var _ hm
  refine loc_read S.fm.kind l₀ ?_ hd hn
  refine (Ev.name (pos := pi) hi hd' hn' : Ev prog w A base F env σ (.Name i pi) (TI k)).go s₁ S₁.fm _ E fun iv s₃ k₃ q₃ => ?_
  obtain ⟨a, vs, rfl, nb, ⟨m, p⟩, ii⟩ := q₂
  obtain ⟨t, rfl⟩ := py_int q₃
  obtain ⟨tv, rfl⟩ := py_int q₁
  have S₃ := S₁.keeps k₃.ext
  have naF : a ∉ F := hid_notin p
  have p₂ := of_hideAll F p
  have p₃ := k₃.ext _ _ p₂
  have el := ii.length
  obtain ⟨j, rfl⟩ := Int.eq_ofNat_of_zero_le h0
  have hnl : vs.toArray.size = ns.length := by simp [el]
  refine setItem_plain p₃ (Int.natCast_nonneg j) (by omega) (by omega) fun h₄ g₄ hs₄ => ?_
  have up : ∀ b o, b ≠ a → s₃.heap.get? b = some o → h₄.get? b = some o := fun b o n e => (hs₄.2 b n).trans e
  have nl : env.locals ≠ a := fun z => naF (z ▸ S.sub _ S.inL)
  have nc : ∀ y c, env.cells.lookup y = some c → c ≠ a := fun y c e => by rw [hnc] at e; cases e
  have P : Ap base Ginf env a := ⟨nb, fun _ _ _ _ _ _ => Ap.inf, nl, nc⟩
  have S₄ : Sd base W F env ((x, Me base (ns.set j v)) :: drop x σ') h₄ := by
    obtain ⟨m', oL, es, ep, gL, rL⟩ := S₃.ns
    refine ⟨⟨S₃.fm.kind, fun b o e => up b o (fun z => none_some nb (z ▸ e)) (S₃.fm.base b o e), fun b mF => ?_, fun q mq => ?_⟩, ⟨m', oL, es, ep, up _ _ nl gL, rL⟩, fun y c e => (by rw [hnc] at e; cases e), S₃.inL, S₃.nb, S₃.sub, S₃.apart, S₃.nl⟩
    · obtain ⟨o, e⟩ := S₃.fm.old b mF
      exact ⟨o, up b o (fun z => naF (z ▸ mF)) e⟩
    · rcases List.mem_cons.mp mq with rfl | mq
      · exact ⟨.ref a, ⟨a, vs.set j (.int v tv), rfl, nb, ⟨m, hideAll_get F (by rw [g₄]; simp) naF⟩, by simpa using ints_set j ii⟩, P.loc up (l₀.keeps k₃.ext)⟩
      · obtain ⟨ms, _⟩ := of_drop mq
        obtain ⟨ms, fz⟩ := hσ q ms
        obtain ⟨u, qq, l⟩ := S₃.fm.var q ms
        refine ⟨u, fz u (hid F s₃.heap) _ a vs.toArray nb ⟨m, hideAll_get F p₃ naF⟩ (fun b o n e => hideAll_get F (up b o n (of_hideAll F e)) (hid_notin e)) qq, P.loc up l⟩
  exact hr.go hV { s₃ with heap := h₄ } S₄ Q E fun fl s₅ k₅ r => kk fl s₅ ((hV.kp (k₁.trans k₃)).trans ((hV'.go a naF s₃ h₄ s₃.toks hs₄).trans k₅)) r
end
end Mine
end

section
open PySem PySem.W PySem.Calls PySem.Spec
set_option linter.unusedVariables false
namespace Mine
section
variable {prog : Program} {w : World} {A : Around} {base : Heap} {W : List Addr} {F : List Addr} {env : Env} {σ : List (Str × Ty)} {rest : List Stmt} {R : Flow → Heap → Prop} {n : Nat}

/-- a loop over the signs of a text, where anything but the iterator may turn -/
theorem Bx.forStr {x : Str} {px pos : Pos} {iter : Expr} {body : List Stmt} {t : Str} (J : Nat → Prop) (σs : Nat → List (Str × Ty)) (RR : Room n A) (he : Ev prog w A base F env σ iter (TS t)) (hasc : t.cps.all (· < 128) = true) (J0 : J 0) (h0 : ∀ p ∈ σs 0, p ∈ σ)
    (hk : env.kindOf x = some .local)
    (hb : ∀ i, i < t.length → J i → ∀ I, Bx prog w A base W (Gk I) (I :: F) env ((x, TS (sgn t i)) :: drop x (σs i)) body (fun fl h => match fl with
      | .next => J (i + 1) ∧ Sd base W (I :: F) env (σs (i + 1)) h
      | .cont => J (i + 1) ∧ Sd base W (I :: F) env (σs (i + 1)) h
      | .brk => ∃ σ', Sd base W (I :: F) env σ' h ∧ Bx prog w A base W Ginf F env σ' rest R
      | .ret v => R (.ret v) h))
    (hr : J t.length → Bx prog w A base W Ginf F env (σs t.length) rest R)
    (hs : ∀ x, foldedSetIterable iter env x = pure x := by intro _; rfl) :
    Bx prog w A base W Ginf F env σ (.For (.Name x px) iter body [] pos :: rest) R := .mk fun hV s S Q E k => by
  refine wpAny_execs_cons (wpAny_For (he.go s S.fm _ E fun v s₁ k₁ q₁ => ?_) hs)
  obtain ⟨tt, rfl⟩ := py_str q₁
  refine wpAny_pyIter_ascii hasc ?_
  have Wk := Wks.of (x := x) (px := px) (Walks.strAscii (prog := prog) (w := w) RR.hh s₁.heap.objs.size t tt)
  generalize hI : s₁.heap.objs.size = I at Wk
  have gI : (s₁.heap.push { cls := .type "str_ascii_iterator", data := .fields #[.str t tt, .int 0 0] }).get? I = some { cls := .type "str_ascii_iterator", data := .fields #[.str t tt, .int 0 0] } := hI ▸ Heap.get?_push_size _ rfl
  have nI : s₁.heap.get? I = none := hI ▸ size_none _
  have k₂ := Kp.push s₁ { cls := .type "str_ascii_iterator", data := .fields #[.str t tt, .int 0 0] }
  generalize hs₂ : ({ s₁ with heap := s₁.heap.push { cls := .type "str_ascii_iterator", data := .fields #[.str t tt, .int 0 0] } } : Shared) = s₂ at k₂
  have gI₂ : s₂.heap.IsStrIter I "str_ascii_iterator" t tt 0 := by subst hs₂; exact ⟨_, gI, rfl, rfl⟩
  have kp := k₁.trans k₂
  have S' := S.keeps kp.ext
  have nIs : s.heap.get? I = none := none_of k₁.ext nI
  have nbI : base.get? I = none := none_of S.fm.base nIs
  have nIW : I ∉ W := fun m => by obtain ⟨o, e⟩ := S.fm.old I (S.sub _ m); exact none_some nIs e
  have nIL : env.locals ≠ I := fun z => nIW (z ▸ S.inL)
  have nIC : ∀ y c, env.cells.lookup y = some c → c ≠ I := fun y c e z => by
    obtain ⟨_, _, g, _⟩ := S.cel y c e
    exact none_some nIs (z ▸ g)
  have S0 : Sd base W (I :: F) env (σs 0) s₂.heap := by
    have := (S.hide (N := [I]) kp.ext fun b m => by
      rw [List.mem_singleton.mp m]; obtain ⟨o, e, _⟩ := gI₂; exact ⟨nIs, o, e⟩)
    exact this.less h0
  have unh : ∀ {σ' : List (Str × Ty)} {h : Heap}, Sd base W (I :: F) env σ' h → Sd base W F env σ' h := fun Z =>
    ⟨⟨Z.fm.kind, Z.fm.base, fun b m => Z.fm.old b (.tail _ m), fun p m => let ⟨v, q, l⟩ := Z.fm.var p m; ⟨v, p.2.mono _ _ _ (hid_le fun b m => .tail _ m) q, l⟩⟩, Z.ns, Z.cel, Z.inL, Z.nb, S.sub, Z.apart, Z.nl⟩
  have sh : Ginf.Rel s s₂ := by obtain ⟨h', tk, e, _⟩ := kp; exact ⟨h', tk, e⟩
  have loop : codeAny (model prog w) A (.forLoop (.Name x px) (.ref I) body [] env) (fun r s' => match r with | .ok f => (match f with | .next => wpAny (model prog w) A (execs rest env) Q E s' | f => Q f s') | .error e => cameBackBy (model prog w) A env E e s') s₂ := by
    refine codeAny_forLoop_any (fun k' s₃ => ∃ i, i ≤ t.length ∧ k' = t.length - i ∧ J i ∧ Ginf.Rel s s₃ ∧ s₃.heap.IsStrIter I "str_ascii_iterator" t tt i ∧ Sd base W (I :: F) env (σs i) s₃.heap) ?_ t.length ⟨0, Nat.zero_le _, rfl, J0, sh, gI₂, S0⟩
    rintro k' s₃ ⟨i, hin, rfl, Ji, kf, sti, Si⟩
    by_cases hlt : i < t.length
    · refine Wk.item i s₃ _ _ _ (fun v s₂ z => z) hlt sti fun v h₁ tk hPv st₁ hk₁ => ?_
      have hk₁' : ∀ b o, b ≠ I → s₃.heap.get? b = some o → h₁.get? b = some o := fun b o n e => hk₁ b o (fun m => n (List.mem_singleton.mp m)) e
      have S₁ : Sd base W (I :: F) env (σs i) h₁ := Si.other (N := [I]) hk₁ (fun b m => by rw [List.mem_singleton.mp m]; exact .head _) (by simp [nIL]) (fun y c e => by simp [nIC y c e]) (fun b m => by rw [List.mem_singleton.mp m]; exact nbI)
        fun b m => by rw [List.mem_singleton.mp m]; obtain ⟨o, e, _⟩ := st₁; exact ⟨o, e⟩
      have hv : (TS (sgn t i)).P v (hid (I :: F) h₁) := by
        obtain ⟨c, u, e, rfl⟩ := hPv
        have : sgn t i = ⟨#[c]⟩ := by unfold sgn; rw [Array.getD_eq_getD_getElem?, e]; rfl
        rw [this]; exact str_py _ _ _
      refine wpAny_assign_Name (S₁.store (s := { s₃ with heap := h₁, toks := tk }) hv (.inl hk) _ _ fun s₄ k₄ S₄ => ?_)
      refine (hb i hlt Ji I).go (Gk.sub nIW) s₄ S₄ _ _ fun fl s₅ k₅ r => ?_
      obtain ⟨⟨h₅, t₅, e₅⟩, kI⟩ := k₅
      have sh₅ : Ginf.Rel s s₅ := kf.trans (Gd.Rel.trans (G := Ginf) (b := { s₃ with heap := h₁, toks := tk }) ⟨_, _, rfl⟩ (Gd.Rel.trans (G := Ginf) (b := s₄) (let ⟨h, t, e, _⟩ := k₄; ⟨h, t, e⟩) ⟨h₅, t₅, e₅⟩))
      have it₅ : s₅.heap.IsStrIter I "str_ascii_iterator" t tt (i + 1) := by
        obtain ⟨o, e, r⟩ := st₁
        exact ⟨o, kI o (k₄.not e nIW), r⟩
      cases fl with
      | next => exact ⟨t.length - (i + 1), by omega, i + 1, hlt, rfl, r.1, sh₅, it₅, r.2⟩
      | cont => exact ⟨t.length - (i + 1), by omega, i + 1, hlt, rfl, r.1, sh₅, it₅, r.2⟩
      | brk =>
        obtain ⟨σ', S₅, B⟩ := r
        exact B.go hV _ (unh S₅) Q E fun fl s₆ k₆ r => k fl s₆ (sh₅.trans k₆) r
      | ret v => exact k _ _ sh₅ r
    · have : i = t.length := by omega
      subst this
      refine Wk.done s₃ _ _ sti fun h₁ tk hk₁ => wpAny_execs_nil ?_
      have hk₁' : ∀ b o, b ∉ [I] → s₃.heap.get? b = some o → h₁.get? b = some o := hk₁
      have Sn : Sd base W F env (σs t.length) h₁ := Sd.letGo (N := [I]) Si hk₁' (by simp [nIL]) (fun y c e => by simp [nIC y c e]) (fun b m => by rw [List.mem_singleton.mp m]; exact nbI)
        (fun b m => by simp; intro z; obtain ⟨o, e⟩ := S.fm.old b m; exact none_some nIs (z ▸ e)) S.sub
      exact (hr Ji).go hV _ Sn Q E fun fl s₆ k₆ r => k fl s₆ (Gd.Rel.trans (kf.trans (Gd.Rel.trans (G := Ginf) (b := { s₃ with heap := h₁, toks := tk }) ⟨_, _, rfl⟩ ⟨_, _, rfl⟩)) k₆) r
  subst hs₂
  first | exact loop | exact codeAny_mono loop fun r s' z => z
end
end Mine
end

section
open PySem PySem.W PySem.Calls PySem.Spec
set_option linter.unusedVariables false
namespace Mine
local macro_rules | `(tactic| walk_at "mem") => `(tactic| first | with_reducible exact List.mem_cons_self | (with_reducible refine List.mem_cons_of_mem _ ?_; walk_at "mem") | (with_reducible refine mem_drop ?_ (by decide +kernel); walk_at "mem"))
local macro_rules | `(tactic| walk_at "sub") => `(tactic| first | with_reducible exact sub_nil | (with_reducible refine sub_cons (by walk_at "mem") ?_; walk_at "sub"))
local macro_rules | `(tactic| walk_at "frzD") => `(tactic| first | with_reducible exact frzD_nil | (with_reducible refine frzD_cons (by walk_at "mem") (by first | exact Flat.int.frzD | exact Flat.str.frzD | exact Flat.bool.frzD | exact Me.frzD) ?_; walk_at "frzD"))
local macro_rules | `(tactic| walk_at "frzL") => `(tactic| first | with_reducible exact frzL_nil | (with_reducible refine frzL_cons (by walk_at "mem") (by first | exact Flat.int.frzL | exact Flat.str.frzL | exact Mo.frzL (by intro p m; rw [List.mem_singleton.mp m]; exact Flat.str)) ?_; walk_at "frzL"))

structure WS where
  count : List Int
  b : Int
  n : Int
  nt : Int
noncomputable def WS.pad (s : WS) : List Int := if (s.count.length : Int) ≤ s.b then s.count ++ List.replicate (s.b - s.count.length + 1).toNat 0 else s.count
noncomputable def WS.step (c : Str) (s : WS) : WS :=
  if c == " " then ⟨s.count, s.b + 1, s.n + 1, s.nt⟩
  else if c == "\t" then ⟨s.pad.set s.b.toNat (s.pad.getD s.b.toNat 0 + 1), 0, s.n + 1, s.nt + 1⟩ else s
noncomputable def wsAt (x : Str) : Nat → WS
  | 0 => ⟨[], 0, 0, 0⟩
  | i + 1 => WS.step (sgn x i) (wsAt x i)
theorem WS.pad_len {s : WS} (h0 : 0 ≤ s.b) : s.b < s.pad.length ∧ (s.pad.length : Int) ≤ max (s.count.length : Int) (s.b + 1) := by
  unfold WS.pad
  split
  · simp; omega
  · omega
theorem wsAt_ok (x : Str) : ∀ i, 0 ≤ (wsAt x i).b ∧ (wsAt x i).b ≤ i ∧ ((wsAt x i).count.length : Int) ≤ i := by
  intro i
  induction i with
  | zero => exact ⟨Int.le_refl _, Int.le_refl _, Int.le_refl _⟩
  | succ i ih =>
    have hp := WS.pad_len (s := wsAt x i) ih.1
    show 0 ≤ (WS.step (sgn x i) (wsAt x i)).b ∧ _ ∧ _
    have e : wsAt x (i + 1) = WS.step (sgn x i) (wsAt x i) := rfl
    rw [e]
    unfold WS.step
    split
    · exact ⟨by show 0 ≤ (wsAt x i).b + 1; omega, by show (wsAt x i).b + 1 ≤ _; omega, by show ((wsAt x i).count.length : Int) ≤ _; omega⟩
    · split
      · refine ⟨Int.le_refl _, by show (0 : Int) ≤ _; omega, ?_⟩
        show (((wsAt x i).pad.set _ _).length : Int) ≤ _
        rw [List.length_set]; omega
      · omega
noncomputable abbrev wsNorm (s : WS) : PyData := .tuple [.tuple (s.count.map .int), .int s.b]
noncomputable abbrev wsF (s : WS) (raw : Str) : List (Str × Ty) := [("is_simple", TB (decide ((s.count.length : Int) ≤ 1))), ("norm", Py (wsNorm s)), ("nt", TI s.nt), ("n", TI s.n), ("raw", TS raw)]
theorem lay_ints : ∀ ns : List Int, PyData.canLayAll0 (ns.map .int) = true
  | [] => rfl
  | _ :: r => by simp [PyData.canLayAll0, PyData.canLay0, lay_ints r]
theorem lay_norm (s : WS) : (wsNorm s).canLay0 = true := by simp [PyData.canLay0, PyData.canLayAll0, lay_ints]

/-- what is known of the class -/
structure Wc (K : Frag) (base : Heap) (C : Addr) : Prop where
  k : Kc K base C
  nl : base.NoLimit
  raw : Kfld K C "raw"
  n : Kfld K C "n"
  nt : Kfld K C "nt"
  norm : Kfld K C "norm"
  sim : Kfld K C "is_simple"
  S : ∃ t, Kcv K C "S" (.str " " t)
  T : ∃ t, Kcv K C "T" (.str "\t" t)
  g : Gn base "Whitespace" (.ref C)
  len : Gn base "len" (.builtin "len")
  tup : Gn base "tuple" (.type "tuple")
  max : Gn base "max" (.builtin "max")
  range : Gn base "range" (.type "range")
theorem Wc.up {K : Frag} {base h : Heap} {C : Addr} (X : Wc K base C) (k : Ext base h) : Wc K h C :=
  ⟨X.k.up k, X.nl.keeps k, X.raw, X.n, X.nt, X.norm, X.sim, X.S, X.T, X.g.up k, X.len.up k, X.tup.up k, X.max.up k, X.range.up k⟩

section
variable {prog : Program} {w : World} {A : Around} {base : Heap} {F : List Addr} {K : Frag} {C : Addr} {z : Fv} {L a x dx : Addr} {raw : Str} {k : Nat}

set_option maxRecDepth 100000 in
theorem init_body (R : Room 2 A) (X : Wc K base C) (hx : raw.cps.all (· < 128) = true) (hz : raw.length ≤ 100) (hk : k ≤ raw.length)
    (good : ∀ j, j < k → (sgn raw j == " " || sgn raw j == "\t") = true) (stop : k < raw.length → (sgn raw k == " ") = false ∧ (sgn raw k == "\t") = false)
    (P : Ap base Ginf (envAt (methAt 1) z L a) dx) :
    Bx prog w A base (ftAt (methAt 1) z L) Ginf (ftAt (methAt 1) z L ++ F) (envAt (methAt 1) z L a) [("self", Mo C x dx []), ("ws", TS raw)] (bodyOf (methAt 1))
      (fun fl h' => (fl = .next) ∧ Ext base h' ∧ (Ins C (wsF (wsAt raw k) raw)).P (.ref x) (hid (ftAt (methAt 1) z L ++ F) h')) := by
  have R1 : Room 1 A := R.le (by decide)
  obtain ⟨tS, hS⟩ := X.S
  obtain ⟨tT, hT⟩ := X.T
  refine Bx.setAttr (T := TS raw) X.k (by walk_at "mem") P Ev.name (OffD.flat Flat.str) Hand.py X.raw.ta (σ' := [("ws", TS raw)]) (by walk_at "frzD") ?_
  refine Bx.swap2 R.hh (Evs.cons (Ev.cattr (T := TS " ") X.k X.g rfl rfl rfl hS (fun h => str_py _ _ _)) (Evs.cons (Ev.cattr (T := TS "\t") X.k X.g rfl rfl rfl hT (fun h => str_py _ _ _)) Evs.nil)) (.inl rfl) (.inl rfl) ?_
  refine Bx.assign (Ev.newL) (.inl rfl) ?_
  refine Bx.assign3 Ev.cons_int Flat.int (.inl rfl) (.inl rfl) (.inl rfl) ?_
  have tail : ∀ σ', (("b", TI (wsAt raw k).b) : Str × Ty) ∈ σ' → (("n", TI (wsAt raw k).n) : Str × Ty) ∈ σ' → (("nt", TI (wsAt raw k).nt) : Str × Ty) ∈ σ' → (("count", Me base (wsAt raw k).count) : Str × Ty) ∈ σ' → (("self", Mo C x dx [("raw", TS raw)]) : Str × Ty) ∈ σ' →
      Bx prog w A base (ftAt (methAt 1) z L) Ginf (ftAt (methAt 1) z L ++ F) (envAt (methAt 1) z L a) σ' ((bodyOf (methAt 1)).drop 5)
      (fun fl h' => (fl = .next) ∧ Ext base h' ∧ (Ins C (wsF (wsAt raw k) raw)).P (.ref x) (hid (ftAt (methAt 1) z L ++ F) h')) := fun σ' m1 m2 m3 m4 m5 => by
    obtain ⟨o1, o2, o3⟩ := wsAt_ok raw k
    refine Bx.setAttr (T := TI (wsAt raw k).n) X.k m5 P (Ev.name m2) (OffD.flat Flat.int) Hand.py X.n.ta (σ' := [("b", TI (wsAt raw k).b), ("nt", TI (wsAt raw k).nt), ("count", Me base (wsAt raw k).count)])
      (frzD_cons m1 Flat.int.frzD (frzD_cons m3 Flat.int.frzD (frzD_cons m4 Me.frzD frzD_nil))) ?_
    refine Bx.setAttr (T := TI (wsAt raw k).nt) X.k (by walk_at "mem") P Ev.name (OffD.flat Flat.int) Hand.py X.nt.ta (σ' := [("b", TI (wsAt raw k).b), ("count", Me base (wsAt raw k).count)]) (by walk_at "frzD") ?_
    refine Bx.setAttr (T := Py (wsNorm (wsAt raw k))) X.k (by walk_at "mem") P (Ev.ref (TT.py (ds := [.tuple ((wsAt raw k).count.map .int), .int (wsAt raw k).b])) (Ev.tuple (Evs.cons (Ev.call R1 (Fn.tupleL (by simp; omega)) X.tup Cal.type (Evs.cons (Ev.ref Me.le Ev.name) Evs.nil) rfl rfl rfl) (Evs.cons Ev.name Evs.nil))))
      (OffD.py (lay_norm _)) Hand.py X.norm.ta (σ' := [("count", Me base (wsAt raw k).count)]) (by walk_at "frzD") ?_
    refine Bx.setAttr (T := TB (decide (((wsAt raw k).count.length : Int) ≤ 1))) X.k (by walk_at "mem") P (Ev.cmp R1 (Ev.call R1 (Fn.lenL (ds := (wsAt raw k).count.map .int) (by simp; omega)) X.len Cal.builtin (Evs.cons (Ev.ref Me.le Ev.name) Evs.nil) rfl rfl rfl) Ev.cons_int (by simpa using CmpR.leI))
      (OffD.flat Flat.bool) Hand.py X.sim.ta (σ' := []) (by walk_at "frzD") (Bx.nil fun h' S => ⟨rfl, S.fm.base, ?_⟩)
    obtain ⟨v, q, _⟩ := S.fm.var _ (List.mem_cons_self)
    obtain ⟨e, _⟩ := id q
    rw [← e]
    exact Mo.le _ _ q
  refine Bx.forStr (t := raw) (fun i => i ≤ k) (fun i => [("b", TI (wsAt raw i).b), ("n", TI (wsAt raw i).n), ("nt", TI (wsAt raw i).nt), ("count", Me base (wsAt raw i).count), ("S", TS " "), ("T", TS "\t"), ("self", Mo C x dx [("raw", TS raw)])])
    R (Ev.attr X.k (Ev.ref Mo.le Ev.name) (.head _) X.raw) hx (Nat.zero_le _) ?_ rfl (fun i hi Ji I => ?_) (fun J => ?_)
  · show ∀ p ∈ [(("b" : Str), TI 0), ("n", TI 0), ("nt", TI 0), ("count", Me base []), ("S", TS " "), ("T", TS "\t"), ("self", Mo C x dx [("raw", TS raw)])], p ∈ _
    walk_at "sub"
  · obtain ⟨o1, o2, o3⟩ := wsAt_ok raw i
    have hp := WS.pad_len (s := wsAt raw i) o1
    have es : wsAt raw (i + 1) = WS.step (sgn raw i) (wsAt raw i) := rfl
    refine Bx.ite (Tr.cmp R1 Ev.name Ev.name CmpR.eqS) (fun c => ?_) fun c => ?_
    · refine Bx.assign (Ev.bin R1 Ev.name Ev.cons_int BinR.add) (.inl rfl) (Bx.assign (Ev.bin R1 Ev.name Ev.cons_int BinR.add) (.inl rfl) (Bx.done (Bx.nil fun h' S => ⟨?_, ?_⟩)))
      · rcases Nat.lt_or_ge i k with h | h
        · exact h
        · have : i = k := by omega
          rw [this] at c hi; rw [(stop hi).1] at c; cases c
      · rw [es, show WS.step (sgn raw i) (wsAt raw i) = ⟨(wsAt raw i).count, (wsAt raw i).b + 1, (wsAt raw i).n + 1, (wsAt raw i).nt⟩ from if_pos c]
        exact S.less (by walk_at "sub")
    · refine Bx.ite (Tr.cmp R1 Ev.name Ev.name CmpR.eqS) (fun c' => ?_) fun c' => ?_
      · refine Bx.assign (Ev.bin R1 Ev.name Ev.cons_int BinR.add) (.inl rfl) (Bx.assign (Ev.bin R1 Ev.name Ev.cons_int BinR.add) (.inl rfl) ?_)
        refine Bx.iteJ [("count", Me base (wsAt raw i).pad), ("b", TI (wsAt raw i).b), ("n", TI ((wsAt raw i).n + 1)), ("nt", TI ((wsAt raw i).nt + 1)), ("S", TS " "), ("T", TS "\t"), ("self", Mo C x dx [("raw", TS raw)])]
          (Tr.cmp R1 Ev.name (Ev.call R1 (Fn.lenI (ns := (wsAt raw i).count) (by omega)) X.len Cal.builtin (Evs.cons (Ev.ref Me.le Ev.name) Evs.nil) rfl rfl rfl) CmpR.geI) (fun c2 => ?_) (fun c2 => ?_) ?_
        · have e2 : (wsAt raw i).pad = (wsAt raw i).count ++ List.replicate ((wsAt raw i).b - (wsAt raw i).count.length + 1).toNat 0 := if_pos (of_decide_eq_true c2)
          rw [e2]
          refine Bx.assign (Ev.catL Ev.name (Ev.mulL (Ev.list (ds := [.int 0]) (Evs.cons Ev.cons_int Evs.nil)) (Ev.bin R1 (Ev.bin R1 Ev.name (Ev.call R1 (Fn.lenI (ns := (wsAt raw i).count) (by omega)) X.len Cal.builtin (Evs.cons (Ev.ref Me.le Ev.name) Evs.nil) rfl rfl rfl) BinR.sub) Ev.cons_int BinR.add) (by have := of_decide_eq_true c2; omega) (by omega)) (by simp; omega)) (.inl rfl) (Bx.join (by walk_at "sub"))
        · have e2 : (wsAt raw i).pad = (wsAt raw i).count := if_neg (of_decide_eq_false c2)
          rw [e2]
          exact Bx.join (by walk_at "sub")
        · have gd : ((wsAt raw i).pad.map PyData.int)[(wsAt raw i).b.toNat]? = some (.int ((wsAt raw i).pad.getD (wsAt raw i).b.toNat 0)) := by
            have : (wsAt raw i).b.toNat < (wsAt raw i).pad.length := by omega
            simp [List.getD, this]
          refine Bx.setItem (v := (wsAt raw i).pad.getD (wsAt raw i).b.toNat 0 + 1) (by walk_at "mem") (by walk_at "mem") (Ev.bin R1 (Ev.item R1 (Ev.ref Me.le Ev.name) Ev.name (SubR.list o1 (by omega) gd)) Ev.cons_int BinR.add)
            o1 hp.1 (by omega) Tv.gk rfl (σ' := [("b", TI (wsAt raw i).b), ("n", TI ((wsAt raw i).n + 1)), ("nt", TI ((wsAt raw i).nt + 1)), ("S", TS " "), ("T", TS "\t"), ("self", Mo C x dx [("raw", TS raw)])]) (by walk_at "frzL")
            (Bx.assign Ev.cons_int (.inl rfl) (Bx.done (Bx.done (Bx.nil fun h' S => ⟨?_, ?_⟩))))
          · rcases Nat.lt_or_ge i k with h | h
            · exact h
            · have : i = k := by omega
              rw [this] at c' hi; rw [(stop hi).2] at c'; cases c'
          · rw [es, show WS.step (sgn raw i) (wsAt raw i) = ⟨(wsAt raw i).pad.set (wsAt raw i).b.toNat ((wsAt raw i).pad.getD (wsAt raw i).b.toNat 0 + 1), 0, (wsAt raw i).n + 1, (wsAt raw i).nt + 1⟩ from (if_neg (by rw [c]; decide)).trans (if_pos c')]
            exact S.less (by walk_at "sub")
      · refine Bx.brk fun h' S => ?_
        have : i = k := by
          rcases Nat.lt_or_ge i k with h | h
          · have := good i h; rw [c, c'] at this; cases this
          · omega
        subst this
        exact ⟨_, S, tail _ (by walk_at "mem") (by walk_at "mem") (by walk_at "mem") (by walk_at "mem") (by walk_at "mem")⟩
  · have : k = raw.length := by omega
    subst this
    exact tail _ (by walk_at "mem") (by walk_at "mem") (by walk_at "mem") (by walk_at "mem") (by walk_at "mem")
end
end Mine
end

section
open PySem PySem.W PySem.Calls PySem.Spec
set_option linter.unusedVariables false
namespace Mine
local macro_rules | `(tactic| walk_at "mem") => `(tactic| first | with_reducible exact List.mem_cons_self | (with_reducible refine List.mem_cons_of_mem _ ?_; walk_at "mem") | (with_reducible refine mem_drop ?_ (by decide +kernel); walk_at "mem") | (with_reducible refine mem_frost ?_; walk_at "mem"))
local macro_rules | `(tactic| walk_at "sub") => `(tactic| first | with_reducible exact sub_nil | (with_reducible refine sub_cons (by walk_at "mem") ?_; walk_at "sub"))
theorem frz_nil {X : List Addr} {σ : List (Str × Ty)} : ∀ p ∈ ([] : List (Str × Ty)), p ∈ σ ∧ Frz X p.2 := fun _ m => nomatch m
theorem frz_cons {X : List Addr} {a : Str × Ty} {τ σ : List (Str × Ty)} (h : a ∈ σ) (f : Frz X a.2) (t : ∀ p ∈ τ, p ∈ σ ∧ Frz X p.2) : ∀ p ∈ a :: τ, p ∈ σ ∧ Frz X p.2 := fun p m => (List.mem_cons.mp m).elim (fun e => e ▸ ⟨h, f⟩) (t p)
local macro_rules | `(tactic| walk_at "frz") => `(tactic| first | with_reducible exact frz_nil | (with_reducible refine frz_cons (by walk_at "mem") (by first | exact Flat.int.frz | exact Flat.str.frz | exact Flat.bool.frz | (refine At.frz fun b m => ?_; first | exact hbX b m | exact hbX _ m)) ?_; walk_at "frz"))

section
variable {prog : Program} {w : World} {A : Around} {base : Heap} {F : List Addr} {n : Nat}
theorem Fn.lenT {ns : List Int} (hs : ns.length ≤ 1000000) : Fn prog w n base (.builtin "len") [Py (.tuple (ns.map .int))] (TI ns.length) := .mk fun A F s vs R hb hF ha Q E h => by
  cases ha with
  | cons q r =>
    cases r
    obtain ⟨a, vs, rfl, hl, hv⟩ := py_tuple q
    have e := hv.length
    rw [List.length_map] at e
    refine PyProof.Rows.len_tuple (items := vs.toArray) (ist hl) (by simp [e]; omega) ?_
    have := h (.int ns.length (s.toks + 1)) _ (Kp.tok s (s.toks + 1 + 1)) (int_py _ _ _)
    simpa [e] using this
theorem SubR.tuple {ds : List PyData} {k : Int} {d : PyData} (h0 : 0 ≤ k) (hk : k < 2 ^ 63) (hd : ds[k.toNat]? = some d) : SubR prog w (Py (.tuple ds)) (TI k) (Py d) := .mk fun A F s v₁ v₂ R _ q₁ q₂ => by
  obtain ⟨a, vs, rfl, hl, hv⟩ := py_tuple q₁
  obtain ⟨t, rfl⟩ := py_int q₂
  obtain ⟨v, e, q⟩ := hv.get hd
  refine ⟨⟨_, _, (ist hl).typeIs, PySem.F.slot_tuple_getitem.lookup⟩, fun Q E h => PyProof.Rows.getItem_tuple (j := k.toNat) (ist hl) (by omega) hk ?_ (by simpa using e) (h v s (Kp.refl s) q)⟩
  refine seqIndex_of h0 ?_
  have : k.toNat < vs.length := by
    rcases Nat.lt_or_ge k.toNat vs.length with z | z
    · exact z
    · rw [List.getElem?_eq_none_iff.mpr z] at e; cases e
  simp; omega
end

noncomputable def longF (s : WS) : Int := if s.b > (s.count.length : Int) - 1 then s.b else (s.count.length : Int) - 1
noncomputable def ilAt (s : WS) (ts : Int) : Nat → Int
  | 0 => 0
  | j + 1 => ilAt s ts j + (ts + j).fdiv ts * s.count.getD (ts + j).toNat 0
noncomputable def indF (s : WS) (ts : Int) : Int := s.b + ts * (ilAt s ts ((s.count.length : Int) - ts).toNat + s.nt)

section
variable {prog : Program} {w : World} {A : Around} {base : Heap} {F : List Addr} {K : Frag} {C : Addr} {z : Fv} {L a : Addr} {raw raw' : Str} {s s' : WS} {ts : Int} {n : Nat}
set_option maxRecDepth 100000 in
theorem long_body (R : Room 2 A) (X : Wc K base C) (hz : s.count.length ≤ 1000) :
    Bx prog w A base (ftAt (methAt 2) z L) (Gd.of (ftAt (methAt 2) z L)) (ftAt (methAt 2) z L ++ F) (envAt (methAt 2) z L a) [("self", Ins C (wsF s raw))] (bodyOf (methAt 2)) (Ret (TI (longF s)) (ftAt (methAt 2) z L ++ F)) := by
  have R1 : Room 1 A := R.le (by decide)
  refine Bx.assignTup (Ev.ref (TT.of (ds := [.tuple (s.count.map .int), .int s.b])) (Ev.attr X.k Ev.name (by walk_at "mem") X.norm)) (As.tup R.hh (AsL.cons (As.name (.inl rfl)) (AsL.cons (As.name (.inl rfl)) AsL.nil))) ?_
  exact Bx.retR (Ev.call R Fn.max2 X.max Cal.builtin (Evs.cons (Ev.bin R1 (Ev.call R (Fn.lenT (ns := s.count) (by omega)) X.len Cal.builtin (Evs.cons Ev.name Evs.nil) rfl rfl rfl) Ev.cons_int BinR.sub) (Evs.cons Ev.name Evs.nil)) rfl rfl rfl)
set_option maxRecDepth 100000 in
theorem long_fn (g : Has base (methAt 2) a) (X : Wc K base C) (hz : s.count.length ≤ 1000) : Fn prog w 3 base (.ref a) [Ins C (wsF s raw)] (TI (longF s)) := by
  refine Fn.at g X.nl ["self"] (fun z A F L R => long_body R X hz) (fun z vs h => ?_) rfl (by decide +kernel)
  match vs, h with
  | [v], _ => rfl

set_option maxRecDepth 100000 in
theorem indent_body (R : Room 2 A) (X : Wc K base C) (hz : s.count.length ≤ 100) (h1 : 1 ≤ ts) (h2 : ts ≤ 100) :
    Bx prog w A base (ftAt (methAt 3) z L) (Gd.of (ftAt (methAt 3) z L)) (ftAt (methAt 3) z L ++ F) (envAt (methAt 3) z L a) [("self", Ins C (wsF s raw)), ("tabsize", TI ts)] (bodyOf (methAt 3)) (Ret (TI (indF s ts)) (ftAt (methAt 3) z L ++ F)) := by
  have R1 : Room 1 A := R.le (by decide)
  refine Bx.assignTup (Ev.ref (TT.of (ds := [.tuple (s.count.map .int), .int s.b])) (Ev.attr X.k Ev.name (by walk_at "mem") X.norm)) (As.tup R.hh (AsL.cons (As.name (.inl rfl)) (AsL.cons (As.name (.inl rfl)) AsL.nil))) ?_
  refine Bx.assign Ev.cons_int (.inl rfl) (Bx.for (n := ((s.count.length : Int) - ts).toNat) (τ := fun j => TI (ts + j)) (fun j => [("il", TI (ilAt s ts j)), ("count", Py (.tuple (s.count.map .int))), ("trailing", TI s.b), ("self", Ins C (wsF s raw)), ("tabsize", TI ts)])
    (It.range R (Ev.call R Fn.range2 X.range Cal.type (Evs.cons Ev.name (Evs.cons (Ev.call R (Fn.lenT (ns := s.count) (by omega)) X.len Cal.builtin (Evs.cons Ev.name Evs.nil) rfl rfl rfl) Evs.nil)) rfl rfl rfl) (by omega) (by omega) (by omega) (by omega) rfl) ?_ rfl (fun j hj wr => ?_) ?_)
  · show ∀ p ∈ [(("il" : Str), TI 0), ("count", Py (.tuple (s.count.map .int))), ("trailing", TI s.b), ("self", Ins C (wsF s raw)), ("tabsize", TI ts)], p ∈ _
    walk_at "sub"
  · have gd : (s.count.map PyData.int)[(ts + j).toNat]? = some (.int (s.count.getD (ts + j).toNat 0)) := by
      have : (ts + j).toNat < s.count.length := by omega
      simp [List.getD, this]
    refine Bx.assign (T := TI (ilAt s ts (j + 1))) (Ev.bin R1 Ev.name (Ev.bin R1 (Ev.bin R1 Ev.name Ev.name (BinR.fdiv (by omega) (small_div (by omega)))) (Ev.item R1 Ev.name Ev.name (SubR.tuple (by omega) (by omega) gd)) (BinR.mul ?_)) BinR.add) (.inl rfl) (Bx.nil fun h' S => S.less (by walk_at "sub"))
    refine small_mulL ?_
    have e : (ts + (j : Int)).fdiv ts = (ts + j) / ts := Int.fdiv_eq_ediv_of_nonneg _ (by omega)
    have h3 : 0 ≤ (ts + (j : Int)) / ts := Int.ediv_nonneg (by omega) (by omega)
    have h4 : (ts + (j : Int)) / ts ≤ ts + j := Int.ediv_le_self _ (by omega)
    rw [e]; omega
  · refine Bx.retR (T := TI (indF s ts)) (Ev.bin R1 Ev.name (Ev.bin R1 Ev.name (Ev.bin R1 Ev.name (Ev.attr X.k Ev.name (by walk_at "mem") X.nt) BinR.add) (BinR.mul ?_)) BinR.add)
    exact small_mulL (by omega)
set_option maxRecDepth 100000 in
theorem indent_fn (g : Has base (methAt 3) a) (X : Wc K base C) (hz : s.count.length ≤ 100) (h1 : 1 ≤ ts) (h2 : ts ≤ 100) : Fn prog w 3 base (.ref a) [Ins C (wsF s raw), TI ts] (TI (indF s ts)) := by
  refine Fn.at g X.nl ["self", "tabsize"] (fun z A F L R => indent_body R X hz h1 h2) (fun z vs h => ?_) rfl (by decide +kernel)
  match vs, h with
  | [v, u], _ => rfl

theorem depth_norm (s : WS) : (wsNorm s).depth ≤ 800 := by
  simp only [PyData.depth, PyData.depthAll, PyProof.Rows.depthAll_ints]
  decide
noncomputable def eqF (s s' : WS) : Bool := PyData.eqv (wsNorm s) (wsNorm s')
set_option maxRecDepth 100000 in
theorem equal_body (R : Room 2 A) (X : Wc K base C) :
    Bx prog w A base (ftAt (methAt 4) z L) (Gd.of (ftAt (methAt 4) z L)) (ftAt (methAt 4) z L ++ F) (envAt (methAt 4) z L a) [("self", Ins C (wsF s raw)), ("other", Ins C (wsF s' raw'))] (bodyOf (methAt 4)) (Ret (TB (eqF s s')) (ftAt (methAt 4) z L ++ F)) := by
  have R1 : Room 1 A := R.le (by decide)
  exact Bx.retR (Ev.cmp R1 (Ev.attr X.k Ev.name (by walk_at "mem") X.norm) (Ev.attr X.k Ev.name (by walk_at "mem") X.norm) (CmpR.eqD (lay_norm s) (lay_norm s') (Nat.le_trans (Nat.min_le_left _ _) (depth_norm s))))
set_option maxRecDepth 100000 in
theorem equal_fn (g : Has base (methAt 4) a) (X : Wc K base C) : Fn prog w 3 base (.ref a) [Ins C (wsF s raw), Ins C (wsF s' raw')] (TB (eqF s s')) := by
  refine Fn.at g X.nl ["self", "other"] (fun z A F L R => equal_body R X) (fun z vs h => ?_) rfl (by decide +kernel)
  match vs, h with
  | [v, u], _ => rfl

noncomputable def witD (s s' : WS) (ts : Int) : List PyData := if indF s ts != indF s' ts then [.tuple [.int ts, .int (indF s ts), .int (indF s' ts)]] else []
noncomputable def witAt (s s' : WS) : Nat → List PyData
  | 0 => []
  | j + 1 => witAt s s' j ++ witD s s' (1 + j)
noncomputable def witN (s s' : WS) : Nat := ((if longF s' > longF s then longF s' else longF s) + 1).toNat
noncomputable abbrev witF (s s' : WS) : List PyData := witAt s s' (witN s s')
theorem witAt_len (s s' : WS) : ∀ j, (witAt s s' j).length ≤ j
  | 0 => Nat.le_refl _
  | j + 1 => by
    have := witAt_len s s' j
    show (witAt s s' j ++ witD s s' (1 + j)).length ≤ _
    rw [List.length_append]
    unfold witD
    split <;> simp <;> omega

set_option maxRecDepth 100000 in
theorem witness_body {aL aI : Addr} (R : Room 5 A) (X : Wc K base C) (gl : Has base (methAt 2) aL) (gi : Has base (methAt 3) aI) (kl : Kmeth K C "longest_run_of_spaces" aL) (ki : Kmeth K C "indent_level" aI)
    (hz : s.count.length ≤ 100) (hz' : s'.count.length ≤ 100) (hl : longF s ≤ 98) (hl' : longF s' ≤ 98) (hl0 : -1 ≤ longF s) (hl0' : -1 ≤ longF s') :
    Bx prog w A base (ftAt (methAt 5) z L) (Gd.of (ftAt (methAt 5) z L)) (ftAt (methAt 5) z L ++ F) (envAt (methAt 5) z L a) [("self", Ins C (wsF s raw)), ("other", Ins C (wsF s' raw'))] (bodyOf (methAt 5)) (Ret (Pl (witF s s')) (ftAt (methAt 5) z L ++ F)) := by
  have R1 : Room 1 A := R.le (by decide)
  refine Bx.assign (Ev.bin R1 (Ev.call R Fn.max2 X.max Cal.builtin (Evs.cons (Ev.methI0 R X.k Ev.name kl gl.cal ((long_fn gl X (by omega)).le (by decide))) (Evs.cons (Ev.methI0 R X.k Ev.name kl gl.cal ((long_fn gl X (by omega)).le (by decide))) Evs.nil)) rfl rfl rfl) Ev.cons_int BinR.add) (.inl rfl) ?_
  refine Bx.newList rfl fun aa hb hbn P => ?_
  have hbX : ∀ b ∈ aa :: ftAt (methAt 5) z L, hb.get? b = none := fun b m => hbn b ((List.mem_cons.mp m).elim (fun e => e ▸ .head _) fun m => .tail _ (List.mem_append_left _ m))
  have hb1 : ∀ b ∈ [aa], hb.get? b = none := fun b m => hbn b (by rw [List.mem_singleton.mp m]; exact .head _)
  refine Bx.loop (n := witN s s') (τ := fun j => TI (1 + j)) (σ₀ := [("n", At hb (TI ((if longF s' > longF s then longF s' else longF s) + 1)))]) (fun j => [("a", Mu aa (witAt s s' j)), ("self", At hb (Ins C (wsF s raw))), ("other", At hb (Ins C (wsF s' raw')))])
    (fun j => [("ts", TI (1 + j)), ("a", Mu aa (witAt s s' j)), ("self", At hb (Ins C (wsF s raw))), ("other", At hb (Ins C (wsF s' raw')))])
    (It.range R (Ev.call R Fn.range2 X.range Cal.type (Evs.cons Ev.cons_int (Evs.cons (Ev.bin R1 (Ev.ref At.le Ev.name) Ev.cons_int BinR.add) Evs.nil)) rfl rfl rfl) (by decide) (by decide) (by split <;> omega) (by split <;> omega) ?_)
    (frz_cons (by walk_at "mem") (At.frz hbX) frz_nil) (exist_mu (by walk_at "mem")) ?_ (fun j hj wr => (As.name (.inl rfl)).less (fun p m => m) (by walk_at "sub")) (fun j hj wr => ?_) ?_
  · show _ = Int.toNat _
    congr 1; omega
  · show ∀ p ∈ [(("a" : Str), Mu aa []), ("self", At hb (Ins C (wsF s raw))), ("other", At hb (Ins C (wsF s' raw')))], p ∈ _
    walk_at "sub"
  · have hj' : (j : Int) ≤ 99 := by
      have : witN s s' ≤ 99 := by unfold witN; split <;> omega
      omega
    have lw := witAt_len s s' j
    have ind : ∀ {env : Env} {σ : List (Str × Ty)} {F' : List Addr}, True := fun {_ _ _} => trivial
    refine Bx.ite (Tr.cmp R1 (Ev.methI R X.k (Ev.ref At.le Ev.name) (Evs.cons Ev.name Evs.nil) ki gi.cal ((indent_fn gi X hz (by omega) (by omega)).le (by decide))) (Ev.methI R X.k (Ev.ref At.le Ev.name) (Evs.cons Ev.name Evs.nil) ki gi.cal ((indent_fn gi X hz' (by omega) (by omega)).le (by decide))) CmpR.neI) (fun c => ?_) fun c => ?_
    · refine Bx.append (d := .tuple [.int (1 + j), .int (indF s (1 + j)), .int (indF s' (1 + j))]) (by walk_at "mem") P
        (Ev.tuple (Ts := [TI (1 + j), TI (indF s (1 + j)), TI (indF s' (1 + j))]) (Evs.cons Ev.name (Evs.cons (Ev.methI R X.k (Ev.ref At.le Ev.name) (Evs.cons Ev.name Evs.nil) ki gi.cal ((indent_fn gi X hz (by omega) (by omega)).le (by decide))) (Evs.cons (Ev.methI R X.k (Ev.ref At.le Ev.name) (Evs.cons Ev.name Evs.nil) ki gi.cal ((indent_fn gi X hz' (by omega) (by omega)).le (by decide))) Evs.nil))))
        (Off.tup (ds := [.int (1 + j), .int (indF s (1 + j)), .int (indF s' (1 + j))]) (by intro d m; simp at m; rcases m with rfl | rfl | rfl <;> exact Flat.int))
        (σ' := [("self", At hb (Ins C (wsF s raw))), ("other", At hb (Ins C (wsF s' raw')))]) (frz_cons (by walk_at "mem") (At.frz hb1) (frz_cons (by walk_at "mem") (At.frz hb1) frz_nil)) rfl (Bx.done (Bx.nil fun h' S => ?_)) (by omega)
      have e : witAt s s' (j + 1) = witAt s s' j ++ [.tuple [.int (1 + j), .int (indF s (1 + j)), .int (indF s' (1 + j))]] := by
        show witAt s s' j ++ witD s s' (1 + j) = _
        rw [show witD s s' (1 + j) = _ from if_pos c]
      show Sd _ _ _ _ _ _
      rw [e]
      exact S.less (by walk_at "sub")
    · refine Bx.done (Bx.nil fun h' S => ?_)
      have e : witAt s s' (j + 1) = witAt s s' j := by
        show witAt s s' j ++ witD s s' (1 + j) = _
        rw [show witD s s' (1 + j) = [] from if_neg (by rw [c]; decide), List.append_nil]
      show Sd _ _ _ _ _ _
      rw [e]
      exact S.less (by walk_at "sub")
  · exact Bx.retR (Ev.ref Mu.le Ev.name)
set_option maxRecDepth 100000 in
theorem witness_fn {aL aI : Addr} (g : Has base (methAt 5) a) (X : Wc K base C) (gl : Has base (methAt 2) aL) (gi : Has base (methAt 3) aI) (kl : Kmeth K C "longest_run_of_spaces" aL) (ki : Kmeth K C "indent_level" aI)
    (hz : s.count.length ≤ 100) (hz' : s'.count.length ≤ 100) (hl : longF s ≤ 98) (hl' : longF s' ≤ 98) (hl0 : -1 ≤ longF s) (hl0' : -1 ≤ longF s') : Fn prog w 6 base (.ref a) [Ins C (wsF s raw), Ins C (wsF s' raw')] (Pl (witF s s')) := by
  refine Fn.at g X.nl ["self", "other"] (fun z A F L R => witness_body R X gl gi kl ki hz hz' hl hl' hl0 hl0') (fun z vs h => ?_) rfl (by decide +kernel)
  match vs, h with
  | [v, u], _ => rfl
end
end Mine
end

section
open PySem PySem.W PySem.Calls PySem.Spec
set_option linter.unusedVariables false
namespace Mine
section
variable {prog : Program} {w : World} {A : Around} {base : Heap} {F : List Addr} {env : Env} {σ : List (Str × Ty)} {n : Nat}
theorem It.tuple {x : Str} {px : Pos} {iter : Expr} {ds : List PyData} (R : Room n A) (he : Ev prog w A base F env σ iter (Py (.tuple ds))) : It prog w A base F env σ (.Name x px) iter ds.length (fun i => Py (ds.getD i .none)) := .mk fun s f Q E h =>
  he.go s f _ E fun v s₁ k₁ q₁ => by
    obtain ⟨a, vs, rfl, hl, hv⟩ := py_tuple q₁
    have f₁ := f.keeps k₁.ext
    have hla : s₁.heap.IsTuple a vs.toArray := ist hl
    have haF : a ∉ F := by obtain ⟨o, e, _⟩ := hl; exact hid_notin e
    have hne : a ≠ s₁.heap.objs.size := by obtain ⟨o, e, _⟩ := hla; exact fun z => none_some (size_none _) (z ▸ e)
    refine wpAny_pyIter_tuple hla ?_
    have k₂ := Kp.push s₁ { cls := .type "tuple_iterator", data := .fields #[.ref a, .int 0 0] }
    have Wk := Walks.tuple (prog := prog) (w := w) R.hh s₁.heap.objs.size a hne vs.toArray
    have hlen : vs.toArray.size = ds.length := by simp [hv.length]
    rw [hlen] at Wk
    have hI : (s₁.heap.push { cls := .type "tuple_iterator", data := .fields #[.ref a, .int 0 0] }).get? s₁.heap.objs.size = some { cls := .type "tuple_iterator", data := .fields #[.ref a, .int 0 0] } := Heap.get?_push_size _ rfl
    refine h _ _ _ _ _ _ (k₁.trans k₂) (Wks.of Wk) (fun b m => ?_) (fun b m => ?_) ⟨⟨_, hI, rfl, rfl⟩, hla.push _⟩ (fun i h st b m => ?_) fun F' i v h₀ h' hi hPv ho he => ?_
    · rw [List.mem_singleton.mp m]; exact ⟨none_of k₁.ext (size_none _), _, hI⟩
    · rcases List.mem_cons.mp m with rfl | m
      · exact ⟨size_out f₁.old, _, hI⟩
      · rw [List.mem_singleton.mp m]
        obtain ⟨o, e, _⟩ := hla
        exact ⟨haF, o, k₂.ext _ o e⟩
    · rw [List.mem_singleton.mp m]; obtain ⟨o, e, _⟩ := st.1; exact ⟨o, e⟩
    · have hd : ds[i]? = some (ds.getD i .none) := by simp [hi]
      obtain ⟨v', e', q'⟩ := hv.get hd
      have : v = v' := by
        have hPv' : vs.toArray[i]? = some v := hPv
        simp only [List.getElem?_toArray] at hPv'
        rw [e'] at hPv'; exact (Option.some.inj hPv').symm
      subst this
      exact (Py _).mono _ _ _ he ((Py _).mono _ _ _ (hid_ext' fun b o nm e => ⟨k₂.ext b o e, fun m => (List.mem_append.mp m).elim (fun m => none_some (size_none s₁.heap) ((List.mem_singleton.mp m) ▸ e)) nm⟩) q')
theorem It.sub {tg iter : Expr} {τ τ' : Nat → Ty} (h : It prog w A base F env σ tg iter n τ) (l : ∀ i, i < n → Le (τ i) (τ' i)) : It prog w A base F env σ tg iter n τ' := .mk fun s f Q E k =>
  h.go s f Q E fun s' I fp wr P St kp W a b c d e => k s' I fp wr P St kp W a b c d fun F' i v h h' hi hP ho he => l i hi _ _ (e F' i v h h' hi hP ho he)
theorem Le.of {d d' : PyData} (e : d = d') : Le (Py d) (Py d') := fun _ _ h => e ▸ h
theorem It.ints {x : Str} {px : Pos} {iter : Expr} {ns : List Int} {m : Nat} (R : Room m A) (he : Ev prog w A base F env σ iter (TL ns)) : It prog w A base F env σ (.Name x px) iter ns.length (fun i => TI (ns.getD i 0)) := by
  have := It.list (x := x) (px := px) R he
  rw [List.length_map] at this
  exact this.sub fun i hi => Le.of (by simp [List.getD, hi])
theorem It.strs {x : Str} {px : Pos} {iter : Expr} {ns : List Str} {m : Nat} (R : Room m A) (he : Ev prog w A base F env σ iter (TLs ns)) : It prog w A base F env σ (.Name x px) iter ns.length (fun i => TS (ns.getD i Str.empty)) := by
  have := It.list (x := x) (px := px) R he
  rw [List.length_map] at this
  exact this.sub fun i hi => Le.of (by simp [List.getD, hi])
theorem getD_all {α : Type} {l : List α} {d : α} {p : α → Bool} {j : Nat} (h : l.all p = true) (hj : j < l.length) : p (l.getD j d) = true := by
  have := List.all_eq_true.mp h (l[j]) (List.getElem_mem hj)
  simpa [List.getD, hj] using this
theorem range_getD {α β : Type} (l : List α) (d : α) (g : α → β) : (List.range l.length).map (fun i => g (l.getD i d)) = l.map g := by
  apply List.ext_getElem
  · simp
  · intro i h1 h2
    simp at h1
    simp [List.getD, h1]
theorem doneTo_map {α : Type} (l : List α) (d : α) (g : α → PyData) : doneTo (fun _ => true) (fun i => g (l.getD i d)) l.length = l.map g := by
  rw [doneTo_all]; exact range_getD l d g
end
end Mine
end

section
open PySem PySem.W PySem.Calls PySem.Spec
set_option linter.unusedVariables false
namespace Mine
local macro_rules | `(tactic| walk_at "mem") => `(tactic| first | with_reducible exact List.mem_cons_self | (with_reducible refine List.mem_cons_of_mem _ ?_; walk_at "mem") | (with_reducible refine mem_drop ?_ (by decide +kernel); walk_at "mem") | (with_reducible refine mem_frost ?_; walk_at "mem"))
local macro_rules | `(tactic| walk_at "sub") => `(tactic| first | with_reducible exact sub_nil | (with_reducible refine sub_cons (by walk_at "mem") ?_; walk_at "sub"))

/-- the class, its methods included -/
structure Wm (K : Frag) (base : Heap) (C : Addr) : Prop where
  c : Wc K base C
  keep : keepIn K (.ref C) = true
  init : ∃ f, findIn K (.ref C) "__init__" = some (some (.ref f)) ∧ isFn K (.ref f) = true ∧ Has base (methAt 1) f
  long : ∃ f, Kmeth K C "longest_run_of_spaces" f ∧ Has base (methAt 2) f
  ind : ∃ f, Kmeth K C "indent_level" f ∧ Has base (methAt 3) f
  eq : ∃ f, Kmeth K C "equal" f ∧ Has base (methAt 4) f
  wit : ∃ f, Kmeth K C "not_equal_witness" f ∧ Has base (methAt 5) f

/-- up to k a text is blanks and tabs -/
noncomputable def stopAt (x : Str) (k : Nat) : Bool := decide (k ≤ x.length) && (List.range k).all (fun j => sgn x j == " " || sgn x j == "\t") && (decide (x.length ≤ k) || (!(sgn x k == " ") && !(sgn x k == "\t"))) && x.cps.all (· < 128) && decide (x.length ≤ 100)
section
variable {prog : Program} {w : World} {A : Around} {base : Heap} {F : List Addr} {K : Frag} {C : Addr} {z : Fv} {L a : Addr} {raw : Str} {k n : Nat}
set_option maxRecDepth 100000 in
theorem make_fn (X : Wm K base C) (hs : stopAt raw k = true) : Fn prog w 4 base (.ref C) [TS raw] (Ins C (wsF (wsAt raw k) raw)) := by
  obtain ⟨fI, h1, h2, g⟩ := X.init
  obtain ⟨o, z, ho, hd, hcd⟩ := g.go
  unfold stopAt at hs
  simp only [Bool.and_eq_true, decide_eq_true_eq, List.all_eq_true, List.mem_range, Bool.or_eq_true, Bool.not_eq_true'] at hs
  obtain ⟨⟨⟨⟨hk, good⟩, stop⟩, asc⟩, hz⟩ := hs
  refine Fn.make (names := ["self", "ws"]) X.c.k h1 h2 ho hd X.c.nl hcd rfl rfl (fun vs h => ?_) rfl (show scopeOk (scopeOf (methAt 1)) ["self", "ws"] = true by decide +kernel) fun h A F L x dx hb R _ _ _ P => ?_
  · match vs, h with
    | [v, u], _ => rfl
  · refine init_body (k := k) R (X.c.up hb) asc hz hk (fun j hj => by have := good j hj; simpa using this) (fun hlt => ?_) P
    rcases stop with h | h
    · omega
    · exact h
end

noncomputable def longestF (x : Str) : Int := maxL ((Txt.split x "\t").map fun r => (r.length : Int))
noncomputable def colsAt (x y : Str) : Nat → List PyData
  | 0 => []
  | j + 1 => colsAt x y j ++ (if columnF x (1 + j) != columnF y (1 + j) then [.tuple [.int (1 + j), .int (columnF x (1 + j)), .int (columnF y (1 + j))]] else [])
theorem colsAt_len (x y : Str) : ∀ j, (colsAt x y j).length ≤ j
  | 0 => Nat.le_refl _
  | j + 1 => by
    have := colsAt_len x y j
    show (colsAt x y j ++ _).length ≤ _
    rw [List.length_append]
    split <;> simp <;> omega
noncomputable abbrev otherM (ms : List Int) (f : Int) : List Int := ms.map fun p => (p * f).fmod 7
noncomputable abbrev headT (ms : List Int) : Str := leadF ms ++ "x \t"
noncomputable abbrev tailT (ms : List Int) (f : Int) : Str := leadF (otherM ms f) ++ "\n "
noncomputable abbrev headS (ms : List Int) : WS := wsAt (headT ms) 7
noncomputable abbrev tailS (ms : List Int) (f : Int) : WS := wsAt (tailT ms f) 7
noncomputable abbrev longs (ms : List Int) (f : Int) : List Int := [longestF (leadF ms), longestF (leadF (otherM ms f))]
noncomputable abbrev colsF (ms : List Int) (f : Int) : List PyData := colsAt (leadF ms) (leadF (otherM ms f)) (maxL (longs ms f) + 1).toNat
noncomputable def nannyF (ms : List Int) (f : Int) (p : Bool) : Bool :=
  if !(PyData.eqv (.list [.int (longF (headS ms)), .int (longF (tailS ms f))]) (.list ((longs ms f).map .int))) then false
  else if !(PyData.eqv (.bool (eqF (headS ms) (tailS ms f))) (.bool (p || [1, 6].any (· == f) || (ms.length : Int) == 1))) then false
  else PyData.eqv (.list (witF (headS ms) (tailS ms f))) (.list (colsF ms f))
/-- what must hold for the walk -/
noncomputable def leadOk (ms : List Int) : Bool := ms != [] && decide (ms.length ≤ 7) && JoinOk "" ((List.range 7).map fun i => leadSign ms (1 + (i : Nat))) && decide ((leadF ms).length ≤ 20) && (leadF ms).cps.all (· < 128) && (Txt.split (leadF ms) "\t" != []) && decide ((Txt.split (leadF ms) "\t").length ≤ 20) && (Txt.split (leadF ms) "\t").all (fun r => decide (r.length ≤ 20))
noncomputable def nannyOk (ms : List Int) (f : Int) : Bool := leadOk ms && leadOk (otherM ms f) && decide (f.natAbs ≤ 10) && stopAt (headT ms) 7 && stopAt (tailT ms f) 7
  && decide ((headS ms).count.length ≤ 100) && decide ((tailS ms f).count.length ≤ 100) && decide (longF (headS ms) ≤ 98) && decide (longF (tailS ms f) ≤ 98) && decide (-1 ≤ longF (headS ms)) && decide (-1 ≤ longF (tailS ms f))
  && decide (0 ≤ maxL (longs ms f)) && decide (maxL (longs ms f) ≤ 90) && (PyData.list (witF (headS ms) (tailS ms f))).canLay0 && (PyData.list (colsF ms f)).canLay0 && decide ((PyData.list (colsF ms f)).depth ≤ 800)

/-- what the nanny's def reaches -/
structure Nc (K : Frag) (base : Heap) (C aLead aCol : Addr) : Prop where
  m : Wm K base C
  lead : Gf base (stmtAt 16) "_law_lead" aLead
  col : Gf base (stmtAt 17) "_law_column" aCol

section
variable {prog : Program} {w : World} {A : Around} {base : Heap} {F : List Addr} {K : Frag} {C aLead aCol : Addr} {z : Fv} {L a : Addr} {ms : List Int} {f : Int} {p : Bool}
set_option maxRecDepth 100000 in
set_option maxHeartbeats 2000000 in
theorem nanny_body (R : Room 8 A) (N : Nc K base C aLead aCol) (ok : nannyOk ms f = true) :
    Bx prog w A base (ftAt (stmtAt 18) z L) (Gd.of (ftAt (stmtAt 18) z L)) (ftAt (stmtAt 18) z L ++ F) (envAt (stmtAt 18) z L a) [("marks", TL ms), ("factor", TI f), ("plane", TB p)] (bodyOf (stmtAt 18)) (Ret (TB (nannyF ms f p)) (ftAt (stmtAt 18) z L ++ F)) := by
  have R1 : Room 1 A := R.le (by decide)
  have X := N.m.c
  unfold nannyOk leadOk at ok
  simp only [Bool.and_eq_true, decide_eq_true_eq, bne_iff_ne, ne_eq] at ok
  obtain ⟨⟨⟨⟨⟨⟨⟨⟨⟨⟨⟨⟨⟨⟨⟨⟨⟨⟨⟨⟨⟨⟨a1, a0⟩, a2⟩, a3⟩, a4⟩, a5⟩, a6⟩, a7⟩, ⟨⟨⟨⟨⟨⟨⟨b1, b0⟩, b2⟩, b3⟩, b4⟩, b5⟩, b6⟩, b7⟩⟩, c1⟩, c2⟩, c3⟩, c4⟩, c5⟩, c6⟩, c7⟩, c8⟩, c9⟩, d1⟩, d2⟩, d3⟩, d4⟩, d5⟩ := ok
  refine Bx.assign (Ev.call R ((lead_fn N.lead.has X.nl a1 X.range a2).le (by decide)) N.lead.gn N.lead.has.cal (Evs.cons Ev.name Evs.nil) rfl rfl rfl) (.inl rfl) ?_
  refine Bx.assign (Ev.call R ((lead_fn N.lead.has X.nl b1 X.range b2).le (by decide)) N.lead.gn N.lead.has.cal (Evs.cons (Ev.ref (Pl.le' (by rw [doneTo_map ms 0 (fun p => PyData.int ((p * f).fmod 7)), List.map_map]; rfl))
    (Ev.comp (n := ms.length) (τ := fun i => TI (ms.getD i 0)) (b := fun _ => true) (d := fun i => .int ((ms.getD i 0 * f).fmod 7)) (cl := [("factor", L + 1)]) (σc := [("factor", TI f)]) (It.ints R Ev.name) rfl
      (.cons ⟨by walk_at "mem", rfl, rfl, rfl, fun _ => rfl⟩ .nil) (by omega) (fun _ _ _ _ => Trs.nil) (fun C Fc i hi _ => Ev.bin R1 (Ev.bin R1 Ev.name Ev.name (BinR.mul (small_mul (by omega)))) Ev.cons_int (BinR.mod (by decide))))) Evs.nil) rfl rfl rfl) (.inl rfl) ?_
  have e' : sizeLine = 16777216 := sizeLine_eq
  refine Bx.assign (Ev.call R ((make_fn (raw := headT ms) N.m c2).le (by decide)) X.g (Cal.cls X.k N.m.keep) (Evs.cons (Ev.bin R1 Ev.name Ev.cons_str (BinR.cat (Nat.le_trans (Nat.add_le_add_right a3 _) (by decide)))) Evs.nil) rfl rfl rfl) (.inl rfl) ?_
  refine Bx.assign (Ev.call R ((make_fn (raw := tailT ms f) N.m c3).le (by decide)) X.g (Cal.cls X.k N.m.keep) (Evs.cons (Ev.bin R1 Ev.name Ev.cons_str (BinR.cat (Nat.le_trans (Nat.add_le_add_right b3 _) (by decide)))) Evs.nil) rfl rfl rfl) (.inl rfl) ?_
  refine Bx.comp (n := 2) (τ := fun i => TS ([leadF ms, leadF (otherM ms f)].getD i Str.empty)) (b := fun _ => true) (d := fun i => .int ((longs ms f).getD i 0)) (cl := []) (σc := [])
    ((It.tuple (ds := [.str (leadF ms), .str (leadF (otherM ms f))]) R (Ev.ref TT.py (Ev.tuple (Ts := [TS (leadF ms), TS (leadF (otherM ms f))]) (Evs.cons Ev.name (Evs.cons Ev.name Evs.nil))))).sub (fun i hi => ?_)) rfl .nil (by decide) (fun _ _ _ _ => Trs.nil) (fun C Fc i hi _ => ?_) rfl ?_
  · match i, hi with
    | 0, _ => exact Le.rfl
    | 1, _ => exact Le.rfl
  · have h01 : i = 0 ∨ i = 1 := by omega
    rcases h01 with rfl | rfl
    · show Ev prog w A base Fc _ [("text", TS (leadF ms))] _ (TI (longestF (leadF ms)))
      exact Ev.call R (Fn.max (ns := (Txt.split (leadF ms) "\t").map fun r => (r.length : Int)) (by simpa using a5)) X.max Cal.builtin (Evs.cons (Ev.ref (Pl.le' (by rw [doneTo_map (Txt.split (leadF ms) "\t") Str.empty (fun r => PyData.int r.length), List.map_map]; rfl))
        (Ev.comp (n := (Txt.split (leadF ms) "\t").length) (τ := fun i => TS ((Txt.split (leadF ms) "\t").getD i Str.empty)) (b := fun _ => true) (d := fun i => .int ((Txt.split (leadF ms) "\t").getD i Str.empty).length) (cl := []) (σc := [])
          (It.strs R (Ev.meth (T₀ := TS (leadF ms)) R Ev.name (Evs.cons Ev.cons_str Evs.nil) (Md.str PySem.F.slot_str_split PySem.F.type_str_split) (Fn.split rfl (by omega)))) rfl .nil (by omega) (fun _ _ _ _ => Trs.nil)
          (fun C' Fc' j hj _ => Ev.call R (Fn.lenS (x := (Txt.split (leadF ms) "\t").getD j Str.empty) (Nat.le_trans (of_decide_eq_true (getD_all (l := Txt.split (leadF ms) "\t") (d := Str.empty) (p := fun r => decide (r.length ≤ 20)) a7 hj)) (by decide))) X.len Cal.builtin (Evs.cons Ev.name Evs.nil) rfl rfl rfl))) Evs.nil) rfl rfl rfl
    · show Ev prog w A base Fc _ [("text", TS (leadF (otherM ms f)))] _ (TI (longestF (leadF (otherM ms f))))
      exact Ev.call R (Fn.max (ns := (Txt.split (leadF (otherM ms f)) "\t").map fun r => (r.length : Int)) (by simpa using b5)) X.max Cal.builtin (Evs.cons (Ev.ref (Pl.le' (by rw [doneTo_map (Txt.split (leadF (otherM ms f)) "\t") Str.empty (fun r => PyData.int r.length), List.map_map]; rfl))
        (Ev.comp (n := (Txt.split (leadF (otherM ms f)) "\t").length) (τ := fun i => TS ((Txt.split (leadF (otherM ms f)) "\t").getD i Str.empty)) (b := fun _ => true) (d := fun i => .int ((Txt.split (leadF (otherM ms f)) "\t").getD i Str.empty).length) (cl := []) (σc := [])
          (It.strs R (Ev.meth (T₀ := TS (leadF (otherM ms f))) R Ev.name (Evs.cons Ev.cons_str Evs.nil) (Md.str PySem.F.slot_str_split PySem.F.type_str_split) (Fn.split rfl (by omega)))) rfl .nil (by omega) (fun _ _ _ _ => Trs.nil)
          (fun C' Fc' j hj _ => Ev.call R (Fn.lenS (x := (Txt.split (leadF (otherM ms f)) "\t").getD j Str.empty) (Nat.le_trans (of_decide_eq_true (getD_all (l := Txt.split (leadF (otherM ms f)) "\t") (d := Str.empty) (p := fun r => decide (r.length ≤ 20)) b7 hj)) (by decide))) X.len Cal.builtin (Evs.cons Ev.name Evs.nil) rfl rfl rfl))) Evs.nil) rfl rfl rfl
  · rw [show doneTo (fun x => true) (fun i => PyData.int ((longs ms f).getD i 0)) 2 = (longs ms f).map .int from rfl]
    obtain ⟨fl, kl, gl⟩ := N.m.long
    obtain ⟨fi, ki, gi⟩ := N.m.ind
    obtain ⟨fe, ke, ge⟩ := N.m.eq
    obtain ⟨fw, kw, gw⟩ := N.m.wit
    refine Bx.ite (Tr.cmp R1 (Ev.ref Pl.le (Ev.list (ds := [.int (longF (headS ms)), .int (longF (tailS ms f))]) (Evs.cons (Ev.methI0 R X.k Ev.name kl gl.cal ((long_fn gl X (by omega)).le (by decide))) (Evs.cons (Ev.methI0 R X.k Ev.name kl gl.cal ((long_fn gl X (by omega)).le (by decide))) Evs.nil))))
      (Ev.ref Pl.le Ev.name) (CmpR.neD rfl rfl (show min _ (max 0 (max 0 0) + 1) ≤ 800 from Nat.le_trans (Nat.min_le_right _ _) (by decide)))) (fun c => ?_) fun c => Bx.done ?_
    · rw [show nannyF ms f p = false from if_pos c]
      exact Bx.ret Ev.cons_bool fun v h q => ⟨v, rfl, q⟩
    refine Bx.ite (Tr.cmp R1 (Ev.methI R X.k Ev.name (Evs.cons Ev.name Evs.nil) ke ge.cal ((equal_fn ge X).le (by decide))) (Ev.or3 Ev.name (fun _ => Ev.cmp R1 Ev.name (Ev.ref (TT.py (ds := [.int 1, .int 6])) (Ev.tuple (Evs.cons Ev.cons_int (Evs.cons Ev.cons_int Evs.nil)))) (CmpR.inTuple (ns := [1, 6])))
      (fun _ _ => Ev.cmp R1 (Ev.call R (Fn.lenI (ns := ms) (by omega)) X.len Cal.builtin (Evs.cons Ev.name Evs.nil) rfl rfl rfl) Ev.cons_int CmpR.eqI)) (CmpR.neD rfl rfl (show min 0 0 ≤ 800 by decide))) (fun c2 => ?_) fun c2 => Bx.done ?_
    · rw [show nannyF ms f p = false from (if_neg (by rw [c]; decide)).trans (if_pos c2)]
      exact Bx.ret Ev.cons_bool fun v h q => ⟨v, rfl, q⟩
    rw [show nannyF ms f p = _ from (if_neg (by rw [c]; decide)).trans (if_neg (by rw [c2]; decide))]
    refine Bx.newList rfl fun aa hb hbn P => ?_
    have hbX : ∀ b ∈ aa :: ftAt (stmtAt 18) z L, hb.get? b = none := fun b m => hbn b ((List.mem_cons.mp m).elim (fun e => e ▸ .head _) fun m => .tail _ (List.mem_append_left _ m))
    have hb1 : ∀ b ∈ [aa], hb.get? b = none := fun b m => hbn b (by rw [List.mem_singleton.mp m]; exact .head _)
    have hml : (longs ms f) ≠ [] := by simp
    refine Bx.loop (n := (maxL (longs ms f) + 1).toNat) (τ := fun j => TI (1 + j)) (σ₀ := [("longest", At hb (Pl ((longs ms f).map .int)))])
      (fun j => [("rows", Mu aa (colsAt (leadF ms) (leadF (otherM ms f)) j)), ("lead", At hb (TS (leadF ms))), ("other", At hb (TS (leadF (otherM ms f)))), ("head", At hb (Ins C (wsF (wsAt (headT ms) 7) (headT ms)))), ("tail", At hb (Ins C (wsF (wsAt (tailT ms f) 7) (tailT ms f))))])
      (fun j => [("size", TI (1 + j)), ("rows", Mu aa (colsAt (leadF ms) (leadF (otherM ms f)) j)), ("lead", At hb (TS (leadF ms))), ("other", At hb (TS (leadF (otherM ms f)))), ("head", At hb (Ins C (wsF (wsAt (headT ms) 7) (headT ms)))), ("tail", At hb (Ins C (wsF (wsAt (tailT ms f) 7) (tailT ms f))))])
      (It.range R (Ev.call R Fn.range2 X.range Cal.type (Evs.cons Ev.cons_int (Evs.cons (Ev.bin R1 (Ev.call R (Fn.max hml) X.max Cal.builtin (Evs.cons (Ev.ref Pl.le (Ev.ref At.le Ev.name)) Evs.nil) rfl rfl rfl) Ev.cons_int BinR.add) Evs.nil)) rfl rfl rfl) (by decide) (by decide) (by omega) (by omega) (by congr 1; omega))
      (frz_cons (by walk_at "mem") (At.frz hbX) frz_nil) (exist_mu (by walk_at "mem")) ?_ (fun j hj wr => (As.name (.inl rfl)).less (fun p m => m) (by walk_at "sub")) (fun j hj wr => ?_) ?_
    · show ∀ p ∈ [(("rows" : Str), Mu aa []), ("lead", At hb (TS (leadF ms))), ("other", At hb (TS (leadF (otherM ms f)))), ("head", At hb (Ins C (wsF (wsAt (headT ms) 7) (headT ms)))), ("tail", At hb (Ins C (wsF (wsAt (tailT ms f) 7) (tailT ms f))))], p ∈ _
      walk_at "sub"
    · have hj' : (j : Int) ≤ 91 := by omega
      have lw := colsAt_len (leadF ms) (leadF (otherM ms f)) j
      refine Bx.assign (Ev.call R ((column_fn (size := 1 + (j : Int)) N.col.has X.nl (by omega) (by omega) a4).le (by decide)) N.col.gn N.col.has.cal (Evs.cons (Ev.ref At.le Ev.name) (Evs.cons Ev.name Evs.nil)) rfl rfl rfl) (.inl rfl) ?_
      refine Bx.assign (Ev.call R ((column_fn (size := 1 + (j : Int)) N.col.has X.nl (by omega) (by omega) b4).le (by decide)) N.col.gn N.col.has.cal (Evs.cons (Ev.ref At.le Ev.name) (Evs.cons Ev.name Evs.nil)) rfl rfl rfl) (.inl rfl) ?_
      refine Bx.ite (Tr.cmp R1 Ev.name Ev.name CmpR.neI) (fun c => ?_) fun c => ?_
      · refine Bx.append (d := .tuple [.int (1 + j), .int (columnF (leadF ms) (1 + j)), .int (columnF (leadF (otherM ms f)) (1 + j))]) (by walk_at "mem") P
          (Ev.tuple (Ts := [TI (1 + j), TI (columnF (leadF ms) (1 + j)), TI (columnF (leadF (otherM ms f)) (1 + j))]) (Evs.cons Ev.name (Evs.cons Ev.name (Evs.cons Ev.name Evs.nil))))
          (Off.tup (ds := [.int (1 + j), .int (columnF (leadF ms) (1 + j)), .int (columnF (leadF (otherM ms f)) (1 + j))]) (by intro d m; simp at m; rcases m with rfl | rfl | rfl <;> exact Flat.int))
          (σ' := [("lead", At hb (TS (leadF ms))), ("other", At hb (TS (leadF (otherM ms f)))), ("head", At hb (Ins C (wsF (wsAt (headT ms) 7) (headT ms)))), ("tail", At hb (Ins C (wsF (wsAt (tailT ms f) 7) (tailT ms f))))])
          (frz_cons (by walk_at "mem") (At.frz hb1) (frz_cons (by walk_at "mem") (At.frz hb1) (frz_cons (by walk_at "mem") (At.frz hb1) (frz_cons (by walk_at "mem") (At.frz hb1) frz_nil)))) rfl (Bx.done (Bx.nil fun h' S => ?_)) (by omega)
        show Sd _ _ _ _ _ _
        rw [show colsAt (leadF ms) (leadF (otherM ms f)) (j + 1) = colsAt (leadF ms) (leadF (otherM ms f)) j ++ [.tuple [.int (1 + j), .int (columnF (leadF ms) (1 + j)), .int (columnF (leadF (otherM ms f)) (1 + j))]] from congrArg (_ ++ ·) (if_pos c)]
        exact S.less (by walk_at "sub")
      · refine Bx.done (Bx.nil fun h' S => ?_)
        show Sd _ _ _ _ _ _
        rw [show colsAt (leadF ms) (leadF (otherM ms f)) (j + 1) = colsAt (leadF ms) (leadF (otherM ms f)) j from (congrArg (colsAt (leadF ms) (leadF (otherM ms f)) j ++ ·) (if_neg (by rw [c]; decide))).trans (List.append_nil _)]
        exact S.less (by walk_at "sub")
    · exact Bx.ret (Ev.cmp R1 (Ev.ref Pl.le (Ev.methI R X.k (Ev.ref At.le Ev.name) (Evs.cons (Ev.ref At.le Ev.name) Evs.nil) kw gw.cal ((witness_fn gw X gl gi kl ki c4 c5 c6 c7 c8 c9).le (by decide)))) (Ev.ref Pl.le (Ev.ref Mu.le Ev.name)) (CmpR.eqD d3 d4 (Nat.le_trans (Nat.min_le_right _ _) d5))) fun v h q => ⟨v, rfl, q⟩
set_option maxRecDepth 100000 in
theorem nanny_fn (g : Has base (stmtAt 18) a) (N : Nc K base C aLead aCol) (ok : nannyOk ms f = true) : Fn prog w 9 base (.ref a) [TL ms, TI f, TB p] (TB (nannyF ms f p)) := by
  refine Fn.at g N.m.c.nl ["marks", "factor", "plane"] (fun z A F L R => nanny_body R N ok) (fun z vs h => ?_) rfl (by decide +kernel)
  match vs, h with
  | [v, u, t], _ => rfl
end
end Mine
end

section
open PySem PySem.W PySem.Calls PySem.Spec
open AutoSeq1 (wpAny_loadPart')
set_option linter.unusedVariables false
namespace Mine
section
variable {prog : Program} {w : World} {A : Around} {E : Value → Shared → Prop} {s : Shared}
set_option maxRecDepth 100000 in
theorem nextOf_tuple_item {it l : Addr} {i : Nat} {items} {x : Value} {Q : Value → Shared → Prop} (hit : s.heap.IsTupleIter it l i)
    (hl : s.heap.IsTuple l items) (hx : items[i]? = some x)
    (hQ : ∀ h', h'.IsTupleIter it l (i + 1) → Heap.SameBut it s.heap h' → Q x { s with heap := h' }) :
    wpAny (model prog w) A (Builtin.SmallTypes.nextOf (.ref it)) Q E s := by
  obtain ⟨o, ho, hc, hd⟩ := id hit
  obtain ⟨ol, hol, _, nl, hdl⟩ := hl
  unfold Builtin.SmallTypes.nextOf
  refine wpAny_bind (wpAny_callSpecial?_slot (name := Str.ofString "__next__") hit.typeIs PySem.F.slot_tuple_iterator_next
    (wpAny_call_entry PySem.F.slot_tuple_iterator_next hit.typeIs PySem.F.entry_tuple_iterator_next ?_ (PySem.F.args_tuple_iterator_next_1 _)))
  show wpAny _ _ (field (.ref it) 0 >>= _) _ _ s
  refine wpAny_bind (wpAny_field ho hd (x := .ref l) rfl ?_)
  show wpAny _ _ (if (Value.ref l == Value.none) = true then _ else _) _ _ s
  rw [if_neg (show ¬ ((Value.ref l == Value.none) = true) from Bool.false_ne_true)]
  show wpAny _ _ (field (.ref it) 1 >>= _) _ _ s
  refine wpAny_bind (wpAny_field ho hd (x := .int i 0) rfl ?_)
  show wpAny _ _ (seqItems? (.ref l) >>= _) _ _ s
  refine wpAny_bind (wpAny_seqItems hol hdl ?_)
  simp only [Int.toNat_natCast, hx]
  refine wpAny_bind (wpAny_setField ho hd (by simp) (wpAny_pure ⟨x, rfl, wpAny_pure (hQ _ ?_ (Heap.SameBut.update ..))⟩))
  exact ⟨_, Heap.get?_update_self _ ho (Obj.isFreed_of_fields (Obj.data_mapFields hd _)), (Obj.cls_mapFields ..).trans hc, by
    rw [Obj.data_mapFields hd]; simp [rawInt]⟩
set_option maxRecDepth 100000 in
theorem nextOf_tuple_end {it l : Addr} {i : Nat} {items} {Q : Value → Shared → Prop} (hh : A.handled = none)
    (hit : s.heap.IsTupleIter it l i) (hl : s.heap.IsTuple l items) (hx : items[i]? = none)
    (hE : ∀ h' e, Heap.ExtBut it s.heap h' → (∃ o, h'.get? e = some o ∧ o.cls = .type "StopIteration") → E (.ref e) { s with heap := h' }) :
    wpAny (model prog w) A (Builtin.SmallTypes.nextOf (.ref it)) Q E s := by
  obtain ⟨o, ho, hc, hd⟩ := id hit
  obtain ⟨ol, hol, _, nl, hdl⟩ := hl
  unfold Builtin.SmallTypes.nextOf
  refine wpAny_bind (wpAny_callSpecial?_slot (name := Str.ofString "__next__") hit.typeIs PySem.F.slot_tuple_iterator_next
    (wpAny_call_entry PySem.F.slot_tuple_iterator_next hit.typeIs PySem.F.entry_tuple_iterator_next ?_ (PySem.F.args_tuple_iterator_next_1 _)))
  show wpAny _ _ (field (.ref it) 0 >>= _) _ _ s
  refine wpAny_bind (wpAny_field ho hd (x := .ref l) rfl ?_)
  show wpAny _ _ (if (Value.ref l == Value.none) = true then _ else _) _ _ s
  rw [if_neg (show ¬ ((Value.ref l == Value.none) = true) from Bool.false_ne_true)]
  show wpAny _ _ (field (.ref it) 1 >>= _) _ _ s
  refine wpAny_bind (wpAny_field ho hd (x := .int i 0) rfl ?_)
  show wpAny _ _ (seqItems? (.ref l) >>= _) _ _ s
  refine wpAny_bind (wpAny_seqItems hol hdl ?_)
  simp only [Int.toNat_natCast, hx]
  refine wpAny_bind (wpAny_rule (wpAny_bind (wpAny_setField ho hd (by simp) ?_)))
  show wpAny _ _ (newExc (.type "StopIteration") [] >>= _) _ _ _
  refine wpAny_bind ?_
  simp only [newExc, newTuple]
  refine wpAny_bind (wpAny_newObj_type ?_ (by size_fits))
  refine wpAny_bind (m := firstArgMember _ _) (wpAny_of_eq (a := Value.none) (by first | rfl | (simp only [firstArgMember]; rfl)) ?_)
  refine wpAny_newObj_type ?_ (by size_fits)
  simp only [raiseNew]
  refine wpAny_bind (wpAny_handled ?_)
  first | rw [show A.in1.handled = none from hh] | rw [hh]
  refine wpAny_bind (wpAny_pure (wpAny_throw ?_))
  exact hE _ _ (((Heap.SameBut.update ..).extBut.push _).push _) ⟨_, Heap.get?_push_size _ rfl, rfl⟩
end
theorem tuple_at {h h' : Heap} {a : Addr} {items : Array Value} (x : h.IsTuple a items) (k : ∀ o, h.get? a = some o → h'.get? a = some o) : h'.IsTuple a items := let ⟨o, e, r⟩ := x; ⟨o, k o e, r⟩
theorem tupleIter_at {h h' : Heap} {a t : Addr} {i : Nat} (x : h.IsTupleIter a t i) (k : ∀ o, h.get? a = some o → h'.get? a = some o) : h'.IsTupleIter a t i := let ⟨o, e, r⟩ := x; ⟨o, k o e, r⟩
theorem draws_tuple {prog : Program} {w : World} {A : Around} (hh : A.handled = none) (it l : Addr) (hne : l ≠ it) (items : Array Value) :
    Draws prog w A it [it, l] items.size (fun i v => items[i]? = some v) (fun i h => h.IsTupleIter it l i ∧ h.IsTuple l items) where
  live := fun _ _ st => let ⟨o, ho, _⟩ := st.1; ⟨o, ho⟩
  frame := fun _ _ _ st hk => ⟨tupleIter_at st.1 fun o e => hk it (by simp) o e, tuple_at st.2 fun o e => hk l (by simp) o e⟩
  item := fun i s Q E hi st hQ => by
    refine nextOf_tuple_item st.1 st.2 (x := items[i]) (by simp [hi]) fun h' hit' hs' => ?_
    exact hQ _ h' s.toks (by simp [hi]) ⟨hit', st.2.extBut hs'.extBut hne⟩ hs'
  done := fun s Q E st hE => nextOf_tuple_end hh st.1 st.2 (by simp) hE
set_option maxRecDepth 100000 in
theorem meets_enumerate_newT (l : Addr) (items : Array Value) (n : Nat) (dct : Option Addr) (sl : Array (Option Value)) :
    Meets (Builtin.«enumerate.__new__» ⟨[.type "enumerate", .ref l], []⟩) (fun _ R s => s.heap.get? l = some { cls := .type "tuple", dict := dct, data := .seq items n, slots := sl } ∧
      R (.ok (.ret (.ref (s.heap.push { cls := .type "tuple_iterator", data := .fields #[.ref l, .int 0 0] }).objs.size)))
        { s with heap := (s.heap.push { cls := .type "tuple_iterator", data := .fields #[.ref l, .int 0 0] }).push { cls := .type "enumerate", data := .fields #[.none, .bool false, .ref s.heap.objs.size, rawInt 0, .none, .none] } }) :=
  .of_wp fun prog w A R s h => by
    obtain ⟨hp, g, d, tk, os⟩ := s; obtain ⟨hl, h⟩ := h
    have hsub := sub_enumerate
    have hL : Heap.IsTuple (Shared.heap ⟨hp, g, d, tk, os⟩) l items := ⟨_, hl, rfl, n, rfl⟩
    wp_walk using wpAny_loadPart' hl
    refine wpAny_stack_any fun st => wpAny_pure ?_
    split
    · rename_i c _ _ _ _ _
      cases (c == Value.type "enumerate")
      · wp_walk using wpAny_loadPart' hl, wpAny_pyIter_tuple hL
        exact ⟨_, rfl, h⟩
      · wp_walk using wpAny_loadPart' hl, wpAny_pyIter_tuple hL
        exact ⟨_, rfl, h⟩
    · wp_walk using wpAny_loadPart' hl, wpAny_pyIter_tuple hL
      exact ⟨_, rfl, h⟩
section
variable {prog : Program} {w : World} {A : Around} {E : Value → Shared → Prop} {s : Shared}
theorem call_enumerate_tuple {l : Addr} {items : Array Value} {Q : Value → Shared → Prop} (hL : s.heap.IsTuple l items)
    (h : Q (.ref (s.heap.objs.size + 1)) { s with heap := (s.heap.push { cls := .type "tuple_iterator", data := .fields #[.ref l, .int 0 0] }).push { cls := .type "enumerate", data := .fields #[.none, .bool false, .ref s.heap.objs.size, rawInt 0, .none, .none] } }) :
    wpAny (model prog w) A (call (.type "enumerate") [.ref l]) Q E s := by
  obtain ⟨⟨c, dct, dt, sl⟩, hl, hc, n, hd⟩ := hL
  replace hc : c = .type "tuple" := hc
  replace hd : dt = .seq items n := hd
  subst hc hd
  have hz : (s.heap.push { cls := .type "tuple_iterator", data := .fields #[.ref l, .int 0 0] }).objs.size = s.heap.objs.size + 1 := Heap.size_push ..
  refine callType_new PySem.F.called_enumerate (by decide) (PySem.F.typeCall_enumerate_1 _) (PySem.F.newCall_enumerate_1 _) (fun obj => PySem.F.args_object_init_2 obj _) PySem.F.entry_enumerate_new
    (meets_enumerate_newT l items n dct sl) ⟨hl, ?_⟩
  show _ ∧ _
  rw [hz]
  have he : ((s.heap.push { cls := .type "tuple_iterator", data := .fields #[.ref l, .int 0 0] }).push
      { cls := .type "enumerate", data := .fields #[.none, .bool false, .ref s.heap.objs.size, rawInt 0, .none, .none] }).get? (s.heap.objs.size + 1) = some { cls := .type "enumerate", data := .fields #[.none, .bool false, .ref s.heap.objs.size, rawInt 0, .none, .none] } := by
    have := Heap.get?_push_size (s.heap.push { cls := .type "tuple_iterator", data := .fields #[.ref l, .int 0 0] })
      (o := { cls := .type "enumerate", data := .fields #[.none, .bool false, .ref s.heap.objs.size, rawInt 0, .none, .none] }) rfl
    rw [hz] at this; exact this
  exact ⟨⟨_, he, rfl⟩, h⟩
end

/-- an iterator that hands out tuples of its own -/
theorem Wks.ofT {prog : Program} {w : World} {A : Around} {I : Addr} {fp wr : List Addr} {n : Nat} {Pt : Nat → Array Value → Prop} {St : Nat → Heap → Prop} {Mid : Nat → Addr → Heap → Prop} {elts : List Expr} {k : Nat} {pos : Pos}
    (W : WalksT prog w A I fp wr n Pt St Mid) : Wks prog w A (.Tuple elts k pos) I fp wr n (fun i v h h' => ∃ T vals, v = .ref T ∧ Pt i vals ∧ h.get? T = none ∧ h'.IsTuple T vals ∧ T ∉ wr) St where
  sub := W.sub
  frame := W.frame
  item := fun i s Q R E hR hi st hQ => W.item i s _ E hi st fun T vals h' tk hP hge hT hm hk => hR _ _ (W.go elts k pos i T { s with heap := h', toks := tk } _ E hm fun h'' st' hk' =>
    hQ _ h'' tk ⟨T, vals, rfl, hP, Heap.get?_none_of_le hge, tuple_at hT fun o e => hk' T o (W.apart i T h' hm) e, W.apart i T h' hm⟩ st' fun b o m e => hk' b o m (hk b o m e))
  done := W.done
  self := W.self

section
variable {prog : Program} {w : World} {A : Around} {base : Heap} {F : List Addr} {env : Env} {σ : List (Str × Ty)} {n : Nat}
/-- enumerate(t) -/
theorem It.enumT {elts : List Expr} {k : Nat} {tpos p pos : Pos} {e : Expr} {ds : List PyData} (R : Room n A) (hg : Gn base "enumerate" (.type "enumerate")) (he : Ev prog w A base F env σ e (Py (.tuple ds)))
    (hx : env.kindOf "enumerate" = some .globalImplicit) (h1 : env.globals = mainGlobals) (h2 : env.builtins = builtinsNs)
    (hpl : (backTo pos (starEach [e] env)).any (·.1) = false := by rfl) (hse : starEach [e] env = (false, eval e env) :: starEach [] env := by rfl) :
    It prog w A base F env σ (.Tuple elts k tpos) (.Call (.Name "enumerate" p) [e] [] pos) ds.length (fun i => TT [TI i, Py (ds.getD i .none)]) := .mk fun s f Q E h =>
  wpAny_Call_NameR (Ev.gname hg hx h1 h2 f (callTail (first := []) (Ts := [Py (.tuple ds)]) Cal.type f (Evs.cons he Evs.nil hse) hpl hse fun vs s₁ k₁ q => by
    cases q with
    | cons q r =>
      cases r
      obtain ⟨l, vs, rfl, hl, hv⟩ := py_tuple q
      have f₁ := f.keeps k₁.ext
      have hla : s₁.heap.IsTuple l vs.toArray := ist hl
      have hlF : l ∉ F := by obtain ⟨o, e, _⟩ := hl; exact hid_notin e
      refine call_enumerate_tuple hla ?_
      have hz : (s₁.heap.push { cls := .type "tuple_iterator", data := .fields #[.ref l, .int 0 0] }).objs.size = s₁.heap.objs.size + 1 := Heap.size_push ..
      have gI : ((s₁.heap.push { cls := .type "tuple_iterator", data := .fields #[.ref l, .int 0 0] }).push { cls := .type "enumerate", data := .fields #[.none, .bool false, .ref s₁.heap.objs.size, rawInt 0, .none, .none] }).get? s₁.heap.objs.size = some { cls := .type "tuple_iterator", data := .fields #[.ref l, .int 0 0] } :=
        Heap.get?_push_of_some _ (Heap.get?_push_size _ rfl)
      have gE : ((s₁.heap.push { cls := .type "tuple_iterator", data := .fields #[.ref l, .int 0 0] }).push { cls := .type "enumerate", data := .fields #[.none, .bool false, .ref s₁.heap.objs.size, rawInt 0, .none, .none] }).get? (s₁.heap.objs.size + 1) = some { cls := .type "enumerate", data := .fields #[.none, .bool false, .ref s₁.heap.objs.size, rawInt 0, .none, .none] } := by
        have := Heap.get?_push_size (s₁.heap.push { cls := .type "tuple_iterator", data := .fields #[.ref l, .int 0 0] }) (o := { cls := .type "enumerate", data := .fields #[.none, .bool false, .ref s₁.heap.objs.size, rawInt 0, .none, .none] }) rfl
        rw [hz] at this; exact this
      have k₂ : Kp s₁ { s₁ with heap := (s₁.heap.push { cls := .type "tuple_iterator", data := .fields #[.ref l, .int 0 0] }).push { cls := .type "enumerate", data := .fields #[.none, .bool false, .ref s₁.heap.objs.size, rawInt 0, .none, .none] } } :=
        ⟨_, s₁.toks, rfl, fun _ _ e => Heap.get?_push_of_some _ (Heap.get?_push_of_some _ e)⟩
      have nI := size_none s₁.heap
      have nE : s₁.heap.get? (s₁.heap.objs.size + 1) = none := Heap.get?_none_of_le (Nat.le_succ _)
      generalize (s₁.heap.push { cls := .type "tuple_iterator", data := .fields #[.ref l, .int 0 0] }).push { cls := .type "enumerate", data := .fields #[.none, .bool false, .ref s₁.heap.objs.size, rawInt 0, .none, .none] } = H at gI gE k₂ ⊢
      have hne : l ≠ s₁.heap.objs.size := by obtain ⟨o, e, _⟩ := hla; exact fun z => none_some nI (z ▸ e)
      have hnE : l ≠ s₁.heap.objs.size + 1 := by obtain ⟨o, e, _⟩ := hla; exact fun z => none_some nE (z ▸ e)
      have W := WalksT.enumerateD (draws_tuple (prog := prog) (w := w) (A := A.in1) R.hh s₁.heap.objs.size l hne vs.toArray) (s₁.heap.objs.size + 1) (Nat.succ_ne_self _) (by simp [Nat.succ_ne_self]; exact Ne.symm hnE) (.head _)
      have hlen : vs.toArray.size = ds.length := by simp [hv.length]
      rw [hlen] at W
      have st0 : (∃ old, IsEnum H (s₁.heap.objs.size + 1) s₁.heap.objs.size ((0 : Nat) : Int) old) ∧ H.IsTupleIter s₁.heap.objs.size l 0 ∧ H.IsTuple l vs.toArray := ⟨⟨.none, gE⟩, ⟨_, gI, rfl, rfl⟩, tuple_at hla fun o e => k₂.ext _ o e⟩
      refine W.self 0 _ _ _ st0 (h _ _ _ _ _ _ (k₁.trans k₂) (Wks.ofT W) (fun b m => ?_) (fun b m => ?_) st0 (fun i h st b m => ?_) fun F' i v h₀ h' hi hP ho he' => ?_)
      · simp only [List.mem_cons, List.not_mem_nil, or_false] at m
        rcases m with rfl | rfl
        · exact ⟨none_of k₁.ext nE, _, gE⟩
        · exact ⟨none_of k₁.ext nI, _, gI⟩
      · simp only [List.mem_cons, List.not_mem_nil, or_false] at m
        rcases m with rfl | rfl | rfl
        · exact ⟨fun m => by obtain ⟨o, e⟩ := f₁.old _ m; exact none_some nE e, _, gE⟩
        · exact ⟨size_out f₁.old, _, gI⟩
        · obtain ⟨o, e, _⟩ := hla
          exact ⟨hlF, o, k₂.ext _ o e⟩
      · simp only [List.mem_cons, List.not_mem_nil, or_false] at m
        rcases m with rfl | rfl
        · obtain ⟨old, e⟩ := st.1; exact ⟨_, e⟩
        · obtain ⟨o, e, _⟩ := st.2.1; exact ⟨o, e⟩
      · obtain ⟨T, vals, rfl, ⟨t, x, hx, rfl⟩, nT, hT, _⟩ := hP
        have hd : ds[i]? = some (ds.getD i .none) := by simp [hi]
        obtain ⟨v', e', q'⟩ := hv.get hd
        have : x = v' := by
          have hx' : vs.toArray[i]? = some x := hx
          simp only [List.getElem?_toArray] at hx'
          rw [e'] at hx'; exact (Option.some.inj hx').symm
        subst this
        refine ⟨T, [.int i t, x], rfl, ?_, .cons (int_py _ _ _) (.cons ((Py _).mono _ _ _ he' ((Py _).mono _ _ _ (hid_ext' fun b o nm e => ⟨k₂.ext b o e, fun m => (List.mem_append.mp m).elim (fun m => ?_) nm⟩) q')) .nil)⟩
        · obtain ⟨o, g, r⟩ := hT
          exact ⟨o, hideAll_get _ g fun m => by obtain ⟨o', e''⟩ := ho T m; exact none_some nT e'', r⟩
        · simp only [List.mem_cons, List.not_mem_nil, or_false] at m
          rcases m with rfl | rfl
          · exact none_some nE e
          · exact none_some nI e) )
theorem hname2 {scope : Scope} {x y : Str} {px py tp : Pos} {k : Nat} {cl : List (Str × Addr)} {σc : List (Str × Ty)} {τ₁ τ₂ : Nat → Ty} (hh : A.handled = none) (hf : Frees scope cl env σ cl σc) (h3 : scope.names.lookup x = some .local) (h4 : ∀ z ∈ cl.map (·.1), z ≠ x)
    (h3' : scope.names.lookup y = some .local) (h4' : ∀ z ∈ cl.map (·.1), z ≠ y) (hxy : x ≠ y) :
    ∀ C Fc i, i < n → As prog w A base (cfoot scope C) Fc (cenvOf scope cl C env) (.Tuple [.Name x px, .Name y py] k tp) (TT [τ₁ i, τ₂ i]) σc ((x, τ₁ i) :: (y, τ₂ i) :: σc) := fun C Fc i _ =>
  (As.tup hh (AsL.cons (As.name (env := cenvOf scope cl C env) (x := x) (px := px) (.inl (show (relabel scope env).names.lookup x = some .local from lookup_relabel_local h3)))
    (AsL.cons (As.name (env := cenvOf scope cl C env) (x := y) (px := py) (.inl (show (relabel scope env).names.lookup y = some .local from lookup_relabel_local h3'))) AsL.nil))).less (fun p m => m) fun p m => by
    have keep : ∀ p ∈ σc, p.1 ≠ x ∧ p.1 ≠ y := fun p m => ⟨h4 p.1 (by rw [← hf.names]; exact List.mem_map.mpr ⟨p, m, rfl⟩), h4' p.1 (by rw [← hf.names]; exact List.mem_map.mpr ⟨p, m, rfl⟩)⟩
    rcases List.mem_cons.mp m with rfl | m
    · exact .tail _ (List.mem_filter.mpr ⟨.head _, by simp [hxy]⟩)
    · rcases List.mem_cons.mp m with rfl | m
      · exact .head _
      · exact .tail _ (List.mem_filter.mpr ⟨.tail _ (List.mem_filter.mpr ⟨m, by simp [(keep p m).1]⟩), by simp [(keep p m).2]⟩)
theorem Ev.compT {elt iter : Expr} {x y : Str} {px py tp : Pos} {k : Nat} {ifs : List Expr} {scope : Scope} {pos : Pos} {cl : List (Str × Addr)} {σc : List (Str × Ty)} {τ₁ τ₂ : Nat → Ty} {b : Nat → Bool} {d : Nat → PyData} (hh : A.handled = none)
    (hi : It prog w A base F env σ (.Tuple [.Name x px, .Name y py] k tp) iter n (fun i => TT [τ₁ i, τ₂ i])) (hclos : closureFor scope env = pure cl) (hf : Frees scope cl env σ cl σc) (hsz : n ≤ 1000)
    (htest : ∀ C Fc i, i < n → Trs prog w A base Fc (cenvOf scope cl C env) ((x, τ₁ i) :: (y, τ₂ i) :: σc) ifs (b i))
    (helt : ∀ C Fc i, i < n → b i = true → Ev prog w A base Fc (cenvOf scope cl C env) ((x, τ₁ i) :: (y, τ₂ i) :: σc) elt (Py (d i)))
    (ok : compOk scope x (cl.map (·.1)) = true := by kernel_rfl) (ok' : compOk scope y (cl.map (·.1)) = true := by kernel_rfl) (hxy : (x == y) = false := by decide +kernel) (hs : ∀ x, foldedSetIterable iter env x = pure x := by intro _; rfl) :
    Ev prog w A base F env σ (.ListComp elt [⟨.Tuple [.Name x px, .Name y py] k tp, iter, ifs, 0⟩] scope pos) (Pl (doneTo b d n)) := by
  obtain ⟨h1, h2, h3, h4⟩ := ok_parts ok
  obtain ⟨_, _, h3', h4'⟩ := ok_parts ok'
  exact Ev.listComp hi hclos hf.reach h1 h2 (hname2 hh hf h3 h4 h3' h4' (by simpa using hxy)) (fun i p m => .tail _ (.tail _ m)) (Nat.le_trans hsz (by decide)) htest helt hs
theorem getD_int (l : List Int) {i : Nat} (h : i < l.length) : (l.map PyData.int).getD i .none = .int (l.getD i 0) := by simp [List.getD, h]
theorem pick_map {α β : Type} (g : α → β) (l : List α) (lo hi st : Option Int) : pick (l.map g) lo hi st = (pick l lo hi st).map g := by
  unfold pick
  rw [List.length_map, List.map_filterMap]
  congr 1
  funext i
  simp
end
end Mine
end

section
open PySem PySem.W PySem.Calls PySem.Spec
set_option linter.unusedVariables false
namespace Mine
local macro_rules | `(tactic| walk_at "mem") => `(tactic| first | with_reducible exact List.mem_cons_self | (with_reducible refine List.mem_cons_of_mem _ ?_; walk_at "mem") | (with_reducible refine mem_drop ?_ (by decide +kernel); walk_at "mem"))
local macro_rules | `(tactic| walk_at "sub") => `(tactic| first | with_reducible exact sub_nil | (with_reducible refine sub_cons (by walk_at "mem") ?_; walk_at "sub"))

noncomputable abbrev startsF : List Int := [0, 1, 3, 2, 1004, 997, 1010, 1001, 985, 1013, 1000]
noncomputable def totalF (ns : List Int) (i : Nat) : Int := (startsF.getD i 0 + (pick ns (some (i : Int)) (some 55) (some 11)).sum).fmod (10 ^ 6)
noncomputable def totalsF (ns : List Int) : List Int := (List.range 11).map (totalF ns)
section
variable {prog : Program} {w : World} {A : Around} {base : Heap} {F : List Addr} {z : Fv} {L a : Addr} {ns : List Int} {n : Nat}
set_option maxRecDepth 100000 in
theorem totals_body (R : Room 3 A) (hz : ns.length ≤ 1000) (he : Gn base "enumerate" (.type "enumerate")) (hs : Gn base "sum" (.builtin "sum")) :
    Bx prog w A base (ftAt (stmtAt 15) z L) (Gd.of (ftAt (stmtAt 15) z L)) (ftAt (stmtAt 15) z L ++ F) (envAt (stmtAt 15) z L a) [("script", TL ns)] (bodyOf (stmtAt 15)) (Ret (TL (totalsF ns)) (ftAt (stmtAt 15) z L ++ F)) := by
  have R1 : Room 1 A := R.le (by decide)
  refine Bx.assign (Ev.ref (TT.py (ds := startsF.map .int)) (Ev.tuple (Evs.cons Ev.cons_int (Evs.cons Ev.cons_int (Evs.cons Ev.cons_int (Evs.cons Ev.cons_int (Evs.cons Ev.cons_int (Evs.cons Ev.cons_int (Evs.cons Ev.cons_int (Evs.cons Ev.cons_int (Evs.cons Ev.cons_int (Evs.cons Ev.cons_int (Evs.cons Ev.cons_int Evs.nil))))))))))))) (.inl rfl) ?_
  refine Bx.retR (Ev.ref (Pl.le' ?_) (Ev.compT (n := 11) (τ₁ := fun i => TI i) (τ₂ := fun i => TI (startsF.getD i 0)) (b := fun _ => true) (d := fun i => .int (totalF ns i)) (cl := [("script", L + 1)]) (σc := [("script", TL ns)]) R.hh
    ((It.enumT (ds := startsF.map .int) R he Ev.name rfl rfl rfl).sub (fun i hi => ?_)) rfl (.cons ⟨by walk_at "mem", rfl, rfl, rfl, fun _ => rfl⟩ .nil) (by decide) (fun _ _ _ _ => Trs.nil) (fun C Fc i hi _ => ?_)))
  · rw [doneTo_all]; unfold totalsF; rw [List.map_map]; rfl
  · show Le (TT [TI i, Py ((startsF.map PyData.int).getD i .none)]) (TT [TI i, TI (startsF.getD i 0)])
    rw [getD_int startsF hi]; exact Le.rfl
  · refine Ev.bin R1 (Ev.bin R1 Ev.name (Ev.call R (Fn.sum (ns := pick ns (some (i : Int)) (some 55) (some 11))) hs Cal.builtin (Evs.cons (Ev.ref (Le.of (by rw [pick_map])) (Ev.slice R1 Ev.name (.some Ev.name) (.some Ev.cons_int) (.some Ev.cons_int) (SliceR.list (ds := ns.map .int) (by decide) (by simpa using by omega)) (fun o i => rfl))) Evs.nil) rfl rfl rfl) BinR.add)
      (Ev.bin R1 Ev.cons_int Ev.cons_int (BinR.pow (by decide) (by decide))) (BinR.mod (by decide))
set_option maxRecDepth 100000 in
theorem totals_fn (g : Has base (stmtAt 15) a) (hl : base.NoLimit) (hz : ns.length ≤ 1000) (he : Gn base "enumerate" (.type "enumerate")) (hs : Gn base "sum" (.builtin "sum")) : Fn prog w 4 base (.ref a) [TL ns] (TL (totalsF ns)) := by
  refine Fn.at g hl ["script"] (fun z A F L R => totals_body R hz he hs) (fun z vs h => ?_) rfl (by decide +kernel)
  match vs, h with
  | [v], _ => rfl
end
end Mine
end

section
open PySem PySem.W PySem.Calls PySem.Spec
set_option linter.unusedVariables false
namespace Mine
section
variable {prog : Program} {w : World} {A : Around} {base : Heap} {W : List Addr} {V : Gd} {F : List Addr} {env : Env} {σ : List (Str × Ty)} {rest : List Stmt} {R : Flow → Heap → Prop} {n : Nat}
/-- a while loop of n turns -/
theorem Bx.while (n : Nat) (σs : Nat → List (Str × Ty)) {test : Expr} {body : List Stmt} {pos : Pos} (h0 : ∀ p ∈ σs 0, p ∈ σ) (ht : ∀ i, i ≤ n → Tr prog w A base F env (σs i) test (decide (i < n)))
    (hb : ∀ i, i < n → Bx prog w A base W V F env (σs i) body (fun fl h => match fl with
      | .next => Sd base W F env (σs (i + 1)) h
      | .cont => Sd base W F env (σs (i + 1)) h
      | .brk => False
      | .ret v => R (.ret v) h)) (hr : Bx prog w A base W V F env (σs n) rest R) : Bx prog w A base W V F env σ (.While test body [] pos :: rest) R := .mk fun hV s S Q E k => by
  refine wpAny_execs_cons (wpAny_While (codeAny_whileLoop (fun k' s₁ => ∃ i, i ≤ n ∧ k' = n - i ∧ V.Rel s s₁ ∧ Sd base W F env (σs i) s₁.heap) ?_ n ⟨0, Nat.zero_le _, rfl, hV.kp (Kp.refl s), S.less h0⟩))
  rintro k' s₁ ⟨i, hin, rfl, kf, Si⟩
  refine (ht i hin).go s₁ Si.fm _ _ fun s₂ k₂ => ?_
  have kf₂ := kf.trans (hV.kp k₂)
  have S₂ := Si.keeps k₂.ext
  by_cases hlt : i < n
  · rw [if_pos (decide_eq_true hlt)]
    refine (hb i hlt).go hV s₂ S₂ _ _ fun fl s₃ k₃ r => ?_
    cases fl with
    | next => exact ⟨n - (i + 1), by omega, i + 1, hlt, rfl, kf₂.trans k₃, r⟩
    | cont => exact ⟨n - (i + 1), by omega, i + 1, hlt, rfl, kf₂.trans k₃, r⟩
    | brk => exact r.elim
    | ret v => exact k _ _ (kf₂.trans k₃) r
  · have : i = n := by omega
    subst this
    rw [if_neg (by simp)]
    exact wpAny_execs_nil (hr.go hV s₂ S₂ Q E fun fl s₃ k₃ r => k fl s₃ (kf₂.trans k₃) r)
end
end Mine
end

section
open PySem PySem.W PySem.Calls PySem.Spec
set_option linter.unusedVariables false
namespace Mine
local macro_rules | `(tactic| walk_at "mem") => `(tactic| first | with_reducible exact List.mem_cons_self | (with_reducible refine List.mem_cons_of_mem _ ?_; walk_at "mem") | (with_reducible refine mem_drop ?_ (by decide +kernel); walk_at "mem"))
local macro_rules | `(tactic| walk_at "sub") => `(tactic| first | with_reducible exact sub_nil | (with_reducible refine sub_cons (by walk_at "mem") ?_; walk_at "sub"))

noncomputable def backAt (place : Int) : Nat → Int
  | 0 => (place - 1).fmod 7
  | j + 1 => (backAt place j - 1).fmod 7
noncomputable def figAt (place : Int) : Nat → Str
  | 0 => (toString (place + 1) : String)
  | j + 1 => (Str.ofString (toString (backAt place j + 1))) ++ figAt place j
noncomputable def dueK (copy : List Int) (place : Int) : Nat := ((List.range 8).find? fun j => copy.any (· == backAt place j)).getD 0
noncomputable def dueSkip (copy : List Int) (place : Int) : Bool := ((copy.length : Int) != 3) || !copy.any (· == place)
noncomputable def dueF (copy : List Int) (place : Int) : PyData := if dueSkip copy place then .none else .tuple [.str "host", .int ((PySem.intText? (figAt place (dueK copy place))).getD 0)]
noncomputable def dueOk (copy : List Int) (place : Int) : Bool := decide (copy.length ≤ 100) && decide (place.natAbs ≤ 10) &&
  (dueSkip copy place || (copy.any (· == backAt place (dueK copy place)) && (List.range (dueK copy place)).all (fun j => !copy.any (· == backAt place j) && decide (((Str.ofString (toString (backAt place j + 1))).length) ≤ 100) && decide ((figAt place j).length ≤ 100) && decide ((backAt place j).natAbs ≤ 100))
    && (PySem.intText? (figAt place (dueK copy place))).isSome && decide ((figAt place (dueK copy place)).length ≤ 640)))
section
variable {prog : Program} {w : World} {A : Around} {base : Heap} {F : List Addr} {z : Fv} {L a : Addr} {copy : List Int} {place : Int} {n : Nat}
theorem log2_small {i : Int} (h : i.natAbs ≤ 1000) : i.natAbs.log2 < 1920 := by
  by_cases e : i.natAbs = 0
  · rw [e]; decide
  · refine (Nat.log2_lt e).mpr (Nat.lt_of_le_of_lt h ?_)
    exact Nat.lt_of_lt_of_le (by decide : 1000 < 2 ^ 10) (Nat.pow_le_pow_right (by decide) (by decide))
set_option maxRecDepth 100000 in
theorem due_body (R : Room 3 A) (ok : dueOk copy place = true) (hl : Gn base "len" (.builtin "len")) (hs : Gn base "str" (.type "str")) (hi : Gn base "int" (.type "int")) :
    Bx prog w A base (ftAt (stmtAt 20) z L) (Gd.of (ftAt (stmtAt 20) z L)) (ftAt (stmtAt 20) z L ++ F) (envAt (stmtAt 20) z L a) [("copy", TL copy), ("place", TI place)] (bodyOf (stmtAt 20)) (Ret (Py (dueF copy place)) (ftAt (stmtAt 20) z L ++ F)) := by
  have R1 : Room 1 A := R.le (by decide)
  unfold dueOk at ok
  simp only [Bool.and_eq_true, decide_eq_true_eq, Bool.or_eq_true, List.all_eq_true, List.mem_range, Bool.not_eq_true'] at ok
  obtain ⟨⟨o1, o2⟩, o3⟩ := ok
  refine Bx.ite (Tr.or (Tr.cmp R1 (Ev.call R (Fn.lenI (ns := copy) (by omega)) hl Cal.builtin (Evs.cons Ev.name Evs.nil) rfl rfl rfl) Ev.cons_int CmpR.neI) (fun _ => Tr.cmp R1 Ev.name Ev.name CmpR.notInList)) (fun c => ?_) fun c => Bx.done ?_
  · rw [show dueF copy place = .none from if_pos c]
    exact Bx.ret Ev.cons_none fun v h q => ⟨v, rfl, q⟩
  · rw [show dueF copy place = _ from if_neg (by rw [show dueSkip copy place = false from c]; decide)]
    rw [show dueSkip copy place = false from c] at o3
    rcases o3 with o3 | o3
    · cases o3
    obtain ⟨⟨⟨p1, p2⟩, p3⟩, p4⟩ := o3
    obtain ⟨m, hm⟩ := Option.isSome_iff_exists.mp p3
    have e' : sizeLine = 16777216 := sizeLine_eq
    refine Bx.assign (Ev.call R (Fn.strI (i := place + 1) (log2_small (by omega))) hs Cal.type (Evs.cons (Ev.bin R1 Ev.name Ev.cons_int BinR.add) Evs.nil) rfl rfl rfl) (.inl rfl) ?_
    refine Bx.assign (Ev.bin R1 (Ev.bin R1 Ev.name Ev.cons_int BinR.sub) Ev.cons_int (BinR.mod (by decide))) (.inl rfl) ?_
    refine Bx.while (dueK copy place) (fun j => [("back", TI (backAt place j)), ("figures", TS (figAt place j)), ("copy", TL copy)]) ?_ (fun j hj => ?_) (fun j hj => ?_) ?_
    · show ∀ p ∈ [(("back" : Str), TI ((place - 1).fmod 7)), ("figures", TS (toString (place + 1) : String)), ("copy", TL copy)], p ∈ _
      walk_at "sub"
    · have : (!copy.any (· == backAt place j)) = decide (j < dueK copy place) := by
        by_cases h : j < dueK copy place
        · rw [decide_eq_true h, (p2 j h).1.1.1]; rfl
        · have : j = dueK copy place := by omega
          subst this
          rw [p1]; simp
      rw [← this]
      exact Tr.cmp R1 Ev.name Ev.name CmpR.notInList
    · obtain ⟨⟨⟨q1, q2⟩, q3⟩, q4⟩ := p2 j hj
      refine Bx.assign (T := TS (figAt place (j + 1))) (Ev.bin R1 (Ev.call R (Fn.strI (i := backAt place j + 1) (log2_small (by omega))) hs Cal.type (Evs.cons (Ev.bin R1 Ev.name Ev.cons_int BinR.add) Evs.nil) rfl rfl rfl) Ev.name (BinR.cat (by omega))) (.inl rfl)
        (Bx.assign (T := TI (backAt place (j + 1))) (Ev.bin R1 (Ev.bin R1 Ev.name Ev.cons_int BinR.sub) Ev.cons_int (BinR.mod (by decide))) (.inl rfl) (Bx.nil fun h' S => S.less (by walk_at "sub")))
    · rw [hm]
      exact Bx.ret (Ev.ref (TT.py (ds := [.str "host", .int m])) (Ev.tuple (Evs.cons Ev.cons_str (Evs.cons (Ev.call R (Fn.intS hm p4) hi Cal.type (Evs.cons Ev.name Evs.nil) rfl rfl rfl) Evs.nil)))) fun v h q => ⟨v, rfl, q⟩
set_option maxRecDepth 100000 in
theorem due_fn (g : Has base (stmtAt 20) a) (nl : base.NoLimit) (ok : dueOk copy place = true) (hl : Gn base "len" (.builtin "len")) (hs : Gn base "str" (.type "str")) (hi : Gn base "int" (.type "int")) : Fn prog w 4 base (.ref a) [TL copy, TI place] (Py (dueF copy place)) := by
  refine Fn.at g nl ["copy", "place"] (fun z A F L R => due_body R ok hl hs hi) (fun z vs h => ?_) rfl (by decide +kernel)
  match vs, h with
  | [v, u], _ => rfl
end
end Mine
end

section
open PySem PySem.W PySem.Calls PySem.Spec
set_option linter.unusedVariables false
namespace Mine
noncomputable def pickB (b : List UInt8) (lo hi : Option Int) : List UInt8 := (KBy.picked b.toArray lo hi).toList
section
variable {prog : Program} {w : World} {A : Around} {base : Heap} {F : List Addr} {env : Env} {σ : List (Str × Ty)} {n : Nat}
theorem BinR.catB {b c : List UInt8} (hz : b.length + c.length ≤ 10000) : BinR prog w .Add (By b) (By c) (By (b ++ c)) := .mk fun A F s v₁ v₂ R _ q₁ q₂ Q E h => by
  obtain ⟨t, rfl⟩ := q₁; obtain ⟨u, rfl⟩ := q₂
  exact KBy.add_bytes (by simp; omega) fun t' k => h _ _ (Kp.tok s _) ⟨t', by simp⟩
theorem SliceR.bytes {b : List UInt8} {lo hi : Option Int} (hz : b.length ≤ 10000) : SliceR prog w (By b) lo hi none (By (pickB b lo hi)) := .mk fun A F s v sl vl vu vk R hF q hs pl pu pk => by
  obtain ⟨t, rfl⟩ := q
  refine ⟨⟨"bytes", _, typeIs_bytes _ _ _, FB.slot_bytes_getitem.lookup⟩, fun Q E h => ?_⟩
  cases pk
  exact getItem_meets (typeIs_bytes _ _ _) (by decide) FB.slot_bytes_getitem FB.entry_bytes_getitem (FB.args_bytes_getitem_2 _ _) (KBc.meets_slice2 b.toArray t _ pl pu)
    ⟨hs, Nat.le_trans (KBc.size_picked_le b.toArray lo hi) (by rw [sizeLine_eq]; simp; omega), fun t' k => h _ _ (Kp.tok s _) ⟨t', by simp [pickB]⟩⟩
theorem Fn.absI {i : Int} : Fn prog w n base (.builtin "abs") [TI i] (TI (if i < 0 then -i else i)) := .mk fun A F s vs R hb hF ha Q E h => by
  cases ha with
  | cons q r => cases r; obtain ⟨t, rfl⟩ := py_int q; exact PyProof.Rows.call_abs_int fun u tk => h _ _ (Kp.tok s _) (int_py _ _ _)
theorem Fn.intI {i : Int} : Fn prog w n base (.type "int") [TI i] (TI i) := .mk fun A F s vs R hb hF ha Q E h => by
  cases ha with
  | cons q r => cases r; obtain ⟨t, rfl⟩ := py_int q; exact call_int_int (h _ _ (Kp.refl s) (int_py _ _ _))
theorem Fn.divmod {i j : Int} (hj : j ≠ 0) (hp : Builtin.divisionGoesByPylong i j = false) : Fn prog w n base (.builtin "divmod") [TI i, TI j] (TT [TI (i.fdiv j), TI (i.fmod j)]) := .mk fun A F s vs R hb hF ha Q E h => by
  cases ha with
  | cons q r => cases r with
    | cons q' r =>
      cases r
      obtain ⟨t, rfl⟩ := py_int q; obtain ⟨u, rfl⟩ := py_int q'
      refine PyProof.Rows.divmod_int hj ?_ (.inl hp)
      have kp : Kp s { s with toks := s.toks + 1 + 1, heap := s.heap.push { cls := .type "tuple", data := .seq #[.int (i.fdiv j) s.toks, .int (i.fmod j) (s.toks + 1)] } } := ⟨_, _, rfl, fun _ _ e => Heap.get?_push_of_some _ e⟩
      exact h _ _ kp ⟨_, [.int (i.fdiv j) s.toks, .int (i.fmod j) (s.toks + 1)], rfl, ⟨_, hideAll_get F (Heap.get?_push_size _ rfl) (size_out hF), rfl, 0, rfl⟩, .cons (int_py _ _ _) (.cons (int_py _ _ _) .nil)⟩
end
end Mine
end

section
open PySem PySem.W PySem.Calls PySem.Spec
set_option linter.unusedVariables false
namespace Mine
local macro_rules | `(tactic| walk_at "mem") => `(tactic| first | with_reducible exact List.mem_cons_self | (with_reducible refine List.mem_cons_of_mem _ ?_; walk_at "mem") | (with_reducible refine mem_drop ?_ (by decide +kernel); walk_at "mem"))
local macro_rules | `(tactic| walk_at "sub") => `(tactic| first | with_reducible exact sub_nil | (with_reducible refine sub_cons (by walk_at "mem") ?_; walk_at "sub"))

noncomputable abbrev apT : List UInt8 := [65, 66, 67, 68, 69, 70, 71, 72, 73, 74, 75, 76, 77, 78, 79, 80]
noncomputable def apN (k : Int) : Nat → Int
  | 0 => if k < 0 then -k else k
  | j + 1 => (apN k j).fdiv 16
noncomputable def apV (k : Int) : Nat → List UInt8
  | 0 => []
  | j + 1 => pickB apT (some ((apN k j).fmod 16)) (some ((apN k j).fmod 16 + 1)) ++ apV k j
noncomputable def apK (k : Int) : Nat := ((List.range 20).find? fun j => apN k j == 0).getD 0
noncomputable abbrev apF (k : Int) : List UInt8 := apV k (apK k)
noncomputable def apOk (k : Int) : Bool := (apN k (apK k) == 0) && (List.range (apK k)).all (fun j => !(apN k j == 0) && decide ((apV k j).length ≤ 100) && decide ((pickB apT (some ((apN k j).fmod 16)) (some ((apN k j).fmod 16 + 1))).length ≤ 100))
section
variable {prog : Program} {w : World} {A : Around} {base : Heap} {F : List Addr} {z : Fv} {L a : Addr} {k : Int} {n : Nat}
set_option maxRecDepth 100000 in
theorem ap_body (R : Room 3 A) (ok : apOk k = true) (h1 : Gn base "abs" (.builtin "abs")) (h2 : Gn base "int" (.type "int")) (h3 : Gn base "divmod" (.builtin "divmod")) :
    Bx prog w A base (ftAt (stmtAt 7) z L) (Gd.of (ftAt (stmtAt 7) z L)) (ftAt (stmtAt 7) z L ++ F) (envAt (stmtAt 7) z L a) [("num", TI k)] (bodyOf (stmtAt 7)) (Ret (By (apF k)) (ftAt (stmtAt 7) z L ++ F)) := by
  have R1 : Room 1 A := R.le (by decide)
  unfold apOk at ok
  simp only [Bool.and_eq_true, decide_eq_true_eq, List.all_eq_true, List.mem_range, Bool.not_eq_true', beq_iff_eq] at ok
  obtain ⟨o1, o2⟩ := ok
  refine Bx.assign Ev.cons_bytes (.inl rfl) (Bx.assign Ev.cons_bytes (.inl rfl) (Bx.assign (Ev.call R (Fn.intI (i := if k < 0 then -k else k)) h2 Cal.type (Evs.cons (Ev.call R (Fn.absI (i := k)) h1 Cal.builtin (Evs.cons Ev.name Evs.nil) rfl rfl rfl) Evs.nil) rfl rfl rfl) (.inl rfl) ?_))
  refine Bx.while (apK k) (fun j => [("num", TI (apN k j)), ("val", By (apV k j)), ("AP", By apT)]) ?_ (fun j hj => ?_) (fun j hj => ?_) (Bx.retR Ev.name)
  · show ∀ p ∈ [(("num" : Str), TI (if k < 0 then -k else k)), ("val", By []), ("AP", By [65, 66, 67, 68, 69, 70, 71, 72, 73, 74, 75, 76, 77, 78, 79, 80])], p ∈ _
    walk_at "sub"
  · have : (apN k j != 0) = decide (j < apK k) := by
      by_cases h : j < apK k
      · have := (o2 j h).1.1
        rw [decide_eq_true h]; simpa [bne] using this
      · have : j = apK k := by omega
        subst this
        rw [o1]; simp
    rw [← this]
    exact Tr.int Ev.name
  · obtain ⟨⟨q1, q2⟩, q3⟩ := o2 j hj
    refine Bx.assignTup (Ev.call R (Fn.divmod (i := apN k j) (j := 16) (by decide) (small_div (by decide))) h3 Cal.builtin (Evs.cons Ev.name (Evs.cons Ev.cons_int Evs.nil)) rfl rfl rfl) (As.tup R.hh (AsL.cons (As.name (.inl rfl)) (AsL.cons (As.name (.inl rfl)) AsL.nil))) ?_
    refine Bx.assign (T := By (apV k (j + 1))) (Ev.bin R1 (Ev.slice R1 Ev.name (.some Ev.name) (.some (Ev.bin R1 Ev.name Ev.cons_int BinR.add)) .none (SliceR.bytes (by decide)) (fun o i => rfl)) Ev.name (BinR.catB (by omega))) (.inl rfl) (Bx.nil fun h' S => S.less ?_)
    show ∀ p ∈ [(("num" : Str), TI ((apN k j).fdiv 16)), ("val", By (apV k (j + 1))), ("AP", By apT)], p ∈ _
    walk_at "sub"
set_option maxRecDepth 100000 in
theorem ap_fn (g : Has base (stmtAt 7) a) (nl : base.NoLimit) (ok : apOk k = true) (h1 : Gn base "abs" (.builtin "abs")) (h2 : Gn base "int" (.type "int")) (h3 : Gn base "divmod" (.builtin "divmod")) : Fn prog w 4 base (.ref a) [TI k] (By (apF k)) := by
  refine Fn.at g nl ["num"] (fun z A F L R => ap_body R ok h1 h2 h3) (fun z vs h => ?_) rfl (by decide +kernel)
  match vs, h with
  | [v], _ => rfl
end
end Mine
end

section
open PySem PySem.W PySem.Calls PySem.Spec
set_option linter.unusedVariables false
namespace Mine
/-- a dict of texts to ints, as its pairs say -/
inductive DI : List (Str × Value) → List (Str × Int) → Prop
  | nil : DI [] []
  | cons (k i t) {r r'} : DI r r' → DI ((k, .int i t) :: r) ((k, i) :: r')
theorem DI.length : ∀ {xs ys}, DI xs ys → xs.length = ys.length
  | _, _, .nil => rfl
  | _, _, .cons _ _ _ r => by simp [r.length]
theorem DI.get : ∀ {xs ys}, DI xs ys → ∀ {i : Nat} {k : Str} {v : Value}, xs[i]? = some (k, v) → ∃ n t, v = .int n t ∧ ys[i]? = some (k, n)
  | _, _, .nil, i, k, v, e => by simp at e
  | _, _, .cons k' n t r, 0, k, v, e => by simp at e; obtain ⟨rfl, rfl⟩ := e; exact ⟨n, t, rfl, rfl⟩
  | _, _, .cons k' n t r, i + 1, k, v, e => by simp at e; simpa using r.get e
noncomputable def atI (kvs : List (Str × Int)) (k : Str) : Option Int := (kvs.find? fun p => p.1 = k).map (·.2)
noncomputable def putI (kvs : List (Str × Int)) (k : Str) (v : Int) : List (Str × Int) := if kvs.any (fun p => p.1 = k) then kvs.map (fun p => if p.1 = k then (p.1, v) else p) else kvs ++ [(k, v)]
theorem DI.valueAt : ∀ {xs ys}, DI xs ys → ∀ k : Str, (∃ n t, PySem.valueAt xs k = some (.int n t) ∧ atI ys k = some n) ∨ (PySem.valueAt xs k = none ∧ atI ys k = none)
  | _, _, .nil, k => .inr ⟨rfl, rfl⟩
  | _, _, .cons k' n t r, k => by
    by_cases h : k' = k
    · exact .inl ⟨n, t, by simp [PySem.valueAt, h], by simp [atI, h]⟩
    · have := r.valueAt k
      simpa [PySem.valueAt, atI, h] using this
theorem DI.any : ∀ {xs ys}, DI xs ys → ∀ k : Str, (xs.any fun p => decide (p.1 = k)) = (ys.any fun p => decide (p.1 = k))
  | _, _, .nil, k => rfl
  | _, _, .cons k' n t r, k => by simp only [List.any_cons, r.any k]
theorem DI.map {k : Str} {n : Int} {t : Tok} : ∀ {xs ys}, DI xs ys → DI (xs.map fun p => if p.1 = k then (p.1, .int n t) else p) (ys.map fun p => if p.1 = k then (p.1, n) else p)
  | _, _, .nil => .nil
  | _, _, .cons k' m u r => by
    by_cases h : k' = k
    · simp only [List.map_cons, h, if_true]; exact .cons _ _ _ r.map
    · simp only [List.map_cons, h, if_false]; exact .cons _ _ _ r.map
theorem DI.app {a : Str × Value} {b : Str × Int} : ∀ {xs ys}, DI xs ys → DI [a] [b] → DI (xs ++ [a]) (ys ++ [b])
  | _, _, .nil, q => q
  | _, _, .cons k' m u r, q => .cons _ _ _ (r.app q)
theorem DI.put {k : Str} {n : Int} {t : Tok} {xs : List (Str × Value)} {ys : List (Str × Int)} (h : DI xs ys) : DI (stored xs k (.int n t)) (putI ys k n) := by
  unfold stored putI
  rw [h.any k]
  split
  · exact h.map
  · exact h.app (.cons _ _ _ .nil)

noncomputable def Td (prog : Program) (w : World) (kvs : List (Str × Int)) : Ty := ⟨fun v h => ∃ a xs, v = .ref a ∧ (a == sysModules) = false ∧ h.DictOf (strKind prog w) a xs ∧ DI xs kvs, fun v h h' k q => by
  obtain ⟨a, xs, e, s, d, i⟩ := q
  exact ⟨a, xs, e, s, d.keep k, i⟩⟩
noncomputable def Md' (prog : Program) (w : World) (a : Addr) (kvs : List (Str × Int)) : Ty := ⟨fun v h => v = .ref a ∧ (a == sysModules) = false ∧ ∃ xs, h.DictOf (strKind prog w) a xs ∧ DI xs kvs, fun v h h' k q => by
  obtain ⟨e, s, xs, d, i⟩ := q
  exact ⟨e, s, xs, d.keep k, i⟩⟩
theorem Md'.le {prog : Program} {w : World} {a : Addr} {kvs : List (Str × Int)} : Le (Md' prog w a kvs) (Td prog w kvs) := fun v h ⟨e, s, xs, d, i⟩ => ⟨a, xs, e, s, d, i⟩
theorem dict_hid {prog : Program} {w : World} {F : List Addr} {h : Heap} {a : Addr} {xs : List (Str × Value)} (d : h.DictOf (strKind prog w) a xs) (n : a ∉ F) : (hid F h).DictOf (strKind prog w) a xs := d.at fun o e => hideAll_get F e n
theorem of_dict_hid {prog : Program} {w : World} {F : List Addr} {h : Heap} {a : Addr} {xs : List (Str × Value)} (d : (hid F h).DictOf (strKind prog w) a xs) : h.DictOf (strKind prog w) a xs ∧ a ∉ F :=
  ⟨d.at fun o e => of_hideAll F e, by obtain ⟨o, _, _, e, _⟩ := d; exact hid_notin e⟩
theorem dict_some {prog : Program} {w : World} {h : Heap} {a : Addr} {xs : List (Str × Value)} (d : h.DictOf (strKind prog w) a xs) : ∃ o, h.get? a = some o := let ⟨o, _, _, e, _⟩ := d; ⟨o, e⟩
theorem fresh_sys {h : Heap} (hM : ∃ o, h.get? mainGlobals = some o) : (h.objs.size == sysModules) = false := by
  obtain ⟨o, e⟩ := hM
  have := Heap.lt_size e
  have h2 : sysModules < mainGlobals := by decide
  exact beq_eq_false_iff_ne.mpr (Nat.ne_of_gt (Nat.lt_trans h2 this))

section
variable {prog : Program} {w : World} {A : Around} {base : Heap} {F : List Addr} {env : Env} {σ : List (Str × Ty)} {n : Nat}
theorem CmpR.inDict {k : Str} {kvs : List (Str × Int)} : CmpR prog w .In (TS k) (Td prog w kvs) (atI kvs k).isSome := .mk fun A F s v₁ v₂ R _ q₁ q₂ Q E h => by
  obtain ⟨t, rfl⟩ := py_str q₁
  obtain ⟨a, xs, rfl, sy, d, i⟩ := q₂
  obtain ⟨d, _⟩ := of_dict_hid d
  refine wpAny_in_of (strKind_is prog w k t) sy d.mapOf ?_
  have : (PySem.valueAt xs k).isSome = (atI kvs k).isSome := by
    rcases i.valueAt k with ⟨m, u, e1, e2⟩ | ⟨e1, e2⟩ <;> rw [e1, e2] <;> rfl
  rw [this]; exact h _ (Kp.tok s _)
theorem SubR.dict {k : Str} {kvs : List (Str × Int)} {m : Int} (hm : atI kvs k = some m) : SubR prog w (Td prog w kvs) (TS k) (TI m) := .mk fun A F s v₁ v₂ R _ q₁ q₂ => by
  obtain ⟨t, rfl⟩ := py_str q₂
  obtain ⟨a, xs, rfl, sy, d, i⟩ := q₁
  obtain ⟨d, _⟩ := of_dict_hid d
  refine ⟨⟨_, _, d.typeIs, slot_dict_getitem.lookup⟩, fun Q E h => ?_⟩
  rcases i.valueAt k with ⟨m', u, e1, e2⟩ | ⟨e1, e2⟩
  · rw [hm] at e2; obtain rfl := Option.some.inj e2
    exact wpAny_getItem_of (strKind_is prog w k t) d.mapOf e1 (h _ _ (Kp.tok s _) (int_py _ _ _))
  · rw [hm] at e2; cases e2

/-- d.items() -/
theorem It.items {elts : List Expr} {k : Nat} {tpos apos pos : Pos} {o : Expr} {kvs : List (Str × Int)} (R : Room n A) (ho : Ev prog w A base F env σ o (Td prog w kvs))
    (hbase : attributeBase o "items" env (eval o env) = eval o env := by rfl) (hline : (apos.endLine == pos.line) = true := by rfl) :
    It prog w A base F env σ (.Tuple elts k tpos) (.Call (.Attribute o "items" apos) [] [] pos) kvs.length (fun i => TT [TS (kvs.getD i (Str.empty, 0)).1, TI (kvs.getD i (Str.empty, 0)).2]) := .mk fun s f Q E h =>
  wpAny_Call_method_late (args := []) hbase rfl hline rfl (ho.go s f _ E fun v s₁ k₁ q₁ => by
    obtain ⟨a, xs, rfl, sy, d, di⟩ := q₁
    obtain ⟨d, naF⟩ := of_dict_hid d
    have f₁ := f.keeps k₁.ext
    refine ⟨"dict", "dict.items", PySem.F.plainAttrs_dict, PySem.F.slot_dict_items, PySem.F.type_dict_items, d.typeIs, d.mapOf.noDict, callTail0 (base := base) (first := [.ref a]) Cal.builtin f₁.base ?_⟩
    refine call_meetsIn PySem.F.slot_dict_items d.typeIs PySem.F.entry_dict_items (PySem.F.args_dict_items_1 _) (meets_dict_items (strKind prog w) a sy) ⟨⟨xs, d⟩, ?_⟩
    have k₂ := Kp.push s₁ { cls := .type "dict_items", data := .fields #[.ref a] }
    have gV : (s₁.heap.push { cls := .type "dict_items", data := .fields #[.ref a] }).IsItemsView s₁.heap.objs.size a := ⟨_, Heap.get?_push_size _ rfl, rfl, rfl⟩
    generalize hs₂ : ({ s₁ with heap := s₁.heap.push { cls := .type "dict_items", data := .fields #[.ref a] } } : Shared) = s₂ at k₂
    have d₂ : s₂.heap.DictOf (strKind prog w) a xs := d.keep k₂.ext
    obtain ⟨ep, da⟩ := d₂.dictAt
    show wpAny _ _ (pyIter (.ref s₁.heap.objs.size)) _ _ _
    refine wpAny_pyIter_items (by subst hs₂; exact gV) da ?_
    have k₃ := Kp.push s₂ { cls := .type "dict_itemiterator", data := .fields #[.none, .bool false, .ref a, .int 0 0, .int xs.length 0, .int ep 0, .none, .none] }
    have gI : (s₂.heap.push { cls := .type "dict_itemiterator", data := .fields #[.none, .bool false, .ref a, .int 0 0, .int xs.length 0, .int ep 0, .none, .none] }).get? s₂.heap.objs.size = some { cls := .type "dict_itemiterator", data := .fields #[.none, .bool false, .ref a, .int 0 0, .int xs.length 0, .int ep 0, .none, .none] } := Heap.get?_push_size _ rfl
    have nI := size_none s₂.heap
    have kk := (k₁.trans k₂).trans k₃
    have st0 : IsItemIter (s₂.heap.push { cls := .type "dict_itemiterator", data := .fields #[.none, .bool false, .ref a, .int 0 0, .int xs.length 0, .int ep 0, .none, .none] }) s₂.heap.objs.size a 0 xs.length ep .none .none := gI
    have ne : a ≠ s₂.heap.objs.size := by obtain ⟨o, e⟩ := dict_some d₂; exact fun z => none_some nI (z ▸ e)
    generalize hI : s₂.heap.objs.size = I at st0 nI ne gI
    have W : Wks prog w A (.Tuple elts k tpos) I [I, a] [I] xs.length (fun i v h h' => ∃ T kx x key, v = .ref T ∧ xs[i]? = some (kx, x) ∧ (strKind prog w).is kx key = true ∧ h.get? T = none ∧ h'.IsTuple T #[key, x])
        (fun i h => (∃ ok ov, IsItemIter h I a i xs.length ep ok ov) ∧ h.DictAt (strKind prog w) a xs ep) := by
      refine ⟨fun b m => by simp at m; simp [m], fun i h h' st hk => ⟨let ⟨ok, ov, e⟩ := st.1; ⟨ok, ov, hk I (by simp) _ e⟩, st.2.at fun o e => hk a (by simp) o e⟩, fun i s Q R' E hR hi st hQ => ?_, fun s Q E st hQ => ?_, fun i s Q E st hQ => ?_⟩
      · obtain ⟨⟨ok, ov, it⟩, dd⟩ := st
        obtain ⟨⟨kx, x⟩, hx⟩ : ∃ p, xs[i]? = some p := ⟨xs[i], by simp [hi]⟩
        refine wpAny_pyNext_items_item it dd hx fun key h' hkey heo ht hz hk => hR _ _ ?_
        refine wpAny_letOwnedTupleGo_items heo fun h₂ he₂ hs₂ => ?_
        have hs₂' : Heap.SameBut I h' h₂ := hs₂
        have nT := size_none s.heap
        have Tne : s.heap.objs.size ≠ I := fun z => by rw [z] at nT; exact none_some nT it
        refine hQ _ h₂ s.toks ⟨_, kx, x, key, rfl, hx, hkey, nT, ⟨_, (hs₂'.2 _ Tne).trans ht, rfl, _, rfl⟩⟩ ⟨⟨_, _, he₂⟩, (dd.at fun o e => (hs₂'.2 _ ne).trans (hk a o ne e))⟩ fun b o m e => (hs₂'.2 b fun z => m (by simp [z])).trans (hk b o (fun z => m (by simp [z])) e)
      · obtain ⟨⟨ok, ov, it⟩, dd⟩ := st
        exact wpAny_pyNext_items_end R.hh it dd (by simp) fun h' he => hQ h' s.toks fun b o m e => he b o (fun z => m (by simp [z])) e
      · obtain ⟨⟨ok, ov, it⟩, dd⟩ := st
        have hT : s.TypeIs (.ref I) "dict_itemiterator" := ⟨_, it, rfl⟩
        refine wpAny_pyIter_slot hT PySem.F.slot_dict_itemiterator_iter (wpAny_call_entry PySem.F.slot_dict_itemiterator_iter hT kcp_entry ?_ (PySem.F.args_dict_itemiterator_iter_1 _))
        exact wpAny_pure ⟨_, rfl, "dict_itemiterator", _, hT, PySem.F.slot_dict_itemiterator_next.lookup, hQ⟩
    have hlen := di.length
    rw [← hlen] at h
    refine h _ _ _ _ _ _ kk W (fun b m => ?_) (fun b m => ?_) ⟨⟨_, _, st0⟩, da.keep fun b o e => k₃.ext b o e⟩ (fun i h st b m => ?_) fun F' i v h₀ h' hi hP ho he => ?_
    · rw [List.mem_singleton.mp m]; exact ⟨none_of (k₁.trans k₂).ext nI, _, gI⟩
    · rcases List.mem_cons.mp m with rfl | m
      · exact ⟨fun m => by obtain ⟨o, e⟩ := (f.keeps (k₁.trans k₂).ext).old _ m; exact none_some nI e, _, gI⟩
      · rw [List.mem_singleton.mp m]
        obtain ⟨o, e⟩ := dict_some d₂
        exact ⟨naF, o, k₃.ext _ _ e⟩
    · rw [List.mem_singleton.mp m]; obtain ⟨⟨_, _, e⟩, _⟩ := st; exact ⟨_, e⟩
    · obtain ⟨T, kx, x, key, rfl, hx, hkey, nT, hT⟩ := hP
      obtain ⟨m, t, rfl, hy⟩ := di.get hx
      obtain ⟨u, rfl⟩ := Value.isStrOf_shape hkey
      have e2 : kvs.getD i (Str.empty, 0) = (kx, m) := by simp [List.getD, hy]
      rw [e2]
      refine ⟨T, [.str kx u, .int m t], rfl, ?_, .cons (str_py _ _ _) (.cons (int_py _ _ _) .nil)⟩
      obtain ⟨o, g, r⟩ := hT
      exact ⟨o, hideAll_get _ g fun mm => by obtain ⟨o', e⟩ := ho T mm; exact none_some nT e, r⟩)
end
end Mine
end

section
open PySem PySem.W PySem.Calls PySem.Spec
set_option linter.unusedVariables false
namespace Mine
section
variable {prog : Program} {w : World} {A : Around} {base : Heap} {F : List Addr} {env : Env} {σ : List (Str × Ty)} {n : Nat}
/-- d.values() -/
theorem It.values {x : Str} {px apos pos : Pos} {o : Expr} {kvs : List (Str × Int)} (R : Room n A) (ho : Ev prog w A base F env σ o (Td prog w kvs))
    (hbase : attributeBase o "values" env (eval o env) = eval o env := by rfl) (hline : (apos.endLine == pos.line) = true := by rfl) :
    It prog w A base F env σ (.Name x px) (.Call (.Attribute o "values" apos) [] [] pos) kvs.length (fun i => TI (kvs.getD i (Str.empty, 0)).2) := .mk fun s f Q E h =>
  wpAny_Call_method_late (args := []) hbase rfl hline rfl (ho.go s f _ E fun v s₁ k₁ q₁ => by
    obtain ⟨a, xs, rfl, sy, d, di⟩ := q₁
    obtain ⟨d, naF⟩ := of_dict_hid d
    have f₁ := f.keeps k₁.ext
    refine ⟨"dict", "dict.values", PySem.F.plainAttrs_dict, PySem.F.slot_dict_values, PySem.F.type_dict_values, d.typeIs, d.mapOf.noDict, callTail0 (base := base) (first := [.ref a]) Cal.builtin f₁.base ?_⟩
    refine call_meetsIn PySem.F.slot_dict_values d.typeIs PySem.F.entry_dict_values (PySem.F.args_dict_values_1 _) (meets_dict_values (strKind prog w) a sy) ⟨⟨xs, d⟩, ?_⟩
    have k₂ := Kp.push s₁ { cls := .type "dict_values", data := .fields #[.ref a] }
    have gV : (s₁.heap.push { cls := .type "dict_values", data := .fields #[.ref a] }).IsValuesView s₁.heap.objs.size a := ⟨_, Heap.get?_push_size _ rfl, rfl, rfl⟩
    generalize hs₂ : ({ s₁ with heap := s₁.heap.push { cls := .type "dict_values", data := .fields #[.ref a] } } : Shared) = s₂ at k₂
    have d₂ : s₂.heap.DictOf (strKind prog w) a xs := d.keep k₂.ext
    obtain ⟨ep, da⟩ := d₂.dictAt
    show wpAny _ _ (pyIter (.ref s₁.heap.objs.size)) _ _ _
    refine wpAny_pyIter_values (by subst hs₂; exact gV) da ?_
    have k₃ := Kp.push s₂ { cls := .type "dict_valueiterator", data := .fields #[.ref a, .int 0 0, .int xs.length 0, .int ep 0] }
    have gI : (s₂.heap.push { cls := .type "dict_valueiterator", data := .fields #[.ref a, .int 0 0, .int xs.length 0, .int ep 0] }).get? s₂.heap.objs.size = some { cls := .type "dict_valueiterator", data := .fields #[.ref a, .int 0 0, .int xs.length 0, .int ep 0] } := Heap.get?_push_size _ rfl
    have nI := size_none s₂.heap
    have kk := (k₁.trans k₂).trans k₃
    have ne : a ≠ s₂.heap.objs.size := by obtain ⟨o, e⟩ := dict_some d₂; exact fun z => none_some nI (z ▸ e)
    generalize hI : s₂.heap.objs.size = I at nI ne gI
    have W := Walks.dictValues (knd := strKind prog w) (prog := prog) (w := w) R.hh I a ne xs ep
    have hlen := di.length
    rw [← hlen] at h
    refine h _ _ _ _ _ _ kk (Wks.of W) (fun b m => ?_) (fun b m => ?_) ⟨⟨_, gI, rfl, rfl⟩, da.keep fun b o e => k₃.ext b o e⟩ (fun i h st b m => ?_) fun F' i v h₀ h' hi hP ho he => ?_
    · rw [List.mem_singleton.mp m]; exact ⟨none_of (k₁.trans k₂).ext nI, _, gI⟩
    · rcases List.mem_cons.mp m with rfl | m
      · exact ⟨fun m => by obtain ⟨o, e⟩ := (f.keeps (k₁.trans k₂).ext).old _ m; exact none_some nI e, _, gI⟩
      · rw [List.mem_singleton.mp m]
        obtain ⟨o, e⟩ := dict_some d₂
        exact ⟨naF, o, k₃.ext _ _ e⟩
    · rw [List.mem_singleton.mp m]; obtain ⟨o, e, _⟩ := st.1; exact ⟨o, e⟩
    · obtain ⟨kx, hx⟩ := hP
      obtain ⟨m, t, rfl, hy⟩ := di.get hx
      have e2 : kvs.getD i (Str.empty, 0) = (kx, m) := by simp [List.getD, hy]
      rw [e2]; exact int_py _ _ _)
theorem Ev.newD {pos : Pos} (hM : ∃ o, base.get? mainGlobals = some o) : Ev prog w A base F env σ (.Dict [] [] pos) (Td prog w []) := .mk fun s f Q E q => by
  refine wpAny_Dict_empty (q _ _ (Kp.push s _) ⟨_, [], rfl, fresh_sys (let ⟨o, e⟩ := hM; ⟨o, f.base _ _ e⟩), dict_hid (Heap.DictOf.new s.heap) (size_out f.old), .nil⟩)
end
section
variable {prog : Program} {w : World} {A : Around} {base : Heap} {W : List Addr} {V : List Addr} {F : List Addr} {env : Env} {σ : List (Str × Ty)} {rest : List Stmt} {R : Flow → Heap → Prop}
/-- x = {} : a dict that may turn -/
theorem Bx.newDict {x : Str} {p' pos' pos : Pos} (hM : ∃ o, base.get? mainGlobals = some o) (hk : env.kindOf x = some .local)
    (hr : ∀ a hb, (∀ b ∈ a :: F, hb.get? b = none) → Ap base (Gd.of (a :: V)) env a → Bx prog w A base W (Gd.of (a :: V)) F env ((x, Md' prog w a []) :: frost hb (drop x σ)) rest R)
    (hs : swapsWith (.Dict [] [] pos') (some (.Name x p')) pos.line env = pure false := by rfl) : Bx prog w A base W (Gd.of V) F env σ (.Assign [.Name x p'] (.Dict [] [] pos') pos :: rest) R := .mk fun hV s S Q E k => by
  refine wpAny_execs_cons (wpAny_Assign_Name (wpAny_Dict_empty ?_) hs)
  have kp := Kp.push s { cls := .type "dict", data := .dict #[] }
  have S₁ := S.frost kp.ext
  have nF := size_out S.fm.old
  refine S₁.store (x := x) (v := .ref s.heap.objs.size) (T := Md' prog w s.heap.objs.size []) ⟨rfl, fresh_sys (let ⟨o, e⟩ := hM; ⟨o, S.fm.base _ _ e⟩), [], dict_hid (Heap.DictOf.new s.heap) nF, .nil⟩ (.inl hk) _ E fun s₂ k₂ S₂ => ?_
  rw [drop_frost] at S₂
  refine (hr s.heap.objs.size (hid F s.heap) ?_ ⟨none_of S.fm.base (size_none _), Ap.list (.head _), fun z => ?_, fun y c e z => ?_⟩).go ⟨fun _ _ z => (show KF V _ _ from hV.go _ _ z).le fun b m => .tail _ m⟩ s₂ S₂ Q E fun fl s₃ k₃ r => k fl s₃ ?_ r
  · intro b m
    rcases List.mem_cons.mp m with rfl | m
    · cases q : (hid F s.heap).get? s.heap.objs.size with
      | none => rfl
      | some o => exact (none_some (size_none _) (of_hideAll F q)).elim
    · exact hideAll_none F m
  · obtain ⟨_, _, _, _, g, _⟩ := S.ns
    exact none_some (size_none _) (z ▸ g)
  · obtain ⟨_, _, g, _⟩ := S.cel y c e
    exact none_some (size_none _) (z ▸ g)
  · obtain ⟨h', t, e', kk⟩ := (KF.of (W := s.heap.objs.size :: V) kp).trans (((show KF V _ _ from hV.go _ _ k₂).le fun b m => .tail _ m).trans k₃)
    refine ⟨h', t, e', fun b o e => ?_⟩
    obtain ⟨o', g, nn⟩ := kk b o e
    exact ⟨o', g, fun m => nn fun m' => (List.mem_cons.mp m').elim (fun z => none_some (size_none _) (z ▸ e)) m⟩
theorem exist_md {x : Str} {a : Addr} {kvs : List (Str × Int)} (m : (x, Md' prog w a kvs) ∈ σ) : ∀ h, Sd base W F env σ h → ∀ b ∈ a :: W, ∃ o, h.get? b = some o := fun h S b mb => by
  rcases List.mem_cons.mp mb with rfl | mb
  · obtain ⟨v, ⟨e, sy, xs, d, i⟩, _⟩ := S.fm.var _ m
    exact dict_some (of_dict_hid d).1
  · exact S.fm.old b (S.sub b mb)
end
section
variable {prog : Program} {w : World} {A : Around} {base : Heap} {W : List Addr} {V : Gd} {F : List Addr} {env : Env} {σ : List (Str × Ty)} {rest : List Stmt} {R : Flow → Heap → Prop}
/-- behind a store into the dict at a -/
theorem Sd.stored {x : Str} {a : Addr} {kvs ks' : List (Str × Int)} {σ' : List (Str × Ty)} {h h' : Heap} {xs' : List (Str × Value)} (S : Sd base W F env σ h) (hm : (x, Md' prog w a kvs) ∈ σ) (P : Ap base V env a) (hσ : ∀ p ∈ σ', p ∈ σ ∧ Frz [a] p.2)
    (hs : Heap.SameBut a h h') (d : h'.DictOf (strKind prog w) a xs') (i : DI xs' ks') : Sd base W F env ((x, Md' prog w a ks') :: drop x σ') h' := by
  obtain ⟨v, ⟨e, sy, xs, d0, i0⟩, l⟩ := S.fm.var _ hm
  have nF := (of_dict_hid d0).2
  obtain ⟨o', g⟩ := dict_some d
  have S₃ := (S.turn P nF hs g hσ).less (τ := drop x σ') fun p m => (of_drop m).1
  refine ⟨⟨S₃.fm.kind, S₃.fm.base, S₃.fm.old, fun p m => ?_⟩, S₃.ns, S₃.cel, S₃.inL, S₃.nb, S₃.sub, S₃.apart, S₃.nl⟩
  rcases List.mem_cons.mp m with rfl | m
  · exact ⟨v, ⟨e, sy, xs', dict_hid d nF, i⟩, P.loc (fun b o n e => (hs.2 b n).trans e) l⟩
  · exact S₃.fm.var p m
/-- d[k] = e -/
theorem Bx.setD {x i : Str} {px pi pos' pos : Pos} {e : Expr} {a : Addr} {kvs : List (Str × Int)} {key : Str} {v : Int} {σ' : List (Str × Ty)} (hm : (x, Md' prog w a kvs) ∈ σ) (hi : (i, TS key) ∈ σ) (he : Ev prog w A base F env σ e (TI v)) (P : Ap base V env a)
    (hσ : ∀ p ∈ σ', p ∈ σ ∧ Frz [a] p.2) (hr : Bx prog w A base W V F env ((x, Md' prog w a (putI kvs key v)) :: drop x σ') rest R) (hz : kvs.length ≤ 1000)
    (hs : swapsWith e (some (.Subscript (.Name x px) (.Name i pi) pos')) pos.line env = pure false := by rfl) (hd : (x == ("__debug__" : Str)) = false := by decide +kernel) (hn : (x == ("__classdict__" : Str)) = false := by decide +kernel)
    (hd' : (i == ("__debug__" : Str)) = false := by decide +kernel) (hn' : (i == ("__classdict__" : Str)) = false := by decide +kernel) :
    Bx prog w A base W V F env σ (.Assign [.Subscript (.Name x px) (.Name i pi) pos'] e pos :: rest) R := .mk fun hV s S Q E kk => by
  refine wpAny_execs_cons (wpAny_Assign_Subscript (he.go s S.fm _ E fun vv s₁ k₁ q₁ => ?_) hs)
  refine (Ev.name (pos := px) hm hd hn : Ev prog w A base F env σ (.Name x px) (Md' prog w a kvs)).go s₁ (S.fm.keeps k₁.ext) _ E fun ov s₂ k₂ q₂ => ?_
  refine (Ev.name (pos := pi) hi hd' hn' : Ev prog w A base F env σ (.Name i pi) (TS key)).go s₂ (S.fm.keeps (k₁.trans k₂).ext) _ E fun iv s₃ k₃ q₃ => ?_
  obtain ⟨rfl, sy, xs, d, di⟩ := q₂
  obtain ⟨t, rfl⟩ := py_str q₃
  obtain ⟨tv, rfl⟩ := py_int q₁
  have S₃ := S.keeps ((k₁.trans k₂).trans k₃).ext
  have d₃ := (of_dict_hid d).1.keep k₃.ext
  have el := di.length
  refine wpAny_setItem_pairs (strKind_is prog w key t) d₃ (fun h₄ d₄ hs₄ => ?_) (by rw [sizeLine_eq]; omega)
  obtain ⟨o', g⟩ := dict_some d₄
  exact hr.go hV { s₃ with heap := h₄, toks := s₃.toks + 1 } (S₃.stored hm P hσ hs₄ d₄ di.put) Q E fun fl s₅ k₅ r => kk fl s₅ ((hV.kp ((k₁.trans k₂).trans k₃)).trans ((P.inV s₃ h₄ _ _ hs₄ g).trans k₅)) r
/-- d[k] += e -/
theorem Bx.augD {x i : Str} {px pi pos' pos : Pos} {e : Expr} {a : Addr} {kvs : List (Str × Int)} {key : Str} {old v : Int} {σ' : List (Str × Ty)} (R1 : Room 1 A) (hm : (x, Md' prog w a kvs) ∈ σ) (hi : (i, TS key) ∈ σ) (ho : atI kvs key = some old) (he : Ev prog w A base F env σ e (TI v)) (P : Ap base V env a)
    (hσ : ∀ p ∈ σ', p ∈ σ ∧ Frz [a] p.2) (hr : Bx prog w A base W V F env ((x, Md' prog w a (putI kvs key (old + v))) :: drop x σ') rest R) (hz : kvs.length ≤ 1000)
    (hd : (x == ("__debug__" : Str)) = false := by decide +kernel) (hn : (x == ("__classdict__" : Str)) = false := by decide +kernel)
    (hd' : (i == ("__debug__" : Str)) = false := by decide +kernel) (hn' : (i == ("__classdict__" : Str)) = false := by decide +kernel) :
    Bx prog w A base W V F env σ (.AugAssign (.Subscript (.Name x px) (.Name i pi) pos') .Add e pos :: rest) R := .mk fun hV s S Q E kk => by
  refine wpAny_execs_cons (wpAny_AugAssign_Subscript ?_)
  refine (Ev.name (pos := px) hm hd hn : Ev prog w A base F env σ (.Name x px) (Md' prog w a kvs)).go s S.fm _ E fun ov s₁ k₁ q₁ => ?_
  refine (Ev.name (pos := pi) hi hd' hn' : Ev prog w A base F env σ (.Name i pi) (TS key)).go s₁ (S.fm.keeps k₁.ext) _ E fun iv s₂ k₂ q₂ => ?_
  have f₂ := S.fm.keeps (k₁.trans k₂).ext
  obtain ⟨⟨_, _, _, _⟩, g⟩ := (SubR.dict (prog := prog) (w := w) ho).go A F s₂ ov iv R1 f₂.old (Md'.le _ _ ((Md' prog w a kvs).mono _ _ _ (hid_ext fun b o _ e => k₂.ext b o e) q₁)) q₂
  refine g _ E fun old' s₃ k₃ q₃ => he.go s₃ (S.fm.keeps ((k₁.trans k₂).trans k₃).ext) _ E fun vv s₄ k₄ q₄ => ?_
  obtain ⟨t0, rfl⟩ := py_int q₃
  obtain ⟨t4, rfl⟩ := py_int q₄
  obtain ⟨rfl, sy, xs, d, di⟩ := q₁
  obtain ⟨t, rfl⟩ := py_str q₂
  have k24 := (k₂.trans k₃).trans k₄
  have S₄ := S.keeps (k₁.trans k24).ext
  refine PyProof.Rows.iadd_int ?_
  have d₄ := (of_dict_hid d).1.keep k24.ext
  have el := di.length
  refine wpAny_setItem_pairs (s := { s₄ with toks := s₄.toks + 1 }) (strKind_is prog w key t) d₄ (fun h₅ d₅ hs₅ => ?_) (by rw [sizeLine_eq]; omega)
  obtain ⟨o', g⟩ := dict_some d₅
  exact hr.go hV { s₄ with heap := h₅, toks := s₄.toks + 1 + 1 } (S₄.stored hm P hσ hs₅ d₅ di.put) Q E fun fl s₆ k₆ r => kk fl s₆ ((hV.kp (k₁.trans k24)).trans ((P.inV s₄ h₅ _ _ hs₅ g).trans k₆)) r
end
end Mine
end

section
open PySem PySem.W PySem.Calls PySem.Spec
set_option linter.unusedVariables false
namespace Mine
local macro_rules | `(tactic| walk_at "mem") => `(tactic| first | with_reducible exact List.mem_cons_self | (with_reducible refine List.mem_cons_of_mem _ ?_; walk_at "mem") | (with_reducible refine mem_drop ?_ (by decide +kernel); walk_at "mem") | (with_reducible refine mem_frost ?_; walk_at "mem"))
local macro_rules | `(tactic| walk_at "sub") => `(tactic| first | with_reducible exact sub_nil | (with_reducible refine sub_cons (by walk_at "mem") ?_; walk_at "sub"))
/-- a thing itself -/
noncomputable def Tval (v : Value) : Ty := ⟨fun u _ => u = v, fun _ _ _ _ h => h⟩
section
variable {prog : Program} {w : World} {A : Around} {base : Heap} {F : List Addr} {env : Env} {σ : List (Str × Ty)} {n : Nat}
theorem Ev.glob {x : Str} {pos : Pos} {f : Value} (hg : Gn base x f) (hx : env.kindOf x = some .globalImplicit) (h1 : env.globals = mainGlobals) (h2 : env.builtins = builtinsNs) (hd : (x == ("__debug__" : Str)) = false := by decide +kernel) :
    Ev prog w A base F env σ (.Name x pos) (Tval f) := .mk fun s f Q E h => Ev.gname hg hx h1 h2 f (h _ _ (Kp.refl s) rfl) hd
theorem sub_int_tuple : isSubtype (.type "int") (.type "tuple") = pure false := by rw [isSubtype_type]; kernel_rfl
theorem type_tuple_t : typeOf (.type "tuple") = pure (.type "type") := by first | rfl | kernel_rfl
theorem Fn.isTup {i : Int} : Fn prog w n base (.builtin "isinstance") [TI i, Tval (.type "tuple")] (TB false) := .mk fun A F s vs R hb hF ha Q E h => by
  cases ha with
  | cons q r => cases r with
    | cons q' r =>
      cases r
      obtain ⟨t, rfl⟩ := py_int q
      have := q'; subst this
      exact call_isinstance (isinstance_false_int (by decide) type_tuple_t sub_int_tuple) (h _ _ (Kp.tok s _) (bool_py _ _))
end
noncomputable abbrev kvAt (t : List (Str × Int)) (i : Nat) : Str × Int := t.getD i (Str.empty, 0)
noncomputable def accT (t : List (Str × Int)) : Nat → List (Str × Int)
  | 0 => []
  | i + 1 => putI (accT t i) (kvAt t i).1 (kvAt t i).2
noncomputable def bumpI (kvs : List (Str × Int)) (k : Str) (v : Int) : List (Str × Int) := match atI kvs k with
  | some old => putI kvs k (old + v)
  | none => putI kvs k v
noncomputable def accS (t s : List (Str × Int)) : Nat → List (Str × Int)
  | 0 => accT t t.length
  | i + 1 => bumpI (accS t s i) (kvAt s i).1 (kvAt s i).2
noncomputable abbrev addC (t s : List (Str × Int)) : List (Str × Int) := accS t s s.length
theorem putI_len (kvs : List (Str × Int)) (k : Str) (v : Int) : (putI kvs k v).length ≤ kvs.length + 1 := by unfold putI; split <;> simp
theorem accT_len (t : List (Str × Int)) : ∀ i, (accT t i).length ≤ i
  | 0 => Nat.le_refl _
  | i + 1 => Nat.le_trans (putI_len _ _ _) (Nat.succ_le_succ (accT_len t i))
theorem bumpI_len (kvs : List (Str × Int)) (k : Str) (v : Int) : (bumpI kvs k v).length ≤ kvs.length + 1 := by unfold bumpI; split <;> exact putI_len _ _ _
theorem accS_len (t s : List (Str × Int)) : ∀ i, (accS t s i).length ≤ t.length + i
  | 0 => accT_len t _
  | i + 1 => Nat.le_trans (bumpI_len _ _ _) (Nat.succ_le_succ (accS_len t s i))
noncomputable def countC (t : List (Str × Int)) : Nat → Int
  | 0 => 0
  | i + 1 => countC t i + (kvAt t i).2

section
variable {prog : Program} {w : World} {A : Around} {base : Heap} {F : List Addr} {z : Fv} {L a : Addr} {t s : List (Str × Int)} {n : Nat}
set_option maxRecDepth 100000 in
theorem addC_body (R : Room 3 A) (hM : ∃ o, base.get? mainGlobals = some o) (ht : t.length ≤ 100) (hs : s.length ≤ 100) (hi : Gn base "isinstance" (.builtin "isinstance")) (hu : Gn base "tuple" (.type "tuple")) :
    Bx prog w A base (ftAt (stmtAt 10) z L) (Gd.of (ftAt (stmtAt 10) z L)) (ftAt (stmtAt 10) z L ++ F) (envAt (stmtAt 10) z L a) [("target", Td prog w t), ("source", Td prog w s)] (bodyOf (stmtAt 10)) (Ret (Td prog w (addC t s)) (ftAt (stmtAt 10) z L ++ F)) := by
  have R1 : Room 1 A := R.le (by decide)
  refine Bx.newDict hM rfl fun aa hb hbn P => ?_
  have hbX : ∀ b ∈ aa :: ftAt (stmtAt 10) z L, hb.get? b = none := fun b m => hbn b ((List.mem_cons.mp m).elim (fun e => e ▸ .head _) fun m => .tail _ (List.mem_append_left _ m))
  have hb1 : ∀ b ∈ [aa], hb.get? b = none := fun b m => hbn b (by rw [List.mem_singleton.mp m]; exact .head _)
  refine Bx.loop (n := t.length) (τ := fun i => TT [TS (kvAt t i).1, TI (kvAt t i).2]) (σ₀ := [("target", At hb (Td prog w t))]) (fun j => [("new_callers", Md' prog w aa (accT t j)), ("source", At hb (Td prog w s))])
    (fun j => [("func", TS (kvAt t j).1), ("caller", TI (kvAt t j).2), ("new_callers", Md' prog w aa (accT t j)), ("source", At hb (Td prog w s))])
    (It.items R (Ev.ref At.le Ev.name)) (frz_cons (by walk_at "mem") (At.frz hbX) frz_nil) (exist_md (by walk_at "mem")) ?_
    (fun j hj wr => (As.tup R.hh (AsL.cons (As.name (.inl rfl)) (AsL.cons (As.name (.inl rfl)) AsL.nil))).less (fun p m => m) (by walk_at "sub")) (fun j hj wr => ?_) ?_
  · show ∀ p ∈ [(("new_callers" : Str), Md' prog w aa []), ("source", At hb (Td prog w s))], p ∈ _
    walk_at "sub"
  · have := accT_len t j
    exact Bx.setD (by walk_at "mem") (by walk_at "mem") Ev.name P (σ' := [("source", At hb (Td prog w s))]) (frz_cons (by walk_at "mem") (At.frz hb1) frz_nil) (Bx.nil fun h' S => show Sd _ _ _ _ [("new_callers", Md' prog w aa (putI (accT t j) (kvAt t j).1 (kvAt t j).2)), ("source", At hb (Td prog w s))] h' from S.less (by walk_at "sub")) (by omega)
  refine Bx.loop (n := s.length) (τ := fun i => TT [TS (kvAt s i).1, TI (kvAt s i).2]) (σ₀ := [("source", At hb (Td prog w s))]) (fun j => [("new_callers", Md' prog w aa (accS t s j))])
    (fun j => [("func", TS (kvAt s j).1), ("caller", TI (kvAt s j).2), ("new_callers", Md' prog w aa (accS t s j))])
    (It.items R (Ev.ref At.le Ev.name)) (frz_cons (by walk_at "mem") (At.frz hbX) frz_nil) (exist_md (by walk_at "mem")) ?_
    (fun j hj wr => (As.tup R.hh (AsL.cons (As.name (.inl rfl)) (AsL.cons (As.name (.inl rfl)) AsL.nil))).less (fun p m => m) (by walk_at "sub")) (fun j hj wr => ?_) (Bx.retR (Ev.ref Md'.le Ev.name))
  · show ∀ p ∈ [(("new_callers" : Str), Md' prog w aa (accT t t.length))], p ∈ _
    walk_at "sub"
  · have hl := accS_len t s j
    have e : accS t s (j + 1) = bumpI (accS t s j) (kvAt s j).1 (kvAt s j).2 := rfl
    refine Bx.ite (Tr.cmp R1 Ev.name (Ev.ref Md'.le Ev.name) CmpR.inDict) (fun c => ?_) fun c => ?_
    · obtain ⟨old, ho⟩ := Option.isSome_iff_exists.mp c
      have e2 : accS t s (j + 1) = putI (accS t s j) (kvAt s j).1 (old + (kvAt s j).2) := by rw [e]; unfold bumpI; rw [ho]
      refine Bx.ite (b := false) (Tr.bool (Ev.call R Fn.isTup hi Cal.builtin (Evs.cons Ev.name (Evs.cons (Ev.glob hu rfl rfl rfl) Evs.nil)) rfl rfl rfl)) (fun c => by cases c) fun _ => ?_
      refine Bx.augD R1 (by walk_at "mem") (by walk_at "mem") ho Ev.name P (σ' := []) frz_nil (Bx.done (Bx.done (Bx.nil fun h' S => ?_))) (by omega)
      show Sd _ _ _ _ _ _
      rw [e2]; exact S.less (by walk_at "sub")
    · have e2 : accS t s (j + 1) = putI (accS t s j) (kvAt s j).1 (kvAt s j).2 := by
        rw [e]; unfold bumpI
        cases h : atI (accS t s j) (kvAt s j).1 with
        | none => rfl
        | some o => rw [h] at c; cases c
      refine Bx.setD (by walk_at "mem") (by walk_at "mem") Ev.name P (σ' := []) frz_nil (Bx.done (Bx.nil fun h' S => ?_)) (by omega)
      show Sd _ _ _ _ _ _
      rw [e2]; exact S.less (by walk_at "sub")
set_option maxRecDepth 100000 in
theorem addC_fn (g : Has base (stmtAt 10) a) (nl : base.NoLimit) (hM : ∃ o, base.get? mainGlobals = some o) (ht : t.length ≤ 100) (hs : s.length ≤ 100) (hi : Gn base "isinstance" (.builtin "isinstance")) (hu : Gn base "tuple" (.type "tuple")) :
    Fn prog w 4 base (.ref a) [Td prog w t, Td prog w s] (Td prog w (addC t s)) := by
  refine Fn.at g nl ["target", "source"] (fun z A F L R => addC_body R hM ht hs hi hu) (fun z vs h => ?_) rfl (by decide +kernel)
  match vs, h with
  | [v, u], _ => rfl
set_option maxRecDepth 100000 in
theorem count_body (R : Room 3 A) : Bx prog w A base (ftAt (stmtAt 11) z L) (Gd.of (ftAt (stmtAt 11) z L)) (ftAt (stmtAt 11) z L ++ F) (envAt (stmtAt 11) z L a) [("callers", Td prog w t)] (bodyOf (stmtAt 11)) (Ret (TI (countC t t.length)) (ftAt (stmtAt 11) z L ++ F)) := by
  have R1 : Room 1 A := R.le (by decide)
  refine Bx.assign Ev.cons_int (.inl rfl) (Bx.for (n := t.length) (τ := fun i => TI (kvAt t i).2) (fun j => [("nc", TI (countC t j))]) (It.values R Ev.name) ?_ rfl (fun j hj wr => ?_) (Bx.retR Ev.name))
  · show ∀ p ∈ [(("nc" : Str), TI 0)], p ∈ _
    walk_at "sub"
  · refine Bx.aug (T₁ := TI (countC t j)) (T₂ := TI (kvAt t j).2) (T := TI (countC t (j + 1))) R1 (by walk_at "mem") Ev.name (fun A F s v₁ v₂ R _ q₁ q₂ Q E h => ?_) (.inl rfl) (Bx.nil fun h' S => S.less (by walk_at "sub"))
    obtain ⟨t1, rfl⟩ := py_int q₁
    obtain ⟨t2, rfl⟩ := py_int q₂
    exact PyProof.Rows.iadd_int (h _ _ (Kp.tok s _) (int_py _ _ _))
set_option maxRecDepth 100000 in
theorem count_fn (g : Has base (stmtAt 11) a) (nl : base.NoLimit) : Fn prog w 4 base (.ref a) [Td prog w t] (TI (countC t t.length)) := by
  refine Fn.at g nl ["callers"] (fun z A F L R => count_body R) (fun z vs h => ?_) rfl (by decide +kernel)
  match vs, h with
  | [v], _ => rfl

/-- an entry of the profile -/
noncomputable abbrev Te (prog : Program) (w : World) (a b c d : Int) (t : List (Str × Int)) : Ty := TT [TI a, TI b, TI c, TI d, Td prog w t]
set_option maxRecDepth 100000 in
theorem stats_body {a1 b1 c1 d1 a2 b2 c2 d2 : Int} {aC : Addr} (R : Room 6 A) (gc : Gf base (stmtAt 10) "add_callers" aC) (nl : base.NoLimit) (hM : ∃ o, base.get? mainGlobals = some o) (ht : t.length ≤ 100) (hs : s.length ≤ 100) (hi : Gn base "isinstance" (.builtin "isinstance")) (hu : Gn base "tuple" (.type "tuple")) :
    Bx prog w A base (ftAt (stmtAt 9) z L) (Gd.of (ftAt (stmtAt 9) z L)) (ftAt (stmtAt 9) z L ++ F) (envAt (stmtAt 9) z L a) [("target", Te prog w a1 b1 c1 d1 t), ("source", Te prog w a2 b2 c2 d2 s)] (bodyOf (stmtAt 9))
      (Ret (Te prog w (a2 + a1) (b2 + b1) (c2 + c1) (d2 + d1) (addC t s)) (ftAt (stmtAt 9) z L ++ F)) := by
  have R1 : Room 1 A := R.le (by decide)
  refine Bx.assignTup Ev.name (As.tup R.hh (AsL.cons (As.name (.inl rfl)) (AsL.cons (As.name (.inl rfl)) (AsL.cons (As.name (.inl rfl)) (AsL.cons (As.name (.inl rfl)) (AsL.cons (As.name (.inl rfl)) AsL.nil)))))) ?_
  refine Bx.assignTup Ev.name (As.tup R.hh (AsL.cons (As.name (.inl rfl)) (AsL.cons (As.name (.inl rfl)) (AsL.cons (As.name (.inl rfl)) (AsL.cons (As.name (.inl rfl)) (AsL.cons (As.name (.inl rfl)) AsL.nil)))))) ?_
  exact Bx.retR (Ev.tuple (Evs.cons (Ev.bin R1 Ev.name Ev.name BinR.add) (Evs.cons (Ev.bin R1 Ev.name Ev.name BinR.add) (Evs.cons (Ev.bin R1 Ev.name Ev.name BinR.add) (Evs.cons (Ev.bin R1 Ev.name Ev.name BinR.add)
    (Evs.cons (Ev.call R ((addC_fn gc.has nl hM ht hs hi hu).le (by decide)) gc.gn gc.has.cal (Evs.cons Ev.name (Evs.cons Ev.name Evs.nil)) rfl rfl rfl) Evs.nil))))))
set_option maxRecDepth 100000 in
theorem stats_fn {a1 b1 c1 d1 a2 b2 c2 d2 : Int} {aC : Addr} (g : Has base (stmtAt 9) a) (gc : Gf base (stmtAt 10) "add_callers" aC) (nl : base.NoLimit) (hM : ∃ o, base.get? mainGlobals = some o) (ht : t.length ≤ 100) (hs : s.length ≤ 100) (hi : Gn base "isinstance" (.builtin "isinstance")) (hu : Gn base "tuple" (.type "tuple")) :
    Fn prog w 7 base (.ref a) [Te prog w a1 b1 c1 d1 t, Te prog w a2 b2 c2 d2 s] (Te prog w (a2 + a1) (b2 + b1) (c2 + c1) (d2 + d1) (addC t s)) := by
  refine Fn.at g nl ["target", "source"] (fun z A F L R => stats_body R gc nl hM ht hs hi hu) (fun z vs h => ?_) rfl (by decide +kernel)
  match vs, h with
  | [v, u], _ => rfl
end
end Mine
end

section
open PySem PySem.W PySem.Calls PySem.Spec PyProof.Rows
set_option linter.unusedVariables false
set_option maxRecDepth 100000
namespace Mine

/-- the outer frames' names lie in things that are no records -/
noncomputable def Nf (fs : List Addr) (h : Heap) : Prop := ∀ b ∈ fs, ∃ o, h.get? b = some o ∧ ∀ vs, o.data ≠ .fields vs
/-- the frames that stand -/
noncomputable def Lf (fs : List Addr) (l : List Env) : Prop := ∀ env ∈ l, env.scope.kind ≠ .module ∧ ∃ L, env.frame = some L ∧ L ∈ fs
/-- all things keep all but slots, and those outside fs keep these too -/
noncomputable def Tn (fs : List Addr) (h h' : Heap) : Prop := ∀ b o, h.get? b = some o → ∃ sl, h'.get? b = some { o with slots := sl } ∧ (b ∉ fs → sl = o.slots)
theorem Tn.of {fs : List Addr} {h h' : Heap} (k : Ext h h') : Tn fs h h' := fun b o e => ⟨o.slots, k b o e, fun _ => rfl⟩
theorem Tn.trans {fs : List Addr} {a b c : Heap} (x : Tn fs a b) (y : Tn fs b c) : Tn fs a c := fun d o e => by
  obtain ⟨s1, e1, n1⟩ := x d o e
  obtain ⟨s2, e2, n2⟩ := y d _ e1
  exact ⟨s2, e2, fun m => (n2 m).trans (n1 m)⟩
theorem Tn.le {fs gs : List Addr} {a b : Heap} (x : Tn fs a b) (k : ∀ b ∈ fs, b ∈ gs) : Tn gs a b := fun d o e => by
  obtain ⟨s1, e1, n1⟩ := x d o e
  exact ⟨s1, e1, fun m => n1 fun z => m (k d z)⟩
theorem Tn.not {fs : List Addr} {h h' : Heap} (x : Tn fs h h') {b : Addr} {o : Obj} (e : h.get? b = some o) (m : b ∉ fs) : h'.get? b = some o := by
  obtain ⟨sl, e', n⟩ := x b o e
  rw [n m] at e'; exact e'
theorem Tn.nf {fs gs : List Addr} {h h' : Heap} (x : Tn fs h h') (n : Nf gs h) : Nf gs h' := fun b m => by
  obtain ⟨o, e, d⟩ := n b m
  obtain ⟨sl, e', _⟩ := x b o e
  exact ⟨_, e', d⟩
theorem Tn.ns {fs : List Addr} {h h' : Heap} (x : Tn fs h h') {a : Addr} {m : Str → Option Value} (hn : h.Ns a m) : h'.Ns a m := by
  obtain ⟨o, es, ep, ho, hd, r⟩ := hn
  obtain ⟨sl, hs, _⟩ := x a o ho
  exact ⟨_, es, ep, hs, hd, r⟩
theorem Tn.cell {fs : List Addr} {h h' : Heap} (x : Tn fs h h') {c : Addr} {v : Option Value} (hn : h.IsCell c v) : h'.IsCell c v := by
  obtain ⟨o, ho, hd⟩ := hn
  obtain ⟨sl, hs, _⟩ := x c o ho
  exact ⟨_, hs, hd⟩
theorem Sd.tn {base : Heap} {W F fs : List Addr} {env : Env} {σ : List (Str × Ty)} {h h' : Heap} (S : Sd base W F env σ h) (x : Tn fs h h') (hF : ∀ b ∈ fs, b ∈ F ∧ base.get? b = none) : Sd base W F env σ h' := by
  refine ⟨⟨S.fm.kind, fun b o e => x.not (S.fm.base b o e) fun m => (by rw [(hF b m).2] at e; cases e), fun b m => ?_, fun p mp => ?_⟩, ?_, fun y c e => ?_, S.inL, S.nb, S.sub, S.apart, S.nl⟩
  · obtain ⟨o, e⟩ := S.fm.old b m
    obtain ⟨sl, e', _⟩ := x b o e
    exact ⟨_, e'⟩
  · obtain ⟨v, q, l⟩ := S.fm.var p mp
    refine ⟨v, p.2.mono _ _ _ (hid_ext fun b o nm e => x.not e fun m => nm (hF b m).1) q, ?_⟩
    rcases l with ⟨e, m', n, z⟩ | ⟨e, c, lk, z⟩
    · exact .inl ⟨e, m', x.ns n, z⟩
    · exact .inr ⟨e, c, lk, x.cell z⟩
  · obtain ⟨m, n⟩ := S.ns
    exact ⟨m, x.ns n⟩
  · obtain ⟨v, z⟩ := S.cel y c e
    exact ⟨v, x.cell z⟩
/-- what is kept where outer frames' slots may turn -/
noncomputable def Sl (fs : List Addr) (h h' : Heap) : Prop := ∀ b ∈ fs, ∀ o, h.get? b = some o → ∃ sl, h'.get? b = some { o with slots := sl }
noncomputable def Gu (V fs : List Addr) : Gd := ⟨fun s s' => KF V s s' ∧ Sl fs s.heap s'.heap, fun a b c x y => ⟨x.1.trans y.1, fun d m o e => by
  obtain ⟨s1, e1⟩ := x.2 d m o e
  obtain ⟨s2, e2⟩ := y.2 d m _ e1
  exact ⟨s2, e2⟩⟩⟩
theorem Sub.gu {W V fs : List Addr} (h1 : ∀ b ∈ W, b ∈ V) (h2 : ∀ b ∈ W, b ∉ fs) : Sub W (Gu V fs) := ⟨fun s s' k => ⟨k.le h1, fun b m o e => ⟨o.slots, k.not e fun z => h2 b z m⟩⟩⟩
theorem Nf.kf {W fs : List Addr} {s s' : Shared} (n : Nf fs s.heap) (k : KF W s s') (h2 : ∀ b ∈ W, b ∉ fs) : Nf fs s'.heap := fun b m => by
  obtain ⟨o, e, d⟩ := n b m
  exact ⟨o, k.not e fun z => h2 b z m, d⟩

/-- the frames are there, for the traceback -/
theorem funs {fs : List Addr} {h B : Heap} (n : Nf fs h) (hB : ∀ b ∈ fs, B.get? b = none) : ∀ {l : List Env}, Lf fs l → h.FunFrames B l
  | [], _ => trivial
  | env :: l, x => by
    obtain ⟨hk, L, hf, m⟩ := x env (.head _)
    obtain ⟨o, e, d⟩ := n L m
    exact ⟨hk, ⟨L, o, hf, hB L m, e, d⟩, funs n hB fun e' he => x e' (.tail _ he)⟩

/-- an own exception class of the module's -/
structure Oc (base : Heap) (x : Str) (C : Addr) (B newId initId : String) (bm : List Value) : Prop where
  own : ∃ mg, base.Ns mainGlobals mg ∧ OwnCls x C bm newId mg base
  ok : ExcBaseFacts B newId initId bm
theorem Oc.gn {base : Heap} {x : Str} {C : Addr} {B newId initId : String} {bm : List Value} (O : Oc base x C B newId initId bm) : Gn base x (.ref C) := by
  obtain ⟨mg, n, o⟩ := O.own
  exact ⟨mg, n, .inl o.bound⟩

section
variable (prog : Program) (w : World)
/-- a call that raises -/
structure Fx (n : Nat) (base : Heap) (f : Value) (C : Addr) (Ts : List Ty) : Prop where
  go : ∀ A F fs l s vs, Room n A → A.frames = some l → Lf fs l → (∀ b ∈ fs, b ∈ F ∧ base.get? b = none) → Nf fs s.heap → Ext base s.heap → (∀ b ∈ F, ∃ o, s.heap.get? b = some o) → AllT (hid F s.heap) vs Ts → ∀ (Q E : Value → Shared → Prop),
    (∀ e t B h' tk, Ext (hid fs s.heap) B → Heap.FlyingW B l e (.ref C) (.ref t) h' → s.heap.UpToSlots h' → E (.ref e) { s with heap := h', toks := tk }) → wpAny (model prog w) A (call f vs) Q E s
/-- a call that may turn the outer frames' slots -/
structure FnU (n : Nat) (base : Heap) (f : Value) (Ts : List Ty) (T : Ty) : Prop where
  go : ∀ A F fs l s vs, Room n A → A.frames = some l → Lf fs l → (∀ b ∈ fs, b ∈ F ∧ base.get? b = none) → Nf fs s.heap → Ext base s.heap → (∀ b ∈ F, ∃ o, s.heap.get? b = some o) → AllT (hid F s.heap) vs Ts → ∀ (Q E : Value → Shared → Prop),
    (∀ v h' tk, Tn fs s.heap h' → T.P v (hid F h') → Q v { s with heap := h', toks := tk }) → wpAny (model prog w) A (call f vs) Q E s
/-- statements that raise -/
structure Bz (A : Around) (base : Heap) (W F : List Addr) (env : Env) (σ : List (Str × Ty)) (ss : List Stmt) (C : Addr) : Prop where
  go : ∀ s, Sd base W F env σ s.heap → ∀ (Q : Flow → Shared → Prop) (E : Value → Shared → Prop),
    (∀ e s₁ h' vs σ', KF W s s₁ → Sd base W F env σ' s₁.heap → Heap.MadeExcOf s₁.heap h' e (.ref C) vs → E (.ref e) { s₁ with heap := h' }) → wpAny (model prog w) A (execs ss env) Q E s
/-- statements, where more is known of the outer frames -/
structure Bp (fs : List Addr) (A : Around) (base : Heap) (W : List Addr) (V : Gd) (F : List Addr) (env : Env) (σ : List (Str × Ty)) (ss : List Stmt) (R : Flow → Heap → Prop) : Prop where
  go : Sub W V → ∀ s, Sd base W F env σ s.heap → Nf fs s.heap → ∀ (Q : Flow → Shared → Prop) (E : Value → Shared → Prop), (∀ fl s', V.Rel s s' → R fl s'.heap → Q fl s') → wpAny (model prog w) A (execs ss env) Q E s
end

section
variable {prog : Program} {w : World} {A : Around} {base : Heap} {W fs : List Addr} {V : Gd} {F : List Addr} {env : Env} {σ : List (Str × Ty)} {rest : List Stmt} {R : Flow → Heap → Prop}
theorem Bp.of (h : Bx prog w A base W V F env σ rest R) : Bp prog w fs A base W V F env σ rest R := .mk fun hV s S _ => h.go hV s S
theorem Bp.assign {x : Str} {p' pos : Pos} {e : Expr} {T : Ty} (hd : ∀ b ∈ W, b ∉ fs) (he : Ev prog w A base F env σ e T) (hk : Own W env x)
    (hr : Bp prog w fs A base W V F env ((x, T) :: drop x σ) rest R) (hs : swapsWith e (some (.Name x p')) pos.line env = pure false := by rfl) :
    Bp prog w fs A base W V F env σ (.Assign [.Name x p'] e pos :: rest) R := .mk fun hV s S N Q E k =>
  wpAny_execs_cons (wpAny_Assign_Name (he.go s S.fm _ E fun v s₁ kp q => (S.keeps kp.ext).store q hk _ E fun s₂ k₂ S₂ =>
    hr.go hV s₂ S₂ (N.kf ((KF.of kp).trans k₂) hd) Q E fun fl s₃ k₃ r => k fl s₃ ((hV.kp kp).trans ((hV.go _ _ k₂).trans k₃)) r) hs)

variable {C : Addr} {B newId initId : String} {bm : List Value} {x : Str}
theorem Bz.skip {t : Expr} {body : List Stmt} {pos : Pos} (ht : Tr prog w A base F env σ t false) (hr : Bz prog w A base W F env σ rest C) : Bz prog w A base W F env σ (.If t body [] pos :: rest) C := .mk fun s S Q E k =>
  wpAny_execs_cons (wpAny_If (ht.go s S.fm _ E fun s' kp => wpAny_execs_nil (hr.go s' (S.keeps kp.ext) Q E fun e s₁ h' vs σ' kf => k e s₁ h' vs σ' ((KF.of kp).trans kf))))
theorem Bz.assign {y : Str} {p' pos : Pos} {e : Expr} {T : Ty} (he : Ev prog w A base F env σ e T) (hk : Own W env y)
    (hr : Bz prog w A base W F env ((y, T) :: drop y σ) rest C) (hs : swapsWith e (some (.Name y p')) pos.line env = pure false := by rfl) :
    Bz prog w A base W F env σ (.Assign [.Name y p'] e pos :: rest) C := .mk fun s S Q E k =>
  wpAny_execs_cons (wpAny_Assign_Name (he.go s S.fm _ E fun v s₁ kp q => (S.keeps kp.ext).store q hk _ E fun s₂ k₂ S₂ => hr.go s₂ S₂ Q E fun e s₁ h' vs σ' kf => k e s₁ h' vs σ' ((KF.of kp).trans (k₂.trans kf))) hs)
theorem Bz.raise {t e₀ : Expr} {np cpos pos pos' : Pos} {T : Ty} {more : List Stmt} (hh : A.handled = none) (O : Oc base x C B newId initId bm) (ht : Tr prog w A base F env σ t true) (he : Ev prog w A base F env σ e₀ T)
    (hx : env.kindOf x = some .globalImplicit) (h1 : env.globals = mainGlobals) (h2 : env.builtins = builtinsNs)
    (hpl : (backTo cpos (starEach [e₀] env)).any (·.1) = false := by rfl) (hse : starEach [e₀] env = (false, eval e₀ env) :: starEach [] env := by rfl) (hd : (x == ("__debug__" : Str)) = false := by decide +kernel) :
    Bz prog w A base W F env σ (.If t [.Raise (some (.Call (.Name x np) [e₀] [] cpos)) none pos] more pos' :: rest) C := .mk fun s S Q E k => by
  refine wpAny_execs_cons (wpAny_If (ht.go s S.fm _ E fun s' kp => ?_))
  obtain ⟨mg, n, o⟩ := O.own
  obtain ⟨tl, N, nm, q, bs, hdct, sn, sub, ab, col, dd, k0, k1, k2, k3, k5, mN, hC, hN, hni, Tl⟩ := o.obj
  have f' := S.fm.keeps kp.ext
  refine wpAny_execs_cons (wpAny_Raise_call_subT (C := C) (nm := nm) (q := q) (N := N) (bs := bs) (bm := tl) (hdct := hdct) (sn := sn) (sub := sub) (ab := ab) (col := col) (dd := dd) (k0 := k0) (k1 := k1) (k2 := k2) (k3 := k3) (k5 := k5)
    O.ok (mN := mN) (Tl.hasType O.ok.hasBase) hh hpl hni (Ev.gname O.gn hx h1 h2 f' ⟨rfl, ?_⟩ hd))
  have ha : Evs prog w A base F env σ cpos [e₀] [T] := Evs.cons he Evs.nil hse
  have := ha.go s' f' (fun vs s₂ => vs.length ≤ sizeLine ∧ s₂.heap.get? C = some (excClassObj nm q C N bs tl hdct sn sub ab col dd k0 k1 k2 k3 k5 newId) ∧ s₂.heap.Ns N mN ∧ OwnTail s₂.heap bm tl ∧
      ∀ h' e, Heap.MadeExcOf s₂.heap h' e (.ref C) vs → E (.ref e) { s₂ with heap := h' }) E fun vs s₂ k₂ q => by
    have f₂ := f'.keeps k₂.ext
    exact ⟨by have := q.length; rw [this]; show 1 ≤ sizeLine; rw [sizeLine_eq]; decide, f₂.base _ _ hC, hN.keeps f₂.base, Tl.keeps f₂.base, fun h' e hm => k e s₂ h' vs σ (KF.of (kp.trans k₂)) (S.keeps (kp.trans k₂).ext) hm⟩
  rw [hse] at this ⊢
  exact evalArgs_plain (wpAny_mono this (fun vs s₂ h₂ => ⟨rfl, h₂.1, h₂.2.1, h₂.2.2.1, h₂.2.2.2.1, h₂.2.2.2.2⟩) fun _ _ y => y)
end
end Mine
end

section
open PySem PySem.W PySem.Calls PySem.Spec PyProof.Rows
set_option linter.unusedVariables false
set_option maxRecDepth 100000
namespace Mine
section
variable {prog : Program} {w : World} {base : Heap}
/-- a def of the text, called where it raises -/
theorem Fx.def {n : Nat} {a C : Addr} {o : Obj} {fd : FuncData} {body : List Stmt} {Ts : List Ty} {names : List Str}
    (ho : base.get? a = some o) (hd : o.data = .func fd) (hl : base.NoLimit) (hcd : base.CodeRec fd.code fd.qualname) (hbody : fd.body = .stmts body) (hclo : fd.closure = [])
    (hbind : ∀ vs : List Value, vs.length = names.length → bindArgs fd ⟨vs, []⟩ = pure (names.zip vs)) (hlen : names.length = Ts.length)
    (hkind : ∀ k, ∀ x ∈ names, fd.scope.names.lookup x = some .local ∨ (fd.scope.names.lookup x = some .cell ∧ ((cellsFrom k fd.scope.names []).lookup x).isSome = true))
    (hnd : ∀ k, (cellsFrom k fd.scope.names []).Pairwise fun x y => x.1 ≠ y.1) (hnm : names.Nodup)
    (hk : fd.scope.kind = .function) (hco : fd.scope.isCoroutine = false) (hgen : fd.scope.isGenerator = false)
    (hB : ∀ A F L, Room n A → Bz prog w A base (foot fd L) (foot fd L ++ F) (callEnvC fd L a) (names.zip Ts) body C) :
    Fx prog w (n + 1) base (.ref a) C Ts := .mk fun A F fs l s vs R hfr hlf hfs hnf hb hF ha Q E h => by
  have hvl := ha.length
  have hzip : (names.zip vs).map (·.1) = names := by rw [List.map_fst_zip (by omega)]
  refine wpAny_call (codeAny_call_cells (body := body) (binds := names.zip vs) R.d (hb _ _ ho) hd (hl.keeps hb) (hcd.keeps hb) hbody (hbind vs (by omega)) hclo (fun p m => hkind _ p.1 (List.of_mem_zip (a := p.1) (b := p.2) m).1) (fun s₁ x => ?_) hco hgen hk)
  refine (hB _ F _ R.deeper).go s₁ (sd_enter (hnd _) hnm (hkind _) hk hb hF ha hlen x) _ _ fun e s₂ h₂ ws σ' kf S₂ hm => ?_
  have hno := foot_none x
  have hL : s.heap.objs.size ∈ foot fd s.heap.objs.size := .head _
  have hdis : ∀ b ∈ foot fd s.heap.objs.size, b ∉ fs := fun b m m' => by
    obtain ⟨o', e', _⟩ := hnf b m'
    rw [hno b m] at e'; cases e'
  have kk : Ext s.heap s₂.heap := fun b o e => kf.not (x.toInCall.keep b o e) fun m => by rw [hno b m] at e; cases e
  have n₂ : Nf (s.heap.objs.size :: fs) s₂.heap := fun b m => by
    rcases List.mem_cons.mp m with rfl | m
    · obtain ⟨m', o, es, ep, g, d, _⟩ := S₂.ns
      exact ⟨o, g, fun vs q => by rw [d] at q; cases q⟩
    · obtain ⟨o, e, d⟩ := hnf b m
      exact ⟨o, kk b o e, d⟩
  have lf : Lf (s.heap.objs.size :: fs) (callEnvC fd s.heap.objs.size a :: l) := fun env he => by
    rcases List.mem_cons.mp he with rfl | he
    · exact ⟨by show fd.scope.kind ≠ _; rw [hk]; decide, _, rfl, .head _⟩
    · obtain ⟨q, L, z, m⟩ := hlf env he
      exact ⟨q, L, z, .tail _ m⟩
  refine wpAny_leaves_madeW (base := hid (s.heap.objs.size :: fs) s₂.heap) (h := s₂.heap) (L := s.heap.objs.size) (Around.frames_deeper hfr) rfl (fun b o e => of_hideAll _ e) (funs n₂ (fun b m => hideAll_none _ m) lf) hm fun h' t x1 x2 x3 x4 => ?_
  obtain ⟨h₁, t₁, e₁⟩ := x.toInCall.same
  obtain ⟨h₃, t₃, e₃, _⟩ := kf
  have es : ({ s₂ with heap := h' } : Shared) = { s with heap := h', toks := t₃ } := by rw [e₃, e₁]
  have := h e t _ h' t₃ (fun b o q => hideAll_get _ (kk b o (of_hideAll _ q)) fun m => by
    rcases List.mem_cons.mp m with rfl | m
    · have := of_hideAll _ q; rw [hno _ hL] at this; cases this
    · exact hid_notin q m) x1 (((Heap.UpToSlots.of_keeps kk).trans (Heap.UpToSlots.of_keeps hm.keeps)).trans x4)
  rw [← es] at this
  exact this
/-- a def of the text that may turn the outer frames' slots -/
theorem FnU.def {n : Nat} {a : Addr} {o : Obj} {fd : FuncData} {body : List Stmt} {Ts : List Ty} {T : Ty} {names : List Str}
    (ho : base.get? a = some o) (hd : o.data = .func fd) (hl : base.NoLimit) (hcd : base.CodeRec fd.code fd.qualname) (hbody : fd.body = .stmts body) (hclo : fd.closure = [])
    (hbind : ∀ vs : List Value, vs.length = names.length → bindArgs fd ⟨vs, []⟩ = pure (names.zip vs)) (hlen : names.length = Ts.length)
    (hkind : ∀ k, ∀ x ∈ names, fd.scope.names.lookup x = some .local ∨ (fd.scope.names.lookup x = some .cell ∧ ((cellsFrom k fd.scope.names []).lookup x).isSome = true))
    (hnd : ∀ k, (cellsFrom k fd.scope.names []).Pairwise fun x y => x.1 ≠ y.1) (hnm : names.Nodup)
    (hk : fd.scope.kind = .function) (hco : fd.scope.isCoroutine = false) (hgen : fd.scope.isGenerator = false)
    (hB : ∀ A F L fs l, Room n A → A.frames = some (callEnvC fd L a :: l) → Lf fs l → (∀ b ∈ fs, b ∈ F ∧ base.get? b = none) → (∀ b ∈ foot fd L, b ∉ fs) →
      Bp prog w fs A base (foot fd L) (Gu (foot fd L ++ fs) fs) (foot fd L ++ F) (callEnvC fd L a) (names.zip Ts) body (fun fl h => ∃ v, fl = .ret v ∧ T.P v (hid (foot fd L ++ F) h))) :
    FnU prog w (n + 1) base (.ref a) Ts T := .mk fun A F fs l s vs R hfr hlf hfs hnf hb hF ha Q E h => by
  have hvl := ha.length
  have hzip : (names.zip vs).map (·.1) = names := by rw [List.map_fst_zip (by omega)]
  refine wpAny_call (codeAny_call_cells (body := body) (binds := names.zip vs) R.d (hb _ _ ho) hd (hl.keeps hb) (hcd.keeps hb) hbody (hbind vs (by omega)) hclo (fun p m => hkind _ p.1 (List.of_mem_zip (a := p.1) (b := p.2) m).1) (fun s₁ x => ?_) hco hgen hk)
  have hno := foot_none x
  have hdis : ∀ b ∈ foot fd s.heap.objs.size, b ∉ fs := fun b m m' => by
    obtain ⟨o', e', _⟩ := hnf b m'
    rw [hno b m] at e'; cases e'
  have n₁ : Nf fs s₁.heap := fun b m => by
    obtain ⟨o, e, d⟩ := hnf b m
    exact ⟨o, x.toInCall.keep b o e, d⟩
  refine (hB _ F _ fs l R.deeper (Around.frames_deeper hfr) hlf hfs hdis).go (Sub.gu (fun b m => List.mem_append_left _ m) hdis) s₁ (sd_enter (hnd _) hnm (hkind _) hk hb hF ha hlen x) n₁ _ _ fun fl s' kf r => ?_
  obtain ⟨v, rfl, q⟩ := r
  obtain ⟨h₁, t₁, e₁⟩ := x.toInCall.same
  obtain ⟨⟨h₂, t₂, e₂, kk⟩, sl⟩ := kf
  have es : s' = { s with heap := h₂, toks := t₂ } := by rw [e₂, e₁]
  subst es
  refine h v h₂ t₂ (fun b o e => ?_) (T.mono _ _ _ (hid_le fun b m => List.mem_append_right _ m) q)
  have e1 := x.toInCall.keep b o e
  by_cases m : b ∈ fs
  · obtain ⟨sl', e'⟩ := sl b m o e1
    exact ⟨sl', e', fun z => absurd m z⟩
  · obtain ⟨o', g, nn⟩ := kk b o e1
    have : o' = o := nn fun z => (List.mem_append.mp z).elim (fun z => by rw [hno b z] at e; cases e) m
    subst this
    exact ⟨_, g, fun _ => rfl⟩

theorem Fx.at {n : Nat} {st : Stmt} {a C : Addr} {Ts : List Ty} (g : Has base st a) (hl : base.NoLimit) (names : List Str)
    (hB : ∀ z A F L, Room n A → Bz prog w A base (ftAt st z L) (ftAt st z L ++ F) (envAt st z L a) (names.zip Ts) (bodyOf st) C)
    (hbind : ∀ (z : Fv) (vs : List Value), vs.length = names.length → bindArgs (fdAt st z) ⟨vs, []⟩ = pure (names.zip vs)) (hlen : names.length = Ts.length)
    (hok : scopeOk (scopeOf st) names = true) : Fx prog w (n + 1) base (.ref a) C Ts := by
  obtain ⟨o, z, ho, hd, hcd⟩ := g.go
  obtain ⟨hkind, hnd, hnm, hk, hco, hgen⟩ := scopeOk_parts hok
  exact Fx.def ho hd hl hcd rfl rfl (hbind z) hlen hkind hnd hnm hk hco hgen fun A F L R => hB z A F L R
theorem FnU.at {n : Nat} {st : Stmt} {a : Addr} {Ts : List Ty} {T : Ty} (g : Has base st a) (hl : base.NoLimit) (names : List Str)
    (hB : ∀ z A F L fs l, Room n A → A.frames = some (envAt st z L a :: l) → Lf fs l → (∀ b ∈ fs, b ∈ F ∧ base.get? b = none) → (∀ b ∈ ftAt st z L, b ∉ fs) →
      Bp prog w fs A base (ftAt st z L) (Gu (ftAt st z L ++ fs) fs) (ftAt st z L ++ F) (envAt st z L a) (names.zip Ts) (bodyOf st) (Ret T (ftAt st z L ++ F)))
    (hbind : ∀ (z : Fv) (vs : List Value), vs.length = names.length → bindArgs (fdAt st z) ⟨vs, []⟩ = pure (names.zip vs)) (hlen : names.length = Ts.length)
    (hok : scopeOk (scopeOf st) names = true) : FnU prog w (n + 1) base (.ref a) Ts T := by
  obtain ⟨o, z, ho, hd, hcd⟩ := g.go
  obtain ⟨hkind, hnd, hnm, hk, hco, hgen⟩ := scopeOk_parts hok
  exact FnU.def ho hd hl hcd rfl rfl (hbind z) hlen hkind hnd hnm hk hco hgen fun A F L fs l R => hB z A F L fs l R
end

section
variable {prog : Program} {w : World} {A : Around} {base : Heap} {W fs : List Addr} {F : List Addr} {env : Env} {σ : List (Str × Ty)} {rest : List Stmt} {R : Flow → Heap → Prop}
theorem Bp.tryOk {V : Gd} {e : Expr} {T : Ty} {h₀ : ExceptHandler} {hs : List ExceptHandler} {pos pr : Pos} (he : Ev prog w A base F env σ e T) (hR : ∀ v h, T.P v (hid F h) → R (.ret v) h) :
    Bp prog w fs A base W V F env σ (.Try [.Return (some e) pr] (h₀ :: hs) [] [] pos :: rest) R := .mk fun hV s S _ Q E k =>
  wpAny_execs_cons (wpAny_Try_except (wpAny_execs_cons (wpAny_Return_some (he.go s S.fm _ _ fun v s' kp q => k _ _ (hV.kp kp) (hR v _ q)))))

/-- from a heap where an exception was made on to one where it is caught -/
theorem tn_of {gs : List Addr} {B h h' : Heap} (n : Nf gs h) (x : Ext (hid gs h) B) (y : B.StaysIn h') (u : h.UpToSlots h') : Tn gs h h' := fun b o e => by
  by_cases m : b ∈ gs
  · obtain ⟨o', e', d⟩ := n b m
    rw [e] at e'; cases e'
    obtain ⟨sl, z⟩ := u b o e d
    exact ⟨sl, z, fun q => absurd m q⟩
  · exact ⟨_, y b o (x b o (hideAll_get _ e m)), fun _ => rfl⟩

variable {C : Addr} {B newId initId : String} {bm : List Value} {x y : Str}
theorem Bp.tryFail {l : List Env} {n : Nat} {p cpos pr pos np ph pc pr2 : Pos} {f : Value} {e : Expr} {args : List Expr} {Ts : List Ty} {kc : Nat} (R0 : Room n A) (hfr : A.frames = some (env :: l)) (hlf : Lf fs l) (hfs : ∀ b ∈ fs, b ∈ F ∧ base.get? b = none) (hef : env.frame = some env.locals)
    (hF : Fx prog w n base f C Ts) (hg : Gn base x f) (hc : Cal prog w base f) (ha : Evs prog w A base F env σ cpos (e :: args) Ts) (O : Oc base y C B newId initId bm)
    (hx : env.kindOf x = some .globalImplicit) (hy : env.kindOf y = some .globalImplicit) (h1 : env.globals = mainGlobals) (h2 : env.builtins = builtinsNs) (hR : ∀ h, R (.ret .none) h)
    (hpl : (backTo cpos (starEach (e :: args) env)).any (·.1) = false := by rfl) (hse : starEach (e :: args) env = (false, eval e env) :: starEach args env := by rfl) (hd : (x == ("__debug__" : Str)) = false := by decide +kernel) (hd' : (y == ("__debug__" : Str)) = false := by decide +kernel) :
    Bp prog w fs A base W (Gu (W ++ fs) fs) F env σ (.Try [.Return (some (.Call (.Name x p) (e :: args) [] cpos)) pr] [.ExceptHandler (some (.Name y np)) none [.Return (some (.Constant .none kc pc)) pr2] ph] [] [] pos :: rest) R := .mk fun hV s S N Q E k => by
  refine wpAny_execs_cons (wpAny_Try_except (wpAny_execs_cons (wpAny_Return_some (wpAny_Call_NameR (Ev.gname hg hx h1 h2 S.fm (callTail hc S.fm ha hpl hse fun vs s₁ k₁ q => ?_) hd)))))
  have S₁ := S.keeps k₁.ext
  have gs : ∀ b ∈ env.locals :: fs, b ∈ F ∧ base.get? b = none := fun b m => by
    rcases List.mem_cons.mp m with rfl | m
    · exact ⟨S.sub _ S.inL, S.nb _ S.inL⟩
    · exact hfs b m
  have N₁ : Nf (env.locals :: fs) s₁.heap := fun b m => by
    rcases List.mem_cons.mp m with rfl | m
    · obtain ⟨m', o, es, ep, g, d, _⟩ := S₁.ns
      exact ⟨o, g, fun vs q => by rw [d] at q; cases q⟩
    · obtain ⟨o, e, d⟩ := N b m
      exact ⟨o, k₁.ext b o e, d⟩
  have lf : Lf (env.locals :: fs) (env :: l) := fun env' he => by
    rcases List.mem_cons.mp he with rfl | he
    · exact ⟨by rw [S.fm.kind]; decide, _, hef, .head _⟩
    · obtain ⟨q, L, z, m⟩ := hlf env' he
      exact ⟨q, L, z, .tail _ m⟩
  refine hF.go A F (env.locals :: fs) (env :: l) s₁ vs R0 hfr lf gs N₁ S₁.fm.base S₁.fm.old q _ _ fun a t D h₂ tk xB hfl hsm => ?_
  refine wpAny_looks_onW hfr hef hfl fun h₃ hheld₃ hsm₃ => ?_
  refine wpAny_landsW hheld₃ fun h₄ hheld hsm₄ => ?_
  have T₄ : Tn (env.locals :: fs) s₁.heap h₄ := tn_of N₁ xB hheld.1 ((hsm.trans hsm₃).trans hsm₄)
  have S₄ := S₁.tn T₄ gs
  obtain ⟨ob, hob, hobc⟩ := hheld.there
  obtain ⟨mg, ns, oc⟩ := O.own
  obtain ⟨tl, Nn, nm, qn, bs, hdct, sn, sub, ab, col, dd, k0, k1, k2, k3, k5, mN, hC, hN, hni, Tl⟩ := oc.obj
  refine wpAny_handleBy_cons (codeAny_handlers_test (Ev.gname O.gn hy h1 h2 (s := { s₁ with heap := h₄, toks := tk }) S₄.fm ?_ hd')) (by intro q; cases q)
  refine wpAny_excMatches_sub_self (S₄.fm.base _ _ hC) hob hobc (Tl.hasType O.ok.hasBase) (codeAny_handlers_suite ?_)
  refine lands_againW hheld fun h₅ hfl₅ hsm₅ => ?_
  have T₅ : Tn (env.locals :: fs) s₁.heap h₅ := tn_of N₁ xB hfl₅.1 (((hsm.trans hsm₃).trans hsm₄).trans hsm₅)
  refine wpAny_execs_cons (wpAny_Return_some (wpAny_Constant_none ?_))
  obtain ⟨hh, tt, rfl, kk⟩ := k₁
  refine k (.ret .none) _ ⟨⟨h₅, _, rfl, fun b o e => ?_⟩, fun b m o e => ?_⟩ (hR _)
  · obtain ⟨sl, z, nn⟩ := T₅ b o (kk b o e)
    refine ⟨_, z, fun m => ?_⟩
    rw [nn fun z => (List.mem_cons.mp z).elim (fun z => m (z ▸ List.mem_append_left _ S.inL)) fun z => m (List.mem_append_right _ z)]
  · obtain ⟨sl, z, nn⟩ := T₅ b o (kk b o e)
    exact ⟨sl, z⟩
end
end Mine
end

section
open PySem PySem.W PySem.Calls PySem.Spec PyProof.Rows
set_option linter.unusedVariables false
set_option maxRecDepth 100000
namespace Mine
theorem Sl.refl {fs : List Addr} {h : Heap} : Sl fs h h := fun b m o e => ⟨o.slots, e⟩
theorem Sl.trans {fs : List Addr} {a b c : Heap} (x : Sl fs a b) (y : Sl fs b c) : Sl fs a c := fun d m o e => by
  obtain ⟨s1, e1⟩ := x d m o e
  obtain ⟨s2, e2⟩ := y d m _ e1
  exact ⟨s2, e2⟩
theorem Sl.ext {fs N : List Addr} {h h' : Heap} (k : ∀ b o, b ∉ N → h.get? b = some o → h'.get? b = some o) (d : ∀ b ∈ fs, b ∉ N) : Sl fs h h' := fun b m o e => ⟨o.slots, k b o (d b m) e⟩
theorem Sl.nf {fs : List Addr} {h h' : Heap} (x : Sl fs h h') (n : Nf fs h) : Nf fs h' := fun b m => by
  obtain ⟨o, e, d⟩ := n b m
  obtain ⟨sl, e'⟩ := x b m o e
  exact ⟨_, e', d⟩
section
variable {prog : Program} {w : World} {A : Around} {base : Heap} {W fs : List Addr} {F : List Addr} {env : Env} {σ : List (Str × Ty)} {rest : List Stmt} {R : Flow → Heap → Prop}
/-- a for loop, its body may turn the outer frames' slots -/
theorem Bp.loop {x : Str} {px pos : Pos} {iter : Expr} {body : List Stmt} {n : Nat} {τ : Nat → Ty} (σs : Nat → List (Str × Ty)) (hdis : ∀ b ∈ W, b ∉ fs) (hfs : ∀ b ∈ fs, b ∈ F ∧ base.get? b = none) (hi : It prog w A base F env σ (.Name x px) iter n τ) (h0 : ∀ p ∈ σs 0, p ∈ σ)
    (hk : env.kindOf x = some .local)
    (hb : ∀ i, i < n → ∀ wr, Bp prog w fs A base W (Gu (W ++ fs) fs) (wr ++ F) env ((x, τ i) :: drop x (σs i)) body (fun fl h => match fl with
      | .next => Sd base W (wr ++ F) env (σs (i + 1)) h
      | .cont => Sd base W (wr ++ F) env (σs (i + 1)) h
      | .brk => False
      | .ret v => R (.ret v) h))
    (hr : Bx prog w A base W (Gu (W ++ fs) fs) F env (σs n) rest R)
    (hs : ∀ x, foldedSetIterable iter env x = pure x := by intro _; rfl) :
    Bp prog w fs A base W (Gu (W ++ fs) fs) F env σ (.For (.Name x px) iter body [] pos :: rest) R := .mk fun hV s S N Q E k => by
  refine wpAny_execs_cons (wpAny_For (hi.go s S.fm _ E fun s' I fp wr P St kp Wk hnew hfp hst hob hP => ?_) hs)
  have S' := S.keeps kp.ext
  have VF : ∀ b ∈ W ++ fs, b ∈ F := fun b m => (List.mem_append.mp m).elim (S.sub b) fun m => (hfs b m).1
  have nbw : ∀ b ∈ wr, base.get? b = none := fun b m => by
    cases q : base.get? b with
    | none => rfl
    | some o => have := S.fm.base b o q; rw [(hnew b m).1] at this; cases this
  have hid0 : ∀ p ∈ σs 0, ∀ v, p.2.P v (hid F s.heap) → p.2.P v (hid (wr ++ F) s'.heap) := fun p _ v q => p.2.mono _ _ _ (hid_ext' fun b o nm e => ⟨kp.ext b o e, fun m => (List.mem_append.mp m).elim (fun m => by rw [(hnew b m).1] at e; cases e) nm⟩) q
  have S0 : Sd base W (wr ++ F) env (σs 0) s'.heap := by
    refine ⟨⟨S.fm.kind, S'.fm.base, fun b m => (List.mem_append.mp m).elim (fun m => (hnew b m).2) (S'.fm.old b), fun p m => ?_⟩, S'.ns, S'.cel, S.inL, S.nb, fun b m => List.mem_append_right _ (S.sub b m), S.apart, S.nl⟩
    obtain ⟨v, q, l⟩ := S.fm.var p (h0 p m)
    exact ⟨v, hid0 p m v q, l.keeps kp.ext⟩
  have fpV : ∀ b ∈ fp, b ∉ W ++ fs := fun b m q => (hfp b m).1 (VF b q)
  have dfw : ∀ b ∈ fs, b ∉ wr := fun b m m' => by
    obtain ⟨o, e, _⟩ := N b m
    rw [(hnew b m').1] at e; cases e
  have sl0 : Sl fs s.heap s'.heap := fun b m o e => ⟨o.slots, kp.ext b o e⟩
  have N' : Nf fs s'.heap := sl0.nf N
  have Lw : env.locals ∉ wr := fun m => by
    obtain ⟨_, _, _, _, g, _⟩ := S.ns
    rw [(hnew _ m).1] at g; cases g
  have Cw : ∀ x c, env.cells.lookup x = some c → c ∉ wr := fun x c e m => by
    obtain ⟨_, _, g, _⟩ := S.cel x c e
    rw [(hnew _ m).1] at g; cases g
  have out : ∀ s₂, KF (wr ++ (W ++ fs)) s' s₂ → KF (W ++ fs) s s₂ := fun s₂ kf => by
    obtain ⟨h', t, e, kk⟩ := kf
    obtain ⟨h₁, t₁, rfl, k₁⟩ := kp
    refine ⟨h', t, e, fun b o e' => ?_⟩
    obtain ⟨o', g, nn⟩ := kk b o (k₁ b o e')
    exact ⟨o', g, fun m => nn fun m' => (List.mem_append.mp m').elim (fun m' => by rw [(hnew b m').1] at e'; cases e') m⟩
  have leW : ∀ {a b : Shared}, KF (W ++ fs) a b → KF (wr ++ (W ++ fs)) a b := fun z => z.le fun b m => List.mem_append_right _ m
  refine codeAny_forLoop_any (fun k' s₁ => ∃ i, i ≤ n ∧ k' = n - i ∧ KF (wr ++ (W ++ fs)) s' s₁ ∧ Sl fs s'.heap s₁.heap ∧ St i s₁.heap ∧ Sd base W (wr ++ F) env (σs i) s₁.heap) ?_ n ⟨0, Nat.zero_le _, rfl, KF.of (Kp.refl _), Sl.refl, hst, S0⟩
  rintro k' s₁ ⟨i, hin, rfl, kf, sl, sti, Si⟩
  by_cases hlt : i < n
  · refine Wk.item i s₁ _ _ _ (fun v s₂ z => z) hlt sti fun v h₁ tk hPv st₁ hk₁ => ?_
    have S₁ : Sd base W (wr ++ F) env (σs i) h₁ := Si.other hk₁ (fun b m => List.mem_append_left _ m) Lw Cw nbw (hob _ _ st₁)
    have kf₁ : KF (wr ++ (W ++ fs)) s₁ { s₁ with heap := h₁, toks := tk } := ⟨h₁, tk, rfl, fun b o e => by
      by_cases m : b ∈ wr
      · obtain ⟨o', e'⟩ := hob _ _ st₁ b m
        exact ⟨o', e', fun nm => absurd (List.mem_append_left _ m) nm⟩
      · exact ⟨o, hk₁ b o m e, fun _ => rfl⟩⟩
    have kfa := kf.trans kf₁
    have sla : Sl fs s'.heap h₁ := sl.trans (Sl.ext hk₁ dfw)
    have hv : (τ i).P v (hid (wr ++ F) h₁) := hP _ i v _ _ hlt hPv Si.fm.old (hid_ext' fun b o nm e => ⟨kfa.not e fun m => nm ((List.mem_append.mp m).elim (fun m => List.mem_append_left _ m) fun m => List.mem_append_right _ (VF b m)), nm⟩)
    refine wpAny_assign_Name (S₁.store (s := { s₁ with heap := h₁, toks := tk }) hv (.inl hk) _ _ fun s₂ k₂ S₂ => ?_)
    have r₂ : (Gu (W ++ fs) fs).Rel { s₁ with heap := h₁, toks := tk } s₂ := hV.go _ _ k₂
    refine (hb i hlt wr).go hV s₂ S₂ ((sla.trans r₂.2).nf N') _ _ fun fl s₃ k₃ r => ?_
    have r₃ := r₂.trans k₃
    have kfb := kfa.trans (leW r₃.1)
    have slb := sla.trans r₃.2
    have next : Sd base W (wr ++ F) env (σs (i + 1)) s₃.heap → ∃ m, m < n - i ∧ ∃ j, j ≤ n ∧ m = n - j ∧ KF (wr ++ (W ++ fs)) s' s₃ ∧ Sl fs s'.heap s₃.heap ∧ St j s₃.heap ∧ Sd base W (wr ++ F) env (σs j) s₃.heap := fun S₃ =>
      ⟨n - (i + 1), by omega, i + 1, hlt, rfl, kfb, slb, Wk.frame _ _ _ st₁ fun b m o e => r₃.1.not e (fpV b m), S₃⟩
    cases fl with
    | next => exact next r
    | cont => exact next r
    | brk => exact r.elim
    | ret v => exact k _ _ ⟨out _ kfb, sl0.trans slb⟩ r
  · have : i = n := by omega
    subst this
    refine Wk.done s₁ _ _ sti fun h₁ tk hk₁ => wpAny_execs_nil ?_
    have kf₁ : KF (W ++ fs) s { s₁ with heap := h₁, toks := tk } := by
      obtain ⟨h', t', e, kk⟩ := out _ kf
      subst e
      refine ⟨h₁, tk, rfl, fun b o e' => ?_⟩
      obtain ⟨o', g, nn⟩ := kk b o e'
      exact ⟨o', hk₁ b o' (fun m => by rw [(hnew b m).1] at e'; cases e') g, nn⟩
    have sl₁ : Sl fs s.heap h₁ := sl0.trans (sl.trans (Sl.ext hk₁ dfw))
    have Fw : ∀ b ∈ F, b ∉ wr := fun b m m' => by
      obtain ⟨o, e⟩ := S.fm.old b m
      rw [(hnew b m').1] at e; cases e
    obtain ⟨m, oL, es, ep, gL, rL⟩ := Si.ns
    have Sn : Sd base W F env (σs i) h₁ := by
      refine ⟨⟨Si.fm.kind, fun b o e => hk₁ b o (fun m => by rw [nbw b m] at e; cases e) (Si.fm.base b o e), fun b mF => ?_, fun p mp => ?_⟩, ⟨m, oL, es, ep, hk₁ _ _ Lw gL, rL⟩, fun x c e => ?_, S.inL, S.nb, S.sub, S.apart, S.nl⟩
      · obtain ⟨o, e⟩ := Si.fm.old b (List.mem_append_right _ mF)
        exact ⟨o, hk₁ b o (Fw b mF) e⟩
      · obtain ⟨v, q, l⟩ := Si.fm.var p mp
        refine ⟨v, p.2.mono _ _ _ (hid_ext' fun b o nm e => ⟨hk₁ b o (fun z => nm (List.mem_append_left _ z)) e, fun z => nm (List.mem_append_right _ z)⟩) q, ?_⟩
        rcases l with ⟨e, m', ⟨o1, e1, e2, g1, r1⟩, z⟩ | ⟨e, c, lk, o, g, d⟩
        · exact .inl ⟨e, m', ⟨o1, e1, e2, hk₁ _ _ Lw g1, r1⟩, z⟩
        · exact .inr ⟨e, c, lk, o, hk₁ _ _ (Cw _ _ lk) g, d⟩
      · obtain ⟨v, o, g, d⟩ := Si.cel x c e
        exact ⟨v, o, hk₁ _ _ (Cw _ _ e) g, d⟩
    exact hr.go hV _ Sn Q E fun fl s₃ k₃ r => k fl s₃ (Gd.Rel.trans (show (Gu (W ++ fs) fs).Rel _ _ from ⟨kf₁, sl₁⟩) k₃) r
/-- x = f(..), where f may turn the outer frames' slots -/
theorem Bp.assignU {x y : Str} {l : List Env} {n : Nat} {p cpos px pos : Pos} {f : Value} {e : Expr} {args : List Expr} {Ts : List Ty} {T : Ty} (R0 : Room n A) (hfr : A.frames = some (env :: l)) (hlf : Lf fs l) (hfs : ∀ b ∈ fs, b ∈ F ∧ base.get? b = none) (hef : env.frame = some env.locals) (hdis : ∀ b ∈ W, b ∉ fs)
    (hF : FnU prog w n base f Ts T) (hg : Gn base y f) (hc : Cal prog w base f) (ha : Evs prog w A base F env σ cpos (e :: args) Ts)
    (hy : env.kindOf y = some .globalImplicit) (h1 : env.globals = mainGlobals) (h2 : env.builtins = builtinsNs) (hk : Own W env x)
    (hr : Bx prog w A base W (Gu (W ++ fs) fs) F env ((x, T) :: drop x σ) rest R)
    (hpl : (backTo cpos (starEach (e :: args) env)).any (·.1) = false := by rfl) (hse : starEach (e :: args) env = (false, eval e env) :: starEach args env := by rfl) (hd : (y == ("__debug__" : Str)) = false := by decide +kernel)
    (hs : swapsWith (.Call (.Name y p) (e :: args) [] cpos) (some (.Name x px)) pos.line env = pure false := by rfl) :
    Bp prog w fs A base W (Gu (W ++ fs) fs) F env σ (.Assign [.Name x px] (.Call (.Name y p) (e :: args) [] cpos) pos :: rest) R := .mk fun hV s S N Q E k => by
  refine wpAny_execs_cons (wpAny_Assign_Name (wpAny_Call_NameR (Ev.gname hg hy h1 h2 S.fm (callTail hc S.fm ha hpl hse fun vs s₁ k₁ q => ?_) hd)) hs)
  have S₁ := S.keeps k₁.ext
  have gs : ∀ b ∈ env.locals :: fs, b ∈ F ∧ base.get? b = none := fun b m => by
    rcases List.mem_cons.mp m with rfl | m
    · exact ⟨S.sub _ S.inL, S.nb _ S.inL⟩
    · exact hfs b m
  have N₁ : Nf (env.locals :: fs) s₁.heap := fun b m => by
    rcases List.mem_cons.mp m with rfl | m
    · obtain ⟨m', o, es, ep, g, d, _⟩ := S₁.ns
      exact ⟨o, g, fun vs q => by rw [d] at q; cases q⟩
    · obtain ⟨o, e, d⟩ := N b m
      exact ⟨o, k₁.ext b o e, d⟩
  have lf : Lf (env.locals :: fs) (env :: l) := fun env' he => by
    rcases List.mem_cons.mp he with rfl | he
    · exact ⟨by rw [S.fm.kind]; decide, _, hef, .head _⟩
    · obtain ⟨q, L, z, m⟩ := hlf env' he
      exact ⟨q, L, z, .tail _ m⟩
  refine hF.go A F (env.locals :: fs) (env :: l) s₁ vs R0 hfr lf gs N₁ S₁.fm.base S₁.fm.old q _ _ fun v h₂ tk T₂ q₂ => ?_
  have S₂ := S₁.tn T₂ gs
  refine Sd.store (s := { s₁ with heap := h₂, toks := tk }) S₂ q₂ hk _ E fun s₃ k₃ S₃ => ?_
  have r₁ : (Gu (W ++ fs) fs).Rel s s₁ := hV.kp k₁
  have r₂ : (Gu (W ++ fs) fs).Rel s₁ { s₁ with heap := h₂, toks := tk } := ⟨⟨h₂, tk, rfl, fun b o e => by
    obtain ⟨sl, z, nn⟩ := T₂ b o e
    refine ⟨_, z, fun m => ?_⟩
    rw [nn fun z => (List.mem_cons.mp z).elim (fun z => m (z ▸ List.mem_append_left _ S.inL)) fun z => m (List.mem_append_right _ z)]⟩, fun b m o e => by
    obtain ⟨sl, z, nn⟩ := T₂ b o e
    exact ⟨sl, z⟩⟩
  exact hr.go hV s₃ S₃ Q E fun fl s₄ k₄ r => k fl s₄ (r₁.trans (r₂.trans ((hV.go _ _ k₃).trans k₄))) r
end
end Mine
end

section
open PySem PySem.W PySem.Calls PySem.Spec
set_option linter.unusedVariables false
namespace Mine
local macro_rules | `(tactic| walk_at "mem") => `(tactic| first | with_reducible exact List.mem_cons_self | (with_reducible refine List.mem_cons_of_mem _ ?_; walk_at "mem") | (with_reducible refine mem_drop ?_ (by decide +kernel); walk_at "mem"))
local macro_rules | `(tactic| walk_at "sub") => `(tactic| first | with_reducible exact sub_nil | (with_reducible refine sub_cons (by walk_at "mem") ?_; walk_at "sub"))

noncomputable def pLeft (r : Str) : Int := Txt.find r "("
noncomputable def pRight (r : Str) : Int := Txt.find3 r ")" (pLeft r + 1)
noncomputable def pBad1 (r : Str) : Bool := Txt.item r (pLeft r + 1) != Txt.item r (pRight r - 1)
noncomputable def pParts (r : Str) : List Str := Txt.split (Txt.slice r (some (pLeft r + 1)) (some (pRight r))) (Txt.item r (pLeft r + 1))
noncomputable def pBad2 (r : Str) : Bool := ((pParts r).length : Int) != 5
noncomputable def pPort (r : Str) : Int := (PySem.intText? ((pParts r).getD 3 "")).getD 0
noncomputable def pOk (r : Str) : Bool := decide (r.length ≤ 1000) && !(Txt.slice r none (some 3) != "229") && !decide (pLeft r < 0) && !decide (pRight r < 0) &&
  decide (-(r.length : Int) ≤ pLeft r + 1) && decide (pLeft r + 1 < r.length) && decide (-(r.length : Int) ≤ pRight r - 1) && decide (pRight r - 1 < r.length) && !((Txt.item r (pLeft r + 1)).length == 0) &&
  decide ((Txt.slice r (some (pLeft r + 1)) (some (pRight r))).length ≤ 1000) && decide ((pParts r).length ≤ 1000)
noncomputable def pGood (r : Str) : Bool := !pBad1 r && !pBad2 r && (PySem.intText? ((pParts r).getD 3 "")).isSome && decide (((pParts r).getD 3 "").length ≤ 640)
noncomputable abbrev peerF : PyData := .tuple [.str "host", .int 21]
theorem getD_parts {l : List Str} {k : Nat} (h : k < l.length) : (l.map PyData.str)[k]? = some (.str (l.getD k "")) := by
  rw [List.getElem?_map, List.getElem?_eq_getElem h]
  simp [List.getD_eq_getElem?_getD, List.getElem?_eq_getElem h]
section
variable {prog : Program} {w : World} {A : Around} {base : Heap} {F : List Addr} {z : Fv} {L a : Addr} {r : Str} {n : Nat} {C3 C4 : Addr} {B newId initId : String} {bm : List Value}
set_option maxRecDepth 100000 in
theorem parse_body (R : Room 3 A) (ok : pOk r = true) (gd : pGood r = true) (hl : Gn base "len" (.builtin "len")) (hi : Gn base "int" (.type "int")) :
    Bx prog w A base (ftAt (stmtAt 5) z L) (Gd.of (ftAt (stmtAt 5) z L)) (ftAt (stmtAt 5) z L ++ F) (envAt (stmtAt 5) z L a) [("resp", TS r), ("peer", Py peerF)] (bodyOf (stmtAt 5)) (Ret (Py (.tuple [.str "host", .int (pPort r)])) (ftAt (stmtAt 5) z L ++ F)) := by
  have R1 : Room 1 A := R.le (by decide)
  unfold pOk at ok
  unfold pGood at gd
  simp only [Bool.and_eq_true, decide_eq_true_eq, Bool.not_eq_true'] at ok gd
  obtain ⟨⟨⟨⟨⟨⟨⟨⟨⟨⟨o0, o1⟩, o2⟩, o3⟩, o4⟩, o5⟩, o6⟩, o7⟩, o8⟩, o9⟩, o10⟩ := ok
  obtain ⟨⟨⟨g1, g2⟩, g3⟩, g4⟩ := gd
  obtain ⟨m, hm⟩ := Option.isSome_iff_exists.mp g3
  have em : pPort r = m := by unfold pPort; rw [hm]; rfl
  have l5 : (pParts r).length = 5 := by
    have : (((pParts r).length : Int) != 5) = false := g2
    simp at this; omega
  rw [em]
  refine Bx.ite (b := false) (by rw [← o1]; exact Tr.cmp R1 (Ev.slice R1 Ev.name .none (.some Ev.cons_int) .none (SliceR.str (by omega)) (fun o i => rfl)) Ev.cons_str CmpR.neS) (fun c => by cases c) fun _ => Bx.done ?_
  refine Bx.assign (T := TI (pLeft r)) (Ev.meth (n := 1) (T₀ := TS r) (Ts := [TS "("]) R1 Ev.name (Evs.cons Ev.cons_str Evs.nil) (Md.str PySem.F.slot_str_find PySem.F.type_str_find) Fn.find) (.inl rfl) ?_
  refine Bx.ite (b := false) (by rw [← o2]; exact Tr.cmp R1 Ev.name Ev.cons_int CmpR.ltI) (fun c => by cases c) fun _ => Bx.done ?_
  refine Bx.assign (T := TI (pRight r)) (Ev.meth (n := 1) (T₀ := TS r) (Ts := [TS ")", TI (pLeft r + 1)]) R1 Ev.name (Evs.cons Ev.cons_str (Evs.cons (Ev.bin R1 Ev.name Ev.cons_int BinR.add) Evs.nil)) (Md.str PySem.F.slot_str_find PySem.F.type_str_find) Fn.find3) (.inl rfl) ?_
  refine Bx.ite (b := false) (by rw [← o3]; exact Tr.cmp R1 Ev.name Ev.cons_int CmpR.ltI) (fun c => by cases c) fun _ => Bx.done ?_
  refine Bx.ite (b := false) (by rw [← g1]; exact Tr.cmp R1 (Ev.item R1 Ev.name (Ev.bin R1 Ev.name Ev.cons_int BinR.add) (SubR.strItem o4 o5 (by omega))) (Ev.item R1 Ev.name (Ev.bin R1 Ev.name Ev.cons_int BinR.sub) (SubR.strItem o6 o7 (by omega))) CmpR.neS) (fun c => by cases c) fun _ => Bx.done ?_
  refine Bx.assign (T := TLs (pParts r)) (Ev.meth (n := 1) (T₀ := TS (Txt.slice r (some (pLeft r + 1)) (some (pRight r)))) (Ts := [TS (Txt.item r (pLeft r + 1))]) R1
    (Ev.slice R1 Ev.name (.some (Ev.bin R1 Ev.name Ev.cons_int BinR.add)) (.some Ev.name) .none (SliceR.str (by omega)) (fun o i => rfl)) (Evs.cons (Ev.item R1 Ev.name (Ev.bin R1 Ev.name Ev.cons_int BinR.add) (SubR.strItem o4 o5 (by omega))) Evs.nil)
    (Md.str PySem.F.slot_str_split PySem.F.type_str_split) (Fn.split o8 (by omega))) (.inl rfl) ?_
  refine Bx.ite (b := false) (by rw [← g2]; exact Tr.cmp R1 (Ev.ref (Le.of (by simp [pParts])) (Ev.call R (Fn.lenL (ds := (pParts r).map .str) (by simp; omega)) hl Cal.builtin (Evs.cons Ev.name Evs.nil) rfl rfl rfl)) Ev.cons_int CmpR.neI) (fun c => by cases c) fun _ => Bx.done ?_
  refine Bx.assign (T := TS "host") (Ev.item R1 Ev.name Ev.cons_int (SubR.tuple (ds := [.str "host", .int 21]) (by decide) (by decide) rfl)) (.inl rfl) ?_
  refine Bx.assign (T := TI m) (Ev.call R (Fn.intS hm g4) hi Cal.type (Evs.cons (Ev.item R1 Ev.name Ev.cons_int (SubR.list (by decide) (by decide) (getD_parts (k := 3) (by omega)))) Evs.nil) rfl rfl rfl) (.inl rfl) ?_
  exact Bx.retR (Ev.ref (TT.py (ds := [.str "host", .int m])) (Ev.tuple (Evs.cons Ev.name (Evs.cons Ev.name Evs.nil))))
set_option maxRecDepth 100000 in
theorem parse_fn (g : Has base (stmtAt 5) a) (nl : base.NoLimit) (ok : pOk r = true) (gd : pGood r = true) (hl : Gn base "len" (.builtin "len")) (hi : Gn base "int" (.type "int")) : Fn prog w 4 base (.ref a) [TS r, Py peerF] (Py (.tuple [.str "host", .int (pPort r)])) := by
  refine Fn.at g nl ["resp", "peer"] (fun z A F L R => parse_body R ok gd hl hi) (fun z vs h => ?_) rfl (by decide +kernel)
  match vs, h with
  | [v, u], _ => rfl
set_option maxRecDepth 100000 in
theorem parse_bad (R : Room 3 A) (ok : pOk r = true) (bd : (pBad1 r || pBad2 r) = true) (hl : Gn base "len" (.builtin "len")) (O : Oc base "error_proto" C4 B newId initId bm) :
    Bz prog w A base (ftAt (stmtAt 5) z L) (ftAt (stmtAt 5) z L ++ F) (envAt (stmtAt 5) z L a) [("resp", TS r), ("peer", Py peerF)] (bodyOf (stmtAt 5)) C4 := by
  have R1 : Room 1 A := R.le (by decide)
  unfold pOk at ok
  simp only [Bool.and_eq_true, decide_eq_true_eq, Bool.not_eq_true'] at ok
  obtain ⟨⟨⟨⟨⟨⟨⟨⟨⟨⟨o0, o1⟩, o2⟩, o3⟩, o4⟩, o5⟩, o6⟩, o7⟩, o8⟩, o9⟩, o10⟩ := ok
  refine Bz.skip (by rw [← o1]; exact Tr.cmp R1 (Ev.slice R1 Ev.name .none (.some Ev.cons_int) .none (SliceR.str (by omega)) (fun o i => rfl)) Ev.cons_str CmpR.neS) ?_
  refine Bz.assign (T := TI (pLeft r)) (Ev.meth (n := 1) (T₀ := TS r) (Ts := [TS "("]) R1 Ev.name (Evs.cons Ev.cons_str Evs.nil) (Md.str PySem.F.slot_str_find PySem.F.type_str_find) Fn.find) (.inl rfl) ?_
  refine Bz.skip (by rw [← o2]; exact Tr.cmp R1 Ev.name Ev.cons_int CmpR.ltI) ?_
  refine Bz.assign (T := TI (pRight r)) (Ev.meth (n := 1) (T₀ := TS r) (Ts := [TS ")", TI (pLeft r + 1)]) R1 Ev.name (Evs.cons Ev.cons_str (Evs.cons (Ev.bin R1 Ev.name Ev.cons_int BinR.add) Evs.nil)) (Md.str PySem.F.slot_str_find PySem.F.type_str_find) Fn.find3) (.inl rfl) ?_
  refine Bz.skip (by rw [← o3]; exact Tr.cmp R1 Ev.name Ev.cons_int CmpR.ltI) ?_
  cases b1 : pBad1 r with
  | true => exact Bz.raise R.hh O (by rw [← b1]; exact Tr.cmp R1 (Ev.item R1 Ev.name (Ev.bin R1 Ev.name Ev.cons_int BinR.add) (SubR.strItem o4 o5 (by omega))) (Ev.item R1 Ev.name (Ev.bin R1 Ev.name Ev.cons_int BinR.sub) (SubR.strItem o6 o7 (by omega))) CmpR.neS) (Ev.name (T := TS r)) rfl rfl rfl
  | false =>
  rw [b1] at bd
  refine Bz.skip (by rw [← b1]; exact Tr.cmp R1 (Ev.item R1 Ev.name (Ev.bin R1 Ev.name Ev.cons_int BinR.add) (SubR.strItem o4 o5 (by omega))) (Ev.item R1 Ev.name (Ev.bin R1 Ev.name Ev.cons_int BinR.sub) (SubR.strItem o6 o7 (by omega))) CmpR.neS) ?_
  refine Bz.assign (T := TLs (pParts r)) (Ev.meth (n := 1) (T₀ := TS (Txt.slice r (some (pLeft r + 1)) (some (pRight r)))) (Ts := [TS (Txt.item r (pLeft r + 1))]) R1
    (Ev.slice R1 Ev.name (.some (Ev.bin R1 Ev.name Ev.cons_int BinR.add)) (.some Ev.name) .none (SliceR.str (by omega)) (fun o i => rfl)) (Evs.cons (Ev.item R1 Ev.name (Ev.bin R1 Ev.name Ev.cons_int BinR.add) (SubR.strItem o4 o5 (by omega))) Evs.nil)
    (Md.str PySem.F.slot_str_split PySem.F.type_str_split) (Fn.split o8 (by omega))) (.inl rfl) ?_
  have b2 : pBad2 r = true := bd
  exact Bz.raise R.hh O (by rw [← b2]; exact Tr.cmp R1 (Ev.ref (Le.of (by simp [pParts])) (Ev.call R (Fn.lenL (ds := (pParts r).map .str) (by simp; omega)) hl Cal.builtin (Evs.cons Ev.name Evs.nil) rfl rfl rfl)) Ev.cons_int CmpR.neI) (Ev.name (T := TS r)) rfl rfl rfl
set_option maxRecDepth 100000 in
theorem parse_fx (g : Has base (stmtAt 5) a) (nl : base.NoLimit) (ok : pOk r = true) (bd : (pBad1 r || pBad2 r) = true) (hl : Gn base "len" (.builtin "len")) (O : Oc base "error_proto" C4 B newId initId bm) : Fx prog w 4 base (.ref a) C4 [TS r, Py peerF] := by
  refine Fx.at g nl ["resp", "peer"] (fun z A F L R => parse_bad R ok bd hl O) (fun z vs h => ?_) rfl (by decide +kernel)
  match vs, h with
  | [v, u], _ => rfl
end
end Mine
end

section
open PySem PySem.W PySem.Calls PySem.Spec
set_option linter.unusedVariables false
namespace Mine
local macro_rules | `(tactic| walk_at "mem") => `(tactic| first | with_reducible exact List.mem_cons_self | (with_reducible refine List.mem_cons_of_mem _ ?_; walk_at "mem") | (with_reducible refine mem_drop ?_ (by decide +kernel); walk_at "mem"))
local macro_rules | `(tactic| walk_at "sub") => `(tactic| first | with_reducible exact sub_nil | (with_reducible refine sub_cons (by walk_at "mem") ?_; walk_at "sub"))

noncomputable def tNum (q : Int) : Str := (toString (q + 1) : String)
noncomputable def tMark (copy : List Int) (mark : Str) (q : Int) : Str := if copy.any (· == q) then mark else ""
noncomputable def tSigns (copy : List Int) (mark : Str) : List Str := (List.range 7).map fun (i : Nat) => tNum i ++ tMark copy mark i
noncomputable def tRing (copy : List Int) (mark : Str) : Str := Txt.mul (Txt.join "" (tSigns copy mark)) 2
noncomputable def tBegin (copy : List Int) (place : Int) (mark : Str) : Int := Txt.find (tRing copy mark) (tNum place) + 1
noncomputable def tEnd (copy : List Int) (place : Int) (mark : Str) : Int := Txt.find3 (tRing copy mark) (tNum place) (tBegin copy place mark) + 1
noncomputable def tTurn (copy : List Int) (place : Int) (mark : Str) : Str := Txt.slice (tRing copy mark) (some (tBegin copy place mark)) (some (tEnd copy place mark)) ++ tMark copy mark place
noncomputable def tResp (copy : List Int) (place : Int) (mark : Str) : Str := "229 ring (" ++ tTurn copy place mark ++ ")"
noncomputable def toldF (copy : List Int) (place : Int) (mark : Str) : PyData := if pBad1 (tResp copy place mark) || pBad2 (tResp copy place mark) then .none else .tuple [.str "host", .int (pPort (tResp copy place mark))]
noncomputable def toldOk (copy : List Int) (place : Int) (mark : Str) : Bool :=
  decide (place.natAbs ≤ 100) && decide (mark.length ≤ 100) && JoinOk "" (tSigns copy mark) && decide ((Txt.join "" (tSigns copy mark)).length ≤ 1000) && decide ((tRing copy mark).length ≤ 1000) &&
  decide ((Txt.slice (tRing copy mark) (some (tBegin copy place mark)) (some (tEnd copy place mark))).length ≤ 1000) && decide ((tTurn copy place mark).length ≤ 1000) && pOk (tResp copy place mark) && (pBad1 (tResp copy place mark) || pBad2 (tResp copy place mark) || pGood (tResp copy place mark))
theorem mulOk2 {x : Str} (h : x.length ≤ 1000) : MulOk x 2 := by
  have e' : sizeLine = 16777216 := sizeLine_eq
  refine ⟨by decide, fun _ _ => ?_, fun _ _ => ?_⟩
  · have : ((2 : Int) ^ 63 - 1) / 2 = 4611686018427387903 := by decide
    omega
  · unfold Builtin.Str.tooLong
    have : (2 : Int).toNat = 2 := rfl
    rw [this]
    simp only [decide_eq_false_iff_not]
    omega
set_option exponentiation.threshold 3000
section
variable {prog : Program} {w : World} {A : Around} {base : Heap} {F : List Addr} {z : Fv} {L a p C4 : Addr} {copy : List Int} {place : Int} {mark : Str} {n : Nat} {B newId initId : String} {bm : List Value} {fs : List Addr} {l : List Env}
theorem log2_small' {i : Int} (h : i.natAbs ≤ 1000) : i.natAbs.log2 < 1920 := by
  by_cases e : i.natAbs = 0
  · rw [e]; decide
  · refine (Nat.log2_lt e).mpr (Nat.lt_of_le_of_lt h ?_)
    exact Nat.lt_of_lt_of_le (by decide : 1000 < 2 ^ 10) (Nat.pow_le_pow_right (by decide) (by decide))
set_option maxRecDepth 100000 in
theorem told_body (R : Room 4 A) (ok : toldOk copy place mark = true) (hfr : A.frames = some (envAt (stmtAt 19) z L a :: l)) (hlf : Lf fs l) (hfs : ∀ b ∈ fs, b ∈ F ∧ base.get? b = none) (hdis : ∀ b ∈ ftAt (stmtAt 19) z L, b ∉ fs)
    (gp : Gf base (stmtAt 5) "parse229" p) (nl : base.NoLimit) (hl : Gn base "len" (.builtin "len")) (hi : Gn base "int" (.type "int")) (hs : Gn base "str" (.type "str")) (hr : Gn base "range" (.type "range")) (O : Oc base "error_proto" C4 B newId initId bm) :
    Bp prog w fs A base (ftAt (stmtAt 19) z L) (Gu (ftAt (stmtAt 19) z L ++ fs) fs) (ftAt (stmtAt 19) z L ++ F) (envAt (stmtAt 19) z L a) [("copy", TL copy), ("place", TI place), ("mark", TS mark)] (bodyOf (stmtAt 19)) (Ret (Py (toldF copy place mark)) (ftAt (stmtAt 19) z L ++ F)) := by
  have R1 : Room 1 A := R.le (by decide)
  have R3 : Room 3 A := R.le (by decide)
  unfold toldOk at ok
  simp only [Bool.and_eq_true, decide_eq_true_eq] at ok
  obtain ⟨⟨⟨⟨⟨⟨⟨⟨o0, o1⟩, o2⟩, o3⟩, o4⟩, o5⟩, o6⟩, o7⟩, o8⟩ := ok
  have e' : sizeLine = 16777216 := sizeLine_eq
  have num : ∀ {A' F' env' σ'}, Room 3 A' → (("place" : Str), TI place) ∈ σ' → env'.kindOf "str" = some .globalImplicit → env'.globals = mainGlobals → env'.builtins = builtinsNs → ∀ p1 p2 p3 p4 p5 k, Ev prog w A' base F' env' σ' (.Call (.Name "str" p1) [.BinOp (.Name "place" p2) .Add (.Constant (.int 1) k p3) p4] [] p5) (TS (tNum place)) := fun R' m h1 h2 h3 _ _ _ _ _ _ =>
    Ev.call R' (Fn.strI (i := place + 1) (log2_small' (by omega))) hs Cal.type (Evs.cons (Ev.bin (R'.le (by decide)) (Ev.name m) Ev.cons_int BinR.add) Evs.nil) h1 h2 h3
  refine Bp.assign (T := TS (tRing copy mark)) hdis ?_ (.inl rfl) ?_
  · refine Ev.bin R1 (Ev.meth (n := 1) (T₀ := TS "") (Ts := [TLs (tSigns copy mark)]) R1 Ev.cons_str (Evs.cons ?_ Evs.nil) (Md.str PySem.F.slot_str_join PySem.F.type_str_join) (Fn.join o2)) Ev.cons_int (BinR.mulS (mulOk2 o3))
    refine Ev.sub (Ev.comp (n := 7) (τ := fun i => TI i) (b := fun _ => true) (d := fun i => .str (tNum i ++ tMark copy mark i)) (cl := [("mark", L + 2), ("copy", L + 1)]) (σc := [("mark", TS mark), ("copy", TL copy)])
      ((It.range R3 (Ev.call R3 (Fn.range1 (a := 7)) hr Cal.type (Evs.cons Ev.cons_int Evs.nil) rfl rfl rfl) (by decide) (by decide) (by decide) (by decide) rfl).sub (fun i hi => ?_)) rfl
      (.cons ⟨by walk_at "mem", rfl, rfl, rfl, fun _ => rfl⟩ (.cons ⟨by walk_at "mem", rfl, rfl, rfl, fun _ => rfl⟩ .nil)) (by decide) (fun _ _ _ _ => Trs.nil) ?_) (Pl.le' ?_)
    · exact Le.of (by simp)
    · intro C Fc i hi _
      have l1 : (tNum i).length ≤ 100 := by
        have : ∀ j, j < 7 → (tNum (j : Nat)).length ≤ 100 := by decide +kernel
        exact this i hi
      have l1' : (Str.ofString (toString ((i : Int) + 1))).length ≤ 100 := l1
      refine Ev.bin R1 (Ev.call R3 (Fn.strI (i := (i : Int) + 1) (log2_small' (by omega))) hs Cal.type (Evs.cons (Ev.bin R1 Ev.name Ev.cons_int BinR.add) Evs.nil) rfl rfl rfl)
        (Ev.ifExp (T := TS (tMark copy mark i)) (Tr.cmp R1 Ev.name Ev.name CmpR.inList) (fun h => ?_) (fun h => ?_)) (BinR.cat ?_)
      · rw [show tMark copy mark i = mark from if_pos h]; exact Ev.name
      · rw [show tMark copy mark i = "" from if_neg (by rw [h]; decide)]; exact Ev.cons_str
      · have : (tMark copy mark i).length ≤ 100 := by
          unfold tMark; split
          · exact o1
          · decide
        omega
    · rw [doneTo_all]; unfold tSigns; rw [List.map_map]; rfl
  refine Bp.assign (T := TI (tBegin copy place mark)) hdis (Ev.bin R1 (Ev.meth (n := 1) (T₀ := TS (tRing copy mark)) (Ts := [TS (tNum place)]) R1 Ev.name (Evs.cons (num R3 (by walk_at "mem") rfl rfl rfl _ _ _ _ _ _) Evs.nil) (Md.str PySem.F.slot_str_find PySem.F.type_str_find) Fn.find) Ev.cons_int BinR.add) (.inl rfl) ?_
  refine Bp.assign (T := TI (tEnd copy place mark)) hdis (Ev.bin R1 (Ev.meth (n := 1) (T₀ := TS (tRing copy mark)) (Ts := [TS (tNum place), TI (tBegin copy place mark)]) R1 Ev.name (Evs.cons (num R3 (by walk_at "mem") rfl rfl rfl _ _ _ _ _ _) (Evs.cons Ev.name Evs.nil)) (Md.str PySem.F.slot_str_find PySem.F.type_str_find) Fn.find3) Ev.cons_int BinR.add) (.inl rfl) ?_
  have lm : (tMark copy mark place).length ≤ 100 := by
    unfold tMark; split
    · exact o1
    · decide
  refine Bp.assign (T := TS (tTurn copy place mark)) hdis (Ev.bin R1 (Ev.slice R1 Ev.name (.some Ev.name) (.some Ev.name) .none (SliceR.str (by omega)) (fun o i => rfl)) (Ev.ifExp (T := TS (tMark copy mark place)) (Tr.cmp R1 Ev.name Ev.name CmpR.inList) (fun h => ?_) (fun h => ?_)) (BinR.cat (by omega))) (.inl rfl) ?_
  · rw [show tMark copy mark place = mark from if_pos h]; exact Ev.name
  · rw [show tMark copy mark place = "" from if_neg (by rw [h]; decide)]; exact Ev.cons_str
  have lr : ("229 ring (" ++ tTurn copy place mark : Str).length = 10 + (tTurn copy place mark).length := Str.length_append _ _
  have l10 : ("229 ring (" : Str).length = 10 := rfl
  have l1 : (")" : Str).length = 1 := rfl
  have ha : ∀ {σ'}, (("turn" : Str), TS (tTurn copy place mark)) ∈ σ' → ∀ p1 p2 p3 p4 p5 p6 p7 p8 p9 k1 k2 k3 k4 k5, Evs prog w A base (ftAt (stmtAt 19) z L ++ F) (envAt (stmtAt 19) z L a) σ' p9 [.BinOp (.BinOp (.Constant (.str "229 ring (") k1 p1) .Add (.Name "turn" p2) p3) .Add (.Constant (.str ")") k2 p4) p5, .Tuple [.Constant (.str "host") k3 p6, .Constant (.int 21) k4 p7] k5 p8] [TS (tResp copy place mark), Py peerF] := fun m _ _ _ _ _ _ _ _ _ _ _ _ _ _ =>
    Evs.cons (Ev.bin R1 (Ev.bin R1 Ev.cons_str (Ev.name m) (BinR.cat (by omega))) Ev.cons_str (BinR.cat (by omega))) (Evs.cons (Ev.ref (TT.py (ds := [.str "host", .int 21])) (Ev.tuple (Evs.cons Ev.cons_str (Evs.cons Ev.cons_int Evs.nil)))) Evs.nil)
  cases hb : (pBad1 (tResp copy place mark) || pBad2 (tResp copy place mark)) with
  | true =>
    rw [show toldF copy place mark = .none from if_pos hb]
    exact Bp.tryFail R hfr hlf (fun b m => ⟨List.mem_append_right _ (hfs b m).1, (hfs b m).2⟩) rfl (parse_fx gp.has nl o7 hb hl O) gp.gn gp.has.cal (ha (by walk_at "mem") _ _ _ _ _ _ _ _ _ _ _ _ _ _) O rfl rfl rfl rfl fun h => ⟨.none, rfl, none_py _⟩
  | false =>
    rw [hb] at o8
    rw [show toldF copy place mark = .tuple [.str "host", .int (pPort (tResp copy place mark))] from if_neg (by rw [hb]; decide)]
    exact Bp.tryOk (Ev.call R (parse_fn gp.has nl o7 o8 hl hi) gp.gn gp.has.cal (ha (by walk_at "mem") _ _ _ _ _ _ _ _ _ _ _ _ _ _) rfl rfl rfl) fun v h q => ⟨v, rfl, q⟩
set_option maxRecDepth 100000 in
theorem told_fn (g : Has base (stmtAt 19) a) (ok : toldOk copy place mark = true) (gp : Gf base (stmtAt 5) "parse229" p) (nl : base.NoLimit) (hl : Gn base "len" (.builtin "len")) (hi : Gn base "int" (.type "int")) (hs : Gn base "str" (.type "str")) (hr : Gn base "range" (.type "range")) (O : Oc base "error_proto" C4 B newId initId bm) :
    FnU prog w 5 base (.ref a) [TL copy, TI place, TS mark] (Py (toldF copy place mark)) := by
  refine FnU.at g nl ["copy", "place", "mark"] (fun z A F L fs l R hfr hlf hfs hdis => told_body R ok hfr hlf hfs hdis gp nl hl hi hs hr O) (fun z vs h => ?_) rfl (by decide +kernel)
  match vs, h with
  | [v, u, t], _ => rfl
end
end Mine
end

section
open PySem PySem.W PySem.Calls PySem.Spec
set_option linter.unusedVariables false
namespace Mine
/-- the pairs of a dict comprehension -/
noncomputable def accD (b : Nat → Bool) (dk : Nat → Str) (dv : Nat → Int) : Nat → List (Str × Int)
  | 0 => []
  | i + 1 => if b i then putI (accD b dk dv i) (dk i) (dv i) else accD b dk dv i
theorem accD_no {b : Nat → Bool} {dk : Nat → Str} {dv : Nat → Int} {i : Nat} (h : b i = false) : accD b dk dv (i + 1) = accD b dk dv i := by simp only [accD, h]; rfl
theorem accD_yes {b : Nat → Bool} {dk : Nat → Str} {dv : Nat → Int} {i : Nat} (h : b i = true) : accD b dk dv (i + 1) = putI (accD b dk dv i) (dk i) (dv i) := by simp only [accD, h]; rfl
theorem accD_len (b : Nat → Bool) (dk : Nat → Str) (dv : Nat → Int) : ∀ i, (accD b dk dv i).length ≤ i
  | 0 => Nat.le_refl _
  | i + 1 => by
    have := accD_len b dk dv i
    cases h : b i with
    | false => rw [accD_no h]; omega
    | true => rw [accD_yes h]; exact Nat.le_trans (putI_len _ _ _) (Nat.succ_le_succ this)
theorem wpAny_unpure {M : Model} {A : Around} {s : Shared} {P : Prop} {E E' : Value → Shared → Prop} {α : Type} {t : Sem α} {Q : α → Shared → Prop} {u : Unit}
    (h : wpAny M A (pure u) (fun _ s' => wpAny M A t Q E' s') E s) : wpAny M A t Q E' s := fun Γ p hΓ => h Γ p hΓ Γ p hΓ
section
variable {prog : Program} {w : World} {A : Around} {base : Heap} {F : List Addr} {env : Env} {σ : List (Str × Ty)}
theorem Wks.next {x : Str} {px : Pos} {I : Addr} {fp wr : List Addr} {n : Nat} {P : Nat → Value → Heap → Heap → Prop} {St : Nat → Heap → Prop} (W : Wks prog w A (.Name x px) I fp wr n P St) {α : Type} {t : Value → Sem α} {K : α → Shared → Prop} {E' : Value → Shared → Prop}
    (i : Nat) (s : Shared) (R : Option Value → Shared → Prop) (E : Value → Shared → Prop) (hR : ∀ v s₁, wpAny (model prog w) A (t v) K E' s₁ → R (some v) s₁) (hi : i < n) (st : St i s.heap)
    (h : ∀ v h' tk, P i v s.heap h' → St (i + 1) h' → (∀ b o, b ∉ wr → s.heap.get? b = some o → h'.get? b = some o) → wpAny (model prog w) A (t v) K E' { s with heap := h', toks := tk }) :
    wpAny (model prog w) A (pyNext (.ref I)) R E s :=
  W.item i s (fun v s₁ => wpAny (model prog w) A (t v) K E' s₁) R E (fun v s₁ z => hR v s₁ fun Γ p hΓ => z Γ p hΓ Γ p hΓ) hi st h
/-- the loop of a list comprehension over one source -/
theorem comp_loopD {kx vx iter : Expr} {x : Str} {px : Pos} {ifs : List Expr} {scope : Scope} {pos : Pos} {cenv : Env} {σc : List (Str × Ty)} {Wc Fc : List Addr} {I D : Addr} {fp wr : List Addr} {n : Nat} {P : Nat → Value → Heap → Heap → Prop} {St : Nat → Heap → Prop}
    {τ : Nat → Ty} {σx : Nat → List (Str × Ty)} {b : Nat → Bool} {dk : Nat → Str} {dv : Nat → Int} {R : Result → Shared → Prop} {s : Shared}
    (Wk : Wks prog w A (.Name x px) I fp wr n P St) (hob : ∀ i h, St i h → ∀ b ∈ wr, ∃ o, h.get? b = some o) (hst : St 0 s.heap) (S0 : Sd base Wc Fc cenv σc s.heap) (hD : s.heap.DictOf (strKind prog w) D [])
    (hAs : ∀ i, i < n → As prog w A base Wc Fc cenv (.Name x px) (τ i) σc (σx i)) (hback : ∀ i, ∀ p ∈ σc, p ∈ σx i) (hDF : D ∈ Fc) (hwF : ∀ b ∈ wr, b ∈ Fc) (hDfp : D ∉ fp) (hDW : D ∉ Wc) (hfW : ∀ b ∈ fp, b ∉ Wc) (hbD : base.get? D = none) (hbw : ∀ b ∈ wr, base.get? b = none)
    (hcD : ∀ y c, cenv.cells.lookup y = some c → c ≠ D ∧ c ∉ wr) (hLD : cenv.locals ≠ D ∧ cenv.locals ∉ wr)
    (hP : ∀ i v h h', i < n → P i v h h' → (∀ b ∈ Fc, ∃ o, h.get? b = some o) → Ext (hid Fc s.heap) (hid Fc h') → (τ i).P v (hid Fc h')) (hsz : n ≤ sizeLine)
    (htest : ∀ i, i < n → Trs prog w A base Fc cenv (σx i) ifs (b i))
    (hkx : ∀ i, i < n → b i = true → Ev prog w A base Fc cenv (σx i) kx (TS (dk i)))
    (hvx : ∀ i, i < n → b i = true → Ev prog w A base Fc cenv (σx i) vx (TI (dv i)))
    (hR : ∀ s' ys, KB wr (D :: Wc) s s' → (∃ m, s'.heap.Ns cenv.locals m) → s'.heap.DictOf (strKind prog w) D ys → DI ys (accD b dk dv n) → R (.ok .next) s') :
    codeAny (model prog w) A (.compLoop (.DictComp kx vx [⟨.Name x px, iter, ifs, 0⟩] scope pos) 0 (.ref I) (.ref D) cenv) R s := by
  have hDw : D ∉ wr := fun m => hDfp (Wk.sub _ m)
  have leW : ∀ {a b : Shared}, KF Wc a b → KF (D :: (wr ++ Wc)) a b := fun z => z.le fun b m => .tail _ (List.mem_append_right _ m)
  refine codeAny_compLoop_testsD (fun k s' => ∃ i ys, i ≤ n ∧ k = n + 1 - i ∧ KF (D :: (wr ++ Wc)) s s' ∧ St i s'.heap ∧ Sd base Wc Fc cenv σc s'.heap ∧ s'.heap.DictOf (strKind prog w) D ys ∧ DI ys (accD b dk dv i)) ?_ (n + 1)
    ⟨0, [], Nat.zero_le _, rfl, KF.of (Kp.refl _), hst, S0, hD, .nil⟩
  rintro k s₁ ⟨i, ys, hin, rfl, kf, sti, Si, hDi, hys⟩
  by_cases hlt : i < n
  · refine Wk.next i s₁ _ _ (fun v s₂ z => z) hlt sti fun v h₁ tk hPv st₁ hk₁ => ?_
    have S₁ : Sd base Wc Fc cenv σc h₁ := Si.other hk₁ hwF hLD.2 (fun y c e => (hcD y c e).2) hbw (hob _ _ st₁)
    have kf₁ : KF (D :: (wr ++ Wc)) s₁ { s₁ with heap := h₁, toks := tk } := ⟨h₁, tk, rfl, fun b o e => by
      by_cases m : b ∈ wr
      · obtain ⟨o', e'⟩ := hob _ _ st₁ b m
        exact ⟨o', e', fun nm => absurd (.tail _ (List.mem_append_left _ m)) nm⟩
      · exact ⟨o, hk₁ b o m e, fun _ => rfl⟩⟩
    have kfa := kf.trans kf₁
    have notin : ∀ b, b ∉ Fc → b ∉ D :: (wr ++ Wc) := fun b nm m => by
      rcases List.mem_cons.mp m with rfl | m
      · exact nm hDF
      · exact (List.mem_append.mp m).elim (fun m => nm (hwF b m)) fun m => nm (S0.sub b m)
    have hv : (τ i).P v (hid Fc h₁) := hP i v _ _ hlt hPv Si.fm.old (hid_ext fun b o nm e => kfa.not e (notin b nm))
    have hD₁ : h₁.DictOf (strKind prog w) D ys := hDi.at fun o e => hk₁ D o hDw e
    refine (hAs i hlt).go { s₁ with heap := h₁, toks := tk } v S₁ hv _ _ fun s₂ k₂ S₂' => ?_
    have hD₂ : s₂.heap.DictOf (strKind prog w) D ys := hD₁.at fun o e => k₂.not e hDW
    refine (htest i hlt).go s₂ S₂'.fm _ _ fun s₃ k₃ => ?_
    have kfc := kfa.trans ((leW k₂).trans (KF.of k₃))
    have st₃ : St (i + 1) s₃.heap := Wk.frame _ _ _ st₁ fun b m o e => k₃.ext b o (k₂.not e (hfW b m))
    have S₃ := S₂'.keeps k₃.ext
    have hD₃ : s₃.heap.DictOf (strKind prog w) D ys := hD₂.at fun o e => k₃.ext _ o e
    cases hbi : b i with
    | false =>
      simp only [Bool.false_eq_true, if_false]
      refine ⟨n + 1 - (i + 1), by omega, i + 1, ys, hlt, rfl, kfc, st₃, S₃.less (hback i), hD₃, ?_⟩
      rw [accD_no hbi]; exact hys
    | true =>
      simp only [if_true]
      refine (hkx i hlt hbi).go s₃ S₃.fm _ _ fun y s₄ k₄ q₄ => ?_
      refine (hvx i hlt hbi).go s₄ (S₃.keeps k₄.ext).fm _ _ fun yv s₅ k₅ q₅ => ?_
      obtain ⟨t, rfl⟩ := py_str q₄
      obtain ⟨u, rfl⟩ := py_int q₅
      have k45 := k₄.trans k₅
      have hD₅ : s₅.heap.DictOf (strKind prog w) D ys := hD₃.at fun o e => k45.ext _ o e
      have hszy : ys.length ≤ sizeLine := by
        have e1 := hys.length
        have e2 := accD_len b dk dv i
        omega
      refine wpAny_dictSet_pairs (hsz := hszy) (strKind_is prog w (dk i) t) hD₅ fun h₆ hD₆ hs₆ => ?_
      have S₅ := S₃.keeps k45.ext
      obtain ⟨oD, eD⟩ := dict_some hD₆
      have S₆ : Sd base Wc Fc cenv (σx i) h₆ := S₅.other (N := [D]) (fun b o nm e => (hs₆.2 b fun z => nm (by simp [z])).trans e) (fun b m => by simp at m; rw [m]; exact hDF) (by simp [hLD.1]) (fun y c e => by simp [(hcD y c e).1])
        (fun b m => by simp at m; rw [m]; exact hbD) fun b m => by simp at m; rw [m]; exact ⟨_, eD⟩
      have kf₆ : KF (D :: (wr ++ Wc)) s₅ { s₅ with heap := h₆, toks := s₅.toks + 1 } := KF.but (t := s₅.toks + 1) (.head _) hs₆ eD
      refine ⟨n + 1 - (i + 1), by omega, i + 1, _, hlt, rfl, kfc.trans ((KF.of k45).trans kf₆), Wk.frame _ _ _ st₃ fun b m o e => (hs₆.2 b fun z => hDfp (z ▸ m)).trans (k45.ext b o e), S₆.less (hback i), hD₆, ?_⟩
      rw [accD_yes hbi]
      exact hys.put
  · have : i = n := by omega
    subst this
    refine Wk.done s₁ _ _ sti fun h₁ tk hk₁ => ?_
    obtain ⟨m, oL, es, ep, gL, rL⟩ := Si.ns
    refine hR _ ys ?_ ⟨m, oL, es, ep, hk₁ _ _ hLD.2 gL, rL⟩ (hDi.at fun o e => hk₁ D o hDw e) hys
    obtain ⟨h', t', e, kk⟩ := kf
    subst e
    refine ⟨h₁, tk, rfl, fun b o nw e' => ?_⟩
    obtain ⟨o', g, nn⟩ := kk b o e'
    refine ⟨o', hk₁ b o' nw g, fun nm => nn fun m => ?_⟩
    rcases List.mem_cons.mp m with rfl | m
    · exact nm (.head _)
    · exact (List.mem_append.mp m).elim nw fun m => nm (.tail _ m)

/-- the parts of a comprehension's run up to its loop, and behind it -/
theorem comp_mainD {kx vx iter : Expr} {x : Str} {px : Pos} {ifs : List Expr} {scope : Scope} {pos : Pos} {cl : List (Str × Addr)} {σc : List (Str × Ty)} {n : Nat} {τ : Nat → Ty} {σx : Nat → List (Str × Ty)} {b : Nat → Bool} {dk : Nat → Str} {dv : Nat → Int}
    (hi : It prog w A base F env σ (.Name x px) iter n τ) (hclos : closureFor scope env = pure cl) (hr : Reach scope cl env σ σc) (hk : scope.kind = .function) (hnames : ∀ y ∈ scope.names, y.2 = .local → scope.names.lookup y.1 = some .local)
    (hAs : ∀ C Fc i, i < n → As prog w A base (cfoot scope C) Fc (cenvOf scope cl C env) (.Name x px) (τ i) σc (σx i)) (hback : ∀ i, ∀ p ∈ σc, p ∈ σx i) (hsz : n ≤ sizeLine)
    (htest : ∀ C Fc i, i < n → Trs prog w A base Fc (cenvOf scope cl C env) (σx i) ifs (b i))
    (hkx : ∀ C Fc i, i < n → b i = true → Ev prog w A base Fc (cenvOf scope cl C env) (σx i) kx (TS (dk i)))
    (hvx : ∀ C Fc i, i < n → b i = true → Ev prog w A base Fc (cenvOf scope cl C env) (σx i) vx (TI (dv i)))
    (hs : ∀ x, foldedSetIterable iter env x = pure x) (hM : ∃ o, base.get? mainGlobals = some o) {s : Shared} (f : Fm base F env σ s.heap) {use : Option (Value → Sem Unit)} {Q E : Value → Shared → Prop} {pos' : Pos}
    (hfin : ∀ s' D C ys, (∃ h' tk, s' = { s with heap := h', toks := tk }) → Ext s.heap s'.heap → s.heap.get? D = none → s.heap.get? C = none → D ≠ C → (∃ m, s'.heap.Ns C m) → s'.heap.DictOf (strKind prog w) D ys →
      (D == sysModules) = false → DI ys (accD b dk dv n) → compPost (model prog w) A E use Q (.ref D) C (.ok .next) s') :
    wpAny (model prog w) A (comprehension (.DictComp kx vx [⟨.Name x px, iter, ifs, 0⟩] scope pos) scope env pos' newDict false (eval iter env) use) Q E s := by
  refine wpAny_comprehension_free (use := use) rfl hs hclos hk hnames (hi.go s f _ E fun s₂ I fp wr P St kp Wk hnew hfp hst hob hP => ?_)
  refine wpAny_newObj_type (newEnv_comp ?_)
  generalize hH : s₂.heap.push { cls := .type "dict", dict := none, data := .dict #[] } = H
  have f₂ := f.keeps kp.ext
  have kH : Ext s₂.heap H := fun b o e => hH ▸ Heap.get?_push_of_some _ e
  have hD0 : s₂.heap.get? s₂.heap.objs.size = none := by
    cases q : s₂.heap.get? s₂.heap.objs.size with
    | none => rfl
    | some o => exact absurd (Heap.lt_size q) (Nat.lt_irrefl _)
  have pD : H.DictOf (strKind prog w) s₂.heap.objs.size [] := hH ▸ Heap.DictOf.new s₂.heap
  have S := sd_comp (scope := scope) (cl := cl) f (fun b o e => kH b o (kp.ext b o e)) hk hr (s₂.heap.objs.size :: wr) (fun b m => by
    rcases List.mem_cons.mp m with rfl | m
    · obtain ⟨_, e⟩ := dict_some pD
      exact ⟨none_of kp.ext hD0, _, e⟩
    · exact ⟨(hnew b m).1, let ⟨o, e⟩ := (hnew b m).2; ⟨o, kH b o e⟩⟩)
  generalize hH₁ : pushCells (H.push { cls := .type "dict", data := .dict #[] }) scope.names = H₁ at S ⊢
  have kH₁ : Ext H H₁ := fun b o e => hH₁ ▸ pushCells_keeps _ _ b o (Heap.get?_push_of_some _ e)
  have k₁ : Ext s₂.heap H₁ := fun b o e => kH₁ b o (kH b o e)
  have pD₁ : H₁.DictOf (strKind prog w) s₂.heap.objs.size [] := pD.at fun o e => kH₁ _ o e
  have hDH : H.get? s₂.heap.objs.size ≠ none := by obtain ⟨_, e⟩ := dict_some pD; rw [e]; simp
  have cno : ∀ b ∈ cfoot scope H.objs.size, H.get? b = none := fun b m => by
    cases q : H.get? b with
    | none => rfl
    | some o => exact absurd (Heap.lt_size q) (Nat.not_lt.mpr (cfoot_ge m))
  have hDfp : s₂.heap.objs.size ∉ fp := fun m => by obtain ⟨o, e⟩ := (hfp _ m).2; rw [hD0] at e; cases e
  have hDw : s₂.heap.objs.size ∉ wr := fun m => hDfp (Wk.sub _ m)
  have nb : ∀ b, s.heap.get? b = none → base.get? b = none := fun b e => none_of f.base e
  have hDs : s.heap.get? s₂.heap.objs.size = none := none_of kp.ext hD0
  have hcell : ∀ y c, (cenvOf scope cl H.objs.size env).cells.lookup y = some c → c ≠ s₂.heap.objs.size ∧ c ∉ wr := fun y c e => by
    have e' : (cellsFrom (H.objs.size + 1) scope.names cl).lookup y = some c := e
    rw [cellsFrom_app] at e'
    rcases List.mem_append.mp (mem_of_lookup e') with hm | hm
    · have mm : c ∈ cfoot scope H.objs.size := .tail _ (List.mem_map.mpr ⟨_, hm, rfl⟩)
      refine ⟨fun z => hDH (z ▸ cno c mm), fun m => ?_⟩
      obtain ⟨o, g⟩ := (hnew c m).2
      have := kH _ _ g; rw [cno c mm] at this; cases this
    · obtain ⟨nl, lk, T, mT⟩ := hr.2 y c hm
      obtain ⟨v, _, l⟩ := f.var _ mT
      rcases l with ⟨e, _⟩ | ⟨_, c', lk', o, g, _⟩
      · exact absurd e nl
      · rw [lk] at lk'; cases lk'
        exact ⟨fun z => none_some hDs (z ▸ g), fun m => none_some (hnew c m).1 g⟩
  have hWw : ∀ b ∈ cfoot scope H.objs.size, b ∉ fp := fun b m m' => by
    obtain ⟨o, g⟩ := (hfp b m').2
    have := kH _ _ g; rw [cno b m] at this; cases this
  have loop : codeAny (model prog w) A (.compLoop (.DictComp kx vx [⟨.Name x px, iter, ifs, 0⟩] scope pos) 0 (.ref I) (.ref s₂.heap.objs.size) (cenvOf scope cl H.objs.size env))
      (compPost (model prog w) A E use Q (.ref s₂.heap.objs.size) H.objs.size) { s₂ with heap := H₁ } := by
    refine comp_loopD (s := { s₂ with heap := H₁ }) (Wc := cfoot scope H.objs.size) (Fc := cfoot scope H.objs.size ++ (s₂.heap.objs.size :: wr ++ F)) (τ := τ) (b := b) (dk := dk) (dv := dv) (σc := σc) Wk hob (Wk.frame _ _ _ hst fun b _ o e => k₁ b o e) S pD₁ (fun i hi' => hAs _ _ i hi') hback
      (List.mem_append_right _ (.head _)) (fun b m => List.mem_append_right _ (.tail _ (List.mem_append_left _ m))) hDfp (fun m => hDH (cno _ m)) (fun b m m' => hWw b m' m) (nb _ hDs) (fun b m => nb b (hnew b m).1) hcell
      ⟨fun z => hDH (z ▸ cno _ (.head _)), fun m => hWw _ (.head _) (Wk.sub _ m)⟩ (fun i v h₁ h₂ hi' hPv ho he => hP _ i v h₁ h₂ hi' hPv ho fun b o e => he b o (hid_ext' (F := wr ++ F) (fun b o nm e => ⟨k₁ b o e, fun z => ?_⟩) b o e)) hsz (fun i hi' => htest _ _ i hi') (fun i hi' hb' => hkx _ _ i hi' hb') (fun i hi' hb' => hvx _ _ i hi' hb') ?_
    · rcases List.mem_append.mp z with z | z
      · exact none_some (cno b z) (kH b o e)
      · rcases List.mem_cons.mp z with rfl | z
        · exact none_some hD0 e
        · exact nm z
    · intro s' ys kb hns hDy hys
      obtain ⟨h₃, t₃, e₃, kk⟩ := kb
      subst e₃
      have kk' : ∀ b o, b ∉ wr → b ≠ s₂.heap.objs.size → b ∉ cfoot scope H.objs.size → H₁.get? b = some o → h₃.get? b = some o := fun b o nw nD nC e => by
        obtain ⟨o', g, nn⟩ := kk b o nw e
        rw [← nn fun m => (List.mem_cons.mp m).elim nD nC]
        exact g
      have kfin : Ext s.heap h₃ := fun b o e => kk' b o (fun m => none_some (hnew b m).1 e) (fun z => none_some hDs (z ▸ e)) (fun m => none_some (cno b m) (kH b o (kp.ext b o e))) (k₁ b o (kp.ext b o e))
      obtain ⟨h₂', t₂', e₂', k₂'⟩ := kp
      subst e₂'
      exact hfin _ _ _ ys ⟨h₃, t₃, rfl⟩ kfin hDs (none_of k₂' (none_of kH (cno _ (.head _)))) (fun z => hDH (z ▸ cno _ (.head _))) hns hDy (fresh_sys (let ⟨o, e⟩ := hM; ⟨o, f₂.base _ _ e⟩)) hys
  exact PySem.codeAny_compStart_dict loop (Wk.self 0 _ _ _ (Wk.frame _ _ _ hst fun b _ o e => k₁ b o e) loop)

theorem Ev.dictComp {kx vx iter : Expr} {x : Str} {px : Pos} {ifs : List Expr} {scope : Scope} {pos : Pos} {cl : List (Str × Addr)} {σc : List (Str × Ty)} {n : Nat} {τ : Nat → Ty} {σx : Nat → List (Str × Ty)} {b : Nat → Bool} {dk : Nat → Str} {dv : Nat → Int}
    (hi : It prog w A base F env σ (.Name x px) iter n τ) (hclos : closureFor scope env = pure cl) (hr : Reach scope cl env σ σc) (hk : scope.kind = .function) (hnames : ∀ y ∈ scope.names, y.2 = .local → scope.names.lookup y.1 = some .local)
    (hAs : ∀ C Fc i, i < n → As prog w A base (cfoot scope C) Fc (cenvOf scope cl C env) (.Name x px) (τ i) σc (σx i)) (hback : ∀ i, ∀ p ∈ σc, p ∈ σx i) (hsz : n ≤ sizeLine)
    (htest : ∀ C Fc i, i < n → Trs prog w A base Fc (cenvOf scope cl C env) (σx i) ifs (b i))
    (hkx : ∀ C Fc i, i < n → b i = true → Ev prog w A base Fc (cenvOf scope cl C env) (σx i) kx (TS (dk i)))
    (hvx : ∀ C Fc i, i < n → b i = true → Ev prog w A base Fc (cenvOf scope cl C env) (σx i) vx (TI (dv i))) (hM : ∃ o, base.get? mainGlobals = some o)
    (hs : ∀ x, foldedSetIterable iter env x = pure x := by intro _; rfl) :
    Ev prog w A base F env σ (.DictComp kx vx [⟨.Name x px, iter, ifs, 0⟩] scope pos) (Td prog w (accD b dk dv n)) := .mk fun s f Q E h => by
  rw [arm_eval_DictComp]
  refine comp_mainD hi hclos hr hk hnames hAs hback hsz htest hkx hvx hs hM f fun s' D C ys hs' k hD hC hDC hns hDy hsy hys => ?_
  obtain ⟨h₃, t₃, rfl⟩ := hs'
  obtain ⟨m, hm⟩ := hns
  refine ⟨m, hm, fun h' hsb => ?_⟩
  have kf : Ext s.heap h' := fun b o e => (hsb.2 b fun z => none_some hC (z ▸ e)).trans (k b o e)
  exact h _ _ ⟨h', t₃, rfl, kf⟩ ⟨_, ys, rfl, hsy, dict_hid (hDy.at fun o e => (hsb.2 _ hDC).trans e) (f.fresh hD), hys⟩
/-- x = {..} on one line -/
theorem Bx.assignDict {W : List Addr} {V : Gd} {rest : List Stmt} {R : Flow → Heap → Prop} {y : Str} {py spos : Pos} {kx vx iter : Expr} {x : Str} {px : Pos} {ifs : List Expr} {scope : Scope} {pos : Pos} {cl : List (Str × Addr)} {σc : List (Str × Ty)} {n : Nat} {τ : Nat → Ty} {σx : Nat → List (Str × Ty)} {b : Nat → Bool} {dk : Nat → Str} {dv : Nat → Int}
    (hi : It prog w A base F env σ (.Name x px) iter n τ) (hclos : closureFor scope env = pure cl) (hr : Reach scope cl env σ σc) (hk : scope.kind = .function) (hnames : ∀ y ∈ scope.names, y.2 = .local → scope.names.lookup y.1 = some .local)
    (hAs : ∀ C Fc i, i < n → As prog w A base (cfoot scope C) Fc (cenvOf scope cl C env) (.Name x px) (τ i) σc (σx i)) (hback : ∀ i, ∀ p ∈ σc, p ∈ σx i) (hsz : n ≤ sizeLine)
    (htest : ∀ C Fc i, i < n → Trs prog w A base Fc (cenvOf scope cl C env) (σx i) ifs (b i))
    (hkx : ∀ C Fc i, i < n → b i = true → Ev prog w A base Fc (cenvOf scope cl C env) (σx i) kx (TS (dk i)))
    (hvx : ∀ C Fc i, i < n → b i = true → Ev prog w A base Fc (cenvOf scope cl C env) (σx i) vx (TI (dv i))) (hM : ∃ o, base.get? mainGlobals = some o)
    (hy : env.kindOf y = some .local) (hrest : Bx prog w A base W V F env ((y, Td prog w (accD b dk dv n)) :: drop y σ) rest R)
    (hsw : swapsWith (.DictComp kx vx [⟨.Name x px, iter, ifs, 0⟩] scope pos) (some (.Name y py)) spos.line env = pure true := by rfl) (hs : ∀ x, foldedSetIterable iter env x = pure x := by intro _; rfl) :
    Bx prog w A base W V F env σ (.Assign [.Name y py] (.DictComp kx vx [⟨.Name x px, iter, ifs, 0⟩] scope pos) spos :: rest) R := .mk fun hV s S Q E k => by
  refine wpAny_execs_cons ?_
  rw [exec_Assign_Name_used _ _ _ _ hsw]
  refine wpAny_bind (wpAny_standAt (wpAny_bind ?_))
  show wpAny _ A (do let _ ← comprehension (.DictComp kx vx [⟨.Name x px, iter, ifs, 0⟩] scope pos) scope env _ PySem.newDict false (eval iter env) (some (PySem.assign (PySem.Expr.Name y py) env))) _ _ s
  refine wpAny_bind (wpAny_mono (Q := fun _ s' => wpAny (model prog w) A (execs rest env) Q E s') ?_ (fun _ s' hq => wpAny_pure (wpAny_pure hq)) fun _ _ e => e)
  refine comp_mainD hi hclos hr hk hnames hAs hback hsz htest hkx hvx hs hM S.fm fun s' D C ys hs' k' hD hC hDC hns hDy hsy hys => ?_
  obtain ⟨h₃, t₃, rfl⟩ := hs'
  obtain ⟨m, hm⟩ := hns
  have hCe : ∃ o, h₃.get? C = some o := by obtain ⟨o, _, _, g, _⟩ := hm; exact ⟨o, g⟩
  have Sh : Sd base W ([C] ++ F) env σ h₃ := S.hide k' fun b mb => by
    rw [List.mem_singleton.mp mb]; exact ⟨hC, hCe⟩
  have Lw : env.locals ∉ [C] := fun mb => by
    obtain ⟨_, _, _, _, g, _⟩ := S.ns
    rw [List.mem_singleton.mp mb] at g; exact none_some hC g
  have Cw : ∀ x c, env.cells.lookup x = some c → c ∉ [C] := fun x c e mb => by
    obtain ⟨_, _, g, _⟩ := S.cel x c e
    rw [List.mem_singleton.mp mb] at g; exact none_some hC g
  have qD : (Td prog w (accD b dk dv n)).P (.ref D) (hid ([C] ++ F) h₃) :=
    ⟨_, ys, rfl, hsy, dict_hid hDy fun mb => (List.mem_cons.mp mb).elim (fun z => hDC z) fun z => S.fm.fresh hD z, hys⟩
  show wpAny _ A (PySem.assign (PySem.Expr.Name y py) env (.ref D)) _ _ _
  refine wpAny_assign_Name (Sh.store (s := { s with heap := h₃, toks := t₃ }) qD (.inl hy) _ _ fun s₄ k₄ S₄ => ?_)
  have hns₄ : s₄.heap.Ns C m := hm.at' fun o g => k₄.not g fun mb => by
    have := S.nb C mb
    obtain ⟨o', e⟩ := S.fm.old C (S.sub C mb)
    exact none_some hC e
  refine ⟨m, hns₄, fun h' hsb => ?_⟩
  have S₅ : Sd base W F env ((y, Td prog w (accD b dk dv n)) :: drop y σ) h' := S₄.letGo (fun b o nm e => (hsb.2 b fun z => nm (z ▸ .head _)).trans e) Lw Cw (fun b mb => by rw [List.mem_singleton.mp mb]; exact none_of S.fm.base hC)
    (fun b mb z => by rw [List.mem_singleton.mp z] at mb; exact S.fm.fresh hC mb) S.sub
  refine hrest.go hV { s₄ with heap := h' } S₅ Q E fun fl s₆ k₆ r => k fl s₆ ((hV.go _ _ ?_).trans k₆) r
  obtain ⟨h₄, t₄, e₄, kk⟩ := k₄
  subst e₄
  refine ⟨h', t₄, rfl, fun b o e => ?_⟩
  obtain ⟨o', g, nn⟩ := kk b o (k' b o e)
  exact ⟨o', (hsb.2 b fun z => none_some hC (z ▸ e)).trans g, nn⟩
end
end Mine
end

section
open PySem PySem.W PySem.Calls PySem.Spec
set_option linter.unusedVariables false
set_option maxRecDepth 100000
namespace Mine
section
open PySem.Builtin
theorem slot_bytes_lstrip : Slot "bytes" "lstrip" "bytes.lstrip" :=
  .of (owner := "bytes") (n := "lstrip") (by rw [typeLookup_type, builtinLookup_eq_fast]; kernel_rfl) (by decide +kernel) (by decide +kernel) (by decide +kernel)
    (by first | exact .inl (by decide +kernel) | exact .inr (by decide +kernel)) (by rw [isSubtype_type]; kernel_rfl)
theorem type_bytes_lstrip : typeOf (.builtin "bytes.lstrip") = pure (.type "method_descriptor") := by show builtinType _ = _; rw [builtinType_eq_fast]; kernel_rfl
theorem entry_bytes_lstrip : entryFor table "bytes.lstrip" = some Builtin.«bytes.lstrip» := entryFor_of_tree (by kernel_rfl)
theorem args_bytes_lstrip_2 (a b : Value) : argsOk "bytes.lstrip" ⟨[a, b], []⟩ := by
  unfold argsOk; rw [signature?_of (id := "bytes.lstrip") (n := ['p', 'i', 'r', 't', 's', 'l']) (o := ['s', 'e', 't', 'y', 'b']) (by kernel_rfl) FB.owner_bytes]; kernel_rfl
noncomputable def lstripB (b c : List UInt8) : List UInt8 := b.dropWhile c.contains
theorem gives_bytes_lstrip (b c : Array UInt8) (t u : Tok) : Gives («bytes.lstrip» ⟨[.bytes b t, .bytes c u], []⟩)
    (if ((b.toList.dropWhile c.contains).length == b.size) = true then .val (.bytes b t) else .bytes (b.toList.dropWhile c.contains).toArray) := by
  refine .of_wp fun M A E s Q hq => ?_
  show wpAny M A (Bytes.bytesLike _ (.bytes c u) >>= fun set => _) _ E s
  unfold Bytes.bytesLike
  rw [KBy.buffer_eq]
  show wpAny M A (if ((b.toList.dropWhile c.contains).length == b.size) = true then _ else _) _ E s
  by_cases h : ((b.toList.dropWhile c.contains).length == b.size) = true
  · rw [if_pos h] at hq ⊢
    refine wpAny_bind (wpAny_rule ?_)
    show wpAny M A (Bytes.Kind.same .bytes (.bytes b t) >>= fun r => _) _ E s
    refine wpAny_bind ?_
    unfold Bytes.Kind.same
    refine wpAny_bind (wpAny_typeOf (typeIs_bytes s b t) ?_)
    exact wpAny_pure (wpAny_pure ⟨_, rfl, hq⟩)
  · rw [if_neg h] at hq ⊢
    exact wpAny_bind (wpAny_mkBytes (wpAny_pure ⟨_, rfl, hq.2⟩) hq.1)
end
end Mine
end

section
open PySem PySem.W PySem.Calls PySem.Spec
set_option linter.unusedVariables false
set_option maxRecDepth 100000
namespace Mine
theorem wpAny_alive {M : Model} {A : Around} {E : Value → Shared → Prop} {s : Shared} {a : Addr} {Q : Option Obj → Shared → Prop} (h : Q (s.heap.get? a) s) : wpAny M A (loadIfAlive a) Q E s := fun _ _ _ => h
/-- a zip whose last pair still lives -/
noncomputable abbrev IsZipG (h : Heap) (z TI TO : Addr) (f0 f1 : Value) : Prop :=
  h.get? z = some { cls := .type "zip", dict := none, data := .fields #[f0, f1, .bool false, .ref TI, .ref TO], slots := #[] }
section
variable {prog : Program} {w : World} {A : Around} {E : Value → Shared → Prop} {s : Shared}
theorem zip_kept {z TI TO T0 : Addr} {f1 : Value} {Q : Bool → Shared → Prop} (hf : f1 = .bool false ∨ f1 = .bool true) (hz : IsZipG s.heap z TI TO (rawInt T0) f1) (hT : ∃ o, s.heap.get? T0 = some o)
    (hQ : ∀ h', IsZipG h' z TI TO (rawInt T0) (.bool true) → (∀ c o, c ≠ z → s.heap.get? c = some o → h'.get? c = some o) → h'.objs.size = s.heap.objs.size → Q false { s with heap := h' }) :
    wpAny (model prog w) A (Builtin.SmallTypes.ownedTupleIsFree (.ref z)) Q E s := by
  obtain ⟨o, ho⟩ := hT
  unfold Builtin.SmallTypes.ownedTupleIsFree
  refine wpAny_bind (wpAny_field hz rfl (x := rawInt T0) rfl ?_)
  show wpAny _ _ (loadIfAlive T0 >>= _) _ _ _
  refine wpAny_bind (wpAny_alive ?_)
  rw [ho]
  show wpAny _ _ (field (.ref z) 1 >>= _) _ _ _
  refine wpAny_bind (wpAny_field hz rfl (x := f1) rfl ?_)
  rcases hf with rfl | rfl
  · show wpAny _ _ (setField (.ref z) 1 (.bool true) >>= _) _ _ _
    refine wpAny_bind (wpAny_setField_rec hz (by simp) fun h₁ hz₁ hs₁ => ?_)
    exact wpAny_pure (hQ h₁ hz₁ (fun c o n e => hs₁.extBut _ _ n e) hs₁.1)
  · exact wpAny_pure (hQ s.heap hz (fun _ _ _ e => e) rfl)

theorem zip_next_more {z TI TO i1 i2 l1 l2 T0 : Addr} {f1 : Value} {k1 k2 : Nat} {xs ys : Array Value} {x y : Value} {Q : Value → Shared → Prop} (D : ZipApart z TI TO i1 i2 l1 l2) (hf : f1 = .bool false ∨ f1 = .bool true)
    (hz : IsZipG s.heap z TI TO (rawInt T0) f1) (hT : ∃ o, s.heap.get? T0 = some o) (hTI : IsPair s.heap TI (.ref i1) (.ref i2))
    (h1 : s.heap.IsListIter i1 l1 k1) (h2 : s.heap.IsListIter i2 l2 k2) (hl1 : s.heap.IsList l1 xs) (hl2 : s.heap.IsList l2 ys) (hx : xs[k1]? = some x) (hy : ys[k2]? = some y)
    (hQ : ∀ h', IsZipG h' z TI TO (rawInt T0) (.bool true) → h'.IsListIter i1 l1 (k1 + 1) → h'.IsListIter i2 l2 (k2 + 1) → IsPair h' s.heap.objs.size x y →
      (∀ c o, c ≠ z → c ≠ i1 → c ≠ i2 → s.heap.get? c = some o → h'.get? c = some o) → Q (.ref s.heap.objs.size) { s with heap := h' }) :
    wpAny (model prog w) A (Builtin.«zip.__next__» ⟨[.ref z], []⟩) (fun fin s' => ∃ v, fin = .done (.ret v) ∧ Q v s') E s := by
  show wpAny _ _ (field (.ref z) 2 >>= _) _ _ _
  refine wpAny_bind (wpAny_field hz rfl (x := .bool false) rfl ?_)
  show wpAny _ _ (field (.ref z) 3 >>= _) _ _ _
  refine wpAny_bind (wpAny_field hz rfl (x := .ref TI) rfl ?_)
  refine wpAny_bind (wpAny_seqItems hTI rfl ?_)
  show wpAny _ _ (Builtin.SmallTypes.ownedTupleIsFree (.ref z) >>= _) _ _ _
  refine wpAny_bind (zip_kept hf hz hT fun h₁ hz₁ hk₁ hsz₁ => ?_)
  have at1 : ∀ {c}, c ≠ z → ∀ o, s.heap.get? c = some o → h₁.get? c = some o := fun n o e => hk₁ _ o n e
  simp only [Bool.false_eq_true, if_false]
  refine wpAny_bind ?_
  simp only [← Array.forIn_toList, List.forIn_cons, List.forIn_nil]
  refine wpAny_bind (wpAny_bind (wpAny_holding ?_))
  show wpAny _ _ (Builtin.SmallTypes.nextOf (.ref i1) >>= _) _ _ _
  refine wpAny_bind (wpAny_nextOf_list_item (s := { s with heap := h₁ }) (h1.at fun o e => at1 D.i1z o e) (hl1.at fun o e => at1 D.l1z o e) hx fun h₂ h1₂ hs₂ => wpAny_pure (wpAny_pure ?_))
  refine wpAny_bind (wpAny_bind (wpAny_holding ?_))
  show wpAny _ _ (Builtin.SmallTypes.nextOf (.ref i2) >>= _) _ _ _
  refine wpAny_bind (wpAny_nextOf_list_item (s := { s with heap := h₂ }) ((h2.at fun o e => at1 D.i2z o e).extBut hs₂.extBut D.i12.symm) ((hl2.at fun o e => at1 D.l2z o e).extBut hs₂.extBut D.l2i1) hy fun h₃ h2₃ hs₃ => wpAny_pure (wpAny_pure (wpAny_pure ?_)))
  have hsz : h₃.objs.size = s.heap.objs.size := by rw [hs₃.1, hs₂.1]; exact hsz₁
  refine wpAny_bind (wpAny_newTuple (hsz := by show 2 ≤ sizeLine; rw [sizeLine_eq]; decide) (wpAny_pure ⟨_, rfl, ?_⟩))
  show Q (.ref h₃.objs.size) _
  rw [hsz]
  have up : ∀ c o, c ≠ z → c ≠ i1 → c ≠ i2 → s.heap.get? c = some o → h₃.get? c = some o := fun c o c1 c2 c3 e => hs₃.extBut _ _ c3 (hs₂.extBut _ _ c2 (hk₁ c o c1 e))
  have hz₃ : IsZipG h₃ z TI TO (rawInt T0) (.bool true) := hs₃.extBut _ _ D.i2z.symm (hs₂.extBut _ _ D.i1z.symm hz₁)
  have e0 : (h₃.push { cls := .type "tuple", data := .seq #[x, y] }).get? h₃.objs.size = some { cls := .type "tuple", data := .seq #[x, y] } := Heap.get?_push_size _ rfl
  rw [hsz] at e0
  exact hQ _ (Heap.get?_push_of_some _ hz₃) (((h1₂.extBut hs₃.extBut D.i12)).at fun o e => Heap.get?_push_of_some _ e) (h2₃.at fun o e => Heap.get?_push_of_some _ e) e0 fun c o c1 c2 c3 e => Heap.get?_push_of_some _ (up c o c1 c2 c3 e)
theorem zip_stop_more {z TI TO i1 i2 l1 l2 T0 : Addr} {f1 : Value} {k1 k2 : Nat} {xs : Array Value} {Q : Fin → Shared → Prop} (hh : A.handled = none) (D : ZipApart z TI TO i1 i2 l1 l2) (hf : f1 = .bool false ∨ f1 = .bool true)
    (hz : IsZipG s.heap z TI TO (rawInt T0) f1) (hT : ∃ o, s.heap.get? T0 = some o) (hTI : IsPair s.heap TI (.ref i1) (.ref i2))
    (h1 : s.heap.IsListIter i1 l1 k1) (hl1 : s.heap.IsList l1 xs) (hx : xs[k1]? = none)
    (hE : ∀ h' e, (∀ c o, c ≠ z → c ≠ i1 → s.heap.get? c = some o → h'.get? c = some o) → (∃ o, h'.get? e = some o ∧ o.cls = .type "StopIteration") → E (.ref e) { s with heap := h' }) :
    wpAny (model prog w) A (Builtin.«zip.__next__» ⟨[.ref z], []⟩) Q E s := by
  show wpAny _ _ (field (.ref z) 2 >>= _) _ _ _
  refine wpAny_bind (wpAny_field hz rfl (x := .bool false) rfl ?_)
  show wpAny _ _ (field (.ref z) 3 >>= _) _ _ _
  refine wpAny_bind (wpAny_field hz rfl (x := .ref TI) rfl ?_)
  refine wpAny_bind (wpAny_seqItems hTI rfl ?_)
  show wpAny _ _ (Builtin.SmallTypes.ownedTupleIsFree (.ref z) >>= _) _ _ _
  refine wpAny_bind (zip_kept hf hz hT fun h₁ hz₁ hk₁ hsz₁ => ?_)
  simp only [Bool.false_eq_true, if_false]
  refine wpAny_bind ?_
  simp only [← Array.forIn_toList, List.forIn_cons, List.forIn_nil]
  refine wpAny_bind (wpAny_bind (wpAny_holding ?_))
  show wpAny _ _ (Builtin.SmallTypes.nextOf (.ref i1) >>= _) _ _ _
  exact wpAny_bind (wpAny_nextOf_list_end (s := { s with heap := h₁ }) hh (h1.at fun o e => hk₁ _ o D.i1z e) (hl1.at fun o e => hk₁ _ o D.l1z e) hx fun h₂ e hs₂ he => hE h₂ e (fun c o c1 c2 x => hs₂ _ _ c2 (hk₁ c o c1 x)) he)

theorem pyNext_more {z TI TO i1 i2 l1 l2 T0 : Addr} {f1 : Value} {k1 k2 : Nat} {xs ys : Array Value} {x y : Value} {Q : Option Value → Shared → Prop} (D : ZipApart z TI TO i1 i2 l1 l2) (hf : f1 = .bool false ∨ f1 = .bool true)
    (hz : IsZipG s.heap z TI TO (rawInt T0) f1) (hT : ∃ o, s.heap.get? T0 = some o) (hTI : IsPair s.heap TI (.ref i1) (.ref i2))
    (h1 : s.heap.IsListIter i1 l1 k1) (h2 : s.heap.IsListIter i2 l2 k2) (hl1 : s.heap.IsList l1 xs) (hl2 : s.heap.IsList l2 ys) (hx : xs[k1]? = some x) (hy : ys[k2]? = some y)
    (hQ : ∀ h', IsZipG h' z TI TO (rawInt T0) (.bool true) → h'.IsListIter i1 l1 (k1 + 1) → h'.IsListIter i2 l2 (k2 + 1) → IsPair h' s.heap.objs.size x y →
      (∀ c o, c ≠ z → c ≠ i1 → c ≠ i2 → s.heap.get? c = some o → h'.get? c = some o) → Q (some (.ref s.heap.objs.size)) { s with heap := h' }) :
    wpAny (model prog w) A (pyNext (.ref z)) Q E s := by
  have hT' : s.TypeIs (.ref z) "zip" := ⟨_, hz, rfl⟩
  unfold pyNext
  exact wpAny_bind (wpAny_attempt (wpAny_callSpecial?_slot (name := Str.ofString "__next__") hT' F.slot_zip_next
    (wpAny_call_entry F.slot_zip_next hT' F.entry_zip_next
      (zip_next_more D hf hz hT hTI h1 h2 hl1 hl2 hx hy fun h' a1 a2 a3 a4 a5 => wpAny_pure (hQ h' a1 a2 a3 a4 a5)) (F.args_zip_next_1 _))))
theorem pyNext_stop {z TI TO i1 i2 l1 l2 T0 : Addr} {f1 : Value} {k1 : Nat} {xs : Array Value} {Q : Option Value → Shared → Prop} (hh : A.handled = none) (D : ZipApart z TI TO i1 i2 l1 l2) (hf : f1 = .bool false ∨ f1 = .bool true)
    (hz : IsZipG s.heap z TI TO (rawInt T0) f1) (hT : ∃ o, s.heap.get? T0 = some o) (hTI : IsPair s.heap TI (.ref i1) (.ref i2))
    (h1 : s.heap.IsListIter i1 l1 k1) (hl1 : s.heap.IsList l1 xs) (hx : xs[k1]? = none)
    (hQ : ∀ h', (∀ c o, c ≠ z → c ≠ i1 → s.heap.get? c = some o → h'.get? c = some o) → Q none { s with heap := h' }) : wpAny (model prog w) A (pyNext (.ref z)) Q E s := by
  have hT' : s.TypeIs (.ref z) "zip" := ⟨_, hz, rfl⟩
  unfold pyNext
  refine wpAny_bind (wpAny_attempt (wpAny_callSpecial?_slot (name := Str.ofString "__next__") hT' F.slot_zip_next
    (wpAny_call_entry F.slot_zip_next hT' F.entry_zip_next (zip_stop_more (k2 := 0) hh D hf hz hT hTI h1 hl1 hx fun h' e hk he => ?_) (F.args_zip_next_1 _))))
  obtain ⟨o, ho, hc⟩ := he
  refine wpAny_bind (wpAny_isInstance (T := "StopIteration") (b := true) ⟨o, ho, hc⟩ isSubtype_stop ?_)
  exact wpAny_pure (hQ _ hk)
end
end Mine
end

section
open PySem PySem.W PySem.Calls PySem.Spec
set_option linter.unusedVariables false
set_option maxRecDepth 100000
namespace Mine
theorem zip_no_len : typeLookup (.type "zip") "__len__" = pure none := by rw [typeLookup_type, builtinLookup_eq_fast]; kernel_rfl
theorem zip_no_hint : typeLookup (.type "zip") "__length_hint__" = pure none := by rw [typeLookup_type, builtinLookup_eq_fast]; kernel_rfl
structure ZS (z TI TO i1 i2 l1 l2 : Addr) (xs ys : Array Value) (i : Nat) (h : Heap) : Prop where
  tI : IsPair h TI (.ref i1) (.ref i2)
  a : h.IsListIter i1 l1 i
  b : h.IsListIter i2 l2 i
  c : h.IsList l1 xs
  d : h.IsList l2 ys
  zz : (IsZip h z TI TO .none ∧ (∃ a b, IsPair h TO a b) ∧ i = 0) ∨ (∃ (T0 : Addr) (f1 : Value), (f1 = .bool false ∨ f1 = .bool true) ∧ IsZipG h z TI TO (rawInt T0) f1 ∧ ∃ o, h.get? T0 = some o)
/-- the pairs so far -/
noncomputable def Prs (N : Nat) (xs ys : Array Value) (i : Nat) (acc : Array Value) (h : Heap) : Prop := acc.size = i ∧ ∀ j, j < i → ∃ T x y, acc[j]? = some (.ref T) ∧ xs[j]? = some x ∧ ys[j]? = some y ∧ IsPair h T x y ∧ N ≤ T
theorem Prs.push {N : Nat} {xs ys : Array Value} {i : Nat} {acc : Array Value} {h h' : Heap} {T : Addr} {x y : Value} (p : Prs N xs ys i acc h) (k : ∀ b o, N ≤ b → h.get? b = some o → h'.get? b = some o) (hx : xs[i]? = some x) (hy : ys[i]? = some y) (hT : IsPair h' T x y) (hN : N ≤ T) :
    Prs N xs ys (i + 1) (acc.push (.ref T)) h' := by
  obtain ⟨e, q⟩ := p
  refine ⟨by rw [Array.size_push, e], fun j hj => ?_⟩
  by_cases hji : j < i
  · obtain ⟨T', x', y', e1, e2, e3, e4, e5⟩ := q j hji
    refine ⟨T', x', y', ?_, e2, e3, k _ _ e5 e4, e5⟩
    rw [Array.getElem?_push]
    rw [if_neg (by omega)]; exact e1
  · have : j = i := by omega
    subst this
    refine ⟨T, x, y, ?_, hx, hy, hT, hN⟩
    rw [Array.getElem?_push, if_pos e.symm]
section
variable {prog : Program} {w : World} {A : Around} {s : Shared} {R : Result → Shared → Prop}
theorem zip_loop {z TI TO i1 i2 l1 l2 S : Addr} {N : Nat} {xs ys : Array Value} (hh : A.handled = none) (D : ZipApart z TI TO i1 i2 l1 l2) (hn : xs.size ≤ 1000) (hn0 : 0 < xs.size) (hlen : xs.size = ys.size) (hSf : S ∉ [z, TI, TO, i1, i2, l1, l2])
    (hN : ∀ b ∈ [z, TO, i1, i2, S], b < N) (res : Value) :
    ∀ (k i : Nat) (s : Shared) (acc : Array Value) (c : Nat), xs.size - i = k → i ≤ xs.size → N ≤ s.heap.objs.size → ZS z TI TO i1 i2 l1 l2 xs ys i s.heap → s.heap.get? S = some { cls := .type "list", dict := none, data := .seq acc c, slots := #[] } → Prs N xs ys i acc s.heap →
    (∀ h' acc' c', (∀ b o, b ∉ [z, TO, i1, i2, S] → s.heap.get? b = some o → h'.get? b = some o) → h'.get? S = some { cls := .type "list", dict := none, data := .seq acc' c', slots := #[] } → Prs N xs ys xs.size acc' h' → R (.ok (.ret res)) { s with heap := h' }) →
    codeAny (model prog w) A (.builtin "list.extend.loop" ⟨[.ref S, .ref z, res], []⟩) R s := by
  have hSz : S ≠ z := fun e => hSf (by simp [e])
  have hSTI : S ≠ TI := fun e => hSf (by simp [e])
  have hSTO : S ≠ TO := fun e => hSf (by simp [e])
  have hS1 : S ≠ i1 := fun e => hSf (by simp [e])
  have hS2 : S ≠ i2 := fun e => hSf (by simp [e])
  have hSl1 : S ≠ l1 := fun e => hSf (by simp [e])
  have hSl2 : S ≠ l2 := fun e => hSf (by simp [e])
  intro k
  induction k with
  | zero =>
    intro i s acc c hk hi hNs st hS hacc hR
    have hin : i = xs.size := by omega
    subst hin
    refine codeAny_builtin F.entry_extend_loop ?_
    rw [Around.under_plainId F.plain_extend_loop _]
    show wpAny _ A.in1 (pyNext (.ref z) >>= _) _ _ s
    rcases st.zz with ⟨_, _, e⟩ | ⟨T0, f1, hf, hz, hT⟩
    · omega
    · refine wpAny_bind (pyNext_stop hh D hf hz hT st.tI st.a st.c (Array.getElem?_eq_none (Nat.le_refl _)) fun h' hk' => ?_)
      refine wpAny_pure (hR h' acc c (fun b o nb e => hk' b o (fun z => nb (by simp [z])) (fun z => nb (by simp [z])) e) (hk' S _ hSz hS1 hS) ⟨hacc.1, fun j hj => ?_⟩)
      obtain ⟨T, x, y, e1, e2, e3, e4, e5⟩ := hacc.2 j hj
      refine ⟨T, x, y, e1, e2, e3, hk' T _ (fun q => absurd (hN z (by simp)) (Nat.not_lt.mpr (q ▸ e5))) (fun q => absurd (hN i1 (by simp)) (Nat.not_lt.mpr (q ▸ e5))) e4, e5⟩
  | succ k ih =>
    intro i s acc c hk hi hNs st hS hacc hR
    have hlt : i < xs.size := by omega
    have hx : xs[i]? = some xs[i] := Array.getElem?_eq_getElem hlt
    have hy : ys[i]? = some (ys[i]'(by omega)) := Array.getElem?_eq_getElem (by omega)
    refine codeAny_builtin F.entry_extend_loop ?_
    rw [Around.under_plainId F.plain_extend_loop _]
    show wpAny _ A.in1 (pyNext (.ref z) >>= _) _ _ s
    have tail : ∀ h₁ : Heap, (∃ (T0 : Addr) (f1 : Value), (f1 = .bool false ∨ f1 = .bool true) ∧ IsZipG h₁ z TI TO (rawInt T0) f1 ∧ ∃ o, h₁.get? T0 = some o) → h₁.IsListIter i1 l1 (i + 1) → h₁.IsListIter i2 l2 (i + 1) → IsPair h₁ s.heap.objs.size xs[i] (ys[i]'(by omega)) → s.heap.objs.size ≤ h₁.objs.size →
        (∀ c o, c ≠ z → c ≠ TO → c ≠ i1 → c ≠ i2 → s.heap.get? c = some o → h₁.get? c = some o) →
        wpAny (model prog w) A.in1 (Builtin.List.listUpdate (.ref S) (·.push (.ref s.heap.objs.size)) >>= fun _ => again (.builtin "list.extend.loop" ⟨[.ref S, .ref z, res], []⟩))
          (fun fin s' => match fin with | .done f => R (.ok f) s' | .again c' => c'.quiet = true ∧ codeAny (model prog w) A c' R s') (fun e s' => R (.error e) s') { s with heap := h₁ } := by
      intro h₁ hzz ha hb hT hsz hk₁
      have hS' := hk₁ S _ hSz hSTO hS1 hS2 hS
      show wpAny _ A.in1 (updateSeq S (·.push (.ref s.heap.objs.size)) >>= _) _ _ _
      refine wpAny_bind ?_
      have oth : ∀ b o, b ≠ S → h₁.get? b = some o → (h₁.update S (Obj.mapSeq (·.push (Value.ref s.heap.objs.size)))).get? b = some o := fun b o n e => (Heap.get?_update_other _ _ (Ne.symm n)).trans e
      have hS₂ := Heap.get?_update_self (Obj.mapSeq (·.push (Value.ref s.heap.objs.size))) hS' rfl
      have szS : (h₁.update S (Obj.mapSeq (·.push (Value.ref s.heap.objs.size)))).objs.size = h₁.objs.size := Heap.size_after_update ..
      have nTS : s.heap.objs.size ≠ S := fun q => absurd (hN S (by simp)) (Nat.not_lt.mpr (q ▸ hNs))
      refine wpAny_updateSeq (s := { s with heap := h₁ }) hS' rfl (wpAny_pure ⟨plainId_quiet F.plain_extend_loop _, ih (i + 1) _ (acc.push (.ref s.heap.objs.size)) _ (by omega) hlt (by show N ≤ _; rw [szS]; omega)
        ⟨oth _ _ (Ne.symm hSTI) (hk₁ _ _ D.TIz D.TITO D.TIi1 D.TIi2 st.tI), ha.at fun o e => oth _ o (Ne.symm hS1) e, hb.at fun o e => oth _ o (Ne.symm hS2) e,
          (st.c.at fun o e => hk₁ _ o D.l1z D.l1TO D.l1i1 D.l1i2 e).at fun o e => oth _ o (Ne.symm hSl1) e, (st.d.at fun o e => hk₁ _ o D.l2z D.l2TO D.l2i1 D.l2i2 e).at fun o e => oth _ o (Ne.symm hSl2) e, .inr ?_⟩
        hS₂ (hacc.push (h' := h₁.update S (Obj.mapSeq (·.push (Value.ref s.heap.objs.size)))) (fun b o hb e => ?_) hx hy (oth _ _ nTS hT) hNs) fun h'' acc' c' hm hS'' hacc' => ?_⟩)
        (by rw [hacc.1, sizeLine_eq]; omega) (by show (acc.push (Value.ref s.heap.objs.size)).size ≤ sizeLine + 1; rw [Array.size_push, hacc.1, sizeLine_eq]; omega)
      · obtain ⟨T0, f1, hf, hz, o, ho⟩ := hzz
        refine ⟨T0, f1, hf, oth _ _ (Ne.symm hSz) hz, ?_⟩
        by_cases q : T0 = S
        · rw [q]; exact ⟨_, hS₂⟩
        · exact ⟨o, oth _ _ q ho⟩
      · have nn : ∀ c ∈ [z, TO, i1, i2, S], b ≠ c := fun c m q => absurd (hN c m) (Nat.not_lt.mpr (q ▸ hb))
        exact oth b o (nn _ (by simp)) (hk₁ b o (nn _ (by simp)) (nn _ (by simp)) (nn _ (by simp)) (nn _ (by simp)) e)
      · refine hR h'' acc' c' (fun b o nb e => hm b o nb (oth b o (fun q => nb (by simp [q])) (hk₁ b o (fun q => nb (by simp [q])) (fun q => nb (by simp [q])) (fun q => nb (by simp [q])) (fun q => nb (by simp [q])) e))) hS'' hacc'
    rcases st.zz with ⟨hz, ⟨a, b, hTO⟩, e⟩ | ⟨T0, f1, hf, hz, hT⟩
    · refine wpAny_bind (wpAny_pyNext_zip_item D hz st.tI hTO st.a st.b st.c st.d hx hy fun h' a1 a2 a3 a4 a5 a6 hk' => ?_)
      exact tail h' ⟨_, _, .inl rfl, a1, _, a5⟩ a3 a4 a5 (by omega) hk'
    · refine wpAny_bind (pyNext_more D hf hz hT st.tI st.a st.b st.c st.d hx hy fun h' a1 a3 a4 a5 hk' => ?_)
      refine tail h' ⟨T0, _, .inr rfl, a1, ?_⟩ a3 a4 a5 (Nat.le_of_lt (Heap.lt_size a5)) fun c o c1 _ c3 c4 e => hk' c o c1 c3 c4 e
      obtain ⟨o, ho⟩ := hT
      by_cases q : T0 = z
      · rw [q]; exact ⟨_, a1⟩
      · by_cases q1 : T0 = i1
        · obtain ⟨o', e', _⟩ := a3; rw [q1]; exact ⟨o', e'⟩
        · by_cases q2 : T0 = i2
          · obtain ⟨o', e', _⟩ := a4; rw [q2]; exact ⟨o', e'⟩
          · exact ⟨o, hk' _ _ q q1 q2 ho⟩
end
end Mine
end

section
open PySem PySem.W PySem.Calls PySem.Spec
set_option linter.unusedVariables false
set_option maxRecDepth 100000
namespace Mine
section
variable {prog : Program} {w : World} {A : Around} {s : Shared} {R : Result → Shared → Prop}
theorem ZS.mv {z TI TO i1 i2 l1 l2 : Addr} {xs ys : Array Value} {h h' : Heap} (st : ZS z TI TO i1 i2 l1 l2 xs ys 0 h) (k : ∀ b ∈ [z, TI, TO, i1, i2, l1, l2], ∀ o, h.get? b = some o → h'.get? b = some o) (hz : IsZip h z TI TO .none) (hp : ∃ a b, IsPair h TO a b) : ZS z TI TO i1 i2 l1 l2 xs ys 0 h' :=
  ⟨k _ (by simp) _ st.tI, st.a.at fun o e => k _ (by simp) o e, st.b.at fun o e => k _ (by simp) o e, st.c.at fun o e => k _ (by simp) o e, st.d.at fun o e => k _ (by simp) o e, .inl ⟨k _ (by simp) _ hz, let ⟨a, b, e⟩ := hp; ⟨a, b, k _ (by simp) _ e⟩, rfl⟩⟩
theorem zip_extend {z TI TO i1 i2 l1 l2 S : Addr} {N : Nat} {xs ys : Array Value} (hh : A.handled = none) (D : ZipApart z TI TO i1 i2 l1 l2) (hn : xs.size ≤ 1000) (hn0 : 0 < xs.size) (hlen : xs.size = ys.size) (hSf : S ∉ [z, TI, TO, i1, i2, l1, l2])
    (hN : ∀ b ∈ [z, TO, i1, i2, S], b < N) (hNs : N ≤ s.heap.objs.size) (res : Value) (c₀ : Nat) (st : ZS z TI TO i1 i2 l1 l2 xs ys 0 s.heap) (hz : IsZip s.heap z TI TO .none) (hp : ∃ a b, IsPair s.heap TO a b) (hS : s.heap.get? S = some { cls := .type "list", data := .seq #[] c₀ })
    (hR : ∀ h' acc' c', (∀ b o, b ∉ [z, TO, i1, i2, S] → s.heap.get? b = some o → h'.get? b = some o) → h'.get? S = some { cls := .type "list", dict := none, data := .seq acc' c', slots := #[] } → Prs N xs ys xs.size acc' h' → R (.ok (.ret res)) { s with heap := h' }) :
    wpAny (model prog w) A.in1 (Builtin.List.listExtendWith (.ref S) (.ref z) res)
      (fun fin s' => match fin with | .done f => R (.ok f) s' | .again c' => c'.quiet = true ∧ codeAny (model prog w) A c' R s') (fun e s' => R (.error e) s') s := by
  have hSz : S ≠ z := fun e => hSf (by simp [e])
  have hT : s.TypeIs (.ref z) "zip" := ⟨_, hz, rfl⟩
  unfold Builtin.List.listExtendWith
  refine wpAny_bind (wpAny_typeOf hT ?_)
  have h1 : Builtin.List.listSameRef (.ref S) (.ref z) = false := by simp [Builtin.List.listSameRef, hSz]
  have h2 : (Value.type "zip" == Value.type "list") = false := by decide
  have h3 : (Value.type "zip" == Value.type "tuple") = false := by decide
  simp only [h1, h2, h3, Bool.or_false, Bool.false_eq_true, if_false]
  refine wpAny_bind (wpAny_pyIter_zip hz ?_)
  refine wpAny_bind (wpAny_holding ?_)
  unfold Builtin.List.listLengthHint
  refine wpAny_bind (wpAny_specialOf hT zip_no_len ?_)
  show wpAny _ A.in1 (specialOf (Value.ref z) (Str.ofString "__length_hint__") >>= _) _ _ _
  refine wpAny_bind (wpAny_specialOf hT zip_no_hint ?_)
  refine wpAny_pure ?_
  show wpAny _ A.in1 (rule "list.extend.makes-room" >>= fun _ => Builtin.List.listTouch (.ref S) >>= fun _ =>
    again (.builtin "list.extend.loop" ⟨[.ref S, .ref z, res], []⟩)) _ _ _
  refine wpAny_bind (wpAny_rule ?_)
  refine wpAny_bind ?_
  show wpAny _ A.in1 (updateSeq S (·.push .none) >>= fun _ => updateSeq S (·.pop)) _ _ _
  refine wpAny_bind (wpAny_updateSeq hS rfl ?_)
  have hS₂ := Heap.get?_update_self (Obj.mapSeq (·.push Value.none)) hS rfl
  refine wpAny_updateSeq (hz := by seq_fits) hS₂ rfl ?_
  have hS₃ := Heap.get?_update_self (Obj.mapSeq (·.pop)) hS₂ rfl
  have oth : ∀ b o, b ≠ S → s.heap.get? b = some o → ((s.heap.update S (Obj.mapSeq (·.push Value.none))).update S (Obj.mapSeq (·.pop))).get? b = some o :=
    fun b o hb e => (Heap.get?_update_other _ _ (Ne.symm hb)).trans ((Heap.get?_update_other _ _ (Ne.symm hb)).trans e)
  have hsz : ((s.heap.update S (Obj.mapSeq (·.push Value.none))).update S (Obj.mapSeq (·.pop))).objs.size = s.heap.objs.size := by rw [Heap.size_after_update, Heap.size_after_update]
  refine wpAny_pure ⟨plainId_quiet F.plain_extend_loop _, zip_loop hh D hn hn0 hlen hSf hN res _ 0 _ #[] _ rfl (Nat.zero_le _) (by show N ≤ _; rw [hsz]; exact hNs)
    (st.mv (fun b m o e => oth b o (fun q => hSf (q ▸ m)) e) hz hp) hS₃ ⟨rfl, fun j hj => absurd hj (Nat.not_lt_zero _)⟩ fun h' acc' c' hm hS' hacc => ?_⟩
  exact hR h' acc' c' (fun b o nb e => hm b o nb (oth b o (fun q => nb (by simp [q])) e)) hS' hacc
theorem zip_init {z TI TO i1 i2 l1 l2 S : Addr} {N : Nat} {xs ys : Array Value} (hh : A.handled = none) (D : ZipApart z TI TO i1 i2 l1 l2) (hn : xs.size ≤ 1000) (hn0 : 0 < xs.size) (hlen : xs.size = ys.size) (hSf : S ∉ [z, TI, TO, i1, i2, l1, l2])
    (hN : ∀ b ∈ [z, TO, i1, i2, S], b < N) (hNs : N ≤ s.heap.objs.size) (st : ZS z TI TO i1 i2 l1 l2 xs ys 0 s.heap) (hz : IsZip s.heap z TI TO .none) (hp : ∃ a b, IsPair s.heap TO a b) (hS : s.heap.get? S = some { cls := .type "list", data := .seq #[] })
    (hR : ∀ h' acc' c', (∀ b o, b ∉ [z, TO, i1, i2, S] → s.heap.get? b = some o → h'.get? b = some o) → h'.get? S = some { cls := .type "list", dict := none, data := .seq acc' c', slots := #[] } → Prs N xs ys xs.size acc' h' → R (.ok (.ret .none)) { s with heap := h' }) :
    wpAny (model prog w) A.in1 (Builtin.«list.__init__» ⟨[.ref S, .ref z], []⟩)
      (fun fin s' => match fin with | .done f => R (.ok f) s' | .again c' => c'.quiet = true ∧ codeAny (model prog w) A c' R s') (fun e s' => R (.error e) s') s := by
  show wpAny _ A.in1 (do let old ← Builtin.List.listItems (.ref S); Builtin.List.listUpdate (.ref S) (fun _ => #[]); letGo old.toList.reverse; Builtin.List.listExtendWith (.ref S) (.ref z) .none) _ _ s
  refine wpAny_bind ?_
  unfold Builtin.List.listItems
  refine wpAny_bind (wpAny_seqItems hS rfl (wpAny_pure ?_))
  show wpAny _ A.in1 (updateSeq S (fun _ => #[]) >>= fun _ => letGo (#[] : Array Value).toList.reverse >>= fun _ => Builtin.List.listExtendWith (.ref S) (.ref z) .none) _ _ s
  refine wpAny_bind (wpAny_updateSeq hS rfl ?_)
  have hS₂ := Heap.get?_update_self (Obj.mapSeq (fun _ => (#[] : Array Value))) hS rfl
  have oth : ∀ b o, b ≠ S → s.heap.get? b = some o → (s.heap.update S (Obj.mapSeq (fun _ => (#[] : Array Value)))).get? b = some o :=
    fun b o hb e => (Heap.get?_update_other _ _ (Ne.symm hb)).trans e
  have hsz : (s.heap.update S (Obj.mapSeq (fun _ => (#[] : Array Value)))).objs.size = s.heap.objs.size := by rw [Heap.size_after_update]
  have hSz : S ≠ z := fun e => hSf (by simp [e])
  have hSTO : S ≠ TO := fun e => hSf (by simp [e])
  refine wpAny_bind (wpAny_letGo ?_)
  refine zip_extend (s := { s with heap := s.heap.update S (Obj.mapSeq (fun _ => (#[] : Array Value))) }) hh D hn hn0 hlen hSf hN (by show N ≤ _; rw [hsz]; exact hNs) .none _ (st.mv (fun b m o e => oth b o (fun q => hSf (q ▸ m)) e) hz hp) (oth _ _ (Ne.symm hSz) hz) (let ⟨a, b, e⟩ := hp; ⟨a, b, oth _ _ (Ne.symm hSTO) e⟩) hS₂ fun h' acc' c' hm hS' hacc => ?_
  exact hR h' acc' c' (fun b o nb e => hm b o nb (oth b o (fun q => nb (by simp [q])) e)) hS' hacc
theorem call_list_zip {E : Value → Shared → Prop} {Q : Value → Shared → Prop} {z TI TO i1 i2 l1 l2 : Addr} {xs ys : Array Value} (hh : A.handled = none) (D : ZipApart z TI TO i1 i2 l1 l2) (hn : xs.size ≤ 1000) (hn0 : 0 < xs.size) (hlen : xs.size = ys.size)
    (hlt : ∀ b ∈ [z, TI, TO, i1, i2, l1, l2], b < s.heap.objs.size) (st : ZS z TI TO i1 i2 l1 l2 xs ys 0 s.heap) (hz : IsZip s.heap z TI TO .none) (hp : ∃ a b, IsPair s.heap TO a b)
    (hQ : ∀ h' acc' c', (∀ b o, b ∉ [z, TO, i1, i2] → s.heap.get? b = some o → h'.get? b = some o) → h'.get? s.heap.objs.size = some { cls := .type "list", dict := none, data := .seq acc' c', slots := #[] } → Prs (s.heap.objs.size + 1) xs ys xs.size acc' h' → Q (.ref s.heap.objs.size) { s with heap := h' }) :
    wpAny (model prog w) A (call (.type "list") [.ref z]) Q E s := by
  have hSf : s.heap.objs.size ∉ [z, TI, TO, i1, i2, l1, l2] := fun m => Nat.lt_irrefl _ (hlt _ m)
  refine callType_codes (Q₁ := fun obj s₁ => obj = .ref s.heap.objs.size ∧ s₁ = { s with heap := s.heap.push { cls := .type "list", data := .seq #[] } }) F.called_list (F.typeCall_list_1 _) F.entry_list_init
    (code_list_new _ ⟨rfl, rfl⟩) fun obj s₁ h₁ => ?_
  obtain ⟨rfl, rfl⟩ := h₁
  have hS : (s.heap.push { cls := .type "list", data := .seq #[] }).get? s.heap.objs.size = some { cls := .type "list", data := .seq #[] } := Heap.get?_push_size _ rfl
  refine ⟨⟨_, hS, rfl⟩, F.args_list_init_2 _ _, zip_init (A := A.in1) (s := { s with heap := s.heap.push { cls := .type "list", data := .seq #[] } }) hh D hn hn0 hlen hSf (N := s.heap.objs.size + 1) (fun b m => ?_) (by show _ ≤ (s.heap.push _).objs.size; rw [Heap.size_push]; exact Nat.le_refl _)
    (st.mv (fun b _ o e => Heap.get?_push_of_some _ e) hz hp) (Heap.get?_push_of_some _ hz) (let ⟨a, b, e⟩ := hp; ⟨a, b, Heap.get?_push_of_some _ e⟩) hS fun h' acc' c' hm hS' hacc => ?_⟩
  · have : b = s.heap.objs.size ∨ b ∈ [z, TI, TO, i1, i2, l1, l2] := by simp at m ⊢; rcases m with m | m | m | m | m <;> simp [m]
    rcases this with q | q
    · rw [q]; exact Nat.lt_succ_self _
    · exact Nat.lt_succ_of_lt (hlt b q)
  · exact ⟨rfl, hQ h' acc' c' (fun b o nb e => hm b o (fun m => by
      have : b = s.heap.objs.size ∨ b ∈ [z, TO, i1, i2] := by simp at m ⊢; rcases m with m | m | m | m | m <;> simp [m]
      rcases this with q | q
      · exact absurd (Heap.lt_size e) (by rw [q]; exact Nat.lt_irrefl _)
      · exact nb q) (Heap.get?_push_of_some _ e)) hS' hacc⟩
end
end Mine
end

section
open PySem PySem.W PySem.Calls PySem.Spec
set_option linter.unusedVariables false
set_option maxRecDepth 100000
namespace Mine
noncomputable def pairsP (ds es : List Int) : List PyData := List.zipWith (fun d e => .tuple [.int d, .int e]) ds es
theorem pairs_all2 {h h' : Heap} {N : Nat} {xs ys : Array Value} {ds es : List Int} (hx : All2 h xs.toList (ds.map .int)) (hy : All2 h ys.toList (es.map .int)) (hlen : ds.length = es.length) {acc : Array Value} (p : Prs N xs ys xs.size acc h') : All2 h' acc.toList (pairsP ds es) := by
  have lx : xs.size = ds.length := by have := hx.length; simpa using this
  have la : acc.toList.length = ds.length := by have := p.1; simp [this, lx]
  have go : ∀ (vs : List Value) (ws : List PyData), vs.length = ws.length → (∀ j, j < vs.length → ∃ v d, vs[j]? = some v ∧ ws[j]? = some d ∧ (Py d).P v h') → All2 h' vs ws := by
    intro vs
    induction vs with
    | nil => intro ws e _; cases ws with
      | nil => exact .nil
      | cons _ _ => simp at e
    | cons v vs ih => intro ws e k; cases ws with
      | nil => simp at e
      | cons d ws =>
        refine .cons ?_ (ih ws (by simpa using e) fun j hj => ?_)
        · obtain ⟨v', d', e1, e2, q⟩ := k 0 (by simp)
          simp at e1 e2; subst e1 e2; exact q
        · obtain ⟨v', d', e1, e2, q⟩ := k (j + 1) (by simpa using hj)
          exact ⟨v', d', by simpa using e1, by simpa using e2, q⟩
  refine go _ _ (by rw [la]; simp [pairsP, hlen]) fun j hj => ?_
  have hj' : j < ds.length := by omega
  obtain ⟨T, x, y, e1, e2, e3, e4, _⟩ := p.2 j (by omega)
  obtain ⟨x', ex, qx⟩ := hx.get (i := j) (d := .int ds[j]) (by simp [hj'])
  obtain ⟨y', ey, qy⟩ := hy.get (i := j) (d := .int (es[j]'(by omega))) (by simp [show j < es.length by omega])
  have : x' = x := by have e2' : xs.toList[j]? = some x := by simpa using e2
                      rw [ex] at e2'; exact Option.some.inj e2'
  subst this
  have : y' = y := by have e3' : ys.toList[j]? = some y := by simpa using e3
                      rw [ey] at e3'; exact Option.some.inj e3'
  subst this
  obtain ⟨t, rfl⟩ := py_int qx
  obtain ⟨u, rfl⟩ := py_int qy
  refine ⟨.ref T, .tuple [.int ds[j], .int (es[j]'(by omega))], by simpa using e1, by rw [pairsP, List.getElem?_zipWith, List.getElem?_eq_getElem hj', List.getElem?_eq_getElem (show j < es.length by omega)], ?_⟩
  exact tuple_py (vs := [.int ds[j] t, .int (es[j]'(by omega)) u]) ⟨_, e4, rfl, 0, rfl⟩ (.cons (int_py _ _ _) (.cons (int_py _ _ _) .nil))
section
variable {prog : Program} {w : World} {A : Around} {base : Heap} {F : List Addr} {env : Env} {σ : List (Str × Ty)} {n : Nat}
theorem Prs.hid {N : Nat} {xs ys acc : Array Value} {i : Nat} {h : Heap} (p : Prs N xs ys i acc h) (hF : ∀ b ∈ F, b < N) : Prs N xs ys i acc (hid F h) :=
  ⟨p.1, fun j hj => let ⟨T, x, y, e1, e2, e3, e4, e5⟩ := p.2 j hj; ⟨T, x, y, e1, e2, e3, hideAll_get F e4 fun m => absurd (hF T m) (Nat.not_lt.mpr e5), e5⟩⟩
/-- list(zip(a, b)) -/
theorem Ev.listZip {p1 p2 pos1 pos2 : Pos} {a b : Expr} {ds es : List Int} (R : Room n A) (ha : Ev prog w A base F env σ a (TL ds)) (hb : Ev prog w A base F env σ b (TL es)) (hlen : ds.length = es.length) (h0 : 0 < ds.length) (hz : ds.length ≤ 1000)
    (gl : Gn base "list" (.type "list")) (gz : Gn base "zip" (.type "zip")) (hx1 : env.kindOf "list" = some .globalImplicit) (hx2 : env.kindOf "zip" = some .globalImplicit) (h1 : env.globals = mainGlobals) (h2 : env.builtins = builtinsNs)
    (hpl : (backTo pos1 (starEach [.Call (.Name "zip" p2) [a, b] [] pos2] env)).any (·.1) = false := by rfl) (hpl2 : (backTo pos2 (starEach [a, b] env)).any (·.1) = false := by rfl)
    (hse2 : starEach [a, b] env = (false, eval a env) :: starEach [b] env := by rfl) (hse3 : starEach [b] env = (false, eval b env) :: starEach [] env := by rfl) :
    Ev prog w A base F env σ (.Call (.Name "list" p1) [.Call (.Name "zip" p2) [a, b] [] pos2] [] pos1) (Py (.list (pairsP ds es))) := .mk fun s f Q E h => by
  have hse : starEach [.Call (.Name "zip" p2) [a, b] [] pos2] env = (false, eval (.Call (.Name "zip" p2) [a, b] [] pos2) env) :: starEach [] env := rfl
  refine wpAny_Call_NameR (Ev.gname gl hx1 h1 h2 f ?_)
  refine callWith_of (P := fun h => Ext base h) (by rw [hpl]; rfl) (Cal.type (prog := prog) (w := w) (base := base)).go ?_
  have key : wpAny (model prog w) A (spliced (backTo pos1 (starEach [.Call (.Name "zip" p2) [a, b] [] pos2] env))) (fun vs s' => Ext base s'.heap ∧ wpAny (model prog w) A (PySem.call (.type "list") ([] ++ vs)) Q E s') E s := by
    rw [hse]
    refine spliced_cons (wpAny_Call_NameR (Ev.gname gz hx2 h1 h2 f (callTail (first := []) Cal.type f (Evs.cons ha (Evs.cons hb Evs.nil hse3) hse2) hpl2 hse2 fun vs s₁ k₁ q => ?_)))
    cases q with
    | cons q r => cases r with
      | cons q' r =>
        cases r
        obtain ⟨l1, xs, rfl, hl1, hv1⟩ := py_list q
        obtain ⟨l2, ys, rfl, hl2, hv2⟩ := py_list q'
        have f₁ := f.keeps k₁.ext
        have i1 := isl hl1
        have i2 := isl hl2
        refine call_zip_2 i1 i2 fun h' z1 z2 z3 z4 z5 hsz hk => ?_
        refine spliced_nil ⟨fun b o e => hk b o (f₁.base b o e), ?_⟩
        have L1 : l1 < s₁.heap.objs.size := by obtain ⟨o, e, _⟩ := i1; exact Heap.lt_size e
        have L2 : l2 < s₁.heap.objs.size := by obtain ⟨o, e, _⟩ := i2; exact Heap.lt_size e
        have ne : ∀ {l : Addr} (k : Nat), l < s₁.heap.objs.size → l ≠ s₁.heap.objs.size + k := fun k hl q => absurd hl (by rw [q]; exact Nat.not_lt.mpr (Nat.le_add_right _ _))
        have nn : ∀ {j k : Nat}, j ≠ k → s₁.heap.objs.size + j ≠ s₁.heap.objs.size + k := fun hjk q => hjk (Nat.add_left_cancel q)
        have D : ZipApart (s₁.heap.objs.size + 4) (s₁.heap.objs.size + 2) (s₁.heap.objs.size + 3) s₁.heap.objs.size (s₁.heap.objs.size + 1) l1 l2 :=
          ⟨nn (by decide), nn (by decide), nn (j := 0) (by decide), nn (by decide), nn (by decide), nn (k := 0) (by decide), nn (by decide), nn (k := 0) (by decide), nn (by decide), nn (j := 0) (by decide),
            ne 4 L1, ne 3 L1, ne 0 L1, ne 1 L1, ne 4 L2, ne 3 L2, ne 0 L2, ne 1 L2⟩
        have lx : xs.toArray.size = ds.length := by have := hv1.length; simpa using this
        have ly : ys.toArray.size = es.length := by have := hv2.length; simpa using this
        refine call_list_zip (xs := xs.toArray) (ys := ys.toArray) (s := { s₁ with heap := h' }) R.hh D (by omega) (by omega) (by omega) (fun b m => ?_) ⟨z2, z4, z5, i1.at fun o e => hk _ o e, i2.at fun o e => hk _ o e, .inl ⟨z1, ⟨_, _, z3⟩, rfl⟩⟩ z1 ⟨_, _, z3⟩ fun h₂ acc c hk₂ hS hP => ?_
        · show b < h'.objs.size
          rw [hsz]
          simp at m
          rcases m with m | m | m | m | m | m | m <;> (rw [m]; first | exact Nat.lt_add_of_lt_add_right (by assumption) | exact Nat.add_lt_add_left (by decide) _ | exact Nat.lt_add_of_pos_right (by decide) | exact Nat.lt_of_lt_of_le (by assumption) (Nat.le_add_right _ _))
        have kk : Ext s₁.heap h₂ := fun b o e => hk₂ b o (fun m => by
          have lt := Heap.lt_size e
          simp at m
          rcases m with m | m | m | m <;> (rw [m] at lt; first | exact absurd lt (Nat.not_lt.mpr (Nat.le_add_right _ _)) | exact absurd lt (Nat.lt_irrefl _))) (hk b o e)
        have kp : Kp s { s₁ with heap := h₂ } := k₁.trans ⟨h₂, s₁.toks, rfl, kk⟩
        have hF : ∀ b ∈ F, b < s₁.heap.objs.size := fun b m => let ⟨o, e⟩ := f₁.old b m; Heap.lt_size e
        refine h _ _ kp (list_py (vs := acc.toList) ⟨_, hideAll_get F hS fun m => ?_, rfl, c, by simp⟩ (pairs_all2 (h := hid F s₁.heap) hv1 hv2 hlen (hP.hid fun b m => ?_)))
        · have := hF _ m
          rw [show ({ s₁ with heap := h' } : Shared).heap.objs.size = s₁.heap.objs.size + 5 from hsz] at this
          exact absurd this (Nat.not_lt.mpr (Nat.le_add_right _ _))
        · have := hF b m
          show b < h'.objs.size + 1
          rw [hsz]; exact Nat.lt_of_lt_of_le this (Nat.le_add_right _ 6)
  rw [hse] at key ⊢
  exact evalArgs_plain key
end
end Mine
end

section
open PySem PySem.W PySem.Calls PySem.Spec PyProof.Rows
set_option linter.unusedVariables false
set_option maxRecDepth 100000
namespace Mine
section
variable {prog : Program} {w : World} {A : Around} {base : Heap} {F : List Addr} {env : Env} {σ : List (Str × Ty)} {n : Nat}
theorem Md.by {x : List UInt8} {name : Str} {id : String} (sl : Slot "bytes" name id) (ty : typeOf (.builtin id) = pure (.type "method_descriptor")) : Md F (By x) name id :=
  ⟨fun v s q => by obtain ⟨t, rfl⟩ := q; exact ⟨"bytes", FB.plainAttrs_bytes, sl, typeIs_bytes s _ t, fun _ e => nomatch e⟩, ty⟩
theorem Fn.lstrip {b c : List UInt8} (hb : b.length ≤ 1000) : Fn prog w n base (.builtin "bytes.lstrip") [By b, By c] (By (b.dropWhile c.toArray.contains)) := .mk fun A F s vs R hb' hF ha Q E h => by
  cases ha with
  | cons q r => cases r with
    | cons q' r =>
      cases r
      obtain ⟨t, rfl⟩ := q
      obtain ⟨u, rfl⟩ := q'
      refine call_gives slot_bytes_lstrip (typeIs_bytes s _ t) entry_bytes_lstrip (args_bytes_lstrip_2 _ _) (gives_bytes_lstrip _ _ t u) ?_
      by_cases e : ((b.toArray.toList.dropWhile c.toArray.contains).length == b.toArray.size) = true
      · rw [if_pos e]
        have : b.dropWhile c.toArray.contains = b := by
          have e' : (b.dropWhile c.toArray.contains).length = b.length := by simpa using e
          have s := List.dropWhile_suffix c.toArray.contains (l := b)
          exact s.eq_of_length e'
        rw [this] at h
        exact h _ _ (Kp.refl s) ⟨t, rfl⟩
      · rw [if_neg e]
        have hl : (b.dropWhile c.toArray.contains).length ≤ b.length := (List.dropWhile_suffix c.toArray.contains (l := b)).length_le
        refine ⟨by simp; have := sizeLine_eq; omega, h _ _ (Kp.tok s _) ⟨_, rfl⟩⟩
theorem Fn.count {ns : List Int} {k : Int} : Fn prog w n base (.builtin "list.count") [TL ns, TI k] (TI (ns.count k : Nat)) := .mk fun A F s vs R hb hF ha Q E h => by
  cases ha with
  | cons q r => cases r with
    | cons q' r =>
      cases r
      obtain ⟨a, vs, rfl, hl, hv⟩ := py_list q
      obtain ⟨t, rfl⟩ := py_int q'
      exact count_list_ints (isl hl) (all2_ints hv) (h _ _ (Kp.tok s _) (int_py _ _ _))
theorem BinR.mulB {b : List UInt8} {k : Int} (hb : b ≠ []) (hs : b.length ≤ 16) (h0 : -1000 ≤ k) (h1 : k ≤ 1000) : BinR prog w .Mult (By b) (TI k) (By (List.replicate k.toNat b).flatten) := .mk fun A F s v₁ v₂ R _ q₁ q₂ Q E h => by
  obtain ⟨t, rfl⟩ := q₁; obtain ⟨u, rfl⟩ := py_int q₂
  exact bytes_mul_any hb (by omega) (by omega) hs fun t' k' => h _ _ (Kp.tok s _) ⟨_, rfl⟩
theorem CmpR.eqB {a b : List UInt8} : CmpR prog w .Eq (By a) (By b) (a == b) := .mk fun A F s v₁ v₂ R _ q₁ q₂ Q E h => by
  obtain ⟨t, rfl⟩ := q₁; obtain ⟨u, rfl⟩ := q₂
  exact eq_bytes (h s (Kp.refl s))
theorem Fn.bytesL {ns : List Int} (hr : ∀ k ∈ ns, 0 ≤ k ∧ k < 256) (hz : ns.length ≤ 1000) : Fn prog w n base (.type "bytes") [TL ns] (By (ns.map fun k => k.toNat.toUInt8)) := .mk fun A F s vs R hb hF ha Q E h => by
  cases ha with
  | cons q r =>
    cases r
    obtain ⟨a, vs, rfl, hl, hv⟩ := py_list q
    have el := hv.length
    have e' : sizeLine = 16777216 := sizeLine_eq
    exact call_bytes_ints (isl hl) (all2_ints hv) hr (by simp at el; omega) R.hh fun h' t k hk => h _ _ ⟨h', k, rfl, hk⟩ ⟨t, rfl⟩
end
end Mine
end

section
open PySem PySem.W PySem.Calls PySem.Spec PyProof.Rows
set_option linter.unusedVariables false
set_option maxRecDepth 100000
namespace Mine
section
variable {prog : Program} {w : World} {A : Around} {base : Heap} {F : List Addr} {env : Env} {σ : List (Str × Ty)} {n : Nat}
/-- for (a, b) in a list of tuples -/
theorem It.listT {elts : List Expr} {kk : Nat} {px : Pos} {iter : Expr} {ds : List PyData} (R : Room n A) (he : Ev prog w A base F env σ iter (Py (.list ds))) (ht : ∀ d ∈ ds, ∃ xs, d = .tuple xs) :
    It prog w A base F env σ (.Tuple elts kk px) iter ds.length (fun i => Py (ds.getD i .none)) := .mk fun s f Q E h =>
  he.go s f _ E fun v s₁ k₁ q₁ => by
    obtain ⟨a, vs, rfl, hl, hv⟩ := py_list q₁
    have f₁ := f.keeps k₁.ext
    have hla : s₁.heap.IsList a vs.toArray := let ⟨o, e, r⟩ := hl; ⟨o, of_hideAll F e, r⟩
    have haF : a ∉ F := by obtain ⟨o, e, _⟩ := hl; exact hid_notin e
    have hne : a ≠ s₁.heap.objs.size := by obtain ⟨o, e, _⟩ := hla; exact fun z => none_some (size_none _) (z ▸ e)
    refine wpAny_pyIter_list hla ?_
    have k₂ := Kp.push s₁ { cls := .type "list_iterator", data := .fields #[.ref a, .int 0 0] }
    have Wk := Walks.list (prog := prog) (w := w) R.hh s₁.heap.objs.size a hne vs.toArray
    have hlen : vs.toArray.size = ds.length := by simp [hv.length]
    rw [hlen] at Wk
    have isT : ∀ (i : Nat) (v : Value), vs.toArray[i]? = some v → ∃ T : Addr, v = .ref T := fun i v e => by
      have e' : vs[i]? = some v := by simpa using e
      have hi : i < vs.length := (List.getElem?_eq_some_iff.mp e').1
      have hi' : i < ds.length := by rw [← hv.length]; exact hi
      obtain ⟨v', e2, q⟩ := hv.get (i := i) (d := ds[i]) (by simp [hi'])
      rw [e'] at e2; cases e2
      obtain ⟨xs, ex⟩ := ht ds[i] (List.getElem_mem hi')
      rw [ex] at q
      obtain ⟨T, _, rfl, _⟩ := py_tuple q
      exact ⟨T, rfl⟩
    have W2 : Wks prog w A (.Tuple elts kk px) s₁.heap.objs.size [s₁.heap.objs.size, a] [s₁.heap.objs.size] ds.length (fun i v _ _ => vs.toArray[i]? = some v) (fun i h => h.IsListIter s₁.heap.objs.size a i ∧ h.IsList a vs.toArray) :=
      ⟨Wk.sub, Wk.frame, fun i s Q R E hR hi st hQ => Wk.item i s _ E hi st fun v h' tk hP st' hk => by
        obtain ⟨T, rfl⟩ := isT i v hP
        exact hR _ _ (wpAny_letOwnedTupleGo_listiter (s := { s with heap := h', toks := tk }) st'.1 (hQ _ h' tk hP st' hk)), Wk.done, Wk.self⟩
    have hI : (s₁.heap.push { cls := .type "list_iterator", data := .fields #[.ref a, .int 0 0] }).get? s₁.heap.objs.size = some { cls := .type "list_iterator", data := .fields #[.ref a, .int 0 0] } := Heap.get?_push_size _ rfl
    refine h _ _ _ _ _ _ (k₁.trans k₂) W2 (fun b m => ?_) (fun b m => ?_) ⟨⟨_, hI, rfl, rfl⟩, hla.at fun o e => k₂.ext _ o e⟩ (fun i h st b m => ?_) fun F' i v h₀ h' hi hPv ho he => ?_
    · rw [List.mem_singleton.mp m]; exact ⟨none_of k₁.ext (size_none _), _, hI⟩
    · rcases List.mem_cons.mp m with rfl | m
      · exact ⟨size_out f₁.old, _, hI⟩
      · rw [List.mem_singleton.mp m]
        obtain ⟨o, e, _⟩ := hla
        exact ⟨haF, o, k₂.ext _ o e⟩
    · rw [List.mem_singleton.mp m]; obtain ⟨o, e, _⟩ := st.1; exact ⟨o, e⟩
    · have hd : ds[i]? = some (ds.getD i .none) := by simp [hi]
      obtain ⟨v', e', q'⟩ := hv.get hd
      have : v = v' := by
        have hPv' : vs.toArray[i]? = some v := hPv
        simp only [List.getElem?_toArray] at hPv'
        rw [e'] at hPv'; exact (Option.some.inj hPv').symm
      subst this
      exact (Py _).mono _ _ _ he ((Py _).mono _ _ _ (hid_ext' fun b o nm e => ⟨k₂.ext b o e, fun m => (List.mem_append.mp m).elim (fun m => none_some (size_none s₁.heap) ((List.mem_singleton.mp m) ▸ e)) nm⟩) q')
theorem Ev.dictC {kx vx iter : Expr} {x : Str} {px : Pos} {ifs : List Expr} {scope : Scope} {pos : Pos} {cl : List (Str × Addr)} {σc : List (Str × Ty)} {n : Nat} {τ : Nat → Ty} {b : Nat → Bool} {dk : Nat → Str} {dv : Nat → Int}
    (hi : It prog w A base F env σ (.Name x px) iter n τ) (hclos : closureFor scope env = pure cl) (hf : Frees scope cl env σ cl σc) (hsz : n ≤ 1000)
    (htest : ∀ C Fc i, i < n → Trs prog w A base Fc (cenvOf scope cl C env) ((x, τ i) :: σc) ifs (b i))
    (hkx : ∀ C Fc i, i < n → b i = true → Ev prog w A base Fc (cenvOf scope cl C env) ((x, τ i) :: σc) kx (TS (dk i)))
    (hvx : ∀ C Fc i, i < n → b i = true → Ev prog w A base Fc (cenvOf scope cl C env) ((x, τ i) :: σc) vx (TI (dv i))) (hM : ∃ o, base.get? mainGlobals = some o)
    (ok : compOk scope x (cl.map (·.1)) = true := by kernel_rfl) (hs : ∀ x, foldedSetIterable iter env x = pure x := by intro _; rfl) :
    Ev prog w A base F env σ (.DictComp kx vx [⟨.Name x px, iter, ifs, 0⟩] scope pos) (Td prog w (accD b dk dv n)) := by
  obtain ⟨h1, h2, h3, h4⟩ := ok_parts ok
  exact Ev.dictComp hi hclos hf.reach h1 h2 (hname hf h3 h4) (fun i p m => .tail _ m) (Nat.le_trans hsz (by decide)) htest hkx hvx hM hs
theorem Bx.dictC {W : List Addr} {V : Gd} {rest : List Stmt} {R : Flow → Heap → Prop} {y : Str} {py spos : Pos} {kx vx iter : Expr} {x : Str} {px : Pos} {ifs : List Expr} {scope : Scope} {pos : Pos} {cl : List (Str × Addr)} {σc : List (Str × Ty)} {n : Nat} {τ : Nat → Ty} {b : Nat → Bool} {dk : Nat → Str} {dv : Nat → Int}
    (hi : It prog w A base F env σ (.Name x px) iter n τ) (hclos : closureFor scope env = pure cl) (hf : Frees scope cl env σ cl σc) (hsz : n ≤ 1000)
    (htest : ∀ C Fc i, i < n → Trs prog w A base Fc (cenvOf scope cl C env) ((x, τ i) :: σc) ifs (b i))
    (hkx : ∀ C Fc i, i < n → b i = true → Ev prog w A base Fc (cenvOf scope cl C env) ((x, τ i) :: σc) kx (TS (dk i)))
    (hvx : ∀ C Fc i, i < n → b i = true → Ev prog w A base Fc (cenvOf scope cl C env) ((x, τ i) :: σc) vx (TI (dv i))) (hM : ∃ o, base.get? mainGlobals = some o)
    (hy : env.kindOf y = some .local) (hrest : Bx prog w A base W V F env ((y, Td prog w (accD b dk dv n)) :: drop y σ) rest R)
    (hsw : swapsWith (.DictComp kx vx [⟨.Name x px, iter, ifs, 0⟩] scope pos) (some (.Name y py)) spos.line env = pure true := by rfl) (ok : compOk scope x (cl.map (·.1)) = true := by kernel_rfl) (hs : ∀ x, foldedSetIterable iter env x = pure x := by intro _; rfl) :
    Bx prog w A base W V F env σ (.Assign [.Name y py] (.DictComp kx vx [⟨.Name x px, iter, ifs, 0⟩] scope pos) spos :: rest) R := by
  obtain ⟨h1, h2, h3, h4⟩ := ok_parts ok
  exact Bx.assignDict hi hclos hf.reach h1 h2 (hname hf h3 h4) (fun i p m => .tail _ m) (Nat.le_trans hsz (by decide)) htest hkx hvx hM hy hrest hsw hs
end
end Mine
end

section
open PySem PySem.W PySem.Calls PySem.Spec PyProof.Rows
set_option linter.unusedVariables false
set_option maxRecDepth 100000
namespace Mine
section
variable {prog : Program} {w : World}
/-- equality of two values, for this program and world -/
noncomputable def EqW (prog : Program) (w : World) (A : Around) (s : Shared) (y x : Value) (b : Bool) : Prop := ∀ (E : Value → Shared → Prop) (Q : Bool → Shared → Prop), Q b s → wpAny (model prog w) A (eqBool y x) Q E s
theorem EqW.of {A : Around} {s : Shared} {y x : Value} {b : Bool} (h : SeqAt.EqAt A s y x b) : EqW prog w A s y x b := fun E Q q => h prog w E Q q
open PySem.SeqAt in
theorem tuple_neW {A : Around} {E : Value → Shared → Prop} {s : Shared} {Q : Fin → Shared → Prop} (l b : Addr) (items items2 : Array Value) (n n2 : Nat) (dd dd2 : Option Addr) (sl sl2 : Array (Option Value)) (e : Nat → Bool)
    (hl : s.heap.get? l = some { cls := .type "tuple", dict := dd, data := .seq items n, slots := sl }) (hb : s.heap.get? b = some { cls := .type "tuple", dict := dd2, data := .seq items2 n2, slots := sl2 })
    (he : ∀ j (h1 : j < items.size) (h2 : j < items2.size), EqW prog w A s items[j] items2[j] (e j))
    (h : Q (.done (.ret (.bool (!((List.range (min items.size items2.size)).all e && items.size == items2.size))))) s) :
    wpAny (model prog w) A (Builtin.«tuple.__ne__» ⟨[.ref l, .ref b], []⟩) Q E s := by
    obtain ⟨hp, g, d, tk, os⟩ := s
    have f2 := AutoSeq1.sub_tuple_tuple
    have hZ : (items.toList.zip items2.toList).length = min items.size items2.size := by simp
    wp_walk using AutoSeq1.wpAny_loadPart' hl, AutoSeq1.wpAny_loadPart' hb, wpAny_forIn_list _ (fun rest b s' => b.1 = none ∧ s' = ⟨hp, g, d, tk, os⟩ ∧ ∃ i, rest = (items.toList.zip items2.toList).drop i ∧
      Q (.done (.ret (.bool (!(((List.range (min items.size items2.size)).drop i).all e && items.size == items2.size))))) ⟨hp, g, d, tk, os⟩) _
    case turn =>
      rintro ⟨y, x⟩ rest b s' ⟨hb', rfl, i, hz, hR⟩
      have hlt : i < (items.toList.zip items2.toList).length := by
        rcases Nat.lt_or_ge i (items.toList.zip items2.toList).length with h' | h'
        · exact h'
        · rw [List.drop_of_length_le h'] at hz; cases hz
      have hm : i < min items.size items2.size := hZ ▸ hlt
      have h1 : i < items.size := Nat.lt_of_lt_of_le hm (Nat.min_le_left _ _)
      have h2 : i < items2.size := Nat.lt_of_lt_of_le hm (Nat.min_le_right _ _)
      rw [List.drop_eq_getElem_cons hlt] at hz
      injection hz with hyx hrest
      have hy : y = items[i] := by have := congrArg Prod.fst hyx; simpa using this
      have hx : x = items2[i] := by have := congrArg Prod.snd hyx; simpa using this
      subst hy hx
      have hd : (List.range (min items.size items2.size)).drop i = i :: (List.range (min items.size items2.size)).drop (i + 1) := by simp [List.drop_eq_getElem_cons, hm]
      rw [hd, List.all_cons] at hR
      refine wpAny_bind (he i h1 h2 _ _ ?_)
      cases hy : e i with
      | true =>
        rw [hy] at hR
        wp_walk
        exact ⟨rfl, rfl, i + 1, hrest, by simpa using hR⟩
      | false =>
        rw [hy] at hR
        wp_walk
        exact (by simpa using hR)
    case fin =>
      rintro ⟨b1, b2⟩ s' ⟨hb', rfl, i, hz, hR⟩
      simp only at hb'
      subst hb'
      have hge : min items.size items2.size ≤ i := by
        rcases Nat.lt_or_ge i (items.toList.zip items2.toList).length with h' | h'
        · rw [List.drop_eq_getElem_cons h'] at hz; cases hz
        · exact hZ ▸ h'
      have hall : (List.range (min items.size items2.size)).drop i = [] := List.drop_of_length_le (by simpa using hge)
      rw [hall] at hR
      wp_walk
      first
        | exact hR
        | exact (by simpa using hR)
    all_goals first
      | exact ⟨rfl, rfl, 0, by simp, by simpa using h⟩
      | skip
end
end Mine
end

section
open PySem PySem.W PySem.Calls PySem.Spec PyProof.Rows
set_option linter.unusedVariables false
set_option maxRecDepth 100000
namespace Mine
/-- the same pairs -/
noncomputable def hitsI (t' : List (Str × Int)) : List (Str × Int) → Bool
  | [] => true
  | (k, v) :: r => match atI t' k with
    | none => false
    | some u => v == u && hitsI t' r
noncomputable def sameI (t t' : List (Str × Int)) : Bool := t.length == t'.length && hitsI t' t
section
variable {prog : Program} {w : World} {A : Around} {s : Shared}
theorem hits_of {kb : List (Str × Value)} {t' : List (Str × Int)} (ib : DI kb t') : ∀ {ka : List (Str × Value)} {t : List (Str × Int)}, DI ka t → KeqHits A s kb ka (hitsI t' t)
  | _, _, .nil => .nil
  | _, _, .cons k i u r => by
    rcases ib.valueAt k with ⟨m, tk, e1, e2⟩ | ⟨e1, e2⟩
    · simp only [hitsI, e2]
      exact .hit e1 (SeqAt.EqAt.int_int _ _ _ _) (hits_of ib r)
    · simp only [hitsI, e2]
      exact .miss e1
theorem EqW.dict {a b : Addr} {ka kb : List (Str × Value)} {t t' : List (Str × Int)} (ha : (a == sysModules) = false) (hb : (b == sysModules) = false) (hne : a ≠ b)
    (da : s.heap.DictOf (strKind prog w) a ka) (db : s.heap.DictOf (strKind prog w) b kb) (ia : DI ka t) (ib : DI kb t') (hu : A.units < cLine) : EqW prog w A s (.ref a) (.ref b) (sameI t t') := fun E Q hq => by
  unfold eqBool
  refine wpAny_holding ?_
  refine wpAny_ite_split (fun hab => absurd (by have := eq_of_beq hab; injection this) hne) (fun _ => ?_)
  refine wpAny_bind ?_
  show wpAny (model prog w) A (compareOp .Eq (.ref a) (.ref b)) _ E s
  refine keq_eq ha hb da db hu (fun _ => hits_of ib ia) ?_
  rw [ia.length, ib.length]
  exact wpAny_truthy_bool hq
end
end Mine
end

section
open PySem PySem.W PySem.Calls PySem.Spec PyProof.Rows
set_option linter.unusedVariables false
set_option maxRecDepth 100000
namespace Mine
theorem allT_cons {h : Heap} {vs : List Value} {T : Ty} {Ts : List Ty} (x : AllT h vs (T :: Ts)) : ∃ v r, vs = v :: r ∧ T.P v h ∧ AllT h r Ts := by
  cases x with
  | cons q r => exact ⟨_, _, rfl, q, r⟩
theorem allT_nil {h : Heap} {vs : List Value} (x : AllT h vs []) : vs = [] := by cases x; rfl
section
variable {prog : Program} {w : World}
theorem intW {A : Around} {s : Shared} (a : Int) (t u : Tok) : EqW prog w A s (.int a t) (.int a u) true := EqW.of (by have := SeqAt.EqAt.int_int (A := A) (s := s) a t a u; rwa [beq_self_eq_true] at this)
theorem CmpR.neTe {a b c d : Int} {t t' : List (Str × Int)} (hs : sameI t t' = true) : CmpR prog w .NotEq (Te prog w a b c d t) (Te prog w a b c d t') false := .mk fun A F s v₁ v₂ R hF q₁ q₂ Q E h => by
  obtain ⟨p, vs, rfl, hl, hv⟩ := q₁
  obtain ⟨p', vs', rfl, hl', hv'⟩ := q₂
  obtain ⟨x1, _, rfl, g1, hv⟩ := allT_cons hv
  obtain ⟨x2, _, rfl, g2, hv⟩ := allT_cons hv
  obtain ⟨x3, _, rfl, g3, hv⟩ := allT_cons hv
  obtain ⟨x4, _, rfl, g4, hv⟩ := allT_cons hv
  obtain ⟨x5, _, rfl, g5, hv⟩ := allT_cons hv
  obtain rfl := allT_nil hv
  obtain ⟨y1, _, rfl, k1, hv'⟩ := allT_cons hv'
  obtain ⟨y2, _, rfl, k2, hv'⟩ := allT_cons hv'
  obtain ⟨y3, _, rfl, k3, hv'⟩ := allT_cons hv'
  obtain ⟨y4, _, rfl, k4, hv'⟩ := allT_cons hv'
  obtain ⟨y5, _, rfl, k5, hv'⟩ := allT_cons hv'
  obtain rfl := allT_nil hv'
  obtain ⟨_, rfl⟩ := py_int g1; obtain ⟨_, rfl⟩ := py_int g2; obtain ⟨_, rfl⟩ := py_int g3; obtain ⟨_, rfl⟩ := py_int g4
  obtain ⟨_, rfl⟩ := py_int k1; obtain ⟨_, rfl⟩ := py_int k2; obtain ⟨_, rfl⟩ := py_int k3; obtain ⟨_, rfl⟩ := py_int k4
  obtain ⟨m, ka, rfl, sa, da, ia⟩ := g5
  obtain ⟨m', kb, rfl, sb, db, ib⟩ := k5
  have da := (of_dict_hid da).1
  have db := (of_dict_hid db).1
  have tl := ist hl
  have tl' := ist hl'
  have hu : A.units < cLine := R.u 0
  have hu1 : A.in1.units < cLine := R.u 1
  have hdict : EqW prog w A.in1 s (.ref m) (.ref m') true := by
    by_cases hne : m = m'
    · subst hne
      exact EqW.of (SeqAt.EqAt.same _)
    · rw [← hs]
      exact EqW.dict sa sb hne da db ia ib hu1
  obtain ⟨⟨cls, dd, data, sl⟩, ho, hc, n, hd⟩ := id tl
  obtain ⟨⟨cls2, dd2, data2, sl2⟩, ho2, hc2, n2, hd2⟩ := id tl'
  simp only at hc hd hc2 hd2
  subst hc hd hc2 hd2
  show wpAny (model prog w) A (richCompare .NotEq (.ref p) (.ref p')) _ E s
  refine wpAny_richCompare_same_room (op := .NotEq) tl.typeIs tl'.typeIs PySem.F.slot_tuple_ne (wpAny_call_entry PySem.F.slot_tuple_ne tl.typeIs PySem.F.entry_tuple_ne ?_ (PySem.F.args_tuple_ne_2 _ _)) hu
  refine tuple_neW p p' _ _ n n2 dd dd2 sl sl2 (fun _ => true) ho ho2 (fun j h1 h2 => ?_) ⟨_, rfl, ?_, ?_⟩
  · match j, h1, h2 with
    | 0, _, _ => exact intW _ _ _
    | 1, _, _ => exact intW _ _ _
    | 2, _, _ => exact intW _ _ _
    | 3, _, _ => exact intW _ _ _
    | 4, _, _ => exact hdict
    | j + 5, h1, _ => exact absurd h1 (by simp)
  · exact fun x => nomatch x
  · exact h s (Kp.refl s)
end
end Mine
end

section
open PySem PySem.W PySem.Calls PySem.Spec PyProof.Rows
set_option linter.unusedVariables false
set_option maxRecDepth 100000
namespace Mine
section
variable {prog : Program} {w : World} {A : Around} {base : Heap} {F : List Addr} {env : Env} {σ : List (Str × Ty)} {n : Nat}
theorem Ev.neg {e : Expr} {pos : Pos} {i : Int} (he : Ev prog w A base F env σ e (TI i)) : Ev prog w A base F env σ (.UnaryOp .USub e pos) (TI (-i)) := .mk fun s f Q E h =>
  UnaryOp_ (he.go s f _ E fun v s₁ k₁ q => by
    obtain ⟨t, rfl⟩ := py_int q
    exact neg_int (h _ _ (k₁.trans (Kp.tok s₁ _)) (int_py _ _ _)))
theorem AllT.get {h : Heap} : ∀ {vs : List Value} {Ts : List Ty}, AllT h vs Ts → ∀ {i : Nat} {T : Ty}, Ts[i]? = some T → ∃ v, vs[i]? = some v ∧ T.P v h
  | _, _, .nil, _, _, e => by simp at e
  | _, _, .cons (v := v) r rs, 0, _, e => by simp at e; subst e; exact ⟨v, rfl, r⟩
  | _, _, .cons r rs, i + 1, _, e => by simp at e; simpa using rs.get e
theorem SubR.tt {Ts : List Ty} {k : Int} {T : Ty} (h0 : 0 ≤ k) (hk : k < 2 ^ 63) (hd : Ts[k.toNat]? = some T) : SubR prog w (TT Ts) (TI k) T := .mk fun A F s v₁ v₂ R _ q₁ q₂ => by
  obtain ⟨a, vs, rfl, hl, hv⟩ := q₁
  obtain ⟨t, rfl⟩ := py_int q₂
  obtain ⟨v, e, q⟩ := hv.get hd
  refine ⟨⟨_, _, (ist hl).typeIs, PySem.F.slot_tuple_getitem.lookup⟩, fun Q E h => PyProof.Rows.getItem_tuple (j := k.toNat) (ist hl) (by omega) hk ?_ (by simpa using e) (h v s (Kp.refl s) q)⟩
  refine seqIndex_of h0 ?_
  have : k.toNat < vs.length := by
    rcases Nat.lt_or_ge k.toNat vs.length with z | z
    · exact z
    · rw [List.getElem?_eq_none_iff.mpr z] at e; cases e
  simp; omega
end
end Mine
end

section
open PySem PySem.W PySem.Calls PySem.Spec
set_option linter.unusedVariables false
namespace Mine
local macro_rules | `(tactic| walk_at "mem") => `(tactic| first | with_reducible exact List.mem_cons_self | (with_reducible refine List.mem_cons_of_mem _ ?_; walk_at "mem") | (with_reducible refine mem_drop ?_ (by decide +kernel); walk_at "mem"))
local macro_rules | `(tactic| walk_at "sub") => `(tactic| first | with_reducible exact sub_nil | (with_reducible refine sub_cons (by walk_at "mem") ?_; walk_at "sub"))

noncomputable abbrev TLL (cs : List (List Int)) : Ty := Py (.list (cs.map fun c => .list (c.map .int)))
noncomputable def keyOf (q : Int) : Str := Txt.item "abcdefg" q
noncomputable def wAt (ws : List Int) (q : Int) : Int := ws.getD q.toNat 0
noncomputable def loadsF (ws : List Int) (copy : List Int) : List Int := copy.map (wAt ws)
noncomputable def squaresF (ls : List Int) : Int := (ls.map fun l => l * l).sum
noncomputable def seenF (copy : List Int) : List (Str × Int) := accD (fun _ => true) (fun i => keyOf (copy.getD i 0)) (fun _ => 1) copy.length
noncomputable def powsF (copy : List Int) : Int := (copy.map fun q => (16 : Int) ^ q.toNat).sum
structure Ent where
  a : Int
  b : Int
  c : Int
  d : Int
  t : List (Str × Int)
  num : Int
noncomputable def entStep (ws : List Int) (told : PyData) (copy : List Int) (e : Ent) : Ent :=
  if isN told then e else ⟨1 + e.a, 3 + e.b, (loadsF ws copy).sum + e.c, squaresF (loadsF ws copy) + e.d, addC e.t (seenF copy), e.num + powsF copy⟩
noncomputable def entAt (place : Int) (copies : List (List Int)) (mark : Str) (ws : List Int) : Nat → Ent
  | 0 => ⟨0, 0, 0, 0, [], 0⟩
  | i + 1 => entStep ws (toldF (copies.getD i []) place mark) (copies.getD i []) (entAt place copies mark ws i)
noncomputable def nearF (place : Int) (ways : List Int) : List Int := (List.range 7).map fun (q : Nat) => if (ways.length : Int) == 9 then ((ways.count (((q : Int) - place).fmod 7) : Nat) : Int) else 0
noncomputable def zipMul (f : Int → Int → Int) (near ws : List Int) : List Int := (List.range 7).map fun q => f (near.getD q 0) (ws.getD q 0)
noncomputable def sum0F (place : Int) (near ws : List Int) (plane : Bool) : Int := if plane then ws.sum + 2 * wAt ws place else (zipMul (fun n l => n * l) near ws).sum
noncomputable def sum1F (place : Int) (near ws : List Int) (plane : Bool) : Int := if plane then squaresF ws + 2 * wAt ws place * wAt ws place else (zipMul (fun n l => n * l * l) near ws).sum
noncomputable def wordF (place : Int) (near : List Int) (plane : Bool) : List UInt8 :=
  if plane then ((List.replicate (6 - place).toNat [66]).flatten ++ [68]) ++ (List.replicate place.toNat [66]).flatten
  else (((pick near none none (some (-1))).map fun n => 65 + n).map fun k => k.toNat.toUInt8).dropWhile ([65] : List UInt8).toArray.contains
noncomputable def placesF (near : List Int) : List (Str × Int) := accD (fun q => near.getD q 0 != 0) (fun q => keyOf q) (fun q => near.getD q 0) 7
noncomputable def numF (place : Int) (e : Ent) : Int := if place.fmod 2 != 0 then e.num else -e.num

structure PlaceOk (place : Int) (cs : List (List Int)) (mark : Str) (ws ways : List Int) (plane : Bool) : Prop where
  p0 : 0 ≤ place
  p6 : place ≤ 6
  wl : ws.length = 7
  wb : ∀ x ∈ ws, x.natAbs ≤ 1000
  yl : ways.length ≤ 100
  cl : ∀ c ∈ cs, c.length ≤ 7
  cq : ∀ c ∈ cs, ∀ q ∈ c, 0 ≤ q ∧ q ≤ 6
  told : ∀ c ∈ cs, toldOk c place mark = true
  due : ∀ c ∈ cs, dueOk c place = true
  same : ∀ c ∈ cs, PyData.eqv (toldF c place mark) (dueF c place) = true
  tl : ∀ i, i ≤ cs.length → (entAt place cs mark ws i).t.length ≤ 100
  near : ∀ n ∈ nearF place ways, 0 ≤ n ∧ n ≤ 100
  ea : (entAt place cs mark ws cs.length).a = (nearF place ways).getD place.toNat 0
  eb : (entAt place cs mark ws cs.length).b = (nearF place ways).sum
  ec : (entAt place cs mark ws cs.length).c = sum0F place (nearF place ways) ws plane
  ed : (entAt place cs mark ws cs.length).d = sum1F place (nearF place ways) ws plane
  et : sameI (entAt place cs mark ws cs.length).t (placesF (nearF place ways)) = true
  cnt : countC (entAt place cs mark ws cs.length).t (entAt place cs mark ws cs.length).t.length = if (ways.length : Int) == 9 then 9 else 0
  ap : apOk (numF place (entAt place cs mark ws cs.length)) = true
  word : (apF (numF place (entAt place cs mark ws cs.length)) == wordF place (nearF place ways) plane) = true

/-- what _law_place reaches -/
structure Pc (prog : Program) (w : World) (base : Heap) : Prop where
  nl : base.NoLimit
  mg : ∃ o, base.get? mainGlobals = some o
  len : Gn base "len" (.builtin "len")
  int : Gn base "int" (.type "int")
  str : Gn base "str" (.type "str")
  range : Gn base "range" (.type "range")
  sum : Gn base "sum" (.builtin "sum")
  isi : Gn base "isinstance" (.builtin "isinstance")
  tup : Gn base "tuple" (.type "tuple")
  list : Gn base "list" (.type "list")
  zip : Gn base "zip" (.type "zip")
  bytes : Gn base "bytes" (.type "bytes")
  abs : Gn base "abs" (.builtin "abs")
  dm : Gn base "divmod" (.builtin "divmod")
  parse : ∃ p, Gf base (stmtAt 5) "parse229" p
  told : ∃ p, Gf base (stmtAt 19) "_law_told" p
  due : ∃ p, Gf base (stmtAt 20) "_law_due" p
  stats : ∃ p, Gf base (stmtAt 9) "add_func_stats" p
  addC : ∃ p, Gf base (stmtAt 10) "add_callers" p
  count : ∃ p, Gf base (stmtAt 11) "count_calls" p
  ap : ∃ p, Gf base (stmtAt 7) "Int2AP" p
  exc : ∃ C4 B newId initId bm, Oc base "error_proto" C4 B newId initId bm

theorem isN_eq {d : PyData} (h : isN d = true) : d = .none := by cases d <;> first | rfl | cases h
theorem host_lay (i : Int) : (PyData.tuple [.str "host", .int i]).canLay0 = true := by
  simp only [PyData.canLay0, PyData.canLayAll0, Bool.and_true]; decide +kernel
theorem told_lay (copy : List Int) (place : Int) (mark : Str) : (toldF copy place mark).canLay0 = true ∧ (toldF copy place mark).depth ≤ 800 := by
  unfold toldF; split
  · exact ⟨rfl, by decide⟩
  · exact ⟨host_lay _, by show max 0 (max 0 0) + 1 ≤ 800; decide⟩
theorem due_lay (copy : List Int) (place : Int) : (dueF copy place).canLay0 = true := by
  unfold dueF; split
  · rfl
  · exact host_lay _
theorem pick_mem {α : Type} {ds : List α} {lo hi st : Option Int} {x : α} (h : x ∈ pick ds lo hi st) : x ∈ ds := by
  unfold pick at h
  obtain ⟨i, _, e⟩ := List.mem_filterMap.mp h
  exact List.mem_of_getElem? e
section
variable {prog : Program} {w : World} {A : Around} {base : Heap} {F : List Addr} {env : Env} {σ : List (Str × Ty)} {n : Nat}
theorem It.len {tg iter : Expr} {m : Nat} {τ : Nat → Ty} (h : It prog w A base F env σ tg iter n τ) (e : n = m) : It prog w A base F env σ tg iter m τ := e ▸ h
theorem Md.pl {ds : List PyData} {name : Str} {id : String} (sl : Slot "list" name id) (ty : typeOf (.builtin id) = pure (.type "method_descriptor")) : Md F (Pl ds) name id :=
  ⟨fun v s q => by
    obtain ⟨a, vs, rfl, ⟨n, p⟩, _⟩ := q
    have p' := of_hideAll F p
    exact ⟨"list", PySem.F.plainAttrs_list, sl, Heap.IsList.typeIs ⟨_, p', rfl, _, rfl⟩, fun _ e => by cases e; exact ⟨_, p', rfl⟩⟩, ty⟩
theorem Fn.countP {ns : List Int} {k : Int} : Fn prog w n base (.builtin "list.count") [Pl (ns.map .int), TI k] (TI (ns.count k : Nat)) := .mk fun A F s vs R hb hF ha Q E h => by
  cases ha with
  | cons q r => exact Fn.count.go A F s _ R hb hF (.cons (Pl.le _ _ q) r) Q E h
end
theorem wAt_mem {ws : List Int} {q : Int} (h : ws.length = 7) (h0 : 0 ≤ q) (h6 : q ≤ 6) : wAt ws q ∈ ws := by
  have hq : q.toNat < ws.length := by omega
  unfold wAt
  simp [List.getD, hq]
theorem wAt_get {ws : List Int} {q : Int} (h : ws.length = 7) (h0 : 0 ≤ q) (h6 : q ≤ 6) : (ws.map PyData.int)[q.toNat]? = some (.int (wAt ws q)) := by
  have hq : q.toNat < ws.length := by omega
  unfold wAt
  simp [List.getD, hq]
theorem getD_get {l : List Int} {q : Nat} (h : q < l.length) : (l.map PyData.int)[q]? = some (.int (l.getD q 0)) := by
  simp [List.getD, h]
theorem getD_mem' {l : List Int} {q : Nat} (h : q < l.length) : l.getD q 0 ∈ l := by
  simp [List.getD, h]
theorem pick_rev {l : List Int} (h : l.length = 7) : pick l none none (some (-1)) = l.reverse := by
  have e : sliceRange (sliceBounds none none (some (-1)) 7).1 (sliceBounds none none (some (-1)) 7).2.1 (sliceBounds none none (some (-1)) 7).2.2 = [6, 5, 4, 3, 2, 1, 0] := by decide +kernel
  unfold pick
  rw [h, e]
  match l, h with
  | [a, b, c, d, e, f, g], _ => rfl
theorem pairs_len {ds es : List Int} (h : ds.length = es.length) : (pairsP ds es).length = ds.length := by unfold pairsP; simp [h]
theorem pairs_get {ds es : List Int} (h : ds.length = es.length) {i : Nat} (hi : i < ds.length) : (pairsP ds es).getD i .none = .tuple [.int (ds.getD i 0), .int (es.getD i 0)] := by
  unfold pairsP
  have : i < es.length := by omega
  rw [List.getD, List.getElem?_eq_getElem (by simp; omega)]
  simp [List.getD, hi, this]
theorem pairs_tup {ds es : List Int} : ∀ d ∈ pairsP ds es, ∃ xs, d = .tuple xs := by
  unfold pairsP
  intro d hd
  obtain ⟨i, h1, e⟩ := List.getElem_of_mem hd
  rw [List.getElem_zipWith] at e
  exact ⟨_, e.symm⟩
theorem nearF_len (place : Int) (ways : List Int) : (nearF place ways).length = 7 := by unfold nearF; simp
theorem abc_key (q : Int) (h0 : 0 ≤ q) (h6 : q ≤ 6) {prog : Program} {w : World} : SubR prog w (TS "abcdefg") (TI q) (TS (keyOf q)) :=
  SubR.strItem (by show -((7 : Nat) : Int) ≤ q; omega) (by show q < ((7 : Nat) : Int); omega) (by decide)
section
variable {prog : Program} {w : World} {A : Around} {base : Heap} {F : List Addr} {z : Fv} {L a : Addr} {place : Int} {cs : List (List Int)} {mark : Str} {ws ways : List Int} {plane : Bool} {fs : List Addr} {l : List Env}
set_option maxRecDepth 100000 in
set_option maxHeartbeats 4000000 in
theorem place_body (R : Room 8 A) (P : Pc prog w base) (ok : PlaceOk place cs mark ws ways plane) (hfr : A.frames = some (envAt (stmtAt 21) z L a :: l)) (hlf : Lf fs l) (hfs : ∀ b ∈ fs, b ∈ F ∧ base.get? b = none) (hdis : ∀ b ∈ ftAt (stmtAt 21) z L, b ∉ fs) :
    Bp prog w fs A base (ftAt (stmtAt 21) z L) (Gu (ftAt (stmtAt 21) z L ++ fs) fs) (ftAt (stmtAt 21) z L ++ F) (envAt (stmtAt 21) z L a)
      [("place", TI place), ("copies", TLL cs), ("mark", TS mark), ("weights", TL ws), ("ways", Pl (ways.map .int)), ("plane", TB plane)] (bodyOf (stmtAt 21)) (Ret (TB true) (ftAt (stmtAt 21) z L ++ F)) := by
  have R1 : Room 1 A := R.le (by decide)
  have e' : sizeLine = 16777216 := sizeLine_eq
  have p0 := ok.p0
  have p6 := ok.p6
  have wl := ok.wl
  obtain ⟨pp, gp⟩ := P.parse
  obtain ⟨pt, gt⟩ := P.told
  obtain ⟨pd, gd⟩ := P.due
  obtain ⟨ps, gs⟩ := P.stats
  obtain ⟨pa, ga⟩ := P.addC
  obtain ⟨pc, gc⟩ := P.count
  obtain ⟨pi, gi⟩ := P.ap
  obtain ⟨C4, B, newId, initId, bm, O⟩ := P.exc
  have hfs' : ∀ b ∈ fs, b ∈ ftAt (stmtAt 21) z L ++ F ∧ base.get? b = none := fun b m => ⟨List.mem_append_right _ (hfs b m).1, (hfs b m).2⟩
  refine Bp.assign (T := Te prog w 0 0 0 0 []) hdis (Ev.tuple (Evs.cons Ev.cons_int (Evs.cons Ev.cons_int (Evs.cons Ev.cons_int (Evs.cons Ev.cons_int (Evs.cons (Ev.newD P.mg) Evs.nil)))))) (.inl rfl) ?_
  refine Bp.assign (T := TI 0) hdis Ev.cons_int (.inl rfl) ?_
  let e : Nat → Ent := entAt place cs mark ws
  have he0 : e 0 = ⟨0, 0, 0, 0, [], 0⟩ := rfl
  refine Bp.loop (n := cs.length) (τ := fun i => TL (cs.getD i []))
    (fun i => [("entry", Te prog w (e i).a (e i).b (e i).c (e i).d (e i).t), ("number", TI (e i).num), ("place", TI place), ("copies", TLL cs), ("mark", TS mark), ("weights", TL ws), ("ways", Pl (ways.map .int)), ("plane", TB plane)])
    hdis hfs' (((It.list R Ev.name).len (by simp)).sub (fun i hi => ?_)) (by rw [he0]; walk_at "sub") rfl (fun i hi wr => ?_) ?_
  · exact Le.of (by simp [List.getD, hi])
  · have hmem : cs.getD i [] ∈ cs := by simp [List.getD, hi]
    have hfs2 : ∀ b ∈ fs, b ∈ wr ++ (ftAt (stmtAt 21) z L ++ F) ∧ base.get? b = none := fun b m => ⟨List.mem_append_right _ (hfs' b m).1, (hfs' b m).2⟩
    generalize hc : cs.getD i [] = copy at hmem ⊢
    have cl := ok.cl copy hmem
    have cq := ok.cq copy hmem
    have cqi : ∀ j, j < copy.length → 0 ≤ copy.getD j 0 ∧ copy.getD j 0 ≤ 6 := fun j hj => cq _ (getD_mem' hj)
    have es : e (i + 1) = entStep ws (toldF copy place mark) copy (e i) := by show entStep ws (toldF (cs.getD i []) place mark) (cs.getD i []) (e i) = _; rw [hc]
    refine Bp.assignU (T := Py (toldF copy place mark)) (R.le (by decide)) hfr hlf hfs2 rfl hdis (told_fn gt.has (ok.told copy hmem) gp P.nl P.len P.int P.str P.range O) gt.gn gt.has.cal (Evs.cons Ev.name (Evs.cons Ev.name (Evs.cons Ev.name Evs.nil))) rfl rfl rfl (.inl rfl) ?_
    refine Bx.ite (Tr.cmp R1 Ev.name (Ev.call R ((due_fn gd.has P.nl (ok.due copy hmem) P.len P.str P.int).le (by decide)) gd.gn gd.has.cal (Evs.cons Ev.name (Evs.cons Ev.name Evs.nil)) rfl rfl rfl)
      (CmpR.neD (told_lay _ _ _).1 (due_lay _ _) (Nat.le_trans (Nat.min_le_left _ _) (told_lay _ _ _).2))) (fun c => ?_) (fun _ => Bx.done ?_)
    · rw [ok.same copy hmem] at c; cases c
    refine Bx.ite (Tr.cmp R1 Ev.name Ev.cons_none CmpR.isNotNone) (fun c => ?_) (fun c => Bx.done (Bx.nil fun h' S => ?_))
    · have es' : e (i + 1) = ⟨1 + (e i).a, 3 + (e i).b, (loadsF ws copy).sum + (e i).c, squaresF (loadsF ws copy) + (e i).d, addC (e i).t (seenF copy), (e i).num + powsF copy⟩ := by
        rw [es]; unfold entStep; rw [if_neg (by intro h; rw [h] at c; cases c)]
      refine Bx.comp (n := copy.length) (τ := fun i => TI (copy.getD i 0)) (b := fun _ => true) (d := fun i => .int (wAt ws (copy.getD i 0))) (cl := [("weights", L + 2)]) (σc := [("weights", TL ws)]) (It.ints R Ev.name) rfl
        (.cons ⟨by walk_at "mem", rfl, rfl, rfl, fun _ => rfl⟩ .nil) (by omega) (fun _ _ _ _ => Trs.nil) (fun C Fc i hi _ => Ev.item R1 Ev.name Ev.name (SubR.list (cqi i hi).1 (by have := (cqi i hi).2; omega) (wAt_get wl (cqi i hi).1 (cqi i hi).2))) rfl ?_
      have hl1 : doneTo (fun _ => true) (fun i => PyData.int (wAt ws (copy.getD i 0))) copy.length = (loadsF ws copy).map .int := by
        rw [doneTo_map copy 0 (fun q => PyData.int (wAt ws q))]; unfold loadsF; rw [List.map_map]; rfl
      rw [hl1]
      have pw : ∀ i, i < copy.length → (Builtin.Int.intBits 16 : Int) * copy.getD i 0 ≤ 2 ^ 27 := fun i hi => by
        have := (cqi i hi).2
        rw [show (Builtin.Int.intBits 16 : Int) = 5 by decide +kernel]; omega
      have ll : (loadsF ws copy).length = copy.length := by unfold loadsF; simp
      have lb : ∀ i, i < (loadsF ws copy).length → ((loadsF ws copy).getD i 0).natAbs ≤ 1000 := fun i hi => by
        obtain ⟨q, hq, eq⟩ := List.mem_map.mp (getD_mem' hi)
        rw [show (loadsF ws copy).getD i 0 = wAt ws q from eq.symm]
        exact ok.wb _ (wAt_mem wl (cq q hq).1 (cq q hq).2)
      refine Bx.assign (T := TI (squaresF (loadsF ws copy))) (Ev.call R (Fn.sum (ns := (loadsF ws copy).map fun l => l * l)) P.sum Cal.builtin (Evs.cons (Ev.ref (Pl.le' (by rw [doneTo_map (loadsF ws copy) 0 (fun l => PyData.int (l * l)), List.map_map]; rfl))
        (Ev.comp (n := (loadsF ws copy).length) (τ := fun i => TI ((loadsF ws copy).getD i 0)) (b := fun _ => true) (d := fun i => .int ((loadsF ws copy).getD i 0 * (loadsF ws copy).getD i 0)) (cl := []) (σc := []) (It.ints R (Ev.ref Pl.le Ev.name)) rfl .nil (by omega) (fun _ _ _ _ => Trs.nil)
          (fun C Fc i hi _ => Ev.bin R1 Ev.name Ev.name (BinR.mul (small_mul (Nat.lt_of_le_of_lt (lb i hi) (by decide))))))) Evs.nil) rfl rfl rfl) (.inl rfl) ?_
      refine Bx.assign (T := Te prog w (e (i + 1)).a (e (i + 1)).b (e (i + 1)).c (e (i + 1)).d (e (i + 1)).t) ?_ (.inl rfl) ?_
      · rw [es']
        refine Ev.call R ((stats_fn gs.has ga P.nl P.mg (ok.tl i (by omega)) (Nat.le_trans (accD_len _ _ _ _) (by omega)) P.isi P.tup).le (by decide)) gs.gn gs.has.cal (Evs.cons Ev.name (Evs.cons (Ev.tuple (Evs.cons Ev.cons_int (Evs.cons Ev.cons_int (Evs.cons
          (Ev.call R (Fn.sum (ns := loadsF ws copy)) P.sum Cal.builtin (Evs.cons (Ev.ref Pl.le Ev.name) Evs.nil) rfl rfl rfl) (Evs.cons Ev.name (Evs.cons ?_ Evs.nil)))))) Evs.nil)) rfl rfl rfl
        exact Ev.dictC (n := copy.length) (τ := fun i => TI (copy.getD i 0)) (b := fun _ => true) (dk := fun i => keyOf (copy.getD i 0)) (dv := fun _ => 1) (cl := []) (σc := []) (It.ints R Ev.name) rfl .nil (by omega) (fun _ _ _ _ => Trs.nil)
          (fun C Fc i hi _ => Ev.item R1 Ev.cons_str Ev.name (abc_key _ (cqi i hi).1 (cqi i hi).2)) (fun C Fc i hi _ => Ev.cons_int) P.mg
      refine Bx.aug (T₁ := TI (e i).num) (T₂ := TI (powsF copy)) (T := TI (e (i + 1)).num) R1 (by walk_at "mem") ?_ (fun A F s v₁ v₂ R _ q₁ q₂ Q E h => ?_) (.inl rfl) (Bx.done (Bx.nil fun h' S => S.less (by walk_at "sub")))
      · exact Ev.call R (Fn.sum (ns := copy.map fun q => (16 : Int) ^ q.toNat)) P.sum Cal.builtin (Evs.cons (Ev.ref (Pl.le' (by rw [doneTo_map copy 0 (fun q => PyData.int ((16 : Int) ^ q.toNat)), List.map_map]; rfl))
          (Ev.comp (n := copy.length) (τ := fun i => TI (copy.getD i 0)) (b := fun _ => true) (d := fun i => .int ((16 : Int) ^ (copy.getD i 0).toNat)) (cl := []) (σc := []) (It.ints R Ev.name) rfl .nil (by omega) (fun _ _ _ _ => Trs.nil)
            (fun C Fc i hi _ => Ev.bin R1 Ev.cons_int Ev.name (BinR.pow (cqi i hi).1 (pw i hi))))) Evs.nil) rfl rfl rfl
      · obtain ⟨t1, rfl⟩ := py_int q₁
        obtain ⟨t2, rfl⟩ := py_int q₂
        exact PyProof.Rows.iadd_int (by rw [es'] at h; exact h _ _ (Kp.tok s _) (int_py _ _ _))
    · have es' : e (i + 1) = e i := by
        rw [es]; unfold entStep; rw [if_pos (by simpa using c)]
      show Sd _ _ _ _ _ _
      rw [es']; exact S.less (by walk_at "sub")
  · have hE : e cs.length = entAt place cs mark ws cs.length := rfl
    generalize hen : e cs.length = en
    rw [hE] at hen
    have ea := ok.ea; have eb := ok.eb; have ec := ok.ec; have ed := ok.ed; have et := ok.et; have cnt := ok.cnt; have ap := ok.ap; have word := ok.word
    have nb := ok.near
    rw [hen] at ea eb ec ed et cnt ap word
    have nlen := nearF_len place ways
    refine Bx.assign (T := TL (nearF place ways)) (Ev.ref (Pl.le' ?_) (Ev.comp (n := 7) (τ := fun i => TI i) (b := fun _ => true) (d := fun i => .int (if (ways.length : Int) == 9 then ((ways.count (((i : Int) - place).fmod 7) : Nat) : Int) else 0)) (cl := [("ways", L + 3), ("place", L + 1)]) (σc := [("ways", Pl (ways.map .int)), ("place", TI place)])
      ((It.range R (Ev.call R (Fn.range1 (a := 7)) P.range Cal.type (Evs.cons Ev.cons_int Evs.nil) rfl rfl rfl) (by decide) (by decide) (by decide) (by decide) rfl).sub (fun i hi => Le.of (by simp))) rfl
      (.cons ⟨by walk_at "mem", rfl, rfl, rfl, fun _ => rfl⟩ (.cons ⟨by walk_at "mem", rfl, rfl, rfl, fun _ => rfl⟩ .nil)) (by decide) (fun _ _ _ _ => Trs.nil) (fun C Fc i hi _ => ?_))) (.inr ⟨rfl, L + 4, rfl, ?_⟩) ?_
    · rw [doneTo_all]; unfold nearF; rw [List.map_map]; rfl
    · refine Ev.ifExp (Tr.cmp R1 (Ev.call R (Fn.lenI (ns := ways) (by have := ok.yl; omega)) P.len Cal.builtin (Evs.cons (Ev.ref Pl.le Ev.name) Evs.nil) rfl rfl rfl) Ev.cons_int CmpR.eqI) (fun h => ?_) (fun h => ?_)
      · rw [if_pos h]
        exact Ev.meth (T₀ := Pl (ways.map .int)) R Ev.name (Evs.cons (Ev.bin R1 (Ev.bin R1 Ev.name Ev.name BinR.sub) Ev.cons_int (BinR.mod (by decide))) Evs.nil) (Md.pl PySem.F.slot_list_count PySem.F.type_list_count) Fn.countP
      · rw [if_neg (by rw [h]; decide)]; exact Ev.cons_int
    · exact .tail _ (.head _)
    generalize hne : nearF place ways = near
    rw [hne] at ea eb ec ed et nb nlen word
    refine Bx.iteJ [("sums", TT [TI (sum0F place near ws plane), TI (sum1F place near ws plane)]), ("word", By (wordF place near plane)), ("near", TL near), ("entry", Te prog w en.a en.b en.c en.d en.t), ("number", TI en.num), ("place", TI place), ("weights", TL ws), ("ways", Pl (ways.map .int))]
      (Tr.bool Ev.name) (fun hp => ?_) (fun hp => ?_) ?_
    · subst hp
      have wb' : (wAt ws place).natAbs ≤ 1000 := ok.wb _ (wAt_mem wl p0 p6)
      have lb : ∀ i, i < ws.length → (ws.getD i 0).natAbs ≤ 1000 := fun i hi => ok.wb _ (getD_mem' hi)
      refine Bx.assign (T := TI (wAt ws place)) (Ev.item R1 Ev.name Ev.name (SubR.list p0 (by omega) (wAt_get wl p0 p6))) (.inl rfl) ?_
      refine Bx.assign (T := TT [TI (sum0F place near ws true), TI (sum1F place near ws true)]) (Ev.tuple (Evs.cons (Ev.bin R1 (Ev.call R (Fn.sum (ns := ws)) P.sum Cal.builtin (Evs.cons Ev.name Evs.nil) rfl rfl rfl) (Ev.bin R1 Ev.cons_int Ev.name (BinR.mul (small_mulL (by decide)))) BinR.add)
        (Evs.cons (Ev.bin R1 (Ev.call R (Fn.sum (ns := ws.map fun l => l * l)) P.sum Cal.builtin (Evs.cons (Ev.ref (Pl.le' (by rw [doneTo_map ws 0 (fun l => PyData.int (l * l)), List.map_map]; rfl))
          (Ev.comp (n := ws.length) (τ := fun i => TI (ws.getD i 0)) (b := fun _ => true) (d := fun i => .int (ws.getD i 0 * ws.getD i 0)) (cl := []) (σc := []) (It.ints R Ev.name) rfl .nil (by omega) (fun _ _ _ _ => Trs.nil)
            (fun C Fc i hi _ => Ev.bin R1 Ev.name Ev.name (BinR.mul (small_mul (Nat.lt_of_le_of_lt (lb i hi) (by decide))))))) Evs.nil) rfl rfl rfl)
          (Ev.bin R1 (Ev.bin R1 Ev.cons_int Ev.name (BinR.mul (small_mulL (by decide)))) Ev.name (BinR.mul (small_mul (Nat.lt_of_le_of_lt wb' (by decide))))) BinR.add) Evs.nil))) (.inl rfl) ?_
      refine Bx.assign (T := By (wordF place near true)) (Ev.bin R1 (Ev.bin R1 (Ev.bin R1 Ev.cons_bytes (Ev.bin R1 Ev.cons_int Ev.name BinR.sub) (BinR.mulB (by decide) (by decide) (by omega) (by omega))) Ev.cons_bytes (BinR.catB (by simp; omega)))
        (Ev.bin R1 Ev.cons_bytes Ev.name (BinR.mulB (by decide) (by decide) (by omega) (by omega))) (BinR.catB (by simp; omega))) (.inl rfl) (Bx.join (by walk_at "sub"))
    · subst hp
      have hpl : (pairsP near ws).length = 7 := (pairs_len (by omega)).trans nlen
      have lb : ∀ i, i < 7 → (ws.getD i 0).natAbs ≤ 1000 := fun i hi => ok.wb _ (getD_mem' (by omega))
      have it : ∀ {A' F' env' σ' e k p}, Room 8 A' → Ev prog w A' base F' env' σ' e (Py (.list (pairsP near ws))) → ∀ x y, It prog w A' base F' env' σ' (.Tuple [x, y] k p) e 7 (fun i => TT [TI (near.getD i 0), TI (ws.getD i 0)]) := fun R' he x y =>
        ((It.listT R' he pairs_tup).len hpl).sub fun i hi v h q => TT.of (ds := [.int (near.getD i 0), .int (ws.getD i 0)]) v h (by rw [← pairs_get (by omega) (by omega)]; exact q)
      refine Bx.assign (T := Py (.list (pairsP near ws))) (Ev.listZip R Ev.name Ev.name (by omega) (by omega) (by omega) P.list P.zip rfl rfl rfl rfl) (.inl rfl) ?_
      refine Bx.assign (T := TT [TI (sum0F place near ws false), TI (sum1F place near ws false)]) (Ev.tuple (Evs.cons
        (Ev.call R (Fn.sum (ns := zipMul (fun n l => n * l) near ws)) P.sum Cal.builtin (Evs.cons (Ev.ref (Pl.le' (by rw [doneTo_all]; unfold zipMul; rw [List.map_map]; rfl))
          (Ev.compT (n := 7) (τ₁ := fun i => TI (near.getD i 0)) (τ₂ := fun i => TI (ws.getD i 0)) (b := fun _ => true) (d := fun i => .int (near.getD i 0 * ws.getD i 0)) (cl := []) (σc := []) R.hh (it R Ev.name _ _) rfl .nil (by decide) (fun _ _ _ _ => Trs.nil)
            (fun C Fc i hi _ => Ev.bin R1 Ev.name Ev.name (BinR.mul (small_mul (Nat.lt_of_le_of_lt (lb i hi) (by decide))))))) Evs.nil) rfl rfl rfl)
        (Evs.cons (Ev.call R (Fn.sum (ns := zipMul (fun n l => n * l * l) near ws)) P.sum Cal.builtin (Evs.cons (Ev.ref (Pl.le' (by rw [doneTo_all]; unfold zipMul; rw [List.map_map]; rfl))
          (Ev.compT (n := 7) (τ₁ := fun i => TI (near.getD i 0)) (τ₂ := fun i => TI (ws.getD i 0)) (b := fun _ => true) (d := fun i => .int (near.getD i 0 * ws.getD i 0 * ws.getD i 0)) (cl := []) (σc := []) R.hh (it R Ev.name _ _) rfl .nil (by decide) (fun _ _ _ _ => Trs.nil)
            (fun C Fc i hi _ => Ev.bin R1 (Ev.bin R1 Ev.name Ev.name (BinR.mul (small_mul (Nat.lt_of_le_of_lt (lb i hi) (by decide))))) Ev.name (BinR.mul (small_mul (Nat.lt_of_le_of_lt (lb i hi) (by decide))))))) Evs.nil) rfl rfl rfl) Evs.nil))) (.inl rfl) ?_
      have pkl : (pick near none none (some (-1))).length = 7 := by rw [pick_rev nlen, List.length_reverse, nlen]
      refine Bx.assign (T := By (wordF place near false)) (Ev.meth (T₀ := By (((pick near none none (some (-1))).map fun n => 65 + n).map fun k => k.toNat.toUInt8)) R
        (Ev.call R (Fn.bytesL (ns := (pick near none none (some (-1))).map fun n => 65 + n) (fun k hk => ?_) (by simp [pkl])) P.bytes Cal.type (Evs.cons (Ev.ref (Pl.le' (by rw [doneTo_map (pick near none none (some (-1))) 0 (fun n => PyData.int (65 + n)), List.map_map]; rfl))
          (Ev.comp (n := (pick near none none (some (-1))).length) (τ := fun i => TI ((pick near none none (some (-1))).getD i 0)) (b := fun _ => true) (d := fun i => .int (65 + (pick near none none (some (-1))).getD i 0)) (cl := []) (σc := [])
            (It.ints R (Ev.ref (Le.of (by rw [pick_map])) (Ev.slice R1 Ev.name .none .none (.some (Ev.neg Ev.cons_int)) (SliceR.list (ds := near.map .int) (by decide) (by simp; omega)) (fun o i => rfl)))) rfl .nil (by omega) (fun _ _ _ _ => Trs.nil)
            (fun C Fc i hi _ => Ev.bin R1 Ev.cons_int Ev.name BinR.add))) Evs.nil) rfl rfl rfl) (Evs.cons Ev.cons_bytes Evs.nil) (Md.by slot_bytes_lstrip type_bytes_lstrip) (Fn.lstrip (by simp [pkl]))) (.inl rfl) (Bx.join (by walk_at "sub"))
      obtain ⟨q, hq, rfl⟩ := List.mem_map.mp hk
      have := nb q (pick_mem hq)
      omega
    · have nge : ∀ i : Nat, i < 7 → (near.map PyData.int)[i]? = some (.int (near.getD i 0)) := fun i hi => getD_get (by omega)
      refine Bx.dictC (n := 7) (τ := fun i => TI i) (b := fun q => near.getD q 0 != 0) (dk := fun q => keyOf q) (dv := fun q => near.getD q 0) (cl := [("near", L + 4)]) (σc := [("near", TL near)])
        ((It.range R (Ev.call R (Fn.range1 (a := 7)) P.range Cal.type (Evs.cons Ev.cons_int Evs.nil) rfl rfl rfl) (by decide) (by decide) (by decide) (by decide) rfl).sub (fun i hi => Le.of (by simp))) rfl
        (.cons ⟨by walk_at "mem", rfl, rfl, rfl, fun _ => rfl⟩ .nil) (by decide) (fun C Fc i hi => Trs.one (Tr.int (Ev.item R1 Ev.name Ev.name (SubR.list (by omega) (by omega) (nge i hi)))))
        (fun C Fc i hi _ => Ev.item R1 Ev.cons_str Ev.name (abc_key _ (by omega) (by omega))) (fun C Fc i hi _ => Ev.item R1 Ev.name Ev.name (SubR.list (by omega) (by omega) (nge i hi))) P.mg rfl ?_
      show Bx prog w A base _ _ _ _ (("places", Td prog w (placesF near)) :: _) _ _
      refine Bx.ite (b := false) (Tr.cmp R1 Ev.name (Ev.tuple (Ts := [TI en.a, TI en.b, TI en.c, TI en.d, Td prog w (placesF near)]) (Evs.cons ?_ (Evs.cons ?_ (Evs.cons ?_ (Evs.cons ?_ (Evs.cons Ev.name Evs.nil)))))) (CmpR.neTe et)) (fun c => by cases c) (fun _ => Bx.done ?_)
      · rw [ea]; exact Ev.item R1 Ev.name Ev.name (SubR.list p0 (by omega) (by simpa using nge place.toNat (by omega)))
      · rw [eb]; exact Ev.call R (Fn.sum (ns := near)) P.sum Cal.builtin (Evs.cons Ev.name Evs.nil) rfl rfl rfl
      · rw [ec]; exact Ev.item R1 Ev.name Ev.cons_int (SubR.tt (by decide) (by decide) rfl)
      · rw [ed]; exact Ev.item R1 Ev.name Ev.cons_int (SubR.tt (by decide) (by decide) rfl)
      refine Bx.ite (b := false) ?_ (fun c => by cases c) (fun _ => Bx.done ?_)
      · have hb : (countC en.t en.t.length != if (ways.length : Int) == 9 then 9 else 0) = false := by rw [cnt]; simp
        rw [← hb]
        refine Tr.cmp R1 (Ev.call R ((count_fn gc.has P.nl).le (by decide)) gc.gn gc.has.cal (Evs.cons (Ev.item R1 Ev.name Ev.cons_int (SubR.tt (by decide) (by decide) rfl)) Evs.nil) rfl rfl rfl) (Ev.ifExp (Tr.cmp R1 (Ev.call R (Fn.lenI (ns := ways) (by have := ok.yl; omega)) P.len Cal.builtin (Evs.cons (Ev.ref Pl.le Ev.name) Evs.nil) rfl rfl rfl) Ev.cons_int CmpR.eqI) (fun h => ?_) (fun h => ?_)) CmpR.neI
        · rw [if_pos h]; exact Ev.cons_int
        · rw [if_neg (by rw [h]; decide)]; exact Ev.cons_int
      rw [← word]
      refine Bx.retR (Ev.cmp R1 (Ev.call R ((ap_fn gi.has P.nl ap P.abs P.int P.dm).le (by decide)) gi.gn gi.has.cal (Evs.cons (Ev.ifExp (c := place.fmod 2 != 0) (Tr.int (Ev.bin R1 Ev.name Ev.cons_int (BinR.mod (by decide)))) (fun h => ?_) (fun h => ?_)) Evs.nil) rfl rfl rfl) Ev.name CmpR.eqB)
      · unfold numF; rw [if_pos h]; exact Ev.name
      · unfold numF; rw [if_neg (by rw [h]; decide)]; exact Ev.neg Ev.name
set_option maxRecDepth 100000 in
theorem place_fn (g : Has base (stmtAt 21) a) (P : Pc prog w base) (ok : PlaceOk place cs mark ws ways plane) :
    FnU prog w 9 base (.ref a) [TI place, TLL cs, TS mark, TL ws, Pl (ways.map .int), TB plane] (TB true) := by
  refine FnU.at g P.nl ["place", "copies", "mark", "weights", "ways", "plane"] (fun z A F L fs l R hfr hlf hfs hdis => place_body R P ok hfr hlf hfs hdis) (fun z vs h => ?_) rfl (by decide +kernel)
  match vs, h with
  | [a, b, c, d, e, f], _ => rfl
end
end Mine
end

section
open PySem PySem.W PySem.Calls PySem.Spec
set_option linter.unusedVariables false
namespace Mine
section
variable {prog : Program} {w : World} {A : Around} {base : Heap}
noncomputable abbrev comp2 (elt t0 i0 t1 i1 : Expr) (scope : Scope) (pos : Pos) : Expr := .ListComp elt [⟨t0, i0, [], 0⟩, ⟨t1, i1, [], 0⟩] scope pos
theorem compTurn_in (elt t0 i0 t1 i1 : Expr) (scope : Scope) (pos : Pos) (it acc : Value) (env : Env) :
    compTurn (comp2 elt t0 i0 t1 i1 scope pos) 1 it acc env = (standAt i1.pos >>= fun _ => pyNext it >>= fun r => match r with
      | none => pure (.done .next)
      | some v => letOwnedTupleGo t1 it v >>= fun _ => PySem.assign t1 env v >>= fun _ =>
        (eval elt env >>= fun x => PySem.call (.builtin "list.append") [acc, x] >>= fun _ => pure ()) >>= fun _ =>
          again (.compLoop (comp2 elt t0 i0 t1 i1 scope pos) 1 it acc env)) := by rfl
theorem compTurn_out (elt t0 i0 t1 i1 : Expr) (scope : Scope) (pos : Pos) (it acc : Value) (env : Env) :
    compTurn (comp2 elt t0 i0 t1 i1 scope pos) 0 it acc env = (standAt i0.pos >>= fun _ => pyNext it >>= fun r => match r with
      | none => pure (.done .next)
      | some v => letOwnedTupleGo t0 it v >>= fun _ => PySem.assign t0 env v >>= fun _ =>
        eval i1 env >>= fun x => standAt i1.pos >>= fun _ => foldedSetIterable i1 env x >>= fun x => holding [x] (pyIter x) >>= fun j => runOwn (.compStart (comp2 elt t0 i0 t1 i1 scope pos) 1 j acc env) env >>= fun _ =>
          again (.compLoop (comp2 elt t0 i0 t1 i1 scope pos) 0 it acc env)) := by rfl

noncomputable abbrev PT := (Unit → Shared → Prop) → (Value → Shared → Prop) → Shared → Prop
/-- one turn of such a loop -/
noncomputable def TurnOf (prog : Program) (w : World) (A : Around) (c : Code) (tg : Expr) (it : Value) (env : Env) (em : PT) : Prop :=
  ∀ (Q : Fin → Shared → Prop) (E : Value → Shared → Prop) (s : Shared), (∀ E', wpAny (model prog w) A (pyNext it) (fun r s₁ => match r with
      | none => Q (.done .next) s₁
      | some v => wpAny (model prog w) A (letOwnedTupleGo tg it v) (fun _ s₂ => wpAny (model prog w) A (PySem.assign tg env v) (fun _ s₃ => em (fun _ s₄ => Q (.again c) s₄) E' s₃) E' s₂) E' s₁) E' s) →
    wpAny (model prog w) (A.under c) ((model prog w).den c) Q E s
noncomputable def emIn (prog : Program) (w : World) (A : Around) (elt : Expr) (acc : Value) (env : Env) : PT := fun Q E s => wpAny (model prog w) A (eval elt env >>= fun x => PySem.call (.builtin "list.append") [acc, x] >>= fun _ => pure ()) Q E s
noncomputable def emOut (prog : Program) (w : World) (A : Around) (e i1 : Expr) (acc : Value) (env : Env) : PT := fun Q E s =>
  wpAny (model prog w) A (eval i1 env) (fun x s₁ => wpAny (model prog w) A (pyIter x) (fun j s₂ => wpAny (model prog w) A (runOwn (.compStart e 1 j acc env) env) (fun _ s₃ => Q () s₃) E s₂) E s₁) E s
theorem turn_in {elt t0 i0 t1 i1 : Expr} {scope : Scope} {pos : Pos} {it acc : Value} {env : Env} : TurnOf prog w A (.compLoop (comp2 elt t0 i0 t1 i1 scope pos) 1 it acc env) t1 it env (emIn prog w A elt acc env) := fun Q E s h => by
  show wpAny _ A ((compTurn (comp2 elt t0 i0 t1 i1 scope pos) 1 it acc env).onRaise (fun x => do noteFrame x env; theTreesLotGoes x)) _ _ s
  refine wpAny_noted ?_
  rw [compTurn_in]
  refine wpAny_bind (wpAny_standAt (wpAny_bind (wpAny_mono (h _) (fun r s₁ h₁ => ?_) fun _ _ h' => h')))
  cases r with
  | none => exact wpAny_pure h₁
  | some v => exact wpAny_bind (wpAny_mono h₁ (fun _ s₂ h₂ => wpAny_bind (wpAny_mono h₂ (fun _ s₃ h₃ => wpAny_bind (wpAny_mono h₃ (fun _ s₄ h₄ => wpAny_pure h₄) fun _ _ h' => h')) fun _ _ h' => h')) fun _ _ h' => h')
theorem turn_out {elt t0 i0 t1 i1 : Expr} {scope : Scope} {pos : Pos} {it acc : Value} {env : Env} (hs : ∀ x, foldedSetIterable i1 env x = pure x) :
    TurnOf prog w A (.compLoop (comp2 elt t0 i0 t1 i1 scope pos) 0 it acc env) t0 it env (emOut prog w A (comp2 elt t0 i0 t1 i1 scope pos) i1 acc env) := fun Q E s h => by
  show wpAny _ A ((compTurn (comp2 elt t0 i0 t1 i1 scope pos) 0 it acc env).onRaise (fun x => do noteFrame x env; theTreesLotGoes x)) _ _ s
  refine wpAny_noted ?_
  rw [compTurn_out]
  refine wpAny_bind (wpAny_standAt (wpAny_bind (wpAny_mono (h _) (fun r s₁ h₁ => ?_) fun _ _ h' => h')))
  cases r with
  | none => exact wpAny_pure h₁
  | some v => exact wpAny_bind (wpAny_mono h₁ (fun _ s₂ h₂ => wpAny_bind (wpAny_mono h₂ (fun _ s₃ h₃ => wpAny_bind (wpAny_mono h₃ (fun x s₄ h₄ => wpAny_bind (wpAny_standAt (wpAny_bind (wpAny_of_eq (hs x) (wpAny_bind (wpAny_holding (wpAny_mono h₄
      (fun j s₅ h₅ => wpAny_bind (wpAny_mono h₅ (fun _ s₆ h₆ => wpAny_pure h₆) fun _ _ h' => h')) fun _ _ h' => h'))))))) fun _ _ h' => h')) fun _ _ h' => h')) fun _ _ h' => h')

/-- what a turn lays into the list -/
structure Em (prog : Program) (w : World) (A : Around) (base : Heap) (Wc Fc : List Addr) (cenv : Env) (σ : List (Str × Ty)) (D : Addr) (B : Nat) (em : PT) (ds : List PyData) : Prop where
  go : ∀ s ys, ys.size ≤ B → Sd base Wc Fc cenv σ s.heap → s.heap.PlainList D ys → ∀ (Q : Unit → Shared → Prop) (E : Value → Shared → Prop),
    (∀ s' zs, KF (D :: Wc) s s' → Sd base Wc Fc cenv σ s'.heap → s'.heap.PlainList D (ys ++ zs) → All2 (hid Fc s'.heap) zs.toList ds → Q () s') → em Q E s

theorem Sd.fewer {W F F' : List Addr} {env : Env} {σ : List (Str × Ty)} {h : Heap} (S : Sd base W F env σ h) (k : ∀ b ∈ F', b ∈ F) (hW : ∀ b ∈ W, b ∈ F') : Sd base W F' env σ h :=
  ⟨⟨S.fm.kind, S.fm.base, fun b m => S.fm.old b (k b m), fun p m => let ⟨v, q, l⟩ := S.fm.var p m; ⟨v, p.2.mono _ _ _ (hid_le k) q, l⟩⟩, S.ns, S.cel, S.inL, S.nb, hW, S.apart, S.nl⟩
theorem loop_any {c : Code} {tg : Expr} {env : Env} {em : PT} {σc : List (Str × Ty)} {Wc Fc : List Addr} {I D : Addr} {fp wr : List Addr} {n : Nat} {P : Nat → Value → Heap → Heap → Prop} {St : Nat → Heap → Prop}
    {τ : Nat → Ty} {σx : Nat → List (Str × Ty)} {g : Nat → List PyData} {R : Result → Shared → Prop} {s : Shared} {ys₀ : Array Value} {B : Nat}
    (hc : c.quiet = true) (hden : TurnOf prog w A c tg (.ref I) env em)
    (Wk : Wks prog w A tg I fp wr n P St) (hob : ∀ i h, St i h → ∀ b ∈ wr, ∃ o, h.get? b = some o) (hst : St 0 s.heap) (S0 : Sd base Wc Fc env σc s.heap) (hD : s.heap.PlainList D ys₀)
    (hAs : ∀ i, i < n → As prog w A base Wc Fc env tg (τ i) σc (σx i)) (hback : ∀ i, ∀ p ∈ σc, p ∈ σx i) (hDF : D ∈ Fc) (hwF : ∀ b ∈ wr, b ∈ Fc) (hDfp : D ∉ fp) (hDW : D ∉ Wc) (hfW : ∀ b ∈ fp, b ∉ Wc) (hbw : ∀ b ∈ wr, base.get? b = none)
    (hcD : ∀ y c, env.cells.lookup y = some c → c ∉ wr) (hLD : env.locals ∉ wr)
    (hP : ∀ i v h h', i < n → P i v h h' → (∀ b ∈ Fc, ∃ o, h.get? b = some o) → Ext (hid Fc s.heap) (hid Fc h') → (τ i).P v (hid Fc h')) (hsz : ys₀.size + 100 * n ≤ B) (hg : ∀ i, i < n → (g i).length ≤ 100)
    (hem : ∀ i, i < n → Em prog w A base Wc Fc env (σx i) D B em (g i))
    (hR : ∀ s' zs, KB wr (D :: Wc) s s' → (∃ m, s'.heap.Ns env.locals m) → (∀ F₀, (∀ b ∈ F₀, b ∈ Fc ∧ b ∉ wr) → (∀ b ∈ Wc, b ∈ F₀) → Sd base Wc F₀ env σc s'.heap) → s'.heap.PlainList D (ys₀ ++ zs) → All2 (hid Fc s'.heap) zs.toList ((List.range n).flatMap g) → R (.ok .next) s') :
    codeAny (model prog w) A c R s := by
  have hDw : D ∉ wr := fun m => hDfp (Wk.sub _ m)
  have leW : ∀ {a b : Shared}, KF Wc a b → KF (D :: (wr ++ Wc)) a b := fun z => z.le fun b m => .tail _ (List.mem_append_right _ m)
  have leD : ∀ {a b : Shared}, KF (D :: Wc) a b → KF (D :: (wr ++ Wc)) a b := fun z => z.le fun b m => (List.mem_cons.mp m).elim (fun e => e ▸ .head _) fun m => .tail _ (List.mem_append_right _ m)
  refine codeAny_loop hc (fun k s' => ∃ i zs, i ≤ n ∧ k = n + 1 - i ∧ KF (D :: (wr ++ Wc)) s s' ∧ St i s'.heap ∧ Sd base Wc Fc env σc s'.heap ∧ s'.heap.PlainList D (ys₀ ++ zs) ∧ zs.size ≤ 100 * i ∧ All2 (hid Fc s'.heap) zs.toList ((List.range i).flatMap g)) ?_ (n + 1)
    ⟨0, #[], Nat.zero_le _, rfl, KF.of (Kp.refl _), hst, S0, by simpa using hD, by simp, .nil⟩
  rintro k s₁ ⟨i, zs, hin, rfl, kf, sti, Si, hDi, hzs, hys⟩
  refine hden _ _ _ fun E' => ?_
  by_cases hlt : i < n
  · refine Wk.item i s₁ _ _ _ (fun v s₂ z => z) hlt sti fun v h₁ tk hPv st₁ hk₁ => ?_
    have S₁ : Sd base Wc Fc env σc h₁ := Si.other hk₁ hwF hLD (fun y c e => hcD y c e) hbw (hob _ _ st₁)
    have kf₁ : KF (D :: (wr ++ Wc)) s₁ { s₁ with heap := h₁, toks := tk } := ⟨h₁, tk, rfl, fun b o e => by
      by_cases m : b ∈ wr
      · obtain ⟨o', e'⟩ := hob _ _ st₁ b m
        exact ⟨o', e', fun nm => absurd (.tail _ (List.mem_append_left _ m)) nm⟩
      · exact ⟨o, hk₁ b o m e, fun _ => rfl⟩⟩
    have kfa := kf.trans kf₁
    have notin : ∀ b, b ∉ Fc → b ∉ D :: (wr ++ Wc) := fun b nm m => by
      rcases List.mem_cons.mp m with rfl | m
      · exact nm hDF
      · exact (List.mem_append.mp m).elim (fun m => nm (hwF b m)) fun m => nm (S0.sub b m)
    have hv : (τ i).P v (hid Fc h₁) := hP i v _ _ hlt hPv Si.fm.old (hid_ext fun b o nm e => kfa.not e (notin b nm))
    have hD₁ : h₁.PlainList D (ys₀ ++ zs) := hDi.at fun o e => hk₁ D o hDw e
    refine (hAs i hlt).go { s₁ with heap := h₁, toks := tk } v S₁ hv _ _ fun s₂ k₂ S₂ => ?_
    have hD₂ : s₂.heap.PlainList D (ys₀ ++ zs) := hD₁.at fun o e => k₂.not e hDW
    have st₂ : St (i + 1) s₂.heap := Wk.frame _ _ _ st₁ fun b m o e => k₂.not e (hfW b m)
    have hys₂ : All2 (hid Fc s₂.heap) zs.toList ((List.range i).flatMap g) := hys.keeps (hid_ext fun b o nm e => (kf₁.trans (leW k₂)).not e (notin b nm))
    refine (hem i hlt).go s₂ _ (by simp; omega) S₂ hD₂ _ _ fun s₃ us k₃ S₃ hD₃ hus => ?_
    refine ⟨rfl, n + 1 - (i + 1), by omega, i + 1, zs ++ us, hlt, rfl, kfa.trans ((leW k₂).trans (leD k₃)), Wk.frame _ _ _ st₂ fun b m o e => k₃.not e fun z => (List.mem_cons.mp z).elim (fun z => hDfp (z ▸ m)) (hfW b m), S₃.less (hback i), by rw [← Array.append_assoc]; exact hD₃, ?_, ?_⟩
    · have := hus.length
      have := hg i hlt
      simp at *; omega
    · rw [List.range_succ, List.flatMap_append, Array.toList_append]
      refine (hys₂.keeps (hid_ext fun b o nm e => (leD k₃).not e (notin b nm))).append ?_
      simpa using hus
  · have : i = n := by omega
    subst this
    refine Wk.done s₁ _ _ sti fun h₁ tk hk₁ => ?_
    obtain ⟨m, oL, es, ep, gL, rL⟩ := Si.ns
    refine hR _ zs ?_ ⟨m, oL, es, ep, hk₁ _ _ hLD gL, rL⟩ (fun F₀ h1 h2 => (Si.fewer (F' := wr ++ F₀) (fun b m => (List.mem_append.mp m).elim (hwF b) fun m => (h1 b m).1) fun b m => List.mem_append_right _ (h2 b m)).letGo hk₁ hLD hcD hbw (fun b m => (h1 b m).2) h2) (hDi.at fun o e => hk₁ D o hDw e) (hys.keeps (hid_ext fun b o nm e => hk₁ b o (fun z => nm (hwF b z)) e))
    · obtain ⟨h', t', e, kk⟩ := kf
      subst e
      refine ⟨h₁, tk, rfl, fun b o nw e' => ?_⟩
      obtain ⟨o', g, nn⟩ := kk b o e'
      refine ⟨o', hk₁ b o' nw g, fun nm => nn fun m => ?_⟩
      rcases List.mem_cons.mp m with rfl | m
      · exact nm (.head _)
      · exact (List.mem_append.mp m).elim nw fun m => nm (.tail _ m)

/-- one item is laid -/
theorem Em.one {elt : Expr} {Wc Fc : List Addr} {cenv : Env} {σ : List (Str × Ty)} {D : Addr} {d : PyData} (he : Ev prog w A base Fc cenv σ elt (Py d)) (hDF : D ∈ Fc) (hDW : D ∉ Wc) (hbD : base.get? D = none) (hcD : ∀ y c, cenv.cells.lookup y = some c → c ≠ D) (hLD : cenv.locals ≠ D) :
    Em prog w A base Wc Fc cenv σ D 1000000 (emIn prog w A elt (.ref D) cenv) [d] := .mk fun s ys hsz S hD Q E h => by
  unfold emIn
  refine wpAny_bind (he.go s S.fm _ E fun y s₄ k₄ q₄ => ?_)
  have hD₄ : s₄.heap.PlainList D ys := hD.at fun o e => k₄.ext _ o e
  have e' : sizeLine = 16777216 := sizeLine_eq
  refine wpAny_bind (wpAny_list_append_plain (hsz := by omega) hD₄ fun h₅ hD₅ hs₅ => wpAny_pure ?_)
  have S₄ := S.keeps k₄.ext
  obtain ⟨_, eD⟩ := id hD₅
  have S₅ : Sd base Wc Fc cenv σ h₅ := S₄.other (N := [D]) (fun b o nm e => (hs₅.2 b fun z => nm (by simp [z])).trans e) (fun b m => by simp at m; rw [m]; exact hDF) (by simp [hLD]) (fun y c e => by simp [hcD y c e])
    (fun b m => by simp at m; rw [m]; exact hbD) fun b m => by simp at m; rw [m]; exact ⟨_, eD⟩
  have kf₅ : KF (D :: Wc) s₄ { s₄ with heap := h₅ } := KF.but (t := s₄.toks) (.head _) hs₅ eD
  have up : Ext (hid Fc s₄.heap) (hid Fc h₅) := hid_ext fun b o nm e => (hs₅.2 b fun z => nm (z ▸ hDF)).trans e
  refine h _ #[y] ((KF.of k₄).trans kf₅) S₅ (by simpa using hD₅) (.cons ((Py _).mono _ _ _ up q₄) .nil)
theorem codeAny_compStart_in {elt t0 i0 t1 i1 : Expr} {scope : Scope} {pos : Pos} {it acc : Value} {env : Env} {R : Result → Shared → Prop} {s : Shared}
    (h0 : codeAny (model prog w) A (.compLoop (comp2 elt t0 i0 t1 i1 scope pos) 1 it acc env) R s)
    (h : wpAny (model prog w) A (pyIter it) (fun it' s' => codeAny (model prog w) A (.compLoop (comp2 elt t0 i0 t1 i1 scope pos) 1 it' acc env) R s')
      (notedBy (model prog w) A env fun x s' => R (.error x) s') s) :
    codeAny (model prog w) A (.compStart (comp2 elt t0 i0 t1 i1 scope pos) 1 it acc env) R s := by
  refine codeAny_of_tree ?_
  show wpAny _ _ ((compStart (comp2 elt t0 i0 t1 i1 scope pos) 1 it acc env).onRaise (fun x => do noteFrame x env; standAt theWindowsPlace)) _ _ s
  refine wpAny_notedAt ?_
  unfold compStart
  show wpAny _ _ (ask >>= _) _ _ s
  refine wpAny_bind (wpAny_askSetting (wpAny_ite ?_))
  split
  · first
      | exact wpAny_bind (wpAny_pure (wpAny_pure (And.intro rfl h0)))
      | exact wpAny_pure (And.intro rfl h0)
  · first
      | exact wpAny_bind (wpAny_rule (wpAny_bind (wpAny_standAt (wpAny_bind (wpAny_mono h (fun it' s' h' => wpAny_pure (And.intro rfl h')) fun _ _ x => x)))))
      | (refine wpAny_bind (wpAny_rule ?_); show wpAny _ _ (standAt i1.pos >>= _) _ _ s; exact wpAny_bind (wpAny_standAt (wpAny_bind (wpAny_mono h (fun it' s' h' => wpAny_pure (And.intro rfl h')) fun _ _ x => x))))
theorem map_flat {α : Type} (f : Nat → α) (n : Nat) : (List.range n).flatMap (fun i => [f i]) = (List.range n).map f := by
  induction n with
  | zero => rfl
  | succ n ih => rw [List.range_succ, List.flatMap_append, List.map_append, ih]; rfl
/-- the turns over the second source -/
theorem Em.inner {elt t0 i0 t1 i1 : Expr} {scope : Scope} {pos : Pos} {Wc Fc : List Addr} {cenv : Env} {σ : List (Str × Ty)} {D : Addr} {n : Nat} {τ : Nat → Ty} {σy : Nat → List (Str × Ty)} {d : Nat → PyData}
    (hi : It prog w A base Fc cenv σ t1 i1 n τ) (hAs : ∀ F i, i < n → As prog w A base Wc F cenv t1 (τ i) σ (σy i)) (hback : ∀ i, ∀ p ∈ σ, p ∈ σy i) (he : ∀ F i, i < n → Ev prog w A base F cenv (σy i) elt (Py (d i))) (hn : n ≤ 100)
    (hDF : D ∈ Fc) (hDW : D ∉ Wc) (hbD : base.get? D = none) (hcD : ∀ y c, cenv.cells.lookup y = some c → c ≠ D) (hLD : cenv.locals ≠ D) :
    Em prog w A base Wc Fc cenv σ D 10000 (emOut prog w A (comp2 elt t0 i0 t1 i1 scope pos) i1 (.ref D) cenv) ((List.range n).map d) := .mk fun s ys hsz S hD Q E h => by
  refine hi.go s S.fm _ E fun s₂ I fp wr P St kp Wk hnew hfp hst hob hP => ?_
  have Dfp : D ∉ fp := fun m => (hfp D m).1 hDF
  have Lw : cenv.locals ∉ wr := fun m => by
    obtain ⟨_, _, _, _, g, _⟩ := S.ns
    exact none_some (hnew _ m).1 g
  have Cw : ∀ y c, cenv.cells.lookup y = some c → c ∉ wr := fun y c e m => by
    obtain ⟨_, _, g, _⟩ := S.cel y c e
    exact none_some (hnew _ m).1 g
  have nbw : ∀ b ∈ wr, base.get? b = none := fun b m => none_of S.fm.base (hnew b m).1
  have Fw : ∀ b ∈ Fc, b ∉ wr := fun b m m' => by
    obtain ⟨o, e⟩ := S.fm.old b m
    exact none_some (hnew b m').1 e
  have S₂ : Sd base Wc (wr ++ Fc) cenv σ s₂.heap := S.hide kp.ext hnew
  have hD₂ : s₂.heap.PlainList D ys := hD.at fun o e => kp.ext _ o e
  have loop : ∀ R : Result → Shared → Prop, (∀ s', Q () s' → R (.ok .next) s') → codeAny (model prog w) A (.compLoop (comp2 elt t0 i0 t1 i1 scope pos) 1 (.ref I) (.ref D) cenv) R s₂ := fun R hR => by
    refine loop_any (em := emIn prog w A elt (.ref D) cenv) (Fc := wr ++ Fc) (g := fun i => [d i]) rfl turn_in Wk hob hst S₂ hD₂ (fun i hi' => hAs _ i hi') hback (List.mem_append_right _ hDF) (fun b m => List.mem_append_left _ m) Dfp hDW (fun b m m' => (hfp b m).1 (S.sub b m')) nbw Cw Lw
      (fun i v h h' hi' hPv ho he' => hP _ i v h h' hi' hPv ho he') (by omega) (fun i hi' => by simp) (fun i hi' => Em.one (he _ i hi') (List.mem_append_right _ hDF) hDW hbD hcD hLD) ?_
    intro s' zs kb _ hS hDz hz
    rw [map_flat] at hz
    refine hR _ (h s' zs ?_ (hS Fc (fun b m => ⟨List.mem_append_right _ m, Fw b m⟩) S.sub) hDz (hz.keeps (hid_le fun b m => List.mem_append_right _ m)))
    obtain ⟨h₂, t₂, rfl, k₂⟩ := kp
    obtain ⟨h₃, t₃, e₃, k₃⟩ := kb
    exact ⟨h₃, t₃, e₃, fun b o e => k₃ b o (fun m => none_some (hnew b m).1 e) (k₂ b o e)⟩
  unfold runOwn
  refine wpAny_onRaise (wpAny_run ?_)
  exact codeAny_compStart_in (loop _ fun s' q => q) (Wk.self 0 _ _ _ hst (loop _ fun s' q => q))
noncomputable abbrev flat2 (n m : Nat) (d : Nat → Nat → PyData) : List PyData := (List.range n).flatMap fun i => (List.range m).map (d i)
section
variable {F : List Addr} {env : Env} {σ : List (Str × Ty)}
theorem comp_main2 {elt tg iter t1 i1 : Expr} {scope : Scope} {pos : Pos} {cl : List (Str × Addr)} {σc : List (Str × Ty)} {n m : Nat} {τ : Nat → Ty} {τ1 : Nat → Nat → Ty} {σx : Nat → List (Str × Ty)} {σy : Nat → Nat → List (Str × Ty)} {d : Nat → Nat → PyData}
    (hi : It prog w A base F env σ tg iter n τ) (hclos : closureFor scope env = pure cl) (hr : Reach scope cl env σ σc) (hk : scope.kind = .function) (hnames : ∀ y ∈ scope.names, y.2 = .local → scope.names.lookup y.1 = some .local)
    (hAs : ∀ C Fc i, i < n → As prog w A base (cfoot scope C) Fc (cenvOf scope cl C env) tg (τ i) σc (σx i)) (hback : ∀ i, ∀ p ∈ σc, p ∈ σx i) (hsz : n ≤ 50) (hsz1 : m ≤ 50)
    (hi1 : ∀ C Fc i, i < n → It prog w A base Fc (cenvOf scope cl C env) (σx i) t1 i1 m (τ1 i)) (hAs1 : ∀ C Fc i j, i < n → j < m → As prog w A base (cfoot scope C) Fc (cenvOf scope cl C env) t1 (τ1 i j) (σx i) (σy i j)) (hback1 : ∀ i j, ∀ p ∈ σx i, p ∈ σy i j)
    (he : ∀ C Fc i j, i < n → j < m → Ev prog w A base Fc (cenvOf scope cl C env) (σy i j) elt (Py (d i j))) (hs1 : ∀ C x, foldedSetIterable i1 (cenvOf scope cl C env) x = pure x)
    (hs : ∀ x, foldedSetIterable iter env x = pure x) {s : Shared} (f : Fm base F env σ s.heap) {use : Option (Value → Sem Unit)} {Q E : Value → Shared → Prop} {pos' : Pos}
    (hfin : ∀ s' D C ys, (∃ h' tk, s' = { s with heap := h', toks := tk }) → Ext s.heap s'.heap → s.heap.get? D = none → s.heap.get? C = none → D ≠ C → (∃ m, s'.heap.Ns C m) → s'.heap.PlainList D ys →
      (∀ h', (∀ b o, b ≠ C → s'.heap.get? b = some o → h'.get? b = some o) → ∀ F', (∀ b ∈ F', b ∈ C :: F) → All2 (hid F' h') ys.toList (flat2 n m d)) → compPost (model prog w) A E use Q (.ref D) C (.ok .next) s') :
    wpAny (model prog w) A (comprehension (.ListComp elt [⟨tg, iter, [], 0⟩, ⟨t1, i1, [], 0⟩] scope pos) scope env pos' (PySem.newList []) false (eval iter env) use) Q E s := by
  refine wpAny_comprehension_free (use := use) rfl hs hclos hk hnames (hi.go s f _ E fun s₂ I fp wr P St kp Wk hnew hfp hst hob hP => ?_)
  refine wpAny_newObj_type (hd := by size_fits) (newEnv_comp ?_)
  generalize hH : s₂.heap.push { cls := .type "list", dict := none, data := .seq ([] : List Value).toArray } = H
  have f₂ := f.keeps kp.ext
  have kH : Ext s₂.heap H := fun b o e => hH ▸ Heap.get?_push_of_some _ e
  have hD0 : s₂.heap.get? s₂.heap.objs.size = none := by
    cases q : s₂.heap.get? s₂.heap.objs.size with
    | none => rfl
    | some o => exact absurd (Heap.lt_size q) (Nat.lt_irrefl _)
  have pD : H.PlainList s₂.heap.objs.size #[] := ⟨0, hH ▸ Heap.get?_push_size _ rfl⟩
  have S := sd_comp (scope := scope) (cl := cl) f (fun b o e => kH b o (kp.ext b o e)) hk hr (s₂.heap.objs.size :: wr) (fun b m => by
    rcases List.mem_cons.mp m with rfl | m
    · obtain ⟨_, e⟩ := id pD
      exact ⟨none_of kp.ext hD0, _, e⟩
    · exact ⟨(hnew b m).1, let ⟨o, e⟩ := (hnew b m).2; ⟨o, kH b o e⟩⟩)
  generalize hH₁ : pushCells (H.push { cls := .type "dict", data := .dict #[] }) scope.names = H₁ at S ⊢
  have kH₁ : Ext H H₁ := fun b o e => hH₁ ▸ pushCells_keeps _ _ b o (Heap.get?_push_of_some _ e)
  have k₁ : Ext s₂.heap H₁ := fun b o e => kH₁ b o (kH b o e)
  have pD₁ : H₁.PlainList s₂.heap.objs.size #[] := pD.at fun o e => kH₁ _ o e
  have hDH : H.get? s₂.heap.objs.size ≠ none := by obtain ⟨_, e⟩ := pD; rw [e]; simp
  have cno : ∀ b ∈ cfoot scope H.objs.size, H.get? b = none := fun b m => by
    cases q : H.get? b with
    | none => rfl
    | some o => exact absurd (Heap.lt_size q) (Nat.not_lt.mpr (cfoot_ge m))
  have hDfp : s₂.heap.objs.size ∉ fp := fun m => by obtain ⟨o, e⟩ := (hfp _ m).2; rw [hD0] at e; cases e
  have hDw : s₂.heap.objs.size ∉ wr := fun m => hDfp (Wk.sub _ m)
  have nb : ∀ b, s.heap.get? b = none → base.get? b = none := fun b e => none_of f.base e
  have hDs : s.heap.get? s₂.heap.objs.size = none := none_of kp.ext hD0
  have hcell : ∀ y c, (cenvOf scope cl H.objs.size env).cells.lookup y = some c → c ≠ s₂.heap.objs.size ∧ c ∉ wr := fun y c e => by
    have e' : (cellsFrom (H.objs.size + 1) scope.names cl).lookup y = some c := e
    rw [cellsFrom_app] at e'
    rcases List.mem_append.mp (mem_of_lookup e') with hm | hm
    · have mm : c ∈ cfoot scope H.objs.size := .tail _ (List.mem_map.mpr ⟨_, hm, rfl⟩)
      refine ⟨fun z => hDH (z ▸ cno c mm), fun m => ?_⟩
      obtain ⟨o, g⟩ := (hnew c m).2
      have := kH _ _ g; rw [cno c mm] at this; cases this
    · obtain ⟨nl, lk, T, mT⟩ := hr.2 y c hm
      obtain ⟨v, _, l⟩ := f.var _ mT
      rcases l with ⟨e, _⟩ | ⟨_, c', lk', o, g, _⟩
      · exact absurd e nl
      · rw [lk] at lk'; cases lk'
        exact ⟨fun z => none_some hDs (z ▸ g), fun m => none_some (hnew c m).1 g⟩
  have hWw : ∀ b ∈ cfoot scope H.objs.size, b ∉ fp := fun b m m' => by
    obtain ⟨o, g⟩ := (hfp b m').2
    have := kH _ _ g; rw [cno b m] at this; cases this
  have loop : codeAny (model prog w) A (.compLoop (.ListComp elt [⟨tg, iter, [], 0⟩, ⟨t1, i1, [], 0⟩] scope pos) 0 (.ref I) (.ref s₂.heap.objs.size) (cenvOf scope cl H.objs.size env))
      (compPost (model prog w) A E use Q (.ref s₂.heap.objs.size) H.objs.size) { s₂ with heap := H₁ } := by
    refine loop_any (s := { s₂ with heap := H₁ }) (B := 10000) (em := emOut prog w A (comp2 elt tg iter t1 i1 scope pos) i1 (.ref s₂.heap.objs.size) (cenvOf scope cl H.objs.size env)) (Wc := cfoot scope H.objs.size) (Fc := cfoot scope H.objs.size ++ (s₂.heap.objs.size :: wr ++ F)) (τ := τ) (g := fun i => (List.range m).map (d i)) (σc := σc)
      rfl (turn_out (hs1 _)) Wk hob (Wk.frame _ _ _ hst fun b _ o e => k₁ b o e) S pD₁ (fun i hi' => hAs _ _ i hi') hback
      (List.mem_append_right _ (.head _)) (fun b m => List.mem_append_right _ (.tail _ (List.mem_append_left _ m))) hDfp (fun m => hDH (cno _ m)) (fun b m m' => hWw b m' m) (fun b m => nb b (hnew b m).1) (fun y c e => (hcell y c e).2)
      (fun m => hWw _ (.head _) (Wk.sub _ m)) (fun i v h₁ h₂ hi' hPv ho he => hP _ i v h₁ h₂ hi' hPv ho fun b o e => he b o (hid_ext' (F := wr ++ F) (fun b o nm e => ⟨k₁ b o e, fun z => ?_⟩) b o e)) (by simp; omega) (fun i hi' => by simp; omega)
      (fun i hi' => Em.inner (hi1 _ _ i hi') (fun F' j hj => hAs1 _ _ i j hi' hj) (hback1 i) (fun F' j hj => he _ _ i j hi' hj) (by omega) (List.mem_append_right _ (.head _)) (fun m => hDH (cno _ m)) (nb _ hDs) (fun y c e => (hcell y c e).1) (fun z => hDH (z ▸ cno _ (.head _)))) ?_
    · rcases List.mem_append.mp z with z | z
      · exact none_some (cno b z) (kH b o e)
      · rcases List.mem_cons.mp z with rfl | z
        · exact none_some hD0 e
        · exact nm z
    · intro s' ys kb hns _ hDy hys
      rw [Array.empty_append] at hDy
      obtain ⟨h₃, t₃, e₃, kk⟩ := kb
      subst e₃
      have kk' : ∀ b o, b ∉ wr → b ≠ s₂.heap.objs.size → b ∉ cfoot scope H.objs.size → H₁.get? b = some o → h₃.get? b = some o := fun b o nw nD nC e => by
        obtain ⟨o', g, nn⟩ := kk b o nw e
        rw [← nn fun m => (List.mem_cons.mp m).elim nD nC]
        exact g
      have kfin : Ext s.heap h₃ := fun b o e => kk' b o (fun m => none_some (hnew b m).1 e) (fun z => none_some hDs (z ▸ e)) (fun m => none_some (cno b m) (kH b o (kp.ext b o e))) (k₁ b o (kp.ext b o e))
      obtain ⟨h₂', t₂', e₂', k₂'⟩ := kp
      subst e₂'
      refine hfin _ _ _ ys ⟨h₃, t₃, rfl⟩ kfin hDs (none_of k₂' (none_of kH (cno _ (.head _)))) (fun z => hDH (z ▸ cno _ (.head _))) hns hDy fun h' hsb F' hF' => ?_
      exact hys.keeps (hid_ext' fun b o nm e => ⟨hsb b o (fun z => nm (List.mem_append_left _ (z ▸ .head _))) e, fun z => by
        rcases List.mem_cons.mp (hF' b z) with rfl | z
        · exact nm (List.mem_append_left _ (.head _))
        · exact nm (List.mem_append_right _ (.tail _ (List.mem_append_right _ z)))⟩)
  exact codeAny_compStart_list loop (Wk.self 0 _ _ _ (Wk.frame _ _ _ hst fun b _ o e => k₁ b o e) loop)

theorem Bx.assignComp2 {W : List Addr} {V : Gd} {rest : List Stmt} {R : Flow → Heap → Prop} {elt tg iter t1 i1 : Expr} {y : Str} {py spos : Pos} {scope : Scope} {pos : Pos} {cl : List (Str × Addr)} {σc : List (Str × Ty)} {n m : Nat} {τ : Nat → Ty} {τ1 : Nat → Nat → Ty} {σx : Nat → List (Str × Ty)} {σy : Nat → Nat → List (Str × Ty)} {d : Nat → Nat → PyData}
    (hi : It prog w A base F env σ tg iter n τ) (hclos : closureFor scope env = pure cl) (hr : Reach scope cl env σ σc) (hk : scope.kind = .function) (hnames : ∀ y ∈ scope.names, y.2 = .local → scope.names.lookup y.1 = some .local)
    (hAs : ∀ C Fc i, i < n → As prog w A base (cfoot scope C) Fc (cenvOf scope cl C env) tg (τ i) σc (σx i)) (hback : ∀ i, ∀ p ∈ σc, p ∈ σx i) (hsz : n ≤ 50) (hsz1 : m ≤ 50)
    (hi1 : ∀ C Fc i, i < n → It prog w A base Fc (cenvOf scope cl C env) (σx i) t1 i1 m (τ1 i)) (hAs1 : ∀ C Fc i j, i < n → j < m → As prog w A base (cfoot scope C) Fc (cenvOf scope cl C env) t1 (τ1 i j) (σx i) (σy i j)) (hback1 : ∀ i j, ∀ p ∈ σx i, p ∈ σy i j)
    (he : ∀ C Fc i j, i < n → j < m → Ev prog w A base Fc (cenvOf scope cl C env) (σy i j) elt (Py (d i j))) (hs1 : ∀ C x, foldedSetIterable i1 (cenvOf scope cl C env) x = pure x)
    (hy : env.kindOf y = some .local) (hrest : Bx prog w A base W V F env ((y, Pl (flat2 n m d)) :: drop y σ) rest R)
    (hsw : swapsWith (.ListComp elt [⟨tg, iter, [], 0⟩, ⟨t1, i1, [], 0⟩] scope pos) (some (.Name y py)) spos.line env = pure true := by rfl) (hs : ∀ x, foldedSetIterable iter env x = pure x := by intro _; rfl) :
    Bx prog w A base W V F env σ (.Assign [.Name y py] (.ListComp elt [⟨tg, iter, [], 0⟩, ⟨t1, i1, [], 0⟩] scope pos) spos :: rest) R := .mk fun hV s S Q E k => by
  refine wpAny_execs_cons ?_
  rw [exec_Assign_Name_used _ _ _ _ hsw]
  refine wpAny_bind (wpAny_standAt (wpAny_bind ?_))
  show wpAny _ A (do let _ ← comprehension (.ListComp elt [⟨tg, iter, [], 0⟩, ⟨t1, i1, [], 0⟩] scope pos) scope env _ (PySem.newList []) false (eval iter env) (some (PySem.assign (PySem.Expr.Name y py) env))) _ _ s
  refine wpAny_bind (wpAny_mono (Q := fun _ s' => wpAny (model prog w) A (execs rest env) Q E s') ?_ (fun _ s' hq => wpAny_pure (wpAny_pure hq)) fun _ _ e => e)
  refine comp_main2 hi hclos hr hk hnames hAs hback hsz hsz1 hi1 hAs1 hback1 he hs1 hs S.fm fun s' D C ys hs' k' hD hC hDC hns hDy hys => ?_
  obtain ⟨h₃, t₃, rfl⟩ := hs'
  obtain ⟨mm, hm⟩ := hns
  have hCe : ∃ o, h₃.get? C = some o := by obtain ⟨o, _, _, g, _⟩ := hm; exact ⟨o, g⟩
  have Sh : Sd base W ([C] ++ F) env σ h₃ := S.hide k' fun b mb => by
    rw [List.mem_singleton.mp mb]; exact ⟨hC, hCe⟩
  have Lw : env.locals ∉ [C] := fun mb => by
    obtain ⟨_, _, _, _, g, _⟩ := S.ns
    rw [List.mem_singleton.mp mb] at g; exact none_some hC g
  have Cw : ∀ x c, env.cells.lookup x = some c → c ∉ [C] := fun x c e mb => by
    obtain ⟨_, _, g, _⟩ := S.cel x c e
    rw [List.mem_singleton.mp mb] at g; exact none_some hC g
  have qD : (Pl (flat2 n m d)).P (.ref D) (hid ([C] ++ F) h₃) := by
    refine ⟨_, ys.toList, rfl, ?_, hys h₃ (fun b o _ e => e) _ fun b mb => mb⟩
    obtain ⟨nD, gD⟩ := hDy
    exact ⟨nD, hideAll_get _ gD fun mb => (List.mem_cons.mp mb).elim (fun z => hDC z) fun z => S.fm.fresh hD z⟩
  show wpAny _ A (PySem.assign (PySem.Expr.Name y py) env (.ref D)) _ _ _
  refine wpAny_assign_Name (Sh.store (s := { s with heap := h₃, toks := t₃ }) qD (.inl hy) _ _ fun s₄ k₄ S₄ => ?_)
  have hns₄ : s₄.heap.Ns C mm := hm.at' fun o g => k₄.not g fun mb => by
    have := S.nb C mb
    obtain ⟨o', e⟩ := S.fm.old C (S.sub C mb)
    exact none_some hC e
  refine ⟨mm, hns₄, fun h' hsb => ?_⟩
  have S₅ : Sd base W F env ((y, Pl (flat2 n m d)) :: drop y σ) h' := S₄.letGo (fun b o nm e => (hsb.2 b fun z => nm (z ▸ .head _)).trans e) Lw Cw (fun b mb => by rw [List.mem_singleton.mp mb]; exact none_of S.fm.base hC)
    (fun b mb z => by rw [List.mem_singleton.mp z] at mb; exact S.fm.fresh hC mb) S.sub
  refine hrest.go hV { s₄ with heap := h' } S₅ Q E fun fl s₆ k₆ r => k fl s₆ ((hV.go _ _ ?_).trans k₆) r
  obtain ⟨h₄, t₄, e₄, kk⟩ := k₄
  subst e₄
  refine ⟨h', t₄, rfl, fun b o e => ?_⟩
  obtain ⟨o', g, nn⟩ := kk b o (k' b o e)
  exact ⟨o', (hsb.2 b fun z => none_some hC (z ▸ e)).trans g, nn⟩
end
end
end Mine
end

section
open PySem PySem.W PySem.Calls PySem.Spec PyProof.Rows
set_option linter.unusedVariables false
namespace Mine
section
variable {prog : Program} {w : World} {A : Around} {base : Heap} {F : List Addr} {env : Env} {σ : List (Str × Ty)} {n : Nat}
theorem Fn.sorted {ns : List Int} (hz : ns.length < 64) : Fn prog w n base (.builtin "sorted") [TL ns] (TL (sortI ns)) := .mk fun A F s vs R hb hF ha Q E h => by
  cases ha with
  | cons q r =>
    cases r
    obtain ⟨a, vs, rfl, hl, hv⟩ := py_list q
    have el : vs.length < 64 := by have := hv.length; rw [List.length_map] at this; rw [this]; exact hz
    refine sorted_ints (isl hl) (all2_ints hv) el fun out ns' a1 a2 a3 => ?_
    obtain ⟨e, he⟩ := sortedAll_at s.heap vs out
    have := eq_sortI a2 a3
    subst this
    have hn : s.heap.objs.size + 1 ∉ F := fun m => by
      obtain ⟨o, g⟩ := hF _ m
      exact absurd (Heap.lt_size g) (Nat.not_lt.mpr (Nat.le_succ _))
    refine h _ { s with heap := sortedAll s.heap vs out } ⟨_, s.toks, rfl, fun b o g => sortedAll_old g⟩ ?_
    exact list_py (vs := out.toList) ⟨_, hideAll_get F he hn, rfl, e, by simp⟩ (ints_all2 a1)
/-- no outer frames are known -/
theorem Bx.ofP {W : List Addr} {V : Gd} {ss : List Stmt} {R : Flow → Heap → Prop} (h : Bp prog w [] A base W V F env σ ss R) : Bx prog w A base W V F env σ ss R := .mk fun hV s S Q E k => h.go hV s S (fun _ m => nomatch m) Q E k
theorem Bp.notU {W fs : List Addr} {rest body : List Stmt} {R : Flow → Heap → Prop} {y : Str} {l : List Env} {n : Nat} {p cpos upos pos : Pos} {f : Value} {e : Expr} {args : List Expr} {Ts : List Ty} (R0 : Room n A) (hfr : A.frames = some (env :: l)) (hlf : Lf fs l) (hfs : ∀ b ∈ fs, b ∈ F ∧ base.get? b = none) (hef : env.frame = some env.locals) (hdis : ∀ b ∈ W, b ∉ fs)
    (hF : FnU prog w n base f Ts (TB true)) (hg : Gn base y f) (hc : Cal prog w base f) (ha : Evs prog w A base F env σ cpos (e :: args) Ts)
    (hy : env.kindOf y = some .globalImplicit) (h1 : env.globals = mainGlobals) (h2 : env.builtins = builtinsNs)
    (hr : Bx prog w A base W (Gu (W ++ fs) fs) F env σ rest R)
    (hpl : (backTo cpos (starEach (e :: args) env)).any (·.1) = false := by rfl) (hse : starEach (e :: args) env = (false, eval e env) :: starEach args env := by rfl) (hd : (y == ("__debug__" : Str)) = false := by decide +kernel)
    (he : isTrue (.Call (.Name y p) (e :: args) [] cpos) env (eval (.Call (.Name y p) (e :: args) [] cpos) env) = (do let v ← eval (.Call (.Name y p) (e :: args) [] cpos) env; standAt (Expr.Call (.Name y p) (e :: args) [] cpos).pos; holding [v] (truthy v)) := by rfl) :
    Bp prog w fs A base W (Gu (W ++ fs) fs) F env σ (.If (.UnaryOp .Not (.Call (.Name y p) (e :: args) [] cpos) upos) body [] pos :: rest) R := .mk fun hV s S N Q E k => by
  refine wpAny_execs_cons (wpAny_If (PyProof.Rows.isTrue_not (PyProof.Rows.isTrue_plain (wpAny_Call_NameR (Ev.gname hg hy h1 h2 S.fm (callTail hc S.fm ha hpl hse fun vs s₁ k₁ q => ?_) hd)) he)))
  have S₁ := S.keeps k₁.ext
  have gs : ∀ b ∈ env.locals :: fs, b ∈ F ∧ base.get? b = none := fun b m => by
    rcases List.mem_cons.mp m with rfl | m
    · exact ⟨S.sub _ S.inL, S.nb _ S.inL⟩
    · exact hfs b m
  have N₁ : Nf (env.locals :: fs) s₁.heap := fun b m => by
    rcases List.mem_cons.mp m with rfl | m
    · obtain ⟨m', o, es, ep, g, d, _⟩ := S₁.ns
      exact ⟨o, g, fun vs q => by rw [d] at q; cases q⟩
    · obtain ⟨o, e, d⟩ := N b m
      exact ⟨o, k₁.ext b o e, d⟩
  have lf : Lf (env.locals :: fs) (env :: l) := fun env' he => by
    rcases List.mem_cons.mp he with rfl | he
    · exact ⟨by rw [S.fm.kind]; decide, _, hef, .head _⟩
    · obtain ⟨q, L, z, m⟩ := hlf env' he
      exact ⟨q, L, z, .tail _ m⟩
  refine hF.go A F (env.locals :: fs) (env :: l) s₁ vs R0 hfr lf gs N₁ S₁.fm.base S₁.fm.old q _ _ fun v h₂ tk T₂ q₂ => ?_
  have := py_bool q₂
  subst this
  have S₂ := S₁.tn T₂ gs
  have r₁ : (Gu (W ++ fs) fs).Rel s s₁ := hV.kp k₁
  have r₂ : (Gu (W ++ fs) fs).Rel s₁ { s₁ with heap := h₂, toks := tk } := ⟨⟨h₂, tk, rfl, fun b o e => by
    obtain ⟨sl, z, nn⟩ := T₂ b o e
    refine ⟨_, z, fun m => ?_⟩
    rw [nn fun z => (List.mem_cons.mp z).elim (fun z => m (z ▸ List.mem_append_left _ S.inL)) fun z => m (List.mem_append_right _ z)]⟩, fun b m o e => by
    obtain ⟨sl, z, nn⟩ := T₂ b o e
    exact ⟨sl, z⟩⟩
  refine wpAny_truthy_bool ?_
  show wpAny _ A (execs [] env) _ E _
  refine wpAny_execs_nil ?_
  exact hr.go hV { s₁ with heap := h₂, toks := tk } S₂ Q E fun fl s₄ k₄ r => k fl s₄ (r₁.trans (r₂.trans k₄)) r
end
end Mine
end

section
open PySem PySem.W PySem.Calls PySem.Spec
set_option linter.unusedVariables false
namespace Mine
local macro_rules | `(tactic| walk_at "mem") => `(tactic| first | with_reducible exact List.mem_cons_self | (with_reducible refine List.mem_cons_of_mem _ ?_; walk_at "mem") | (with_reducible refine mem_drop ?_ (by decide +kernel); walk_at "mem"))
local macro_rules | `(tactic| walk_at "sub") => `(tactic| first | with_reducible exact sub_nil | (with_reducible refine sub_cons (by walk_at "mem") ?_; walk_at "sub"))

noncomputable def restsF (ns : List Int) : List Int := [(totalF ns 0).fmod 7, (totalF ns 1).fmod 7, (totalF ns 2).fmod 7]
noncomputable def marksF (ns : List Int) : List Int := ((List.range 7).filter fun (q : Nat) => (restsF ns).any (· == (q : Int))).map fun (q : Nat) => (q : Int)
noncomputable def waysF (ms : List Int) : List Int := ms.flatMap fun x => ms.map fun y => (x - y).fmod 7
noncomputable def planeF (ms : List Int) : Bool := PyData.eqv (.list ((sortI (waysF ms)).map .int)) (.list (([0, 0, 0, 1, 2, 3, 4, 5, 6] : List Int).map .int))
noncomputable def factorF (ns : List Int) : Int := (totalF ns 3).fmod 6 + 1
noncomputable def copiesF (ms : List Int) : List (List Int) := (List.range 7).map fun (t : Nat) => ms.map fun q => (q + (t : Int)).fmod 7
noncomputable def markF (ns : List Int) : Str := Txt.item "|!/;" (((totalF ns 3).fdiv 6).fmod 4)
noncomputable def weightsF (ns : List Int) : List Int := (List.range 7).map fun (i : Nat) => (totalF ns (4 + i)).fmod 2001 - 1000
noncomputable def placeF (ns : List Int) : Int := ((totalF ns 3).fdiv 24).fmod 7
structure LawOk (ns : List Int) : Prop where
  sz : ns.length ≤ 1000
  ml : (marksF ns).length ≤ 7
  yl : (waysF (marksF ns)).length < 64
  nan : nannyOk (marksF ns) (factorF ns) = true
  nanny : nannyF (marksF ns) (factorF ns) (planeF (marksF ns)) = true
  pl0 : PlaceOk (placeF ns) (copiesF (marksF ns)) (markF ns) (weightsF ns) (waysF (marksF ns)) (planeF (marksF ns))
  pl1 : PlaceOk ((placeF ns + 1).fmod 7) (copiesF (marksF ns)) (markF ns) (weightsF ns) (waysF (marksF ns)) (planeF (marksF ns))
/-- what law reaches -/
structure Lc (prog : Program) (w : World) (base : Heap) : Prop where
  p : Pc prog w base
  tot : ∃ a, Gf base (stmtAt 15) "_law_totals" a
  nan : ∃ a, Gf base (stmtAt 18) "_law_nanny" a
  nc : ∃ K C aLead aCol, Nc K base C aLead aCol
  pla : ∃ a, Gf base (stmtAt 21) "_law_place" a
  enum : Gn base "enumerate" (.type "enumerate")
  sort : Gn base "sorted" (.builtin "sorted")

theorem tot_get (ns : List Int) {i : Nat} (h : i < 11) : ((totalsF ns).map PyData.int)[i]? = some (.int (totalF ns i)) := by
  unfold totalsF
  simp [h]
theorem pick_tot (ns : List Int) : pick (totalsF ns) (some 4) none none = (List.range 7).map fun (i : Nat) => totalF ns (4 + i) := by
  have e : sliceRange (sliceBounds (some 4) none none 11).1 (sliceBounds (some 4) none none 11).2.1 (sliceBounds (some 4) none none 11).2.2 = [4, 5, 6, 7, 8, 9, 10] := by decide +kernel
  have l : (totalsF ns).length = 11 := by unfold totalsF; simp
  unfold pick
  rw [l, e]
  rfl
theorem flat_ways (ms : List Int) : flat2 ms.length ms.length (fun i j => .int ((ms.getD i 0 - ms.getD j 0).fmod 7)) = (waysF ms).map .int := by
  have e : ∀ x, ((List.range ms.length).map fun j => PyData.int ((x - ms.getD j 0).fmod 7)) = (ms.map fun y => (x - y).fmod 7).map .int := fun x => by
    rw [List.map_map]; exact range_getD ms 0 (fun y => PyData.int ((x - y).fmod 7))
  unfold flat2 waysF
  rw [List.map_flatMap]
  simp only [e]
  rw [List.flatMap_def, List.flatMap_def]
  exact congrArg List.flatten (range_getD ms 0 (fun x => (ms.map fun y => (x - y).fmod 7).map PyData.int))
section
variable {prog : Program} {w : World} {A : Around} {base : Heap} {F : List Addr} {z : Fv} {L a : Addr} {ns : List Int}
set_option maxRecDepth 100000 in
set_option maxHeartbeats 4000000 in
theorem law_body (R : Room 12 A) (X : Lc prog w base) (ok : LawOk ns) (hfr : A.frames = some [envAt (stmtAt 22) z L a]) :
    Bx prog w A base (ftAt (stmtAt 22) z L) (Gu (ftAt (stmtAt 22) z L ++ []) []) (ftAt (stmtAt 22) z L ++ F) (envAt (stmtAt 22) z L a)
      [("script", TL ns)] (bodyOf (stmtAt 22)) (Ret (TB true) (ftAt (stmtAt 22) z L ++ F)) := by
  have R1 : Room 1 A := R.le (by decide)
  have P := X.p
  obtain ⟨pt, gt⟩ := X.tot
  obtain ⟨pn, gn⟩ := X.nan
  obtain ⟨K, C, aLead, aCol, N⟩ := X.nc
  obtain ⟨pp, gp⟩ := X.pla
  refine Bx.assign (T := TL (totalsF ns)) (Ev.call R ((totals_fn gt.has P.nl ok.sz X.enum P.sum).le (by decide)) gt.gn gt.has.cal (Evs.cons Ev.name Evs.nil) rfl rfl rfl) (.inr ⟨rfl, L + 1, rfl, ?_⟩) ?_
  · exact .tail _ (.tail _ (.head _))
  generalize hms : marksF ns = ms
  refine Bx.assign (T := TL ms) (Ev.ref (Pl.le' ?_) (Ev.comp (n := 7) (τ := fun i => TI i) (b := fun i => (restsF ns).any (· == (i : Int))) (d := fun i => .int i) (cl := [("totals", L + 1)]) (σc := [("totals", TL (totalsF ns))])
      ((It.range R (Ev.call R (Fn.range1 (a := 7)) P.range Cal.type (Evs.cons Ev.cons_int Evs.nil) rfl rfl rfl) (by decide) (by decide) (by decide) (by decide) rfl).sub (fun i hi => Le.of (by simp))) rfl
      (.cons ⟨by walk_at "mem", rfl, rfl, rfl, fun _ => rfl⟩ .nil) (by decide) (fun C Fc i hi => Trs.one ?_) (fun C Fc i hi _ => Ev.name))) (.inr ⟨rfl, L + 2, rfl, ?_⟩) ?_
  · rw [← hms]; unfold marksF doneTo; rw [List.map_map]; rfl
  · refine Tr.cmp R1 Ev.name (Ev.ref (TT.py (ds := (restsF ns).map .int)) (Ev.tuple (Ts := [TI ((totalF ns 0).fmod 7), TI ((totalF ns 1).fmod 7), TI ((totalF ns 2).fmod 7)]) (Evs.cons ?_ (Evs.cons ?_ (Evs.cons ?_ Evs.nil))))) (CmpR.inTuple (ns := restsF ns))
    · exact Ev.bin R1 (Ev.item R1 Ev.name Ev.cons_int (SubR.list (by decide) (by decide) (tot_get ns (i := 0) (by decide)))) Ev.cons_int (BinR.mod (by decide))
    · exact Ev.bin R1 (Ev.item R1 Ev.name Ev.cons_int (SubR.list (by decide) (by decide) (tot_get ns (i := 1) (by decide)))) Ev.cons_int (BinR.mod (by decide))
    · exact Ev.bin R1 (Ev.item R1 Ev.name Ev.cons_int (SubR.list (by decide) (by decide) (tot_get ns (i := 2) (by decide)))) Ev.cons_int (BinR.mod (by decide))
  · exact .tail _ (.head _)
  have ml : ms.length ≤ 7 := by rw [← hms]; exact ok.ml
  have yl : (waysF ms).length < 64 := by rw [← hms]; exact ok.yl
  refine Bx.assignComp2 (n := ms.length) (m := ms.length) (τ := fun i => TI (ms.getD i 0)) (τ1 := fun _ j => TI (ms.getD j 0)) (d := fun i j => .int ((ms.getD i 0 - ms.getD j 0).fmod 7)) (cl := [("marks", L + 2)]) (σc := [("marks", TL ms)])
    (σx := fun i => [("x", TI (ms.getD i 0)), ("marks", TL ms)]) (σy := fun i j => [("y", TI (ms.getD j 0)), ("x", TI (ms.getD i 0)), ("marks", TL ms)]) (It.ints R Ev.name) rfl (Frees.reach (.cons ⟨by walk_at "mem", rfl, rfl, rfl, fun _ => rfl⟩ .nil)) rfl (by decide +kernel)
    (fun C Fc i hi => (As.name (.inl rfl)).less (fun p m => m) (by walk_at "sub")) (fun i => by walk_at "sub") (by omega) (by omega) (fun C Fc i hi => It.ints R Ev.name) (fun C Fc i j hi hj => (As.name (.inl rfl)).less (fun p m => m) (by walk_at "sub")) (fun i j => by walk_at "sub")
    (fun C Fc i j hi hj => Ev.bin R1 (Ev.bin R1 Ev.name Ev.name BinR.sub) Ev.cons_int (BinR.mod (by decide))) (fun C x => rfl) rfl ?_
  rw [flat_ways ms]
  refine Bx.assign (T := TB (planeF ms)) (Ev.cmp R1 (Ev.call R (Fn.sorted yl) X.sort Cal.builtin (Evs.cons (Ev.ref Pl.le Ev.name) Evs.nil) rfl rfl rfl)
    (Ev.ref Pl.le (Ev.list (ds := ([0, 0, 0, 1, 2, 3, 4, 5, 6] : List Int).map .int) (Evs.cons Ev.cons_int (Evs.cons Ev.cons_int (Evs.cons Ev.cons_int (Evs.cons Ev.cons_int (Evs.cons Ev.cons_int (Evs.cons Ev.cons_int (Evs.cons Ev.cons_int (Evs.cons Ev.cons_int (Evs.cons Ev.cons_int Evs.nil))))))))))) (CmpR.eqD ?_ ?_ ?_)) (.inl rfl) ?_
  · exact lay_ints _
  · exact lay_ints _
  · refine Nat.le_trans (Nat.min_le_right _ _) ?_
    decide +kernel
  refine Bx.ite (b := false) ?_ (fun c => by cases c) (fun _ => Bx.done ?_)
  · have hn : (!nannyF ms (factorF ns) (planeF ms)) = false := by rw [← hms, ok.nanny]; rfl
    rw [← hn]
    refine Tr.not (Tr.bool (Ev.call R ((nanny_fn (p := planeF ms) gn.has N (by rw [← hms]; exact ok.nan)).le (by decide)) gn.gn gn.has.cal (Evs.cons Ev.name (Evs.cons ?_ (Evs.cons Ev.name Evs.nil))) rfl rfl rfl))
    exact Ev.bin R1 (Ev.bin R1 (Ev.item R1 Ev.name Ev.cons_int (SubR.list (by decide) (by decide) (tot_get ns (i := 3) (by decide)))) Ev.cons_int (BinR.mod (by decide))) Ev.cons_int BinR.add
  refine Bx.assignComp (n := 7) (τ := fun i => TI i) (b := fun _ => true) (d := fun i => .list ((ms.map fun q => (q + (i : Int)).fmod 7).map .int)) (cl := [("marks", L + 2)]) (σc := [("marks", TL ms)]) (σx := fun i => [("turn", TI i), ("marks", TL ms)])
    ((It.range R (Ev.call R (Fn.range1 (a := 7)) P.range Cal.type (Evs.cons Ev.cons_int Evs.nil) rfl rfl rfl) (by decide) (by decide) (by decide) (by decide) rfl).sub (fun i hi => Le.of (by simp))) rfl
    (Frees.reach (.cons ⟨by walk_at "mem", rfl, rfl, rfl, fun _ => rfl⟩ .nil)) rfl (by decide +kernel) (fun C Fc i hi => (As.name (.inr ⟨rfl, C + 1, rfl, .tail _ (.head _)⟩)).less (fun p m => m) (by walk_at "sub")) (fun i => by walk_at "sub") (by decide) (fun _ _ _ _ => Trs.nil)
    (fun C Fc i hi _ => ?_) rfl ?_
  · refine Ev.sub (Ev.comp (n := ms.length) (τ := fun j => TI (ms.getD j 0)) (b := fun _ => true) (d := fun j => .int ((ms.getD j 0 + (i : Int)).fmod 7)) (cl := [("turn", C + 1)]) (σc := [("turn", TI i)]) (It.ints R Ev.name) rfl (.cons ⟨by walk_at "mem", rfl, rfl, rfl, fun _ => rfl⟩ .nil) (by omega) (fun _ _ _ _ => Trs.nil)
      (fun C' Fc' j hj _ => Ev.bin R1 (Ev.bin R1 Ev.name Ev.name BinR.add) Ev.cons_int (BinR.mod (by decide)))) (Pl.le' ?_)
    rw [doneTo_map ms 0 (fun q => PyData.int ((q + (i : Int)).fmod 7)), List.map_map]; rfl
  have hcs : doneTo (fun _ => true) (fun i => PyData.list ((ms.map fun q => (q + (i : Int)).fmod 7).map .int)) 7 = (copiesF ms).map fun c => .list (c.map .int) := by
    rw [doneTo_all]; unfold copiesF; rw [List.map_map]; rfl
  rw [hcs]
  have fm4 : 0 ≤ ((totalF ns 3).fdiv 6).fmod 4 ∧ ((totalF ns 3).fdiv 6).fmod 4 < 4 := ⟨Int.fmod_nonneg_of_pos _ (by decide), Int.fmod_lt_of_pos _ (by decide)⟩
  refine Bx.assign (T := TS (markF ns)) (Ev.item R1 Ev.cons_str (Ev.bin R1 (Ev.bin R1 (Ev.item R1 Ev.name Ev.cons_int (SubR.list (by decide) (by decide) (tot_get ns (i := 3) (by decide)))) Ev.cons_int (BinR.fdiv (by decide) (small_div (by decide)))) Ev.cons_int (BinR.mod (by decide)))
    (SubR.strItem (by show -((4 : Nat) : Int) ≤ _; omega) (by show _ < ((4 : Nat) : Int); omega) (by decide))) (.inl rfl) ?_
  refine Bx.comp (n := 7) (τ := fun i => TI (totalF ns (4 + i))) (b := fun _ => true) (d := fun i => .int ((totalF ns (4 + i)).fmod 2001 - 1000)) (cl := []) (σc := []) ?_ rfl .nil (by decide) (fun _ _ _ _ => Trs.nil)
    (fun C Fc i hi _ => Ev.bin R1 (Ev.bin R1 Ev.name Ev.cons_int (BinR.mod (by decide))) Ev.cons_int BinR.sub) rfl ?_
  · have hpt : (pick (totalsF ns) (some 4) none none).length = 7 := by rw [pick_tot]; simp
    refine ((It.ints (ns := pick (totalsF ns) (some 4) none none) R (Ev.ref (Le.of (by rw [pick_map])) (Ev.slice R1 Ev.name (.some Ev.cons_int) .none .none (SliceR.list (ds := (totalsF ns).map .int) (by decide) (by unfold totalsF; simp)) (fun o i => rfl)))).len hpt).sub fun i hi => Le.of ?_
    rw [pick_tot]; simp [List.getD, hi]
  have hws : doneTo (fun _ => true) (fun i => PyData.int ((totalF ns (4 + i)).fmod 2001 - 1000)) 7 = (weightsF ns).map .int := by
    rw [doneTo_all]; unfold weightsF; rw [List.map_map]; rfl
  rw [hws]
  refine Bx.assign (T := TI (placeF ns)) (Ev.bin R1 (Ev.bin R1 (Ev.item R1 Ev.name Ev.cons_int (SubR.list (by decide) (by decide) (tot_get ns (i := 3) (by decide)))) Ev.cons_int (BinR.fdiv (by decide) (small_div (by decide)))) Ev.cons_int (BinR.mod (by decide))) (.inl rfl) ?_
  have pok : ∀ i, i < 2 → PlaceOk ([placeF ns, (placeF ns + 1).fmod 7].getD i 0) (copiesF ms) (markF ns) (weightsF ns) (waysF ms) (planeF ms) := fun i hi => by
    have h01 : i = 0 ∨ i = 1 := by omega
    rw [← hms]
    rcases h01 with rfl | rfl
    · exact ok.pl0
    · exact ok.pl1
  refine Bx.ofP (Bp.loop (n := 2) (τ := fun i => TI ([placeF ns, (placeF ns + 1).fmod 7].getD i 0))
    (fun i => [("copies", Pl ((copiesF ms).map fun c => .list (c.map .int))), ("mark", TS (markF ns)), ("weights", Pl ((weightsF ns).map .int)), ("ways", Pl ((waysF ms).map .int)), ("plane", TB (planeF ms))])
    (fun _ _ m => nomatch m) (fun _ m => nomatch m) (((It.tuple (ds := [.int (placeF ns), .int ((placeF ns + 1).fmod 7)]) R (Ev.ref TT.py (Ev.tuple (Ts := [TI (placeF ns), TI ((placeF ns + 1).fmod 7)]) (Evs.cons Ev.name (Evs.cons (Ev.bin R1 (Ev.bin R1 Ev.name Ev.cons_int BinR.add) Ev.cons_int (BinR.mod (by decide))) Evs.nil))))).len rfl).sub (fun i hi => ?_))
    (by walk_at "sub") rfl (fun i hi wr => ?_) (Bx.retR Ev.cons_bool))
  · match i, hi with
    | 0, _ => exact Le.rfl
    | 1, _ => exact Le.rfl
  · exact Bp.notU (R.le (by decide)) hfr (fun _ m => nomatch m) (fun _ m => nomatch m) rfl (fun _ _ m => nomatch m) (place_fn gp.has P (pok i hi)) gp.gn gp.has.cal
      (Evs.cons Ev.name (Evs.cons (Ev.ref Pl.le Ev.name) (Evs.cons Ev.name (Evs.cons (Ev.ref Pl.le Ev.name) (Evs.cons Ev.name (Evs.cons Ev.name Evs.nil)))))) rfl rfl rfl (Bx.nil fun h' S => S.less (by walk_at "sub"))
theorem hid_nil {h : Heap} : Ext (hid [] h) h := hid_self
theorem nil_hid {h : Heap} : Ext h (hid [] h) := fun b o e => hideAll_get [] e (fun m => nomatch m)
set_option maxRecDepth 100000 in
theorem law_fn {o : Obj} {z : Fv} (ho : base.get? a = some o) (hd : o.data = .func (fdAt (stmtAt 22) z)) (hcd : base.CodeRec (fdAt (stmtAt 22) z).code (fdAt (stmtAt 22) z).qualname) (X : Lc prog w base) (ok : LawOk ns) {A : Around} {s : Shared} {vs : List Value} (R : Room 13 A) (hfr : A.frames = some []) (hb : Ext base s.heap) (ha : AllT s.heap vs [TL ns])
    {Q E : Value → Shared → Prop} (h : ∀ s', Kp s s' → Q (.bool true) s') : wpAny (model prog w) A (PySem.call (.ref a) vs) Q E s := by
  have hvl := ha.length
  have hF : ∀ b ∈ ([] : List Addr), ∃ o, s.heap.get? b = some o := fun _ m => nomatch m
  obtain ⟨hkind, hnd, hnm, hk, hco, hgen⟩ := scopeOk_parts (show scopeOk (scopeOf (stmtAt 22)) ["script"] = true by decide +kernel)
  have hl := X.p.nl
  have hbind : ∀ vs : List Value, vs.length = (["script"] : List Str).length → bindArgs (fdAt (stmtAt 22) z) ⟨vs, []⟩ = pure ((["script"] : List Str).zip vs) := fun vs h => by
    match vs, h with
    | [v], _ => rfl
  refine wpAny_call (codeAny_call_cells (body := bodyOf (stmtAt 22)) (binds := (["script"] : List Str).zip vs) R.d (hb _ _ ho) hd (hl.keeps hb) (hcd.keeps hb) rfl (hbind vs (by simpa using hvl)) rfl (fun p m => hkind _ p.1 (List.of_mem_zip (a := p.1) (b := p.2) m).1) (fun s₁ x => ?_) hco hgen hk)
  have hfr' : (A.deeper (envAt (stmtAt 22) z s.heap.objs.size a)).frames = some [envAt (stmtAt 22) z s.heap.objs.size a] := by
    show A.frames.map _ = _
    rw [hfr]; rfl
  refine (law_body (F := []) R.deeper X ok hfr').go (Sub.gu (fun b m => List.mem_append_left _ m) (fun _ _ m => nomatch m)) s₁ (sd_enter (hnd _) hnm (hkind _) hk hb hF (ha.keeps nil_hid) rfl x) _ _ fun fl s' kf r => ?_
  obtain ⟨v, rfl, q⟩ := r
  have := py_bool q
  subst this
  refine h s' ?_
  obtain ⟨h₁, t₁, e₁⟩ := x.toInCall.same
  obtain ⟨h₂, t₂, e₂, kk⟩ := kf.1
  refine ⟨h₂, t₂, by rw [e₂, e₁], fun b o e => ?_⟩
  obtain ⟨o', g, nn⟩ := kk b o (x.toInCall.keep b o e)
  rw [← nn fun m => by rw [foot_none x b (by rwa [List.append_nil] at m)] at e; cases e]; exact g
end
end Mine
end

section
open PySem PySem.W PySem.Calls PySem.Spec PyProof.Rows
set_option linter.unusedVariables false
set_option maxRecDepth 100000
namespace Mine
noncomputable abbrev en (P : Params) (x : Str) (t : Tok) (v : Value) : DictEntry := { hash := PyData.keyHash P x, key := .str x t, val := v }
noncomputable def kf (P : Params) : Frag := [
  (2, { cls := .none, data := .dict #[en P "type.__subclasses__.Exception.0" 212 (.int 31 0), en P "type.__subclasses__.Exception.n" 213 (.int 1 0)] 2 }),
  (3, { cls := .type "dict", data := .dict #[en P "__name__" 165 (.str ("law_xg0061_01") 416), en P "__doc__" 166 (.none), en P "__package__" 167 (.none), en P "__loader__" 168 (.builtin "__main__.__loader__#opaque"), en P "__spec__" 169 (.none), en P "__annotations__" 170 (.ref 6), en P "__builtins__" 171 (.ref 4), en P "__file__" 173 (.str ("/claim/cut.py") 172), en P "__cached__" 174 (.none), en P "_wall" 193 (.ref 21), en P "Error" 215 (.ref 31), en P "error_reply" 231 (.ref 44), en P "error_proto" 247 (.ref 56), en P "parse229" 260 (.ref 65), en P "Int2AP" 272 (.ref 72), en P "add_func_stats" 292 (.ref 79), en P "add_callers" 303 (.ref 86), en P "count_calls" 312 (.ref 93), en P "Whitespace" 415 (.ref 155), en P "_law_totals" 423 (.ref 164), en P "_law_lead" 429 (.ref 169), en P "_law_column" 439 (.ref 176), en P "_law_nanny" 445 (.ref 181), en P "_law_told" 451 (.ref 186), en P "_law_due" 461 (.ref 193), en P "_law_place" 467 (.ref 198), en P "law" 473 (.ref 203)] 27 }),
  (30, { cls := .type "dict", data := .dict #[en P "__module__" 203 (.str ("cpy313.ftplib") 194), en P "__firstlineno__" 207 (.int 5 206), en P "__static_attributes__" 208 (.ref 29), en P "__weakref__" 210 (.ref 32), en P "__doc__" 211 (.none)] 3 }),
  (31, { cls := .type "type", data := .cls { name := "Error", bases := [.type "Exception"], mro := [.ref 31, .type "Exception", .type "BaseException", .type "object"], ns := 30, qualname := "Error", subclasses := [.ref 44, .ref 56] }, slots := #[some (.ref 22), none, some (.str ("Error") 196), some (.str ("Error") 204), some (.builtin "Exception.__new__"), some (.bool true)] }),
  (55, { cls := .type "dict", data := .dict #[en P "__module__" 239 (.str ("cpy313.ftplib") 194), en P "__firstlineno__" 243 (.int 9 242), en P "__static_attributes__" 244 (.ref 54), en P "__doc__" 245 (.none)] 2 }),
  (56, { cls := .type "type", data := .cls { name := "error_proto", bases := [.ref 31], mro := [.ref 56, .ref 31, .type "Exception", .type "BaseException", .type "object"], ns := 55, qualname := "error_proto" }, slots := #[some (.ref 47), none, some (.str ("error_proto") 232), some (.str ("error_proto") 240), some (.builtin "Exception.__new__"), some (.bool true)] }),
  (64, { cls := .type "code", data := .fields #[.str ("parse229") 248, .str ("parse229") 249, .str ("/claim/cut.py") 250, .int 11 0, .int 2 0, .int 0 0, .int 0 0, .int 3 0, .ref 59, .bool true, .int 181 0, .ref 60, .none, .ref 61, .ref 62, .ref 63, .int 258 0, .int 11 0, .str ("/claim/cut.py") 259] }),
  (65, { cls := .type "function", data := .func (fdAt (stmtAt 5) ⟨"parse229", .none, .str ("cpy313.ftplib") 194, none, .ref 64, .none⟩) }),
  (71, { cls := .type "code", data := .fields #[.str ("Int2AP") 263, .str ("Int2AP") 264, .str ("/claim/cut.py") 265, .int 29 0, .int 1 0, .int 0 0, .int 0 0, .int 3 0, .ref 66, .bool true, .int 181 0, .ref 67, .none, .ref 68, .ref 69, .ref 70, .int 270 0, .int 29 0, .str ("/claim/cut.py") 271] }),
  (72, { cls := .type "function", data := .func (fdAt (stmtAt 7) ⟨"Int2AP", .none, .str ("cpy313.imaplib") 261, none, .ref 71, .none⟩) }),
  (78, { cls := .type "code", data := .fields #[.str ("add_func_stats") 275, .str ("add_func_stats") 276, .str ("/claim/cut.py") 277, .int 38 0, .int 2 0, .int 0 0, .int 0 0, .int 3 0, .ref 73, .bool true, .int 181 0, .ref 74, .none, .ref 75, .ref 76, .ref 77, .int 290 0, .int 38 0, .str ("/claim/cut.py") 291] }),
  (79, { cls := .type "function", data := .func (fdAt (stmtAt 9) ⟨"add_func_stats", .none, .str ("cpy313.pstats") 273, none, .ref 78, .none⟩) }),
  (85, { cls := .type "code", data := .fields #[.str ("add_callers") 293, .str ("add_callers") 294, .str ("/claim/cut.py") 295, .int 42 0, .int 2 0, .int 0 0, .int 0 0, .int 3 0, .ref 80, .bool true, .int 181 0, .ref 81, .none, .ref 82, .ref 83, .ref 84, .int 301 0, .int 42 0, .str ("/claim/cut.py") 302] }),
  (86, { cls := .type "function", data := .func (fdAt (stmtAt 10) ⟨"add_callers", .none, .str ("cpy313.pstats") 273, none, .ref 85, .none⟩) }),
  (92, { cls := .type "code", data := .fields #[.str ("count_calls") 304, .str ("count_calls") 305, .str ("/claim/cut.py") 306, .int 55 0, .int 1 0, .int 0 0, .int 0 0, .int 3 0, .ref 87, .bool true, .int 181 0, .ref 88, .none, .ref 89, .ref 90, .ref 91, .int 310 0, .int 55 0, .str ("/claim/cut.py") 311] }),
  (93, { cls := .type "function", data := .func (fdAt (stmtAt 11) ⟨"count_calls", .none, .str ("cpy313.pstats") 273, none, .ref 92, .none⟩) }),
  (109, { cls := .type "code", data := .fields #[.str ("__init__") 332, .str ("Whitespace.__init__") 333, .str ("/claim/cut.py") 334, .int 64 0, .int 2 0, .int 0 0, .int 0 0, .int 3 0, .ref 104, .bool true, .int 181 0, .ref 105, .none, .ref 106, .ref 107, .ref 108, .int 344 0, .int 64 0, .str ("/claim/cut.py") 345] }),
  (110, { cls := .type "function", data := .func (fdAt (methAt 1) ⟨"Whitespace.__init__", .none, .str ("cpy313.tabnanny") 313, none, .ref 109, .none⟩) }),
  (116, { cls := .type "code", data := .fields #[.str ("longest_run_of_spaces") 347, .str ("Whitespace.longest_run_of_spaces") 348, .str ("/claim/cut.py") 349, .int 87 0, .int 1 0, .int 0 0, .int 0 0, .int 3 0, .ref 111, .bool true, .int 181 0, .ref 112, .none, .ref 113, .ref 114, .ref 115, .int 353 0, .int 87 0, .str ("/claim/cut.py") 354] }),
  (117, { cls := .type "function", data := .func (fdAt (methAt 2) ⟨"Whitespace.longest_run_of_spaces", .none, .str ("cpy313.tabnanny") 313, none, .ref 116, .none⟩) }),
  (123, { cls := .type "code", data := .fields #[.str ("indent_level") 356, .str ("Whitespace.indent_level") 357, .str ("/claim/cut.py") 358, .int 91 0, .int 2 0, .int 0 0, .int 0 0, .int 3 0, .ref 118, .bool true, .int 181 0, .ref 119, .none, .ref 120, .ref 121, .ref 122, .int 365 0, .int 91 0, .str ("/claim/cut.py") 366] }),
  (124, { cls := .type "function", data := .func (fdAt (methAt 3) ⟨"Whitespace.indent_level", .none, .str ("cpy313.tabnanny") 313, none, .ref 123, .none⟩) }),
  (130, { cls := .type "code", data := .fields #[.str ("equal") 368, .str ("Whitespace.equal") 369, .str ("/claim/cut.py") 370, .int 98 0, .int 2 0, .int 0 0, .int 0 0, .int 3 0, .ref 125, .bool true, .int 181 0, .ref 126, .none, .ref 127, .ref 128, .ref 129, .int 373 0, .int 98 0, .str ("/claim/cut.py") 374] }),
  (131, { cls := .type "function", data := .func (fdAt (methAt 4) ⟨"Whitespace.equal", .none, .str ("cpy313.tabnanny") 313, none, .ref 130, .none⟩) }),
  (137, { cls := .type "code", data := .fields #[.str ("not_equal_witness") 376, .str ("Whitespace.not_equal_witness") 377, .str ("/claim/cut.py") 378, .int 101 0, .int 2 0, .int 0 0, .int 0 0, .int 3 0, .ref 132, .bool true, .int 181 0, .ref 133, .none, .ref 134, .ref 135, .ref 136, .int 384 0, .int 101 0, .str ("/claim/cut.py") 385] }),
  (138, { cls := .type "function", data := .func (fdAt (methAt 5) ⟨"Whitespace.not_equal_witness", .none, .str ("cpy313.tabnanny") 313, none, .ref 137, .none⟩) }),
  (154, { cls := .type "dict", data := .dict #[en P "__module__" 322 (.str ("cpy313.tabnanny") 313), en P "__firstlineno__" 326 (.int 61 325), en P "S" 330 (.str (" ") 328), en P "T" 331 (.str ("\t") 329), en P "__init__" 346 (.ref 110), en P "longest_run_of_spaces" 355 (.ref 117), en P "indent_level" 367 (.ref 124), en P "equal" 375 (.ref 131), en P "not_equal_witness" 386 (.ref 138), en P "less" 394 (.ref 145), en P "not_less_witness" 402 (.ref 152), en P "__static_attributes__" 408 (.ref 153), en P "__dict__" 410 (.ref 156), en P "__weakref__" 412 (.ref 157), en P "__doc__" 413 (.none)] 4 }),
  (155, { cls := .type "type", data := .cls { name := "Whitespace", bases := [.type "object"], mro := [.ref 155, .type "object"], ns := 154, qualname := "Whitespace" }, slots := #[none, none, some (.str ("Whitespace") 315), some (.str ("Whitespace") 323), some (.builtin "object.__new__"), some (.bool true)] }),
  (163, { cls := .type "code", data := .fields #[.str ("_law_totals") 418, .str ("_law_totals") 419, .str ("/claim/cut.py") 420, .int 115 0, .int 1 0, .int 0 0, .int 0 0, .int 3 0, .ref 160, .bool true, .int 181 0, .ref 161, .none, .none, .none, .ref 162, .int 421 0, .int 115 0, .str ("/claim/cut.py") 422] }),
  (164, { cls := .type "function", data := .func (fdAt (stmtAt 15) ⟨"_law_totals", .none, .str ("law_xg0061_01") 416, none, .ref 163, .none⟩) }),
  (168, { cls := .type "code", data := .fields #[.str ("_law_lead") 424, .str ("_law_lead") 425, .str ("/claim/cut.py") 426, .int 118 0, .int 1 0, .int 0 0, .int 0 0, .int 3 0, .ref 165, .bool true, .int 181 0, .ref 166, .none, .none, .none, .ref 167, .int 427 0, .int 118 0, .str ("/claim/cut.py") 428] }),
  (169, { cls := .type "function", data := .func (fdAt (stmtAt 16) ⟨"_law_lead", .none, .str ("law_xg0061_01") 416, none, .ref 168, .none⟩) }),
  (175, { cls := .type "code", data := .fields #[.str ("_law_column") 430, .str ("_law_column") 431, .str ("/claim/cut.py") 432, .int 120 0, .int 2 0, .int 0 0, .int 0 0, .int 3 0, .ref 170, .bool true, .int 181 0, .ref 171, .none, .ref 172, .ref 173, .ref 174, .int 437 0, .int 120 0, .str ("/claim/cut.py") 438] }),
  (176, { cls := .type "function", data := .func (fdAt (stmtAt 17) ⟨"_law_column", .none, .str ("law_xg0061_01") 416, none, .ref 175, .none⟩) }),
  (180, { cls := .type "code", data := .fields #[.str ("_law_nanny") 440, .str ("_law_nanny") 441, .str ("/claim/cut.py") 442, .int 125 0, .int 3 0, .int 0 0, .int 0 0, .int 3 0, .ref 177, .bool true, .int 181 0, .ref 178, .none, .none, .none, .ref 179, .int 443 0, .int 125 0, .str ("/claim/cut.py") 444] }),
  (181, { cls := .type "function", data := .func (fdAt (stmtAt 18) ⟨"_law_nanny", .none, .str ("law_xg0061_01") 416, none, .ref 180, .none⟩) }),
  (185, { cls := .type "code", data := .fields #[.str ("_law_told") 446, .str ("_law_told") 447, .str ("/claim/cut.py") 448, .int 142 0, .int 3 0, .int 0 0, .int 0 0, .int 3 0, .ref 182, .bool true, .int 181 0, .ref 183, .none, .none, .none, .ref 184, .int 449 0, .int 142 0, .str ("/claim/cut.py") 450] }),
  (186, { cls := .type "function", data := .func (fdAt (stmtAt 19) ⟨"_law_told", .none, .str ("law_xg0061_01") 416, none, .ref 185, .none⟩) }),
  (192, { cls := .type "code", data := .fields #[.str ("_law_due") 452, .str ("_law_due") 453, .str ("/claim/cut.py") 454, .int 151 0, .int 2 0, .int 0 0, .int 0 0, .int 3 0, .ref 187, .bool true, .int 181 0, .ref 188, .none, .ref 189, .ref 190, .ref 191, .int 459 0, .int 151 0, .str ("/claim/cut.py") 460] }),
  (193, { cls := .type "function", data := .func (fdAt (stmtAt 20) ⟨"_law_due", .none, .str ("law_xg0061_01") 416, none, .ref 192, .none⟩) }),
  (197, { cls := .type "code", data := .fields #[.str ("_law_place") 462, .str ("_law_place") 463, .str ("/claim/cut.py") 464, .int 160 0, .int 6 0, .int 0 0, .int 0 0, .int 3 0, .ref 194, .bool true, .int 181 0, .ref 195, .none, .none, .none, .ref 196, .int 465 0, .int 160 0, .str ("/claim/cut.py") 466] }),
  (198, { cls := .type "function", data := .func (fdAt (stmtAt 21) ⟨"_law_place", .none, .str ("law_xg0061_01") 416, none, .ref 197, .none⟩) })]
noncomputable def kfA : List Addr := [2, 3, 30, 31, 55, 56, 64, 65, 71, 72, 78, 79, 85, 86, 92, 93, 109, 110, 116, 117, 123, 124, 130, 131, 137, 138, 154, 155, 163, 164, 168, 169, 175, 176, 180, 181, 185, 186, 192, 193, 197, 198]

noncomputable def vw : Program := { PySem.Challenge.pw_xg0061_01 with main := { PySem.Challenge.pw_xg0061_01.main with body := [stmtAt 0, stmtAt 2, stmtAt 3, stmtAt 4, stmtAt 5, stmtAt 7, stmtAt 9, stmtAt 10, stmtAt 11, stmtAt 13, stmtAt 15, stmtAt 16, stmtAt 17, stmtAt 18, stmtAt 19, stmtAt 20, stmtAt 21, stmtAt 22] } }
noncomputable abbrev hk : Hook := kHook kf kfA (fun _ => by kernel_rfl)
noncomputable abbrev rwR : RowW := PySem.Challenge.rw_xg0061_01.row.toRowW
noncomputable abbrev xt : Shared → Bool := fun s => xlAt vw [] s && recOk (RowW.records rwR) s
noncomputable abbrev pw : Program := PySem.Challenge.pw_xg0061_01
theorem opens : opening pw = plainProg pw.main.scope.names := by kernel_rfl
theorem fences (s : Shared) : fenceModules? pw s = some s := by kernel_rfl
/-- the state of the heap at the cuts -/
noncomputable def ob11sa (P : Params) : Obj := { cls := .type "tuple", data := .seq #[] }
noncomputable def ob12sa (P : Params) : Obj := { cls := .none, data := .fields #[] }
noncomputable def ob13sa (P : Params) : Obj := { cls := .type "code", data := .fields #[.str ("<module>") 182, .str ("<module>") 183, .str ("/claim/cut.py") 184, .int 1 0, .int 0 0, .int 0 0, .int 0 0, .int 0 0, .ref 11, .bool false, .int 181 0, .ref 12, .none, .none, .none, .none, .int 185 0, .int 1 0, .str ("/claim/cut.py") 186] }
noncomputable def ob14sa (P : Params) : Obj := { cls := .type "frame", slots := #[some (.ref 13), some (.ref 3), some (.ref 3), none, some (.str ("__main__") 164), none, some (.ref 0)] }
noncomputable def ob2s4 (P : Params) : Obj := { cls := .none, data := .dict #[en P "type.__subclasses__.Exception.0" 212 (.int 31 0), en P "type.__subclasses__.Exception.n" 213 (.int 1 0)] 2 }
noncomputable def ob3s4 (P : Params) : Obj := { cls := .type "dict", data := .dict #[en P "__name__" 165 (.str ("cpy313.ftplib") 194), en P "__doc__" 166 (.none), en P "__package__" 167 (.none), en P "__loader__" 168 (.builtin "__main__.__loader__#opaque"), en P "__spec__" 169 (.none), en P "__annotations__" 170 (.ref 6), en P "__builtins__" 171 (.ref 4), en P "__file__" 173 (.str ("/claim/cut.py") 172), en P "__cached__" 174 (.none), en P "_wall" 193 (.ref 21), en P "Error" 215 (.ref 31), en P "error_reply" 231 (.ref 44)] 12 }
noncomputable def ob12s4 (P : Params) : Obj := { cls := .none, data := .fields #[.int 1 0, .int 0 0, .ref 20, .int 5 0, .int 0 0, .ref 27, .int 7 0, .int 0 0, .ref 40] }
noncomputable def ob15s4 (P : Params) : Obj := { cls := .type "tuple", data := .seq #[] }
noncomputable def ob16s4 (P : Params) : Obj := { cls := .none, data := .fields #[] }
noncomputable def ob17s4 (P : Params) : Obj := { cls := .type "tuple", data := .seq #[.str ("k") 190] }
noncomputable def ob18s4 (P : Params) : Obj := { cls := .type "tuple", data := .seq #[] }
noncomputable def ob19s4 (P : Params) : Obj := { cls := .none, data := .func { fdAt (stmtAt 0) ⟨"_wall", .none, .none, none, .none, .none⟩ with globals := 0 } }
noncomputable def ob20s4 (P : Params) : Obj := { cls := .type "code", data := .fields #[.str ("_wall") 187, .str ("_wall") 188, .str ("/claim/cut.py") 189, .int 1 0, .int 1 0, .int 0 0, .int 0 0, .int 3 0, .ref 15, .bool true, .int 181 0, .ref 16, .none, .ref 17, .ref 18, .ref 19, .int 191 0, .int 1 0, .str ("/claim/cut.py") 192] }
noncomputable def ob21s4 (P : Params) : Obj := { cls := .type "function", data := .func (fdAt (stmtAt 0) ⟨"_wall", .none, .str ("__main__") 164, none, .ref 20, .none⟩) }
noncomputable def ob22s4 (P : Params) : Obj := { cls := .type "tuple", data := .seq #[.type "Exception"] }
noncomputable def ob23s4 (P : Params) : Obj := { cls := .type "builtin_function_or_method", data := .fields #[.builtin "type.__prepare__", .type "type"] }
noncomputable def ob24s4 (P : Params) : Obj := { cls := .type "dict", data := .dict #[en P "__module__" 203 (.str ("cpy313.ftplib") 194), en P "__qualname__" 205 (.str ("Error") 204), en P "__firstlineno__" 207 (.int 5 206), en P "__static_attributes__" 208 (.ref 29)] 4 }
noncomputable def ob25s4 (P : Params) : Obj := { cls := .type "tuple", data := .seq #[] }
noncomputable def ob26s4 (P : Params) : Obj := { cls := .none, data := .fields #[] }
noncomputable def ob27s4 (P : Params) : Obj := { cls := .type "code", data := .fields #[.str ("Error") 198, .str ("Error") 199, .str ("/claim/cut.py") 200, .int 5 0, .int 0 0, .int 0 0, .int 0 0, .int 0 0, .ref 25, .bool false, .int 181 0, .ref 26, .none, .none, .none, .none, .int 201 0, .int 5 0, .str ("/claim/cut.py") 202] }
noncomputable def ob28s4 (P : Params) : Obj := { cls := .type "frame", slots := #[some (.ref 27), some (.ref 3), some (.ref 24), none, some (.str ("cpy313.ftplib") 194), none, some (.ref 0)] }
noncomputable def ob29s4 (P : Params) : Obj := { cls := .type "tuple", data := .seq #[] }
noncomputable def ob30s4 (P : Params) : Obj := { cls := .type "dict", data := .dict #[en P "__module__" 203 (.str ("cpy313.ftplib") 194), en P "__firstlineno__" 207 (.int 5 206), en P "__static_attributes__" 208 (.ref 29), en P "__weakref__" 210 (.ref 32), en P "__doc__" 211 (.none)] 3 }
noncomputable def ob31s4 (P : Params) : Obj := { cls := .type "type", data := .cls { name := "Error", bases := [.type "Exception"], mro := [.ref 31, .type "Exception", .type "BaseException", .type "object"], ns := 30, qualname := "Error", subclasses := [.ref 44] }, slots := #[some (.ref 22), none, some (.str ("Error") 196), some (.str ("Error") 204), some (.builtin "Exception.__new__"), some (.bool true)] }
noncomputable def ob32s4 (P : Params) : Obj := { cls := .type "getset_descriptor", data := .fields #[.str ("__weakref__") 209, .ref 31, .builtin "ExceptionGroup.__weakref__", .none] }
noncomputable def ob33s4 (P : Params) : Obj := { cls := .type "super", data := .fields #[.ref 31, .ref 31, .ref 31] }
noncomputable def ob34s4 (P : Params) : Obj := { cls := .type "builtin_function_or_method", data := .fields #[.builtin "object.__init_subclass__", .ref 31] }
noncomputable def ob35s4 (P : Params) : Obj := { cls := .type "tuple", data := .seq #[.ref 31] }
noncomputable def ob36s4 (P : Params) : Obj := { cls := .type "builtin_function_or_method", data := .fields #[.builtin "type.__prepare__", .type "type"] }
noncomputable def ob37s4 (P : Params) : Obj := { cls := .type "dict", data := .dict #[en P "__module__" 223 (.str ("cpy313.ftplib") 194), en P "__qualname__" 225 (.str ("error_reply") 224), en P "__firstlineno__" 227 (.int 7 226), en P "__static_attributes__" 228 (.ref 42)] 4 }
noncomputable def ob38s4 (P : Params) : Obj := { cls := .type "tuple", data := .seq #[] }
noncomputable def ob39s4 (P : Params) : Obj := { cls := .none, data := .fields #[] }
noncomputable def ob40s4 (P : Params) : Obj := { cls := .type "code", data := .fields #[.str ("error_reply") 218, .str ("error_reply") 219, .str ("/claim/cut.py") 220, .int 7 0, .int 0 0, .int 0 0, .int 0 0, .int 0 0, .ref 38, .bool false, .int 181 0, .ref 39, .none, .none, .none, .none, .int 221 0, .int 7 0, .str ("/claim/cut.py") 222] }
noncomputable def ob41s4 (P : Params) : Obj := { cls := .type "frame", slots := #[some (.ref 40), some (.ref 3), some (.ref 37), none, some (.str ("cpy313.ftplib") 194), none, some (.ref 0)] }
noncomputable def ob42s4 (P : Params) : Obj := { cls := .type "tuple", data := .seq #[] }
noncomputable def ob43s4 (P : Params) : Obj := { cls := .type "dict", data := .dict #[en P "__module__" 223 (.str ("cpy313.ftplib") 194), en P "__firstlineno__" 227 (.int 7 226), en P "__static_attributes__" 228 (.ref 42), en P "__doc__" 229 (.none)] 2 }
noncomputable def ob44s4 (P : Params) : Obj := { cls := .type "type", data := .cls { name := "error_reply", bases := [.ref 31], mro := [.ref 44, .ref 31, .type "Exception", .type "BaseException", .type "object"], ns := 43, qualname := "error_reply" }, slots := #[some (.ref 35), none, some (.str ("error_reply") 216), some (.str ("error_reply") 224), some (.builtin "Exception.__new__"), some (.bool true)] }
noncomputable def ob45s4 (P : Params) : Obj := { cls := .type "super", data := .fields #[.ref 44, .ref 44, .ref 44] }
noncomputable def ob46s4 (P : Params) : Obj := { cls := .type "builtin_function_or_method", data := .fields #[.builtin "object.__init_subclass__", .ref 44] }
noncomputable def ob3s13 (P : Params) : Obj := { cls := .type "dict", data := .dict #[en P "__name__" 165 (.str ("cpy313.tabnanny") 313), en P "__doc__" 166 (.none), en P "__package__" 167 (.none), en P "__loader__" 168 (.builtin "__main__.__loader__#opaque"), en P "__spec__" 169 (.none), en P "__annotations__" 170 (.ref 6), en P "__builtins__" 171 (.ref 4), en P "__file__" 173 (.str ("/claim/cut.py") 172), en P "__cached__" 174 (.none), en P "_wall" 193 (.ref 21), en P "Error" 215 (.ref 31), en P "error_reply" 231 (.ref 44), en P "error_proto" 247 (.ref 56), en P "parse229" 260 (.ref 65), en P "Int2AP" 272 (.ref 72), en P "add_func_stats" 292 (.ref 79), en P "add_callers" 303 (.ref 86), en P "count_calls" 312 (.ref 93)] 18 }
noncomputable def ob12s13 (P : Params) : Obj := { cls := .none, data := .fields #[.int 1 0, .int 0 0, .ref 20, .int 5 0, .int 0 0, .ref 27, .int 7 0, .int 0 0, .ref 40, .int 9 0, .int 0 0, .ref 52, .int 11 0, .int 0 0, .ref 64, .int 29 0, .int 0 0, .ref 71, .int 38 0, .int 0 0, .ref 78, .int 42 0, .int 0 0, .ref 85, .int 55 0, .int 0 0, .ref 92] }
noncomputable def ob31s13 (P : Params) : Obj := { cls := .type "type", data := .cls { name := "Error", bases := [.type "Exception"], mro := [.ref 31, .type "Exception", .type "BaseException", .type "object"], ns := 30, qualname := "Error", subclasses := [.ref 44, .ref 56] }, slots := #[some (.ref 22), none, some (.str ("Error") 196), some (.str ("Error") 204), some (.builtin "Exception.__new__"), some (.bool true)] }
noncomputable def ob47s13 (P : Params) : Obj := { cls := .type "tuple", data := .seq #[.ref 31] }
noncomputable def ob48s13 (P : Params) : Obj := { cls := .type "builtin_function_or_method", data := .fields #[.builtin "type.__prepare__", .type "type"] }
noncomputable def ob49s13 (P : Params) : Obj := { cls := .type "dict", data := .dict #[en P "__module__" 239 (.str ("cpy313.ftplib") 194), en P "__qualname__" 241 (.str ("error_proto") 240), en P "__firstlineno__" 243 (.int 9 242), en P "__static_attributes__" 244 (.ref 54)] 4 }
noncomputable def ob50s13 (P : Params) : Obj := { cls := .type "tuple", data := .seq #[] }
noncomputable def ob51s13 (P : Params) : Obj := { cls := .none, data := .fields #[] }
noncomputable def ob52s13 (P : Params) : Obj := { cls := .type "code", data := .fields #[.str ("error_proto") 234, .str ("error_proto") 235, .str ("/claim/cut.py") 236, .int 9 0, .int 0 0, .int 0 0, .int 0 0, .int 0 0, .ref 50, .bool false, .int 181 0, .ref 51, .none, .none, .none, .none, .int 237 0, .int 9 0, .str ("/claim/cut.py") 238] }
noncomputable def ob53s13 (P : Params) : Obj := { cls := .type "frame", slots := #[some (.ref 52), some (.ref 3), some (.ref 49), none, some (.str ("cpy313.ftplib") 194), none, some (.ref 0)] }
noncomputable def ob54s13 (P : Params) : Obj := { cls := .type "tuple", data := .seq #[] }
noncomputable def ob55s13 (P : Params) : Obj := { cls := .type "dict", data := .dict #[en P "__module__" 239 (.str ("cpy313.ftplib") 194), en P "__firstlineno__" 243 (.int 9 242), en P "__static_attributes__" 244 (.ref 54), en P "__doc__" 245 (.none)] 2 }
noncomputable def ob56s13 (P : Params) : Obj := { cls := .type "type", data := .cls { name := "error_proto", bases := [.ref 31], mro := [.ref 56, .ref 31, .type "Exception", .type "BaseException", .type "object"], ns := 55, qualname := "error_proto" }, slots := #[some (.ref 47), none, some (.str ("error_proto") 232), some (.str ("error_proto") 240), some (.builtin "Exception.__new__"), some (.bool true)] }
noncomputable def ob57s13 (P : Params) : Obj := { cls := .type "super", data := .fields #[.ref 56, .ref 56, .ref 56] }
noncomputable def ob58s13 (P : Params) : Obj := { cls := .type "builtin_function_or_method", data := .fields #[.builtin "object.__init_subclass__", .ref 56] }
noncomputable def ob59s13 (P : Params) : Obj := { cls := .type "tuple", data := .seq #[] }
noncomputable def ob60s13 (P : Params) : Obj := { cls := .none, data := .fields #[] }
noncomputable def ob61s13 (P : Params) : Obj := { cls := .type "tuple", data := .seq #[.str ("resp") 251, .str ("peer") 252, .str ("left") 253, .str ("right") 254, .str ("parts") 255, .str ("host") 256, .str ("port") 257] }
noncomputable def ob62s13 (P : Params) : Obj := { cls := .type "tuple", data := .seq #[] }
noncomputable def ob63s13 (P : Params) : Obj := { cls := .none, data := .func { fdAt (stmtAt 5) ⟨"parse229", .none, .none, none, .none, .none⟩ with globals := 0 } }
noncomputable def ob64s13 (P : Params) : Obj := { cls := .type "code", data := .fields #[.str ("parse229") 248, .str ("parse229") 249, .str ("/claim/cut.py") 250, .int 11 0, .int 2 0, .int 0 0, .int 0 0, .int 3 0, .ref 59, .bool true, .int 181 0, .ref 60, .none, .ref 61, .ref 62, .ref 63, .int 258 0, .int 11 0, .str ("/claim/cut.py") 259] }
noncomputable def ob65s13 (P : Params) : Obj := { cls := .type "function", data := .func (fdAt (stmtAt 5) ⟨"parse229", .none, .str ("cpy313.ftplib") 194, none, .ref 64, .none⟩) }
noncomputable def ob66s13 (P : Params) : Obj := { cls := .type "tuple", data := .seq #[] }
noncomputable def ob67s13 (P : Params) : Obj := { cls := .none, data := .fields #[] }
noncomputable def ob68s13 (P : Params) : Obj := { cls := .type "tuple", data := .seq #[.str ("num") 266, .str ("val") 267, .str ("AP") 268, .str ("mod") 269] }
noncomputable def ob69s13 (P : Params) : Obj := { cls := .type "tuple", data := .seq #[] }
noncomputable def ob70s13 (P : Params) : Obj := { cls := .none, data := .func { fdAt (stmtAt 7) ⟨"Int2AP", .none, .none, none, .none, .none⟩ with globals := 0 } }
noncomputable def ob71s13 (P : Params) : Obj := { cls := .type "code", data := .fields #[.str ("Int2AP") 263, .str ("Int2AP") 264, .str ("/claim/cut.py") 265, .int 29 0, .int 1 0, .int 0 0, .int 0 0, .int 3 0, .ref 66, .bool true, .int 181 0, .ref 67, .none, .ref 68, .ref 69, .ref 70, .int 270 0, .int 29 0, .str ("/claim/cut.py") 271] }
noncomputable def ob72s13 (P : Params) : Obj := { cls := .type "function", data := .func (fdAt (stmtAt 7) ⟨"Int2AP", .none, .str ("cpy313.imaplib") 261, none, .ref 71, .none⟩) }
noncomputable def ob73s13 (P : Params) : Obj := { cls := .type "tuple", data := .seq #[] }
noncomputable def ob74s13 (P : Params) : Obj := { cls := .none, data := .fields #[] }
noncomputable def ob75s13 (P : Params) : Obj := { cls := .type "tuple", data := .seq #[.str ("target") 278, .str ("source") 279, .str ("cc") 280, .str ("nc") 281, .str ("tt") 282, .str ("ct") 283, .str ("callers") 284, .str ("t_cc") 285, .str ("t_nc") 286, .str ("t_tt") 287, .str ("t_ct") 288, .str ("t_callers") 289] }
noncomputable def ob76s13 (P : Params) : Obj := { cls := .type "tuple", data := .seq #[] }
noncomputable def ob77s13 (P : Params) : Obj := { cls := .none, data := .func { fdAt (stmtAt 9) ⟨"add_func_stats", .none, .none, none, .none, .none⟩ with globals := 0 } }
noncomputable def ob78s13 (P : Params) : Obj := { cls := .type "code", data := .fields #[.str ("add_func_stats") 275, .str ("add_func_stats") 276, .str ("/claim/cut.py") 277, .int 38 0, .int 2 0, .int 0 0, .int 0 0, .int 3 0, .ref 73, .bool true, .int 181 0, .ref 74, .none, .ref 75, .ref 76, .ref 77, .int 290 0, .int 38 0, .str ("/claim/cut.py") 291] }
noncomputable def ob79s13 (P : Params) : Obj := { cls := .type "function", data := .func (fdAt (stmtAt 9) ⟨"add_func_stats", .none, .str ("cpy313.pstats") 273, none, .ref 78, .none⟩) }
noncomputable def ob80s13 (P : Params) : Obj := { cls := .type "tuple", data := .seq #[] }
noncomputable def ob81s13 (P : Params) : Obj := { cls := .none, data := .fields #[] }
noncomputable def ob82s13 (P : Params) : Obj := { cls := .type "tuple", data := .seq #[.str ("target") 296, .str ("source") 297, .str ("new_callers") 298, .str ("func") 299, .str ("caller") 300] }
noncomputable def ob83s13 (P : Params) : Obj := { cls := .type "tuple", data := .seq #[] }
noncomputable def ob84s13 (P : Params) : Obj := { cls := .none, data := .func { fdAt (stmtAt 10) ⟨"add_callers", .none, .none, none, .none, .none⟩ with globals := 0 } }
noncomputable def ob85s13 (P : Params) : Obj := { cls := .type "code", data := .fields #[.str ("add_callers") 293, .str ("add_callers") 294, .str ("/claim/cut.py") 295, .int 42 0, .int 2 0, .int 0 0, .int 0 0, .int 3 0, .ref 80, .bool true, .int 181 0, .ref 81, .none, .ref 82, .ref 83, .ref 84, .int 301 0, .int 42 0, .str ("/claim/cut.py") 302] }
noncomputable def ob86s13 (P : Params) : Obj := { cls := .type "function", data := .func (fdAt (stmtAt 10) ⟨"add_callers", .none, .str ("cpy313.pstats") 273, none, .ref 85, .none⟩) }
noncomputable def ob87s13 (P : Params) : Obj := { cls := .type "tuple", data := .seq #[] }
noncomputable def ob88s13 (P : Params) : Obj := { cls := .none, data := .fields #[] }
noncomputable def ob89s13 (P : Params) : Obj := { cls := .type "tuple", data := .seq #[.str ("callers") 307, .str ("nc") 308, .str ("calls") 309] }
noncomputable def ob90s13 (P : Params) : Obj := { cls := .type "tuple", data := .seq #[] }
noncomputable def ob91s13 (P : Params) : Obj := { cls := .none, data := .func { fdAt (stmtAt 11) ⟨"count_calls", .none, .none, none, .none, .none⟩ with globals := 0 } }
noncomputable def ob92s13 (P : Params) : Obj := { cls := .type "code", data := .fields #[.str ("count_calls") 304, .str ("count_calls") 305, .str ("/claim/cut.py") 306, .int 55 0, .int 1 0, .int 0 0, .int 0 0, .int 3 0, .ref 87, .bool true, .int 181 0, .ref 88, .none, .ref 89, .ref 90, .ref 91, .int 310 0, .int 55 0, .str ("/claim/cut.py") 311] }
noncomputable def ob93s13 (P : Params) : Obj := { cls := .type "function", data := .func (fdAt (stmtAt 11) ⟨"count_calls", .none, .str ("cpy313.pstats") 273, none, .ref 92, .none⟩) }
noncomputable def ob3s14 (P : Params) : Obj := { cls := .type "dict", data := .dict #[en P "__name__" 165 (.str ("cpy313.tabnanny") 313), en P "__doc__" 166 (.none), en P "__package__" 167 (.none), en P "__loader__" 168 (.builtin "__main__.__loader__#opaque"), en P "__spec__" 169 (.none), en P "__annotations__" 170 (.ref 6), en P "__builtins__" 171 (.ref 4), en P "__file__" 173 (.str ("/claim/cut.py") 172), en P "__cached__" 174 (.none), en P "_wall" 193 (.ref 21), en P "Error" 215 (.ref 31), en P "error_reply" 231 (.ref 44), en P "error_proto" 247 (.ref 56), en P "parse229" 260 (.ref 65), en P "Int2AP" 272 (.ref 72), en P "add_func_stats" 292 (.ref 79), en P "add_callers" 303 (.ref 86), en P "count_calls" 312 (.ref 93), en P "Whitespace" 415 (.ref 155)] 19 }
noncomputable def ob12s14 (P : Params) : Obj := { cls := .none, data := .fields #[.int 1 0, .int 0 0, .ref 20, .int 5 0, .int 0 0, .ref 27, .int 7 0, .int 0 0, .ref 40, .int 9 0, .int 0 0, .ref 52, .int 11 0, .int 0 0, .ref 64, .int 29 0, .int 0 0, .ref 71, .int 38 0, .int 0 0, .ref 78, .int 42 0, .int 0 0, .ref 85, .int 55 0, .int 0 0, .ref 92, .int 61 0, .int 0 0, .ref 99] }
noncomputable def ob94s14 (P : Params) : Obj := { cls := .type "tuple", data := .seq #[] }
noncomputable def ob95s14 (P : Params) : Obj := { cls := .type "builtin_function_or_method", data := .fields #[.builtin "type.__prepare__", .type "type"] }
noncomputable def ob96s14 (P : Params) : Obj := { cls := .type "dict", data := .dict #[en P "__module__" 322 (.str ("cpy313.tabnanny") 313), en P "__qualname__" 324 (.str ("Whitespace") 323), en P "__firstlineno__" 326 (.int 61 325), en P "S" 330 (.str (" ") 328), en P "T" 331 (.str ("\t") 329), en P "__init__" 346 (.ref 110), en P "longest_run_of_spaces" 355 (.ref 117), en P "indent_level" 367 (.ref 124), en P "equal" 375 (.ref 131), en P "not_equal_witness" 386 (.ref 138), en P "less" 394 (.ref 145), en P "not_less_witness" 402 (.ref 152), en P "__static_attributes__" 408 (.ref 153)] 13 }
noncomputable def ob97s14 (P : Params) : Obj := { cls := .type "tuple", data := .seq #[] }
noncomputable def ob98s14 (P : Params) : Obj := { cls := .none, data := .fields #[.int 64 0, .int 4 0, .ref 109, .int 87 0, .int 4 0, .ref 116, .int 91 0, .int 4 0, .ref 123, .int 98 0, .int 4 0, .ref 130, .int 101 0, .int 4 0, .ref 137, .int 109 0, .int 4 0, .ref 144, .int 112 0, .int 4 0, .ref 151] }
noncomputable def ob99s14 (P : Params) : Obj := { cls := .type "code", data := .fields #[.str ("Whitespace") 317, .str ("Whitespace") 318, .str ("/claim/cut.py") 319, .int 61 0, .int 0 0, .int 0 0, .int 0 0, .int 0 0, .ref 97, .bool false, .int 181 0, .ref 98, .none, .none, .none, .none, .int 320 0, .int 61 0, .str ("/claim/cut.py") 321] }
noncomputable def ob100s14 (P : Params) : Obj := { cls := .type "frame", slots := #[some (.ref 99), some (.ref 3), some (.ref 96), none, some (.str ("cpy313.tabnanny") 313), none, some (.ref 0)] }
noncomputable def ob101s14 (P : Params) : Obj := { cls := .type "str_ascii_iterator", data := .fields #[.none, .int 2 0] }
noncomputable def ob102s14 (P : Params) : Obj := { cls := .type "tuple", data := .seq #[] }
noncomputable def ob103s14 (P : Params) : Obj := { cls := .type "StopIteration", data := .fields #[.ref 102, .none, .none, .none, .bool false, .none] }
noncomputable def ob104s14 (P : Params) : Obj := { cls := .type "tuple", data := .seq #[] }
noncomputable def ob105s14 (P : Params) : Obj := { cls := .none, data := .fields #[] }
noncomputable def ob106s14 (P : Params) : Obj := { cls := .type "tuple", data := .seq #[.str ("self") 335, .str ("ws") 336, .str ("S") 337, .str ("T") 338, .str ("count") 339, .str ("b") 340, .str ("n") 341, .str ("nt") 342, .str ("ch") 343] }
noncomputable def ob107s14 (P : Params) : Obj := { cls := .type "tuple", data := .seq #[] }
noncomputable def ob108s14 (P : Params) : Obj := { cls := .none, data := .func { fdAt (methAt 1) ⟨"Whitespace.__init__", .none, .none, none, .none, .none⟩ with globals := 0 } }
noncomputable def ob109s14 (P : Params) : Obj := { cls := .type "code", data := .fields #[.str ("__init__") 332, .str ("Whitespace.__init__") 333, .str ("/claim/cut.py") 334, .int 64 0, .int 2 0, .int 0 0, .int 0 0, .int 3 0, .ref 104, .bool true, .int 181 0, .ref 105, .none, .ref 106, .ref 107, .ref 108, .int 344 0, .int 64 0, .str ("/claim/cut.py") 345] }
noncomputable def ob110s14 (P : Params) : Obj := { cls := .type "function", data := .func (fdAt (methAt 1) ⟨"Whitespace.__init__", .none, .str ("cpy313.tabnanny") 313, none, .ref 109, .none⟩) }
noncomputable def ob111s14 (P : Params) : Obj := { cls := .type "tuple", data := .seq #[] }
noncomputable def ob112s14 (P : Params) : Obj := { cls := .none, data := .fields #[] }
noncomputable def ob113s14 (P : Params) : Obj := { cls := .type "tuple", data := .seq #[.str ("self") 350, .str ("count") 351, .str ("trailing") 352] }
noncomputable def ob114s14 (P : Params) : Obj := { cls := .type "tuple", data := .seq #[] }
noncomputable def ob115s14 (P : Params) : Obj := { cls := .none, data := .func { fdAt (methAt 2) ⟨"Whitespace.longest_run_of_spaces", .none, .none, none, .none, .none⟩ with globals := 0 } }
noncomputable def ob116s14 (P : Params) : Obj := { cls := .type "code", data := .fields #[.str ("longest_run_of_spaces") 347, .str ("Whitespace.longest_run_of_spaces") 348, .str ("/claim/cut.py") 349, .int 87 0, .int 1 0, .int 0 0, .int 0 0, .int 3 0, .ref 111, .bool true, .int 181 0, .ref 112, .none, .ref 113, .ref 114, .ref 115, .int 353 0, .int 87 0, .str ("/claim/cut.py") 354] }
noncomputable def ob117s14 (P : Params) : Obj := { cls := .type "function", data := .func (fdAt (methAt 2) ⟨"Whitespace.longest_run_of_spaces", .none, .str ("cpy313.tabnanny") 313, none, .ref 116, .none⟩) }
noncomputable def ob118s14 (P : Params) : Obj := { cls := .type "tuple", data := .seq #[] }
noncomputable def ob119s14 (P : Params) : Obj := { cls := .none, data := .fields #[] }
noncomputable def ob120s14 (P : Params) : Obj := { cls := .type "tuple", data := .seq #[.str ("self") 359, .str ("tabsize") 360, .str ("count") 361, .str ("trailing") 362, .str ("il") 363, .str ("i") 364] }
noncomputable def ob121s14 (P : Params) : Obj := { cls := .type "tuple", data := .seq #[] }
noncomputable def ob122s14 (P : Params) : Obj := { cls := .none, data := .func { fdAt (methAt 3) ⟨"Whitespace.indent_level", .none, .none, none, .none, .none⟩ with globals := 0 } }
noncomputable def ob123s14 (P : Params) : Obj := { cls := .type "code", data := .fields #[.str ("indent_level") 356, .str ("Whitespace.indent_level") 357, .str ("/claim/cut.py") 358, .int 91 0, .int 2 0, .int 0 0, .int 0 0, .int 3 0, .ref 118, .bool true, .int 181 0, .ref 119, .none, .ref 120, .ref 121, .ref 122, .int 365 0, .int 91 0, .str ("/claim/cut.py") 366] }
noncomputable def ob124s14 (P : Params) : Obj := { cls := .type "function", data := .func (fdAt (methAt 3) ⟨"Whitespace.indent_level", .none, .str ("cpy313.tabnanny") 313, none, .ref 123, .none⟩) }
noncomputable def ob125s14 (P : Params) : Obj := { cls := .type "tuple", data := .seq #[] }
noncomputable def ob126s14 (P : Params) : Obj := { cls := .none, data := .fields #[] }
noncomputable def ob127s14 (P : Params) : Obj := { cls := .type "tuple", data := .seq #[.str ("self") 371, .str ("other") 372] }
noncomputable def ob128s14 (P : Params) : Obj := { cls := .type "tuple", data := .seq #[] }
noncomputable def ob129s14 (P : Params) : Obj := { cls := .none, data := .func { fdAt (methAt 4) ⟨"Whitespace.equal", .none, .none, none, .none, .none⟩ with globals := 0 } }
noncomputable def ob130s14 (P : Params) : Obj := { cls := .type "code", data := .fields #[.str ("equal") 368, .str ("Whitespace.equal") 369, .str ("/claim/cut.py") 370, .int 98 0, .int 2 0, .int 0 0, .int 0 0, .int 3 0, .ref 125, .bool true, .int 181 0, .ref 126, .none, .ref 127, .ref 128, .ref 129, .int 373 0, .int 98 0, .str ("/claim/cut.py") 374] }
noncomputable def ob131s14 (P : Params) : Obj := { cls := .type "function", data := .func (fdAt (methAt 4) ⟨"Whitespace.equal", .none, .str ("cpy313.tabnanny") 313, none, .ref 130, .none⟩) }
noncomputable def ob132s14 (P : Params) : Obj := { cls := .type "tuple", data := .seq #[] }
noncomputable def ob133s14 (P : Params) : Obj := { cls := .none, data := .fields #[] }
noncomputable def ob134s14 (P : Params) : Obj := { cls := .type "tuple", data := .seq #[.str ("self") 379, .str ("other") 380, .str ("n") 381, .str ("a") 382, .str ("ts") 383] }
noncomputable def ob135s14 (P : Params) : Obj := { cls := .type "tuple", data := .seq #[] }
noncomputable def ob136s14 (P : Params) : Obj := { cls := .none, data := .func { fdAt (methAt 5) ⟨"Whitespace.not_equal_witness", .none, .none, none, .none, .none⟩ with globals := 0 } }
noncomputable def ob137s14 (P : Params) : Obj := { cls := .type "code", data := .fields #[.str ("not_equal_witness") 376, .str ("Whitespace.not_equal_witness") 377, .str ("/claim/cut.py") 378, .int 101 0, .int 2 0, .int 0 0, .int 0 0, .int 3 0, .ref 132, .bool true, .int 181 0, .ref 133, .none, .ref 134, .ref 135, .ref 136, .int 384 0, .int 101 0, .str ("/claim/cut.py") 385] }
noncomputable def ob138s14 (P : Params) : Obj := { cls := .type "function", data := .func (fdAt (methAt 5) ⟨"Whitespace.not_equal_witness", .none, .str ("cpy313.tabnanny") 313, none, .ref 137, .none⟩) }
noncomputable def ob139s14 (P : Params) : Obj := { cls := .type "tuple", data := .seq #[] }
noncomputable def ob140s14 (P : Params) : Obj := { cls := .none, data := .fields #[] }
noncomputable def ob141s14 (P : Params) : Obj := { cls := .type "tuple", data := .seq #[.str ("self") 390, .str ("other") 391] }
noncomputable def ob142s14 (P : Params) : Obj := { cls := .type "tuple", data := .seq #[] }
noncomputable def ob143s14 (P : Params) : Obj := { cls := .none, data := .func { fdAt (methAt 6) ⟨"Whitespace.less", .none, .none, none, .none, .none⟩ with globals := 0 } }
noncomputable def ob144s14 (P : Params) : Obj := { cls := .type "code", data := .fields #[.str ("less") 387, .str ("Whitespace.less") 388, .str ("/claim/cut.py") 389, .int 109 0, .int 2 0, .int 0 0, .int 0 0, .int 3 0, .ref 139, .bool true, .int 181 0, .ref 140, .none, .ref 141, .ref 142, .ref 143, .int 392 0, .int 109 0, .str ("/claim/cut.py") 393] }
noncomputable def ob145s14 (P : Params) : Obj := { cls := .type "function", data := .func (fdAt (methAt 6) ⟨"Whitespace.less", .none, .str ("cpy313.tabnanny") 313, none, .ref 144, .none⟩) }
noncomputable def ob146s14 (P : Params) : Obj := { cls := .type "tuple", data := .seq #[] }
noncomputable def ob147s14 (P : Params) : Obj := { cls := .none, data := .fields #[] }
noncomputable def ob148s14 (P : Params) : Obj := { cls := .type "tuple", data := .seq #[.str ("self") 398, .str ("other") 399] }
noncomputable def ob149s14 (P : Params) : Obj := { cls := .type "tuple", data := .seq #[] }
noncomputable def ob150s14 (P : Params) : Obj := { cls := .none, data := .func { fdAt (methAt 7) ⟨"Whitespace.not_less_witness", .none, .none, none, .none, .none⟩ with globals := 0 } }
noncomputable def ob151s14 (P : Params) : Obj := { cls := .type "code", data := .fields #[.str ("not_less_witness") 395, .str ("Whitespace.not_less_witness") 396, .str ("/claim/cut.py") 397, .int 112 0, .int 2 0, .int 0 0, .int 0 0, .int 3 0, .ref 146, .bool true, .int 181 0, .ref 147, .none, .ref 148, .ref 149, .ref 150, .int 400 0, .int 112 0, .str ("/claim/cut.py") 401] }
noncomputable def ob152s14 (P : Params) : Obj := { cls := .type "function", data := .func (fdAt (methAt 7) ⟨"Whitespace.not_less_witness", .none, .str ("cpy313.tabnanny") 313, none, .ref 151, .none⟩) }
noncomputable def ob153s14 (P : Params) : Obj := { cls := .type "tuple", data := .seq #[.str ("is_simple") 403, .str ("n") 404, .str ("norm") 405, .str ("nt") 406, .str ("raw") 407] }
noncomputable def ob154s14 (P : Params) : Obj := { cls := .type "dict", data := .dict #[en P "__module__" 322 (.str ("cpy313.tabnanny") 313), en P "__firstlineno__" 326 (.int 61 325), en P "S" 330 (.str (" ") 328), en P "T" 331 (.str ("\t") 329), en P "__init__" 346 (.ref 110), en P "longest_run_of_spaces" 355 (.ref 117), en P "indent_level" 367 (.ref 124), en P "equal" 375 (.ref 131), en P "not_equal_witness" 386 (.ref 138), en P "less" 394 (.ref 145), en P "not_less_witness" 402 (.ref 152), en P "__static_attributes__" 408 (.ref 153), en P "__dict__" 410 (.ref 156), en P "__weakref__" 412 (.ref 157), en P "__doc__" 413 (.none)] 4 }
noncomputable def ob155s14 (P : Params) : Obj := { cls := .type "type", data := .cls { name := "Whitespace", bases := [.type "object"], mro := [.ref 155, .type "object"], ns := 154, qualname := "Whitespace" }, slots := #[none, none, some (.str ("Whitespace") 315), some (.str ("Whitespace") 323), some (.builtin "object.__new__"), some (.bool true)] }
noncomputable def ob156s14 (P : Params) : Obj := { cls := .type "getset_descriptor", data := .fields #[.str ("__dict__") 409, .ref 155, .builtin "function.__dict__", .builtin "function.__dict__#set"] }
noncomputable def ob157s14 (P : Params) : Obj := { cls := .type "getset_descriptor", data := .fields #[.str ("__weakref__") 411, .ref 155, .builtin "ExceptionGroup.__weakref__", .none] }
noncomputable def ob158s14 (P : Params) : Obj := { cls := .type "super", data := .fields #[.ref 155, .ref 155, .ref 155] }
noncomputable def ob159s14 (P : Params) : Obj := { cls := .type "builtin_function_or_method", data := .fields #[.builtin "object.__init_subclass__", .ref 155] }
noncomputable def hpsa (P : Params) : Heap := ⟨#[boot_o_0 P, boot_o_1 P, boot_o_2 P, boot_o_3 P, boot_o_4 P, boot_o_5 P, boot_o_6 P, boot_o_7 P, boot_o_8 P, boot_o_9 P, boot_o_10 P, ob11sa P, ob12sa P, ob13sa P, ob14sa P], (boot_heap P).life⟩
noncomputable def hps4 (P : Params) : Heap := ⟨#[boot_o_0 P, boot_o_1 P, ob2s4 P, ob3s4 P, boot_o_4 P, boot_o_5 P, boot_o_6 P, boot_o_7 P, boot_o_8 P, boot_o_9 P, boot_o_10 P, ob11sa P, ob12s4 P, ob13sa P, ob14sa P, ob15s4 P, ob16s4 P, ob17s4 P, ob18s4 P, ob19s4 P, ob20s4 P, ob21s4 P, ob22s4 P, ob23s4 P, ob24s4 P, ob25s4 P, ob26s4 P, ob27s4 P, ob28s4 P, ob29s4 P, ob30s4 P, ob31s4 P, ob32s4 P, ob33s4 P, ob34s4 P, ob35s4 P, ob36s4 P, ob37s4 P, ob38s4 P, ob39s4 P, ob40s4 P, ob41s4 P, ob42s4 P, ob43s4 P, ob44s4 P, ob45s4 P, ob46s4 P], (boot_heap P).life⟩
noncomputable def hps13 (P : Params) : Heap := ⟨#[boot_o_0 P, boot_o_1 P, ob2s4 P, ob3s13 P, boot_o_4 P, boot_o_5 P, boot_o_6 P, boot_o_7 P, boot_o_8 P, boot_o_9 P, boot_o_10 P, ob11sa P, ob12s13 P, ob13sa P, ob14sa P, ob15s4 P, ob16s4 P, ob17s4 P, ob18s4 P, ob19s4 P, ob20s4 P, ob21s4 P, ob22s4 P, ob23s4 P, ob24s4 P, ob25s4 P, ob26s4 P, ob27s4 P, ob28s4 P, ob29s4 P, ob30s4 P, ob31s13 P, ob32s4 P, ob33s4 P, ob34s4 P, ob35s4 P, ob36s4 P, ob37s4 P, ob38s4 P, ob39s4 P, ob40s4 P, ob41s4 P, ob42s4 P, ob43s4 P, ob44s4 P, ob45s4 P, ob46s4 P, ob47s13 P, ob48s13 P, ob49s13 P, ob50s13 P, ob51s13 P, ob52s13 P, ob53s13 P, ob54s13 P, ob55s13 P, ob56s13 P, ob57s13 P, ob58s13 P, ob59s13 P, ob60s13 P, ob61s13 P, ob62s13 P, ob63s13 P, ob64s13 P, ob65s13 P, ob66s13 P, ob67s13 P, ob68s13 P, ob69s13 P, ob70s13 P, ob71s13 P, ob72s13 P, ob73s13 P, ob74s13 P, ob75s13 P, ob76s13 P, ob77s13 P, ob78s13 P, ob79s13 P, ob80s13 P, ob81s13 P, ob82s13 P, ob83s13 P, ob84s13 P, ob85s13 P, ob86s13 P, ob87s13 P, ob88s13 P, ob89s13 P, ob90s13 P, ob91s13 P, ob92s13 P, ob93s13 P], (boot_heap P).life⟩
noncomputable def hps14 (P : Params) : Heap := ⟨#[boot_o_0 P, boot_o_1 P, ob2s4 P, ob3s14 P, boot_o_4 P, boot_o_5 P, boot_o_6 P, boot_o_7 P, boot_o_8 P, boot_o_9 P, boot_o_10 P, ob11sa P, ob12s14 P, ob13sa P, ob14sa P, ob15s4 P, ob16s4 P, ob17s4 P, ob18s4 P, ob19s4 P, ob20s4 P, ob21s4 P, ob22s4 P, ob23s4 P, ob24s4 P, ob25s4 P, ob26s4 P, ob27s4 P, ob28s4 P, ob29s4 P, ob30s4 P, ob31s13 P, ob32s4 P, ob33s4 P, ob34s4 P, ob35s4 P, ob36s4 P, ob37s4 P, ob38s4 P, ob39s4 P, ob40s4 P, ob41s4 P, ob42s4 P, ob43s4 P, ob44s4 P, ob45s4 P, ob46s4 P, ob47s13 P, ob48s13 P, ob49s13 P, ob50s13 P, ob51s13 P, ob52s13 P, ob53s13 P, ob54s13 P, ob55s13 P, ob56s13 P, ob57s13 P, ob58s13 P, ob59s13 P, ob60s13 P, ob61s13 P, ob62s13 P, ob63s13 P, ob64s13 P, ob65s13 P, ob66s13 P, ob67s13 P, ob68s13 P, ob69s13 P, ob70s13 P, ob71s13 P, ob72s13 P, ob73s13 P, ob74s13 P, ob75s13 P, ob76s13 P, ob77s13 P, ob78s13 P, ob79s13 P, ob80s13 P, ob81s13 P, ob82s13 P, ob83s13 P, ob84s13 P, ob85s13 P, ob86s13 P, ob87s13 P, ob88s13 P, ob89s13 P, ob90s13 P, ob91s13 P, ob92s13 P, ob93s13 P, ob94s14 P, ob95s14 P, ob96s14 P, ob97s14 P, ob98s14 P, ob99s14 P, ob100s14 P, ob101s14 P, ob102s14 P, ob103s14 P, ob104s14 P, ob105s14 P, ob106s14 P, ob107s14 P, ob108s14 P, ob109s14 P, ob110s14 P, ob111s14 P, ob112s14 P, ob113s14 P, ob114s14 P, ob115s14 P, ob116s14 P, ob117s14 P, ob118s14 P, ob119s14 P, ob120s14 P, ob121s14 P, ob122s14 P, ob123s14 P, ob124s14 P, ob125s14 P, ob126s14 P, ob127s14 P, ob128s14 P, ob129s14 P, ob130s14 P, ob131s14 P, ob132s14 P, ob133s14 P, ob134s14 P, ob135s14 P, ob136s14 P, ob137s14 P, ob138s14 P, ob139s14 P, ob140s14 P, ob141s14 P, ob142s14 P, ob143s14 P, ob144s14 P, ob145s14 P, ob146s14 P, ob147s14 P, ob148s14 P, ob149s14 P, ob150s14 P, ob151s14 P, ob152s14 P, ob153s14 P, ob154s14 P, ob155s14 P, ob156s14 P, ob157s14 P, ob158s14 P, ob159s14 P], (boot_heap P).life⟩
noncomputable def envT : Env := { scope := pw.main.scope, locals := mainNs, globals := mainNs, cells := [], code := .ref 13, frame := some 14 }
noncomputable def bodyT : List Stmt := behindTheImports pw
noncomputable def codeT : Code := .body bodyT envT
noncomputable def posT : Pos := ⟨0, 0, 0, 0⟩
noncomputable def l1 : List Stmt := [stmtAt 0, stmtAt 1, stmtAt 2, stmtAt 3]
noncomputable def l2 : List Stmt := [stmtAt 4, stmtAt 5, stmtAt 6, stmtAt 7, stmtAt 8, stmtAt 9, stmtAt 10, stmtAt 11, stmtAt 12]
noncomputable def l3 : List Stmt := [stmtAt 13]
noncomputable def l4 : List Stmt := [stmtAt 14, stmtAt 15, stmtAt 16, stmtAt 17, stmtAt 18, stmtAt 19, stmtAt 20, stmtAt 21, stmtAt 22]
theorem body_is : bodyT = l1 ++ (l2 ++ (l3 ++ l4)) := by kernel_rfl
noncomputable abbrev stT (h : Params → Heap) (k : Nat) (w : World) (os : OsState) : Shared := ⟨h w.params, Array.mk [], boot_drawn, k, os⟩
noncomputable abbrev annT : Option Value := some (.ref 6)
noncomputable abbrev p1T : Pos := ⟨7, 0, 8, 8⟩
noncomputable abbrev p2T : Pos := ⟨60, 0, 60, 8⟩
noncomputable abbrev p3T : Pos := ⟨61, 0, 113, 16⟩
theorem cutP (w : World) (os : OsState) : topGo treeTable pw w 11 annT 12 (stT boot_heap boot_toks w os) (topStub pw) = some (stT hpsa 187 w os, ⟨denote treeTable (.body bodyT envT), codeT, posT, [topFrame posT]⟩) := by kernel_rfl
theorem cutB (w : World) (os : OsState) : segRun treeTable pw w 11 annT 1 1 (stT hpsa 187 w os) (blockOf bodyT envT codeT posT [topFrame posT]) = some (.next, stT hpsa 187 w os, codeT, posT) := by kernel_rfl
theorem cut1 (w : World) (os : OsState) : segRun treeTable pw w 11 annT 1 448 (stT hpsa 187 w os) (piecesOf l1 envT codeT posT [topFrame posT]) = some (.next, stT hps4 232 w os, codeT, p1T) := by kernel_rfl
theorem cut2 (w : World) (os : OsState) : segRun treeTable pw w 11 annT 1 412 (stT hps4 232 w os) (piecesOf l2 envT codeT p1T [topFrame posT]) = some (.next, stT hps13 315 w os, codeT, p2T) := by kernel_rfl
noncomputable abbrev Cut3 (os : OsState) (w : World) : Prop := segRun treeTable pw w 11 annT 1 494 (stT hps13 315 w os) (piecesOf l3 envT codeT p2T [topFrame posT]) = some (.next, stT hps14 416 w os, codeT, p3T)
theorem cut3a (w : World) (os : OsState) : Cut3 os (w.withFollow "special-get-raises" false) := by kernel_rfl
theorem cut3b (w : World) (os : OsState) : Cut3 os (w.withFollow "special-get-raises" true) := by kernel_rfl
theorem cut3 (w : World) (os : OsState) : Cut3 os w := byRow2 "special-get-raises" (P := Cut3 os) (fun w => cut3a w os) (fun w => cut3b w os) w
noncomputable abbrev okT (s₀ s₁ : Shared) : Bool := staticsOk (importedModules pw.main.body) s₀.heap s₁.heap && namesBound pw s₁.heap && gensDone s₁ && laidKept s₀.heap s₁.heap
theorem cut4 (w : World) (os : OsState) : ((topRun treeTable pw w 11 annT 600 (stT hps14 416 w os) (restOf l4 envT codeT p3T [topFrame posT])).bind fun s₁ => match okT (stT boot_heap boot_toks w os) s₁ with
      | true => some s₁
      | false => none).map (fun s => (openSeen vw ["Whitespace"] (importedModules pw.main.body) xt true s, hk.obs s)) = some (openGood vw ["Whitespace"], hk.val w) := by kernel_rfl
theorem cuts {w : World} {os : OsState} {r : Shared} (h : topRun treeTable pw w 11 annT 600 (stT hps14 416 w os) (restOf l4 envT codeT p3T [topFrame posT]) = some r) :
    topRun treeTable pw w 11 annT (12 + (1 + (448 + (412 + (494 + 600))))) (stT boot_heap boot_toks w os) (topStub pw) = some r := by
  refine go_top (cutP w os) (piece_block (cutB w os) ?_)
  rw [body_is]
  exact piece_app (cut1 w os) (piece_app (cut2 w os) (piece_app (cut3 w os) h))
theorem size_is (P : Params) : ((boot_heap P).isNs mainGlobals, (boot_heap P).objs.size, (boot_heap P).nsMap mainGlobals "__annotations__") = (true, 11, annT) := by kernel_rfl
theorem left_ok : LeftO pw vw ["Whitespace"] xt hk.obs hk.val 3286 true := fun w => by
  obtain ⟨⟨h, gs, d, k, os⟩, e, e'⟩ := Option.map_eq_some_iff.mp (boot_open (N := 3286) opens (by decide +kernel) fences w)
  obtain ⟨rfl, rfl, rfl, rfl⟩ : h = boot_heap w.params ∧ gs = Array.mk [] ∧ d = boot_drawn ∧ k = boot_toks := by simpa using e'
  obtain ⟨s₁, b, l⟩ := Option.map_eq_some_iff.mp (cut4 w os)
  obtain ⟨r, h1, h2⟩ := Option.bind_eq_some_iff.mp b
  have run := topRun_mono 1319 _ _ _ _ (cuts h1)
  obtain ⟨z1, z2, z3⟩ : (boot_heap w.params).isNs mainGlobals = true ∧ (boot_heap w.params).objs.size = 11 ∧ (boot_heap w.params).nsMap mainGlobals "__annotations__" = annT := by
    have := size_is w.params
    simpa only [Prod.mk.injEq] using this
  have hn : 12 + (1 + (448 + (412 + (494 + 600)))) + 1319 = 3286 := by decide
  rw [hn] at run
  have t : topFrom treeTable pw w 3286 ⟨boot_heap w.params, Array.mk [], boot_drawn, boot_toks, os⟩ = some s₁ := by
    unfold topFrom
    dsimp only
    rw [z1, z2, z3, run, Option.bind_some]
    exact h2
  unfold openEnds
  rw [e, Option.bind_some, t, Option.map_some, l]
end Mine
end

section
open PySem PySem.W PySem.Calls PySem.Spec PyProof.Rows
set_option linter.unusedVariables false
namespace Mine
section
variable {K : Frag} {h : Heap} {mg mb : Str → Option Value}
noncomputable def zOf (K : Frag) (a : Addr) : Fv := match K.lookup a with
  | some ⟨_, _, .func fd, _⟩ => ⟨fd.qualname, fd.doc, fd.pyModule, fd.annotations, fd.code, fd.closureTuple⟩
  | _ => ⟨Str.empty, .none, .none, none, .none, .none⟩
noncomputable def dOf (K : Frag) (a : Addr) : Option Data := (K.lookup a).map (·.data)
theorem hasK {a : Addr} {st : Stmt} (X : K.In h) (e : dOf K a = some (.func (fdAt st (zOf K a)))) (c : codeIn K (zOf K a).cd (zOf K a).qual = true) : Has h st a := by
  unfold dOf at e
  cases q : K.lookup a with
  | none => rw [q] at e; cases e
  | some o =>
    rw [q] at e
    exact ⟨o, zOf K a, X _ _ q, Option.some.inj e, codeRec_of X c⟩
theorem gnK {x : Str} {v : Value} (X : K.In h) (g : h.Ns mainGlobals mg) (e : nsIn K mainGlobals x = some (some v)) : Gn h x v := ⟨mg, g, .inl (mg_of X g e)⟩
theorem gnB {x : Str} {v : Value} (X : K.In h) (g : h.Ns mainGlobals mg) (b : h.Ns builtinsNs mb) (bi : ∀ x : Str, x ≠ "__name__" → mb x = bootBuiltins x) (e : nsIn K mainGlobals x = some none) (hv : bootBuiltins x = some v) (hn : x ≠ "__name__" := by decide +kernel) : Gn h x v :=
  ⟨mg, g, .inr ⟨mg_none_of X g e, mb, b, (bi x hn).trans hv⟩⟩
end
set_option maxRecDepth 100000
section
variable {P : Params} {h : Heap} {mg mb : Str → Option Value}
noncomputable abbrev KK (P : Params) : Frag := kf P
theorem gf_totals (X : (KK P).In h) (g : h.Ns mainGlobals mg) : Gf h (stmtAt 15) "_law_totals" 164 := ⟨hasK X (by kernel_rfl) (by kernel_rfl), gnK X g (by kernel_rfl)⟩
theorem gf_lead (X : (KK P).In h) (g : h.Ns mainGlobals mg) : Gf h (stmtAt 16) "_law_lead" 169 := ⟨hasK X (by kernel_rfl) (by kernel_rfl), gnK X g (by kernel_rfl)⟩
theorem gf_column (X : (KK P).In h) (g : h.Ns mainGlobals mg) : Gf h (stmtAt 17) "_law_column" 176 := ⟨hasK X (by kernel_rfl) (by kernel_rfl), gnK X g (by kernel_rfl)⟩
theorem gf_nanny (X : (KK P).In h) (g : h.Ns mainGlobals mg) : Gf h (stmtAt 18) "_law_nanny" 181 := ⟨hasK X (by kernel_rfl) (by kernel_rfl), gnK X g (by kernel_rfl)⟩
theorem gf_told (X : (KK P).In h) (g : h.Ns mainGlobals mg) : Gf h (stmtAt 19) "_law_told" 186 := ⟨hasK X (by kernel_rfl) (by kernel_rfl), gnK X g (by kernel_rfl)⟩
theorem gf_due (X : (KK P).In h) (g : h.Ns mainGlobals mg) : Gf h (stmtAt 20) "_law_due" 193 := ⟨hasK X (by kernel_rfl) (by kernel_rfl), gnK X g (by kernel_rfl)⟩
theorem gf_place (X : (KK P).In h) (g : h.Ns mainGlobals mg) : Gf h (stmtAt 21) "_law_place" 198 := ⟨hasK X (by kernel_rfl) (by kernel_rfl), gnK X g (by kernel_rfl)⟩
theorem gf_parse (X : (KK P).In h) (g : h.Ns mainGlobals mg) : Gf h (stmtAt 5) "parse229" 65 := ⟨hasK X (by kernel_rfl) (by kernel_rfl), gnK X g (by kernel_rfl)⟩
theorem gf_ap (X : (KK P).In h) (g : h.Ns mainGlobals mg) : Gf h (stmtAt 7) "Int2AP" 72 := ⟨hasK X (by kernel_rfl) (by kernel_rfl), gnK X g (by kernel_rfl)⟩
theorem gf_stats (X : (KK P).In h) (g : h.Ns mainGlobals mg) : Gf h (stmtAt 9) "add_func_stats" 79 := ⟨hasK X (by kernel_rfl) (by kernel_rfl), gnK X g (by kernel_rfl)⟩
theorem gf_addC (X : (KK P).In h) (g : h.Ns mainGlobals mg) : Gf h (stmtAt 10) "add_callers" 86 := ⟨hasK X (by kernel_rfl) (by kernel_rfl), gnK X g (by kernel_rfl)⟩
theorem gf_count (X : (KK P).In h) (g : h.Ns mainGlobals mg) : Gf h (stmtAt 11) "count_calls" 93 := ⟨hasK X (by kernel_rfl) (by kernel_rfl), gnK X g (by kernel_rfl)⟩
theorem hm_init (X : (KK P).In h) : Has h (methAt 1) 110 := hasK X (by kernel_rfl) (by kernel_rfl)
theorem hm_long (X : (KK P).In h) : Has h (methAt 2) 117 := hasK X (by kernel_rfl) (by kernel_rfl)
theorem hm_ind (X : (KK P).In h) : Has h (methAt 3) 124 := hasK X (by kernel_rfl) (by kernel_rfl)
theorem hm_eq (X : (KK P).In h) : Has h (methAt 4) 131 := hasK X (by kernel_rfl) (by kernel_rfl)
theorem hm_wit (X : (KK P).In h) : Has h (methAt 5) 138 := hasK X (by kernel_rfl) (by kernel_rfl)
theorem fldK (P : Params) {x : Str} (h1 : takerIn (KK P) 155 x = some none) (h2 : findIn (KK P) (.ref 155) x = some none) (h3 : noGet (KK P) none = true := by kernel_rfl) : Kfld (KK P) 155 x := ⟨h1, none, h2, h3⟩
theorem wc_of (X : (KK P).In h) (g : h.Ns mainGlobals mg) (b : h.Ns builtinsNs mb) (bi : ∀ x : Str, x ≠ "__name__" → mb x = bootBuiltins x) (nl : h.NoLimit) : Wc (KK P) h 155 where
  k := ⟨X, by kernel_rfl, by kernel_rfl, by kernel_rfl, by kernel_rfl, by kernel_rfl⟩
  nl := nl
  raw := fldK P (by kernel_rfl) (by kernel_rfl)
  n := fldK P (by kernel_rfl) (by kernel_rfl)
  nt := fldK P (by kernel_rfl) (by kernel_rfl)
  norm := fldK P (by kernel_rfl) (by kernel_rfl)
  sim := fldK P (by kernel_rfl) (by kernel_rfl)
  S := ⟨328, .type "type", by kernel_rfl, by kernel_rfl, by kernel_rfl⟩
  T := ⟨329, .type "type", by kernel_rfl, by kernel_rfl, by kernel_rfl⟩
  g := gnK X g (by kernel_rfl)
  len := gnB X g b bi (by kernel_rfl) (by kernel_rfl)
  tup := gnB X g b bi (by kernel_rfl) (by kernel_rfl)
  max := gnB X g b bi (by kernel_rfl) (by kernel_rfl)
  range := gnB X g b bi (by kernel_rfl) (by kernel_rfl)
theorem wm_of (X : (KK P).In h) (g : h.Ns mainGlobals mg) (b : h.Ns builtinsNs mb) (bi : ∀ x : Str, x ≠ "__name__" → mb x = bootBuiltins x) (nl : h.NoLimit) : Wm (KK P) h 155 where
  c := wc_of X g b bi nl
  keep := by kernel_rfl
  init := ⟨110, by kernel_rfl, by kernel_rfl, hm_init X⟩
  long := ⟨117, ⟨by kernel_rfl, by kernel_rfl⟩, hm_long X⟩
  ind := ⟨124, ⟨by kernel_rfl, by kernel_rfl⟩, hm_ind X⟩
  eq := ⟨131, ⟨by kernel_rfl, by kernel_rfl⟩, hm_eq X⟩
  wit := ⟨138, ⟨by kernel_rfl, by kernel_rfl⟩, hm_wit X⟩
theorem pc_of {prog : Program} {w : World} {p : Program} {loose : List Str} (X : (KK P).In h) (T : TopRead p loose mg mb h) : Pc prog w h where
  nl := T.nolimit
  mg := by obtain ⟨o, _, _, e, _⟩ := T.g; exact ⟨o, e⟩
  len := gnB X T.g T.b T.builtins (by kernel_rfl) (by kernel_rfl)
  int := gnB X T.g T.b T.builtins (by kernel_rfl) (by kernel_rfl)
  str := gnB X T.g T.b T.builtins (by kernel_rfl) (by kernel_rfl)
  range := gnB X T.g T.b T.builtins (by kernel_rfl) (by kernel_rfl)
  sum := gnB X T.g T.b T.builtins (by kernel_rfl) (by kernel_rfl)
  isi := gnB X T.g T.b T.builtins (by kernel_rfl) (by kernel_rfl)
  tup := gnB X T.g T.b T.builtins (by kernel_rfl) (by kernel_rfl)
  list := gnB X T.g T.b T.builtins (by kernel_rfl) (by kernel_rfl)
  zip := gnB X T.g T.b T.builtins (by kernel_rfl) (by kernel_rfl)
  bytes := gnB X T.g T.b T.builtins (by kernel_rfl) (by kernel_rfl)
  abs := gnB X T.g T.b T.builtins (by kernel_rfl) (by kernel_rfl)
  dm := gnB X T.g T.b T.builtins (by kernel_rfl) (by kernel_rfl)
  parse := ⟨_, gf_parse X T.g⟩
  told := ⟨_, gf_told X T.g⟩
  due := ⟨_, gf_due X T.g⟩
  stats := ⟨_, gf_stats X T.g⟩
  addC := ⟨_, gf_addC X T.g⟩
  count := ⟨_, gf_count X T.g⟩
  ap := ⟨_, gf_ap X T.g⟩
  exc := ⟨56, _, _, _, _, ⟨mg, T.g, own_of_in X T (by kernel_rfl) (by kernel_rfl)⟩, PySem.F.excBase_Exception⟩
theorem lc_of {prog : Program} {w : World} {p : Program} {loose : List Str} (X : (KK P).In h) (T : TopRead p loose mg mb h) : Lc prog w h where
  p := pc_of X T
  tot := ⟨_, gf_totals X T.g⟩
  nan := ⟨_, gf_nanny X T.g⟩
  nc := ⟨KK P, 155, 169, 176, wm_of X T.g T.b T.builtins T.nolimit, gf_lead X T.g, gf_column X T.g⟩
  pla := ⟨_, gf_place X T.g⟩
  enum := gnB X T.g T.b T.builtins (by kernel_rfl) (by kernel_rfl)
  sort := gnB X T.g T.b T.builtins (by kernel_rfl) (by kernel_rfl)
end
end Mine
end

section
open PySem PySem.W PySem.Calls PySem.Spec PySem.StrLaws
set_option linter.unusedVariables false
namespace Mine
noncomputable abbrev SL (l : List Nat) : Str := ⟨l.toArray⟩
noncomputable def occS (c : Nat) : List Nat → Nat → Nat → List Nat
  | [], _, _ => []
  | x :: r, i, k => match k with
    | 0 => []
    | k + 1 => if x == c then i :: occS c r (i + 1) k else occS c r (i + 1) (k + 1)
theorem occS_zero (c : Nat) (l : List Nat) (i : Nat) : occS c l i 0 = [] := by cases l <;> rfl
theorem occ_go (l : List Nat) (c limit : Nat) : ∀ (n i : Nat) (found : Array Nat) (free : Nat), free ≤ i → n = l.length + 1 - i →
    (forIn (List.range' i n) (found, free) (occBody (SL l) (SL [c]) l.length limit)).run.fst.toList = found.toList ++ occS c (l.drop i) i (limit - found.size)
  | 0, i, found, free, hf, hn => by
    have : l.drop i = [] := List.drop_eq_nil_iff.mpr (by omega)
    rw [this]
    show found.toList = found.toList ++ []
    simp
  | n + 1, i, found, free, hf, hn => by
    rw [List.range'_succ, List.forIn_cons]
    have ih := occ_go l c limit n (i + 1)
    have key := subAt_one (SL l) c i
    have hL : (SL l).length = l.length := by simp [Str.length]
    rw [hL] at key
    unfold occBody
    by_cases hlt : i < l.length
    · rw [List.drop_eq_getElem_cons hlt]
      by_cases hk : limit - found.size = 0
      · rw [if_neg (by rintro ⟨⟨⟨h, _⟩, _⟩, _⟩; simp at h; omega)]
        rw [hk, occS_zero, List.append_nil]
        have := ih found free (by omega) (by omega)
        rw [hk, occS_zero, List.append_nil] at this
        exact this
      · obtain ⟨k, ek⟩ : ∃ k, limit - found.size = k + 1 := ⟨limit - found.size - 1, by omega⟩
        rw [ek]
        show _ = found.toList ++ (if l[i] == c then i :: occS c (l.drop (i + 1)) (i + 1) k else occS c (l.drop (i + 1)) (i + 1) (k + 1))
        by_cases hc : l[i] = c
        · have h2 := key.mpr (by simp [hlt, hc])
          rw [if_pos ⟨⟨⟨by show found.size < limit; omega, hf⟩, h2.1⟩, h2.2⟩, if_pos (by simp [hc])]
          have := ih (found.push i) (i + 1) (Nat.le_refl _) (by omega)
          refine this.trans ?_
          have e2 : limit - (found.push i).size = k := by rw [Array.size_push]; omega
          rw [e2]; simp
        · rw [if_neg (by rintro ⟨⟨_, h1⟩, h3⟩; have := key.mp ⟨h1, h3⟩; simp [hlt] at this; exact hc this), if_neg (by simp [hc])]
          have := ih found free (by omega) (by omega)
          rw [ek] at this
          exact this
    · rw [if_neg (by rintro ⟨⟨_, h1⟩, _⟩; have : i + 1 ≤ l.length := h1; omega)]
      have e1 : l.drop i = [] := List.drop_eq_nil_iff.mpr (by omega)
      have e2 : l.drop (i + 1) = [] := List.drop_eq_nil_iff.mpr (by omega)
      have := ih found free (by omega) (by omega)
      rw [e2] at this
      rw [e1]; exact this
theorem occ1 (l : List Nat) (c lo limit : Nat) : Builtin.Str.occurrences (SL l) (SL [c]) lo l.length limit = occS c (l.drop lo) lo limit := by
  rw [occ_eq, occ_go l c limit _ lo #[] lo (Nat.le_refl _) rfl]
  simp
noncomputable def headI : List Nat → Int
  | i :: _ => (i : Int)
  | [] => -1
noncomputable def findF (l : List Nat) (c : Nat) : Int := headI (occS c l 0 1)
noncomputable def find3F (l : List Nat) (c : Nat) (i : Int) : Int := headI (occS c (l.drop (fromIndex l.length i)) (fromIndex l.length i) 1)
theorem sl_len (l : List Nat) : (SL l).length = l.length := by simp [Str.length]
theorem find_eq (l : List Nat) (c : Nat) : Txt.find (SL l) (SL [c]) = findF l c := by
  unfold Txt.find findF headI
  rw [sl_len, occ1, List.drop_zero]
  cases occS c l 0 1 <;> rfl
theorem find3_eq (l : List Nat) (c : Nat) (i : Int) : Txt.find3 (SL l) (SL [c]) i = find3F l c i := by
  unfold Txt.find3 find3F headI
  rw [sl_len, occ1]
  cases occS c (l.drop (fromIndex l.length i)) (fromIndex l.length i) 1 <;> rfl
noncomputable def subL (l : List Nat) (a b : Int) : List Nat := (l.drop a.toNat).take (b - a).toNat
noncomputable def subOk (l : List Nat) (a b : Int) : Bool := decide (0 ≤ a) && decide (a ≤ b) && decide (b ≤ (l.length : Int))
theorem slice_eq {l : List Nat} {a b : Int} (h : subOk l a b = true) : Txt.slice (SL l) (some a) (some b) = SL (subL l a b) := by
  unfold subOk at h
  simp only [Bool.and_eq_true, decide_eq_true_eq] at h
  exact sliceText_plain ⟨h.1.1, h.1.2, by simpa using h.2⟩
theorem slice_to {l : List Nat} {b : Int} (h : 0 ≤ b ∧ b ≤ (l.length : Int)) : Txt.slice (SL l) none (some b) = SL (l.take b.toNat) := by
  have := sliceText_to (x := SL l) (j := b) ⟨h.1, by simpa using h.2⟩
  simp at this
  exact this
noncomputable def itF (l : List Nat) (i : Int) : Nat := ((seqIndex? i l.length).bind (l[·]?)).getD 0
theorem item_eq (l : List Nat) (i : Int) : Txt.item (SL l) i = SL [itF l i] := by
  unfold Txt.item Txt.charAt itF
  rw [sl_len]
  simp
noncomputable def partsL (l : List Nat) : Nat → List Nat → List (List Nat)
  | a, [] => [(l.drop a).take (l.length - a)]
  | a, c :: r => (l.drop a).take (c - a) :: partsL l (c + 1) r
noncomputable def splitF (l : List Nat) (c : Nat) : List (List Nat) := if (occS c l 0 (l.length + 1)).isEmpty then [l] else partsL l 0 (occS c l 0 (l.length + 1))
theorem sub_eq (l : List Nat) (a b : Nat) : Builtin.Str.strSub (SL l) a b = SL ((l.drop a).take (b - a)) := by
  apply Str.ext'
  apply Array.toList_inj.mp
  rw [strSub_toList]
theorem parts_eq (l : List Nat) : ∀ (a : Nat) (r : List Nat), partsFrom (SL l) 1 a r = (partsL l a r).map SL
  | a, [] => by show [_] = [_]; rw [sub_eq, sl_len]
  | a, c :: r => by show _ :: _ = _ :: _; rw [sub_eq, parts_eq l (c + 1) r]
theorem split_eq {l : List Nat} {c : Nat} (hl : l.all (· < 256) = true) (hc : c < 256) (h0 : l ≠ []) : Txt.split (SL l) (SL [c]) = (splitF l c).map SL := by
  unfold Txt.split splitF
  have k1 : Builtin.Str.strKind (SL l) = 1 := by unfold Builtin.Str.strKind; rw [if_pos]; simpa using hl
  have k2 : Builtin.Str.strKind (SL [c]) = 1 := by unfold Builtin.Str.strKind; rw [if_pos]; simpa using hc
  have hpos : 0 < l.length := List.length_pos_iff.mpr h0
  have e1 : (decide ((SL l).length < (SL [c]).length) || decide (Builtin.Str.strKind (SL l) < Builtin.Str.strKind (SL [c]))) = false := by
    rw [k1, k2, sl_len, sl_len]; simp; omega
  rw [e1, if_neg (by decide), sl_len, occ1, List.drop_zero]
  split
  · rfl
  · rw [partsBetween_eq]
    show partsFrom (SL l) 1 0 _ = _
    rw [parts_eq]
theorem cat_eq (a b : List Nat) : SL a ++ SL b = SL (a ++ b) := by
  apply Str.ext'
  rw [Str.cps_append]
  simp
theorem mul2_eq (l : List Nat) : Txt.mul (SL l) 2 = SL (l ++ l) := by
  unfold Txt.mul
  rw [if_neg (by decide)]
  by_cases h : l = []
  · subst h; rfl
  · have hpos : 0 < l.length := List.length_pos_iff.mpr h
    rw [if_neg (by rw [sl_len]; simp [h])]
    show (⟨_⟩ : Str) = ⟨_⟩
    simp [List.replicate]
theorem beq_SL (a b : List Nat) : (SL a == SL b) = (a == b) := by
  rw [Bool.eq_iff_iff, beq_iff_eq, beq_iff_eq]
  constructor
  · intro h
    have : a.toArray = b.toArray := congrArg Str.cps h
    simpa using this
  · intro h; rw [h]

noncomputable def mkF (copy : List Int) (m : Nat) (q : Int) : List Nat := if copy.any (· == q) then [m] else []
noncomputable def ringF (copy : List Int) (m : Nat) : List Nat := (List.range 7).flatMap fun (q : Nat) => (49 + q) :: mkF copy m q
theorem tNum_eq : ∀ q : Nat, q < 7 → tNum (q : Int) = SL [49 + q] := by decide +kernel
theorem tMark_eq (copy : List Int) (m : Nat) (q : Int) : tMark copy (SL [m]) q = SL (mkF copy m q) := by
  unfold tMark mkF; split <;> rfl
theorem tSigns_eq (copy : List Int) (m : Nat) : tSigns copy (SL [m]) = ((List.range 7).map fun (q : Nat) => (49 + q) :: mkF copy m q).map SL := by
  unfold tSigns
  rw [List.map_map]
  refine List.map_congr_left fun q hq => ?_
  rw [tNum_eq q (List.mem_range.mp hq), tMark_eq, cat_eq]; rfl
theorem glue_go : ∀ (ls : List (List Nat)) (acc : List Nat), (ls.map SL).foldl (fun a p => a ++ (SL []).cps ++ p.cps) acc.toArray = (acc ++ ls.flatten).toArray
  | [], acc => by simp
  | l :: r, acc => by
    rw [List.map_cons, List.foldl_cons]
    have : acc.toArray ++ (SL []).cps ++ (SL l).cps = (acc ++ l).toArray := by simp
    rw [this, glue_go r (acc ++ l)]; simp
theorem join_eq (l : List Nat) (ls : List (List Nat)) : Txt.join (SL []) ((l :: ls).map SL) = SL ((l :: ls).flatten) := by
  show (⟨((ls.map SL).foldl (fun a p => a ++ (SL []).cps ++ p.cps) l.toArray)⟩ : Str) = _
  rw [glue_go]; simp
theorem tRing_eq (copy : List Int) (m : Nat) : Txt.join "" (tSigns copy (SL [m])) = SL (ringF copy m) ∧ tRing copy (SL [m]) = SL (ringF copy m ++ ringF copy m) := by
  have e : Txt.join "" (tSigns copy (SL [m])) = SL (ringF copy m) := by
    rw [tSigns_eq]
    show Txt.join (SL []) _ = _
    rw [show (List.range 7).map (fun (q : Nat) => (49 + q) :: mkF copy m q) = ((49 : Nat) :: mkF copy m 0) :: ([1, 2, 3, 4, 5, 6].map fun (q : Nat) => (49 + q) :: mkF copy m q) from rfl, join_eq]
    unfold ringF
    rw [List.flatMap_def]; rfl
  refine ⟨e, ?_⟩
  unfold tRing
  rw [e, mul2_eq]
theorem mkF_len (copy : List Int) (m : Nat) (q : Int) : (mkF copy m q).length ≤ 1 := by unfold mkF; split <;> simp
theorem ringF_len (copy : List Int) (m : Nat) : (ringF copy m).length ≤ 14 := by
  have h := mkF_len copy m
  have h0 := h 0; have h1 := h 1; have h2 := h 2; have h3 := h 3; have h4 := h 4; have h5 := h 5; have h6 := h 6
  have e : ringF copy m = (49 :: mkF copy m 0) ++ ((50 :: mkF copy m 1) ++ ((51 :: mkF copy m 2) ++ ((52 :: mkF copy m 3) ++ ((53 :: mkF copy m 4) ++ ((54 :: mkF copy m 5) ++ ((55 :: mkF copy m 6) ++ [])))))) := rfl
  rw [e]
  simp only [List.length_append, List.length_cons, List.length_nil]
  omega
theorem joinOk_eq (copy : List Int) (m : Nat) : JoinOk "" (tSigns copy (SL [m])) = true := by
  have h := mkF_len copy m
  have h0 := h 0; have h1 := h 1; have h2 := h 2; have h3 := h 3; have h4 := h 4; have h5 := h 5; have h6 := h 6
  rw [tSigns_eq]
  unfold JoinOk Builtin.Str.tooLong
  have e : ((((List.range 7).map fun (q : Nat) => (49 + q) :: mkF copy m q).map SL).toArray.foldl (fun a p => a + p.length + ("" : Str).length) 0) ≤ 14 := by
    rw [List.foldl_toArray]
    show 0 + (SL (49 :: mkF copy m 0)).length + 0 + (SL (50 :: mkF copy m 1)).length + 0 + (SL (51 :: mkF copy m 2)).length + 0 + (SL (52 :: mkF copy m 3)).length + 0 + (SL (53 :: mkF copy m 4)).length + 0 + (SL (54 :: mkF copy m 5)).length + 0 + (SL (55 :: mkF copy m 6)).length + 0 ≤ 14
    simp only [sl_len, List.length_cons]
    omega
  have e' := sizeLine_eq
  rw [decide_eq_false (by omega)]; rfl
end Mine
end

section
open PySem PySem.W PySem.Calls PySem.Spec PySem.StrLaws
set_option linter.unusedVariables false
namespace Mine
noncomputable def lfF (r : List Nat) : Int := findF r 40
noncomputable def rtF (r : List Nat) : Int := find3F r 41 (lfF r + 1)
noncomputable def inF (r : List Nat) : List Nat := subL r (lfF r + 1) (rtF r)
noncomputable def spF (r : List Nat) : Nat := itF r (lfF r + 1)
noncomputable def ptF (r : List Nat) : List (List Nat) := splitF (inF r) (spF r)
noncomputable def okF (r : List Nat) : Bool := decide (r.length ≤ 999) && decide (3 ≤ r.length) && (r.take 3 == [50, 50, 57]) && decide (0 ≤ lfF r) && decide (0 ≤ rtF r) && decide (lfF r + 1 < r.length) && decide (rtF r - 1 < r.length) && decide (1 ≤ rtF r)
  && subOk r (lfF r + 1) (rtF r) && (inF r).all (· < 256) && decide (spF r < 256) && !(inF r).isEmpty
noncomputable def bad1F (r : List Nat) : Bool := itF r (lfF r + 1) != itF r (rtF r - 1)
noncomputable def bad2F (r : List Nat) : Bool := (ptF r).length != 5
noncomputable def portF (r : List Nat) : Option Int := PySem.intText? (SL ((ptF r).getD 3 []))
theorem lf_eq (r : List Nat) : pLeft (SL r) = lfF r := find_eq r 40
theorem rt_eq (r : List Nat) : pRight (SL r) = rtF r := by unfold pRight; rw [lf_eq]; exact find3_eq r 41 _
theorem bad1_eq (r : List Nat) : pBad1 (SL r) = bad1F r := by
  unfold pBad1 bad1F
  rw [lf_eq, rt_eq, item_eq, item_eq]
  show (!(SL [_] == SL [_])) = (!(_ == _))
  rw [beq_SL]; simp
theorem pt_eq {r : List Nat} (h1 : subOk r (lfF r + 1) (rtF r) = true) (h2 : (inF r).all (· < 256) = true) (h3 : spF r < 256) (h4 : inF r ≠ []) : pParts (SL r) = (ptF r).map SL := by
  unfold pParts
  rw [lf_eq, rt_eq, item_eq, slice_eq h1]
  exact split_eq h2 h3 h4
theorem occS_len (c : Nat) : ∀ (l : List Nat) (i k : Nat), (occS c l i k).length ≤ l.length
  | [], _, _ => Nat.le_refl _
  | x :: r, i, 0 => Nat.zero_le _
  | x :: r, i, k + 1 => by
    show (if x == c then i :: occS c r (i + 1) k else occS c r (i + 1) (k + 1)).length ≤ r.length + 1
    split
    · exact Nat.succ_le_succ (occS_len c r (i + 1) k)
    · exact Nat.le_succ_of_le (occS_len c r (i + 1) (k + 1))
theorem partsL_len (l : List Nat) : ∀ (a : Nat) (r : List Nat), (partsL l a r).length = r.length + 1
  | a, [] => rfl
  | a, c :: r => by show (partsL l (c + 1) r).length + 1 = _; rw [partsL_len l (c + 1) r]; rfl
theorem splitF_len (l : List Nat) (c : Nat) : (splitF l c).length ≤ l.length + 1 := by
  unfold splitF
  split
  · simp
  · rw [partsL_len]; exact Nat.succ_le_succ (occS_len c l 0 _)
theorem getD_SL (ls : List (List Nat)) (i : Nat) : (ls.map SL).getD i "" = SL (ls.getD i []) := by
  by_cases h : i < ls.length
  · simp [List.getD, h]
  · simp [List.getD, h]; rfl
noncomputable def goodF (r : List Nat) : Bool := (portF r).isSome && decide (((ptF r).getD 3 []).length ≤ 640)
theorem ok_eq {r : List Nat} (h : okF r = true) : pOk (SL r) = true ∧ pBad2 (SL r) = bad2F r ∧ pPort (SL r) = (portF r).getD 0 ∧ (bad1F r = false → bad2F r = false → goodF r = true → pGood (SL r) = true) := by
  unfold okF at h
  simp only [Bool.and_eq_true, decide_eq_true_eq, Bool.not_eq_true'] at h
  obtain ⟨⟨⟨⟨⟨⟨⟨⟨⟨⟨⟨h1, h2⟩, h3⟩, h4⟩, h5⟩, h6⟩, h7⟩, h8⟩, h9⟩, h10⟩, h11⟩, h12⟩ := h
  have hne : inF r ≠ [] := fun e => by rw [e] at h12; cases h12
  have hp := pt_eq h9 h10 h11 hne
  have h13 : (ptF r).length ≤ 1000 := Nat.le_trans (splitF_len _ _) (by unfold inF subL; simp; omega)
  have hil : (inF r).length ≤ r.length := by unfold inF subL; simp; omega
  have hb2 : pBad2 (SL r) = bad2F r := by
    unfold pBad2 bad2F; rw [hp, List.length_map, Bool.eq_iff_iff]; simp; omega
  have hpp : pPort (SL r) = (portF r).getD 0 := by
    unfold pPort portF; rw [hp, getD_SL]
  refine ⟨?_, hb2, hpp, fun b1 b2 g => ?_⟩
  · unfold pOk
    rw [lf_eq, rt_eq, item_eq, hp, slice_eq h9, slice_to ⟨by decide, by omega⟩]
    have e3 : (SL (r.take (3 : Int).toNat) != ("229" : Str)) = false := by
      show (!(SL (r.take 3) == SL [50, 50, 57])) = false
      rw [beq_SL, h3]; rfl
    simp only [e3, sl_len, List.length_map, Bool.and_eq_true, decide_eq_true_eq, Bool.not_eq_true', decide_eq_false_iff_not]
    refine ⟨⟨⟨⟨⟨⟨⟨⟨⟨⟨by omega, trivial⟩, by omega⟩, by omega⟩, by omega⟩, h6⟩, by omega⟩, h7⟩, by simp⟩, ?_⟩, h13⟩
    exact Nat.le_trans hil (by omega)
  · unfold goodF at g
    simp only [Bool.and_eq_true, decide_eq_true_eq] at g
    unfold pGood
    rw [bad1_eq, hb2, b1, b2, hp, getD_SL, sl_len]
    simp only [Bool.not_false, Bool.true_and, Bool.and_eq_true, decide_eq_true_eq]
    exact g
noncomputable abbrev preL : List Nat := [50, 50, 57, 32, 114, 105, 110, 103, 32, 40]
noncomputable def rgF (copy : List Int) (m : Nat) : List Nat := ringF copy m ++ ringF copy m
noncomputable def bgF (copy : List Int) (m p : Nat) : Int := findF (rgF copy m) (49 + p) + 1
noncomputable def enF (copy : List Int) (m p : Nat) : Int := find3F (rgF copy m) (49 + p) (bgF copy m p) + 1
noncomputable def trF (copy : List Int) (m p : Nat) : List Nat := subL (rgF copy m) (bgF copy m p) (enF copy m p) ++ mkF copy m p
noncomputable def rsF (copy : List Int) (m p : Nat) : List Nat := preL ++ trF copy m p ++ [41]
noncomputable def toldC (copy : List Int) (m p : Nat) (due : PyData) : Bool :=
  subOk (rgF copy m) (bgF copy m p) (enF copy m p) && okF (rsF copy m p) && if bad1F (rsF copy m p) || bad2F (rsF copy m p) then isN due else goodF (rsF copy m p) && PyData.eqv (.tuple [.str "host", .int ((portF (rsF copy m p)).getD 0)]) due
theorem rs_eq {copy : List Int} {m p : Nat} (hp : p < 7) (h : subOk (rgF copy m) (bgF copy m p) (enF copy m p) = true) :
    tBegin copy p (SL [m]) = bgF copy m p ∧ tEnd copy p (SL [m]) = enF copy m p ∧ Txt.slice (tRing copy (SL [m])) (some (bgF copy m p)) (some (enF copy m p)) = SL (subL (rgF copy m) (bgF copy m p) (enF copy m p)) ∧ tTurn copy p (SL [m]) = SL (trF copy m p) ∧ tResp copy p (SL [m]) = SL (rsF copy m p) := by
  have eb : tBegin copy p (SL [m]) = bgF copy m p := by
    unfold tBegin; rw [(tRing_eq copy m).2, tNum_eq p hp, find_eq]; rfl
  have ee : tEnd copy p (SL [m]) = enF copy m p := by
    unfold tEnd; rw [(tRing_eq copy m).2, tNum_eq p hp, find3_eq, eb]; rfl
  have es : Txt.slice (tRing copy (SL [m])) (some (bgF copy m p)) (some (enF copy m p)) = SL (subL (rgF copy m) (bgF copy m p) (enF copy m p)) := by
    rw [(tRing_eq copy m).2]; exact slice_eq h
  have et : tTurn copy p (SL [m]) = SL (trF copy m p) := by
    unfold tTurn; rw [eb, ee, es, tMark_eq, cat_eq]; rfl
  refine ⟨eb, ee, es, et, ?_⟩
  unfold tResp
  rw [et]
  show (SL preL ++ _) ++ SL [41] = _
  rw [cat_eq, cat_eq]; rfl
theorem told_of {copy : List Int} {m p : Nat} {due : PyData} (hp : p < 7) (h : toldC copy m p due = true) : toldOk copy p (SL [m]) = true ∧ PyData.eqv (toldF copy p (SL [m])) due = true := by
  unfold toldC at h
  simp only [Bool.and_eq_true] at h
  obtain ⟨⟨h1, h2⟩, h3⟩ := h
  obtain ⟨eb, ee, es, et, er⟩ := rs_eq hp h1
  obtain ⟨k1, k2, k3, k4⟩ := ok_eq h2
  have hl := ringF_len copy m
  have hrl : (rgF copy m).length ≤ 28 := by unfold rgF; simp; omega
  have hsl : (subL (rgF copy m) (bgF copy m p) (enF copy m p)).length ≤ 28 := by unfold subL; simp; omega
  have hmk := mkF_len copy m p
  have htl : (trF copy m p).length ≤ 29 := by unfold trF; rw [List.length_append]; omega
  constructor
  · unfold toldOk
    rw [joinOk_eq, (tRing_eq copy m).1, eb, ee, es, et, er, k1, (tRing_eq copy m).2, bad1_eq, k2]
    simp only [sl_len, Bool.and_eq_true, decide_eq_true_eq, Bool.and_true, Bool.or_eq_true]
    refine ⟨⟨⟨⟨⟨⟨by omega, by simp⟩, by omega⟩, by unfold rgF at hrl; exact Nat.le_trans hrl (by decide)⟩, by omega⟩, by omega⟩, ?_⟩
    by_cases b1 : bad1F (rsF copy m p) = true
    · exact .inl (.inl b1)
    · by_cases b2 : bad2F (rsF copy m p) = true
      · exact .inl (.inr b2)
      · rw [if_neg (by simp [b1, b2])] at h3
        simp only [Bool.and_eq_true] at h3
        exact .inr (k4 (by simpa using b1) (by simpa using b2) h3.1)
  · unfold toldF
    rw [er, bad1_eq, k2, k3]
    by_cases b : (bad1F (rsF copy m p) || bad2F (rsF copy m p)) = true
    · rw [if_pos b] at h3 ⊢
      rw [isN_eq h3]; rfl
    · rw [if_neg b] at h3 ⊢
      simp only [Bool.and_eq_true] at h3
      exact h3.2
end Mine
end

section
open PySem PySem.W PySem.Calls PySem.Spec PySem.StrLaws
set_option linter.unusedVariables false
namespace Mine
noncomputable def normF (c : List Int) : List Int := ((List.range 7).filter fun (q : Nat) => c.any (· == (q : Int))).map fun (q : Nat) => (q : Int)
theorem norm_any (c : List Int) (q : Int) (h0 : 0 ≤ q) (h6 : q ≤ 6) : (normF c).any (· == q) = c.any (· == q) := by
  unfold normF
  rw [Bool.eq_iff_iff, List.any_map, List.any_filter]
  obtain ⟨n, rfl⟩ := Int.eq_ofNat_of_zero_le h0
  constructor
  · intro h
    obtain ⟨x, hx, hq⟩ := List.any_eq_true.mp h
    simp only [Function.comp, Bool.and_eq_true, beq_iff_eq] at hq
    rw [← hq.2]; exact hq.1
  · intro h
    refine List.any_eq_true.mpr ⟨n, List.mem_range.mpr (by omega), ?_⟩
    simp only [Function.comp, Bool.and_eq_true]
    exact ⟨h, by simp⟩
/-- two lists of places that hold the same -/
structure Alike (c c' : List Int) : Prop where
  len : c.length = c'.length
  any : ∀ q, 0 ≤ q → q ≤ 6 → c.any (· == q) = c'.any (· == q)
theorem back_mem (place : Int) : ∀ j, 0 ≤ backAt place j ∧ backAt place j ≤ 6
  | 0 => ⟨Int.fmod_nonneg_of_pos _ (by decide), Int.le_of_lt_add_one (Int.fmod_lt_of_pos _ (by decide))⟩
  | j + 1 => ⟨Int.fmod_nonneg_of_pos _ (by decide), Int.le_of_lt_add_one (Int.fmod_lt_of_pos _ (by decide))⟩
theorem Alike.back {c c' : List Int} (h : Alike c c') (place : Int) (j : Nat) : c.any (· == backAt place j) = c'.any (· == backAt place j) := h.any _ (back_mem place j).1 (back_mem place j).2
theorem Alike.skip {c c' : List Int} (h : Alike c c') {place : Int} (h0 : 0 ≤ place) (h6 : place ≤ 6) : dueSkip c place = dueSkip c' place := by
  unfold dueSkip; rw [h.len, h.any place h0 h6]
theorem Alike.k {c c' : List Int} (h : Alike c c') (place : Int) : dueK c place = dueK c' place := by
  unfold dueK
  rw [show (fun j => c.any (· == backAt place j)) = fun j => c'.any (· == backAt place j) from funext fun j => h.back place j]
theorem Alike.due {c c' : List Int} (h : Alike c c') {place : Int} (h0 : 0 ≤ place) (h6 : place ≤ 6) : dueF c place = dueF c' place := by
  unfold dueF; rw [h.skip h0 h6, h.k]
theorem Alike.dueOk {c c' : List Int} (h : Alike c c') {place : Int} (h0 : 0 ≤ place) (h6 : place ≤ 6) : dueOk c place = dueOk c' place := by
  unfold Mine.dueOk
  rw [h.skip h0 h6, h.k, h.len, h.back]
  simp only [h.back]
theorem Alike.sign {c c' : List Int} (h : Alike c c') (m : Nat) {q : Int} (h0 : 0 ≤ q) (h6 : q ≤ 6) : mkF c m q = mkF c' m q := by unfold mkF; rw [h.any q h0 h6]
theorem Alike.ring {c c' : List Int} (h : Alike c c') (m : Nat) : ringF c m = ringF c' m := by
  unfold ringF
  rw [List.flatMap_def, List.flatMap_def]
  congr 1
  refine List.map_congr_left fun q hq => ?_
  have := List.mem_range.mp hq
  rw [h.sign m (by omega) (by omega)]
theorem Alike.toldC {c c' : List Int} (h : Alike c c') {m p : Nat} (hp : p < 7) (due : PyData) : toldC c m p due = toldC c' m p due := by
  unfold Mine.toldC rsF trF enF bgF rgF
  rw [h.ring m, h.sign m (q := (p : Int)) (by omega) (by omega)]
theorem isN_due (c : List Int) (place : Int) : isN (dueF c place) = dueSkip c place := by
  unfold dueF; split
  · rename_i h; rw [h]; rfl
  · rename_i h; simp at h; rw [h]; rfl
theorem isN_told {copy : List Int} {m p : Nat} {due : PyData} (hp : p < 7) (h : Mine.toldC copy m p due = true) : isN (toldF copy p (SL [m])) = isN due := by
  have h' := h
  unfold Mine.toldC at h
  simp only [Bool.and_eq_true] at h
  obtain ⟨⟨h1, h2⟩, h3⟩ := h
  obtain ⟨eb, ee, es, et, er⟩ := rs_eq hp h1
  obtain ⟨k1, k2, k3, k4⟩ := ok_eq h2
  unfold toldF
  rw [er, bad1_eq, k2, k3]
  by_cases b : (bad1F (rsF copy m p) || bad2F (rsF copy m p)) = true
  · rw [if_pos b] at h3 ⊢
    rw [h3]; rfl
  · rw [if_neg b] at h3 ⊢
    simp only [Bool.and_eq_true] at h3
    have := h3.2
    cases due <;> first | rfl | (simp [PyData.eqv] at this)

noncomputable def ansF (cs : List (List Int)) (place : Int) : List (List Int) := cs.filter fun c => !dueSkip c place
noncomputable def tabF (as : List (List Int)) : List (Str × Int) := as.foldl (fun t c => addC t (seenF c)) []
noncomputable def entOf (ws : List Int) (as : List (List Int)) : Ent := ⟨as.length, 3 * as.length, (as.map fun c => (loadsF ws c).sum).sum, (as.map fun c => squaresF (loadsF ws c)).sum, tabF as, (as.map powsF).sum⟩
theorem ent_eq {place : Int} {cs : List (List Int)} {mark : Str} (ws : List Int) (h : ∀ c ∈ cs, isN (toldF c place mark) = dueSkip c place) : ∀ i, i ≤ cs.length → entAt place cs mark ws i = entOf ws (ansF (cs.take i) place)
  | 0, _ => rfl
  | i + 1, hi => by
    have hlt : i < cs.length := hi
    have hg : cs.getD i [] = cs[i] := by simp [List.getD, hlt]
    have hm : cs[i] ∈ cs := List.getElem_mem hlt
    show entStep ws (toldF (cs.getD i []) place mark) (cs.getD i []) (entAt place cs mark ws i) = _
    rw [ent_eq ws h i (Nat.le_of_lt hlt), hg, List.take_succ_eq_append_getElem hlt]
    unfold entStep
    rw [h _ hm]
    unfold ansF
    rw [List.filter_append]
    by_cases hs : dueSkip cs[i] place = true
    · rw [if_pos hs, List.filter_cons_of_neg (by simp [hs]), List.filter_nil, List.append_nil]
    · rw [if_neg hs, List.filter_cons_of_pos (by simpa using hs), List.filter_nil]
      unfold entOf tabF
      simp only [List.length_append, List.map_append, List.sum_append, List.foldl_append, List.length_cons, List.length_nil, List.map_cons, List.map_nil, List.sum_cons, List.sum_nil, List.foldl_cons, List.foldl_nil]
      congr 1 <;> omega
theorem tab_len : ∀ (as : List (List Int)) (t : List (Str × Int)), (∀ c ∈ as, c.length ≤ 7) → (as.foldl (fun t c => addC t (seenF c)) t).length ≤ t.length + 7 * as.length
  | [], t, _ => Nat.le_refl _
  | c :: r, t, h => by
    rw [List.foldl_cons]
    have h1 := tab_len r (addC t (seenF c)) fun c m => h c (.tail _ m)
    have h2 : (addC t (seenF c)).length ≤ t.length + (seenF c).length := accS_len t (seenF c) _
    have h3 : (seenF c).length ≤ c.length := accD_len _ _ _ _
    have h4 := h c (.head _)
    simp only [List.length_cons]
    omega
/-- a sum over places, place by place -/
theorem lin (g : Int → Int) : ∀ (L : List Int), (∀ x ∈ L, 0 ≤ x ∧ x ≤ 6) → (L.map g).sum = ((List.range 7).map fun (q : Nat) => ((L.count (q : Int) : Nat) : Int) * g q).sum
  | [], _ => by
    show (0 : Int) = (0 : Int) * g 0 + ((0 : Int) * g 1 + ((0 : Int) * g 2 + ((0 : Int) * g 3 + ((0 : Int) * g 4 + ((0 : Int) * g 5 + ((0 : Int) * g 6 + 0))))))
    simp
  | x :: L, h => by
    have ih := lin g L fun x m => h x (.tail _ m)
    have hx := h x (.head _)
    rw [List.map_cons, List.sum_cons, ih]
    show g x + (((L.count 0 : Nat) : Int) * g 0 + (((L.count 1 : Nat) : Int) * g 1 + (((L.count 2 : Nat) : Int) * g 2 + (((L.count 3 : Nat) : Int) * g 3 + (((L.count 4 : Nat) : Int) * g 4 + (((L.count 5 : Nat) : Int) * g 5 + (((L.count 6 : Nat) : Int) * g 6 + 0)))))))
      = (((x :: L).count 0 : Nat) : Int) * g 0 + ((((x :: L).count 1 : Nat) : Int) * g 1 + ((((x :: L).count 2 : Nat) : Int) * g 2 + ((((x :: L).count 3 : Nat) : Int) * g 3 + ((((x :: L).count 4 : Nat) : Int) * g 4 + ((((x :: L).count 5 : Nat) : Int) * g 5 + ((((x :: L).count 6 : Nat) : Int) * g 6 + 0))))))
    have h7 : x = 0 ∨ x = 1 ∨ x = 2 ∨ x = 3 ∨ x = 4 ∨ x = 5 ∨ x = 6 := by omega
    rcases h7 with rfl | rfl | rfl | rfl | rfl | rfl | rfl <;> simp [List.count_cons, Int.add_mul] <;> omega
theorem flat_sum (g : Int → Int) : ∀ (as : List (List Int)), (as.map fun c => (c.map g).sum).sum = (as.flatten.map g).sum
  | [] => rfl
  | c :: r => by rw [List.map_cons, List.sum_cons, flat_sum g r, List.flatten_cons, List.map_append, List.sum_append]
end Mine
end

section
open PySem PySem.W PySem.Calls PySem.Spec PySem.StrLaws
set_option linter.unusedVariables false
namespace Mine
noncomputable def sgnF (place num : Int) : Int := if place.fmod 2 != 0 then num else -num
noncomputable def planeNear (p : Nat) : List Int := (List.range 7).map fun (q : Nat) => if q == p then 3 else 1
noncomputable def placeChk (ms : List Int) (p : Nat) : Bool :=
  let near := nearF p (waysF ms)
  let as := ansF (copiesF ms) p
  let t := tabF as
  let num := sgnF p (as.map powsF).sum
  ((as.length : Int) == near.getD p 0) && (3 * (as.length : Int) == near.sum) && (List.range 7).all (fun (q : Nat) => ((as.flatten.count (q : Int) : Nat) : Int) == near.getD q 0) && sameI t (placesF near)
  && (countC t t.length == if ((waysF ms).length : Int) == 9 then 9 else 0) && apOk num && (apF num == wordF p near (planeF ms)) && (!planeF ms || near == planeNear p) && near.all (fun n => decide (0 ≤ n) && decide (n ≤ 100))
theorem copy_mem {ms c : List Int} (h : c ∈ copiesF ms) : c.length = ms.length ∧ ∀ x ∈ c, 0 ≤ x ∧ x ≤ 6 := by
  unfold copiesF at h
  obtain ⟨t, _, rfl⟩ := List.mem_map.mp h
  refine ⟨by simp, fun x hx => ?_⟩
  obtain ⟨q, _, rfl⟩ := List.mem_map.mp hx
  exact ⟨Int.fmod_nonneg_of_pos _ (by decide), Int.le_of_lt_add_one (Int.fmod_lt_of_pos _ (by decide))⟩
theorem copies_len (ms : List Int) : (copiesF ms).length = 7 := by unfold copiesF; simp
theorem wAt_nat (ws : List Int) (q : Nat) : wAt ws (q : Int) = ws.getD q 0 := by unfold wAt; simp
theorem plane_sum (g : Nat → Int) : ∀ p : Nat, p < 7 → ((List.range 7).map fun (q : Nat) => (planeNear p).getD q 0 * g q).sum = ((List.range 7).map g).sum + 2 * g p := by
  intro p hp
  have h7 : p = 0 ∨ p = 1 ∨ p = 2 ∨ p = 3 ∨ p = 4 ∨ p = 5 ∨ p = 6 := by omega
  have e : ∀ a b c d e f h : Int, (List.map (fun q => ([a, b, c, d, e, f, h] : List Int).getD q 0 * g q) (List.range 7)).sum = a * g 0 + (b * g 1 + (c * g 2 + (d * g 3 + (e * g 4 + (f * g 5 + (h * g 6 + 0)))))) := fun a b c d e f h => rfl
  have e2 : ((List.range 7).map g).sum = g 0 + (g 1 + (g 2 + (g 3 + (g 4 + (g 5 + (g 6 + 0)))))) := rfl
  rw [e2]
  rcases h7 with rfl | rfl | rfl | rfl | rfl | rfl | rfl
  · rw [show planeNear 0 = [3, 1, 1, 1, 1, 1, 1] from rfl, e]; omega
  · rw [show planeNear 1 = [1, 3, 1, 1, 1, 1, 1] from rfl, e]; omega
  · rw [show planeNear 2 = [1, 1, 3, 1, 1, 1, 1] from rfl, e]; omega
  · rw [show planeNear 3 = [1, 1, 1, 3, 1, 1, 1] from rfl, e]; omega
  · rw [show planeNear 4 = [1, 1, 1, 1, 3, 1, 1] from rfl, e]; omega
  · rw [show planeNear 5 = [1, 1, 1, 1, 1, 3, 1] from rfl, e]; omega
  · rw [show planeNear 6 = [1, 1, 1, 1, 1, 1, 3] from rfl, e]; omega
theorem ws_sum {ws : List Int} (h : ws.length = 7) (f : Int → Int) : ((List.range 7).map fun (q : Nat) => f (ws.getD q 0)).sum = (ws.map f).sum := by
  match ws, h with
  | [a, b, c, d, e, k, l], _ => rfl
theorem place_ok {ms ws : List Int} {p m : Nat} {all : List (List Int)} (hp : p < 7) (hw : ws.length = 7) (hb : ∀ x ∈ ws, x.natAbs ≤ 1000) (hy : (waysF ms).length ≤ 100) (hml : ms.length ≤ 7)
    (hcop : ∀ c ∈ copiesF ms, normF c ∈ all ∧ (normF c).length = c.length) (hT : ∀ S ∈ all, dueOk S p = true ∧ toldC S m p (dueF S p) = true) (hC : placeChk ms p = true) :
    PlaceOk (p : Int) (copiesF ms) (SL [m]) ws (waysF ms) (planeF ms) := by
  have p0 : (0 : Int) ≤ p := by omega
  have p6 : (p : Int) ≤ 6 := by omega
  have alike : ∀ c ∈ copiesF ms, Alike c (normF c) := fun c hc => ⟨(hcop c hc).2.symm, fun q h0 h6 => (norm_any c q h0 h6).symm⟩
  have hdue : ∀ c ∈ copiesF ms, dueOk c p = true := fun c hc => by rw [(alike c hc).dueOk p0 p6]; exact (hT _ (hcop c hc).1).1
  have htold : ∀ c ∈ copiesF ms, toldC c m p (dueF c p) = true := fun c hc => by rw [(alike c hc).toldC hp, (alike c hc).due p0 p6]; exact (hT _ (hcop c hc).1).2
  have hisn : ∀ c ∈ copiesF ms, isN (toldF c p (SL [m])) = dueSkip c p := fun c hc => by rw [isN_told hp (htold c hc), isN_due]
  have hent := ent_eq (place := (p : Int)) (mark := SL [m]) ws hisn
  have hfin : entAt p (copiesF ms) (SL [m]) ws (copiesF ms).length = entOf ws (ansF (copiesF ms) p) := by rw [hent _ (Nat.le_refl _), List.take_length]
  unfold placeChk at hC
  simp only [Bool.and_eq_true, beq_iff_eq, List.all_eq_true, List.mem_range, decide_eq_true_eq, Bool.or_eq_true, Bool.not_eq_true'] at hC
  obtain ⟨⟨⟨⟨⟨⟨⟨⟨c1, c2⟩, c3⟩, c4⟩, c5⟩, c6⟩, c7⟩, c8⟩, c9⟩ := hC
  have has : ∀ c ∈ ansF (copiesF ms) p, c ∈ copiesF ms := fun c hc => (List.mem_filter.mp hc).1
  have hfl : ∀ x ∈ (ansF (copiesF ms) p).flatten, 0 ≤ x ∧ x ≤ 6 := fun x hx => by
    obtain ⟨c, hc, hx⟩ := List.mem_flatten.mp hx
    exact (copy_mem (has c hc)).2 x hx
  have key : ∀ g : Int → Int, ((ansF (copiesF ms) p).map fun c => (c.map g).sum).sum = ((List.range 7).map fun (q : Nat) => (nearF p (waysF ms)).getD q 0 * g q).sum := fun g => by
    rw [flat_sum, lin g _ hfl]
    congr 1
    refine List.map_congr_left fun q hq => ?_
    rw [c3 q (List.mem_range.mp hq)]
  have k1 : ((ansF (copiesF ms) p).map fun c => (loadsF ws c).sum).sum = sum0F p (nearF p (waysF ms)) ws (planeF ms) := by
    refine (key (wAt ws)).trans ?_
    unfold sum0F
    cases hpl : planeF ms with
    | false =>
      rw [if_neg (by decide)]
      unfold zipMul
      simp only [wAt_nat]
    | true =>
      rw [if_pos rfl]
      have hn : nearF p (waysF ms) = planeNear p := by rcases c8 with h | h; (rw [hpl] at h; cases h); exact h
      rw [hn, plane_sum (fun q => wAt ws q) p hp]
      simp only [wAt_nat]
      have := ws_sum hw (fun x => x)
      simp at this ⊢; omega
  have k2 : ((ansF (copiesF ms) p).map fun c => squaresF (loadsF ws c)).sum = sum1F p (nearF p (waysF ms)) ws (planeF ms) := by
    have e : (fun c => squaresF (loadsF ws c)) = fun c => (c.map fun q => wAt ws q * wAt ws q).sum := funext fun c => by unfold squaresF loadsF; rw [List.map_map]; rfl
    rw [e]
    refine (key (fun q => wAt ws q * wAt ws q)).trans ?_
    unfold sum1F
    cases hpl : planeF ms with
    | false =>
      rw [if_neg (by decide)]
      unfold zipMul
      simp only [wAt_nat, Int.mul_assoc]
    | true =>
      rw [if_pos rfl]
      have hn : nearF p (waysF ms) = planeNear p := by rcases c8 with h | h; (rw [hpl] at h; cases h); exact h
      rw [hn, plane_sum (fun q => wAt ws q * wAt ws q) p hp]
      have := ws_sum hw (fun x => x * x)
      simp only [wAt_nat, Int.mul_assoc]
      unfold squaresF
      rw [this]
  refine ⟨p0, p6, hw, hb, hy, fun c hc => by rw [(copy_mem hc).1]; exact hml, fun c hc => (copy_mem hc).2, fun c hc => (told_of hp (htold c hc)).1, hdue, fun c hc => (told_of hp (htold c hc)).2, fun i hi => ?_, c9, ?_, ?_, ?_, ?_, ?_, ?_, ?_, ?_⟩
  · rw [hent i hi]
    show (tabF (ansF ((copiesF ms).take i) p)).length ≤ 100
    have h1 := tab_len (ansF ((copiesF ms).take i) p) [] fun c hc => by
      have := (List.mem_filter.mp hc).1
      rw [(copy_mem (List.mem_of_mem_take this)).1]; exact hml
    have h2 : (ansF ((copiesF ms).take i) p).length ≤ ((copiesF ms).take i).length := List.length_filter_le _ _
    have h3 : ((copiesF ms).take i).length ≤ 7 := by rw [List.length_take, copies_len]; omega
    unfold tabF
    simp only [List.length_nil] at h1
    omega
  · rw [hfin]; exact c1.trans (by simp)
  · rw [hfin]; exact c2
  · rw [hfin]; exact k1
  · rw [hfin]; exact k2
  · rw [hfin]; exact c4
  · rw [hfin]; refine Eq.trans c5 ?_; by_cases hz : ((waysF ms).length : Int) = 9 <;> simp [hz]
  · rw [hfin]; exact c6
  · rw [hfin]; rw [beq_iff_eq]; exact c7
end Mine
end

section
open PySem PySem.W PySem.Calls PySem.Spec PySem.StrLaws
set_option linter.unusedVariables false
namespace Mine
/-- another sign for the mark -/
structure Sw (f : Nat → Nat) (m : Nat) : Prop where
  inj : ∀ x y, f x = f y → x = y
  m : f 124 = m
  z : f 0 = 0
  fig : ∀ q, q < 7 → f (49 + q) = 49 + q
  pre : preL.map f = preL
  a : f 40 = 40
  b : f 41 = 41
  three : ∀ l : List Nat, (l.map f == [50, 50, 57]) = (l == [50, 50, 57])
  low : ∀ x, decide (f x < 256) = decide (x < 256)
  rest : ∀ x, (x != 124 && x != 33 && x != 47 && x != 59) = true → f x = x
section
variable {f : Nat → Nat} {m : Nat} (F : Sw f m)
include F
theorem Sw.beq (x y : Nat) : (f x == f y) = (x == y) := by
  rw [Bool.eq_iff_iff, beq_iff_eq, beq_iff_eq]
  exact ⟨F.inj x y, fun h => by rw [h]⟩
theorem Sw.occ (c : Nat) : ∀ (l : List Nat) (i k : Nat), occS (f c) (l.map f) i k = occS c l i k
  | [], _, _ => rfl
  | x :: r, i, 0 => rfl
  | x :: r, i, k + 1 => by
    show (if f x == f c then i :: occS (f c) (r.map f) (i + 1) k else occS (f c) (r.map f) (i + 1) (k + 1)) = if x == c then i :: occS c r (i + 1) k else occS c r (i + 1) (k + 1)
    rw [F.beq, Sw.occ c r, Sw.occ c r]
theorem Sw.find (l : List Nat) (c : Nat) : findF (l.map f) (f c) = findF l c := by unfold findF; rw [F.occ]
theorem Sw.find3 (l : List Nat) (c : Nat) (i : Int) : find3F (l.map f) (f c) i = find3F l c i := by unfold find3F; rw [List.length_map, ← List.map_drop, F.occ]
omit F in
theorem Sw.sub' (l : List Nat) (a b : Int) : subL (l.map f) a b = (subL l a b).map f := by unfold subL; rw [← List.map_drop, ← List.map_take]
omit F in
theorem Sw.subOk' (l : List Nat) (a b : Int) : subOk (l.map f) a b = subOk l a b := by unfold Mine.subOk; rw [List.length_map]
theorem Sw.it (l : List Nat) (i : Int) : itF (l.map f) i = f (itF l i) := by
  unfold itF
  rw [List.length_map]
  cases seqIndex? i l.length with
  | none => exact F.z.symm
  | some j =>
    show ((l.map f)[j]?).getD 0 = f ((l[j]?).getD 0)
    rw [List.getElem?_map]
    cases l[j]? with
    | none => exact F.z.symm
    | some x => rfl
theorem Sw.parts (l : List Nat) : ∀ (a : Nat) (r : List Nat), partsL (l.map f) a r = (partsL l a r).map (List.map f)
  | a, [] => by
    show [((l.map f).drop a).take ((l.map f).length - a)] = [((l.drop a).take (l.length - a)).map f]
    rw [List.length_map, ← List.map_drop, ← List.map_take]
  | a, c :: r => by
    show ((l.map f).drop a).take (c - a) :: partsL (l.map f) (c + 1) r = ((l.drop a).take (c - a)).map f :: (partsL l (c + 1) r).map (List.map f)
    rw [Sw.parts l (c + 1) r, ← List.map_drop, ← List.map_take]
theorem Sw.split (l : List Nat) (c : Nat) : splitF (l.map f) (f c) = (splitF l c).map (List.map f) := by
  unfold splitF
  rw [List.length_map, F.occ]
  split
  · rfl
  · exact F.parts l 0 _
theorem Sw.sgn (copy : List Int) (q : Int) : mkF copy m q = (mkF copy 124 q).map f := by
  unfold mkF; split
  · rw [List.map_cons, F.m]; rfl
  · rfl
theorem Sw.ring (copy : List Int) : ringF copy m = (ringF copy 124).map f := by
  unfold ringF
  rw [List.map_flatMap, List.flatMap_def, List.flatMap_def]
  congr 1
  refine List.map_congr_left fun q hq => ?_
  rw [List.map_cons, F.fig q (List.mem_range.mp hq), F.sgn]
theorem Sw.rg (copy : List Int) : rgF copy m = (rgF copy 124).map f := by unfold rgF; rw [F.ring, List.map_append]
theorem Sw.bg (copy : List Int) {p : Nat} (hp : p < 7) : bgF copy m p = bgF copy 124 p := by
  unfold bgF; rw [F.rg, ← F.fig p hp, F.find, F.fig p hp]
theorem Sw.en (copy : List Int) {p : Nat} (hp : p < 7) : enF copy m p = enF copy 124 p := by
  unfold enF; rw [F.rg, F.bg copy hp, ← F.fig p hp, F.find3, F.fig p hp]
theorem Sw.rs (copy : List Int) {p : Nat} (hp : p < 7) : rsF copy m p = (rsF copy 124 p).map f := by
  unfold rsF trF
  rw [F.rg, F.bg copy hp, F.en copy hp, Sw.sub', F.sgn, List.map_append, List.map_append, List.map_append, F.pre]
  rw [show [41].map f = [41] by rw [List.map_cons, F.b]; rfl]
theorem Sw.lf (r : List Nat) : lfF (r.map f) = lfF r := by
  have := F.find r 40
  rw [F.a] at this; exact this
theorem Sw.rt (r : List Nat) : rtF (r.map f) = rtF r := by
  have := F.find3 r 41 (lfF r + 1)
  rw [F.b] at this
  unfold rtF; rw [F.lf]; exact this
theorem Sw.inn (r : List Nat) : inF (r.map f) = (inF r).map f := by unfold inF; rw [F.lf, F.rt, Sw.sub']
theorem Sw.sp (r : List Nat) : spF (r.map f) = f (spF r) := by unfold spF; rw [F.lf, F.it]
theorem Sw.pt (r : List Nat) : ptF (r.map f) = (ptF r).map (List.map f) := by unfold ptF; rw [F.inn, F.sp, F.split]
theorem Sw.bad1 (r : List Nat) : bad1F (r.map f) = bad1F r := by
  unfold bad1F; rw [F.lf, F.rt, F.it, F.it]
  show (!(f _ == f _)) = (!(_ == _))
  rw [F.beq]
theorem Sw.bad2 (r : List Nat) : bad2F (r.map f) = bad2F r := by unfold bad2F; rw [F.pt, List.length_map]
theorem Sw.ok (r : List Nat) : okF (r.map f) = okF r := by
  unfold okF
  rw [F.lf, F.rt, F.inn, F.sp, Sw.subOk', List.length_map, ← List.map_take, F.three, F.low, List.all_map, List.isEmpty_map]
  congr 3
  exact congrArg (fun g => (inF r).all g) (funext F.low)
end
noncomputable def cleanF (r : List Nat) : Bool := ((ptF r).getD 3 []).all fun x => x != 124 && x != 33 && x != 47 && x != 59
theorem Sw.good {f : Nat → Nat} {m : Nat} (F : Sw f m) {r : List Nat} (h : cleanF r = true) : goodF (r.map f) = goodF r ∧ portF (r.map f) = portF r := by
  have e : (ptF (r.map f)).getD 3 [] = (ptF r).getD 3 [] := by
    rw [F.pt]
    have : (((ptF r).map (List.map f)).getD 3 []) = ((ptF r).getD 3 []).map f := by
      by_cases hl : 3 < (ptF r).length
      · simp [List.getD, hl]
      · simp [List.getD, hl]
    rw [this]
    have g : ∀ l : List Nat, (l.all fun x => x != 124 && x != 33 && x != 47 && x != 59) = true → l.map f = l := fun l hl => by
      induction l with
      | nil => rfl
      | cons x r ih =>
        rw [List.all_cons, Bool.and_eq_true] at hl
        rw [List.map_cons, F.rest x hl.1, ih hl.2]
    exact g _ h
  unfold goodF portF
  rw [e]
  exact ⟨rfl, rfl⟩
theorem Sw.told {f : Nat → Nat} {m : Nat} (F : Sw f m) {copy : List Int} {p : Nat} {due : PyData} (hp : p < 7) (h : toldC copy 124 p due = true) (hc : (isN due || cleanF (rsF copy 124 p)) = true) : toldC copy m p due = true := by
  unfold toldC at h ⊢
  rw [F.rs copy hp, F.rg, F.bg copy hp, F.en copy hp, Sw.subOk', F.ok, F.bad1, F.bad2]
  by_cases b : (bad1F (rsF copy 124 p) || bad2F (rsF copy 124 p)) = true
  · rw [if_pos b] at h ⊢; exact h
  · rw [if_neg b] at h ⊢
    have hn : isN due = false := by
      simp only [Bool.and_eq_true] at h
      have := h.2.2
      cases due <;> first | rfl | (simp [PyData.eqv] at this)
    rw [hn, Bool.false_or] at hc
    obtain ⟨g1, g2⟩ := F.good hc
    rw [g1, g2]; exact h
noncomputable def swF (m x : Nat) : Nat := if x = 124 then m else if x = m then 124 else x
theorem sw_of {m : Nat} (h : m ∈ ([124, 33, 47, 59] : List Nat)) : Sw (swF m) m := by
  have hm : m = 124 ∨ m = 33 ∨ m = 47 ∨ m = 59 := by simpa using h
  have inj : ∀ x y, swF m x = swF m y → x = y := fun x y e => by
    unfold swF at e
    by_cases a : x = 124 <;> by_cases b : y = 124 <;> by_cases c : x = m <;> by_cases d : y = m <;> simp_all
  have th : ∀ y, y = 50 ∨ y = 57 → ∀ x, swF m x = y ↔ x = y := fun y hy x => by
    have e : swF m y = y := by unfold swF; rw [if_neg (by omega), if_neg (by omega)]
    exact ⟨fun q => inj _ _ (q.trans e.symm), fun q => by rw [q, e]⟩
  refine ⟨inj, by simp [swF], by unfold swF; rw [if_neg (by omega), if_neg (by omega)], fun q hq => by unfold swF; rw [if_neg (by omega), if_neg (by omega)], ?_, by unfold swF; rw [if_neg (by omega), if_neg (by omega)], by unfold swF; rw [if_neg (by omega), if_neg (by omega)], fun l => ?_, fun x => ?_, fun x hx => ?_⟩
  · rcases hm with rfl | rfl | rfl | rfl <;> decide
  · rw [Bool.eq_iff_iff, beq_iff_eq, beq_iff_eq]
    match l with
    | [] => simp
    | [a] => simp
    | [a, b] => simp
    | [a, b, c] => simp [th 50 (.inl rfl), th 57 (.inr rfl)]
    | a :: b :: c :: d :: r => simp
  · unfold swF
    by_cases a : x = 124
    · rw [if_pos a]; rcases hm with rfl | rfl | rfl | rfl <;> subst a <;> decide
    · rw [if_neg a]
      by_cases b : x = m
      · rw [if_pos b]; rcases hm with rfl | rfl | rfl | rfl <;> subst b <;> decide
      · rw [if_neg b]
  · simp only [Bool.and_eq_true, bne_iff_ne, ne_eq] at hx
    unfold swF; rw [if_neg (by omega), if_neg (by omega)]
end Mine
end

section
open PySem PySem.W PySem.Calls PySem.Spec PySem.StrLaws
set_option linter.unusedVariables false
namespace Mine
/-- which of the seven signs are tabs -/
noncomputable def flagsF (ms : List Int) : List Bool := (List.range 7).map fun (i : Nat) => ms.any (· == ((ms.headD 0) + (1 + (i : Int))).fmod 7)
noncomputable def repF (ms : List Int) : List Int := ms.map fun q => q - ms.headD 0
theorem signs_eq {ms ms' : List Int} (h : flagsF ms = flagsF ms') : ((List.range 7).map fun (i : Nat) => leadSign ms (1 + (i : Nat))) = (List.range 7).map fun (i : Nat) => leadSign ms' (1 + (i : Nat)) := by
  have e : ∀ ms, ((List.range 7).map fun (i : Nat) => leadSign ms (1 + (i : Nat))) = (flagsF ms).map fun b => if b = true then ("\t" : Str) else " " := fun ms => by
    unfold flagsF leadSign; rw [List.map_map]; rfl
  rw [e, e, h]
theorem lead_eq {ms ms' : List Int} (h : flagsF ms = flagsF ms') : leadF ms = leadF ms' := by unfold leadF; rw [signs_eq h]
theorem leadOk_eq {ms ms' : List Int} (h : flagsF ms = flagsF ms') (hl : ms.length = ms'.length) : leadOk ms = leadOk ms' := by
  have hn : (ms != []) = (ms' != []) := by
    match ms, ms', hl with
    | [], [], _ => rfl
    | _ :: _, _ :: _, _ => rfl
  unfold leadOk
  rw [signs_eq h, lead_eq h, hl, hn]
structure Like (ms ms' : List Int) (f : Int) : Prop where
  len : ms.length = ms'.length
  a : flagsF ms = flagsF ms'
  b : flagsF (otherM ms f) = flagsF (otherM ms' f)
theorem Like.ok {ms ms' : List Int} {f : Int} (h : Like ms ms' f) : nannyOk ms f = nannyOk ms' f := by
  have l : (otherM ms f).length = (otherM ms' f).length := by simp [h.len]
  unfold nannyOk
  rw [leadOk_eq h.a h.len, leadOk_eq h.b l]
  unfold tailS headS colsF longs tailT headT
  rw [lead_eq h.a, lead_eq h.b]
theorem Like.nanny {ms ms' : List Int} {f : Int} (h : Like ms ms' f) (p : Bool) : nannyF ms f p = nannyF ms' f p := by
  unfold nannyF
  unfold tailS headS colsF longs tailT headT
  rw [lead_eq h.a, lead_eq h.b, h.len]
noncomputable def likeChk (ms : List Int) (f : Int) : Bool := decide (ms.length = (repF ms).length) && (flagsF ms == flagsF (repF ms)) && (flagsF (otherM ms f) == flagsF (otherM (repF ms) f)) && (planeF ms == planeF (repF ms))
noncomputable def nanChk (ms : List Int) (f : Int) : Bool := nannyOk ms f && nannyF ms f (planeF ms)
theorem nan_of {ms : List Int} {f : Int} (h : likeChk ms f = true) (k : nanChk (repF ms) f = true) : nanChk ms f = true := by
  unfold likeChk at h
  simp only [Bool.and_eq_true, decide_eq_true_eq, beq_iff_eq] at h
  obtain ⟨⟨⟨h1, h2⟩, h3⟩, h4⟩ := h
  have L : Like ms (repF ms) f := ⟨h1, h2, h3⟩
  unfold nanChk at k ⊢
  rw [L.ok, L.nanny, h4]; exact k
end Mine
end

section
open PySem PySem.W PySem.Calls PySem.Spec PySem.StrLaws
set_option linter.unusedVariables false
set_option maxRecDepth 100000
namespace Mine
noncomputable def toldChk (S : List Int) : Bool := (List.range 7).all fun (p : Nat) => dueOk S p && toldC S 124 p (dueF S p) && (isN (dueF S p) || cleanF (rsF S 124 p))
noncomputable def copyChk (all : List (List Int)) (ms : List Int) : Bool := decide (ms.length ≤ 7) && decide ((waysF ms).length < 64) && (copiesF ms).all fun c => all.contains (normF c) && (normF c).length == c.length
noncomputable def subOf (a b c : Int) : List Int := ((List.range 7).filter fun (q : Nat) => ([a, b, c] : List Int).any (· == (q : Int))).map fun (q : Nat) => (q : Int)
noncomputable def grp0 : List (List Int) := [[0], [1], [2], [3], [4], [5], [6]]
noncomputable def grp1 : List (List Int) := [[0, 1], [0, 2], [0, 3], [0, 4], [0, 5], [0, 6], [1, 2]]
noncomputable def grp2 : List (List Int) := [[1, 3], [1, 4], [1, 5], [1, 6], [2, 3], [2, 4], [2, 5]]
noncomputable def grp3 : List (List Int) := [[2, 6], [3, 4], [3, 5], [3, 6], [4, 5], [4, 6], [5, 6]]
noncomputable def grp4 : List (List Int) := [[0, 1, 2], [0, 1, 3], [0, 1, 4], [0, 1, 5], [0, 1, 6], [0, 2, 3], [0, 2, 4]]
noncomputable def grp5 : List (List Int) := [[0, 2, 5], [0, 2, 6], [0, 3, 4], [0, 3, 5], [0, 3, 6], [0, 4, 5], [0, 4, 6]]
noncomputable def grp6 : List (List Int) := [[0, 5, 6], [1, 2, 3], [1, 2, 4], [1, 2, 5], [1, 2, 6], [1, 3, 4], [1, 3, 5]]
noncomputable def grp7 : List (List Int) := [[1, 3, 6], [1, 4, 5], [1, 4, 6], [1, 5, 6], [2, 3, 4], [2, 3, 5], [2, 3, 6]]
noncomputable def grp8 : List (List Int) := [[2, 4, 5], [2, 4, 6], [2, 5, 6], [3, 4, 5], [3, 4, 6], [3, 5, 6], [4, 5, 6]]
noncomputable def allMs : List (List Int) := grp0 ++ grp1 ++ grp2 ++ grp3 ++ grp4 ++ grp5 ++ grp6 ++ grp7 ++ grp8
theorem all_of {P : List Int → Bool} (h0 : grp0.all P = true) (h1 : grp1.all P = true) (h2 : grp2.all P = true) (h3 : grp3.all P = true) (h4 : grp4.all P = true) (h5 : grp5.all P = true) (h6 : grp6.all P = true) (h7 : grp7.all P = true) (h8 : grp8.all P = true) : ∀ ms ∈ allMs, P ms = true := by
  have h : allMs.all P = true := by unfold allMs; simp only [List.all_append, h0, h1, h2, h3, h4, h5, h6, h7, h8, Bool.and_self]
  exact List.all_eq_true.mp h
noncomputable def repL : List (List Int) := [[0], [0, 1], [0, 2], [0, 3], [0, 4], [0, 5], [0, 6], [0, 1, 2], [0, 1, 3], [0, 1, 4], [0, 1, 5], [0, 1, 6], [0, 2, 3], [0, 2, 4], [0, 2, 5], [0, 2, 6], [0, 3, 4], [0, 3, 5], [0, 3, 6], [0, 4, 5], [0, 4, 6], [0, 5, 6]]
theorem chkL0 : (grp0.all fun ms => decide (repF ms ∈ repL) && ([1, 2, 3, 4, 5, 6] : List Int).all fun f => likeChk ms f) = true := by decide +kernel
theorem chkP0 : (grp0.all fun ms => (List.range 7).all fun (p : Nat) => placeChk ms p) = true := by decide +kernel
theorem chkT0 : (grp0.all fun S => toldChk S) = true := by decide +kernel
theorem chkC0 : (grp0.all fun ms => copyChk allMs ms) = true := by decide +kernel
theorem chkL1 : (grp1.all fun ms => decide (repF ms ∈ repL) && ([1, 2, 3, 4, 5, 6] : List Int).all fun f => likeChk ms f) = true := by decide +kernel
theorem chkP1 : (grp1.all fun ms => (List.range 7).all fun (p : Nat) => placeChk ms p) = true := by decide +kernel
theorem chkT1 : (grp1.all fun S => toldChk S) = true := by decide +kernel
theorem chkC1 : (grp1.all fun ms => copyChk allMs ms) = true := by decide +kernel
theorem chkL2 : (grp2.all fun ms => decide (repF ms ∈ repL) && ([1, 2, 3, 4, 5, 6] : List Int).all fun f => likeChk ms f) = true := by decide +kernel
theorem chkP2 : (grp2.all fun ms => (List.range 7).all fun (p : Nat) => placeChk ms p) = true := by decide +kernel
theorem chkT2 : (grp2.all fun S => toldChk S) = true := by decide +kernel
theorem chkC2 : (grp2.all fun ms => copyChk allMs ms) = true := by decide +kernel
theorem chkL3 : (grp3.all fun ms => decide (repF ms ∈ repL) && ([1, 2, 3, 4, 5, 6] : List Int).all fun f => likeChk ms f) = true := by decide +kernel
theorem chkP3 : (grp3.all fun ms => (List.range 7).all fun (p : Nat) => placeChk ms p) = true := by decide +kernel
theorem chkT3 : (grp3.all fun S => toldChk S) = true := by decide +kernel
theorem chkC3 : (grp3.all fun ms => copyChk allMs ms) = true := by decide +kernel
theorem chkL4 : (grp4.all fun ms => decide (repF ms ∈ repL) && ([1, 2, 3, 4, 5, 6] : List Int).all fun f => likeChk ms f) = true := by decide +kernel
theorem chkP4 : (grp4.all fun ms => (List.range 7).all fun (p : Nat) => placeChk ms p) = true := by decide +kernel
theorem chkT4 : (grp4.all fun S => toldChk S) = true := by decide +kernel
theorem chkC4 : (grp4.all fun ms => copyChk allMs ms) = true := by decide +kernel
theorem chkL5 : (grp5.all fun ms => decide (repF ms ∈ repL) && ([1, 2, 3, 4, 5, 6] : List Int).all fun f => likeChk ms f) = true := by decide +kernel
theorem chkP5 : (grp5.all fun ms => (List.range 7).all fun (p : Nat) => placeChk ms p) = true := by decide +kernel
theorem chkT5 : (grp5.all fun S => toldChk S) = true := by decide +kernel
theorem chkC5 : (grp5.all fun ms => copyChk allMs ms) = true := by decide +kernel
theorem chkL6 : (grp6.all fun ms => decide (repF ms ∈ repL) && ([1, 2, 3, 4, 5, 6] : List Int).all fun f => likeChk ms f) = true := by decide +kernel
theorem chkP6 : (grp6.all fun ms => (List.range 7).all fun (p : Nat) => placeChk ms p) = true := by decide +kernel
theorem chkT6 : (grp6.all fun S => toldChk S) = true := by decide +kernel
theorem chkC6 : (grp6.all fun ms => copyChk allMs ms) = true := by decide +kernel
theorem chkL7 : (grp7.all fun ms => decide (repF ms ∈ repL) && ([1, 2, 3, 4, 5, 6] : List Int).all fun f => likeChk ms f) = true := by decide +kernel
theorem chkP7 : (grp7.all fun ms => (List.range 7).all fun (p : Nat) => placeChk ms p) = true := by decide +kernel
theorem chkT7 : (grp7.all fun S => toldChk S) = true := by decide +kernel
theorem chkC7 : (grp7.all fun ms => copyChk allMs ms) = true := by decide +kernel
theorem chkL8 : (grp8.all fun ms => decide (repF ms ∈ repL) && ([1, 2, 3, 4, 5, 6] : List Int).all fun f => likeChk ms f) = true := by decide +kernel
theorem chkP8 : (grp8.all fun ms => (List.range 7).all fun (p : Nat) => placeChk ms p) = true := by decide +kernel
theorem chkT8 : (grp8.all fun S => toldChk S) = true := by decide +kernel
theorem chkC8 : (grp8.all fun ms => copyChk allMs ms) = true := by decide +kernel
theorem chkN0 : (([[0], [0, 1]] : List (List Int)).all fun ms => ([1, 2, 3, 4, 5, 6] : List Int).all fun f => nanChk ms f) = true := by decide +kernel
theorem chkN2 : (([[0, 2], [0, 3]] : List (List Int)).all fun ms => ([1, 2, 3, 4, 5, 6] : List Int).all fun f => nanChk ms f) = true := by decide +kernel
theorem chkN4 : (([[0, 4], [0, 5]] : List (List Int)).all fun ms => ([1, 2, 3, 4, 5, 6] : List Int).all fun f => nanChk ms f) = true := by decide +kernel
theorem chkN6 : (([[0, 6], [0, 1, 2]] : List (List Int)).all fun ms => ([1, 2, 3, 4, 5, 6] : List Int).all fun f => nanChk ms f) = true := by decide +kernel
theorem chkN8 : (([[0, 1, 3], [0, 1, 4]] : List (List Int)).all fun ms => ([1, 2, 3, 4, 5, 6] : List Int).all fun f => nanChk ms f) = true := by decide +kernel
theorem chkN10 : (([[0, 1, 5], [0, 1, 6]] : List (List Int)).all fun ms => ([1, 2, 3, 4, 5, 6] : List Int).all fun f => nanChk ms f) = true := by decide +kernel
theorem chkN12 : (([[0, 2, 3], [0, 2, 4]] : List (List Int)).all fun ms => ([1, 2, 3, 4, 5, 6] : List Int).all fun f => nanChk ms f) = true := by decide +kernel
theorem chkN14 : (([[0, 2, 5], [0, 2, 6]] : List (List Int)).all fun ms => ([1, 2, 3, 4, 5, 6] : List Int).all fun f => nanChk ms f) = true := by decide +kernel
theorem chkN16 : (([[0, 3, 4], [0, 3, 5]] : List (List Int)).all fun ms => ([1, 2, 3, 4, 5, 6] : List Int).all fun f => nanChk ms f) = true := by decide +kernel
theorem chkN18 : (([[0, 3, 6], [0, 4, 5]] : List (List Int)).all fun ms => ([1, 2, 3, 4, 5, 6] : List Int).all fun f => nanChk ms f) = true := by decide +kernel
theorem chkN20 : (([[0, 4, 6], [0, 5, 6]] : List (List Int)).all fun ms => ([1, 2, 3, 4, 5, 6] : List Int).all fun f => nanChk ms f) = true := by decide +kernel
theorem chkS0 : ((List.range 7).all fun (b : Nat) => (List.range 7).all fun (c : Nat) => allMs.contains (subOf 0 b c)) = true := by decide +kernel
theorem chkS1 : ((List.range 7).all fun (b : Nat) => (List.range 7).all fun (c : Nat) => allMs.contains (subOf 1 b c)) = true := by decide +kernel
theorem chkS2 : ((List.range 7).all fun (b : Nat) => (List.range 7).all fun (c : Nat) => allMs.contains (subOf 2 b c)) = true := by decide +kernel
theorem chkS3 : ((List.range 7).all fun (b : Nat) => (List.range 7).all fun (c : Nat) => allMs.contains (subOf 3 b c)) = true := by decide +kernel
theorem chkS4 : ((List.range 7).all fun (b : Nat) => (List.range 7).all fun (c : Nat) => allMs.contains (subOf 4 b c)) = true := by decide +kernel
theorem chkS5 : ((List.range 7).all fun (b : Nat) => (List.range 7).all fun (c : Nat) => allMs.contains (subOf 5 b c)) = true := by decide +kernel
theorem chkS6 : ((List.range 7).all fun (b : Nat) => (List.range 7).all fun (c : Nat) => allMs.contains (subOf 6 b c)) = true := by decide +kernel
theorem sub_mem {a b c : Int} (ha : 0 ≤ a ∧ a < 7) (hb : 0 ≤ b ∧ b < 7) (hc : 0 ≤ c ∧ c < 7) : subOf a b c ∈ allMs := by
  obtain ⟨b, rfl⟩ := Int.eq_ofNat_of_zero_le hb.1
  obtain ⟨c, rfl⟩ := Int.eq_ofNat_of_zero_le hc.1
  have go : ∀ x : Int, ((List.range 7).all fun (b : Nat) => (List.range 7).all fun (c : Nat) => allMs.contains (subOf x b c)) = true → subOf x b c ∈ allMs := fun x h =>
    List.contains_iff_mem.mp (List.all_eq_true.mp (List.all_eq_true.mp h b (List.mem_range.mpr (by omega))) c (List.mem_range.mpr (by omega)))
  have h7 : a = 0 ∨ a = 1 ∨ a = 2 ∨ a = 3 ∨ a = 4 ∨ a = 5 ∨ a = 6 := by omega
  rcases h7 with rfl | rfl | rfl | rfl | rfl | rfl | rfl
  · exact go _ chkS0
  · exact go _ chkS1
  · exact go _ chkS2
  · exact go _ chkS3
  · exact go _ chkS4
  · exact go _ chkS5
  · exact go _ chkS6
theorem rep_all : (repL.all fun ms => ([1, 2, 3, 4, 5, 6] : List Int).all fun f => nanChk ms f) = true := by
  rw [show repL = [[0], [0, 1]] ++ [[0, 2], [0, 3]] ++ [[0, 4], [0, 5]] ++ [[0, 6], [0, 1, 2]] ++ [[0, 1, 3], [0, 1, 4]] ++ [[0, 1, 5], [0, 1, 6]] ++ [[0, 2, 3], [0, 2, 4]] ++ [[0, 2, 5], [0, 2, 6]] ++ [[0, 3, 4], [0, 3, 5]] ++ [[0, 3, 6], [0, 4, 5]] ++ [[0, 4, 6], [0, 5, 6]] from rfl]
  simp only [List.all_append, chkN0, chkN2, chkN4, chkN6, chkN8, chkN10, chkN12, chkN14, chkN16, chkN18, chkN20, Bool.and_self]
theorem lik_all : ∀ ms ∈ allMs, (decide (repF ms ∈ repL) && ([1, 2, 3, 4, 5, 6] : List Int).all fun f => likeChk ms f) = true := all_of chkL0 chkL1 chkL2 chkL3 chkL4 chkL5 chkL6 chkL7 chkL8
theorem nan_all {ms : List Int} (h : ms ∈ allMs) {f : Int} (hf : f ∈ ([1, 2, 3, 4, 5, 6] : List Int)) : nanChk ms f = true := by
  have k := lik_all ms h
  rw [Bool.and_eq_true, decide_eq_true_eq] at k
  exact nan_of (List.all_eq_true.mp k.2 f hf) (List.all_eq_true.mp (List.all_eq_true.mp rep_all _ k.1) f hf)
theorem pla_all : ∀ ms ∈ allMs, ((List.range 7).all fun (p : Nat) => placeChk ms p) = true := all_of chkP0 chkP1 chkP2 chkP3 chkP4 chkP5 chkP6 chkP7 chkP8
theorem tol_all : ∀ ms ∈ allMs, toldChk ms = true := all_of chkT0 chkT1 chkT2 chkT3 chkT4 chkT5 chkT6 chkT7 chkT8
theorem cop_all : ∀ ms ∈ allMs, copyChk allMs ms = true := all_of chkC0 chkC1 chkC2 chkC3 chkC4 chkC5 chkC6 chkC7 chkC8
theorem mark_eq {i : Int} (h : 0 ≤ i ∧ i < 4) : ∃ m, m ∈ ([124, 33, 47, 59] : List Nat) ∧ Txt.item "|!/;" i = SL [m] := by
  have h4 : i = 0 ∨ i = 1 ∨ i = 2 ∨ i = 3 := by omega
  rcases h4 with rfl | rfl | rfl | rfl
  · exact ⟨124, by decide, by decide +kernel⟩
  · exact ⟨33, by decide, by decide +kernel⟩
  · exact ⟨47, by decide, by decide +kernel⟩
  · exact ⟨59, by decide, by decide +kernel⟩
theorem fm (a : Int) {n : Int} (h : 0 < n) : 0 ≤ a.fmod n ∧ a.fmod n < n := ⟨Int.fmod_nonneg_of_pos _ h, Int.fmod_lt_of_pos _ h⟩
theorem w_bound (ns : List Int) : ∀ x ∈ weightsF ns, x.natAbs ≤ 1000 := fun x hx => by
  unfold weightsF at hx
  obtain ⟨i, _, rfl⟩ := List.mem_map.mp hx
  have := fm (totalF ns (4 + i)) (n := 2001) (by decide)
  omega
theorem lawOk_all {ns : List Int} (h : ns.length ≤ 63) : LawOk ns := by
  have hms : marksF ns ∈ allMs := sub_mem (fm (totalF ns 0) (by decide)) (fm (totalF ns 1) (by decide)) (fm (totalF ns 2) (by decide))
  have hc := cop_all _ hms
  unfold copyChk at hc
  simp only [Bool.and_eq_true, decide_eq_true_eq, List.all_eq_true, beq_iff_eq] at hc
  obtain ⟨⟨c1, c2⟩, c3⟩ := hc
  have hf : factorF ns ∈ ([1, 2, 3, 4, 5, 6] : List Int) := by
    have := fm (totalF ns 3) (n := 6) (by decide)
    unfold factorF
    have h6 : (totalF ns 3).fmod 6 = 0 ∨ (totalF ns 3).fmod 6 = 1 ∨ (totalF ns 3).fmod 6 = 2 ∨ (totalF ns 3).fmod 6 = 3 ∨ (totalF ns 3).fmod 6 = 4 ∨ (totalF ns 3).fmod 6 = 5 := by omega
    rcases h6 with e | e | e | e | e | e <;> rw [e] <;> decide
  have hn := nan_all hms hf
  unfold nanChk at hn
  rw [Bool.and_eq_true] at hn
  obtain ⟨m, hm, em⟩ := mark_eq (i := ((totalF ns 3).fdiv 6).fmod 4) (fm _ (by decide))
  have pl : ∀ p : Nat, p < 7 → PlaceOk (p : Int) (copiesF (marksF ns)) (markF ns) (weightsF ns) (waysF (marksF ns)) (planeF (marksF ns)) := fun p hp => by
    unfold markF
    rw [em]
    refine place_ok (all := allMs) hp (by unfold weightsF; simp) (w_bound ns) (by omega) c1 (fun c hc => ⟨List.contains_iff_mem.mp (c3 c hc).1, (c3 c hc).2⟩) (fun S hS => ?_) (List.all_eq_true.mp (pla_all _ hms) p (List.mem_range.mpr hp))
    have := List.all_eq_true.mp (show (List.range 7).all _ = true from tol_all S hS) p (List.mem_range.mpr hp)
    simp only [Bool.and_eq_true] at this
    exact ⟨this.1.1, (sw_of hm).told hp this.1.2 this.2⟩
  have pl' : ∀ i : Int, 0 ≤ i ∧ i < 7 → PlaceOk i (copiesF (marksF ns)) (markF ns) (weightsF ns) (waysF (marksF ns)) (planeF (marksF ns)) := fun i hi => by
    obtain ⟨p, rfl⟩ := Int.eq_ofNat_of_zero_le hi.1
    exact pl p (by omega)
  exact ⟨by omega, c1, c2, hn.1, hn.2, pl' _ (fm _ (by decide)), pl' _ (fm _ (by decide))⟩
end Mine
end

section
open PySem PySem.W PyProof.Rows
namespace Mine
set_option maxRecDepth 100000 in
set_option maxHeartbeats 8000000 in
theorem holds1 : PySem.Challenge.rw_xg0061_01.Holds := by
  w_on
  refine holds_law (by decide +kernel) fun said => ?_
  refine holds_open (q := vw) (loose := ["Whitespace"]) (Xt := xt) (XP := XL vw []) (Yf := hk.obs) (Ya := hk.val) (YP := hk.says) (N := 3286) left_ok hk.of hk.keeps (fun s e => xl_of s (Bool.and_eq_true_iff.mp e).1) XL.keeps (by rfl) (by rfl) (by rfl)
    (fun s e => recFacts_of (Bool.and_eq_true_iff.mp e).2) (by rfl) (by first | assumption | decide +kernel) (by decide +kernel) ⟨rfl, rfl, rfl, rfl, rfl, by decide +kernel⟩ ?hw ?hc
  case hw => w_witness2
  intro w s₀ s₁ mg mb G Y fa o pm cd doc dV kV ho hd hcd hD hmg hg args vals as hpre hlay hrd hwl hlo
  have KX := kIn_of Y
  refine Ground.open G ?_
  intro T B D TE TW
  wrow_args hpre hlay hrd hwl hlo
  all_goals (
    refine wpAny_mono (law_fn (ns := _) (base := s₁.heap) (z := ⟨Str.ofString "law", doc, pm, none, cd, .none⟩) ho ?hd hcd (lc_of KX (topRead_of T)) (lawOk_all ?len) ?room rfl (fun b o e => e) (.cons (list_py (by assumption) (ints_all2 (by assumption))) .nil) (Q := fun v s' => GoodWG Challenge.rw_xg0061_01.row.claim (classAt s₀.heap) (ExcName.means s₀.heap)
        [ofPy (PyData.list (List.map PyData.int _))] s₁ (Except.ok (Flow.ret v)) s') (E := fun _ _ => False) ?fin) (fun _ _ h => h) (fun _ _ h => h.elim))
  case hd =>
    have hx : dV = .none ∧ kV = .none := ⟨hD.pos.elim (fun h => h.2) (fun h => absurd rfl h.1), hD.kw.elim (fun h => h.2) (fun h => absurd rfl h.1)⟩
    rw [hd, hx.1, hx.2]; rfl
  case len => omega
  case room => exact ⟨rfl, by decide, by decide⟩
  case fin =>
    intro s' kp
    have ke := kp.ext
    obtain ⟨h', tk, rfl, _⟩ := kp
    refine GoodW.toG ⟨.inl ⟨.bool true, .bool true, [], rfl, raisesW_false (by wrow_none_raised), .bool true, ?_, fun _ => ⟨List.nodup_nil, fun _ m => nomatch m⟩⟩, ke, rfl, hg⟩
    wrow_post
end Mine
end

set_option maxRecDepth 100000 in
theorem PySem.Challenge.cw_xg0061_01_holds : PySem.Challenge.rw_xg0061_01.Holds := by
  exact Mine.holds1
