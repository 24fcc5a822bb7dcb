import PyProof.Rows.All
import Wide.All
import OpenK.AllK
import Wide.FinOn
import PySem.Challenge.RW_rt0009_01
set_option Elab.async false
set_option maxRecDepth 100000
set_option maxHeartbeats 8000000
set_option linter.unusedVariables false

section
open PySem PySem.W PyProof.Rows
namespace Mine

/-- data -/
inductive D where
  | none
  | bool (b : Bool)
  | int (i : Int)
  | str (x : Str)
  | list (ds : List D)
  | plain (ds : List D)
  | tup (ds : List D)
  | raw (v : Value)

def Sub (h h' : Heap) : Prop := ∀ b o, h.get? b = some o → h'.get? b = some o
theorem Sub.refl (h : Heap) : Sub h h := fun _ _ e => e
theorem Sub.trans {h h' h'' : Heap} (x : Sub h h') (y : Sub h' h'') : Sub h h'' := fun b o e => y b o (x b o e)

/-- lists and tuples stay -/
def SubSeq (h h' : Heap) : Prop := ∀ b o, h.get? b = some o → (∃ vs n, o.data = .seq vs n) → h'.get? b = some o
theorem Sub.seq {h h' : Heap} (x : Sub h h') : SubSeq h h' := fun b o e _ => x b o e
theorem SubSeq.refl (h : Heap) : SubSeq h h := fun _ _ e _ => e
theorem SubSeq.trans {h h' h'' : Heap} (x : SubSeq h h') (y : SubSeq h' h'') : SubSeq h h'' := fun b o e p => y b o (x b o e p) p

mutual
/-- the heap h bears d at v, each object of it at an address in P -/
inductive Rel (P : Addr → Prop) (h : Heap) : Value → D → Prop
  | none : Rel P h Value.none D.none
  | bool (b : Bool) : Rel P h (Value.bool b) (D.bool b)
  | int (i : Int) (t : Tok) : Rel P h (Value.int i t) (D.int i)
  | str (x : Str) (t : Tok) : Rel P h (Value.str x t) (D.str x)
  | list {a : Addr} {vs : List Value} {ds : List D} : P a → h.IsList a vs.toArray → RelAll P h vs ds → Rel P h (Value.ref a) (D.list ds)
  | plain {a : Addr} {vs : List Value} {ds : List D} : P a → h.PlainList a vs.toArray → RelAll P h vs ds → Rel P h (Value.ref a) (D.plain ds)
  | tup {a : Addr} {vs : List Value} {ds : List D} : P a → h.IsTuple a vs.toArray → RelAll P h vs ds → Rel P h (Value.ref a) (D.tup ds)
  | raw (v : Value) : Rel P h v (D.raw v)
inductive RelAll (P : Addr → Prop) (h : Heap) : List Value → List D → Prop
  | nil : RelAll P h [] []
  | cons {v : Value} {vs : List Value} {d : D} {ds : List D} : Rel P h v d → RelAll P h vs ds → RelAll P h (v :: vs) (d :: ds)
end
mutual
theorem Rel.turn {P P' : Addr → Prop} {h h' : Heap} (hs : ∀ a, P a → (∃ o, h.get? a = some o) → P' a ∧ ∀ o, h.get? a = some o → (∃ vs n, o.data = .seq vs n) → h'.get? a = some o) : ∀ {v : Value} {d : D}, Rel P h v d → Rel P' h' v d
  | _, _, .none => .none
  | _, _, .bool b => .bool b
  | _, _, .int i t => .int i t
  | _, _, .str x t => .str x t
  | _, _, .list pa p r => let ⟨o, e, c, n, q⟩ := p; .list (hs _ pa ⟨o, e⟩).1 ⟨o, (hs _ pa ⟨o, e⟩).2 _ e ⟨_, _, q⟩, c, n, q⟩ (RelAll.turn hs r)
  | _, _, .plain pa p r => let ⟨n, e⟩ := p; .plain (hs _ pa ⟨_, e⟩).1 ⟨n, (hs _ pa ⟨_, e⟩).2 _ e ⟨_, _, rfl⟩⟩ (RelAll.turn hs r)
  | _, _, .tup pa p r => let ⟨o, e, c, n, q⟩ := p; .tup (hs _ pa ⟨o, e⟩).1 ⟨o, (hs _ pa ⟨o, e⟩).2 _ e ⟨_, _, q⟩, c, n, q⟩ (RelAll.turn hs r)
  | _, _, .raw v => .raw v
theorem RelAll.turn {P P' : Addr → Prop} {h h' : Heap} (hs : ∀ a, P a → (∃ o, h.get? a = some o) → P' a ∧ ∀ o, h.get? a = some o → (∃ vs n, o.data = .seq vs n) → h'.get? a = some o) : ∀ {vs : List Value} {ds : List D}, RelAll P h vs ds → RelAll P' h' vs ds
  | _, _, .nil => .nil
  | _, _, .cons a b => .cons (Rel.turn hs a) (RelAll.turn hs b)
end
section
variable {P P' : Addr → Prop} {h h' : Heap} {v : Value} {d : D} {vs : List Value} {ds : List D}
theorem Rel.seq (hs : SubSeq h h') (r : Rel P h v d) : Rel P h' v d := r.turn fun a pa _ => ⟨pa, fun o e q => hs a o e q⟩
theorem RelAll.seq (hs : SubSeq h h') (r : RelAll P h vs ds) : RelAll P h' vs ds := r.turn fun a pa _ => ⟨pa, fun o e q => hs a o e q⟩
theorem Rel.weak : Rel P h v (.plain ds) → Rel P h v (.list ds)
  | .plain pa p r => .list pa p.isList r
theorem Rel.sub (hs : Sub h h') (r : Rel P h v d) : Rel P h' v d := r.seq hs.seq
theorem RelAll.sub (hs : Sub h h') (r : RelAll P h vs ds) : RelAll P h' vs ds := r.seq hs.seq
theorem Rel.imp (hp : ∀ a, P a → P' a) (r : Rel P h v d) : Rel P' h v d := r.turn fun a pa _ => ⟨hp a pa, fun _ e _ => e⟩
theorem RelAll.imp (hp : ∀ a, P a → P' a) (r : RelAll P h vs ds) : RelAll P' h vs ds := r.turn fun a pa _ => ⟨hp a pa, fun _ e _ => e⟩
/-- the objects stand in the heap -/
def In (h : Heap) (a : Addr) : Prop := ∃ o, h.get? a = some o
theorem Rel.inn (r : Rel P h v d) : Rel (fun a => P a ∧ In h a) h v d := r.turn fun a pa q => ⟨⟨pa, q⟩, fun _ e _ => e⟩
theorem RelAll.inn (r : RelAll P h vs ds) : RelAll (fun a => P a ∧ In h a) h vs ds := r.turn fun a pa q => ⟨⟨pa, q⟩, fun _ e _ => e⟩
end
/-- any address -/
abbrev Any : Addr → Prop := fun _ => True
abbrev None' : Addr → Prop := fun _ => False
theorem Rel.any {P : Addr → Prop} {h : Heap} {v : Value} {d : D} (r : Rel P h v d) : Rel Any h v d := r.imp fun _ _ => trivial
theorem RelAll.any {P : Addr → Prop} {h : Heap} {vs : List Value} {ds : List D} (r : RelAll P h vs ds) : RelAll Any h vs ds := r.imp fun _ _ => trivial
/-- in P, or new since s -/
def Nw (P : Addr → Prop) (s : Shared) (a : Addr) : Prop := P a ∨ s.heap.get? a = none
section
variable {P : Addr → Prop} {h : Heap} {vs ws : List Value} {ds es : List D}
theorem RelAll.length (r : RelAll P h vs ds) : vs.length = ds.length := by
  induction vs generalizing ds with
  | nil => cases r; rfl
  | cons v vs ih => cases r with | cons _ r => rw [List.length_cons, List.length_cons, ih r]
theorem RelAll.append (r : RelAll P h vs ds) (q : RelAll P h ws es) : RelAll P h (vs ++ ws) (ds ++ es) := by
  induction vs generalizing ds with
  | nil => cases r; exact q
  | cons v vs ih => cases r with | cons a r => exact .cons a (ih r)
theorem RelAll.get (r : RelAll P h vs ds) {k : Nat} {d : D} (hk : ds[k]? = some d) : ∃ v, vs[k]? = some v ∧ Rel P h v d := by
  induction vs generalizing ds k with
  | nil => cases r; cases hk
  | cons v vs ih =>
    cases r with
    | cons a r =>
      cases k with
      | zero => cases hk; exact ⟨v, rfl, a⟩
      | succ k => exact ih r (by simpa using hk)
theorem RelAll.getV (r : RelAll P h vs ds) {k : Nat} {v : Value} (hk : vs[k]? = some v) : ∃ d, ds[k]? = some d ∧ Rel P h v d := by
  induction vs generalizing ds k with
  | nil => cases hk
  | cons u vs ih =>
    cases r with
    | cons a r =>
      cases k with
      | zero => cases hk; exact ⟨_, rfl, a⟩
      | succ k => exact ih r (by simpa using hk)
theorem RelAll.take (r : RelAll P h vs ds) (k : Nat) : RelAll P h (vs.take k) (ds.take k) := by
  induction vs generalizing ds k with
  | nil => cases r; simpa using RelAll.nil
  | cons v vs ih =>
    cases r with
    | cons a r =>
      cases k with
      | zero => exact .nil
      | succ k => exact .cons a (ih r k)
theorem RelAll.drop (r : RelAll P h vs ds) (k : Nat) : RelAll P h (vs.drop k) (ds.drop k) := by
  induction vs generalizing ds k with
  | nil => cases r; simpa using RelAll.nil
  | cons v vs ih =>
    cases r with
    | cons a r =>
      cases k with
      | zero => exact .cons a r
      | succ k => exact ih r k
theorem RelAll.snoc {v : Value} {d : D} (r : RelAll P h vs ds) (q : Rel P h v d) : RelAll P h (vs ++ [v]) (ds ++ [d]) := r.append (.cons q .nil)
end

def Kp (s s' : Shared) : Prop := PySem.Keeps s s'
theorem Kp.sub {s s' : Shared} (k : Kp s s') : Sub s.heap s'.heap := by
  obtain ⟨h', tk, rfl, hk⟩ := k
  exact hk
theorem Kp.refl (s : Shared) : Kp s s := ⟨s.heap, s.toks, rfl, fun _ _ e => e⟩
theorem Kp.trans {s s' s'' : Shared} (x : Kp s s') (y : Kp s' s'') : Kp s s'' := by
  obtain ⟨h', tk, rfl, hk⟩ := x
  obtain ⟨h'', tk', rfl, hk'⟩ := y
  exact ⟨h'', tk', rfl, fun b o e => hk' b o (hk b o e)⟩
theorem Kp.toks {s : Shared} (k : Nat) : Kp s { s with toks := k } := ⟨s.heap, k, rfl, fun _ _ e => e⟩
theorem Kp.mk {s : Shared} {h' : Heap} {k : Nat} (e : Sub s.heap h') : Kp s { s with heap := h', toks := k } := ⟨h', k, rfl, e⟩
theorem Kp.heap {s : Shared} {h' : Heap} (e : Sub s.heap h') : Kp s { s with heap := h' } := ⟨h', s.toks, rfl, e⟩
theorem sub_push (h : Heap) (o : Obj) : Sub h (h.push o) := fun _ _ e => Heap.get?_push_of_some _ e

/-- the surroundings: no exception is handled, room for k more frames and units -/
structure Okay (A : Around) (k : Nat) : Prop where
  hh : A.handled = none
  depth : A.depth + k < recursionLimit
  units : A.units + 60 * k < cLine
theorem Okay.le {A : Around} {k j : Nat} (o : Okay A k) (h : j ≤ k) : Okay A j := ⟨o.hh, by have := o.depth; omega, by have := o.units; have := Nat.mul_le_mul_left 60 h; omega⟩
theorem Okay.deeper {A : Around} {k : Nat} {env : Env} (o : Okay A (k + 1)) : Okay (A.deeper env) k :=
  ⟨o.hh, by have := o.depth; show A.depth + 1 + k < _; omega, by have := o.units; show A.units + 3 + _ < _; omega⟩

section
variable (prog : Program) (w : World)

/-- the tree t, from any heap over h, ends in a value that bears d (its objects in P, or new); all old objects stay -/
def Gets (A : Around) (h : Heap) (P : Addr → Prop) (t : Sem Value) (d : D) : Prop :=
  ∀ (s : Shared) (Q E : Value → Shared → Prop), Sub h s.heap → (∀ v s', Kp s s' → Rel (Nw P s) s'.heap v d → Q v s') → wpAny (model prog w) A t Q E s
def GetsB (A : Around) (h : Heap) (t : Sem Bool) (b : Bool) : Prop :=
  ∀ (s : Shared) (Q : Bool → Shared → Prop) (E : Value → Shared → Prop), Sub h s.heap → (∀ s', Kp s s' → Q b s') → wpAny (model prog w) A t Q E s
/-- an expression -/
structure Ev (A : Around) (env : Env) (h : Heap) (P : Addr → Prop) (e : Expr) (d : D) : Prop where
  run : Gets prog w A h P (eval e env) d
/-- a test -/
structure Tr (A : Around) (env : Env) (h : Heap) (e : Expr) (b : Bool) : Prop where
  run : GetsB prog w A h (isTrue e env (eval e env)) b
/-- a name -/
def Nm (env : Env) (h : Heap) (P : Addr → Prop) (x : Str) (d : D) : Prop :=
  ∃ v, Rel P h v d ∧ ∀ (A : Around) (pos : Pos) (s : Shared) (Q E : Value → Shared → Prop), Sub h s.heap → Q v s → wpAny (model prog w) A (eval (.Name x pos) env) Q E s
/-- a call of a value on values -/
structure Calls (A : Around) (h : Heap) (f : Value) (args : List D) (d : D) : Prop where
  run : ∀ (s : Shared) (vs : List Value) (Q E : Value → Shared → Prop), Sub h s.heap → RelAll Any s.heap vs args → (∀ v s', Kp s s' → Rel (Nw None' s) s'.heap v d → Q v s') → wpAny (model prog w) A (call f vs) Q E s
end
theorem Kp.back {s s' : Shared} (k : Kp s s') {P : Addr → Prop} {a : Addr} (n : Nw P s' a) : Nw P s a := by
  rcases n with p | n
  · exact .inl p
  · refine .inr ?_
    cases e : s.heap.get? a with
    | none => rfl
    | some o => rw [k.sub _ _ e] at n; cases n
theorem Rel.back {s s' : Shared} (k : Kp s s') {P : Addr → Prop} {h : Heap} {v : Value} {d : D} (r : Rel (Nw P s') h v d) : Rel (Nw P s) h v d := r.imp fun _ => k.back
theorem RelAll.back {s s' : Shared} (k : Kp s s') {P : Addr → Prop} {h : Heap} {v : List Value} {d : List D} (r : RelAll (Nw P s') h v d) : RelAll (Nw P s) h v d := r.imp fun _ => k.back
theorem Rel.new {s : Shared} {P : Addr → Prop} {h : Heap} {v : Value} {d : D} (r : Rel (Nw None' s) h v d) : Rel (Nw P s) h v d := r.imp fun _ n => n.elim (fun f => f.elim) .inr
theorem Rel.nw {s : Shared} {P : Addr → Prop} {h : Heap} {v : Value} {d : D} (r : Rel P h v d) : Rel (Nw P s) h v d := r.imp fun _ p => .inl p

section
variable {prog : Program} {w : World} {A : Around} {env : Env} {h h' : Heap} {P P' : Addr → Prop}
theorem Gets.mono {t : Sem Value} {d : D} (x : Gets prog w A h P t d) (hs : Sub h h') : Gets prog w A h' P t d := fun s Q E k q => x s Q E (hs.trans k) q
theorem Ev.mono {e : Expr} {d : D} (x : Ev prog w A env h P e d) (hs : Sub h h') : Ev prog w A env h' P e d := ⟨Gets.mono x.run hs⟩
theorem Ev.imp {e : Expr} {d : D} (x : Ev prog w A env h P e d) (hp : ∀ a, P a → P' a) : Ev prog w A env h P' e d := ⟨fun s Q E k q => x.run s Q E k fun v s' k' r => q v s' k' (r.imp fun a n => n.elim (fun p => .inl (hp a p)) .inr)⟩
theorem Tr.mono {e : Expr} {b : Bool} (x : Tr prog w A env h e b) (hs : Sub h h') : Tr prog w A env h' e b := ⟨fun s Q E k q => x.run s Q E (hs.trans k) q⟩
theorem Nm.mono {x : Str} {d : D} (n : Nm prog w env h P x d) (hs : Sub h h') : Nm prog w env h' P x d := by
  obtain ⟨v, r, q⟩ := n
  exact ⟨v, r.sub hs, fun A pos s Q E k q' => q A pos s Q E (hs.trans k) q'⟩
theorem Nm.imp {x : Str} {d : D} (n : Nm prog w env h P x d) (hp : ∀ a, P a → P' a) : Nm prog w env h P' x d := by
  obtain ⟨v, r, q⟩ := n
  exact ⟨v, r.imp hp, q⟩
theorem Calls.mono {f : Value} {args : List D} {d : D} (x : Calls prog w A h f args d) (hs : Sub h h') : Calls prog w A h' f args d := ⟨fun s vs Q E k r q => x.run s vs Q E (hs.trans k) r q⟩

theorem ev_name {x : Str} {pos : Pos} {d : D} (n : Nm prog w env h P x d) : Ev prog w A env h P (.Name x pos) d := by
  refine ⟨fun s Q E k q => ?_⟩
  obtain ⟨v, r, l⟩ := n
  exact l A pos s _ _ k (q v s (.refl s) (r.sub k).nw)
theorem ev_int {i : Int} {n : Nat} {pos : Pos} : Ev prog w A env h P (.Constant (.int i) n pos) (.int i) := ⟨fun s _ _ _ q => wpAny_Constant_int (q _ _ (.toks _) (.int _ _))⟩
theorem ev_str {x : Str} {n : Nat} {pos : Pos} : Ev prog w A env h P (.Constant (.str x) n pos) (.str x) := ⟨fun s _ _ _ q => PySem.Calls.Constant_str (q _ _ (.toks _) (.str _ _))⟩
theorem ev_none {n : Nat} {pos : Pos} : Ev prog w A env h P (.Constant .none n pos) .none := ⟨fun s _ _ _ q => wpAny_pure (q _ _ (.refl _) .none)⟩
theorem ev_bool {b : Bool} {n : Nat} {pos : Pos} : Ev prog w A env h P (.Constant (.bool b) n pos) (.bool b) := ⟨fun s _ _ _ q => wpAny_pure (q _ _ (.refl _) (.bool b))⟩

/-- an operation of two data -/
def Op2 (prog : Program) (w : World) (A : Around) (h : Heap) (P : Addr → Prop) (op : Operator) (d₁ d₂ d : D) : Prop :=
  ∀ (s : Shared) (v₁ v₂ : Value) (Q E : Value → Shared → Prop), Sub h s.heap → Rel P s.heap v₁ d₁ → Rel P s.heap v₂ d₂ → (∀ v s', Kp s s' → Rel (Nw P s) s'.heap v d → Q v s') → wpAny (model prog w) A (binaryOp op v₁ v₂) Q E s
/-- two expressions, one behind the other -/
theorem ev_binop {l r : Expr} {op : Operator} {pos : Pos} {d₁ d₂ d : D} (x : Ev prog w A env h P l d₁) (y : Ev prog w A env h P r d₂)
    (z : ∀ P, Op2 prog w A h P op d₁ d₂ d) : Ev prog w A env h P (.BinOp l op r pos) d := by
  refine ⟨fun s Q E k q => ?_⟩
  refine wpAny_BinOp ?_
  refine x.run s _ _ k fun v₁ s₁ k₁ r₁ => y.run s₁ _ _ (k.trans k₁.sub) fun v₂ s₂ k₂ r₂ => ?_
  exact z (Nw P s) s₂ v₁ v₂ _ _ (k.trans (k₁.trans k₂).sub) (r₁.sub k₂.sub) (r₂.back k₁) fun v s' k' r' => q v s' ((k₁.trans k₂).trans k')
    (r'.imp fun a n => by
      rcases n with n | n
      · exact n
      · exact (k₁.trans k₂).back (.inr n))
end
end Mine
end

section
open PySem PySem.W PyProof.Rows
namespace Mine
section
variable {prog : Program} {w : World} {A : Around} {env : Env} {h h' : Heap} {P : Addr → Prop} {l r : Expr} {pos : Pos}

theorem get?_size (h : Heap) : h.get? h.objs.size = none := by
  cases e : h.get? h.objs.size with
  | none => rfl
  | some o => exact absurd (Heap.lt_size e) (Nat.lt_irrefl _)

theorem ev_add_int {a b : Int} (x : Ev prog w A env h P l (.int a)) (y : Ev prog w A env h P r (.int b)) : Ev prog w A env h P (.BinOp l .Add r pos) (.int (a + b)) :=
  ev_binop x y fun P s v₁ v₂ Q E _ r₁ r₂ q => by cases r₁; cases r₂; exact PyProof.Rows.add_int (q _ _ (.toks _) (.int _ _))
theorem ev_sub_int {a b : Int} (x : Ev prog w A env h P l (.int a)) (y : Ev prog w A env h P r (.int b)) : Ev prog w A env h P (.BinOp l .Sub r pos) (.int (a - b)) :=
  ev_binop x y fun P s v₁ v₂ Q E _ r₁ r₂ q => by cases r₁; cases r₂; exact PyProof.Rows.sub_int (q _ _ (.toks _) (.int _ _))
theorem ev_mul_int {a b : Int} (x : Ev prog w A env h P l (.int a)) (y : Ev prog w A env h P r (.int b)) (hm : IntMulOk a b) : Ev prog w A env h P (.BinOp l .Mult r pos) (.int (a * b)) :=
  ev_binop x y fun P s v₁ v₂ Q E _ r₁ r₂ q => by cases r₁; cases r₂; exact PySem.P.mul_int (q _ _ (.toks _) (.int _ _)) hm
theorem ev_div_int {a b : Int} (x : Ev prog w A env h P l (.int a)) (y : Ev prog w A env h P r (.int b)) (hb : b ≠ 0) (hs : b.natAbs < 1073741824) : Ev prog w A env h P (.BinOp l .FloorDiv r pos) (.int (a.fdiv b)) :=
  ev_binop x y fun P s v₁ v₂ Q E _ r₁ r₂ q => by cases r₁; cases r₂; exact PyProof.Rows.floordiv_int hb (q _ _ (.toks _) (.int _ _)) (.inl (PyProof.noPylong_small hs))
theorem ev_mod_int {a b : Int} (x : Ev prog w A env h P l (.int a)) (y : Ev prog w A env h P r (.int b)) (hb : b ≠ 0) : Ev prog w A env h P (.BinOp l .Mod r pos) (.int (a.fmod b)) :=
  ev_binop x y fun P s v₁ v₂ Q E _ r₁ r₂ q => by cases r₁; cases r₂; exact PyProof.Rows.mod_int hb (q _ _ (.toks _) (.int _ _))
theorem ev_pow_int {a b : Int} (x : Ev prog w A env h P l (.int a)) (y : Ev prog w A env h P r (.int b)) (hb : 0 ≤ b) (hb2 : b ≤ 1000000) (ha : a.natAbs < 2 ^ 64) : Ev prog w A env h P (.BinOp l .Pow r pos) (.int (a ^ b.toNat)) :=
  ev_binop x y fun P s v₁ v₂ Q E _ r₁ r₂ q => by cases r₁; cases r₂; exact PyProof.Rows.pow_int_small hb hb2 ha (q _ _ (.toks _) (.int _ _))
theorem ev_and_int {a b : Int} (x : Ev prog w A env h P l (.int a)) (y : Ev prog w A env h P r (.int b)) : Ev prog w A env h P (.BinOp l .BitAnd r pos) (.int (Builtin.bitAnd a b)) :=
  ev_binop x y fun P s v₁ v₂ Q E _ r₁ r₂ q => by cases r₁; cases r₂; exact PyProof.Rows.and_int (q _ _ (.toks _) (.int _ _))
theorem ev_add_str {a b : Str} (x : Ev prog w A env h P l (.str a)) (y : Ev prog w A env h P r (.str b)) (hs : a.length + b.length ≤ 10000) : Ev prog w A env h P (.BinOp l .Add r pos) (.str (a ++ b)) :=
  ev_binop x y fun P s v₁ v₂ Q E _ r₁ r₂ q => by cases r₁; cases r₂; exact PyProof.Rows.add_str (fun t' k => q _ _ (.toks _) (.str _ _)) (by rw [sizeLine_eq]; omega)
theorem ev_add_list {a b : List D} (x : Ev prog w A env h P l (.list a)) (y : Ev prog w A env h P r (.list b)) (hs : a.length + b.length ≤ 1000) : Ev prog w A env h P (.BinOp l .Add r pos) (.plain (a ++ b)) :=
  ev_binop x y fun P s v₁ v₂ Q E _ r₁ r₂ q => by
    cases r₁ with
    | list _ p₁ q₁ =>
      cases r₂ with
      | list _ p₂ q₂ =>
        obtain ⟨⟨cls, dd, data, sl⟩, ho, hc, n, hd⟩ := id p₁
        obtain ⟨⟨cls2, dd2, data2, sl2⟩, ho2, hc2, n2, hd2⟩ := id p₂
        simp only at hc hd hc2 hd2
        subst hc hd hc2 hd2
        refine concat_meets ⟨_, ho, rfl⟩ ⟨_, ho2, rfl⟩ noFill_list_add seq_list_add PySem.F.slot_list_add PySem.F.entry_list_add (PySem.F.args_list_add_2 _ _) (list_addW _ _ _ _ n n2 dd dd2 sl sl2 (by simp only [List.size_toArray, q₁.length, q₂.length]; rw [sizeLine_eq]; omega)) ⟨ho, ho2, ?_⟩
        refine q _ _ (.heap (sub_push _ _)) ?_
        exact .plain (.inr (get?_size s.heap)) ⟨0, by rw [← List.append_toArray]; exact Heap.get?_push_size s.heap rfl⟩ (((q₁.append q₂).sub (sub_push _ _)).imp fun _ p => .inl p)

/-- a comparison -/
theorem ev_cmp {op : CmpOp} {d₁ d₂ : D} {b : Bool} (x : Ev prog w A env h P l d₁) (y : Ev prog w A env h P r d₂)
    (z : ∀ (s : Shared) (v₁ v₂ : Value) (Q E : Value → Shared → Prop), Sub h s.heap → Rel Any s.heap v₁ d₁ → Rel Any s.heap v₂ d₂ → (∀ s', Kp s s' → Q (.bool b) s') → wpAny (model prog w) A (compareOp op v₁ v₂) Q E s)
    (hm : behindInMarks op r = false := by with_unfolding_all rfl) : Ev prog w A env h P (.Compare l [op] [r] pos) (.bool b) := by
  refine ⟨fun s Q E k q => ?_⟩
  refine wpAny_Compare1 ?_ hm
  refine x.run s _ _ k fun v₁ s₁ k₁ r₁ => y.run s₁ _ _ (k.trans k₁.sub) fun v₂ s₂ k₂ r₂ => ?_
  exact z s₂ v₁ v₂ _ _ (k.trans (k₁.trans k₂).sub) (r₁.sub k₂.sub).any r₂.any fun s' k' => q _ s' ((k₁.trans k₂).trans k') (.bool _)
theorem tr_cmp {op : CmpOp} {d₁ d₂ : D} {b : Bool} (x : Ev prog w A env h P l d₁) (y : Ev prog w A env h P r d₂)
    (z : ∀ (s : Shared) (v₁ v₂ : Value) (Q E : Value → Shared → Prop), Sub h s.heap → Rel Any s.heap v₁ d₁ → Rel Any s.heap v₂ d₂ → (∀ s', Kp s s' → Q (.bool b) s') → wpAny (model prog w) A (compareOp op v₁ v₂) Q E s)
    (hm : behindInMarks op r = false := by with_unfolding_all rfl) : Tr prog w A env h (.Compare l [op] [r] pos) b := by
  refine ⟨fun s Q E k q => ?_⟩
  refine wpAny_isTrue_Compare1 ?_ hm
  refine x.run s _ _ k fun v₁ s₁ k₁ r₁ => y.run s₁ _ _ (k.trans k₁.sub) fun v₂ s₂ k₂ r₂ => ?_
  exact z s₂ v₁ v₂ _ _ (k.trans (k₁.trans k₂).sub) (r₁.sub k₂.sub).any r₂.any fun s' k' => wpAny_truthy_bool (q s' ((k₁.trans k₂).trans k'))

/-- what a comparison of two data says -/
def Cmp (prog : Program) (w : World) (A : Around) (h : Heap) (op : CmpOp) (d₁ d₂ : D) (b : Bool) : Prop :=
  ∀ (s : Shared) (v₁ v₂ : Value) (Q E : Value → Shared → Prop), Sub h s.heap → Rel Any s.heap v₁ d₁ → Rel Any s.heap v₂ d₂ → (∀ s', Kp s s' → Q (.bool b) s') → wpAny (model prog w) A (compareOp op v₁ v₂) Q E s
theorem cmp_eq_int {a b : Int} : Cmp prog w A h .Eq (.int a) (.int b) (a == b) := fun s _ _ _ _ _ r₁ r₂ q => by cases r₁; cases r₂; exact PyProof.Rows.eq_int (q _ (.refl _))
theorem cmp_ne_int {a b : Int} : Cmp prog w A h .NotEq (.int a) (.int b) (a != b) := fun s _ _ _ _ _ r₁ r₂ q => by cases r₁; cases r₂; exact PyProof.Rows.ne_int (q _ (.refl _))
theorem cmp_lt_int {a b : Int} : Cmp prog w A h .Lt (.int a) (.int b) (decide (a < b)) := fun s _ _ _ _ _ r₁ r₂ q => by cases r₁; cases r₂; exact PyProof.Rows.lt_int (q _ (.refl _))
theorem cmp_le_int {a b : Int} : Cmp prog w A h .LtE (.int a) (.int b) (decide (a ≤ b)) := fun s _ _ _ _ _ r₁ r₂ q => by cases r₁; cases r₂; exact PyProof.Rows.le_int (q _ (.refl _))
theorem cmp_ge_int {a b : Int} : Cmp prog w A h .GtE (.int a) (.int b) (decide (b ≤ a)) := fun s _ _ _ _ _ r₁ r₂ q => by cases r₁; cases r₂; exact PyProof.Rows.ge_int (q _ (.refl _))
theorem cmp_eq_str {a b : Str} : Cmp prog w A h .Eq (.str a) (.str b) (a == b) := fun s _ _ _ _ _ r₁ r₂ q => by cases r₁; cases r₂; exact PyProof.Rows.eq_str (q _ (.refl _))
theorem cmp_ne_str {a b : Str} : Cmp prog w A h .NotEq (.str a) (.str b) (a != b) := fun s _ _ _ _ _ r₁ r₂ q => by cases r₁; cases r₂; exact PyProof.Rows.ne_str (q _ (.refl _))
theorem cmp_in_str {a b : Str} : Cmp prog w A h .In (.str a) (.str b) (Txt.contains b a) := fun s _ _ _ _ _ r₁ r₂ q => by cases r₁; cases r₂; exact PySem.SB.contains (q _ (.refl _))
end
end Mine
end

section
open PySem PySem.W PyProof.Rows
namespace Mine
section
variable {prog : Program} {w : World} {A : Around} {env : Env} {h h' : Heap} {P : Addr → Prop} {l r e : Expr} {pos : Pos}

theorem Ev.weak {ds : List D} (x : Ev prog w A env h P e (.plain ds)) : Ev prog w A env h P e (.list ds) := ⟨fun s Q E k q => x.run s Q E k fun v s' k' r => q v s' k' r.weak⟩

/-- truth of a value -/
def Truth (prog : Program) (w : World) (A : Around) (d : D) (b : Bool) : Prop :=
  ∀ (s : Shared) (v : Value) (Q : Bool → Shared → Prop) (E : Value → Shared → Prop), Rel Any s.heap v d → (∀ s', Kp s s' → Q b s') → wpAny (model prog w) A (truthy v) Q E s
theorem truth_bool {b : Bool} : Truth prog w A (.bool b) b := fun s v Q E r q => by cases r; exact wpAny_truthy_bool (q _ (.refl _))
theorem truth_none : Truth prog w A .none false := fun s v Q E r q => by cases r; exact fun _ _ _ => q _ (.refl _)
theorem truth_list {ds : List D} (hs : ds.length ≤ 1000) : Truth prog w A (.list ds) (!ds.isEmpty) := fun s v Q E r q => by
  cases r with
  | list _ p x =>
    refine wpAny_truthy_list p (by simp only [List.size_toArray, x.length]; omega) ?_
    have e : ∀ (vs : List Value) (ds : List D), vs.length = ds.length → (!vs.toArray.isEmpty) = !ds.isEmpty := by
      intro vs ds hl
      cases vs <;> cases ds <;> first | rfl | (simp at hl)
    rw [e _ _ x.length]
    exact q _ (.toks _)

theorem tr_plain {d : D} {b : Bool} (x : Ev prog w A env h P e d) (t : Truth prog w A d b)
    (he : isTrue e env (eval e env) = (do let v ← eval e env; standAt e.pos; holding [v] (truthy v)) := by rfl) : Tr prog w A env h e b := by
  refine ⟨fun s Q E k q => ?_⟩
  rw [he]
  exact wpAny_bind (x.run s _ _ k fun v s₁ k₁ r₁ => wpAny_bind (wpAny_standAt (wpAny_holding (t s₁ v _ _ r₁.any fun s' k' => q s' (k₁.trans k')))))
theorem tr_not {b : Bool} (x : Tr prog w A env h e b) : Tr prog w A env h (.UnaryOp .Not e pos) (!b) := by
  refine ⟨fun s Q E k q => ?_⟩
  exact wpAny_bind (x.run s _ _ k fun s' k' => wpAny_pure (q s' k'))
theorem tr_and {a b : Bool} (x : Tr prog w A env h l a) (y : a = true → Tr prog w A env h r b) : Tr prog w A env h (.BoolOp .And [l, r] pos) (a && b) := by
  refine ⟨fun s Q E k q => ?_⟩
  show wpAny _ _ (allTrue .And [l, r] env) _ _ _
  rw [arm_allTrue_cons]
  refine wpAny_bind (x.run s _ _ k fun s₁ k₁ => ?_)
  cases a with
  | false => exact wpAny_pure (q s₁ k₁)
  | true =>
    show wpAny _ _ (allTrue .And [r] env) _ _ _
    rw [arm_allTrue_cons]
    refine wpAny_bind ((y rfl).run s₁ _ _ (k.trans k₁.sub) fun s₂ k₂ => ?_)
    cases b with
    | false => exact wpAny_pure (q s₂ (k₁.trans k₂))
    | true => exact wpAny_pure (q s₂ (k₁.trans k₂))
theorem tr_or {a b : Bool} (x : Tr prog w A env h l a) (y : a = false → Tr prog w A env h r b) : Tr prog w A env h (.BoolOp .Or [l, r] pos) (a || b) := by
  refine ⟨fun s Q E k q => ?_⟩
  show wpAny _ _ (allTrue .Or [l, r] env) _ _ _
  rw [arm_allTrue_cons]
  refine wpAny_bind (x.run s _ _ k fun s₁ k₁ => ?_)
  cases a with
  | true => exact wpAny_pure (q s₁ k₁)
  | false =>
    show wpAny _ _ (allTrue .Or [r] env) _ _ _
    rw [arm_allTrue_cons]
    refine wpAny_bind ((y rfl).run s₁ _ _ (k.trans k₁.sub) fun s₂ k₂ => ?_)
    cases b with
    | false => exact wpAny_pure (q s₂ (k₁.trans k₂))
    | true => exact wpAny_pure (q s₂ (k₁.trans k₂))
theorem ev_and {a b : Bool} (x : Ev prog w A env h P l (.bool a)) (y : a = true → Ev prog w A env h P r (.bool b)) : Ev prog w A env h P (.BoolOp .And [l, r] pos) (.bool (a && b)) := by
  refine ⟨fun s Q E k q => ?_⟩
  show wpAny _ _ (do let v ← eval l env; standAt pos; let t ← holding [v] (truthy v); match BoolOp.And, t with | .And, false | .Or, true => pure v | _, _ => boolOp pos .And [eval r env]) _ _ _
  refine wpAny_bind (x.run s _ _ k fun v₁ s₁ k₁ r₁ => wpAny_bind (wpAny_standAt (wpAny_bind (wpAny_holding ?_))))
  cases r₁
  refine wpAny_truthy_bool ?_
  cases a with
  | false => exact wpAny_pure (q _ _ k₁ (.bool _))
  | true =>
    show wpAny _ _ (eval r env) _ _ _
    exact (y rfl).run s₁ _ _ (k.trans k₁.sub) fun v₂ s₂ k₂ r₂ => q v₂ s₂ (k₁.trans k₂) (by simpa using r₂.back k₁)

/-- a conditional expression -/
theorem ev_if {t : Expr} {b : Bool} {d : D} (x : Tr prog w A env h t b) (y : b = true → Ev prog w A env h P l d) (z : b = false → Ev prog w A env h P r d) : Ev prog w A env h P (.IfExp t l r pos) d := by
  refine ⟨fun s Q E k q => ?_⟩
  rw [arm_eval_IfExp]
  refine wpAny_bind (x.run s _ _ k fun s₁ k₁ => ?_)
  cases b with
  | true => exact (y rfl).run s₁ _ _ (k.trans k₁.sub) fun v s' k' r' => q v s' (k₁.trans k') (r'.back k₁)
  | false => exact (z rfl).run s₁ _ _ (k.trans k₁.sub) fun v s' k' r' => q v s' (k₁.trans k') (r'.back k₁)
theorem ev_if_str {t : Expr} {b : Bool} {x₁ x₂ : Str} (x : Tr prog w A env h t b) (y : b = true → Ev prog w A env h P l (.str x₁)) (z : b = false → Ev prog w A env h P r (.str x₂)) :
    Ev prog w A env h P (.IfExp t l r pos) (.str (if b then x₁ else x₂)) :=
  ev_if x (fun e => by subst e; exact y rfl) (fun e => by subst e; exact z rfl)

/-- arguments, items -/
def Evs (prog : Program) (w : World) (A : Around) (env : Env) (h : Heap) (P : Addr → Prop) (es : List Expr) (ds : List D) : Prop :=
  (∀ pos, (backTo pos (starEach es env)).any (·.1) = false ∧ (backTo pos (starEach es env) = [] → ds = [])) ∧
  ∀ (pos : Pos) (s : Shared) (Q : List Value → Shared → Prop) (E : Value → Shared → Prop), Sub h s.heap → (∀ vs s', Kp s s' → RelAll (Nw P s) s'.heap vs ds → Q vs s') → wpAny (model prog w) A (spliced (backTo pos (starEach es env))) Q E s
theorem evs_nil : Evs prog w A env h P [] [] := ⟨fun _ => ⟨rfl, fun _ => rfl⟩, fun pos s Q E k q => args_nil (q _ _ (.refl _) .nil)⟩
def notStar : Expr → Bool
  | .Starred .. => false
  | _ => true
theorem starEach_plain {e : Expr} {es : List Expr} {env : Env} (hn : notStar e = true) : starEach (e :: es) env = (false, eval e env) :: starEach es env := by
  cases e <;> first | rfl | cases hn
theorem call_name {x : Str} {p pos : Pos} {es : List Expr} {env : Env} : eval (.Call (.Name x p) es [] pos) env = (do callWith pos (← eval (.Name x p) env) [] (backTo pos (starEach es env)) (backToKw pos (keywordEach [] env))) := by rfl
theorem evs_cons {es : List Expr} {d : D} {ds : List D} (x : Ev prog w A env h P e d) (y : Evs prog w A env h P es ds)
    (he : notStar e = true := by rfl) : Evs prog w A env h P (e :: es) (d :: ds) :=
  ⟨fun pos => by
     rw [starEach_plain he]
     refine ⟨?_, fun h => nomatch h⟩
     show (false || (backTo pos (starEach es env)).any (·.1)) = false
     rw [(y.1 pos).1]; rfl,
   fun pos s Q E k q => args_cons (x.run s _ _ k fun v s₁ k₁ r₁ => y.2 pos s₁ _ _ (k.trans k₁.sub) fun vs s₂ k₂ r₂ => q _ _ (k₁.trans k₂) (.cons (r₁.sub k₂.sub) (r₂.back k₁))) (starEach_plain he)⟩
theorem ev_list {es : List Expr} {ds : List D} (x : Evs prog w A env h P es ds) (hs : ds.length ≤ 1000) : Ev prog w A env h P (.List es pos) (.plain ds) := by
  refine ⟨fun s Q E k q => ?_⟩
  refine List_ (x.2 pos s _ _ k fun vs s₁ k₁ r₁ => wpAny_newList (q _ _ (k₁.trans (.heap (sub_push _ _))) ?_) (by rw [r₁.length, sizeLine_eq]; omega))
  exact .plain (k₁.back (P := P) (.inr (get?_size _))) ⟨0, Heap.get?_push_size _ rfl⟩ (r₁.sub (sub_push _ _))
theorem ev_tuple {es : List Expr} {ds : List D} {n : Nat} (x : Evs prog w A env h P es ds) (hs : ds.length ≤ 1000) : Ev prog w A env h P (.Tuple es n pos) (.tup ds) := by
  refine ⟨fun s Q E k q => ?_⟩
  refine Tuple_ (x.2 pos s _ _ k fun vs s₁ k₁ r₁ => wpAny_newTuple (q _ _ (k₁.trans (.heap (sub_push _ _))) ?_) (by rw [r₁.length, sizeLine_eq]; omega))
  exact .tup (k₁.back (P := P) (.inr (get?_size _))) ⟨_, Heap.get?_push_size _ rfl, rfl, 0, rfl⟩ (r₁.sub (sub_push _ _))

/-- calls -/
theorem evalArgs_of {f : Value} {es : List Expr} {ds : List D} (x : Evs prog w A env h P es ds) {s : Shared} {Q : Args → Shared → Prop} {E : Value → Shared → Prop} (k : Sub h s.heap)
    (q : ∀ vs s', Kp s s' → RelAll (Nw P s) s'.heap vs ds → Q ⟨vs, []⟩ s') : wpAny (model prog w) A (evalArgs f true (backTo pos (starEach es env)) []) Q E s := by
  have hx := x.2 pos s (fun vs s' => Q ⟨vs, []⟩ s') E k q
  obtain ⟨ha, hn⟩ := x.1 pos
  generalize backTo pos (starEach es env) = ts at hx ha hn ⊢
  match ts, ha with
  | [], _ =>
    have hd := hn rfl
    subst hd
    exact evalArgs_nil3 (q [] s (.refl _) .nil)
  | (b, t) :: rest, ha =>
    have hb : b = false := by simpa using (Bool.or_eq_false_iff.mp ha).1
    subst hb
    exact PySem.Calls.evalArgs_plain hx
theorem ev_call {f : Expr} {fv : Value} {es : List Expr} {ds : List D} {d : D} (x : Ev prog w A env h P f (.raw fv)) (y : Evs prog w A env h P es ds) (c : Calls prog w A h fv ds d)
    (hf : (∃ id, fv = .builtin id) ∨ (∃ T, fv = .type T) ∨ ∃ a o fd, fv = .ref a ∧ h.get? a = some o ∧ o.data = .func fd)
    (he : eval (.Call f es [] pos) env = (do callWith pos (← eval f env) [] (backTo pos (starEach es env)) (backToKw pos (keywordEach [] env))) := by first | exact call_name | rfl) :
    Ev prog w A env h P (.Call f es [] pos) d := by
  refine ⟨fun s Q E k q => ?_⟩
  refine Call_ (x.run s _ _ k fun v s₁ k₁ r₁ => ?_) he
  cases r₁
  have k' := k.trans k₁.sub
  have step : wpAny (model prog w) A (evalArgs fv true (backTo pos (starEach es env)) []) (fun a s₂ => Sub h s₂.heap ∧ wpAny (model prog w) A (call fv a.pos a.kw) Q E s₂) E s₁ :=
    evalArgs_of y k' fun vs s₂ k₂ r₂ => ⟨k'.trans k₂.sub, c.run s₂ vs _ _ (k'.trans k₂.sub) r₂.any fun v s' k₃ r' => q v s' ((k₁.trans k₂).trans k₃) ((r'.new (P := P)).back (k₁.trans k₂))⟩
  rcases hf with ⟨id, rfl⟩ | ⟨T, rfl⟩ | ⟨a, o, fd, rfl, ho, hd⟩
  · exact PySem.Calls.callWith_builtin (y.1 pos).1 (wpAny_mono step (fun _ _ z => z.2) fun _ _ z => z)
  · exact PyProof.Rows.callWith_type (y.1 pos).1 (wpAny_mono step (fun _ _ z => z.2) fun _ _ z => z)
  · exact PySem.Calls.callWith_function (wpAny_mono step (fun _ _ z => ⟨⟨z.1 _ _ ho, hd⟩, z.2⟩) fun _ _ z => z)
/-- methods of built-in kinds -/
def Meth (prog : Program) (w : World) (A : Around) (name : Str) (d : D) (id : String) : Prop :=
  ∀ (s : Shared) (v : Value) (pl : Sem Bool) (Q : Value × List Value → Shared → Prop) (E : Value → Shared → Prop), Rel Any s.heap v d → Q (.builtin id, [v]) s → wpAny (model prog w) A (getMethod v name pl) Q E s
theorem ev_meth {o : Expr} {name : Str} {apos : Pos} {id : String} {es : List Expr} {d₀ d : D} {ds : List D} {pl : Sem Bool} (x : Ev prog w A env h P o d₀) (m : Meth prog w A name d₀ id) (y : Evs prog w A env h P es ds)
    (c : Calls prog w A h (.builtin id) (d₀ :: ds) d)
    (he : eval (.Call (.Attribute o name apos) es [] pos) env = (do
      let ov ← eval o env
      standAt apos.atName
      let (f, first) ← holding [ov] (getMethod ov name pl)
      callWith pos f first (backTo pos (starEach es env)) []) := by rfl) :
    Ev prog w A env h P (.Call (.Attribute o name apos) es [] pos) d := by
  refine ⟨fun s Q E k q => ?_⟩
  refine MethodCall_ (x.run s _ _ k fun v s₁ k₁ r₁ => ?_) he
  refine m s₁ v pl _ _ r₁.any ?_
  have k' := k.trans k₁.sub
  refine PySem.Calls.callWith_builtin (y.1 pos).1 (evalArgs_of y k' fun vs s₂ k₂ r₂ => ?_)
  exact c.run s₂ (v :: vs) _ _ (k'.trans k₂.sub) (.cons (r₁.sub k₂.sub).any r₂.any) fun v s' k₃ r' => q v s' ((k₁.trans k₂).trans k₃) ((r'.new (P := P)).back (k₁.trans k₂))

theorem meth_lower {x : Str} : Meth prog w A "lower" (.str x) "str.lower" := fun s v pl Q E r q => by cases r; exact PySem.GM.lower q
theorem meth_split {x : Str} : Meth prog w A "split" (.str x) "str.split" := fun s v pl Q E r q => by cases r; exact PySem.GM.split q
theorem meth_join {x : Str} : Meth prog w A "join" (.str x) "str.join" := fun s v pl Q E r q => by cases r; exact PySem.GM.join q
theorem meth_startswith {x : Str} : Meth prog w A "startswith" (.str x) "str.startswith" := fun s v pl Q E r q => by cases r; exact PySem.GM.startswith q
theorem meth_endswith {x : Str} : Meth prog w A "endswith" (.str x) "str.endswith" := fun s v pl Q E r q => by cases r; exact PySem.GM.endswith q
theorem meth_translate {x : Str} : Meth prog w A "translate" (.str x) "str.translate" := fun s v pl Q E r q => by
  cases r with
  | str x t => with_reducible exact PySem.GM.of (.str x t) (typeIs_str _ _ _) F.slot_str_translate F.type_str_translate PySem.GM.noRef q
theorem meth_index {ds : List D} : Meth prog w A "index" (.plain ds) "list.index" := fun s v pl Q E r q => by
  cases r with
  | plain _ p x =>
    obtain ⟨n, e⟩ := p
    exact getMethod_builtin (T := "list") ⟨_, e, rfl⟩ F.plainAttrs_list F.slot_list_index F.type_list_index (fun a h => by cases h; exact ⟨_, e, rfl⟩) q
end
end Mine
end

section
open PySem PySem.W PyProof.Rows PySem.SeqAt
namespace Mine

/-- data of one kind whose == is equality -/
structure Emb {α : Type} [DecidableEq α] (k : Nat) (f : α → D) : Prop where
  eq : ∀ (A : Around) (s : Shared) (v₁ v₂ : Value) (a b : α), A.units + k < cLine → Rel Any s.heap v₁ (f a) → Rel Any s.heap v₂ (f b) → EqAt A s v₁ v₂ (decide (a = b))
  det : ∀ (h : Heap) (v : Value) (a b : α), Rel Any h v (f a) → Rel Any h v (f b) → a = b
theorem emb_str : Emb 0 D.str where
  eq := fun A s v₁ v₂ a b _ r₁ r₂ => by
    cases r₁ with
    | str a t => cases r₂ with | str b u => exact EqAt.str_str a t b u
  det := fun h v a b r₁ r₂ => by cases r₁; cases r₂; rfl
theorem emb_bool : Emb 0 D.bool where
  eq := fun A s v₁ v₂ a b _ r₁ r₂ => by
    cases r₁; cases r₂
    have e : decide (a = b) = (a == b) := by cases a <;> cases b <;> rfl
    rw [e]
    exact EqAt.bool_bool a b
  det := fun h v a b r₁ r₂ => by cases r₁; cases r₂; rfl
theorem emb_int : Emb 0 D.int where
  eq := fun A s v₁ v₂ a b _ r₁ r₂ => by
    cases r₁ with
    | int a t => cases r₂ with | int b u => exact EqAt.int_int a t b u
  det := fun h v a b r₁ r₂ => by cases r₁; cases r₂; rfl

section
variable {α : Type} [DecidableEq α] {f : α → D} {k : Nat} {h : Heap}
theorem RelAll.det (m : Emb k f) : ∀ {vs : List Value} {as bs : List α}, RelAll Any h vs (as.map f) → RelAll Any h vs (bs.map f) → as = bs
  | _, [], [], _, _ => rfl
  | _, [], b :: bs, x, y => by cases x; cases y
  | _, a :: as, [], x, y => by cases y; cases x
  | _, a :: as, b :: bs, x, y => by
    cases x with
    | cons p q => cases y with | cons p' q' => rw [m.det _ _ _ _ p p', RelAll.det m q q']
theorem all_eq : ∀ (as bs : List α), as.length = bs.length → ((List.range as.length).all fun i => decide (as[i]? = bs[i]?)) = decide (as = bs) := by
  intro as bs hl
  rw [Bool.eq_iff_iff]
  simp only [List.all_eq_true, List.mem_range, decide_eq_true_eq]
  constructor
  · intro q
    refine List.ext_getElem? fun i => ?_
    by_cases hi : i < as.length
    · exact q i hi
    · rw [List.getElem?_eq_none (by omega), List.getElem?_eq_none (by omega)]
  · rintro rfl i _; rfl
theorem items_eq (m : Emb k f) {A : Around} {s : Shared} (hu : A.units + k < cLine) {vs ws : List Value} {as bs : List α} (x : RelAll Any s.heap vs (as.map f)) (y : RelAll Any s.heap ws (bs.map f)) :
    ∀ j (h1 : j < vs.toArray.size) (h2 : j < ws.toArray.size), EqAt A s vs.toArray[j] ws.toArray[j] (decide (as[j]? = bs[j]?)) := by
  intro j h1 h2
  have g1 : vs[j]? = some vs.toArray[j] := by simp at h1 ⊢
  have g2 : ws[j]? = some ws.toArray[j] := by simp at h2 ⊢
  obtain ⟨d, e, r⟩ := x.getV g1
  obtain ⟨d', e', r'⟩ := y.getV g2
  rw [List.getElem?_map] at e e'
  cases ha : as[j]? with
  | none => rw [ha] at e; cases e
  | some a =>
    cases hb : bs[j]? with
    | none => rw [hb] at e'; cases e'
    | some b =>
      rw [ha] at e; rw [hb] at e'
      cases e; cases e'
      have : decide (some a = some b) = decide (a = b) := by simp
      rw [this]
      exact m.eq A s _ _ a b hu r r'
theorem emb_list (m : Emb k f) : Emb (k + 1) (fun l : List α => D.list (l.map f)) where
  eq := fun A s v₁ v₂ as bs hu r₁ r₂ => by
    cases r₁ with
    | @list a vs _ _ p x =>
      cases r₂ with
      | @list b ws _ _ p' y =>
        by_cases hab : a = b
        · subst hab
          have e : vs = ws := by
            obtain ⟨o, ho, _, n, hd⟩ := p
            obtain ⟨o', ho', _, n', hd'⟩ := p'
            rw [ho] at ho'; cases ho'
            rw [hd] at hd'
            have := (Data.seq.inj hd').1
            simpa using this
          subst e
          rw [decide_eq_true (RelAll.det m x y)]
          exact EqAt.same _
        · refine EqAt.of_refs hab ?_
          have l1 := x.length
          have l2 := y.length
          simp only [List.length_map] at l1 l2
          by_cases hl : as.length = bs.length
          · have := RcAt.lists (A := A) p p' (e := fun i => decide (as[i]? = bs[i]?)) (by simp [l1, l2, hl]) (by omega) (items_eq m (by show A.units + 1 + k < _; omega) x y)
            rw [List.size_toArray, l1, all_eq as bs hl] at this
            exact this
          · have hne : as ≠ bs := fun e => hl (by rw [e])
            rw [decide_eq_false hne]
            exact RcAt.lists_lengths p p' (by simp [l1, l2]; exact hl) (by omega)
  det := fun h v as bs r₁ r₂ => by
    cases r₁ with
    | @list a vs _ _ p x =>
      cases r₂ with
      | @list b ws _ _ p' y =>
        obtain ⟨o, ho, _, n, hd⟩ := p
        obtain ⟨o', ho', _, n', hd'⟩ := p'
        rw [ho] at ho'; cases ho'
        rw [hd] at hd'
        have e := (Data.seq.inj hd').1
        have e : vs = ws := by simpa using e
        subst e
        exact RelAll.det m x y
variable {prog : Program} {w : World} {A : Around} {as bs : List α}
theorem cmp_eq_list (m : Emb k f) (hu : A.units + k + 1 < cLine) : Cmp prog w A h .Eq (.list (as.map f)) (.list (bs.map f)) (decide (as = bs)) := fun s v₁ v₂ Q E _ r₁ r₂ q => by
  cases r₁ with
  | list _ p x =>
    cases r₂ with
    | list _ p' y =>
      have l1 := x.length
      have l2 := y.length
      simp only [List.length_map] at l1 l2
      by_cases hl : as.length = bs.length
      · refine eq_listAt p p' (e := fun i => decide (as[i]? = bs[i]?)) (by simp [l1, l2, hl]) (by omega) (items_eq m (by show A.units + 1 + k < _; omega) x y) ?_
        rw [List.size_toArray, l1, all_eq as bs hl]
        exact q _ (.refl _)
      · have hne : as ≠ bs := fun e => hl (by rw [e])
        refine eq_list_lengthsAt p p' (by simp [l1, l2]; exact hl) (by omega) ?_
        have := q s (.refl _)
        rwa [decide_eq_false hne] at this
theorem cmp_ne_list (m : Emb k f) (hu : A.units + k + 1 < cLine) : Cmp prog w A h .NotEq (.list (as.map f)) (.list (bs.map f)) (!decide (as = bs)) := fun s v₁ v₂ Q E _ r₁ r₂ q => by
  cases r₁ with
  | list _ p x =>
    cases r₂ with
    | list _ p' y =>
      have l1 := x.length
      have l2 := y.length
      simp only [List.length_map] at l1 l2
      by_cases hl : as.length = bs.length
      · have := RcNeAt.lists (A := A) p p' (e := fun i => decide (as[i]? = bs[i]?)) (by simp [l1, l2, hl]) (by omega) (items_eq m (by show A.units + 1 + k < _; omega) x y)
        rw [List.size_toArray, l1, all_eq as bs hl] at this
        exact this prog w E Q (q _ (.refl _))
      · have hne : as ≠ bs := fun e => hl (by rw [e])
        have := RcNeAt.lists_lengths (A := A) p p' (by simp [l1, l2]; exact hl) (by omega)
        have z := q s (.refl _)
        rw [decide_eq_false hne] at z
        exact this prog w E Q z
end
end Mine
end

section
open PySem PySem.W PyProof.Rows
namespace Mine

/-- a cell of env that bears d -/
def Cl (env : Env) (h : Heap) (P : Addr → Prop) (x : Str) (d : D) : Prop :=
  ∃ c v, env.cells.lookup x = some c ∧ h.IsCell c (some v) ∧ Rel P h v d
theorem Cl.mono {env : Env} {h h' : Heap} {P : Addr → Prop} {x : Str} {d : D} (c : Cl env h P x d) (hs : Sub h h') : Cl env h' P x d := by
  obtain ⟨c, v, a, b, r⟩ := c
  exact ⟨c, v, a, b.keeps hs, r.sub hs⟩
theorem Cl.imp {env : Env} {h : Heap} {P P' : Addr → Prop} {x : Str} {d : D} (c : Cl env h P x d) (hp : ∀ a, P a → P' a) : Cl env h P' x d := by
  obtain ⟨c, v, a, b, r⟩ := c
  exact ⟨c, v, a, b, r.imp hp⟩

/-- the names' kinds of an environment of the module's -/
structure Sc (env : Env) (names : List (Str × NameKind)) : Prop where
  kind : env.scope.kind = .function
  look : ∀ x k, k ≠ .free → names.lookup x = some k → env.kindOf x = some k
  glob : env.globals = mainGlobals
  blt : env.builtins = builtinsNs

/-- the frame's memory: its names m, its own cells cm; h₀ is kept -/
structure Fm (h₀ : Heap) (env : Env) (own : List (Str × Addr)) (m cm : Str → Option Value) (h : Heap) : Prop where
  ns : h.Ns env.locals m
  keep : Sub h₀ h
  fresh : h₀.get? env.locals = none
  cell : ∀ n c, own.lookup n = some c → h.IsCell c (cm n)
  look : ∀ n c, own.lookup n = some c → env.cells.lookup n = some c
  apart : own.Pairwise fun x y => x.2 ≠ y.2
  above : ∀ n c, own.lookup n = some c → c ≠ env.locals ∧ h₀.get? c = none

inductive Held (env : Env) (own : List (Str × Addr)) (m cm : Str → Option Value) (n : Str) (v : Value) : Prop
  | loc : env.kindOf n = some .local → m n = some v → Held env own m cm n v
  | cel (c : Addr) : env.kindOf n = some .cell → own.lookup n = some c → cm n = some v → Held env own m cm n v

/-- the frame: its names bear σ -/
structure Fr (h₀ : Heap) (env : Env) (own : List (Str × Addr)) (P : Addr → Prop) (σ : List (Str × D)) (h : Heap) : Prop where
  kind : env.scope.kind = .function
  ex : ∃ m cm, Fm h₀ env own m cm h ∧ ∀ n d, σ.lookup n = some d → ∃ v, Rel P h v d ∧ Held env own m cm n v

def Stores (env : Env) (own : List (Str × Addr)) (n : Str) : Prop := env.kindOf n = some .local ∨ (env.kindOf n = some .cell ∧ ∃ c, own.lookup n = some c)
/-- all but the frame's own objects is as it was -/
def Touch (env : Env) (own : List (Str × Addr)) (h h' : Heap) : Prop := ∀ b o, b ≠ env.locals → (∀ n, own.lookup n ≠ some b) → h.get? b = some o → h'.get? b = some o
theorem Touch.refl (env : Env) (own : List (Str × Addr)) (h : Heap) : Touch env own h h := fun _ _ _ _ e => e
theorem Touch.trans {env : Env} {own : List (Str × Addr)} {h h' h'' : Heap} (x : Touch env own h h') (y : Touch env own h' h'') : Touch env own h h'' := fun b o p q e => y b o p q (x b o p q e)

section
variable {h₀ h h' : Heap} {env : Env} {own : List (Str × Addr)} {P P' : Addr → Prop} {σ : List (Str × D)} {m cm : Str → Option Value}
theorem Fm.sub (F : Fm h₀ env own m cm h) (hs : Sub h h') : Fm h₀ env own m cm h' :=
  ⟨F.ns.keeps hs, F.keep.trans hs, F.fresh, fun n c e => (F.cell n c e).keeps hs, F.look, F.apart, F.above⟩
theorem Fr.sub (F : Fr h₀ env own P σ h) (hs : Sub h h') : Fr h₀ env own P σ h' := by
  obtain ⟨k, m, cm, M, q⟩ := F
  exact ⟨k, m, cm, M.sub hs, fun n d e => let ⟨v, r, H⟩ := q n d e; ⟨v, r.sub hs, H⟩⟩
theorem Fr.keep (F : Fr h₀ env own P σ h) : Sub h₀ h := let ⟨_, _, M, _⟩ := F.ex; M.keep
theorem Fr.imp (F : Fr h₀ env own P σ h) (hp : ∀ a, P a → P' a) : Fr h₀ env own P' σ h := by
  obtain ⟨k, m, cm, M, q⟩ := F
  exact ⟨k, m, cm, M, fun n d e => let ⟨v, r, H⟩ := q n d e; ⟨v, r.imp hp, H⟩⟩
theorem Ns.not_seq {h : Heap} {a : Addr} {m : Str → Option Value} (x : h.Ns a m) {o : Obj} (e : h.get? a = some o) : ¬ ∃ vs n, o.data = .seq vs n := by
  obtain ⟨o', es, ep, e', hd, _⟩ := x
  rw [e] at e'; cases e'
  rintro ⟨vs, n, q⟩
  rw [hd] at q; cases q
theorem IsCell.not_seq {h : Heap} {a : Addr} {v : Option Value} (x : h.IsCell a v) {o : Obj} (e : h.get? a = some o) : ¬ ∃ vs n, o.data = .seq vs n := by
  obtain ⟨o', e', hd⟩ := x
  rw [e] at e'; cases e'
  rintro ⟨vs, n, q⟩
  rw [hd] at q; cases q
end

section
variable {M : Model} {A : Around} {E : Value → Shared → Prop} {s : Shared} {h₀ : Heap} {env : Env} {own : List (Str × Addr)} {P : Addr → Prop} {σ : List (Str × D)} {m cm : Str → Option Value}
theorem Fm.stL (F : Fm h₀ env own m cm s.heap) (hk : env.scope.kind = .function) {n : Str} {v : Value} {Q : Unit → Shared → Prop} (hl : env.kindOf n = some .local)
    (q : ∀ h' tk, Fm h₀ env own (fun y => if y = n then some v else m y) cm h' → Heap.SameBut env.locals s.heap h' → Q () { s with heap := h', toks := tk }) : wpAny M A (storeName env n v) Q E s := by
  refine wpAny_storeName_local hl F.ns (fun h' hn' hs' => q h' _ ⟨hn', fun b o e => ?_, F.fresh, fun k c hc => ?_, F.look, F.apart, F.above⟩ hs') (by rw [hk]; rfl)
  · exact hs'.extBut b o (fun e' => by rw [e', F.fresh] at e; cases e) (F.keep b o e)
  · exact (F.cell k c hc).sameBut hs' (F.above k c hc).1
theorem Fm.stC (F : Fm h₀ env own m cm s.heap) (hk : env.scope.kind = .function) {n : Str} {c : Addr} {v : Value} {Q : Unit → Shared → Prop} (hl : env.kindOf n = some .cell) (hc : own.lookup n = some c)
    (q : ∀ h', Fm h₀ env own m (fun y => if y = n then some v else cm y) h' → Heap.SameBut c s.heap h' → Q () { s with heap := h' }) : wpAny M A (storeName env n v) Q E s := by
  have hm := mem_of_lookup hc
  refine wpAny_storeName_cell hk hl (F.look n c hc) (F.cell n c hc) fun h' hc' hs' => q h' ⟨F.ns.sameBut hs' (F.above n c hc).1.symm, fun b o e => ?_, F.fresh, fun k c' hk' => ?_, F.look, F.apart, F.above⟩ hs'
  · exact hs'.extBut b o (fun e' => by rw [e', (F.above n c hc).2] at e; cases e) (F.keep b o e)
  · by_cases hkn : k = n
    · subst hkn
      rw [hc] at hk'; cases hk'
      simpa using hc'
    · rw [if_neg hkn]
      exact (F.cell k c' hk').sameBut hs' fun e => hkn (name_of_addr F.apart (mem_of_lookup hk') (e ▸ hm))

theorem Fr.store (F : Fr h₀ env own P σ s.heap) {n : Str} {v : Value} {d : D} {Q : Unit → Shared → Prop} (st : Stores env own n) (r : Rel P s.heap v d)
    (q : ∀ h' tk, Fr h₀ env own P ((n, d) :: σ) h' → Touch env own s.heap h' → SubSeq s.heap h' → Q () { s with heap := h', toks := tk }) : wpAny M A (storeName env n v) Q E s := by
  obtain ⟨hk, m, cm, G, hq⟩ := F
  have up : ∀ (h' : Heap) (m' cm' : Str → Option Value), SubSeq s.heap h' → Fm h₀ env own m' cm' h' → (∀ k, k ≠ n → m' k = m k) → (∀ k, k ≠ n → cm' k = cm k) → Held env own m' cm' n v → Fr h₀ env own P ((n, d) :: σ) h' := by
    intro h' m' cm' hs G' e1 e2 H
    refine ⟨hk, m', cm', G', fun k d' e => ?_⟩
    rw [List.lookup_cons] at e
    cases hkn : k == n with
    | true =>
      rw [hkn] at e; cases e
      have := beq_iff_eq.mp hkn; subst this
      exact ⟨v, r.seq hs, H⟩
    | false =>
      rw [hkn] at e
      have hne : k ≠ n := fun e' => by subst e'; simp at hkn
      obtain ⟨v', r', H'⟩ := hq k d' e
      refine ⟨v', r'.seq hs, ?_⟩
      cases H' with
      | loc a b => exact .loc a ((e1 k hne).trans b)
      | cel c a b b' => exact .cel c a b ((e2 k hne).trans b')
  rcases st with hl | ⟨hl, c, hc⟩
  · refine G.stL hk hl fun h' tk G' hs => ?_
    have hss : SubSeq s.heap h' := fun b o e hs' => hs.extBut b o (by rintro rfl; exact Ns.not_seq G.ns e hs') e
    exact q h' tk (up h' _ cm hss G' (fun k hne => if_neg hne) (fun _ _ => rfl) (.loc hl (if_pos rfl))) (fun b o hb _ e => hs.extBut b o hb e) hss
  · refine G.stC hk hl hc fun h' G' hs => ?_
    have hss : SubSeq s.heap h' := fun b o e hs' => hs.extBut b o (by rintro rfl; exact IsCell.not_seq (G.cell n b hc) e hs') e
    exact q h' s.toks (up h' m _ hss G' (fun _ _ => rfl) (fun k hne => if_neg hne) (.cel c hl hc (if_pos rfl))) (fun b o _ hb e => hs.extBut b o (by rintro rfl; exact hb n hc) e) hss
end

section
variable {prog : Program} {w : World} {h₀ h : Heap} {env : Env} {own : List (Str × Addr)} {P : Addr → Prop} {σ : List (Str × D)}
theorem Fr.nm (F : Fr h₀ env own P σ h) {n : Str} {d : D} (e : σ.lookup n = some d) (hd : (n == ("__debug__" : Str)) = false) : Nm prog w env h P n d := by
  obtain ⟨hk, m, cm, G, hq⟩ := F
  obtain ⟨v, r, H⟩ := hq n d e
  refine ⟨v, r, fun A pos s Q E k q => wpAny_Name ?_ hd⟩
  cases H with
  | loc hl hv => exact wpAny_loadName_local hk hl (G.ns.keeps k) hv q
  | cel c hl hc hv => exact wpAny_loadName_cell hk hl (G.look n c hc) (hv ▸ (G.cell n c hc).keeps k) q
theorem Fr.cl (F : Fr h₀ env own P σ h) {n : Str} {d : D} (e : σ.lookup n = some d) (hl : env.kindOf n = some .cell) : Cl env h P n d := by
  obtain ⟨hk, m, cm, G, hq⟩ := F
  obtain ⟨v, r, H⟩ := hq n d e
  cases H with
  | loc hl' hv => rw [hl] at hl'; cases hl'
  | cel c _ hc hv => exact ⟨c, v, G.look n c hc, hv ▸ G.cell n c hc, r⟩
end

/-- a state of the frame, in a call that began at s -/
structure At (s : Shared) (env : Env) (own : List (Str × Addr)) (P : Addr → Prop) (σ : List (Str × D)) (s₁ : Shared) : Prop where
  fr : Fr s.heap env own P σ s₁.heap
  same : ∃ h tk, s₁ = { s with heap := h, toks := tk }
section
variable {s s₁ s₂ : Shared} {env : Env} {own : List (Str × Addr)} {P : Addr → Prop} {σ : List (Str × D)}
theorem At.kp (F : At s env own P σ s₁) : Kp s s₁ := by
  obtain ⟨h, tk, e⟩ := F.same
  exact ⟨h, tk, e, fun b o q => by have := F.fr.keep b o q; rw [e] at this; exact this⟩
theorem At.on (F : At s env own P σ s₁) (k : Kp s₁ s₂) : At s env own P σ s₂ := by
  obtain ⟨h, tk, e⟩ := F.same
  refine ⟨F.fr.sub k.sub, ?_⟩
  obtain ⟨h', tk', e', _⟩ := k
  subst e
  exact ⟨h', tk', e'⟩
end

/-- data without objects -/
inductive Flat : D → Prop
  | none : Flat .none
  | bool (b : Bool) : Flat (.bool b)
  | int (i : Int) : Flat (.int i)
  | str (x : Str) : Flat (.str x)
  | raw (v : Value) : Flat (.raw v)
theorem Rel.flat {P P' : Addr → Prop} {h h' : Heap} {v : Value} {d : D} (r : Rel P h v d) (f : Flat d) : Rel P' h' v d := by
  cases f <;> cases r <;> constructor

/-- what a call's body ends in -/
def Rets (s : Shared) (d : D) (f : Flow) (s' : Shared) : Prop := ∃ v, f = .ret v ∧ Kp s s' ∧ Rel (Nw None' s) s'.heap v d
structure Run (prog : Program) (w : World) (A : Around) (env : Env) (ss : List Stmt) (s : Shared) (Q : Flow → Shared → Prop) : Prop where
  run : ∀ E, wpAny (model prog w) A (execs ss env) Q E s
/-- new objects lie in P -/
def Shut (s : Shared) (P : Addr → Prop) : Prop := ∀ a, s.heap.get? a = none → P a
theorem shut_any (s : Shared) : Shut s Any := fun _ _ => trivial

section
variable {prog : Program} {w : World} {A : Around} {s s₁ : Shared} {env : Env} {own : List (Str × Addr)} {P : Addr → Prop} {σ : List (Str × D)} {e : Expr} {d : D} {Q : Flow → Shared → Prop} {rest body orelse : List Stmt} {pos pos' : Pos}
theorem Nw.shut {a : Addr} (hc : Shut s₁ P) (n : Nw P s₁ a) : P a := by
  rcases n with p | n
  · exact p
  · exact hc a n
theorem run_ret (F : At s env own P σ s₁) (x : Ev prog w A env s₁.heap P e d) (hp : Flat d ∨ ∀ a, P a → s.heap.get? a = none) : Run prog w A env (.Return (some e) pos :: rest) s₁ (Rets s d) := by
  refine ⟨fun E => ?_⟩
  refine wpAny_execs_cons (wpAny_Return_some (x.run s₁ _ _ (.refl _) fun v s' k r => ?_))
  refine ⟨v, rfl, F.kp.trans k, ?_⟩
  rcases hp with f | hp
  · exact r.flat f
  · exact r.imp fun a n => .inr (by
      rcases n with p | n
      · exact hp a p
      · have := F.kp.back (P := None') (.inr n); exact this.elim (fun f => f.elim) id)
theorem run_assign (F : At s env own P σ s₁) {n : Str} (x : Ev prog w A env s₁.heap P e d) (hp : Flat d ∨ Shut s₁ P) (st : Stores env own n)
    (sw : swapsWith e (some (.Name n pos')) pos.line env = pure false)
    (next : ∀ s₂, At s env own P ((n, d) :: σ) s₂ → Run prog w A env rest s₂ Q) : Run prog w A env (.Assign [.Name n pos'] e pos :: rest) s₁ Q := by
  refine ⟨fun E => ?_⟩
  refine wpAny_execs_cons (wpAny_Assign_Name (x.run s₁ _ _ (.refl _) fun v s₂ k r => ?_) sw)
  have F₂ := F.on k
  have r' : Rel P s₂.heap v d := by
    rcases hp with f | hp
    · exact r.flat f
    · exact r.imp fun a n => n.shut hp
  refine F₂.fr.store st r' fun h' tk F' _ _ => ?_
  exact (next _ ⟨F', let ⟨h, tk', e⟩ := F₂.same; ⟨h', tk, by rw [e]⟩⟩).run E
theorem run_if (F : At s env own P σ s₁) {b : Bool} (x : Tr prog w A env s₁.heap e b)
    (y : b = true → ∀ s₂, At s env own P σ s₂ → Run prog w A env body s₂ fun f s' => match f with | .next => Run prog w A env rest s' Q | f => Q f s')
    (z : b = false → ∀ s₂, At s env own P σ s₂ → Run prog w A env orelse s₂ fun f s' => match f with | .next => Run prog w A env rest s' Q | f => Q f s') :
    Run prog w A env (.If e body orelse pos :: rest) s₁ Q := by
  refine ⟨fun E => ?_⟩
  refine wpAny_execs_cons (wpAny_If (x.run s₁ _ _ (.refl _) fun s₂ k => ?_))
  have F₂ := F.on k
  cases b with
  | true =>
    rw [if_pos rfl]
    exact wpAny_mono ((y rfl s₂ F₂).run E) (fun f s' q => by cases f <;> first | exact q.run E | exact q) fun _ _ z => z
  | false =>
    rw [if_neg (by simp)]
    exact wpAny_mono ((z rfl s₂ F₂).run E) (fun f s' q => by cases f <;> first | exact q.run E | exact q) fun _ _ z => z
theorem run_nil {s₁ : Shared} (q : Q .next s₁) : Run prog w A env [] s₁ Q := ⟨fun E => wpAny_execs_nil q⟩
end
end Mine
end

section
open PySem PySem.W PyProof.Rows
namespace Mine

/-- what every text of the program can lean on -/
structure Gl (w : World) (h : Heap) : Prop where
  ns : ∃ mg, h.Ns mainGlobals mg
  lim : h.NoLimit
theorem Gl.sub {w : World} {h h' : Heap} (g : Gl w h) (hs : Sub h h') : Gl w h' := ⟨let ⟨mg, q⟩ := g.ns; ⟨mg, q.keeps hs⟩, g.lim.keeps hs⟩

/-- a def of the module's -/
structure Fn (h : Heap) (f : Addr) (params : Arguments) (body : List Stmt) (scope : Scope) : Prop where
  lim : h.NoLimit
  ex : ∃ o name pm code doc, h.get? f = some o ∧ o.data = .func (Calls.docDef name params body scope pm code doc) ∧ h.CodeRec code name
theorem Fn.sub {h h' : Heap} {f : Addr} {params : Arguments} {body : List Stmt} {scope : Scope} (x : Fn h f params body scope) (hs : Sub h h') : Fn h' f params body scope :=
  ⟨x.lim.keeps hs, let ⟨o, n, pm, c, d, a, b, e⟩ := x.ex; ⟨o, n, pm, c, d, hs _ _ a, b, e.keeps hs⟩⟩

theorem bindL_out {k : Str → Option NameKind} : ∀ (bs : List (Str × Value)) (m : Str → Option Value) (n : Str), bs.lookup n = none → bindL k bs m n = m n
  | [], m, n, _ => rfl
  | (x, v) :: r, m, n, h => by
    rw [List.lookup_cons] at h
    cases hb : n == x with
    | true => rw [hb] at h; cases h
    | false =>
      rw [hb] at h
      rw [bindL, bindL_out r _ n h]
      split
      · have : n ≠ x := fun e => by subst e; simp at hb
        exact if_neg this
      · rfl
theorem bindC_out {k : Str → Option NameKind} : ∀ (bs : List (Str × Value)) (m : Str → Option Value) (n : Str), bs.lookup n = none → bindC k bs m n = m n
  | [], m, n, _ => rfl
  | (x, v) :: r, m, n, h => by
    rw [List.lookup_cons] at h
    cases hb : n == x with
    | true => rw [hb] at h; cases h
    | false =>
      rw [hb] at h
      rw [bindC, bindC_out r _ n h]
      split
      · rfl
      · have : n ≠ x := fun e => by subst e; simp at hb
        exact if_neg this
theorem bindL_at {k : Str → Option NameKind} : ∀ (bs : List (Str × Value)) (m : Str → Option Value) (n : Str) (v : Value), bs.lookup n = some v → (bs.map (·.1)).Nodup → k n = some .local → bindL k bs m n = some v
  | (x, u) :: r, m, n, v, h, hd, hk => by
    rw [List.lookup_cons] at h
    rw [List.map_cons, List.nodup_cons] at hd
    cases hb : n == x with
    | true =>
      rw [hb] at h; cases h
      have := beq_iff_eq.mp hb; subst this
      rw [bindL, if_pos hk, bindL_out r _ n ?_]
      · exact if_pos rfl
      · cases hl : r.lookup n with
        | none => rfl
        | some c => exact absurd (List.mem_map_of_mem (f := (·.1)) (mem_of_lookup hl)) hd.1
    | false =>
      rw [hb] at h
      rw [bindL]
      exact bindL_at r _ n v h hd.2 hk
theorem bindC_at {k : Str → Option NameKind} : ∀ (bs : List (Str × Value)) (m : Str → Option Value) (n : Str) (v : Value), bs.lookup n = some v → (bs.map (·.1)).Nodup → k n = some .cell → bindC k bs m n = some v
  | (x, u) :: r, m, n, v, h, hd, hk => by
    rw [List.lookup_cons] at h
    rw [List.map_cons, List.nodup_cons] at hd
    cases hb : n == x with
    | true =>
      rw [hb] at h; cases h
      have := beq_iff_eq.mp hb; subst this
      rw [bindC, if_neg (by rw [hk]; decide), bindC_out r _ n ?_]
      · exact if_pos rfl
      · cases hl : r.lookup n with
        | none => rfl
        | some c => exact absurd (List.mem_map_of_mem (f := (·.1)) (mem_of_lookup hl)) hd.1
    | false =>
      rw [hb] at h
      rw [bindC]
      exact bindC_at r _ n v h hd.2 hk

/-- which names are a scope's own cells -/
theorem cells_app : ∀ (names : List (Str × NameKind)) (n : Nat) (acc : List (Str × Addr)), cellsFrom n names acc = cellsFrom n names [] ++ acc
  | [], n, acc => rfl
  | (x, k) :: r, n, acc => by
    unfold cellsFrom
    split
    · rw [cells_app r (n + 1) ((x, n) :: acc), cells_app r (n + 1) [(x, n)], List.append_assoc]; rfl
    · exact cells_app r n acc
theorem cells_mem : ∀ (names : List (Str × NameKind)) (n : Nat) (x : Str) (c : Addr), (x, c) ∈ cellsFrom n names [] → (x, NameKind.cell) ∈ names
  | [], n, x, c, h => by cases h
  | (y, k) :: r, n, x, c, h => by
    unfold cellsFrom at h
    split at h
    · rename_i hk
      rw [cells_app] at h
      rcases List.mem_append.mp h with h | h
      · exact List.mem_cons_of_mem _ (cells_mem r _ x c h)
      · have e : (x, c) = (y, n) := by simpa using h
        cases e
        rw [show NameKind.cell = k from (beq_iff_eq.mp hk).symm]
        exact List.mem_cons_self
    · exact List.mem_cons_of_mem _ (cells_mem r _ x c h)
theorem cells_look : ∀ (names : List (Str × NameKind)) (n : Nat) (x : Str), (x, NameKind.cell) ∈ names → ∃ c, (cellsFrom n names []).lookup x = some c
  | [], n, x, h => by cases h
  | (y, k) :: r, n, x, h => by
    unfold cellsFrom
    split
    · rename_i hk
      rw [cells_app]
      rcases List.mem_cons.mp h with e | h
      · cases e
        cases hl : (cellsFrom (n + 1) r []).lookup y with
        | some c => exact ⟨c, by rw [List.lookup_append, hl]; rfl⟩
        | none => exact ⟨n, by rw [List.lookup_append, hl]; simp [List.lookup_cons]⟩
      · obtain ⟨c, hc⟩ := cells_look r (n + 1) x h
        exact ⟨c, by rw [List.lookup_append, hc]; rfl⟩
    · rename_i hk
      rcases List.mem_cons.mp h with e | h
      · cases e; exact absurd rfl hk
      · exact cells_look r n x h

section
variable {prog : Program} {w : World} {A : Around} {h : Heap} {f : Addr} {params : Arguments} {body : List Stmt} {scope : Scope}

/-- a call of a def: its body is run in a new frame -/
theorem calls_fn (G : Fn h f params body scope) {k : Nat} (ok : Okay A (k + 1)) {args : List D} {d : D} (names : List Str)
    (hbind : ∀ name pm code doc (vs : List Value), vs.length = args.length → bindArgs (Calls.docDef name params body scope pm code doc) ⟨vs, []⟩ = pure (names.zip vs))
    (hlen : names.length = args.length) (hnd : names.Nodup)
    (hkind : ∀ n ∈ names, scope.names.lookup n = some .local ∨ scope.names.lookup n = some .cell)
    (hsc : scope.kind = .function ∧ scope.isCoroutine = false ∧ scope.isGenerator = false)
    (P : Shared → Addr → Prop) (hP : ∀ s, Sub h s.heap → (∀ d ∈ args, Flat d) ∨ ∀ a, In s.heap a → P s a)
    (run : ∀ (s : Shared) (env : Env) (s₁ : Shared) (own : List (Str × Addr)), Sub h s.heap → Sc env scope.names → env.scope = scope → (∀ n, scope.names.lookup n = some .local ∨ scope.names.lookup n = some .cell → Stores env own n) →
      At s env own (P s) (names.zip args) s₁ → Okay (A.deeper env) k → Run prog w (A.deeper env) env body s₁ (Rets s d)) :
    Calls prog w A h (.ref f) args d := by
  refine ⟨fun s vs Q E hs hr q => ?_⟩
  obtain ⟨o, name, pm, code, doc, ho, hd, hc⟩ := (G.sub hs).ex
  have hl : vs.length = args.length := hr.length
  refine wpAny_call (codeAny_call_cells (by have := ok.depth; omega) ho hd ((G.sub hs).lim) hc rfl (hbind name pm code doc vs hl) rfl ?_ ?_ hsc.2.1 hsc.2.2 hsc.1)
  · intro xv hm
    obtain ⟨x, v⟩ := xv
    have hx : x ∈ names := (List.of_mem_zip hm).1
    rcases hkind x hx with e | e
    · exact .inl e
    · refine .inr ⟨e, ?_⟩
      obtain ⟨c, hc⟩ := cells_look scope.names (s.heap.objs.size + 1) x (mem_of_lookup e)
      show ((cellsFrom (s.heap.objs.size + 1) scope.names []).lookup x).isSome = true
      rw [hc]; rfl
  · intro s₁ F
    generalize henv : callEnvC (Calls.docDef name params body scope pm code doc) s.heap.objs.size f = env at F ⊢
    have esc : env.scope = scope := by rw [← henv]; rfl
    have eloc : env.locals = s.heap.objs.size := by rw [← henv]; rfl
    have ecl : env.cells = cellsFrom (s.heap.objs.size + 1) scope.names [] := by rw [← henv]; rfl
    have ekind : ∀ n, env.kindOf n = scope.names.lookup n := fun n => by rw [← henv]; rfl
    have hsub : Sub s.heap s₁.heap := F.toInCall.keep
    have sc : Sc env scope.names := ⟨by rw [esc]; exact hsc.1, fun x k _ e => (ekind x).trans e, by rw [← henv]; rfl, by rw [← henv]; rfl⟩
    have lenz : (names.zip vs).map (·.1) = names := by rw [List.map_fst_zip (by omega)]
    have look : ∀ (ns : List Str) (vs : List Value) (ds : List D), ns.length = ds.length → RelAll Any s.heap vs ds → ∀ n d, (ns.zip ds).lookup n = some d → ∃ v, (ns.zip vs).lookup n = some v ∧ Rel Any s.heap v d := by
      intro ns
      induction ns with
      | nil => intro vs ds hl r n d e; cases e
      | cons x ns ih =>
        intro vs ds hl r n d e
        cases r with
        | nil => cases e
        | @cons v vs d' ds a r =>
          rw [List.zip_cons_cons, List.lookup_cons] at e
          rw [List.zip_cons_cons, List.lookup_cons]
          cases hb : n == x with
          | true => rw [hb] at e; cases e; exact ⟨v, rfl, a⟩
          | false => rw [hb] at e; exact ih vs ds (by simpa using hl) r n d e
    have At₁ : At s env env.cells (P s) (names.zip args) s₁ := by
      refine ⟨⟨sc.kind, _, _, ⟨F.toInCall.ns, hsub, ?_, fun n c e => F.cell n c e, fun _ _ e => e, F.apart, fun n c hm => ⟨Nat.ne_of_gt (F.above n c (mem_of_lookup hm)), ?_⟩⟩, ?_⟩, F.toInCall.same⟩
      · cases e : s.heap.get? env.locals with
        | none => rfl
        | some o => exact absurd (Heap.lt_size e) (Nat.not_lt.mpr F.toInCall.fresh)
      · cases e : s.heap.get? c with
        | none => rfl
        | some o => exact absurd (Nat.lt_of_lt_of_le (Heap.lt_size e) F.toInCall.fresh) (Nat.lt_asymm (F.above n c (mem_of_lookup hm)))
      · intro n d e
        obtain ⟨v, hv, r⟩ := look names vs args hlen hr n d e
        have hx : n ∈ names := (List.of_mem_zip (mem_of_lookup e)).1
        have hda : d ∈ args := (List.of_mem_zip (mem_of_lookup e)).2
        refine ⟨v, ?_, ?_⟩
        · rcases hP s hs with hf | hp
          · exact r.flat (hf d hda)
          · exact (r.inn.imp fun a q => hp a q.2).sub hsub
        · rcases hkind n hx with e | e
          · exact .loc ((ekind n).trans e) (bindL_at _ _ n v hv (by rw [lenz]; exact hnd) ((ekind n).trans e))
          · obtain ⟨c, hc⟩ := cells_look scope.names (s.heap.objs.size + 1) n (mem_of_lookup e)
            exact .cel c ((ekind n).trans e) (by rw [ecl]; exact hc) (bindC_at _ _ n v hv (by rw [lenz]; exact hnd) ((ekind n).trans e))
    refine wpAny_mono ((run s env s₁ env.cells hs sc esc (fun n hn => ?_) At₁ ok.deeper).run _) (fun f s' hf => ?_) fun _ _ z => z
    · rcases hn with e | e
      · exact .inl ((ekind n).trans e)
      · exact .inr ⟨(ekind n).trans e, by rw [ecl]; exact cells_look scope.names _ n (mem_of_lookup e)⟩
    · obtain ⟨v, rfl, k, r⟩ := hf
      exact q v s' k r
end
end Mine
end

section
open PySem PySem.W PyProof.Rows
namespace Mine

/-- names stored, one behind the other -/
def StoreAll (M : Model) (A : Around) (E : Value → Shared → Prop) (env : Env) : List (Str × Value) → (Unit → Shared → Prop) → Shared → Prop
  | [], Q, s => Q () s
  | (n, v) :: r, Q, s => wpAny M A (storeName env n v) (fun _ s' => StoreAll M A E env r Q s') E s

/-- the lists and tuples of hb in P stand in h -/
def Kq (hb : Heap) (P : Addr → Prop) (h : Heap) : Prop := ∀ b o, P b → hb.get? b = some o → (∃ vs n, o.data = .seq vs n) → h.get? b = some o
theorem Sub.kq {hb h : Heap} {P : Addr → Prop} (k : Sub hb h) : Kq hb P h := fun b o _ e _ => k b o e
/-- what a loop draws from: the i-th turn stores data dss[i] into the names xs -/
structure Src (prog : Program) (w : World) (A : Around) (it : Value) (tgt : Expr) (xs : List Str) (hb : Heap) (P : Addr → Prop) (dss : List (List D)) (wr fp : List Addr) (St : Nat → Heap → Prop) : Prop where
  sub : ∀ b ∈ wr, b ∈ fp
  live : ∀ i h, St i h → ∀ b ∈ fp, In h b
  frame : ∀ i h h', St i h → (∀ b ∈ fp, ∀ o, h.get? b = some o → h'.get? b = some o) → St i h'
  item : ∀ i ds (env : Env) (s : Shared) (Q : Unit → Shared → Prop) (E : Value → Shared → Prop), dss[i]? = some ds → St i s.heap → Kq hb P s.heap →
    (∀ vs h' tk, RelAll P hb vs ds → St (i + 1) h' → (∀ b o, b ∉ wr → s.heap.get? b = some o → h'.get? b = some o) → StoreAll (model prog w) A E env (xs.zip vs) Q { s with heap := h', toks := tk }) →
    wpAny (model prog w) A (pyNext it) (fun r s₁ => ∃ v, r = some v ∧ wpAny (model prog w) A (letOwnedTupleGo tgt it v) (fun _ s₁' => wpAny (model prog w) A (assign tgt env v) Q E s₁') E s₁) E s
  done : ∀ (s : Shared) (Q : Option Value → Shared → Prop) (E : Value → Shared → Prop), St dss.length s.heap → Kq hb P s.heap →
    (∀ h' tk, (∀ b o, b ∉ wr → s.heap.get? b = some o → h'.get? b = some o) → Q none { s with heap := h', toks := tk }) → wpAny (model prog w) A (pyNext it) Q E s
  self : ∀ i (s : Shared) (Q : Value → Shared → Prop) (E : Value → Shared → Prop), St i s.heap → Q it s → wpAny (model prog w) A (pyIter it) Q E s

section
variable {prog : Program} {w : World} {A : Around} {I : Addr} {fp wr : List Addr} {n : Nat} {St : Nat → Heap → Prop} {hb : Heap} {P : Addr → Prop} {dss : List (List D)}
theorem Src.ofWalks {V : Nat → Value → Prop} {x : Str} {pos : Pos} (W : Walks prog w A I fp wr n V St) (hn : n = dss.length) (hin : ∀ i h, St i h → ∀ b ∈ fp, In h b) (hV : ∀ i v ds, V i v → dss[i]? = some ds → RelAll P hb [v] ds) :
    Src prog w A (.ref I) (.Name x pos) [x] hb P dss wr fp St where
  sub := W.sub
  live := hin
  frame := W.frame
  item := fun i ds env s Q E hi st k q => by
    have hlt : i < n := by rw [hn]; exact (List.getElem?_eq_some_iff.mp hi).1
    refine W.item i s _ E hlt st fun v h' tk hv st' hk => ⟨v, rfl, wpAny_pure ?_⟩
    exact wpAny_assign_Name (q [v] h' tk (hV i v ds hv hi) st' hk)
  done := fun s Q E st k q => W.done s Q E (hn ▸ st) q
  self := W.self
theorem Src.ofWalksU {V : Nat → Array Value → Prop} {Mid : Nat → Addr → Heap → Prop} {a b : Str} {pa pb pos : Pos} {kt : Nat} (hh : A.handled = none) (W : WalksU prog w A I fp wr n V St Mid) (hn : n = dss.length)
    (hin : ∀ i h, St i h → ∀ b ∈ fp, In h b)
    (hV : ∀ i vs ds, V i vs → dss[i]? = some ds → RelAll P hb vs.toList ds ∧ vs.size = 2) :
    Src prog w A (.ref I) (.Tuple [.Name a pa, .Name b pb] kt pos) [a, b] hb P dss wr fp St where
  sub := W.sub
  live := hin
  frame := W.frame
  item := fun i ds env s Q E hi st k q => by
    have hlt : i < n := by rw [hn]; exact (List.getElem?_eq_some_iff.mp hi).1
    refine W.item i s _ E hlt st fun T vals h' tk hv hT hm hk => ⟨.ref T, rfl, ?_⟩
    obtain ⟨hr, hz⟩ := hV i vals ds hv hi
    refine W.go _ kt pos i T _ _ E hm fun h₂ st' hk' => ?_
    have hT' : h₂.IsTuple T vals := hT.at fun o e => hk' T o (W.apart i T h' hm) e
    refine wpAny_assign_Tuple hh hT' (by rw [hz]; rfl) rfl fun h₃ hx => ?_
    have st₃ : St (i + 1) h₃ := W.frame _ _ _ st' fun b hb o e => hx b o (Nat.ne_of_lt (Heap.lt_size e)) e
    have up : ∀ b o, b ∉ wr → s.heap.get? b = some o → h₃.get? b = some o := fun b o hb e => by
      have e' : h₂.get? b = some o := hk' b o hb (hk b o hb e)
      exact hx b o (Nat.ne_of_lt (Heap.lt_size e')) e'
    have := q vals.toList h₃ tk hr st₃ up
    obtain ⟨l⟩ := vals
    match l, hz, this with
    | [x, y], _, this =>
      refine assignInOrder_cons (wpAny_assign_Name (wpAny_mono this (fun _ s' h' => ?_) fun _ _ z => z))
      exact assignInOrder_cons (wpAny_assign_Name (wpAny_mono h' (fun _ s' h' => assignInOrder_nil h') fun _ _ z => z))
  done := fun s Q E st k q => W.done s Q E (hn ▸ st) q
  self := W.self
end

/-- an iterable: evaluating it and asking it for an iterator gives a source -/
structure Feeds (prog : Program) (w : World) (A : Around) (env : Env) (h : Heap) (P : Addr → Prop) (iter tgt : Expr) (xs : List Str) (dss : List (List D)) : Prop where
  run : ∀ (s : Shared) (Q E : Value → Shared → Prop), Sub h s.heap →
    (∀ it s' hb wr fp St, Kp s s' → Sub s.heap hb → Sub hb s'.heap → Src prog w A it tgt xs hb (Nw P s) dss wr fp St → St 0 s'.heap → (∀ b ∈ wr, hb.get? b = none) → (∀ b ∈ fp, hb.get? b = none ∨ (Nw P s b ∧ ∃ o vs n, hb.get? b = some o ∧ o.data = .seq vs n)) → Q it s') →
    wpAny (model prog w) A (eval iter env) (fun x s₁ => wpAny (model prog w) A (pyIter x) Q E s₁) E s

/-- the tests of a clause -/
structure Trs (prog : Program) (w : World) (A : Around) (env : Env) (h : Heap) (ifs : List Expr) (b : Bool) : Prop where
  run : ∀ (s : Shared) (Q : Bool → Shared → Prop) (E : Value → Shared → Prop), Sub h s.heap → (∀ s', Kp s s' → Q b s') →
    wpAny (model prog w) A (forIn ifs true fun c r => if r = true then do let ok ← isTrue c env (eval c env); pure (ForInStep.yield ok) else pure (ForInStep.yield r)) Q E s
section
variable {prog : Program} {w : World} {A : Around} {env : Env} {h : Heap}
theorem trs_nil : Trs prog w A env h [] true := ⟨fun s Q E _ q => wpAny_tests_nil (q s (.refl s))⟩
theorem trs_one {c : Expr} {b : Bool} (x : Tr prog w A env h c b) : Trs prog w A env h [c] b := ⟨fun s Q E k q => wpAny_tests_one (x.run s Q E k q)⟩

theorem codeAny_compLoop_src {elt target iter : Expr} {ifs : List Expr} {scope : Scope} {pos : Pos} {it acc : Value} {R : Result → Shared → Prop} {s : Shared} (I : Nat → Shared → Prop)
    (turn : ∀ n s, I n s → wpAny (model prog w) A (pyNext it) (fun r s₁ => match r with
      | none => R (.ok .next) s₁
      | some v => wpAny (model prog w) A (letOwnedTupleGo target it v) (fun _ s₁' => wpAny (model prog w) A (assign target env v) (fun _ s₂ =>
          wpAny (model prog w) A (forIn ifs true fun c r => if r = true then do let ok ← isTrue c env (eval c env); pure (ForInStep.yield ok) else pure (ForInStep.yield r)) (fun ok s₃ =>
            if ok = true then wpAny (model prog w) A (eval elt env) (fun x s₄ =>
              wpAny (model prog w) A (call (.builtin "list.append") [acc, x]) (fun _ s₅ => ∃ m, m < n ∧ I m s₅) (notedBy (model prog w) A env fun e s' => R (.error e) s') s₄) (notedBy (model prog w) A env fun e s' => R (.error e) s') s₃
            else ∃ m, m < n ∧ I m s₃) (notedBy (model prog w) A env fun e s' => R (.error e) s') s₂) (notedBy (model prog w) A env fun e s' => R (.error e) s') s₁') (notedBy (model prog w) A env fun e s' => R (.error e) s') s₁)
      (notedBy (model prog w) A env fun e s' => R (.error e) s') s)
    (n : Nat) (hI : I n s) :
    codeAny (model prog w) A (.compLoop (.ListComp elt [⟨target, iter, ifs, 0⟩] scope pos) 0 it acc env) R s := by
  refine codeAny_loop rfl I (fun n s hI => ?_) n hI
  show wpAny _ A ((compTurn (.ListComp elt [⟨target, iter, ifs, 0⟩] scope pos) 0 it acc env).onRaise (fun x => do noteFrame x env; theTreesLotGoes x)) _ _ s
  refine wpAny_noted ?_
  rw [compTurn_list]
  refine wpAny_bind (wpAny_standAt (wpAny_bind (wpAny_mono (turn n s hI) (fun r s₁ h₁ => ?_) fun _ _ z => z)))
  cases r with
  | none => exact wpAny_pure h₁
  | some v =>
    refine wpAny_bind (wpAny_mono h₁ (fun _ s₁' h₁' => ?_) fun _ _ z => z)
    refine wpAny_bind (wpAny_mono h₁' (fun _ s₂ h₂ => ?_) fun _ _ z => z)
    refine wpAny_bind (wpAny_mono h₂ (fun ok s₃ h₃ => ?_) fun _ _ z => z)
    cases ok with
    | false => exact wpAny_pure ⟨rfl, h₃⟩
    | true => exact wpAny_bind (wpAny_bind (wpAny_mono h₃ (fun x s₄ h₄ => wpAny_bind (wpAny_mono h₄ (fun _ s₅ h₅ => wpAny_pure (wpAny_pure ⟨rfl, h₅⟩)) fun _ _ z => z)) fun _ _ z => z))
end

/-- stores into a frame -/
theorem Fr.storeAll {M : Model} {A : Around} {E : Value → Shared → Prop} {h₀ : Heap} {env : Env} {own : List (Str × Addr)} {P : Addr → Prop} :
    ∀ {xs : List Str} {vs : List Value} {ds : List D} {σ : List (Str × D)} {s : Shared} {Q : Unit → Shared → Prop}, Fr h₀ env own P σ s.heap → (∀ x ∈ xs, Stores env own x) → RelAll P s.heap vs ds →
      (∀ h' tk, Fr h₀ env own P ((xs.zip ds).reverse ++ σ) h' → Touch env own s.heap h' → SubSeq s.heap h' → Q () { s with heap := h', toks := tk }) → StoreAll M A E env (xs.zip vs) Q s := by
  intro xs
  induction xs with
  | nil => intro vs ds σ s Q F _ r q; exact q s.heap s.toks F (Touch.refl _ _ _) (SubSeq.refl _)
  | cons x xs ih =>
    intro vs ds σ s Q F st r q
    cases r with
    | nil => exact q s.heap s.toks F (Touch.refl _ _ _) (SubSeq.refl _)
    | @cons v vs d ds a r =>
      refine F.store (st x List.mem_cons_self) a fun h' tk F' ht hs => ?_
      refine ih F' (fun y hy => st y (List.mem_cons_of_mem _ hy)) (r.seq hs) fun h'' tk' F'' ht' hs' => ?_
      refine q h'' tk' ?_ (ht.trans ht') (hs.trans hs')
      simpa using F''
end Mine
end

section
open PySem PySem.W PyProof.Rows
namespace Mine

def closFold (env : Env) : List (Str × NameKind) → List (Str × Addr) → List (Str × Addr)
  | [], acc => acc
  | (n, k) :: r, acc => closFold env r (if k == .free then (n, (env.cells.lookup n).getD 0) :: acc else acc)
theorem closFold_ok (env : Env) : ∀ (names : List (Str × NameKind)) (acc : List (Str × Addr)) (f : Str × NameKind → List (Str × Addr) → Sem (ForInStep (List (Str × Addr)))),
    (∀ n k cs, f (n, k) cs = if (k == NameKind.free) = true then (do let a ← cellOf env n; pure (.yield ((n, a) :: cs))) else pure (.yield cs)) →
    (∀ n, (n, NameKind.free) ∈ names → ∃ c, env.cells.lookup n = some c) → forIn names acc f = (pure (closFold env names acc) : Sem _)
  | [], acc, f, hf, h => by rw [List.forIn_nil]; rfl
  | (n, k) :: r, acc, f, hf, h => by
    have ih := fun acc => closFold_ok env r acc f hf fun m hm => h m (List.mem_cons_of_mem _ hm)
    rw [List.forIn_cons, hf]
    by_cases hk : (k == NameKind.free) = true
    · have hk' := beq_iff_eq.mp hk
      subst hk'
      obtain ⟨c, hc⟩ := h n List.mem_cons_self
      simp only [cellOf, hc, pure_bind, if_true, beq_self_eq_true, closFold, Option.getD_some]
      exact ih _
    · simp only [hk, pure_bind, closFold, Bool.false_eq_true, if_false]
      exact ih _
theorem closFold_mem {env : Env} : ∀ (names : List (Str × NameKind)) (acc : List (Str × Addr)) (n : Str) (c : Addr), (n, c) ∈ closFold env names acc → (n, c) ∈ acc ∨ ((n, NameKind.free) ∈ names ∧ c = (env.cells.lookup n).getD 0)
  | [], acc, n, c, h => .inl h
  | (x, k) :: r, acc, n, c, h => by
    rcases closFold_mem r _ n c h with h | ⟨h, e⟩
    · split at h
      · rename_i hk
        rcases List.mem_cons.mp h with e | h
        · cases e
          exact .inr ⟨by rw [show NameKind.free = k from (beq_iff_eq.mp hk).symm]; exact List.mem_cons_self, rfl⟩
        · exact .inl h
      · exact .inl h
    · exact .inr ⟨List.mem_cons_of_mem _ h, e⟩
theorem closFold_has {env : Env} : ∀ (names : List (Str × NameKind)) (acc : List (Str × Addr)) (n : Str), ((n, NameKind.free) ∈ names ∨ ∃ c, (n, c) ∈ acc) → ∃ c, (n, c) ∈ closFold env names acc
  | [], acc, n, h => by
    rcases h with h | h
    · cases h
    · exact h
  | (x, k) :: r, acc, n, h => by
    refine closFold_has r _ n ?_
    rcases h with h | ⟨c, h⟩
    · rcases List.mem_cons.mp h with e | h
      · cases e
        exact .inr ⟨_, by rw [if_pos (by rfl)]; exact List.mem_cons_self⟩
      · exact .inl h
    · refine .inr ⟨c, ?_⟩
      split
      · exact List.mem_cons_of_mem _ h
      · exact h
theorem lookup_of_mem {α : Type} : ∀ {l : List (Str × α)} {n : Str} {c : α}, (n, c) ∈ l → ∃ c', l.lookup n = some c'
  | (x, v) :: r, n, c, h => by
    rw [List.lookup_cons]
    cases hb : n == x with
    | true => exact ⟨v, rfl⟩
    | false =>
      rcases List.mem_cons.mp h with e | h
      · cases e; simp at hb
      · exact lookup_of_mem h
theorem closure_has {scope : Scope} {env : Env} (h : ∀ n, (n, NameKind.free) ∈ scope.names → ∃ c, env.cells.lookup n = some c) :
    ∃ cl, closureFor scope env = pure cl ∧ (∀ n c, cl.lookup n = some c → (n, NameKind.free) ∈ scope.names) ∧ ∀ n, (n, NameKind.free) ∈ scope.names → cl.lookup n = env.cells.lookup n := by
  refine ⟨closFold env scope.names [], ?_, ?_, fun n hn => ?_⟩
  · simp only [closureFor]
    rw [closFold_ok env scope.names [] _ (fun n k cs => by cases hk : k == NameKind.free <;> simp [hk]) h]
    rfl
  · intro n c e
    rcases closFold_mem scope.names [] n c (mem_of_lookup e) with h' | ⟨h', e'⟩
    · cases h'
    · exact h'
  · obtain ⟨c₁, h₁⟩ := closFold_has (env := env) scope.names [] n (.inl hn)
    obtain ⟨c₂, h₂⟩ := lookup_of_mem h₁
    rw [h₂]
    rcases closFold_mem scope.names [] n c₂ (mem_of_lookup h₂) with h' | ⟨h', e'⟩
    · cases h'
    · obtain ⟨c', hc⟩ := h n hn
      rw [hc] at e' ⊢
      rw [e']; rfl

theorem wpAny_newEnv_comp {M : Model} {A : Around} {E : Value → Shared → Prop} {s : Shared} {scope : Scope} {env : Env} {cl : List (Str × Addr)} {globals : Addr} {qual : Str} {Q : Env → Shared → Prop}
    (h : Q { scope, locals := s.heap.objs.size, globals, cells := cellsFrom (s.heap.objs.size + 1) scope.names cl, qual, func := none, code := env.code, frame := env.frame, builtins := env.builtins }
      { s with heap := pushCells (s.heap.push { cls := .type "dict", data := .dict #[] }) scope.names }) :
    wpAny M A (newFunctionEnv scope globals cl [] qual none .none (some env)) Q E s := by
  simp only [newFunctionEnv, Option.isSome_some, if_true]
  refine wpAny_bind (wpAny_alloc ?_)
  refine wpAny_bind (wpAny_layCells _ (fun name kind cells => by cases hkc : kind == NameKind.cell <;> simp [hkc]) _ _ _ _ ?_)
  rw [show ({ s with heap := s.heap.push { cls := .type "dict", data := .dict #[] } } : Shared).heap.objs.size = s.heap.objs.size + 1 from Heap.size_push ..]
  refine wpAny_bind ?_
  rw [List.forIn_nil]
  exact wpAny_pure (wpAny_pure h)

theorem lookup_reverse {α : Type} : ∀ (l : List (Str × α)), (l.map (·.1)).Nodup → ∀ n, l.reverse.lookup n = l.lookup n
  | [], _, n => rfl
  | (x, v) :: r, hd, n => by
    rw [List.map_cons, List.nodup_cons] at hd
    rw [List.reverse_cons, List.lookup_append, lookup_reverse r hd.2 n, List.lookup_cons, List.lookup_cons]
    cases hb : n == x with
    | true =>
      have := beq_iff_eq.mp hb; subst this
      have e : r.lookup n = none := by
        cases hl : r.lookup n with
        | none => rfl
        | some c => exact absurd (List.mem_map_of_mem (f := (·.1)) (mem_of_lookup hl)) hd.1
      rw [e]; rfl
    | false =>
      cases hl : r.lookup n with
      | some c => rfl
      | none => rfl

theorem relabel_look {names : List (Str × NameKind)} {env : Env} {x : Str} {k : NameKind} (h : names.lookup x = some k) :
    ∃ k', (names.map fun (n, k) => if (k == NameKind.free && env.scope.kind == .function && env.kindOf n == some .cell) then (n, NameKind.cell) else (n, k)).lookup x = some k' ∧ (k ≠ .free → k' = k) ∧ (k = .free → k' = .cell ∨ k' = .free) := by
  induction names with
  | nil => cases h
  | cons y r ih =>
    obtain ⟨n, j⟩ := y
    rw [List.lookup_cons] at h
    rw [List.map_cons]
    by_cases hc : (j == NameKind.free && env.scope.kind == .function && env.kindOf n == some .cell) = true
    · simp only [hc, if_true, List.lookup_cons]
      cases hb : x == n with
      | true =>
        rw [hb] at h; cases h
        refine ⟨.cell, rfl, fun hn => ?_, fun _ => .inl rfl⟩
        simp only [Bool.and_eq_true, beq_iff_eq] at hc
        exact absurd hc.1.1 hn
      | false => rw [hb] at h; exact ih h
    · simp only [hc, Bool.false_eq_true, if_false, List.lookup_cons]
      cases hb : x == n with
      | true => rw [hb] at h; cases h; exact ⟨k, rfl, fun _ => rfl, fun e => .inr e⟩
      | false => rw [hb] at h; exact ih h

/-- the names of a scope are told once, or alike -/
def Once (names : List (Str × NameKind)) : Bool := names.all fun x => names.lookup x.1 == some x.2
theorem Once.look {names : List (Str × NameKind)} (h : Once names = true) {n : Str} {k : NameKind} (hm : (n, k) ∈ names) : names.lookup n = some k := by
  have := List.all_eq_true.mp h (n, k) hm
  exact beq_iff_eq.mp this

/-- what is to be shown of a comprehension's turn -/
def Body (prog : Program) (w : World) (A : Around) (h : Heap) (names : List (Str × NameKind)) (φ : List (Str × D)) (xs : List Str) (elt : Expr) (ifs : List Expr) {α : Type} (items : List α) (b : α → List D) (p : α → Bool) (f : α → D) : Prop :=
  ∀ (cenv : Env) (h' : Heap) (P' : Addr → Prop) (a : α), a ∈ items → Sub h h' → Sc cenv names →
    (∀ n d, names.lookup n = some .free → φ.lookup n = some d → Nm prog w cenv h' P' n d ∧ Cl cenv h' P' n d) →
    (∀ n d, (xs.zip (b a)).lookup n = some d → Nm prog w cenv h' P' n d ∧ (names.lookup n = some .cell → Cl cenv h' P' n d)) →
    Trs prog w A cenv h' ifs (p a) ∧ (p a = true → Ev prog w A cenv h' P' elt (f a))
end Mine
end

section
open PySem PySem.W PyProof.Rows
namespace Mine

theorem Cl.nm {prog : Program} {w : World} {env : Env} {h : Heap} {P : Addr → Prop} {n : Str} {d : D} (x : Cl env h P n d) (hk : env.scope.kind = .function)
    (hl : env.kindOf n = some .cell ∨ env.kindOf n = some .free) (hd : (n == ("__debug__" : Str)) = false) (hc : (n == ("__classdict__" : Str)) = false) : Nm prog w env h P n d := by
  obtain ⟨c, v, e, hv, r⟩ := x
  refine ⟨v, r, fun A pos s Q E k q => wpAny_Name ?_ hd⟩
  rcases hl with hl | hl
  · exact wpAny_loadName_cell hk hl e (hv.keeps k) q
  · exact wpAny_loadName_free hk hl e (hv.keeps k) q hc

theorem Fr.past {hb h h' : Heap} {env : Env} {own : List (Str × Addr)} {P : Addr → Prop} {σ : List (Str × D)} {wr : List Addr} (F : Fr hb env own P σ h)
    (hk : ∀ b o, b ∉ wr → h.get? b = some o → h'.get? b = some o) (hL : env.locals ∉ wr) (ho : ∀ n c, (n, c) ∈ own → c ∉ wr) (hP : ∀ a, P a → a ∉ wr) (hw : ∀ b ∈ wr, hb.get? b = none) : Fr hb env own P σ h' := by
  obtain ⟨kd, m, cm, G, hq⟩ := F
  refine ⟨kd, m, cm, ⟨G.ns.at' fun o e => hk _ o hL e, fun b o e => hk b o (fun hm => by rw [hw b hm] at e; cases e) (G.keep b o e), G.fresh, fun n c e => ?_, G.look, G.apart, G.above⟩, fun n d e => ?_⟩
  · obtain ⟨o, ho', hd⟩ := G.cell n c e
    exact ⟨o, hk c o (ho n c (mem_of_lookup e)) ho', hd⟩
  · obtain ⟨v, r, H⟩ := hq n d e
    exact ⟨v, r.turn fun a pa _ => ⟨pa, fun o e' _ => hk a o (hP a pa) e'⟩, H⟩

/-- the names that a comprehension may not have -/
def Fine (names : List (Str × NameKind)) : Bool := Once names && names.all fun x => !(x.1 == ("__debug__" : Str)) && !(x.1 == ("__classdict__" : Str))
theorem Fine.once {names : List (Str × NameKind)} (h : Fine names = true) : Once names = true := (Bool.and_eq_true_iff.mp h).1
theorem Fine.names {names : List (Str × NameKind)} (h : Fine names = true) {n : Str} {k : NameKind} (e : names.lookup n = some k) : (n == ("__debug__" : Str)) = false ∧ (n == ("__classdict__" : Str)) = false := by
  have := List.all_eq_true.mp (Bool.and_eq_true_iff.mp h).2 (n, k) (mem_of_lookup e)
  simpa using this

section
variable {prog : Program} {w : World} {A : Around} {env : Env} {h : Heap} {P : Addr → Prop} {elt iter tgt : Expr} {ifs : List Expr} {scope : Scope} {pos : Pos} {names0 : List (Str × NameKind)} {xs : List Str} {φ : List (Str × D)}
  {α : Type} {items : List α} {b : α → List D} {p : α → Bool} {f : α → D}

theorem comp_core (hh : A.handled = none) (sc : Sc env names0) (feeds : Feeds prog w A env h P iter tgt xs (items.map b))
    (hφ : ∀ n d, scope.names.lookup n = some .free → φ.lookup n = some d → Cl env h P n d) (hfree : ∀ n, scope.names.lookup n = some .free → ∃ d, φ.lookup n = some d)
    (fine : Fine scope.names = true) (hk : scope.kind = .function)
    (hxs : ∀ x ∈ xs, scope.names.lookup x = some .local ∨ scope.names.lookup x = some .cell) (hnd : xs.Nodup) (hlen : ∀ a ∈ items, (b a).length = xs.length) (hsz : items.length ≤ 1000)
    (body : Body prog w A h scope.names φ xs elt ifs items b p f)
    {s : Shared} {E : Value → Shared → Prop} {RR : Value → Addr → Result → Shared → Prop} {cl : List (Str × Addr)}
    (hcl : ∀ n c, cl.lookup n = some c → (n, NameKind.free) ∈ scope.names) (hcl' : ∀ n, (n, NameKind.free) ∈ scope.names → cl.lookup n = env.cells.lookup n)
    (k : Sub h s.heap)
    (q : ∀ D C h' tk m, h'.Ns C m → s.heap.get? C = none → Sub s.heap h' → Rel (fun a => Nw P s a ∧ a ≠ C) h' (.ref D) (.plain ((items.filter p).map f)) → RR (.ref D) C (.ok .next) { s with heap := h', toks := tk }) :
    wpAny (model prog w) A (eval iter env) (fun x s₁ => wpAny (model prog w) A (pyIter x) (fun it s₂ => wpAny (model prog w) A (newList []) (fun acc s₃ =>
      wpAny (model prog w) A (newFunctionEnv scope env.globals cl [] env.qual none .none (some env)) (fun cenv s₄ =>
        codeAny (model prog w) A (.compStart (.ListComp elt [⟨tgt, iter, ifs, 0⟩] scope pos) 0 it acc { cenv with scope := relabel scope env }) (RR acc cenv.locals) s₄) E s₃) E s₂) E s₁) E s := by
  have once := Fine.once fine
  refine feeds.run s _ _ k fun it s₂ hb wr fp St kp hsb hbs src st0 hwr _ => ?_
  refine wpAny_newList ?_ (Nat.zero_le _)
  refine wpAny_newEnv_comp ?_
  have hl2 : ∀ a : Nat, In s₂.heap a → a < s₂.heap.objs.size := fun a ⟨o, e⟩ => Heap.lt_size e
  generalize hH3 : s₂.heap.push { cls := .type "list", data := .seq ([] : List Value).toArray } = H3
  have z3 : H3.objs.size = s₂.heap.objs.size + 1 := by rw [← hH3, Heap.size_push]
  have gD : H3.get? s₂.heap.objs.size = some { cls := .type "list", data := .seq ([] : List Value).toArray } := by rw [← hH3]; exact Heap.get?_push_size _ rfl
  have s23 : Sub s₂.heap H3 := by rw [← hH3]; exact sub_push _ _
  have ok := cellsFrom_ok scope.names (H3.push { cls := .type "dict", data := .dict #[] }) (H3.objs.size + 1) [] ⟨fun _ _ hm => (nomatch hm), List.Pairwise.nil⟩ (by rw [Heap.size_push]; exact Nat.le_refl _)
  rw [Heap.size_push] at ok
  dsimp only
  obtain ⟨D, hD⟩ : ∃ D, s₂.heap.objs.size = D := ⟨_, rfl⟩
  obtain ⟨L, hL⟩ : ∃ L, H3.objs.size = L := ⟨_, rfl⟩
  rw [hD] at gD z3 hl2 ⊢
  rw [hL] at ok z3 ⊢
  obtain ⟨H4, hH4⟩ : ∃ H4, pushCells (H3.push { cls := .type "dict", data := .dict #[] }) scope.names = H4 := ⟨_, rfl⟩
  rw [hH4] at ok ⊢
  have s34 : Sub H3 H4 := fun c o e => by rw [← hH4]; exact pushCells_keeps _ _ c o (Heap.get?_push_of_some _ e)
  have nsL : H4.Ns L fun _ => none := by
    rw [← hH4, ← hL]; exact (Heap.Ns.new H3 (.type "dict")).keeps (pushCells_keeps _ _)
  obtain ⟨own, hown⟩ : ∃ own, cellsFrom (L + 1) scope.names [] = own := ⟨_, rfl⟩
  rw [hown] at ok
  have hcells : cellsFrom (L + 1) scope.names cl = own ++ cl := by rw [cells_app, hown]
  obtain ⟨cenv, hce⟩ : ∃ c, ({ scope := relabel scope env, locals := L, globals := env.globals, cells := cellsFrom (L + 1) scope.names cl, qual := env.qual, func := none, code := env.code, frame := env.frame, builtins := env.builtins } : Env) = c := ⟨_, rfl⟩
  show codeAny _ _ (.compStart _ 0 it (.ref D) ({ scope := relabel scope env, locals := L, globals := env.globals, cells := cellsFrom (L + 1) scope.names cl, qual := env.qual, func := none, code := env.code, frame := env.frame, builtins := env.builtins } : Env)) (RR (.ref D) L) { s₂ with heap := H4 }
  rw [hce]
  have eL : cenv.locals = L := by rw [← hce]
  have ecl : cenv.cells = own ++ cl := by rw [← hce]; exact hcells
  have s24 : Sub s₂.heap H4 := s23.trans s34
  have hb4 : Sub hb H4 := hbs.trans s24
  have new2 : ∀ a : Nat, D ≤ a → s₂.heap.get? a = none := fun a ha => by
    cases e : s₂.heap.get? a with
    | none => rfl
    | some o => exact absurd (show @LT.lt Nat _ a s₂.heap.objs.size from Heap.lt_size e) (by omega)
  have newb : ∀ a : Nat, D ≤ a → hb.get? a = none := fun a ha => by
    cases e : hb.get? a with
    | none => rfl
    | some o => have := hbs a o e; rw [new2 a ha] at this; cases this
  have sb : Sub s.heap hb := hsb
  have fpD : ∀ a : Nat, a ∈ fp → a < D := fun a ha => hl2 a (src.live 0 _ st0 a ha)
  have wrD : ∀ a : Nat, a ∈ wr → a < D := fun a ha => fpD a (src.sub a ha)
  have ownL : ∀ (n : Str) (c : Nat), (n, c) ∈ own → L + 1 ≤ c := fun n c hm => (ok.empty n c hm).2
  have ownk : ∀ n c, own.lookup n = some c → scope.names.lookup n = some .cell := fun n c e => Once.look once (cells_mem _ _ n c (by rw [hown]; exact mem_of_lookup e))
  have scc : Sc cenv scope.names := by
    refine ⟨by rw [← hce]; exact hk, fun x kd hne e => ?_, by rw [← hce]; exact sc.glob, by rw [← hce]; exact sc.blt⟩
    obtain ⟨k', e', h1, _⟩ := relabel_look (env := env) e
    rw [← h1 hne, ← hce]; exact e'
  -- the addresses of what is told of the names in a turn
  let P₂ : Addr → Prop := fun a => Nw P s a ∧ In hb a
  have st4 : St 0 H4 := src.frame _ _ _ st0 fun c _ o e => s24 c o e
  have inb : ∀ a : Nat, In hb a → a < D := fun a ⟨o, e⟩ => by have : @LT.lt Nat _ a s₂.heap.objs.size := Heap.lt_size (hbs a o e); omega
  have fr0 : Fr hb cenv own P₂ [] H4 := by
    refine ⟨scc.kind, _, fun _ => none, ⟨by rw [eL]; exact nsL, hb4, by rw [eL]; exact newb L (by omega), fun n c e => (ok.empty n c (mem_of_lookup e)).1, fun n c e => by rw [ecl, List.lookup_append, e]; rfl, ok.apart,
      fun n c hm => ⟨by have := ownL n c (mem_of_lookup hm); rw [eL]; show @Ne Nat _ _; omega, newb c (by have := ownL n c (mem_of_lookup hm); omega)⟩⟩, fun n d e => by cases e⟩
  have frees : ∀ (h' : Heap), Sub hb h' → ∀ n d, scope.names.lookup n = some .free → φ.lookup n = some d → Nm prog w cenv h' P₂ n d ∧ Cl cenv h' P₂ n d := by
    intro h' hs n d hf e
    have hmf : (n, NameKind.free) ∈ scope.names := mem_of_lookup hf
    obtain ⟨c, v, e1, e2, r⟩ := hφ n d hf e
    have ho : own.lookup n = none := by
      cases ho : own.lookup n with
      | none => rfl
      | some c' => have := ownk n c' ho; rw [hf] at this; cases this
    have C : Cl cenv h' P₂ n d := ⟨c, v, by rw [ecl, List.lookup_append, ho, hcl' n hmf, e1]; rfl, e2.keeps ((k.trans sb).trans hs),
      ((r.inn.imp fun a q => ⟨.inl q.1, let ⟨o, e⟩ := q.2; ⟨o, sb _ _ (k _ _ e)⟩⟩).sub ((k.trans sb).trans hs))⟩
    refine ⟨C.nm scc.kind ?_ (Fine.names fine hf).1 (Fine.names fine hf).2, C⟩
    obtain ⟨k', e', _, h2⟩ := relabel_look (env := env) hf
    have e'' : cenv.kindOf n = some k' := by rw [← hce]; exact e'
    rcases h2 rfl with h2 | h2 <;> subst h2
    · exact .inl e''
    · exact .inr e''
  let Pout : Addr → Prop := fun a => (Nw P s a ∧ In hb a) ∨ (hb.get? a = none ∧ a ≠ D ∧ a ≠ L ∧ (∀ n, own.lookup n ≠ some a) ∧ a ∉ wr)
  have Pgood : ∀ a, Pout a → a ≠ D ∧ a ≠ L ∧ (∀ n, own.lookup n ≠ some a) ∧ a ∉ wr := by
    rintro a (⟨_, hi⟩ | ⟨_, q⟩)
    · have := inb a hi
      exact ⟨by show @Ne Nat _ _; omega, by show @Ne Nat _ _; omega, fun n hm => by have := ownL n a (mem_of_lookup hm); omega, fun hm => by obtain ⟨o, e⟩ := hi; rw [hwr a hm] at e; cases e⟩
    · exact q
  have loop : ∀ s₄ : Shared, s₄ = { s₂ with heap := H4 } → codeAny (model prog w) A (.compLoop (.ListComp elt [⟨tgt, iter, ifs, 0⟩] scope pos) 0 it (.ref D) cenv) (RR (.ref D) L) s₄ := by
    rintro s₄ rfl
    obtain ⟨hk2, tk2, e2, _⟩ := kp
    refine codeAny_compLoop_src (fun k' s' => ∃ i ys h' tk σ, s' = { s with heap := h', toks := tk } ∧ k' + i = items.length + 1 ∧ i ≤ items.length ∧ St i h' ∧ Fr hb cenv own P₂ σ h' ∧ h'.PlainList D ys.toArray ∧
      RelAll Pout h' ys (((items.take i).filter p).map f)) ?_ (items.length + 1)
      ⟨0, [], H4, s₂.toks, [], by rw [e2], rfl, Nat.zero_le _, st4, fr0, ⟨0, s34 _ _ gD⟩, by simpa using RelAll.nil⟩
    rintro k' s' ⟨i, ys, h', tk, σ, rfl, hki, hil, hst, F, hpl, hR⟩
    have hDwr : D ∉ wr := fun hm => Nat.lt_irrefl _ (wrD D hm)
    have hLwr : cenv.locals ∉ wr := fun hm => by rw [eL] at hm; have := wrD L hm; omega
    have howr : ∀ n c, (n, c) ∈ own → c ∉ wr := fun n c hm hw => by have := wrD c hw; have := ownL n c hm; omega
    have hPwr : ∀ a, P₂ a → a ∉ wr := fun a q hm => by obtain ⟨o, e⟩ := q.2; rw [hwr a hm] at e; cases e
    by_cases hlt : i < items.length
    · obtain ⟨a, ha⟩ : ∃ a, items[i]? = some a := ⟨_, List.getElem?_eq_getElem hlt⟩
      have ham : a ∈ items := List.mem_of_getElem? ha
      have hds : (items.map b)[i]? = some (b a) := by rw [List.getElem?_map, ha]; rfl
      refine' wpAny_mono (src.item i (b a) cenv _ _ _ hds hst F.keep.kq ?itm) ?post (fun _ _ z => z)
      case post =>
        rintro r s₁ ⟨v, rfl, hx⟩
        exact hx
      intro vs h₁ tk₁ hr st₁ hk₁
      have F₁ : Fr hb cenv own P₂ σ h₁ := F.past hk₁ hLwr howr hPwr hwr
      have hr₁ : RelAll P₂ h₁ vs (b a) := hr.inn.sub F₁.keep
      refine F₁.storeAll (xs := xs) (ds := b a) (fun x hx => ?_) hr₁ fun h₂ tk₂ F₂ ht hss => ?_
      · rcases hxs x hx with e | e
        · exact .inl (scc.look x _ (by decide) e)
        · refine .inr ⟨scc.look x _ (by decide) e, ?_⟩
          rw [← hown]
          exact cells_look _ _ x (mem_of_lookup e)
      have ht' : ∀ c o, c ∉ wr → c ≠ L → (∀ n, own.lookup n ≠ some c) → h'.get? c = some o → h₂.get? c = some o := fun c o c1 c2 c3 e => ht c o (by rw [eL]; exact c2) c3 (hk₁ c o c1 e)
      have ownD : ∀ (n : Str) (c : Nat), (n, c) ∈ own → c ≠ D := fun n c hm => by have := ownL n c hm; omega
      have hDL : D ≠ L := by omega
      have st₂ : St (i + 1) h₂ := src.frame _ _ _ st₁ fun c hc o e => ht c o (by rw [eL]; have := fpD c hc; show @Ne Nat _ _; omega) (fun n hm => by have := ownL n c (mem_of_lookup hm); have := fpD c hc; omega) e
      have pl₂ : h₂.PlainList D ys.toArray := hpl.at fun o e => ht' D o hDwr hDL (fun n hm => ownD n D (mem_of_lookup hm) rfl) e
      have R₂ : RelAll Pout h₂ ys (((items.take i).filter p).map f) := hR.turn fun c pc _ => ⟨pc, fun o e _ => ht' c o (Pgood c pc).2.2.2 (Pgood c pc).2.1 (Pgood c pc).2.2.1 e⟩
      have hxsl : ((xs.zip (b a)).map (·.1)) = xs := by rw [List.map_fst_zip (by have := hlen a ham; omega)]
      obtain ⟨tests, eltv⟩ := body cenv h₂ P₂ a ham ((k.trans sb).trans F₂.keep) scc (frees h₂ F₂.keep) (fun n d e => by
        have e' : ((xs.zip (b a)).reverse ++ σ).lookup n = some d := by
          rw [List.lookup_append, lookup_reverse _ (by rw [hxsl]; exact hnd), e]; rfl
        have hn : n ∈ xs := (List.of_mem_zip (mem_of_lookup e)).1
        have hdb : (n == ("__debug__" : Str)) = false := by rcases hxs n hn with q | q <;> exact (Fine.names fine q).1
        exact ⟨F₂.nm e' hdb, fun hc => F₂.cl e' (scc.look n _ (by decide) hc)⟩)
      refine tests.run { s with heap := h₂, toks := tk₂ } _ _ (.refl _) fun s₃ k₃ => ?_
      obtain ⟨h₃, tk₃, e₃, hk₃⟩ := id k₃
      have e₃' : s₃ = { s with heap := h₃, toks := tk₃ } := e₃
      subst e₃'
      replace hk₃ : Sub h₂ h₃ := hk₃
      have take : (items.take (i + 1)).filter p = (items.take i).filter p ++ (if p a then [a] else []) := take_succ_filter p items i a ha
      cases hpa : p a with
      | false =>
        rw [if_neg (by simp)]
        refine ⟨items.length - i, by omega, i + 1, ys, h₃, tk₃, _, rfl, by omega, hlt, src.frame _ _ _ st₂ fun c _ o e => hk₃ c o e, F₂.sub hk₃, pl₂.at fun o e => hk₃ _ o e, ?_⟩
        rw [take, hpa]
        simpa using R₂.sub hk₃
      | true =>
        rw [if_pos rfl]
        refine (eltv hpa).run { s with heap := h₃, toks := tk₃ } _ _ hk₃ fun v s₄ k₄ r₄ => ?_
        obtain ⟨h₄, tk₄, e₄, hk₄⟩ := id k₄
        have e₄' : s₄ = { s with heap := h₄, toks := tk₄ } := e₄
        subst e₄'
        replace hk₄ : Sub h₃ h₄ := hk₄
        have pl₃ : h₃.PlainList D ys.toArray := pl₂.at fun o e => hk₃ _ o e
        have st₃ : St (i + 1) h₃ := src.frame _ _ _ st₂ fun c _ o e => hk₃ c o e
        have F₃ := F₂.sub hk₃
        have rv : Rel Pout h₄ v (f a) := r₄.imp fun c n => by
          rcases n with q | n
          · exact .inl q
          · have n : h₃.get? c = none := n
            refine .inr ⟨?_, ?_, ?_, ?_, ?_⟩
            · cases e : hb.get? c with
              | none => rfl
              | some o => rw [F₃.keep c o e] at n; cases n
            · rintro rfl; obtain ⟨_, e⟩ := pl₃; rw [e] at n; cases n
            · rintro rfl
              obtain ⟨_, m, cm, G, _⟩ := F₃
              obtain ⟨o, _, _, e, _⟩ := G.ns
              rw [eL, n] at e; cases e
            · intro x hm
              obtain ⟨_, m, cm, G, _⟩ := F₃
              obtain ⟨o, e, _⟩ := G.cell x c hm
              rw [n] at e; cases e
            · intro hm
              obtain ⟨o, e⟩ := src.live _ _ st₃ c (src.sub c hm)
              rw [n] at e; cases e
        have hys : ys.length ≤ items.length := by
          rw [hR.length, List.length_map]
          exact Nat.le_trans (List.length_filter_le _ _) (by rw [List.length_take]; omega)
        refine wpAny_list_append_plain (pl₃.at fun o e => hk₄ _ o e) (fun h₅ pl₅ hs₅ => ?_) (by rw [List.size_toArray, sizeLine_eq]; omega)
        have up₅ : ∀ c o, c ≠ D → h₄.get? c = some o → h₅.get? c = some o := fun c o hc e => hs₅.extBut c o hc e
        refine ⟨items.length - i, by omega, i + 1, ys ++ [v], h₅, tk₄, (xs.zip (b a)).reverse ++ σ, rfl, by omega, hlt, src.frame _ _ _ st₃ fun c hc o e => up₅ c o (by have := fpD c hc; show @Ne Nat _ _; omega) (hk₄ c o e), ?_, by simpa using pl₅, ?_⟩
        · exact (F₃.sub hk₄).past (wr := [D]) (fun c o hc e => up₅ c o (fun e' => hc (by simp [e'])) e) (fun hm => by rw [eL] at hm; have : @Eq Nat L D := List.mem_singleton.mp hm; omega) (fun n c hm => by simp; exact ownD n c hm)
            (fun c q hm => by have := inb c q.2; have : @Eq Nat c D := List.mem_singleton.mp hm; omega) (fun c hc => by rw [List.mem_singleton.mp hc]; exact newb D (Nat.le_refl _))
        · rw [take, hpa, if_pos rfl, List.map_append]
          refine (RelAll.append ?_ (.cons rv .nil)).turn fun c pc _ => ⟨pc, fun o e _ => up₅ c o (Pgood c pc).1 e⟩
          exact (R₂.sub hk₃).sub hk₄
    · have hi : i = items.length := by omega
      subst hi
      refine src.done _ _ _ (by simpa using hst) F.keep.kq fun h₁ tk₁ hk₁ => ?_
      show RR (.ref D) L (.ok .next) { s with heap := h₁, toks := tk₁ }
      have F₁ : Fr hb cenv own P₂ σ h₁ := F.past hk₁ hLwr howr hPwr hwr
      obtain ⟨_, m, cm, G, _⟩ := id F₁
      refine q D L h₁ tk₁ m (by rw [← eL]; exact G.ns) ?_ (sb.trans F₁.keep) ?_
      · cases e : s.heap.get? L with
        | none => rfl
        | some o => have := sb L o e; rw [newb L (by omega)] at this; cases this
      · rw [List.take_length] at hR
        refine .plain ⟨.inr ?_, by show @Ne Nat _ _; omega⟩ (hpl.at fun o e => hk₁ D o hDwr e) (hR.turn fun c pc _ => ⟨⟨?_, (Pgood c pc).2.1⟩, fun o e _ => hk₁ c o (Pgood c pc).2.2.2 e⟩)
        · cases e : s.heap.get? D with
          | none => rfl
          | some o => have := sb D o e; rw [newb D (Nat.le_refl _)] at this; cases this
        · rcases pc with ⟨q, _⟩ | ⟨n, _⟩
          · exact q
          · refine .inr ?_
            cases e : s.heap.get? c with
            | none => rfl
            | some o => rw [sb c o e] at n; cases n
  exact codeAny_compStart_list (loop _ rfl) (src.self 0 _ _ _ st4 (loop _ rfl))
end
end Mine
end

section
open PySem PySem.W PyProof.Rows
namespace Mine

/-- the side conditions of a comprehension: closed facts of its scope -/
structure CompOk (scope : Scope) (xs : List Str) : Prop where
  fine : Fine scope.names = true
  kind : scope.kind = .function
  bound : ∀ x ∈ xs, scope.names.lookup x = some .local ∨ scope.names.lookup x = some .cell
  apart : xs.Nodup

section
variable {prog : Program} {w : World} {A : Around} {env : Env} {h : Heap} {P : Addr → Prop} {elt iter tgt : Expr} {ifs : List Expr} {scope : Scope} {pos : Pos} {names0 : List (Str × NameKind)} {xs : List Str} {φ : List (Str × D)}
  {α : Type} {items : List α} {b : α → List D} {p : α → Bool} {f : α → D}

theorem ev_comp (cok : CompOk scope xs) (hh : A.handled = none) (sc : Sc env names0) (feeds : Feeds prog w A env h P iter tgt xs (items.map b))
    (hφ : ∀ n d, scope.names.lookup n = some .free → φ.lookup n = some d → Cl env h P n d) (hfree : ∀ n, scope.names.lookup n = some .free → ∃ d, φ.lookup n = some d)
    (hlen : ∀ a ∈ items, (b a).length = xs.length) (hsz : items.length ≤ 1000)
    (body : Body prog w A h scope.names φ xs elt ifs items b p f)
    (hs : ∀ x, foldedSetIterable iter env x = pure x := by intro _; rfl) :
    Ev prog w A env h P (.ListComp elt [⟨tgt, iter, ifs, 0⟩] scope pos) (.plain ((items.filter p).map f)) := by
  refine ⟨fun s Q E k q => ?_⟩
  obtain ⟨cl, h1, h2, h3⟩ := closure_has (scope := scope) (env := env) fun n hn => by
    obtain ⟨d, e⟩ := hfree n (Once.look (Fine.once cok.fine) hn)
    obtain ⟨c, _, e', _⟩ := hφ n d (Once.look (Fine.once cok.fine) hn) e
    exact ⟨c, e'⟩
  rw [eval_ListComp]
  refine wpAny_comprehension_free (use := none) rfl hs h1 cok.kind (fun x hx hl => by have := Once.look (Fine.once cok.fine) (n := x.1) (k := x.2) hx; rw [this, hl]) ?_
  refine comp_core (RR := fun acc C => compPost (model prog w) A E none Q acc C) hh sc feeds hφ hfree cok.fine cok.kind cok.bound cok.apart hlen hsz body h2 h3 k ?_
  intro D C h' tk m hn hC hsub r
  refine ⟨m, hn, fun h'' hs'' => q _ _ ⟨h'', tk, rfl, fun b o e => hs''.extBut b o (by rintro rfl; rw [hC] at e; cases e) (hsub b o e)⟩ ?_⟩
  exact r.turn fun a pa _ => ⟨pa.1, fun o e _ => hs''.extBut a o pa.2 e⟩

theorem run_assign_comp {s s₁ : Shared} {own : List (Str × Addr)} {σ : List (Str × D)} {rest : List Stmt} {Q : Flow → Shared → Prop} {y : Str} {py spos : Pos}
    (F : At s env own P σ s₁) (hp : Shut s₁ P) (st : Stores env own y)
    (sw : swapsWith (.ListComp elt [⟨tgt, iter, ifs, 0⟩] scope pos) (some (.Name y py)) spos.line env = pure true)
    (cok : CompOk scope xs) (hh : A.handled = none) (sc : Sc env names0) (feeds : Feeds prog w A env s₁.heap P iter tgt xs (items.map b))
    (hφ : ∀ n d, scope.names.lookup n = some .free → φ.lookup n = some d → Cl env s₁.heap P n d) (hfree : ∀ n, scope.names.lookup n = some .free → ∃ d, φ.lookup n = some d)
    (hlen : ∀ a ∈ items, (b a).length = xs.length) (hsz : items.length ≤ 1000)
    (body : Body prog w A s₁.heap scope.names φ xs elt ifs items b p f)
    (next : ∀ s₂, At s env own P ((y, .plain ((items.filter p).map f)) :: σ) s₂ → Run prog w A env rest s₂ Q)
    (hs : ∀ x, foldedSetIterable iter env x = pure x := by intro _; rfl) :
    Run prog w A env (.Assign [.Name y py] (.ListComp elt [⟨tgt, iter, ifs, 0⟩] scope pos) spos :: rest) s₁ Q := by
  refine ⟨fun E => ?_⟩
  refine wpAny_execs_cons ?_
  obtain ⟨cl, h1, h2, h3⟩ := closure_has (scope := scope) (env := env) fun n hn => by
    obtain ⟨d, e⟩ := hfree n (Once.look (Fine.once cok.fine) hn)
    obtain ⟨c, _, e', _⟩ := hφ n d (Once.look (Fine.once cok.fine) hn) e
    exact ⟨c, e'⟩
  rw [exec_Assign_Name_used _ _ _ _ sw]
  refine wpAny_bind (wpAny_standAt (wpAny_bind ?_))
  show wpAny _ A (do let _ ← comprehension (.ListComp elt [⟨tgt, iter, ifs, 0⟩] scope pos) scope env _ (newList []) false (eval iter env) (some (assign (.Name y py) env))) _ _ s₁
  refine wpAny_bind (wpAny_mono (wpAny_comprehension_free (use := some (assign (.Name y py) env)) (Q := fun _ s' => wpAny (model prog w) A (execs rest env) Q E s') rfl hs h1 cok.kind (fun x hx hl => by have := Once.look (Fine.once cok.fine) (n := x.1) (k := x.2) hx; rw [this, hl]) ?_)
    (fun _ s' hq => wpAny_pure (wpAny_pure hq)) fun _ _ z => z)
  refine comp_core (RR := fun acc C => compPost (model prog w) A E (some (assign (.Name y py) env)) (fun _ s' => wpAny (model prog w) A (execs rest env) Q E s') acc C) hh sc feeds hφ hfree cok.fine cok.kind cok.bound cok.apart hlen hsz body h2 h3 (.refl _) ?_
  intro D C h' tk m hn hC hsub r
  show wpAny _ A (assign (.Name y py) env (.ref D)) _ _ _
  refine wpAny_assign_Name ?_
  have F₂ : At s env own P σ { s₁ with heap := h', toks := tk } := F.on ⟨h', tk, rfl, hsub⟩
  have hCL : env.locals ≠ C := by
    rintro rfl
    obtain ⟨_, m', cm, G, _⟩ := F.fr
    obtain ⟨o, _, _, e, _⟩ := G.ns
    rw [hC] at e; cases e
  have hCo : ∀ n, own.lookup n ≠ some C := by
    intro n e
    obtain ⟨_, m', cm, G, _⟩ := F.fr
    obtain ⟨o, e', _⟩ := G.cell n C e
    rw [hC] at e'; cases e'
  have r' : Rel P h' (.ref D) (.plain ((items.filter p).map f)) := r.imp fun a q => Nw.shut hp q.1
  have rC : Rel (fun a => a ≠ C) h' (.ref D) (.plain ((items.filter p).map f)) := r.imp fun a q => q.2
  obtain ⟨h₁, tk₁, e₁⟩ := F₂.same
  refine F₂.fr.store st r' fun h₂ tk₂ F₃ ht hss => ?_
  refine ⟨m, hn.at' fun o e => ht C o hCL.symm hCo e, fun h₃ hs₃ => ?_⟩
  refine (next _ ⟨?_, h₃, tk₂, by rw [show ({ s₁ with heap := h', toks := tk } : Shared) = _ from e₁]⟩).run E
  -- the frame stays when the comprehension's names go
  obtain ⟨kd, m', cm, G, hq⟩ := F₃
  have keep3 : ∀ b o, b ≠ C → h₂.get? b = some o → h₃.get? b = some o := fun b o hb e => hs₃.extBut b o hb e
  have seq3 : SubSeq h₂ h₃ := fun b o e hs' => keep3 b o (by
    rintro rfl
    exact Ns.not_seq (hn.at' fun o e => ht b o hCL.symm hCo e) e hs') e
  refine ⟨kd, m', cm, ⟨G.ns.at' fun o e => keep3 _ o hCL e, fun b o e => keep3 b o ?_ (G.keep b o e), G.fresh, fun n c e => ?_, G.look, G.apart, G.above⟩, fun n d e => ?_⟩
  · rintro rfl
    have := F.kp.sub b o e
    rw [hC] at this; cases this
  · obtain ⟨o, e', hd⟩ := G.cell n c e
    exact ⟨o, keep3 c o (by rintro rfl; exact hCo n e) e', hd⟩
  · obtain ⟨v, r, H⟩ := hq n d e
    exact ⟨v, r.seq seq3, H⟩
end

section
variable {prog : Program} {w : World} {A : Around} {env : Env} {h : Heap} {P : Addr → Prop} {iter : Expr} {x : Str} {pos : Pos}
/-- a list as a source -/
theorem feeds_list (hh : A.handled = none) {ds : List D} (e : Ev prog w A env h P iter (.list ds)) : Feeds prog w A env h P iter (.Name x pos) [x] (ds.map fun d => [d]) := by
  refine ⟨fun s Q E k q => ?_⟩
  refine e.run s _ _ k fun v s₁ k₁ r => ?_
  cases r with
  | @list a vs _ pa p r =>
    have hlt : @LT.lt Nat _ a s₁.heap.objs.size := by obtain ⟨o, e, _⟩ := p; exact Heap.lt_size e
    refine wpAny_pyIter_list p ?_
    refine q _ _ s₁.heap [s₁.heap.objs.size] [s₁.heap.objs.size, a] _ (k₁.trans (.heap (sub_push _ _))) k₁.sub (sub_push _ _)
      (Src.ofWalks (Walks.list hh s₁.heap.objs.size a (Nat.ne_of_lt hlt) vs.toArray) (by simp [r.length]) ?_ ?_) ⟨⟨_, Heap.get?_push_size _ rfl, rfl, rfl⟩, p.push _⟩ ?_ ?_
    · rintro i h' ⟨⟨o, e, _⟩, ⟨o', e', _⟩⟩ b hb
      simp at hb
      rcases hb with rfl | rfl
      · exact ⟨_, e⟩
      · exact ⟨_, e'⟩
    · intro i v ds' hv hd
      rw [List.getElem?_map] at hd
      obtain ⟨d, hd', rr⟩ := r.getV (k := i) (by simpa using hv)
      rw [hd'] at hd; cases hd
      exact .cons rr .nil
    · intro b hb
      rw [List.mem_singleton.mp hb]; exact get?_size _
    · intro b hb
      simp only [List.mem_cons, List.not_mem_nil, or_false] at hb
      rcases hb with rfl | rfl
      · exact .inl (get?_size _)
      · obtain ⟨o, e, _, n, hd⟩ := p
        exact .inr ⟨pa, o, _, _, e, hd⟩
theorem feeds_tup (hh : A.handled = none) {ds : List D} (e : Ev prog w A env h P iter (.tup ds)) : Feeds prog w A env h P iter (.Name x pos) [x] (ds.map fun d => [d]) := by
  refine ⟨fun s Q E k q => ?_⟩
  refine e.run s _ _ k fun v s₁ k₁ r => ?_
  cases r with
  | @tup a vs _ pa p r =>
    have hlt : @LT.lt Nat _ a s₁.heap.objs.size := by obtain ⟨o, e, _⟩ := p; exact Heap.lt_size e
    refine wpAny_pyIter_tuple p ?_
    refine q _ _ s₁.heap [s₁.heap.objs.size] [s₁.heap.objs.size, a] _ (k₁.trans (.heap (sub_push _ _))) k₁.sub (sub_push _ _)
      (Src.ofWalks (Walks.tuple hh s₁.heap.objs.size a (Nat.ne_of_lt hlt) vs.toArray) (by simp [r.length]) ?_ ?_) ⟨⟨_, Heap.get?_push_size _ rfl, rfl, rfl⟩, p.push _⟩ ?_ ?_
    · rintro i h' ⟨⟨o, e, _⟩, ⟨o', e', _⟩⟩ b hb
      simp at hb
      rcases hb with rfl | rfl
      · exact ⟨_, e⟩
      · exact ⟨_, e'⟩
    · intro i v ds' hv hd
      rw [List.getElem?_map] at hd
      obtain ⟨d, hd', rr⟩ := r.getV (k := i) (by simpa using hv)
      rw [hd'] at hd; cases hd
      exact .cons rr .nil
    · intro b hb
      rw [List.mem_singleton.mp hb]; exact get?_size _
    · intro b hb
      simp only [List.mem_cons, List.not_mem_nil, or_false] at hb
      rcases hb with rfl | rfl
      · exact .inl (get?_size _)
      · obtain ⟨o, e, _, n, hd⟩ := p
        exact .inr ⟨pa, o, _, _, e, hd⟩
end
end Mine
end

section
open PySem PySem.W PyProof.Rows
namespace Mine

theorem Feeds.cast {prog : Program} {w : World} {A : Around} {env : Env} {h : Heap} {P : Addr → Prop} {iter tgt : Expr} {xs : List Str} {dss dss' : List (List D)} (x : Feeds prog w A env h P iter tgt xs dss) (e : dss = dss') :
    Feeds prog w A env h P iter tgt xs dss' := e ▸ x

section
variable {prog : Program} {w : World} {A : Around} {env : Env} {h : Heap} {P : Addr → Prop} {f : Expr} {es : List Expr} {ds : List D} {pos : Pos}
/-- a call of a type -/
theorem wp_call_type {T : String} (x : Ev prog w A env h P f (.raw (.type T))) (y : Evs prog w A env h P es ds) {s : Shared} {Q E : Value → Shared → Prop} (k : Sub h s.heap)
    (q : ∀ vs s₂, Kp s s₂ → RelAll (Nw P s) s₂.heap vs ds → wpAny (model prog w) A (call (.type T) vs) Q E s₂)
    (he : eval (.Call f es [] pos) env = (do callWith pos (← eval f env) [] (backTo pos (starEach es env)) (backToKw pos (keywordEach [] env))) := by first | exact call_name | rfl) :
    wpAny (model prog w) A (eval (.Call f es [] pos) env) Q E s := by
  refine Call_ (x.run s _ _ k fun v s₁ k₁ r₁ => ?_) he
  cases r₁
  refine PyProof.Rows.callWith_type (y.1 pos).1 (evalArgs_of y (k.trans k₁.sub) fun vs s₂ k₂ r₂ => ?_)
  exact q vs s₂ (k₁.trans k₂) (r₂.back k₁)
end

section
variable {prog : Program} {w : World} {A : Around} {env : Env} {h : Heap} {P : Addr → Prop} {x : Str} {pos px : Pos} {f e : Expr}
theorem feeds_range (hh : A.handled = none) {n : Nat} (hn : n ≤ 1000) (hf : Ev prog w A env h P f (.raw (.type "range"))) (he : Ev prog w A env h P e (.int n))
    (hc : eval (.Call f [e] [] pos) env = (do callWith pos (← eval f env) [] (backTo pos (starEach [e] env)) (backToKw pos (keywordEach [] env))) := by first | exact call_name | rfl)
    (hst : notStar e = true := by rfl) :
    Feeds prog w A env h P (.Call f [e] [] pos) (.Name x px) [x] ((List.range n).map fun (i : Nat) => [.int (i : Int)]) := by
  refine ⟨fun s Q E k q => ?_⟩
  refine wp_call_type hf (evs_cons he evs_nil hst) k (fun vs s₂ k₂ r₂ => ?_) hc
  cases r₂ with
  | cons a r =>
    cases r
    cases a with
    | int i t =>
      refine call_range_1 ?_
      have hs : Builtin.Range.small 0 (n : Int) 1 = true := small_one (by omega) (by omega) (by omega) (by omega)
      refine wpAny_pyIter_range (IsRange.new _ _ _ _ _ _ _) hs ?_
      have hz : Builtin.Range.rangeSize 0 (n : Int) 1 = n := by rw [rangeSize_one]; split <;> omega
      generalize hH : s₂.heap.push { cls := .type "range", data := .fields #[.int 0 s₂.toks, .int (n : Int) t, .int 1 (s₂.toks + 1)] } = H
      have sub1 : Sub s₂.heap H := by rw [← hH]; exact sub_push _ _
      refine q _ _ H [H.objs.size] [H.objs.size] _ (k₂.trans (.mk (sub1.trans (sub_push _ _)))) (k₂.sub.trans sub1) (sub_push _ _)
        (Src.ofWalks (Walks.range hh H.objs.size 0 1 n) (by simp) ?_ ?_) ?_ ?_ ?_
      · intro i h' st b hb
        rw [List.mem_singleton.mp hb]
        exact ⟨_, st⟩
      · rintro i v ds ⟨t, rfl⟩ hd
        rw [List.getElem?_map] at hd
        cases hr : (List.range n)[i]? with
        | none => rw [hr] at hd; cases hd
        | some j =>
          rw [hr] at hd; cases hd
          have : j = i := by
            have h1 := (List.getElem?_eq_some_iff.mp hr)
            obtain ⟨h2, h3⟩ := h1
            simpa using h3.symm
          subst this
          rw [show (0 : Int) + (j : Int) * 1 = (j : Int) from by omega]
          exact .cons (.int _ _) .nil
      · show IsRangeIter _ _ _ _ _
        rw [hz]
        exact Heap.get?_push_size _ rfl
      · intro b hb
        rw [List.mem_singleton.mp hb]; exact get?_size _
      · intro b hb
        rw [List.mem_singleton.mp hb]; exact .inl (get?_size _)
end
end Mine
end

section
open PySem PySem.W PyProof.Rows
namespace Mine

section
variable {prog : Program} {w : World} {A : Around} {env : Env} {h : Heap} {P : Addr → Prop} {x y : Str} {pos px py pt : Pos} {kt : Nat} {f e e₂ : Expr}
/-- two lists abreast -/
theorem feeds_zip (hh : A.handled = none) {as bs : List D} (hf : Ev prog w A env h P f (.raw (.type "zip"))) (he : Ev prog w A env h P e (.list as)) (he₂ : Ev prog w A env h P e₂ (.list bs))
    (hc : eval (.Call f [e, e₂] [] pos) env = (do callWith pos (← eval f env) [] (backTo pos (starEach [e, e₂] env)) (backToKw pos (keywordEach [] env))) := by first | exact call_name | rfl)
    (hst : notStar e = true := by rfl) (hst₂ : notStar e₂ = true := by rfl) :
    Feeds prog w A env h P (.Call f [e, e₂] [] pos) (.Tuple [.Name x px, .Name y py] kt pt) [x, y] ((as.zip bs).map fun p => [p.1, p.2]) := by
  refine ⟨fun s Q E k q => ?_⟩
  refine wp_call_type hf (evs_cons he (evs_cons he₂ evs_nil hst₂) hst) k (fun vs s₂ k₂ r₂ => ?_) hc
  cases r₂ with
  | cons a r =>
    cases r with
    | cons c r =>
      cases r
      cases a with
      | @list l1 vs1 _ p1 i1 r1 =>
        cases c with
        | @list l2 vs2 _ p2 i2 r2 =>
          have lt1 : @LT.lt Nat _ l1 s₂.heap.objs.size := by obtain ⟨o, e, _⟩ := i1; exact Heap.lt_size e
          have lt2 : @LT.lt Nat _ l2 s₂.heap.objs.size := by obtain ⟨o, e, _⟩ := i2; exact Heap.lt_size e
          refine call_zip_2 i1 i2 fun h' hz hTI hTO hi1 hi2 hsz hk => ?_
          refine wpAny_pyIter_zip hz ?_
          generalize hN : s₂.heap.objs.size = N at *
          have D0 : ZipApart (N + 4) (N + 2) (N + 3) N (N + 1) l1 l2 := zipApart_new lt1 lt2
          refine q _ _ s₂.heap [N + 4, N + 3, N, N + 1] [N + 4, N + 2, N + 3, N, N + 1, l1, l2] _ (k₂.trans (.heap hk)) k₂.sub hk
            (Src.ofWalksU hh (WalksT.zip2 (prog := prog) (w := w) hh (N + 4) (N + 2) (N + 3) N (N + 1) l1 l2 D0 vs1.toArray vs2.toArray).toU (by simp [r1.length, r2.length]) ?_ ?_)
            ⟨hz, hTI, ⟨_, _, hTO⟩, hi1, hi2, i1.at fun o e => hk _ o e, i2.at fun o e => hk _ o e⟩ ?_ ?_
          · rintro i h'' ⟨hz, hTI, ⟨a, b, hTO⟩, ⟨o1, e1, _⟩, ⟨o2, e2, _⟩, ⟨o3, e3, _⟩, ⟨o4, e4, _⟩⟩ b' hb
            simp only [List.mem_cons, List.not_mem_nil, or_false] at hb
            rcases hb with rfl | rfl | rfl | rfl | rfl | rfl | rfl
            · exact ⟨_, hz⟩
            · exact ⟨_, hTI⟩
            · exact ⟨_, hTO⟩
            · exact ⟨_, e1⟩
            · exact ⟨_, e2⟩
            · exact ⟨_, e3⟩
            · exact ⟨_, e4⟩
          · rintro i vs ds ⟨u, v, hu, hv, rfl⟩ hd
            rw [List.getElem?_map] at hd
            obtain ⟨a, ha, ra⟩ := r1.getV (k := i) (by simpa using hu)
            obtain ⟨b, hb, rb⟩ := r2.getV (k := i) (by simpa using hv)
            have : (as.zip bs)[i]? = some (a, b) := by rw [List.getElem?_zip_eq_some]; exact ⟨ha, hb⟩
            rw [this] at hd; cases hd
            exact ⟨.cons ra (.cons rb .nil), rfl⟩
          · intro b hb
            simp only [List.mem_cons, List.not_mem_nil, or_false] at hb
            have : @LE.le Nat _ N b := by rcases hb with rfl | rfl | rfl | rfl <;> omega
            cases e : s₂.heap.get? b with
            | none => rfl
            | some o => exact absurd (show @LT.lt Nat _ b s₂.heap.objs.size from Heap.lt_size e) (by omega)
          · intro b hb
            simp only [List.mem_cons, List.not_mem_nil, or_false] at hb
            have new : ∀ c : Nat, N ≤ c → s₂.heap.get? c = none := fun c hc => by
              cases e : s₂.heap.get? c with
              | none => rfl
              | some o => exact absurd (show @LT.lt Nat _ c s₂.heap.objs.size from Heap.lt_size e) (by omega)
            rcases hb with rfl | rfl | rfl | rfl | rfl | rfl | rfl
            · exact .inl (new _ (by omega))
            · exact .inl (new _ (by omega))
            · exact .inl (new _ (by omega))
            · exact .inl (new _ (by omega))
            · exact .inl (new _ (by omega))
            · obtain ⟨o, e, _, n, hd⟩ := i1
              exact .inr ⟨p1, o, _, _, e, hd⟩
            · obtain ⟨o, e, _, n, hd⟩ := i2
              exact .inr ⟨p2, o, _, _, e, hd⟩
end

/-! a list and a text abreast -/
structure Apart2 (z TI TO i1 i2 : Addr) (fp1 fp2 : List Addr) : Prop where
  TIz : TI ≠ z
  TOz : TO ≠ z
  TITO : TI ≠ TO
  i1z : i1 ≠ z
  i2z : i2 ≠ z
  TIi1 : TI ≠ i1
  TIi2 : TI ≠ i2
  TOi1 : TO ≠ i1
  TOi2 : TO ≠ i2
  i12 : i1 ≠ i2
  z1 : z ∉ fp1
  z2 : z ∉ fp2
  o1 : TO ∉ fp1
  o2 : TO ∉ fp2
  x1 : i1 ∉ fp2
  x2 : i2 ∉ fp1

section
variable {prog : Program} {w : World} {A : Around} {E : Value → Shared → Prop} {s : Shared} {z TI TO i1 i2 : Addr} {fp1 fp2 : List Addr} {n1 n2 k : Nat} {P1 P2 : Nat → Value → Prop} {St1 St2 : Nat → Heap → Prop} {a b : Value}

theorem zip_item (D1 : Draws prog w A i1 fp1 n1 P1 St1) (D2 : Draws prog w A i2 fp2 n2 P2 St2) (ap : Apart2 z TI TO i1 i2 fp1 fp2)
    (hz : IsZip s.heap z TI TO .none) (hTI : IsPair s.heap TI (.ref i1) (.ref i2)) (hTO : IsPair s.heap TO a b) (st1 : St1 k s.heap) (st2 : St2 k s.heap) (lt1 : k < n1) (lt2 : k < n2) {Q : Value → Shared → Prop}
    (hQ : ∀ x y h' tk (T : Addr), P1 k x → P2 k y → IsZip h' z TI TO (rawInt T) → IsPair h' TI (.ref i1) (.ref i2) → IsPair h' TO x y → St1 (k + 1) h' → St2 (k + 1) h' → IsPair h' T x y → s.heap.objs.size ≤ T →
      (∀ c o, c ≠ z → c ≠ TO → c ≠ i1 → c ≠ i2 → s.heap.get? c = some o → h'.get? c = some o) → Q (.ref T) { s with heap := h', toks := tk }) :
    wpAny (model prog w) A (Builtin.«zip.__next__» ⟨[.ref z], []⟩) (fun fin s' => ∃ v, fin = .done (.ret v) ∧ Q v s') E s := by
  show wpAny _ _ (field (.ref z) 2 >>= _) _ _ _
  refine wpAny_bind (wpAny_field hz rfl (x := .bool false) rfl ?_)
  show wpAny _ _ (field (.ref z) 3 >>= _) _ _ _
  refine wpAny_bind (wpAny_field hz rfl (x := .ref TI) rfl ?_)
  refine wpAny_bind (wpAny_seqItems hTI rfl ?_)
  show wpAny _ _ (Builtin.SmallTypes.ownedTupleIsFree (.ref z) >>= _) _ _ _
  refine wpAny_bind ?_
  unfold Builtin.SmallTypes.ownedTupleIsFree
  refine wpAny_bind (wpAny_field hz rfl (x := .none) rfl (wpAny_pure ?_))
  simp only [if_true]
  refine wpAny_bind (wpAny_rule ?_)
  refine wpAny_bind (wpAny_field hz rfl (x := .ref TO) rfl ?_)
  refine wpAny_bind (wpAny_setField_rec hz (by simp) fun h₁ hz₁ hs₁ => ?_)
  replace hz₁ : IsZip h₁ z TI TO .ellipsis := hz₁
  replace hs₁ : Heap.SameBut z s.heap h₁ := hs₁
  have f1 : ∀ {h h' : Heap} {c : Addr} {j : Nat}, Heap.SameBut c h h' → c ∉ fp1 → St1 j h → St1 j h' := fun hs hc st => D1.frame _ _ _ st fun b' hb o e => hs.extBut b' o (fun q => hc (q ▸ hb)) e
  have f2 : ∀ {h h' : Heap} {c : Addr} {j : Nat}, Heap.SameBut c h h' → c ∉ fp2 → St2 j h → St2 j h' := fun hs hc st => D2.frame _ _ _ st fun b' hb o e => hs.extBut b' o (fun q => hc (q ▸ hb)) e
  refine wpAny_bind ?_
  simp only [List.zipIdx_cons, List.zipIdx_nil, List.forIn_cons, List.forIn_nil]
  refine wpAny_bind (wpAny_bind (wpAny_onRaise ?_))
  show wpAny _ _ (Builtin.SmallTypes.nextOf (.ref i1) >>= _) _ _ _
  refine wpAny_bind (D1.item k _ _ _ lt1 (f1 hs₁ ap.z1 st1) fun x h₂ tk₂ hx st1₂ hs₂ => wpAny_pure ?_)
  replace hs₂ : Heap.SameBut i1 h₁ h₂ := hs₂
  have hTO₂ : IsPair h₂ TO a b := hs₂.extBut _ _ ap.TOi1 (hs₁.extBut _ _ ap.TOz hTO)
  refine wpAny_bind (wpAny_seqItems hTO₂ rfl ?_)
  refine wpAny_bind (wpAny_updateSeq_pair hTO₂ fun h₃ hTO₃ hs₃ => ?_)
  replace hTO₃ : IsPair h₃ TO x b := hTO₃
  replace hs₃ : Heap.SameBut TO h₂ h₃ := hs₃
  refine wpAny_bind (wpAny_letGo (wpAny_pure ?_))
  refine wpAny_bind (wpAny_bind (wpAny_onRaise ?_))
  show wpAny _ _ (Builtin.SmallTypes.nextOf (.ref i2) >>= _) _ _ _
  refine wpAny_bind (D2.item k _ _ _ lt2 (f2 hs₃ ap.o2 (f2 hs₂ ap.x1 (f2 hs₁ ap.z2 st2))) fun y h₄ tk₄ hy st2₄ hs₄ => wpAny_pure ?_)
  replace hs₄ : Heap.SameBut i2 h₃ h₄ := hs₄
  have hTO₄ : IsPair h₄ TO x b := hs₄.extBut _ _ ap.TOi2 hTO₃
  refine wpAny_bind (wpAny_seqItems hTO₄ rfl ?_)
  refine wpAny_bind (wpAny_updateSeq_pair hTO₄ fun h₅ hTO₅ hs₅ => ?_)
  replace hTO₅ : IsPair h₅ TO x y := hTO₅
  replace hs₅ : Heap.SameBut TO h₄ h₅ := hs₅
  refine wpAny_bind (wpAny_letGo (wpAny_pure (wpAny_pure ?_)))
  refine wpAny_bind (wpAny_seqItems hTO₅ rfl ?_)
  refine wpAny_bind (wpAny_newTuple ?_)
  have hsz : h₅.objs.size = s.heap.objs.size := by rw [hs₅.1, hs₄.1, hs₃.1, hs₂.1, hs₁.1]
  have hz₅ : IsZip h₅ z TI TO .ellipsis := hs₅.extBut _ _ ap.TOz.symm (hs₄.extBut _ _ ap.i2z.symm (hs₃.extBut _ _ ap.TOz.symm (hs₂.extBut _ _ ap.i1z.symm hz₁)))
  have hTI₅ : IsPair h₅ TI (.ref i1) (.ref i2) := hs₅.extBut _ _ ap.TITO (hs₄.extBut _ _ ap.TIi2 (hs₃.extBut _ _ ap.TITO (hs₂.extBut _ _ ap.TIi1 (hs₁.extBut _ _ ap.TIz hTI))))
  have hk₅ : ∀ c o, c ≠ z → c ≠ TO → c ≠ i1 → c ≠ i2 → s.heap.get? c = some o → h₅.get? c = some o := fun c o c1 c2 c3 c4 e =>
    hs₅.extBut _ _ c2 (hs₄.extBut _ _ c4 (hs₃.extBut _ _ c2 (hs₂.extBut _ _ c3 (hs₁.extBut _ _ c1 e))))
  have st1₅ : St1 (k + 1) h₅ := f1 hs₅ ap.o1 (f1 hs₄ ap.x2 (f1 hs₃ ap.o1 st1₂))
  have st2₅ : St2 (k + 1) h₅ := f2 hs₅ ap.o2 st2₄
  have hzlt : z < h₅.objs.size := Heap.lt_size hz₅
  show wpAny _ _ (Builtin.SmallTypes.ownedTupleHandOut (.ref z) (.ref h₅.objs.size) >>= _) _ _ _
  refine wpAny_bind ?_
  unfold Builtin.SmallTypes.ownedTupleHandOut
  have hz₆ : IsZip (h₅.push { cls := .type "tuple", data := .seq #[x, y] }) z TI TO .ellipsis := Heap.get?_push_of_some _ hz₅
  refine wpAny_bind (wpAny_setField_rec hz₆ (by simp) fun h₇ hz₇ hs₇ => ?_)
  replace hz₇ : IsZip h₇ z TI TO (rawInt h₅.objs.size) := hz₇
  refine wpAny_setField_rec hz₇ (by simp) fun h₈ hz₈ hs₈ => ?_
  replace hz₈ : IsZip h₈ z TI TO (rawInt h₅.objs.size) := hz₈
  have up : ∀ c o, c ≠ z → h₅.get? c = some o → h₈.get? c = some o := fun c o c1 e => hs₈.extBut _ _ c1 (hs₇.extBut _ _ c1 (Heap.get?_push_of_some _ e))
  have hT₈ : IsPair h₈ h₅.objs.size x y := hs₈.extBut _ _ (Nat.ne_of_gt hzlt) (hs₇.extBut _ _ (Nat.ne_of_gt hzlt) (Heap.get?_push_size _ rfl))
  refine wpAny_pure ⟨_, rfl, ?_⟩
  exact hQ x y h₈ _ h₅.objs.size hx hy hz₈ (up _ _ ap.TIz hTI₅) (up _ _ ap.TOz hTO₅) (D1.frame _ _ _ st1₅ fun c hc o e => up c o (fun q => ap.z1 (q ▸ hc)) e) (D2.frame _ _ _ st2₅ fun c hc o e => up c o (fun q => ap.z2 (q ▸ hc)) e)
    hT₈ (Nat.le_of_eq hsz.symm) fun c o c1 c2 c3 c4 e => up c o c1 (hk₅ c o c1 c2 c3 c4 e)

theorem zip_end (D1 : Draws prog w A i1 fp1 n1 P1 St1) (ap : Apart2 z TI TO i1 i2 fp1 fp2)
    (hz : IsZip s.heap z TI TO .none) (hTI : IsPair s.heap TI (.ref i1) (.ref i2)) (hTO : IsPair s.heap TO a b) (st1 : St1 n1 s.heap) {Q : Fin → Shared → Prop}
    (hE : ∀ h' e, (∀ c o, c ≠ z → c ≠ TO → c ≠ i1 → c ≠ i2 → s.heap.get? c = some o → h'.get? c = some o) → (∃ o, h'.get? e = some o ∧ o.cls = .type "StopIteration") → E (.ref e) { s with heap := h' }) :
    wpAny (model prog w) A (Builtin.«zip.__next__» ⟨[.ref z], []⟩) Q E s := by
  show wpAny _ _ (field (.ref z) 2 >>= _) _ _ _
  refine wpAny_bind (wpAny_field hz rfl (x := .bool false) rfl ?_)
  show wpAny _ _ (field (.ref z) 3 >>= _) _ _ _
  refine wpAny_bind (wpAny_field hz rfl (x := .ref TI) rfl ?_)
  refine wpAny_bind (wpAny_seqItems hTI rfl ?_)
  show wpAny _ _ (Builtin.SmallTypes.ownedTupleIsFree (.ref z) >>= _) _ _ _
  refine wpAny_bind ?_
  unfold Builtin.SmallTypes.ownedTupleIsFree
  refine wpAny_bind (wpAny_field hz rfl (x := .none) rfl (wpAny_pure ?_))
  simp only [if_true]
  refine wpAny_bind (wpAny_rule ?_)
  refine wpAny_bind (wpAny_field hz rfl (x := .ref TO) rfl ?_)
  refine wpAny_bind (wpAny_setField_rec hz (by simp) fun h₁ hz₁ hs₁ => ?_)
  replace hz₁ : IsZip h₁ z TI TO .ellipsis := hz₁
  replace hs₁ : Heap.SameBut z s.heap h₁ := hs₁
  refine wpAny_bind ?_
  simp only [List.zipIdx_cons, List.zipIdx_nil, List.forIn_cons, List.forIn_nil]
  refine wpAny_bind (wpAny_bind (wpAny_onRaise ?_))
  show wpAny _ _ (Builtin.SmallTypes.nextOf (.ref i1) >>= _) _ _ _
  refine wpAny_bind (D1.done _ _ _ (D1.frame _ _ _ st1 fun c hc o e => hs₁.extBut c o (fun q => ap.z1 (q ▸ hc)) e) fun h₂ e hs₂ he => ?_)
  obtain ⟨oe, hoe, hce⟩ := he
  replace hs₂ : Heap.ExtBut i1 h₁ h₂ := hs₂
  have hz₂ : IsZip h₂ z TI TO .ellipsis := hs₂ _ _ ap.i1z.symm hz₁
  have hez : e ≠ z := fun x => by subst x; rw [hz₂] at hoe; cases hoe; simp at hce
  refine wpAny_setField_rec hz₂ (by simp) fun h₃ _ hs₃ => hE h₃ e (fun c o c1 _ c3 _ x => hs₃.extBut _ _ c1 (hs₂ _ _ c3 (hs₁.extBut _ _ c1 x))) ⟨oe, hs₃.extBut _ _ hez hoe, hce⟩
end

section
variable {prog : Program} {w : World} {A : Around} {z TI TO i1 i2 : Addr} {fp1 fp2 : List Addr} {n1 n2 : Nat} {P1 P2 : Nat → Value → Prop} {St1 St2 : Nat → Heap → Prop}
theorem walks_zip (D1 : ∀ A' : Around, A'.handled = none → Draws prog w A' i1 fp1 n1 P1 St1) (D2 : ∀ A' : Around, A'.handled = none → Draws prog w A' i2 fp2 n2 P2 St2) (hh : A.handled = none) (ap : Apart2 z TI TO i1 i2 fp1 fp2) (hn : n1 ≤ n2)
    (h1 : i1 ∈ fp1) (h2 : i2 ∈ fp2) :
    WalksU prog w A z ([z, TI, TO] ++ fp1 ++ fp2) [z, TO, i1, i2] n1 (fun i vals => ∃ x y, P1 i x ∧ P2 i y ∧ vals = #[x, y])
      (fun i h => IsZip h z TI TO .none ∧ IsPair h TI (.ref i1) (.ref i2) ∧ (∃ a b, IsPair h TO a b) ∧ St1 i h ∧ St2 i h)
      (fun i T h => IsZip h z TI TO (rawInt T) ∧ IsPair h TI (.ref i1) (.ref i2) ∧ (∃ a b, IsPair h TO a b) ∧ St1 (i + 1) h ∧ St2 (i + 1) h ∧ T ≠ z ∧ T ≠ TO ∧ T ≠ i1 ∧ T ≠ i2) where
  sub := fun c hc => by
    simp only [List.mem_cons, List.not_mem_nil, or_false] at hc
    rcases hc with rfl | rfl | rfl | rfl
    · simp
    · simp
    · simp [h1]
    · simp [h2]
  frame := fun i h h' hst hk => by
    obtain ⟨hz, hTI, ⟨a, b, hTO⟩, s1, s2⟩ := hst
    exact ⟨hk z (by simp) _ hz, hk TI (by simp) _ hTI, ⟨a, b, hk TO (by simp) _ hTO⟩, (D1 A hh).frame _ _ _ s1 fun c hc o e => hk c (by simp [hc]) o e, (D2 A hh).frame _ _ _ s2 fun c hc o e => hk c (by simp [hc]) o e⟩
  item := fun i s Q E hi hst hQ => by
    obtain ⟨hz, hTI, ⟨a, b, hTO⟩, s1, s2⟩ := hst
    have hT : s.TypeIs (.ref z) "zip" := ⟨_, hz, rfl⟩
    have lz : @LT.lt Nat _ z s.heap.objs.size := Heap.lt_size hz
    have lTO : @LT.lt Nat _ TO s.heap.objs.size := Heap.lt_size hTO
    have l1 : @LT.lt Nat _ i1 s.heap.objs.size := by obtain ⟨_, e⟩ := (D1 A hh).live _ _ s1; exact Heap.lt_size e
    have l2 : @LT.lt Nat _ i2 s.heap.objs.size := by obtain ⟨_, e⟩ := (D2 A hh).live _ _ s2; exact Heap.lt_size e
    unfold pyNext
    refine wpAny_bind (wpAny_attempt (wpAny_callSpecial?_slot (name := Str.ofString "__next__") hT F.slot_zip_next
      (wpAny_call_entry F.slot_zip_next hT F.entry_zip_next
        (zip_item (D1 A.in1 hh) (D2 A.in1 hh) ap hz hTI hTO s1 s2 hi (Nat.lt_of_lt_of_le hi hn) fun x y h' tk T hx hy a1 a2 a3 a4 a5 a6 a7 hk => wpAny_pure ?_) (F.args_zip_next_1 _))))
    have a7' : @LE.le Nat _ s.heap.objs.size T := a7
    refine hQ T #[x, y] h' tk ⟨x, y, hx, hy, rfl⟩ ⟨_, a6, rfl, _, rfl⟩ ⟨a1, a2, ⟨_, _, a3⟩, a4, a5, ?_, ?_, ?_, ?_⟩ fun c o hc e => ?_
    · show @Ne Nat _ _; omega
    · show @Ne Nat _ _; omega
    · show @Ne Nat _ _; omega
    · show @Ne Nat _ _; omega
    · exact hk c o (fun q => hc (by simp [q])) (fun q => hc (by simp [q])) (fun q => hc (by simp [q])) (fun q => hc (by simp [q])) e
  go := fun elts k pos i T s Q E hm hQ => by
    obtain ⟨hz, hTI, ⟨a, b, hTO⟩, s1, s2, _⟩ := hm
    refine wpAny_letOwnedTupleGo_zip hz fun h' hz' hs' => hQ h' ⟨hz', hs'.extBut _ _ ap.TIz hTI, ⟨a, b, hs'.extBut _ _ ap.TOz hTO⟩, (D1 A hh).frame _ _ _ s1 fun c hc o e => hs'.extBut c o (fun q => ap.z1 (q ▸ hc)) e,
      (D2 A hh).frame _ _ _ s2 fun c hc o e => hs'.extBut c o (fun q => ap.z2 (q ▸ hc)) e⟩ fun c o hc e => hs'.extBut _ _ (fun q => hc (by simp [q])) e
  apart := fun i T h hm hT => by
    obtain ⟨_, _, _, _, _, t1, t2, t3, t4⟩ := hm
    simp only [List.mem_cons, List.not_mem_nil, or_false] at hT
    rcases hT with rfl | rfl | rfl | rfl
    · exact t1 rfl
    · exact t2 rfl
    · exact t3 rfl
    · exact t4 rfl
  done := fun s Q E hst hQ => by
    obtain ⟨hz, hTI, ⟨a, b, hTO⟩, s1, s2⟩ := hst
    have hT : s.TypeIs (.ref z) "zip" := ⟨_, hz, rfl⟩
    unfold pyNext
    refine wpAny_bind (wpAny_attempt (wpAny_callSpecial?_slot (name := Str.ofString "__next__") hT F.slot_zip_next
      (wpAny_call_entry F.slot_zip_next hT F.entry_zip_next (zip_end (D1 A.in1 hh) ap hz hTI hTO s1 fun h' e hk he => ?_) (F.args_zip_next_1 _))))
    obtain ⟨o, ho, hc⟩ := he
    refine wpAny_bind (wpAny_isInstance (T := "StopIteration") (b := true) ⟨o, ho, hc⟩ isSubtype_stop ?_)
    exact wpAny_pure (hQ h' s.toks fun c o hc e => hk c o (fun q => hc (by simp [q])) (fun q => hc (by simp [q])) (fun q => hc (by simp [q])) (fun q => hc (by simp [q])) e)
  self := fun i s Q E hst hQ => wpAny_pyIter_zip hst.1 hQ
end
end Mine
end

section
open PySem PySem.W PyProof.Rows
namespace Mine

abbrev zs2 (h : Heap) (l1 : Addr) (x : Str) (t : Tok) : Heap := (zipH1 h l1).push { cls := .type (strIterType x), data := .fields #[.str x t, .int 0 0] }
abbrev zs3 (h : Heap) (l1 : Addr) (x : Str) (t : Tok) : Heap := (zs2 h l1 x t).push { cls := .type "tuple", data := .seq #[.ref h.objs.size, .ref (zipH1 h l1).objs.size] }
abbrev zs4 (h : Heap) (l1 : Addr) (x : Str) (t : Tok) : Heap := (zs3 h l1 x t).push { cls := .type "tuple", data := .seq #[.none, .none] }
abbrev zs5 (h : Heap) (l1 : Addr) (x : Str) (t : Tok) : Heap := (zs4 h l1 x t).push { cls := .type "zip", data := .fields #[.none, .bool false, .bool false, .ref (zs2 h l1 x t).objs.size, .ref (zs3 h l1 x t).objs.size] }

theorem newClass_zip (a b : Value) : Builtin.SmallTypes.newClass "zip" ⟨[.type "zip", a, b], []⟩ = pure (.type "zip", [a, b]) := by
  unfold Builtin.SmallTypes.newClass
  simp only [sub_zip, pure_bind]
  rfl
theorem iterAll_two {prog : Program} {w : World} {A : Around} {E : Value → Shared → Prop} {s : Shared} {a b : Value} {Q : List Value → Shared → Prop}
    (h : wpAny (model prog w) A (pyIter a) (fun i s₁ => wpAny (model prog w) A (pyIter b) (fun j s₂ => Q [i, j] s₂) E s₁) E s) : wpAny (model prog w) A (Builtin.SmallTypes.iterAll [a, b]) Q E s := by
  unfold Builtin.SmallTypes.iterAll
  simp only [List.forIn_cons, List.forIn_nil]
  refine wpAny_bind (wpAny_bind (wpAny_bind (wpAny_holding (wpAny_mono h (fun i s₁ h₁ => ?_) fun _ _ z => z))))
  refine wpAny_pure (wpAny_bind (wpAny_bind (wpAny_holding (wpAny_mono h₁ (fun j s₂ h₂ => ?_) fun _ _ z => z))))
  exact wpAny_pure (wpAny_pure (wpAny_pure h₂))
theorem meets_zip_ls (l1 : Addr) (xs : Array Value) (x : Str) (t : Tok) :
    Meets (Builtin.«zip.__new__» ⟨[.type "zip", .ref l1, .str x t], []⟩) (fun _ R s => s.heap.IsList l1 xs ∧
      R (.ok (.ret (.ref (zs4 s.heap l1 x t).objs.size))) { s with heap := zs5 s.heap l1 x t }) := by
  rintro prog w A R s ⟨hl1, h⟩
  show wpAny _ _ (Builtin.SmallTypes.newClass "zip" ⟨[.type "zip", .ref l1, .str x t], []⟩ >>= _) _ _ _
  rw [newClass_zip]
  refine wpAny_bind (wpAny_pure ?_)
  simp only [List.length_nil, Nat.not_lt_zero, if_false]
  refine wpAny_bind (iterAll_two (wpAny_pyIter_list hl1 (wpAny_pyIter_strU ?_)))
  refine wpAny_bind (wpAny_newTuple ?_)
  refine wpAny_bind (wpAny_newTuple ?_)
  refine wpAny_bind ?_
  unfold Builtin.SmallTypes.newRecord
  refine wpAny_newObj_type ?_ (by show 5 ≤ sizeLine + 2; rw [sizeLine_eq]; omega)
  exact wpAny_pure h
open AutoSeq1 (wpAny_loadPart') in
theorem meets_enum_tup (l : Addr) (items : Array Value) (n : Nat) (dct : Option Addr) (sl : Array (Option Value)) :
    Meets (Builtin.«enumerate.__new__» ⟨[.type "enumerate", .ref l], []⟩) (fun _ R s => s.heap.get? l = some { cls := .type "tuple", dict := dct, data := .seq items n, slots := sl } ∧
      R (.ok (.ret (.ref (s.heap.push { cls := .type "tuple_iterator", data := .fields #[.ref l, .int 0 0] }).objs.size)))
        { s with heap := (s.heap.push { cls := .type "tuple_iterator", data := .fields #[.ref l, .int 0 0] }).push { cls := .type "enumerate", data := .fields #[.none, .bool false, .ref s.heap.objs.size, rawInt 0, .none, .none] } }) :=
  .of_wp fun prog w A R s h => by
    obtain ⟨hp, g, d, tk, os⟩ := s; obtain ⟨hl, h⟩ := h
    have hsub := sub_enumerate
    have hL : Heap.IsTuple (Shared.heap ⟨hp, g, d, tk, os⟩) l items := ⟨_, hl, rfl, n, rfl⟩
    wp_walk
    refine wpAny_stack_any fun st => wpAny_pure ?_
    split
    · rename_i c _ _ _ _ _
      cases (c == Value.type "enumerate")
      · wp_walk using wpAny_loadPart' hl, wpAny_pyIter_tuple hL
        exact ⟨_, rfl, h⟩
      · wp_walk using wpAny_loadPart' hl, wpAny_pyIter_tuple hL
        exact ⟨_, rfl, h⟩
    · wp_walk using wpAny_loadPart' hl, wpAny_pyIter_tuple hL
      exact ⟨_, rfl, h⟩
end Mine
end

section
open PySem PySem.W PyProof.Rows
namespace Mine

section
variable {prog : Program} {w : World} {A : Around} {E : Value → Shared → Prop} {s : Shared}
theorem nextOf_tuple_item {it t : Addr} {i : Nat} {items : Array Value} {x : Value} {Q : Value → Shared → Prop} (hit : s.heap.IsTupleIter it t i) (ht : s.heap.IsTuple t items) (hx : items[i]? = some x)
    (hQ : ∀ h', h'.IsTupleIter it t (i + 1) → Heap.SameBut it s.heap h' → Q x { s with heap := h' }) : wpAny (model prog w) A (Builtin.SmallTypes.nextOf (.ref it)) Q E s := by
  obtain ⟨o, ho, hc, hd⟩ := id hit
  obtain ⟨ol, hol, _, nl, hdl⟩ := ht
  unfold Builtin.SmallTypes.nextOf
  refine wpAny_bind (wpAny_callSpecial?_slot (name := Str.ofString "__next__") hit.typeIs F.slot_tuple_iterator_next
    (wpAny_call_entry F.slot_tuple_iterator_next hit.typeIs F.entry_tuple_iterator_next ?_ (F.args_tuple_iterator_next_1 _)))
  show wpAny _ _ (field (.ref it) 0 >>= _) _ _ s
  refine wpAny_bind (wpAny_field ho hd (x := .ref t) rfl ?_)
  show wpAny _ _ (if (Value.ref t == Value.none) = true then _ else _) _ _ s
  rw [if_neg (show ¬ ((Value.ref t == Value.none) = true) from Bool.false_ne_true)]
  show wpAny _ _ (field (.ref it) 1 >>= _) _ _ s
  refine wpAny_bind (wpAny_field ho hd (x := .int i 0) rfl ?_)
  show wpAny _ _ (seqItems? (.ref t) >>= _) _ _ s
  refine wpAny_bind (wpAny_seqItems hol hdl ?_)
  simp only [Int.toNat_natCast, hx]
  refine wpAny_bind (wpAny_setField ho hd (by simp) (wpAny_pure ⟨x, rfl, wpAny_pure (hQ _ ?_ (Heap.SameBut.update ..))⟩))
  exact ⟨_, Heap.get?_update_self _ ho (Obj.isFreed_of_fields (Obj.data_mapFields hd _)), (Obj.cls_mapFields ..).trans hc, by
    rw [Obj.data_mapFields hd]; simp [rawInt]⟩
theorem nextOf_tuple_end {it t : Addr} {i : Nat} {items : Array Value} {Q : Value → Shared → Prop} (hh : A.handled = none) (hit : s.heap.IsTupleIter it t i) (ht : s.heap.IsTuple t items) (hx : items[i]? = none)
    (hE : ∀ h' e, Heap.ExtBut it s.heap h' → (∃ o, h'.get? e = some o ∧ o.cls = .type "StopIteration") → E (.ref e) { s with heap := h' }) : wpAny (model prog w) A (Builtin.SmallTypes.nextOf (.ref it)) Q E s := by
  obtain ⟨o, ho, hc, hd⟩ := id hit
  obtain ⟨ol, hol, _, nl, hdl⟩ := ht
  unfold Builtin.SmallTypes.nextOf
  refine wpAny_bind (wpAny_callSpecial?_slot (name := Str.ofString "__next__") hit.typeIs F.slot_tuple_iterator_next
    (wpAny_call_entry F.slot_tuple_iterator_next hit.typeIs F.entry_tuple_iterator_next ?_ (F.args_tuple_iterator_next_1 _)))
  show wpAny _ _ (field (.ref it) 0 >>= _) _ _ s
  refine wpAny_bind (wpAny_field ho hd (x := .ref t) rfl ?_)
  show wpAny _ _ (if (Value.ref t == Value.none) = true then _ else _) _ _ s
  rw [if_neg (show ¬ ((Value.ref t == Value.none) = true) from Bool.false_ne_true)]
  show wpAny _ _ (field (.ref it) 1 >>= _) _ _ s
  refine wpAny_bind (wpAny_field ho hd (x := .int i 0) rfl ?_)
  show wpAny _ _ (seqItems? (.ref t) >>= _) _ _ s
  refine wpAny_bind (wpAny_seqItems hol hdl ?_)
  simp only [Int.toNat_natCast, hx]
  refine wpAny_bind (wpAny_rule (wpAny_bind (wpAny_setField ho hd (by simp) ?_)))
  show wpAny _ _ (newExc (.type "StopIteration") [] >>= _) _ _ _
  refine wpAny_bind ?_
  simp only [newExc, newTuple]
  refine wpAny_bind (wpAny_newObj_type ?_ (by size_fits))
  refine wpAny_bind (m := firstArgMember _ _) (wpAny_of_eq (a := Value.none) (by first | rfl | (simp only [firstArgMember]; rfl)) ?_)
  refine wpAny_newObj_type ?_ (by size_fits)
  simp only [raiseNew]
  refine wpAny_bind (wpAny_handled ?_)
  first | rw [show A.in1.handled = none from hh] | rw [hh]
  refine wpAny_bind (wpAny_pure (wpAny_throw ?_))
  exact hE _ _ (((Heap.SameBut.update ..).extBut.push _).push _) ⟨_, Heap.get?_push_size _ rfl, rfl⟩
end
theorem letGo_tupleiter {prog : Program} {w : World} {A : Around} {E : Value → Shared → Prop} {s : Shared} {elts : List Expr} {k : Nat} {pos : Pos} {I l T : Addr} {i : Nat} {Q : Unit → Shared → Prop} (hit : s.heap.IsTupleIter I l i) (hQ : Q () s) :
    wpAny (model prog w) A (letOwnedTupleGo (.Tuple elts k pos) (.ref I) (.ref T)) Q E s := by
  obtain ⟨o, ho, hc, hd⟩ := hit
  unfold letOwnedTupleGo
  refine wpAny_bind (wpAny_load ho ?_)
  rw [hc, hd]
  dsimp only
  rw [if_neg (by
    intro h
    have h1 := (Bool.and_eq_true_iff.mp h).1
    revert h1
    decide)]
  exact wpAny_pure hQ
theorem draws_tuple {prog : Program} {w : World} {A : Around} (hh : A.handled = none) (it l : Addr) (hne : l ≠ it) (items : Array Value) :
    Draws prog w A it [it, l] items.size (fun i v => items[i]? = some v) (fun i h => h.IsTupleIter it l i ∧ h.IsTuple l items) where
  live := fun _ _ st => let ⟨o, ho, _⟩ := st.1; ⟨o, ho⟩
  frame := fun _ _ _ st hk => ⟨st.1.at fun o e => hk it (by simp) o e, st.2.at fun o e => hk l (by simp) o e⟩
  item := fun i s Q E hi st hQ => by
    refine nextOf_tuple_item st.1 st.2 (x := items[i]) (by simp [hi]) fun h' hit' hs' => ?_
    exact hQ _ h' s.toks (by simp [hi]) ⟨hit', st.2.extBut hs'.extBut hne⟩ hs'
  done := fun s Q E st hE => nextOf_tuple_end hh st.1 st.2 (by simp) hE

section
variable {prog : Program} {w : World} {A : Around} {env : Env} {h : Heap} {P : Addr → Prop} {x y : Str} {pos px py pt : Pos} {kt : Nat} {f e e₂ : Expr}
/-- the places of a tuple, told -/
theorem feeds_enum (hh : A.handled = none) {as : List D} (hf : Ev prog w A env h P f (.raw (.type "enumerate"))) (he : Ev prog w A env h P e (.tup as))
    (hc : eval (.Call f [e] [] pos) env = (do callWith pos (← eval f env) [] (backTo pos (starEach [e] env)) (backToKw pos (keywordEach [] env))) := by first | exact call_name | rfl)
    (hst : notStar e = true := by rfl) :
    Feeds prog w A env h P (.Call f [e] [] pos) (.Tuple [.Name x px, .Name y py] kt pt) [x, y] (as.zipIdx.map fun p => [.int (p.2 : Nat), p.1]) := by
  refine ⟨fun s Q E k q => ?_⟩
  refine wp_call_type hf (evs_cons he evs_nil hst) k (fun vs s₂ k₂ r₂ => ?_) hc
  cases r₂ with
  | cons a r =>
    cases r
    cases a with
    | @tup l vs _ pl i1 r1 =>
      have lt1 : @LT.lt Nat _ l s₂.heap.objs.size := by obtain ⟨o, e, _⟩ := i1; exact Heap.lt_size e
      obtain ⟨⟨c, dct, dt, sl⟩, hl, hcc, n, hd⟩ := id i1
      replace hcc : c = .type "tuple" := hcc
      replace hd : dt = .seq vs.toArray n := hd
      subst hcc hd
      refine callType_new F.called_enumerate (by decide) (F.typeCall_enumerate_1 _) (F.newCall_enumerate_1 _) (fun obj => F.args_object_init_2 obj _) F.entry_enumerate_new
        (meets_enum_tup l vs.toArray n dct sl) ⟨hl, ?_⟩
      generalize hH1 : s₂.heap.push { cls := .type "tuple_iterator", data := .fields #[.ref l, .int 0 0] } = H1
      have z1 : H1.objs.size = s₂.heap.objs.size + 1 := by rw [← hH1, Heap.size_push]
      generalize hH2 : H1.push { cls := .type "enumerate", data := .fields #[.none, .bool false, .ref s₂.heap.objs.size, rawInt 0, .none, .none] } = H2
      have g1 : H1.IsTupleIter s₂.heap.objs.size l 0 := by rw [← hH1]; exact ⟨_, Heap.get?_push_size _ rfl, rfl, rfl⟩
      have s1 : Sub s₂.heap H1 := by rw [← hH1]; exact sub_push _ _
      have s2 : Sub H1 H2 := by rw [← hH2]; exact sub_push _ _
      have he2 : IsEnum H2 H1.objs.size s₂.heap.objs.size 0 .none := by rw [← hH2]; exact Heap.get?_push_size _ rfl
      refine ⟨⟨_, he2, rfl⟩, wpAny_pyIter_enum he2 ?_⟩
      have hne : @Ne Nat H1.objs.size s₂.heap.objs.size := by omega
      have hl1 : @Ne Nat l s₂.heap.objs.size := by omega
      have hl2 : @Ne Nat l H1.objs.size := by omega
      have Dr : Draws prog w A.in1 s₂.heap.objs.size [s₂.heap.objs.size, l] vs.toArray.size (fun i v => vs.toArray[i]? = some v) _ := draws_tuple (A := A.in1) hh s₂.heap.objs.size l hl1 vs.toArray
      refine q _ _ s₂.heap [H1.objs.size, s₂.heap.objs.size] (H1.objs.size :: [s₂.heap.objs.size, l]) _ (k₂.trans (.heap (s1.trans s2))) k₂.sub (s1.trans s2)
        (Src.ofWalksU hh (WalksT.enumerateD Dr H1.objs.size hne (by simp; exact ⟨hne, hl2.symm⟩) (by simp)).toU (by simp [r1.length]) ?_ ?_) ⟨⟨_, he2⟩, g1.at fun o e => s2 _ o e, i1.at fun o e => s2 _ o (s1 _ o e)⟩ ?_ ?_
      · rintro i h'' ⟨⟨old, he⟩, ⟨o1, e1, _⟩, ⟨o2, e2, _⟩⟩ b hb
        simp only [List.mem_cons, List.not_mem_nil, or_false] at hb
        rcases hb with rfl | rfl | rfl
        · exact ⟨_, he⟩
        · exact ⟨_, e1⟩
        · exact ⟨_, e2⟩
      · rintro i vals ds ⟨t, u, hu, rfl⟩ hd
        rw [List.getElem?_map, List.getElem?_zipIdx] at hd
        obtain ⟨a, ha, ra⟩ := r1.getV (k := i) (by simpa using hu)
        rw [ha] at hd; cases hd
        refine ⟨.cons ?_ (.cons ra .nil), rfl⟩
        rw [Nat.zero_add]
        exact .int _ _
      · intro b hb
        simp only [List.mem_cons, List.not_mem_nil, or_false] at hb
        have : @LE.le Nat _ s₂.heap.objs.size b := by rcases hb with rfl | rfl <;> omega
        cases e : s₂.heap.get? b with
        | none => rfl
        | some o => exact absurd (show @LT.lt Nat _ b s₂.heap.objs.size from Heap.lt_size e) (by omega)
      · intro b hb
        simp only [List.mem_cons, List.not_mem_nil, or_false] at hb
        have new : ∀ c : Nat, s₂.heap.objs.size ≤ c → s₂.heap.get? c = none := fun c hc => by
          cases e : s₂.heap.get? c with
          | none => rfl
          | some o => exact absurd (show @LT.lt Nat _ c s₂.heap.objs.size from Heap.lt_size e) (by omega)
        rcases hb with rfl | rfl | rfl
        · exact .inl (new _ (by omega))
        · exact .inl (new _ (by omega))
        · exact .inr ⟨pl, _, _, _, hl, rfl⟩

/-- a tuple of pairs -/
theorem feeds_pairs (hh : A.handled = none) {as : List (D × D)} (he : Ev prog w A env h P e (.tup (as.map fun p => .tup [p.1, p.2]))) :
    Feeds prog w A env h P e (.Tuple [.Name x px, .Name y py] kt pt) [x, y] (as.map fun p => [p.1, p.2]) := by
  refine ⟨fun s Q E k q => ?_⟩
  refine he.run s _ _ k fun v s₁ k₁ r => ?_
  cases r with
  | @tup a vs _ pa p r =>
    have hlt : @LT.lt Nat _ a s₁.heap.objs.size := by obtain ⟨o, e, _⟩ := p; exact Heap.lt_size e
    refine wpAny_pyIter_tuple p ?_
    have W := Walks.tuple (prog := prog) (w := w) hh s₁.heap.objs.size a (Nat.ne_of_lt hlt) vs.toArray
    refine q _ _ s₁.heap [s₁.heap.objs.size] [s₁.heap.objs.size, a] (fun i h => h.IsTupleIter s₁.heap.objs.size a i ∧ h.IsTuple a vs.toArray) (k₁.trans (.heap (sub_push _ _))) k₁.sub (sub_push _ _) ?_ ⟨⟨_, Heap.get?_push_size _ rfl, rfl, rfl⟩, p.push _⟩ ?_ ?_
    · refine ⟨W.sub, ?_, W.frame, ?_, ?_, W.self⟩
      · rintro i h' ⟨⟨o, e, _⟩, ⟨o', e', _⟩⟩ b hb
        simp only [List.mem_cons, List.not_mem_nil, or_false] at hb
        rcases hb with rfl | rfl
        · exact ⟨_, e⟩
        · exact ⟨_, e'⟩
      · intro i ds env' s₂ Q₂ E₂ hi st ks q₂
        rw [List.getElem?_map] at hi
        cases ha : as[i]? with
        | none => rw [ha] at hi; cases hi
        | some pr =>
          rw [ha] at hi; cases hi
          have hil : i < vs.toArray.size := by
            have := (List.getElem?_eq_some_iff.mp ha).1
            have := r.length
            simp at this ⊢; omega
          refine W.item i s₂ _ E₂ hil st fun v h' tk hv st' hk => ⟨v, rfl, ?_⟩
          obtain ⟨d, hd, rv⟩ := r.getV (k := i) (by simpa using hv)
          rw [List.getElem?_map, ha] at hd; cases hd
          cases rv with
          | @tup T us _ pT hT rT =>
            have hT' : h'.IsTuple T us.toArray := hT.at fun o e => hk T o (by simp; rintro rfl; rw [get?_size] at e; cases e) (ks T o pT e (let ⟨o', e', _, n, hd⟩ := hT; by rw [e'] at e; cases e; exact ⟨_, n, hd⟩))
            refine letGo_tupleiter st'.1 ?_
            refine wpAny_assign_Tuple hh hT' (by rw [List.size_toArray, rT.length]; rfl) rfl fun h₃ hx => ?_
            have up : ∀ b o, h'.get? b = some o → h₃.get? b = some o := fun b o e => hx b o (Nat.ne_of_lt (Heap.lt_size e)) e
            have nx := q₂ us h₃ tk rT (W.frame _ _ _ st' fun b _ o e => up b o e) fun b o hb e => up b o (hk b o hb e)
            clear hx up
            cases rT with
            | @cons u us _ _ ru rT =>
              cases rT with
              | @cons v us _ _ rv rT =>
                cases rT
                refine assignInOrder_cons (wpAny_assign_Name (wpAny_mono nx (fun _ s' h' => ?_) fun _ _ z => z))
                exact assignInOrder_cons (wpAny_assign_Name (wpAny_mono h' (fun _ s' h' => assignInOrder_nil h') fun _ _ z => z))
      · intro s₂ Q₂ E₂ st ks q₂
        have hlv : vs.toArray.size = (as.map fun p => [p.1, p.2]).length := by have := r.length; simp at this ⊢; exact this
        exact W.done s₂ Q₂ E₂ (by rw [hlv]; exact st) q₂
    · intro b hb
      rw [List.mem_singleton.mp hb]; exact get?_size _
    · intro b hb
      simp only [List.mem_cons, List.not_mem_nil, or_false] at hb
      rcases hb with rfl | rfl
      · exact .inl (get?_size _)
      · obtain ⟨o, e, _, n, hd⟩ := p
        exact .inr ⟨pa, o, _, _, e, hd⟩

/-- the signs of a text -/
def signs (y : Str) : List Str := y.cps.toList.map fun c => ⟨#[c]⟩
theorem feeds_zip_str (hh : A.handled = none) {as : List D} {t : Str} (hf : Ev prog w A env h P f (.raw (.type "zip"))) (he : Ev prog w A env h P e (.list as)) (he₂ : Ev prog w A env h P e₂ (.str t)) (hlen : as.length ≤ t.cps.size)
    (hc : eval (.Call f [e, e₂] [] pos) env = (do callWith pos (← eval f env) [] (backTo pos (starEach [e, e₂] env)) (backToKw pos (keywordEach [] env))) := by first | exact call_name | rfl)
    (hst : notStar e = true := by rfl) (hst₂ : notStar e₂ = true := by rfl) :
    Feeds prog w A env h P (.Call f [e, e₂] [] pos) (.Tuple [.Name x px, .Name y py] kt pt) [x, y] ((as.zip (signs t)).map fun p => [p.1, .str p.2]) := by
  refine ⟨fun s Q E k q => ?_⟩
  refine wp_call_type hf (evs_cons he (evs_cons he₂ evs_nil hst₂) hst) k (fun vs s₂ k₂ r₂ => ?_) hc
  cases r₂ with
  | cons a r =>
    cases r with
    | cons c r =>
      cases r
      cases a with
      | @list l1 vs1 _ p1 i1 r1 =>
        cases c with
        | str t tk =>
          have lt1 : @LT.lt Nat _ l1 s₂.heap.objs.size := by obtain ⟨o, e, _⟩ := i1; exact Heap.lt_size e
          refine callType_new F.called_zip (by decide) (F.typeCall_zip_2 _ _) (F.newCall_zip_2 _ _) (fun obj => F.args_object_init_3 obj _ _) F.entry_zip_new (meets_zip_ls l1 vs1.toArray t tk) ⟨i1, ?_⟩
          generalize hN : s₂.heap.objs.size = N at *
          have z1 : (zipH1 s₂.heap l1).objs.size = N + 1 := by rw [← hN]; exact Heap.size_push ..
          have z2 : (zs2 s₂.heap l1 t tk).objs.size = N + 2 := by rw [Heap.size_push, z1]
          have z3 : (zs3 s₂.heap l1 t tk).objs.size = N + 3 := by rw [Heap.size_push, z2]
          have z4 : (zs4 s₂.heap l1 t tk).objs.size = N + 4 := by rw [Heap.size_push, z3]
          have g5 : (zs5 s₂.heap l1 t tk).get? (zs4 s₂.heap l1 t tk).objs.size = some _ := Heap.get?_push_size _ rfl
          have g4 : (zs5 s₂.heap l1 t tk).get? (zs3 s₂.heap l1 t tk).objs.size = some _ := Heap.get?_push_of_some _ (Heap.get?_push_size _ rfl)
          have g3 : (zs5 s₂.heap l1 t tk).get? (zs2 s₂.heap l1 t tk).objs.size = some _ := Heap.get?_push_of_some _ (Heap.get?_push_of_some _ (Heap.get?_push_size _ rfl))
          have g2 : (zs5 s₂.heap l1 t tk).get? (zipH1 s₂.heap l1).objs.size = some _ := Heap.get?_push_of_some _ (Heap.get?_push_of_some _ (Heap.get?_push_of_some _ (Heap.get?_push_size _ rfl)))
          have g1 : (zs5 s₂.heap l1 t tk).get? s₂.heap.objs.size = some _ := Heap.get?_push_of_some _ (Heap.get?_push_of_some _ (Heap.get?_push_of_some _ (Heap.get?_push_of_some _ (Heap.get?_push_size _ rfl))))
          have up : Sub s₂.heap (zs5 s₂.heap l1 t tk) := fun c o x =>
            Heap.get?_push_of_some _ (Heap.get?_push_of_some _ (Heap.get?_push_of_some _ (Heap.get?_push_of_some _ (Heap.get?_push_of_some _ x))))
          rw [z2, z3, z4] at g5
          rw [z1, z2, hN] at g3
          rw [z3] at g4
          rw [z1] at g2
          rw [hN] at g1
          rw [z4]
          refine ⟨⟨_, g5, rfl⟩, wpAny_pyIter_zip (TI := N + 2) (TO := N + 3) g5 ?_⟩
          have D1 : ∀ A' : Around, A'.handled = none → Draws prog w A' N [N, l1] vs1.toArray.size _ _ := fun A' hA => Draws.list hA N l1 (show @Ne Nat _ _ by omega) vs1.toArray
          obtain ⟨St2, hD2, st2⟩ : ∃ St2 : Nat → Heap → Prop, (∀ A' : Around, A'.handled = none → Draws prog w A' (N + 1) [N + 1] t.cps.size (fun i v => ∃ c u, t.cps[i]? = some c ∧ v = .str ⟨#[c]⟩ u) St2) ∧ St2 0 (zs5 s₂.heap l1 t tk) := by
            have g2' : (zs5 s₂.heap l1 t tk).get? (N + 1) = some { cls := .type (strIterType t), data := .fields #[.str t tk, .int 0 0] } := g2
            unfold strIterType at g2'
            split at g2'
            · exact ⟨_, fun A' hA => Draws.strAscii hA (N + 1) t tk, ⟨_, g2', rfl, rfl⟩⟩
            · exact ⟨_, fun A' hA => Draws.strWide hA (N + 1) t tk, ⟨_, g2', rfl, rfl⟩⟩
          have ap : Apart2 (N + 4) (N + 2) (N + 3) N (N + 1) [N, l1] [N + 1] := by
            constructor <;> first | (show @Ne Nat _ _; omega) | (intro hm; simp only [List.mem_cons, List.not_mem_nil, or_false] at hm; rcases hm with hm | hm <;> (have hm' : @Eq Nat _ _ := hm; omega)) | (intro hm; simp only [List.mem_cons, List.not_mem_nil, or_false] at hm; have hm' : @Eq Nat _ _ := hm; omega)
          refine q _ _ s₂.heap [N + 4, N + 3, N, N + 1] ([N + 4, N + 2, N + 3] ++ [N, l1] ++ [N + 1]) _ (k₂.trans (.heap up)) k₂.sub up
            (Src.ofWalksU hh (walks_zip D1 hD2 hh ap (by simpa [r1.length] using hlen) (by simp) (by simp)) (by simp [r1.length, signs]; omega) ?_ ?_)
            ⟨g5, g3, ⟨_, _, g4⟩, ⟨⟨_, g1, rfl, rfl⟩, i1.at fun o e => up _ o e⟩, st2⟩ ?_ ?_
          · rintro i h'' ⟨hz, hTI, ⟨a, b, hTO⟩, ⟨⟨o1, e1, _⟩, ⟨o3, e3, _⟩⟩, st⟩ b' hb
            have hb' : b' = N + 4 ∨ b' = N + 2 ∨ b' = N + 3 ∨ b' = N ∨ b' = l1 ∨ b' = N + 1 := by simpa using hb
            rcases hb' with rfl | rfl | rfl | rfl | rfl | rfl
            · exact ⟨_, hz⟩
            · exact ⟨_, hTI⟩
            · exact ⟨_, hTO⟩
            · exact ⟨_, e1⟩
            · exact ⟨_, e3⟩
            · exact (hD2 A hh).live _ _ st
          · rintro i vs ds ⟨u, v, hu, ⟨c, uu, hc, rfl⟩, rfl⟩ hd
            rw [List.getElem?_map] at hd
            obtain ⟨a, ha, ra⟩ := r1.getV (k := i) (by simpa using hu)
            have hs : (signs t)[i]? = some ⟨#[c]⟩ := by
              unfold signs
              rw [List.getElem?_map]
              have : t.cps.toList[i]? = some c := by simpa using hc
              rw [this]; rfl
            have : (as.zip (signs t))[i]? = some (a, ⟨#[c]⟩) := by rw [List.getElem?_zip_eq_some]; exact ⟨ha, hs⟩
            rw [this] at hd; cases hd
            exact ⟨.cons ra (.cons (.str _ _) .nil), rfl⟩
          · intro b hb
            simp only [List.mem_cons, List.not_mem_nil, or_false] at hb
            have : @LE.le Nat _ N b := by rcases hb with rfl | rfl | rfl | rfl <;> omega
            cases e : s₂.heap.get? b with
            | none => rfl
            | some o => exact absurd (show @LT.lt Nat _ b s₂.heap.objs.size from Heap.lt_size e) (by omega)
          · intro b hb
            have hb' : b = N + 4 ∨ b = N + 2 ∨ b = N + 3 ∨ b = N ∨ b = l1 ∨ b = N + 1 := by simpa using hb
            have new : ∀ c : Nat, N ≤ c → s₂.heap.get? c = none := fun c hc => by
              cases e : s₂.heap.get? c with
              | none => rfl
              | some o => exact absurd (show @LT.lt Nat _ c s₂.heap.objs.size from Heap.lt_size e) (by omega)
            rcases hb' with rfl | rfl | rfl | rfl | rfl | rfl
            · exact .inl (new _ (by omega))
            · exact .inl (new _ (by omega))
            · exact .inl (new _ (by omega))
            · exact .inl (new _ (by omega))
            · obtain ⟨o, e, _, n, hd⟩ := i1
              exact .inr ⟨p1, o, _, _, e, hd⟩
            · exact .inl (new _ (by omega))
end
end Mine
end

section
open PySem PySem.W PyProof.Rows
namespace Mine

section
variable {prog : Program} {w : World} {A : Around} {env : Env} {h : Heap} {P : Addr → Prop} {value slice l r : Expr} {pos p : Pos} {lower upper : Option Expr}

/-- an item of a list -/
theorem ev_item {ds : List D} {k : Int} {d : D} (x : Ev prog w A env h P value (.list ds)) (y : Ev prog w A env h P slice (.int k)) (h0 : 0 ≤ k) (hk : k < 2 ^ 63) (hd : ds[k.toNat]? = some d)
    (hs : ∀ l k u, subscripted slice false (.ref l) (.int k u) = operate [.ref l, .int k u] (getItem (.ref l) (.int k u)) := by intros; rfl) :
    Ev prog w A env h P (.Subscript value slice pos) d := by
  refine ⟨fun s Q E k₀ q => ?_⟩
  refine Subscript_ (x.run s _ _ k₀ fun v₁ s₁ k₁ r₁ => y.run s₁ _ _ (k₀.trans k₁.sub) fun v₂ s₂ k₂ r₂ => ?_)
  cases r₂
  have r₁' := r₁.sub k₂.sub
  cases r₁' with
  | list _ pl rr =>
    obtain ⟨v, hv, rv⟩ := rr.get hd
    refine tail_any pl.typeIs slot_list_getitem.lookup (wpAny_getItem_list pl h0 hk (by simpa using hv) ?_) (hs _ _ _)
    exact q _ _ (k₁.trans k₂) rv
theorem ev_item_neg {ds : List D} {k : Int} {d : D} (x : Ev prog w A env h P value (.list ds)) (y : Ev prog w A env h P slice (.int k)) (h0 : k < 0) (h1 : -(ds.length : Int) ≤ k) (hk : -2 ^ 63 ≤ k) (hd : ds[(k + ds.length).toNat]? = some d)
    (hs : ∀ l k u, subscripted slice false (.ref l) (.int k u) = operate [.ref l, .int k u] (getItem (.ref l) (.int k u)) := by intros; rfl) :
    Ev prog w A env h P (.Subscript value slice pos) d := by
  refine ⟨fun s Q E k₀ q => ?_⟩
  refine Subscript_ (x.run s _ _ k₀ fun v₁ s₁ k₁ r₁ => y.run s₁ _ _ (k₀.trans k₁.sub) fun v₂ s₂ k₂ r₂ => ?_)
  cases r₂
  have r₁' := r₁.sub k₂.sub
  cases r₁' with
  | list _ pl rr =>
    obtain ⟨v, hv, rv⟩ := rr.get hd
    refine tail_any pl.typeIs slot_list_getitem.lookup (wpAny_getItem_list_neg pl h0 (by rw [List.size_toArray, rr.length]; exact h1) hk (by rw [List.size_toArray, rr.length]; simpa using hv) ?_) (hs _ _ _)
    exact q _ _ (k₁.trans k₂) rv
/-- a sign of a text -/
theorem ev_item_str {y : Str} {k : Int} {c : Nat} (x : Ev prog w A env h P value (.str y)) (z : Ev prog w A env h P slice (.int k)) (h0 : 0 ≤ k) (hk : k < 2 ^ 63) (hd : y.cps[k.toNat]? = some c)
    (hs : ∀ l t k u, subscripted slice false (.str l t) (.int k u) = operate [.str l t, .int k u] (getItem (.str l t) (.int k u)) := by intros; rfl) :
    Ev prog w A env h P (.Subscript value slice pos) (.str ⟨#[c]⟩) := by
  refine ⟨fun s Q E k₀ q => ?_⟩
  refine Subscript_ (x.run s _ _ k₀ fun v₁ s₁ k₁ r₁ => z.run s₁ _ _ (k₀.trans k₁.sub) fun v₂ s₂ k₂ r₂ => ?_)
  cases r₂; cases r₁
  refine tail_any (typeIs_str _ _ _) F.slot_str_getitem.lookup (PySem.P.getItem_str (c := c) ?_ ?_ ?_) (hs _ _ _ _)
  · rw [decide_eq_false (by omega), decide_eq_false (by omega)]; rfl
  · have hlt : k.toNat < y.cps.size := (Array.getElem?_eq_some_iff.mp hd).1
    rw [seqIndex_of h0 (by show k < (y.cps.size : Int); omega)]
    exact hd
  · exact q _ _ ((k₁.trans k₂).trans (.toks _)) (.str _ _)

/-- the parts of a slice -/
structure EvPart (prog : Program) (w : World) (A : Around) (env : Env) (h : Heap) (e : Option Expr) (k : Option Int) : Prop where
  run : ∀ (s : Shared) (Q E : Value → Shared → Prop), Sub h s.heap → (∀ v s' , (∃ u, v = partValue u ∧ u.map (·.1) = k) → Kp s s' → Q v s') → wpAny (model prog w) A (evalPart e env) Q E s
theorem part_none : EvPart prog w A env h none none := ⟨fun s Q E _ q => by rw [evalPart_none]; exact wpAny_pure (q _ _ ⟨none, rfl, rfl⟩ (.refl s))⟩
theorem part_some {P' : Addr → Prop} {e : Expr} {k : Int} (x : Ev prog w A env h P' e (.int k)) : EvPart prog w A env h (some e) (some k) := by
  refine ⟨fun s Q E k₀ q => ?_⟩
  rw [evalPart_some]
  refine x.run s _ _ k₀ fun v s' k' r => ?_
  cases r with
  | int j t => exact q _ _ ⟨some (k, t), rfl, rfl⟩ k'

def pick {α : Type} (lo hi : Option Int) (xs : List α) : List α := (xs.drop (lo.elim 0 (clipAt xs.length))).take (hi.elim xs.length (clipAt xs.length) - lo.elim 0 (clipAt xs.length))
theorem ev_slice {ds : List D} {lo hi : Option Int} (x : Ev prog w A env h P value (.list ds)) (y : EvPart prog w A env h lower lo) (z : EvPart prog w A env h upper hi) (hsz : ds.length ≤ 1000)
    (hg : ∀ (o r : Value), letTemporaryGo value o r = pure () := by intros; rfl) :
    Ev prog w A env h P (.Subscript value (.Slice lower upper none p) pos) (.plain (pick lo hi ds)) := by
  refine ⟨fun s Q E k₀ q => ?_⟩
  refine wpAny_Subscript_list_slice (x.run s _ _ k₀ fun v₁ s₁ k₁ r₁ => y.run s₁ _ _ (k₀.trans k₁.sub) fun vl s₂ hl k₂ => z.run s₂ _ _ ((k₀.trans k₁.sub).trans k₂.sub) fun vu s₃ hu k₃ => ?_) hg
  have r₁' := (r₁.sub k₂.sub).sub k₃.sub
  have part : ∀ {v : Value} {k : Option Int}, (∃ u, v = partValue u ∧ u.map (·.1) = k) → IsPart v k := by
    rintro v k ⟨u, rfl, rfl⟩
    cases u with
    | none => exact .none
    | some u => exact .int _ _
  cases r₁' with
  | @list a vs _ pa pl rr =>
    refine ⟨a, vs.toArray, lo, hi, rfl, pl, by rw [List.size_toArray, rr.length, sizeLine_eq]; omega, part hl, part hu, ?_⟩
    have kk := (k₁.trans k₂).trans k₃
    refine q _ _ (kk.trans (.heap ((sub_push _ _).trans (sub_push _ _)))) ?_
    have e := slicePick_plain vs.toArray lo hi
    rw [List.size_toArray, rr.length] at e
    refine .plain (kk.back (P := P) (.inr ?_)) ⟨0, ?_⟩ (((rr.drop _).take _).sub ((sub_push _ _).trans (sub_push _ _)))
    · cases e : s₃.heap.get? (s₃.heap.objs.size + 1) with
      | none => rfl
      | some o => exact absurd (show @LT.lt Nat _ (s₃.heap.objs.size + 1) s₃.heap.objs.size from Heap.lt_size e) (by omega)
    · rw [e]
      have := Heap.get?_push_size (s₃.heap.push { cls := .type "slice", data := .fields #[vl, vu, .none] }) (o := { cls := .type "list", data := .seq (List.take (hi.elim ds.length (clipAt ds.length) - lo.elim 0 (clipAt ds.length)) (List.drop (lo.elim 0 (clipAt ds.length)) vs)).toArray }) rfl
      rw [Heap.size_push] at this
      exact this
theorem ev_slice_str {y : Str} {lo hi : Option Int} (x : Ev prog w A env h P value (.str y)) (a : EvPart prog w A env h lower lo) (z : EvPart prog w A env h upper hi) (hsz : y.length ≤ 1000)
    (hg : ∀ (o r : Value), letTemporaryGo value o r = pure () := by intros; rfl) :
    Ev prog w A env h P (.Subscript value (.Slice lower upper none p) pos) (.str (Txt.slice y lo hi)) := by
  refine ⟨fun s Q E k₀ q => ?_⟩
  refine wpAny_Subscript_str_slice (x.run s _ _ k₀ fun v₁ s₁ k₁ r₁ => a.run s₁ _ _ (k₀.trans k₁.sub) fun vl s₂ hl k₂ => z.run s₂ _ _ ((k₀.trans k₁.sub).trans k₂.sub) fun vu s₃ hu k₃ => ?_) hg
  cases r₁
  obtain ⟨u, rfl, rfl⟩ := hl
  obtain ⟨u', rfl, rfl⟩ := hu
  refine ⟨y, _, u, u', rfl, rfl, rfl, ?_⟩
  exact post_val_or_str ⟨Nat.le_trans (Txt.slice_le y _ _) (by rw [sizeLine_eq]; omega), fun t' k => q _ _ (((k₁.trans k₂).trans k₃).trans (.mk (sub_push _ _))) (.str _ _)⟩
end

section
variable {prog : Program} {w : World} {A : Around} {h : Heap}
theorem calls_len_list {ds : List D} (hsz : ds.length ≤ 1000) : Calls prog w A h (.builtin "len") [.list ds] (.int ds.length) := by
  refine ⟨fun s vs Q E k r q => ?_⟩
  cases r with
  | cons a r =>
    cases r
    cases a with
    | list _ p rr =>
      refine PyProof.Rows.len_list p (by rw [List.size_toArray, rr.length]; omega) ?_
      rw [List.size_toArray, rr.length]
      exact q _ _ (.toks _) (.int _ _)
theorem calls_len_str {x : Str} (hsz : x.length ≤ 1000) : Calls prog w A h (.builtin "len") [.str x] (.int x.length) := by
  refine ⟨fun s vs Q E k r q => ?_⟩
  cases r with
  | cons a r =>
    cases r
    cases a
    exact PyProof.Rows.len_str (by omega) (q _ _ (.toks _) (.int _ _))
theorem notLong {n : Nat} (h : n ≤ 10000) : Builtin.Str.tooLong n = false := by
  unfold Builtin.Str.tooLong
  rw [decide_eq_false_iff_not]
  have : sizeLine = 16777216 := sizeLine_eq
  omega
theorem calls_lower {x : Str} (hsz : (Txt.lower x).length ≤ 10000) : Calls prog w A h (.builtin "str.lower") [.str x] (.str (Txt.lower x)) := by
  refine ⟨fun s vs Q E k r q => ?_⟩
  cases r with
  | cons a r =>
    cases r
    cases a
    exact PySem.SC.lower (notLong hsz) (q _ _ (.toks _) (.str _ _))
theorem calls_startswith {x y : Str} : Calls prog w A h (.builtin "str.startswith") [.str x, .str y] (.bool (Txt.startswith x y)) := by
  refine ⟨fun s vs Q E k r q => ?_⟩
  cases r with
  | cons a r =>
    cases r with
    | cons b r =>
      cases r
      cases a; cases b
      exact PySem.SC.startswith (q _ _ (.refl _) (.bool _))
theorem calls_endswith {x y : Str} : Calls prog w A h (.builtin "str.endswith") [.str x, .str y] (.bool (Txt.endswith x y)) := by
  refine ⟨fun s vs Q E k r q => ?_⟩
  cases r with
  | cons a r =>
    cases r with
    | cons b r =>
      cases r
      cases a; cases b
      exact PySem.SC.endswith (q _ _ (.refl _) (.bool _))
theorem strVals {P : Addr → Prop} {hp : Heap} : ∀ {vs : List Value} {xs : List Str}, RelAll P hp vs (xs.map .str) → ∃ l : List (Str × Tok), vs = strValues l ∧ l.map (·.1) = xs
  | _, [], r => by cases r; exact ⟨[], rfl, rfl⟩
  | _, x :: xs, r => by
    cases r with
    | cons a r =>
      cases a with
      | str x t =>
        obtain ⟨l, rfl, e⟩ := strVals r
        exact ⟨(x, t) :: l, rfl, by rw [List.map_cons, e]⟩
theorem relStrs {P : Addr → Prop} {hp : Heap} : ∀ (l : List (Str × Tok)), RelAll P hp (strValues l) ((l.map (·.1)).map .str)
  | [] => .nil
  | (x, t) :: l => .cons (.str x t) (relStrs l)
theorem calls_join {x : Str} {xs : List Str} (hok : JoinOk x xs = true) : Calls prog w A h (.builtin "str.join") [.str x, .list (xs.map .str)] (.str (Txt.join x xs)) := by
  refine ⟨fun s vs Q E k r q => ?_⟩
  cases r with
  | cons a r =>
    cases r with
    | cons b r =>
      cases r
      cases a
      cases b with
      | list _ p rr =>
        obtain ⟨l, rfl, e⟩ := strVals rr
        exact PySem.SC.join p e hok fun t' k => q _ _ (.toks _) (.str _ _)
open Builtin.Str in
theorem calls_split {x y : Str} (hy : (y.length == 0) = false) (hsz : x.length ≤ 1000) (hsz2 : (partsBetween x (occurrences x y 0 x.length (x.length + 1)) y.length).length ≤ 1000) :
    Calls prog w A h (.builtin "str.split") [.str x, .str y] (.plain ((Txt.split x y).map .str)) := by
  refine ⟨fun s vs Q E k r q => ?_⟩
  have hsz' : x.length ≤ sizeLine := by rw [sizeLine_eq]; omega
  have hsz2' : (partsBetween x (occurrences x y 0 x.length (x.length + 1)) y.length).length ≤ sizeLine := by rw [sizeLine_eq]; omega
  have fin : ∀ (l : List (Str × Tok)) (tk : Nat), l.map (·.1) = Txt.split x y → Q (.ref s.heap.objs.size) { s with heap := s.heap.push { cls := .type "list", data := .seq (strValues l).toArray }, toks := tk } := by
    intro l tk e
    refine q _ _ (.mk (sub_push _ _)) (.plain (.inr (get?_size _)) ⟨0, Heap.get?_push_size _ rfl⟩ ?_)
    rw [← e]; exact relStrs l
  cases r with
  | cons a r =>
    cases r with
    | cons b r =>
      cases r
      cases a with
      | str x t =>
        cases b with
        | str y u =>
          cases h1 : (decide (x.length < y.length) || decide (strKind x < strKind y))
          · cases hf : (occurrences x y 0 x.length (x.length + 1)).isEmpty
            · refine call_meets F.slot_str_split (typeIs_str _ _ _) F.entry_str_split (F.args_str_split_2 _ _) (meets_str_split_sep x y t u h1 hy hf hsz' hsz2') ?_
              show wants Q E _ { s with toks := _, heap := s.heap.push { cls := .type "list", data := .seq (strsFrom s.toks (partsBetween x (occurrences x y 0 x.length (x.length + 1)) y.length)).toArray } }
              rw [strsFrom_eq]
              exact fin (numbered s.toks _) _ ((numbered_texts _ _).trans ((if_neg (ne_true_of_eq_false h1)).trans (if_neg (ne_true_of_eq_false hf))).symm)
            · exact call_meets F.slot_str_split (typeIs_str _ _ _) F.entry_str_split (F.args_str_split_2 _ _) (meets_str_split_not_found x y t u h1 hy hf)
                (fin [(x, t)] s.toks ((if_neg (ne_true_of_eq_false h1)).trans (if_pos hf)).symm)
          · exact call_meets F.slot_str_split (typeIs_str _ _ _) F.entry_str_split (F.args_str_split_2 _ _) (meets_str_split_cannot_occur x y t u h1)
              (fin [(x, t)] s.toks (if_pos h1).symm)
theorem calls_list_str (hh : A.handled = none) {x : Str} (hsz : x.length ≤ 1000) : Calls prog w A h (.type "list") [.str x] (.plain ((signs x).map .str)) := by
  refine ⟨fun s vs Q E k r q => ?_⟩
  cases r with
  | cons a r =>
    cases r
    cases a with
    | str x t =>
      have hsz' : x.cps.size ≤ 1000 := hsz
      refine call_list_str hh x t (fun h' tk acc c hk hl hi => ?_) (by rw [sizeLine_eq]; omega)
      refine q _ _ (.mk hk) (.plain (.inr (get?_size _)) (vs := acc.toList) ⟨c, by simpa using hl⟩ ?_)
      obtain ⟨hz, hv⟩ := hi
      have : ∀ (vs : List Value) (cs : List Nat), vs.length = cs.length → (∀ (j : Nat) (v : Value), vs[j]? = some v → ∃ c u, cs[j]? = some c ∧ v = Value.str ⟨#[c]⟩ u) → RelAll (Nw None' s) h' vs ((cs.map fun c => (⟨#[c]⟩ : Str)).map D.str) := by
        intro vs
        induction vs with
        | nil => intro cs hl _; cases cs with | nil => exact .nil | cons => cases hl
        | cons v vs ih =>
          intro cs hl hv
          cases cs with
          | nil => cases hl
          | cons c cs =>
            obtain ⟨c', u, e, rfl⟩ := hv 0 v rfl
            cases e
            exact .cons (.str _ _) (ih cs (by simpa using hl) fun j v hj => by simpa using hv (j + 1) v (by simpa using hj))
      refine this acc.toList x.cps.toList (by simpa using hz) fun j v hj => ?_
      obtain ⟨c, u, e, rfl⟩ := hv j v (by simpa using hj)
      exact ⟨c, u, by simpa using e, rfl⟩
theorem calls_isinstance_str {x : Str} : Calls prog w A h (.builtin "isinstance") [.str x, .raw (.type "str")] (.bool true) := by
  refine ⟨fun s vs Q E k r q => ?_⟩
  cases r with
  | cons a r =>
    cases r with
    | cons b r =>
      cases r
      cases a
      cases b
      refine call_isinstance (isinstance_true (Tx := "str") (T := "str") ?_ ?_) ⟨typeIs_str _ _ _, q _ _ (.refl _) (.bool _)⟩
      · kernel_rfl
      · rw [isSubtype_type]; kernel_rfl
end
end Mine
end

section
open PySem PySem.W PyProof.Rows
namespace Mine

/-! the program's defs, by their places -/
def stmtN (k : Nat) : Stmt := PySem.Challenge.pw_rt0009_01.main.body.getD k (.Pass ⟨0, 0, 0, 0⟩)
def bodyOf : Stmt → List Stmt
  | .FunctionDef (body := b) .. => b
  | _ => []
def paramsOf : Stmt → Arguments
  | .FunctionDef (args := a) .. => a
  | _ => { posonlyargs := [], args := [], vararg := none, kwonlyargs := [], kw_defaults := [], kwarg := none, defaults := [] }
def scopeOf : Stmt → Scope
  | .FunctionDef (scope := s) .. => s
  | _ => { kind := .function, names := [], isGenerator := false, isCoroutine := false }
/-- the k-th def at the address f -/
def Def (h : Heap) (k : Nat) (f : Addr) : Prop := Fn h f (paramsOf (stmtN k)) (bodyOf (stmtN k)) (scopeOf (stmtN k))

def gtab : List (Str × Value) := [("IPV4_RE", .ref 36), ("liberal_is_HDN", .ref 43), ("user_domain_match", .ref 50), ("_special_chars_map", .ref 57), ("escape", .ref 67), ("_translate", .ref 74), ("S_IFMT", .ref 81),
  ("S_IFREG", .int 32768 559), ("S_IFDIR", .int 16384 553), ("S_IFLNK", .int 40960 563), ("S_IFSOCK", .int 49152 565), ("_filemode_table", .ref 114), ("filemode", .ref 121), ("_law_number", .ref 128), ("_law_host", .ref 133),
  ("_law_rule", .ref 140), ("_law_pattern", .ref 145), ("_law_fit", .ref 150), ("_law_takes", .ref 157), ("_law_signs", .ref 164), ("_law_named", .ref 171), ("law", .ref 176)]
def btab : List (Str × Value) := [("len", .builtin "len"), ("range", .type "range"), ("zip", .type "zip"), ("list", .type "list"), ("enumerate", .type "enumerate"), ("isinstance", .builtin "isinstance"), ("str", .type "str")]
def ftab : List (Nat × Addr) := [(3, 43), (4, 50), (8, 67), (10, 74), (12, 81), (33, 121), (35, 128), (36, 133), (37, 140), (38, 145), (39, 150), (40, 157), (41, 164), (42, 171), (43, 176)]

/-- what the module holds -/
structure Gm (h : Heap) : Prop where
  lim : h.NoLimit
  g : ∀ x v, (x, v) ∈ gtab → ∃ mg, h.Ns mainGlobals mg ∧ mg x = some v
  b : ∀ x v, (x, v) ∈ btab → ∃ mg mb, h.Ns mainGlobals mg ∧ mg x = none ∧ h.Ns builtinsNs mb ∧ mb x = some v
  f : ∀ k a, (k, a) ∈ ftab → Def h k a
theorem Gm.sub {h h' : Heap} (G : Gm h) (hs : Sub h h') : Gm h' :=
  ⟨G.lim.keeps hs, fun x v m => let ⟨mg, a, b⟩ := G.g x v m; ⟨mg, a.keeps hs, b⟩, fun x v m => let ⟨mg, mb, a, b, c, d⟩ := G.b x v m; ⟨mg, mb, a.keeps hs, b, c.keeps hs, d⟩, fun k a m => (G.f k a m).sub hs⟩

section
variable {prog : Program} {w : World} {A : Around} {env : Env} {h : Heap} {P : Addr → Prop} {names : List (Str × NameKind)}
theorem Gm.nm (G : Gm h) (sc : Sc env names) (x : Str) (v : Value) {d : D} (hm : (x, v) ∈ gtab) (r : Rel P h v d) (hl : names.lookup x = some .globalImplicit) (hd : (x == ("__debug__" : Str)) = false) : Nm prog w env h P x d := by
  refine ⟨v, r, fun A pos s Q E k q => ?_⟩
  obtain ⟨mg, hn, hv⟩ := (G.sub k).g x v hm
  exact PySem.Calls.Name_function_global sc.kind (sc.look x _ (by decide) hl) (PySem.Calls.loadGlobal_global (by rw [sc.glob]; exact hn) hv q) hd
theorem Gm.nmb (G : Gm h) (sc : Sc env names) (x : Str) (v : Value) (hm : (x, v) ∈ btab) (hl : names.lookup x = some .globalImplicit) (hd : (x == ("__debug__" : Str)) = false) : Nm prog w env h P x (.raw v) := by
  refine ⟨v, .raw v, fun A pos s Q E k q => ?_⟩
  obtain ⟨mg, mb, hn, hv, hn', hv'⟩ := (G.sub k).b x v hm
  exact PySem.Calls.Name_function_global sc.kind (sc.look x _ (by decide) hl) (PySem.Calls.loadGlobal_builtin (by rw [sc.glob]; exact hn) hv (by rw [sc.blt]; exact hn') hv' q) hd

theorem c_ifmt (G : Gm h) {k : Nat} (ok : Okay A (k + 1)) (m : Int) : Calls prog w A h (.ref 81) [.int m] (.int (Builtin.bitAnd m 61440)) := by
  refine calls_fn (G.f 12 81 (by simp [ftab])) ok [Str.ofString "mode"] ?_ rfl (by simp) (by decide +kernel) (by decide +kernel) (fun _ => Any) (fun s _ => .inr fun _ _ => trivial) ?_
  · intro name pm code doc vs hl
    match vs, hl with
    | [a], _ => rfl
  · intro s env s₁ own hs sc esc st F okd
    have nm : Nm prog w env s₁.heap Any (Str.ofString "mode") (.int m) := F.fr.nm (by rfl) (by decide +kernel)
    exact run_ret F (ev_and_int (ev_name nm) ev_int) (.inl (.int _))
end
end Mine
end

section
open PySem PySem.W PyProof.Rows PySem.SeqAt
namespace Mine

/-- a text, or none -/
def optD : Option Str → D
  | none => .none
  | some x => .str x
theorem flat_optD (o : Option Str) : Flat (optD o) := by cases o <;> constructor

section
variable {prog : Program} {w : World} {A : Around} {h : Heap}
theorem any_rel {α : Type} {f : α → D} {hp : Heap} {e : Value → Bool} {p : α → Bool} (he : ∀ v a, Rel Any hp v (f a) → e v = p a) : ∀ {vs : List Value} {as : List α}, RelAll Any hp vs (as.map f) → vs.any e = as.any p
  | _, [], r => by cases r; rfl
  | _, a :: as, r => by
    cases r with
    | cons x r => rw [List.any_cons, List.any_cons, he _ _ x, any_rel he r]
theorem mem_rel {α : Type} {f : α → D} {hp : Heap} : ∀ {vs : List Value} {as : List α}, RelAll Any hp vs (as.map f) → ∀ v ∈ vs, ∃ a ∈ as, Rel Any hp v (f a)
  | _, [], r, v, hv => by cases r; cases hv
  | _, a :: as, r, v, hv => by
    cases r with
    | cons x r =>
      rcases List.mem_cons.mp hv with rfl | hv
      · exact ⟨a, List.mem_cons_self, x⟩
      · obtain ⟨b, hb, q⟩ := mem_rel r v hv
        exact ⟨b, List.mem_cons_of_mem _ hb, q⟩

def isS (x : Str) : Value → Bool
  | .str y _ => y == x
  | _ => false
def isN : Value → Bool
  | .none => true
  | _ => false
theorem cmp_notin_strs {x : Str} {xs : List Str} : Cmp prog w A h .NotIn (.str x) (.list (xs.map .str)) (!xs.any (· == x)) := fun s _ _ Q E _ r₁ r₂ q => by
  cases r₁ with
  | str x t =>
    cases r₂ with
    | list _ p rr =>
      refine notIn_listAt (isS x) p (fun y hy => ?_) ?_
      · obtain ⟨a, _, ra⟩ := mem_rel rr y (by simpa using hy)
        cases ra
        exact EqAt.str_str _ _ _ _
      · have e := any_rel (e := isS x) (p := (· == x)) (fun v a r => by cases r; rfl) rr
        rw [← Array.any_toList, e]
        exact q _ (.refl _)
theorem cmp_notin_none {ps : List (Option Str)} : Cmp prog w A h .NotIn .none (.list (ps.map optD)) (!ps.any (·.isNone)) := fun s _ _ Q E _ r₁ r₂ q => by
  cases r₁
  cases r₂ with
  | list _ p rr =>
    refine notIn_listAt isN p (fun y hy => ?_) ?_
    · obtain ⟨a, _, ra⟩ := mem_rel rr y (by simpa using hy)
      cases a with
      | none => cases ra; exact EqAt.same _
      | some x => cases ra; exact EqAt.str_none _ _
    · have e := any_rel (e := isN) (p := fun o : Option Str => o.isNone) (fun v a r => by cases a <;> cases r <;> rfl) rr
      rw [← Array.any_toList, e]
      exact q _ (.refl _)
theorem calls_index_none {ps : List (Option Str)} {j : Nat} (hj : ps[j]? = some none) (hn : ∀ m, m < j → ∃ x, ps[m]? = some (some x)) (hs : j < 10000) :
    Calls prog w A h (.builtin "list.index") [.plain (ps.map optD), .none] (.int j) := by
  refine ⟨fun s vs Q E k r q => ?_⟩
  cases r with
  | cons a r =>
    cases r with
    | cons b r =>
      cases r
      cases b
      cases a with
      | @plain a vs _ _ p rr =>
        obtain ⟨n, e⟩ := p
        have at' : ∀ m o, ps[m]? = some o → ∃ v, vs[m]? = some v ∧ Rel Any s.heap v (optD o) := fun m o ho => rr.get (k := m) (by rw [List.getElem?_map, ho]; rfl)
        obtain ⟨v, hv, rv⟩ := at' j none hj
        cases rv
        have hlt : j < vs.toArray.size := by simpa using (List.getElem?_eq_some_iff.mp hv).1
        refine call_meets PySem.F.slot_list_index ⟨_, e, rfl⟩ PySem.F.entry_list_index (PySem.F.args_list_index_2 _ _)
          (MeetsSeq.list_index a vs.toArray n .none isN (fun y hy => ?_) j hlt (by omega) ?_ ?_) ⟨e, q _ _ (.toks _) (.int _ _)⟩
        · obtain ⟨o, _, ra⟩ := mem_rel rr y (by simpa using hy)
          cases o with
          | none => cases ra; exact fun prog w A E s Q h => EqAt.same _ prog w E Q h
          | some x => cases ra; exact fun prog w A E s Q h => EqAt.str_none _ _ prog w E Q h
        · obtain ⟨_, e'⟩ := List.getElem?_eq_some_iff.mp hv
          simp only [List.getElem_toArray, e']
          rfl
        · intro m hm hmj
          obtain ⟨x, hx⟩ := hn m hmj
          obtain ⟨v, hv, rv⟩ := at' m _ hx
          obtain ⟨_, e'⟩ := List.getElem?_eq_some_iff.mp hv
          cases rv
          simp only [List.getElem_toArray, e']
          rfl
variable {env : Env} {P : Addr → Prop} {l m r : Expr} {pos : Pos}
theorem ev_and3 {a b c : Bool} (x : Ev prog w A env h P l (.bool a)) (y : a = true → Ev prog w A env h P m (.bool b)) (z : a = true → b = true → Ev prog w A env h P r (.bool c)) : Ev prog w A env h P (.BoolOp .And [l, m, r] pos) (.bool (a && (b && c))) := by
  refine ⟨fun s Q E k q => ?_⟩
  show wpAny (model prog w) A (do let v ← eval l env; standAt pos; let t ← holding [v] (truthy v); match BoolOp.And, t with | .And, false | .Or, true => pure v | _, _ => boolOp pos .And [eval m env, eval r env]) _ _ _
  refine wpAny_bind (x.run s _ _ k fun v₁ s₁ k₁ r₁ => wpAny_bind (wpAny_standAt (wpAny_bind (wpAny_holding ?_))))
  cases r₁
  refine wpAny_truthy_bool ?_
  cases a with
  | false => exact wpAny_pure (q _ _ k₁ (.bool _))
  | true =>
    refine (ev_and (y rfl) (z rfl)).run s₁ _ _ (k.trans k₁.sub) fun v₂ s₂ k₂ r₂ => q v₂ s₂ (k₁.trans k₂) ?_
    simpa using r₂.back k₁
end
end Mine
end

section
open PySem PySem.W PyProof.Rows
namespace Mine

theorem Ev.cast {prog : Program} {w : World} {A : Around} {env : Env} {h : Heap} {P : Addr → Prop} {e : Expr} {d d' : D} (x : Ev prog w A env h P e d) (hd : d = d') : Ev prog w A env h P e d' := hd ▸ x
theorem Tr.cast {prog : Program} {w : World} {A : Around} {env : Env} {h : Heap} {e : Expr} {b b' : Bool} (x : Tr prog w A env h e b) (hd : b = b') : Tr prog w A env h e b' := hd ▸ x

theorem Calls.cast {prog : Program} {w : World} {A : Around} {h : Heap} {f : Value} {as : List D} {d d' : D} (x : Calls prog w A h f as d) (hd : d = d') : Calls prog w A h f as d' := hd ▸ x

/-- what a comprehension's free names bear -/
def Frees (env : Env) (h : Heap) (P : Addr → Prop) (φ : List (Str × D)) : Prop := ∀ n d, φ.lookup n = some d → Cl env h P n d
theorem frees_nil {env : Env} {h : Heap} {P : Addr → Prop} : Frees env h P [] := fun _ _ e => nomatch e
theorem frees_cons {env : Env} {h : Heap} {P : Addr → Prop} {n : Str} {d : D} {φ : List (Str × D)} (c : Cl env h P n d) (r : Frees env h P φ) : Frees env h P ((n, d) :: φ) := fun m e hm => by
  rw [List.lookup_cons] at hm
  cases hb : m == n with
  | true => rw [hb] at hm; cases hm; rw [beq_iff_eq.mp hb]; exact c
  | false => rw [hb] at hm; exact r m e hm
theorem lookup_key {φ : List (Str × D)} {n : Str} (h : n ∈ φ.map (·.1)) : ∃ d, φ.lookup n = some d := by
  obtain ⟨⟨m, d⟩, hm, rfl⟩ := List.mem_map.mp h
  exact lookup_of_mem hm
/-- a comprehension, its free names by their keys -/
def FreeOk (names : List (Str × NameKind)) (ks : List Str) : Bool := names.all fun x => !(x.2 == .free) || ks.contains x.1
theorem FreeOk.use {names : List (Str × NameKind)} {φ : List (Str × D)} {ks : List Str} (hk : φ.map (·.1) = ks) (h : FreeOk names ks = true) : ∀ n, names.lookup n = some .free → ∃ d, φ.lookup n = some d := fun n hn => by
  have := List.all_eq_true.mp h (n, .free) (mem_of_lookup hn)
  exact lookup_key (by rw [hk]; simpa using this)
/-- the closed facts of a comprehension -/
def Shape (scope : Scope) (xs ks : List Str) : Bool := Fine scope.names && FreeOk scope.names ks && (scope.kind == .function) && (xs.all fun x => scope.names.lookup x == some .local || scope.names.lookup x == some .cell) && decide xs.Nodup
theorem Shape.ok {scope : Scope} {xs ks : List Str} (h : Shape scope xs ks = true) : CompOk scope xs ∧ FreeOk scope.names ks = true := by
  simp only [Shape, Bool.and_eq_true, decide_eq_true_eq] at h
  obtain ⟨⟨⟨⟨h1, h2⟩, h3⟩, h4⟩, h5⟩ := h
  refine ⟨⟨h1, beq_iff_eq.mp h3, fun x hx => ?_, h5⟩, h2⟩
  have := List.all_eq_true.mp h4 x hx
  simp only [Bool.or_eq_true, beq_iff_eq] at this
  exact this
theorem comp {prog : Program} {w : World} {A : Around} {env : Env} {h : Heap} {P : Addr → Prop} {elt iter tgt : Expr} {ifs : List Expr} {scope : Scope} {pos : Pos} {names0 : List (Str × NameKind)} {xs ks : List Str} {φ : List (Str × D)}
    {α : Type} {items : List α} {b : α → List D} {p : α → Bool} {f : α → D} (hh : A.handled = none) (sc : Sc env names0) (fr : Frees env h P φ) (hks : φ.map (·.1) = ks) (feeds : Feeds prog w A env h P iter tgt xs (items.map b)) (shape : Shape scope xs ks = true)
    (hlen : ∀ a ∈ items, (b a).length = xs.length) (hsz : items.length ≤ 1000)
    (body : Body prog w A h scope.names φ xs elt ifs items b p f)
    (hs : ∀ x, foldedSetIterable iter env x = pure x := by intro _; rfl) :
    Ev prog w A env h P (.ListComp elt [⟨tgt, iter, ifs, 0⟩] scope pos) (.plain ((items.filter p).map f)) :=
  ev_comp (Shape.ok shape).1 hh sc feeds (fun n d _ e => fr n d e) (FreeOk.use hks (Shape.ok shape).2) hlen hsz body hs
theorem all_filter {α β : Type} {xs : List α} {f : α → β} : (xs.filter fun _ => true).map f = xs.map f := by rw [List.filter_eq_self.mpr fun _ _ => rfl]

/-! numbers -/
def kindL : List Int := [32768, 16384, 40960, 49152]
def numberOf (x : Int) : Int := kindL.getD (x.fmod 4).toNat 0 + (x.fdiv 4).fmod 4096
def labL : List Str := ["a", "B", "b", "c2"]
def labelOf (x : Int) (k : Nat) : Str := labL.getD (((x.fdiv 16384).fdiv (4 ^ k)).fmod 4).toNat ""
def countOf (x : Int) : Nat := 2 + ((x.fdiv 1048576).fmod 2).toNat
def hostOf (x : Int) : Str := Txt.join "." ((List.range (countOf x)).map (labelOf x))

theorem getD_map {α : Type} {xs : List α} {f : α → D} {d : α} {i : Nat} (h : i < xs.length) : (xs.map f)[i]? = some (f (xs.getD i d)) := by
  rw [List.getElem?_map, List.getD_eq_getElem?_getD, List.getElem?_eq_getElem h]; rfl
theorem fmod_lt (a : Int) {b : Int} (hb : 0 < b) : 0 ≤ a.fmod b ∧ a.fmod b < b := ⟨Int.fmod_nonneg_of_pos a hb, Int.fmod_lt_of_pos a hb⟩

theorem joinOk_small {sep : Str} {xs : List Str} (h1 : sep.length ≤ 10) (h2 : xs.length ≤ 100) (h3 : ∀ x ∈ xs, x.length ≤ 50) : JoinOk sep xs = true := by
  have key : ∀ (xs : List Str) (a : Nat), (∀ x ∈ xs, x.length ≤ 50) → xs.foldl (fun x1 x2 => x1 + x2.length + sep.length) a ≤ a + 60 * xs.length := by
    intro xs
    induction xs with
    | nil => intro a _; simp
    | cons y ys ih =>
      intro a hy
      rw [List.foldl_cons, List.length_cons]
      have := ih (a + y.length + sep.length) fun x hx => hy x (List.mem_cons_of_mem _ hx)
      have := hy y List.mem_cons_self
      omega
  unfold JoinOk
  rw [List.foldl_toArray]
  rw [notLong (by have := key xs 0 h3; omega)]
  rfl
theorem lab_len (x : Int) (k : Nat) : (labelOf x k).length ≤ 50 := by
  unfold labelOf
  obtain ⟨h1, h2⟩ := fmod_lt ((x.fdiv 16384).fdiv (4 ^ k)) (b := 4) (by decide)
  have : (((x.fdiv 16384).fdiv (4 ^ k)).fmod 4).toNat < 4 := by omega
  match (((x.fdiv 16384).fdiv (4 ^ k)).fmod 4).toNat, this with
  | 0, _ => decide +kernel
  | 1, _ => decide +kernel
  | 2, _ => decide +kernel
  | 3, _ => decide +kernel

section
variable {prog : Program} {w : World} {A : Around} {h : Heap}
theorem c_number (G : Gm h) {k : Nat} (ok : Okay A (k + 1)) (x : Int) : Calls prog w A h (.ref 128) [.int x] (.int (numberOf x)) := by
  refine calls_fn (G.f 35 128 (by simp [ftab])) ok [Str.ofString "x"] ?_ rfl (by simp) (by decide +kernel) (by decide +kernel) (fun _ => Any) (fun s _ => .inr fun _ _ => trivial) ?_
  · intro name pm code doc vs hl
    match vs, hl with
    | [a], _ => rfl
  · intro s env s₁ own hs sc esc st F okd
    have G₁ := G.sub (hs.trans F.kp.sub)
    have nx : Nm prog w env s₁.heap Any (Str.ofString "x") (.int x) := F.fr.nm (by rfl) (by decide +kernel)
    have n1 : Nm prog w env s₁.heap Any (Str.ofString "S_IFREG") (.int 32768) := G₁.nm sc _ (.int 32768 559) (by simp [gtab]) (.int _ _) (by decide +kernel) (by decide +kernel)
    have n2 : Nm prog w env s₁.heap Any (Str.ofString "S_IFDIR") (.int 16384) := G₁.nm sc _ (.int 16384 553) (by simp [gtab]) (.int _ _) (by decide +kernel) (by decide +kernel)
    have n3 : Nm prog w env s₁.heap Any (Str.ofString "S_IFLNK") (.int 40960) := G₁.nm sc _ (.int 40960 563) (by simp [gtab]) (.int _ _) (by decide +kernel) (by decide +kernel)
    have n4 : Nm prog w env s₁.heap Any (Str.ofString "S_IFSOCK") (.int 49152) := G₁.nm sc _ (.int 49152 565) (by simp [gtab]) (.int _ _) (by decide +kernel) (by decide +kernel)
    obtain ⟨h1, h2⟩ := fmod_lt x (b := 4) (by decide)
    refine run_ret F (ev_add_int (ev_item (ev_list (evs_cons (ev_name n1) (evs_cons (ev_name n2) (evs_cons (ev_name n3) (evs_cons (ev_name n4) evs_nil)))) (by decide)).weak
      (ev_mod_int (ev_name nx) ev_int (by decide)) h1 (by omega) (getD_map (xs := kindL) (f := .int) (d := 0) (by show _ < 4; omega)))
      (ev_mod_int (ev_div_int (ev_name nx) ev_int (by decide) (by decide)) ev_int (by decide))) (.inl (.int _))

theorem c_host (G : Gm h) {k : Nat} (ok : Okay A (k + 1)) (x : Int) : Calls prog w A h (.ref 133) [.int x] (.str (hostOf x)) := by
  refine calls_fn (G.f 36 133 (by simp [ftab])) ok [Str.ofString "x"] ?_ rfl (by simp) (by decide +kernel) (by decide +kernel) (fun _ => Any) (fun s _ => .inr fun _ _ => trivial) ?_
  · intro name pm code doc vs hl
    match vs, hl with
    | [a], _ => rfl
  · intro s env s₁ own hs sc esc st F okd
    have G₁ := G.sub (hs.trans F.kp.sub)
    have nx : Nm prog w env s₁.heap Any (Str.ofString "x") (.int x) := F.fr.nm (by rfl) (by decide +kernel)
    have cx : Cl env s₁.heap Any (Str.ofString "x") (.int x) := F.fr.cl (by rfl) (sc.look _ _ (by decide) (by decide +kernel))
    have nr : Nm prog w env s₁.heap Any (Str.ofString "range") (.raw (.type "range")) := G₁.nmb sc _ _ (by simp [btab]) (by decide +kernel) (by decide +kernel)
    have hc2 : countOf x ≤ 3 ∧ ((2 : Int) + (x.fdiv 1048576).fmod 2) = (countOf x : Nat) := by
      obtain ⟨h1, h2⟩ := fmod_lt (x.fdiv 1048576) (b := 2) (by decide)
      unfold countOf; omega
    refine run_ret F (ev_meth ev_str meth_join (evs_cons (Ev.weak (ds := ((List.range (countOf x)).map (labelOf x)).map .str)
      (Ev.cast (d := .plain (((List.range (countOf x)).filter fun _ => true).map fun i => D.str (labelOf x i))) ?_ (by rw [all_filter, List.map_map]; rfl))) evs_nil)
      (calls_join (joinOk_small (by decide +kernel) (by rw [List.length_map, List.length_range]; omega) (fun y hy => by obtain ⟨i, _, rfl⟩ := List.mem_map.mp hy; exact lab_len x i)))) (.inl (.str _))
    refine comp (ks := [Str.ofString "x"]) (b := fun i => [.int (i : Nat)]) okd.hh sc (frees_cons cx frees_nil) rfl
        (feeds_range okd.hh (by omega) (ev_name nr) (Ev.cast (ev_add_int ev_int (ev_mod_int (ev_div_int (ev_name nx) ev_int (by decide) (by decide)) ev_int (by decide))) (by rw [hc2.2])))
        (by decide +kernel) (fun _ _ => rfl) (by rw [List.length_range]; omega) ?_
    intro cenv h' P' i hi hs' scc nf nb
    refine ⟨trs_nil, fun _ => ?_⟩
    have nx' := (nf (Str.ofString "x") _ (by decide +kernel) rfl).1
    have nk := (nb (Str.ofString "k") _ rfl).1
    obtain ⟨h1, h2⟩ := fmod_lt ((x.fdiv 16384).fdiv (4 ^ i)) (b := 4) (by decide)
    have hi3 : i < 3 := by have := List.mem_range.mp hi; omega
    have hp : (4 : Int) ^ i ≠ 0 ∧ ((4 : Int) ^ i).natAbs < 1073741824 := by
      match i, hi3 with
      | 0, _ => decide
      | 1, _ => decide
      | 2, _ => decide
    exact ev_item (ev_list (evs_cons ev_str (evs_cons ev_str (evs_cons ev_str (evs_cons ev_str evs_nil)))) (by decide)).weak
      (ev_mod_int (ev_div_int (ev_div_int (ev_name nx') ev_int (by decide) (by decide)) (Ev.cast (ev_pow_int ev_int (ev_name nk) (by omega) (by omega) (by decide)) (d' := .int (4 ^ i)) (by simp)) hp.1 hp.2) ev_int (by decide))
      h1 (by omega) (getD_map (xs := labL) (f := .str) (d := "") (by show _ < 4; omega))
end
end Mine
end

section
open PySem PySem.W PyProof.Rows
namespace Mine

theorem ev_neg {prog : Program} {w : World} {A : Around} {env : Env} {h : Heap} {P : Addr → Prop} {i : Int} {k : Nat} {pos pos' : Pos} : Ev prog w A env h P (.UnaryOp .USub (.Constant (.int i) k pos) pos') (.int (-i)) := ⟨fun s Q E k₀ q =>
  lit_neg _ fun v tk hv => by obtain ⟨t, rfl⟩ := hv.int; exact q _ _ (.toks _) (.int _ _)⟩
theorem pick_from {α : Type} (xs : List α) (a : Nat) : pick (some (a : Int)) none xs = xs.drop a := by
  unfold pick
  simp only [Option.elim, clipAt_nat]
  rw [List.take_of_length_le (by rw [List.length_drop]; omega)]
  by_cases h : a ≤ xs.length
  · rw [Nat.min_eq_left h]
  · rw [Nat.min_eq_right (by omega), List.drop_eq_nil_of_le (Nat.le_refl _), List.drop_eq_nil_of_le (by omega)]
theorem pick_upto {α : Type} (xs : List α) (b : Nat) : pick none (some (b : Int)) xs = xs.take b := by
  unfold pick
  simp only [Option.elim, clipAt_nat, List.drop_zero, Nat.sub_zero]
  by_cases h : b ≤ xs.length
  · rw [Nat.min_eq_left h]
  · rw [Nat.min_eq_right (by omega), List.take_of_length_le (Nat.le_refl _), List.take_of_length_le (by omega)]

open Builtin.Str in
/-- a text that can be cut at its dots -/
def goodCut (x : Str) : Bool := decide (x.length ≤ 40) && decide ((partsBetween x (occurrences x "." 0 x.length (x.length + 1)) (Str.length ".")).length ≤ 40) &&
  decide ((Txt.split x ".").length ≤ 40) && decide (1 ≤ (Txt.split x ".").length) && ((Txt.split x ".").all fun y => decide (y.length ≤ 40))
structure GoodCut (x : Str) : Prop where
  len : x.length ≤ 40
  parts : (Builtin.Str.partsBetween x (Builtin.Str.occurrences x "." 0 x.length (x.length + 1)) (Str.length ".")).length ≤ 40
  count : (Txt.split x ".").length ≤ 40
  pos : 1 ≤ (Txt.split x ".").length
  each : ∀ y ∈ Txt.split x ".", y.length ≤ 40
theorem goodCut_of {x : Str} (h : goodCut x = true) : GoodCut x := by
  simp only [goodCut, Bool.and_eq_true, decide_eq_true_eq, List.all_eq_true] at h
  exact ⟨h.1.1.1.1, h.1.1.1.2, h.1.1.2, h.1.2, h.2⟩

theorem join_len {sep : Str} {n : Nat} : ∀ {xs : List Str}, (∀ x ∈ xs, x.length ≤ n) → (Txt.join sep xs).length ≤ xs.length * (n + sep.length) := by
  intro xs h
  show (Builtin.Str.glued sep xs).length ≤ _
  rw [StrLaws.glued_eq_join]
  induction xs with
  | nil => exact Nat.zero_le _
  | cons x r ih =>
    cases r with
    | nil =>
      have := h x List.mem_cons_self
      show x.length ≤ 1 * _
      omega
    | cons y r =>
      have h1 := h x List.mem_cons_self
      have h2 := ih fun z hz => h z (List.mem_cons_of_mem _ hz)
      show (x ++ sep ++ Str.join sep (y :: r)).length ≤ _
      rw [Str.length_append, Str.length_append, List.length_cons, Nat.succ_mul]
      omega

def ruleL (host : Str) : List Str := [host, "." ++ Txt.join "." ((Txt.split host ".").drop 1), "." ++ (Txt.split host ".").getD ((Txt.split host ".").length - 1) ""]
def ruleOf (x : Int) (host : Str) : Str := (ruleL host).getD ((x.fdiv 1024).fmod 3).toNat ""

section
variable {prog : Program} {w : World} {A : Around} {h : Heap}
theorem c_rule (G : Gm h) {k : Nat} (ok : Okay A (k + 1)) (x : Int) (host : Str) (hg : goodCut host = true) : Calls prog w A h (.ref 140) [.int x, .str host] (.str (ruleOf x host)) := by
  have g := goodCut_of hg
  refine calls_fn (G.f 37 140 (by simp [ftab])) ok [Str.ofString "x", Str.ofString "host"] ?_ rfl (by decide +kernel) (by decide +kernel) (by decide +kernel) (fun _ => Any) (fun s _ => .inr fun _ _ => trivial) ?_
  · intro name pm code doc vs hl
    match vs, hl with
    | [a, b], _ => rfl
  · intro s env s₁ own hs sc esc st F okd
    have nh : Nm prog w env s₁.heap Any (Str.ofString "host") (.str host) := F.fr.nm (by rfl) (by decide +kernel)
    refine run_assign F (ev_meth (ev_name nh) meth_split (evs_cons ev_str evs_nil) (calls_split (by decide +kernel) (by have := g.len; omega) (by have := g.parts; omega))) (.inr (shut_any _)) (st _ (by decide +kernel)) rfl ?_
    intro s₂ F₂
    have nx : Nm prog w env s₂.heap Any (Str.ofString "x") (.int x) := F₂.fr.nm (by rfl) (by decide +kernel)
    have nh : Nm prog w env s₂.heap Any (Str.ofString "host") (.str host) := F₂.fr.nm (by rfl) (by decide +kernel)
    have nl : Nm prog w env s₂.heap Any (Str.ofString "labels") (.plain ((Txt.split host ".").map .str)) := F₂.fr.nm (by rfl) (by decide +kernel)
    obtain ⟨h1, h2⟩ := fmod_lt (x.fdiv 1024) (b := 3) (by decide)
    have hd : ∀ y ∈ (Txt.split host ".").drop 1, y.length ≤ 40 := fun y hy => g.each y (List.mem_of_mem_drop hy)
    have hdl : ((Txt.split host ".").drop 1).length ≤ 40 := by rw [List.length_drop]; have := g.count; omega
    have hjl : (Txt.join "." ((Txt.split host ".").drop 1)).length ≤ 800 + 840 := by
      have := join_len (sep := ".") hd
      have h1 : (Str.length ".") = 1 := by decide +kernel
      rw [h1] at this
      calc _ ≤ _ := this
        _ ≤ 40 * 41 := Nat.mul_le_mul_right _ hdl
    have e1 : (Str.length ".") = 1 := by decide +kernel
    have last : (((Txt.split host ".").map D.str))[(-1 + (((Txt.split host ".").map D.str).length : Int)).toNat]? = some (.str ((Txt.split host ".").getD ((Txt.split host ".").length - 1) "")) := by
      have hi : (-1 + (((Txt.split host ".").map D.str).length : Int)).toNat = (Txt.split host ".").length - 1 := by rw [List.length_map]; have := g.pos; omega
      rw [hi]
      exact getD_map (by have := g.pos; omega)
    have lastl : ((Txt.split host ".").getD ((Txt.split host ".").length - 1) "").length ≤ 40 := by
      have hp : (Txt.split host ".").length - 1 < (Txt.split host ".").length := by have := g.pos; omega
      rw [List.getD_eq_getElem?_getD, List.getElem?_eq_getElem hp]
      exact g.each _ (List.getElem_mem _)
    refine run_ret F₂ (ev_item (ev_list (evs_cons (ev_name nh) (evs_cons (ev_add_str ev_str (ev_meth ev_str meth_join (evs_cons (Ev.weak (ds := ((Txt.split host ".").drop 1).map .str) (Ev.cast (ev_slice (Ev.weak (ev_name nl)) (part_some (P' := Any) ev_int) part_none (by rw [List.length_map]; have := g.count; omega)) ?_)) evs_nil)
        (calls_join (joinOk_small (by decide +kernel) (by omega) fun y hy => by have := hd y hy; omega))) (by omega))
      (evs_cons (ev_add_str ev_str (ev_item_neg (Ev.weak (ev_name nl)) ev_neg (by decide) (by rw [List.length_map]; have := g.pos; omega) (by decide) last) (by omega)) evs_nil))) (by show 3 ≤ 1000; decide)).weak
      (ev_mod_int (ev_div_int (ev_name nx) ev_int (by decide) (by decide)) ev_int (by decide)) h1 (by omega) (getD_map (xs := ruleL host) (f := .str) (d := "") (by show _ < 3; omega))) (.inl (.str _))
    rw [show ((1 : Int)) = ((1 : Nat) : Int) from rfl, pick_from, List.map_drop]
end
end Mine
end

section
open PySem PySem.W PyProof.Rows
namespace Mine

def bitOf (x : Int) (k : Nat) : Bool := (x.fdiv (2 ^ k)).fmod 2 == 1
def shownL (x : Int) (sg : List Str) : List Str := (List.range 10).map fun k => if bitOf x k then sg.getD k "" else "?"
def patternOf (x : Int) (sg : List Str) (rule : Str) : Str := ((Txt.join "" (shownL x sg) ++ " ") ++ (if Txt.slice rule none (some 1) == "." then Str.ofString "**" else Str.ofString "")) ++ Txt.lower rule

section
variable {prog : Program} {w : World} {A : Around} {h : Heap}
theorem c_pattern (G : Gm h) {k : Nat} (ok : Okay A (k + 1)) (x : Int) (sg : List Str) (rule : Str) (hsg : sg.length = 10) (hsl : ∀ y ∈ sg, y.length ≤ 50) (hr : rule.length ≤ 1000) (hrl : (Txt.lower rule).length ≤ 1000) :
    Calls prog w A h (.ref 145) [.int x, .list (sg.map .str), .str rule] (.str (patternOf x sg rule)) := by
  refine calls_fn (G.f 38 145 (by simp [ftab])) ok [Str.ofString "x", Str.ofString "signs", Str.ofString "rule"] ?_ rfl (by decide +kernel) (by decide +kernel) (by decide +kernel) (fun _ => Any) (fun s _ => .inr fun _ _ => trivial) ?_
  · intro name pm code doc vs hl
    match vs, hl with
    | [a, b, c], _ => rfl
  · intro s env s₁ own hs sc esc st F okd
    have G₁ := G.sub (hs.trans F.kp.sub)
    have cx : Cl env s₁.heap Any (Str.ofString "x") (.int x) := F.fr.cl (by rfl) (sc.look _ _ (by decide) (by decide +kernel))
    have cs : Cl env s₁.heap Any (Str.ofString "signs") (.list (sg.map .str)) := F.fr.cl (by rfl) (sc.look _ _ (by decide) (by decide +kernel))
    have nr : Nm prog w env s₁.heap Any (Str.ofString "range") (.raw (.type "range")) := G₁.nmb sc _ _ (by simp [btab]) (by decide +kernel) (by decide +kernel)
    have shl : ∀ y ∈ shownL x sg, y.length ≤ 50 := by
      intro y hy
      obtain ⟨i, hi, rfl⟩ := List.mem_map.mp hy
      split
      · have hi' : i < sg.length := by rw [hsg]; exact List.mem_range.mp hi
        rw [List.getD_eq_getElem?_getD, List.getElem?_eq_getElem hi']
        exact hsl _ (List.getElem_mem _)
      · decide +kernel
    have shn : (shownL x sg).length = 10 := by unfold shownL; rw [List.length_map, List.length_range]
    refine run_assign F (ev_meth ev_str meth_join (evs_cons (Ev.weak (ds := (shownL x sg).map .str) (Ev.cast (d := .plain (((List.range 10).filter fun _ => true).map fun i => D.str (if bitOf x i then sg.getD i "" else "?"))) ?_ (by rw [all_filter]; unfold shownL; rw [List.map_map]; rfl))) evs_nil)
      (calls_join (joinOk_small (by decide +kernel) (by omega) shl))) (.inr (shut_any _)) (st _ (by decide +kernel)) rfl ?_
    · refine comp (ks := [Str.ofString "x", Str.ofString "signs"]) (b := fun i => [.int (i : Nat)]) okd.hh sc (frees_cons cx (frees_cons cs frees_nil)) rfl
        (feeds_range okd.hh (by omega) (ev_name nr) ev_int) (by decide +kernel) (fun _ _ => rfl) (by rw [List.length_range]; omega) ?_
      intro cenv h' P' i hi hs' scc nf nb
      refine ⟨trs_nil, fun _ => ?_⟩
      have nx := (nf (Str.ofString "x") _ (by decide +kernel) rfl).1
      have ns := (nf (Str.ofString "signs") _ (by decide +kernel) rfl).1
      have nk := (nb (Str.ofString "k") _ rfl).1
      have hi' : i < 10 := List.mem_range.mp hi
      have hp : (2 : Int) ^ i ≠ 0 ∧ ((2 : Int) ^ i).natAbs < 1073741824 := by
        have : ∀ j < 10, (2 : Int) ^ j ≠ 0 ∧ ((2 : Int) ^ j).natAbs < 1073741824 := by decide +kernel
        exact this i hi'
      exact ev_if_str (tr_cmp (ev_mod_int (ev_div_int (ev_name nx) (Ev.cast (ev_pow_int ev_int (ev_name nk) (by omega) (by omega) (by decide)) (d' := .int (2 ^ i)) (by simp)) hp.1 hp.2) ev_int (by decide)) ev_int cmp_eq_int)
        (fun _ => ev_item (ev_name ns) (ev_name nk) (by omega) (by omega) (getD_map (xs := sg) (f := .str) (i := i) (d := "") (by omega))) (fun _ => ev_str)
    · intro s₂ F₂
      have nsh : Nm prog w env s₂.heap Any (Str.ofString "shown") (.str (Txt.join "" (shownL x sg))) := F₂.fr.nm (by rfl) (by decide +kernel)
      have nru : Nm prog w env s₂.heap Any (Str.ofString "rule") (.str rule) := F₂.fr.nm (by rfl) (by decide +kernel)
      have jl := join_len (sep := "") shl
      rw [shn, show (Str.length "") = 0 by decide +kernel] at jl
      have l1 : (Str.length " ") = 1 := by decide +kernel
      have l3 : ∀ b : Bool, (Str.length (if b = true then Str.ofString "**" else Str.ofString "")) ≤ 2 := by decide +kernel
      have l2 := l3 (Txt.slice rule none (some 1) == ".")
      have q1 : (Txt.join "" (shownL x sg)).length + Str.length " " ≤ 10000 := by rw [l1]; exact Nat.le_trans (Nat.add_le_add_right jl 1) (by decide)
      have q2 : (Txt.join "" (shownL x sg) ++ " ").length + Str.length (if Txt.slice rule none (some 1) == "." then Str.ofString "**" else Str.ofString "") ≤ 10000 := by
        rw [Str.length_append, l1]; exact Nat.le_trans (Nat.add_le_add (Nat.add_le_add_right jl 1) l2) (by decide)
      have q3 : ((Txt.join "" (shownL x sg) ++ " ") ++ (if Txt.slice rule none (some 1) == "." then Str.ofString "**" else Str.ofString "")).length + (Txt.lower rule).length ≤ 10000 := by
        rw [Str.length_append, Str.length_append, l1]; exact Nat.le_trans (Nat.add_le_add (Nat.add_le_add (Nat.add_le_add_right jl 1) l2) hrl) (by decide)
      exact run_ret F₂ (ev_add_str (ev_add_str (ev_add_str (ev_name nsh) ev_str q1) (ev_if_str (tr_cmp (ev_slice_str (ev_name nru) part_none (part_some (P' := Any) ev_int) hr) ev_str cmp_eq_str) (fun _ => ev_str) (fun _ => ev_str)) q2)
        (ev_meth (ev_name nru) meth_lower evs_nil (calls_lower (Nat.le_trans hrl (by decide)))) q3) (.inl (.str _))
end
end Mine
end

section
open PySem PySem.W PyProof.Rows
namespace Mine

theorem swaps_of {v : Expr} {t : Option Expr} {l : Nat} {env : Env} {S : Scope} {b : Bool} (esc : env.scope = S)
    (h : ∀ loc gl cs q f c fr bu, swapsWith v t l ⟨S, loc, gl, cs, q, f, c, fr, bu⟩ = pure b) : swapsWith v t l env = pure b := by
  obtain ⟨S', loc, gl, cs, q, f, c, fr, bu⟩ := env
  simp only at esc
  subst esc
  exact h ..
theorem swapped_of {ts : List Expr} {v : Expr} {env : Env} {S : Scope} {b : Option (List Str)} (esc : env.scope = S)
    (h : ∀ loc gl cs q f c fr bu, swappedStores ts v ⟨S, loc, gl, cs, q, f, c, fr, bu⟩ = pure b) : swappedStores ts v env = pure b := by
  obtain ⟨S', loc, gl, cs, q, f, c, fr, bu⟩ := env
  simp only at esc
  subst esc
  exact h ..

section
variable {prog : Program} {w : World} {A : Around} {s s₁ : Shared} {env : Env} {own : List (Str × Addr)} {P : Addr → Prop} {σ : List (Str × D)} {e : Expr} {d₁ d₂ : D} {Q : Flow → Shared → Prop} {rest : List Stmt} {pos tpos p₁ p₂ : Pos} {k : Nat} {n₁ n₂ : Str}
theorem pair_items {h : Heap} {v : Value} (r : Rel P h v (.tup [d₁, d₂])) : ∃ t v₁ v₂, v = .ref t ∧ h.IsTuple t #[v₁, v₂] ∧ Rel P h v₁ d₁ ∧ Rel P h v₂ d₂ := by
  cases r with
  | tup _ p r =>
    cases r with
    | cons a r =>
      cases r with
      | cons b r =>
        cases r
        exact ⟨_, _, _, rfl, p, a, b⟩
theorem run_pair (F : At s env own P σ s₁) (x : Ev prog w A env s₁.heap P e (.tup [d₁, d₂])) (hh : A.handled = none) (hp : Shut s₁ P) (st₁ : Stores env own n₁) (st₂ : Stores env own n₂)
    (hw : swappedStores [.Tuple [.Name n₁ p₁, .Name n₂ p₂] k tpos] e env = pure none)
    (next : ∀ s₂, At s env own P ((n₂, d₂) :: (n₁, d₁) :: σ) s₂ → Run prog w A env rest s₂ Q)
    (hs : swapsWithSole [.Tuple [.Name n₁ p₁, .Name n₂ p₂] k tpos] e pos.line env = pure false := by rfl) :
    Run prog w A env (.Assign [.Tuple [.Name n₁ p₁, .Name n₂ p₂] k tpos] e pos :: rest) s₁ Q := by
  refine ⟨fun E => ?_⟩
  refine wpAny_execs_cons (Assign_Tuple (x.run s₁ _ _ (.refl _) fun v s₂ k₂ r => ?_) hs hw)
  have F₂ := F.on k₂
  obtain ⟨t, v₁, v₂, rfl, ht, r₁, r₂⟩ := pair_items (r.imp fun a n => Nw.shut hp n)
  refine wpAny_assign_Tuple hh ht rfl rfl fun h' hx => ?_
  have hk : Sub s₂.heap h' := fun b o e => hx b o (Nat.ne_of_lt (Heap.lt_size e)) e
  have F₃ := F₂.on (s₂ := { s₂ with heap := h' }) (.heap hk)
  refine assignInOrder_cons (wpAny_assign_Name (F₃.fr.store st₁ (r₁.sub hk) fun h₄ tk₄ F₄ _ hs₄ => ?_))
  refine assignInOrder_cons (wpAny_assign_Name (F₄.store st₂ ((r₂.sub hk).seq hs₄) fun h₅ tk₅ F₅ _ hs₅ => assignInOrder_nil ?_))
  exact (next _ ⟨F₅, let ⟨h, tk', e⟩ := F₂.same; ⟨h₅, tk₅, by rw [e]⟩⟩).run E
theorem run_pair_sw (F : At s env own P σ s₁) (x : Ev prog w A env s₁.heap P e (.tup [d₁, d₂])) (hh : A.handled = none) (hp : Shut s₁ P ∨ (Flat d₁ ∧ Flat d₂)) (st₁ : Stores env own n₁) (st₂ : Stores env own n₂)
    (hw : swappedStores [.Tuple [.Name n₁ p₁, .Name n₂ p₂] k tpos] e env = pure (some [n₁, n₂]))
    (next : ∀ s₂, At s env own P ((n₁, d₁) :: (n₂, d₂) :: σ) s₂ → Run prog w A env rest s₂ Q)
    (hs : swapsWithSole [.Tuple [.Name n₁ p₁, .Name n₂ p₂] k tpos] e pos.line env = pure false := by rfl) :
    Run prog w A env (.Assign [.Tuple [.Name n₁ p₁, .Name n₂ p₂] k tpos] e pos :: rest) s₁ Q := by
  refine ⟨fun E => ?_⟩
  refine wpAny_execs_cons (Assign_Tuple_swapped (x.run s₁ _ _ (.refl _) fun v s₂ k₂ r => ?_) hs hw)
  have F₂ := F.on k₂
  obtain ⟨t, v₁, v₂, rfl, ht, r₁, r₂⟩ := pair_items r
  have r₁ : Rel P s₂.heap v₁ d₁ := by
    rcases hp with hp | hp
    · exact r₁.imp fun a n => Nw.shut hp n
    · exact r₁.flat hp.1
  have r₂ : Rel P s₂.heap v₂ d₂ := by
    rcases hp with hp | hp
    · exact r₂.imp fun a n => Nw.shut hp n
    · exact r₂.flat hp.2
  refine wpAny_unpackItems_tuple (items := #[v₁, v₂]) hh ht fun h' hx => ?_
  have hk : Sub s₂.heap h' := fun b o e => hx b o (Nat.ne_of_lt (Heap.lt_size e)) e
  have F₃ := F₂.on (s₂ := { s₂ with heap := h' }) (.heap hk)
  refine assignInOrder_cons (bindName_ (F₃.fr.store st₂ (r₂.sub hk) fun h₄ tk₄ F₄ _ hs₄ => ?_))
  refine assignInOrder_cons (bindName_ (F₄.store st₁ ((r₁.sub hk).seq hs₄) fun h₅ tk₅ F₅ _ hs₅ => assignInOrder_nil ?_))
  exact (next _ ⟨F₅, let ⟨h, tk', e⟩ := F₂.same; ⟨h₅, tk₅, by rw [e]⟩⟩).run E
end

/-! taking -/
def signOf (s : Str) : Str := if Txt.contains " -." s then Str.ofString "\\" ++ s else s
def badB (p : Str × Str) : Bool := !([Str.ofString "any", signOf p.2].any (· == p.1))
def fitB (ps ss : List Str) : Bool := decide (((ps.zip ss).filter badB).map Prod.fst = [])

section
variable {prog : Program} {w : World} {A : Around} {h : Heap}
theorem c_fit (G : Gm h) {k : Nat} (ok : Okay A (k + 2)) (ps : List Str) (t : Str) (hl : ps.length ≤ t.cps.size) (hp : ps.length ≤ 1000) :
    Calls prog w A h (.ref 150) [.list (ps.map .str), .str t] (.bool (fitB ps (signs t))) := by
  refine calls_fn (G.f 39 150 (by simp [ftab])) (k := k + 1) ok [Str.ofString "parts", Str.ofString "signs"] ?_ rfl (by decide +kernel) (by decide +kernel) (by decide +kernel) (fun _ => Any) (fun s _ => .inr fun _ _ => trivial) ?_
  · intro name pm code doc vs hl
    match vs, hl with
    | [a, b], _ => rfl
  · intro s env s₁ own hs sc esc st F okd
    have G₁ := G.sub (hs.trans F.kp.sub)
    have np : Nm prog w env s₁.heap Any (Str.ofString "parts") (.list (ps.map .str)) := F.fr.nm (by rfl) (by decide +kernel)
    have nt : Nm prog w env s₁.heap Any (Str.ofString "signs") (.str t) := F.fr.nm (by rfl) (by decide +kernel)
    have nz : Nm prog w env s₁.heap Any (Str.ofString "zip") (.raw (.type "zip")) := G₁.nmb sc _ _ (by simp [btab]) (by decide +kernel) (by decide +kernel)
    refine run_ret F (ev_cmp (d₁ := .list ((((ps.zip (signs t)).filter badB).map Prod.fst).map .str)) (d₂ := .list (([] : List Str).map .str)) (Ev.weak (Ev.cast (d := .plain (((ps.zip (signs t)).filter badB).map fun p => D.str p.1)) ?_ (by rw [List.map_map]; rfl)))
      (Ev.weak (ev_list evs_nil (Nat.zero_le _))) (cmp_eq_list (as := ((ps.zip (signs t)).filter badB).map Prod.fst) (bs := []) emb_str (by have := okd.units; omega))) (.inl (.bool _))
    refine comp (ks := []) (b := fun p => [.str p.1, .str p.2]) okd.hh sc frees_nil rfl
      (Feeds.cast (feeds_zip_str okd.hh (ev_name nz) (ev_name np) (ev_name nt) (by rw [List.length_map]; exact hl)) (by rw [List.zip_map_left, List.map_map]; rfl)) (by decide +kernel) (fun _ _ => rfl) (by rw [List.length_zip]; omega) ?_
    rintro cenv h' P' ⟨p, c⟩ hi hs' scc nf nb
    have np := (nb (Str.ofString "part") _ rfl).1
    have nc := (nb (Str.ofString "sign") _ rfl).1
    have hc : c.length = 1 := by
      have := (List.of_mem_zip hi).2
      unfold signs at this
      obtain ⟨a, _, rfl⟩ := List.mem_map.mp this
      rfl
    have l1 : Str.length (Str.ofString "\\") = 1 := by decide +kernel
    refine ⟨trs_one (tr_cmp (ev_name np) (Ev.weak (ds := ([Str.ofString "any", signOf c]).map .str) (ev_list (evs_cons ev_str (evs_cons (ev_if_str (tr_cmp (ev_name nc) ev_str cmp_in_str) (fun _ => ev_add_str ev_str (ev_name nc) (by rw [l1, hc]; decide)) (fun _ => ev_name nc)) evs_nil)) (by show 2 ≤ 1000; decide))) cmp_notin_strs), fun _ => ev_name np⟩
end
end Mine
end

section
open PySem PySem.W PyProof.Rows
namespace Mine

theorem Run.imp {prog : Program} {w : World} {A : Around} {env : Env} {ss : List Stmt} {s : Shared} {Q Q' : Flow → Shared → Prop} (x : Run prog w A env ss s Q) (h : ∀ f s', Q f s' → Q' f s') : Run prog w A env ss s Q' := ⟨fun E => wpAny_mono (x.run E) h fun _ _ z => z⟩
theorem Nm.flat {prog : Program} {w : World} {env : Env} {h : Heap} {P P' : Addr → Prop} {x : Str} {d : D} (n : Nm prog w env h P x d) (f : Flat d) : Nm prog w env h P' x d := by
  obtain ⟨v, r, q⟩ := n
  exact ⟨v, r.flat f, q⟩
theorem Gm.fv {h : Heap} (G : Gm h) (k : Nat) (a : Addr) (hm : (k, a) ∈ ftab) : (∃ id, Value.ref a = .builtin id) ∨ (∃ T, Value.ref a = .type T) ∨ ∃ a' o fd, Value.ref a = .ref a' ∧ h.get? a' = some o ∧ o.data = .func fd := by
  obtain ⟨o, name, pm, code, doc, ho, hd, _⟩ := (G.f k a hm).ex
  exact .inr (.inr ⟨a, o, _, rfl, ho, hd⟩)
theorem bv {id : String} {h : Heap} : (∃ i, Value.builtin id = .builtin i) ∨ (∃ T, Value.builtin id = .type T) ∨ ∃ a' o fd, Value.builtin id = .ref a' ∧ h.get? a' = some o ∧ o.data = .func fd := .inl ⟨_, rfl⟩
theorem tv {T : String} {h : Heap} : (∃ i, Value.type T = .builtin i) ∨ (∃ T', Value.type T = .type T') ∨ ∃ a' o fd, Value.type T = .ref a' ∧ h.get? a' = some o ∧ o.data = .func fd := .inr (.inl ⟨_, rfl⟩)

theorem some_optD (xs : List Str) : (xs.map some).map optD = xs.map .str := by rw [List.map_map]; rfl
theorem any_some (xs : List Str) : (xs.map some).any (fun o : Option Str => o.isNone) = false := by
  rw [List.any_map, List.any_eq_false]; simp
def starP (fs es : List Str) : List (Option Str) := fs.map some ++ none :: es.map some

section
variable {prog : Program} {w : World} {A : Around} {h : Heap}
theorem c_takes1 (G : Gm h) {k : Nat} (ok : Okay A (k + 3)) (fs : List Str) (row : Str) (hf : fs.length ≤ 1000) (hr : row.length ≤ 1000) :
    Calls prog w A h (.ref 157) [.plain ((fs.map some).map optD), .str row] (.bool (((fs.length : Int) == row.length) && fitB fs (signs row))) := by
  refine calls_fn (G.f 40 157 (by simp [ftab])) (k := k + 2) ok [Str.ofString "parts", Str.ofString "row"] ?_ rfl (by decide +kernel) (by decide +kernel) (by decide +kernel) (fun _ => Any) (fun s _ => .inr fun _ _ => trivial) ?_
  · intro name pm code doc vs hl
    match vs, hl with
    | [a, b], _ => rfl
  · intro s env s₁ own hs sc esc st F okd
    have np : Nm prog w env s₁.heap Any (Str.ofString "parts") (.plain ((fs.map some).map optD)) := F.fr.nm (by rfl) (by decide +kernel)
    refine run_if F (tr_cmp ev_none (Ev.weak (ev_name np)) cmp_notin_none) (fun _ s₂ F₂ => ?_) (fun hb => by rw [any_some] at hb; cases hb)
    have G₂ := G.sub (hs.trans F₂.kp.sub)
    have np : Nm prog w env s₂.heap Any (Str.ofString "parts") (.plain ((fs.map some).map optD)) := F₂.fr.nm (by rfl) (by decide +kernel)
    have nr : Nm prog w env s₂.heap Any (Str.ofString "row") (.str row) := F₂.fr.nm (by rfl) (by decide +kernel)
    have nl : Nm prog w env s₂.heap Any (Str.ofString "len") (.raw (.builtin "len")) := G₂.nmb sc _ _ (by simp [btab]) (by decide +kernel) (by decide +kernel)
    have nf : Nm prog w env s₂.heap Any (Str.ofString "_law_fit") (.raw (.ref 150)) := G₂.nm sc _ (.ref 150) (by simp [gtab]) (.raw _) (by decide +kernel) (by decide +kernel)
    rw [some_optD] at np
    refine Run.imp (run_ret F₂ (ev_and (ev_cmp (ev_call (ev_name nl) (evs_cons (Ev.weak (ev_name np)) evs_nil) (calls_len_list (by rw [List.length_map]; exact hf)) bv) (ev_call (ev_name nl) (evs_cons (ev_name nr) evs_nil) (calls_len_str hr) bv) cmp_eq_int)
      (fun hb => ev_call (ev_name nf) (evs_cons (Ev.weak (ev_name np)) (evs_cons (ev_name nr) evs_nil)) (c_fit G₂ okd fs row ?_ hf) (G₂.fv 39 150 (by simp [ftab])))) (.inl (.bool _))) fun f s' r => by obtain ⟨v, rfl, q⟩ := r; rw [List.length_map] at q; exact ⟨v, rfl, q⟩
    rw [List.length_map] at hb
    have : (fs.length : Int) = row.length := by simpa using hb
    show fs.length ≤ row.length
    omega

theorem c_takes2 (G : Gm h) {k : Nat} (ok : Okay A (k + 3)) (fs es : List Str) (row : Str) (hf : fs.length ≤ 400) (he : es.length ≤ 400) (hr : row.length ≤ 1000) :
    Calls prog w A h (.ref 157) [.plain ((starP fs es).map optD), .str row]
      (.bool (decide ((fs.length : Int) + es.length ≤ row.length) && (fitB fs (signs row) && fitB es (signs (Txt.slice row (some ((row.length : Int) - es.length)) none))))) := by
  have hpl : ((starP fs es).map optD).length = fs.length + es.length + 1 := by simp [starP]; omega
  refine calls_fn (G.f 40 157 (by simp [ftab])) (k := k + 2) ok [Str.ofString "parts", Str.ofString "row"] ?_ rfl (by decide +kernel) (by decide +kernel) (by decide +kernel) (fun _ => Any) (fun s _ => .inr fun _ _ => trivial) ?_
  · intro name pm code doc vs hl
    match vs, hl with
    | [a, b], _ => rfl
  · intro s env s₁ own hs sc esc st F okd
    have np : Nm prog w env s₁.heap Any (Str.ofString "parts") (.plain ((starP fs es).map optD)) := F.fr.nm (by rfl) (by decide +kernel)
    refine run_if F (tr_cmp ev_none (Ev.weak (ev_name np)) cmp_notin_none) (fun hb => by simp [starP] at hb) (fun _ s₂ F₂ => ?_)
    refine run_nil ?_
    have np : Nm prog w env s₂.heap Any (Str.ofString "parts") (.plain ((starP fs es).map optD)) := F₂.fr.nm (by rfl) (by decide +kernel)
    show Run prog w _ env _ s₂ _
    refine run_assign F₂ (ev_meth (ev_name np) meth_index (evs_cons ev_none evs_nil) (calls_index_none (j := fs.length) ?_ ?_ (by omega))) (.inr (shut_any _)) (st _ (by decide +kernel)) rfl ?_
    · unfold starP; rw [List.getElem?_append_right (by simp)]; simp
    · intro m hm
      unfold starP
      rw [List.getElem?_append_left (by simpa using hm), List.getElem?_map, List.getElem?_eq_getElem hm]
      exact ⟨_, rfl⟩
    intro s₃ F₃
    have np : Nm prog w env s₃.heap Any (Str.ofString "parts") (.plain ((starP fs es).map optD)) := F₃.fr.nm (by rfl) (by decide +kernel)
    have ns : Nm prog w env s₃.heap Any (Str.ofString "star") (.int (fs.length : Nat)) := F₃.fr.nm (by rfl) (by decide +kernel)
    have e1 : pick none (some ((fs.length : Nat) : Int)) ((starP fs es).map optD) = fs.map .str := by
      rw [pick_upto, ← List.map_take, show (starP fs es).take fs.length = fs.map some by unfold starP; rw [List.take_append_of_le_length (by simp), List.take_of_length_le (by simp)], some_optD]
    have e2 : pick (some ((fs.length : Nat) + 1 : Int)) none ((starP fs es).map optD) = es.map .str := by
      rw [show ((fs.length : Nat) + 1 : Int) = ((fs.length + 1 : Nat) : Int) by omega, pick_from, ← List.map_drop, show (starP fs es).drop (fs.length + 1) = es.map some by
        unfold starP; rw [List.drop_append]; simp, some_optD]
    refine run_pair_sw (d₁ := .plain (fs.map .str)) (d₂ := .plain (es.map .str)) F₃ (ev_tuple (evs_cons (Ev.cast (ev_slice (Ev.weak (ev_name np)) part_none (part_some (ev_name ns)) (by rw [hpl]; omega)) (by rw [e1]))
      (evs_cons (Ev.cast (ev_slice (Ev.weak (ev_name np)) (part_some (ev_add_int (ev_name ns) ev_int)) part_none (by rw [hpl]; omega)) (by rw [e2])) evs_nil)) (by show 2 ≤ 1000; decide)) okd.hh (.inl (shut_any _)) (st _ (by decide +kernel)) (st _ (by decide +kernel))
      (swapped_of esc (by intros; rfl)) ?_
    intro s₄ F₄
    have G₄ := G.sub (hs.trans F₄.kp.sub)
    have nfr : Nm prog w env s₄.heap Any (Str.ofString "front") (.plain (fs.map .str)) := F₄.fr.nm (by rfl) (by decide +kernel)
    have nen : Nm prog w env s₄.heap Any (Str.ofString "end") (.plain (es.map .str)) := F₄.fr.nm (by rfl) (by decide +kernel)
    have nr : Nm prog w env s₄.heap Any (Str.ofString "row") (.str row) := F₄.fr.nm (by rfl) (by decide +kernel)
    have nl : Nm prog w env s₄.heap Any (Str.ofString "len") (.raw (.builtin "len")) := G₄.nmb sc _ _ (by simp [btab]) (by decide +kernel) (by decide +kernel)
    have nf : Nm prog w env s₄.heap Any (Str.ofString "_law_fit") (.raw (.ref 150)) := G₄.nm sc _ (.ref 150) (by simp [gtab]) (.raw _) (by decide +kernel) (by decide +kernel)
    have hcut : (fs.length : Int) + es.length ≤ row.length → es.length ≤ (Txt.slice row (some ((row.length : Int) - es.length)) none).cps.size := fun hb => by
      rw [slice_from_eq (b := row.length) (by omega) (by omega) rfl]
      have hz : row.cps.toList.length = row.length := by simp [Str.length]
      simp only [List.size_toArray, List.length_take, List.length_drop, hz]
      omega
    refine run_ret F₄ (Ev.cast (ev_and3 (ev_cmp (ev_add_int (ev_call (ev_name nl) (evs_cons (Ev.weak (ev_name nfr)) evs_nil) (calls_len_list (by rw [List.length_map]; omega)) bv) (ev_call (ev_name nl) (evs_cons (Ev.weak (ev_name nen)) evs_nil) (calls_len_list (by rw [List.length_map]; omega)) bv))
        (ev_call (ev_name nl) (evs_cons (ev_name nr) evs_nil) (calls_len_str hr) bv) cmp_le_int)
      (fun hb => ev_call (ev_name nf) (evs_cons (Ev.weak (ev_name nfr)) (evs_cons (ev_name nr) evs_nil)) (c_fit G₄ okd fs row ?_ (by omega)) (G₄.fv 39 150 (by simp [ftab])))
      (fun hb _ => ev_call (ev_name nf) (evs_cons (Ev.weak (ev_name nen)) (evs_cons (ev_slice_str (ev_name nr) (part_some (Ev.cast (ev_sub_int (ev_call (ev_name nl) (evs_cons (ev_name nr) evs_nil) (calls_len_str hr) bv)
        (ev_call (ev_name nl) (evs_cons (Ev.weak (ev_name nen)) evs_nil) (calls_len_list (ds := es.map .str) (by rw [List.length_map]; omega)) bv)) (by rw [List.length_map]))) part_none hr) evs_nil))
        (c_fit G₄ okd es _ ?_ (by omega)) (G₄.fv 39 150 (by simp [ftab])))) (by rw [List.length_map, List.length_map])) (.inl (.bool _))
    · have hb := of_decide_eq_true hb; rw [List.length_map, List.length_map] at hb; show fs.length ≤ row.length; omega
    · have hb := of_decide_eq_true hb; rw [List.length_map, List.length_map] at hb; exact hcut hb
end
end Mine
end

section
open PySem PySem.W PyProof.Rows
namespace Mine

/-- the heap without some objects -/
def dropA (h : Heap) (a : Addr) : Heap := h.update a fun o => { o with data := .freed }
def drops (h : Heap) (xs : List Addr) : Heap := xs.foldl dropA h
theorem dropA_get (h : Heap) (a b : Addr) : (dropA h a).get? b = if b = a then none else h.get? b := by
  by_cases e : b = a
  · subst e
    rw [if_pos rfl]
    obtain ⟨objs, l⟩ := h
    simp only [dropA, Heap.update, Heap.get?]
    rw [Array.getElem?_modify, if_pos rfl]
    cases objs[b]? <;> rfl
  · rw [if_neg e]
    exact Heap.get?_update_other h _ (Ne.symm e)
theorem drops_get : ∀ (xs : List Addr) (h : Heap) (b : Addr), (drops h xs).get? b = if b ∈ xs then none else h.get? b
  | [], h, b => by simp [drops]
  | a :: xs, h, b => by
    show (drops (dropA h a) xs).get? b = _
    rw [drops_get xs (dropA h a) b, dropA_get]
    by_cases e : b ∈ xs
    · rw [if_pos e, if_pos (List.mem_cons_of_mem _ e)]
    · rw [if_neg e]
      by_cases e' : b = a
      · rw [if_pos e', if_pos (by rw [e']; exact List.mem_cons_self)]
      · rw [if_neg e', if_neg (fun hm => (List.mem_cons.mp hm).elim e' e)]
theorem drops_sub (h : Heap) (xs : List Addr) : Sub (drops h xs) h := fun b o e => by
  rw [drops_get] at e
  split at e
  · cases e
  · exact e

theorem Fr.sel {h₀ h : Heap} {env : Env} {own : List (Str × Addr)} {P : Addr → Prop} {σ σ' : List (Str × D)} (F : Fr h₀ env own P σ h) (hs : ∀ n d, σ'.lookup n = some d → σ.lookup n = some d) : Fr h₀ env own P σ' h := by
  obtain ⟨k, m, cm, G, q⟩ := F
  exact ⟨k, m, cm, G, fun n d e => q n d (hs n d e)⟩
theorem At.sel {s s₁ : Shared} {env : Env} {own : List (Str × Addr)} {P : Addr → Prop} {σ σ' : List (Str × D)} (F : At s env own P σ s₁) (hs : ∀ n d, σ'.lookup n = some d → σ.lookup n = some d) : At s env own P σ' s₁ := ⟨F.fr.sel hs, F.same⟩
theorem At.pick {s s₁ : Shared} {env : Env} {own : List (Str × Addr)} {P : Addr → Prop} {σ σ' : List (Str × D)} (F : At s env own P σ s₁) (hs : ∀ p ∈ σ', σ.lookup p.1 = some p.2) : At s env own P σ' s₁ :=
  F.sel fun n d e => hs (n, d) (mem_of_lookup e)
theorem Fr.flatP {h₀ h : Heap} {env : Env} {own : List (Str × Addr)} {P P' : Addr → Prop} {σ : List (Str × D)} (F : Fr h₀ env own P σ h) (hf : ∀ n d, σ.lookup n = some d → Flat d) : Fr h₀ env own P' σ h := by
  obtain ⟨k, m, cm, G, q⟩ := F
  exact ⟨k, m, cm, G, fun n d e => let ⟨v, r, H⟩ := q n d e; ⟨v, r.flat (hf n d e), H⟩⟩

/-- from a later base back to an earlier one -/
theorem At.base {s s' s₁ : Shared} {env : Env} {own : List (Str × Addr)} {P : Addr → Prop} {σ : List (Str × D)} (F : At s' env own P σ s₁) (k : Sub s.heap s'.heap) (hs : ∃ h tk, s' = { s with heap := h, toks := tk })
    (fresh : s.heap.get? env.locals = none) (above : ∀ n c, own.lookup n = some c → s.heap.get? c = none) : At s env own P σ s₁ := by
  obtain ⟨⟨kd, m, cm, G, q⟩, h, tk, e⟩ := F
  obtain ⟨h', tk', e'⟩ := hs
  refine ⟨⟨kd, m, cm, ⟨G.ns, k.trans G.keep, fresh, G.cell, G.look, G.apart, fun n c hm => ⟨(G.above n c hm).1, above n c hm⟩⟩, q⟩, h, tk, by rw [e, e']⟩
theorem At.fresh {s s₁ : Shared} {env : Env} {own : List (Str × Addr)} {P : Addr → Prop} {σ : List (Str × D)} (F : At s env own P σ s₁) : s.heap.get? env.locals = none ∧ ∀ n c, own.lookup n = some c → s.heap.get? c = none ∧ c ≠ env.locals := by
  obtain ⟨⟨kd, m, cm, G, q⟩, _⟩ := F
  exact ⟨G.fresh, fun n c hm => ⟨(G.above n c hm).2, (G.above n c hm).1⟩⟩
/-- the frame's own objects -/
def mineA (env : Env) (own : List (Str × Addr)) (X : List Addr) : List Addr := env.locals :: (own.filterMap (fun x => own.lookup x.1) ++ X)
theorem mineA_mem {env : Env} {own : List (Str × Addr)} {X : List Addr} {a : Addr} : a ∈ mineA env own X ↔ a = env.locals ∨ (∃ n, own.lookup n = some a) ∨ a ∈ X := by
  unfold mineA
  rw [List.mem_cons, List.mem_append, List.mem_filterMap]
  constructor
  · rintro (h | ⟨⟨n, c⟩, _, e⟩ | h)
    · exact .inl h
    · exact .inr (.inl ⟨n, e⟩)
    · exact .inr (.inr h)
  · rintro (h | ⟨n, e⟩ | h)
    · exact .inl h
    · exact .inr (.inl ⟨(n, a), mem_of_lookup e, e⟩)
    · exact .inr (.inr h)
/-- a new base: all but the frame's own objects and X -/
theorem At.rebase {s s₁ : Shared} {env : Env} {own : List (Str × Addr)} {P : Addr → Prop} {σ : List (Str × D)} (F : At s env own P σ s₁) (X : List Addr) :
    At { s₁ with heap := drops s₁.heap (mineA env own X) } env own P σ s₁ := by
  obtain ⟨⟨kd, m, cm, G, q⟩, h, tk, e⟩ := F
  refine ⟨⟨kd, m, cm, ⟨G.ns, drops_sub _ _, ?_, G.cell, G.look, G.apart, fun n c hm => ⟨(G.above n c hm).1, ?_⟩⟩, q⟩, s₁.heap, s₁.toks, rfl⟩
  · show (drops _ _).get? _ = _
    rw [drops_get, if_pos (mineA_mem.mpr (.inl rfl))]
  · show (drops _ _).get? _ = _
    rw [drops_get, if_pos (mineA_mem.mpr (.inr (.inl ⟨n, hm⟩)))]

section
variable {prog : Program} {w : World} {A : Around} {s s₁ : Shared} {env : Env} {own : List (Str × Addr)} {P : Addr → Prop} {iter tgt : Expr} {xs : List Str} {dss : List (List D)} {body orelse rest : List Stmt} {pos : Pos} {Q : Flow → Shared → Prop}

/-- a for: σs i and R i hold ahead of the i-th turn; a break leaves with τ and B -/
theorem run_for (hh : A.handled = none) (σs : Nat → List (Str × D)) (R : Nat → Heap → Prop) (τ : List (Str × D)) (B : Heap → Prop) (X : List Addr)
    (F : At s env own P (σs 0) s₁) (r0 : R 0 s₁.heap)
    (hX : ∀ a ∈ X, s.heap.get? a = none ∧ In s₁.heap a ∧ ¬ P a ∧ a ≠ env.locals ∧ ∀ n, own.lookup n ≠ some a)
    (hR : ∀ i h h', R i h → (∀ a ∈ X, ∀ o, h.get? a = some o → h'.get? a = some o) → R i h') (hRin : ∀ i h, R i h → ∀ a ∈ X, In h a)
    (hP : Shut s₁ P) (feeds : Feeds prog w A env s₁.heap P iter tgt xs dss) (hst : ∀ x ∈ xs, Stores env own x)
    (turn : ∀ i ds s' s₂ P', dss[i]? = some ds → Sub s.heap s'.heap → (∀ a, P' a → P a) → (∀ s₃ σ, At s' env own P' σ s₃ → (∀ a ∈ X, In s₃.heap a) → Shut s₃ P') → (∀ a ∈ X, s'.heap.get? a = none) → At s' env own P' ((xs.zip ds).reverse ++ σs i) s₂ → R i s₂.heap →
      Run prog w A env body s₂ fun f s₃ => match f with
        | .next | .cont => At s' env own P' (σs (i + 1)) s₃ ∧ R (i + 1) s₃.heap
        | .brk => At s' env own P' τ s₃ ∧ B s₃.heap
        | .ret _ => False)
    (els : ∀ s₂, At s env own P (σs dss.length) s₂ → R dss.length s₂.heap → Shut s₂ P → Run prog w A env orelse s₂ fun f s₃ => f = .next ∧ At s env own P τ s₃ ∧ B s₃.heap)
    (next : ∀ s₂, At s env own P τ s₂ → B s₂.heap → Run prog w A env rest s₂ Q)
    (hs : ∀ x, foldedSetIterable iter env x = pure x := by intro _; rfl) :
    Run prog w A env (.For tgt iter body orelse pos :: rest) s₁ Q := by
  refine ⟨fun E => ?_⟩
  refine wpAny_execs_cons (wpAny_For (feeds.run s₁ _ _ (.refl _) fun it s₂ hb wr fp St kp hsb hbs src st0 hwr hfp => ?_) hs)
  have F₂ := F.on kp
  obtain ⟨fL, fO⟩ := F.fresh
  have hLo : In s₁.heap env.locals ∧ (∀ o, hb.get? env.locals = some o → ¬ ∃ vs n, o.data = .seq vs n) := by
    obtain ⟨⟨_, m, cm, G, _⟩, _⟩ := F
    exact ⟨let ⟨o, _, _, e, _⟩ := G.ns; ⟨o, e⟩, fun o e => Ns.not_seq (G.ns.keeps hsb) e⟩
  have hOo : ∀ n c, own.lookup n = some c → In s₁.heap c ∧ ∀ o, hb.get? c = some o → ¬ ∃ vs n, o.data = .seq vs n := by
    intro n c e
    obtain ⟨⟨_, m, cm, G, _⟩, _⟩ := F
    have hc := G.cell n c e
    exact ⟨let ⟨o, e, _⟩ := hc; ⟨o, e⟩, fun o e' => IsCell.not_seq (hc.keeps hsb) e'⟩
  have notwr : ∀ a, In s₁.heap a → a ∉ wr := fun a ⟨o, e⟩ hm => by have := hsb a o e; rw [hwr a hm] at this; cases this
  -- what the source stands on is none of the frame's own
  have fpM : ∀ b ∈ fp, b ∉ mineA env own X := fun b hb' hm => by
    have notnew : In s₁.heap b → hb.get? b ≠ none := fun ⟨o, e⟩ n => by rw [hsb b o e] at n; cases n
    rcases mineA_mem.mp hm with rfl | ⟨n, e⟩ | hx
    · rcases hfp _ hb' with n | ⟨_, o, vs, n, e, hd⟩
      · exact notnew hLo.1 n
      · exact hLo.2 o e ⟨vs, n, hd⟩
    · rcases hfp _ hb' with n' | ⟨_, o, vs, n', e', hd⟩
      · exact notnew (hOo n b e).1 n'
      · exact (hOo n b e).2 o e' ⟨vs, n', hd⟩
    · obtain ⟨_, hi, hp, _⟩ := hX b hx
      rcases hfp _ hb' with n' | ⟨p, _⟩
      · exact notnew hi n'
      · rcases p with p | p
        · exact hp p
        · obtain ⟨o, e⟩ := hi; rw [e] at p; cases p
  let P' : Addr → Prop := fun a => P a ∧ a ∉ wr
  have F₂' : At s env own P' (σs 0) s₂ := by
    obtain ⟨⟨kd, m, cm, G, q⟩, sm⟩ := F
    refine ⟨⟨kd, m, cm, G.sub kp.sub, fun n d e => ?_⟩, F₂.same⟩
    obtain ⟨v, r, H⟩ := q n d e
    exact ⟨v, (r.inn.imp fun a q => ⟨q.1, notwr a q.2⟩).sub kp.sub, H⟩
  have kq : ∀ h : Heap, (∀ b o, b ∉ mineA env own X → hb.get? b = some o → h.get? b = some o) → Kq hb (Nw P s₁) h := fun h hk b o p e hsq => hk b o (fun hm => by
    rcases mineA_mem.mp hm with rfl | ⟨n, e'⟩ | hx
    · exact hLo.2 o e hsq
    · exact (hOo n b e').2 o e hsq
    · obtain ⟨_, ⟨o', e'⟩, hp, _⟩ := hX b hx
      rcases p with p | p
      · exact hp p
      · rw [e'] at p; cases p) e
  have shut' : ∀ s₃ : Shared, Sub s₁.heap s₃.heap ∨ (∀ a, s₃.heap.get? a = none → s₁.heap.get? a = none) → (∀ a ∈ wr, In s₃.heap a) → Shut s₃ P' := fun s₃ k hw a e => by
    refine ⟨hP a ?_, fun hm => by obtain ⟨o, e'⟩ := hw a hm; rw [e] at e'; cases e'⟩
    rcases k with k | k
    · cases e' : s₁.heap.get? a with
      | none => rfl
      | some o => rw [k a o e'] at e; cases e
    · exact k a e
  have insub : ∀ h : Heap, (∀ b o, b ∉ mineA env own X → hb.get? b = some o → h.get? b = some o) → (∀ a ∈ mineA env own X, In h a) → ∀ a, h.get? a = none → s₁.heap.get? a = none := fun h hk hm a e => by
    cases e' : s₁.heap.get? a with
    | none => rfl
    | some o =>
      by_cases hma : a ∈ mineA env own X
      · obtain ⟨o', e''⟩ := hm a hma; rw [e] at e''; cases e''
      · rw [hk a o hma (hsb a o e')] at e; cases e
  have mineIn : ∀ (σ : List (Str × D)) (s₃ : Shared) (i : Nat) (PP : Addr → Prop), (∃ b, At b env own PP σ s₃) → R i s₃.heap → ∀ a ∈ mineA env own X, In s₃.heap a := by
    intro σ s₃ i PP ⟨b, hA⟩ hr a hm
    obtain ⟨⟨_, m, cm, G, _⟩, _⟩ := hA
    rcases mineA_mem.mp hm with rfl | ⟨n, e⟩ | hx
    · obtain ⟨o, _, _, e, _⟩ := G.ns; exact ⟨o, e⟩
    · obtain ⟨o, e, _⟩ := G.cell n a e; exact ⟨o, e⟩
    · exact hRin i _ hr a hx
  refine codeAny_forLoop_any (fun k s' => ∃ i, k + i = dss.length + 1 ∧ i ≤ dss.length ∧ At s env own P' (σs i) s' ∧ R i s'.heap ∧ St i s'.heap ∧
      (∀ b o, b ∉ mineA env own X → hb.get? b = some o → s'.heap.get? b = some o)) ?_ (dss.length + 1)
    ⟨0, rfl, Nat.zero_le _, F₂', hR _ _ _ r0 fun a _ o e => kp.sub a o e, st0, fun b o _ e => hbs b o e⟩
  rintro k s' ⟨i, hki, hil, hA, hr, hst', hkb⟩
  have live' : ∀ a ∈ wr, In s'.heap a := fun a ha => src.live i _ hst' a (src.sub a ha)
  by_cases hlt : i < dss.length
  · have hds : dss[i]? = some dss[i] := List.getElem?_eq_getElem hlt
    refine' wpAny_mono (src.item i dss[i] env _ _ _ hds hst' (kq _ hkb) ?itm) ?post (fun _ _ z => z)
    case post =>
      rintro r s₁ ⟨v, rfl, hx⟩
      exact hx
    intro vs h₁ tk₁ hrv st₁ hk₁
    have F₁ : Fr s.heap env own P' (σs i) h₁ := by
      obtain ⟨kd, m, cm, G, hq⟩ := hA.fr
      have wL : env.locals ∉ wr := notwr _ hLo.1
      refine ⟨kd, m, cm, ⟨G.ns.at' fun o e => hk₁ _ o wL e, fun b o e => hk₁ b o (fun hm => by
        have := hsb b o (F.kp.sub b o e); rw [hwr b hm] at this; cases this) (G.keep b o e), G.fresh, fun n c e => ?_, G.look, G.apart, G.above⟩, fun n d e => ?_⟩
      · obtain ⟨o, ho', hd⟩ := G.cell n c e
        exact ⟨o, hk₁ c o (notwr c (hOo n c e).1) ho', hd⟩
      · obtain ⟨v, r, H⟩ := hq n d e
        exact ⟨v, r.turn fun a pa _ => ⟨pa, fun o e' _ => hk₁ a o pa.2 e'⟩, H⟩
    have keepb₁ : ∀ b o, b ∉ mineA env own X → hb.get? b = some o → h₁.get? b = some o := fun b o hm e => hk₁ b o (fun hw => by rw [hwr b hw] at e; cases e) (hkb b o hm e)
    have hrv' : RelAll P' h₁ vs dss[i] := by
      refine hrv.inn.turn fun a pa _ => ⟨⟨?_, fun hm => by obtain ⟨o, e⟩ := pa.2; rw [hwr a hm] at e; cases e⟩, fun o e hsq => kq _ keepb₁ a o pa.1 e hsq⟩
      rcases pa.1 with p | p
      · exact p
      · exact hP a p
    refine F₁.storeAll (xs := xs) (ds := dss[i]) hst hrv' fun h₂ tk₂ F₂ ht hss => ?_
    have hA₂ : At s env own P' ((xs.zip dss[i]).reverse ++ σs i) { s' with heap := h₂, toks := tk₂ } := ⟨F₂, let ⟨h, tk, e⟩ := hA.same; ⟨h₂, tk₂, by rw [e]⟩⟩
    have touch : ∀ b o, b ∉ mineA env own [] → h₁.get? b = some o → h₂.get? b = some o := fun b o hm e => ht b o (fun e' => hm (mineA_mem.mpr (.inl e'))) (fun n e' => hm (mineA_mem.mpr (.inr (.inl ⟨n, e'⟩)))) e
    have mono0 : ∀ b, b ∉ mineA env own X → b ∉ mineA env own [] := fun b hm h0 => hm (by
      rcases mineA_mem.mp h0 with h | h | h
      · exact mineA_mem.mpr (.inl h)
      · exact mineA_mem.mpr (.inr (.inl h))
      · cases h)
    have r₂ : R i h₂ := hR i _ _ hr fun a ha o e => by
      obtain ⟨_, hi, _, h3, h4⟩ := hX a ha
      exact ht a o h3 h4 (hk₁ a o (notwr a hi) e)
    have st₂ : St (i + 1) h₂ := src.frame _ _ _ st₁ fun b hb' o e => touch b o (mono0 b (fpM b hb')) e
    have keepb₂ : ∀ b o, b ∉ mineA env own X → hb.get? b = some o → h₂.get? b = some o := fun b o hm e => touch b o (mono0 b hm) (keepb₁ b o hm e)
    have live₂ : ∀ a ∈ wr, In h₂ a := fun a ha => src.live _ _ st₂ a (src.sub a ha)
    have R₂ := hA₂.rebase X
    have subs : Sub s.heap (drops h₂ (mineA env own X)) := fun b o e => by
      rw [drops_get, if_neg ?_]
      · exact F₂.keep b o e
      · intro hm
        rcases mineA_mem.mp hm with rfl | ⟨n, e'⟩ | hx
        · rw [fL] at e; cases e
        · rw [(fO n b e').1] at e; cases e
        · rw [(hX b hx).1] at e; cases e
    have back : ∀ (σ : List (Str × D)) (s₃ : Shared), At { s' with heap := drops h₂ (mineA env own X), toks := tk₂ } env own P' σ s₃ → At s env own P' σ s₃ := fun σ s₃ z =>
      z.base subs (let ⟨h, tk, e⟩ := hA.same; ⟨_, _, by rw [e]⟩) fL fun n c e => (fO n c e).1
    have hinsub := insub h₂ keepb₂ (mineIn _ { s' with heap := h₂, toks := tk₂ } i _ ⟨s, hA₂⟩ r₂)
    have hlater : ∀ s₃ σ, At { s' with heap := drops h₂ (mineA env own X), toks := tk₂ } env own P' σ s₃ → (∀ a ∈ X, In s₃.heap a) → Shut s₃ P' := fun s₃ σ z hx a e => by
      have hnm : a ∉ mineA env own X := fun hm => by
        obtain ⟨⟨_, m, cm, G, _⟩, _⟩ := z
        rcases mineA_mem.mp hm with rfl | ⟨n, e'⟩ | hx'
        · obtain ⟨o, _, _, e', _⟩ := G.ns; rw [e] at e'; cases e'
        · obtain ⟨o, e'', _⟩ := G.cell n a e'; rw [e] at e''; cases e''
        · obtain ⟨o, e'⟩ := hx a hx'; rw [e] at e'; cases e'
      have hn2 : h₂.get? a = none := by
        cases e' : h₂.get? a with
        | none => rfl
        | some o =>
          have := z.fr.keep a o (by
            show (drops _ _).get? _ = _
            rw [drops_get, if_neg hnm]; exact e')
          rw [e] at this; cases this
      exact ⟨hP a (hinsub a hn2), fun hm => by obtain ⟨o, e'⟩ := live₂ a hm; rw [hn2] at e'; cases e'⟩
    refine wpAny_mono (Run.run (turn i dss[i] { s' with heap := drops h₂ (mineA env own X), toks := tk₂ } { s' with heap := h₂, toks := tk₂ } P' hds subs (fun a p => p.1) hlater (fun a ha => by
      show (drops _ _).get? _ = _
      rw [drops_get, if_pos (mineA_mem.mpr (.inr (.inr ha)))]) R₂ r₂) _) (fun f s₃ hf => ?_) fun _ _ z => z
    have again : At { s' with heap := drops h₂ (mineA env own X), toks := tk₂ } env own P' (σs (i + 1)) s₃ ∧ R (i + 1) s₃.heap →
        ∃ m, m < k ∧ ∃ j, m + j = dss.length + 1 ∧ j ≤ dss.length ∧ At s env own P' (σs j) s₃ ∧ R j s₃.heap ∧ St j s₃.heap ∧ (∀ b o, b ∉ mineA env own X → hb.get? b = some o → s₃.heap.get? b = some o) := by
      rintro ⟨z, r₃⟩
      have kd : ∀ b o, b ∉ mineA env own X → h₂.get? b = some o → s₃.heap.get? b = some o := fun b o hm e => z.fr.keep b o (by
        show (drops _ _).get? _ = _
        rw [drops_get, if_neg hm]; exact e)
      exact ⟨dss.length - i, by omega, i + 1, by omega, hlt, back _ _ z, r₃, src.frame _ _ _ st₂ fun b hb' o e => kd b o (fpM b hb') e, fun b o hm e => kd b o hm (keepb₂ b o hm e)⟩
    cases f with
    | next => exact again hf
    | cont => exact again hf
    | brk => exact (next _ ⟨(back _ _ hf.1).fr.imp fun a p => p.1, (back _ _ hf.1).same⟩ hf.2).run E
    | ret v => exact hf.elim
  · have hi : i = dss.length := by omega
    subst hi
    refine src.done _ _ _ hst' (kq _ hkb) fun h₁ tk₁ hk₁ => ?_
    have F₁ : Fr s.heap env own P' (σs dss.length) h₁ := by
      obtain ⟨kd, m, cm, G, hq⟩ := hA.fr
      have wL : env.locals ∉ wr := notwr _ hLo.1
      refine ⟨kd, m, cm, ⟨G.ns.at' fun o e => hk₁ _ o wL e, fun b o e => hk₁ b o (fun hm => by
        have := hsb b o (F.kp.sub b o e); rw [hwr b hm] at this; cases this) (G.keep b o e), G.fresh, fun n c e => ?_, G.look, G.apart, G.above⟩, fun n d e => ?_⟩
      · obtain ⟨o, ho', hd⟩ := G.cell n c e
        exact ⟨o, hk₁ c o (notwr c (hOo n c e).1) ho', hd⟩
      · obtain ⟨v, r, H⟩ := hq n d e
        exact ⟨v, r.turn fun a pa _ => ⟨pa, fun o e' _ => hk₁ a o pa.2 e'⟩, H⟩
    have keepb₁ : ∀ b o, b ∉ mineA env own X → hb.get? b = some o → h₁.get? b = some o := fun b o hm e => hk₁ b o (fun hw => by rw [hwr b hw] at e; cases e) (hkb b o hm e)
    have r₁ : R dss.length h₁ := hR _ _ _ hr fun a ha o e => hk₁ a o (notwr a (hX a ha).2.1) e
    have hA₁ : At s env own P (σs dss.length) { s' with heap := h₁, toks := tk₁ } := ⟨F₁.imp fun a p => p.1, let ⟨h, tk, e⟩ := hA.same; ⟨h₁, tk₁, by rw [e]⟩⟩
    have hsh : Shut { s' with heap := h₁, toks := tk₁ } P := fun a e => hP a (insub h₁ keepb₁ (mineIn _ { s' with heap := h₁, toks := tk₁ } _ _ ⟨s, hA₁⟩ r₁) a e)
    exact wpAny_mono ((els _ hA₁ r₁ hsh).run _) (fun f s₃ hf => by obtain ⟨rfl, z, b⟩ := hf; exact (next s₃ z b).run E) fun _ _ z => z
end
end Mine
end

section
open PySem PySem.W PyProof.Rows
namespace Mine

section
variable {prog : Program} {w : World} {A : Around} {env : Env} {h : Heap} {P : Addr → Prop} {slice : Expr} {pos p p₁ p₂ p₃ p₄ q₁ q₂ q₃ q₄ : Pos} {n₁ n₂ n₃ n₄ m₁ m₂ m₃ m₄ : Nat}
/-- an item of a written table of four -/
theorem ev_dict4 {k₁ k₂ k₃ k₄ k : Int} {x₁ x₂ x₃ x₄ x : Str} (y : Ev prog w A env h P slice (.int k))
    (hv : ∀ t₁ t₂ t₃ t₄, ∃ t, valueAt (merged [] [(k₁, Value.str x₁ t₁), (k₂, Value.str x₂ t₂), (k₃, Value.str x₃ t₃), (k₄, Value.str x₄ t₄)]) k = some (.str x t))
    (hs : ∀ l k u, subscripted slice false (.ref l) (.int k u) = operate [.ref l, .int k u] (getItem (.ref l) (.int k u)) := by intros; rfl) :
    Ev prog w A env h P (.Subscript (.Dict [some (.Constant (.int k₁) n₁ p₁), some (.Constant (.int k₂) n₂ p₂), some (.Constant (.int k₃) n₃ p₃), some (.Constant (.int k₄) n₄ p₄)]
      [.Constant (.str x₁) m₁ q₁, .Constant (.str x₂) m₂ q₂, .Constant (.str x₃) m₃ q₃, .Constant (.str x₄) m₄ q₄] p) slice pos) (.str x) := by
  refine ⟨fun s Q E k₀ q => ?_⟩
  have val : ∀ {x : Str} {n : Nat} {ps : Pos} {s : Shared} {Q : Value → Shared → Prop}, (∀ t k, Q (.str x t) { s with toks := k }) → wpAny (model prog w) A (do let v ← eval (.Constant (.str x) n ps) env; standAt p; pure v) Q E s := fun hq =>
    wpAny_bind (PySem.Calls.Constant_str (wpAny_bind (wpAny_standAt (wpAny_pure (hq _ _)))))
  refine Subscript_ (wpAny_Dict_pairs (knd := intKind prog w) (pairs := [(eval (.Constant (.int k₁) n₁ p₁) env, do let v ← eval (.Constant (.str x₁) m₁ q₁) env; standAt p; pure v),
    (eval (.Constant (.int k₂) n₂ p₂) env, do let v ← eval (.Constant (.str x₂) m₂ q₂) env; standAt p; pure v), (eval (.Constant (.int k₃) n₃ p₃) env, do let v ← eval (.Constant (.str x₃) m₃ q₃) env; standAt p; pure v),
    (eval (.Constant (.int k₄) n₄ p₄) env, do let v ← eval (.Constant (.str x₄) m₄ q₄) env; standAt p; pure v)]) rfl (by simp) (by show 4 ≤ 15; decide) ?_)
  refine evalPairs_cons (wpAny_Constant_int (val fun t₁ c₁ => ?_))
  refine evalPairs_cons (wpAny_Constant_int (val fun t₂ c₂ => ?_))
  refine evalPairs_cons (wpAny_Constant_int (val fun t₃ c₃ => ?_))
  refine evalPairs_cons (wpAny_Constant_int (val fun t₄ c₄ => ?_))
  refine evalPairs_nil ⟨[(k₁, .str x₁ t₁), (k₂, .str x₂ t₂), (k₃, .str x₃ t₃), (k₄, .str x₄ t₄)], ⟨intKind_is .., rfl, intKind_is .., rfl, intKind_is .., rfl, intKind_is .., rfl, trivial⟩, Heap.DictOf.new _, fun h' hd hsb => ?_⟩
  have sub1 : Sub s.heap h' := fun b o e => hsb.extBut b o (Nat.ne_of_lt (Heap.lt_size e)) (Heap.get?_push_of_some _ e)
  obtain ⟨t, ht⟩ := hv t₁ t₂ t₃ t₄
  refine y.run _ _ _ (k₀.trans sub1) fun v s₂ k₂ r₂ => ?_
  cases r₂
  have hd₂ := hd.keep k₂.sub
  refine tail_any hd₂.typeIs slot_dict_getitem.lookup (wpAny_getItem_of (intKind_is ..) hd₂.mapOf ht ?_) (hs _ _ _)
  exact q _ _ (((Kp.mk sub1).trans k₂).trans (.toks _)) (.str _ _)
end

/-! the signs told by the law -/
def kindS (number : Int) : Str :=
  if number.fdiv 4096 * 4096 = 32768 then "-" else if number.fdiv 4096 * 4096 = 16384 then "d" else if number.fdiv 4096 * 4096 = 40960 then "l" else "s"
def threeOf (number : Int) (k : Nat) : Int := (number.fdiv (8 ^ (2 - k))).fmod 8
def ownOf (number : Int) (k : Nat) : Int := ((number.fdiv 512).fdiv (2 ^ (2 - k))).fmod 2
def lastL (k : Nat) : List Str := ["-", "x", ["S", "S", "T"].getD k "", ["s", "s", "t"].getD k ""]
def tripleOf (number : Int) (k : Nat) : List Str :=
  [if (threeOf number k).fdiv 4 == 1 then "r" else "-", if ((threeOf number k).fdiv 2).fmod 2 == 1 then "w" else "-", (lastL k).getD ((threeOf number k).fmod 2 + 2 * ownOf number k).toNat ""]
def signsUpto (number : Int) : Nat → List Str
  | 0 => [kindS number]
  | k + 1 => signsUpto number k ++ tripleOf number k
def signsOf (number : Int) : List Str := signsUpto number 3
theorem signsUpto_len (number : Int) : ∀ k, (signsUpto number k).length = 1 + 3 * k
  | 0 => rfl
  | k + 1 => by
    show (signsUpto number k ++ tripleOf number k).length = _
    rw [List.length_append, signsUpto_len number k]
    show _ + 3 = _
    omega
theorem pow8 : ∀ i : Nat, i < 3 → (8 : Int) ^ (2 - i) ≠ 0 ∧ ((8 : Int) ^ (2 - i)).natAbs < 1073741824 ∧ (2 : Int) ^ (2 - i) ≠ 0 ∧ ((2 : Int) ^ (2 - i)).natAbs < 1073741824
  | 0, _ => by decide +kernel
  | 1, _ => by decide +kernel
  | 2, _ => by decide +kernel
theorem signChar : ∀ i : Nat, i < 3 → ∃ c, (Str.ofString "SST").cps[(i : Int).toNat]? = some c ∧ (⟨#[c]⟩ : Str) = ["S", "S", "T"].getD i "" ∧ ∃ d, (Str.ofString "sst").cps[(i : Int).toNat]? = some d ∧ (⟨#[d]⟩ : Str) = ["s", "s", "t"].getD i ""
  | 0, _ => ⟨83, by decide +kernel, by decide +kernel, 115, by decide +kernel, by decide +kernel⟩
  | 1, _ => ⟨83, by decide +kernel, by decide +kernel, 115, by decide +kernel, by decide +kernel⟩
  | 2, _ => ⟨84, by decide +kernel, by decide +kernel, 116, by decide +kernel, by decide +kernel⟩
def signsD (number : Int) (i : Nat) : List (Str × D) := [(Str.ofString "signs", .plain ((signsUpto number i).map .str)), (Str.ofString "number", .int number)]

section
variable {prog : Program} {w : World} {A : Around} {h : Heap}
theorem c_signs (G : Gm h) {k : Nat} (ok : Okay A (k + 1)) (number : Int) (hn : number.fdiv 4096 * 4096 = 32768 ∨ number.fdiv 4096 * 4096 = 16384 ∨ number.fdiv 4096 * 4096 = 40960 ∨ number.fdiv 4096 * 4096 = 49152) :
    Calls prog w A h (.ref 164) [.int number] (.plain ((signsOf number).map .str)) := by
  refine calls_fn (G.f 41 164 (by simp [ftab])) ok [Str.ofString "number"] ?_ rfl (by decide +kernel) (by decide +kernel) (by decide +kernel) (fun s a => s.heap.get? a = none) (fun s _ => .inl fun d hd => by simp at hd; subst hd; exact .int _) ?_
  · intro name pm code doc vs hl
    match vs, hl with
    | [a], _ => rfl
  · intro s env s₁ own hs sc esc st F okd
    have shut : ∀ s₂ : Shared, Kp s s₂ → Shut s₂ (fun a => s.heap.get? a = none) := fun s₂ k a e => by
      cases e' : s.heap.get? a with
      | none => exact e'
      | some o => rw [k.sub a o e'] at e; cases e
    have nn : Nm prog w env s₁.heap _ (Str.ofString "number") (.int number) := F.fr.nm (by rfl) (by decide +kernel)
    refine run_assign (d := .plain [.str (kindS number)]) F ?_ ?_ ?_ ?_ ?_
    rotate_left
    · exact .inr (shut _ F.kp)
    · exact st _ (by decide +kernel)
    · rfl
    rotate_left
    · refine ev_list (evs_cons ?_ evs_nil) (by show 1 ≤ 1000; decide)
      refine ev_dict4 (ev_mul_int (ev_div_int (ev_name nn) ev_int (by decide) (by decide)) ev_int (.of_right (by decide +kernel))) ?_
      intro t₁ t₂ t₃ t₄
      unfold kindS
      rcases hn with h | h | h | h <;> rw [h]
      · exact ⟨t₁, by simp [merged, stored, valueAt]⟩
      · exact ⟨t₂, by simp [merged, stored, valueAt]⟩
      · exact ⟨t₃, by simp [merged, stored, valueAt]⟩
      · exact ⟨t₄, by simp [merged, stored, valueAt]⟩
    intro s₂ F₂
    have G₂ := G.sub (hs.trans F₂.kp.sub)
    have nr : Nm prog w env s₂.heap _ (Str.ofString "range") (.raw (.type "range")) := G₂.nmb (P := fun a => s.heap.get? a = none) sc _ _ (by simp [btab]) (by decide +kernel) (by decide +kernel)
    refine run_for okd.hh (signsD number) (fun _ _ => True) (signsD number 3) (fun _ => True) [] F₂ trivial (fun a ha => nomatch ha) (fun _ _ _ _ _ => trivial) (fun _ _ _ a ha => nomatch ha) (shut _ F₂.kp)
      (feeds_range (n := 3) okd.hh (by decide) (ev_name nr) ev_int) (fun x hx => by rw [List.mem_singleton.mp hx]; exact st _ (by decide +kernel)) ?_ (fun s₃ F₃ _ _ => run_nil ⟨rfl, F₃, trivial⟩) ?_
    · intro i ds s' s₃ P' hds hsub hp hsh _ F₃ _
      rw [List.getElem?_map] at hds
      have hi : i < 3 := by
        have : i < ((List.range 3).map fun (i : Nat) => [D.int (i : Int)]).length := by rw [List.length_map]; exact (by
          cases h' : (List.range 3)[i]? with
          | none => rw [h'] at hds; cases hds
          | some j => exact (List.getElem?_eq_some_iff.mp h').1)
        simpa using this
      rw [List.getElem?_range hi] at hds
      cases hds
      have nk : Nm prog w env s₃.heap P' (Str.ofString "k") (.int (i : Nat)) := F₃.fr.nm (by rfl) (by decide +kernel)
      have nn : Nm prog w env s₃.heap P' (Str.ofString "number") (.int number) := F₃.fr.nm (by rfl) (by decide +kernel)
      have e2 : (2 - (i : Int)).toNat = 2 - i := by omega
      have hp8 := pow8 i hi
      refine run_pair_sw (d₁ := .int (threeOf number i)) (d₂ := .int (ownOf number i)) F₃ (ev_tuple (evs_cons (ev_mod_int (ev_div_int (ev_name nn) (Ev.cast (ev_pow_int ev_int (ev_sub_int ev_int (ev_name nk)) (by omega) (by omega) (by decide)) (d' := .int (8 ^ (2 - i))) (by rw [e2])) hp8.1 hp8.2.1) ev_int (by decide))
        (evs_cons (ev_mod_int (ev_div_int (ev_div_int (ev_name nn) ev_int (by decide) (by decide)) (Ev.cast (ev_pow_int ev_int (ev_sub_int ev_int (ev_name nk)) (by omega) (by omega) (by decide)) (d' := .int (2 ^ (2 - i))) (by rw [e2])) hp8.2.2.1 hp8.2.2.2) ev_int (by decide)) evs_nil)) (by show 2 ≤ 1000; decide))
        okd.hh (.inr ⟨.int _, .int _⟩) (st _ (by decide +kernel)) (st _ (by decide +kernel)) (swapped_of esc (by intros; rfl)) ?_
      intro s₄ F₄
      have nk : Nm prog w env s₄.heap P' (Str.ofString "k") (.int (i : Nat)) := F₄.fr.nm (by rfl) (by decide +kernel)
      have nt : Nm prog w env s₄.heap P' (Str.ofString "three") (.int (threeOf number i)) := F₄.fr.nm (by rfl) (by decide +kernel)
      have no : Nm prog w env s₄.heap P' (Str.ofString "own") (.int (ownOf number i)) := F₄.fr.nm (by rfl) (by decide +kernel)
      obtain ⟨c, hc, ec, d, hd, ed⟩ := signChar i hi
      obtain ⟨h1, h2⟩ := fmod_lt (threeOf number i) (b := 2) (by decide)
      obtain ⟨h3, h4⟩ := fmod_lt ((number.fdiv 512).fdiv (2 ^ (2 - i))) (b := 2) (by decide)
      have h3' : 0 ≤ ownOf number i := h3
      have h4' : ownOf number i < 2 := h4
      refine run_assign (d := .str ((lastL i).getD ((threeOf number i).fmod 2 + 2 * ownOf number i).toNat "")) F₄ (ev_item (ev_list (evs_cons ev_str (evs_cons ev_str (evs_cons (Ev.cast (ev_item_str ev_str (ev_name nk) (by omega) (by omega) hc) (by rw [ec])) (evs_cons (Ev.cast (ev_item_str ev_str (ev_name nk) (by omega) (by omega) hd) (by rw [ed])) evs_nil)))) (by show 4 ≤ 1000; decide)).weak
        (ev_add_int (ev_mod_int (ev_name nt) ev_int (by decide)) (ev_mul_int ev_int (ev_name no) (.of_left (by decide +kernel)))) (by omega) (by omega) (getD_map (xs := lastL i) (f := .str) (d := "") (by show _ < 4; omega))) (.inl (.str _)) (st _ (by decide +kernel)) rfl ?_
      intro s₅ F₅
      have nt : Nm prog w env s₅.heap P' (Str.ofString "three") (.int (threeOf number i)) := F₅.fr.nm (by rfl) (by decide +kernel)
      have nl : Nm prog w env s₅.heap P' (Str.ofString "last") (.str ((lastL i).getD ((threeOf number i).fmod 2 + 2 * ownOf number i).toNat "")) := F₅.fr.nm (by rfl) (by decide +kernel)
      have ns : Nm prog w env s₅.heap P' (Str.ofString "signs") (.plain ((signsUpto number i).map .str)) := F₅.fr.nm (by rfl) (by decide +kernel)
      have hsh₅ : Shut s₅ P' := hsh s₅ _ F₅ fun a ha => nomatch ha
      refine run_assign (d := .plain ((signsUpto number (i + 1)).map .str)) F₅ (Ev.cast (ev_add_list (a := (signsUpto number i).map .str) (b := (tripleOf number i).map .str) (Ev.weak (ev_name ns)) (Ev.weak (ev_list (evs_cons (ev_if_str (tr_cmp (ev_div_int (ev_name nt) ev_int (by decide) (by decide)) ev_int cmp_eq_int) (fun _ => ev_str) (fun _ => ev_str))
        (evs_cons (ev_if_str (tr_cmp (ev_mod_int (ev_div_int (ev_name nt) ev_int (by decide) (by decide)) ev_int (by decide)) ev_int cmp_eq_int) (fun _ => ev_str) (fun _ => ev_str)) (evs_cons (ev_name nl) evs_nil))) (by show 3 ≤ 1000; decide))) (by rw [List.length_map, List.length_map, signsUpto_len]; show _ + 3 ≤ _; omega)) (by rw [← List.map_append]; rfl)) (.inr hsh₅) (st _ (by decide +kernel)) rfl ?_
      intro s₆ F₆
      exact run_nil ⟨F₆.pick (by
        intro p hp
        simp only [signsD, List.mem_cons, List.not_mem_nil, or_false] at hp
        rcases hp with rfl | rfl <;> rfl), trivial⟩
    · intro s₃ F₃ _
      have ns : Nm prog w env s₃.heap _ (Str.ofString "signs") (.plain ((signsUpto number 3).map .str)) := F₃.fr.nm (by rfl) (by decide +kernel)
      exact run_ret F₃ (ev_name ns) (.inr fun a p => p)
end
end Mine
end

section
open PySem PySem.W PyProof.Rows
namespace Mine

def namedB (host rule : Str) : Bool :=
  if (Txt.split (Txt.lower rule) ".").getD 0 "" == "" then
    decide ((Txt.split (Txt.lower rule) ".").length ≤ (Txt.split (Txt.lower host) ".").length) &&
      decide ((Txt.split (Txt.lower host) ".").drop ((Txt.split (Txt.lower host) ".").length - (Txt.split (Txt.lower rule) ".").length + 1) = (Txt.split (Txt.lower rule) ".").drop 1)
  else decide (Txt.split (Txt.lower host) "." = Txt.split (Txt.lower rule) ".")

section
variable {prog : Program} {w : World} {A : Around} {h : Heap}
theorem run_ret_if {env : Env} {own : List (Str × Addr)} {P : Addr → Prop} {σ : List (Str × D)} {s s₁ : Shared} {e : Expr} {rest : List Stmt} {d : D} {pos : Pos} {N : Shared → Prop} (F : At s env own P σ s₁) (x : Ev prog w A env s₁.heap P e d) (hp : Flat d) :
    Run prog w A env (.Return (some e) pos :: rest) s₁ fun f s' => match f with
      | .next => N s'
      | f => Rets s d f s' :=
  Run.imp (run_ret F x (.inl hp)) fun f s' r => by obtain ⟨v, rfl, q⟩ := r; exact ⟨v, rfl, q⟩
theorem c_named (G : Gm h) {k : Nat} (ok : Okay A (k + 2)) (host rule : Str) (h1 : goodCut (Txt.lower host) = true) (h2 : goodCut (Txt.lower rule) = true) :
    Calls prog w A h (.ref 171) [.str host, .str rule] (.bool (namedB host rule)) := by
  have g1 := goodCut_of h1
  have g2 := goodCut_of h2
  unfold namedB
  generalize hL : Txt.split (Txt.lower host) "." = L at *
  generalize hR : Txt.split (Txt.lower rule) "." = R at *
  have c1 : L.length ≤ 40 := by rw [← hL]; exact g1.count
  have c2 : R.length ≤ 40 := by rw [← hR]; exact g2.count
  have p2 : 1 ≤ R.length := by rw [← hR]; exact g2.pos
  refine calls_fn (G.f 42 171 (by simp [ftab])) (k := k + 1) ok [Str.ofString "host", Str.ofString "rule"] ?_ rfl (by decide +kernel) (by decide +kernel) (by decide +kernel) (fun _ => Any) (fun s _ => .inr fun _ _ => trivial) ?_
  · intro name pm code doc vs hl
    match vs, hl with
    | [a, b], _ => rfl
  · intro s env s₁ own hs sc esc st F okd
    have nh : Nm prog w env s₁.heap Any (Str.ofString "host") (.str host) := F.fr.nm (by rfl) (by decide +kernel)
    have nr : Nm prog w env s₁.heap Any (Str.ofString "rule") (.str rule) := F.fr.nm (by rfl) (by decide +kernel)
    refine run_pair_sw (d₁ := .plain (L.map .str)) (d₂ := .plain (R.map .str)) F (ev_tuple (evs_cons (Ev.cast (ev_meth (ev_meth (ev_name nh) meth_lower evs_nil (calls_lower (by have := g1.len; omega))) meth_split (evs_cons ev_str evs_nil) (calls_split (by decide +kernel) (by have := g1.len; omega) (by have := g1.parts; omega))) (by rw [hL]))
      (evs_cons (Ev.cast (ev_meth (ev_meth (ev_name nr) meth_lower evs_nil (calls_lower (by have := g2.len; omega))) meth_split (evs_cons ev_str evs_nil) (calls_split (by decide +kernel) (by have := g2.len; omega) (by have := g2.parts; omega))) (by rw [hR])) evs_nil)) (by show 2 ≤ 1000; decide))
      okd.hh (.inl (shut_any _)) (st _ (by decide +kernel)) (st _ (by decide +kernel)) (swapped_of esc (by intros; rfl)) ?_
    intro s₂ F₂
    have nl : Nm prog w env s₂.heap Any (Str.ofString "labels") (.plain (L.map .str)) := F₂.fr.nm (by rfl) (by decide +kernel)
    have na : Nm prog w env s₂.heap Any (Str.ofString "last") (.plain (R.map .str)) := F₂.fr.nm (by rfl) (by decide +kernel)
    have h0 : (R.map D.str)[(0 : Int).toNat]? = some (.str (R.getD 0 "")) := getD_map (by omega)
    refine run_if F₂ (tr_cmp (ev_item (Ev.weak (ev_name na)) ev_int (by decide) (by decide) h0) ev_str cmp_eq_str) (fun hb s₃ F₃ => ?_) (fun hb s₃ F₃ => ?_)
    · rw [if_pos hb]
      have G₃ := G.sub (hs.trans F₃.kp.sub)
      have nl : Nm prog w env s₃.heap Any (Str.ofString "labels") (.plain (L.map .str)) := F₃.fr.nm (by rfl) (by decide +kernel)
      have na : Nm prog w env s₃.heap Any (Str.ofString "last") (.plain (R.map .str)) := F₃.fr.nm (by rfl) (by decide +kernel)
      have nn : Nm prog w env s₃.heap Any (Str.ofString "len") (.raw (.builtin "len")) := G₃.nmb sc _ _ (by simp [btab]) (by decide +kernel) (by decide +kernel)
      have ll : ∀ {pos : Pos} {p1 p2}, Ev prog w (A.deeper env) env s₃.heap Any (.Call (.Name (Str.ofString "len") p1) [.Name (Str.ofString "labels") p2] [] pos) (.int L.length) := by
        intro pos p1 p2
        exact Ev.cast (ev_call (ev_name nn) (evs_cons (Ev.weak (ev_name nl)) evs_nil) (calls_len_list (by rw [List.length_map]; omega)) bv) (by rw [List.length_map])
      have lr : ∀ {pos : Pos} {p1 p2}, Ev prog w (A.deeper env) env s₃.heap Any (.Call (.Name (Str.ofString "len") p1) [.Name (Str.ofString "last") p2] [] pos) (.int R.length) := by
        intro pos p1 p2
        exact Ev.cast (ev_call (ev_name nn) (evs_cons (Ev.weak (ev_name na)) evs_nil) (calls_len_list (by rw [List.length_map]; omega)) bv) (by rw [List.length_map])
      refine run_ret_if F₃ (Ev.cast (ev_and (b := decide (L.drop (L.length - R.length + 1) = R.drop 1)) (ev_cmp ll lr cmp_ge_int) (fun hb => ?_)) (by rw [show decide ((R.length : Int) ≤ L.length) = decide (R.length ≤ L.length) by simp])) (.bool _)
      have hb := of_decide_eq_true hb
      refine ev_cmp (Ev.weak (Ev.cast (ev_slice (Ev.weak (ev_name nl)) (part_some (P' := Any) (ev_add_int (ev_sub_int ll lr) ev_int)) part_none (by rw [List.length_map]; omega)) (d' := .plain ((L.drop (L.length - R.length + 1)).map .str)) ?_))
        (Ev.weak (Ev.cast (ev_slice (Ev.weak (ev_name na)) (part_some (P' := Any) ev_int) part_none (by rw [List.length_map]; omega)) (d' := .plain ((R.drop 1).map .str)) ?_)) (cmp_eq_list emb_str (by have := okd.units; omega))
      · rw [show ((L.length : Int) - R.length + 1) = ((L.length - R.length + 1 : Nat) : Int) by omega, pick_from, List.map_drop]
      · rw [show (1 : Int) = ((1 : Nat) : Int) from rfl, pick_from, List.map_drop]
    · rw [if_neg (by rw [hb]; decide)]
      refine run_nil ?_
      have nl : Nm prog w env s₃.heap Any (Str.ofString "labels") (.plain (L.map .str)) := F₃.fr.nm (by rfl) (by decide +kernel)
      have na : Nm prog w env s₃.heap Any (Str.ofString "last") (.plain (R.map .str)) := F₃.fr.nm (by rfl) (by decide +kernel)
      show Run prog w _ env _ s₃ _
      exact run_ret F₃ (ev_cmp (Ev.weak (ev_name nl)) (Ev.weak (ev_name na)) (cmp_eq_list emb_str (by have := okd.units; omega))) (.inl (.bool _))

/-- the domain match, where no name of the two is a number's -/
def matchB (host rule : Str) : Bool :=
  if Txt.startswith (Txt.lower rule) "." && Txt.endswith (Txt.lower host) (Txt.lower rule) then true
  else !Txt.startswith (Txt.lower rule) "." && (Txt.lower host == Txt.lower rule)
theorem c_match (G : Gm h) {k : Nat} (ok : Okay A (k + 2)) (host rule : Str) (h1 : (Txt.lower host).length ≤ 10000) (h2 : (Txt.lower rule).length ≤ 10000)
    (c1 : ∀ env h', Sub h h' → Calls prog w (A.deeper env) h' (.ref 43) [.str (Txt.lower host)] (.bool true)) (c2 : ∀ env h', Sub h h' → Calls prog w (A.deeper env) h' (.ref 43) [.str (Txt.lower rule)] (.bool true)) :
    Calls prog w A h (.ref 50) [.str host, .str rule] (.bool (matchB host rule)) := by
  unfold matchB
  refine calls_fn (G.f 4 50 (by simp [ftab])) (k := k + 1) ok [Str.ofString "A", Str.ofString "B"] ?_ rfl (by decide +kernel) (by decide +kernel) (by decide +kernel) (fun _ => Any) (fun s _ => .inr fun _ _ => trivial) ?_
  · intro name pm code doc vs hl
    match vs, hl with
    | [a, b], _ => rfl
  · intro s env s₁ own hs sc esc st F okd
    have na : Nm prog w env s₁.heap Any (Str.ofString "A") (.str host) := F.fr.nm (by rfl) (by decide +kernel)
    refine run_assign F (ev_meth (ev_name na) meth_lower evs_nil (calls_lower h1)) (.inl (.str _)) (st _ (by decide +kernel)) rfl ?_
    intro s₂ F₂
    have nb : Nm prog w env s₂.heap Any (Str.ofString "B") (.str rule) := F₂.fr.nm (by rfl) (by decide +kernel)
    refine run_assign F₂ (ev_meth (ev_name nb) meth_lower evs_nil (calls_lower h2)) (.inl (.str _)) (st _ (by decide +kernel)) rfl ?_
    intro s₃ F₃
    have G₃ := G.sub (hs.trans F₃.kp.sub)
    have na : Nm prog w env s₃.heap Any (Str.ofString "A") (.str (Txt.lower host)) := F₃.fr.nm (by rfl) (by decide +kernel)
    have nb : Nm prog w env s₃.heap Any (Str.ofString "B") (.str (Txt.lower rule)) := F₃.fr.nm (by rfl) (by decide +kernel)
    have nf : Nm prog w env s₃.heap Any (Str.ofString "liberal_is_HDN") (.raw (.ref 43)) := G₃.nm sc _ (.ref 43) (by simp [gtab]) (.raw _) (by decide +kernel) (by decide +kernel)
    refine run_if F₃ (tr_not (tr_and (tr_plain (ev_call (ev_name nf) (evs_cons (ev_name na) evs_nil) (c1 _ _ (hs.trans F₃.kp.sub)) (G₃.fv 3 43 (by simp [ftab]))) truth_bool)
      (fun _ => tr_plain (ev_call (ev_name nf) (evs_cons (ev_name nb) evs_nil) (c2 _ _ (hs.trans F₃.kp.sub)) (G₃.fv 3 43 (by simp [ftab]))) truth_bool))) (fun hb => by cases hb) (fun _ s₄ F₄ => ?_)
    refine run_nil ?_
    show Run prog w _ env _ s₄ _
    have nb : Nm prog w env s₄.heap Any (Str.ofString "B") (.str (Txt.lower rule)) := F₄.fr.nm (by rfl) (by decide +kernel)
    refine run_assign F₄ (ev_meth (ev_name nb) meth_startswith (evs_cons ev_str evs_nil) calls_startswith) (.inl (.bool _)) (st _ (by decide +kernel)) rfl ?_
    intro s₅ F₅
    have na : Nm prog w env s₅.heap Any (Str.ofString "A") (.str (Txt.lower host)) := F₅.fr.nm (by rfl) (by decide +kernel)
    have nb : Nm prog w env s₅.heap Any (Str.ofString "B") (.str (Txt.lower rule)) := F₅.fr.nm (by rfl) (by decide +kernel)
    have ni : Nm prog w env s₅.heap Any (Str.ofString "initial_dot") (.bool (Txt.startswith (Txt.lower rule) ".")) := F₅.fr.nm (by rfl) (by decide +kernel)
    refine run_if F₅ (tr_and (tr_plain (ev_name ni) truth_bool) (fun _ => tr_plain (ev_meth (ev_name na) meth_endswith (evs_cons (ev_name nb) evs_nil) calls_endswith) truth_bool)) (fun hb s₆ F₆ => ?_) (fun hb s₆ F₆ => ?_)
    · rw [if_pos hb]
      exact run_ret_if F₆ ev_bool (.bool _)
    · rw [if_neg (by rw [hb]; decide)]
      refine run_nil ?_
      show Run prog w _ env _ s₆ _
      have na : Nm prog w env s₆.heap Any (Str.ofString "A") (.str (Txt.lower host)) := F₆.fr.nm (by rfl) (by decide +kernel)
      have nb : Nm prog w env s₆.heap Any (Str.ofString "B") (.str (Txt.lower rule)) := F₆.fr.nm (by rfl) (by decide +kernel)
      have ni : Nm prog w env s₆.heap Any (Str.ofString "initial_dot") (.bool (Txt.startswith (Txt.lower rule) ".")) := F₆.fr.nm (by rfl) (by decide +kernel)
      refine run_if F₆ (tr_and (tr_not (tr_plain (ev_name ni) truth_bool)) (fun _ => tr_cmp (ev_name na) (ev_name nb) cmp_eq_str)) (fun hb s₇ F₇ => ?_) (fun hb s₇ F₇ => ?_)
      · rw [hb]
        exact run_ret_if F₇ ev_bool (.bool _)
      · rw [hb]
        refine run_nil ?_
        show Run prog w _ env _ s₇ _
        exact run_ret F₇ ev_bool (.inl (.bool _))
end
end Mine
end

section
open PySem PySem.W PyProof.Rows PySem.Builtin.Re
namespace Mine

def reCode : Array Nat := #[14, 8, 1, 2, 4294967295, 1, 1, 46, 0, 16, 46, 24, 9, 1, 4294967295, 13, 4, 8, 0, 0, 1, 6, 5, 1]
def driveN : Nat → Sre.M → Option Sre.M
  | 0, _ => none
  | k + 1, m => let m' := m.runFor 4; if m'.outcome.isSome then some m' else driveN k m'
def failsB (x : Str) : Bool := match driveN 300 (Sre.forSearch reCode x.cps 0 0 x.cps.size false) with
  | some m => match m.outcome with
    | some .failed => true
    | _ => false
  | none => false

theorem plainAttrs_re : PlainAttrs "re.Pattern" :=
  ⟨⟨"object.__getattribute__", by rw [typeLookup_type, builtinLookup_eq_fast]; kernel_rfl, by decide +kernel⟩, by rw [typeLookup_type, builtinLookup_eq_fast]; kernel_rfl⟩
theorem owner_re : Manifest.owners.lookup (String.ofList ['n', 'r', 'e', 't', 't', 'a', 'P', '.', 'e', 'r'].reverse) = some Manifest.sig_re_Pattern := by kernel_rfl
theorem slot_re_search : Slot "re.Pattern" "search" "re.Pattern.search" :=
  .of (owner := "re.Pattern") (n := "search") (by rw [typeLookup_type, builtinLookup_eq_fast]; kernel_rfl) (by decide +kernel) (by decide +kernel) (by decide +kernel)
    (by first | exact .inl (by decide +kernel) | exact .inr (by decide +kernel)) (by rw [isSubtype_type]; kernel_rfl)
theorem type_re_search : typeOf (.builtin "re.Pattern.search") = pure (.type "method_descriptor") := by show builtinType _ = _; rw [builtinType_eq_fast]; kernel_rfl
theorem entry_re_search : entryFor table "re.Pattern.search" = some Builtin.«re.Pattern.search» := entryFor_of_tree (by kernel_rfl)
theorem args_re_search (a b : Value) : argsOk "re.Pattern.search" ⟨[a, b], []⟩ := by
  unfold argsOk; rw [signature?_of (id := "re.Pattern.search") (n := ['h', 'c', 'r', 'a', 'e', 's']) (o := ['n', 'r', 'e', 't', 't', 'a', 'P', '.', 'e', 'r']) (by kernel_rfl) owner_re]; kernel_rfl

theorem reNamed_one (v : Value) : reNamed "re.Pattern.search" "search" ["string", "pos", "endpos"] 1 [v] [] = pure [some v, none, none] := by
  rfl
theorem drive_of {M : Model} {A : Around} {E : Value → Shared → Prop} {m' : Sre.M} {Q : Sre.M → Shared → Prop} : ∀ {k n : Nat} {m : Sre.M} {s : Shared}, driveN k m = some m' → k ≤ n → Q m' s → wpAny M A (reDrive n m) Q E s
  | 0, _, _, _, h, _, _ => by cases h
  | k + 1, 0, _, _, _, h, _ => by omega
  | k + 1, n + 1, m, s, h, hk, q => by
    unfold driveN at h
    show wpAny M A (if (m.runFor 4).outcome.isSome then pure (m.runFor 4) else do rule "sre.turn"; reDrive n (m.runFor 4)) Q E s
    simp only at h
    split at h
    · rename_i hs
      rw [if_pos hs]
      cases h
      exact wpAny_pure q
    · rename_i hs
      rw [if_neg hs]
      exact wpAny_bind (wpAny_rule (drive_of h (by omega) q))
theorem runToEnd_fails {M : Model} {A : Around} {E : Value → Shared → Prop} {s : Shared} {m m' : Sre.M} {Q : Option Sre.M → Shared → Prop} (h : driveN 300 m = some m') (ho : m'.outcome = some .failed) (q : Q none s) :
    wpAny M A (reRunToEnd m) Q E s := by
  unfold reRunToEnd
  refine wpAny_bind (drive_of (n := 2 ^ 64) h (by decide) ?_)
  refine wpAny_bind (wpAny_forIn_list _ (fun _ _ s' => s' = s) _ ?_ ?_ _ _ rfl)
  · intro x rest b s' e
    subst e
    split
    · exact wpAny_bind (wpAny_rule (wpAny_pure rfl))
    · exact wpAny_pure rfl
  · intro b s' e
    subst e
    rw [ho]
    exact wpAny_pure q

/-- the pattern object and its code -/
structure ReAt (h : Heap) : Prop where
  ex : ∃ o vs o' items n, h.get? 36 = some o ∧ o.cls = .type "re.Pattern" ∧ o.dict = none ∧ o.data = .fields vs ∧ reRawNat (vs.getD 6 .none) = 0 ∧ reRawNat (vs.getD 2 .none) = 0 ∧ vs.getD 5 .none = .ref 35 ∧
    h.get? 35 = some o' ∧ o'.data = .seq items n ∧ (items.map reRawOf).map (·.toNat) = reCode
theorem ReAt.sub {h h' : Heap} (r : ReAt h) (k : Sub h h') : ReAt h' := by
  obtain ⟨o, vs, o', items, n, a, b, c, d, e, f, g, i, j, l⟩ := r.ex
  exact ⟨o, vs, o', items, n, k _ _ a, b, c, d, e, f, g, k _ _ i, j, l⟩
theorem search_meets {x : Str} {t : Tok} (hx : failsB x = true) (hsz : x.length ≤ 10000) : Meets (Builtin.«re.Pattern.search» ⟨[.ref 36, .str x t], []⟩) fun A R s => ReAt s.heap ∧ R (.ok (.ret .none)) s := by
  refine .of_wp fun prog w A R s hs => ?_
  obtain ⟨⟨o, vs, o', items, n, a, b, c, d, e, f, g, i, j, l⟩, hr⟩ := hs.1.ex, hs.2
  unfold Builtin.«re.Pattern.search»
  refine wpAny_bind ?_
  unfold reTarget
  show wpAny _ _ (do let x ← reNamed "re.Pattern.search" "search" ["string", "pos", "endpos"] 1 [.str x t] []; _) _ _ _
  rw [reNamed_one]
  refine wpAny_bind (wpAny_pure ?_)
  show wpAny _ _ (do let fs ← fieldsOf (.ref 36); _) _ _ _
  refine wpAny_bind (wpAny_fieldsOf a d ?_)
  have ht : reTextOf (.str x t) = pure (x.cps, 0) := rfl
  rw [ht]
  refine wpAny_bind (wpAny_pure ?_)
  have hn : reNoCollectionInside (.str x t) 0 = pure () := rfl
  simp only [e, f, g, hn, pure_bind]
  refine wpAny_bind (wpAny_bind (wpAny_seqItems i j (wpAny_pure ?_)))
  refine wpAny_pure ?_
  simp only [Option.getD_some, l]
  have hp : min (0 : Int).toNat x.cps.size = 0 := by show min 0 _ = 0; omega
  have hl : min (2 ^ 63 - 1 : Int).toNat x.cps.size = x.cps.size := by
    have : (2 ^ 63 - 1 : Int).toNat = 9223372036854775807 := by decide
    have hz : x.cps.size ≤ 10000 := hsz
    rw [this]; omega
  rw [hp, hl]
  unfold failsB at hx
  split at hx
  · rename_i m hm
    split at hx
    · rename_i ho
      unfold reAnswer
      exact wpAny_bind (runToEnd_fails hm ho (wpAny_pure ⟨_, rfl, hr⟩))
    · cases hx
  · cases hx

section
variable {prog : Program} {w : World} {A : Around} {env : Env} {h : Heap} {P : Addr → Prop} {pos : Pos}
/-- methods of an object that stands in the old heap -/
def MethAt (prog : Program) (w : World) (A : Around) (h : Heap) (name : Str) (d : D) (id : String) : Prop :=
  ∀ (s : Shared) (v : Value) (pl : Sem Bool) (Q : Value × List Value → Shared → Prop) (E : Value → Shared → Prop), Sub h s.heap → Rel Any s.heap v d → Q (.builtin id, [v]) s → wpAny (model prog w) A (getMethod v name pl) Q E s
theorem ev_methAt {o : Expr} {name : Str} {apos : Pos} {id : String} {es : List Expr} {d₀ d : D} {ds : List D} {pl : Sem Bool} (x : Ev prog w A env h P o d₀) (m : MethAt prog w A h name d₀ id) (y : Evs prog w A env h P es ds)
    (c : Calls prog w A h (.builtin id) (d₀ :: ds) d)
    (he : eval (.Call (.Attribute o name apos) es [] pos) env = (do
      let ov ← eval o env
      standAt apos.atName
      let (f, first) ← holding [ov] (getMethod ov name pl)
      callWith pos f first (backTo pos (starEach es env)) []) := by rfl) :
    Ev prog w A env h P (.Call (.Attribute o name apos) es [] pos) d := by
  refine ⟨fun s Q E k q => ?_⟩
  refine MethodCall_ (x.run s _ _ k fun v s₁ k₁ r₁ => ?_) he
  have k' := k.trans k₁.sub
  refine m s₁ v pl _ _ k' r₁.any ?_
  refine PySem.Calls.callWith_builtin (y.1 pos).1 (evalArgs_of y k' fun vs s₂ k₂ r₂ => ?_)
  exact c.run s₂ (v :: vs) _ _ (k'.trans k₂.sub) (.cons (r₁.sub k₂.sub).any r₂.any) fun v s' k₃ r' => q v s' ((k₁.trans k₂).trans k₃) ((r'.new (P := P)).back (k₁.trans k₂))
theorem meth_search (r : ReAt h) : MethAt prog w A h "search" (.raw (.ref 36)) "re.Pattern.search" := fun s v pl Q E k rr q => by
  cases rr
  obtain ⟨o, vs, o', items, n, a, b, c, d, e, f, g, i, j, l⟩ := (r.sub k).ex
  exact getMethod_builtin ⟨o, a, b⟩ plainAttrs_re slot_re_search type_re_search (fun _ e => by cases e; exact ⟨o, a, c⟩) q
theorem calls_search (r : ReAt h) {x : Str} (hx : failsB x = true) (hsz : x.length ≤ 10000) : Calls prog w A h (.builtin "re.Pattern.search") [.raw (.ref 36), .str x] .none := by
  refine ⟨fun s vs Q E k rr q => ?_⟩
  cases rr with
  | cons a rr =>
    cases rr with
    | cons b rr =>
      cases rr
      cases a
      cases b with
      | str x t =>
        obtain ⟨o, vs, o', items, n, a, b, c, d, e, f, g, i, j, l⟩ := (r.sub k).ex
        exact call_meets slot_re_search ⟨o, a, b⟩ entry_re_search (args_re_search _ _) (search_meets hx hsz) ⟨r.sub k, q _ _ (.refl _) .none⟩
theorem c_hdn (G : Gm h) (r : ReAt h) {k : Nat} (ok : Okay A (k + 1)) (x : Str) (hx : failsB x = true) (hsz : x.length ≤ 10000) : Calls prog w A h (.ref 43) [.str x] (.bool true) := by
  refine calls_fn (G.f 3 43 (by simp [ftab])) ok [Str.ofString "text"] ?_ rfl (by decide +kernel) (by decide +kernel) (by decide +kernel) (fun _ => Any) (fun s _ => .inr fun _ _ => trivial) ?_
  · intro name pm code doc vs hl
    match vs, hl with
    | [a], _ => rfl
  · intro s env s₁ own hs sc esc st F okd
    have G₁ := G.sub (hs.trans F.kp.sub)
    have nr : Nm prog w env s₁.heap Any (Str.ofString "IPV4_RE") (.raw (.ref 36)) := G₁.nm sc _ (.ref 36) (by simp [gtab]) (.raw _) (by decide +kernel) (by decide +kernel)
    have nt : Nm prog w env s₁.heap Any (Str.ofString "text") (.str x) := F.fr.nm (by rfl) (by decide +kernel)
    have r₁ := r.sub (hs.trans F.kp.sub)
    refine run_if F (tr_plain (ev_methAt (ev_name nr) (meth_search r₁) (evs_cons (ev_name nt) evs_nil) (calls_search r₁ hx hsz)) truth_none) (fun hb => by cases hb) (fun _ s₂ F₂ => ?_)
    refine run_nil ?_
    show Run prog w _ env _ s₂ _
    exact run_ret F₂ ev_bool (.inl (.bool _))
end
end Mine
end

section
open PySem PySem.W PyProof.Rows PySem.Builtin PySem.Builtin.Str
namespace Mine

/-- the table of the special signs: none for a sign that stands for itself -/
structure MapAt (prog : Program) (w : World) (h : Heap) (esc : Nat → Option PySem.Str) : Prop where
  ex : ∃ f : Int → Option Value, h.MapOf (intKind prog w) 57 f ∧ ∀ c : Nat, match esc c with
    | none => f c = none
    | some x => ∃ t, f c = some (.str x t)
theorem MapAt.sub {prog : Program} {w : World} {h h' : Heap} {esc : Nat → Option PySem.Str} (m : MapAt prog w h esc) (k : Sub h h') : MapAt prog w h' esc := by
  obtain ⟨f, ⟨o, es, ep, a, b, c, d, e⟩, g⟩ := m.ex
  exact ⟨f, ⟨o, es, ep, k _ _ a, b, c, d, e⟩, g⟩
def mappedOf : Option PySem.Str → Mapped
  | none => .keep
  | some x => .text x
section
variable {prog : Program} {w : World} {A : Around} {E : Value → Shared → Prop} {s : Shared} {esc : Nat → Option PySem.Str}
theorem lookup_of {c : Nat} {Q : Mapped → Shared → Prop} (hh : A.handled = none) (m : MapAt prog w s.heap esc) (q : ∀ s', Kp s s' → Q (mappedOf (esc c)) s') : wpAny (model prog w) A (tableLookup (.ref 57) c) Q E s := by
  obtain ⟨f, hf, g⟩ := m.ex
  unfold tableLookup
  refine wpAny_bind (wpAny_attempt (wpAny_bind (wpAny_mkInt ?_)))
  have g := g c
  cases he : esc c with
  | none =>
    rw [he] at g q
    refine wpAny_getItem_missing_of (k := (c : Int)) (intKind_is ..) (by decide) hh hf g fun h' e ne => ?_
    obtain ⟨ob, t, h1, h2, _⟩ := ne.there
    show wpAny _ _ (isInstance (.ref e) (.type "LookupError") >>= _) _ _ _
    refine wpAny_bind (wpAny_isInstance (T := "KeyError") (b := true) ⟨ob, h1, h2⟩ (by rw [isSubtype_type]; kernel_rfl) ?_)
    exact wpAny_bind (wpAny_rule (wpAny_pure (q _ (.mk ne.keeps))))
  | some x =>
    rw [he] at g q
    obtain ⟨t, g⟩ := g
    refine wpAny_getItem_of (k := (c : Int)) (intKind_is ..) hf g ?_
    exact wpAny_pure (q _ (.toks _))
theorem translate_one {c : Nat} {t : Tok} (hc : c < 128) (he : ∀ x, esc c = some x → x.length = 2) : Meets (Builtin.«str.translate» ⟨[.str ⟨#[c]⟩ t, .ref 57], []⟩) fun A R s => A.handled = none ∧ (∀ prog w, MapAt prog w s.heap esc) ∧ ∀ s' t', Kp s s' → R (.ok (.ret (.str ((esc c).getD ⟨#[c]⟩) t'))) s' := by
  refine .of_wp fun prog w A R s hs => ?_
  obtain ⟨hh, hm, hr⟩ := hs
  unfold Builtin.«str.translate»
  have h1 : strOneArg "translate" ⟨[.str ⟨#[c]⟩ t, .ref 57], []⟩ = pure (.str ⟨#[c]⟩ t, ⟨#[c]⟩, .ref 57) := rfl
  rw [h1]
  refine wpAny_bind (wpAny_pure ?_)
  have h2 : (PySem.Str.length ⟨#[c]⟩ == 0) = false := rfl
  have h3 : (#[c] : Array Nat).all (· < 128) = true := by simp [hc]
  simp only [h2, h3]
  rw [if_neg Bool.false_ne_true, ← Array.forIn_toList]
  have h4 : tooLong 0 = false := notLong (by decide)
  have h5 : (#[c] : Array Nat).toList = [c] := rfl
  rw [h5, List.forIn_cons]
  simp only [h4, List.lookup_nil, Bool.false_eq_true, if_false, if_true, bind_assoc]
  refine wpAny_bind (lookup_of hh (hm prog w) fun s₁ k₁ => ?_)
  cases e : esc c with
  | none =>
    rw [e] at hr
    simp only [mappedOf, pure_bind, List.forIn_nil]
    have h6 : tooLong (0 + 1) = false := notLong (by decide)
    rw [if_neg (by rw [h6]; decide)]
    refine wpAny_bind (wpAny_mkStr (wpAny_pure ⟨_, rfl, ?_⟩) (by show 1 ≤ sizeLine; rw [sizeLine_eq]; decide))
    have h7 : ([(⟨#[c]⟩ : PySem.Str)].reverse.foldl (fun acc p => acc ++ p.cps) #[]) = #[c] := by simp
    show R (.ok (.ret (.str ⟨[(⟨#[c]⟩ : PySem.Str)].reverse.foldl (fun acc p => acc ++ p.cps) #[]⟩ _))) _
    rw [h7]
    exact hr _ _ (k₁.trans (.toks _))
  | some x =>
    have hx := he x e
    have h8 : (x.length == 1 && x.cps.all fun x => decide (x < 128)) = false := by rw [hx]; rfl
    rw [e] at hr
    simp only [mappedOf, h8, pure_bind, Bool.false_eq_true, if_false, bind_assoc]
    refine wpAny_bind (wpAny_rule ?_)
    refine wpAny_bind (lookup_of hh ((hm prog w).sub k₁.sub) fun s₂ k₂ => ?_)
    rw [e]
    simp only [mappedOf, pure_bind, List.forIn_nil]
    have h6 : tooLong (0 + x.length) = false := notLong (by rw [hx]; decide)
    rw [if_neg (by rw [h6]; decide)]
    have h7 : ([x].reverse.foldl (fun acc p => acc ++ p.cps) #[]) = x.cps := by simp
    refine wpAny_bind (wpAny_mkStr (wpAny_pure ⟨_, rfl, ?_⟩) ?_)
    · show R (.ok (.ret (.str ⟨[x].reverse.foldl (fun acc p => acc ++ p.cps) #[]⟩ _))) _
      rw [h7]
      exact hr _ _ ((k₁.trans k₂).trans (.toks _))
    · show ([x].reverse.foldl (fun acc p => acc ++ p.cps) #[]).size ≤ sizeLine
      rw [h7, sizeLine_eq]
      have : x.cps.size = 2 := hx
      omega
end
section
variable {prog : Program} {w : World} {A : Around} {env : Env} {h : Heap} {P : Addr → Prop} {pos : Pos} {esc : Nat → Option PySem.Str}
theorem calls_translate (hh : A.handled = none) (m : ∀ prog w, MapAt prog w h esc) {c : Nat} (hc : c < 128) (he : ∀ x, esc c = some x → x.length = 2) :
    Calls prog w A h (.builtin "str.translate") [.str ⟨#[c]⟩, .raw (.ref 57)] (.str ((esc c).getD ⟨#[c]⟩)) := by
  refine ⟨fun s vs Q E k rr q => ?_⟩
  cases rr with
  | cons a rr =>
    cases rr with
    | cons b rr =>
      cases rr
      cases b
      cases a with
      | str x t =>
        exact call_meets F.slot_str_translate (typeIs_str _ _ _) F.entry_str_translate (F.args_str_translate_2 _ _) (translate_one hc he) ⟨hh, fun prog w => (m prog w).sub k, fun s' t' k' => q _ _ k' (.str _ _)⟩
theorem c_escape (G : Gm h) {k : Nat} (ok : Okay A (k + 1)) (m : ∀ prog w, MapAt prog w h esc) {c : Nat} (hc : c < 128) (he : ∀ x, esc c = some x → x.length = 2) :
    Calls prog w A h (.ref 67) [.str ⟨#[c]⟩] (.str ((esc c).getD ⟨#[c]⟩)) := by
  refine calls_fn (G.f 8 67 (by simp [ftab])) ok [PySem.Str.ofString "pattern"] ?_ rfl (by decide +kernel) (by decide +kernel) (by decide +kernel) (fun _ => Any) (fun s _ => .inr fun _ _ => trivial) ?_
  · intro name pm code doc vs hl
    match vs, hl with
    | [a], _ => rfl
  · intro s env s₁ own hs sc ec st F okd
    have G₁ := G.sub (hs.trans F.kp.sub)
    have np : Nm prog w env s₁.heap Any (PySem.Str.ofString "pattern") (.str ⟨#[c]⟩) := F.fr.nm (by rfl) (by decide +kernel)
    have ni : Nm prog w env s₁.heap Any (PySem.Str.ofString "isinstance") (.raw (.builtin "isinstance")) := G₁.nmb sc _ _ (by simp [btab]) (by decide +kernel) (by decide +kernel)
    have nr : Nm prog w env s₁.heap Any (PySem.Str.ofString "str") (.raw (.type "str")) := G₁.nmb sc _ _ (by simp [btab]) (by decide +kernel) (by decide +kernel)
    refine run_if F (tr_plain (ev_call (ev_name ni) (evs_cons (ev_name np) (evs_cons (ev_name nr) evs_nil)) calls_isinstance_str bv) truth_bool) (fun _ s₂ F₂ => ?_) (fun hb => by cases hb)
    have G₂ := G.sub (hs.trans F₂.kp.sub)
    have np : Nm prog w env s₂.heap Any (PySem.Str.ofString "pattern") (.str ⟨#[c]⟩) := F₂.fr.nm (by rfl) (by decide +kernel)
    have nm : Nm prog w env s₂.heap Any (PySem.Str.ofString "_special_chars_map") (.raw (.ref 57)) := G₂.nm sc _ (.ref 57) (by simp [gtab]) (.raw _) (by decide +kernel) (by decide +kernel)
    exact run_ret_if F₂ (ev_meth (ev_name np) meth_translate (evs_cons (ev_name nm) evs_nil) (calls_translate okd.hh (fun prog w => (m prog w).sub (hs.trans F₂.kp.sub)) hc he)) (.str _)
end
end Mine
end

section
open PySem PySem.W PyProof.Rows
namespace Mine

theorem md_get : typeLookup (.type "method_descriptor") "__get__" = pure (some (.builtin "method_descriptor.__get__")) := by rw [typeLookup_type, builtinLookup_eq_fast]; kernel_rfl
theorem md_set : typeLookup (.type "method_descriptor") "__set__" = pure none := by rw [typeLookup_type, builtinLookup_eq_fast]; kernel_rfl
theorem md_del : typeLookup (.type "method_descriptor") "__delete__" = pure none := by rw [typeLookup_type, builtinLookup_eq_fast]; kernel_rfl
theorem slot_md_get : Slot "method_descriptor" "__get__" "method_descriptor.__get__" :=
  .of (owner := "method_descriptor") (n := "__get__") md_get (by decide +kernel) (by decide +kernel) (by decide +kernel)
    (by first | exact .inl (by decide +kernel) | exact .inr (by decide +kernel)) (by rw [isSubtype_type]; kernel_rfl)
theorem entry_md_get : entryFor table "method_descriptor.__get__" = some Builtin.«method_descriptor.__get__» := entryFor_of_tree (by kernel_rfl)
theorem owner_md : Manifest.owners.lookup (String.ofList ['r', 'o', 't', 'p', 'i', 'r', 'c', 's', 'e', 'd', '_', 'd', 'o', 'h', 't', 'e', 'm'].reverse) = some Manifest.sig_method_descriptor := by kernel_rfl
theorem args_md_get (a b c : Value) : argsOk "method_descriptor.__get__" ⟨[a, b, c], []⟩ := by
  unfold argsOk; rw [signature?_of (id := "method_descriptor.__get__") (n := ['_', '_', 't', 'e', 'g', '_', '_']) (o := ['r', 'o', 't', 'p', 'i', 'r', 'c', 's', 'e', 'd', '_', 'd', 'o', 'h', 't', 'e', 'm']) (by kernel_rfl) owner_md]; kernel_rfl
theorem getOf_append : Builtin.ObjectAttr.getOf (some (.builtin "list.append")) = pure (some (.builtin "method_descriptor.__get__")) := by
  show (do typeLookup (← typeOf (.builtin "list.append")) "__get__") = _
  rw [F.type_list_append]; exact md_get
theorem takes_append : Builtin.ObjectAttr.takesStores (.builtin "list.append") = pure false := by
  have e1 : specialOf (.builtin "list.append") "__set__" = pure none := by
    show (do typeLookup (← typeOf (.builtin "list.append")) "__set__") = _
    rw [F.type_list_append]; exact md_set
  have e2 : specialOf (.builtin "list.append") "__delete__" = pure none := by
    show (do typeLookup (← typeOf (.builtin "list.append")) "__delete__") = _
    rw [F.type_list_append]; exact md_del
  unfold Builtin.ObjectAttr.takesStores
  rw [e1, e2]
  rfl
theorem told_append : Manifest.toldItsClass.contains "list.append" = false := by decide +kernel
theorem md_get_meets (a : Addr) (xs : Array Value) (k : Nat) :
    Meets (Builtin.«method_descriptor.__get__» ⟨[.builtin "list.append", .ref a, .type "list"], []⟩) (fun A R s => s.heap.get? a = some { cls := .type "list", dict := none, data := .seq xs k } ∧
      R (.ok (.ret (.ref s.heap.objs.size))) { s with heap := s.heap.push { cls := .type "builtin_function_or_method", data := .fields #[.builtin "list.append", .ref a] } }) :=
  Meets.of_wp fun prog w A R s hs => by
    obtain ⟨hp, g, d, tk, os⟩ := s
    obtain ⟨hx, hs⟩ := hs
    have hT : (⟨hp, g, d, tk, os⟩ : Shared).TypeIs (.ref a) "list" := ⟨_, hx, rfl⟩
    unfold Builtin.«method_descriptor.__get__»
    refine wpAny_bind (wpAny_of_eq (a := (.builtin "list.append", some (.ref a), some (.type "list"))) rfl ?_)
    dsimp only
    rw [if_neg (by rw [told_append]; decide)]
    refine wpAny_bind ?_
    refine wpAny_bind (wpAny_pure ?_)
    dsimp only
    refine wpAny_bind (wpAny_isInstance (T := "list") (b := true) hT (by rw [isSubtype_type]; kernel_rfl) ?_)
    refine wpAny_pure ?_
    exact wpAny_bind (wpAny_bind (wpAny_alloc (wpAny_pure (wpAny_pure ⟨_, rfl, hs⟩))))
theorem getattribute_append (a : Addr) (xs : Array Value) (k : Nat) (u : Tok) :
    Meets (Builtin.«object.__getattribute__» ⟨[.ref a, .str (Str.ofString "append") u], []⟩) (fun A R s => s.heap.get? a = some { cls := .type "list", dict := none, data := .seq xs k } ∧
      ∀ tk, R (.ok (.ret (.ref s.heap.objs.size))) { s with heap := s.heap.push { cls := .type "builtin_function_or_method", data := .fields #[.builtin "list.append", .ref a] }, toks := tk }) :=
  Meets.of_wp fun prog w A R s hs => by
    obtain ⟨hp, g, d, tk, os⟩ := s
    obtain ⟨hx, hs⟩ := hs
    have hT : (⟨hp, g, d, tk, os⟩ : Shared).TypeIs (.ref a) "list" := ⟨_, hx, rfl⟩
    unfold Builtin.«object.__getattribute__»
    repeat (any_goals (first | assumption | wp_step))
    refine wpAny_of_eq F.slot_list_append.lookup ?_
    rw [getOf_append]
    refine wpAny_bind (wpAny_pure ?_)
    show wpAny _ _ (Builtin.ObjectAttr.dataDescriptor? (some (.builtin "list.append")) (some (.builtin "method_descriptor.__get__")) >>= _) _ _ _
    unfold Builtin.ObjectAttr.dataDescriptor?
    simp only [takes_append, pure_bind, Bool.false_eq_true, if_false]
    repeat (any_goals (first | assumption | ((with_reducible show wpAny _ _ (call (Value.builtin "method_descriptor.__get__") _ _) _ _ _); refine call_meets slot_md_get F.type_list_append entry_md_get (args_md_get _ _ _) (md_get_meets a xs k) ⟨hx, ?_⟩) | wp_step))
    exact wpAny_pure ⟨_, rfl, hs tk⟩
theorem getAttr_append {prog : Program} {w : World} {A : Around} {E : Value → Shared → Prop} {s : Shared} {a : Addr} {xs : Array Value} {k : Nat} {Q : Value → Shared → Prop}
    (hx : s.heap.get? a = some { cls := .type "list", dict := none, data := .seq xs k })
    (h : ∀ tk, Q (.ref s.heap.objs.size) { s with heap := s.heap.push { cls := .type "builtin_function_or_method", data := .fields #[.builtin "list.append", .ref a] }, toks := tk }) :
    wpAny (model prog w) A (getAttr (.ref a) "append" true) Q E s := by
  obtain ⟨hp, g, d, tk, os⟩ := s
  have hT : ∀ tk', (⟨hp, g, d, tk', os⟩ : Shared).TypeIs (.ref a) "list" := fun _ => ⟨_, hx, rfl⟩
  have f3 := F.slot_list_getattribute.lookup
  have f4 := F.slot_list_getattribute.bind (.ref a)
  have f5 := am_list_getattr_none
  unfold getAttr getAttrBy
  repeat (any_goals (first | assumption | exact hT _ | ((with_reducible show wpAny _ _ (call (Value.builtin "list.__getattribute__") _ _) _ _ _); refine call_meets F.slot_list_getattribute (hT _) am_entry_list_getattribute (F.args_list_getattribute_2 _ _) (getattribute_append a xs k _) ⟨hx, fun tk' => ?_⟩) | wp_step))
  exact wpAny_pure (h tk')
end Mine
end

section
open PySem PySem.W PyProof.Rows
namespace Mine

def boundObj (a : Addr) : Obj := { cls := .type "builtin_function_or_method", data := .fields #[.builtin "list.append", .ref a] }
theorem callWith_bound {M : Model} {A : Around} {E : Value → Shared → Prop} {s : Shared} {pos : Pos} {a b : Addr} {first : List Value} {args : List (Bool × Sem Value)} {Q : Value → Shared → Prop} (hplain : args.any (·.1) = false)
    (h : wpAny M A (evalArgs (.ref b) true args []) (fun x s₁ => s₁.heap.get? b = some (boundObj a) ∧ wpAny M A (call (.ref b) (first ++ x.pos) x.kw) Q E s₁) E s) :
    wpAny M A (callWith pos (.ref b) first args []) Q E s := by
  unfold callWith
  refine wpAny_bind (wpAny_holding (wpAny_mono h (fun x s₁ h₁ => wpAny_bind (wpAny_standAt ?_)) fun _ _ x => x))
  simp only [hplain, List.any_nil, Bool.or_false]
  refine wpAny_bind (m := keeperOf (.ref b)) ?_
  unfold keeperOf
  refine wpAny_bind (wpAny_load h₁.1 ?_)
  refine wpAny_pure ?_
  exact wpAny_bind (wpAny_mono h₁.2 (fun r s₂ hr => wpAny_bind (wpAny_holding (wpAny_point (wpAny_pure hr)))) fun _ _ x => x)

def sigA (full : String) : Manifest.Signature := ⟨.oneArg, full, "append", .self, [⟨"object", .posOnly, true⟩]⟩
theorem sig_append : Manifest.signature? "list.append" = some (sigA "list.append") := by
  rw [signature?_of (id := "list.append") (n := ['d', 'n', 'e', 'p', 'p', 'a']) (o := ['t', 's', 'i', 'l']) (by kernel_rfl) F.owner_list]
  kernel_rfl
theorem kind_append : builtinKind "list.append" = some .method := by decide +kernel
theorem last_append : Bind.lastOf "list.append" = "append" := by decide +kernel
theorem last_list : Bind.lastOf "list" = "list" := by decide +kernel
theorem varargs_append : Manifest.varargsMethods.contains "list.append" = false := by decide +kernel
theorem checkArgs_append (full : String) (hf : full ≠ "*") (a b : Value) : Bind.checkArgs "list.append" (sigA full) ⟨[a, b], []⟩ = pure () := by
  have e : (full == "*") = false := by simpa using hf
  have e' : (full != "*") = true := by simp [bne, e]
  unfold Bind.checkArgs Bind.printed sigA
  simp [e, e']
  rfl
theorem boundCall_append {M : Model} {A : Around} {E : Value → Shared → Prop} {s : Shared} {a : Addr} {x : Value} {Q : Unit → Shared → Prop} {o : Obj} (hx : s.heap.get? a = some o) (hc : o.cls = .type "list") (hd : ∃ vs n, o.data = .seq vs n) (q : Q () s) :
    wpAny M A (checkBoundCall "list.append" ⟨[.ref a, x], []⟩) Q E s := by
  obtain ⟨vs, n, hd⟩ := hd
  have hT : s.TypeIs (.ref a) "list" := ⟨o, hx, hc⟩
  unfold checkBoundCall
  rw [sig_append, kind_append, last_append, varargs_append]
  simp only [show (Manifest.AttrKind.method != Manifest.AttrKind.method) = false by decide, Bool.false_and, Bool.false_eq_true, if_false]
  refine wpAny_bind (wpAny_isInstance (b := false) hT (by rw [isSubtype_type]; kernel_rfl) ?_)
  simp only [Bool.or_false, Bool.false_eq_true, if_false]
  have hty : ∀ {Q' : Bool → Shared → Prop}, Q' false s → wpAny M A (isType (.ref a)) Q' E s := fun q' => by
    show wpAny M A (loadHead a >>= fun o => pure (match o.data with | .cls _ => true | _ => false)) _ _ _
    refine wpAny_bind (wpAny_loadPart hx ?_)
    rw [hd]
    exact wpAny_pure q'
  refine wpAny_bind (hty ?_)
  simp only [Bool.false_eq_true, if_false]
  refine wpAny_bind (wpAny_typeOf hT ?_)
  show wpAny _ _ (Bind.checkArgs "list.append" (sigA (toString (Bind.lastOf "list") ++ toString "." ++ toString "append")) ⟨[.ref a, x], []⟩) _ _ _
  rw [checkArgs_append _ (by rw [last_list]; decide +kernel)]
  exact wpAny_pure q
section
variable {prog : Program} {w : World} {A : Around} {E : Value → Shared → Prop} {s : Shared}
theorem call_bound {a b : Addr} {items : Array Value} {x : Value} {Q : Value → Shared → Prop} (hb : s.heap.get? b = some (boundObj a)) (hl : s.heap.PlainList a items)
    (hQ : ∀ h', h'.PlainList a (items.push x) → Heap.SameBut a s.heap h' → Q .none { s with heap := h' }) (hsz : items.size ≤ 10000) :
    wpAny (model prog w) A (call (.ref b) [x]) Q E s := by
  have hsz' : items.size ≤ sizeLine := by rw [sizeLine_eq]; omega
  obtain ⟨n, ho⟩ := hl
  refine wpAny_call (codeAny_of_tree ?_)
  show wpAny _ _ (callAny (.ref b) ⟨[x], []⟩) _ _ _
  unfold callAny
  refine wpAny_bind (wpAny_load hb ?_)
  show wpAny _ _ (do checkBoundCall "list.append" ⟨[.ref a, x], []⟩; again (.builtin "list.append" ⟨[.ref a, x], []⟩)) _ _ _
  refine wpAny_bind (boundCall_append ho rfl ⟨_, _, rfl⟩ (wpAny_pure ⟨plainId_quiet F.slot_list_append.plain _, codeAny_builtin F.entry_list_append ?_⟩))
  show wpAny _ _ (updateSeq a (·.push x) >>= fun _ => ret .none) _ _ s
  refine wpAny_bind ?_
  refine wpAny_updateSeq ho rfl (wpAny_pure (hQ _ ⟨n + 1, ?_⟩ (Heap.SameBut.update ..)))
  rw [Heap.get?_update_self _ ho (by rw [Obj.mapSeq_push_plain]; rfl), Obj.mapSeq_push_plain]
end
end Mine
end

section
open PySem PySem.W PyProof.Rows
namespace Mine

section
variable {prog : Program} {w : World} {A : Around} {s s₁ : Shared} {env : Env} {own : List (Str × Addr)} {P : Addr → Prop} {σ : List (Str × D)} {test e : Expr} {body rest : List Stmt} {pos pos' : Pos} {Q : Flow → Shared → Prop}

/-- a base that holds all but the frame's own objects -/
theorem At.lift (F : At s env own P σ s₁) : ∃ s', At s' env own P σ s₁ ∧ Sub s.heap s'.heap ∧
    (∀ b o, s₁.heap.get? b = some o → b ∉ mineA env own [] → s'.heap.get? b = some o) ∧ (∀ P' σ' s₂, At s' env own P' σ' s₂ → At s env own P' σ' s₂) := by
  refine ⟨_, F.rebase [], ?_, ?_, ?_⟩
  · intro b o e
    show (drops _ _).get? _ = _
    rw [drops_get, if_neg ?_]
    · exact F.fr.keep b o e
    · intro hm
      obtain ⟨fL, fO⟩ := F.fresh
      rcases mineA_mem.mp hm with rfl | ⟨n, e'⟩ | hx
      · rw [fL] at e; cases e
      · rw [(fO n b e').1] at e; cases e
      · cases hx
  · intro b o e hm
    show (drops _ _).get? _ = _
    rw [drops_get, if_neg hm]; exact e
  · intro P' σ' s₂ z
    refine z.base ?_ ?_ F.fresh.1 fun n c e => (F.fresh.2 n c e).1
    · intro b o e
      show (drops _ _).get? _ = _
      rw [drops_get, if_neg ?_]
      · exact F.fr.keep b o e
      · intro hm
        obtain ⟨fL, fO⟩ := F.fresh
        rcases mineA_mem.mp hm with rfl | ⟨n, e'⟩ | hx
        · rw [fL] at e; cases e
        · rw [(fO n b e').1] at e; cases e
        · cases hx
    · obtain ⟨h, tk, e⟩ := F.same
      exact ⟨_, s₁.toks, by rw [e]⟩
/-- an object that is no namespace and no cell is none of the frame's own -/
theorem At.notMine (F : At s env own P σ s₁) {b : Addr} {o : Obj} (e : s₁.heap.get? b = some o) (h1 : ∀ es ep, o.data ≠ .dict es ep) (h2 : ∀ v, o.data ≠ .cell v) : b ∉ mineA env own [] := fun hm => by
  obtain ⟨⟨_, m, cm, G, _⟩, _⟩ := F
  rcases mineA_mem.mp hm with rfl | ⟨n, e'⟩ | hx
  · obtain ⟨o', es, ep, e'', hd, _⟩ := G.ns
    rw [e] at e''; cases e''
    exact h1 es ep hd
  · obtain ⟨o', e'', hd⟩ := G.cell n b e'
    rw [e] at e''; cases e''
    exact h2 _ hd
  · cases hx
/-- a list that was made, held by its address -/
theorem At.raw (F : At s env own P σ s₁) {n : Str} {ds : List D} (hl : σ.lookup n = some (.plain ds)) : ∃ a vs, s₁.heap.PlainList a (Array.mk vs) ∧ RelAll P s₁.heap vs ds ∧ P a ∧ At s env own P ((n, .raw (.ref a)) :: σ) s₁ := by
  obtain ⟨⟨k, m, cm, G, q⟩, sm⟩ := F
  obtain ⟨v, r, H⟩ := q n _ hl
  cases r with
  | @plain a vs _ pa pl rr =>
    refine ⟨a, vs, pl, rr, pa, ⟨k, m, cm, G, fun n' d' e => ?_⟩, sm⟩
    rw [List.lookup_cons] at e
    cases hk : n' == n with
    | true =>
      rw [hk] at e; cases e
      have := beq_iff_eq.mp hk; subst this
      exact ⟨_, .raw _, H⟩
    | false =>
      rw [hk] at e
      exact q n' d' e
/-- a while: σs i and R i hold ahead of the i-th turn -/
theorem run_while (σs : Nat → List (Str × D)) (R : Nat → Heap → Prop) (N : Nat) (F : At s env own P (σs 0) s₁) (r0 : R 0 s₁.heap) (hR : ∀ i h h', R i h → Sub h h' → R i h')
    (tst : ∀ i s₂, i ≤ N → At s env own P (σs i) s₂ → R i s₂.heap → Tr prog w A env s₂.heap test (decide (i < N)))
    (turn : ∀ i s₂, i < N → At s env own P (σs i) s₂ → R i s₂.heap → Run prog w A env body s₂ fun f s₃ => f = .next ∧ At s env own P (σs (i + 1)) s₃ ∧ R (i + 1) s₃.heap)
    (next : ∀ s₂, At s env own P (σs N) s₂ → R N s₂.heap → Run prog w A env rest s₂ Q) : Run prog w A env (.While test body [] pos :: rest) s₁ Q := by
  refine ⟨fun E => ?_⟩
  refine wpAny_execs_cons (wpAny_While ?_)
  refine codeAny_whileLoop (fun k s' => ∃ i, k + i = N ∧ At s env own P (σs i) s' ∧ R i s'.heap) ?_ N ⟨0, rfl, F, r0⟩
  rintro k s' ⟨i, hki, hA, hr⟩
  refine (tst i s' (by omega) hA hr).run s' _ _ (.refl _) fun s₂ k₂ => ?_
  have hA₂ := hA.on k₂
  have hr₂ := hR _ _ _ hr k₂.sub
  by_cases hlt : i < N
  · rw [decide_eq_true hlt, if_pos rfl]
    refine wpAny_mono ((turn i s₂ hlt hA₂ hr₂).run _) (fun f s₃ h => ?_) fun _ _ z => z
    obtain ⟨rfl, hA₃, hr₃⟩ := h
    exact ⟨N - (i + 1), by omega, i + 1, by omega, hA₃, hr₃⟩
  · have : i = N := by omega
    subst this
    rw [decide_eq_false hlt, if_neg Bool.false_ne_true]
    exact wpAny_execs_nil ((next s₂ hA₂ hr₂).run E)
end
end Mine
end

section
open PySem PySem.W PyProof.Rows
namespace Mine

section
variable {prog : Program} {w : World} {A : Around} {s s₁ : Shared} {env : Env} {own : List (Str × Addr)} {P P' : Addr → Prop} {σ : List (Str × D)} {test e : Expr} {body rest : List Stmt} {pos pos' apos npos : Pos} {Q : Flow → Shared → Prop} {ls add : Str}

theorem Nm.val {prog : Program} {w : World} {env : Env} {h : Heap} {P : Addr → Prop} {x : Str} {v : Value} (n : Nm prog w env h P x (.raw v)) {A : Around} {pos : Pos} {s : Shared} {Q E : Value → Shared → Prop} (k : Sub h s.heap) (q : Q v s) : wpAny (model prog w) A (eval (.Name x pos) env) Q E s := by
  obtain ⟨v', r, g⟩ := n
  cases r
  exact g A pos s Q E k q

/-- add = ls.append -/
theorem run_assign_append {a : Addr} {items : Array Value} (F : At s env own P σ s₁) (hl : s₁.heap.PlainList a items) (nl : σ.lookup ls = some (.raw (.ref a))) (hd : (ls == ("__debug__" : Str)) = false) (st : Stores env own add)
    (next : ∀ s₂ b, At s env own P ((add, .raw (.ref b)) :: σ) s₂ → (s.heap.get? b = none) → s₂.heap.get? b = some (boundObj a) → s₂.heap.PlainList a items → Run prog w A env rest s₂ Q)
    (ha : s.heap.get? a = none) :
    Run prog w A env (.Assign [.Name add pos'] (.Attribute (.Name ls npos) "append" apos) pos :: rest) s₁ Q := by
  refine ⟨fun E => ?_⟩
  have nm : Nm prog w env s₁.heap P ls (.raw (.ref a)) := F.fr.nm nl hd
  obtain ⟨n, ho⟩ := hl
  refine wpAny_execs_cons (wpAny_Assign_Name (Attribute_any_ (nm.val (fun _ _ e => e) ?_)) rfl)
  refine getAttr_append ho fun tk => ?_
  have k : Kp s₁ { s₁ with heap := s₁.heap.push (boundObj a), toks := tk } := .mk (sub_push _ _)
  have F₂ := F.on k
  have nm' := F₂.notMine (b := s₁.heap.objs.size) (Heap.get?_push_size _ rfl) (by intro es ep h; cases h) (by intro v h; cases h)
  have na' := F₂.notMine (b := a) (k.sub a _ ho) (by intro es ep h; cases h) (by intro v h; cases h)
  refine F₂.fr.store st (.raw _) fun h' tk' F' ht _ => ?_
  have miss : ∀ {b : Addr}, b ∉ mineA env own [] → b ≠ env.locals ∧ ∀ n, own.lookup n ≠ some b := fun hm => ⟨fun e => hm (mineA_mem.mpr (.inl e)), fun n e => hm (mineA_mem.mpr (.inr (.inl ⟨n, e⟩)))⟩
  refine (next _ s₁.heap.objs.size ⟨F', let ⟨h, tk', e⟩ := F₂.same; ⟨h', _, by rw [e]⟩⟩ ?_ ?_ ⟨n, ?_⟩).run E
  · cases e : s.heap.get? s₁.heap.objs.size with
    | none => rfl
    | some o =>
      have := F.fr.keep _ _ e
      exact absurd (Heap.lt_size this) (Nat.lt_irrefl _)
  · exact ht _ _ (miss nm').1 (miss nm').2 (Heap.get?_push_size _ rfl)
  · exact ht _ _ (miss na').1 (miss na').2 (k.sub a _ ho)

/-- add(e), where add is the append of the list at a -/
theorem run_add {a b : Addr} {items : Array Value} {d : D} (sc : env.scope.kind = .function) (F : At s env own P σ s₁) (hf : ∀ n d, σ.lookup n = some d → Flat d) (hb : s₁.heap.get? b = some (boundObj a)) (hl : s₁.heap.PlainList a items) (hsz : items.size ≤ 10000) (ha : s.heap.get? a = none)
    (nl : σ.lookup add = some (.raw (.ref b))) (hd : (add == ("__debug__" : Str)) = false) (x : Evs prog w A env s₁.heap P' [e] [d]) (fd : Flat d)
    (next : ∀ s₂ v, At s env own P σ s₂ → s₂.heap.get? b = some (boundObj a) → s₂.heap.PlainList a (items.push v) → Rel None' s₂.heap v d → Run prog w A env rest s₂ Q)
    (hs : swapsWith (.Call (.Name add npos) [e] [] apos) none pos.line env = pure false := by rfl) :
    Run prog w A env (.Expr (.Call (.Name add npos) [e] [] apos) pos :: rest) s₁ Q := by
  refine ⟨fun E => ?_⟩
  have nm : Nm prog w env s₁.heap P add (.raw (.ref b)) := F.fr.nm nl hd
  have hi : interactive env = false := by unfold interactive; rw [sc]; rfl
  refine wpAny_execs_cons (wpAny_Expr_any ?_ hi hs)
  rw [call_name]
  refine wpAny_bind (nm.val (fun _ _ e => e) ?_)
  refine callWith_bound (a := a) (x.1 apos).1 (evalArgs_of x (fun _ _ e => e) fun vs s₂ k₂ r₂ => ⟨k₂.sub _ _ hb, ?_⟩)
  cases r₂ with
  | cons r rr =>
    cases rr
    obtain ⟨n, ho⟩ := hl
    refine call_bound (k₂.sub _ _ hb) ⟨n, k₂.sub _ _ ho⟩ (fun h' hl' hsb => ?_) hsz
    have F₂ := F.on k₂
    have na := F₂.notMine (b := a) (k₂.sub a _ ho) (by intro es ep h; cases h) (by intro v h; cases h)
    have hab : b ≠ a := by
      rintro rfl
      rw [hb] at ho
      exact absurd (Value.type.inj (congrArg Obj.cls (Option.some.inj ho))) (by decide)
    obtain ⟨⟨kd, m, cm, G, q⟩, sm⟩ := F₂
    have hk : ∀ c o, c ≠ a → s₂.heap.get? c = some o → h'.get? c = some o := fun c o hc e => hsb.extBut c o hc e
    have F₃ : At s env own P σ { s₂ with heap := h' } := by
      refine ⟨⟨kd, m, cm, ⟨G.ns.sameBut hsb fun e => na (mineA_mem.mpr (.inl e.symm)), fun c o e => hk c o (by rintro rfl; rw [ha] at e; cases e) (G.keep c o e), G.fresh, fun n c e => (G.cell n c e).sameBut hsb fun e' => na (mineA_mem.mpr (.inr (.inl ⟨n, e' ▸ e⟩))), G.look, G.apart, G.above⟩, fun n d e => ?_⟩, let ⟨h, tk, e⟩ := sm; ⟨h', tk, by rw [e]⟩⟩
      obtain ⟨v, r, H⟩ := q n d e
      exact ⟨v, r.flat (hf n d e), H⟩
    exact (next _ _ F₃ (hk b _ hab (k₂.sub _ _ hb)) hl' (r.flat fd)).run E
end
end Mine
end

section
open PySem PySem.W PyProof.Rows
namespace Mine

def trStep (esc : Nat → Option Str) (acc : List (Option Str)) (c : Nat) : List (Option Str) :=
  if (⟨#[c]⟩ : Str) == Str.ofString "*" then
    (if acc.isEmpty || (acc.getD (acc.length - 1) none).isSome then acc ++ [none] else acc)
  else if (⟨#[c]⟩ : Str) == Str.ofString "?" then acc ++ [some (Str.ofString "any")]
  else acc ++ [some ((esc c).getD ⟨#[c]⟩)]
def trUpto (esc : Nat → Option Str) (pat : Str) (i : Nat) : List (Option Str) := (pat.cps.toList.take i).foldl (trStep esc) []
def trOf (esc : Nat → Option Str) (pat : Str) : List (Option Str) := pat.cps.toList.foldl (trStep esc) []
theorem trUpto_succ (esc : Nat → Option Str) (pat : Str) (i : Nat) (c : Nat) (h : pat.cps[i]? = some c) : trUpto esc pat (i + 1) = trStep esc (trUpto esc pat i) c := by
  unfold trUpto
  rw [List.take_add_one]
  have : pat.cps.toList[i]? = some c := by simpa using h
  rw [this, List.foldl_append]
  rfl
theorem trStep_len (esc : Nat → Option Str) (acc : List (Option Str)) (c : Nat) : (trStep esc acc c).length ≤ acc.length + 1 := by
  unfold trStep
  split
  · split <;> simp
  · split <;> simp
theorem trUpto_len (esc : Nat → Option Str) (pat : Str) : ∀ i, i ≤ pat.cps.size → (trUpto esc pat i).length ≤ i
  | 0, _ => by simp [trUpto]
  | i + 1, h => by
    have hc : pat.cps[i]? = some (pat.cps[i]'(by omega)) := Array.getElem?_eq_getElem (by omega)
    rw [trUpto_succ esc pat i _ hc]
    have := trStep_len esc (trUpto esc pat i) (pat.cps[i]'(by omega))
    have := trUpto_len esc pat i (by omega)
    omega

section
variable {prog : Program} {w : World} {A : Around} {env : Env} {h : Heap} {P : Addr → Prop}
theorem cmp_isnot_none {o : Option Str} : Cmp prog w A h .IsNot (optD o) .none o.isSome := fun s v₁ v₂ Q E _ r₁ r₂ q => by
  cases r₂
  cases o with
  | none => cases r₁; exact isnot_none_gen (q _ (.refl _))
  | some x => cases r₁; exact isnot_none_gen (q _ (.refl _))
theorem Nm.list {x : Str} {a : Addr} {vs : List Value} {ds : List D} (n : Nm prog w env h P x (.raw (.ref a))) (hl : h.PlainList a (Array.mk vs)) (rr : RelAll P h vs ds) (pa : P a) : Nm prog w env h P x (.plain ds) := by
  refine ⟨.ref a, .plain pa hl rr, fun A pos s Q E k q => n.val k q⟩
theorem RelAll.flats {vs : List Value} {ps : List (Option Str)} {P P' : Addr → Prop} {h h' : Heap} (r : RelAll P h vs (ps.map optD)) : RelAll P' h' vs (ps.map optD) := by
  induction ps generalizing vs with
  | nil => cases r; exact .nil
  | cons p ps ih =>
    cases r with
    | cons a r => exact .cons (a.flat (flat_optD p)) (ih r)
theorem run_assert {s s₁ : Shared} {own : List (Str × Addr)} {σ : List (Str × D)} {test : Expr} {m : Option Expr} {pos : Pos} {rest : List Stmt} {Q : Flow → Shared → Prop} (F : At s env own P σ s₁) (x : Tr prog w A env s₁.heap test true)
    (next : ∀ s₂, At s env own P σ s₂ → Kp s₁ s₂ → Run prog w A env rest s₂ Q) : Run prog w A env (.Assert test m pos :: rest) s₁ Q := by
  refine ⟨fun E => ?_⟩
  refine wpAny_execs_cons (wpAny_Assert_holds (x.run s₁ _ _ (.refl _) fun s₂ k => ⟨rfl, ?_⟩))
  exact (next _ (F.on k) k).run E

def trD (pat : Str) (a b : Addr) (i : Nat) : List (Str × D) := [(Str.ofString "n", .int pat.cps.size), (Str.ofString "i", .int i), (Str.ofString "add", .raw (.ref b)), (Str.ofString "res", .raw (.ref a)), (Str.ofString "pat", .str pat), (Str.ofString "STAR", .none), (Str.ofString "QUESTION_MARK", .str "any")]
def trR (esc : Nat → Option Str) (pat : Str) (a b : Addr) (i : Nat) (h : Heap) : Prop := h.get? b = some (boundObj a) ∧ ∃ vs, h.PlainList a (Array.mk vs) ∧ RelAll None' h vs ((trUpto esc pat i).map optD)
theorem trR.sub {esc : Nat → Option Str} {pat : Str} {a b : Addr} {i : Nat} {h h' : Heap} (r : trR esc pat a b i h) (k : Sub h h') : trR esc pat a b i h' := by
  obtain ⟨hb, vs, ⟨n, hl⟩, rr⟩ := r
  exact ⟨k _ _ hb, vs, ⟨n, k _ _ hl⟩, rr.flats⟩
theorem c_translate (G : Gm h) {esc : Nat → Option Str} (m : ∀ prog w, MapAt prog w h esc) (he : ∀ c x, esc c = some x → x.length = 2) {k : Nat} (ok : Okay A (k + 2)) (pat : Str) (hp : ∀ c, c ∈ pat.cps.toList → c < 128 ∧ c ≠ 91) (hsz : pat.length ≤ 500) :
    Calls prog w A h (.ref 74) [.str pat, .none, .str "any"] (.plain ((trOf esc pat).map optD)) := by
  refine calls_fn (G.f 10 74 (by simp [ftab])) (k := k + 1) ok [Str.ofString "pat", Str.ofString "STAR", Str.ofString "QUESTION_MARK"] ?_ rfl (by decide +kernel) (by decide +kernel) (by decide +kernel) (fun s a => s.heap.get? a = none) (fun s _ => .inl fun d hd => by
    simp at hd; rcases hd with rfl | rfl | rfl <;> constructor) ?_
  · intro name pm code doc vs hl
    match vs, hl with
    | [a, b, c], _ => rfl
  · intro s env s₁ own hs sc ec st F okd
    have shut : Shut s₁ (fun a => s.heap.get? a = none) := fun a e => by
      cases e' : s.heap.get? a with
      | none => exact e'
      | some o => rw [F.kp.sub a o e'] at e; cases e
    refine run_assign (d := .plain []) F (ev_list evs_nil (Nat.zero_le _)) (.inr shut) (st _ (by decide +kernel)) rfl ?_
    intro s₂ F₂
    obtain ⟨a, vs, hl, rr, pa, F₂⟩ := F₂.raw (n := Str.ofString "res") (ds := []) (by rfl)
    cases rr
    refine run_assign_append F₂ hl (by rfl) (by decide +kernel) (st _ (by decide +kernel)) ?_ pa
    intro s₃ b F₃ pb hb hl
    have G₃ := G.sub (hs.trans F₃.kp.sub)
    have npat : Nm prog w env s₃.heap (fun a => s.heap.get? a = none) (Str.ofString "pat") (.str pat) := F₃.fr.nm (by rfl) (by decide +kernel)
    have nlen : Nm prog w env s₃.heap (fun a => s.heap.get? a = none) (Str.ofString "len") (.raw (.builtin "len")) := G₃.nmb sc _ _ (by simp [btab]) (by decide +kernel) (by decide +kernel)
    obtain ⟨s', F', k₀, up, back⟩ := F₃.lift
    have upL : ∀ {s₂ : Shared} {σ : List (Str × D)} {P' : Addr → Prop}, At s env own P' σ s₂ → ∀ i, trR esc pat a b i s₂.heap → ∃ s', At s' env own P' σ s₂ ∧ Sub s.heap s'.heap ∧ trR esc pat a b i s'.heap ∧ (∀ P' σ' s₂, At s' env own P' σ' s₂ → At s env own P' σ' s₂) := by
      intro s₂ σ P' F i r
      obtain ⟨s', F', k₀, up, back⟩ := F.lift
      obtain ⟨hb, vs, ⟨n, hl⟩, rr⟩ := r
      exact ⟨s', F', k₀, ⟨up _ _ hb (F.notMine hb (by intro es ep h; cases h) (by intro v h; cases h)), vs, ⟨n, up _ _ hl (F.notMine hl (by intro es ep h; cases h) (by intro v h; cases h))⟩, rr.flats⟩, back⟩
    have r0 : trR esc pat a b 0 s'.heap := by
      obtain ⟨n, hl⟩ := hl
      exact ⟨up _ _ hb (F₃.notMine hb (by intro es ep h; cases h) (by intro v h; cases h)), [], ⟨n, up _ _ hl (F₃.notMine hl (by intro es ep h; cases h) (by intro v h; cases h))⟩, .nil⟩
    refine run_pair_sw (d₁ := .int 0) (d₂ := .int pat.length) F' (ev_tuple (evs_cons ev_int (evs_cons (ev_call (ev_name nlen) (evs_cons (ev_name npat) evs_nil) (calls_len_str (by omega)) bv) evs_nil)) (by show 2 ≤ 1000; decide))
      okd.hh (.inr ⟨.int _, .int _⟩) (st _ (by decide +kernel)) (st _ (by decide +kernel)) (swapped_of ec (by intros; rfl)) ?_
    intro s₄ F₄
    have r4 := r0.sub F₄.kp.sub
    refine run_while (trD pat a b) (trR esc pat a b) pat.cps.size ((back _ _ _ F₄).pick (by
      intro p hp
      simp only [trD, List.mem_cons, List.not_mem_nil, or_false] at hp
      rcases hp with rfl | rfl | rfl | rfl | rfl | rfl | rfl <;> rfl)) r4 (fun _ _ _ r k => r.sub k) ?_ ?_ ?_
    · intro i s₅ hi F₅ r₅
      have ni : Nm prog w env s₅.heap (fun a => s.heap.get? a = none) (Str.ofString "i") (.int i) := F₅.fr.nm (by rfl) (by decide +kernel)
      have nn : Nm prog w env s₅.heap (fun a => s.heap.get? a = none) (Str.ofString "n") (.int pat.cps.size) := F₅.fr.nm (by rfl) (by decide +kernel)
      refine Tr.cast (tr_cmp (ev_name ni) (ev_name nn) cmp_lt_int) (by simp)
    · intro i s₅ hi F₅ r₅
      obtain ⟨s', F', k₀, r', back⟩ := upL F₅ i r₅
      have hc : pat.cps[i]? = some (pat.cps[i]'hi) := Array.getElem?_eq_getElem hi
      generalize pat.cps[i]'hi = c at hc
      have hcm := hp c (by have := Array.mem_of_getElem? hc; simpa using this)
      have ni : Nm prog w env s₅.heap (fun a => s.heap.get? a = none) (Str.ofString "i") (.int i) := F₅.fr.nm (by rfl) (by decide +kernel)
      have np : Nm prog w env s₅.heap (fun a => s.heap.get? a = none) (Str.ofString "pat") (.str pat) := F₅.fr.nm (by rfl) (by decide +kernel)
      have hi63 : pat.cps.size ≤ 500 := hsz
      refine run_assign F' (ev_item_str (ev_name np) (ev_name ni) (by omega) (by omega) (by simpa using hc)) (.inl (.str _)) (st _ (by decide +kernel)) rfl ?_
      intro s₆ F₆
      have ni : Nm prog w env s₆.heap (fun a => s.heap.get? a = none) (Str.ofString "i") (.int i) := F₆.fr.nm (by rfl) (by decide +kernel)
      refine run_assign F₆ (ev_add_int (ev_name ni) ev_int) (.inl (.int _)) (st _ (by decide +kernel)) rfl ?_
      intro s₇ F₇
      have r₇ := r'.sub F₇.kp.sub
      have nc : Nm prog w env s₇.heap (fun a => s.heap.get? a = none) (Str.ofString "c") (.str ⟨#[c]⟩) := F₇.fr.nm (by rfl) (by decide +kernel)
      have done : ∀ {ps : List (Option Str)}, trStep esc (trUpto esc pat i) c = ps → trUpto esc pat (i + 1) = ps := fun e => (trUpto_succ esc pat i c hc).trans e
      have hlen := trUpto_len esc pat i (by omega)
      -- what an append leaves
      have leaf : ∀ {s₈ : Shared} {σ : List (Str × D)} {o : Option Str} {e : Expr} {pos apos npos : Pos} {W : Flow → Shared → Prop} {P' : Addr → Prop}, At s' env own (fun a => s.heap.get? a = none) σ s₈ → (∀ n d, σ.lookup n = some d → Flat d) → (∀ p ∈ trD pat a b (i + 1), σ.lookup p.1 = some p.2) →
          trStep esc (trUpto esc pat i) c = trUpto esc pat i ++ [o] → Evs prog w (A.deeper env) env s₈.heap P' [e] [optD o] → swapsWith (.Call (.Name (Str.ofString "add") npos) [e] [] apos) none pos.line env = pure false →
          (∀ s₉, At s env own (fun a => s.heap.get? a = none) (trD pat a b (i + 1)) s₉ → trR esc pat a b (i + 1) s₉.heap → W .next s₉) →
          Run prog w (A.deeper env) env [.Expr (.Call (.Name (Str.ofString "add") npos) [e] [] apos) pos] s₈ W := by
        intro s₈ σ o e pos apos npos W P' F₈ hf hpk hst x hsw q
        obtain ⟨hb, vs, hl, rr⟩ := r'.sub F₈.kp.sub
        have hvl : (Array.mk vs).size ≤ 10000 := by
          have := rr.length
          rw [List.length_map] at this
          simp only [List.size_toArray]
          omega
        refine run_add sc.kind (back _ _ _ F₈) hf hb hl hvl pa (hpk (Str.ofString "add", .raw (.ref b)) (by simp [trD])) (by decide +kernel) x (flat_optD o) ?_ hsw
        intro s₉ v F₉ hb hl rv
        refine run_nil (q _ (F₉.pick hpk) ⟨hb, vs ++ [v], by simpa using hl, ?_⟩)
        rw [done hst, List.map_append]
        exact (rr.flats (P' := None') (h' := s₉.heap)).snoc rv
      have flat7 : ∀ (n : Str) (d : D), List.lookup n ((Str.ofString "i", D.int (i + 1)) :: (Str.ofString "c", D.str ⟨#[c]⟩) :: trD pat a b i) = some d → Flat d := fun n d e => by
        have hm := mem_of_lookup e
        simp only [trD, List.mem_cons, List.not_mem_nil, or_false, Prod.mk.injEq] at hm
        rcases hm with ⟨_, rfl⟩ | ⟨_, rfl⟩ | ⟨_, rfl⟩ | ⟨_, rfl⟩ | ⟨_, rfl⟩ | ⟨_, rfl⟩ | ⟨_, rfl⟩ | ⟨_, rfl⟩ | ⟨_, rfl⟩ <;> constructor
      have pick7 : ∀ p ∈ trD pat a b (i + 1), List.lookup p.1 ((Str.ofString "i", D.int (i + 1)) :: (Str.ofString "c", D.str ⟨#[c]⟩) :: trD pat a b i) = some p.2 := by
        intro p hp
        simp only [trD, List.mem_cons, List.not_mem_nil, or_false] at hp
        rcases hp with rfl | rfl | rfl | rfl | rfl | rfl | rfl <;> rfl
      refine run_if F₇ (tr_cmp (ev_name nc) ev_str cmp_eq_str) (fun hb s₈ F₈ => ?_) (fun hb s₈ F₈ => ?_)
      · obtain ⟨_, vs, hl, rr⟩ := r'.sub F₈.kp.sub
        have nr : Nm prog w env s₈.heap (fun a => s.heap.get? a = none) (Str.ofString "res") (.plain ((trUpto esc pat i).map optD)) := (F₈.fr.nm (by rfl) (by decide +kernel)).list hl rr.flats pa
        have ns : Nm prog w env s₈.heap (fun a => s.heap.get? a = none) (Str.ofString "STAR") .none := F₈.fr.nm (by rfl) (by decide +kernel)
        have hml : ((trUpto esc pat i).map optD).length = (trUpto esc pat i).length := List.length_map _
        refine run_if F₈ (tr_or (a := (trUpto esc pat i).isEmpty) (b := ((trUpto esc pat i).getD ((trUpto esc pat i).length - 1) none).isSome) (Tr.cast (tr_not (tr_plain (Ev.weak (ev_name nr)) (truth_list (by rw [hml]; omega)))) (by simp)) (fun hne => ?_)) (fun hb' s₉ F₉ => ?_) (fun hb' s₉ F₉ => ?_)
        · have hpos : 0 < (trUpto esc pat i).length := by
            cases hh : trUpto esc pat i with
            | nil => rw [hh] at hne; cases hne
            | cons _ _ => simp
          refine tr_cmp (ev_item_neg (d := optD ((trUpto esc pat i).getD ((trUpto esc pat i).length - 1) none)) (Ev.weak (ev_name nr)) ev_neg (by decide) (by rw [hml]; omega) (by decide) ?_) (ev_name ns) cmp_isnot_none
          rw [hml, show (-1 + ((trUpto esc pat i).length : Int)).toNat = (trUpto esc pat i).length - 1 by omega]
          exact getD_map (by omega)
        · have ns : Nm prog w env s₉.heap (fun a => s.heap.get? a = none) (Str.ofString "STAR") .none := F₉.fr.nm (by rfl) (by decide +kernel)
          refine leaf (o := none) F₉ flat7 pick7 ?_ (evs_cons (ev_name ns) evs_nil) rfl ?_
          · unfold trStep; rw [if_pos hb, if_pos hb']
          · intro s₁₀ F r
            exact run_nil (run_nil ⟨rfl, F, r⟩)
        · refine run_nil (run_nil (run_nil ⟨rfl, (back _ _ _ F₉).pick pick7, ?_⟩))
          have := r'.sub F₉.kp.sub
          unfold trR at this ⊢
          rw [done (ps := trUpto esc pat i) (by unfold trStep; rw [if_pos hb, if_neg (by rw [hb']; decide)])]
          exact this
      · have nc : Nm prog w env s₈.heap (fun a => s.heap.get? a = none) (Str.ofString "c") (.str ⟨#[c]⟩) := F₈.fr.nm (by rfl) (by decide +kernel)
        refine run_if F₈ (tr_cmp (ev_name nc) ev_str cmp_eq_str) (fun hb2 s₉ F₉ => ?_) (fun hb2 s₉ F₉ => ?_)
        · have ns : Nm prog w env s₉.heap (fun a => s.heap.get? a = none) (Str.ofString "QUESTION_MARK") (.str "any") := F₉.fr.nm (by rfl) (by decide +kernel)
          refine leaf (o := some (Str.ofString "any")) F₉ flat7 pick7 ?_ (evs_cons (ev_name ns) evs_nil) rfl ?_
          · unfold trStep; rw [if_neg (by rw [hb]; decide), if_pos hb2]
          · intro s₁₀ F r
            exact run_nil (run_nil ⟨rfl, F, r⟩)
        · have nc : Nm prog w env s₉.heap (fun a => s.heap.get? a = none) (Str.ofString "c") (.str ⟨#[c]⟩) := F₉.fr.nm (by rfl) (by decide +kernel)
          have hbr : ((⟨#[c]⟩ : Str) == Str.ofString "[") = false := by
            have e : Str.ofString "[" = ⟨#[91]⟩ := by decide +kernel
            rw [e, beq_eq_false_iff_ne]
            intro e'
            have := congrArg Str.cps e'
            simp at this
            exact hcm.2 this
          refine run_if F₉ (tr_cmp (ev_name nc) ev_str cmp_eq_str) (fun hb3 => by rw [hbr] at hb3; cases hb3) (fun hb3 s₁₀ F₁₀ => ?_)
          have nc : Nm prog w env s₁₀.heap (fun a => s.heap.get? a = none) (Str.ofString "c") (.str ⟨#[c]⟩) := F₁₀.fr.nm (by rfl) (by decide +kernel)
          have hs₁₀ : Sub h s₁₀.heap := hs.trans (k₀.trans F₁₀.kp.sub)
          have G₁₀ := G.sub hs₁₀
          have ne : Nm prog w env s₁₀.heap (fun a => s.heap.get? a = none) (Str.ofString "escape") (.raw (.ref 67)) := G₁₀.nm sc _ (.ref 67) (by simp [gtab]) (.raw _) (by decide +kernel) (by decide +kernel)
          refine leaf (o := some ((esc c).getD ⟨#[c]⟩)) F₁₀ flat7 pick7 ?_ (evs_cons (ev_call (ev_name ne) (evs_cons (ev_name nc) evs_nil) (c_escape G₁₀ okd (fun prog w => (m prog w).sub hs₁₀) hcm.1 (he c)) (G₁₀.fv 8 67 (by simp [ftab]))) evs_nil) rfl ?_
          · unfold trStep; rw [if_neg (by rw [hb]; decide), if_neg (by rw [hb2]; decide)]
          · intro s₁₁ F r
            exact run_nil (run_nil (run_nil ⟨rfl, F, r⟩))
    · intro s₅ F₅ r₅
      have ni : Nm prog w env s₅.heap (fun a => s.heap.get? a = none) (Str.ofString "i") (.int pat.cps.size) := F₅.fr.nm (by rfl) (by decide +kernel)
      have nn : Nm prog w env s₅.heap (fun a => s.heap.get? a = none) (Str.ofString "n") (.int pat.cps.size) := F₅.fr.nm (by rfl) (by decide +kernel)
      refine run_assert F₅ (Tr.cast (tr_cmp (ev_name ni) (ev_name nn) cmp_eq_int) (by simp)) ?_
      intro s₆ F₆ k₆
      obtain ⟨_, vs, hl, rr⟩ := r₅.sub k₆.sub
      have nr : Nm prog w env s₆.heap (fun a => s.heap.get? a = none) (Str.ofString "res") (.plain ((trUpto esc pat pat.cps.size).map optD)) := (F₆.fr.nm (by rfl) (by decide +kernel)).list hl rr.flats pa
      have hall : trUpto esc pat pat.cps.size = trOf esc pat := by
        unfold trUpto trOf
        rw [List.take_of_length_le (by simp)]
      rw [hall] at nr
      exact run_ret F₆ (ev_name nr) (.inr fun a p => p)
end
end Mine
end

section
open PySem PySem.W PyProof.Rows
namespace Mine
/-- the table of filemode -/
def fmTab : List (List (Int × Str)) := [[(40960, "l"), (49152, "s"), (32768, "-"), (24576, "b"), (16384, "d"), (8192, "c"), (4096, "p")], [(256, "r")], [(128, "w")], [(2112, "s"), (2048, "S"), (64, "x")],
  [(32, "r")], [(16, "w")], [(1032, "s"), (1024, "S"), (8, "x")], [(4, "r")], [(2, "w")], [(513, "t"), (512, "T"), (1, "x")]]
def fmD : D := .tup (fmTab.map fun l => .tup (l.map fun p => .tup [.int p.1, .str p.2]))
def fmHit (mode : Int) (index : Nat) (p : Int × Str) : Bool := if index = 0 then Builtin.bitAnd mode 61440 == p.1 else Builtin.bitAnd mode p.1 == p.1
def fmSign (mode : Int) (index : Nat) (l : List (Int × Str)) : Str := match l.find? (fmHit mode index) with
  | some p => p.2
  | none => if index = 0 then "?" else "-"
def fmOf (mode : Int) : List Str := fmTab.zipIdx.map fun p => fmSign mode p.2 p.1

section
variable {prog : Program} {w : World} {A : Around} {s s₁ : Shared} {env : Env} {own : List (Str × Addr)} {P P' : Addr → Prop} {σ : List (Str × D)} {e : Expr} {rest : List Stmt} {pos apos npos cpos : Pos} {Q : Flow → Shared → Prop} {ls : Str}
theorem run_break (q : Q .brk s₁) : Run prog w A env (.Break pos :: rest) s₁ Q := ⟨fun E => wpAny_execs_cons (wpAny_Break q)⟩
/-- ls.append(e) -/
theorem run_append {a : Addr} {items : Array Value} {d : D} (sc : env.scope.kind = .function) (F : At s env own P σ s₁) (hP : ¬ P a) (hl : s₁.heap.PlainList a items) (hsz : items.size ≤ 10000) (ha : s.heap.get? a = none)
    (nl : σ.lookup ls = some (.raw (.ref a))) (hd : (ls == ("__debug__" : Str)) = false) (x : Evs prog w A env s₁.heap P' [e] [d]) (fd : Flat d)
    (next : ∀ s₂ v, At s env own P σ s₂ → s₂.heap.PlainList a (items.push v) → Rel None' s₂.heap v d → Run prog w A env rest s₂ Q)
    (hs : swapsWith (.Call (.Attribute (.Name ls npos) "append" apos) [e] [] cpos) none pos.line env = pure false := by rfl) {pl : Sem Bool}
    (he : eval (.Call (.Attribute (.Name ls npos) "append" apos) [e] [] cpos) env = (do
      let ov ← eval (.Name ls npos) env
      standAt apos.atName
      let (f, first) ← holding [ov] (getMethod ov "append" pl)
      callWith cpos f first (backTo cpos (starEach [e] env)) []) := by rfl) :
    Run prog w A env (.Expr (.Call (.Attribute (.Name ls npos) "append" apos) [e] [] cpos) pos :: rest) s₁ Q := by
  refine ⟨fun E => ?_⟩
  have nm : Nm prog w env s₁.heap P ls (.raw (.ref a)) := F.fr.nm nl hd
  have hi : interactive env = false := by unfold interactive; rw [sc]; rfl
  refine wpAny_execs_cons (wpAny_Expr_any ?_ hi hs)
  refine MethodCall_ (nm.val (fun _ _ e => e) ?_) he
  obtain ⟨n, ho⟩ := hl
  refine getMethod_builtin (T := "list") ⟨_, ho, rfl⟩ PySem.F.plainAttrs_list PySem.F.slot_list_append PySem.F.type_list_append (fun a h => by cases h; exact ⟨_, ho, rfl⟩) ?_
  refine PySem.Calls.callWith_builtin (x.1 cpos).1 (evalArgs_of x (fun _ _ e => e) fun vs s₂ k₂ r₂ => ?_)
  cases r₂ with
  | cons r rr =>
    cases rr
    refine wpAny_list_append_plain ⟨n, k₂.sub _ _ ho⟩ (fun h' hl' hsb => ?_) (by rw [sizeLine_eq]; omega)
    have F₂ := F.on k₂
    have na := F₂.notMine (b := a) (k₂.sub a _ ho) (by intro es ep h; cases h) (by intro v h; cases h)
    obtain ⟨⟨kd, m, cm, G, q⟩, sm⟩ := F₂
    have hk : ∀ c o, c ≠ a → s₂.heap.get? c = some o → h'.get? c = some o := fun c o hc e => hsb.extBut c o hc e
    have F₃ : At s env own P σ { s₂ with heap := h' } := by
      refine ⟨⟨kd, m, cm, ⟨G.ns.sameBut hsb fun e => na (mineA_mem.mpr (.inl e.symm)), fun c o e => hk c o (by rintro rfl; rw [ha] at e; cases e) (G.keep c o e), G.fresh, fun n c e => (G.cell n c e).sameBut hsb fun e' => na (mineA_mem.mpr (.inr (.inl ⟨n, e' ▸ e⟩))), G.look, G.apart, G.above⟩, fun n d e => ?_⟩, let ⟨h, tk, e⟩ := sm; ⟨h', tk, by rw [e]⟩⟩
      obtain ⟨v, r, H⟩ := q n d e
      exact ⟨v, r.turn fun c pc _ => ⟨pc, fun o e _ => hk c o (by rintro rfl; exact hP pc) e⟩, H⟩
    exact (next _ _ F₃ hl' (r.flat fd)).run E
end
end Mine
end

section
open PySem PySem.W PyProof.Rows
namespace Mine

/-- the table stands in the old heap -/
def TabAt (h : Heap) : Prop := Rel Any h (.ref 114) fmD
def rowD (l : List (Int × Str)) : D := .tup (l.map fun p => .tup [.int p.1, .str p.2])
def fmR (a : Addr) (mode : Int) (i : Nat) (h : Heap) : Prop := ∃ vs, h.PlainList a (Array.mk vs) ∧ RelAll None' h vs (((fmOf mode).take i).map .str)
theorem RelAll.strs {vs : List Value} {ps : List Str} {P P' : Addr → Prop} {h h' : Heap} (r : RelAll P h vs (ps.map .str)) : RelAll P' h' vs (ps.map .str) := by
  induction ps generalizing vs with
  | nil => cases r; exact .nil
  | cons p ps ih =>
    cases r with
    | cons a r => exact .cons (a.flat (.str p)) (ih r)
theorem fm_short : ∀ l ∈ fmTab, ∀ p ∈ l, p.2.length = 1 := by decide +kernel
theorem fmSign_short (mode : Int) (i : Nat) (l : List (Int × Str)) (hl : l ∈ fmTab) : (fmSign mode i l).length = 1 := by
  unfold fmSign
  cases h : l.find? (fmHit mode i) with
  | some p => exact fm_short l hl p (List.mem_of_find?_eq_some h)
  | none => show (if i = 0 then Str.ofString "?" else Str.ofString "-").length = 1; split <;> decide +kernel
def fmD0 (mode : Int) (a : Addr) : List (Str × D) := [(Str.ofString "mode", .int mode), (Str.ofString "perm", .raw (.ref a))]
def fmD1 (mode : Int) (a : Addr) (i : Nat) (l : List (Int × Str)) : List (Str × D) := [(Str.ofString "index", .int i), (Str.ofString "table", rowD l), (Str.ofString "mode", .int mode), (Str.ofString "perm", .raw (.ref a))]
section
variable {prog : Program} {w : World} {A : Around} {h : Heap}
theorem c_filemode (G : Gm h) (tb : TabAt h) {k : Nat} (ok : Okay A (k + 2)) (mode : Int) :
    Calls prog w A h (.ref 121) [.int mode] (.str (Txt.join "" (fmOf mode))) := by
  refine calls_fn (G.f 33 121 (by simp [ftab])) (k := k + 1) ok [Str.ofString "mode"] ?_ rfl (by decide +kernel) (by decide +kernel) (by decide +kernel) (fun s a => s.heap.get? a = none) (fun s _ => .inl fun d hd => by simp at hd; subst hd; constructor) ?_
  · intro name pm code doc vs hl
    match vs, hl with
    | [a], _ => rfl
  · intro s env s₁ own hs sc ec st F okd
    have shut : Shut s₁ (fun a => s.heap.get? a = none) := fun a e => by
      cases e' : s.heap.get? a with
      | none => exact e'
      | some o => rw [F.kp.sub a o e'] at e; cases e
    refine run_assign (d := .plain []) F (ev_list evs_nil (Nat.zero_le _)) (.inr shut) (st _ (by decide +kernel)) rfl ?_
    intro s₂ F₂
    obtain ⟨a, vs, hl, rr, pa, F₂⟩ := F₂.raw (n := Str.ofString "perm") (ds := []) (by rfl)
    cases rr
    have F₂ : At s env own (fun x => x ≠ a) (fmD0 mode a) s₂ := ⟨(F₂.pick (σ' := fmD0 mode a) (by
      intro p hp
      simp only [fmD0, List.mem_cons, List.not_mem_nil, or_false] at hp
      rcases hp with rfl | rfl <;> rfl)).fr.flatP (by
      intro n d e
      have hm := mem_of_lookup e
      simp only [fmD0, List.mem_cons, List.not_mem_nil, or_false, Prod.mk.injEq] at hm
      rcases hm with ⟨_, rfl⟩ | ⟨_, rfl⟩ <;> constructor), F₂.same⟩
    have nm₂ : a ∉ mineA env own [] := by obtain ⟨n, hl⟩ := hl; exact F₂.notMine hl (by intro es ep h; cases h) (by intro v h; cases h)
    have miss : a ≠ env.locals ∧ ∀ n, own.lookup n ≠ some a := ⟨fun e => nm₂ (mineA_mem.mpr (.inl e)), fun n e => nm₂ (mineA_mem.mpr (.inr (.inl ⟨n, e⟩)))⟩
    have G₂ := G.sub (hs.trans F₂.kp.sub)
    have ne : Nm prog w env s₂.heap (fun x => x ≠ a) (Str.ofString "enumerate") (.raw (.type "enumerate")) := G₂.nmb sc _ _ (by simp [btab]) (by decide +kernel) (by decide +kernel)
    have rt : Rel (fun x => x ≠ a) s₂.heap (.ref 114) fmD := ((Rel.inn (P := Any) tb).imp fun x q e => by
      subst e
      obtain ⟨o, e⟩ := q.2
      rw [hs _ _ e] at pa; cases pa).sub (hs.trans F₂.kp.sub)
    have nt : Nm prog w env s₂.heap (fun x => x ≠ a) (Str.ofString "_filemode_table") fmD := G₂.nm sc _ (.ref 114) (by simp [gtab]) rt (by decide +kernel) (by decide +kernel)
    refine run_for okd.hh (fun _ => fmD0 mode a) (fmR a mode) (fmD0 mode a) (fmR a mode 10) [a] F₂ ⟨[], hl, .nil⟩
      (fun x hx => by rw [List.mem_singleton.mp hx]; exact ⟨pa, by obtain ⟨n, hl⟩ := hl; exact ⟨_, hl⟩, fun h => h rfl, miss.1, miss.2⟩)
      (fun i h h' r k => by obtain ⟨vs, ⟨n, hl⟩, rr⟩ := r; exact ⟨vs, ⟨n, k a (List.mem_singleton.mpr rfl) _ hl⟩, rr.strs⟩)
      (fun i h r x hx => by rw [List.mem_singleton.mp hx]; obtain ⟨vs, ⟨n, hl⟩, rr⟩ := r; exact ⟨_, hl⟩)
      (fun x e => by rintro rfl; obtain ⟨n, hl⟩ := hl; rw [hl] at e; cases e)
      (feeds_enum (as := fmTab.map rowD) okd.hh (ev_name ne) (ev_name nt)) (fun x hx => by
        simp only [List.mem_cons, List.not_mem_nil, or_false] at hx
        rcases hx with rfl | rfl <;> exact st _ (by decide +kernel)) ?_ (fun s₃ F₃ r _ => run_nil ⟨rfl, F₃, r⟩) ?_
    · intro i ds s' s₃ P' hds hsub hp hsh hX F₃ r₃
      rw [List.getElem?_map, List.getElem?_zipIdx, List.getElem?_map] at hds
      cases hl : fmTab[i]? with
      | none => rw [hl] at hds; cases hds
      | some l =>
      rw [hl] at hds
      have hds : ds = [.int (i : Nat), rowD l] := by simpa using hds.symm
      subst hds
      have hlm : l ∈ fmTab := List.mem_of_getElem? hl
      have hi : i < 10 := by have := (List.getElem?_eq_some_iff.mp hl).1; exact this
      have hfm : (fmOf mode)[i]? = some (fmSign mode i l) := by
        unfold fmOf
        rw [List.getElem?_map, List.getElem?_zipIdx, hl]
        simp
      have nt : Nm prog w env s₃.heap P' (Str.ofString "table") (rowD l) := F₃.fr.nm (by rfl) (by decide +kernel)
      have hPa : ¬ P' a := fun h => hp a h rfl
      have inA : ∀ {h : Heap}, fmR a mode i h → In h a := fun r => by obtain ⟨vs, ⟨n, hl⟩, rr⟩ := r; exact ⟨_, hl⟩
      -- a sign appended: the next turn's list
      have push : ∀ {h h' : Heap} {vs : List Value} {v : Value} {x : Str}, h.PlainList a (Array.mk (vs ++ [v])) → RelAll None' h' vs (((fmOf mode).take i).map .str) → Rel None' h v (.str x) → x = fmSign mode i l → fmR a mode (i + 1) h := by
        intro h h' vs v x hl rr rv e
        subst e
        refine ⟨_, hl, ?_⟩
        rw [List.take_add_one, hfm, List.map_append]
        exact (rr.strs (P' := None') (h' := h)).snoc rv
      have live : In s₃.heap a := inA r₃
      have F₃' : At s' env own P' (fmD1 mode a i l) s₃ := F₃.pick (by
        intro p hp
        simp only [fmD1, List.mem_cons, List.not_mem_nil, or_false] at hp
        rcases hp with rfl | rfl | rfl | rfl <;> rfl)
      refine run_for okd.hh (fun _ => fmD1 mode a i l) (fun j h => fmR a mode i h ∧ (l.take j).find? (fmHit mode i) = none) (fmD0 mode a) (fmR a mode (i + 1)) [a] F₃' ⟨r₃, by simp⟩
        (fun x hx => by rw [List.mem_singleton.mp hx]; exact ⟨hX a (List.mem_singleton.mpr rfl), live, hPa, miss.1, miss.2⟩)
        (fun j h h' r k => by obtain ⟨⟨vs, ⟨n, hl⟩, rr⟩, e⟩ := r; exact ⟨⟨vs, ⟨n, k a (List.mem_singleton.mpr rfl) _ hl⟩, rr.strs⟩, e⟩)
        (fun j h r x hx => by rw [List.mem_singleton.mp hx]; exact inA r.1)
        (hsh s₃ _ F₃ fun x hx => by rw [List.mem_singleton.mp hx]; exact live)
        (feeds_pairs (as := l.map fun p => (D.int p.1, D.str p.2)) okd.hh (Ev.cast (ev_name nt) (by unfold rowD; rw [List.map_map]; rfl))) (fun x hx => by
          simp only [List.mem_cons, List.not_mem_nil, or_false] at hx
          rcases hx with rfl | rfl <;> exact st _ (by decide +kernel)) ?_ (fun s₄ F₄ r₄ hsh₄ => ?_) (fun s₄ F₄ r₄ => run_nil ⟨F₄, r₄⟩)
      · intro j ds s'' s₄ P'' hds hsub' hp' hsh' hX' F₄ r₄
        rw [List.getElem?_map, List.getElem?_map] at hds
        cases hj : l[j]? with
        | none => rw [hj] at hds; cases hds
        | some p =>
        rw [hj] at hds
        cases hds
        have hPa' : ¬ P'' a := fun h => hPa (hp' a h)
        have ha' : s''.heap.get? a = none := hX' a (List.mem_singleton.mpr rfl)
        have miss1 : fmHit mode i p = false → (l.take (j + 1)).find? (fmHit mode i) = none := fun e => by
          rw [List.take_add_one, hj, List.find?_append, r₄.2]
          simp [e]
        have hit1 : fmHit mode i p = true → p.2 = fmSign mode i l := fun e => by
          have hf : l.find? (fmHit mode i) = some p := by
            have e2 : l = l.take j ++ p :: l.drop (j + 1) := by
              have h3 : l.drop j = p :: l.drop (j + 1) := by
                obtain ⟨hlt, hp⟩ := List.getElem?_eq_some_iff.mp hj
                rw [List.drop_eq_getElem_cons hlt, hp]
              rw [← h3, List.take_append_drop]
            rw [e2, List.find?_append, r₄.2]
            simp [e]
          unfold fmSign
          rw [hf]
        obtain ⟨sb, F₄', k₀, up, back⟩ := F₄.lift
        have rl : fmR a mode i sb.heap := by
          obtain ⟨⟨vs, ⟨n, hl⟩, rr⟩, _⟩ := r₄
          exact ⟨vs, ⟨n, up _ _ hl (F₄.notMine hl (by intro es ep h; cases h) (by intro v h; cases h))⟩, rr.strs⟩
        have inh : ∀ {s₅ : Shared} {σ : List (Str × D)}, At sb env own P'' σ s₅ → fmR a mode i s₅.heap := fun F => by
          obtain ⟨vs, ⟨n, hl⟩, rr⟩ := rl
          exact ⟨vs, ⟨n, F.kp.sub _ _ hl⟩, rr.strs⟩
        have leaf : ∀ {s₅ : Shared} {W : Flow → Shared → Prop} {pos cpos apos npos ppos bpos : Pos} {pl : Sem Bool}, fmHit mode i p = true → At sb env own P'' ((List.zip [Str.ofString "bit", Str.ofString "char"] [D.int p.1, D.str p.2]).reverse ++ fmD1 mode a i l) s₅ →
            (∀ s₆, At s'' env own P'' (fmD0 mode a) s₆ → fmR a mode (i + 1) s₆.heap → W .brk s₆) →
            (eval (.Call (.Attribute (.Name (Str.ofString "perm") npos) "append" apos) [.Name (Str.ofString "char") ppos] [] cpos) env = (do
              let ov ← eval (.Name (Str.ofString "perm") npos) env
              standAt apos.atName
              let (f, first) ← holding [ov] (getMethod ov "append" pl)
              callWith cpos f first (backTo cpos (starEach [.Name (Str.ofString "char") ppos] env)) [])) → swapsWith (.Call (.Attribute (.Name (Str.ofString "perm") npos) "append" apos) [.Name (Str.ofString "char") ppos] [] cpos) none pos.line env = pure false →
            Run prog w (A.deeper env) env [.Expr (.Call (.Attribute (.Name (Str.ofString "perm") npos) "append" apos) [.Name (Str.ofString "char") ppos] [] cpos) pos, .Break bpos] s₅ W := by
          intro s₅ W pos cpos apos npos ppos bpos pl hit F₅ q he hsw
          obtain ⟨vs, hl, rr⟩ := inh F₅
          have F₅ := back _ _ _ F₅
          have nc : Nm prog w env s₅.heap P'' (Str.ofString "char") (.str p.2) := F₅.fr.nm (by rfl) (by decide +kernel)
          have hsz : (Array.mk vs).size ≤ 10000 := by
            have := rr.length
            rw [List.length_map, List.length_take] at this
            simp only [List.size_toArray]
            omega
          refine run_append sc.kind F₅ hPa' hl hsz ha' (by rfl) (by decide +kernel) (evs_cons (ev_name nc) evs_nil) (.str _) ?_ hsw he
          intro s₆ v F₆ hl₆ rv
          refine run_break (q _ (F₆.pick ?_) (push (by simpa using hl₆) rr rv (hit1 hit)))
          intro p hp
          simp only [fmD0, List.mem_cons, List.not_mem_nil, or_false] at hp
          rcases hp with rfl | rfl <;> rfl
        have off : ∀ {s₅ : Shared}, fmHit mode i p = false → At sb env own P'' ((List.zip [Str.ofString "bit", Str.ofString "char"] [D.int p.1, D.str p.2]).reverse ++ fmD1 mode a i l) s₅ → At s'' env own P'' (fmD1 mode a i l) s₅ ∧ (fmR a mode i s₅.heap ∧ (l.take (j + 1)).find? (fmHit mode i) = none) := fun e F => ⟨(back _ _ _ F).pick (by
          intro p hp
          simp only [fmD1, List.mem_cons, List.not_mem_nil, or_false] at hp
          rcases hp with rfl | rfl | rfl | rfl <;> rfl), inh F, miss1 e⟩
        have ni : Nm prog w env s₄.heap P'' (Str.ofString "index") (.int (i : Nat)) := F₄'.fr.nm (by rfl) (by decide +kernel)
        refine run_if F₄' (tr_cmp (ev_name ni) ev_int cmp_eq_int) (fun hb s₅ F₅ => ?_) (fun hb s₅ F₅ => ?_)
        · have hi0 : i = 0 := by simpa using hb
          have G₅ := G.sub (hs.trans (hsub.trans (hsub'.trans (k₀.trans F₅.kp.sub))))
          have nm : Nm prog w env s₅.heap P'' (Str.ofString "mode") (.int mode) := F₅.fr.nm (by rfl) (by decide +kernel)
          have nb : Nm prog w env s₅.heap P'' (Str.ofString "bit") (.int p.1) := F₅.fr.nm (by rfl) (by decide +kernel)
          have nf : Nm prog w env s₅.heap P'' (Str.ofString "S_IFMT") (.raw (.ref 81)) := G₅.nm sc _ (.ref 81) (by simp [gtab]) (.raw _) (by decide +kernel) (by decide +kernel)
          refine run_if F₅ (b := fmHit mode i p) (Tr.cast (tr_cmp (ev_call (ev_name nf) (evs_cons (ev_name nm) evs_nil) (c_ifmt G₅ okd mode) (G₅.fv 12 81 (by simp [ftab]))) (ev_name nb) cmp_eq_int) (by unfold fmHit; rw [if_pos hi0])) (fun hh s₆ F₆ => ?_) (fun hh s₆ F₆ => ?_)
          · exact leaf hh F₆ (fun s₇ F₇ r₇ => ⟨F₇, r₇⟩) (by rfl) (by rfl)
          · exact run_nil (run_nil (run_nil (off hh F₆)))
        · have hi0 : i ≠ 0 := by rintro rfl; simp at hb
          have nm : Nm prog w env s₅.heap P'' (Str.ofString "mode") (.int mode) := F₅.fr.nm (by rfl) (by decide +kernel)
          have nb : Nm prog w env s₅.heap P'' (Str.ofString "bit") (.int p.1) := F₅.fr.nm (by rfl) (by decide +kernel)
          refine run_if F₅ (b := fmHit mode i p) (Tr.cast (tr_cmp (ev_and_int (ev_name nm) (ev_name nb)) (ev_name nb) cmp_eq_int) (by unfold fmHit; rw [if_neg hi0])) (fun hh s₆ F₆ => ?_) (fun hh s₆ F₆ => ?_)
          · exact leaf hh F₆ (fun s₇ F₇ r₇ => ⟨F₇, r₇⟩) (by rfl) (by rfl)
          · exact run_nil (run_nil (run_nil (off hh F₆)))
      · obtain ⟨sb, F₄', k₀, up, back⟩ := F₄.lift
        have rl : fmR a mode i sb.heap := by
          obtain ⟨⟨vs, ⟨n, hl⟩, rr⟩, _⟩ := r₄
          exact ⟨vs, ⟨n, up _ _ hl (F₄.notMine hl (by intro es ep h; cases h) (by intro v h; cases h))⟩, rr.strs⟩
        have inh : ∀ {s₅ : Shared} {σ : List (Str × D)}, At sb env own P' σ s₅ → fmR a mode i s₅.heap := fun F => by
          obtain ⟨vs, ⟨n, hl⟩, rr⟩ := rl
          exact ⟨vs, ⟨n, F.kp.sub _ _ hl⟩, rr.strs⟩
        have hnone : l.find? (fmHit mode i) = none := by
          have := r₄.2
          rwa [List.take_of_length_le (by simp)] at this
        have ha' : s'.heap.get? a = none := hX a (List.mem_singleton.mpr rfl)
        have leaf : ∀ {s₅ : Shared} {W : Flow → Shared → Prop} {pos cpos apos npos ppos : Pos} {kk : Nat} {x : Str} {pl : Sem Bool}, x = fmSign mode i l → At sb env own P' (fmD1 mode a i l) s₅ →
            (∀ s₆, At s' env own P' (fmD0 mode a) s₆ → fmR a mode (i + 1) s₆.heap → W .next s₆) →
            (eval (.Call (.Attribute (.Name (Str.ofString "perm") npos) "append" apos) [.Constant (.str x) kk ppos] [] cpos) env = (do
              let ov ← eval (.Name (Str.ofString "perm") npos) env
              standAt apos.atName
              let (f, first) ← holding [ov] (getMethod ov "append" pl)
              callWith cpos f first (backTo cpos (starEach [.Constant (.str x) kk ppos] env)) [])) → swapsWith (.Call (.Attribute (.Name (Str.ofString "perm") npos) "append" apos) [.Constant (.str x) kk ppos] [] cpos) none pos.line env = pure false →
            Run prog w (A.deeper env) env [.Expr (.Call (.Attribute (.Name (Str.ofString "perm") npos) "append" apos) [.Constant (.str x) kk ppos] [] cpos) pos] s₅ W := by
          intro s₅ W pos cpos apos npos ppos kk x pl hit F₅ q he hsw
          obtain ⟨vs, hl, rr⟩ := inh F₅
          have F₅ := back _ _ _ F₅
          have hsz : (Array.mk vs).size ≤ 10000 := by
            have := rr.length
            rw [List.length_map, List.length_take] at this
            simp only [List.size_toArray]
            omega
          refine run_append (P' := P') sc.kind F₅ hPa hl hsz ha' (by rfl) (by decide +kernel) (evs_cons ev_str evs_nil) (.str _) ?_ hsw he
          intro s₆ v F₆ hl₆ rv
          refine run_nil (q _ (F₆.pick ?_) (push (by simpa using hl₆) rr rv hit))
          intro p hp
          simp only [fmD0, List.mem_cons, List.not_mem_nil, or_false] at hp
          rcases hp with rfl | rfl <;> rfl
        have ni : Nm prog w env s₄.heap P' (Str.ofString "index") (.int (i : Nat)) := F₄'.fr.nm (by rfl) (by decide +kernel)
        refine run_if F₄' (tr_cmp (ev_name ni) ev_int cmp_eq_int) (fun hb s₅ F₅ => ?_) (fun hb s₅ F₅ => ?_)
        · have hi0 : i = 0 := by simpa using hb
          exact leaf (by unfold fmSign; rw [hnone]; exact (if_pos hi0).symm) F₅ (fun s₆ F₆ r₆ => run_nil ⟨rfl, F₆, r₆⟩) (by rfl) (by rfl)
        · have hi0 : i ≠ 0 := by rintro rfl; simp at hb
          exact leaf (by unfold fmSign; rw [hnone]; exact (if_neg hi0).symm) F₅ (fun s₆ F₆ r₆ => run_nil ⟨rfl, F₆, r₆⟩) (by rfl) (by rfl)
    · intro s₃ F₃ r₃
      obtain ⟨vs, hl, rr⟩ := r₃
      rw [List.take_of_length_le (by unfold fmOf; simp [fmTab])] at rr
      have np : Nm prog w env s₃.heap (fun _ => True) (Str.ofString "perm") (.plain ((fmOf mode).map .str)) := Nm.list ((F₃.fr.imp (P' := fun _ => True) fun _ _ => trivial).nm (by rfl) (by decide +kernel)) hl rr.strs trivial
      refine run_ret (P := Any) ⟨F₃.fr.imp fun _ _ => trivial, F₃.same⟩ (ev_meth ev_str meth_join (evs_cons (Ev.weak (ev_name np)) evs_nil) (calls_join (joinOk_small (by decide +kernel) (by unfold fmOf; simp [fmTab]) fun x hx => ?_))) (.inl (.str _))
      have : x.length ≤ 1 := by
        unfold fmOf at hx
        obtain ⟨p, hp, rfl⟩ := List.mem_map.mp hx
        rw [fmSign_short mode p.2 p.1 (by obtain ⟨_, _, e⟩ := List.mem_zipIdx hp; rw [e]; exact List.getElem_mem _)]
        omega
      omega
end
end Mine
end

section
open PySem PySem.W PyProof.Rows
namespace Mine

theorem zip_maps {α β γ : Type} (l : List α) (f : α → β) (g : α → γ) : (l.map f).zip (l.map g) = l.map fun a => (f a, g a) := by
  induction l with
  | nil => rfl
  | cons a l ih => rw [List.map_cons, List.map_cons, List.zip_cons_cons, ih]; rfl
theorem RelAll.mapW {α : Type} {f g : α → D} {P : Addr → Prop} {h : Heap} (hw : ∀ v a, Rel P h v (f a) → Rel P h v (g a)) : ∀ {vs : List Value} {as : List α}, RelAll P h vs (as.map f) → RelAll P h vs (as.map g)
  | _, [], r => by cases r; exact .nil
  | _, a :: as, r => by
    cases r with
    | cons x r => exact .cons (hw _ _ x) (RelAll.mapW hw r)
theorem Rel.weak2 {α : Type} {f : α → List D} {P : Addr → Prop} {h : Heap} {v : Value} {as : List α} (r : Rel P h v (.plain (as.map fun a => .plain (f a)))) : Rel P h v (.list (as.map fun a => .list (f a))) := by
  cases r with
  | plain pa p rr => exact .list pa p.isList (rr.mapW fun v a r => r.weak)
theorem RelAll.at {α : Type} {f : α → D} {P : Addr → Prop} {h : Heap} {vs : List Value} {as : List α} (r : RelAll P h vs (as.map f)) {k : Nat} {a : α} (e : as[k]? = some a) : ∃ v, vs[k]? = some v ∧ Rel P h v (f a) := r.get (by rw [List.getElem?_map, e]; rfl)

section
variable {prog : Program} {w : World} {A : Around} {env : Env} {h : Heap} {P : Addr → Prop} {elt iter tgt : Expr} {scope : Scope} {pos : Pos} {names0 : List (Str × NameKind)} {xs ks : List Str} {φ : List (Str × D)}
  {α : Type} {items : List α} {b : α → List D} {f : α → D}
theorem Ev.weak2 {β : Type} {f : β → List D} {as : List β} {e : Expr} (x : Ev prog w A env h P e (.plain (as.map fun a => .plain (f a)))) : Ev prog w A env h P e (.list (as.map fun a => .list (f a))) :=
  ⟨fun s Q E k q => x.run s Q E k fun v s' k' r => q v s' k' r.weak2⟩

/-- what is to be shown of a comprehension's turn, where no test stands -/
def BodyA (prog : Program) (w : World) (A : Around) (h : Heap) (names : List (Str × NameKind)) (φ : List (Str × D)) (xs : List Str) (elt : Expr) {α : Type} (items : List α) (b : α → List D) (f : α → D) : Prop :=
  ∀ (cenv : Env) (h' : Heap) (P' : Addr → Prop) (a : α), a ∈ items → Sub h h' → Sc cenv names →
    (∀ n d, names.lookup n = some .free → φ.lookup n = some d → Nm prog w cenv h' P' n d ∧ Cl cenv h' P' n d) →
    (∀ n d, (xs.zip (b a)).lookup n = some d → Nm prog w cenv h' P' n d ∧ (names.lookup n = some .cell → Cl cenv h' P' n d)) →
    Ev prog w A cenv h' P' elt (f a)
theorem BodyA.body (x : BodyA prog w A h scope.names φ xs elt items b f) : Body prog w A h scope.names φ xs elt [] items b (fun _ => true) f :=
  fun cenv h' P' a ha hs sc nf nb => ⟨trs_nil, fun _ => x cenv h' P' a ha hs sc nf nb⟩
theorem compA (ks : List Str) (b : α → List D) (hh : A.handled = none) (sc : Sc env names0) (fr : Frees env h P φ) (hks : φ.map (·.1) = ks) (feeds : Feeds prog w A env h P iter tgt xs (items.map b)) (shape : Shape scope xs ks = true)
    (hlen : ∀ a ∈ items, (b a).length = xs.length) (hsz : items.length ≤ 1000)
    (body : BodyA prog w A h scope.names φ xs elt items b f)
    (hs : ∀ x, foldedSetIterable iter env x = pure x := by intro _; rfl) :
    Ev prog w A env h P (.ListComp elt [⟨tgt, iter, [], 0⟩] scope pos) (.plain (items.map f)) :=
  Ev.cast (comp hh sc fr hks feeds shape hlen hsz body.body hs) (by rw [all_filter])
theorem run_assign_compA {s s₁ : Shared} {own : List (Str × Addr)} {σ : List (Str × D)} {rest : List Stmt} {Q : Flow → Shared → Prop} {y : Str} {py spos : Pos} (ks : List Str) (b : α → List D)
    (F : At s env own P σ s₁) (hp : Shut s₁ P) (st : Stores env own y)
    (sw : swapsWith (.ListComp elt [⟨tgt, iter, [], 0⟩] scope pos) (some (.Name y py)) spos.line env = pure true)
    (hh : A.handled = none) (sc : Sc env names0) (fr : Frees env s₁.heap P φ) (hks : φ.map (·.1) = ks) (feeds : Feeds prog w A env s₁.heap P iter tgt xs (items.map b)) (shape : Shape scope xs ks = true)
    (hlen : ∀ a ∈ items, (b a).length = xs.length) (hsz : items.length ≤ 1000)
    (body : BodyA prog w A s₁.heap scope.names φ xs elt items b f)
    (next : ∀ s₂, At s env own P ((y, .plain (items.map f)) :: σ) s₂ → Run prog w A env rest s₂ Q)
    (hs : ∀ x, foldedSetIterable iter env x = pure x := by intro _; rfl) :
    Run prog w A env (.Assign [.Name y py] (.ListComp elt [⟨tgt, iter, [], 0⟩] scope pos) spos :: rest) s₁ Q :=
  run_assign_comp F hp st sw (Shape.ok shape).1 hh sc feeds (fun n d _ e => fr n d e) (FreeOk.use hks (Shape.ok shape).2) hlen hsz body.body (fun s₂ F₂ => by rw [all_filter] at F₂; exact next s₂ F₂) hs
end

/-! the law's data -/
def numbersOf (xs : List Int) : List Int := xs.take 3 ++ [1640373, 1712128, 131073]
def rowOf (z : Int) : Str := (Txt.join "" (fmOf (numberOf z)) ++ Str.ofString " ") ++ Txt.lower (hostOf z)
def sgOf (z : Int) : List Str := signsOf (numberOf z)
def rulOf (x y : Int) : Str := ruleOf x (hostOf y)
def patOf (x y : Int) : Str := patternOf x (sgOf y) (rulOf x y)
def alikeB (x : Int) (one sg : List Str) : Bool := decide (((List.range 10).filter fun (k : Nat) => bitOf x k && (one.getD k "" != sg.getD k "")).map (fun (k : Nat) => Int.ofNat k) = [])
def partsD (fs : List Str) : Option (List Str) → List (Option Str)
  | none => fs.map some
  | some es => starP fs es
def takesP (fs : List Str) (o : Option (List Str)) (row : Str) : Bool := match o with
  | none => ((fs.length : Int) == row.length) && fitB fs (signs row)
  | some es => decide ((fs.length : Int) + es.length ≤ row.length) && (fitB fs (signs row) && fitB es (signs (Txt.slice row (some ((row.length : Int) - es.length)) none)))

/-- what the law's walk asks of the plain data -/
structure PlainOk (esc : Nat → Option Str) (fs : Int → Int → List Str) (es : Int → Int → Option (List Str)) : Prop where
  h1 : ∀ x, goodCut (hostOf x) = true
  h2 : ∀ x, goodCut (Txt.lower (hostOf x)) = true
  h3 : ∀ x, failsB (Txt.lower (hostOf x)) = true
  r1 : ∀ x y, (rulOf x y).length ≤ 1000
  r2 : ∀ x y, goodCut (Txt.lower (rulOf x y)) = true
  r3 : ∀ x y, failsB (Txt.lower (rulOf x y)) = true
  s1 : ∀ z, ∀ a ∈ sgOf z, a.length ≤ 50
  p1 : ∀ x y, (patOf x y).length ≤ 500
  p2 : ∀ x y c, c ∈ (patOf x y).cps.toList → c < 128 ∧ c ≠ 91
  p3 : ∀ x y, trOf esc (patOf x y) = partsD (fs x y) (es x y)
  p4 : ∀ x y, (fs x y).length ≤ 400 ∧ ∀ e, es x y = some e → e.length ≤ 400
  w1 : ∀ z, (Txt.join "" (fmOf (numberOf z))).length = 10
  w2 : ∀ z, signs (Txt.slice (rowOf z) none (some 10)) = sgOf z
  m : ∀ x y z, matchB (hostOf z) (rulOf x y) = namedB (hostOf z) (rulOf x y)
  t : ∀ x y z, takesP (fs x y) (es x y) (rowOf z) = (alikeB x (sgOf z) (sgOf y) && namedB (hostOf z) (rulOf x y))

theorem number_kind (x : Int) : (numberOf x).fdiv 4096 * 4096 = 32768 ∨ (numberOf x).fdiv 4096 * 4096 = 16384 ∨ (numberOf x).fdiv 4096 * 4096 = 40960 ∨ (numberOf x).fdiv 4096 * 4096 = 49152 := by
  unfold numberOf
  obtain ⟨h1, h2⟩ := fmod_lt x (b := 4) (by decide)
  obtain ⟨h3, h4⟩ := fmod_lt (x.fdiv 4) (b := 4096) (by decide)
  generalize (x.fdiv 4).fmod 4096 = m at *
  have h5 : (x.fmod 4).toNat < 4 := by omega
  generalize (x.fmod 4).toNat = k at *
  have e : ∀ a : Int, a.fdiv 4096 = a / 4096 := fun a => Int.fdiv_eq_ediv_of_nonneg a (by decide)
  rw [e]
  match k, h5 with
  | 0, _ => show (32768 + m) / 4096 * 4096 = _ ∨ _; omega
  | 1, _ => show (16384 + m) / 4096 * 4096 = _ ∨ (16384 + m) / 4096 * 4096 = _ ∨ _; omega
  | 2, _ => show (40960 + m) / 4096 * 4096 = _ ∨ (40960 + m) / 4096 * 4096 = _ ∨ (40960 + m) / 4096 * 4096 = _ ∨ _; omega
  | 3, _ => show (49152 + m) / 4096 * 4096 = _ ∨ (49152 + m) / 4096 * 4096 = _ ∨ (49152 + m) / 4096 * 4096 = _ ∨ (49152 + m) / 4096 * 4096 = _; omega

section
variable {prog : Program} {w : World} {A : Around} {h : Heap}
theorem c_takes (G : Gm h) {k : Nat} (ok : Okay A (k + 3)) (fs : List Str) (o : Option (List Str)) (row : Str) (hf : fs.length ≤ 400) (he : ∀ e, o = some e → e.length ≤ 400) (hr : row.length ≤ 1000) :
    Calls prog w A h (.ref 157) [.plain ((partsD fs o).map optD), .str row] (.bool (takesP fs o row)) := by
  cases o with
  | none => exact c_takes1 G ok fs row (by omega) hr
  | some es => exact c_takes2 G ok fs es row hf (he es rfl) hr
end
end Mine
end

section
open PySem PySem.W PyProof.Rows
namespace Mine
/-- a list of lists -/
abbrev DL2 {α : Type} (f : α → D) (xss : List (List α)) : D := .list (xss.map fun (l : List α) => D.list (l.map f))
section
variable {prog : Program} {w : World} {A : Around} {h : Heap}
theorem c_law (G : Gm h) (tb : TabAt h) (re : ReAt h) {esc : Nat → Option Str} (mp : ∀ prog w, MapAt prog w h esc) (he : ∀ c x, esc c = some x → x.length = 2) {fs : Int → Int → List Str} {es : Int → Int → Option (List Str)} (pf : PlainOk esc fs es)
    {k : Nat} (ok : Okay A (k + 6)) (xs : List Int) (hxs : xs.length ≤ 63) :
    Calls prog w A h (.ref 176) [.list (xs.map .int)] (.bool true) := by
  refine calls_fn (G.f 43 176 (by simp [ftab])) (k := k + 5) ok [Str.ofString "script"] ?_ rfl (by decide +kernel) (by decide +kernel) (by decide +kernel) (fun _ => Any) (fun s _ => .inr fun _ _ => trivial) ?_
  · intro name pm code doc vs hl
    match vs, hl with
    | [a], _ => rfl
  · intro s env s₁ own hs sc esc' st F okd
    obtain ⟨N, hN, y, hy, hNl⟩ : ∃ N : List Int, numbersOf xs = N ∧ ∃ y, N[0]? = some y ∧ N.length ≤ 6 := by
      refine ⟨_, rfl, ?_⟩
      unfold numbersOf
      cases hx : xs.take 3 with
      | nil => exact ⟨_, rfl, by simp⟩
      | cons a l =>
        refine ⟨a, rfl, ?_⟩
        have : (a :: l).length ≤ 3 := by rw [← hx, List.length_take]; omega
        simp only [List.length_append, List.length_cons, List.length_nil] at this ⊢
        omega
    have n_s : Nm prog w env s₁.heap Any (Str.ofString "script") (.list (xs.map .int)) := F.fr.nm (by rfl) (by decide +kernel)
    refine run_assign (d := .plain (N.map .int)) F (Ev.cast (ev_add_list (a := (xs.take 3).map .int) (b := [(1640373 : Int), 1712128, 131073].map .int) (Ev.weak (Ev.cast (ev_slice (ev_name n_s) part_none (part_some (P' := Any) ev_int) (by rw [List.length_map]; omega)) ?_)) (Ev.weak (ev_list (evs_cons ev_int (evs_cons ev_int (evs_cons ev_int evs_nil))) (by show 3 ≤ 1000; decide))) ?_) ?_) (.inr (shut_any _)) (st _ (by decide +kernel)) (swaps_of esc' (by intros; rfl)) ?_
    · rw [show (3 : Int) = ((3 : Nat) : Int) from rfl, pick_upto, List.map_take]
    · simp only [List.length_map, List.length_take, List.length_cons, List.length_nil]; omega
    · rw [← hN]; unfold numbersOf; rw [List.map_append]
    intro s₂ F₂
    have G₂ := G.sub (hs.trans F₂.kp.sub)
    have nn : Nm prog w env s₂.heap Any (Str.ofString "numbers") (.plain (N.map .int)) := F₂.fr.nm (by rfl) (by decide +kernel)
    have oneArg : ∀ {α : Type} {l : List α} {f : α → D}, (l.map f).map (fun d => [d]) = l.map fun a => [f a] := by intro α l f; rw [List.map_map]; rfl
    refine run_pair (d₁ := .plain (N.map fun x => .int (numberOf x))) (d₂ := .plain (N.map fun x => .str (hostOf x))) F₂ (ev_tuple (evs_cons ?_ (evs_cons ?_ evs_nil)) (by show 2 ≤ 1000; decide)) okd.hh (shut_any _) (st _ (by decide +kernel)) (st _ (by decide +kernel)) (swapped_of esc' (by intros; rfl)) ?_
    · refine compA [] (fun x => [.int x]) okd.hh sc frees_nil rfl (Feeds.cast (feeds_list okd.hh (Ev.weak (ev_name nn))) oneArg) (by decide +kernel) (fun _ _ => rfl) (by omega) ?_
      intro cenv h' P' x hx hs' scc nf nb
      have G' := G₂.sub hs'
      have nx := (nb (Str.ofString "x") _ rfl).1
      have nfn : Nm prog w cenv h' P' (Str.ofString "_law_number") (.raw (.ref 128)) := G'.nm scc _ (.ref 128) (by simp [gtab]) (.raw _) (by decide +kernel) (by decide +kernel)
      exact ev_call (ev_name nfn) (evs_cons (ev_name nx) evs_nil) (c_number G' okd x) (G'.fv 35 128 (by simp [ftab]))
    · refine compA [] (fun x => [.int x]) okd.hh sc frees_nil rfl (Feeds.cast (feeds_list okd.hh (Ev.weak (ev_name nn))) oneArg) (by decide +kernel) (fun _ _ => rfl) (by omega) ?_
      intro cenv h' P' x hx hs' scc nf nb
      have G' := G₂.sub hs'
      have nx := (nb (Str.ofString "x") _ rfl).1
      have nfn : Nm prog w cenv h' P' (Str.ofString "_law_host") (.raw (.ref 133)) := G'.nm scc _ (.ref 133) (by simp [gtab]) (.raw _) (by decide +kernel) (by decide +kernel)
      exact ev_call (ev_name nfn) (evs_cons (ev_name nx) evs_nil) (c_host G' okd x) (G'.fv 36 133 (by simp [ftab]))
    intro s₃ F₃
    have G₃ := G.sub (hs.trans F₃.kp.sub)
    have nn : Nm prog w env s₃.heap Any (Str.ofString "numbers") (.plain (N.map .int)) := F₃.fr.nm (by rfl) (by decide +kernel)
    have nfi : Nm prog w env s₃.heap Any (Str.ofString "files") (.plain (N.map fun x => .int (numberOf x))) := F₃.fr.nm (by rfl) (by decide +kernel)
    have cho : Cl env s₃.heap Any (Str.ofString "hosts") (.plain (N.map fun x => .str (hostOf x))) := F₃.fr.cl (by rfl) (sc.look _ _ (by decide) (by decide +kernel))
    have at0 : ∀ {f : Int → D}, (N.map f)[(0 : Int).toNat]? = some (f y) := by intro f; rw [List.getElem?_map]; show Option.map f N[0]? = _; rw [hy]; rfl
    refine run_pair (d₁ := .plain (N.map fun x => .plain ((sgOf x).map .str))) (d₂ := .plain (N.map fun x => .str (rulOf x y))) F₃ (ev_tuple (evs_cons ?_ (evs_cons ?_ evs_nil)) (by show 2 ≤ 1000; decide)) okd.hh (shut_any _) (st _ (by decide +kernel)) (st _ (by decide +kernel)) (swapped_of esc' (by intros; rfl)) ?_
    · refine compA [] (fun x => [.int (numberOf x)]) okd.hh sc frees_nil rfl (Feeds.cast (feeds_list okd.hh (Ev.weak (ev_name nfi))) oneArg) (by decide +kernel) (fun _ _ => rfl) (by omega) ?_
      intro cenv h' P' x hx hs' scc nf nb
      have G' := G₃.sub hs'
      have nx := (nb (Str.ofString "number") _ rfl).1
      have nfn : Nm prog w cenv h' P' (Str.ofString "_law_signs") (.raw (.ref 164)) := G'.nm scc _ (.ref 164) (by simp [gtab]) (.raw _) (by decide +kernel) (by decide +kernel)
      exact ev_call (ev_name nfn) (evs_cons (ev_name nx) evs_nil) (c_signs G' okd (numberOf x) (number_kind x)) (G'.fv 41 164 (by simp [ftab]))
    · refine compA [Str.ofString "hosts"] (fun x => [.int x]) okd.hh sc (frees_cons cho frees_nil) rfl (Feeds.cast (feeds_list okd.hh (Ev.weak (ev_name nn))) oneArg) (by decide +kernel) (fun _ _ => rfl) (by omega) ?_
      intro cenv h' P' x hx hs' scc nf nb
      have G' := G₃.sub hs'
      have nx := (nb (Str.ofString "x") _ rfl).1
      have nho := (nf (Str.ofString "hosts") _ (by decide +kernel) rfl).1
      have nfn : Nm prog w cenv h' P' (Str.ofString "_law_rule") (.raw (.ref 140)) := G'.nm scc _ (.ref 140) (by simp [gtab]) (.raw _) (by decide +kernel) (by decide +kernel)
      exact ev_call (ev_name nfn) (evs_cons (ev_name nx) (evs_cons (ev_item (Ev.weak (ev_name nho)) ev_int (by decide) (by decide) at0) evs_nil)) (c_rule G' okd x (hostOf y) (pf.h1 y)) (G'.fv 37 140 (by simp [ftab]))
    intro s₄ F₄
    have hs₄ := hs.trans F₄.kp.sub
    have G₄ := G.sub hs₄
    have tb₄ : TabAt s₄.heap := tb.sub hs₄
    have nfi : Nm prog w env s₄.heap Any (Str.ofString "files") (.plain (N.map fun x => .int (numberOf x))) := F₄.fr.nm (by rfl) (by decide +kernel)
    have nho : Nm prog w env s₄.heap Any (Str.ofString "hosts") (.plain (N.map fun x => .str (hostOf x))) := F₄.fr.nm (by rfl) (by decide +kernel)
    have nz : Nm prog w env s₄.heap Any (Str.ofString "zip") (.raw (.type "zip")) := G₄.nmb sc _ _ (by simp [btab]) (by decide +kernel) (by decide +kernel)
    have twoArg : ∀ {α : Type} {l : List α} {f g : α → D}, ((l.map f).zip (l.map g)).map (fun p => [p.1, p.2]) = l.map fun a => [f a, g a] := by intro α l f g; rw [zip_maps, List.map_map]; rfl
    have l1 : Str.length (Str.ofString " ") = 1 := by decide +kernel
    have rowl : ∀ z, (rowOf z).length ≤ 1000 := fun z => by
      unfold rowOf
      rw [Str.length_append, Str.length_append, pf.w1, l1]
      have := (goodCut_of (pf.h2 z)).len
      omega
    refine run_assign (d := .plain (N.map fun z => .str (rowOf z))) F₄ ?_ (.inr (shut_any _)) (st _ (by decide +kernel)) (swaps_of esc' (by intros; rfl)) ?_
    · refine compA [] (fun x => [.int (numberOf x), .str (hostOf x)]) okd.hh sc frees_nil rfl (Feeds.cast (feeds_zip okd.hh (ev_name nz) (Ev.weak (ev_name nfi)) (Ev.weak (ev_name nho))) twoArg) (by decide +kernel) (fun _ _ => rfl) (by omega) ?_
      intro cenv h' P' x hx hs' scc nf nb
      have G' := G₄.sub hs'
      have nx := (nb (Str.ofString "number") _ rfl).1
      have nh := (nb (Str.ofString "host") _ rfl).1
      have nfn : Nm prog w cenv h' P' (Str.ofString "filemode") (.raw (.ref 121)) := G'.nm scc _ (.ref 121) (by simp [gtab]) (.raw _) (by decide +kernel) (by decide +kernel)
      have ll := (goodCut_of (pf.h2 x)).len
      exact ev_add_str (ev_add_str (ev_call (ev_name nfn) (evs_cons (ev_name nx) evs_nil) (c_filemode G' (tb₄.sub hs') okd (numberOf x)) (G'.fv 33 121 (by simp [ftab]))) ev_str (by rw [pf.w1, l1]; decide)) (ev_meth (ev_name nh) meth_lower evs_nil (calls_lower (by omega))) (by rw [Str.length_append, pf.w1, l1]; omega)
    intro s₅ F₅
    have G₅ := G.sub (hs.trans F₅.kp.sub)
    have nn : Nm prog w env s₅.heap Any (Str.ofString "numbers") (.plain (N.map .int)) := F₅.fr.nm (by rfl) (by decide +kernel)
    have nru : Nm prog w env s₅.heap Any (Str.ofString "rules") (.plain (N.map fun x => .str (rulOf x y))) := F₅.fr.nm (by rfl) (by decide +kernel)
    have csg : Cl env s₅.heap Any (Str.ofString "signs") (.plain (N.map fun x => .plain ((sgOf x).map .str))) := F₅.fr.cl (by rfl) (sc.look _ _ (by decide) (by decide +kernel))
    have nz : Nm prog w env s₅.heap Any (Str.ofString "zip") (.raw (.type "zip")) := G₅.nmb sc _ _ (by simp [btab]) (by decide +kernel) (by decide +kernel)
    have sgl : ∀ z, (sgOf z).length = 10 := fun z => signsUpto_len _ 3
    refine run_assign_compA (f := fun x => .str (patOf x y)) [Str.ofString "signs"] (fun x => [.int x, .str (rulOf x y)]) F₅ (shut_any _) (st _ (by decide +kernel)) (swaps_of esc' (by intros; rfl)) okd.hh sc (frees_cons csg frees_nil) rfl (Feeds.cast (feeds_zip okd.hh (ev_name nz) (Ev.weak (ev_name nn)) (Ev.weak (ev_name nru))) twoArg) (by decide +kernel) (fun _ _ => rfl) (by omega) ?_ ?_
    · intro cenv h' P' x hx hs' scc nf nb
      have G' := G₅.sub hs'
      have nx := (nb (Str.ofString "x") _ rfl).1
      have nr := (nb (Str.ofString "rule") _ rfl).1
      have nsg := (nf (Str.ofString "signs") _ (by decide +kernel) rfl).1
      have nfn : Nm prog w cenv h' P' (Str.ofString "_law_pattern") (.raw (.ref 145)) := G'.nm scc _ (.ref 145) (by simp [gtab]) (.raw _) (by decide +kernel) (by decide +kernel)
      exact ev_call (ev_name nfn) (evs_cons (ev_name nx) (evs_cons (Ev.weak (ev_item (Ev.weak (ev_name nsg)) ev_int (by decide) (by decide) at0)) (evs_cons (ev_name nr) evs_nil))) (c_pattern G' okd x (sgOf y) (rulOf x y) (sgl y) (pf.s1 y) (pf.r1 x y) (by have := (goodCut_of (pf.r2 x y)).len; omega)) (G'.fv 38 145 (by simp [ftab]))
    intro s₆ F₆
    have hs₆ := hs.trans F₆.kp.sub
    have G₆ := G.sub hs₆
    have npa : Nm prog w env s₆.heap Any (Str.ofString "patterns") (.plain (N.map fun x => .str (patOf x y))) := F₆.fr.nm (by rfl) (by decide +kernel)
    refine run_assign_compA (f := fun x => .plain ((partsD (fs x y) (es x y)).map optD)) [] (fun x => [.str (patOf x y)]) F₆ (shut_any _) (st _ (by decide +kernel)) (swaps_of esc' (by intros; rfl)) okd.hh sc frees_nil rfl (Feeds.cast (feeds_list okd.hh (Ev.weak (ev_name npa))) oneArg) (by decide +kernel) (fun _ _ => rfl) (by omega) ?_ ?_
    · intro cenv h' P' x hx hs' scc nf nb
      have G' := G₆.sub hs'
      have nx := (nb (Str.ofString "pattern") _ rfl).1
      have nfn : Nm prog w cenv h' P' (Str.ofString "_translate") (.raw (.ref 74)) := G'.nm scc _ (.ref 74) (by simp [gtab]) (.raw _) (by decide +kernel) (by decide +kernel)
      exact Ev.cast (ev_call (ev_name nfn) (evs_cons (ev_name nx) (evs_cons ev_none (evs_cons ev_str evs_nil))) (c_translate G' (fun prog w => (mp prog w).sub (hs₆.trans hs')) he okd (patOf x y) (pf.p2 x y) (pf.p1 x y)) (G'.fv 10 74 (by simp [ftab]))) (by rw [pf.p3])
    intro s₇ F₇
    have G₇ := G.sub (hs.trans F₇.kp.sub)
    have nps : Nm prog w env s₇.heap Any (Str.ofString "parts") (.plain (N.map fun x => .plain ((partsD (fs x y) (es x y)).map optD))) := F₇.fr.nm (by rfl) (by decide +kernel)
    have cro : Cl env s₇.heap Any (Str.ofString "rows") (.plain (N.map fun z => .str (rowOf z))) := F₇.fr.cl (by rfl) (sc.look _ _ (by decide) (by decide +kernel))
    refine run_assign_compA (f := fun x => .plain (N.map fun z => .bool (takesP (fs x y) (es x y) (rowOf z)))) [Str.ofString "rows"] (fun x => [.plain ((partsD (fs x y) (es x y)).map optD)]) F₇ (shut_any _) (st _ (by decide +kernel)) (swaps_of esc' (by intros; rfl)) okd.hh sc (frees_cons cro frees_nil) rfl (Feeds.cast (feeds_list okd.hh (Ev.weak (ev_name nps))) oneArg) (by decide +kernel) (fun _ _ => rfl) (by omega) ?_ ?_
    · intro cenv h' P' x hx hs' scc nf nb
      have G' := G₇.sub hs'
      have no := (nb (Str.ofString "one") _ rfl).2 (by decide +kernel)
      have nr := (nf (Str.ofString "rows") _ (by decide +kernel) rfl).1
      refine compA [Str.ofString "one"] (fun z => [.str (rowOf z)]) okd.hh scc (frees_cons no frees_nil) rfl (Feeds.cast (feeds_list okd.hh (Ev.weak (ev_name nr))) oneArg) (by decide +kernel) (fun _ _ => rfl) (by omega) ?_
      intro cenv2 h2 P2 z hz hs2 scc2 nf2 nb2
      have G2 := G'.sub hs2
      have n1 := (nf2 (Str.ofString "one") _ (by decide +kernel) rfl).1
      have n2 := (nb2 (Str.ofString "row") _ rfl).1
      have nfn : Nm prog w cenv2 h2 P2 (Str.ofString "_law_takes") (.raw (.ref 157)) := G2.nm scc2 _ (.ref 157) (by simp [gtab]) (.raw _) (by decide +kernel) (by decide +kernel)
      exact ev_call (ev_name nfn) (evs_cons (ev_name n1) (evs_cons (ev_name n2) evs_nil)) (c_takes G2 okd (fs x y) (es x y) (rowOf z) (pf.p4 x y).1 (pf.p4 x y).2 (rowl z)) (G2.fv 40 157 (by simp [ftab]))
    intro s₈ F₈
    have G₈ := G.sub (hs.trans F₈.kp.sub)
    have nn : Nm prog w env s₈.heap Any (Str.ofString "numbers") (.plain (N.map .int)) := F₈.fr.nm (by rfl) (by decide +kernel)
    have csg : Cl env s₈.heap Any (Str.ofString "signs") (.plain (N.map fun x => .plain ((sgOf x).map .str))) := F₈.fr.cl (by rfl) (sc.look _ _ (by decide) (by decide +kernel))
    refine run_assign_compA (f := fun x => .plain (N.map fun z => .bool (alikeB x (sgOf z) (sgOf y)))) [Str.ofString "signs"] (fun x => [.int x]) F₈ (shut_any _) (st _ (by decide +kernel)) (swaps_of esc' (by intros; rfl)) okd.hh sc (frees_cons csg frees_nil) rfl (Feeds.cast (feeds_list okd.hh (Ev.weak (ev_name nn))) oneArg) (by decide +kernel) (fun _ _ => rfl) (by omega) ?_ ?_
    · intro cenv h' P' x hx hs' scc nf nb
      have G' := G₈.sub hs'
      have cx := (nb (Str.ofString "x") _ rfl).2 (by decide +kernel)
      have csg := nf (Str.ofString "signs") _ (by decide +kernel) rfl
      refine compA [Str.ofString "signs", Str.ofString "x"] (fun z => [.plain ((sgOf z).map .str)]) okd.hh scc (frees_cons csg.2 (frees_cons cx frees_nil)) rfl (Feeds.cast (feeds_list okd.hh (Ev.weak (ev_name csg.1))) oneArg) (by decide +kernel) (fun _ _ => rfl) (by omega) ?_
      intro cenv2 h2 P2 z hz hs2 scc2 nf2 nb2
      have G2 := G'.sub hs2
      have c1 := (nb2 (Str.ofString "one") _ rfl).2 (by decide +kernel)
      have csg := nf2 (Str.ofString "signs") _ (by decide +kernel) rfl
      have cx := nf2 (Str.ofString "x") _ (by decide +kernel) rfl
      have nr : Nm prog w cenv2 h2 P2 (Str.ofString "range") (.raw (.type "range")) := G2.nmb scc2 _ _ (by simp [btab]) (by decide +kernel) (by decide +kernel)
      refine ev_cmp (d₁ := .list ((((List.range 10).filter fun (k : Nat) => bitOf x k && ((sgOf z).getD k "" != (sgOf y).getD k "")).map (fun (k : Nat) => Int.ofNat k)).map .int)) (d₂ := .list (([] : List Int).map .int)) (Ev.weak (Ev.cast (d := .plain (((List.range 10).filter fun (k : Nat) => bitOf x k && ((sgOf z).getD k "" != (sgOf y).getD k "")).map fun (k : Nat) => D.int (k : Int))) ?_ (by rw [List.map_map]; rfl)))
        (Ev.weak (ev_list evs_nil (Nat.zero_le _))) (cmp_eq_list (bs := []) emb_int (by have := okd.units; omega))
      refine comp (ks := [Str.ofString "one", Str.ofString "signs", Str.ofString "x"]) (b := fun i => [.int (i : Nat)]) okd.hh scc2 (frees_cons c1 (frees_cons csg.2 (frees_cons cx.2 frees_nil))) rfl
        (feeds_range okd.hh (by omega) (ev_name nr) ev_int) (by decide +kernel) (fun _ _ => rfl) (by rw [List.length_range]; omega) ?_
      intro cenv3 h3 P3 i hi hs3 scc3 nf3 nb3
      have nk := (nb3 (Str.ofString "k") _ rfl).1
      have n1 := (nf3 (Str.ofString "one") _ (by decide +kernel) rfl).1
      have nsg := (nf3 (Str.ofString "signs") _ (by decide +kernel) rfl).1
      have nx := (nf3 (Str.ofString "x") _ (by decide +kernel) rfl).1
      have hi' : i < 10 := List.mem_range.mp hi
      have hp : (2 : Int) ^ i ≠ 0 ∧ ((2 : Int) ^ i).natAbs < 1073741824 := by
        have : ∀ j < 10, (2 : Int) ^ j ≠ 0 ∧ ((2 : Int) ^ j).natAbs < 1073741824 := by decide +kernel
        exact this i hi'
      refine ⟨trs_one (tr_and (tr_cmp (ev_mod_int (ev_div_int (ev_name nx) (Ev.cast (ev_pow_int ev_int (ev_name nk) (by omega) (by omega) (by decide)) (d' := .int (2 ^ i)) (by simp)) hp.1 hp.2) ev_int (by decide)) ev_int cmp_eq_int) (fun _ => ?_)), fun _ => ev_name nk⟩
      exact tr_cmp (ev_item (Ev.weak (ev_name n1)) (ev_name nk) (by omega) (by omega) (getD_map (xs := sgOf z) (f := .str) (i := i) (d := "") (by rw [sgl]; exact hi')))
        (ev_item (Ev.weak (ev_item (Ev.weak (ev_name nsg)) ev_int (by decide) (by decide) at0)) (ev_name nk) (by omega) (by omega) (getD_map (xs := sgOf y) (f := .str) (i := i) (d := "") (by rw [sgl]; exact hi'))) cmp_ne_str
    intro s₉ F₉
    have G₉ := G.sub (hs.trans F₉.kp.sub)
    have nru : Nm prog w env s₉.heap Any (Str.ofString "rules") (.plain (N.map fun x => .str (rulOf x y))) := F₉.fr.nm (by rfl) (by decide +kernel)
    have cho : Cl env s₉.heap Any (Str.ofString "hosts") (.plain (N.map fun x => .str (hostOf x))) := F₉.fr.cl (by rfl) (sc.look _ _ (by decide) (by decide +kernel))
    refine run_assign_compA (f := fun x => .plain (N.map fun z => .bool (namedB (hostOf z) (rulOf x y)))) [Str.ofString "hosts"] (fun x => [.str (rulOf x y)]) F₉ (shut_any _) (st _ (by decide +kernel)) (swaps_of esc' (by intros; rfl)) okd.hh sc (frees_cons cho frees_nil) rfl (Feeds.cast (feeds_list okd.hh (Ev.weak (ev_name nru))) oneArg) (by decide +kernel) (fun _ _ => rfl) (by omega) ?_ ?_
    · intro cenv h' P' x hx hs' scc nf nb
      have G' := G₉.sub hs'
      have no := (nb (Str.ofString "rule") _ rfl).2 (by decide +kernel)
      have nr := (nf (Str.ofString "hosts") _ (by decide +kernel) rfl).1
      refine compA [Str.ofString "rule"] (fun z => [.str (hostOf z)]) okd.hh scc (frees_cons no frees_nil) rfl (Feeds.cast (feeds_list okd.hh (Ev.weak (ev_name nr))) oneArg) (by decide +kernel) (fun _ _ => rfl) (by omega) ?_
      intro cenv2 h2 P2 z hz hs2 scc2 nf2 nb2
      have G2 := G'.sub hs2
      have n1 := (nf2 (Str.ofString "rule") _ (by decide +kernel) rfl).1
      have n2 := (nb2 (Str.ofString "host") _ rfl).1
      have nfn : Nm prog w cenv2 h2 P2 (Str.ofString "_law_named") (.raw (.ref 171)) := G2.nm scc2 _ (.ref 171) (by simp [gtab]) (.raw _) (by decide +kernel) (by decide +kernel)
      exact ev_call (ev_name nfn) (evs_cons (ev_name n2) (evs_cons (ev_name n1) evs_nil)) (c_named G2 okd (hostOf z) (rulOf x y) (pf.h2 z) (pf.r2 x y)) (G2.fv 42 171 (by simp [ftab]))
    intro sA FA
    have hsA := hs.trans FA.kp.sub
    have GA := G.sub hsA
    have nsg : Nm prog w env sA.heap Any (Str.ofString "signs") (.plain (N.map fun x => .plain ((sgOf x).map .str))) := FA.fr.nm (by rfl) (by decide +kernel)
    have nro : Nm prog w env sA.heap Any (Str.ofString "rows") (.plain (N.map fun z => .str (rowOf z))) := FA.fr.nm (by rfl) (by decide +kernel)
    have nru : Nm prog w env sA.heap Any (Str.ofString "rules") (.plain (N.map fun x => .str (rulOf x y))) := FA.fr.nm (by rfl) (by decide +kernel)
    have cho : Cl env sA.heap Any (Str.ofString "hosts") (.plain (N.map fun x => .str (hostOf x))) := FA.fr.cl (by rfl) (sc.look _ _ (by decide) (by decide +kernel))
    have nna : Nm prog w env sA.heap Any (Str.ofString "named") (.plain (N.map fun x => .plain (N.map fun z => .bool (namedB (hostOf z) (rulOf x y))))) := FA.fr.nm (by rfl) (by decide +kernel)
    have mapl : ∀ {α β : Type} {l : List β} {g : β → List α} {f : α → D}, D.list (l.map fun x => .list ((g x).map f)) = DL2 f (l.map g) := by intro α β l g f; unfold DL2; rw [List.map_map]; rfl
    refine run_if (b := false) FA (Tr.cast (tr_or (a := false) (b := false) ?_ fun _ => ?_) rfl) (fun hb => by cases hb) ?_
    · refine Tr.cast (tr_cmp (d₁ := DL2 D.str (N.map sgOf)) (d₂ := DL2 D.str (N.map sgOf)) (Ev.cast (Ev.weak2 (f := fun z => (sgOf z).map .str) ?_) mapl) (Ev.cast (Ev.weak2 (f := fun z => (sgOf z).map .str) (ev_name nsg)) mapl) (cmp_ne_list (f := fun l : List Str => D.list (l.map D.str)) (emb_list emb_str) (by have := okd.units; omega))) (by simp)
      refine compA [] (fun z => [.str (rowOf z)]) okd.hh sc frees_nil rfl (Feeds.cast (feeds_list okd.hh (Ev.weak (ev_name nro))) oneArg) (by decide +kernel) (fun _ _ => rfl) (by omega) ?_
      intro cenv h' P' z hz hs' scc nf nb
      have G' := GA.sub hs'
      have nr := (nb (Str.ofString "row") _ rfl).1
      have nl : Nm prog w cenv h' P' (Str.ofString "list") (.raw (.type "list")) := G'.nmb scc _ _ (by simp [btab]) (by decide +kernel) (by decide +kernel)
      exact Ev.cast (ev_call (ev_name nl) (evs_cons (ev_slice_str (ev_name nr) part_none (part_some (P' := Any) ev_int) (rowl z)) evs_nil) (calls_list_str okd.hh (Nat.le_trans (Txt.slice_le _ _ _) (rowl z))) tv) (by rw [pf.w2])
    · refine Tr.cast (tr_cmp (d₁ := DL2 D.bool (N.map fun x => N.map fun z => namedB (hostOf z) (rulOf x y))) (d₂ := DL2 D.bool (N.map fun x => N.map fun z => namedB (hostOf z) (rulOf x y))) (Ev.cast (Ev.weak2 (f := fun x => (N.map fun z => namedB (hostOf z) (rulOf x y)).map .bool) ?_) mapl) (Ev.cast (Ev.weak2 (f := fun x => (N.map fun z => namedB (hostOf z) (rulOf x y)).map .bool) (Ev.cast (ev_name nna) (by simp only [List.map_map]; rfl))) mapl) (cmp_ne_list (f := fun l : List Bool => D.list (l.map D.bool)) (emb_list emb_bool) (by have := okd.units; omega))) (by simp)
      refine compA [Str.ofString "hosts"] (fun x => [.str (rulOf x y)]) okd.hh sc (frees_cons cho frees_nil) rfl (Feeds.cast (feeds_list okd.hh (Ev.weak (ev_name nru))) oneArg) (by decide +kernel) (fun _ _ => rfl) (by omega) ?_
      intro cenv h' P' x hx hs' scc nf nb
      have G' := GA.sub hs'
      have no := (nb (Str.ofString "rule") _ rfl).2 (by decide +kernel)
      have nr := (nf (Str.ofString "hosts") _ (by decide +kernel) rfl).1
      refine Ev.cast (compA (items := N) (f := fun z => .bool (namedB (hostOf z) (rulOf x y))) [Str.ofString "rule"] (fun z => [.str (hostOf z)]) okd.hh scc (frees_cons no frees_nil) rfl (Feeds.cast (feeds_list okd.hh (Ev.weak (ev_name nr))) oneArg) (by decide +kernel) (fun _ _ => rfl) (by omega) ?_) (by dsimp only; rw [List.map_map]; rfl)
      intro cenv2 h2 P2 z hz hs2 scc2 nf2 nb2
      have G2 := G'.sub hs2
      have re2 := re.sub (hsA.trans (hs'.trans hs2))
      have n1 := (nf2 (Str.ofString "rule") _ (by decide +kernel) rfl).1
      have n2 := (nb2 (Str.ofString "host") _ rfl).1
      have nfn : Nm prog w cenv2 h2 P2 (Str.ofString "user_domain_match") (.raw (.ref 50)) := G2.nm scc2 _ (.ref 50) (by simp [gtab]) (.raw _) (by decide +kernel) (by decide +kernel)
      have b1 : (Txt.lower (hostOf z)).length ≤ 10000 := by have := (goodCut_of (pf.h2 z)).len; omega
      have b2 : (Txt.lower (rulOf x y)).length ≤ 10000 := by have := (goodCut_of (pf.r2 x y)).len; omega
      exact Ev.cast (ev_call (ev_name nfn) (evs_cons (ev_name n2) (evs_cons (ev_name n1) evs_nil)) (c_match G2 (k := k + 3) (okd.le (by omega)) (hostOf z) (rulOf x y) b1 b2
        (fun env3 h3 s3 => c_hdn (G2.sub s3) (re2.sub s3) (k := k + 3) (Okay.deeper (okd.le (by omega))) _ (pf.h3 z) b1) (fun env3 h3 s3 => c_hdn (G2.sub s3) (re2.sub s3) (k := k + 3) (Okay.deeper (okd.le (by omega))) _ (pf.r3 x y) b2)) (G2.fv 4 50 (by simp [ftab]))) (by rw [pf.m])
    intro _ sB FB
    refine run_nil ?_
    show Run prog w _ env _ sB _
    have GB := G.sub (hs.trans FB.kp.sub)
    have nto : Nm prog w env sB.heap Any (Str.ofString "told") (.plain (N.map fun x => .plain (N.map fun z => .bool (takesP (fs x y) (es x y) (rowOf z))))) := FB.fr.nm (by rfl) (by decide +kernel)
    have nal : Nm prog w env sB.heap Any (Str.ofString "alike") (.plain (N.map fun x => .plain (N.map fun z => .bool (alikeB x (sgOf z) (sgOf y))))) := FB.fr.nm (by rfl) (by decide +kernel)
    have nna : Nm prog w env sB.heap Any (Str.ofString "named") (.plain (N.map fun x => .plain (N.map fun z => .bool (namedB (hostOf z) (rulOf x y))))) := FB.fr.nm (by rfl) (by decide +kernel)
    have nz : Nm prog w env sB.heap Any (Str.ofString "zip") (.raw (.type "zip")) := GB.nmb sc _ _ (by simp [btab]) (by decide +kernel) (by decide +kernel)
    have twoArg : ∀ {α : Type} {l : List α} {f g : α → D}, ((l.map f).zip (l.map g)).map (fun p => [p.1, p.2]) = l.map fun a => [f a, g a] := by intro α l f g; rw [zip_maps, List.map_map]; rfl
    refine run_ret FB (Ev.cast (ev_cmp (d₁ := DL2 D.bool (N.map fun x => N.map fun z => takesP (fs x y) (es x y) (rowOf z))) (d₂ := DL2 D.bool (N.map fun x => N.map fun z => takesP (fs x y) (es x y) (rowOf z))) (Ev.cast (Ev.weak2 (f := fun x => (N.map fun z => takesP (fs x y) (es x y) (rowOf z)).map .bool) (Ev.cast (ev_name nto) (by simp only [List.map_map]; rfl))) mapl) (Ev.cast (Ev.weak2 (f := fun x => (N.map fun z => takesP (fs x y) (es x y) (rowOf z)).map .bool) ?_) mapl) (cmp_eq_list (f := fun l : List Bool => D.list (l.map D.bool)) (emb_list emb_bool) (by have := okd.units; omega))) (by simp)) (.inl (.bool _))
    refine compA [] (fun x => [.plain (N.map fun z => .bool (alikeB x (sgOf z) (sgOf y))), .plain (N.map fun z => .bool (namedB (hostOf z) (rulOf x y)))]) okd.hh sc frees_nil rfl (Feeds.cast (feeds_zip okd.hh (ev_name nz) (Ev.weak (ev_name nal)) (Ev.weak (ev_name nna))) twoArg) (by decide +kernel) (fun _ _ => rfl) (by omega) ?_
    intro cenv h' P' x hx hs' scc nf nb
    have n1 := (nb (Str.ofString "one") _ rfl).1
    have n2 := (nb (Str.ofString "other") _ rfl).1
    have nz : Nm prog w cenv h' P' (Str.ofString "zip") (.raw (.type "zip")) := (GB.sub hs').nmb scc _ _ (by simp [btab]) (by decide +kernel) (by decide +kernel)
    refine Ev.cast (compA (items := N) (f := fun z => .bool (takesP (fs x y) (es x y) (rowOf z))) [] (fun z => [.bool (alikeB x (sgOf z) (sgOf y)), .bool (namedB (hostOf z) (rulOf x y))]) okd.hh scc frees_nil rfl (Feeds.cast (feeds_zip okd.hh (ev_name nz) (Ev.weak (ev_name n1)) (Ev.weak (ev_name n2))) twoArg) (by decide +kernel) (fun _ _ => rfl) (by omega) ?_) (by dsimp only; rw [List.map_map]; rfl)
    intro cenv2 h2 P2 z hz hs2 scc2 nf2 nb2
    have na := (nb2 (Str.ofString "a") _ rfl).1
    have nb := (nb2 (Str.ofString "b") _ rfl).1
    exact Ev.cast (ev_and (ev_name na) (fun _ => ev_name nb)) (by dsimp only; rw [pf.t])
end
end Mine
end

section
open PySem PySem.W PyProof.Rows
namespace Mine

/-! filemode's signs are the signs told -/
theorem bitAnd_nat (n c : Nat) : Builtin.bitAnd (n : Int) (c : Int) = ((n &&& c : Nat) : Int) := by
  unfold Builtin.bitAnd
  rw [decide_eq_true (by omega), decide_eq_true (by omega)]
  rfl
def bt (n i : Nat) : Bool := decide (n / 2 ^ i % 2 = 1)
theorem bt_pow (n i : Nat) : n &&& 2 ^ i = (bt n i).toNat * 2 ^ i := by
  have hb : bt n i = n.testBit i := by rw [Nat.testBit_eq_decide_div_mod_eq]; rfl
  rw [hb]
  refine Nat.eq_of_testBit_eq fun j => ?_
  rw [Nat.testBit_and, Nat.testBit_two_pow]
  cases h : n.testBit i with
  | true =>
    rw [Bool.toNat_true, Nat.one_mul, Nat.testBit_two_pow]
    by_cases hj : i = j
    · subst hj; simp [h]
    · simp [hj]
  | false =>
    rw [Bool.toNat_false, Nat.zero_mul, Nat.zero_testBit]
    by_cases hj : i = j
    · subst hj; simp [h]
    · simp [hj]
theorem int_beq (a b : Nat) : ((a : Int) == (b : Int)) = (a == b) := by
  rw [Bool.eq_iff_iff, beq_iff_eq, beq_iff_eq]
  omega
theorem hit1 (n i c : Nat) (hc : c = 2 ^ i) : (Builtin.bitAnd (n : Int) (c : Int) == (c : Int)) = bt n i := by
  have hp : 0 < 2 ^ i := Nat.pow_pos (by decide)
  rw [bitAnd_nat, int_beq, hc, bt_pow]
  cases bt n i
  · rw [Bool.toNat_false, Nat.zero_mul, beq_eq_false_iff_ne]; omega
  · rw [Bool.toNat_true, Nat.one_mul, beq_self_eq_true]
theorem hit2 (n i j c : Nat) (hc : c = 2 ^ i ||| 2 ^ j) (h : ∀ a b : Bool, ((a.toNat * 2 ^ i ||| b.toNat * 2 ^ j : Nat) == c) = (a && b)) : (Builtin.bitAnd (n : Int) (c : Int) == (c : Int)) = (bt n i && bt n j) := by
  rw [bitAnd_nat, int_beq, ← h]
  conv => lhs; lhs; rw [hc, Nat.and_or_distrib_left, bt_pow, bt_pow]
theorem kind_mask (n : Nat) : Builtin.bitAnd (n : Int) 61440 = (((bt n 15).toNat * 32768 ||| ((bt n 14).toNat * 16384 ||| ((bt n 13).toNat * 8192 ||| (bt n 12).toNat * 4096)) : Nat) : Int) := by
  have e : (61440 : Int) = ((61440 : Nat) : Int) := rfl
  rw [e, bitAnd_nat]
  have h : (61440 : Nat) = 2 ^ 15 ||| (2 ^ 14 ||| (2 ^ 13 ||| 2 ^ 12)) := by decide +kernel
  rw [h, Nat.and_or_distrib_left, Nat.and_or_distrib_left, Nat.and_or_distrib_left, bt_pow, bt_pow, bt_pow, bt_pow]

/-- one sign of filemode's table -/
theorem sign_one (n i c : Nat) (k : Nat) (x : Str) (hk : k ≠ 0) (hc : c = 2 ^ i) : fmSign (n : Int) k [((c : Int), x)] = if bt n i then x else "-" := by
  unfold fmSign
  rw [List.find?_cons]
  have : fmHit (n : Int) k ((c : Int), x) = bt n i := by unfold fmHit; rw [if_neg hk]; exact hit1 n i c hc
  rw [this]
  cases bt n i with
  | true => rfl
  | false => show (if k = 0 then Str.ofString "?" else Str.ofString "-") = _; rw [if_neg hk]; rfl
theorem sign_three (n i j c d e : Nat) (k : Nat) (x y z : Str) (hk : k ≠ 0) (hc : c = 2 ^ i ||| 2 ^ j) (h : ∀ a b : Bool, ((a.toNat * 2 ^ i ||| b.toNat * 2 ^ j : Nat) == c) = (a && b)) (hd : d = 2 ^ i) (he : e = 2 ^ j) :
    fmSign (n : Int) k [((c : Int), x), ((d : Int), y), ((e : Int), z)] = if bt n i then (if bt n j then x else y) else (if bt n j then z else "-") := by
  unfold fmSign
  have h1 : fmHit (n : Int) k ((c : Int), x) = (bt n i && bt n j) := by unfold fmHit; rw [if_neg hk]; exact hit2 n i j c hc h
  have h2 : fmHit (n : Int) k ((d : Int), y) = bt n i := by unfold fmHit; rw [if_neg hk]; exact hit1 n i d hd
  have h3 : fmHit (n : Int) k ((e : Int), z) = bt n j := by unfold fmHit; rw [if_neg hk]; exact hit1 n j e he
  rw [List.find?_cons, h1, List.find?_cons, h2, List.find?_cons, h3]
  cases bt n i <;> cases bt n j <;> first | rfl | (show (if k = 0 then Str.ofString "?" else Str.ofString "-") = _; rw [if_neg hk]; rfl)

theorem fdivN (a : Int) (b : Int) (hb : 0 ≤ b) : a.fdiv b = a / b := Int.fdiv_eq_ediv_of_nonneg a hb
theorem fmodN (a : Int) (b : Int) (hb : 0 ≤ b) : a.fmod b = a % b := Int.fmod_eq_emod_of_nonneg a hb
theorem pw (k : Nat) (i c : Nat) (h : 2 ^ i = c) (n : Nat) : bt n i = decide (n / c % 2 = 1) := by unfold bt; rw [h]
theorem three_r (n : Nat) (c d i : Nat) (hd : d = 2 ^ i) (h : (((n : Int) / c) % 8 / 4 = 1) ↔ n / d % 2 = 1) : ((((n : Int).fdiv c).fmod 8).fdiv 4 == 1) = bt n i := by
  rw [fdivN _ (c : Int) (by omega), fmodN _ 8 (by decide), fdivN _ 4 (by decide), pw 0 i d hd.symm, Bool.eq_iff_iff]
  simp only [beq_iff_eq, decide_eq_true_eq]
  exact h
theorem three_w (n : Nat) (c d i : Nat) (hd : d = 2 ^ i) (h : (((n : Int) / c) % 8 / 2 % 2 = 1) ↔ n / d % 2 = 1) : (((((n : Int).fdiv c).fmod 8).fdiv 2).fmod 2 == 1) = bt n i := by
  rw [fdivN _ (c : Int) (by omega), fmodN _ 8 (by decide), fdivN _ 2 (by decide), fmodN _ 2 (by decide), pw 0 i d hd.symm, Bool.eq_iff_iff]
  simp only [beq_iff_eq, decide_eq_true_eq]
  exact h
theorem three_x (n : Nat) (c d i : Nat) (hd : d = 2 ^ i) (h : (((n : Int) / c) % 8 % 2 = ((n / d % 2 : Nat) : Int))) : ((((n : Int).fdiv c).fmod 8).fmod 2) = ((bt n i).toNat : Int) := by
  rw [fdivN _ (c : Int) (by omega), fmodN _ 8 (by decide), fmodN _ 2 (by decide), pw 0 i d hd.symm, h]
  have : n / d % 2 = 0 ∨ n / d % 2 = 1 := by omega
  rcases this with e | e <;> rw [e] <;> rfl
theorem three_o (n : Nat) (c d i : Nat) (hd : d = 2 ^ i) (h : ((n : Int) / 512 / c % 2 = ((n / d % 2 : Nat) : Int))) : ((((n : Int).fdiv 512).fdiv c).fmod 2) = ((bt n i).toNat : Int) := by
  rw [fdivN _ (c : Int) (by omega), fdivN _ 512 (by decide), fmodN _ 2 (by decide), pw 0 i d hd.symm, h]
  have : n / d % 2 = 0 ∨ n / d % 2 = 1 := by omega
  rcases this with e | e <;> rw [e] <;> rfl
theorem last_of (k : Nat) (S s : Str) (hS : lastL k = [Str.ofString "-", Str.ofString "x", S, s]) (a b : Bool) : (lastL k).getD ((b.toNat : Int) + 2 * (a.toNat : Int)).toNat "" = if a then (if b then s else S) else (if b then Str.ofString "x" else Str.ofString "-") := by
  rw [hS]
  cases a <;> cases b <;> rfl

theorem number_nat (x : Int) : ∃ (q m : Nat), (q = 8 ∨ q = 4 ∨ q = 10 ∨ q = 12) ∧ m < 4096 ∧ numberOf x = ((q * 4096 + m : Nat) : Int) := by
  unfold numberOf
  obtain ⟨h1, h2⟩ := fmod_lt x (b := 4) (by decide)
  obtain ⟨h3, h4⟩ := fmod_lt (x.fdiv 4) (b := 4096) (by decide)
  generalize (x.fdiv 4).fmod 4096 = m at *
  have h5 : (x.fmod 4).toNat < 4 := by omega
  generalize (x.fmod 4).toNat = k at *
  match k, h5 with
  | 0, _ => exact ⟨8, m.toNat, by simp, by omega, by show (32768 : Int) + m = _; omega⟩
  | 1, _ => exact ⟨4, m.toNat, by simp, by omega, by show (16384 : Int) + m = _; omega⟩
  | 2, _ => exact ⟨10, m.toNat, by simp, by omega, by show (40960 : Int) + m = _; omega⟩
  | 3, _ => exact ⟨12, m.toNat, by simp, by omega, by show (49152 : Int) + m = _; omega⟩

theorem kind_eq (q m : Nat) (hq : q = 8 ∨ q = 4 ∨ q = 10 ∨ q = 12) (hm : m < 4096) :
    fmSign ((q * 4096 + m : Nat) : Int) 0 [(40960, "l"), (49152, "s"), (32768, "-"), (24576, "b"), (16384, "d"), (8192, "c"), (4096, "p")] = kindS ((q * 4096 + m : Nat) : Int) := by
  have hb : ∀ i, bt (q * 4096 + m) (12 + i) = decide (q / 2 ^ i % 2 = 1) := fun i => by
    unfold bt
    rw [Nat.pow_add, ← Nat.div_div_eq_div_mul]
    have : (q * 4096 + m) / 2 ^ 12 = q := by show (q * 4096 + m) / 4096 = q; omega
    rw [this]
  have hk : ((q * 4096 + m : Nat) : Int).fdiv 4096 * 4096 = ((q * 4096 : Nat) : Int) := by rw [fdivN _ _ (by decide)]; omega
  have hm' : Builtin.bitAnd ((q * 4096 + m : Nat) : Int) 61440 = ((q * 4096 : Nat) : Int) := by
    rw [kind_mask, hb 3, hb 2, hb 1, hb 0]
    rcases hq with rfl | rfl | rfl | rfl <;> decide +kernel
  unfold kindS
  rw [hk]
  have hh : ∀ p, fmHit ((q * 4096 + m : Nat) : Int) 0 p = (((q * 4096 : Nat) : Int) == p.1) := fun p => by unfold fmHit; rw [if_pos rfl, hm']
  unfold fmSign
  rw [show fmHit ((q * 4096 + m : Nat) : Int) 0 = fun p => (((q * 4096 : Nat) : Int) == p.1) from funext hh]
  rcases hq with rfl | rfl | rfl | rfl <;> decide +kernel
theorem fm_eq (x : Int) : fmOf (numberOf x) = sgOf x := by
  unfold sgOf
  obtain ⟨q, m, hq, hm, e⟩ := number_nat x
  rw [e]
  have hK := kind_eq q m hq hm
  generalize q * 4096 + m = n at *
  show [fmSign n 0 [(40960, "l"), (49152, "s"), (32768, "-"), (24576, "b"), (16384, "d"), (8192, "c"), (4096, "p")], fmSign n 1 [(256, "r")], fmSign n 2 [(128, "w")], fmSign n 3 [(2112, "s"), (2048, "S"), (64, "x")],
    fmSign n 4 [(32, "r")], fmSign n 5 [(16, "w")], fmSign n 6 [(1032, "s"), (1024, "S"), (8, "x")], fmSign n 7 [(4, "r")], fmSign n 8 [(2, "w")], fmSign n 9 [(513, "t"), (512, "T"), (1, "x")]] =
    [kindS n, if (((n : Int).fdiv 64).fmod 8).fdiv 4 == 1 then "r" else "-", if ((((n : Int).fdiv 64).fmod 8).fdiv 2).fmod 2 == 1 then "w" else "-", (lastL 0).getD ((((n : Int).fdiv 64).fmod 8).fmod 2 + 2 * (((n : Int).fdiv 512).fdiv 4).fmod 2).toNat "",
     if (((n : Int).fdiv 8).fmod 8).fdiv 4 == 1 then "r" else "-", if ((((n : Int).fdiv 8).fmod 8).fdiv 2).fmod 2 == 1 then "w" else "-", (lastL 1).getD ((((n : Int).fdiv 8).fmod 8).fmod 2 + 2 * (((n : Int).fdiv 512).fdiv 2).fmod 2).toNat "",
     if (((n : Int).fdiv 1).fmod 8).fdiv 4 == 1 then "r" else "-", if ((((n : Int).fdiv 1).fmod 8).fdiv 2).fmod 2 == 1 then "w" else "-", (lastL 2).getD ((((n : Int).fdiv 1).fmod 8).fmod 2 + 2 * (((n : Int).fdiv 512).fdiv 1).fmod 2).toNat ""]
  have r0 : ((((n : Int).fdiv 64).fmod 8).fdiv 4 == 1) = _ := three_r n 64 256 8 (by decide) (by omega)
  have r1 : ((((n : Int).fdiv 8).fmod 8).fdiv 4 == 1) = _ := three_r n 8 32 5 (by decide) (by omega)
  have r2 : ((((n : Int).fdiv 1).fmod 8).fdiv 4 == 1) = _ := three_r n 1 4 2 (by decide) (by omega)
  have w0 : (((((n : Int).fdiv 64).fmod 8).fdiv 2).fmod 2 == 1) = _ := three_w n 64 128 7 (by decide) (by omega)
  have w1 : (((((n : Int).fdiv 8).fmod 8).fdiv 2).fmod 2 == 1) = _ := three_w n 8 16 4 (by decide) (by omega)
  have w2 : (((((n : Int).fdiv 1).fmod 8).fdiv 2).fmod 2 == 1) = _ := three_w n 1 2 1 (by decide) (by omega)
  have x0 : (((n : Int).fdiv 64).fmod 8).fmod 2 = _ := three_x n 64 64 6 (by decide) (by omega)
  have x1 : (((n : Int).fdiv 8).fmod 8).fmod 2 = _ := three_x n 8 8 3 (by decide) (by omega)
  have x2 : (((n : Int).fdiv 1).fmod 8).fmod 2 = _ := three_x n 1 1 0 (by decide) (by omega)
  have o0 : (((n : Int).fdiv 512).fdiv 4).fmod 2 = _ := three_o n 4 2048 11 (by decide) (by omega)
  have o1 : (((n : Int).fdiv 512).fdiv 2).fmod 2 = _ := three_o n 2 1024 10 (by decide) (by omega)
  have o2 : (((n : Int).fdiv 512).fdiv 1).fmod 2 = _ := three_o n 1 512 9 (by decide) (by omega)
  have f1 : fmSign (n : Int) 1 [(256, "r")] = _ := sign_one n 8 256 1 "r" (by decide) (by decide)
  have f2 : fmSign (n : Int) 2 [(128, "w")] = _ := sign_one n 7 128 2 "w" (by decide) (by decide)
  have f3 : fmSign (n : Int) 3 [(2112, "s"), (2048, "S"), (64, "x")] = _ := sign_three n 11 6 2112 2048 64 3 "s" "S" "x" (by decide) (by decide +kernel) (by decide +kernel) (by decide) (by decide)
  have f4 : fmSign (n : Int) 4 [(32, "r")] = _ := sign_one n 5 32 4 "r" (by decide) (by decide)
  have f5 : fmSign (n : Int) 5 [(16, "w")] = _ := sign_one n 4 16 5 "w" (by decide) (by decide)
  have f6 : fmSign (n : Int) 6 [(1032, "s"), (1024, "S"), (8, "x")] = _ := sign_three n 10 3 1032 1024 8 6 "s" "S" "x" (by decide) (by decide +kernel) (by decide +kernel) (by decide) (by decide)
  have f7 : fmSign (n : Int) 7 [(4, "r")] = _ := sign_one n 2 4 7 "r" (by decide) (by decide)
  have f8 : fmSign (n : Int) 8 [(2, "w")] = _ := sign_one n 1 2 8 "w" (by decide) (by decide)
  have f9 : fmSign (n : Int) 9 [(513, "t"), (512, "T"), (1, "x")] = _ := sign_three n 9 0 513 512 1 9 "t" "T" "x" (by decide) (by decide +kernel) (by decide +kernel) (by decide) (by decide)
  have l0 := last_of 0 "S" "s" rfl
  have l1 := last_of 1 "S" "s" rfl
  have l2 := last_of 2 "T" "t" rfl
  rw [hK, r0, r1, r2, w0, w1, w2, x0, x1, x2, o0, o1, o2, f1, f2, f3, f4, f5, f6, f7, f8, f9, l0, l1, l2]
end Mine
end

section
open PySem PySem.W PyProof.Rows
namespace Mine

/-! hosts and rules: finitely many -/
def lists2 (L : List Str) : List (List Str) := L.flatMap fun a => L.map fun b => [a, b]
def lists3 (L : List Str) : List (List Str) := L.flatMap fun a => (lists2 L).map fun l => a :: l
def hostsAll : List Str := (lists2 labL ++ lists3 labL).map (Txt.join ".")
def lowL : List Str := ["a", "b", "c2"]
def hostT : List (Str × List Str) := (lists2 lowL ++ lists3 lowL).map fun l => (Txt.join "." l, l)
def ruleT : List (Str × List Str) := hostT ++ (lowL.map (fun a => [a]) ++ lists2 lowL).map fun l => (Str.ofString "." ++ Txt.join "." l, Str.ofString "" :: l)
def dotted (r : Str) : Bool := Txt.slice r none (some 1) == "."
theorem lab_mem (x : Int) (k : Nat) : labelOf x k ∈ labL := by
  unfold labelOf
  obtain ⟨h1, h2⟩ := fmod_lt ((x.fdiv 16384).fdiv (4 ^ k)) (b := 4) (by decide)
  have h : (((x.fdiv 16384).fdiv (4 ^ k)).fmod 4).toNat < labL.length := by show _ < 4; omega
  rw [List.getD_eq_getElem?_getD, List.getElem?_eq_getElem h]
  exact List.getElem_mem _
theorem host_mem (x : Int) : hostOf x ∈ hostsAll := by
  unfold hostOf hostsAll
  refine List.mem_map.mpr ⟨_, ?_, rfl⟩
  have hc : countOf x = 2 ∨ countOf x = 3 := by
    obtain ⟨h1, h2⟩ := fmod_lt (x.fdiv 1048576) (b := 2) (by decide)
    unfold countOf; omega
  have two : ∀ a b, a ∈ labL → b ∈ labL → [a, b] ∈ lists2 labL := fun a b ha hb => List.mem_flatMap.mpr ⟨a, ha, List.mem_map.mpr ⟨b, hb, rfl⟩⟩
  rcases hc with e | e <;> rw [e]
  · exact List.mem_append.mpr (.inl (two _ _ (lab_mem x 0) (lab_mem x 1)))
  · exact List.mem_append.mpr (.inr (List.mem_flatMap.mpr ⟨_, lab_mem x 0, List.mem_map.mpr ⟨_, two _ _ (lab_mem x 1) (lab_mem x 2), rfl⟩⟩))
theorem rule_mem (x : Int) (host : Str) : ruleOf x host ∈ ruleL host := by
  unfold ruleOf
  obtain ⟨h1, h2⟩ := fmod_lt (x.fdiv 1024) (b := 3) (by decide)
  have h : ((x.fdiv 1024).fmod 3).toNat < (ruleL host).length := by show _ < 3; omega
  rw [List.getD_eq_getElem?_getD, List.getElem?_eq_getElem h]
  exact List.getElem_mem _

def labs : List (List Str) := lists2 labL ++ lists3 labL
def tails : List (List Str) := labL.map (fun a => [a]) ++ lists2 labL
def low1 (x : Str) : Str := if x == Str.ofString "B" then Str.ofString "b" else x
def dotJ (t : List Str) : Str := Str.ofString "." ++ Txt.join "." t
theorem d1 : labs.all (fun l => decide (Txt.lower (Txt.join "." l) = Txt.join "." (l.map low1))) = true := by decide +kernel
theorem d2 : labs.all (fun l => goodCut (Txt.join "." l)) = true := by decide +kernel
theorem d3 : labs.all (fun l => decide (Txt.split (Txt.join "." l) "." = l)) = true := by decide +kernel
theorem d4 : labs.all (fun l => !dotted (Txt.join "." l)) = true := by decide +kernel
theorem d5 : tails.all (fun t => decide (Txt.lower (dotJ t) = dotJ (t.map low1)) && goodCut (dotJ t) && decide (Txt.split (dotJ t) "." = Str.ofString "" :: t) && dotted (dotJ t)) = true := by decide +kernel
theorem d6 : ruleT.all (fun p => failsB p.1) = true := by decide +kernel
theorem d7 : ruleT.all (fun p => p.1.cps.toList.all fun c => [46, 97, 98, 99, 50].contains c) = true := by decide +kernel
theorem d8 : labs.all (fun l => (lists2 lowL ++ lists3 lowL).contains (l.map low1) && labs.contains (l.map low1) && tails.contains (l.drop 1) && tails.contains [l.getD (l.length - 1) ""]) = true := by decide +kernel
theorem d9 : tails.all (fun t => (lowL.map (fun a => [a]) ++ lists2 lowL).contains (t.map low1) && tails.contains (t.map low1)) = true := by decide +kernel
theorem d10 : labL.all (fun a => decide (Txt.join "." [a] = a)) = true := by decide +kernel
theorem d11 : hostT.all (fun p => p.2.getD 0 "" != Str.ofString "") = true := by decide +kernel

def namedP (h r : Str × List Str) : Bool :=
  if r.2.getD 0 "" == "" then decide (r.2.length ≤ h.2.length) && decide (h.2.drop (h.2.length - r.2.length + 1) = r.2.drop 1) else decide (h.2 = r.2)
def matchP (h r : Str) : Bool := if Txt.startswith r "." && Txt.endswith h r then true else !Txt.startswith r "." && (h == r)
def endP (h r : Str × List Str) : Bool :=
  if r.2.getD 0 "" == "" then decide (r.1.cps.toList.length ≤ h.1.cps.toList.length) && decide (h.1.cps.toList.drop (h.1.cps.toList.length - r.1.cps.toList.length) = r.1.cps.toList) else decide (h.1.cps.toList = r.1.cps.toList)
theorem e1 : hostT.all (fun h => ruleT.all fun r => matchP h.1 r.1 == namedP h r) = true := by decide +kernel
theorem e2 : hostT.all (fun h => ruleT.all fun r => endP h r == namedP h r) = true := by decide +kernel
end Mine
end

section
open PySem PySem.W PyProof.Rows
namespace Mine

/-! what stands in the heap when the top has run -/
def objIn (K : Frag) (a : Addr) : Obj := (K.lookup a).getD default
def fdOf (o : Obj) : FuncData := match o.data with
  | .func fd => fd
  | _ => Calls.docDef "" { posonlyargs := [], args := [], vararg := none, kwonlyargs := [], kw_defaults := [], kwarg := none, defaults := [] } [] { kind := .function, names := [], isGenerator := false, isCoroutine := false } .none .none .none
def wantF (K : Frag) (k : Nat) (a : Addr) : Obj :=
  { objIn K a with data := .func (Calls.docDef (fdOf (objIn K a)).name (paramsOf (stmtN k)) (bodyOf (stmtN k)) (scopeOf (stmtN k)) (fdOf (objIn K a)).pyModule (fdOf (objIn K a)).code (fdOf (objIn K a)).doc) }

/-- the special signs and their tokens -/
def escTab : List (Nat × Nat) := [(40, 371), (41, 377), (91, 383), (93, 389), (123, 395), (125, 401), (63, 407), (42, 413), (43, 419), (45, 425), (124, 431), (94, 437), (36, 443), (92, 449), (46, 455), (38, 461), (126, 467), (35, 473), (32, 479), (9, 485), (10, 491), (13, 497), (11, 503), (12, 509)]
def escEntry (p : Nat × Nat) : DictEntry := { hash := p.1, key := .int p.1 p.2, val := .str ⟨#[92, p.1]⟩ (p.2 + 4) }
def escF (c : Nat) : Option Str := if (escTab.map (·.1)).contains c then some ⟨#[92, c]⟩ else none
theorem escF_len (c : Nat) (x : Str) (h : escF c = some x) : x.length = 2 := by
  unfold escF at h
  split at h
  · cases h; rfl
  · cases h
def escFind (l : List (Nat × Nat)) (k : Int) : Option Value := findBy Value.isInt ((l.map escEntry).toArray) k
theorem escFind_cons (p : Nat × Nat) (l : List (Nat × Nat)) (c : Nat) : escFind (p :: l) c = if c = p.1 then some (.str ⟨#[92, p.1]⟩ (p.2 + 4)) else escFind l c := by
  unfold escFind findBy
  rw [List.find?_toArray, List.find?_toArray, List.map_cons, List.find?_cons]
  by_cases h : c = p.1
  · rw [if_pos h]
    have : Value.isInt (c : Int) (escEntry p).key = true := by simp [escEntry, Value.isInt, h]
    rw [this]
    rfl
  · rw [if_neg h]
    have : Value.isInt (c : Int) (escEntry p).key = false := by
      simp only [escEntry, Value.isInt]
      simp only [beq_eq_false_iff_ne]
      omega
    rw [this]
theorem escFind_mem (l : List (Nat × Nat)) (c : Nat) : if (l.map (·.1)).contains c then ∃ t, escFind l c = some (.str ⟨#[92, c]⟩ t) else escFind l c = none := by
  induction l with
  | nil => rfl
  | cons p l ih =>
    rw [List.map_cons, List.contains_cons, escFind_cons]
    by_cases h : c = p.1
    · subst h
      simp
    · have : (c == p.1) = false := beq_eq_false_iff_ne.mpr h
      rw [this, if_neg h, Bool.false_or]
      exact ih

def tupOf (o : Obj) : Option (List Value) := match o.data with
  | .seq vs _ => if o.cls == .type "tuple" then some vs.toList else none
  | _ => none
def intIs (j : Int) : Value → Bool
  | .int i _ => i == j
  | _ => false
def strIs (y : Str) : Value → Bool
  | .str x _ => x == y
  | _ => false
def tupAt (K : Frag) : Value → Option (List Value)
  | .ref a => (K.lookup a).bind tupOf
  | _ => none
mutual
def relB (K : Frag) : D → Value → Bool
  | .int j, v => intIs j v
  | .str y, v => strIs y v
  | .tup ds, v => match tupAt K v with
    | some vs => relAllB K ds vs
    | none => false
  | _, _ => false
def relAllB (K : Frag) : List D → List Value → Bool
  | [], vs => vs.isEmpty
  | d :: ds, vs => match vs with
    | v :: vs => relB K d v && relAllB K ds vs
    | [] => false
end
theorem tupOf_ok {K : Frag} {h : Heap} (X : K.In h) {a : Addr} {vs : List Value} (e : (K.lookup a).bind tupOf = some vs) : h.IsTuple a vs.toArray := by
  cases ho : K.lookup a with
  | none => rw [ho] at e; cases e
  | some o =>
    rw [ho] at e
    have e : tupOf o = some vs := e
    unfold tupOf at e
    split at e
    · rename_i ws n hd
      split at e
      · rename_i hc
        cases e
        exact ⟨o, X _ _ ho, beq_iff_eq.mp hc, n, hd⟩
      · cases e
    · cases e
mutual
theorem relB_ok {K : Frag} {h : Heap} (X : K.In h) : ∀ (d : D) (v : Value), relB K d v = true → Rel Any h v d
  | .int j, v, e => by
    rw [relB] at e
    cases v <;> first | cases e | skip
    rw [← beq_iff_eq.mp e]; exact .int _ _
  | .str y, v, e => by
    rw [relB] at e
    cases v <;> first | cases e | skip
    rw [← beq_iff_eq.mp e]; exact .str _ _
  | .tup ds, v, e => by
    rw [relB] at e
    split at e
    · rename_i vs hv
      cases v <;> first | cases hv | skip
      exact .tup trivial (tupOf_ok X hv) (relAllB_ok X ds vs e)
    · cases e
  | .none, v, e => by rw [relB] at e <;> first | cases e | (intros; contradiction)
  | .bool b, v, e => by rw [relB] at e <;> first | cases e | (intros; contradiction)
  | .list b, v, e => by rw [relB] at e <;> first | cases e | (intros; contradiction)
  | .plain b, v, e => by rw [relB] at e <;> first | cases e | (intros; contradiction)
  | .raw b, v, e => by rw [relB] at e <;> first | cases e | (intros; contradiction)
theorem relAllB_ok {K : Frag} {h : Heap} (X : K.In h) : ∀ (ds : List D) (vs : List Value), relAllB K ds vs = true → RelAll Any h vs ds
  | [], vs, e => by
    cases vs with
    | nil => exact .nil
    | cons v vs => rw [relAllB] at e; cases e
  | d :: ds, vs, e => by
    cases vs with
    | nil => rw [relAllB] at e; cases e
    | cons v vs =>
      rw [relAllB] at e
      obtain ⟨e1, e2⟩ := Bool.and_eq_true_iff.mp e
      exact .cons (relB_ok X d v e1) (relAllB_ok X ds vs e2)
end

/-- the closed facts of what the top has left -/
structure KOk (K : Frag) : Prop where
  g : (gtab.map fun p => nsIn K mainGlobals p.1) = gtab.map fun p => some (some p.2)
  b : (btab.map fun p => nsIn K mainGlobals p.1) = btab.map fun _ => some none
  f : (ftab.map fun p => K.lookup p.2) = ftab.map fun p => some (wantF K p.1 p.2)
  c : (ftab.all fun p => codeIn K (fdOf (objIn K p.2)).code (fdOf (objIn K p.2)).name) = true
  tab : relB K fmD (.ref 114) = true
  re36 : K.lookup 36 = some (objIn K 36)
  reC : (objIn K 36).cls = .type "re.Pattern"
  reD : (objIn K 36).dict = none
  reV : ∃ vs, (objIn K 36).data = .fields vs ∧ PySem.Builtin.Re.reRawNat (vs.getD 6 .none) = 0 ∧ PySem.Builtin.Re.reRawNat (vs.getD 2 .none) = 0 ∧ vs.getD 5 .none = .ref 35
  re35 : K.lookup 35 = some (objIn K 35)
  reW : ∃ items n, (objIn K 35).data = .seq items n ∧ (items.map PySem.Builtin.Re.reRawOf).map (·.toNat) = reCode
  mp : K.lookup 57 = some { cls := .type "dict", data := .dict ((escTab.map escEntry).toArray) 24 }

theorem boot_ok : ∀ p ∈ btab, bootBuiltins p.1 = some p.2 := by
  intro p hp
  simp only [btab, List.mem_cons, List.not_mem_nil, or_false] at hp
  rcases hp with rfl | rfl | rfl | rfl | rfl | rfl | rfl <;> first | boot_fast | kernel_rfl

section
variable {K : Frag} {h : Heap} {p : Program} {loose : List Str} {mg mb : Str → Option Value}
theorem KOk.gm (k : KOk K) (X : K.In h) (T : TopRead p loose mg mb h) : Gm h := by
  refine ⟨T.nolimit, fun x v hm => ⟨mg, T.g, mg_of X T.g (List.map_inj_left.mp k.g (x, v) hm)⟩, fun x v hm => ⟨mg, mb, T.g, mg_none_of X T.g (List.map_inj_left.mp k.b (x, v) hm), T.b, ?_⟩, fun i a hm => ⟨T.nolimit, ?_⟩⟩
  · refine (T.builtins x ?_).trans (boot_ok (x, v) hm)
    simp only [btab, List.mem_cons, List.not_mem_nil, or_false, Prod.mk.injEq] at hm
    rcases hm with ⟨rfl, _⟩ | ⟨rfl, _⟩ | ⟨rfl, _⟩ | ⟨rfl, _⟩ | ⟨rfl, _⟩ | ⟨rfl, _⟩ | ⟨rfl, _⟩ <;> decide +kernel
  · exact ⟨_, _, _, _, _, X _ _ (List.map_inj_left.mp k.f (i, a) hm), rfl, codeRec_of X (List.all_eq_true.mp k.c (i, a) hm)⟩
theorem KOk.tabAt (k : KOk K) (X : K.In h) : TabAt h := relB_ok X _ _ k.tab
theorem KOk.reAt (k : KOk K) (X : K.In h) : ReAt h := by
  obtain ⟨vs, e1, e2, e3, e4⟩ := k.reV
  obtain ⟨items, n, f1, f2⟩ := k.reW
  exact ⟨_, vs, _, items, n, X _ _ k.re36, k.reC, k.reD, e1, e2, e3, e4, X _ _ k.re35, f1, f2⟩
theorem KOk.mapAt (k : KOk K) (X : K.In h) (prog : Program) (w : World) : MapAt prog w h escF := by
  refine ⟨escFind escTab, ⟨_, _, _, X _ _ k.mp, ⟨rfl, rfl, rfl⟩, rfl, ?_, fun _ => rfl⟩, fun c => ?_⟩
  · intro e he
    have he : e ∈ escTab.map escEntry := by simpa using he
    obtain ⟨p, hp, rfl⟩ := List.mem_map.mp he
    refine ⟨p.1, by simp [intKind, escEntry, Value.isInt], ?_⟩
    show (p.1 : Int) = hashInt p.1
    have : ∀ p ∈ escTab, (p.1 : Int) = hashInt p.1 := by decide +kernel
    exact this p hp
  · have := escFind_mem escTab c
    unfold escF
    split
    · rename_i h
      split at h
      · cases h
      · rename_i hc
        rw [if_neg hc] at this
        exact this
    · rename_i x h
      split at h
      · rename_i hc
        cases h
        rw [if_pos hc] at this
        exact this
      · cases h
end
end Mine
end

section
open PySem PySem.W PyProof.Rows
namespace Mine
theorem ints_rel {P : Addr → Prop} {h : Heap} : ∀ {vs : List Value} {ns : List Int}, IntsAre vs ns → RelAll P h vs (ns.map .int)
  | _, _, .nil => .nil
  | _, _, .cons n t r => .cons (.int n t) (ints_rel r)
theorem callerA_ok : Okay callerA 20 := ⟨rfl, by decide +kernel, by decide +kernel⟩
theorem finish {K : Frag} {s : Shared} {p : Program} {loose : List Str} {mg mb : Str → Option Value} {fs : Int → Int → List Str} {es : Int → Int → Option (List Str)} (ko : KOk K) (X : K.In s.heap) (T : TopRead p loose mg mb s.heap) (pf : PlainOk escF fs es)
    {fa l : Addr} (hmg : mg (Str.ofString "law") = some (.ref fa)) {vs : List Value} {xs : List Int} (hL : s.heap.IsList l vs.toArray) (hI : IntsAre vs xs) (hlen : xs.length ≤ 63)
    {prog : Program} {w : World} {Q E : Value → Shared → Prop} (q : ∀ s', Kp s s' → Q (.bool true) s') : wpAny (model prog w) callerA (call (.ref fa) [.ref l]) Q E s := by
  have e : mg (Str.ofString "law") = some (.ref 176) := mg_of X T.g (List.map_inj_left.mp ko.g (Str.ofString "law", .ref 176) (by simp [gtab]))
  rw [hmg] at e
  cases e
  refine (c_law (k := 14) (ko.gm X T) (ko.tabAt X) (ko.reAt X) (fun prog w => ko.mapAt X prog w) escF_len pf callerA_ok xs hlen).run s [.ref l] _ _ (fun _ _ e => e) (.cons (.list trivial hL (ints_rel hI)) .nil) fun v s' k r => ?_
  cases r
  exact q s' k
theorem good {c : ClaimW} {cl : Str → Option Addr} {mean : ExcName → Option Value} {args : List WData} {s s' : Shared} (k : Kp s s') (hg : s.gens = #[]) (h1 : ∀ cls, c.raises args cls = false) (h2 : c.post args (.bool true) args = true) :
    GoodWG c cl mean args s (.ok (.ret (.bool true))) s' := by
  obtain ⟨h', tk, e, hk⟩ := k
  refine ⟨.inl ⟨_, .bool true, [], rfl, h1, .bool true, h2, fun _ => ⟨List.nodup_nil, fun _ h => nomatch h⟩⟩, .of_keep ?_, by rw [e], .of_eq (by rw [e]; exact hg)⟩
  rw [e]
  exact hk
end Mine
end

section
open PySem PySem.W PyProof.Rows
namespace Mine

def ch (c : Nat) : Str := ⟨#[c]⟩
theorem join_ch : ∀ cs : List Nat, Txt.join "" (cs.map ch) = ⟨cs.toArray⟩ := by
  intro cs
  show Builtin.Str.glued _ _ = _
  rw [StrLaws.glued_eq_join]
  induction cs with
  | nil => rfl
  | cons c r ih =>
    cases r with
    | nil => rfl
    | cons d r =>
      show ch c ++ Str.ofString "" ++ Str.join "" ((d :: r).map ch) = _
      rw [ih]
      show (⟨(#[c] ++ #[]) ++ (d :: r).toArray⟩ : Str) = ⟨(c :: d :: r).toArray⟩
      congr 1
      simp
def signC : List Nat := [45, 100, 108, 115, 114, 119, 120, 83, 84, 116]
theorem sg_mem (z : Int) : ∀ a ∈ sgOf z, a ∈ signC.map ch := by
  have hk : kindS (numberOf z) ∈ signC.map ch := by
    unfold kindS
    split
    · decide +kernel
    · split
      · decide +kernel
      · split <;> decide +kernel
  have ht : ∀ k, k < 3 → ∀ a ∈ tripleOf (numberOf z) k, a ∈ signC.map ch := by
    intro k hk a ha
    unfold tripleOf at ha
    simp only [List.mem_cons, List.not_mem_nil, or_false] at ha
    rcases ha with rfl | rfl | rfl
    · split <;> decide +kernel
    · split <;> decide +kernel
    · obtain ⟨h1, h2⟩ := fmod_lt (threeOf (numberOf z) k) (b := 2) (by decide)
      obtain ⟨h3, h4⟩ := fmod_lt (((numberOf z).fdiv 512).fdiv (2 ^ (2 - k))) (b := 2) (by decide)
      have h3' : 0 ≤ ownOf (numberOf z) k := h3
      have h4' : ownOf (numberOf z) k < 2 := h4
      have hi : ((threeOf (numberOf z) k).fmod 2 + 2 * ownOf (numberOf z) k).toNat < 4 := by omega
      have all : ∀ k < 3, ∀ i < 4, (lastL k).getD i "" ∈ signC.map ch := by decide +kernel
      exact all k hk _ hi
  intro a ha
  unfold sgOf signsOf at ha
  have ha : a ∈ (([kindS (numberOf z)] ++ tripleOf (numberOf z) 0) ++ tripleOf (numberOf z) 1) ++ tripleOf (numberOf z) 2 := ha
  simp only [List.mem_append, List.mem_singleton] at ha
  rcases ha with ((rfl | h) | h) | h
  · exact hk
  · exact ht 0 (by decide) a h
  · exact ht 1 (by decide) a h
  · exact ht 2 (by decide) a h
def sgc (z : Int) : List Nat := (sgOf z).map fun s => s.cps.toList.headD 0
theorem sgc_mem (z : Int) : ∀ c ∈ sgc z, c ∈ signC := by
  intro c hc
  obtain ⟨a, ha, rfl⟩ := List.mem_map.mp hc
  have := sg_mem z a ha
  obtain ⟨d, hd, rfl⟩ := List.mem_map.mp this
  exact hd
theorem sgc_eq (z : Int) : sgOf z = (sgc z).map ch := by
  unfold sgc
  rw [List.map_map]
  have : ∀ a ∈ sgOf z, a = (ch ∘ fun s : Str => s.cps.toList.headD 0) a := by
    intro a ha
    obtain ⟨d, hd, rfl⟩ := List.mem_map.mp (sg_mem z a ha)
    rfl
  conv => lhs; rw [← List.map_id (sgOf z)]
  exact List.map_congr_left fun a ha => this a ha
theorem sgc_len (z : Int) : (sgc z).length = 10 := by
  unfold sgc
  rw [List.length_map]
  exact signsUpto_len _ 3

/-! hosts and rules -/
structure HostI (h : Str) (p : Str × List Str) : Prop where
  mem : p ∈ hostT
  low : Txt.lower h = p.1
  cut : Txt.split p.1 "." = p.2
  g1 : goodCut h = true
  g2 : goodCut p.1 = true
structure RuleI (r : Str) (p : Str × List Str) : Prop where
  mem : p ∈ ruleT
  low : Txt.lower r = p.1
  cut : Txt.split p.1 "." = p.2
  g1 : goodCut r = true
  g2 : goodCut p.1 = true
  dot : dotted r = (p.2.getD 0 "" == "")
theorem contains_mem {α : Type} [BEq α] [LawfulBEq α] {l : List α} {a : α} (h : l.contains a = true) : a ∈ l := List.contains_iff_mem.mp h
theorem labs_info {l : List Str} (hl : l ∈ labs) : HostI (Txt.join "." l) (Txt.join "." (l.map low1), l.map low1) := by
  have h8 := List.all_eq_true.mp d8 l hl
  simp only [Bool.and_eq_true] at h8
  have hm := contains_mem h8.1.1.1
  have hm2 := contains_mem h8.1.1.2
  exact ⟨List.mem_map.mpr ⟨_, hm, rfl⟩, of_decide_eq_true (List.all_eq_true.mp d1 l hl), of_decide_eq_true (List.all_eq_true.mp d3 _ hm2), List.all_eq_true.mp d2 l hl, List.all_eq_true.mp d2 _ hm2⟩
theorem host_labs (z : Int) : ∃ l ∈ labs, hostOf z = Txt.join "." l := by
  obtain ⟨l, hl, e⟩ := List.mem_map.mp (host_mem z)
  exact ⟨l, hl, e.symm⟩
theorem host_info (z : Int) : ∃ p, HostI (hostOf z) p := by
  obtain ⟨l, hl, e⟩ := host_labs z
  rw [e]
  exact ⟨_, labs_info hl⟩
theorem tails_info {t : List Str} (ht : t ∈ tails) : RuleI (dotJ t) (dotJ (t.map low1), Str.ofString "" :: t.map low1) := by
  have h9 := List.all_eq_true.mp d9 t ht
  simp only [Bool.and_eq_true] at h9
  have hm := contains_mem h9.1
  have hm2 := contains_mem h9.2
  have h5 := List.all_eq_true.mp d5 t ht
  have h5' := List.all_eq_true.mp d5 _ hm2
  simp only [Bool.and_eq_true, decide_eq_true_eq] at h5 h5'
  refine ⟨List.mem_append.mpr (.inr (List.mem_map.mpr ⟨_, hm, rfl⟩)), h5.1.1.1, h5'.1.2, h5.1.1.2, h5'.1.1.2, ?_⟩
  rw [h5.2]
  show true = (Str.ofString "" == Str.ofString "")
  decide +kernel
theorem rule_info (x y : Int) : ∃ p, RuleI (rulOf x y) p := by
  obtain ⟨l, hl, e⟩ := host_labs y
  have hm := rule_mem x (hostOf y)
  show ∃ p, RuleI (ruleOf x (hostOf y)) p
  generalize ruleOf x (hostOf y) = r at hm
  have h3 : Txt.split (Txt.join "." l) "." = l := of_decide_eq_true (List.all_eq_true.mp d3 l hl)
  have h8 := List.all_eq_true.mp d8 l hl
  simp only [Bool.and_eq_true] at h8
  unfold ruleL at hm
  rw [e, h3] at hm
  simp only [List.mem_cons, List.not_mem_nil, or_false] at hm
  rcases hm with rfl | rfl | rfl
  · have i := labs_info hl
    have h4 := List.all_eq_true.mp d4 l hl
    have h11 := List.all_eq_true.mp d11 _ i.mem
    refine ⟨_, List.mem_append.mpr (.inl i.mem), i.low, i.cut, i.g1, i.g2, ?_⟩
    have h4 : dotted (Txt.join "." l) = false := by simpa using h4
    rw [h4]
    have h11 : (!((l.map low1).getD 0 "" == Str.ofString "")) = true := h11
    have := Bool.not_eq_true' _ ▸ h11
    simpa using this.symm
  · exact ⟨_, tails_info (contains_mem h8.1.2)⟩
  · have ht := contains_mem h8.2
    have i := tails_info ht
    have hlast : Txt.join "." [l.getD (l.length - 1) ""] = l.getD (l.length - 1) "" := by
      have all : tails.all (fun t => !decide (t.length = 1) || decide (Txt.join "." t = t.getD 0 "")) = true := by decide +kernel
      have := List.all_eq_true.mp all _ ht
      simpa using this
    unfold dotJ at i
    rw [hlast] at i
    exact ⟨_, i⟩
end Mine
end

section
open PySem PySem.W PyProof.Rows
namespace Mine

theorem str_ext {a b : Str} (h : a.cps.toList = b.cps.toList) : a = b := by
  obtain ⟨⟨a⟩⟩ := a
  obtain ⟨⟨b⟩⟩ := b
  have h : a = b := h
  rw [h]
theorem app_cps (a b : Str) : (a ++ b).cps.toList = a.cps.toList ++ b.cps.toList := by
  show (a.cps ++ b.cps).toList = _
  simp
theorem len_cps (a : Str) : a.length = a.cps.toList.length := by show a.cps.size = _; simp
theorem sp_cps : (Str.ofString " ").cps.toList = [32] := by decide +kernel
theorem any_slice (x : Str) (j : Nat) (h : j ≤ x.cps.toList.length) : Txt.slice x none (some (j : Int)) = ⟨(x.cps.toList.take j).toArray⟩ := by
  have := beq_iff_eq.mp (slice_closes_toL (x := x) (j := (j : Int)) (by omega) (by rw [len_cps]; omega))
  rw [this]
  simp

/-! the pattern's signs -/
def shc (x : Int) (cs : List Nat) : List Nat := (List.range 10).map fun k => if bitOf x k then cs.getD k 0 else 63
theorem shown_eq (x : Int) (cs : List Nat) (h : cs.length = 10) : shownL x (cs.map ch) = (shc x cs).map ch := by
  unfold shownL shc
  rw [List.map_map]
  refine List.map_congr_left fun k hk => ?_
  have hk : k < cs.length := by rw [h]; exact List.mem_range.mp hk
  show (if bitOf x k = true then (cs.map ch).getD k (Str.ofString "") else Str.ofString "?") = ch (if bitOf x k = true then cs.getD k 0 else 63)
  cases bitOf x k with
  | true =>
    rw [if_pos rfl, if_pos rfl, List.getD_eq_getElem?_getD, List.getD_eq_getElem?_getD, List.getElem?_map, List.getElem?_eq_getElem hk]
    rfl
  | false => rw [if_neg Bool.false_ne_true, if_neg Bool.false_ne_true]; decide +kernel
theorem shc_mem (x : Int) (cs : List Nat) (h : cs.length = 10) (hc : ∀ c ∈ cs, c ∈ signC) : ∀ c ∈ shc x cs, c = 63 ∨ c ∈ signC := by
  intro c hm
  obtain ⟨k, hk, rfl⟩ := List.mem_map.mp hm
  have hk : k < cs.length := by rw [h]; exact List.mem_range.mp hk
  cases bitOf x k with
  | true =>
    rw [if_pos rfl, List.getD_eq_getElem?_getD, List.getElem?_eq_getElem hk]
    exact .inr (hc _ (List.getElem_mem _))
  | false => exact .inl rfl
theorem shc_len (x : Int) (cs : List Nat) : (shc x cs).length = 10 := by unfold shc; rw [List.length_map, List.length_range]
/-- the rule's signs, in small letters -/
def rc (x y : Int) : List Nat := (Txt.lower (rulOf x y)).cps.toList
def hc (z : Int) : List Nat := (Txt.lower (hostOf z)).cps.toList
def domC : List Nat := [46, 97, 98, 99, 50]
theorem rc_mem (x y : Int) : ∀ c ∈ rc x y, c ∈ domC := by
  obtain ⟨p, i⟩ := rule_info x y
  unfold rc
  rw [i.low]
  intro c hc
  have := List.all_eq_true.mp (List.all_eq_true.mp d7 p i.mem) c hc
  exact contains_mem this
theorem hc_mem (z : Int) : ∀ c ∈ hc z, c ∈ domC := by
  obtain ⟨p, i⟩ := host_info z
  unfold hc
  rw [i.low]
  intro c hc
  have := List.all_eq_true.mp (List.all_eq_true.mp d7 p (List.mem_append.mpr (.inl i.mem))) c hc
  exact contains_mem this
theorem pat_cps (x y : Int) : (patOf x y).cps.toList = ((shc x (sgc y) ++ [32]) ++ (if dotted (rulOf x y) then [42, 42] else [])) ++ rc x y := by
  unfold patOf patternOf
  rw [app_cps, app_cps, app_cps, sgc_eq, shown_eq _ _ (sgc_len y), join_ch, sp_cps]
  have : (if (Txt.slice (rulOf x y) none (some 1) == Str.ofString ".") = true then Str.ofString "**" else Str.ofString "").cps.toList = if dotted (rulOf x y) then [42, 42] else [] := by
    unfold dotted
    cases (Txt.slice (rulOf x y) none (some 1) == Str.ofString ".")
    · decide +kernel
    · decide +kernel
  rw [this]
  rfl

/-! translate of a pattern -/
def trS (c : Nat) : Str := if c = 63 then Str.ofString "any" else (escF c).getD (ch c)
def patC : List Nat := 63 :: 32 :: signC ++ domC
def rowC : List Nat := 32 :: signC ++ domC
theorem step_plain (acc : List (Option Str)) (c : Nat) (h : c ∈ patC) : trStep escF acc c = acc ++ [some (trS c)] := by
  have h1 : ((⟨#[c]⟩ : Str) == Str.ofString "*") = false := by
    have all : ∀ c ∈ patC, ((⟨#[c]⟩ : Str) == Str.ofString "*") = false := by decide +kernel
    exact all c h
  have h2 : ((⟨#[c]⟩ : Str) == Str.ofString "?") = decide (c = 63) := by
    have all : ∀ c ∈ patC, ((⟨#[c]⟩ : Str) == Str.ofString "?") = decide (c = 63) := by decide +kernel
    exact all c h
  unfold trStep trS
  rw [h1, h2, if_neg Bool.false_ne_true]
  by_cases h3 : c = 63
  · rw [if_pos (decide_eq_true h3), if_pos h3]
  · rw [if_neg (by rw [decide_eq_false h3]; decide), if_neg h3]; rfl
theorem fold_plain : ∀ (l : List Nat) (acc : List (Option Str)), (∀ c ∈ l, c ∈ patC) → l.foldl (trStep escF) acc = acc ++ (l.map trS).map some
  | [], acc, _ => by simp
  | c :: l, acc, h => by
    rw [List.foldl_cons, step_plain acc c (h c List.mem_cons_self), fold_plain l _ fun d hd => h d (List.mem_cons_of_mem _ hd)]
    simp
theorem step_star (acc : List (Option Str)) (x : Str) : trStep escF (acc ++ [some x]) 42 = acc ++ [some x, none] := by
  have h1 : ((⟨#[42]⟩ : Str) == Str.ofString "*") = true := by decide +kernel
  unfold trStep
  rw [if_pos h1, if_pos (by simp)]
  simp
theorem step_star2 (acc : List (Option Str)) : trStep escF (acc ++ [none]) 42 = acc ++ [none] := by
  have h1 : ((⟨#[42]⟩ : Str) == Str.ofString "*") = true := by decide +kernel
  unfold trStep
  rw [if_pos h1, if_neg (by simp)]

def frontC (x y : Int) : List Nat := shc x (sgc y) ++ [32]
def fsOf (x y : Int) : List Str := if dotted (rulOf x y) then (frontC x y).map trS else (frontC x y ++ rc x y).map trS
def esOf (x y : Int) : Option (List Str) := if dotted (rulOf x y) then some ((rc x y).map trS) else none
theorem front_mem (x y : Int) : ∀ c ∈ frontC x y, c ∈ patC := by
  intro c hc
  rcases List.mem_append.mp hc with h | h
  · rcases shc_mem x _ (sgc_len y) (sgc_mem y) c h with rfl | h
    · decide
    · unfold patC; simp [h]
  · rw [List.mem_singleton.mp h]; decide
theorem rc_pat (x y : Int) : ∀ c ∈ rc x y, c ∈ patC := fun c h => by unfold patC; simp [rc_mem x y c h]
theorem tr_eq (x y : Int) : trOf escF (patOf x y) = partsD (fsOf x y) (esOf x y) := by
  unfold trOf
  rw [pat_cps]
  unfold fsOf esOf
  show List.foldl (trStep escF) [] ((frontC x y ++ _) ++ rc x y) = _
  cases dotted (rulOf x y) with
  | false =>
    rw [if_neg Bool.false_ne_true, if_neg Bool.false_ne_true, if_neg Bool.false_ne_true, List.append_nil, fold_plain _ _ (fun c hc => (List.mem_append.mp hc).elim (front_mem x y c) (rc_pat x y c))]
    rfl
  | true =>
    rw [if_pos rfl, if_pos rfl, if_pos rfl, List.foldl_append, List.foldl_append, fold_plain _ _ (front_mem x y)]
    unfold frontC
    rw [List.map_append, List.map_append, List.foldl_cons, List.foldl_cons, List.foldl_nil, List.nil_append]
    show List.foldl _ (trStep escF (trStep escF (_ ++ [some (trS 32)]) 42) 42) _ = _
    rw [step_star, show ∀ l : List (Option Str), l ++ [some (trS 32), none] = (l ++ [some (trS 32)]) ++ [none] from fun l => by simp, step_star2, fold_plain _ _ (rc_pat x y)]
    unfold partsD starP
    simp
end Mine
end

section
open PySem PySem.W PyProof.Rows
namespace Mine

def okC (p : Nat × Nat) : Bool := p.1 == 63 || p.1 == p.2
theorem bad_ok : (patC.all fun p => rowC.all fun c => badB (trS p, ch c) == !okC (p, c)) = true := by decide +kernel
theorem fitB_any (ps ss : List Str) : fitB ps ss = !(ps.zip ss).any badB := by
  unfold fitB
  rw [Bool.eq_iff_iff, decide_eq_true_eq, List.map_eq_nil_iff, List.filter_eq_nil_iff, Bool.not_eq_true', List.any_eq_false]
theorem fit_ok : ∀ (ps cs : List Nat), (∀ c ∈ ps, c ∈ patC) → (∀ c ∈ cs, c ∈ rowC) → fitB (ps.map trS) (cs.map ch) = (ps.zip cs).all okC := by
  intro ps cs hp hc
  rw [fitB_any]
  induction ps generalizing cs with
  | nil => rfl
  | cons p ps ih =>
    cases cs with
    | nil => rfl
    | cons c cs =>
      rw [List.map_cons, List.map_cons, List.zip_cons_cons, List.zip_cons_cons, List.any_cons, List.all_cons, Bool.not_or, ih cs (fun d hd => hp d (List.mem_cons_of_mem _ hd)) fun d hd => hc d (List.mem_cons_of_mem _ hd)]
      have := beq_iff_eq.mp (List.all_eq_true.mp (List.all_eq_true.mp bad_ok p (hp p List.mem_cons_self)) c (hc c List.mem_cons_self))
      rw [this, Bool.not_not]
theorem zip_eq : ∀ (r h : List Nat), (∀ c ∈ r, c ≠ 63) → ((r.length == h.length) && (r.zip h).all okC) = decide (h = r)
  | [], [], _ => rfl
  | [], _ :: _, _ => rfl
  | _ :: _, [], _ => by simp
  | a :: r, b :: h, hr => by
    have ih := zip_eq r h fun c hc => hr c (List.mem_cons_of_mem _ hc)
    have ha : (a == 63) = false := beq_eq_false_iff_ne.mpr (hr a List.mem_cons_self)
    have e1 : ((a :: r).length == (b :: h).length) = (r.length == h.length) := by
      rw [Bool.eq_iff_iff]; simp
    rw [e1, List.zip_cons_cons, List.all_cons]
    have e2 : okC (a, b) = (a == b) := by unfold okC; simp only [ha, Bool.false_or]
    rw [e2, Bool.and_left_comm, ih, Bool.eq_iff_iff]
    simp only [Bool.and_eq_true, beq_iff_eq, decide_eq_true_eq, List.cons.injEq]
    constructor
    · rintro ⟨h1, h2⟩; exact ⟨h1.symm, h2⟩
    · rintro ⟨h1, h2⟩; exact ⟨h1.symm, h2⟩
theorem rc_63 (x y : Int) : ∀ c ∈ rc x y, c ≠ 63 := fun c h => by
  have all : ∀ c ∈ domC, c ≠ 63 := by decide
  exact all c (rc_mem x y c h)

/-! the rows -/
def rwc (z : Int) : List Nat := (sgc z ++ [32]) ++ hc z
theorem row_cps (z : Int) : (rowOf z).cps.toList = rwc z := by
  unfold rowOf rwc hc
  rw [app_cps, app_cps, fm_eq, sgc_eq, join_ch, sp_cps]
theorem signs_of (x : Str) : signs x = x.cps.toList.map ch := rfl
theorem rwc_mem (z : Int) : ∀ c ∈ rwc z, c ∈ rowC := by
  intro c h
  unfold rowC
  rcases List.mem_append.mp h with h | h
  · rcases List.mem_append.mp h with h | h
    · simp [sgc_mem z c h]
    · simp [List.mem_singleton.mp h]
  · simp [hc_mem z c h]
theorem rwc_len (z : Int) : (rwc z).length = 11 + (hc z).length := by
  unfold rwc; rw [List.length_append, List.length_append, sgc_len]; rfl
theorem row_len (z : Int) : (rowOf z).length = 11 + (hc z).length := by rw [len_cps, row_cps, rwc_len]

theorem range_list (l : List Nat) (h : l.length = 10) : l = (List.range 10).map fun k => l.getD k 0 := by
  refine List.ext_getElem? fun k => ?_
  rw [List.getElem?_map]
  by_cases hk : k < 10
  · rw [List.getElem?_range hk, List.getElem?_eq_getElem (by omega), Option.map_some, List.getD_eq_getElem?_getD, List.getElem?_eq_getElem (by omega)]; rfl
  · rw [List.getElem?_eq_none (by omega), List.getElem?_eq_none (by rw [List.length_range]; omega)]; rfl
theorem alike_eq (x : Int) (cz cy : List Nat) (hz : cz.length = 10) (hy : cy.length = 10) (my : ∀ c ∈ cy, c ∈ signC) : alikeB x (cz.map ch) (cy.map ch) = ((shc x cy).zip cz).all okC := by
  have e : (shc x cy).zip cz = (List.range 10).map fun k => (if bitOf x k then cy.getD k 0 else 63, cz.getD k 0) := by
    conv => lhs; rw [range_list cz hz]
    unfold shc
    rw [zip_maps]
  rw [e, List.all_map]
  unfold alikeB
  rw [Bool.eq_iff_iff, decide_eq_true_eq, List.map_eq_nil_iff, List.filter_eq_nil_iff, List.all_eq_true]
  have key : ∀ k ∈ List.range 10, (¬ (bitOf x k && ((cz.map ch).getD k (Str.ofString "") != (cy.map ch).getD k (Str.ofString ""))) = true) ↔ (okC ∘ fun k => (if bitOf x k then cy.getD k 0 else 63, cz.getD k 0)) k = true := by
    intro k hk
    have hk : k < 10 := List.mem_range.mp hk
    have g : ∀ (l : List Nat), l.length = 10 → (l.map ch).getD k (Str.ofString "") = ch (l.getD k 0) := fun l hl => by
      rw [List.getD_eq_getElem?_getD, List.getD_eq_getElem?_getD, List.getElem?_map, List.getElem?_eq_getElem (by omega)]; rfl
    rw [g cz hz, g cy hy]
    show _ ↔ okC (if bitOf x k then cy.getD k 0 else 63, cz.getD k 0) = true
    have hm : cy.getD k 0 ∈ signC := by
      rw [List.getD_eq_getElem?_getD, List.getElem?_eq_getElem (by omega)]; exact my _ (List.getElem_mem _)
    generalize cy.getD k 0 = a at *
    generalize cz.getD k 0 = b
    have ha : a ≠ 63 := by
      have all : ∀ c ∈ signC, c ≠ 63 := by decide
      exact all a hm
    cases bitOf x k with
    | false =>
      simp [okC]
    | true =>
      have hc : (ch b != ch a) = true ↔ b ≠ a := by
        rw [bne_iff_ne]
        constructor
        · rintro h rfl; exact h rfl
        · intro h e
          have : (#[b] : Array Nat) = #[a] := congrArg Str.cps e
          simp at this
          exact h this
      rw [Bool.true_and, hc]
      simp only [okC, if_true, Bool.or_eq_true, beq_iff_eq]
      constructor
      · intro h; exact .inr (Decidable.not_not.mp h).symm
      · rintro (h | h)
        · exact absurd h ha
        · exact fun h' => h' h.symm
  constructor
  · intro h k hk; exact (key k hk).mp (h k hk)
  · intro h k hk; exact (key k hk).mpr (h k hk)

theorem zip_app {α β : Type} : ∀ (a : List α) (b : List β) (c : List α) (d : List β), a.length = b.length → (a ++ c).zip (b ++ d) = a.zip b ++ c.zip d
  | [], [], _, _, _ => rfl
  | [], _ :: _, _, _, h => by simp at h
  | _ :: _, [], _, _, h => by simp at h
  | x :: a, y :: b, c, d, h => by
    rw [List.cons_append, List.cons_append, List.zip_cons_cons, List.zip_cons_cons, zip_app a b c d (by simpa using h)]; rfl
theorem front_zip (x y z : Int) : ((frontC x y).zip (sgc z ++ [32])).all okC = alikeB x (sgOf z) (sgOf y) := by
  unfold frontC
  rw [zip_app _ _ _ _ (by rw [shc_len, sgc_len]), List.all_append, sgc_eq z, sgc_eq y, alike_eq x _ _ (sgc_len z) (sgc_len y) (sgc_mem y)]
  have : List.all ([32].zip [32]) okC = true := by decide
  rw [this, Bool.and_true]
theorem front_len (x y : Int) : (frontC x y).length = 11 := by unfold frontC; rw [List.length_append, shc_len]; rfl
theorem sg1_len (z : Int) : (sgc z ++ [32]).length = 11 := by rw [List.length_append, sgc_len]; rfl

theorem takesP_none (fs : List Str) (row : Str) : takesP fs none row = (((fs.length : Int) == row.length) && fitB fs (signs row)) := rfl
theorem takesP_some (fs es : List Str) (row : Str) : takesP fs (some es) row = (decide ((fs.length : Int) + es.length ≤ row.length) && (fitB fs (signs row) && fitB es (signs (Txt.slice row (some ((row.length : Int) - es.length)) none)))) := rfl
theorem takes_plain (x y z : Int) (hd : dotted (rulOf x y) = false) : takesP (fsOf x y) (esOf x y) (rowOf z) = (alikeB x (sgOf z) (sgOf y) && decide (hc z = rc x y)) := by
  unfold fsOf esOf
  rw [hd, if_neg Bool.false_ne_true, if_neg Bool.false_ne_true]
  rw [takesP_none]
  rw [signs_of, row_cps, fit_ok _ _ (fun c hc => (List.mem_append.mp hc).elim (front_mem x y c) (rc_pat x y c)) (rwc_mem z)]
  unfold rwc
  rw [zip_app _ _ _ _ (by rw [front_len, sg1_len]), List.all_append, front_zip, row_len, List.length_map, List.length_append, front_len]
  have e : (((11 + (rc x y).length : Nat) : Int) == ((11 + (hc z).length : Nat) : Int)) = ((rc x y).length == (hc z).length) := by
    rw [Bool.eq_iff_iff, beq_iff_eq, beq_iff_eq]; omega
  rw [e, Bool.and_left_comm, zip_eq _ _ (rc_63 x y)]
theorem slice_drop (s : Str) (k : Nat) (hk : k ≤ s.cps.toList.length) : (Txt.slice s (some (k : Int)) none).cps.toList = s.cps.toList.drop k := by
  rw [slice_from_eq (b := (s.length : Int)) (by omega) (by rw [len_cps]; omega) rfl]
  have e : ((k : Int)).toNat = k := Int.toNat_natCast k
  rw [e, List.take_of_length_le (by rw [List.length_drop, len_cps]; omega)]
theorem tail_fit (x y z : Int) (hl : (rc x y).length ≤ (hc z).length) :
    fitB ((rc x y).map trS) (signs (Txt.slice (rowOf z) (some (((11 + (hc z).length : Nat) : Int) - ((rc x y).length : Int))) none)) = decide ((hc z).drop ((hc z).length - (rc x y).length) = rc x y) := by
  have e3 : (((11 + (hc z).length : Nat) : Int) - ((rc x y).length : Int)) = ((11 + ((hc z).length - (rc x y).length) : Nat) : Int) := by omega
  have e5 : (rwc z).drop (11 + ((hc z).length - (rc x y).length)) = (hc z).drop ((hc z).length - (rc x y).length) := by
    unfold rwc
    rw [List.drop_append, List.drop_eq_nil_of_le (by rw [sg1_len]; omega), sg1_len, List.nil_append, Nat.add_sub_cancel_left]
  rw [e3, signs_of, slice_drop _ _ (by rw [row_cps, rwc_len]; omega), row_cps, e5]
  have hm : ∀ c ∈ (hc z).drop ((hc z).length - (rc x y).length), c ∈ rowC := fun c h => by
    unfold rowC; simp [hc_mem z c (List.mem_of_mem_drop h)]
  rw [fit_ok _ _ (rc_pat x y) hm, ← zip_eq _ _ (rc_63 x y)]
  have : ((rc x y).length == ((hc z).drop ((hc z).length - (rc x y).length)).length) = true := by
    rw [beq_iff_eq, List.length_drop]; omega
  rw [this, Bool.true_and]
theorem takes_star (x y z : Int) (hd : dotted (rulOf x y) = true) : takesP (fsOf x y) (esOf x y) (rowOf z) =
    (alikeB x (sgOf z) (sgOf y) && (decide ((rc x y).length ≤ (hc z).length) && decide ((hc z).drop ((hc z).length - (rc x y).length) = rc x y))) := by
  unfold fsOf esOf
  rw [hd, if_pos rfl, if_pos rfl]
  rw [takesP_some]
  rw [List.length_map, List.length_map, front_len, row_len]
  have e : decide (((11 : Nat) : Int) + ((rc x y).length : Int) ≤ ((11 + (hc z).length : Nat) : Int)) = decide ((rc x y).length ≤ (hc z).length) := by
    rw [Bool.eq_iff_iff, decide_eq_true_eq, decide_eq_true_eq]; omega
  rw [e, signs_of, row_cps, fit_ok _ _ (front_mem x y) (rwc_mem z)]
  have e2 : ((frontC x y).zip (rwc z)).all okC = alikeB x (sgOf z) (sgOf y) := by
    unfold rwc
    have := zip_app (frontC x y) (sgc z ++ [32]) [] (hc z) (by rw [front_len, sg1_len])
    rw [List.append_nil] at this
    rw [this, List.zip_nil_left, List.append_nil, front_zip]
  rw [e2]
  by_cases hl : (rc x y).length ≤ (hc z).length
  · rw [decide_eq_true hl, Bool.true_and, Bool.true_and, tail_fit x y z hl]
  · rw [decide_eq_false hl, Bool.false_and, Bool.false_and, Bool.and_false]

/-! the whole -/
theorem named_eq {h r : Str} {p q : Str × List Str} (i : HostI h p) (j : RuleI r q) : namedB h r = namedP p q := by
  unfold namedB namedP
  rw [i.low, j.low, i.cut, j.cut]
theorem match_eq {h r : Str} {p q : Str × List Str} (i : HostI h p) (j : RuleI r q) : matchB h r = matchP p.1 q.1 := by
  unfold matchB matchP
  rw [i.low, j.low]
theorem end_eq {p q : Str × List Str} (hp : p ∈ hostT) (hq : q ∈ ruleT) : endP p q = namedP p q := beq_iff_eq.mp (List.all_eq_true.mp (List.all_eq_true.mp e2 p hp) q hq)
theorem takes_eq (x y z : Int) : takesP (fsOf x y) (esOf x y) (rowOf z) = (alikeB x (sgOf z) (sgOf y) && namedB (hostOf z) (rulOf x y)) := by
  obtain ⟨p, i⟩ := host_info z
  obtain ⟨q, j⟩ := rule_info x y
  rw [named_eq i j, ← end_eq i.mem j.mem]
  have hp : hc z = p.1.cps.toList := by unfold hc; rw [i.low]
  have hq : rc x y = q.1.cps.toList := by unfold rc; rw [j.low]
  unfold endP
  cases hd : dotted (rulOf x y) with
  | false =>
    have := j.dot
    rw [hd] at this
    rw [← this, if_neg Bool.false_ne_true, takes_plain x y z hd, hp, hq]
  | true =>
    have := j.dot
    rw [hd] at this
    rw [← this, if_pos rfl, takes_star x y z hd, hp, hq]
theorem plain_ok : PlainOk escF fsOf esOf where
  h1 := fun x => let ⟨p, i⟩ := host_info x; i.g1
  h2 := fun x => let ⟨p, i⟩ := host_info x; i.low ▸ i.g2
  h3 := fun x => let ⟨p, i⟩ := host_info x; by rw [i.low]; exact List.all_eq_true.mp d6 p (List.mem_append.mpr (.inl i.mem))
  r1 := fun x y => let ⟨p, i⟩ := rule_info x y; by have := (goodCut_of i.g1).len; omega
  r2 := fun x y => let ⟨p, i⟩ := rule_info x y; i.low ▸ i.g2
  r3 := fun x y => let ⟨p, i⟩ := rule_info x y; by rw [i.low]; exact List.all_eq_true.mp d6 p i.mem
  s1 := fun z a ha => by
    obtain ⟨c, _, rfl⟩ := List.mem_map.mp (sg_mem z a ha)
    show 1 ≤ 50
    decide
  p1 := fun x y => by
    have hr : (rc x y).length ≤ 40 := by
      obtain ⟨p, i⟩ := rule_info x y
      unfold rc
      rw [← len_cps, i.low]
      exact (goodCut_of i.g2).len
    rw [len_cps, pat_cps, List.length_append, List.length_append]
    have h1 := front_len x y
    unfold frontC at h1
    rw [h1]
    split
    · show 11 + 2 + _ ≤ _; omega
    · show 11 + 0 + _ ≤ _; omega
  p2 := fun x y c hc => by
    rw [pat_cps] at hc
    have all : ∀ c ∈ 42 :: patC, c < 128 ∧ c ≠ 91 := by decide
    refine all c ?_
    rcases List.mem_append.mp hc with h | h
    · rcases List.mem_append.mp h with h | h
      · exact List.mem_cons_of_mem _ (front_mem x y c h)
      · split at h
        · simp at h; rw [h]; exact List.mem_cons_self
        · cases h
    · exact List.mem_cons_of_mem _ (rc_pat x y c h)
  p3 := tr_eq
  p4 := fun x y => by
    have hr : (rc x y).length ≤ 40 := by
      obtain ⟨p, i⟩ := rule_info x y
      unfold rc
      rw [← len_cps, i.low]
      exact (goodCut_of i.g2).len
    unfold fsOf esOf
    split
    · refine ⟨by rw [List.length_map, front_len]; decide, fun e h => ?_⟩
      cases h
      rw [List.length_map]; omega
    · refine ⟨by rw [List.length_map, List.length_append, front_len]; omega, fun e h => nomatch h⟩
  w1 := fun z => by rw [fm_eq, sgc_eq, join_ch, len_cps]; exact sgc_len z
  w2 := fun z => by
    have : Txt.slice (rowOf z) none (some 10) = ⟨((rowOf z).cps.toList.take 10).toArray⟩ := any_slice (rowOf z) 10 (by rw [row_cps, rwc_len]; omega)
    rw [this, signs_of, row_cps]
    show ((rwc z).take 10).map ch = _
    unfold rwc
    rw [List.append_assoc, List.take_append_of_le_length (by rw [sgc_len]; decide), List.take_of_length_le (by rw [sgc_len]; decide), ← sgc_eq]
  m := fun x y z => by
    obtain ⟨p, i⟩ := host_info z
    obtain ⟨q, j⟩ := rule_info x y
    rw [named_eq i j, match_eq i j]
    exact beq_iff_eq.mp (List.all_eq_true.mp (List.all_eq_true.mp e1 p i.mem) q j.mem)
  t := takes_eq
end Mine
end

section
open PySem PySem.W PyProof.Rows
namespace Mine

/-! what the end of the top is looked at for: a part of its heap, told by plain tests -/
def cut (h : Heap) : Frag := (List.range 177).filterMap fun a => (h.get? a).map fun o => (a, o)
theorem cut_in (h : Heap) : (cut h).In h := fun a o e => by
  have hm := mem_of_lookupA e
  unfold cut at hm
  obtain ⟨b, _, hb⟩ := List.mem_filterMap.mp hm
  cases hg : h.get? b with
  | none => rw [hg] at hb; cases hb
  | some o' => rw [hg] at hb; cases hb; exact hg
where
  mem_of_lookupA {a : Addr} {o : Obj} : ∀ {l : List (Addr × Obj)}, l.lookup a = some o → (a, o) ∈ l
    | (b, o') :: r, e => by
      rw [List.lookup_cons] at e
      cases hb : a == b with
      | true => rw [hb] at e; cases e; rw [beq_iff_eq.mp hb]; exact List.mem_cons_self
      | false => rw [hb] at e; exact List.mem_cons_of_mem _ (mem_of_lookupA e)

def valIs : Value → Value → Bool
  | .ref a, .ref b => Nat.beq a b
  | .int i t, .int j u => i == j && Nat.beq t u
  | _, _ => false
theorem valIs_eq {a b : Value} (h : valIs a b = true) : a = b := by
  unfold valIs at h
  split at h
  · rw [Nat.eq_of_beq_eq_true h]
  · obtain ⟨h1, h2⟩ := Bool.and_eq_true_iff.mp h
    rw [beq_iff_eq.mp h1, Nat.eq_of_beq_eq_true h2]
  · cases h
def nameIs (K : Frag) (p : Str × Value) : Bool := match nsIn K mainGlobals p.1 with
  | some (some v) => valIs v p.2
  | _ => false
theorem nameIs_eq {K : Frag} {p : Str × Value} (h : nameIs K p = true) : nsIn K mainGlobals p.1 = some (some p.2) := by
  unfold nameIs at h
  split at h
  · rename_i v e
    rw [e, valIs_eq h]
  · cases h
def nameNot (K : Frag) (x : Str) : Bool := match nsIn K mainGlobals x with
  | some none => true
  | _ => false
theorem nameNot_eq {K : Frag} {x : Str} (h : nameNot K x = true) : nsIn K mainGlobals x = some none := by
  unfold nameNot at h
  split at h
  · assumption
  · cases h
/-- a def's data, less its name, code, module and doc -/
def bareF (fd : FuncData) : FuncData := { fd with name := Str.empty, qualname := Str.empty, doc := .none, pyModule := .none, code := .none }
def bareOf (o : Obj) : Option FuncData := match o.data with
  | .func fd => some (bareF fd)
  | _ => none
def wantB (k : Nat) : FuncData := bareF (Calls.docDef Str.empty (paramsOf (stmtN k)) (bodyOf (stmtN k)) (scopeOf (stmtN k)) .none .none .none)
theorem bare_eq {fd : FuncData} {k : Nat} (h : bareF fd = wantB k) (hq : fd.qualname = fd.name) :
    fd = Calls.docDef fd.name (paramsOf (stmtN k)) (bodyOf (stmtN k)) (scopeOf (stmtN k)) fd.pyModule fd.code fd.doc := by
  obtain ⟨n, q, p, b, s, g, cl, df, kd, dc, pm, an, cd, ct, bl⟩ := fd
  simp only at hq
  subst hq
  unfold wantB bareF Calls.docDef at h
  simp only [FuncData.mk.injEq] at h
  obtain ⟨_, _, h1, h2, h3, h4, h5, h6, h7, _, _, h8, _, h9, h10⟩ := h
  subst h1 h2 h3 h4 h5 h6 h7 h8 h9 h10
  rfl
def qualB (o : Obj) : Bool := match o.data with
  | .func fd => fd.qualname == fd.name
  | _ => false

def isEntry (e : DictEntry) (p : Nat × Nat) : Bool := e.hash == (p.1 : Int) && (match e.key with
    | .int i t => i == (p.1 : Int) && Nat.beq t p.2
    | _ => false) && (match e.val with
    | .str x t => x == ⟨#[92, p.1]⟩ && Nat.beq t (p.2 + 4)
    | _ => false)
theorem isEntry_eq {e : DictEntry} {p : Nat × Nat} (h : isEntry e p = true) : e = escEntry p := by
  obtain ⟨hs, ky, vl⟩ := e
  unfold isEntry at h
  simp only [Bool.and_eq_true] at h
  obtain ⟨⟨h1, h2⟩, h3⟩ := h
  unfold escEntry
  split at h2
  · split at h3
    · simp only [Bool.and_eq_true] at h2 h3
      rw [beq_iff_eq.mp h1, beq_iff_eq.mp h2.1, Nat.eq_of_beq_eq_true h2.2, beq_iff_eq.mp h3.1, Nat.eq_of_beq_eq_true h3.2]
    · cases h3
  · cases h2
def areEntries : List DictEntry → List (Nat × Nat) → Bool
  | [], [] => true
  | e :: es, p :: ps => isEntry e p && areEntries es ps
  | _, _ => false
theorem areEntries_eq : ∀ {es : List DictEntry} {ps : List (Nat × Nat)}, areEntries es ps = true → es = ps.map escEntry
  | [], [], _ => rfl
  | e :: es, p :: ps, h => by
    obtain ⟨h1, h2⟩ := Bool.and_eq_true_iff.mp h
    rw [isEntry_eq h1, areEntries_eq h2]; rfl
  | [], _ :: _, h => by cases h
  | _ :: _, [], h => by cases h
def mapB (K : Frag) : Bool := match K.lookup 57 with
  | some ⟨c, d, .dict es n, sl⟩ => c == .type "dict" && d.isNone && areEntries es.toList escTab && Nat.beq n 24 && Nat.beq sl.size 0
  | _ => false
theorem mapB_eq {K : Frag} (h : mapB K = true) : K.lookup 57 = some { cls := .type "dict", data := .dict ((escTab.map escEntry).toArray) 24 } := by
  unfold mapB at h
  split at h
  · rename_i c d es n sl e
    simp only [Bool.and_eq_true] at h
    obtain ⟨⟨⟨⟨h1, h2⟩, h3⟩, h4⟩, h5⟩ := h
    have h3 := areEntries_eq h3
    have h5 := Nat.eq_of_beq_eq_true h5
    rw [e, beq_iff_eq.mp h1, Option.isNone_iff_eq_none.mp h2, Nat.eq_of_beq_eq_true h4, ← h3, Array.toArray_toList]
    have : sl = #[] := Array.eq_empty_of_size_eq_zero h5
    rw [this]
  · cases h
def vnone : Value → Bool
  | .ref a => Nat.beq a 35
  | _ => false
def re36B (K : Frag) : Bool := match K.lookup 36 with
  | some ⟨c, d, .fields vs, _⟩ => c == .type "re.Pattern" && d.isNone && Nat.beq (PySem.Builtin.Re.reRawNat (vs.getD 6 .none)) 0 && Nat.beq (PySem.Builtin.Re.reRawNat (vs.getD 2 .none)) 0 && vnone (vs.getD 5 .none)
  | _ => false
def re35B (K : Frag) : Bool := match K.lookup 35 with
  | some ⟨_, _, .seq items _, _⟩ => (items.map PySem.Builtin.Re.reRawOf).map (·.toNat) == reCode
  | _ => false
def kokB (K : Frag) : Bool := gtab.all (nameIs K) && btab.all (fun p => nameNot K p.1) && (ftab.all fun p => codeIn K (fdOf (objIn K p.2)).code (fdOf (objIn K p.2)).name && qualB (objIn K p.2)) &&
  relB K fmD (.ref 114) && mapB K && re36B K && re35B K
theorem kok_of {K : Frag} (h : kokB K = true) (hf : (ftab.map fun p => (K.lookup p.2).map bareOf) = ftab.map fun p => some (some (wantB p.1))) : KOk K := by
  unfold kokB at h
  simp only [Bool.and_eq_true] at h
  obtain ⟨⟨⟨⟨⟨⟨hg, hb⟩, hc⟩, ht⟩, hm⟩, h36⟩, h35⟩ := h
  have hc : ∀ p ∈ ftab, codeIn K (fdOf (objIn K p.2)).code (fdOf (objIn K p.2)).name = true ∧ qualB (objIn K p.2) = true := fun p hp => by
    have := List.all_eq_true.mp hc p hp
    simpa only [Bool.and_eq_true] using this
  unfold re36B at h36
  split at h36
  · rename_i c d vs sl e36
    simp only [Bool.and_eq_true] at h36
    obtain ⟨⟨⟨⟨k1, k2⟩, k3⟩, k4⟩, k5⟩ := h36
    unfold re35B at h35
    split at h35
    · rename_i c' d' items n sl' e35
      have o36 : objIn K 36 = ⟨c, d, .fields vs, sl⟩ := by unfold objIn; rw [e36]; rfl
      have o35 : objIn K 35 = ⟨c', d', .seq items n, sl'⟩ := by unfold objIn; rw [e35]; rfl
      refine ⟨List.map_inj_left.mpr fun p hp => nameIs_eq (List.all_eq_true.mp hg p hp), List.map_inj_left.mpr fun p hp => nameNot_eq (List.all_eq_true.mp hb p hp), List.map_inj_left.mpr fun p hp => ?_, List.all_eq_true.mpr fun p hp => (hc p hp).1, ht,
        by rw [o36]; exact e36, by rw [o36]; exact beq_iff_eq.mp k1, by rw [o36]; exact Option.isNone_iff_eq_none.mp k2, ⟨vs, by rw [o36], Nat.eq_of_beq_eq_true k3, Nat.eq_of_beq_eq_true k4, ?_⟩, by rw [o35]; exact e35, ⟨items, n, by rw [o35], beq_iff_eq.mp h35⟩, mapB_eq hm⟩
      · have hw := List.map_inj_left.mp hf p hp
        have hq := (hc p hp).2
        cases ho : K.lookup p.2 with
        | none => rw [ho] at hw; cases hw
        | some o =>
          rw [ho] at hw
          have hw : bareOf o = some (wantB p.1) := by simpa using hw
          have oo : objIn K p.2 = o := by unfold objIn; rw [ho]; rfl
          rw [oo] at hq
          unfold wantF
          rw [oo]
          obtain ⟨fd, hfd, hb⟩ : ∃ fd, o.data = .func fd ∧ bareF fd = wantB p.1 := by
            unfold bareOf at hw
            split at hw
            · rename_i fd e
              exact ⟨fd, e, Option.some.inj hw⟩
            · cases hw
          unfold qualB at hq
          rw [hfd] at hq
          have hfo : fdOf o = fd := by unfold fdOf; rw [hfd]
          rw [hfo, ← bare_eq hb (beq_iff_eq.mp hq), ← hfd]
      · generalize vs.getD 5 .none = v at k5
        unfold vnone at k5
        split at k5
        · rw [Nat.eq_of_beq_eq_true k5]
        · cases k5
    · cases h35
  · cases h36

/-! the hook -/
abbrev Seen := Bool × List (Option (Option FuncData))
def lookAt (s : Shared) : Seen := (kokB (cut s.heap), ftab.map fun p => ((cut s.heap).lookup p.2).map bareOf)
def wanted (_ : World) : Seen := (true, ftab.map fun p => some (some (wantB p.1)))
def Says (_ : World) (h : Heap) : Prop := ∃ K : Frag, K.In h ∧ KOk K
theorem says_of (w : World) (s : Shared) (e : lookAt s = wanted w) : Says w s.heap := by
  obtain ⟨h1, h2⟩ := Prod.mk.inj e
  exact ⟨_, cut_in _, kok_of h1 h2⟩
theorem says_keeps (w : World) (h h' : Heap) (x : Says w h) (k : ∀ b o, h.get? b = some o → h'.get? b = some o) : Says w h' :=
  let ⟨K, X, ko⟩ := x; ⟨K, fun a o e => k a o (X a o e), ko⟩

/-- two rows of the world's: the opening once, the rest in four ways -/
theorem left_of4 {p q : Program} {loose : List Str} {α : Type} {Yf : Shared → α} {Ya : World → α} {Xt : Shared → Bool} {N : Nat} {g0 : Bool} (r1 r2 : String)
    (h : ∀ w : World, (fencedOpening treeTable p w N).map (fun s₀ =>
        ((topFrom treeTable p ((w.withFollow r1 false).withFollow r2 false) N s₀).map (fun s => (openSeen q loose (importedModules p.main.body) Xt g0 s, Yf s)),
         (topFrom treeTable p ((w.withFollow r1 false).withFollow r2 true) N s₀).map (fun s => (openSeen q loose (importedModules p.main.body) Xt g0 s, Yf s)),
         (topFrom treeTable p ((w.withFollow r1 true).withFollow r2 false) N s₀).map (fun s => (openSeen q loose (importedModules p.main.body) Xt g0 s, Yf s)),
         (topFrom treeTable p ((w.withFollow r1 true).withFollow r2 true) N s₀).map (fun s => (openSeen q loose (importedModules p.main.body) Xt g0 s, Yf s)))) =
      some (some (openGood q loose, Ya ((w.withFollow r1 false).withFollow r2 false)), some (openGood q loose, Ya ((w.withFollow r1 false).withFollow r2 true)),
        some (openGood q loose, Ya ((w.withFollow r1 true).withFollow r2 false)), some (openGood q loose, Ya ((w.withFollow r1 true).withFollow r2 true)))) : LeftO p q loose Xt Yf Ya N g0 := fun w => by
  obtain ⟨s₀, a, b⟩ := Option.map_eq_some_iff.mp (h w)
  simp only [Prod.mk.injEq] at b
  obtain ⟨b1, b2, b3, b4⟩ := b
  have e : ∃ c1 c2, (w.withFollow r1 c1).withFollow r2 c2 = w := ⟨w.params.followText r1, w.params.followText r2, by rw [World.withFollow_self, World.withFollow_self]⟩
  obtain ⟨c1, c2, e⟩ := e
  unfold openEnds
  rw [a]
  cases c1 <;> cases c2 <;> first | (rw [e] at b1; exact b1) | (rw [e] at b2; exact b2) | (rw [e] at b3; exact b3) | (rw [e] at b4; exact b4)
end Mine
end

section
open PySem PySem.W PyProof.Rows
namespace Mine
/-! states of the top's run, written by a program (wip/states_gen.lean); long texts, and the interpreter's own keys that hold the word barred by CHECK.md, are written by their code points -/
noncomputable def tree_s (P : Params) : BT := BT.nil
noncomputable def life_s : Life := { }
noncomputable def stateT_s (w : World) (os : OsState) : SharedT := { tree := tree_s w.params, n := 0, life := life_s, gens := #[], drawn := { }, toks := 1, os := os }
noncomputable def toks_s : Nat := 1
noncomputable def size_s : Nat := 0
noncomputable def pos_s : Pos := { line := 0, col := 0, endLine := 0, endCol := 0 }
noncomputable def steps_s : Nat := 0
noncomputable def ho_1_e (P : Params) : Obj := { cls := Value.type "dict", data := Data.dict #[{ hash := PyData.keyHash P (Str.ofString "builtins"), key := Value.str (Str.ofString "builtins") 162, val := Value.ref 4 }, { hash := PyData.keyHash P (Str.ofString "__main__"), key := Value.str (Str.ofString "__main__") 163, val := Value.ref 5 }, { hash := PyData.keyHash P (Str.ofString "_sre"), key := Value.str (Str.ofString "_sre") 244, val := Value.ref 12 }] 3 }
noncomputable def ho_2_e (P : Params) : Obj := { cls := Value.none, data := Data.dict #[{ hash := PyData.keyHash P (Str.mk #[105, 109, 112, 111, 114, 116, 46, 108, 111, 97, 100, 101, 100, 46, 95, 115, 114, 101]), key := Value.str (Str.mk #[105, 109, 112, 111, 114, 116, 46, 108, 111, 97, 100, 101, 100, 46, 95, 115, 114, 101]) 183, val := Value.bool true }, { hash := PyData.keyHash P (Str.ofString "class._frozen_importlib.BuiltinImporter"), key := Value.str (Str.ofString "class._frozen_importlib.BuiltinImporter") 185, val := Value.ref 14 }, { hash := PyData.keyHash P (Str.mk #[119, 97, 116, 99, 104, 101, 100, 46, 105, 109, 112, 111, 114, 116]), key := Value.str (Str.mk #[119, 97, 116, 99, 104, 101, 100, 46, 105, 109, 112, 111, 114, 116]) 206, val := Value.ref 18 }, { hash := PyData.keyHash P (Str.ofString "class._frozen_importlib.ModuleSpec"), key := Value.str (Str.ofString "class._frozen_importlib.ModuleSpec") 216, val := Value.ref 22 }, { hash := PyData.keyHash P (Str.ofString "sys.modules.booked-epoch"), key := Value.str (Str.ofString "sys.modules.booked-epoch") 245, val := Value.int 3 0 }, { hash := PyData.keyHash P (Str.mk #[105, 109, 112, 111, 114, 116, 46, 108, 97, 116, 101, 114, 45, 108, 97, 105, 100, 46, 95, 115, 114, 101]), key := Value.str (Str.mk #[105, 109, 112, 111, 114, 116, 46, 108, 97, 116, 101, 114, 45, 108, 97, 105, 100, 46, 95, 115, 114, 101]) 270, val := Value.bool true }, { hash := PyData.keyHash P (Str.ofString "watched.library"), key := Value.str (Str.ofString "watched.library") 272, val := Value.ref 27 }, { hash := PyData.keyHash P (Str.ofString "watched.library-objects"), key := Value.str (Str.ofString "watched.library-objects") 0, val := Value.str (Str.ofString "\x0c") 0 }, { hash := PyData.keyHash P (Str.ofString "watched.library-deep._sre"), key := Value.str (Str.ofString "watched.library-deep._sre") 273, val := Value.str (Str.ofString "\x04\x00\x00\x0b\x04\x00\x00\x0b\x04\x00\x00\x03\x04\x00\x00\x0b\x08\x04dict\x02") 0 }] 9 }
noncomputable def ho_3_e (P : Params) : Obj := { cls := Value.type "dict", data := Data.dict #[{ hash := PyData.keyHash P (Str.ofString "__name__"), key := Value.str (Str.ofString "__name__") 165, val := Value.str (Str.ofString "__main__") 164 }, { hash := PyData.keyHash P (Str.ofString "__doc__"), key := Value.str (Str.ofString "__doc__") 166, val := Value.none }, { hash := PyData.keyHash P (Str.ofString "__package__"), key := Value.str (Str.ofString "__package__") 167, val := Value.none }, { hash := PyData.keyHash P (Str.ofString "__loader__"), key := Value.str (Str.ofString "__loader__") 168, val := Value.builtin "__main__.__loader__#opaque" }, { hash := PyData.keyHash P (Str.ofString "__spec__"), key := Value.str (Str.ofString "__spec__") 169, val := Value.none }, { hash := PyData.keyHash P (Str.ofString "__annotations__"), key := Value.str (Str.ofString "__annotations__") 170, val := Value.ref 6 }, { hash := PyData.keyHash P (Str.ofString "__builtins__"), key := Value.str (Str.ofString "__builtins__") 171, val := Value.ref 4 }, { hash := PyData.keyHash P (Str.ofString "__file__"), key := Value.str (Str.ofString "__file__") 173, val := Value.str (Str.ofString "/claim/cut.py") 172 }, { hash := PyData.keyHash P (Str.ofString "__cached__"), key := Value.str (Str.ofString "__cached__") 174, val := Value.none }, { hash := PyData.keyHash P (Str.ofString "_sre"), key := Value.str (Str.ofString "_sre") 275, val := Value.ref 12 }] 10 }
noncomputable def ho_11_e (P : Params) : Obj := { cls := Value.type "dict", data := Data.dict #[{ hash := PyData.keyHash P (Str.ofString "__name__"), key := Value.str (Str.ofString "__name__") 247, val := Value.str (Str.ofString "_sre") 246 }, { hash := PyData.keyHash P (Str.ofString "__doc__"), key := Value.str (Str.ofString "__doc__") 248, val := Value.none }, { hash := PyData.keyHash P (Str.ofString "__package__"), key := Value.str (Str.ofString "__package__") 250, val := Value.str (Str.ofString "") 249 }, { hash := PyData.keyHash P (Str.ofString "__loader__"), key := Value.str (Str.ofString "__loader__") 251, val := Value.ref 14 }, { hash := PyData.keyHash P (Str.ofString "__spec__"), key := Value.str (Str.ofString "__spec__") 252, val := Value.ref 26 }, { hash := PyData.keyHash P (Str.ofString "compile"), key := Value.str (Str.ofString "compile") 253, val := Value.builtin "_sre.compile" }, { hash := PyData.keyHash P (Str.ofString "template"), key := Value.str (Str.ofString "template") 254, val := Value.builtin "_sre.template" }, { hash := PyData.keyHash P (Str.ofString "getcodesize"), key := Value.str (Str.ofString "getcodesize") 255, val := Value.builtin "_sre.getcodesize" }, { hash := PyData.keyHash P (Str.ofString "ascii_iscased"), key := Value.str (Str.ofString "ascii_iscased") 256, val := Value.builtin "_sre.ascii_iscased" }, { hash := PyData.keyHash P (Str.ofString "unicode_iscased"), key := Value.str (Str.ofString "unicode_iscased") 257, val := Value.builtin "_sre.unicode_iscased" }, { hash := PyData.keyHash P (Str.ofString "ascii_tolower"), key := Value.str (Str.ofString "ascii_tolower") 258, val := Value.builtin "_sre.ascii_tolower" }, { hash := PyData.keyHash P (Str.ofString "unicode_tolower"), key := Value.str (Str.ofString "unicode_tolower") 259, val := Value.builtin "_sre.unicode_tolower" }, { hash := PyData.keyHash P (Str.ofString "MAGIC"), key := Value.str (Str.ofString "MAGIC") 261, val := Value.int 20230612 260 }, { hash := PyData.keyHash P (Str.ofString "CODESIZE"), key := Value.str (Str.ofString "CODESIZE") 263, val := Value.int 4 262 }, { hash := PyData.keyHash P (Str.ofString "MAXREPEAT"), key := Value.str (Str.ofString "MAXREPEAT") 265, val := Value.int 4294967295 264 }, { hash := PyData.keyHash P (Str.ofString "MAXGROUPS"), key := Value.str (Str.ofString "MAXGROUPS") 267, val := Value.int 1073741823 266 }, { hash := PyData.keyHash P (Str.ofString "copyright"), key := Value.str (Str.ofString "copyright") 269, val := Value.str (Str.ofString " SRE 2.2.2 Copyright (c) 1997-2002 by Secret Labs AB ") 268 }] 17 }
noncomputable def ho_12_e (P : Params) : Obj := { cls := Value.type "module", dict := some 11 }
noncomputable def ho_13_e (P : Params) : Obj := { cls := Value.type "dict", data := Data.dict #[{ hash := PyData.keyHash P (Str.ofString "__module__"), key := Value.str (Str.ofString "__module__") 189, val := Value.str (Str.ofString "_frozen_importlib") 186 }, { hash := PyData.keyHash P (Str.ofString "__firstlineno__"), key := Value.str (Str.ofString "__firstlineno__") 190, val := Value.int 971 187 }, { hash := PyData.keyHash P (Str.ofString "__doc__"), key := Value.str (Str.ofString "__doc__") 191, val := Value.builtin "_frozen_importlib.BuiltinImporter.__doc__:str#opaque" }, { hash := PyData.keyHash P (Str.ofString "_ORIGIN"), key := Value.str (Str.ofString "_ORIGIN") 192, val := Value.str (Str.ofString "built-in") 188 }, { hash := PyData.keyHash P (Str.ofString "find_spec"), key := Value.str (Str.ofString "find_spec") 193, val := Value.builtin "_frozen_importlib.BuiltinImporter.find_spec#opaque" }, { hash := PyData.keyHash P (Str.ofString "create_module"), key := Value.str (Str.ofString "create_module") 194, val := Value.builtin "_frozen_importlib.BuiltinImporter.create_module#opaque" }, { hash := PyData.keyHash P (Str.ofString "exec_module"), key := Value.str (Str.ofString "exec_module") 195, val := Value.builtin "_frozen_importlib.BuiltinImporter.exec_module#opaque" }, { hash := PyData.keyHash P (Str.ofString "get_code"), key := Value.str (Str.ofString "get_code") 196, val := Value.builtin "_frozen_importlib.BuiltinImporter.get_code#opaque" }, { hash := PyData.keyHash P (Str.ofString "get_source"), key := Value.str (Str.ofString "get_source") 197, val := Value.builtin "_frozen_importlib.BuiltinImporter.get_source#opaque" }, { hash := PyData.keyHash P (Str.ofString "is_package"), key := Value.str (Str.ofString "is_package") 198, val := Value.builtin "_frozen_importlib.BuiltinImporter.is_package#opaque" }, { hash := PyData.keyHash P (Str.ofString "load_module"), key := Value.str (Str.ofString "load_module") 199, val := Value.builtin "_frozen_importlib.BuiltinImporter.load_module#opaque" }, { hash := PyData.keyHash P (Str.ofString "__static_attributes__"), key := Value.str (Str.ofString "__static_attributes__") 200, val := Value.ref 15 }, { hash := PyData.keyHash P (Str.ofString "__dict__"), key := Value.str (Str.ofString "__dict__") 202, val := Value.ref 16 }, { hash := PyData.keyHash P (Str.ofString "__weakref__"), key := Value.str (Str.ofString "__weakref__") 204, val := Value.ref 17 }] 14 }
noncomputable def ho_14_e (P : Params) : Obj := { cls := Value.type "type", data := Data.cls { name := Str.ofString "BuiltinImporter", bases := [Value.type "object"], mro := [Value.ref 14, Value.type "object"], ns := 13, qualname := Str.ofString "BuiltinImporter" } }
noncomputable def ho_15_e (P : Params) : Obj := { cls := Value.type "tuple", data := Data.seq #[] }
noncomputable def ho_16_e (P : Params) : Obj := { cls := Value.type "getset_descriptor", data := Data.fields #[Value.str (Str.ofString "__dict__") 201, Value.ref 14, Value.builtin "function.__dict__", Value.builtin "function.__dict__#set"] }
noncomputable def ho_17_e (P : Params) : Obj := { cls := Value.type "getset_descriptor", data := Data.fields #[Value.str (Str.ofString "__weakref__") 203, Value.ref 14, Value.builtin "ExceptionGroup.__weakref__", Value.none] }
noncomputable def ho_18_e (P : Params) : Obj := { cls := Value.none, data := Data.seq #[Value.int 13 0, Value.str (Str.mk #[6, 189, 10, 95, 95, 109, 111, 100, 117, 108, 101, 95, 95, 6, 186, 17, 95, 102, 114, 111, 122, 101, 110, 95, 105, 109, 112, 111, 114, 116, 108, 105, 98, 6, 190, 15, 95, 95, 102, 105, 114, 115, 116, 108, 105, 110, 101, 110, 111, 95, 95, 4, 187, 0, 971, 6, 191, 7, 95, 95, 100, 111, 99, 95, 95, 9, 52, 95, 102, 114, 111, 122, 101, 110, 95, 105, 109, 112, 111, 114, 116, 108, 105, 98, 46, 66, 117, 105, 108, 116, 105, 110, 73, 109, 112, 111, 114, 116, 101, 114, 46, 95, 95, 100, 111, 99, 95, 95, 58, 115, 116, 114, 35, 111, 112, 97, 113, 117, 101, 6, 192, 7, 95, 79, 82, 73, 71, 73, 78, 6, 188, 8, 98, 117, 105, 108, 116, 45, 105, 110, 6, 193, 9, 102, 105, 110, 100, 95, 115, 112, 101, 99, 9, 50, 95, 102, 114, 111, 122, 101, 110, 95, 105, 109, 112, 111, 114, 116, 108, 105, 98, 46, 66, 117, 105, 108, 116, 105, 110, 73, 109, 112, 111, 114, 116, 101, 114, 46, 102, 105, 110, 100, 95, 115, 112, 101, 99, 35, 111, 112, 97, 113, 117, 101, 6, 194, 13, 99, 114, 101, 97, 116, 101, 95, 109, 111, 100, 117, 108, 101, 9, 54, 95, 102, 114, 111, 122, 101, 110, 95, 105, 109, 112, 111, 114, 116, 108, 105, 98, 46, 66, 117, 105, 108, 116, 105, 110, 73, 109, 112, 111, 114, 116, 101, 114, 46, 99, 114, 101, 97, 116, 101, 95, 109, 111, 100, 117, 108, 101, 35, 111, 112, 97, 113, 117, 101, 6, 195, 11, 101, 120, 101, 99, 95, 109, 111, 100, 117, 108, 101, 9, 52, 95, 102, 114, 111, 122, 101, 110, 95, 105, 109, 112, 111, 114, 116, 108, 105, 98, 46, 66, 117, 105, 108, 116, 105, 110, 73, 109, 112, 111, 114, 116, 101, 114, 46, 101, 120, 101, 99, 95, 109, 111, 100, 117, 108, 101, 35, 111, 112, 97, 113, 117, 101, 6, 196, 8, 103, 101, 116, 95, 99, 111, 100, 101, 9, 49, 95, 102, 114, 111, 122, 101, 110, 95, 105, 109, 112, 111, 114, 116, 108, 105, 98, 46, 66, 117, 105, 108, 116, 105, 110, 73, 109, 112, 111, 114, 116, 101, 114, 46, 103, 101, 116, 95, 99, 111, 100, 101, 35, 111, 112, 97, 113, 117, 101, 6, 197, 10, 103, 101, 116, 95, 115, 111, 117, 114, 99, 101, 9, 51, 95, 102, 114, 111, 122, 101, 110, 95, 105, 109, 112, 111, 114, 116, 108, 105, 98, 46, 66, 117, 105, 108, 116, 105, 110, 73, 109, 112, 111, 114, 116, 101, 114, 46, 103, 101, 116, 95, 115, 111, 117, 114, 99, 101, 35, 111, 112, 97, 113, 117, 101, 6, 198, 10, 105, 115, 95, 112, 97, 99, 107, 97, 103, 101, 9, 51, 95, 102, 114, 111, 122, 101, 110, 95, 105, 109, 112, 111, 114, 116, 108, 105, 98, 46, 66, 117, 105, 108, 116, 105, 110, 73, 109, 112, 111, 114, 116, 101, 114, 46, 105, 115, 95, 112, 97, 99, 107, 97, 103, 101, 35, 111, 112, 97, 113, 117, 101, 6, 199, 11, 108, 111, 97, 100, 95, 109, 111, 100, 117, 108, 101, 9, 52, 95, 102, 114, 111, 122, 101, 110, 95, 105, 109, 112, 111, 114, 116, 108, 105, 98, 46, 66, 117, 105, 108, 116, 105, 110, 73, 109, 112, 111, 114, 116, 101, 114, 46, 108, 111, 97, 100, 95, 109, 111, 100, 117, 108, 101, 35, 111, 112, 97, 113, 117, 101, 6, 200, 21, 95, 95, 115, 116, 97, 116, 105, 99, 95, 97, 116, 116, 114, 105, 98, 117, 116, 101, 115, 95, 95, 4, 0, 0, 15, 6, 202, 8, 95, 95, 100, 105, 99, 116, 95, 95, 4, 0, 0, 16, 6, 204, 11, 95, 95, 119, 101, 97, 107, 114, 101, 102, 95, 95, 4, 0, 0, 17]) 0, Value.bool true, Value.bool true, Value.str (Str.ofString "") 205, Value.int 21 0, Value.str (Str.mk #[6, 227, 10, 95, 95, 109, 111, 100, 117, 108, 101, 95, 95, 6, 217, 17, 95, 102, 114, 111, 122, 101, 110, 95, 105, 109, 112, 111, 114, 116, 108, 105, 98, 6, 228, 15, 95, 95, 102, 105, 114, 115, 116, 108, 105, 110, 101, 110, 111, 95, 95, 4, 218, 0, 562, 6, 229, 7, 95, 95, 100, 111, 99, 95, 95, 9, 47, 95, 102, 114, 111, 122, 101, 110, 95, 105, 109, 112, 111, 114, 116, 108, 105, 98, 46, 77, 111, 100, 117, 108, 101, 83, 112, 101, 99, 46, 95, 95, 100, 111, 99, 95, 95, 58, 115, 116, 114, 35, 111, 112, 97, 113, 117, 101, 6, 230, 8, 95, 95, 105, 110, 105, 116, 95, 95, 9, 44, 95, 102, 114, 111, 122, 101, 110, 95, 105, 109, 112, 111, 114, 116, 108, 105, 98, 46, 77, 111, 100, 117, 108, 101, 83, 112, 101, 99, 46, 95, 95, 105, 110, 105, 116, 95, 95, 35, 111, 112, 97, 113, 117, 101, 6, 231, 8, 95, 95, 114, 101, 112, 114, 95, 95, 9, 44, 95, 102, 114, 111, 122, 101, 110, 95, 105, 109, 112, 111, 114, 116, 108, 105, 98, 46, 77, 111, 100, 117, 108, 101, 83, 112, 101, 99, 46, 95, 95, 114, 101, 112, 114, 95, 95, 35, 111, 112, 97, 113, 117, 101, 6, 232, 6, 95, 95, 101, 113, 95, 95, 9, 42, 95, 102, 114, 111, 122, 101, 110, 95, 105, 109, 112, 111, 114, 116, 108, 105, 98, 46, 77, 111, 100, 117, 108, 101, 83, 112, 101, 99, 46, 95, 95, 101, 113, 95, 95, 35, 111, 112, 97, 113, 117, 101, 6, 233, 6, 99, 97, 99, 104, 101, 100, 9, 42, 95, 102, 114, 111, 122, 101, 110, 95, 105, 109, 112, 111, 114, 116, 108, 105, 98, 46, 77, 111, 100, 117, 108, 101, 83, 112, 101, 99, 46, 99, 97, 99, 104, 101, 100, 35, 111, 112, 97, 113, 117, 101, 6, 234, 6, 112, 97, 114, 101, 110, 116, 9, 42, 95, 102, 114, 111, 122, 101, 110, 95, 105, 109, 112, 111, 114, 116, 108, 105, 98, 46, 77, 111, 100, 117, 108, 101, 83, 112, 101, 99, 46, 112, 97, 114, 101, 110, 116, 35, 111, 112, 97, 113, 117, 101, 6, 235, 12, 104, 97, 115, 95, 108, 111, 99, 97, 116, 105, 111, 110, 9, 48, 95, 102, 114, 111, 122, 101, 110, 95, 105, 109, 112, 111, 114, 116, 108, 105, 98, 46, 77, 111, 100, 117, 108, 101, 83, 112, 101, 99, 46, 104, 97, 115, 95, 108, 111, 99, 97, 116, 105, 111, 110, 35, 111, 112, 97, 113, 117, 101, 6, 236, 21, 95, 95, 115, 116, 97, 116, 105, 99, 95, 97, 116, 116, 114, 105, 98, 117, 116, 101, 115, 95, 95, 4, 0, 0, 23, 6, 238, 8, 95, 95, 100, 105, 99, 116, 95, 95, 4, 0, 0, 24, 6, 240, 11, 95, 95, 119, 101, 97, 107, 114, 101, 102, 95, 95, 4, 0, 0, 25, 6, 241, 8, 95, 95, 104, 97, 115, 104, 95, 95, 0]) 0, Value.bool true, Value.bool true, Value.str (Str.ofString "") 242] 1 }
noncomputable def ho_19_e (P : Params) : Obj := { cls := Value.type "list", data := Data.seq #[] }
noncomputable def ho_20_e (P : Params) : Obj := { cls := Value.type "dict", data := Data.dict #[{ hash := PyData.keyHash P (Str.ofString "name"), key := Value.str (Str.ofString "name") 208, val := Value.str (Str.ofString "_sre") 207 }, { hash := PyData.keyHash P (Str.ofString "loader"), key := Value.str (Str.ofString "loader") 209, val := Value.ref 14 }, { hash := PyData.keyHash P (Str.ofString "origin"), key := Value.str (Str.ofString "origin") 210, val := Value.str (Str.ofString "built-in") 184 }, { hash := PyData.keyHash P (Str.ofString "loader_state"), key := Value.str (Str.ofString "loader_state") 211, val := Value.none }, { hash := PyData.keyHash P (Str.ofString "submodule_search_locations"), key := Value.str (Str.ofString "submodule_search_locations") 212, val := Value.none }, { hash := PyData.keyHash P (Str.ofString "_uninitialized_submodules"), key := Value.str (Str.ofString "_uninitialized_submodules") 213, val := Value.ref 19 }, { hash := PyData.keyHash P (Str.ofString "_set_fileattr"), key := Value.str (Str.ofString "_set_fileattr") 214, val := Value.bool false }, { hash := PyData.keyHash P (Str.ofString "_cached"), key := Value.str (Str.ofString "_cached") 215, val := Value.none }, { hash := PyData.keyHash P (Str.ofString "_initializing"), key := Value.str (Str.ofString "_initializing") 243, val := Value.bool false }] 9 }
noncomputable def ho_21_e (P : Params) : Obj := { cls := Value.type "dict", data := Data.dict #[{ hash := PyData.keyHash P (Str.ofString "__module__"), key := Value.str (Str.ofString "__module__") 227, val := Value.str (Str.ofString "_frozen_importlib") 217 }, { hash := PyData.keyHash P (Str.ofString "__firstlineno__"), key := Value.str (Str.ofString "__firstlineno__") 228, val := Value.int 562 218 }, { hash := PyData.keyHash P (Str.ofString "__doc__"), key := Value.str (Str.ofString "__doc__") 229, val := Value.builtin "_frozen_importlib.ModuleSpec.__doc__:str#opaque" }, { hash := PyData.keyHash P (Str.ofString "__init__"), key := Value.str (Str.ofString "__init__") 230, val := Value.builtin "_frozen_importlib.ModuleSpec.__init__#opaque" }, { hash := PyData.keyHash P (Str.ofString "__repr__"), key := Value.str (Str.ofString "__repr__") 231, val := Value.builtin "_frozen_importlib.ModuleSpec.__repr__#opaque" }, { hash := PyData.keyHash P (Str.ofString "__eq__"), key := Value.str (Str.ofString "__eq__") 232, val := Value.builtin "_frozen_importlib.ModuleSpec.__eq__#opaque" }, { hash := PyData.keyHash P (Str.ofString "cached"), key := Value.str (Str.ofString "cached") 233, val := Value.builtin "_frozen_importlib.ModuleSpec.cached#opaque" }, { hash := PyData.keyHash P (Str.ofString "parent"), key := Value.str (Str.ofString "parent") 234, val := Value.builtin "_frozen_importlib.ModuleSpec.parent#opaque" }, { hash := PyData.keyHash P (Str.ofString "has_location"), key := Value.str (Str.ofString "has_location") 235, val := Value.builtin "_frozen_importlib.ModuleSpec.has_location#opaque" }, { hash := PyData.keyHash P (Str.ofString "__static_attributes__"), key := Value.str (Str.ofString "__static_attributes__") 236, val := Value.ref 23 }, { hash := PyData.keyHash P (Str.ofString "__dict__"), key := Value.str (Str.ofString "__dict__") 238, val := Value.ref 24 }, { hash := PyData.keyHash P (Str.ofString "__weakref__"), key := Value.str (Str.ofString "__weakref__") 240, val := Value.ref 25 }, { hash := PyData.keyHash P (Str.ofString "__hash__"), key := Value.str (Str.ofString "__hash__") 241, val := Value.none }] 13 }
noncomputable def ho_22_e (P : Params) : Obj := { cls := Value.type "type", data := Data.cls { name := Str.ofString "ModuleSpec", bases := [Value.type "object"], mro := [Value.ref 22, Value.type "object"], ns := 21, qualname := Str.ofString "ModuleSpec" } }
noncomputable def ho_23_e (P : Params) : Obj := { cls := Value.type "tuple", data := Data.seq #[Value.str (Str.ofString "_cached") 219, Value.str (Str.ofString "_set_fileattr") 220, Value.str (Str.ofString "_uninitialized_submodules") 221, Value.str (Str.ofString "loader") 222, Value.str (Str.ofString "loader_state") 223, Value.str (Str.ofString "name") 224, Value.str (Str.ofString "origin") 225, Value.str (Str.ofString "submodule_search_locations") 226] }
noncomputable def ho_24_e (P : Params) : Obj := { cls := Value.type "getset_descriptor", data := Data.fields #[Value.str (Str.ofString "__dict__") 237, Value.ref 22, Value.builtin "function.__dict__", Value.builtin "function.__dict__#set"] }
noncomputable def ho_25_e (P : Params) : Obj := { cls := Value.type "getset_descriptor", data := Data.fields #[Value.str (Str.ofString "__weakref__") 239, Value.ref 22, Value.builtin "ExceptionGroup.__weakref__", Value.none] }
noncomputable def ho_26_e (P : Params) : Obj := { cls := Value.ref 22, dict := some 20 }
noncomputable def ho_27_e (P : Params) : Obj := { cls := Value.none, data := Data.seq #[Value.int 11 0, Value.str { cps := #[6, 247, 8, 95, 95, 110, 97, 109, 101, 95, 95, 6, 246, 4, 95, 115, 114, 101, 6, 248, 7, 95, 95, 100, 111, 99, 95, 95, 0, 6, 250, 11, 95, 95, 112, 97, 99, 107, 97, 103, 101, 95, 95, 6, 249, 0, 6, 251, 10, 95, 95, 108, 111, 97, 100, 101, 114, 95, 95, 4, 0, 0, 14, 6, 252, 8, 95, 95, 115, 112, 101, 99, 95, 95, 4, 0, 0, 26, 6, 253, 7, 99, 111, 109, 112, 105, 108, 101, 9, 12, 95, 115, 114, 101, 46, 99, 111, 109, 112, 105, 108, 101, 6, 254, 8, 116, 101, 109, 112, 108, 97, 116, 101, 9, 13, 95, 115, 114, 101, 46, 116, 101, 109, 112, 108, 97, 116, 101, 6, 255, 11, 103, 101, 116, 99, 111, 100, 101, 115, 105, 122, 101, 9, 16, 95, 115, 114, 101, 46, 103, 101, 116, 99, 111, 100, 101, 115, 105, 122, 101, 6, 256, 13, 97, 115, 99, 105, 105, 95, 105, 115, 99, 97, 115, 101, 100, 9, 18, 95, 115, 114, 101, 46, 97, 115, 99, 105, 105, 95, 105, 115, 99, 97, 115, 101, 100, 6, 257, 15, 117, 110, 105, 99, 111, 100, 101, 95, 105, 115, 99, 97, 115, 101, 100, 9, 20, 95, 115, 114, 101, 46, 117, 110, 105, 99, 111, 100, 101, 95, 105, 115, 99, 97, 115, 101, 100, 6, 258, 13, 97, 115, 99, 105, 105, 95, 116, 111, 108, 111, 119, 101, 114, 9, 18, 95, 115, 114, 101, 46, 97, 115, 99, 105, 105, 95, 116, 111, 108, 111, 119, 101, 114, 6, 259, 15, 117, 110, 105, 99, 111, 100, 101, 95, 116, 111, 108, 111, 119, 101, 114, 9, 20, 95, 115, 114, 101, 46, 117, 110, 105, 99, 111, 100, 101, 95, 116, 111, 108, 111, 119, 101, 114, 6, 261, 5, 77, 65, 71, 73, 67, 4, 260, 0, 20230612, 6, 263, 8, 67, 79, 68, 69, 83, 73, 90, 69, 4, 262, 0, 4, 6, 265, 9, 77, 65, 88, 82, 69, 80, 69, 65, 84, 4, 264, 0, 4294967295, 6, 267, 9, 77, 65, 88, 71, 82, 79, 85, 80, 83, 4, 266, 0, 1073741823, 6, 269, 9, 99, 111, 112, 121, 114, 105, 103, 104, 116, 6, 268, 53, 32, 83, 82, 69, 32, 50, 46, 50, 46, 50, 32, 67, 111, 112, 121, 114, 105, 103, 104, 116, 32, 40, 99, 41, 32, 49, 57, 57, 55, 45, 50, 48, 48, 50, 32, 98, 121, 32, 83, 101, 99, 114, 101, 116, 32, 76, 97, 98, 115, 32, 65, 66, 32] } 0, Value.bool true, Value.bool false, Value.str (Str.ofString "_sre") 271] }
noncomputable def tree_e (P : Params) : BT := (BT.node (boot_o_0 P) (BT.node (ho_1_e P) (BT.node (ho_3_e P) (BT.node (boot_o_7 P) (BT.node (ho_15_e P) BT.nil BT.nil) (BT.node (ho_23_e P) BT.nil BT.nil)) (BT.node (ho_11_e P) (BT.node (ho_19_e P) BT.nil BT.nil) (BT.node (ho_27_e P) BT.nil BT.nil))) (BT.node (boot_o_5 P) (BT.node (boot_o_9 P) (BT.node (ho_17_e P) BT.nil BT.nil) (BT.node (ho_25_e P) BT.nil BT.nil)) (BT.node (ho_13_e P) (BT.node (ho_21_e P) BT.nil BT.nil) BT.nil))) (BT.node (ho_2_e P) (BT.node (boot_o_4 P) (BT.node (boot_o_8 P) (BT.node (ho_16_e P) BT.nil BT.nil) (BT.node (ho_24_e P) BT.nil BT.nil)) (BT.node (ho_12_e P) (BT.node (ho_20_e P) BT.nil BT.nil) BT.nil)) (BT.node (boot_o_6 P) (BT.node (boot_o_10 P) (BT.node (ho_18_e P) BT.nil BT.nil) (BT.node (ho_26_e P) BT.nil BT.nil)) (BT.node (ho_14_e P) (BT.node (ho_22_e P) BT.nil BT.nil) BT.nil))))
noncomputable def life_e : Life := { }
noncomputable def stateT_e (w : World) (os : OsState) : SharedT := { tree := tree_e w.params, n := 28, life := life_e, gens := #[], drawn := { }, toks := 276, os := os }
noncomputable def toks_e : Nat := 276
noncomputable def size_e : Nat := 28
noncomputable def pos_e : Pos := { line := 0, col := 0, endLine := 0, endCol := 0 }
noncomputable def steps_e : Nat := 798
noncomputable def ho_11_0 (P : Params) : Obj := { cls := Value.type "dict", data := Data.dict #[{ hash := PyData.keyHash P (Str.ofString "__name__"), key := Value.str (Str.ofString "__name__") 247, val := Value.str (Str.ofString "_sre") 246 }, { hash := PyData.keyHash P (Str.ofString "__doc__"), key := Value.str (Str.ofString "__doc__") 248, val := Value.none }, { hash := PyData.keyHash P (Str.ofString "__package__"), key := Value.str (Str.ofString "__package__") 250, val := Value.str (Str.ofString "") 249 }, { hash := PyData.keyHash P (Str.ofString "__loader__"), key := Value.str (Str.ofString "__loader__") 251, val := Value.builtin "off-the-table:_sre.__loader__:shared#opaque" }, { hash := PyData.keyHash P (Str.ofString "__spec__"), key := Value.str (Str.ofString "__spec__") 252, val := Value.builtin "off-the-table:_sre.__spec__:shared#opaque" }, { hash := PyData.keyHash P (Str.ofString "compile"), key := Value.str (Str.ofString "compile") 253, val := Value.builtin "_sre.compile" }, { hash := PyData.keyHash P (Str.ofString "template"), key := Value.str (Str.ofString "template") 254, val := Value.builtin "off-the-table:_sre.template:shared#opaque" }, { hash := PyData.keyHash P (Str.ofString "getcodesize"), key := Value.str (Str.ofString "getcodesize") 255, val := Value.builtin "off-the-table:_sre.getcodesize:shared#opaque" }, { hash := PyData.keyHash P (Str.ofString "ascii_iscased"), key := Value.str (Str.ofString "ascii_iscased") 256, val := Value.builtin "off-the-table:_sre.ascii_iscased:shared#opaque" }, { hash := PyData.keyHash P (Str.ofString "unicode_iscased"), key := Value.str (Str.ofString "unicode_iscased") 257, val := Value.builtin "off-the-table:_sre.unicode_iscased:shared#opaque" }, { hash := PyData.keyHash P (Str.ofString "ascii_tolower"), key := Value.str (Str.ofString "ascii_tolower") 258, val := Value.builtin "off-the-table:_sre.ascii_tolower:shared#opaque" }, { hash := PyData.keyHash P (Str.ofString "unicode_tolower"), key := Value.str (Str.ofString "unicode_tolower") 259, val := Value.builtin "off-the-table:_sre.unicode_tolower:shared#opaque" }, { hash := PyData.keyHash P (Str.ofString "MAGIC"), key := Value.str (Str.ofString "MAGIC") 261, val := Value.int 20230612 260 }, { hash := PyData.keyHash P (Str.ofString "CODESIZE"), key := Value.str (Str.ofString "CODESIZE") 263, val := Value.int 4 262 }, { hash := PyData.keyHash P (Str.ofString "MAXREPEAT"), key := Value.str (Str.ofString "MAXREPEAT") 265, val := Value.int 4294967295 264 }, { hash := PyData.keyHash P (Str.ofString "MAXGROUPS"), key := Value.str (Str.ofString "MAXGROUPS") 267, val := Value.int 1073741823 266 }, { hash := PyData.keyHash P (Str.ofString "copyright"), key := Value.str (Str.ofString "copyright") 269, val := Value.str (Str.ofString " SRE 2.2.2 Copyright (c) 1997-2002 by Secret Labs AB ") 268 }] 17 }
noncomputable def tree_0 (P : Params) : BT := (BT.node (boot_o_0 P) (BT.node (ho_1_e P) (BT.node (ho_3_e P) (BT.node (boot_o_7 P) (BT.node (ho_15_e P) BT.nil BT.nil) (BT.node (ho_23_e P) BT.nil BT.nil)) (BT.node (ho_11_0 P) (BT.node (ho_19_e P) BT.nil BT.nil) (BT.node (ho_27_e P) BT.nil BT.nil))) (BT.node (boot_o_5 P) (BT.node (boot_o_9 P) (BT.node (ho_17_e P) BT.nil BT.nil) (BT.node (ho_25_e P) BT.nil BT.nil)) (BT.node (ho_13_e P) (BT.node (ho_21_e P) BT.nil BT.nil) BT.nil))) (BT.node (ho_2_e P) (BT.node (boot_o_4 P) (BT.node (boot_o_8 P) (BT.node (ho_16_e P) BT.nil BT.nil) (BT.node (ho_24_e P) BT.nil BT.nil)) (BT.node (ho_12_e P) (BT.node (ho_20_e P) BT.nil BT.nil) BT.nil)) (BT.node (boot_o_6 P) (BT.node (boot_o_10 P) (BT.node (ho_18_e P) BT.nil BT.nil) (BT.node (ho_26_e P) BT.nil BT.nil)) (BT.node (ho_14_e P) (BT.node (ho_22_e P) BT.nil BT.nil) BT.nil))))
noncomputable def life_0 : Life := { }
noncomputable def stateT_0 (w : World) (os : OsState) : SharedT := { tree := tree_0 w.params, n := 28, life := life_0, gens := #[], drawn := { }, toks := 276, os := os }
noncomputable def toks_0 : Nat := 276
noncomputable def size_0 : Nat := 28
noncomputable def pos_0 : Pos := { line := 0, col := 0, endLine := 0, endCol := 0 }
noncomputable def steps_0 : Nat := 0
noncomputable def ho_28_a (P : Params) : Obj := { cls := Value.type "tuple", data := Data.seq #[] }
noncomputable def ho_29_a (P : Params) : Obj := { cls := Value.none, data := Data.fields #[] }
noncomputable def ho_30_a (P : Params) : Obj := { cls := Value.type "code", data := Data.fields #[Value.str (Str.ofString "<module>") 277, Value.str (Str.ofString "<module>") 278, Value.str (Str.ofString "/claim/cut.py") 279, Value.int 1 0, Value.int 0 0, Value.int 0 0, Value.int 0 0, Value.int 0 0, Value.ref 28, Value.bool false, Value.int 276 0, Value.ref 29, Value.none, Value.none, Value.none, Value.none, Value.int 280 0, Value.int 1 0, Value.str (Str.ofString "/claim/cut.py") 281] }
noncomputable def ho_31_a (P : Params) : Obj := { cls := Value.type "frame", slots := #[some (Value.ref 30), some (Value.ref 3), some (Value.ref 3), none, some (Value.str (Str.ofString "__main__") 164), none, some (Value.ref 0)] }
noncomputable def tree_a (P : Params) : BT := (BT.node (boot_o_0 P) (BT.node (ho_1_e P) (BT.node (ho_3_e P) (BT.node (boot_o_7 P) (BT.node (ho_15_e P) (BT.node (ho_31_a P) BT.nil BT.nil) BT.nil) (BT.node (ho_23_e P) BT.nil BT.nil)) (BT.node (ho_11_0 P) (BT.node (ho_19_e P) BT.nil BT.nil) (BT.node (ho_27_e P) BT.nil BT.nil))) (BT.node (boot_o_5 P) (BT.node (boot_o_9 P) (BT.node (ho_17_e P) BT.nil BT.nil) (BT.node (ho_25_e P) BT.nil BT.nil)) (BT.node (ho_13_e P) (BT.node (ho_21_e P) BT.nil BT.nil) (BT.node (ho_29_a P) BT.nil BT.nil)))) (BT.node (ho_2_e P) (BT.node (boot_o_4 P) (BT.node (boot_o_8 P) (BT.node (ho_16_e P) BT.nil BT.nil) (BT.node (ho_24_e P) BT.nil BT.nil)) (BT.node (ho_12_e P) (BT.node (ho_20_e P) BT.nil BT.nil) (BT.node (ho_28_a P) BT.nil BT.nil))) (BT.node (boot_o_6 P) (BT.node (boot_o_10 P) (BT.node (ho_18_e P) BT.nil BT.nil) (BT.node (ho_26_e P) BT.nil BT.nil)) (BT.node (ho_14_e P) (BT.node (ho_22_e P) BT.nil BT.nil) (BT.node (ho_30_a P) BT.nil BT.nil)))))
noncomputable def life_a : Life := { }
noncomputable def stateT_a (w : World) (os : OsState) : SharedT := { tree := tree_a w.params, n := 32, life := life_a, gens := #[], drawn := { }, toks := 282, os := os }
noncomputable def toks_a : Nat := 282
noncomputable def size_a : Nat := 32
noncomputable def pos_a : Pos := { line := 0, col := 0, endLine := 0, endCol := 0 }
noncomputable def steps_a : Nat := 12
noncomputable def tree_b (P : Params) : BT := (BT.node (boot_o_0 P) (BT.node (ho_1_e P) (BT.node (ho_3_e P) (BT.node (boot_o_7 P) (BT.node (ho_15_e P) (BT.node (ho_31_a P) BT.nil BT.nil) BT.nil) (BT.node (ho_23_e P) BT.nil BT.nil)) (BT.node (ho_11_0 P) (BT.node (ho_19_e P) BT.nil BT.nil) (BT.node (ho_27_e P) BT.nil BT.nil))) (BT.node (boot_o_5 P) (BT.node (boot_o_9 P) (BT.node (ho_17_e P) BT.nil BT.nil) (BT.node (ho_25_e P) BT.nil BT.nil)) (BT.node (ho_13_e P) (BT.node (ho_21_e P) BT.nil BT.nil) (BT.node (ho_29_a P) BT.nil BT.nil)))) (BT.node (ho_2_e P) (BT.node (boot_o_4 P) (BT.node (boot_o_8 P) (BT.node (ho_16_e P) BT.nil BT.nil) (BT.node (ho_24_e P) BT.nil BT.nil)) (BT.node (ho_12_e P) (BT.node (ho_20_e P) BT.nil BT.nil) (BT.node (ho_28_a P) BT.nil BT.nil))) (BT.node (boot_o_6 P) (BT.node (boot_o_10 P) (BT.node (ho_18_e P) BT.nil BT.nil) (BT.node (ho_26_e P) BT.nil BT.nil)) (BT.node (ho_14_e P) (BT.node (ho_22_e P) BT.nil BT.nil) (BT.node (ho_30_a P) BT.nil BT.nil)))))
noncomputable def life_b : Life := { }
noncomputable def stateT_b (w : World) (os : OsState) : SharedT := { tree := tree_b w.params, n := 32, life := life_b, gens := #[], drawn := { }, toks := 282, os := os }
noncomputable def toks_b : Nat := 282
noncomputable def size_b : Nat := 32
noncomputable def pos_b : Pos := { line := 0, col := 0, endLine := 0, endCol := 0 }
noncomputable def steps_b : Nat := 0
noncomputable def ho_3_6 (P : Params) : Obj := { cls := Value.type "dict", data := Data.dict #[{ hash := PyData.keyHash P (Str.ofString "__name__"), key := Value.str (Str.ofString "__name__") 165, val := Value.str (Str.ofString "re") 368 }, { hash := PyData.keyHash P (Str.ofString "__doc__"), key := Value.str (Str.ofString "__doc__") 166, val := Value.none }, { hash := PyData.keyHash P (Str.ofString "__package__"), key := Value.str (Str.ofString "__package__") 167, val := Value.none }, { hash := PyData.keyHash P (Str.ofString "__loader__"), key := Value.str (Str.ofString "__loader__") 168, val := Value.builtin "__main__.__loader__#opaque" }, { hash := PyData.keyHash P (Str.ofString "__spec__"), key := Value.str (Str.ofString "__spec__") 169, val := Value.none }, { hash := PyData.keyHash P (Str.ofString "__annotations__"), key := Value.str (Str.ofString "__annotations__") 170, val := Value.ref 6 }, { hash := PyData.keyHash P (Str.ofString "__builtins__"), key := Value.str (Str.ofString "__builtins__") 171, val := Value.ref 4 }, { hash := PyData.keyHash P (Str.ofString "__file__"), key := Value.str (Str.ofString "__file__") 173, val := Value.str (Str.ofString "/claim/cut.py") 172 }, { hash := PyData.keyHash P (Str.ofString "__cached__"), key := Value.str (Str.ofString "__cached__") 174, val := Value.none }, { hash := PyData.keyHash P (Str.ofString "_sre"), key := Value.str (Str.ofString "_sre") 275, val := Value.ref 12 }, { hash := PyData.keyHash P (Str.ofString "IPV4_RE"), key := Value.str (Str.ofString "IPV4_RE") 313, val := Value.ref 36 }, { hash := PyData.keyHash P (Str.ofString "liberal_is_HDN"), key := Value.str (Str.ofString "liberal_is_HDN") 320, val := Value.ref 43 }, { hash := PyData.keyHash P (Str.ofString "user_domain_match"), key := Value.str (Str.ofString "user_domain_match") 329, val := Value.ref 50 }, { hash := PyData.keyHash P (Str.ofString "_twin_re_1"), key := Value.str (Str.ofString "_twin_re_1") 367, val := Value.ref 55 }] 14 }
noncomputable def ho_29_6 (P : Params) : Obj := { cls := Value.none, data := Data.fields #[Value.int 4 0, Value.int 0 0, Value.ref 42, Value.int 8 0, Value.int 0 0, Value.ref 49] }
noncomputable def ho_32_6 (P : Params) : Obj := { cls := Value.type "list", data := Data.seq #[Value.int 14 287, Value.int 8 288, Value.int 1 289, Value.int 2 290, Value.int 4294967295 291, Value.int 1 292, Value.int 1 293, Value.int 46 294, Value.int 0 295, Value.int 16 296, Value.int 46 297, Value.int 24 298, Value.int 9 299, Value.int 1 300, Value.int 4294967295 301, Value.int 13 302, Value.int 4 303, Value.int 8 304, Value.int 0 305, Value.int 0 306, Value.int 1 307, Value.int 6 308, Value.int 5 309, Value.int 1 310] }
noncomputable def ho_33_6 (P : Params) : Obj := { cls := Value.type "dict", data := Data.dict #[] }
noncomputable def ho_34_6 (P : Params) : Obj := { cls := Value.type "tuple", data := Data.seq #[Value.none] }
noncomputable def ho_35_6 (P : Params) : Obj := { cls := Value.type "tuple", data := Data.seq #[Value.int 14 0, Value.int 8 0, Value.int 1 0, Value.int 2 0, Value.int 4294967295 0, Value.int 1 0, Value.int 1 0, Value.int 46 0, Value.int 0 0, Value.int 16 0, Value.int 46 0, Value.int 24 0, Value.int 9 0, Value.int 1 0, Value.int 4294967295 0, Value.int 13 0, Value.int 4 0, Value.int 8 0, Value.int 0 0, Value.int 0 0, Value.int 1 0, Value.int 6 0, Value.int 5 0, Value.int 1 0] }
noncomputable def ho_36_6 (P : Params) : Obj := { cls := Value.type "re.Pattern", data := Data.fields #[Value.str (Str.ofString "\\.\\d+$") 285, Value.int 256 312, Value.int 0 0, Value.none, Value.none, Value.ref 35, Value.int 0 0] }
noncomputable def ho_37_6 (P : Params) : Obj := { cls := Value.type "tuple", data := Data.seq #[] }
noncomputable def ho_38_6 (P : Params) : Obj := { cls := Value.none, data := Data.fields #[] }
noncomputable def ho_39_6 (P : Params) : Obj := { cls := Value.type "tuple", data := Data.seq #[Value.str (Str.ofString "text") 317] }
noncomputable def ho_40_6 (P : Params) : Obj := { cls := Value.type "tuple", data := Data.seq #[] }
noncomputable def ho_41_6 (P : Params) : Obj := { cls := Value.none, dict := none, data := Data.func { name := Str.ofString "liberal_is_HDN", qualname := Str.ofString "liberal_is_HDN", params := paramsOf (stmtN 3), body := FuncBody.stmts (bodyOf (stmtN 3)), scope := scopeOf (stmtN 3), globals := 0, closure := [], defaults := Value.none, kwdefaults := Value.none, doc := Value.none, pyModule := Value.none, annotations := none, code := Value.none, closureTuple := Value.none, builtins := 0 }, slots := #[] }
noncomputable def ho_42_6 (P : Params) : Obj := { cls := Value.type "code", data := Data.fields #[Value.str (Str.ofString "liberal_is_HDN") 314, Value.str (Str.ofString "liberal_is_HDN") 315, Value.str (Str.ofString "/claim/cut.py") 316, Value.int 4 0, Value.int 1 0, Value.int 0 0, Value.int 0 0, Value.int 3 0, Value.ref 37, Value.bool true, Value.int 276 0, Value.ref 38, Value.none, Value.ref 39, Value.ref 40, Value.ref 41, Value.int 318 0, Value.int 4 0, Value.str (Str.ofString "/claim/cut.py") 319] }
noncomputable def ho_43_6 (P : Params) : Obj := { cls := Value.type "function", dict := none, data := Data.func { name := Str.ofString "liberal_is_HDN", qualname := Str.ofString "liberal_is_HDN", params := paramsOf (stmtN 3), body := FuncBody.stmts (bodyOf (stmtN 3)), scope := scopeOf (stmtN 3), globals := 3, closure := [], defaults := Value.none, kwdefaults := Value.none, doc := Value.none, pyModule := Value.str (Str.ofString "cpy313.http.cookiejar") 282, annotations := none, code := Value.ref 42, closureTuple := Value.none, builtins := 0 }, slots := #[] }
noncomputable def ho_44_6 (P : Params) : Obj := { cls := Value.type "tuple", data := Data.seq #[] }
noncomputable def ho_45_6 (P : Params) : Obj := { cls := Value.none, data := Data.fields #[] }
noncomputable def ho_46_6 (P : Params) : Obj := { cls := Value.type "tuple", data := Data.seq #[Value.str (Str.ofString "A") 324, Value.str (Str.ofString "B") 325, Value.str (Str.ofString "initial_dot") 326] }
noncomputable def ho_47_6 (P : Params) : Obj := { cls := Value.type "tuple", data := Data.seq #[] }
noncomputable def ho_48_6 (P : Params) : Obj := { cls := Value.none, dict := none, data := Data.func { name := Str.ofString "user_domain_match", qualname := Str.ofString "user_domain_match", params := paramsOf (stmtN 4), body := FuncBody.stmts (bodyOf (stmtN 4)), scope := scopeOf (stmtN 4), globals := 0, closure := [], defaults := Value.none, kwdefaults := Value.none, doc := Value.none, pyModule := Value.none, annotations := none, code := Value.none, closureTuple := Value.none, builtins := 0 }, slots := #[] }
noncomputable def ho_49_6 (P : Params) : Obj := { cls := Value.type "code", data := Data.fields #[Value.str (Str.ofString "user_domain_match") 321, Value.str (Str.ofString "user_domain_match") 322, Value.str (Str.ofString "/claim/cut.py") 323, Value.int 8 0, Value.int 2 0, Value.int 0 0, Value.int 0 0, Value.int 3 0, Value.ref 44, Value.bool true, Value.int 276 0, Value.ref 45, Value.none, Value.ref 46, Value.ref 47, Value.ref 48, Value.int 327 0, Value.int 8 0, Value.str (Str.ofString "/claim/cut.py") 328] }
noncomputable def ho_50_6 (P : Params) : Obj := { cls := Value.type "function", dict := none, data := Data.func { name := Str.ofString "user_domain_match", qualname := Str.ofString "user_domain_match", params := paramsOf (stmtN 4), body := FuncBody.stmts (bodyOf (stmtN 4)), scope := scopeOf (stmtN 4), globals := 3, closure := [], defaults := Value.none, kwdefaults := Value.none, doc := Value.none, pyModule := Value.str (Str.ofString "cpy313.http.cookiejar") 282, annotations := none, code := Value.ref 49, closureTuple := Value.none, builtins := 0 }, slots := #[] }
noncomputable def ho_51_6 (P : Params) : Obj := { cls := Value.type "list", data := Data.seq #[Value.int 14 333, Value.int 14 334, Value.int 4 335, Value.int 1 336, Value.int 1 337, Value.int 9 338, Value.int 0 339, Value.int 64 340, Value.int 0 341, Value.int 1342177280 342, Value.int 0 343, Value.int 0 344, Value.int 0 345, Value.int 0 346, Value.int 0 347, Value.int 17 348, Value.int 0 349, Value.int 13 350, Value.int 11 351, Value.int 9 352, Value.int 0 353, Value.int 64 354, Value.int 0 355, Value.int 1342177280 356, Value.int 0 357, Value.int 0 358, Value.int 0 359, Value.int 0 360, Value.int 0 361, Value.int 17 362, Value.int 1 363, Value.int 1 364] }
noncomputable def ho_52_6 (P : Params) : Obj := { cls := Value.type "dict", data := Data.dict #[] }
noncomputable def ho_53_6 (P : Params) : Obj := { cls := Value.type "tuple", data := Data.seq #[Value.none, Value.none] }
noncomputable def ho_54_6 (P : Params) : Obj := { cls := Value.type "tuple", data := Data.seq #[Value.int 14 0, Value.int 14 0, Value.int 4 0, Value.int 1 0, Value.int 1 0, Value.int 9 0, Value.int 0 0, Value.int 64 0, Value.int 0 0, Value.int 1342177280 0, Value.int 0 0, Value.int 0 0, Value.int 0 0, Value.int 0 0, Value.int 0 0, Value.int 17 0, Value.int 0 0, Value.int 13 0, Value.int 11 0, Value.int 9 0, Value.int 0 0, Value.int 64 0, Value.int 0 0, Value.int 1342177280 0, Value.int 0 0, Value.int 0 0, Value.int 0 0, Value.int 0 0, Value.int 0 0, Value.int 17 0, Value.int 1 0, Value.int 1 0] }
noncomputable def ho_55_6 (P : Params) : Obj := { cls := Value.type "re.Pattern", data := Data.fields #[Value.str (Str.ofString "([&~|])") 331, Value.int 32 366, Value.int 1 0, Value.none, Value.none, Value.ref 54, Value.int 0 0] }
noncomputable def tree_6 (P : Params) : BT := (BT.node (boot_o_0 P) (BT.node (ho_1_e P) (BT.node (ho_3_6 P) (BT.node (boot_o_7 P) (BT.node (ho_15_e P) (BT.node (ho_31_a P) BT.nil BT.nil) (BT.node (ho_47_6 P) BT.nil BT.nil)) (BT.node (ho_23_e P) (BT.node (ho_39_6 P) BT.nil BT.nil) (BT.node (ho_55_6 P) BT.nil BT.nil))) (BT.node (ho_11_0 P) (BT.node (ho_19_e P) (BT.node (ho_35_6 P) BT.nil BT.nil) (BT.node (ho_51_6 P) BT.nil BT.nil)) (BT.node (ho_27_e P) (BT.node (ho_43_6 P) BT.nil BT.nil) BT.nil))) (BT.node (boot_o_5 P) (BT.node (boot_o_9 P) (BT.node (ho_17_e P) (BT.node (ho_33_6 P) BT.nil BT.nil) (BT.node (ho_49_6 P) BT.nil BT.nil)) (BT.node (ho_25_e P) (BT.node (ho_41_6 P) BT.nil BT.nil) BT.nil)) (BT.node (ho_13_e P) (BT.node (ho_21_e P) (BT.node (ho_37_6 P) BT.nil BT.nil) (BT.node (ho_53_6 P) BT.nil BT.nil)) (BT.node (ho_29_6 P) (BT.node (ho_45_6 P) BT.nil BT.nil) BT.nil)))) (BT.node (ho_2_e P) (BT.node (boot_o_4 P) (BT.node (boot_o_8 P) (BT.node (ho_16_e P) (BT.node (ho_32_6 P) BT.nil BT.nil) (BT.node (ho_48_6 P) BT.nil BT.nil)) (BT.node (ho_24_e P) (BT.node (ho_40_6 P) BT.nil BT.nil) BT.nil)) (BT.node (ho_12_e P) (BT.node (ho_20_e P) (BT.node (ho_36_6 P) BT.nil BT.nil) (BT.node (ho_52_6 P) BT.nil BT.nil)) (BT.node (ho_28_a P) (BT.node (ho_44_6 P) BT.nil BT.nil) BT.nil))) (BT.node (boot_o_6 P) (BT.node (boot_o_10 P) (BT.node (ho_18_e P) (BT.node (ho_34_6 P) BT.nil BT.nil) (BT.node (ho_50_6 P) BT.nil BT.nil)) (BT.node (ho_26_e P) (BT.node (ho_42_6 P) BT.nil BT.nil) BT.nil)) (BT.node (ho_14_e P) (BT.node (ho_22_e P) (BT.node (ho_38_6 P) BT.nil BT.nil) (BT.node (ho_54_6 P) BT.nil BT.nil)) (BT.node (ho_30_a P) (BT.node (ho_46_6 P) BT.nil BT.nil) BT.nil)))))
noncomputable def life_6 : Life := { }
noncomputable def stateT_6 (w : World) (os : OsState) : SharedT := { tree := tree_6 w.params, n := 56, life := life_6, gens := #[], drawn := { }, toks := 370, os := os }
noncomputable def toks_6 : Nat := 370
noncomputable def size_6 : Nat := 56
noncomputable def pos_6 : Pos := { line := 22, col := 0, endLine := 22, endCol := 8 }
noncomputable def steps_6 : Nat := 232
noncomputable def ho_3_7 (P : Params) : Obj := { cls := Value.type "dict", data := Data.dict #[{ hash := PyData.keyHash P (Str.ofString "__name__"), key := Value.str (Str.ofString "__name__") 165, val := Value.str (Str.ofString "re") 368 }, { hash := PyData.keyHash P (Str.ofString "__doc__"), key := Value.str (Str.ofString "__doc__") 166, val := Value.none }, { hash := PyData.keyHash P (Str.ofString "__package__"), key := Value.str (Str.ofString "__package__") 167, val := Value.none }, { hash := PyData.keyHash P (Str.ofString "__loader__"), key := Value.str (Str.ofString "__loader__") 168, val := Value.builtin "__main__.__loader__#opaque" }, { hash := PyData.keyHash P (Str.ofString "__spec__"), key := Value.str (Str.ofString "__spec__") 169, val := Value.none }, { hash := PyData.keyHash P (Str.ofString "__annotations__"), key := Value.str (Str.ofString "__annotations__") 170, val := Value.ref 6 }, { hash := PyData.keyHash P (Str.ofString "__builtins__"), key := Value.str (Str.ofString "__builtins__") 171, val := Value.ref 4 }, { hash := PyData.keyHash P (Str.ofString "__file__"), key := Value.str (Str.ofString "__file__") 173, val := Value.str (Str.ofString "/claim/cut.py") 172 }, { hash := PyData.keyHash P (Str.ofString "__cached__"), key := Value.str (Str.ofString "__cached__") 174, val := Value.none }, { hash := PyData.keyHash P (Str.ofString "_sre"), key := Value.str (Str.ofString "_sre") 275, val := Value.ref 12 }, { hash := PyData.keyHash P (Str.ofString "IPV4_RE"), key := Value.str (Str.ofString "IPV4_RE") 313, val := Value.ref 36 }, { hash := PyData.keyHash P (Str.ofString "liberal_is_HDN"), key := Value.str (Str.ofString "liberal_is_HDN") 320, val := Value.ref 43 }, { hash := PyData.keyHash P (Str.ofString "user_domain_match"), key := Value.str (Str.ofString "user_domain_match") 329, val := Value.ref 50 }, { hash := PyData.keyHash P (Str.ofString "_twin_re_1"), key := Value.str (Str.ofString "_twin_re_1") 367, val := Value.ref 55 }, { hash := PyData.keyHash P (Str.ofString "_special_chars_map"), key := Value.str (Str.ofString "_special_chars_map") 515, val := Value.ref 57 }] 15 }
noncomputable def ho_56_7 (P : Params) : Obj := { cls := Value.type "bytes_iterator", data := Data.fields #[Value.none, Value.int 24 0] }
noncomputable def ho_57_7 (P : Params) : Obj := { cls := Value.type "dict", data := Data.dict #[{ hash := 40, key := Value.int 40 371, val := Value.str (Str.ofString "\\(") 375 }, { hash := 41, key := Value.int 41 377, val := Value.str (Str.ofString "\\)") 381 }, { hash := 91, key := Value.int 91 383, val := Value.str (Str.ofString "\\[") 387 }, { hash := 93, key := Value.int 93 389, val := Value.str (Str.ofString "\\]") 393 }, { hash := 123, key := Value.int 123 395, val := Value.str (Str.ofString "\\{") 399 }, { hash := 125, key := Value.int 125 401, val := Value.str (Str.ofString "\\}") 405 }, { hash := 63, key := Value.int 63 407, val := Value.str (Str.ofString "\\?") 411 }, { hash := 42, key := Value.int 42 413, val := Value.str (Str.ofString "\\*") 417 }, { hash := 43, key := Value.int 43 419, val := Value.str (Str.ofString "\\+") 423 }, { hash := 45, key := Value.int 45 425, val := Value.str (Str.ofString "\\-") 429 }, { hash := 124, key := Value.int 124 431, val := Value.str (Str.ofString "\\|") 435 }, { hash := 94, key := Value.int 94 437, val := Value.str (Str.ofString "\\^") 441 }, { hash := 36, key := Value.int 36 443, val := Value.str (Str.ofString "\\$") 447 }, { hash := 92, key := Value.int 92 449, val := Value.str (Str.ofString "\\\\") 453 }, { hash := 46, key := Value.int 46 455, val := Value.str (Str.ofString "\\.") 459 }, { hash := 38, key := Value.int 38 461, val := Value.str (Str.ofString "\\&") 465 }, { hash := 126, key := Value.int 126 467, val := Value.str (Str.ofString "\\~") 471 }, { hash := 35, key := Value.int 35 473, val := Value.str (Str.ofString "\\#") 477 }, { hash := 32, key := Value.int 32 479, val := Value.str (Str.ofString "\\ ") 483 }, { hash := 9, key := Value.int 9 485, val := Value.str (Str.ofString "\\\t") 489 }, { hash := 10, key := Value.int 10 491, val := Value.str (Str.ofString "\\\n") 495 }, { hash := 13, key := Value.int 13 497, val := Value.str (Str.ofString "\\\x0d") 501 }, { hash := 11, key := Value.int 11 503, val := Value.str (Str.ofString "\\\x0b") 507 }, { hash := 12, key := Value.int 12 509, val := Value.str (Str.ofString "\\\x0c") 513 }] 24 }
noncomputable def ho_58_7 (P : Params) : Obj := { cls := Value.type "dict", data := Data.dict #[] 2 }
noncomputable def ho_59_7 (P : Params) : Obj := { cls := Value.type "tuple", data := Data.seq #[] }
noncomputable def ho_60_7 (P : Params) : Obj := { cls := Value.type "StopIteration", data := Data.fields #[Value.ref 59, Value.none, Value.none, Value.none, Value.bool false, Value.none] }
noncomputable def tree_7 (P : Params) : BT := (BT.node (boot_o_0 P) (BT.node (ho_1_e P) (BT.node (ho_3_7 P) (BT.node (boot_o_7 P) (BT.node (ho_15_e P) (BT.node (ho_31_a P) BT.nil BT.nil) (BT.node (ho_47_6 P) BT.nil BT.nil)) (BT.node (ho_23_e P) (BT.node (ho_39_6 P) BT.nil BT.nil) (BT.node (ho_55_6 P) BT.nil BT.nil))) (BT.node (ho_11_0 P) (BT.node (ho_19_e P) (BT.node (ho_35_6 P) BT.nil BT.nil) (BT.node (ho_51_6 P) BT.nil BT.nil)) (BT.node (ho_27_e P) (BT.node (ho_43_6 P) BT.nil BT.nil) (BT.node (ho_59_7 P) BT.nil BT.nil)))) (BT.node (boot_o_5 P) (BT.node (boot_o_9 P) (BT.node (ho_17_e P) (BT.node (ho_33_6 P) BT.nil BT.nil) (BT.node (ho_49_6 P) BT.nil BT.nil)) (BT.node (ho_25_e P) (BT.node (ho_41_6 P) BT.nil BT.nil) (BT.node (ho_57_7 P) BT.nil BT.nil))) (BT.node (ho_13_e P) (BT.node (ho_21_e P) (BT.node (ho_37_6 P) BT.nil BT.nil) (BT.node (ho_53_6 P) BT.nil BT.nil)) (BT.node (ho_29_6 P) (BT.node (ho_45_6 P) BT.nil BT.nil) BT.nil)))) (BT.node (ho_2_e P) (BT.node (boot_o_4 P) (BT.node (boot_o_8 P) (BT.node (ho_16_e P) (BT.node (ho_32_6 P) BT.nil BT.nil) (BT.node (ho_48_6 P) BT.nil BT.nil)) (BT.node (ho_24_e P) (BT.node (ho_40_6 P) BT.nil BT.nil) (BT.node (ho_56_7 P) BT.nil BT.nil))) (BT.node (ho_12_e P) (BT.node (ho_20_e P) (BT.node (ho_36_6 P) BT.nil BT.nil) (BT.node (ho_52_6 P) BT.nil BT.nil)) (BT.node (ho_28_a P) (BT.node (ho_44_6 P) BT.nil BT.nil) (BT.node (ho_60_7 P) BT.nil BT.nil)))) (BT.node (boot_o_6 P) (BT.node (boot_o_10 P) (BT.node (ho_18_e P) (BT.node (ho_34_6 P) BT.nil BT.nil) (BT.node (ho_50_6 P) BT.nil BT.nil)) (BT.node (ho_26_e P) (BT.node (ho_42_6 P) BT.nil BT.nil) (BT.node (ho_58_7 P) BT.nil BT.nil))) (BT.node (ho_14_e P) (BT.node (ho_22_e P) (BT.node (ho_38_6 P) BT.nil BT.nil) (BT.node (ho_54_6 P) BT.nil BT.nil)) (BT.node (ho_30_a P) (BT.node (ho_46_6 P) BT.nil BT.nil) BT.nil)))))
noncomputable def life_7 : Life := { }
noncomputable def stateT_7 (w : World) (os : OsState) : SharedT := { tree := tree_7 w.params, n := 61, life := life_7, gens := #[], drawn := { }, toks := 516, os := os }
noncomputable def toks_7 : Nat := 516
noncomputable def size_7 : Nat := 61
noncomputable def pos_7 : Pos := { line := 23, col := 0, endLine := 23, endCol := 18 }
noncomputable def steps_7 : Nat := 1252
noncomputable def ho_3_31 (P : Params) : Obj := { cls := Value.type "dict", data := Data.dict #[{ hash := PyData.keyHash P (Str.ofString "__name__"), key := Value.str (Str.ofString "__name__") 165, val := Value.str (Str.ofString "cpy313.stat") 544 }, { hash := PyData.keyHash P (Str.ofString "__doc__"), key := Value.str (Str.ofString "__doc__") 166, val := Value.none }, { hash := PyData.keyHash P (Str.ofString "__package__"), key := Value.str (Str.ofString "__package__") 167, val := Value.none }, { hash := PyData.keyHash P (Str.ofString "__loader__"), key := Value.str (Str.ofString "__loader__") 168, val := Value.builtin "__main__.__loader__#opaque" }, { hash := PyData.keyHash P (Str.ofString "__spec__"), key := Value.str (Str.ofString "__spec__") 169, val := Value.none }, { hash := PyData.keyHash P (Str.ofString "__annotations__"), key := Value.str (Str.ofString "__annotations__") 170, val := Value.ref 6 }, { hash := PyData.keyHash P (Str.ofString "__builtins__"), key := Value.str (Str.ofString "__builtins__") 171, val := Value.ref 4 }, { hash := PyData.keyHash P (Str.ofString "__file__"), key := Value.str (Str.ofString "__file__") 173, val := Value.str (Str.ofString "/claim/cut.py") 172 }, { hash := PyData.keyHash P (Str.ofString "__cached__"), key := Value.str (Str.ofString "__cached__") 174, val := Value.none }, { hash := PyData.keyHash P (Str.ofString "_sre"), key := Value.str (Str.ofString "_sre") 275, val := Value.ref 12 }, { hash := PyData.keyHash P (Str.ofString "IPV4_RE"), key := Value.str (Str.ofString "IPV4_RE") 313, val := Value.ref 36 }, { hash := PyData.keyHash P (Str.ofString "liberal_is_HDN"), key := Value.str (Str.ofString "liberal_is_HDN") 320, val := Value.ref 43 }, { hash := PyData.keyHash P (Str.ofString "user_domain_match"), key := Value.str (Str.ofString "user_domain_match") 329, val := Value.ref 50 }, { hash := PyData.keyHash P (Str.ofString "_twin_re_1"), key := Value.str (Str.ofString "_twin_re_1") 367, val := Value.ref 55 }, { hash := PyData.keyHash P (Str.ofString "_special_chars_map"), key := Value.str (Str.ofString "_special_chars_map") 515, val := Value.ref 57 }, { hash := PyData.keyHash P (Str.ofString "escape"), key := Value.str (Str.ofString "escape") 522, val := Value.ref 67 }, { hash := PyData.keyHash P (Str.ofString "_translate"), key := Value.str (Str.ofString "_translate") 543, val := Value.ref 74 }, { hash := PyData.keyHash P (Str.ofString "S_IFMT"), key := Value.str (Str.ofString "S_IFMT") 552, val := Value.ref 81 }, { hash := PyData.keyHash P (Str.ofString "S_IFDIR"), key := Value.str (Str.ofString "S_IFDIR") 554, val := Value.int 16384 553 }, { hash := PyData.keyHash P (Str.ofString "S_IFCHR"), key := Value.str (Str.ofString "S_IFCHR") 556, val := Value.int 8192 555 }, { hash := PyData.keyHash P (Str.ofString "S_IFBLK"), key := Value.str (Str.ofString "S_IFBLK") 558, val := Value.int 24576 557 }, { hash := PyData.keyHash P (Str.ofString "S_IFREG"), key := Value.str (Str.ofString "S_IFREG") 560, val := Value.int 32768 559 }, { hash := PyData.keyHash P (Str.ofString "S_IFIFO"), key := Value.str (Str.ofString "S_IFIFO") 562, val := Value.int 4096 561 }, { hash := PyData.keyHash P (Str.ofString "S_IFLNK"), key := Value.str (Str.ofString "S_IFLNK") 564, val := Value.int 40960 563 }, { hash := PyData.keyHash P (Str.ofString "S_IFSOCK"), key := Value.str (Str.ofString "S_IFSOCK") 566, val := Value.int 49152 565 }, { hash := PyData.keyHash P (Str.ofString "S_ISUID"), key := Value.str (Str.ofString "S_ISUID") 568, val := Value.int 2048 567 }, { hash := PyData.keyHash P (Str.ofString "S_ISGID"), key := Value.str (Str.ofString "S_ISGID") 570, val := Value.int 1024 569 }, { hash := PyData.keyHash P (Str.ofString "S_ISVTX"), key := Value.str (Str.ofString "S_ISVTX") 572, val := Value.int 512 571 }, { hash := PyData.keyHash P (Str.ofString "S_IRUSR"), key := Value.str (Str.ofString "S_IRUSR") 574, val := Value.int 256 573 }, { hash := PyData.keyHash P (Str.ofString "S_IWUSR"), key := Value.str (Str.ofString "S_IWUSR") 576, val := Value.int 128 575 }, { hash := PyData.keyHash P (Str.ofString "S_IXUSR"), key := Value.str (Str.ofString "S_IXUSR") 578, val := Value.int 64 577 }, { hash := PyData.keyHash P (Str.ofString "S_IRGRP"), key := Value.str (Str.ofString "S_IRGRP") 580, val := Value.int 32 579 }, { hash := PyData.keyHash P (Str.ofString "S_IWGRP"), key := Value.str (Str.ofString "S_IWGRP") 582, val := Value.int 16 581 }, { hash := PyData.keyHash P (Str.ofString "S_IXGRP"), key := Value.str (Str.ofString "S_IXGRP") 584, val := Value.int 8 583 }, { hash := PyData.keyHash P (Str.ofString "S_IROTH"), key := Value.str (Str.ofString "S_IROTH") 586, val := Value.int 4 585 }, { hash := PyData.keyHash P (Str.ofString "S_IWOTH"), key := Value.str (Str.ofString "S_IWOTH") 588, val := Value.int 2 587 }, { hash := PyData.keyHash P (Str.ofString "S_IXOTH"), key := Value.str (Str.ofString "S_IXOTH") 590, val := Value.int 1 589 }] 37 }
noncomputable def ho_29_31 (P : Params) : Obj := { cls := Value.none, data := Data.fields #[Value.int 4 0, Value.int 0 0, Value.ref 42, Value.int 8 0, Value.int 0 0, Value.ref 49, Value.int 24 0, Value.int 0 0, Value.ref 66, Value.int 31 0, Value.int 0 0, Value.ref 73, Value.int 94 0, Value.int 0 0, Value.ref 80] }
noncomputable def ho_61_31 (P : Params) : Obj := { cls := Value.type "tuple", data := Data.seq #[] }
noncomputable def ho_62_31 (P : Params) : Obj := { cls := Value.none, data := Data.fields #[] }
noncomputable def ho_63_31 (P : Params) : Obj := { cls := Value.type "tuple", data := Data.seq #[Value.str (Str.ofString "pattern") 519] }
noncomputable def ho_64_31 (P : Params) : Obj := { cls := Value.type "tuple", data := Data.seq #[] }
noncomputable def ho_65_31 (P : Params) : Obj := { cls := Value.none, dict := none, data := Data.func { name := Str.ofString "escape", qualname := Str.ofString "escape", params := paramsOf (stmtN 8), body := FuncBody.stmts (bodyOf (stmtN 8)), scope := scopeOf (stmtN 8), globals := 0, closure := [], defaults := Value.none, kwdefaults := Value.none, doc := Value.none, pyModule := Value.none, annotations := none, code := Value.none, closureTuple := Value.none, builtins := 0 }, slots := #[] }
noncomputable def ho_66_31 (P : Params) : Obj := { cls := Value.type "code", data := Data.fields #[Value.str (Str.ofString "escape") 516, Value.str (Str.ofString "escape") 517, Value.str (Str.ofString "/claim/cut.py") 518, Value.int 24 0, Value.int 1 0, Value.int 0 0, Value.int 0 0, Value.int 3 0, Value.ref 61, Value.bool true, Value.int 276 0, Value.ref 62, Value.none, Value.ref 63, Value.ref 64, Value.ref 65, Value.int 520 0, Value.int 24 0, Value.str (Str.ofString "/claim/cut.py") 521] }
noncomputable def ho_67_31 (P : Params) : Obj := { cls := Value.type "function", dict := none, data := Data.func { name := Str.ofString "escape", qualname := Str.ofString "escape", params := paramsOf (stmtN 8), body := FuncBody.stmts (bodyOf (stmtN 8)), scope := scopeOf (stmtN 8), globals := 3, closure := [], defaults := Value.none, kwdefaults := Value.none, doc := Value.none, pyModule := Value.str (Str.ofString "re") 368, annotations := none, code := Value.ref 66, closureTuple := Value.none, builtins := 0 }, slots := #[] }
noncomputable def ho_68_31 (P : Params) : Obj := { cls := Value.type "tuple", data := Data.seq #[] }
noncomputable def ho_69_31 (P : Params) : Obj := { cls := Value.none, data := Data.fields #[] }
noncomputable def ho_70_31 (P : Params) : Obj := { cls := Value.type "tuple", data := Data.seq #[Value.str (Str.ofString "pat") 528, Value.str (Str.ofString "STAR") 529, Value.str (Str.ofString "QUESTION_MARK") 530, Value.str (Str.ofString "res") 531, Value.str (Str.ofString "add") 532, Value.str (Str.ofString "i") 533, Value.str (Str.ofString "n") 534, Value.str (Str.ofString "c") 535, Value.str (Str.ofString "j") 536, Value.str (Str.ofString "stuff") 537, Value.str (Str.ofString "chunks") 538, Value.str (Str.ofString "k") 539, Value.str (Str.ofString "chunk") 540] }
noncomputable def ho_71_31 (P : Params) : Obj := { cls := Value.type "tuple", data := Data.seq #[] }
noncomputable def ho_72_31 (P : Params) : Obj := { cls := Value.none, dict := none, data := Data.func { name := Str.ofString "_translate", qualname := Str.ofString "_translate", params := paramsOf (stmtN 10), body := FuncBody.stmts (bodyOf (stmtN 10)), scope := scopeOf (stmtN 10), globals := 0, closure := [], defaults := Value.none, kwdefaults := Value.none, doc := Value.none, pyModule := Value.none, annotations := none, code := Value.none, closureTuple := Value.none, builtins := 0 }, slots := #[] }
noncomputable def ho_73_31 (P : Params) : Obj := { cls := Value.type "code", data := Data.fields #[Value.str (Str.ofString "_translate") 525, Value.str (Str.ofString "_translate") 526, Value.str (Str.ofString "/claim/cut.py") 527, Value.int 31 0, Value.int 3 0, Value.int 0 0, Value.int 0 0, Value.int 3 0, Value.ref 68, Value.bool true, Value.int 276 0, Value.ref 69, Value.none, Value.ref 70, Value.ref 71, Value.ref 72, Value.int 541 0, Value.int 31 0, Value.str (Str.ofString "/claim/cut.py") 542] }
noncomputable def ho_74_31 (P : Params) : Obj := { cls := Value.type "function", dict := none, data := Data.func { name := Str.ofString "_translate", qualname := Str.ofString "_translate", params := paramsOf (stmtN 10), body := FuncBody.stmts (bodyOf (stmtN 10)), scope := scopeOf (stmtN 10), globals := 3, closure := [], defaults := Value.none, kwdefaults := Value.none, doc := Value.none, pyModule := Value.str (Str.ofString "cpy313.fnmatch") 523, annotations := none, code := Value.ref 73, closureTuple := Value.none, builtins := 0 }, slots := #[] }
noncomputable def ho_75_31 (P : Params) : Obj := { cls := Value.type "tuple", data := Data.seq #[] }
noncomputable def ho_76_31 (P : Params) : Obj := { cls := Value.none, data := Data.fields #[] }
noncomputable def ho_77_31 (P : Params) : Obj := { cls := Value.type "tuple", data := Data.seq #[Value.str (Str.ofString "mode") 549] }
noncomputable def ho_78_31 (P : Params) : Obj := { cls := Value.type "tuple", data := Data.seq #[] }
noncomputable def ho_79_31 (P : Params) : Obj := { cls := Value.none, dict := none, data := Data.func { name := Str.ofString "S_IFMT", qualname := Str.ofString "S_IFMT", params := paramsOf (stmtN 12), body := FuncBody.stmts (bodyOf (stmtN 12)), scope := scopeOf (stmtN 12), globals := 0, closure := [], defaults := Value.none, kwdefaults := Value.none, doc := Value.none, pyModule := Value.none, annotations := none, code := Value.none, closureTuple := Value.none, builtins := 0 }, slots := #[] }
noncomputable def ho_80_31 (P : Params) : Obj := { cls := Value.type "code", data := Data.fields #[Value.str (Str.ofString "S_IFMT") 546, Value.str (Str.ofString "S_IFMT") 547, Value.str (Str.ofString "/claim/cut.py") 548, Value.int 94 0, Value.int 1 0, Value.int 0 0, Value.int 0 0, Value.int 3 0, Value.ref 75, Value.bool true, Value.int 276 0, Value.ref 76, Value.none, Value.ref 77, Value.ref 78, Value.ref 79, Value.int 550 0, Value.int 94 0, Value.str (Str.ofString "/claim/cut.py") 551] }
noncomputable def ho_81_31 (P : Params) : Obj := { cls := Value.type "function", dict := none, data := Data.func { name := Str.ofString "S_IFMT", qualname := Str.ofString "S_IFMT", params := paramsOf (stmtN 12), body := FuncBody.stmts (bodyOf (stmtN 12)), scope := scopeOf (stmtN 12), globals := 3, closure := [], defaults := Value.none, kwdefaults := Value.none, doc := Value.none, pyModule := Value.str (Str.ofString "cpy313.stat") 544, annotations := none, code := Value.ref 80, closureTuple := Value.none, builtins := 0 }, slots := #[] }
noncomputable def tree_31 (P : Params) : BT := (BT.node (boot_o_0 P) (BT.node (ho_1_e P) (BT.node (ho_3_31 P) (BT.node (boot_o_7 P) (BT.node (ho_15_e P) (BT.node (ho_31_a P) (BT.node (ho_63_31 P) BT.nil BT.nil) BT.nil) (BT.node (ho_47_6 P) (BT.node (ho_79_31 P) BT.nil BT.nil) BT.nil)) (BT.node (ho_23_e P) (BT.node (ho_39_6 P) (BT.node (ho_71_31 P) BT.nil BT.nil) BT.nil) (BT.node (ho_55_6 P) BT.nil BT.nil))) (BT.node (ho_11_0 P) (BT.node (ho_19_e P) (BT.node (ho_35_6 P) (BT.node (ho_67_31 P) BT.nil BT.nil) BT.nil) (BT.node (ho_51_6 P) BT.nil BT.nil)) (BT.node (ho_27_e P) (BT.node (ho_43_6 P) (BT.node (ho_75_31 P) BT.nil BT.nil) BT.nil) (BT.node (ho_59_7 P) BT.nil BT.nil)))) (BT.node (boot_o_5 P) (BT.node (boot_o_9 P) (BT.node (ho_17_e P) (BT.node (ho_33_6 P) (BT.node (ho_65_31 P) BT.nil BT.nil) BT.nil) (BT.node (ho_49_6 P) (BT.node (ho_81_31 P) BT.nil BT.nil) BT.nil)) (BT.node (ho_25_e P) (BT.node (ho_41_6 P) (BT.node (ho_73_31 P) BT.nil BT.nil) BT.nil) (BT.node (ho_57_7 P) BT.nil BT.nil))) (BT.node (ho_13_e P) (BT.node (ho_21_e P) (BT.node (ho_37_6 P) (BT.node (ho_69_31 P) BT.nil BT.nil) BT.nil) (BT.node (ho_53_6 P) BT.nil BT.nil)) (BT.node (ho_29_31 P) (BT.node (ho_45_6 P) (BT.node (ho_77_31 P) BT.nil BT.nil) BT.nil) (BT.node (ho_61_31 P) BT.nil BT.nil))))) (BT.node (ho_2_e P) (BT.node (boot_o_4 P) (BT.node (boot_o_8 P) (BT.node (ho_16_e P) (BT.node (ho_32_6 P) (BT.node (ho_64_31 P) BT.nil BT.nil) BT.nil) (BT.node (ho_48_6 P) (BT.node (ho_80_31 P) BT.nil BT.nil) BT.nil)) (BT.node (ho_24_e P) (BT.node (ho_40_6 P) (BT.node (ho_72_31 P) BT.nil BT.nil) BT.nil) (BT.node (ho_56_7 P) BT.nil BT.nil))) (BT.node (ho_12_e P) (BT.node (ho_20_e P) (BT.node (ho_36_6 P) (BT.node (ho_68_31 P) BT.nil BT.nil) BT.nil) (BT.node (ho_52_6 P) BT.nil BT.nil)) (BT.node (ho_28_a P) (BT.node (ho_44_6 P) (BT.node (ho_76_31 P) BT.nil BT.nil) BT.nil) (BT.node (ho_60_7 P) BT.nil BT.nil)))) (BT.node (boot_o_6 P) (BT.node (boot_o_10 P) (BT.node (ho_18_e P) (BT.node (ho_34_6 P) (BT.node (ho_66_31 P) BT.nil BT.nil) BT.nil) (BT.node (ho_50_6 P) BT.nil BT.nil)) (BT.node (ho_26_e P) (BT.node (ho_42_6 P) (BT.node (ho_74_31 P) BT.nil BT.nil) BT.nil) (BT.node (ho_58_7 P) BT.nil BT.nil))) (BT.node (ho_14_e P) (BT.node (ho_22_e P) (BT.node (ho_38_6 P) (BT.node (ho_70_31 P) BT.nil BT.nil) BT.nil) (BT.node (ho_54_6 P) BT.nil BT.nil)) (BT.node (ho_30_a P) (BT.node (ho_46_6 P) (BT.node (ho_78_31 P) BT.nil BT.nil) BT.nil) (BT.node (ho_62_31 P) BT.nil BT.nil))))))
noncomputable def life_31 : Life := { }
noncomputable def stateT_31 (w : World) (os : OsState) : SharedT := { tree := tree_31 w.params, n := 82, life := life_31, gens := #[], drawn := { }, toks := 591, os := os }
noncomputable def toks_31 : Nat := 591
noncomputable def size_31 : Nat := 82
noncomputable def pos_31 : Pos := { line := 114, col := 0, endLine := 114, endCol := 7 }
noncomputable def steps_31 : Nat := 288
noncomputable def steps_rest : Nat := 469
noncomputable def annT : Option Value := some (Value.ref 6)
noncomputable def sizeT : Nat := 28
noncomputable def posQ : Pos := { line := 0, col := 0, endLine := 0, endCol := 0 }
noncomputable def topEnv : Env := { scope := PySem.Challenge.pw_rt0009_01.main.scope, locals := mainNs, globals := mainNs, cells := [], code := Value.ref 30, frame := some 31 }

/-! the run of the top, piece by piece -/
abbrev topP : Program := PySem.Challenge.pw_rt0009_01
def viewQ : Program := PySem.W.view PySem.Challenge.pw_rt0009_01 [0, 43]
def looseQ : List Str := (["IPV4_RE", "liberal_is_HDN", "user_domain_match", "_twin_re_1", "_special_chars_map", "escape", "_translate", "S_IFMT", "S_IFDIR", "S_IFCHR", "S_IFBLK", "S_IFREG", "S_IFIFO", "S_IFLNK", "S_IFSOCK", "S_ISUID", "S_ISGID", "S_ISVTX",
  "S_IRUSR", "S_IWUSR", "S_IXUSR", "S_IRGRP", "S_IWGRP", "S_IXGRP", "S_IROTH", "S_IWOTH", "S_IXOTH", "_filemode_table", "filemode", "_law_number", "_law_host", "_law_rule", "_law_pattern", "_law_fit", "_law_takes", "_law_signs", "_law_named"] : List String).map Str.ofString
def topBody : List Stmt := behindTheImports PySem.Challenge.pw_rt0009_01
noncomputable def topC : Code := Code.body topBody topEnv
noncomputable def topB : List Frame := [topFrame posQ]
noncomputable def heap_e (P : Params) : Heap := absHeap (tree_e P) 28 life_e
noncomputable def heap_0 (P : Params) : Heap := absHeap (tree_0 P) 28 life_0
theorem h_start (w : World) : (stateT_s w (start (opening topP)).1.os).abs = (start (opening topP)).1 := by kernel_rfl
theorem h_imp (w : World) (os : OsState) : (impGoT treeTable (opening topP) w 798 (stateT_s w os) (start (opening topP)).2).map (fun x => (x.1, x.2.atExitBegin)) = some (stateT_e w os, some []) := by kernel_rfl
theorem imp_all (w : World) : importEnds treeTable (opening topP) w 799 (start (opening topP)).1 (start (opening topP)).2 = some ⟨heap_e w.params, #[], {}, 276, (start (opening topP)).1.os⟩ := by
  obtain ⟨⟨s', t'⟩, hr, e⟩ := Option.map_eq_some_iff.mp (h_imp w (start (opening topP)).1.os)
  obtain ⟨e1, e2⟩ := Prod.mk.inj e
  have g := impGo_of hr
  rw [h_start] at g
  refine imp_go (N := 1) g ?_
  have e2 : t'.atExitBegin = some [] := e2
  unfold importEnds
  rw [e2]
  have e1 : s' = stateT_e w (start (opening topP)).1.os := e1
  rw [e1]
  rfl
theorem h_fence (w : World) : (fun os => (fenceModules? topP ⟨heap_e w.params, #[], {}, 276, os⟩).map (fun s => (s.heap, s.gens, s.drawn, s.toks))) = fun _ => some (heap_0 w.params, #[], {}, 276) := by kernel_rfl
theorem h_open (w : World) : (fencedOpening treeTable topP w 4604).map (fun s => (s.heap, s.gens, s.drawn, s.toks)) = some (heap_0 w.params, #[], {}, 276) :=
  open_cut (p := topP) (M := 799) imp_all (by decide) h_fence w
theorem h_size (w : World) : ((heap_0 w.params).isNs mainGlobals && (#[] : Array GenState).size == 0, (heap_0 w.params).objs.size, (heap_0 w.params).nsMap mainGlobals "__annotations__") = (true, sizeT, annT) := by kernel_rfl
theorem h_pre (w : World) (os : OsState) : topGo treeTable topP w sizeT annT 12 (stateT_0 w os).abs (topStub topP) = some ((stateT_a w os).abs, Thread.mk (denote treeTable topC) topC pos_a topB) := by kernel_rfl
theorem h_block (w : World) (os : OsState) : segRun treeTable topP w sizeT annT 1 1 (stateT_a w os).abs (blockOf topBody topEnv topC pos_a topB) = some (.next, (stateT_b w os).abs, topC, pos_b) := by kernel_rfl
theorem h_6 (w : World) (os : OsState) : segRunT treeTable topP w sizeT annT 1 233 (stateT_b w os) (piecesOf (topBody.take 6) topEnv topC pos_b topB) = some (.next, stateT_6 w os, topC, pos_6) := by kernel_rfl
def Turn7 (w : World) : Prop := ∀ os, segRunT treeTable topP w sizeT annT 1 1300 (stateT_6 w os) (piecesOf ((topBody.drop 6).take 1) topEnv topC pos_6 topB) = some (.next, stateT_7 w os, topC, pos_7)
theorem h7_ff (w : World) : Turn7 ((w.withFollow "special-get-raises" false).withFollow "comprehension-iter-twice" false) := fun os => by kernel_rfl
theorem h7_ft (w : World) : Turn7 ((w.withFollow "special-get-raises" false).withFollow "comprehension-iter-twice" true) := fun os => by kernel_rfl
theorem h7_tf (w : World) : Turn7 ((w.withFollow "special-get-raises" true).withFollow "comprehension-iter-twice" false) := fun os => by kernel_rfl
theorem h7_tt (w : World) : Turn7 ((w.withFollow "special-get-raises" true).withFollow "comprehension-iter-twice" true) := fun os => by kernel_rfl
theorem h_7 (w : World) : Turn7 w :=
  byRow2 (P := Turn7) "comprehension-iter-twice" (byRow2 (P := fun w => Turn7 (w.withFollow "comprehension-iter-twice" false)) "special-get-raises" h7_ff h7_tf) (byRow2 (P := fun w => Turn7 (w.withFollow "comprehension-iter-twice" true)) "special-get-raises" h7_ft h7_tt) w
theorem h_31 (w : World) (os : OsState) : segRunT treeTable topP w sizeT annT 1 300 (stateT_7 w os) (piecesOf ((topBody.drop 7).take 24) topEnv topC pos_7 topB) = some (.next, stateT_31 w os, topC, pos_31) := by kernel_rfl
/-- what the end is looked at for -/
noncomputable def looks (w : World) (s : Shared) := (staticsOk (importedModules topP.main.body) (heap_0 w.params) s.heap && namesBound topP s.heap && gensDone s && laidKept (heap_0 w.params) s.heap, openSeen viewQ looseQ (importedModules topP.main.body) (fun _ => true) true s, lookAt s)
theorem h_rest (w : World) (os : OsState) : (segRunT treeTable topP w sizeT annT 1 500 (stateT_31 w os) (piecesOf (topBody.drop 31) topEnv topC pos_31 topB)).map (fun x => (x.1, looks w x.2.1.abs, x.2.2.1)) = some (.next, (true, openGood viewQ looseQ, wanted w), topC) := by kernel_rfl
theorem h_fin (w : World) (h : Heap) (g : Array GenState) (d : Drawn) (k : Nat) (os : OsState) (q : Pos) : topRun treeTable topP w sizeT annT 2 ⟨h, g, d, k, os⟩ ⟨doneF .next, topC, q, topB⟩ = some ⟨h, g, d, k, os⟩ := by kernel_rfl
theorem body6 : topBody = topBody.take 6 ++ ((topBody.drop 6).take 1 ++ ((topBody.drop 7).take 24 ++ (topBody.drop 31 ++ []))) := by
  have e1 : topBody.drop 31 = (topBody.drop 7).drop 24 := by rw [List.drop_drop]
  have e2 : topBody.drop 7 = (topBody.drop 6).drop 1 := by rw [List.drop_drop]
  rw [List.append_nil, e1, List.take_append_drop, e2, List.take_append_drop, List.take_append_drop]
theorem h_run (w : World) (os : OsState) : (topRun treeTable topP w sizeT annT (12 + (1 + (233 + (1300 + (300 + (500 + 2)))))) (stateT_0 w os).abs (topStub topP)).map (looks w) = some (true, openGood viewQ looseQ, wanted w) := by
  obtain ⟨⟨f, s', c, q⟩, hr, hl⟩ := Option.map_eq_some_iff.mp (h_rest w os)
  obtain ⟨e1, e2⟩ := Prod.mk.inj hl
  obtain ⟨e2, e3⟩ := Prod.mk.inj e2
  have e1 : f = .next := e1
  have e3 : c = topC := e3
  subst e1
  subst e3
  have k := piece_app (rest := []) (segRun_of hr) (piece_nil (h_fin w _ _ _ _ _ q))
  have k := piece_app (segRun_of (h_31 w os)) k
  have k := piece_app (segRun_of (h_7 w os)) k
  have k := piece_app (segRun_of (h_6 w os)) k
  rw [← body6] at k
  have k := piece_block (h_block w os) k
  have k := go_top (h_pre w os) k
  rw [k]
  exact congrArg some e2

theorem left_mid {p q : Program} {loose : List Str} {α : Type} {Yf : Shared → α} {Ya : World → α} {Xt : Shared → Bool} {N : Nat} {g0 : Bool} {H₀ : Params → Heap} {gs₀ : Array GenState} {d₀ : Drawn} {k₀ : Nat} {m₀ : Nat} {ann : Option Value} {M : Nat}
    (open_ : ∀ w : World, (fencedOpening treeTable p w N).map (fun s => (s.heap, s.gens, s.drawn, s.toks)) = some (H₀ w.params, gs₀, d₀, k₀))
    (size : ∀ w : World, ((H₀ w.params).isNs mainGlobals && gs₀.size == 0, (H₀ w.params).objs.size, (H₀ w.params).nsMap mainGlobals "__annotations__") = (true, m₀, ann))
    (run : ∀ (w : World) (os : OsState), (topRun treeTable p w m₀ ann M ⟨H₀ w.params, gs₀, d₀, k₀, os⟩ (topStub p)).map (fun s => (staticsOk (importedModules p.main.body) (H₀ w.params) s.heap && namesBound p s.heap && gensDone s && laidKept (H₀ w.params) s.heap,
      openSeen q loose (importedModules p.main.body) Xt g0 s, Yf s)) = some (true, openGood q loose, Ya w)) (le : Nat.ble M N = true) : LeftO p q loose Xt Yf Ya N g0 := fun w => by
  obtain ⟨⟨h, gs, d, k, os⟩, e, e'⟩ := Option.map_eq_some_iff.mp (open_ w)
  obtain ⟨rfl, rfl, rfl, rfl⟩ : h = H₀ w.params ∧ gs = gs₀ ∧ d = d₀ ∧ k = k₀ := by simpa using e'
  obtain ⟨z1, z2, z3⟩ : _ ∧ _ ∧ _ := by simpa only [Prod.mk.injEq] using size w
  obtain ⟨r, hr, hl⟩ := Option.map_eq_some_iff.mp (run w os)
  obtain ⟨l1, l2, l3⟩ : _ ∧ _ ∧ _ := by simpa only [Prod.mk.injEq] using hl
  have r' := topRun_mono (N - M) _ _ _ _ hr
  rw [show M + (N - M) = N by have := Nat.le_of_ble_eq_true le; omega] at r'
  have t : topFrom treeTable p w N ⟨H₀ w.params, gs, d, k, os⟩ = some r := by
    unfold topFrom
    dsimp only
    rw [z1, z2, z3, r']
    show (match staticsOk (importedModules p.main.body) (H₀ w.params) r.heap && namesBound p r.heap && gensDone r && laidKept (H₀ w.params) r.heap with | true => _ | false => _) = _
    rw [l1]
  unfold openEnds
  rw [e]
  show (topFrom treeTable p w N _).map _ = _
  rw [t]
  exact congrArg some (Prod.ext l2 l3)
theorem left_all : LeftO topP viewQ looseQ (fun _ => true) lookAt wanted 4604 true := left_mid h_open h_size h_run (by decide)
end Mine
end

section
open PySem PySem.W PyProof.Rows
theorem PySem.Challenge.cw_rt0009_01_holds : PySem.Challenge.rw_rt0009_01.Holds := by
  w_on
  o_law
  refine PySem.W.holds_open (q := Mine.viewQ) (loose := Mine.looseQ) (Xt := fun _ => true) (XP := fun _ _ => True) (Yf := Mine.lookAt) (Ya := Mine.wanted) (YP := Mine.Says) (N := 4604) ?hl (fun w s e => Mine.says_of w s e) (fun w h h' x k => Mine.says_keeps w h h' x k)
    (fun _ _ => trivial) (fun _ _ _ _ _ => trivial) (by rfl) (by rfl) (by rfl) (fun s _ => recFacts_of (by rfl)) (by rfl) (by assumption) (by decide +kernel) ⟨rfl, rfl, rfl, rfl, rfl, by decide +kernel⟩ ?hw ?hc
  case hw => w_witness2
  case hl => exact Mine.left_all
  case hc =>
    intro w s₀ s₁ mg mb G Y fa o pm cd doc dV kV ho hd hcd hD hmg hg args vals as hpre hlay hrd hwl hlo
    obtain ⟨K, KX, ko⟩ := Y
    have T := topRead_of (Ground.T G)
    clear ho hd hcd hD
    clear G
    wrow_args hpre hlay hrd hwl hlo
    refine Mine.finish ko KX T Mine.plain_ok hmg (by assumption) (by assumption) (by omega) fun s' k => ?_
    refine Mine.good k hg ?_ ?_
    · intro cls; rfl
    · wrow_post
end

