import PyProof.Rows.All
import Wide.All
import OpenK.AllK
import Wide.FinOn
import PySem.Challenge.RW_mr0220_01
set_option autoImplicit false
set_option linter.all false
set_option Elab.async false
set_option compiler.extract_closed false
set_option genInjectivity false
set_option genSizeOf false
set_option maxRecDepth 100000
set_option maxHeartbeats 8000000
open PySem PySem.W PyProof.Rows
-- Kf
namespace Mine
noncomputable def stAt (i : Nat) : Stmt := PySem.Challenge.pw_mr0220_01.main.body.getD i (.Pass default)
noncomputable def nameAt (i : Nat) : Str := match stAt i with
  | .FunctionDef n .. => n
  | .Assign (.Name n _ :: _) .. => n
  | _ => default
noncomputable def intAt (i : Nat) : Int := match stAt i with
  | .Assign _ (.Constant (.int n) ..) .. => n
  | _ => 0
noncomputable def defAt (i : Nat) (m : String) (t : Nat) (c : Addr) : Obj := match stAt i with
  | .FunctionDef n ps b _ _ _ sc .. => { cls := .type "function", data := .func { name := n, qualname := n, params := ps, body := .stmts b, scope := sc, globals := 3, closure := [], defaults := .none, kwdefaults := .none, pyModule := .str (Str.ofString m) t, code := .ref c } }
  | _ => default
noncomputable def codeAt (i : Nat) (nm : Bool) (a : Addr) (t u line argc : Nat) : Obj :=
  { cls := .type "code", data := .fields #[.str (nameAt i) t, .str (nameAt i) (t + 1), .str (Str.ofString "/claim/cut.py") (t + 2), .int line 0, .int argc 0, .int 0 0, .int 0 0, .int 3 0, .ref a, .bool true, .int 181 0, .ref (a + 1), .none, if nm then .ref (a + 2) else .none, if nm then .ref (a + 3) else .none, .ref (if nm then a + 4 else a + 2), .int u 0, .int line 0, .str (Str.ofString "/claim/cut.py") (u + 1)] }
noncomputable def entOf (P : Params) (x : Str) (t : Nat) (v : Value) : DictEntry := ⟨PyData.keyHash P x, .str x t, v⟩
noncomputable def tokEnts (P : Params) : List Nat → List DictEntry
  | [] => []
  | i :: r => entOf P (nameAt (4 + i)) (222 + 2 * i) (.int (intAt (4 + i)) (221 + 2 * i)) :: tokEnts P r
noncomputable def mainObj (P : Params) : Obj :=
  { cls := .type "dict", data := .dict (
    entOf P (Str.ofString "__name__") 165 (.str (Str.ofString "law_mr0220_01") 414) ::
    entOf P (Str.ofString "__doc__") 166 .none ::
    entOf P (Str.ofString "__package__") 167 .none ::
    entOf P (Str.ofString "__loader__") 168 (.builtin "__main__.__loader__#opaque") ::
    entOf P (Str.ofString "__spec__") 169 .none ::
    entOf P (Str.ofString "__annotations__") 170 (.ref 6) ::
    entOf P (Str.ofString "__builtins__") 171 (.ref 4) ::
    entOf P (Str.ofString "__file__") 173 (.str (Str.ofString "/claim/cut.py") 172) ::
    entOf P (Str.ofString "__cached__") 174 .none ::
    entOf P (nameAt 1) 202 (.ref 21) :: entOf P (nameAt 2) 212 (.ref 28) :: entOf P (nameAt 3) 220 (.ref 35) ::
    (tokEnts P (List.range 48) ++ [entOf P (nameAt 52) 413 (.ref 36), entOf P (nameAt 54) 425 (.ref 45), entOf P (nameAt 55) 431 (.ref 50), entOf P (nameAt 56) 437 (.ref 55), entOf P (nameAt 57) 443 (.ref 60), entOf P (nameAt 58) 449 (.ref 65)])).toArray 66 }
noncomputable def exact : List (Str × Int) := [(Str.ofString "!", 54), (Str.ofString "!=", 28), (Str.ofString "%", 24), (Str.ofString "%=", 40), (Str.ofString "&", 19), (Str.ofString "&=", 41), (Str.ofString "(", 7), (Str.ofString ")", 8), (Str.ofString "*", 16), (Str.ofString "**", 35), (Str.ofString "**=", 46), (Str.ofString "*=", 38), (Str.ofString "+", 14), (Str.ofString "+=", 36), (Str.ofString ",", 12), (Str.ofString "-", 15), (Str.ofString "-=", 37), (Str.ofString "->", 51), (Str.ofString ".", 23), (Str.ofString "...", 52), (Str.ofString "/", 17), (Str.ofString "//", 47), (Str.ofString "//=", 48), (Str.ofString "/=", 39), (Str.ofString ":", 11), (Str.ofString ":=", 53), (Str.ofString ";", 13), (Str.ofString "<", 20), (Str.ofString "<<", 33), (Str.ofString "<<=", 44), (Str.ofString "<=", 29), (Str.ofString "=", 22), (Str.ofString "==", 27), (Str.ofString ">", 21), (Str.ofString ">=", 30), (Str.ofString ">>", 34), (Str.ofString ">>=", 45), (Str.ofString "@", 49), (Str.ofString "@=", 50), (Str.ofString "[", 9), (Str.ofString "]", 10), (Str.ofString "^", 32), (Str.ofString "^=", 43), (Str.ofString "{", 25), (Str.ofString "|", 18), (Str.ofString "|=", 42), (Str.ofString "}", 26), (Str.ofString "~", 31)]

noncomputable def ents (P : Params) : List (Str × Int) → Nat → List DictEntry
  | [], _ => []
  | p :: r, j => ⟨PyData.keyHash P p.1, .str p.1 (if j < 35 then 317 + 2 * j else 351 + j), .int p.2 (207 + 2 * p.2.toNat)⟩ :: ents P r (j + 1)
noncomputable def KF (P : Params) : Frag := [
  (3, mainObj P),
  (20, codeAt 1 true 15 189 200 2 2), (21, defAt 1 "cpy313.unittest.util" 187 20),
  (27, codeAt 2 true 22 203 210 34 2), (28, defAt 2 "cpy313.unittest.util" 187 27),
  (34, codeAt 3 true 29 213 218 43 2), (35, defAt 3 "cpy313.unittest.util" 187 34),
  (36, { cls := .type "dict", data := .dict (ents P exact 0).toArray 48 }),
  (44, codeAt 54 true 39 416 423 95 1), (45, defAt 54 "law_mr0220_01" 414 44),
  (49, codeAt 55 false 46 426 429 103 1), (50, defAt 55 "law_mr0220_01" 414 49),
  (54, codeAt 56 false 51 432 435 109 1), (55, defAt 56 "law_mr0220_01" 414 54),
  (59, codeAt 57 false 56 438 441 115 2), (60, defAt 57 "law_mr0220_01" 414 59),
  (64, codeAt 58 false 61 444 447 126 1), (65, defAt 58 "law_mr0220_01" 414 64)]
end Mine

-- Ev1
namespace Mine

/- every object of the first heap stands unchanged in the second -/
noncomputable def Kp (h h' : Heap) : Prop := ∀ b o, h.get? b = some o → h'.get? b = some o
theorem Kp.rfl {h : Heap} : Kp h h := fun _ _ e => e
theorem Kp.trans {a b c : Heap} (x : Kp a b) (y : Kp b c) : Kp a c := fun i o e => y i o (x i o e)
theorem Kp.push {h : Heap} (o : Obj) : Kp h (h.push o) := fun _ _ e => Heap.get?_push_of_some _ e

/- an object that holds names, or a cell -/
noncomputable def Vary (o : Obj) : Prop := (∃ es n, o.data = .dict es n) ∨ ∃ v, o.data = .cell v
/- all but tables of names and cells stand -/
noncomputable def Sy (h h' : Heap) : Prop := ∀ b o, h.get? b = some o → ¬ Vary o → h'.get? b = some o
theorem Sy.rfl {h : Heap} : Sy h h := fun _ _ e _ => e
theorem Sy.trans {a b c : Heap} (x : Sy a b) (y : Sy b c) : Sy a c := fun i o e n => y i o (x i o e n) n
theorem Kp.sy {h h' : Heap} (x : Kp h h') : Sy h h' := fun b o e _ => x b o e

/- what a value is, told by a heap that only grows -/
structure R where
  is : Heap → Value → Prop
  kp : ∀ {h h' v}, Kp h h' → is h v → is h' v
/- it is told so also where names and cells turn -/
noncomputable def Ss (r : R) : Prop := ∀ h h' v, Sy h h' → r.is h v → r.is h' v

noncomputable def RInt (i : Int) : R := ⟨fun _ v => ∃ t, v = .int i t, fun _ x => x⟩
noncomputable def RStr (x : Str) : R := ⟨fun _ v => ∃ t, v = .str x t, fun _ x => x⟩
noncomputable def RBool (b : Bool) : R := ⟨fun _ v => v = .bool b, fun _ x => x⟩
noncomputable def RVal (u : Value) : R := ⟨fun _ v => v = u, fun _ x => x⟩

inductive All2 (h : Heap) : List R → List Value → Prop
  | nil : All2 h [] []
  | cons {r rs v vs} : r.is h v → All2 h rs vs → All2 h (r :: rs) (v :: vs)
theorem All2.kp {h h' : Heap} (k : Kp h h') {rs vs} (x : All2 h rs vs) : All2 h' rs vs := by
  induction x with
  | nil => exact .nil
  | cons a _ ih => exact .cons (R.kp _ k a) ih
theorem All2.sy {h h' : Heap} (k : Sy h h') {rs vs} (x : All2 h rs vs) (hs : ∀ r ∈ rs, Ss r) : All2 h' rs vs := by
  induction x with
  | nil => exact .nil
  | cons a _ ih => exact .cons (hs _ (by simp) _ _ _ k a) (ih fun r hr => hs r (by simp [hr]))
theorem All2.len {h : Heap} {rs vs} (x : All2 h rs vs) : vs.length = rs.length := by
  induction x with
  | nil => rfl
  | cons _ _ ih => simp [ih]
theorem All2.get {h : Heap} {rs vs} (x : All2 h rs vs) : ∀ {i : Nat} {r : R}, rs[i]? = some r → ∃ v, vs[i]? = some v ∧ r.is h v := by
  induction x with
  | nil => intro i r e; simp at e
  | cons a _ ih =>
    intro i r e
    cases i with
    | zero => simp at e; subst e; exact ⟨_, by simp, a⟩
    | succ i => simp at e; obtain ⟨v, h1, h2⟩ := ih e; exact ⟨v, by simpa using h1, h2⟩
theorem All2.snoc {h : Heap} {rs vs} (x : All2 h rs vs) {r v} (y : r.is h v) : All2 h (rs ++ [r]) (vs ++ [v]) := by
  induction x with
  | nil => exact .cons y .nil
  | cons a _ ih => exact .cons a ih
theorem All2.append {h : Heap} {rs vs} (x : All2 h rs vs) {rs' vs'} (y : All2 h rs' vs') : All2 h (rs ++ rs') (vs ++ vs') := by
  induction x with
  | nil => exact y
  | cons a _ ih => exact .cons a ih

theorem All2.elim0 {h : Heap} {vs : List Value} {P : Prop} (x : All2 h [] vs) (k : vs = [] → P) : P := by cases x; exact k rfl
theorem All2.elimC {h : Heap} {r : R} {rs : List R} {vs : List Value} {P : Prop} (x : All2 h (r :: rs) vs) (k : ∀ v vs', vs = v :: vs' → r.is h v → All2 h rs vs' → P) : P := by
  cases x with | cons a b => exact k _ _ rfl a b
theorem All2.elim1 {h : Heap} {r : R} {vs : List Value} {P : Prop} (x : All2 h [r] vs) (k : ∀ v, vs = [v] → r.is h v → P) : P :=
  x.elimC fun v _ e a b => b.elim0 fun e' => k v (e' ▸ e) a
theorem All2.elim2 {h : Heap} {r r' : R} {vs : List Value} {P : Prop} (x : All2 h [r, r'] vs) (k : ∀ v v', vs = [v, v'] → r.is h v → r'.is h v' → P) : P :=
  x.elimC fun v _ e a b => b.elim1 fun v' e' a' => k v v' (e' ▸ e) a a'
theorem All2.elim3 {h : Heap} {r r' r'' : R} {vs : List Value} {P : Prop} (x : All2 h [r, r', r''] vs) (k : ∀ v v' v'', vs = [v, v', v''] → r.is h v → r'.is h v' → r''.is h v'' → P) : P :=
  x.elimC fun v _ e a b => b.elim2 fun v' v'' e' a' a'' => k v v' v'' (e' ▸ e) a a' a''
theorem seq_not_vary {o : Obj} {xs n} (hd : o.data = .seq xs n) : ¬ Vary o := by
  rintro (⟨es, n, e⟩ | ⟨v, e⟩)
  · rw [hd] at e; cases e
  · rw [hd] at e; cases e

noncomputable def RList (rs : List R) : R := ⟨fun h v => ∃ a vs, v = .ref a ∧ h.PlainList a vs.toArray ∧ All2 h rs vs, by
  rintro h h' v k ⟨a, vs, rfl, ⟨n, e⟩, l⟩
  exact ⟨a, vs, rfl, ⟨n, k _ _ e⟩, l.kp k⟩⟩
noncomputable def RTup (rs : List R) : R := ⟨fun h v => ∃ a vs, v = .ref a ∧ h.get? a = some { cls := .type "tuple", data := .seq vs.toArray } ∧ All2 h rs vs, by
  rintro h h' v k ⟨a, vs, rfl, e, l⟩
  exact ⟨a, vs, rfl, k _ _ e, l.kp k⟩⟩
theorem Ss.int {i} : Ss (RInt i) := fun _ _ _ _ x => x
theorem Ss.str {x} : Ss (RStr x) := fun _ _ _ _ x => x
theorem Ss.bool {x} : Ss (RBool x) := fun _ _ _ _ x => x
theorem Ss.list {rs} (hs : ∀ r ∈ rs, Ss r) : Ss (RList rs) := by
  rintro h h' v k ⟨a, vs, rfl, ⟨n, e⟩, l⟩
  exact ⟨a, vs, rfl, ⟨n, k _ _ e (seq_not_vary rfl)⟩, l.sy k hs⟩
theorem Ss.tup {rs} (hs : ∀ r ∈ rs, Ss r) : Ss (RTup rs) := by
  rintro h h' v k ⟨a, vs, rfl, e, l⟩
  exact ⟨a, vs, rfl, k _ _ e (seq_not_vary rfl), l.sy k hs⟩
noncomputable def RInts (xs : List Int) : R := RList (xs.map RInt)
theorem Ss.ints {xs} : Ss (RInts xs) := Ss.list (by intro r hr; obtain ⟨x, _, rfl⟩ := List.mem_map.mp hr; exact Ss.int)

/- growth of the state -/
noncomputable def Gw (s s' : Shared) : Prop := ∃ h' tk, s' = { s with heap := h', toks := tk } ∧ Kp s.heap h'
theorem Gw.rfl {s : Shared} : Gw s s := ⟨s.heap, s.toks, by cases s; rfl, Kp.rfl⟩
theorem Gw.trans {a b c : Shared} (x : Gw a b) (y : Gw b c) : Gw a c := by
  obtain ⟨h, t, rfl, k⟩ := x
  obtain ⟨h', t', rfl, k'⟩ := y
  exact ⟨h', t', by rfl, k.trans k'⟩
theorem Gw.kp {s s' : Shared} (x : Gw s s') : Kp s.heap s'.heap := by obtain ⟨h, t, rfl, k⟩ := x; exact k
theorem Gw.toks {s : Shared} {t : Nat} : Gw s { s with toks := t } := ⟨s.heap, t, by cases s; rfl, Kp.rfl⟩
theorem Gw.push {s : Shared} {o : Obj} : Gw s { s with heap := s.heap.push o } := ⟨_, s.toks, by cases s; rfl, Kp.push o⟩
theorem Gw.both {s : Shared} {h : Heap} {t : Nat} (k : Kp s.heap h) : Gw s { s with heap := h, toks := t } := ⟨h, t, by rfl, k⟩

section
variable (prog : Program) (w : World) (A : Around)
/- from every state whose heap extends h the expression gives a value that r tells, the heap only growing -/
noncomputable def Ev (h : Heap) (env : Env) (e : Expr) (r : R) : Prop :=
  ∀ (s : Shared) (Q : Value → Shared → Prop) (E : Value → Shared → Prop), Kp h s.heap → (∀ v s', Gw s s' → r.is s'.heap v → Q v s') → wpAny (model prog w) A (eval e env) Q E s
noncomputable def Tr (h : Heap) (env : Env) (e : Expr) (b : Bool) : Prop :=
  ∀ (s : Shared) (Q : Bool → Shared → Prop) (E : Value → Shared → Prop), Kp h s.heap → (∀ s', Gw s s' → Q b s') → wpAny (model prog w) A (isTrue e env (eval e env)) Q E s
noncomputable def Nm (h : Heap) (env : Env) (n : Str) (v : Value) : Prop :=
  ∀ (s : Shared) (Q : Value → Shared → Prop) (E : Value → Shared → Prop), Kp h s.heap → Q v s → wpAny (model prog w) A (loadName env n) Q E s
/- a comparison -/
noncomputable def Cm (h : Heap) (op : CmpOp) (r₁ r₂ : R) (b : Bool) : Prop :=
  ∀ (s : Shared) (v₁ v₂ : Value) (Q : Value → Shared → Prop) (E : Value → Shared → Prop), Kp h s.heap → r₁.is s.heap v₁ → r₂.is s.heap v₂ → (∀ s', Gw s s' → Q (.bool b) s') → wpAny (model prog w) A (compareOp op v₁ v₂) Q E s
/- a binary operation -/
noncomputable def Bn (h : Heap) (op : Operator) (r₁ r₂ r : R) : Prop :=
  ∀ (s : Shared) (v₁ v₂ : Value) (Q : Value → Shared → Prop) (E : Value → Shared → Prop), Kp h s.heap → r₁.is s.heap v₁ → r₂.is s.heap v₂ → (∀ v s', Gw s s' → r.is s'.heap v → Q v s') → wpAny (model prog w) A (binaryOp op v₁ v₂) Q E s
end

section
variable {prog : Program} {w : World} {A : Around} {h h' : Heap} {env : Env} {e l r : Expr} {r₁ r₂ r₃ : R} {p : Pos}

theorem Ev.mono (x : Ev prog w A h env e r₁) (k : Kp h h') : Ev prog w A h' env e r₁ := fun s Q E k' q => x s Q E (k.trans k') q
theorem Nm.mono {n v} (x : Nm prog w A h env n v) (k : Kp h h') : Nm prog w A h' env n v := fun s Q E k' q => x s Q E (k.trans k') q

theorem Ev.int {i : Int} {k : Nat} : Ev prog w A h env (.Constant (.int i) k p) (RInt i) := fun _ _ _ _ q => wpAny_Constant_int (q _ _ Gw.toks ⟨_, rfl⟩)
theorem Ev.str {x : Str} {k : Nat} : Ev prog w A h env (.Constant (.str x) k p) (RStr x) := fun _ _ _ _ q => wpAny_Constant_str (q _ _ Gw.toks ⟨_, rfl⟩)
theorem Ev.name {n : Str} {v : Value} (x : Nm prog w A h env n v) (y : r₁.is h v) (hd : (n == ("__debug__" : Str)) = false := by decide) : Ev prog w A h env (.Name n p) r₁ :=
  fun s Q E k q => wpAny_Name (x s Q E k (q _ _ Gw.rfl (r₁.kp k y))) hd

theorem Ev.bin {op : Operator} (x : Ev prog w A h env l r₁) (y : Ev prog w A h env r r₂) (z : Bn prog w A h op r₁ r₂ r₃) : Ev prog w A h env (.BinOp l op r p) r₃ :=
  fun s Q E k q => wpAny_BinOp (x s _ E k fun v₁ s₁ g₁ a₁ => y s₁ _ E (k.trans g₁.kp) fun v₂ s₂ g₂ a₂ =>
    z s₂ v₁ v₂ Q E ((k.trans g₁.kp).trans g₂.kp) (r₁.kp g₂.kp a₁) a₂ fun v s' g a => q v s' ((g₁.trans g₂).trans g) a)
theorem Ev.cmp {op : CmpOp} {b : Bool} (x : Ev prog w A h env l r₁) (y : Ev prog w A h env r r₂) (z : Cm prog w A h op r₁ r₂ b) (hm : behindInMarks op r = false := by with_unfolding_all rfl) :
    Ev prog w A h env (.Compare l [op] [r] p) (RBool b) :=
  fun s Q E k q => wpAny_Compare1 (x s _ E k fun v₁ s₁ g₁ a₁ => y s₁ _ E (k.trans g₁.kp) fun v₂ s₂ g₂ a₂ =>
    z s₂ v₁ v₂ Q E ((k.trans g₁.kp).trans g₂.kp) (r₁.kp g₂.kp a₁) a₂ fun s' g => q _ s' ((g₁.trans g₂).trans g) rfl) hm
theorem Tr.cmp {op : CmpOp} {b : Bool} (x : Ev prog w A h env l r₁) (y : Ev prog w A h env r r₂) (z : Cm prog w A h op r₁ r₂ b) (hm : behindInMarks op r = false := by with_unfolding_all rfl) :
    Tr prog w A h env (.Compare l [op] [r] p) b :=
  fun s Q E k q => wpAny_isTrue_Compare1 (x s _ E k fun v₁ s₁ g₁ a₁ => y s₁ _ E (k.trans g₁.kp) fun v₂ s₂ g₂ a₂ =>
    z s₂ v₁ v₂ _ E ((k.trans g₁.kp).trans g₂.kp) (r₁.kp g₂.kp a₁) a₂ fun s' g => wpAny_truthy_bool (q s' ((g₁.trans g₂).trans g))) hm

theorem Bn.add {x y : Int} : Bn prog w A h .Add (RInt x) (RInt y) (RInt (x + y)) := by
  rintro s _ _ Q E _ ⟨t, rfl⟩ ⟨u, rfl⟩ q
  exact wpAny_add_int (q _ _ Gw.toks ⟨_, rfl⟩)
theorem Bn.sub {x y : Int} : Bn prog w A h .Sub (RInt x) (RInt y) (RInt (x - y)) := by
  rintro s _ _ Q E _ ⟨t, rfl⟩ ⟨u, rfl⟩ q
  exact sub_int' (q _ _ Gw.toks ⟨_, rfl⟩)
theorem Bn.mod {x y : Int} (hy : y ≠ 0) : Bn prog w A h .Mod (RInt x) (RInt y) (RInt (x.fmod y)) := by
  rintro s _ _ Q E _ ⟨t, rfl⟩ ⟨u, rfl⟩ q
  exact mod_int' hy (q _ _ Gw.toks ⟨_, rfl⟩)
theorem Cm.lt {x y : Int} : Cm prog w A h .Lt (RInt x) (RInt y) (decide (x < y)) := by
  rintro s _ _ Q E _ ⟨t, rfl⟩ ⟨u, rfl⟩ q
  exact PyProof.Rows.lt_int (q _ Gw.rfl)
theorem Cm.gt {x y : Int} : Cm prog w A h .Gt (RInt x) (RInt y) (decide (y < x)) := by
  rintro s _ _ Q E _ ⟨t, rfl⟩ ⟨u, rfl⟩ q
  exact PyProof.Rows.gt_int (q _ Gw.rfl)
theorem Cm.eq {x y : Int} : Cm prog w A h .Eq (RInt x) (RInt y) (x == y) := by
  rintro s _ _ Q E _ ⟨t, rfl⟩ ⟨u, rfl⟩ q
  exact PyProof.Rows.eq_int (q _ Gw.rfl)
end
end Mine

-- Ev2
namespace Mine

section
variable (prog : Program) (w : World) (A : Around)
/- what is iterated: eval, then iter; the items told one by one -/
noncomputable def Src (h : Heap) (env : Env) (target iter : Expr) (items : List R) : Prop :=
  ∀ (s : Shared) (Q : Value → Shared → Prop) (E : Value → Shared → Prop), Kp h s.heap →
    (∀ I fp wr P Md St hb s', Gw s s' → Kp s.heap hb → Kp hb s'.heap → (∀ b ∈ wr, hb.get? b = none) → KTurns prog w A target I fp wr items.length P Md St →
      (∀ i (s : Shared) (Q : Value → Shared → Prop) (E : Value → Shared → Prop), St i s.heap → Q (.ref I) s → wpAny (model prog w) A (pyIter (.ref I)) Q E s) →
      St 0 s'.heap → (∀ i h, St i h → ∀ b ∈ wr, ∃ o, h.get? b = some o) → (∀ b ∈ fp, b < s'.heap.objs.size) → (∀ i v h', P i v h' → Kp hb h' → ∃ r, items[i]? = some r ∧ r.is h' v) → Q (.ref I) s') →
    wpAny (model prog w) A (eval iter env) (fun xv s₁ => wpAny (model prog w) A (pyIter xv) Q E s₁) E s
/- the same, all of the iterator's objects new -/
noncomputable def SrcN (h : Heap) (env : Env) (target iter : Expr) (items : List R) : Prop :=
  ∀ (s : Shared) (Q : Value → Shared → Prop) (E : Value → Shared → Prop), Kp h s.heap →
    (∀ I fp wr P Md St hb s', Gw s s' → Kp s.heap hb → Kp hb s'.heap → (∀ b ∈ wr, hb.get? b = none) → KTurns prog w A target I fp wr items.length P Md St →
      (∀ i (s : Shared) (Q : Value → Shared → Prop) (E : Value → Shared → Prop), St i s.heap → Q (.ref I) s → wpAny (model prog w) A (pyIter (.ref I)) Q E s) →
      St 0 s'.heap → (∀ i h, St i h → ∀ b ∈ wr, ∃ o, h.get? b = some o) → (∀ b ∈ fp, b < s'.heap.objs.size) → (∀ i v h', P i v h' → ∃ r, items[i]? = some r ∧ r.is h' v) → (∀ b ∈ fp, s.heap.get? b = none) → (∀ i h, St i h → ∀ b ∈ fp, ∀ o, h.get? b = some o → ¬ Vary o) → Q (.ref I) s') →
    wpAny (model prog w) A (eval iter env) (fun xv s₁ => wpAny (model prog w) A (pyIter xv) Q E s₁) E s
end

theorem SrcN.src {prog : Program} {w : World} {A : Around} {h : Heap} {env : Env} {target iter : Expr} {items : List R} (x : SrcN prog w A h env target iter items) : Src prog w A h env target iter items :=
  fun s Q E k q => x s Q E k fun I fp wr P Md St hb s' a1 a2 a3 a4 a5 a6 a7 a8 a9 a10 _ _ => q I fp wr P Md St hb s' a1 a2 a3 a4 a5 a6 a7 a8 a9 fun i v h' x _ => a10 i v h' x

noncomputable def compEnvX (scope : Scope) (cl : List (Str × Addr)) (C : Addr) (env : Env) : Env :=
  { scope := relabel scope env, locals := C, globals := env.globals, cells := cellsFrom (C + 1) scope.names cl, qual := env.qual, func := none, code := env.code, frame := env.frame, builtins := env.builtins }

theorem sz_pushCells : ∀ (names : List (Str × NameKind)) (h : Heap), h.objs.size ≤ (pushCells h names).objs.size
  | [], _ => Nat.le_refl _
  | (_, k) :: r, h => by
    unfold pushCells
    split
    · have := sz_pushCells r (h.push { cls := .type "cell", data := .cell none }); rw [Heap.size_push] at this; (first | assumption | decide | lia | omega)
    · exact sz_pushCells r h

section
variable {prog : Program} {w : World} {A : Around} {E : Value → Shared → Prop} {env : Env}

theorem newCompEnv {M : Model} {scope : Scope} {cl : List (Str × Addr)} {s : Shared} {Q : Env → Shared → Prop}
    (hQ : Q { compEnvX scope cl s.heap.objs.size env with scope := scope } { s with heap := pushCells (s.heap.push { cls := .type "dict", data := .dict #[] }) scope.names }) :
    wpAny M A (newFunctionEnv scope env.globals cl [] env.qual none .none (some env)) Q E s := by
  simp only [newFunctionEnv, Option.isSome_some, if_true]
  refine wpAny_bind (wpAny_alloc ?_)
  refine wpAny_bind (wpAny_layCells _ (fun name kind cells => by cases hkc : kind == NameKind.cell <;> simp) _ _ _ _ ?_)
  rw [List.forIn_nil]
  refine wpAny_bind (wpAny_pure (wpAny_pure ?_))
  rw [show ({ s with heap := s.heap.push { cls := .type "dict", data := .dict #[] } } : Shared).heap.objs.size = s.heap.objs.size + 1 from Heap.size_push ..]
  exact hQ

theorem cellsFrom_lo : ∀ (names : List (Str × NameKind)) (n : Nat) (acc : List (Str × Addr)) (lo : Nat), lo ≤ n → (∀ x ∈ acc, lo ≤ x.2) → ∀ x ∈ cellsFrom n names acc, lo ≤ x.2
  | [], _, _, _, _, h => h
  | (nm, k) :: r, n, acc, lo, hn, h => by
    unfold cellsFrom
    split
    · exact cellsFrom_lo r (n + 1) _ lo (Nat.le_succ_of_le hn) (fun x hx => by rcases List.mem_cons.mp hx with rfl | hx; exact hn; exact h x hx)
    · exact cellsFrom_lo r n acc lo hn h

/- the elements that a comprehension has made so far -/
inductive Made (F : Nat → Heap → Value → Prop) (p : Nat → Bool) (h : Heap) : Nat → List Value → Prop
  | zero : Made F p h 0 []
  | take {n vs v} : Made F p h n vs → p n = true → F n h v → Made F p h (n + 1) (vs ++ [v])
  | skip {n vs} : Made F p h n vs → p n = false → Made F p h (n + 1) vs
theorem Made.mono {F : Nat → Heap → Value → Prop} {p : Nat → Bool} {h h' : Heap} (k : ∀ i v, F i h v → F i h' v) {n vs} (x : Made F p h n vs) : Made F p h' n vs := by
  induction x with
  | zero => exact .zero
  | take _ hp hf ih => exact .take ih hp (k _ _ hf)
  | skip _ hp ih => exact .skip ih hp
theorem Made.le {F : Nat → Heap → Value → Prop} {p : Nat → Bool} {h : Heap} {n vs} (x : Made F p h n vs) : vs.length ≤ n := by
  induction x with
  | zero => exact Nat.le_refl _
  | take _ _ _ ih => simp; exact ih
  | skip _ _ ih => (first | assumption | decide | lia | omega)

/- a comprehension's loop under way -/
structure CL (St : Nat → Heap → Prop) (D : Addr) (T0 : Heap → Prop) (F : Nat → Heap → Value → Prop) (p : Nat → Bool) (n : Nat) (hb : Heap) (wr tw : List Addr) (s : Shared) (h' : Heap) (i : Nat) (vs : List Value) : Prop where
  st : St i h'
  acc : h'.PlainList D vs.toArray
  t0 : T0 h'
  md : Made F p h' i vs
  hi : i ≤ n
  kb : Kp hb h'
  kk : ∀ b o, b ∉ wr → b ∉ tw → b ≠ D → s.heap.get? b = some o → h'.get? b = some o
noncomputable def CLI (St : Nat → Heap → Prop) (D : Addr) (T0 : Heap → Prop) (F : Nat → Heap → Value → Prop) (p : Nat → Bool) (n : Nat) (hb : Heap) (wr tw : List Addr) (s : Shared) (k : Nat) (s' : Shared) : Prop :=
  ∃ h' tk i vs, s' = { s with heap := h', toks := tk } ∧ CL St D T0 F p n hb wr tw s h' i vs ∧ k = n + 1 - i
theorem CLI.elim {St : Nat → Heap → Prop} {D : Addr} {T0 : Heap → Prop} {F : Nat → Heap → Value → Prop} {p : Nat → Bool} {n : Nat} {hb : Heap} {wr tw : List Addr} {s : Shared} {k : Nat} {s' : Shared} {P : Prop} (x : CLI St D T0 F p n hb wr tw s k s')
    (q : ∀ h' tk i vs, s' = { s with heap := h', toks := tk } → CL St D T0 F p n hb wr tw s h' i vs → k = n + 1 - i → P) : P := by
  obtain ⟨h', tk, i, vs, e1, c, e2⟩ := x; exact q h' tk i vs e1 c e2
theorem comp_loop {elt target iter : Expr} {ifs : List Expr} {scope : Scope} {pos : Pos} {I D : Addr} {fp wr tw : List Addr} {n : Nat} {P Md : Nat → Value → Heap → Prop} {St : Nat → Heap → Prop}
    {cenv : Env} {hb : Heap} {T0 : Heap → Prop} {T : Nat → Heap → Prop} {F : Nat → Heap → Value → Prop} {p : Nat → Bool} {s : Shared} {Rr : Result → Shared → Prop}
    (W : KTurns prog w A target I fp wr n P Md St) (hsz : n ≤ sizeLine)
    (hDf : D ∉ fp) (htf : ∀ b ∈ tw, b ∉ fp) (hDt : D ∉ tw) (hwb : ∀ b ∈ wr, hb.get? b = none) (htb : ∀ b ∈ tw, hb.get? b = none) (hDb : hb.get? D = none)
    (hst : St 0 s.heap) (hacc : s.heap.PlainList D #[]) (hT0 : T0 s.heap) (hKb : Kp hb s.heap) (hStw : ∀ i h, St i h → ∀ b ∈ wr, ∃ o, h.get? b = some o)
    (hT0s : ∀ h h', T0 h → (∀ b o, b ∈ tw → h.get? b = some o → h'.get? b = some o) → T0 h') (hT0l : ∀ h, T0 h → ∀ b ∈ tw, ∃ o, h.get? b = some o)
    (hasg : ∀ i v (s : Shared) (Q : Unit → Shared → Prop) (E : Value → Shared → Prop), i < n → T0 s.heap → P i v s.heap → Kp hb s.heap →
      (∀ h' tk, T i h' → T0 h' → (∀ b o, b ∉ tw → s.heap.get? b = some o → h'.get? b = some o) → Q () { s with heap := h', toks := tk }) → wpAny (model prog w) A (assign target cenv v) Q E s)
    (htest : ∀ i h₁ (s : Shared) (Q : Bool → Shared → Prop) (E : Value → Shared → Prop), i < n → T i h₁ → Kp hb h₁ → Kp h₁ s.heap → (∀ s', Gw s s' → Q (p i) s') →
      wpAny (model prog w) A (forIn ifs true fun c r => if r = true then do let ok ← isTrue c cenv (eval c cenv); pure (ForInStep.yield ok) else pure (ForInStep.yield r)) Q E s)
    (helt : ∀ i h₁ (s : Shared) (Q : Value → Shared → Prop) (E : Value → Shared → Prop), i < n → p i = true → T i h₁ → Kp hb h₁ → Kp h₁ s.heap → (∀ b, b ∈ wr ∨ b ∈ tw ∨ b = D → ∃ o, s.heap.get? b = some o) →
      (∀ v s', Gw s s' → F i s'.heap v → Q v s') → wpAny (model prog w) A (eval elt cenv) Q E s)
    (hF : ∀ i h h' v, F i h v → (∀ b o, b ∉ wr → b ∉ tw → b ≠ D → h.get? b = some o → h'.get? b = some o) → F i h' v)
    (hR : ∀ h' tk vs, T0 h' → h'.PlainList D vs.toArray → Made F p h' n vs → Kp hb h' → (∀ b o, b ∉ wr → b ∉ tw → b ≠ D → s.heap.get? b = some o → h'.get? b = some o) → Rr (.ok .next) { s with heap := h', toks := tk }) :
    codeAny (model prog w) A (.compLoop (.ListComp elt [⟨target, iter, ifs, 0⟩] scope pos) 0 (.ref I) (.ref D) cenv) Rr s := by
  have hDw : D ∉ wr := fun h => hDf (W.sub _ h)
  have htw : ∀ b ∈ tw, b ∉ wr := fun b hb h => htf b hb (W.sub _ h)
  have nw : ∀ b o, hb.get? b = some o → b ∉ wr ∧ b ∉ tw ∧ b ≠ D := fun b o e =>
    ⟨fun h => (by rw [hwb b h] at e; cases e), fun h => (by rw [htb b h] at e; cases e), fun h => (by subst h; rw [hDb] at e; cases e)⟩
  refine codeAny_loop rfl (CLI St D T0 F p n hb wr tw s) ?_ (n + 1)
    ⟨s.heap, s.toks, 0, [], by cases s; rfl, ⟨hst, hacc, hT0, .zero, Nat.zero_le _, hKb, fun _ _ _ _ _ e => e⟩, rfl⟩
  intro k s' cx
  refine cx.elim fun h' tk i vs e1 ⟨st, acc, t0, md, hi, kb, kk⟩ e2 => ?_
  subst e1
  subst e2
  clear cx
  show wpAny _ _ ((compTurn (.ListComp elt [⟨target, iter, ifs, 0⟩] scope pos) 0 (.ref I) (.ref D) cenv).onRaise (fun x => do noteFrame x cenv; theTreesLotGoes x)) _ _ _
  refine wpAny_noted ?_
  rw [compTurn_list]
  refine wpAny_bind (wpAny_standAt (wpAny_bind ?_))
  by_cases hin : i < n
  · refine W.item i _ _ _ hin st fun v h₁ tk₁ hm k₁ => ?_
    refine wpAny_bind (W.go i v _ _ _ hm fun h₂ hP st₂ k₂ => ?_)
    have k02 : ∀ b o, b ∉ wr → h'.get? b = some o → h₂.get? b = some o := fun b o hb e => k₂ b o hb (k₁ b o hb e)
    have kb₂ : Kp hb h₂ := fun b o e => k02 b o (nw b o e).1 (kb b o e)
    refine wpAny_bind (hasg i v _ _ _ hin (hT0s _ _ t0 fun b o hb e => k02 b o (htw b hb) e) hP kb₂ fun h₃ tk₃ ht t0₃ k₃ => ?_)
    have k03 : ∀ b o, b ∉ wr → b ∉ tw → h'.get? b = some o → h₃.get? b = some o := fun b o h1 h2 e => k₃ b o h2 (k02 b o h1 e)
    have kb₃ : Kp hb h₃ := fun b o e => k₃ b o (nw b o e).2.1 (kb₂ b o e)
    have acc₃ : h₃.PlainList D vs.toArray := by obtain ⟨m, e⟩ := acc; exact ⟨m, k03 D _ hDw hDt e⟩
    have st₃ : St (i + 1) h₃ := W.frame _ _ _ st₂ fun b hb o e => k₃ b o (fun h => htf b h hb) e
    refine wpAny_bind (htest i h₃ _ _ _ hin ht kb₃ Kp.rfl fun s₄ g₄ => ?_)
    obtain ⟨h₄, tk₄, rfl, k₄⟩ := g₄
    have t0₄ : T0 h₄ := hT0s _ _ t0₃ fun b o _ e => k₄ b o e
    have acc₄ : h₄.PlainList D vs.toArray := by obtain ⟨m, e⟩ := acc₃; exact ⟨m, k₄ D _ e⟩
    have st₄ : St (i + 1) h₄ := W.frame _ _ _ st₃ fun b hb o e => k₄ b o e
    cases hp : p i with
    | false =>
      refine wpAny_pure ⟨rfl, n + 1 - (i + 1), by (first | assumption | decide | lia | omega), h₄, tk₄, i + 1, vs, rfl, ⟨st₄, acc₄, t0₄, .skip (md.mono fun j v f => hF j _ _ v f fun b o h1 h2 h3 e => k₄ b o (k03 b o h1 h2 e)) hp, hin, kb₃.trans k₄,
        fun b o h1 h2 h3 e => k₄ b o (k03 b o h1 h2 (kk b o h1 h2 h3 e))⟩, rfl⟩
    | true =>
      refine wpAny_bind (wpAny_bind (helt i h₃ _ _ _ hin hp ht kb₃ k₄ (fun b hb => ?_) fun y s₅ g₅ f₅ => ?_))
      · rcases hb with hb | hb | rfl
        · exact hStw _ _ st₄ b hb
        · exact hT0l _ t0₄ b hb
        · obtain ⟨m, e⟩ := acc₄; exact ⟨_, e⟩
      · obtain ⟨h₅, tk₅, rfl, k₅⟩ := g₅
        have acc₅ : h₅.PlainList D vs.toArray := by obtain ⟨m, e⟩ := acc₄; exact ⟨m, k₅ D _ e⟩
        have hle : vs.toArray.size ≤ sizeLine := by have := md.le; simp; (first | assumption | decide | lia | omega)
        refine wpAny_bind (wpAny_list_append_plain (hsz := hle) acc₅ fun h₆ acc₆ sb => wpAny_pure (wpAny_pure ⟨rfl, n + 1 - (i + 1), by (first | assumption | decide | lia | omega), h₆, tk₅, i + 1, vs ++ [y], rfl, ⟨?_, ?_, ?_, ?_, hin, ?_, ?_⟩, rfl⟩))
        · exact W.frame _ _ _ st₄ fun b hb o e => sb.extBut b o (fun h => hDf (h ▸ hb)) (k₅ b o e)
        · simpa using acc₆
        · exact hT0s _ _ t0₄ fun b o hb e => sb.extBut b o (fun h => hDt (h ▸ hb)) (k₅ b o e)
        · exact .take (md.mono fun j v f => hF j _ _ v f fun b o h1 h2 h3 e => sb.extBut b o h3 (k₅ b o (k₄ b o (k03 b o h1 h2 e)))) hp (hF _ _ _ _ f₅ fun b o h1 h2 h3 e => sb.extBut b o h3 e)
        · exact fun b o e => sb.extBut b o (nw b o e).2.2 (k₅ b o (k₄ b o (kb₃ b o e)))
        · exact fun b o h1 h2 h3 e => sb.extBut b o h3 (k₅ b o (k₄ b o (k03 b o h1 h2 (kk b o h1 h2 h3 e))))
  · obtain rfl : i = n := by (first | assumption | decide | lia | omega)
    refine W.done _ _ _ st fun h₁ tk₁ k₁ => wpAny_pure ?_
    refine hR h₁ tk₁ vs (hT0s _ _ t0 fun b o hb e => k₁ b o (htw b hb) e) (by obtain ⟨m, e⟩ := acc; exact ⟨m, k₁ D _ hDw e⟩) (md.mono fun j v f => hF j _ _ v f fun b o h1 h2 h3 e => k₁ b o h1 e)
      (fun b o e => k₁ b o (nw b o e).1 (kb b o e)) fun b o h1 h2 h3 e => k₁ b o h1 (kk b o h1 h2 h3 e)
end
end Mine

-- Ev3
namespace Mine

section
variable (prog : Program) (w : World) (A : Around)
noncomputable def Tests (h : Heap) (env : Env) (ifs : List Expr) (b : Bool) : Prop :=
  ∀ (s : Shared) (Q : Bool → Shared → Prop) (E : Value → Shared → Prop), Kp h s.heap → (∀ s', Gw s s' → Q b s') →
    wpAny (model prog w) A (forIn ifs true fun c r => if r = true then do let ok ← isTrue c env (eval c env); pure (ForInStep.yield ok) else pure (ForInStep.yield r)) Q E s

/- how a comprehension's target is stored, in a frame of its own at C -/
structure Target (env : Env) (scope : Scope) (cl : List (Str × Addr)) (target : Expr) (items : List R) (tw : Addr → List Addr) (T0 : Addr → Heap → Prop) (T : Addr → Nat → Heap → Prop) : Prop where
  lo : ∀ C, ∀ b ∈ tw C, C ≤ b
  mem : ∀ C, C ∈ tw C
  new : ∀ C h, h.Ns C (fun _ => none) → (∀ x ∈ cellsFrom (C + 1) scope.names [], h.IsCell x.2 none) → T0 C h
  stay : ∀ C h h', T0 C h → (∀ b o, b ∈ tw C → h.get? b = some o → h'.get? b = some o) → T0 C h'
  ex : ∀ C h, T0 C h → ∀ b ∈ tw C, ∃ o, h.get? b = some o
  ns : ∀ C h, T0 C h → ∃ m, h.Ns C m
  asg : ∀ C i v (s : Shared) (Q : Unit → Shared → Prop) (E : Value → Shared → Prop), T0 C s.heap → (∃ r, items[i]? = some r ∧ r.is s.heap v) →
      (∀ h' tk, T C i h' → T0 C h' → (∀ b o, b ∉ tw C → s.heap.get? b = some o → h'.get? b = some o) → Q () { s with heap := h', toks := tk }) → wpAny (model prog w) A (assign target (compEnvX scope cl C env) v) Q E s
end

section
variable {prog : Program} {w : World} {A : Around} {E : Value → Shared → Prop} {env : Env}

theorem Tests.nil {h : Heap} : Tests prog w A h env [] true := fun s Q E k q => wpAny_tests_nil (q s Gw.rfl)
theorem Tests.one {h : Heap} {c : Expr} {b : Bool} (x : Tr prog w A h env c b) : Tests prog w A h env [c] b := fun s Q E k q => wpAny_tests_one (x s Q E k q)

theorem comp_block {elt target iter : Expr} {ifs : List Expr} {scope : Scope} {cl : List (Str × Addr)} {pos : Pos} {items : List R} {tw : Addr → List Addr} {T0 : Addr → Heap → Prop} {T : Addr → Nat → Heap → Prop}
    {F : (Addr → Prop) → Nat → Heap → Value → Prop} {p : Nat → Bool} {s₂ : Shared} {hb : Heap} {I : Addr} {fp wr : List Addr} {P Md : Nat → Value → Heap → Prop} {St : Nat → Heap → Prop} {RR : Value → Addr → Result → Shared → Prop}
    (tg : Target prog w A env scope cl target items tw T0 T) (hsz : items.length ≤ sizeLine)
    (hwb : ∀ b ∈ wr, hb.get? b = none) (W : KTurns prog w A target I fp wr items.length P Md St)
    (hself : ∀ i (s : Shared) (Q : Value → Shared → Prop) (E : Value → Shared → Prop), St i s.heap → Q (.ref I) s → wpAny (model prog w) A (pyIter (.ref I)) Q E s)
    (hst : St 0 s₂.heap) (hSt : ∀ i h, St i h → ∀ b ∈ wr, ∃ o, h.get? b = some o) (hfp : ∀ b ∈ fp, b < s₂.heap.objs.size) (hit : ∀ i v h', P i v h' → Kp hb h' → ∃ r, items[i]? = some r ∧ r.is h' v) (hKb : Kp hb s₂.heap)
    (htest : ∀ C i h₁, i < items.length → T C i h₁ → Kp hb h₁ → Tests prog w A h₁ (compEnvX scope cl C env) ifs (p i))
    (helt : ∀ C i h₁ (s : Shared) (Q : Value → Shared → Prop) (E : Value → Shared → Prop), i < items.length → p i = true → T C i h₁ → Kp hb h₁ → Kp h₁ s.heap →
      (∀ v s', Gw s s' → (∀ X : Addr → Prop, (∀ b, X b → ∃ o, s.heap.get? b = some o) → F X i s'.heap v) → Q v s') → wpAny (model prog w) A (eval elt (compEnvX scope cl C env)) Q E s)
    (hF : ∀ X i h h' v, F X i h v → (∀ b o, ¬ X b → h.get? b = some o → h'.get? b = some o) → F X i h' v)
    (hRR : ∀ D C (X : Addr → Prop) h' tk m' vs, s₂.heap.get? D = none → s₂.heap.get? C = none → D ≠ C → X C → X D → (∀ b ∈ wr, X b) → h'.Ns C m' → h'.PlainList D vs.toArray → Made (F X) p h' items.length vs → Kp hb h' →
      (∀ b o, b ∉ wr → s₂.heap.get? b = some o → h'.get? b = some o) → RR (.ref D) C (.ok .next) { s₂ with heap := h', toks := tk }) :
    wpAny (model prog w) A (newList []) (fun acc s₃ => wpAny (model prog w) A (newFunctionEnv scope env.globals cl [] env.qual none .none (some env)) (fun cenv s₄ =>
      codeAny (model prog w) A (.compStart (.ListComp elt [⟨target, iter, ifs, 0⟩] scope pos) 0 (.ref I) acc { cenv with scope := relabel scope env }) (RR acc cenv.locals) s₄) E s₃) E s₂ := by
  refine wpAny_newObj_type (newCompEnv ?_)
  generalize hH2 : s₂.heap.push { cls := .type "list", dict := none, data := .seq ([] : List Value).toArray } = H2
  generalize hH4 : pushCells (({ s₂ with heap := H2 } : Shared).heap.push { cls := .type "dict", data := .dict #[] }) scope.names = H4
  have hC : H2.objs.size = s₂.heap.objs.size + 1 := by rw [← hH2, Heap.size_push]
  have fresh : ∀ a, s₂.heap.objs.size ≤ a → s₂.heap.get? a = none := fun a ha => by
    cases e : s₂.heap.get? a with
    | none => rfl
    | some o' => exact absurd (Heap.lt_size e) (Nat.not_lt.mpr ha)
  have freshb : ∀ a, s₂.heap.objs.size ≤ a → hb.get? a = none := fun a ha => by
    cases e : hb.get? a with
    | none => rfl
    | some o' => have := hKb _ _ e; rw [fresh a ha] at this; cases this
  have k24 : Kp s₂.heap H4 := fun b o e => by
    rw [← hH4]; exact pushCells_keeps _ _ _ _ (Heap.get?_push_of_some _ (by show H2.get? b = some o; rw [← hH2]; exact Heap.get?_push_of_some _ e))
  have hacc : H4.PlainList s₂.heap.objs.size #[] := ⟨_, by
    rw [← hH4]; exact pushCells_keeps _ _ _ _ (Heap.get?_push_of_some _ (by show H2.get? _ = some _; rw [← hH2]; exact Heap.get?_push_size _ rfl))⟩
  have hns : H4.Ns H2.objs.size (fun _ => none) := by
    rw [← hH4]; exact (Heap.Ns.new H2 (.type "dict")).keeps (pushCells_keeps _ _)
  have ok := cellsFrom_ok scope.names (H2.push { cls := .type "dict", data := .dict #[] }) (H2.objs.size + 1) [] ⟨fun _ _ hm => (nomatch hm), List.Pairwise.nil⟩ (by rw [Heap.size_push]; exact Nat.le_refl _)
  rw [Heap.size_push] at ok
  have t0 : T0 H2.objs.size H4 := tg.new _ _ hns fun x hx => by
    have := (ok.empty x.1 x.2 hx).1
    rw [← hH4]; exact this
  have loop : ∀ s₃ : Shared, s₃ = { s₂ with heap := H4 } →
      codeAny (model prog w) A (.compLoop (.ListComp elt [⟨target, iter, ifs, 0⟩] scope pos) 0 (.ref I) (.ref s₂.heap.objs.size) (compEnvX scope cl H2.objs.size env))
        (RR (.ref s₂.heap.objs.size) H2.objs.size) s₃ := by
    rintro s₃ rfl
    refine comp_loop (tw := tw H2.objs.size) (T0 := T0 H2.objs.size) (T := T H2.objs.size) (hb := hb) (p := p) (F := F fun b => b ∈ wr ∨ b ∈ tw H2.objs.size ∨ b = s₂.heap.objs.size) W hsz
      (fun hm => Nat.lt_irrefl _ (hfp _ hm)) (fun b hb hm => ?_) (fun hm => ?_) hwb (fun b hb => ?_) (freshb _ (Nat.le_refl _)) (W.frame _ _ _ hst fun b _ o e => k24 b o e) hacc t0 (hKb.trans k24)
      hSt (tg.stay _) (tg.ex _) (fun i v s Q E hi ht hP kb hQ => tg.asg _ i v s Q E ht (hit i v _ hP kb) hQ)
      (fun i h₁ s Q E hi ht kb k q => htest _ i h₁ hi ht kb s Q E k q) (fun i h₁ s Q E hi hp ht kb k hX q => helt _ i h₁ s Q E hi hp ht kb k fun v s' g f => q v s' g (f _ hX))
      (fun i h h' v f k => hF _ i h h' v f fun b o hb e => k b o (fun x => hb (.inl x)) (fun x => hb (.inr (.inl x))) (fun x => hb (.inr (.inr x))) e)
      fun h' tk vs t0' acc' md kb kk => ?_
    · exact absurd (hfp b hm) (Nat.not_lt.mpr (Nat.le_trans (by rw [hC]; exact Nat.le_succ _) (tg.lo _ b hb)))
    · exact absurd (tg.lo _ _ hm) (Nat.not_le.mpr (by rw [hC]; exact Nat.lt_succ_self _))
    · exact freshb b (Nat.le_trans (by rw [hC]; exact Nat.le_succ _) (tg.lo _ b hb))
    · obtain ⟨m', hm'⟩ := tg.ns _ _ t0'
      refine hRR _ _ _ h' tk m' vs (fresh _ (Nat.le_refl _)) (fresh _ (by rw [hC]; exact Nat.le_succ _)) (by rw [hC]; exact Nat.ne_of_lt (Nat.lt_succ_self _)) (.inr (.inl (tg.mem _))) (.inr (.inr rfl)) (fun b hb => .inl hb) hm' acc' md kb fun b o hbw e => kk b o hbw (fun hm => ?_) (fun h => ?_) (k24 b o e)
      · exact absurd (Heap.lt_size e) (Nat.not_lt.mpr (Nat.le_trans (by rw [hC]; exact Nat.le_succ _) (tg.lo _ b hm)))
      · exact absurd (Heap.lt_size e) (by rw [h]; exact Nat.lt_irrefl _)
  exact codeAny_compStart_list (loop _ rfl) (hself 0 _ _ _ (W.frame _ _ _ hst fun b _ o e => k24 b o e) (loop _ rfl))

/- a list comprehension's value: a new list D, its items by F -/
theorem comp_val {h : Heap} {elt target iter : Expr} {ifs : List Expr} {scope : Scope} {cl : List (Str × Addr)} {pos : Pos} {items : List R} {tw : Addr → List Addr} {T0 : Addr → Heap → Prop} {T : Addr → Nat → Heap → Prop}
    {F : (Addr → Prop) → Nat → Heap → Value → Prop} {p : Nat → Bool} {s : Shared} {Q : Value → Shared → Prop}
    (src : Src prog w A h env target iter items) (tg : Target prog w A env scope cl target items tw T0 T) (hsz : items.length ≤ sizeLine) (hclos : closureFor scope env = pure cl)
    (hkind : scope.kind = .function) (hnames : ∀ y ∈ scope.names, y.2 = .local → scope.names.lookup y.1 = some .local)
    (htest : ∀ C i h₁, i < items.length → T C i h₁ → Kp h h₁ → Tests prog w A h₁ (compEnvX scope cl C env) ifs (p i))
    (helt : ∀ C i h₁ (s : Shared) (Q : Value → Shared → Prop) (E : Value → Shared → Prop), i < items.length → p i = true → T C i h₁ → Kp h h₁ → Kp h₁ s.heap →
      (∀ v s', Gw s s' → (∀ X : Addr → Prop, (∀ b, X b → ∃ o, s.heap.get? b = some o) → F X i s'.heap v) → Q v s') → wpAny (model prog w) A (eval elt (compEnvX scope cl C env)) Q E s)
    (hF : ∀ X i h h' v, F X i h v → (∀ b o, ¬ X b → h.get? b = some o → h'.get? b = some o) → F X i h' v)
    (kh : Kp h s.heap)
    (hQ : ∀ D X vs s', Gw s s' → s.heap.get? D = none → s'.heap.PlainList D vs.toArray → Made (F X) p s'.heap items.length vs → Q (.ref D) s')
    (hs : ∀ x, foldedSetIterable iter env x = pure x := by intro _; rfl) :
    wpAny (model prog w) A (eval (.ListComp elt [⟨target, iter, ifs, 0⟩] scope pos) env) Q E s := by
  rw [eval_ListComp]
  refine wpAny_comprehension_free (use := none) rfl hs hclos hkind hnames (src s _ E kh ?_)
  intro I fp wr P Md St hb s' g kb1 kb2 hwb W hself hst hSt hfp hit
  obtain ⟨h₁, t₁, rfl, k₁⟩ := g
  refine comp_block (RR := fun acc C => compPost (model prog w) A E none Q acc C) (F := F) (p := p) tg hsz hwb W hself hst hSt hfp hit kb2 (fun C i h₁ hi ht kb => htest C i h₁ hi ht ((kh.trans kb1).trans kb))
    (fun C i h₁ s Q E hi hp ht kb => helt C i h₁ s Q E hi hp ht ((kh.trans kb1).trans kb)) hF ?_
  intro D C X h' tk m' vs hD hC hDC hXC hXD hXw hn hl hmd kb kk
  have none_of : ∀ a, h₁.get? a = none → s.heap.get? a = none := fun a e => by
    cases q : s.heap.get? a with
    | none => rfl
    | some o => have := k₁ _ _ q; rw [e] at this; cases this
  refine ⟨m', hn, fun h'' sb => ?_⟩
  refine hQ D X vs _ ⟨h'', tk, rfl, fun b o e => sb.extBut b o (fun q => ?_) (kb b o (kb1 b o e))⟩ (none_of _ hD) ?_ (hmd.mono fun i v f => hF X i _ _ v f fun b o hb e => sb.extBut b o (fun q => hb (q ▸ hXC)) e)
  · subst q; have := k₁ _ _ e; rw [hC] at this; cases this
  · obtain ⟨n, e⟩ := hl; exact ⟨n, sb.extBut D _ hDC e⟩

/- the same, assigned to a local name (the model's own order of stores) -/
theorem comp_used {h : Heap} {elt target iter : Expr} {ifs : List Expr} {scope : Scope} {cl : List (Str × Addr)} {pos py spos : Pos} {y : Str} {items : List R} {tw : Addr → List Addr} {T0 : Addr → Heap → Prop} {T : Addr → Nat → Heap → Prop}
    {F : (Addr → Prop) → Nat → Heap → Value → Prop} {p : Nat → Bool} {s : Shared} {m : Str → Option Value} {Q : Flow → Shared → Prop}
    (src : Src prog w A h env target iter items) (tg : Target prog w A env scope cl target items tw T0 T) (hsz : items.length ≤ sizeLine) (hclos : closureFor scope env = pure cl)
    (hkind : scope.kind = .function) (hnames : ∀ y ∈ scope.names, y.2 = .local → scope.names.lookup y.1 = some .local)
    (htest : ∀ C i h₁, i < items.length → T C i h₁ → Kp h h₁ → Tests prog w A h₁ (compEnvX scope cl C env) ifs (p i))
    (helt : ∀ C i h₁ (s : Shared) (Q : Value → Shared → Prop) (E : Value → Shared → Prop), i < items.length → p i = true → T C i h₁ → Kp h h₁ → Kp h₁ s.heap →
      (∀ v s', Gw s s' → (∀ X : Addr → Prop, (∀ b, X b → ∃ o, s.heap.get? b = some o) → F X i s'.heap v) → Q v s') → wpAny (model prog w) A (eval elt (compEnvX scope cl C env)) Q E s)
    (hF : ∀ X i h h' v, F X i h v → (∀ b o, ¬ X b → h.get? b = some o → h'.get? b = some o) → F X i h' v)
    (kh : Kp h s.heap) (hn : s.heap.Ns env.locals m)
    (hsw : swapsWith (.ListComp elt [⟨target, iter, ifs, 0⟩] scope pos) (some (.Name y py)) spos.line env = pure true)
    (hy : env.kindOf y = some .local) (hp : (env.scope.kind == .class || (env.scope.kind == .module && env.locals != env.globals)) = false)
    (hQ : ∀ D X vs s₁ h₂ tk₂, Gw s s₁ → s.heap.get? D = none → s₁.heap.PlainList D vs.toArray → Made (F X) p s₁.heap items.length vs →
      h₂.Ns env.locals (fun z => if z = y then some (.ref D) else m z) → (∀ b o, b ≠ env.locals → ¬ X b → s₁.heap.get? b = some o → h₂.get? b = some o) → (∀ b o, b ≠ env.locals → s.heap.get? b = some o → h₂.get? b = some o) → h₂.PlainList D vs.toArray →
      Q .next { s with heap := h₂, toks := tk₂ })
    (hs : ∀ x, foldedSetIterable iter env x = pure x := by intro _; rfl) :
    wpAny (model prog w) A (exec (.Assign [.Name y py] (.ListComp elt [⟨target, iter, ifs, 0⟩] scope pos) spos) env) Q E s := by
  rw [exec_Assign_Name_used _ _ _ _ hsw]
  refine wpAny_bind (wpAny_standAt (wpAny_bind ?_))
  show wpAny _ A (do let _ ← comprehension (.ListComp elt [⟨target, iter, ifs, 0⟩] scope pos) scope env _ (newList []) false (eval iter env) (some (assign (.Name y py) env))) _ _ s
  refine wpAny_bind (wpAny_mono (wpAny_comprehension_free (use := some (assign (.Name y py) env)) (Q := fun _ s' => Q .next s') rfl hs hclos hkind hnames (src s _ E kh ?_)) (fun _ s' hq => wpAny_pure (wpAny_pure hq)) fun _ _ e => e)
  intro I fp wr P Md St hb s' g kb1 kb2 hwb W hself hst hSt hfp hit
  obtain ⟨h₁, t₁, rfl, k₁⟩ := g
  refine comp_block (RR := fun acc C => compPost (model prog w) A E (some (assign (.Name y py) env)) (fun _ s' => Q .next s') acc C) (F := F) (p := p) tg hsz hwb W hself hst hSt hfp hit kb2 (fun C i h₁ hi ht kb => htest C i h₁ hi ht ((kh.trans kb1).trans kb))
    (fun C i h₁ s Q E hi hp ht kb => helt C i h₁ s Q E hi hp ht ((kh.trans kb1).trans kb)) hF ?_
  intro D C X h' tk m' vs hD hC hDC hXC hXD hXw hnC hl hmd kb kk
  have none_of : ∀ a, h₁.get? a = none → s.heap.get? a = none := fun a e => by
    cases q : s.heap.get? a with
    | none => rfl
    | some o => have := k₁ _ _ q; rw [e] at this; cases this
  have hLC : env.locals ≠ C := by rintro rfl; obtain ⟨o, _, _, ho, _⟩ := hn; rw [none_of _ hC] at ho; cases ho
  have hLD : env.locals ≠ D := by rintro rfl; obtain ⟨o, _, _, ho, _⟩ := hn; rw [none_of _ hD] at ho; cases ho
  show wpAny _ A (assign (.Name y py) env (.ref D)) _ _ _
  refine wpAny_assign_Name (wpAny_storeName_local hy (hn.at' fun o e => kb _ o (kb1 _ o e)) (fun h₂ hn₂ hs₂ => ?_) hp)
  refine ⟨m', hnC.sameBut hs₂ (Ne.symm hLC), fun h₃ hs₃ => ?_⟩
  refine hQ D X vs { s with heap := h', toks := tk } h₃ _ ⟨h', tk, rfl, kb1.trans kb⟩ (none_of _ hD) hl hmd (hn₂.sameBut hs₃ hLC) (fun b o hbL hbX e => hs₃.extBut b o (fun q => hbX (q ▸ hXC)) (hs₂.extBut b o hbL e))
    (fun b o hbL e => hs₃.extBut b o (fun q => ?_) (hs₂.extBut b o hbL (kb b o (kb1 b o e)))) ?_
  · subst q; rw [none_of _ hC] at e; cases e
  · obtain ⟨n, e⟩ := hl; exact ⟨n, hs₃.extBut D _ hDC (hs₂.extBut D _ (Ne.symm hLD) e)⟩
end
end Mine

-- Ev4
namespace Mine

section
variable (prog : Program) (w : World) (A : Around)
noncomputable def EvL (h : Heap) (env : Env) (pos : Pos) (es : List Expr) (rs : List R) : Prop :=
  ∀ (s : Shared) (Q : List Value → Shared → Prop) (E : Value → Shared → Prop), Kp h s.heap → (∀ vs s', Gw s s' → All2 s'.heap rs vs → Q vs s') → wpAny (model prog w) A (spliced (backTo pos (starEach es env))) Q E s
noncomputable def Fn (h : Heap) (f : Value) (rs : List R) (r : R) : Prop :=
  ∀ (s : Shared) (vs : List Value) (Q : Value → Shared → Prop) (E : Value → Shared → Prop), Kp h s.heap → All2 s.heap rs vs → (∀ v s', Gw s s' → r.is s'.heap v → Q v s') → wpAny (model prog w) A (call f vs) Q E s
noncomputable def RDict (kv : List (Str × Int)) : R := ⟨fun h v => ∃ a f, v = .ref a ∧ (a == sysModules) = false ∧ h.MapOf (strKind prog w) a f ∧ ∀ k, (match kv.lookup k with | some i => ∃ t, f k = some (.int i t) | none => f k = none), by
  rintro h h' v k ⟨a, f, rfl, hne, ⟨o, es, ep, ho, hx, hd, hr⟩, hf⟩
  exact ⟨a, f, rfl, hne, ⟨o, es, ep, k a o ho, hx, hd, hr⟩, hf⟩⟩
end

section
variable {prog : Program} {w : World} {A : Around} {h h' : Heap} {env : Env} {e l r : Expr} {r₁ r₂ r₃ : R} {p pos : Pos} {es : List Expr} {rs : List R}

theorem EvL.nil : EvL prog w A h env pos [] [] := fun s Q E k q => args_nil (q _ _ Gw.rfl .nil)
theorem EvL.cons (x : Ev prog w A h env e r₁) (y : EvL prog w A h env pos es rs) (he : starEach (e :: es) env = (false, eval e env) :: starEach es env := by rfl) : EvL prog w A h env pos (e :: es) (r₁ :: rs) :=
  fun s Q E k q => args_cons (x s _ E k fun v s₁ g₁ a₁ => y s₁ _ E (k.trans g₁.kp) fun vs s₂ g₂ a₂ => q _ _ (g₁.trans g₂) (.cons (r₁.kp g₂.kp a₁) a₂)) he

theorem Ev.list (x : EvL prog w A h env p es rs) (hsz : rs.length ≤ sizeLine := by decide) : Ev prog w A h env (.List es p) (RList rs) := fun s Q E k q =>
  List_ (x s _ E k fun vs s₁ g₁ a₁ => wpAny_newList (q _ _ (g₁.trans Gw.push) ⟨_, vs, rfl, ⟨0, Heap.get?_push_size _ rfl⟩, a₁.kp (Kp.push _)⟩) (by rw [a₁.len]; exact hsz))
theorem Ev.tuple {k : Nat} (x : EvL prog w A h env p es rs) (hsz : rs.length ≤ sizeLine := by decide) : Ev prog w A h env (.Tuple es k p) (RTup rs) := fun s Q E kk q =>
  Tuple_ (x s _ E kk fun vs s₁ g₁ a₁ => wpAny_newTuple (q _ _ (g₁.trans Gw.push) ⟨_, vs, rfl, Heap.get?_push_size _ rfl, a₁.kp (Kp.push _)⟩) (by rw [a₁.len]; exact hsz))

theorem Ev.callB {n : Str} {id : String} (x : Nm prog w A h env n (.builtin id)) (y : EvL prog w A h env pos (e :: es) rs) (z : Fn prog w A h (.builtin id) rs r₁)
    (hd : (n == ("__debug__" : Str)) = false := by decide) (he : starEach (e :: es) env = (false, eval e env) :: starEach es env := by rfl) (hp : (backTo pos (starEach es env)).any (·.1) = false := by rfl) :
    Ev prog w A h env (.Call (.Name n p) (e :: es) [] pos) r₁ := fun s Q E k q =>
  wpAny_Call_NameR (wpAny_Name (x s _ E k (callWith_builtin1 (y s _ E k fun vs s₁ g₁ a₁ => z s₁ vs Q E (k.trans g₁.kp) a₁ fun v s' g a => q v s' (g₁.trans g) a) he hp)) hd)
theorem Ev.callT {n : Str} {id : String} (x : Nm prog w A h env n (.type id)) (y : EvL prog w A h env pos (e :: es) rs) (z : Fn prog w A h (.type id) rs r₁)
    (hd : (n == ("__debug__" : Str)) = false := by decide) (he : starEach (e :: es) env = (false, eval e env) :: starEach es env := by rfl) (hp : (backTo pos (starEach es env)).any (·.1) = false := by rfl) :
    Ev prog w A h env (.Call (.Name n p) (e :: es) [] pos) r₁ := fun s Q E k q =>
  wpAny_Call_NameR (wpAny_Name (x s _ E k (callWith_type1 (y s _ E k fun vs s₁ g₁ a₁ => z s₁ vs Q E (k.trans g₁.kp) a₁ fun v s' g a => q v s' (g₁.trans g) a) he hp)) hd)
theorem Ev.callF {n : Str} {f : Addr} {o : Obj} {fd : FuncData} (x : Nm prog w A h env n (.ref f)) (ho : h.get? f = some o) (hdat : o.data = .func fd) (y : EvL prog w A h env pos (e :: es) rs) (z : Fn prog w A h (.ref f) rs r₁)
    (hd : (n == ("__debug__" : Str)) = false := by decide) (he : starEach (e :: es) env = (false, eval e env) :: starEach es env := by rfl) :
    Ev prog w A h env (.Call (.Name n p) (e :: es) [] pos) r₁ := fun s Q E k q =>
  wpAny_Call_NameR (wpAny_Name (x s _ E k (callWith_def hdat (y s _ E k fun vs s₁ g₁ a₁ => ⟨g₁.kp _ _ (k _ _ ho), z s₁ vs Q E (k.trans g₁.kp) a₁ fun v s' g a => q v s' (g₁.trans g) a⟩) he)) hd)

/- a method of a built-in class, at least one argument -/
theorem Ev.meth {o : Expr} {name : Str} {apos : Pos} {T id : String} (x : Ev prog w A h env o r₂) (y : EvL prog w A h env pos (e :: es) rs) (z : Fn prog w A h (.builtin id) (r₂ :: rs) r₁)
    (hT : ∀ (s : Shared) v, r₂.is s.heap v → s.TypeIs v T ∧ (∀ a, v = .ref a → ∃ ob, s.heap.get? a = some ob ∧ ob.dict = none))
    (pa : PlainAttrs T) (slot : Slot T name id) (hty : typeOf (.builtin id) = pure (.type "method_descriptor"))
    (hbase : attributeBase o name env (eval o env) = eval o env := by rfl)
    (hfew : ((backTo pos (starEach (e :: es) env)).all (fun x => !x.1) && (backToKw pos (keywordEach [] env)).all (fun x => x.1.isSome)
      && decide ((e :: es).length + ([] : List Keyword).length + (if ([] : List Keyword).isEmpty then 0 else 1) < 30)) = true := by rfl)
    (hline : (apos.endLine == pos.line) = true := by rfl)
    (he : starEach (e :: es) env = (false, eval e env) :: starEach es env := by rfl) (hp : (backTo pos (starEach es env)).any (·.1) = false := by rfl) :
    Ev prog w A h env (.Call (.Attribute o name apos) (e :: es) [] pos) r₁ := fun s Q E k q =>
  wpAny_Call_method hbase hfew hline pa slot hty (x s _ E k fun v s₁ g₁ a₁ => ⟨(hT s₁ v a₁).1, (hT s₁ v a₁).2, callWith_method1 (y s₁ _ E (k.trans g₁.kp) fun vs s₂ g₂ a₂ =>
    z s₂ (v :: vs) Q E ((k.trans g₁.kp).trans g₂.kp) (.cons (r₂.kp g₂.kp a₁) a₂) fun v s' g a => q v s' ((g₁.trans g₂).trans g) a) he hp⟩)

theorem All2.ints {xs : List Int} {vs : List Value} (x : All2 h (xs.map RInt) vs) : IntsAre vs xs := by
  induction xs generalizing vs with
  | nil => cases x; exact .nil
  | cons a xs ih => cases x with | cons a b => obtain ⟨t, rfl⟩ := a; exact .cons _ _ (ih b)
theorem ints_all2 {xs : List Int} {vs : List Value} (x : IntsAre vs xs) : All2 h (xs.map RInt) vs := by
  induction x with
  | nil => exact .nil
  | cons _ _ _ ih => exact .cons ⟨_, rfl⟩ ih
theorem plain_isList {a xs} (x : h.PlainList a xs) : h.IsList a xs := by obtain ⟨n, e⟩ := x; exact ⟨_, e, rfl, n, rfl⟩

theorem Fn.len_list (hsz : rs.length < 2 ^ 62) : Fn prog w A h (.builtin "len") [RList rs] (RInt rs.length) := by
  rintro s vs Q E k x q
  refine x.elim1 fun v0 e0 a => ?_
  subst e0
  obtain ⟨a, vs, rfl, hl, hx⟩ := a
  exact PyProof.Rows.len_list (plain_isList hl) (by have := hx.len; simp; (first | assumption | decide | lia | omega)) (by have := hx.len; simpa [this] using q _ _ Gw.toks ⟨_, rfl⟩)

theorem Fn.count {xs : List Int} {k : Int} : Fn prog w A h (.builtin "list.count") [RInts xs, RInt k] (RInt (xs.count k : Nat)) := by
      rintro s vs Q E kk x q
      refine x.elim2 fun v0 v1 e0 a b => ?_
      subst e0
      obtain ⟨a, vs, rfl, hl, hx⟩ := a
      obtain ⟨t, rfl⟩ := b
      exact count_list_ints (plain_isList hl) hx.ints (q _ _ Gw.toks ⟨_, rfl⟩)

theorem Fn.max (hh : A.handled = none) {xs : List Int} {M : Int} (hM : M ∈ xs) (hle : ∀ a ∈ xs, a ≤ M) : Fn prog w A h (.builtin "max") [RInts xs] (RInt M) := by
    rintro s vs Q E kk x q
    refine x.elim1 fun v0 e0 a => ?_
    subst e0
    obtain ⟨a, vs, rfl, hl, hx⟩ := a
    obtain ⟨xs', e⟩ := hx.ints.allInts.items
    have hns : xs = xs'.toList.map (·.1) := by rw [← hx.ints.numsOf, ← nums_intItems, ← e]
    have hsz : 0 < xs'.size := by
      have h3 := List.length_pos_of_mem hM; rw [hns, List.length_map, Array.length_toList] at h3; exact h3
    have hl' := plain_isList hl
    rw [e] at hl'
    refine max_intList hh hl' hsz fun v h' tk hv hk => ?_
    obtain ⟨t, rfl⟩ := intItems_at hv
    obtain ⟨h1, h2⟩ := argBest_gt (numAt xs') (xs'.size - 1)
    refine q _ _ (Gw.both hk) ⟨t, ?_⟩
    congr 1
    refine Int.le_antisymm (hle _ ?_) ?_
    · rw [hns, numAt_eq]; exact getD_mem (by rw [List.length_map, Array.length_toList]; (first | assumption | decide | lia | omega))
    · rw [hns] at hM
      obtain ⟨j, hj, rfl⟩ := mem_getD hM
      rw [List.length_map, Array.length_toList] at hj
      rw [← numAt_eq]; exact h2 j (by (first | assumption | decide | lia | omega))
theorem Fn.min (hh : A.handled = none) {xs : List Int} {M : Int} (hM : M ∈ xs) (hle : ∀ a ∈ xs, M ≤ a) : Fn prog w A h (.builtin "min") [RInts xs] (RInt M) := by
    rintro s vs Q E kk x q
    refine x.elim1 fun v0 e0 a => ?_
    subst e0
    obtain ⟨a, vs, rfl, hl, hx⟩ := a
    obtain ⟨xs', e⟩ := hx.ints.allInts.items
    have hns : xs = xs'.toList.map (·.1) := by rw [← hx.ints.numsOf, ← nums_intItems, ← e]
    have hsz : 0 < xs'.size := by
      have h3 := List.length_pos_of_mem hM; rw [hns, List.length_map, Array.length_toList] at h3; exact h3
    have hl' := plain_isList hl
    rw [e] at hl'
    refine min_intList hh hl' hsz fun v h' tk hv hk => ?_
    obtain ⟨t, rfl⟩ := intItems_at hv
    obtain ⟨h1, h2⟩ := argBest_lt (numAt xs') (xs'.size - 1)
    refine q _ _ (Gw.both hk) ⟨t, ?_⟩
    congr 1
    refine Int.le_antisymm ?_ (hle _ ?_)
    · rw [hns] at hM
      obtain ⟨j, hj, rfl⟩ := mem_getD hM
      rw [List.length_map, Array.length_toList] at hj
      rw [← numAt_eq]; exact h2 j (by (first | assumption | decide | lia | omega))
    · rw [hns, numAt_eq]; exact getD_mem (by rw [List.length_map, Array.length_toList]; (first | assumption | decide | lia | omega))
theorem Fn.max2 (hh : A.handled = none) {a b : Int} : Fn prog w A h (.builtin "max") [RInt a, RInt b] (RInt (Max.max a b)) := by
      rintro s vs Q E kk x q
      refine x.elim2 fun v0 v1 e0 x1 y => ?_
      subst e0
      obtain ⟨t, rfl⟩ := x1
      obtain ⟨u, rfl⟩ := y
      refine max_two_ints hh fun h' tk hk => ?_
      by_cases hb : b > a
      · rw [if_pos hb]; exact q _ _ (Gw.both hk) ⟨u, by rw [Int.max_eq_right (by (first | assumption | decide | lia | omega))]⟩
      · rw [if_neg hb]; exact q _ _ (Gw.both hk) ⟨t, by rw [Int.max_eq_left (by (first | assumption | decide | lia | omega))]⟩

theorem Cm.inDict {x : Str} {kv : List (Str × Int)} : Cm prog w A h .In (RStr x) (RDict prog w kv) (kv.lookup x).isSome := by
  rintro s _ _ Q E _ ⟨t, rfl⟩ ⟨a, f, rfl, hne, hm, hf⟩ q
  refine wpAny_in_of (strKind_is prog w x t) hne hm ?_
  have := hf x
  cases e : kv.lookup x with
  | none => rw [e] at this q; rw [this]; exact q _ Gw.toks
  | some i => rw [e] at this q; obtain ⟨u, hu⟩ := this; rw [hu]; exact q _ Gw.toks
end
end Mine

-- Ev5
namespace Mine

/- a scalar: its telling asks no heap -/
noncomputable def Sc (r : R) : Prop := ∀ h h' v, r.is h v → r.is h' v
theorem Sc.int {i} : Sc (RInt i) := fun _ _ _ x => x
theorem Sc.str {x} : Sc (RStr x) := fun _ _ _ x => x

section
variable {prog : Program} {w : World} {A : Around} {h h' : Heap} {env : Env} {e l r : Expr} {r₁ r₂ r₃ : R} {p pos : Pos} {es : List Expr} {rs : List R}

theorem Nm.local {x : Str} {v : Value} {m : Str → Option Value} (hn : h.Ns env.locals m) (hv : m x = some v) (hl : env.kindOf x = some .local) (hk : env.scope.kind = .function) : Nm prog w A h env x v :=
  fun s Q E k q => wpAny_loadName_local hk hl (hn.keeps k) hv q
theorem Nm.cell {x : Str} {v : Value} {c : Addr} (hc : env.cells.lookup x = some c) (hv : h.IsCell c (some v)) (hl : env.kindOf x = some .cell) (hk : env.scope.kind = .function) : Nm prog w A h env x v :=
  fun s Q E k q => wpAny_loadName_cell hk hl hc (hv.keeps k) q
theorem Nm.glob {x : Str} {v : Value} {mg : Str → Option Value} (hg : h.Ns env.globals mg) (hv : mg x = some v) (hl : env.kindOf x = some .globalImplicit) (hk : env.scope.kind = .function) : Nm prog w A h env x v :=
  fun s Q E k q => by
    unfold loadName
    simp only [Env.blockKind, hk, hl, ScopeKind.isAnnotationScope, Bool.false_and, Bool.false_eq_true, if_false]
    exact Calls.loadGlobal_global (hg.keeps k) hv q
theorem Nm.blt {x : Str} {v : Value} {mg mb : Str → Option Value} (hg : h.Ns env.globals mg) (hm : mg x = none) (hb : h.Ns env.builtins mb) (hv : mb x = some v) (hl : env.kindOf x = some .globalImplicit) (hk : env.scope.kind = .function) : Nm prog w A h env x v :=
  fun s Q E k q => by
    unfold loadName
    simp only [Env.blockKind, hk, hl, ScopeKind.isAnnotationScope, Bool.false_and, Bool.false_eq_true, if_false]
    exact Calls.loadGlobal_builtin (hg.keeps k) hm (hb.keeps k) hv q

/- the target of a comprehension: one local name -/
noncomputable def TLoc (x : Str) (items : List R) (C : Addr) (i : Nat) (h : Heap) : Prop := ∃ r v m, items[i]? = some r ∧ r.is h v ∧ h.Ns C m ∧ m x = some v
theorem Target.loc {scope : Scope} {cl : List (Str × Addr)} {x : Str} {px : Pos} {items : List R} (hx : scope.names.lookup x = some .local) (hk : scope.kind = .function) (hsc : ∀ r ∈ items, Sc r) :
    Target prog w A env scope cl (.Name x px) items (fun C => [C]) (fun C h => ∃ m, h.Ns C m) (TLoc x items) where
  lo := fun C b hb => by simp at hb; rw [hb]; exact Nat.le_refl _
  mem := fun C => by simp
  new := fun C h hn _ => ⟨_, hn⟩
  stay := fun C h h' ⟨m, hn⟩ k => ⟨m, hn.at' fun o e => k C o (by simp) e⟩
  ex := fun C h ⟨m, o, _, _, ho, _⟩ b hb => by simp at hb; subst hb; exact ⟨o, ho⟩
  ns := fun C h x => x
  asg := fun C i v s Q E ⟨m, hn⟩ ⟨r, hr, hv⟩ hQ => by
    refine wpAny_assign_Name (wpAny_storeName_local (env := compEnvX scope cl C env) (lookup_relabel_local hx) hn (fun h' hn' hs' => ?_) (by show (scope.kind == .class || (scope.kind == .module && _)) = false; rw [hk]; rfl))
    exact hQ h' _ ⟨r, v, _, hr, hsc r (List.mem_of_getElem? hr) _ _ _ hv, hn', by simp⟩ ⟨_, hn'⟩ fun b o hb e => hs'.extBut b o (fun q => hb (by simp [q, compEnvX])) e

/- one name that an inner comprehension takes: a cell -/
noncomputable def TCell (x : Str) (items : List R) (C : Addr) (i : Nat) (h : Heap) : Prop := ∃ r v, items[i]? = some r ∧ r.is h v ∧ h.IsCell (C + 1) (some v) ∧ ∃ m, h.Ns C m
theorem Target.cell {scope : Scope} {cl : List (Str × Addr)} {x : Str} {px : Pos} {items : List R} (hk : scope.kind = .function) (hkd : ∀ C, (compEnvX scope cl C env).kindOf x = some .cell)
    (hc : ∀ C, (cellsFrom (C + 1) scope.names cl).lookup x = some (C + 1)) (hc' : ∀ C, (x, C + 1) ∈ cellsFrom (C + 1) scope.names []) (hsc : ∀ r ∈ items, Sc r) :
    Target prog w A env scope cl (.Name x px) items (fun C => [C, C + 1]) (fun C h => (∃ m, h.Ns C m) ∧ ∃ v, h.IsCell (C + 1) v) (TCell x items) where
  lo := fun C b hb => by simp at hb; rcases hb with rfl | rfl; exact Nat.le_refl _; exact Nat.le_succ _
  mem := fun C => by simp
  new := fun C h hn hcl => ⟨⟨_, hn⟩, none, hcl _ (hc' C)⟩
  stay := fun C h h' ⟨⟨m, hn⟩, v, o, ho, hd⟩ k => ⟨⟨m, hn.at' fun o e => k C o (by simp) e⟩, v, o, k _ o (by simp) ho, hd⟩
  ex := fun C h ⟨⟨m, o, _, _, ho, _⟩, v, o', ho', _⟩ b hb => by simp at hb; rcases hb with rfl | rfl; exact ⟨o, ho⟩; exact ⟨o', ho'⟩
  ns := fun C h x => x.1
  asg := fun C i v s Q E ⟨⟨m, hn⟩, v₀, hv₀⟩ ⟨r, hr, hv⟩ hQ => by
    refine wpAny_assign_Name (wpAny_storeName_cell (env := compEnvX scope cl C env) hk (hkd C) (hc C) hv₀ (fun h' hc' hs' => ?_))
    have hn' : h'.Ns C m := hn.sameBut hs' (Nat.ne_of_lt (Nat.lt_succ_self _))
    exact hQ h' _ ⟨r, v, hr, hsc r (List.mem_of_getElem? hr) _ _ _ hv, hc', m, hn'⟩ ⟨⟨m, hn'⟩, _, hc'⟩ fun b o hb e => hs'.extBut b o (fun q => hb (by simp [q])) e

/- a pair (a tuple that its maker may use again) -/
noncomputable def RPair (a b : Int) : R := ⟨fun h v => ∃ T t u, v = .ref T ∧ h.IsTuple T #[.int a t, .int b u], by
  rintro h h' v k ⟨T, t, u, rfl, x⟩; obtain ⟨o, ho, r⟩ := x; exact ⟨T, t, u, rfl, o, k _ _ ho, r⟩⟩
noncomputable def TTwo (x y : Str) (xs ys : Nat → Int) (C : Addr) (i : Nat) (h : Heap) : Prop := ∃ m t u, h.Ns C m ∧ m x = some (.int (xs i) t) ∧ m y = some (.int (ys i) u)
theorem Target.two {scope : Scope} {cl : List (Str × Addr)} {x y : Str} {px py pt : Pos} {kk : Nat} {xs ys : Nat → Int} {n : Nat} (hh : A.handled = none) (hx : scope.names.lookup x = some .local) (hy : scope.names.lookup y = some .local) (hxy : x ≠ y)
    (hk : scope.kind = .function) :
    Target prog w A env scope cl (.Tuple [.Name x px, .Name y py] kk pt) ((List.range n).map fun i => RPair (xs i) (ys i)) (fun C => [C]) (fun C h => ∃ m, h.Ns C m) (TTwo x y xs ys) where
  lo := fun C b hb => by simp at hb; rw [hb]; exact Nat.le_refl _
  mem := fun C => by simp
  new := fun C h hn _ => ⟨_, hn⟩
  stay := fun C h h' ⟨m, hn⟩ k => ⟨m, hn.at' fun o e => k C o (by simp) e⟩
  ex := fun C h ⟨m, o, _, _, ho, _⟩ b hb => by simp at hb; subst hb; exact ⟨o, ho⟩
  ns := fun C h x => x
  asg := fun C i v s Q E ⟨m, hn⟩ ⟨r, hr, hv⟩ hQ => by
    have hi : r = RPair (xs i) (ys i) := by
      rw [List.getElem?_map] at hr
      cases e : (List.range n)[i]? with
      | none => rw [e] at hr; cases hr
      | some j =>
        rw [e] at hr
        have := List.getElem?_range (n := n) (i := i) (by have := (List.getElem?_eq_some_iff.mp e).1; simpa using this)
        rw [this] at e; cases e; cases hr; rfl
    subst hi
    obtain ⟨T, t, u, rfl, hT⟩ := hv
    have hp : ∀ C : Addr, ((compEnvX scope cl C env).scope.kind == .class || ((compEnvX scope cl C env).scope.kind == .module && (compEnvX scope cl C env).locals != (compEnvX scope cl C env).globals)) = false := fun C => by
      show (scope.kind == .class || (scope.kind == .module && _)) = false; rw [hk]; rfl
    refine wpAny_assign_Tuple hh hT rfl rfl fun h₁ k₁ => ?_
    have k₁' : Kp s.heap h₁ := fun b o e => k₁ b o (Nat.ne_of_lt (Heap.lt_size e)) e
    refine wpAny_assignInOrder_more (wpAny_assign_Name (wpAny_storeName_local (env := compEnvX scope cl C env) (lookup_relabel_local hx) (hn.keeps k₁') (fun h₂ hn₂ hs₂ => ?_) (hp C)))
    refine wpAny_assignInOrder_more (wpAny_assign_Name (wpAny_storeName_local (env := compEnvX scope cl C env) (lookup_relabel_local hy) hn₂ (fun h₃ hn₃ hs₃ => ?_) (hp C)))
    refine wpAny_pure (hQ h₃ _ ⟨_, t, u, hn₃, ?_, ?_⟩ ⟨_, hn₃⟩ fun b o hb e => hs₃.extBut b o (fun q => hb (by simp [q, compEnvX])) (hs₂.extBut b o (fun q => hb (by simp [q, compEnvX])) (k₁' b o e)))
    · simp [hxy]
    · simp

theorem Made.all2 {f : Nat → R} {p : Nat → Bool} {n : Nat} {vs : List Value} (x : Made (fun i h v => (f i).is h v) p h n vs) : All2 h (((List.range n).filter p).map f) vs := by
  induction x with
  | zero => exact .nil
  | take _ hp hf ih => rw [List.range_succ, List.filter_append, List.map_append]; simp only [List.filter_cons, hp, if_true, List.filter_nil, List.map_cons, List.map_nil]; exact ih.snoc hf
  | skip _ hp ih => rw [List.range_succ, List.filter_append, List.map_append]; simp only [List.filter_cons, hp, List.filter_nil, List.map_nil, List.append_nil, Bool.false_eq_true, if_false]; exact ih

/- a comprehension whose elements are scalars -/
theorem Ev.comp {elt target iter : Expr} {ifs : List Expr} {scope : Scope} {cl : List (Str × Addr)} {items : List R} {tw : Addr → List Addr} {T0 : Addr → Heap → Prop} {T : Addr → Nat → Heap → Prop} {b : Nat → Bool} {f : Nat → R}
    (src : Src prog w A h env target iter items) (tg : Target prog w A env scope cl target items tw T0 T)
    (htest : ∀ C i h₁, i < items.length → T C i h₁ → Kp h h₁ → Tests prog w A h₁ (compEnvX scope cl C env) ifs (b i))
    (helt : ∀ C i h₁, i < items.length → b i = true → T C i h₁ → Kp h h₁ → Ev prog w A h₁ (compEnvX scope cl C env) elt (f i)) (hsc : ∀ i, Sc (f i))
    (hsz : items.length ≤ sizeLine) (hclos : closureFor scope env = pure cl)
    (hkind : scope.kind = .function) (hnames : ∀ y ∈ scope.names, y.2 = .local → scope.names.lookup y.1 = some .local) (hs : ∀ x, foldedSetIterable iter env x = pure x := by intro _; rfl) :
    Ev prog w A h env (.ListComp elt [⟨target, iter, ifs, 0⟩] scope pos) (RList (((List.range items.length).filter b).map f)) := fun s Q E k q =>
  comp_val (F := fun _ i h v => (f i).is h v) src tg hsz hclos hkind hnames htest (fun C i h₁ s Q E hi hb ht kh k q => helt C i h₁ hi hb ht kh s Q E k fun v s' g a => q v s' g fun _ _ => a)
    (fun X i h h' v f _ => hsc i _ _ _ f) k (fun D X vs s' g hD hl md => q _ _ g ⟨D, vs, rfl, hl, md.all2⟩) hs

theorem Src.list {target iter : Expr} (hh : A.handled = none) (x : Ev prog w A h env iter (RList rs)) (ht : ∀ i v, letOwnedTupleGo target i v = pure () := by intro _ _; rfl) : Src prog w A h env target iter rs := fun s Q E k q =>
  x s _ E k fun v s₁ g₁ a₁ => by
    obtain ⟨a, vs, rfl, hl, hall⟩ := a₁
    refine wpAny_pyIter_list (plain_isList hl) ?_
    have hne : a ≠ s₁.heap.objs.size := Nat.ne_of_lt (by obtain ⟨n, e⟩ := hl; exact Heap.lt_size e)
    have W := KTurns.ofWalks (target := target) (Walks.list (prog := prog) (w := w) (A := A) hh s₁.heap.objs.size a hne vs.toArray) (fun i v s Q E _ q => wpAny_of_eq (ht _ _) q)
    refine q s₁.heap.objs.size _ _ _ _ _ s₁.heap _ (g₁.trans Gw.push) g₁.kp (Kp.push _) ?_ (by rw [← hall.len, ← List.size_toArray]; exact W) ?_ ?_ ?_ ?_ ?_
    · intro b hb
      simp at hb; subst hb
      exact Heap.get?_none_of_le (Nat.le_refl _)
    · exact fun i s Q E st q => wpAny_pyIter_listiter st.1 q
    · exact ⟨⟨_, Heap.get?_push_size _ rfl, rfl, rfl⟩, (plain_isList hl).push _⟩
    · intro i h st b hb
      simp at hb; subst hb
      obtain ⟨⟨o, ho, _⟩, _⟩ := st
      exact ⟨o, ho⟩
    · intro b hb
      have hs : (s₁.heap.push { cls := .type "list_iterator", data := .fields #[.ref a, .int 0 0] }).objs.size = s₁.heap.objs.size + 1 := Heap.size_push ..
      show b < (s₁.heap.push _).objs.size
      rw [hs]
      simp at hb
      rcases hb with rfl | rfl
      · exact Nat.lt_succ_self _
      · obtain ⟨n, e⟩ := hl; exact Nat.lt_succ_of_lt (Heap.lt_size e)
    · intro i v h' hv kh
      have hi : i < rs.length := by rw [← hall.len]; have := (Array.getElem?_eq_some_iff.mp hv).1; simpa using this
      refine ⟨rs[i], by simp [hi], ?_⟩
      obtain ⟨v', h1, h2⟩ := hall.get (i := i) (r := rs[i]) (by simp [hi])
      have : v' = v := by rw [List.getElem?_toArray, h1] at hv; exact Option.some.inj hv
      subst this
      exact R.kp _ kh h2

/- the ints of a range -/
noncomputable def rng (a c : Int) (n : Nat) : List R := (List.range n).map fun i : Nat => RInt (a + (i : Int) * c)
theorem rng_get {a c : Int} {n i : Nat} (hi : i < n) : (rng a c n)[i]? = some (RInt (a + (i : Int) * c)) := by simp [rng, hi]
theorem rng_len {a c : Int} {n : Nat} : (rng a c n).length = n := by simp [rng]
theorem rng_sc {a c : Int} {n : Nat} : ∀ r ∈ rng a c n, Sc r := by intro r hr; simp [rng] at hr; obtain ⟨i, _, rfl⟩ := hr; exact Sc.int

theorem src_of_range {a b c : Int} {t u v : Tok} {n : Nat} {s₁ s : Shared} {rr : Addr} {target : Expr} (hh : A.handled = none) (hn : Builtin.Range.rangeSize a b c = n) (hsm : Builtin.Range.small a b c = true)
    (ht : ∀ i v, letOwnedTupleGo target i v = pure ()) (hr : IsRange s₁.heap rr a b c t u v) (g : Gw s s₁) {Q E : Value → Shared → Prop}
    (q : ∀ I fp wr P Md St hb s', Gw s s' → Kp s.heap hb → Kp hb s'.heap → (∀ b ∈ wr, hb.get? b = none) → KTurns prog w A target I fp wr (rng a c n).length P Md St →
      (∀ i (s : Shared) (Q : Value → Shared → Prop) (E : Value → Shared → Prop), St i s.heap → Q (.ref I) s → wpAny (model prog w) A (pyIter (.ref I)) Q E s) →
      St 0 s'.heap → (∀ i h, St i h → ∀ b ∈ wr, ∃ o, h.get? b = some o) → (∀ b ∈ fp, b < s'.heap.objs.size) → (∀ i v h', P i v h' → ∃ r, (rng a c n)[i]? = some r ∧ r.is h' v) → (∀ b ∈ fp, s.heap.get? b = none) → (∀ i h, St i h → ∀ b ∈ fp, ∀ o, h.get? b = some o → ¬ Vary o) → Q (.ref I) s') :
    wpAny (model prog w) A (pyIter (.ref rr)) Q E s₁ := by
  refine wpAny_pyIter_range hr hsm ?_
  rw [hn]
  have W := KTurns.ofWalks (target := target) (Walks.range (prog := prog) (w := w) (A := A) hh s₁.heap.objs.size a c n).bound (fun i v s Q E _ q => wpAny_of_eq (ht _ _) q)
  refine q s₁.heap.objs.size _ _ _ _ _ s₁.heap _ (g.trans Gw.push) g.kp (Kp.push _) ?_ (by rw [rng_len]; exact W) ?_ ?_ ?_ ?_ ?_ ?_ ?_
  · intro b hb
    simp at hb; subst hb
    exact Heap.get?_none_of_le (Nat.le_refl _)
  · exact fun i s Q E st q => (Walks.range (prog := prog) (w := w) (A := A) hh s₁.heap.objs.size a c n).self i s Q E st q
  · have := Heap.get?_push_size s₁.heap (o := { cls := .type "range_iterator", data := .fields #[rawInt a, rawInt (n : Int), rawInt c] }) rfl
    simpa using this
  · intro i h st b hb
    simp at hb; subst hb
    exact ⟨_, st⟩
  · intro b hb
    have hs : (s₁.heap.push { cls := .type "range_iterator", data := .fields #[rawInt a, rawInt (n : Int), rawInt c] }).objs.size = s₁.heap.objs.size + 1 := Heap.size_push ..
    show b < (s₁.heap.push _).objs.size
    rw [hs]
    simp at hb
    subst hb
    exact Nat.lt_succ_self _
  · rintro i v h' ⟨hi, t, rfl⟩
    exact ⟨_, rng_get hi, t, rfl⟩
  · intro b hb
    simp at hb; subst hb
    cases e : s.heap.get? s₁.heap.objs.size with
    | none => rfl
    | some o => exact absurd (Heap.lt_size (g.kp _ _ e)) (Nat.lt_irrefl _)
  · intro i h st b hb o ho
    simp at hb; subst hb
    rw [show h.get? s₁.heap.objs.size = _ from st] at ho
    cases ho
    rintro (⟨_, _, e⟩ | ⟨_, e⟩) <;> cases e

theorem SrcN.range1 {target : Expr} {x : Str} {n : Nat} (hh : A.handled = none) (hx : Nm prog w A h env x (.type "range")) (y : EvL prog w A h env pos [e] [RInt n]) (hn : n < 2 ^ 30)
    (ht : ∀ i v, letOwnedTupleGo target i v = pure () := by intro _ _; rfl) (hd : (x == ("__debug__" : Str)) = false := by decide) (he : starEach [e] env = (false, eval e env) :: starEach [] env := by rfl) :
    SrcN prog w A h env target (.Call (.Name x p) [e] [] pos) (rng 0 1 n) := fun s Q E k q =>
  wpAny_Call_NameR (wpAny_Name (hx s _ E k (callWith_type1 (y s _ E k fun vs s₁ g₁ a₁ => by
      refine a₁.elim1 fun v0 e0 a => ?_
      subst e0
      obtain ⟨t, rfl⟩ := a
      refine call_range_1 (src_of_range hh ?_ ?_ ht (IsRange.new _ _ _ _ _ _ _) (g₁.trans (Gw.both (Kp.push _))) q)
      · unfold Builtin.Range.rangeSize; simp; (first | assumption | decide | lia | omega)
      · unfold Builtin.Range.small Builtin.Range.rangeSize Builtin.Range.rangeFitsLong; simp; (first | assumption | decide | lia | omega)) he)) hd)
theorem SrcN.range2 {target : Expr} {x : Str} {a b : Int} {n : Nat} (hh : A.handled = none) (hx : Nm prog w A h env x (.type "range")) (y : EvL prog w A h env pos [e, l] [RInt a, RInt b]) (hn : (b - a).toNat = n) (ha : -2 ^ 30 < a) (hb : b < 2 ^ 30) (ha' : a < 2 ^ 30) (hb' : -2 ^ 30 < b)
    (ht : ∀ i v, letOwnedTupleGo target i v = pure () := by intro _ _; rfl) (hd : (x == ("__debug__" : Str)) = false := by decide) (he : starEach [e, l] env = (false, eval e env) :: starEach [l] env := by rfl)
    (hp : (backTo pos (starEach [l] env)).any (·.1) = false := by rfl) :
    SrcN prog w A h env target (.Call (.Name x p) [e, l] [] pos) (rng a 1 n) := fun s Q E k q =>
  wpAny_Call_NameR (wpAny_Name (hx s _ E k (callWith_type1 (y s _ E k fun vs s₁ g₁ a₁ => by
        refine a₁.elim2 fun v0 v1 e0 x y => ?_
        subst e0
        obtain ⟨t, rfl⟩ := x; obtain ⟨u, rfl⟩ := y
        refine call_range_2 (src_of_range hh ?_ ?_ ht (IsRange.new _ _ _ _ _ _ _) (g₁.trans (Gw.both (Kp.push _))) q)
        · unfold Builtin.Range.rangeSize; simp; split <;> (first | assumption | decide | lia | omega)
        · unfold Builtin.Range.small Builtin.Range.rangeSize Builtin.Range.rangeFitsLong; simp; split <;> (first | assumption | decide | lia | omega)) he hp)) hd)
theorem SrcN.range3 {target : Expr} {x : Str} {a : Int} {n : Nat} (hh : A.handled = none) (hx : Nm prog w A h env x (.type "range")) (y : EvL prog w A h env pos [e, l, r] [RInt a, RInt (-1), RInt (-1)]) (hn : (a + 1).toNat = n) (ha : -2 ^ 30 < a) (ha' : a < 2 ^ 30)
    (ht : ∀ i v, letOwnedTupleGo target i v = pure () := by intro _ _; rfl) (hd : (x == ("__debug__" : Str)) = false := by decide) (he : starEach [e, l, r] env = (false, eval e env) :: starEach [l, r] env := by rfl)
    (hp : (backTo pos (starEach [l, r] env)).any (·.1) = false := by rfl) :
    SrcN prog w A h env target (.Call (.Name x p) [e, l, r] [] pos) (rng a (-1) n) := fun s Q E k q =>
  wpAny_Call_NameR (wpAny_Name (hx s _ E k (callWith_type1 (y s _ E k fun vs s₁ g₁ a₁ => by
          refine a₁.elim3 fun v0 v1 v2 e0 x y z => ?_
          subst e0
          obtain ⟨t, rfl⟩ := x; obtain ⟨u, rfl⟩ := y; obtain ⟨v, rfl⟩ := z
          refine call_range_3 (by decide) (src_of_range hh ?_ ?_ ht (IsRange.new _ _ _ _ _ _ _) (g₁.trans (Gw.both (Kp.push _))) q) (hp := Or.inl (PyProof.noPylong_small (by (first | assumption | decide | lia | omega))))
          · unfold Builtin.Range.rangeSize; simp; split <;> (first | assumption | decide | lia | omega)
          · unfold Builtin.Range.small Builtin.Range.rangeSize Builtin.Range.rangeFitsLong; simp; split <;> (first | assumption | decide | lia | omega)) he hp)) hd)
end
end Mine

-- Ev6
namespace Mine

section
variable {M : Model} {prog : Program} {w : World} {A : Around} {h h' : Heap} {env : Env} {e l r value ix : Expr} {r₁ r₂ r₃ : R} {p pos : Pos} {es : List Expr} {rs : List R} {E : Value → Shared → Prop} {s : Shared}

theorem subTail {o i : Value} {T id : String} {Q : Value → Shared → Prop} (hT : s.TypeIs o T)
    (hl : typeLookup (.type T) "__getitem__" = pure (some (.builtin id))) (h : wpAny (model prog w) A (getItem o i) Q E s)
    (hs : subscripted ix false o i = operate [o, i] (getItem o i)) :
    wpAny (model prog w) A (subscriptTail value ix o i) Q E s := by
  unfold subscriptTail
  refine wpAny_bind ?_
  rw [getitemInPython_of_ne hT.not_modules]
  refine wpAny_bind (wpAny_specialOf hT hl ?_)
  have fin : wpAny (model prog w) A (subscripted ix false o i) (fun r s₃ => wpAny (model prog w) A (letTemporaryGo value o r >>= fun _ => pure r) Q E s₃) E s := by
    rw [hs]
    exact wpAny_operating (wpAny_mono h (fun r s₃ h₃ => wpAny_bind (wpAny_letTemporaryGo (wpAny_pure h₃))) fun _ _ x => x)
  first
    | exact wpAny_pure (wpAny_bind fin)
    | exact wpAny_bind (wpAny_pure (wpAny_bind fin))
    | exact wpAny_bind fin

/- an item of a list, the place told -/
theorem Ev.item {k : Int} (x : Ev prog w A h env value (RList rs)) (y : Ev prog w A h env ix (RInt k)) (h0 : 0 ≤ k) (hk : k < 2 ^ 62) (hr : rs[k.toNat]? = some r₁)
    (hs : ∀ o i, subscripted ix false o i = operate [o, i] (getItem o i) := by intro _ _; with_unfolding_all rfl) : Ev prog w A h env (.Subscript value ix pos) r₁ := fun s Q E kk q =>
  Subscript_ (x s _ E kk fun v s₁ g₁ a₁ => y s₁ _ E (kk.trans g₁.kp) fun u s₂ g₂ a₂ => by
    obtain ⟨t, rfl⟩ := a₂
    obtain ⟨a, vs, rfl, hl, hall⟩ := (RList rs).kp g₂.kp a₁
    obtain ⟨v, hv, hrv⟩ := hall.get hr
    exact subTail (plain_isList hl).typeIs slot_list_getitem.lookup (wpAny_getItem_list (plain_isList hl) h0 (by (first | assumption | decide | lia | omega)) (by simpa using hv) (q _ _ (g₁.trans g₂) hrv)) (hs _ _))

theorem Ev.sitem {x : Str} {k : Int} {c : Nat} (hx : Ev prog w A h env value (RStr x)) (y : Ev prog w A h env ix (RInt k)) (h0 : 0 ≤ k) (hk : k < 2 ^ 62) (hr : x.cps[k.toNat]? = some c)
    (hs : ∀ o i, subscripted ix false o i = operate [o, i] (getItem o i) := by intro _ _; with_unfolding_all rfl) : Ev prog w A h env (.Subscript value ix pos) (RStr ⟨#[c]⟩) := fun s Q E kk q =>
  Subscript_ (hx s _ E kk fun v s₁ g₁ a₁ => y s₁ _ E (kk.trans g₁.kp) fun u s₂ g₂ a₂ => by
    obtain ⟨t, rfl⟩ := a₂
    obtain ⟨t', rfl⟩ := a₁
    have hlt : k.toNat < x.length := (Array.getElem?_eq_some_iff.mp hr).1
    have hlt' : k < (x.length : Int) := by (first | assumption | decide | lia | omega)
    have hix : seqIndex? k x.length = some k.toNat := by
      unfold seqIndex?
      simp only [show ¬ k < 0 by (first | assumption | decide | lia | omega), if_false]
      rw [if_pos (by simp [h0, hlt'])]
    exact subTail (typeIs_str s₂ x t') F.slot_str_getitem.lookup (getItem_gives (typeIs_str s₂ x t') (by decide) F.slot_str_getitem F.entry_str_getitem (F.args_str_getitem_2 _ _)
      (gives_str_getitem x k t' t c (by simp; (first | assumption | decide | lia | omega)) (by rw [hix]; exact hr)) (show (Made.str ⟨#[c]⟩).post Q s₂ from ⟨show 1 ≤ sizeLine by decide, q _ _ ((g₁.trans g₂).trans Gw.toks) ⟨_, rfl⟩⟩)) (hs _ _))

theorem Ev.ditem {x : Str} {kv : List (Str × Int)} {i : Int} (hx : Ev prog w A h env value (RDict prog w kv)) (y : Ev prog w A h env ix (RStr x)) (hr : kv.lookup x = some i)
    (hs : ∀ o i, subscripted ix false o i = operate [o, i] (getItem o i) := by intro _ _; with_unfolding_all rfl) : Ev prog w A h env (.Subscript value ix pos) (RInt i) := fun s Q E kk q =>
  Subscript_ (hx s _ E kk fun v s₁ g₁ a₁ => y s₁ _ E (kk.trans g₁.kp) fun u s₂ g₂ a₂ => by
    obtain ⟨t, rfl⟩ := a₂
    obtain ⟨a, f, rfl, hne, hm, hf⟩ := (RDict prog w kv).kp g₂.kp a₁
    have := hf x
    rw [hr] at this
    obtain ⟨u, hu⟩ := this
    exact subTail hm.typeIs slot_dict_getitem.lookup (wpAny_getItem_of (strKind_is prog w x t) hm hu (q _ _ ((g₁.trans g₂).trans Gw.toks) ⟨_, rfl⟩)) (hs _ _))

/- a bound of a slice -/
inductive Part (prog : Program) (w : World) (A : Around) (h : Heap) (env : Env) : Option Expr → Option Int → Prop
  | none : Part prog w A h env none none
  | int {e i} : Ev prog w A h env e (RInt i) → Part prog w A h env (some e) (some i)
theorem Part.run {eo : Option Expr} {io : Option Int} (x : Part prog w A h env eo io) {Q : Value → Shared → Prop} (k : Kp h s.heap) (q : ∀ v s', Gw s s' → IsPart v io → Q v s') : wpAny (model prog w) A (evalPart eo env) Q E s := by
  cases x with
  | none => exact evalPart_none_step (q _ _ Gw.rfl .none)
  | int y => exact evalPart_some_step (y s _ E k fun v s' g a => by obtain ⟨t, rfl⟩ := a; exact q _ _ g (.int _ _))

theorem Ev.slice {lo hi : Option Expr} {li ui : Option Int} {ps : Pos} (x : Ev prog w A h env value (RList rs)) (y : Part prog w A h env lo li) (z : Part prog w A h env hi ui) (hsz : rs.length ≤ sizeLine) {rs' : List R}
    (hr : ∀ (h : Heap) (vs : List Value), All2 h rs vs → All2 h rs' (slicePick vs.toArray li ui none).toList) (ht : ∀ o r, letTemporaryGo value o r = pure () := by intro _ _; rfl) :
    Ev prog w A h env (.Subscript value (.Slice lo hi none ps) pos) (RList rs') := fun s Q E k q =>
  wpAny_Subscript_list_slice (x s _ E k fun v s₁ g₁ a₁ => y.run (k.trans g₁.kp) fun vl s₂ g₂ p₂ => z.run ((k.trans g₁.kp).trans g₂.kp) fun vu s₃ g₃ p₃ => by
    obtain ⟨a, vs, rfl, hl, hall⟩ := (RList rs).kp (g₂.kp.trans g₃.kp) a₁
    refine ⟨a, vs.toArray, li, ui, rfl, plain_isList hl, by rw [List.size_toArray, hall.len]; exact hsz, p₂, p₃, q _ _ (((g₁.trans g₂).trans g₃).trans ⟨_, s₃.toks, rfl, (Kp.push _).trans (Kp.push _)⟩) ⟨_, (slicePick vs.toArray li ui none).toList, rfl, ⟨0, ?_⟩, ?_⟩⟩
    · have := Heap.get?_push_size (s₃.heap.push { cls := .type "slice", data := .fields #[vl, vu, .none] }) (o := { cls := .type "list", data := .seq (slicePick vs.toArray li ui none) }) rfl
      rw [Heap.size_push] at this
      simpa using this
    · exact (hr _ _ hall).kp ((Kp.push _).trans (Kp.push _))) ht

/- the part of a text from a on, to b -/
noncomputable def sub (x : Str) (a b : Nat) : Str := ⟨((x.cps.toList.drop a).take (b - a)).toArray⟩
theorem Ev.sslice {lo hi : Expr} {a b : Nat} {ps : Pos} {x : Str} (hx : Ev prog w A h env value (RStr x)) (hy : Ev prog w A h env lo (RInt a)) (hz : Ev prog w A h env hi (RInt b)) (hab : a ≤ b) (hb : b ≤ x.length) (hsz : x.length ≤ sizeLine)
    (ht : ∀ o r, letTemporaryGo value o r = pure () := by intro _ _; rfl) :
    Ev prog w A h env (.Subscript value (.Slice (some lo) (some hi) none ps) pos) (RStr (sub x a b)) := fun s Q E k q =>
  wpAny_Subscript_str_slice (hx s _ E k fun v s₁ g₁ a₁ => evalPart_some_step (hy s₁ _ E (k.trans g₁.kp) fun vl s₂ g₂ p₂ => evalPart_some_step (hz s₂ _ E ((k.trans g₁.kp).trans g₂.kp) fun vu s₃ g₃ p₃ => by
    obtain ⟨t, rfl⟩ := a₁
    obtain ⟨tl, rfl⟩ := p₂
    obtain ⟨tu, rfl⟩ := p₃
    refine ⟨x, t, some (a, tl), some (b, tu), rfl, rfl, rfl, ?_⟩
    have g : Gw s { s₃ with heap := s₃.heap.push { cls := .type "slice", data := .fields #[.int a tl, .int b tu, .none] } } := ((g₁.trans g₂).trans g₃).trans Gw.push
    have hp : slicePicked x (some ((a : Int), tl)) (some ((b : Int), tu)) none = (List.range (b - a)).map (a + ·) := by
      show Builtin.Str.strSliceIndices (some (a : Int)) (some (b : Int)) 1 x.length = _
      exact StrLaws.strSliceIndices_plain hab hb
    have hq : (slicePicked x (some ((a : Int), tl)) (some ((b : Int), tu)) none).filterMap (x.cps[·]?) = (x.cps.toList.drop a).take (b - a) := by rw [hp]; exact pick_run x.cps a (b - a)
    unfold sliceMade
    rw [hq]
    split
    · rename_i hc
      rw [hp] at hc
      have hlen : b - a = x.length := by simpa using hc
      refine q _ _ g ⟨t, ?_⟩
      have h1 : a = 0 := by (first | assumption | decide | lia | omega)
      have h2 : b = x.length := by (first | assumption | decide | lia | omega)
      subst h1
      unfold sub
      rw [List.drop_zero, List.take_of_length_le (by show x.cps.toList.length ≤ _; rw [Array.length_toList]; exact Nat.le_of_eq hlen.symm)]
    · refine ⟨?_, q _ _ (g.trans Gw.toks) ⟨_, rfl⟩⟩
      show (((x.cps.toList.drop a).take (b - a)).toArray).size ≤ sizeLine
      rw [List.size_toArray, List.length_take, List.length_drop, Array.length_toList]
      exact Nat.le_trans (Nat.min_le_right _ _) (Nat.le_trans (Nat.sub_le _ _) hsz)))) ht

theorem Bn.fdiv {x y : Int} (hy : y ≠ 0) (hp : ∀ (s : Shared), Kp h s.heap → Builtin.divisionGoesByPylong x y = false ∨ PylongRoom (model prog w) A s) : Bn prog w A h .FloorDiv (RInt x) (RInt y) (RInt (x.fdiv y)) := by
  rintro s _ _ Q E k ⟨t, rfl⟩ ⟨u, rfl⟩ q
  exact floordiv_int hy (q _ _ Gw.toks ⟨_, rfl⟩) (hp s k)
theorem Cm.le {x y : Int} : Cm prog w A h .LtE (RInt x) (RInt y) (decide (x ≤ y)) := by
  rintro s _ _ Q E _ ⟨t, rfl⟩ ⟨u, rfl⟩ q
  exact le_int (q _ Gw.rfl)
theorem Cm.inInts {x : Int} {xs : List Int} : Cm prog w A h .In (RInt x) (RInts xs) (xs.any (· == x)) := by
  rintro s _ _ Q E _ ⟨t, rfl⟩ ⟨a, vs, rfl, hl, hall⟩ q
  exact in_list_ints (plain_isList hl) hall.ints (q _ Gw.rfl)
theorem Cm.notInInts {x : Int} {xs : List Int} : Cm prog w A h .NotIn (RInt x) (RInts xs) (!(xs.any (· == x))) := by
  rintro s _ _ Q E _ ⟨t, rfl⟩ ⟨a, vs, rfl, hl, hall⟩ q
  exact notin_list_ints (plain_isList hl) hall.ints (q _ Gw.rfl)

theorem Tr.and2 {a b : Expr} {x y : Bool} (ha : Tr prog w A h env a x) (hb : x = true → Tr prog w A h env b y) : Tr prog w A h env (.BoolOp .And [a, b] p) (x && y) := fun s Q E k q =>
  isTrue_and (ha s _ E k fun s₁ g₁ => by
    cases x with
    | false => exact q _ g₁
    | true => exact isTrue_and (hb rfl s₁ _ E (k.trans g₁.kp) fun s₂ g₂ => by
        cases y with
        | false => exact q _ (g₁.trans g₂)
        | true => exact isTrue_and_nil (q _ (g₁.trans g₂))))
theorem Tr.or2 {a b : Expr} {x y : Bool} (ha : Tr prog w A h env a x) (hb : x = false → Tr prog w A h env b y) : Tr prog w A h env (.BoolOp .Or [a, b] p) (x || y) := fun s Q E k q =>
  isTrue_or (ha s _ E k fun s₁ g₁ => by
    cases x with
    | true => exact q _ g₁
    | false => exact isTrue_or (hb rfl s₁ _ E (k.trans g₁.kp) fun s₂ g₂ => by
        cases y with
        | true => exact q _ (g₁.trans g₂)
        | false => exact isTrue_or_nil (q _ (g₁.trans g₂))))
theorem Ev.ifexp {t b o : Expr} {x : Bool} (ht : Tr prog w A h env t x) (hb : x = true → Ev prog w A h env b r₁) (ho : x = false → Ev prog w A h env o r₁) : Ev prog w A h env (.IfExp t b o p) r₁ := fun s Q E k q =>
  wpAny_IfExp (ht s _ E k fun s₁ g₁ => by
    cases x with
    | true => exact hb rfl s₁ Q E (k.trans g₁.kp) fun v s' g a => q v s' (g₁.trans g) a
    | false => exact ho rfl s₁ Q E (k.trans g₁.kp) fun v s' g a => q v s' (g₁.trans g) a)
end
end Mine

-- Ev7
namespace Mine

/- a def's frame, between two statements: its names m, its cells cm; K: objects that stand -/
structure FS (env : Env) (s₀ : Shared) (m cm : Str → Option Value) (K : Addr → Obj → Prop) (s : Shared) : Prop where
  same : ∃ h tk, s = { s₀ with heap := h, toks := tk }
  base : Kp s₀.heap s.heap
  ns : s.heap.Ns env.locals m
  cell : ∀ n c, env.cells.lookup n = some c → s.heap.IsCell c (cm n)
  apart : env.cells.Pairwise fun x y => x.2 ≠ y.2
  off : ∀ n c, (n, c) ∈ env.cells → env.locals < c
  fresh : s₀.heap.get? env.locals = none ∧ ∀ n c, (n, c) ∈ env.cells → s₀.heap.get? c = none
  sy : ∀ b o, K b o → ¬ Vary o → s.heap.get? b = some o

/- a def's end: it gives back what r tells, the heap only grown -/
noncomputable def RetsTo (s : Shared) (r : R) (fl : Flow) (s' : Shared) : Prop := ∃ v, fl = .ret v ∧ Gw s s' ∧ r.is s'.heap v
theorem len1 {α : Type} : ∀ {l : List α}, l.length = 1 → ∃ a, l = [a]
  | [a], _ => ⟨a, rfl⟩
theorem len2 {α : Type} : ∀ {l : List α}, l.length = 2 → ∃ a b, l = [a, b]
  | [a, b], _ => ⟨a, b, rfl⟩
abbrev Hk (h : Heap) : Addr → Obj → Prop := fun b o => h.get? b = some o
theorem hk_none {h : Heap} {a : Addr} (e : h.get? a = none) : ∀ o, ¬ Hk h a o := fun o q => by rw [Hk, e] at q; cases q
noncomputable def up (m : Str → Option Value) (n : Str) (v : Value) : Str → Option Value := fun y => if y = n then some v else m y
theorem up_self {m n v} : up m n v n = some v := by simp [up]
theorem up_ne {m n v y} (h : y ≠ n) : up m n v y = m y := by simp [up, h]

theorem Sy.ns {h h' : Heap} {L : Addr} {m} (hn : h.Ns L m) (hs : Heap.SameBut L h h') : Sy h h' := fun b o e nv => by
  obtain ⟨o', es, ep, ho, hd, _⟩ := hn
  refine hs.extBut b o (fun q => nv ?_) e
  subst q; rw [e] at ho; cases ho; exact .inl ⟨_, _, hd⟩
theorem Sy.cell {h h' : Heap} {c : Addr} {v} (hn : h.IsCell c v) (hs : Heap.SameBut c h h') : Sy h h' := fun b o e nv => by
  obtain ⟨o', ho, hd⟩ := hn
  refine hs.extBut b o (fun q => nv ?_) e
  subst q; rw [e] at ho; cases ho; exact .inr ⟨_, hd⟩

section
variable {prog : Program} {w : World} {A : Around} {env : Env} {s₀ s : Shared} {m cm : Str → Option Value} {K : Addr → Obj → Prop} {E : Value → Shared → Prop} {r₁ r₂ : R} {n : Str} {v : Value} {p pos : Pos} {value : Expr}

theorem FS.gw {s' : Shared} (F : FS env s₀ m cm K s) (g : Gw s s') : FS env s₀ m cm K s' := by
  obtain ⟨h, t, rfl, k⟩ := g
  obtain ⟨h₀, t₀, e⟩ := F.same
  exact ⟨⟨h, t, by rw [e]⟩, F.base.trans k, F.ns.keeps k, fun n c hc => (F.cell n c hc).keeps k, F.apart, F.off, F.fresh, fun b o q nv => k b o (F.sy b o q nv)⟩
theorem FS.adv (F : FS env s₀ m cm K s) : FS env s₀ m cm (Hk s.heap) s := ⟨F.same, F.base, F.ns, F.cell, F.apart, F.off, F.fresh, fun _ _ q _ => q⟩
theorem FS.out (F : FS env s₀ m cm K s) : Gw s₀ s := by obtain ⟨h, t, rfl⟩ := F.same; exact ⟨h, t, rfl, F.base⟩
theorem FS.of {s₁ : Shared} {env : Env} (x : InCallC s₀ env.locals m env.cells cm s₁) : FS env s₀ m cm (Hk s₀.heap) s₁ :=
  ⟨x.toInCall.same, x.toInCall.keep, x.toInCall.ns, x.cell, x.apart, x.above, ⟨Heap.get?_none_of_le x.toInCall.fresh, fun n c hc => Heap.get?_none_of_le (Nat.le_trans x.toInCall.fresh (Nat.le_of_lt (x.above n c hc)))⟩, fun b o q _ => x.toInCall.keep b o q⟩

theorem FS.ldL (F : FS env s₀ m cm K s) (hv : m n = some v) (hl : env.kindOf n = some .local) (hk : env.scope.kind = .function) : Nm prog w A s.heap env n v := Nm.local F.ns hv hl hk
theorem FS.ldC {c : Addr} (F : FS env s₀ m cm K s) (hc : env.cells.lookup n = some c) (hv : cm n = some v) (hl : env.kindOf n = some .cell) (hk : env.scope.kind = .function) : Nm prog w A s.heap env n v :=
  Nm.cell hc (hv ▸ F.cell n c hc) hl hk

theorem FS.stL {Q : Unit → Shared → Prop} (F : FS env s₀ m cm K s) (hl : env.kindOf n = some .local) (hk : env.scope.kind = .function) (q : ∀ s', FS env s₀ (up m n v) cm K s' → Sy s.heap s'.heap → Q () s') :
    wpAny (model prog w) A (storeName env n v) Q E s := by
  refine wpAny_storeName_local hl F.ns (fun h' hn hs => q _ ⟨?_, fun b o e => ?_, hn, fun k c hc => ?_, F.apart, F.off, F.fresh, fun b o q nv => Sy.ns F.ns hs b o (F.sy b o q nv) nv⟩ (Sy.ns F.ns hs)) (by rw [hk]; rfl)
  · obtain ⟨h₀, t₀, e⟩ := F.same; exact ⟨h', _, by rw [e]⟩
  · exact hs.extBut b o (fun q => by subst q; rw [F.fresh.1] at e; cases e) (F.base b o e)
  · exact (F.cell k c hc).sameBut hs (Nat.ne_of_gt (F.off k c (mem_of_lookup hc)))
theorem FS.stC {Q : Unit → Shared → Prop} {c : Addr} (F : FS env s₀ m cm K s) (hc : env.cells.lookup n = some c) (hl : env.kindOf n = some .cell) (hk : env.scope.kind = .function) (q : ∀ s', FS env s₀ m (up cm n v) K s' → Sy s.heap s'.heap → Q () s') :
    wpAny (model prog w) A (storeName env n v) Q E s := by
  have hLc := F.off n c (mem_of_lookup hc)
  refine wpAny_storeName_cell hk hl hc (F.cell n c hc) (fun h' hc' hs => q _ ⟨?_, fun b o e => ?_, F.ns.sameBut hs (Nat.ne_of_lt hLc), fun k c' hk' => ?_, F.apart, F.off, F.fresh, fun b o q nv => Sy.cell (F.cell n c hc) hs b o (F.sy b o q nv) nv⟩ (Sy.cell (F.cell n c hc) hs))
  · obtain ⟨h₀, t₀, e⟩ := F.same; exact ⟨h', s.toks, by rw [e]⟩
  · exact hs.extBut b o (fun q => by subst q; rw [F.fresh.2 n _ (mem_of_lookup hc)] at e; cases e) (F.base b o e)
  · by_cases hkn : k = n
    · subst hkn
      rw [hc] at hk'; cases hk'
      rw [up_self]; exact hc'
    · rw [up_ne hkn]
      exact (F.cell k c' hk').sameBut hs fun e => hkn (name_of_addr F.apart (mem_of_lookup hk') (e ▸ mem_of_lookup hc))

/- name = expression -/
theorem FS.asgL {Q : Flow → Shared → Prop} (F : FS env s₀ m cm K s) (x : Ev prog w A s.heap env value r₁) (hs : Ss r₁) (hl : env.kindOf n = some .local) (hk : env.scope.kind = .function)
    (q : ∀ v s', FS env s₀ (up m n v) cm K s' → Sy s.heap s'.heap → r₁.is s'.heap v → Q .next s') (hsw : swapsWith value (some (.Name n p)) pos.line env = pure false := by rfl) :
    wpAny (model prog w) A (exec (.Assign [.Name n p] value pos) env) Q E s :=
  wpAny_Assign_Name (x s _ E Kp.rfl fun v s₁ g₁ a₁ => (F.gw g₁).stL hl hk fun s' F' y => q v s' F' (g₁.kp.sy.trans y) (hs _ _ _ y a₁)) hsw
theorem FS.asgC {Q : Flow → Shared → Prop} {c : Addr} (F : FS env s₀ m cm K s) (x : Ev prog w A s.heap env value r₁) (hs : Ss r₁) (hc : env.cells.lookup n = some c) (hl : env.kindOf n = some .cell) (hk : env.scope.kind = .function)
    (q : ∀ v s', FS env s₀ m (up cm n v) K s' → Sy s.heap s'.heap → r₁.is s'.heap v → Q .next s') (hsw : swapsWith value (some (.Name n p)) pos.line env = pure false := by rfl) :
    wpAny (model prog w) A (exec (.Assign [.Name n p] value pos) env) Q E s :=
  wpAny_Assign_Name (x s _ E Kp.rfl fun v s₁ g₁ a₁ => (F.gw g₁).stC hc hl hk fun s' F' y => q v s' F' (g₁.kp.sy.trans y) (hs _ _ _ y a₁)) hsw

/- a list of the frame's own is changed in place -/
theorem FS.own {a : Addr} {h' : Heap} {t : Nat} {o : Obj} {xs k} (F : FS env s₀ m cm K s) (ho : s.heap.get? a = some o) (hd : o.data = .seq xs k) (hn : ∀ o, ¬ K a o) (hb : s₀.heap.get? a = none) (hs : Heap.SameBut a s.heap h') :
    FS env s₀ m cm K { s with heap := h', toks := t } := by
  refine ⟨?_, fun b o e => hs.extBut b o (fun q => ?_) (F.base b o e), F.ns.sameBut hs ?_, fun k c hc => (F.cell k c hc).sameBut hs ?_, F.apart, F.off, F.fresh, fun b o e nv => hs.extBut b o (fun q => ?_) (F.sy b o e nv)⟩
  · obtain ⟨h₀, t₀, e⟩ := F.same; exact ⟨h', t, by rw [e]⟩
  · subst q; rw [hb] at e; cases e
  · rintro q; obtain ⟨o', es, ep, ho', hd', _⟩ := F.ns; rw [q, ho] at ho'; cases ho'; rw [hd] at hd'; cases hd'
  · rintro q; obtain ⟨o', ho', hd'⟩ := F.cell k c hc; rw [q, ho] at ho'; cases ho'; rw [hd] at hd'; cases hd'
  · subst q; exact hn _ e

/- name.append(expression), the list one of the frame's own -/
theorem FS.append {Q : Flow → Shared → Prop} {a : Addr} {vs : List Value} {e : Expr} {np ap cp : Pos} (F : FS env s₀ m cm K s) (hn : Nm prog w A s.heap env n (.ref a)) (hl : s.heap.PlainList a vs.toArray) (x : Ev prog w A s.heap env e r₁)
    (hra : ∀ o, ¬ K a o) (hba : s₀.heap.get? a = none) (hsz : vs.length ≤ sizeLine)
    (q : ∀ v s', FS env s₀ m cm K s' → s'.heap.PlainList a (vs ++ [v]).toArray → (∃ h₁, Kp s.heap h₁ ∧ r₁.is h₁ v ∧ Heap.SameBut a h₁ s'.heap) → Q .next s')
    (hi : interactive env = false := by rfl) (hsw : swapsWith (.Call (.Attribute (.Name n np) "append" ap) [e] [] cp) none pos.line env = pure false := by rfl)
    (hd : (n == ("__debug__" : Str)) = false := by decide)
    (hbase : attributeBase (.Name n np) "append" env (eval (.Name n np) env) = eval (.Name n np) env := by rfl)
    (hfew : ((backTo cp (starEach [e] env)).all (fun x => !x.1) && (backToKw cp (keywordEach [] env)).all (fun x => x.1.isSome)
      && decide ([e].length + ([] : List Keyword).length + (if ([] : List Keyword).isEmpty then 0 else 1) < 30)) = true := by rfl)
    (hline : (ap.endLine == cp.line) = true := by rfl)
    (he : starEach [e] env = (false, eval e env) :: starEach [] env := by rfl) :
    wpAny (model prog w) A (exec (.Expr (.Call (.Attribute (.Name n np) "append" ap) [e] [] cp) pos) env) Q E s := by
  refine wpAny_Expr ?_ hi hsw
  refine wpAny_Call_method hbase hfew hline PySem.F.plainAttrs_list slot_list_append PySem.F.type_list_append (wpAny_Name (hn s _ E Kp.rfl ⟨(plain_isList hl).typeIs, ?_, ?_⟩) hd)
  · intro b hb; cases hb; obtain ⟨k, ho⟩ := hl; exact ⟨_, ho, rfl⟩
  · refine callWith_method1 (args_cons (x s _ E Kp.rfl fun v s₁ g₁ a₁ => args_nil ?_) he) he
    have hl₁ : s₁.heap.PlainList a vs.toArray := by obtain ⟨k, ho⟩ := hl; exact ⟨k, g₁.kp _ _ ho⟩
    refine wpAny_list_append_plain (hsz := by simpa using hsz) hl₁ fun h' hl' hs' => ?_
    obtain ⟨k, ho⟩ := hl₁
    exact q v _ (by
      have := (F.gw g₁).own (t := s₁.toks) ho rfl hra hba hs'
      exact this) (by simpa using hl') ⟨s₁.heap, g₁.kp, a₁, hs'⟩

/- a def of the text, called: its body walked from its own frame -/
theorem Fn.of {h : Heap} {f : Addr} {o : Obj} {fd : FuncData} {body : List Stmt} {rs : List R} {r : R} (names : List Str)
    (ho : h.get? f = some o) (hdata : o.data = .func fd) (hbody : fd.body = .stmts body) (hlim : h.NoLimit) (hcd : h.CodeRec fd.code fd.qualname) (hclo : fd.closure = []) (hroom : A.depth < recursionLimit)
    (hbind : ∀ vs : List Value, vs.length = rs.length → bindArgs fd ⟨vs, []⟩ = pure (names.zip vs))
    (hkind : ∀ (L : Nat), ∀ x ∈ names, fd.scope.names.lookup x = some .local ∨ (fd.scope.names.lookup x = some .cell ∧ ((cellsFrom L fd.scope.names []).lookup x).isSome = true))
    (hb : ∀ (s s₁ : Shared) (vs : List Value), Kp h s.heap → All2 s.heap rs vs →
      FS (callEnvC fd s.heap.objs.size f) s (bindL (callEnvC fd s.heap.objs.size f).kindOf (names.zip vs) fun _ => none) (bindC (callEnvC fd s.heap.objs.size f).kindOf (names.zip vs) fun _ => none) (Hk s.heap) s₁ →
      wpAny (model prog w) (A.deeper (callEnvC fd s.heap.objs.size f)) (execs body (callEnvC fd s.heap.objs.size f)) (RetsTo s r) (fun _ _ => False) s₁)
    (hco : fd.scope.isCoroutine = false := by rfl) (hgen : fd.scope.isGenerator = false := by rfl) (hk : fd.scope.kind = .function := by rfl) : Fn prog w A h (.ref f) rs r := by
  intro s vs Q E k a q
  refine wpAny_call (codeAny_call_cells hroom (k _ _ ho) hdata (hlim.keeps k) (hcd.keeps k) hbody (hbind vs a.len) hclo ?_ (fun s₁ x => ?_) hco hgen hk)
  · intro x hx
    exact hkind _ x.1 (List.of_mem_zip hx).1
  · refine wpAny_mono (hb s s₁ vs k a (FS.of x)) ?_ (fun _ _ f => f.elim)
    rintro fl s' ⟨v, rfl, g, hv⟩
    exact q v s' g hv
end
end Mine

-- Ev8
namespace Mine

section
variable (prog : Program) (w : World) (A : Around)
/- a value and what is known of it -/
noncomputable def EvP (h : Heap) (env : Env) (e : Expr) (P : Shared → Value → Shared → Prop) : Prop :=
  ∀ (s : Shared) (Q : Value → Shared → Prop) (E : Value → Shared → Prop), Kp h s.heap → (∀ v s', Gw s s' → P s v s' → Q v s') → wpAny (model prog w) A (eval e env) Q E s
end
/- a new list -/
noncomputable def NewL (rs : List R) (s : Shared) (v : Value) (s' : Shared) : Prop := ∃ a vs, v = .ref a ∧ s.heap.get? a = none ∧ s'.heap.PlainList a vs.toArray ∧ All2 s'.heap rs vs
noncomputable def Tell (r : R) (s : Shared) (v : Value) (s' : Shared) : Prop := r.is s'.heap v

section
variable {prog : Program} {w : World} {A : Around} {env : Env} {s₀ s : Shared} {m cm : Str → Option Value} {K : Addr → Obj → Prop} {h : Heap} {E : Value → Shared → Prop} {r₁ r₂ : R} {n n1 n2 : Str} {v : Value} {p pos p1 p2 tp vp : Pos} {value e1 e2 : Expr} {k1 k2 : Nat}
  {P1 P2 : Shared → Value → Shared → Prop} {rs : List R} {es : List Expr}

theorem Ev.tell {e : Expr} (x : Ev prog w A h env e r₁) : EvP prog w A h env e (Tell r₁) := x
theorem EvP.list (x : EvL prog w A h env p es rs) (hsz : rs.length ≤ sizeLine := by decide) : EvP prog w A h env (.List es p) (NewL rs) := fun s Q E k q =>
  List_ (x s _ E k fun vs s₁ g₁ a₁ => wpAny_newList (q _ _ (g₁.trans Gw.push) ⟨_, vs, rfl, by
    cases e : s.heap.get? s₁.heap.objs.size with
    | none => rfl
    | some o => exact absurd (Heap.lt_size (g₁.kp _ _ e)) (Nat.lt_irrefl _), ⟨0, Heap.get?_push_size _ rfl⟩, a₁.kp (Kp.push _)⟩) (by rw [a₁.len]; exact hsz))
theorem EvP.comp {elt target iter : Expr} {ifs : List Expr} {scope : Scope} {cl : List (Str × Addr)} {items : List R} {tw : Addr → List Addr} {T0 : Addr → Heap → Prop} {T : Addr → Nat → Heap → Prop} {b : Nat → Bool} {f : Nat → R}
    (src : Src prog w A h env target iter items) (tg : Target prog w A env scope cl target items tw T0 T)
    (htest : ∀ C i h₁, i < items.length → T C i h₁ → Kp h h₁ → Tests prog w A h₁ (compEnvX scope cl C env) ifs (b i))
    (helt : ∀ C i h₁, i < items.length → b i = true → T C i h₁ → Kp h h₁ → Ev prog w A h₁ (compEnvX scope cl C env) elt (f i)) (hsc : ∀ i, Sc (f i))
    (hsz : items.length ≤ sizeLine) (hclos : closureFor scope env = pure cl)
    (hkind : scope.kind = .function) (hnames : ∀ y ∈ scope.names, y.2 = .local → scope.names.lookup y.1 = some .local) (hs : ∀ x, foldedSetIterable iter env x = pure x := by intro _; rfl) :
    EvP prog w A h env (.ListComp elt [⟨target, iter, ifs, 0⟩] scope pos) (NewL (((List.range items.length).filter b).map f)) := fun s Q E k q =>
  comp_val (F := fun _ i h v => (f i).is h v) src tg hsz hclos hkind hnames htest (fun C i h₁ s Q E hi hb ht kh k q => helt C i h₁ hi hb ht kh s Q E k fun v s' g a => q v s' g fun _ _ => a)
    (fun X i h h' v f _ => hsc i _ _ _ f) k (fun D X vs s' g hD hl md => q _ _ g ⟨D, vs, rfl, hD, hl, md.all2⟩) hs

/- n1, n2 = e1, e2 by a tuple -/
theorem two (hh : A.handled = none) (x1 : EvP prog w A s.heap env e1 P1) (x2 : EvP prog w A s.heap env e2 P2) {Q : Flow → Shared → Prop}
    (st : ∀ v1 v2 s1 s2 s3, Gw s s1 → P1 s v1 s1 → Gw s1 s2 → P2 s1 v2 s2 → Gw s2 s3 → wpAny (model prog w) A (storeName env n1 v1) (fun _ s4 => wpAny (model prog w) A (storeName env n2 v2) (fun _ s5 => Q .next s5) E s4) E s3)
    (hs : swapsWithSole [.Tuple [.Name n1 p1, .Name n2 p2] k1 tp] (.Tuple [e1, e2] k2 vp) pos.line env = pure false := by rfl)
    (hw : swappedStores [.Tuple [.Name n1 p1, .Name n2 p2] k1 tp] (.Tuple [e1, e2] k2 vp) env = pure none := by rfl)
    (he : starEach [e1, e2] env = (false, eval e1 env) :: starEach [e2] env := by rfl) (he' : starEach [e2] env = (false, eval e2 env) :: starEach [] env := by rfl) :
    wpAny (model prog w) A (exec (.Assign [.Tuple [.Name n1 p1, .Name n2 p2] k1 tp] (.Tuple [e1, e2] k2 vp) pos) env) Q E s := by
  refine Assign_Tuple (Tuple_ (args_cons (x1 s _ E Kp.rfl fun v1 s1 g1 a1 => args_cons (x2 s1 _ E g1.kp fun v2 s2 g2 a2 => args_nil (wpAny_newTuple ?_ (show 2 ≤ sizeLine by decide))) he') he)) hs hw
  refine wpAny_assign_Tuple hh (items := #[v1, v2]) ⟨_, Heap.get?_push_size _ rfl, rfl, 0, rfl⟩ rfl rfl fun h' k => ?_
  have kk : Kp (s2.heap.push { cls := .type "tuple", data := .seq [v1, v2].toArray }) h' := fun b o e => k b o (Nat.ne_of_lt (Heap.lt_size e)) e
  exact wpAny_assignInOrder_more (wpAny_assign_Name (wpAny_mono (st v1 v2 s1 s2 _ g1 a1 g2 a2 ⟨h', s2.toks, rfl, (Kp.push _).trans kk⟩) (fun _ s4 h4 => wpAny_assignInOrder_more (wpAny_assign_Name (wpAny_mono h4 (fun _ _ q => wpAny_pure q) fun _ _ x => x))) fun _ _ x => x))

/- the same where the model stores the second name first -/
theorem twoS (hh : A.handled = none) (x1 : EvP prog w A s.heap env e1 P1) (x2 : EvP prog w A s.heap env e2 P2) {Q : Flow → Shared → Prop}
    (st : ∀ v1 v2 s1 s2 s3, Gw s s1 → P1 s v1 s1 → Gw s1 s2 → P2 s1 v2 s2 → Gw s2 s3 → wpAny (model prog w) A (storeName env n2 v2) (fun _ s4 => wpAny (model prog w) A (storeName env n1 v1) (fun _ s5 => Q .next s5) E s4) E s3)
    (hs : swapsWithSole [.Tuple [.Name n1 p1, .Name n2 p2] k1 tp] (.Tuple [e1, e2] k2 vp) pos.line env = pure false := by rfl)
    (hw : swappedStores [.Tuple [.Name n1 p1, .Name n2 p2] k1 tp] (.Tuple [e1, e2] k2 vp) env = pure (some [n1, n2]) := by rfl)
    (he : starEach [e1, e2] env = (false, eval e1 env) :: starEach [e2] env := by rfl) (he' : starEach [e2] env = (false, eval e2 env) :: starEach [] env := by rfl) :
    wpAny (model prog w) A (exec (.Assign [.Tuple [.Name n1 p1, .Name n2 p2] k1 tp] (.Tuple [e1, e2] k2 vp) pos) env) Q E s := by
  refine Assign_Tuple_swapped (names := [n1, n2]) (Tuple_ (args_cons (x1 s _ E Kp.rfl fun v1 s1 g1 a1 => args_cons (x2 s1 _ E g1.kp fun v2 s2 g2 a2 => args_nil (wpAny_newTuple ?_ (show 2 ≤ sizeLine by decide))) he') he)) hs hw
  refine wpAny_unpackItems_tuple hh (items := #[v1, v2]) ⟨_, Heap.get?_push_size _ rfl, rfl, 0, rfl⟩ fun h' k => ?_
  have kk : Kp (s2.heap.push { cls := .type "tuple", data := .seq [v1, v2].toArray }) h' := fun b o e => k b o (Nat.ne_of_lt (Heap.lt_size e)) e
  exact wpAny_assignInOrder_more (wpAny_bindName (wpAny_mono (st v1 v2 s1 s2 _ g1 a1 g2 a2 ⟨h', s2.toks, rfl, (Kp.push _).trans kk⟩) (fun _ s4 h4 => wpAny_assignInOrder_more (wpAny_bindName (wpAny_mono h4 (fun _ _ q => wpAny_pure q) fun _ _ x => x))) fun _ _ x => x))

theorem Ev.nint {i : Int} {t : Tok} (x : Nm prog w A h env n (.int i t)) (hd : (n == ("__debug__" : Str)) = false := by rfl) : Ev prog w A h env (.Name n p) (RInt i) := Ev.name x ⟨t, rfl⟩ hd
theorem Ev.nstr {i : Str} {t : Tok} (x : Nm prog w A h env n (.str i t)) (hd : (n == ("__debug__" : Str)) = false := by rfl) : Ev prog w A h env (.Name n p) (RStr i) := Ev.name x ⟨t, rfl⟩ hd

theorem Tr.go {e : Expr} {b : Bool} {Q : Bool → Shared → Prop} (x : Tr prog w A s.heap env e b) (q : ∀ s', Gw s s' → Q b s') : wpAny (model prog w) A (isTrue e env (eval e env)) Q E s := x s Q E Kp.rfl q
theorem Ev.go {e : Expr} {r : R} {Q : Value → Shared → Prop} (x : Ev prog w A s.heap env e r) (q : ∀ v s', Gw s s' → r.is s'.heap v → Q v s') : wpAny (model prog w) A (eval e env) Q E s := x s Q E Kp.rfl q

theorem Ev.ieq {e : Expr} {x y : Int} (q : x = y) (a : Ev prog w A h env e (RInt x)) : Ev prog w A h env e (RInt y) := q ▸ a
theorem Fn.maxf (hh : A.handled = none) {l : List Nat} {f : Nat → Int} {M : Int} (hM : ∃ i ∈ l, f i = M) (hle : ∀ i ∈ l, f i ≤ M) : Fn prog w A h (.builtin "max") [RList (l.map fun i => RInt (f i))] (RInt M) := by
  have := Fn.max (prog := prog) (w := w) (h := h) hh (xs := l.map f) (M := M) (List.mem_map.mpr hM) (by intro a ha; obtain ⟨i, hi, rfl⟩ := List.mem_map.mp ha; exact hle i hi)
  unfold RInts at this
  rwa [List.map_map] at this
theorem Fn.minf (hh : A.handled = none) {l : List Nat} {f : Nat → Int} {M : Int} (hM : ∃ i ∈ l, f i = M) (hle : ∀ i ∈ l, M ≤ f i) : Fn prog w A h (.builtin "min") [RList (l.map fun i => RInt (f i))] (RInt M) := by
  have := Fn.min (prog := prog) (w := w) (h := h) hh (xs := l.map f) (M := M) (List.mem_map.mpr hM) (by intro a ha; obtain ⟨i, hi, rfl⟩ := List.mem_map.mp ha; exact hle i hi)
  unfold RInts at this
  rwa [List.map_map] at this
end
end Mine

-- Ev29
namespace Mine
theorem NewL.elim {rs : List R} {s s' : Shared} {v : Value} {P : Prop} (x : NewL rs s v s') (k : ∀ a vs, v = .ref a → s.heap.get? a = none → s'.heap.PlainList a vs.toArray → All2 s'.heap rs vs → P) : P := by
  obtain ⟨a, vs, e, h1, h2, h3⟩ := x; exact k a vs e h1 h2 h3
theorem NewL.elim0 {s s' : Shared} {v : Value} {P : Prop} (x : NewL [] s v s') (k : ∀ a, v = .ref a → s.heap.get? a = none → s'.heap.PlainList a #[] → P) : P := by
  obtain ⟨a, vs, e, h1, h2, h3⟩ := x; cases h3; exact k a e h1 h2
theorem ints_elim {h : Heap} {l : List Int} {v : Value} {P : Prop} (x : (RInts l).is h v) (k : ∀ a vs, v = .ref a → h.PlainList a vs.toArray → IntsAre vs l → P) : P := by
  obtain ⟨a, vs, e, h1, h2⟩ := x; exact k a vs e h1 h2.ints
theorem ints_refE {h : Heap} {l : List Int} {a : Addr} {P : Prop} (x : (RInts l).is h (.ref a)) (k : ∀ vs : List Value, h.PlainList a vs.toArray → IntsAre vs l → P) : P := by
  obtain ⟨b, vs, e, h1, h2⟩ := x; cases e; exact k vs h1 h2.ints
theorem str_elim {h : Heap} {x : Str} {v : Value} {P : Prop} (y : (RStr x).is h v) (k : ∀ t, v = .str x t → P) : P := by
  obtain ⟨t, e⟩ := y; exact k t e
end Mine

-- Ev9
namespace Mine
section
variable {prog : Program} {w : World} {A : Around} {env : Env} {s₀ s : Shared} {m cm : Str → Option Value} {K : Addr → Obj → Prop} {h : Heap} {E : Value → Shared → Prop} {r₁ r₂ : R} {n n1 n2 : Str} {v : Value} {p pos p1 p2 tp vp : Pos} {value e e1 e2 : Expr} {k1 k2 : Nat}
  {rs : List R} {es : List Expr}

theorem Ev.neg {i : Int} (x : Ev prog w A h env e (RInt i)) : Ev prog w A h env (.UnaryOp .USub e p) (RInt (-i)) := fun s Q E k q =>
  wpAny_UnaryOp (x s _ E k fun v s₁ g₁ a₁ => by obtain ⟨t, rfl⟩ := a₁; exact PyProof.Rows.neg_int (q _ _ (g₁.trans Gw.toks) ⟨_, rfl⟩))

theorem All2.rev {rs vs} (x : All2 h rs vs) : All2 h rs.reverse vs.reverse := by
  induction x with
  | nil => exact .nil
  | cons a _ ih => rw [List.reverse_cons, List.reverse_cons]; exact ih.snoc a
theorem All2.take {rs vs} (x : All2 h rs vs) : ∀ k, All2 h (rs.take k) (vs.take k) := by
  induction x with
  | nil => intro k; simp; exact .nil
  | cons a _ ih => intro k; cases k with | zero => exact .nil | succ k => exact .cons a (ih k)
theorem All2.drop {rs vs} (x : All2 h rs vs) : ∀ k, All2 h (rs.drop k) (vs.drop k) := by
  induction x with
  | nil => intro k; simp; exact .nil
  | cons a b ih => intro k; cases k with | zero => exact .cons a b | succ k => exact ih k

/- xs[::-1] -/
theorem Ev.revslice {ps : Pos} {e : Expr} (x : Ev prog w A h env value (RList rs)) (y : Ev prog w A h env e (RInt (-1))) (hsz : rs.length ≤ sizeLine) (ht : ∀ o r, letTemporaryGo value o r = pure () := by intro _ _; rfl) :
    Ev prog w A h env (.Subscript value (.Slice none none (some e) ps) pos) (RList rs.reverse) := fun s Q E k q => by
  refine wpAny_Subscript_Slice_step (T := "list") list_getitem_lookup (x s _ E k fun v s₁ g₁ a₁ => wpAny_Slice (evalPart_none_step (evalPart_none_step (evalPart_some_step (y s₁ _ E (k.trans g₁.kp) fun u s₂ g₂ a₂ => ?_))))) ht
  obtain ⟨t, rfl⟩ := a₂
  obtain ⟨a, vs, rfl, hl, hall⟩ := (RList rs).kp g₂.kp a₁
  have hl' := plain_isList hl
  refine ⟨(hl'.push _).typeIs, wpAny_getItem_list_slice (hl'.push _) (Heap.IsSliceOf.new ..) .none .none (.int (-1) t) (by simp) ?_ (by rw [List.size_toArray, hall.len]; exact hsz)⟩
  refine q _ _ ((g₁.trans g₂).trans ⟨_, s₂.toks, rfl, (Kp.push _).trans (Kp.push _)⟩) ⟨_, vs.reverse, rfl, ⟨0, ?_⟩, (hall.kp ((Kp.push _).trans (Kp.push _))).rev⟩
  have := Heap.get?_push_size (s₂.heap.push { cls := .type "slice", data := .fields #[.none, .none, .int (-1) t] }) (o := { cls := .type "list", data := .seq (slicePick vs.toArray none none (some (-1))) }) rfl
  rw [krv_pick] at this
  simpa [krv_pick] using this
end
end Mine

-- Ev10
namespace Mine
section
variable {prog : Program} {w : World} {A : Around} {env : Env} {s₀ s : Shared} {m cm : Str → Option Value} {K : Addr → Obj → Prop} {h : Heap} {E : Value → Shared → Prop} {r₁ r₂ : R} {n n1 n2 : Str} {v : Value} {p pos p1 p2 tp vp : Pos} {value e l r e1 e2 : Expr} {k1 k2 : Nat}
  {rs rs' : List R} {es : List Expr}

theorem All2.rep {vs : List Value} (x : All2 h rs vs) : ∀ k, All2 h (List.replicate k rs).flatten (List.replicate k vs).flatten
  | 0 => .nil
  | k + 1 => by rw [List.replicate_succ, List.replicate_succ, List.flatten_cons, List.flatten_cons]; exact x.append (x.rep k)

theorem mul_meets {a : Addr} {vs : List Value} {c : Nat} {x : Int} {t : Tok} {s : Shared} {Q : Value → Shared → Prop} (h0 : 0 ≤ x) (hx : x < 2 ^ 62) (hz : vs.length * x.toNat ≤ 2 ^ 20) (ho : s.heap.get? a = some { cls := .type "list", data := .seq vs.toArray c })
    (q : Q (.ref s.heap.objs.size) { s with heap := s.heap.push { cls := .type "list", data := .seq (List.replicate x.toNat vs).flatten.toArray } }) :
    wpAny (model prog w) A (binaryOp .Mult (.ref a) (.int x t)) Q E s := by
  refine wpAny_binaryOp_repeat_ref (T := "list") (U := "int") (by decide) ⟨_, ho, rfl⟩ (fun s' => typeIs_int s' x t) noFill_list_mul PySem.F.fills_int_mul PySem.F.slot_int_rmul repeat_list PySem.F.slot_int_index.lookup ?_
  refine call_meets PySem.F.slot_int_rmul (typeIs_int s x t) PySem.F.entry_int_rmul (PySem.F.args_int_rmul_2 _ _) (int___rmul___int_list x t a vs.toArray c) ⟨ho, rfl, ⟨_, ho, rfl⟩, ?_⟩
  refine call_meets PySem.F.slot_list_mul ⟨_, ho, rfl⟩ PySem.F.entry_list_mul (PySem.F.args_list_mul_2 _ _) (AutoListH.list___mul___list_int_3 a vs.toArray c x t (by simp [Builtin.List.listFitsIndex]; (first | assumption | decide | lia | omega)) (by rw [List.size_toArray]; (first | assumption | decide | lia | omega)) (by simp [Builtin.List.listTooLong, sizeLine]; (first | assumption | decide | lia | omega))) ⟨ho, ?_⟩
  rw [listMul_foldl_if]
  exact q

/- list * int: a new list -/
theorem EvP.mul {k : Nat} (x : Ev prog w A h env l (RList rs)) (y : Ev prog w A h env r (RInt k)) (hsz : rs.length * k ≤ 2 ^ 20) (hk : k < 2 ^ 62) :
    EvP prog w A h env (.BinOp l .Mult r p) (NewL (List.replicate k rs).flatten) := fun s Q E kk q =>
  wpAny_BinOp (x s _ E kk fun v s₁ g₁ a₁ => y s₁ _ E (kk.trans g₁.kp) fun u s₂ g₂ a₂ => by
    obtain ⟨t, rfl⟩ := a₂
    obtain ⟨a, vs, rfl, ⟨c, ho⟩, hall⟩ := (RList rs).kp g₂.kp a₁
    have hl := hall.len
    refine mul_meets (by (first | assumption | decide | lia | omega)) (by (first | assumption | decide | lia | omega)) (by rw [hl]; simpa using hsz) ho ?_
    refine q _ _ ((g₁.trans g₂).trans ⟨_, s₂.toks, rfl, Kp.push _⟩) ⟨_, (List.replicate k vs).flatten, rfl, ?_, ⟨0, ?_⟩, (hall.rep k).kp (Kp.push _)⟩
    · cases e : s.heap.get? s₂.heap.objs.size with
      | none => rfl
      | some o => exact absurd (Heap.lt_size ((g₁.trans g₂).kp _ _ e)) (Nat.lt_irrefl _)
    · exact Heap.get?_push_size s₂.heap rfl)

theorem Bn.addL (hsz : rs.length + rs'.length ≤ 2 ^ 20) : Bn prog w A h .Add (RList rs) (RList rs') (RList (rs ++ rs')) := by
  rintro s _ _ Q E k ⟨a, vs, rfl, ⟨c, ho⟩, hall⟩ ⟨b, ws, rfl, ⟨c2, ho2⟩, hall2⟩ q
  have h1 := hall.len
  have h2 := hall2.len
  have e : vs.toArray ++ ws.toArray = (vs ++ ws).toArray := by simp
  refine concat_meets ⟨_, ho, rfl⟩ ⟨_, ho2, rfl⟩ noFill_list_add seq_list_add PySem.F.slot_list_add PySem.F.entry_list_add (PySem.F.args_list_add_2 _ _) (list_addW a b vs.toArray ws.toArray c c2 none none #[] #[] (by have : sizeLine = 16777216 := rfl; simp; (first | assumption | decide | lia | omega))) ⟨ho, ho2, ?_⟩
  rw [e]
  exact q _ _ Gw.push ⟨_, vs ++ ws, rfl, ⟨0, Heap.get?_push_size _ rfl⟩, (hall.append hall2).kp (Kp.push _)⟩

/- name[index] = value, the list one of the frame's own -/
theorem FS.setItem {Q : Flow → Shared → Prop} {a : Addr} {vs : List Value} {o i : Expr} {ps : Pos} {k : Int} {x : Int} (F : FS env s₀ m cm K s) (hv : Ev prog w A s.heap env value (RInt x)) (hn : Ev prog w A s.heap env o (RVal (.ref a))) (hi : Ev prog w A s.heap env i (RInt k))
    (hl : s.heap.PlainList a vs.toArray) (h0 : 0 ≤ k) (hk : k < vs.length) (hk' : k < 2 ^ 62) (hra : ∀ o, ¬ K a o) (hba : s₀.heap.get? a = none)
    (q : ∀ t h₁ s', Kp s.heap h₁ → Heap.SameBut a h₁ s'.heap → FS env s₀ m cm K s' → s'.heap.PlainList a (vs.set k.toNat (.int x t)).toArray → Q .next s')
    (hsw : swapsWith value (some (.Subscript o i ps)) pos.line env = pure false := by rfl) :
    wpAny (model prog w) A (exec (.Assign [.Subscript o i ps] value pos) env) Q E s := by
  refine wpAny_Assign_Subscript (hv s _ E Kp.rfl fun v s₁ g₁ a₁ => hn s₁ _ E g₁.kp fun u s₂ g₂ a₂ => hi s₂ _ E (g₁.kp.trans g₂.kp) fun j s₃ g₃ a₃ => ?_) hsw
  obtain ⟨t, rfl⟩ := a₁
  obtain ⟨t3, rfl⟩ := a₃
  cases a₂
  obtain ⟨c, ho⟩ := hl
  have g := (g₁.trans g₂).trans g₃
  have ho3 := g.kp _ _ ho
  refine ki_setAt (n := c) ho3 h0 (by (first | assumption | decide | lia | omega)) (by simpa using hk) ?_
  have sb : Heap.SameBut a s₃.heap (s₃.heap.update a (Obj.mapSeq (·.setIfInBounds k.toNat (.int x t)))) := Heap.SameBut.update ..
  refine q t s₃.heap _ g.kp sb ((F.gw g).own (t := s₃.toks) ho3 rfl hra hba sb) ⟨c, ?_⟩
  have := Heap.get?_update_self (Obj.mapSeq (·.setIfInBounds k.toNat (.int x t))) ho3 rfl
  have e : Obj.mapSeq (fun x_1 => x_1.setIfInBounds k.toNat (.int x t)) { cls := .type "list", data := .seq vs.toArray c } = { cls := .type "list", data := .seq (vs.set k.toNat (.int x t)).toArray c } := by
    simp [Obj.mapSeq]
  rw [e] at this
  exact this

/- the elements of an outer comprehension: new lists of scalars -/
noncomputable def FreshL (rs : Nat → List R) (X : Addr → Prop) (i : Nat) (h : Heap) (v : Value) : Prop := ∃ a vs, v = .ref a ∧ ¬ X a ∧ h.PlainList a vs.toArray ∧ All2 h (rs i) vs
theorem Made.all2L {rs : Nat → List R} {X : Addr → Prop} {p : Nat → Bool} {n : Nat} {vs : List Value} (x : Made (FreshL rs X) p h n vs) : All2 h (((List.range n).filter p).map fun i => RList (rs i)) vs := by
  induction x with
  | zero => exact .nil
  | take _ hp hf ih =>
    obtain ⟨a, ws, rfl, _, hl, hall⟩ := hf
    rw [List.range_succ, List.filter_append, List.map_append]; simp only [List.filter_cons, hp, if_true, List.filter_nil, List.map_cons, List.map_nil]; exact ih.snoc ⟨a, ws, rfl, hl, hall⟩
  | skip _ hp ih => rw [List.range_succ, List.filter_append, List.map_append]; simp only [List.filter_cons, hp, List.filter_nil, List.map_nil, List.append_nil, Bool.false_eq_true, if_false]; exact ih
theorem All2.sc {h h' : Heap} {rs vs} (x : All2 h rs vs) (hs : ∀ r ∈ rs, Sc r) : All2 h' rs vs := by
  induction x with
  | nil => exact .nil
  | cons a _ ih => exact .cons (hs _ (by simp) _ _ _ a) (ih fun r hr => hs r (by simp [hr]))
theorem Ev.compL {elt target iter : Expr} {ifs : List Expr} {scope : Scope} {cl : List (Str × Addr)} {items : List R} {tw : Addr → List Addr} {T0 : Addr → Heap → Prop} {T : Addr → Nat → Heap → Prop} {b : Nat → Bool} {f : Nat → List R}
    (src : Src prog w A h env target iter items) (tg : Target prog w A env scope cl target items tw T0 T)
    (htest : ∀ C i h₁, i < items.length → T C i h₁ → Kp h h₁ → Tests prog w A h₁ (compEnvX scope cl C env) ifs (b i))
    (helt : ∀ C i h₁, i < items.length → b i = true → T C i h₁ → Kp h h₁ → EvP prog w A h₁ (compEnvX scope cl C env) elt (NewL (f i))) (hsc : ∀ i, ∀ r ∈ f i, Sc r)
    (hsz : items.length ≤ sizeLine) (hclos : closureFor scope env = pure cl)
    (hkind : scope.kind = .function) (hnames : ∀ y ∈ scope.names, y.2 = .local → scope.names.lookup y.1 = some .local) (hs : ∀ x, foldedSetIterable iter env x = pure x := by intro _; rfl) :
    Ev prog w A h env (.ListComp elt [⟨target, iter, ifs, 0⟩] scope pos) (RList (((List.range items.length).filter b).map fun i => RList (f i))) := fun s Q E k q =>
  comp_val (F := FreshL f) src tg hsz hclos hkind hnames htest (fun C i h₁ s Q E hi hb ht kh k q => helt C i h₁ hi hb ht kh s Q E k fun v s' g a => by
      obtain ⟨d, vs, rfl, hd, hl, hall⟩ := a
      exact q _ s' g fun X hX => ⟨d, vs, rfl, fun hx => (by obtain ⟨o, ho⟩ := hX d hx; rw [hd] at ho; cases ho), hl, hall⟩)
    (fun X i h h' v x kk => by
      obtain ⟨d, vs, rfl, hd, ⟨c, hl⟩, hall⟩ := x
      exact ⟨d, vs, rfl, hd, ⟨c, kk _ _ hd hl⟩, hall.sc (hsc i)⟩) k (fun D X vs s' g hD hl md => q _ _ g ⟨D, vs, rfl, hl, md.all2L⟩) hs
end
end Mine

-- Ev11
namespace Mine
section
variable {prog : Program} {w : World} {A : Around} {env : Env} {s₀ s : Shared} {m cm : Str → Option Value} {K : Addr → Obj → Prop} {E : Value → Shared → Prop}

theorem FS.weak {K' : Addr → Obj → Prop} (F : FS env s₀ m cm K' s) (hk : ∀ b o, K b o → K' b o) : FS env s₀ m cm K s :=
  ⟨F.same, F.base, F.ns, F.cell, F.apart, F.off, F.fresh, fun b o q nv => F.sy b o (hk b o q) nv⟩

/- objects that are none of the frame's move -/
theorem FS.mv {wr : List Addr} {sA : Shared} {h' : Heap} {t : Nat} {mA cmA : Str → Option Value} (FA : FS env s₀ mA cmA K sA) (hw : ∀ b ∈ wr, sA.heap.get? b = none) (F : FS env s₀ m cm K s)
    (k : ∀ b o, b ∉ wr → s.heap.get? b = some o → h'.get? b = some o) : FS env s₀ m cm K { s with heap := h', toks := t } := by
  have nw : ∀ b o, sA.heap.get? b = some o → b ∉ wr := fun b o e hb => by rw [hw b hb] at e; cases e
  refine ⟨?_, fun b o e => k b o (nw b o (FA.base b o e)) (F.base b o e), F.ns.at' fun o e => k _ o ?_ e, fun n c hc => ?_, F.apart, F.off, F.fresh, fun b o q nv => k b o (nw b o (FA.sy b o q nv)) (F.sy b o q nv)⟩
  · obtain ⟨h₀, t₀, e⟩ := F.same; exact ⟨h', t, by rw [e]⟩
  · obtain ⟨o', _, _, ho, _⟩ := FA.ns; exact nw _ _ ho
  · obtain ⟨o, ho, hd⟩ := F.cell n c hc
    obtain ⟨o', ho', _⟩ := FA.cell n c hc
    exact ⟨o, k c o (nw _ _ ho') ho, hd⟩

noncomputable def FL (env : Env) (s₀ : Shared) (K : Addr → Obj → Prop) (St : Nat → Heap → Prop) (J : Nat → (Str → Option Value) → (Str → Option Value) → Heap → Prop) (n : Nat) (kk : Nat) (sx : Shared) : Prop :=
  ∃ i m' cm', FS env s₀ m' cm' K sx ∧ St i sx.heap ∧ J i m' cm' sx.heap ∧ i ≤ n ∧ kk = n + 1 - i
theorem FL.elim {env : Env} {s₀ : Shared} {K : Addr → Obj → Prop} {St : Nat → Heap → Prop} {J : Nat → (Str → Option Value) → (Str → Option Value) → Heap → Prop} {n kk : Nat} {sx : Shared} {P : Prop} (x : FL env s₀ K St J n kk sx)
    (q : ∀ i m' cm', FS env s₀ m' cm' K sx → St i sx.heap → J i m' cm' sx.heap → i ≤ n → kk = n + 1 - i → P) : P := by
  obtain ⟨i, m', cm', h1, h2, h3, h4, h5⟩ := x; exact q i m' cm' h1 h2 h3 h4 h5
/- for target in iter: body, by an invariant J over the turns' number, the names, the cells and what the objects of the start hold -/
theorem FS.for_ {target iter : Expr} {body : List Stmt} {pos : Pos} {items : List R} {Q : Flow → Shared → Prop} (J : Nat → (Str → Option Value) → (Str → Option Value) → Heap → Prop)
    (F : FS env s₀ m cm K s) (src : SrcN prog w A s.heap env target iter items)
    (hJs : ∀ i m' cm' h h', J i m' cm' h → (∀ b o, (∃ o', s.heap.get? b = some o') → h.get? b = some o → h'.get? b = some o) → J i m' cm' h')
    (h0 : J 0 m cm s.heap)
    (step : ∀ i v (s₁ : Shared) m₁ cm₁ K₁ (E' : Value → Shared → Prop), i < items.length → (∃ r, items[i]? = some r ∧ r.is s₁.heap v) → FS env s₀ m₁ cm₁ K₁ s₁ → (∀ b o, K b o → K₁ b o) →
      (∀ a, (∃ o, s.heap.get? a = some o) → (∀ o, ¬ K a o) → ∀ o, ¬ K₁ a o) → J i m₁ cm₁ s₁.heap →
      wpAny (model prog w) A (assign target env v) (fun _ s₂ => wpAny (model prog w) A (execs body env) (fun f s₃ => f = .next ∧ ∃ m₃ cm₃, FS env s₀ m₃ cm₃ K₁ s₃ ∧ J (i + 1) m₃ cm₃ s₃.heap) E' s₂) E' s₁)
    (fin : ∀ s' m' cm', FS env s₀ m' cm' K s' → J items.length m' cm' s'.heap → Q .next s')
    (hs : ∀ x, foldedSetIterable iter env x = pure x := by intro _; rfl) :
    wpAny (model prog w) A (exec (.For target iter body [] pos) env) Q E s := by
  refine wpAny_For (src s _ E Kp.rfl ?_) hs
  intro I fp wr P Md St hb s' g kb1 kb2 hwb W hself hst hSt hfp hit hfr hnv
  have hwf : ∀ b ∈ wr, s.heap.get? b = none := fun b hb => hfr b (W.sub b hb)
  refine codeAny_forLoop_any (FL env s₀ K St J items.length) ?_ (items.length + 1)
    ⟨0, m, cm, F.gw g, hst, hJs _ _ _ _ _ h0 (fun b o _ e => g.kp b o e), Nat.zero_le _, rfl⟩
  intro kk sx cx
  refine cx.elim fun i m' cm' Fx st hJ hi e2 => ?_
  subst e2
  clear cx
  by_cases hin : i < items.length
  · refine W.item i _ _ _ hin st fun v h₁ t₁ hm k₁ => ?_
    have F₁ := FS.mv (t := t₁) F hwf Fx k₁
    refine W.go i v _ _ _ hm fun h₂ hP st₂ k₂ => ?_
    have F₂ := FS.mv (t := t₁) F hwf F₁ k₂
    have F₂' : FS env s₀ m' cm' (fun b o => K b o ∨ (b ∈ fp ∧ h₂.get? b = some o)) { sx with heap := h₂, toks := t₁ } :=
      ⟨F₂.same, F₂.base, F₂.ns, F₂.cell, F₂.apart, F₂.off, F₂.fresh, fun b o q nv => q.elim (fun q => F₂.sy b o q nv) fun q => q.2⟩
    have hJ₂ : J i m' cm' h₂ := hJs _ _ _ _ _ hJ fun b o ⟨o', ho'⟩ e => by
      have : b ∉ wr := fun hb => by rw [hwf b hb] at ho'; cases ho'
      exact k₂ b o this (k₁ b o this e)
    refine wpAny_mono (step i v _ m' cm' _ _ hin (hit i v _ hP) F₂' (fun b o q => .inl q) (fun a ⟨o', ho'⟩ hn o q => q.elim (hn o) fun q => by rw [hfr a q.1] at ho'; cases ho') hJ₂) (fun _ s₂ h₂' => wpAny_mono h₂' (fun f s₃ h₃ => ?_) fun _ _ e => e) fun _ _ e => e
    obtain ⟨rfl, m₃, cm₃, F₃, hJ₃⟩ := h₃
    exact ⟨items.length + 1 - (i + 1), by (first | assumption | decide | lia | omega), i + 1, m₃, cm₃, F₃.weak fun b o q => .inl q, W.frame _ _ _ st₂ fun b hb o e => F₃.sy b o (.inr ⟨hb, e⟩) (hnv _ _ st₂ b hb o e), hJ₃, hin, rfl⟩
  · obtain rfl : i = items.length := by (first | assumption | decide | lia | omega)
    refine W.done _ _ _ st fun h₁ t₁ k₁ => wpAny_execs_nil ?_
    exact fin _ m' cm' (FS.mv F hwf Fx k₁) (hJs _ _ _ _ _ hJ fun b o ⟨o', ho'⟩ e => k₁ b o (fun hb => by rw [hwf b hb] at ho'; cases ho') e)

theorem Ev.req {h : Heap} {e : Expr} {r r' : R} (q : r = r') (x : Ev prog w A h env e r) : Ev prog w A h env e r' := q ▸ x
theorem EvP.req {h : Heap} {e : Expr} {rs rs' : List R} (q : rs = rs') (x : EvP prog w A h env e (NewL rs)) : EvP prog w A h env e (NewL rs') := q ▸ x
theorem TCell.rng {x : Str} {a c : Int} {n : Nat} {C : Addr} {i : Nat} {h₁ : Heap} (q : TCell x (rng a c n) C i h₁) (hi : i < (rng a c n).length) : ∃ t, h₁.IsCell (C + 1) (some (.int (a + (i : Int) * c) t)) := by
  obtain ⟨r, v, hr, hv, hc, _⟩ := q
  rw [rng_len] at hi
  rw [rng_get hi] at hr
  cases hr
  obtain ⟨t, rfl⟩ := hv
  exact ⟨t, hc⟩
theorem TLoc.rng {x : Str} {a c : Int} {n : Nat} {C : Addr} {i : Nat} {h₁ : Heap} (q : TLoc x (rng a c n) C i h₁) (hi : i < (rng a c n).length) : ∃ t m, h₁.Ns C m ∧ m x = some (.int (a + (i : Int) * c) t) := by
  obtain ⟨r, v, m, hr, hv, hn, hm⟩ := q
  rw [rng_len] at hi
  rw [rng_get hi] at hr
  cases hr
  obtain ⟨t, rfl⟩ := hv
  exact ⟨t, m, hn, hm⟩
end
end Mine

-- Ev12
namespace Mine
section
variable {prog : Program} {w : World} {A : Around} {env : Env} {s₀ s : Shared} {m cm : Str → Option Value} {K : Addr → Obj → Prop} {E : Value → Shared → Prop}

/- name = [comprehension of scalars], a local name: a new list -/
theorem FS.used {Q : Flow → Shared → Prop} {elt target iter : Expr} {ifs : List Expr} {scope : Scope} {cl : List (Str × Addr)} {pos py spos : Pos} {y : Str} {items : List R} {tw : Addr → List Addr} {T0 : Addr → Heap → Prop} {T : Addr → Nat → Heap → Prop} {b : Nat → Bool} {f : Nat → R}
    (Fr : FS env s₀ m cm K s) (src : Src prog w A s.heap env target iter items) (tg : Target prog w A env scope cl target items tw T0 T)
    (htest : ∀ C i h₁, i < items.length → T C i h₁ → Kp s.heap h₁ → Tests prog w A h₁ (compEnvX scope cl C env) ifs (b i))
    (helt : ∀ C i h₁, i < items.length → b i = true → T C i h₁ → Kp s.heap h₁ → Ev prog w A h₁ (compEnvX scope cl C env) elt (f i)) (hsc : ∀ i, Sc (f i))
    (hsz : items.length ≤ sizeLine) (hclos : closureFor scope env = pure cl)
    (hkind : scope.kind = .function) (hnames : ∀ y ∈ scope.names, y.2 = .local → scope.names.lookup y.1 = some .local)
    (hy : env.kindOf y = some .local) (hk : env.scope.kind = .function)
    (q : ∀ a vs s', FS env s₀ (up m y (.ref a)) cm K s' → (∀ b o, b ≠ env.locals → s.heap.get? b = some o → s'.heap.get? b = some o) → s.heap.get? a = none → s'.heap.PlainList a vs.toArray → All2 s'.heap (((List.range items.length).filter b).map f) vs → Q .next s')
    (hsw : swapsWith (.ListComp elt [⟨target, iter, ifs, 0⟩] scope pos) (some (.Name y py)) spos.line env = pure true := by rfl)
    (hs : ∀ x, foldedSetIterable iter env x = pure x := by intro _; rfl) :
    wpAny (model prog w) A (exec (.Assign [.Name y py] (.ListComp elt [⟨target, iter, ifs, 0⟩] scope pos) spos) env) Q E s := by
  refine comp_used (F := fun _ i h v => (f i).is h v) src tg hsz hclos hkind hnames htest (fun C i h₁ s Q E hi hb ht kh k q => helt C i h₁ hi hb ht kh s Q E k fun v s' g a => q v s' g fun _ _ => a)
    (fun X i h h' v f _ => hsc i _ _ _ f) Kp.rfl Fr.ns hsw hy (by rw [hk]; rfl) ?_ hs
  intro D X vs s₁ h₂ tk₂ g hD hl md hn k1 k2 hl2
  refine q D vs _ ⟨?_, fun b o e => k2 b o (fun q => by subst q; rw [Fr.fresh.1] at e; cases e) (Fr.base b o e), hn, fun n c hc => ?_, Fr.apart, Fr.off, Fr.fresh, fun b o q nv => k2 b o (fun e => ?_) (Fr.sy b o q nv)⟩ k2 hD hl2
    ((md.mono (h' := h₂) fun i v x => hsc i _ _ _ x).all2)
  · obtain ⟨h₀, t₀, e⟩ := Fr.same; exact ⟨h₂, tk₂, by rw [e]⟩
  · obtain ⟨o, ho, hd⟩ := Fr.cell n c hc
    exact ⟨o, k2 c o (Nat.ne_of_gt (Fr.off n c (mem_of_lookup hc))) ho, hd⟩
  · obtain ⟨o', es, ep, ho', hd', _⟩ := Fr.ns
    have := Fr.sy b o q nv
    subst e
    rw [this] at ho'; cases ho'
    exact nv (.inl ⟨_, _, hd'⟩)
end
end Mine

-- Ev13
namespace Mine
section
variable {prog : Program} {w : World} {A : Around} {env : Env} {s₀ s : Shared} {m cm : Str → Option Value} {K : Addr → Obj → Prop} {E : Value → Shared → Prop} {h : Heap} {rs : List R} {value e : Expr} {p pos : Pos}

theorem SrcN.newlist {target iter : Expr} (hh : A.handled = none) (x : EvP prog w A h env iter (NewL rs)) (hsc : ∀ r ∈ rs, Sc r) (ht : ∀ i v, letOwnedTupleGo target i v = pure () := by intro _ _; rfl) : SrcN prog w A h env target iter rs := fun s Q E k q =>
  x s _ E k fun v s₁ g₁ a₁ => by
    obtain ⟨a, vs, rfl, hna, hl, hall⟩ := a₁
    refine wpAny_pyIter_list (plain_isList hl) ?_
    have hne : a ≠ s₁.heap.objs.size := Nat.ne_of_lt (by obtain ⟨n, e⟩ := hl; exact Heap.lt_size e)
    have W := KTurns.ofWalks (target := target) (Walks.list (prog := prog) (w := w) (A := A) hh s₁.heap.objs.size a hne vs.toArray) (fun i v s Q E _ q => wpAny_of_eq (ht _ _) q)
    refine q s₁.heap.objs.size _ _ _ _ _ s₁.heap _ (g₁.trans Gw.push) g₁.kp (Kp.push _) ?_ (by rw [← hall.len, ← List.size_toArray]; exact W) ?_ ?_ ?_ ?_ ?_ ?_ ?_
    · intro b hb
      simp at hb; subst hb
      exact Heap.get?_none_of_le (Nat.le_refl _)
    · exact fun i s Q E st q => wpAny_pyIter_listiter st.1 q
    · exact ⟨⟨_, Heap.get?_push_size _ rfl, rfl, rfl⟩, (plain_isList hl).push _⟩
    · intro i h st b hb
      simp at hb; subst hb
      obtain ⟨⟨o, ho, _⟩, _⟩ := st
      exact ⟨o, ho⟩
    · intro b hb
      have hs : (s₁.heap.push { cls := .type "list_iterator", data := .fields #[.ref a, .int 0 0] }).objs.size = s₁.heap.objs.size + 1 := Heap.size_push ..
      show b < (s₁.heap.push _).objs.size
      rw [hs]
      simp at hb
      rcases hb with rfl | rfl
      · exact Nat.lt_succ_self _
      · obtain ⟨n, e⟩ := hl; exact Nat.lt_succ_of_lt (Heap.lt_size e)
    · intro i v h' hv
      have hi : i < rs.length := by rw [← hall.len]; have := (Array.getElem?_eq_some_iff.mp hv).1; simpa using this
      refine ⟨rs[i], by simp [hi], ?_⟩
      obtain ⟨v', h1, h2⟩ := hall.get (i := i) (r := rs[i]) (by simp [hi])
      have : v' = v := by rw [List.getElem?_toArray, h1] at hv; exact Option.some.inj hv
      subst this
      exact hsc _ (by simp) _ _ _ h2
    · intro b hb
      simp at hb
      rcases hb with rfl | rfl
      · cases e : s.heap.get? s₁.heap.objs.size with
        | none => rfl
        | some o => exact absurd (Heap.lt_size (g₁.kp _ _ e)) (Nat.lt_irrefl _)
      · exact hna
    · intro i h st b hb o ho
      obtain ⟨⟨o1, ho1, hc1, hd1⟩, ⟨o2, ho2, hc2, n2, hd2⟩⟩ := st
      simp at hb
      rcases hb with rfl | rfl
      · rw [ho1] at ho; cases ho
        rintro (⟨_, _, e⟩ | ⟨_, e⟩) <;> (rw [hd1] at e; cases e)
      · rw [ho2] at ho; cases ho
        exact seq_not_vary hd2

/- the script: a list of ints of the caller's -/
noncomputable def RScript (xs : List Int) : R := ⟨fun h v => ∃ a vs, v = .ref a ∧ h.IsList a vs.toArray ∧ IntsAre vs xs, by
  rintro h h' v k ⟨a, vs, rfl, ⟨o, ho, r⟩, i⟩; exact ⟨a, vs, rfl, ⟨o, k _ _ ho, r⟩, i⟩⟩
theorem slicePick_upto' (items : Array Value) (b : Nat) : slicePick items none (some (b : Int)) none = (items.toList.take b).toArray := by
  by_cases hb : b ≤ items.size
  · exact slicePick_upto items b hb
  · have e : sliceBounds none (some (b : Int)) none items.size = sliceBounds none (some (items.size : Int)) none items.size := by
      simp only [sliceBounds, Option.getD_none]
      have h2 : ¬ ((b : Int) < 0) := by (first | assumption | decide | lia | omega)
      have h3 : ¬ ((items.size : Int) < 0) := by (first | assumption | decide | lia | omega)
      simp only [h2, h3, if_false, show (1 : Int) > 0 by decide, if_true]
      congr 2
      (first | assumption | decide | lia | omega)
    have h1 := slicePick_upto items items.size (Nat.le_refl _)
    unfold slicePick at h1 ⊢
    rw [e, h1]
    congr 1
    rw [List.take_of_length_le (by simp), List.take_of_length_le (by simp; (first | assumption | decide | lia | omega))]
theorem EvP.first {hi : Expr} {ps : Pos} {xs : List Int} {b : Nat} (x : Ev prog w A h env value (RScript xs)) (z : Ev prog w A h env hi (RInt b)) (hsz : xs.length ≤ sizeLine) (ht : ∀ o r, letTemporaryGo value o r = pure () := by intro _ _; rfl) :
    EvP prog w A h env (.Subscript value (.Slice none (some hi) none ps) pos) (NewL ((xs.take b).map RInt)) := fun s Q E k q =>
  wpAny_Subscript_list_slice (x s _ E k fun v s₁ g₁ a₁ => evalPart_none_step (evalPart_some_step (z s₁ _ E (k.trans g₁.kp) fun vu s₃ g₃ p₃ => by
    obtain ⟨t, rfl⟩ := p₃
    obtain ⟨a, vs, rfl, hl, hi⟩ := (RScript xs).kp g₃.kp a₁
    refine ⟨a, vs.toArray, none, some (b : Int), rfl, hl, by rw [List.size_toArray, hi.length]; exact hsz, .none, .int _ _, q _ _ ((g₁.trans g₃).trans ⟨_, s₃.toks, rfl, (Kp.push _).trans (Kp.push _)⟩) ⟨_, vs.take b, rfl, ?_, ⟨0, ?_⟩, ?_⟩⟩
    · cases e : s.heap.get? (s₃.heap.objs.size + 1) with
      | none => rfl
      | some o => exact absurd (Heap.lt_size ((g₁.trans g₃).kp _ _ e)) (Nat.not_lt.mpr (Nat.le_succ _))
    · have := Heap.get?_push_size (s₃.heap.push { cls := .type "slice", data := .fields #[.none, .int (b : Int) t, .none] }) (o := { cls := .type "list", data := .seq (slicePick vs.toArray none (some (b : Int)) none) }) rfl
      rw [Heap.size_push] at this
      rw [slicePick_upto'] at this ⊢
      simpa using this
    · exact ints_all2 (by
        have : ∀ {vs : List Value} {xs : List Int}, IntsAre vs xs → ∀ b, IntsAre (vs.take b) (xs.take b) := by
          intro vs xs hh
          induction hh with
          | nil => intro b; simp; exact .nil
          | cons i t _ ih => intro b; cases b with | zero => exact .nil | succ b => exact .cons _ _ (ih b)
        exact this hi b)))) ht
end
end Mine

-- Ev14
namespace Mine
section
variable {prog : Program} {w : World} {A : Around} {h : Heap} {r₁ r₂ : R} {d₁ d₂ : PyData}
/- r tells the data d -/
noncomputable def Dt (r : R) (d : PyData) : Prop := ∀ h v, r.is h v → ∃ as, Reads h v d as
theorem reads_of_ints {h : Heap} {vs : List Value} {xs : List Int} (x : IntsAre vs xs) : ReadsAll h vs (xs.map .int) [] := by
  induction x with
  | nil => exact .nil
  | cons i t _ ih => exact ReadsAll.cons (as := []) (.int i t) ih
theorem Dt.ints {xs : List Int} : Dt (RInts xs) (.list (xs.map .int)) := by
  rintro h v ⟨a, vs, rfl, ⟨c, ho⟩, hall⟩
  exact ⟨_, .list (vs := vs.toArray) ho rfl rfl (by simpa using reads_of_ints hall.ints)⟩
theorem Dt.script {xs : List Int} : Dt (RScript xs) (.list (xs.map .int)) := by
  rintro h v ⟨a, vs, rfl, ⟨o, ho, hc, n, hd⟩, hi⟩
  exact ⟨_, .list (vs := vs.toArray) ho hc hd (by simpa using reads_of_ints hi)⟩
theorem Dt.int {i : Int} : Dt (RInt i) (.int i) := by rintro h v ⟨t, rfl⟩; exact ⟨_, .int i t⟩
inductive DtAll : List R → List PyData → Prop
  | nil : DtAll [] []
  | cons {r rs d ds} : Dt r d → DtAll rs ds → DtAll (r :: rs) (d :: ds)
theorem reads_of_all {h : Heap} {rs : List R} {ds : List PyData} {vs : List Value} (x : DtAll rs ds) (y : All2 h rs vs) : ∃ as, ReadsAll h vs ds as := by
  induction x generalizing vs with
  | nil => cases y; exact ⟨_, .nil⟩
  | cons a _ ih => cases y with | cons b c => obtain ⟨as, h1⟩ := a _ _ b; obtain ⟨bs, h2⟩ := ih c; exact ⟨_, .cons h1 h2⟩
theorem Dt.tup {rs : List R} {ds : List PyData} (x : DtAll rs ds) : Dt (RTup rs) (.tuple ds) := by
  rintro h v ⟨a, vs, rfl, ho, hall⟩
  obtain ⟨as, ha⟩ := reads_of_all x hall
  exact ⟨_, .tuple (vs := vs.toArray) ho rfl rfl (by simpa using ha)⟩
theorem Dt.list {rs : List R} {ds : List PyData} (x : DtAll rs ds) : Dt (RList rs) (.list ds) := by
  rintro h v ⟨a, vs, rfl, ⟨c, ho⟩, hall⟩
  obtain ⟨as, ha⟩ := reads_of_all x hall
  exact ⟨_, .list (vs := vs.toArray) ho rfl rfl (by simpa using ha)⟩

theorem Cm.eqD (x : Dt r₁ d₁) (y : Dt r₂ d₂) (h1 : d₁.canLay0 = true) (h2 : d₂.canLay0 = true) (hu : A.units + min d₁.depth d₂.depth < cLine) : Cm prog w A h .Eq r₁ r₂ (PyData.eqv d₁ d₂) := by
  intro s v₁ v₂ Q E k a b q
  obtain ⟨as, ra⟩ := x _ _ a
  obtain ⟨bs, rb⟩ := y _ _ b
  exact SeqAt.compareEq_reads ra rb h1 h2 hu (q _ Gw.rfl)
theorem Cm.neD (x : Dt r₁ d₁) (y : Dt r₂ d₂) (h1 : d₁.canLay0 = true) (h2 : d₂.canLay0 = true) (hu : A.units + min d₁.depth d₂.depth < cLine) : Cm prog w A h .NotEq r₁ r₂ (!PyData.eqv d₁ d₂) := by
  intro s v₁ v₂ Q E k a b q
  obtain ⟨as, ra⟩ := x _ _ a
  obtain ⟨bs, rb⟩ := y _ _ b
  exact SeqAt.compareNe_reads ra rb h1 h2 hu (q _ Gw.rfl)

theorem ints_canLay : ∀ xs : List Int, PyData.canLayAll0 (xs.map .int) = true
  | [] => rfl
  | x :: r => by show (PyData.canLay0 (.int x) && PyData.canLayAll0 (r.map .int)) = true; rw [ints_canLay r]; rfl
theorem ints_depth : ∀ xs : List Int, PyData.depthAll (xs.map .int) = 0
  | [] => rfl
  | x :: r => by show max (PyData.depth (.int x)) (PyData.depthAll (r.map .int)) = 0; rw [ints_depth r]; rfl
theorem ints_eqv : ∀ xs ys : List Int, PyData.eqvAll (xs.map .int) (ys.map .int) = decide (xs = ys)
  | [], [] => rfl
  | [], _ :: _ => rfl
  | _ :: _, [] => rfl
  | x :: r, y :: r' => by
    show (PyData.eqv (.int x) (.int y) && PyData.eqvAll (r.map .int) (r'.map .int)) = _
    rw [ints_eqv r r']
    show ((x == y) && decide (r = r')) = _
    by_cases h1 : x = y <;> by_cases h2 : r = r' <;> simp [h1, h2]
theorem Cm.eqInts {xs ys : List Int} (hu : A.units < 9000) : Cm prog w A h .Eq (RInts xs) (RInts ys) (decide (xs = ys)) := by
  have := Cm.eqD (prog := prog) (w := w) (A := A) (h := h) (Dt.ints (xs := xs)) (Dt.ints (xs := ys)) (ints_canLay xs) (ints_canLay ys) (by show A.units + min (PyData.depthAll _ + 1) (PyData.depthAll _ + 1) < 9900; rw [ints_depth, ints_depth]; (first | assumption | decide | lia | omega))
  rwa [show PyData.eqv (.list (xs.map .int)) (.list (ys.map .int)) = decide (xs = ys) from ints_eqv xs ys] at this
theorem Cm.neInts {xs ys : List Int} (hu : A.units < 9000) : Cm prog w A h .NotEq (RInts xs) (RInts ys) (!decide (xs = ys)) := by
  have := Cm.neD (prog := prog) (w := w) (A := A) (h := h) (Dt.ints (xs := xs)) (Dt.ints (xs := ys)) (ints_canLay xs) (ints_canLay ys) (by show A.units + min (PyData.depthAll _ + 1) (PyData.depthAll _ + 1) < 9900; rw [ints_depth, ints_depth]; (first | assumption | decide | lia | omega))
  rwa [show PyData.eqv (.list (xs.map .int)) (.list (ys.map .int)) = decide (xs = ys) from ints_eqv xs ys] at this
/- a pair of lists of ints -/
noncomputable def RTwo (xs ys : List Int) : R := RTup [RInts xs, RInts ys]
theorem Dt.two {xs ys : List Int} : Dt (RTwo xs ys) (.tuple [.list (xs.map .int), .list (ys.map .int)]) := Dt.tup (.cons Dt.ints (.cons Dt.ints .nil))
theorem two_canLay (xs ys : List Int) : PyData.canLay0 (.tuple [.list (xs.map .int), .list (ys.map .int)]) = true := by
  show (PyData.canLayAll0 (xs.map .int) && (PyData.canLayAll0 (ys.map .int) && true)) = true
  rw [ints_canLay, ints_canLay]; rfl
theorem two_depth (xs ys : List Int) : PyData.depth (.tuple [.list (xs.map .int), .list (ys.map .int)]) = 2 := by
  show max (PyData.depthAll (xs.map .int) + 1) (max (PyData.depthAll (ys.map .int) + 1) 0) + 1 = 2
  rw [ints_depth, ints_depth]; rfl
theorem two_eqv (xs ys xs' ys' : List Int) : PyData.eqv (.tuple [.list (xs.map .int), .list (ys.map .int)]) (.tuple [.list (xs'.map .int), .list (ys'.map .int)]) = (decide (xs = xs') && decide (ys = ys')) := by
  show (PyData.eqvAll (xs.map .int) (xs'.map .int) && (PyData.eqvAll (ys.map .int) (ys'.map .int) && true)) = _
  rw [ints_eqv, ints_eqv, Bool.and_true]
theorem Cm.eqTwo {xs ys xs' ys' : List Int} (hu : A.units < 9000) : Cm prog w A h .Eq (RTwo xs ys) (RTwo xs' ys') (decide (xs = xs') && decide (ys = ys')) := by
  have := Cm.eqD (prog := prog) (w := w) (A := A) (h := h) (Dt.two (xs := xs) (ys := ys)) (Dt.two (xs := xs') (ys := ys')) (two_canLay _ _) (two_canLay _ _) (by rw [two_depth, two_depth]; show A.units + 2 < 9900; (first | assumption | decide | lia | omega))
  rwa [two_eqv] at this
theorem Cm.neTwo {xs ys xs' ys' : List Int} (hu : A.units < 9000) : Cm prog w A h .NotEq (RTwo xs ys) (RTwo xs' ys') (!(decide (xs = xs') && decide (ys = ys'))) := by
  have := Cm.neD (prog := prog) (w := w) (A := A) (h := h) (Dt.two (xs := xs) (ys := ys)) (Dt.two (xs := xs') (ys := ys')) (two_canLay _ _) (two_canLay _ _) (by rw [two_depth, two_depth]; show A.units + 2 < 9900; (first | assumption | decide | lia | omega))
  rwa [two_eqv] at this
end
end Mine

-- Ev15
namespace Mine
open AutoSeq1 (wpAny_loadPart')
open MeetsSeq MeetsSeq2 MeetsSeq3 SeqAt

/- the order of two lists -/
noncomputable def lexLt : List Int → List Int → Bool
  | [], [] => false
  | [], _ :: _ => true
  | _ :: _, [] => false
  | a :: as, b :: bs => if a = b then lexLt as bs else decide (a < b)

theorem ints_at {vs : List Value} {xs : List Int} (h : IntsAre vs xs) : ∀ i, i < xs.length → ∃ t, vs.toArray[i]? = some (.int (xs.getD i 0) t) := by
  induction h with
  | nil => intro i hi; simp at hi
  | cons a t _ ih =>
    intro i hi
    cases i with
    | zero => exact ⟨t, by simp⟩
    | succ i => obtain ⟨u, hu⟩ := ih i (by simpa using hi); exact ⟨u, by simpa using hu⟩

theorem lt_loop (l b : Addr) (vs ws : List Value) (xs ys : List Int) (hv : IntsAre vs xs) (hw : IntsAre ws ys) (n n2 : Nat) (dd dd2 : Option Addr) (sl sl2 : Array (Option Value)) (k : Nat) :
    ∀ i : Nat, xs.length - i = k → i ≤ xs.length → i ≤ ys.length → Meets (Builtin.«list.__eq__.loop» ⟨[.ref l, .ref b, rawInt i, rawInt 0], []⟩)
      (fun A R s => s.heap.get? l = some { cls := .type "list", dict := dd, data := .seq vs.toArray n, slots := sl } ∧ s.heap.get? b = some { cls := .type "list", dict := dd2, data := .seq ws.toArray n2, slots := sl2 } ∧
        R (.ok (.ret (.bool (lexLt (xs.drop i) (ys.drop i))))) s) := by
  have e1 : vs.length = xs.length := hv.length
  have e2 : ws.length = ys.length := hw.length
  have small : ∀ i : Nat, i ≤ xs.length → i ≤ ys.length → ¬ (i < xs.length ∧ i < ys.length) → Meets (Builtin.«list.__eq__.loop» ⟨[.ref l, .ref b, rawInt i, rawInt 0], []⟩)
      (fun A R s => s.heap.get? l = some { cls := .type "list", dict := dd, data := .seq vs.toArray n, slots := sl } ∧ s.heap.get? b = some { cls := .type "list", dict := dd2, data := .seq ws.toArray n2, slots := sl2 } ∧
        R (.ok (.ret (.bool (lexLt (xs.drop i) (ys.drop i))))) s) := by
    intro i hx hy hn prog w A R s h
    obtain ⟨hp, g, d, tk, os⟩ := s; obtain ⟨hl, hb, h⟩ := h
    repeat (first | (with_reducible refine wpAny_loadPart' hl ?_) | (with_reducible refine wpAny_loadPart' hb ?_) | with_reducible (first | refine PySem.wpAny_pure ?_ | refine PySem.wpAny_bind ?_ | refine PySem.wpAny_holding ?_ | refine PySem.wpAny_standAt ?_ | refine PySem.wpAny_point ?_ | refine PySem.wpAny_rule ?_ | refine PySem.wpAny_letGo ?_ | refine PySem.wpAny_mkInt' ?_ | refine PySem.wpAny_fresh' ?_ | refine PySem.wpAny_alloc' ?_ | refine PySem.wpAny_attempt ?_ | refine PySem.wpAny_throw ?_ | refine PySem.wpAny_of_eq (by assumption) ?_ | refine PySem.wpAny_typeOf (by assumption) ?_ | refine PySem.wpAny_specialOf_val (by assumption) (by assumption) ?_ | refine PySem.wpAny_specialOf (by assumption) (by assumption) ?_ | refine PySem.wpAny_isInstance_val (by assumption) (by assumption) ?_ | refine PySem.wpAny_isInstance (by assumption) (by assumption) ?_ | refine PySem.wpAny_call ?_ | refine PySem.wpAny_runValue ?_ | refine PySem.wpAny_run ?_) | wp_delta | (with_reducible refine PySem.wpAny_load' ?hg ?_; (case hg => heap_get; done)) | (with_reducible refine PySem.wpAny_update' ?hg ?_; (case hg => heap_get; done)) | (with_reducible refine PySem.wpAny_loadPart' ?hg ?_; (case hg => heap_get; done)) | (with_reducible refine PySem.wpAny_updatePart' ?hg ?_; (case hg => heap_get; done)) | (with_reducible refine PySem.wpAny_handled_none ?hg ?_; (case hg => assumption)) | (with_reducible refine PySem.wpAny_ite_false ?hg ?_; (case hg => rfl)) | (with_reducible refine PySem.wpAny_ite_true ?hg ?_; (case hg => rfl)) | (with_reducible refine PySem.wpAny_ite_false ?hg ?_; (case hg => simp [*]; done)) | (with_reducible refine PySem.wpAny_ite_true ?hg ?_; (case hg => simp [*]; done)) | wp_step)
    have hnn : ∀ q, vs.toArray[((i : Nat) : Int).toNat]? = some q → ws.toArray[((i : Nat) : Int).toNat]? = none := by
      intro q e
      have := (Array.getElem?_eq_some_iff.mp e).1
      simp at this ⊢
      (first | assumption | decide | lia | omega)
    have fin : R (.ok (.ret (.bool (decide (vs.toArray.size < ws.toArray.size))))) ⟨hp, g, d, tk, os⟩ := by
      have : (decide (vs.toArray.size < ws.toArray.size)) = (lexLt (xs.drop i) (ys.drop i)) := by
        simp only [List.size_toArray, e1, e2]
        rcases Nat.lt_or_ge i xs.length with q | q
        · have q2 : ys.length = i := by (first | assumption | decide | lia | omega)
          rw [List.drop_of_length_le (by (first | assumption | decide | lia | omega) : ys.length ≤ i), List.drop_eq_getElem_cons q]
          simp [lexLt]; (first | assumption | decide | lia | omega)
        · rw [List.drop_of_length_le q]
          rcases Nat.lt_or_ge i ys.length with q2 | q2
          · rw [List.drop_eq_getElem_cons q2]; simp [lexLt]; (first | assumption | decide | lia | omega)
          · rw [List.drop_of_length_le q2]; simp [lexLt]; (first | assumption | decide | lia | omega)
      rw [this]; exact h
    cases e : vs.toArray[((i : Nat) : Int).toNat]? with
    | none =>
      clear hnn e
      repeat (first | (with_reducible refine wpAny_loadPart' hl ?_) | (with_reducible refine wpAny_loadPart' hb ?_) | with_reducible (first | refine PySem.wpAny_pure ?_ | refine PySem.wpAny_bind ?_ | refine PySem.wpAny_holding ?_ | refine PySem.wpAny_standAt ?_ | refine PySem.wpAny_point ?_ | refine PySem.wpAny_rule ?_ | refine PySem.wpAny_letGo ?_ | refine PySem.wpAny_mkInt' ?_ | refine PySem.wpAny_fresh' ?_ | refine PySem.wpAny_alloc' ?_ | refine PySem.wpAny_attempt ?_ | refine PySem.wpAny_throw ?_ | refine PySem.wpAny_of_eq (by assumption) ?_ | refine PySem.wpAny_typeOf (by assumption) ?_ | refine PySem.wpAny_specialOf_val (by assumption) (by assumption) ?_ | refine PySem.wpAny_specialOf (by assumption) (by assumption) ?_ | refine PySem.wpAny_isInstance_val (by assumption) (by assumption) ?_ | refine PySem.wpAny_isInstance (by assumption) (by assumption) ?_ | refine PySem.wpAny_call ?_ | refine PySem.wpAny_runValue ?_ | refine PySem.wpAny_run ?_) | wp_delta | (with_reducible refine PySem.wpAny_load' ?hg ?_; (case hg => heap_get; done)) | (with_reducible refine PySem.wpAny_update' ?hg ?_; (case hg => heap_get; done)) | (with_reducible refine PySem.wpAny_loadPart' ?hg ?_; (case hg => heap_get; done)) | (with_reducible refine PySem.wpAny_updatePart' ?hg ?_; (case hg => heap_get; done)) | (with_reducible refine PySem.wpAny_handled_none ?hg ?_; (case hg => assumption)) | (with_reducible refine PySem.wpAny_ite_false ?hg ?_; (case hg => rfl)) | (with_reducible refine PySem.wpAny_ite_true ?hg ?_; (case hg => rfl)) | (with_reducible refine PySem.wpAny_ite_false ?hg ?_; (case hg => simp [*]; done)) | (with_reducible refine PySem.wpAny_ite_true ?hg ?_; (case hg => simp [*]; done)) | wp_step)
      exact fin
    | some q =>
      rw [hnn q e]
      clear hnn e
      repeat (first | (with_reducible refine wpAny_loadPart' hl ?_) | (with_reducible refine wpAny_loadPart' hb ?_) | with_reducible (first | refine PySem.wpAny_pure ?_ | refine PySem.wpAny_bind ?_ | refine PySem.wpAny_holding ?_ | refine PySem.wpAny_standAt ?_ | refine PySem.wpAny_point ?_ | refine PySem.wpAny_rule ?_ | refine PySem.wpAny_letGo ?_ | refine PySem.wpAny_mkInt' ?_ | refine PySem.wpAny_fresh' ?_ | refine PySem.wpAny_alloc' ?_ | refine PySem.wpAny_attempt ?_ | refine PySem.wpAny_throw ?_ | refine PySem.wpAny_of_eq (by assumption) ?_ | refine PySem.wpAny_typeOf (by assumption) ?_ | refine PySem.wpAny_specialOf_val (by assumption) (by assumption) ?_ | refine PySem.wpAny_specialOf (by assumption) (by assumption) ?_ | refine PySem.wpAny_isInstance_val (by assumption) (by assumption) ?_ | refine PySem.wpAny_isInstance (by assumption) (by assumption) ?_ | refine PySem.wpAny_call ?_ | refine PySem.wpAny_runValue ?_ | refine PySem.wpAny_run ?_) | wp_delta | (with_reducible refine PySem.wpAny_load' ?hg ?_; (case hg => heap_get; done)) | (with_reducible refine PySem.wpAny_update' ?hg ?_; (case hg => heap_get; done)) | (with_reducible refine PySem.wpAny_loadPart' ?hg ?_; (case hg => heap_get; done)) | (with_reducible refine PySem.wpAny_updatePart' ?hg ?_; (case hg => heap_get; done)) | (with_reducible refine PySem.wpAny_handled_none ?hg ?_; (case hg => assumption)) | (with_reducible refine PySem.wpAny_ite_false ?hg ?_; (case hg => rfl)) | (with_reducible refine PySem.wpAny_ite_true ?hg ?_; (case hg => rfl)) | (with_reducible refine PySem.wpAny_ite_false ?hg ?_; (case hg => simp [*]; done)) | (with_reducible refine PySem.wpAny_ite_true ?hg ?_; (case hg => simp [*]; done)) | wp_step)
      exact fin
  induction k with
  | zero => intro i hk hx hy; exact small i hx hy (by (first | assumption | decide | lia | omega))
  | succ k ih =>
    intro i hk hx hy
    by_cases hb2 : i < ys.length
    · intro prog w A R s h
      obtain ⟨hp, g, d, tk, os⟩ := s; obtain ⟨hl, hb, h⟩ := h
      have hlt : i < xs.length := by (first | assumption | decide | lia | omega)
      obtain ⟨t1, ht1⟩ := ints_at hv i hlt
      obtain ⟨t2, ht2⟩ := ints_at hw i hb2
      have hi1 : vs.toArray[((i : Nat) : Int).toNat]? = some (.int (xs.getD i 0) t1) := by simpa using ht1
      have hi2 : ws.toArray[((i : Nat) : Int).toNat]? = some (.int (ys.getD i 0) t2) := by simpa using ht2
      have hc : ((i : Int) + 1) = ((i + 1 : Nat) : Int) := by (first | assumption | decide | lia | omega)
      have hd1 : xs.drop i = xs.getD i 0 :: xs.drop (i + 1) := by rw [List.drop_eq_getElem_cons hlt]; simp [List.getD, hlt]
      have hd2 : ys.drop i = ys.getD i 0 :: ys.drop (i + 1) := by rw [List.drop_eq_getElem_cons hb2]; simp [List.getD, hb2]
      rw [hd1, hd2] at h
      repeat (first | (with_reducible refine wpAny_loadPart' hl ?_) | (with_reducible refine wpAny_loadPart' hb ?_) | with_reducible (first | refine PySem.wpAny_pure ?_ | refine PySem.wpAny_bind ?_ | refine PySem.wpAny_holding ?_ | refine PySem.wpAny_standAt ?_ | refine PySem.wpAny_point ?_ | refine PySem.wpAny_rule ?_ | refine PySem.wpAny_letGo ?_ | refine PySem.wpAny_mkInt' ?_ | refine PySem.wpAny_fresh' ?_ | refine PySem.wpAny_alloc' ?_ | refine PySem.wpAny_attempt ?_ | refine PySem.wpAny_throw ?_ | refine PySem.wpAny_of_eq (by assumption) ?_ | refine PySem.wpAny_typeOf (by assumption) ?_ | refine PySem.wpAny_specialOf_val (by assumption) (by assumption) ?_ | refine PySem.wpAny_specialOf (by assumption) (by assumption) ?_ | refine PySem.wpAny_isInstance_val (by assumption) (by assumption) ?_ | refine PySem.wpAny_isInstance (by assumption) (by assumption) ?_ | refine PySem.wpAny_call ?_ | refine PySem.wpAny_runValue ?_ | refine PySem.wpAny_run ?_) | wp_delta | (with_reducible refine PySem.wpAny_load' ?hg ?_; (case hg => heap_get; done)) | (with_reducible refine PySem.wpAny_update' ?hg ?_; (case hg => heap_get; done)) | (with_reducible refine PySem.wpAny_loadPart' ?hg ?_; (case hg => heap_get; done)) | (with_reducible refine PySem.wpAny_updatePart' ?hg ?_; (case hg => heap_get; done)) | (with_reducible refine PySem.wpAny_handled_none ?hg ?_; (case hg => assumption)) | (with_reducible refine PySem.wpAny_ite_false ?hg ?_; (case hg => rfl)) | (with_reducible refine PySem.wpAny_ite_true ?hg ?_; (case hg => rfl)) | (with_reducible refine PySem.wpAny_ite_false ?hg ?_; (case hg => simp [*]; done)) | (with_reducible refine PySem.wpAny_ite_true ?hg ?_; (case hg => simp [*]; done)) | wp_step)
      rw [hi1, hi2]
      refine wpAny_bind (wpAny_eqBool_int ?_)
      by_cases he : xs.getD i 0 = ys.getD i 0
      · rw [show (xs.getD i 0 == ys.getD i 0) = true by simpa using he]
        repeat (first | with_reducible (first | refine PySem.wpAny_pure ?_ | refine PySem.wpAny_bind ?_ | refine PySem.wpAny_holding ?_ | refine PySem.wpAny_standAt ?_ | refine PySem.wpAny_point ?_ | refine PySem.wpAny_rule ?_ | refine PySem.wpAny_letGo ?_ | refine PySem.wpAny_mkInt' ?_ | refine PySem.wpAny_fresh' ?_ | refine PySem.wpAny_alloc' ?_ | refine PySem.wpAny_attempt ?_ | refine PySem.wpAny_throw ?_ | refine PySem.wpAny_of_eq (by assumption) ?_ | refine PySem.wpAny_typeOf (by assumption) ?_ | refine PySem.wpAny_specialOf_val (by assumption) (by assumption) ?_ | refine PySem.wpAny_specialOf (by assumption) (by assumption) ?_ | refine PySem.wpAny_isInstance_val (by assumption) (by assumption) ?_ | refine PySem.wpAny_isInstance (by assumption) (by assumption) ?_ | refine PySem.wpAny_call ?_ | refine PySem.wpAny_runValue ?_ | refine PySem.wpAny_run ?_) | wp_delta | (with_reducible refine PySem.wpAny_load' ?hg ?_; (case hg => heap_get; done)) | (with_reducible refine PySem.wpAny_update' ?hg ?_; (case hg => heap_get; done)) | (with_reducible refine PySem.wpAny_loadPart' ?hg ?_; (case hg => heap_get; done)) | (with_reducible refine PySem.wpAny_updatePart' ?hg ?_; (case hg => heap_get; done)) | (with_reducible refine PySem.wpAny_handled_none ?hg ?_; (case hg => assumption)) | (with_reducible refine PySem.wpAny_ite_false ?hg ?_; (case hg => rfl)) | (with_reducible refine PySem.wpAny_ite_true ?hg ?_; (case hg => rfl)) | (with_reducible refine PySem.wpAny_ite_false ?hg ?_; (case hg => simp [*]; done)) | (with_reducible refine PySem.wpAny_ite_true ?hg ?_; (case hg => simp [*]; done)) | wp_step)
        rw [hc]
        exact ⟨plainId_quiet plain_eq_loop _, codeAny_builtin entry_eq_loop (by
          rw [Around.under_plainId plain_eq_loop _]
          exact ih (i + 1) (by (first | assumption | decide | lia | omega)) (by (first | assumption | decide | lia | omega)) (by (first | assumption | decide | lia | omega)) prog w A R _ ⟨hl, hb, by simp only [lexLt] at h; rw [if_pos he] at h; exact h⟩)⟩
      · rw [show (xs.getD i 0 == ys.getD i 0) = false by simpa using he]
        repeat (first | (with_reducible refine wpAny_loadPart' hl ?_) | (with_reducible refine wpAny_loadPart' hb ?_) | with_reducible (first | refine PySem.wpAny_pure ?_ | refine PySem.wpAny_bind ?_ | refine PySem.wpAny_holding ?_ | refine PySem.wpAny_standAt ?_ | refine PySem.wpAny_point ?_ | refine PySem.wpAny_rule ?_ | refine PySem.wpAny_letGo ?_ | refine PySem.wpAny_mkInt' ?_ | refine PySem.wpAny_fresh' ?_ | refine PySem.wpAny_alloc' ?_ | refine PySem.wpAny_attempt ?_ | refine PySem.wpAny_throw ?_ | refine PySem.wpAny_of_eq (by assumption) ?_ | refine PySem.wpAny_typeOf (by assumption) ?_ | refine PySem.wpAny_specialOf_val (by assumption) (by assumption) ?_ | refine PySem.wpAny_specialOf (by assumption) (by assumption) ?_ | refine PySem.wpAny_isInstance_val (by assumption) (by assumption) ?_ | refine PySem.wpAny_isInstance (by assumption) (by assumption) ?_ | refine PySem.wpAny_call ?_ | refine PySem.wpAny_runValue ?_ | refine PySem.wpAny_run ?_) | wp_delta | (with_reducible refine PySem.wpAny_load' ?hg ?_; (case hg => heap_get; done)) | (with_reducible refine PySem.wpAny_update' ?hg ?_; (case hg => heap_get; done)) | (with_reducible refine PySem.wpAny_loadPart' ?hg ?_; (case hg => heap_get; done)) | (with_reducible refine PySem.wpAny_updatePart' ?hg ?_; (case hg => heap_get; done)) | (with_reducible refine PySem.wpAny_handled_none ?hg ?_; (case hg => assumption)) | (with_reducible refine PySem.wpAny_ite_false ?hg ?_; (case hg => rfl)) | (with_reducible refine PySem.wpAny_ite_true ?hg ?_; (case hg => rfl)) | (with_reducible refine PySem.wpAny_ite_false ?hg ?_; (case hg => simp [*]; done)) | (with_reducible refine PySem.wpAny_ite_true ?hg ?_; (case hg => simp [*]; done)) | wp_step)
        rw [hi1, hi2]
        refine wpAny_bind (PyProof.Rows.lt_int ?_)
        repeat (first | with_reducible (first | refine PySem.wpAny_pure ?_ | refine PySem.wpAny_bind ?_ | refine PySem.wpAny_holding ?_ | refine PySem.wpAny_standAt ?_ | refine PySem.wpAny_point ?_ | refine PySem.wpAny_rule ?_ | refine PySem.wpAny_letGo ?_ | refine PySem.wpAny_mkInt' ?_ | refine PySem.wpAny_fresh' ?_ | refine PySem.wpAny_alloc' ?_ | refine PySem.wpAny_attempt ?_ | refine PySem.wpAny_throw ?_ | refine PySem.wpAny_of_eq (by assumption) ?_ | refine PySem.wpAny_typeOf (by assumption) ?_ | refine PySem.wpAny_specialOf_val (by assumption) (by assumption) ?_ | refine PySem.wpAny_specialOf (by assumption) (by assumption) ?_ | refine PySem.wpAny_isInstance_val (by assumption) (by assumption) ?_ | refine PySem.wpAny_isInstance (by assumption) (by assumption) ?_ | refine PySem.wpAny_call ?_ | refine PySem.wpAny_runValue ?_ | refine PySem.wpAny_run ?_) | wp_delta | (with_reducible refine PySem.wpAny_load' ?hg ?_; (case hg => heap_get; done)) | (with_reducible refine PySem.wpAny_update' ?hg ?_; (case hg => heap_get; done)) | (with_reducible refine PySem.wpAny_loadPart' ?hg ?_; (case hg => heap_get; done)) | (with_reducible refine PySem.wpAny_updatePart' ?hg ?_; (case hg => heap_get; done)) | (with_reducible refine PySem.wpAny_handled_none ?hg ?_; (case hg => assumption)) | (with_reducible refine PySem.wpAny_ite_false ?hg ?_; (case hg => rfl)) | (with_reducible refine PySem.wpAny_ite_true ?hg ?_; (case hg => rfl)) | (with_reducible refine PySem.wpAny_ite_false ?hg ?_; (case hg => simp [*]; done)) | (with_reducible refine PySem.wpAny_ite_true ?hg ?_; (case hg => simp [*]; done)) | wp_step)
        have he' : ¬ ys.getD i 0 = xs.getD i 0 := fun q => he q.symm
        simp only [lexLt] at h; rw [if_neg he] at h; exact h
    · exact small i hx hy (by (first | assumption | decide | lia | omega))
theorem gt_loop (l b : Addr) (vs ws : List Value) (xs ys : List Int) (hv : IntsAre vs xs) (hw : IntsAre ws ys) (n n2 : Nat) (dd dd2 : Option Addr) (sl sl2 : Array (Option Value)) (k : Nat) :
    ∀ i : Nat, xs.length - i = k → i ≤ xs.length → i ≤ ys.length → Meets (Builtin.«list.__eq__.loop» ⟨[.ref l, .ref b, rawInt i, rawInt 4], []⟩)
      (fun A R s => s.heap.get? l = some { cls := .type "list", dict := dd, data := .seq vs.toArray n, slots := sl } ∧ s.heap.get? b = some { cls := .type "list", dict := dd2, data := .seq ws.toArray n2, slots := sl2 } ∧
        R (.ok (.ret (.bool (lexLt (ys.drop i) (xs.drop i))))) s) := by
  have e1 : vs.length = xs.length := hv.length
  have e2 : ws.length = ys.length := hw.length
  have small : ∀ i : Nat, i ≤ xs.length → i ≤ ys.length → ¬ (i < xs.length ∧ i < ys.length) → Meets (Builtin.«list.__eq__.loop» ⟨[.ref l, .ref b, rawInt i, rawInt 4], []⟩)
      (fun A R s => s.heap.get? l = some { cls := .type "list", dict := dd, data := .seq vs.toArray n, slots := sl } ∧ s.heap.get? b = some { cls := .type "list", dict := dd2, data := .seq ws.toArray n2, slots := sl2 } ∧
        R (.ok (.ret (.bool (lexLt (ys.drop i) (xs.drop i))))) s) := by
    intro i hx hy hn prog w A R s h
    obtain ⟨hp, g, d, tk, os⟩ := s; obtain ⟨hl, hb, h⟩ := h
    repeat (first | (with_reducible refine wpAny_loadPart' hl ?_) | (with_reducible refine wpAny_loadPart' hb ?_) | with_reducible (first | refine PySem.wpAny_pure ?_ | refine PySem.wpAny_bind ?_ | refine PySem.wpAny_holding ?_ | refine PySem.wpAny_standAt ?_ | refine PySem.wpAny_point ?_ | refine PySem.wpAny_rule ?_ | refine PySem.wpAny_letGo ?_ | refine PySem.wpAny_mkInt' ?_ | refine PySem.wpAny_fresh' ?_ | refine PySem.wpAny_alloc' ?_ | refine PySem.wpAny_attempt ?_ | refine PySem.wpAny_throw ?_ | refine PySem.wpAny_of_eq (by assumption) ?_ | refine PySem.wpAny_typeOf (by assumption) ?_ | refine PySem.wpAny_specialOf_val (by assumption) (by assumption) ?_ | refine PySem.wpAny_specialOf (by assumption) (by assumption) ?_ | refine PySem.wpAny_isInstance_val (by assumption) (by assumption) ?_ | refine PySem.wpAny_isInstance (by assumption) (by assumption) ?_ | refine PySem.wpAny_call ?_ | refine PySem.wpAny_runValue ?_ | refine PySem.wpAny_run ?_) | wp_delta | (with_reducible refine PySem.wpAny_load' ?hg ?_; (case hg => heap_get; done)) | (with_reducible refine PySem.wpAny_update' ?hg ?_; (case hg => heap_get; done)) | (with_reducible refine PySem.wpAny_loadPart' ?hg ?_; (case hg => heap_get; done)) | (with_reducible refine PySem.wpAny_updatePart' ?hg ?_; (case hg => heap_get; done)) | (with_reducible refine PySem.wpAny_handled_none ?hg ?_; (case hg => assumption)) | (with_reducible refine PySem.wpAny_ite_false ?hg ?_; (case hg => rfl)) | (with_reducible refine PySem.wpAny_ite_true ?hg ?_; (case hg => rfl)) | (with_reducible refine PySem.wpAny_ite_false ?hg ?_; (case hg => simp [*]; done)) | (with_reducible refine PySem.wpAny_ite_true ?hg ?_; (case hg => simp [*]; done)) | wp_step)
    have hnn : ∀ q, vs.toArray[((i : Nat) : Int).toNat]? = some q → ws.toArray[((i : Nat) : Int).toNat]? = none := by
      intro q e
      have := (Array.getElem?_eq_some_iff.mp e).1
      simp at this ⊢
      (first | assumption | decide | lia | omega)
    have fin : R (.ok (.ret (.bool (decide (vs.toArray.size > ws.toArray.size))))) ⟨hp, g, d, tk, os⟩ := by
      have : (decide (vs.toArray.size > ws.toArray.size)) = (lexLt (ys.drop i) (xs.drop i)) := by
        simp only [List.size_toArray, e1, e2]
        rcases Nat.lt_or_ge i xs.length with q | q
        · have q2 : ys.length = i := by (first | assumption | decide | lia | omega)
          rw [List.drop_of_length_le (by (first | assumption | decide | lia | omega) : ys.length ≤ i), List.drop_eq_getElem_cons q]
          simp [lexLt]; (first | assumption | decide | lia | omega)
        · rw [List.drop_of_length_le q]
          rcases Nat.lt_or_ge i ys.length with q2 | q2
          · rw [List.drop_eq_getElem_cons q2]; simp [lexLt]; (first | assumption | decide | lia | omega)
          · rw [List.drop_of_length_le q2]; simp [lexLt]; (first | assumption | decide | lia | omega)
      rw [this]; exact h
    cases e : vs.toArray[((i : Nat) : Int).toNat]? with
    | none =>
      clear hnn e
      repeat (first | (with_reducible refine wpAny_loadPart' hl ?_) | (with_reducible refine wpAny_loadPart' hb ?_) | with_reducible (first | refine PySem.wpAny_pure ?_ | refine PySem.wpAny_bind ?_ | refine PySem.wpAny_holding ?_ | refine PySem.wpAny_standAt ?_ | refine PySem.wpAny_point ?_ | refine PySem.wpAny_rule ?_ | refine PySem.wpAny_letGo ?_ | refine PySem.wpAny_mkInt' ?_ | refine PySem.wpAny_fresh' ?_ | refine PySem.wpAny_alloc' ?_ | refine PySem.wpAny_attempt ?_ | refine PySem.wpAny_throw ?_ | refine PySem.wpAny_of_eq (by assumption) ?_ | refine PySem.wpAny_typeOf (by assumption) ?_ | refine PySem.wpAny_specialOf_val (by assumption) (by assumption) ?_ | refine PySem.wpAny_specialOf (by assumption) (by assumption) ?_ | refine PySem.wpAny_isInstance_val (by assumption) (by assumption) ?_ | refine PySem.wpAny_isInstance (by assumption) (by assumption) ?_ | refine PySem.wpAny_call ?_ | refine PySem.wpAny_runValue ?_ | refine PySem.wpAny_run ?_) | wp_delta | (with_reducible refine PySem.wpAny_load' ?hg ?_; (case hg => heap_get; done)) | (with_reducible refine PySem.wpAny_update' ?hg ?_; (case hg => heap_get; done)) | (with_reducible refine PySem.wpAny_loadPart' ?hg ?_; (case hg => heap_get; done)) | (with_reducible refine PySem.wpAny_updatePart' ?hg ?_; (case hg => heap_get; done)) | (with_reducible refine PySem.wpAny_handled_none ?hg ?_; (case hg => assumption)) | (with_reducible refine PySem.wpAny_ite_false ?hg ?_; (case hg => rfl)) | (with_reducible refine PySem.wpAny_ite_true ?hg ?_; (case hg => rfl)) | (with_reducible refine PySem.wpAny_ite_false ?hg ?_; (case hg => simp [*]; done)) | (with_reducible refine PySem.wpAny_ite_true ?hg ?_; (case hg => simp [*]; done)) | wp_step)
      exact fin
    | some q =>
      rw [hnn q e]
      clear hnn e
      repeat (first | (with_reducible refine wpAny_loadPart' hl ?_) | (with_reducible refine wpAny_loadPart' hb ?_) | with_reducible (first | refine PySem.wpAny_pure ?_ | refine PySem.wpAny_bind ?_ | refine PySem.wpAny_holding ?_ | refine PySem.wpAny_standAt ?_ | refine PySem.wpAny_point ?_ | refine PySem.wpAny_rule ?_ | refine PySem.wpAny_letGo ?_ | refine PySem.wpAny_mkInt' ?_ | refine PySem.wpAny_fresh' ?_ | refine PySem.wpAny_alloc' ?_ | refine PySem.wpAny_attempt ?_ | refine PySem.wpAny_throw ?_ | refine PySem.wpAny_of_eq (by assumption) ?_ | refine PySem.wpAny_typeOf (by assumption) ?_ | refine PySem.wpAny_specialOf_val (by assumption) (by assumption) ?_ | refine PySem.wpAny_specialOf (by assumption) (by assumption) ?_ | refine PySem.wpAny_isInstance_val (by assumption) (by assumption) ?_ | refine PySem.wpAny_isInstance (by assumption) (by assumption) ?_ | refine PySem.wpAny_call ?_ | refine PySem.wpAny_runValue ?_ | refine PySem.wpAny_run ?_) | wp_delta | (with_reducible refine PySem.wpAny_load' ?hg ?_; (case hg => heap_get; done)) | (with_reducible refine PySem.wpAny_update' ?hg ?_; (case hg => heap_get; done)) | (with_reducible refine PySem.wpAny_loadPart' ?hg ?_; (case hg => heap_get; done)) | (with_reducible refine PySem.wpAny_updatePart' ?hg ?_; (case hg => heap_get; done)) | (with_reducible refine PySem.wpAny_handled_none ?hg ?_; (case hg => assumption)) | (with_reducible refine PySem.wpAny_ite_false ?hg ?_; (case hg => rfl)) | (with_reducible refine PySem.wpAny_ite_true ?hg ?_; (case hg => rfl)) | (with_reducible refine PySem.wpAny_ite_false ?hg ?_; (case hg => simp [*]; done)) | (with_reducible refine PySem.wpAny_ite_true ?hg ?_; (case hg => simp [*]; done)) | wp_step)
      exact fin
  induction k with
  | zero => intro i hk hx hy; exact small i hx hy (by (first | assumption | decide | lia | omega))
  | succ k ih =>
    intro i hk hx hy
    by_cases hb2 : i < ys.length
    · intro prog w A R s h
      obtain ⟨hp, g, d, tk, os⟩ := s; obtain ⟨hl, hb, h⟩ := h
      have hlt : i < xs.length := by (first | assumption | decide | lia | omega)
      obtain ⟨t1, ht1⟩ := ints_at hv i hlt
      obtain ⟨t2, ht2⟩ := ints_at hw i hb2
      have hi1 : vs.toArray[((i : Nat) : Int).toNat]? = some (.int (xs.getD i 0) t1) := by simpa using ht1
      have hi2 : ws.toArray[((i : Nat) : Int).toNat]? = some (.int (ys.getD i 0) t2) := by simpa using ht2
      have hc : ((i : Int) + 1) = ((i + 1 : Nat) : Int) := by (first | assumption | decide | lia | omega)
      have hd1 : xs.drop i = xs.getD i 0 :: xs.drop (i + 1) := by rw [List.drop_eq_getElem_cons hlt]; simp [List.getD, hlt]
      have hd2 : ys.drop i = ys.getD i 0 :: ys.drop (i + 1) := by rw [List.drop_eq_getElem_cons hb2]; simp [List.getD, hb2]
      rw [hd1, hd2] at h
      repeat (first | (with_reducible refine wpAny_loadPart' hl ?_) | (with_reducible refine wpAny_loadPart' hb ?_) | with_reducible (first | refine PySem.wpAny_pure ?_ | refine PySem.wpAny_bind ?_ | refine PySem.wpAny_holding ?_ | refine PySem.wpAny_standAt ?_ | refine PySem.wpAny_point ?_ | refine PySem.wpAny_rule ?_ | refine PySem.wpAny_letGo ?_ | refine PySem.wpAny_mkInt' ?_ | refine PySem.wpAny_fresh' ?_ | refine PySem.wpAny_alloc' ?_ | refine PySem.wpAny_attempt ?_ | refine PySem.wpAny_throw ?_ | refine PySem.wpAny_of_eq (by assumption) ?_ | refine PySem.wpAny_typeOf (by assumption) ?_ | refine PySem.wpAny_specialOf_val (by assumption) (by assumption) ?_ | refine PySem.wpAny_specialOf (by assumption) (by assumption) ?_ | refine PySem.wpAny_isInstance_val (by assumption) (by assumption) ?_ | refine PySem.wpAny_isInstance (by assumption) (by assumption) ?_ | refine PySem.wpAny_call ?_ | refine PySem.wpAny_runValue ?_ | refine PySem.wpAny_run ?_) | wp_delta | (with_reducible refine PySem.wpAny_load' ?hg ?_; (case hg => heap_get; done)) | (with_reducible refine PySem.wpAny_update' ?hg ?_; (case hg => heap_get; done)) | (with_reducible refine PySem.wpAny_loadPart' ?hg ?_; (case hg => heap_get; done)) | (with_reducible refine PySem.wpAny_updatePart' ?hg ?_; (case hg => heap_get; done)) | (with_reducible refine PySem.wpAny_handled_none ?hg ?_; (case hg => assumption)) | (with_reducible refine PySem.wpAny_ite_false ?hg ?_; (case hg => rfl)) | (with_reducible refine PySem.wpAny_ite_true ?hg ?_; (case hg => rfl)) | (with_reducible refine PySem.wpAny_ite_false ?hg ?_; (case hg => simp [*]; done)) | (with_reducible refine PySem.wpAny_ite_true ?hg ?_; (case hg => simp [*]; done)) | wp_step)
      rw [hi1, hi2]
      refine wpAny_bind (wpAny_eqBool_int ?_)
      by_cases he : xs.getD i 0 = ys.getD i 0
      · rw [show (xs.getD i 0 == ys.getD i 0) = true by simpa using he]
        repeat (first | with_reducible (first | refine PySem.wpAny_pure ?_ | refine PySem.wpAny_bind ?_ | refine PySem.wpAny_holding ?_ | refine PySem.wpAny_standAt ?_ | refine PySem.wpAny_point ?_ | refine PySem.wpAny_rule ?_ | refine PySem.wpAny_letGo ?_ | refine PySem.wpAny_mkInt' ?_ | refine PySem.wpAny_fresh' ?_ | refine PySem.wpAny_alloc' ?_ | refine PySem.wpAny_attempt ?_ | refine PySem.wpAny_throw ?_ | refine PySem.wpAny_of_eq (by assumption) ?_ | refine PySem.wpAny_typeOf (by assumption) ?_ | refine PySem.wpAny_specialOf_val (by assumption) (by assumption) ?_ | refine PySem.wpAny_specialOf (by assumption) (by assumption) ?_ | refine PySem.wpAny_isInstance_val (by assumption) (by assumption) ?_ | refine PySem.wpAny_isInstance (by assumption) (by assumption) ?_ | refine PySem.wpAny_call ?_ | refine PySem.wpAny_runValue ?_ | refine PySem.wpAny_run ?_) | wp_delta | (with_reducible refine PySem.wpAny_load' ?hg ?_; (case hg => heap_get; done)) | (with_reducible refine PySem.wpAny_update' ?hg ?_; (case hg => heap_get; done)) | (with_reducible refine PySem.wpAny_loadPart' ?hg ?_; (case hg => heap_get; done)) | (with_reducible refine PySem.wpAny_updatePart' ?hg ?_; (case hg => heap_get; done)) | (with_reducible refine PySem.wpAny_handled_none ?hg ?_; (case hg => assumption)) | (with_reducible refine PySem.wpAny_ite_false ?hg ?_; (case hg => rfl)) | (with_reducible refine PySem.wpAny_ite_true ?hg ?_; (case hg => rfl)) | (with_reducible refine PySem.wpAny_ite_false ?hg ?_; (case hg => simp [*]; done)) | (with_reducible refine PySem.wpAny_ite_true ?hg ?_; (case hg => simp [*]; done)) | wp_step)
        rw [hc]
        exact ⟨plainId_quiet plain_eq_loop _, codeAny_builtin entry_eq_loop (by
          rw [Around.under_plainId plain_eq_loop _]
          exact ih (i + 1) (by (first | assumption | decide | lia | omega)) (by (first | assumption | decide | lia | omega)) (by (first | assumption | decide | lia | omega)) prog w A R _ ⟨hl, hb, by simp only [lexLt] at h; rw [if_pos he.symm] at h; exact h⟩)⟩
      · rw [show (xs.getD i 0 == ys.getD i 0) = false by simpa using he]
        repeat (first | (with_reducible refine wpAny_loadPart' hl ?_) | (with_reducible refine wpAny_loadPart' hb ?_) | with_reducible (first | refine PySem.wpAny_pure ?_ | refine PySem.wpAny_bind ?_ | refine PySem.wpAny_holding ?_ | refine PySem.wpAny_standAt ?_ | refine PySem.wpAny_point ?_ | refine PySem.wpAny_rule ?_ | refine PySem.wpAny_letGo ?_ | refine PySem.wpAny_mkInt' ?_ | refine PySem.wpAny_fresh' ?_ | refine PySem.wpAny_alloc' ?_ | refine PySem.wpAny_attempt ?_ | refine PySem.wpAny_throw ?_ | refine PySem.wpAny_of_eq (by assumption) ?_ | refine PySem.wpAny_typeOf (by assumption) ?_ | refine PySem.wpAny_specialOf_val (by assumption) (by assumption) ?_ | refine PySem.wpAny_specialOf (by assumption) (by assumption) ?_ | refine PySem.wpAny_isInstance_val (by assumption) (by assumption) ?_ | refine PySem.wpAny_isInstance (by assumption) (by assumption) ?_ | refine PySem.wpAny_call ?_ | refine PySem.wpAny_runValue ?_ | refine PySem.wpAny_run ?_) | wp_delta | (with_reducible refine PySem.wpAny_load' ?hg ?_; (case hg => heap_get; done)) | (with_reducible refine PySem.wpAny_update' ?hg ?_; (case hg => heap_get; done)) | (with_reducible refine PySem.wpAny_loadPart' ?hg ?_; (case hg => heap_get; done)) | (with_reducible refine PySem.wpAny_updatePart' ?hg ?_; (case hg => heap_get; done)) | (with_reducible refine PySem.wpAny_handled_none ?hg ?_; (case hg => assumption)) | (with_reducible refine PySem.wpAny_ite_false ?hg ?_; (case hg => rfl)) | (with_reducible refine PySem.wpAny_ite_true ?hg ?_; (case hg => rfl)) | (with_reducible refine PySem.wpAny_ite_false ?hg ?_; (case hg => simp [*]; done)) | (with_reducible refine PySem.wpAny_ite_true ?hg ?_; (case hg => simp [*]; done)) | wp_step)
        rw [hi1, hi2]
        refine wpAny_bind (PyProof.Rows.gt_int ?_)
        repeat (first | with_reducible (first | refine PySem.wpAny_pure ?_ | refine PySem.wpAny_bind ?_ | refine PySem.wpAny_holding ?_ | refine PySem.wpAny_standAt ?_ | refine PySem.wpAny_point ?_ | refine PySem.wpAny_rule ?_ | refine PySem.wpAny_letGo ?_ | refine PySem.wpAny_mkInt' ?_ | refine PySem.wpAny_fresh' ?_ | refine PySem.wpAny_alloc' ?_ | refine PySem.wpAny_attempt ?_ | refine PySem.wpAny_throw ?_ | refine PySem.wpAny_of_eq (by assumption) ?_ | refine PySem.wpAny_typeOf (by assumption) ?_ | refine PySem.wpAny_specialOf_val (by assumption) (by assumption) ?_ | refine PySem.wpAny_specialOf (by assumption) (by assumption) ?_ | refine PySem.wpAny_isInstance_val (by assumption) (by assumption) ?_ | refine PySem.wpAny_isInstance (by assumption) (by assumption) ?_ | refine PySem.wpAny_call ?_ | refine PySem.wpAny_runValue ?_ | refine PySem.wpAny_run ?_) | wp_delta | (with_reducible refine PySem.wpAny_load' ?hg ?_; (case hg => heap_get; done)) | (with_reducible refine PySem.wpAny_update' ?hg ?_; (case hg => heap_get; done)) | (with_reducible refine PySem.wpAny_loadPart' ?hg ?_; (case hg => heap_get; done)) | (with_reducible refine PySem.wpAny_updatePart' ?hg ?_; (case hg => heap_get; done)) | (with_reducible refine PySem.wpAny_handled_none ?hg ?_; (case hg => assumption)) | (with_reducible refine PySem.wpAny_ite_false ?hg ?_; (case hg => rfl)) | (with_reducible refine PySem.wpAny_ite_true ?hg ?_; (case hg => rfl)) | (with_reducible refine PySem.wpAny_ite_false ?hg ?_; (case hg => simp [*]; done)) | (with_reducible refine PySem.wpAny_ite_true ?hg ?_; (case hg => simp [*]; done)) | wp_step)
        have he' : ¬ ys.getD i 0 = xs.getD i 0 := fun q => he q.symm
        simp only [lexLt] at h; rw [if_neg he'] at h; exact h
    · exact small i hx hy (by (first | assumption | decide | lia | omega))

section
variable {prog : Program} {w : World} {A : Around} {h : Heap}
theorem list_lt (l b : Addr) (vs ws : List Value) (xs ys : List Int) (hv : IntsAre vs xs) (hw : IntsAre ws ys) (n n2 : Nat) (dd dd2 : Option Addr) (sl sl2 : Array (Option Value)) :
    Meets (Builtin.«list.__lt__» ⟨[.ref l, .ref b], []⟩)
      (fun A R s => s.heap.get? l = some { cls := .type "list", dict := dd, data := .seq vs.toArray n, slots := sl } ∧ s.heap.get? b = some { cls := .type "list", dict := dd2, data := .seq ws.toArray n2, slots := sl2 } ∧
        R (.ok (.ret (.bool (lexLt xs ys)))) s) := by
  intro prog w A R s h
  obtain ⟨hp, g, d, tk, os⟩ := s; obtain ⟨hl, hb, h⟩ := h
  have f3 := AutoSeq1.sub_list_list
  repeat (first | (with_reducible refine wpAny_loadPart' hl ?_) | (with_reducible refine wpAny_loadPart' hb ?_) | with_reducible (first | refine PySem.wpAny_pure ?_ | refine PySem.wpAny_bind ?_ | refine PySem.wpAny_holding ?_ | refine PySem.wpAny_standAt ?_ | refine PySem.wpAny_point ?_ | refine PySem.wpAny_rule ?_ | refine PySem.wpAny_letGo ?_ | refine PySem.wpAny_mkInt' ?_ | refine PySem.wpAny_fresh' ?_ | refine PySem.wpAny_alloc' ?_ | refine PySem.wpAny_attempt ?_ | refine PySem.wpAny_throw ?_ | refine PySem.wpAny_of_eq (by assumption) ?_ | refine PySem.wpAny_typeOf (by assumption) ?_ | refine PySem.wpAny_specialOf_val (by assumption) (by assumption) ?_ | refine PySem.wpAny_specialOf (by assumption) (by assumption) ?_ | refine PySem.wpAny_isInstance_val (by assumption) (by assumption) ?_ | refine PySem.wpAny_isInstance (by assumption) (by assumption) ?_ | refine PySem.wpAny_call ?_ | refine PySem.wpAny_runValue ?_ | refine PySem.wpAny_run ?_) | wp_delta | (with_reducible refine PySem.wpAny_load' ?hg ?_; (case hg => heap_get; done)) | (with_reducible refine PySem.wpAny_update' ?hg ?_; (case hg => heap_get; done)) | (with_reducible refine PySem.wpAny_loadPart' ?hg ?_; (case hg => heap_get; done)) | (with_reducible refine PySem.wpAny_updatePart' ?hg ?_; (case hg => heap_get; done)) | (with_reducible refine PySem.wpAny_handled_none ?hg ?_; (case hg => assumption)) | (with_reducible refine PySem.wpAny_ite_false ?hg ?_; (case hg => rfl)) | (with_reducible refine PySem.wpAny_ite_true ?hg ?_; (case hg => rfl)) | (with_reducible refine PySem.wpAny_ite_false ?hg ?_; (case hg => simp [*]; done)) | (with_reducible refine PySem.wpAny_ite_true ?hg ?_; (case hg => simp [*]; done)) | wp_step)
  exact ⟨plainId_quiet plain_eq_loop _, codeAny_builtin entry_eq_loop (by
    rw [Around.under_plainId plain_eq_loop _]
    exact lt_loop l b vs ws xs ys hv hw n n2 dd dd2 sl sl2 _ 0 rfl (Nat.zero_le _) (Nat.zero_le _) prog w A R _ ⟨hl, hb, h⟩)⟩
theorem list_gt (l b : Addr) (vs ws : List Value) (xs ys : List Int) (hv : IntsAre vs xs) (hw : IntsAre ws ys) (n n2 : Nat) (dd dd2 : Option Addr) (sl sl2 : Array (Option Value)) :
    Meets (Builtin.«list.__gt__» ⟨[.ref l, .ref b], []⟩)
      (fun A R s => s.heap.get? l = some { cls := .type "list", dict := dd, data := .seq vs.toArray n, slots := sl } ∧ s.heap.get? b = some { cls := .type "list", dict := dd2, data := .seq ws.toArray n2, slots := sl2 } ∧
        R (.ok (.ret (.bool (lexLt ys xs)))) s) := by
  intro prog w A R s h
  obtain ⟨hp, g, d, tk, os⟩ := s; obtain ⟨hl, hb, h⟩ := h
  have f3 := AutoSeq1.sub_list_list
  repeat (first | (with_reducible refine wpAny_loadPart' hl ?_) | (with_reducible refine wpAny_loadPart' hb ?_) | with_reducible (first | refine PySem.wpAny_pure ?_ | refine PySem.wpAny_bind ?_ | refine PySem.wpAny_holding ?_ | refine PySem.wpAny_standAt ?_ | refine PySem.wpAny_point ?_ | refine PySem.wpAny_rule ?_ | refine PySem.wpAny_letGo ?_ | refine PySem.wpAny_mkInt' ?_ | refine PySem.wpAny_fresh' ?_ | refine PySem.wpAny_alloc' ?_ | refine PySem.wpAny_attempt ?_ | refine PySem.wpAny_throw ?_ | refine PySem.wpAny_of_eq (by assumption) ?_ | refine PySem.wpAny_typeOf (by assumption) ?_ | refine PySem.wpAny_specialOf_val (by assumption) (by assumption) ?_ | refine PySem.wpAny_specialOf (by assumption) (by assumption) ?_ | refine PySem.wpAny_isInstance_val (by assumption) (by assumption) ?_ | refine PySem.wpAny_isInstance (by assumption) (by assumption) ?_ | refine PySem.wpAny_call ?_ | refine PySem.wpAny_runValue ?_ | refine PySem.wpAny_run ?_) | wp_delta | (with_reducible refine PySem.wpAny_load' ?hg ?_; (case hg => heap_get; done)) | (with_reducible refine PySem.wpAny_update' ?hg ?_; (case hg => heap_get; done)) | (with_reducible refine PySem.wpAny_loadPart' ?hg ?_; (case hg => heap_get; done)) | (with_reducible refine PySem.wpAny_updatePart' ?hg ?_; (case hg => heap_get; done)) | (with_reducible refine PySem.wpAny_handled_none ?hg ?_; (case hg => assumption)) | (with_reducible refine PySem.wpAny_ite_false ?hg ?_; (case hg => rfl)) | (with_reducible refine PySem.wpAny_ite_true ?hg ?_; (case hg => rfl)) | (with_reducible refine PySem.wpAny_ite_false ?hg ?_; (case hg => simp [*]; done)) | (with_reducible refine PySem.wpAny_ite_true ?hg ?_; (case hg => simp [*]; done)) | wp_step)
  exact ⟨plainId_quiet plain_eq_loop _, codeAny_builtin entry_eq_loop (by
    rw [Around.under_plainId plain_eq_loop _]
    exact gt_loop l b vs ws xs ys hv hw n n2 dd dd2 sl sl2 _ 0 rfl (Nat.zero_le _) (Nat.zero_le _) prog w A R _ ⟨hl, hb, h⟩)⟩
theorem Cm.ltInts {xs ys : List Int} (hu : A.units < 9000) : Cm prog w A h .Lt (RInts xs) (RInts ys) (lexLt xs ys) := by
  rintro s _ _ Q E _ ⟨a, vs, rfl, ⟨c, ho⟩, hall⟩ ⟨b, ws, rfl, ⟨c2, ho2⟩, hall2⟩ q
  exact cmp_ofLt (richCompare_meets_room (op := .Lt) ⟨_, ho, rfl⟩ ⟨_, ho2, rfl⟩ PySem.F.slot_list_lt PySem.F.entry_list_lt (PySem.F.args_list_lt_2 _ _) (list_lt a b vs ws xs ys hall.ints hall2.ints c c2 none none #[] #[])
    ⟨ho, ho2, show Value.bool (lexLt xs ys) ≠ Value.notImplemented ∧ Q (.bool (lexLt xs ys)) s from ⟨(fun x => nomatch x), q _ Gw.rfl⟩⟩ (show A.units < 9900 by (first | assumption | decide | lia | omega)))
theorem Cm.gtInts {xs ys : List Int} (hu : A.units < 9000) : Cm prog w A h .Gt (RInts xs) (RInts ys) (lexLt ys xs) := by
  rintro s _ _ Q E _ ⟨a, vs, rfl, ⟨c, ho⟩, hall⟩ ⟨b, ws, rfl, ⟨c2, ho2⟩, hall2⟩ q
  exact cmp_ofGt (richCompare_meets_room (op := .Gt) ⟨_, ho, rfl⟩ ⟨_, ho2, rfl⟩ PySem.F.slot_list_gt PySem.F.entry_list_gt (PySem.F.args_list_gt_2 _ _) (list_gt a b vs ws xs ys hall.ints hall2.ints c c2 none none #[] #[])
    ⟨ho, ho2, show Value.bool (lexLt ys xs) ≠ Value.notImplemented ∧ Q (.bool (lexLt ys xs)) s from ⟨(fun x => nomatch x), q _ Gw.rfl⟩⟩ (show A.units < 9900 by (first | assumption | decide | lia | omega)))
theorem Bn.subB {a b : Bool} : Bn prog w A h .Sub (RBool a) (RBool b) (RInt (b2i a - b2i b)) := by
  rintro s _ _ Q E _ rfl rfl q
  exact sub_bool (q _ _ Gw.toks ⟨_, rfl⟩)
end
end Mine

-- Law0
namespace Mine
noncomputable def objAt (P : Params) (a : Addr) : Obj := ((KF P).lookup a).getD default
noncomputable def fdOf (o : Obj) : FuncData := match o.data with | .func f => f | _ => default
noncomputable def bodyOf (fd : FuncData) : List Stmt := match fd.body with | .stmts b => b | _ => []
theorem lk50 (P : Params) : (KF P).lookup 50 = some (objAt P 50) := by rfl
theorem fd50 (P : Params) : (objAt P 50).data = .func (fdOf (objAt P 50)) := by rfl
theorem bd50 (P : Params) : (fdOf (objAt P 50)).body = .stmts (bodyOf (fdOf (objAt P 50))) := by rfl
theorem cd50 (P : Params) : codeIn (KF P) (fdOf (objAt P 50)).code (fdOf (objAt P 50)).qualname = true := by rfl
theorem gl50 (P : Params) : nsIn (KF P) mainGlobals (Str.ofString "_law_front") = some (some (.ref 50)) := by rfl
theorem glmax (P : Params) : nsIn (KF P) mainGlobals (Str.ofString "max") = some none := by rfl
theorem blmax : bootBuiltins (Str.ofString "max") = some (.builtin "max") := by rfl

structure Wd (w : World) (mg mb : Str → Option Value) (h : Heap) : Prop where
  k : (KF w.params).In h
  g : h.Ns mainGlobals mg
  b : h.Ns builtinsNs mb
  lim : h.NoLimit
  bl : ∀ x, x ≠ Str.ofString "__name__" → mb x = bootBuiltins x
theorem Wd.kp {w mg mb h h'} (x : Wd w mg mb h) (k : Kp h h') : Wd w mg mb h' := ⟨fun a o e => k a o (x.k a o e), x.g.keeps k, x.b.keeps k, x.lim.keeps k, x.bl⟩
end Mine

-- Law1
namespace Mine

theorem ents_all {P : Params} {l : List (Str × Int)} : ∀ {j : Nat}, ∀ e ∈ ents P l j, ∃ x t, e.key = .str x t ∧ e.hash = PyData.keyHash P x := by
  induction l with
  | nil => intro _ e he; exact absurd he (List.not_mem_nil)
  | cons a r ih =>
    intro j e he
    exact (List.mem_cons.mp he).elim (fun q => q ▸ ⟨_, _, rfl, rfl⟩) (ih e)
noncomputable def fd (k : Str) (es : List DictEntry) : Option Value := (es.find? fun e => Value.isStrOf k e.key).map (·.val)
theorem fd_neg {k : Str} {e : DictEntry} {r : List DictEntry} (h : ¬ Value.isStrOf k e.key = true) : fd k (e :: r) = fd k r := by unfold fd; rw [List.find?_cons_of_neg (p := fun e : DictEntry => Value.isStrOf k e.key) h]
theorem kv_find {P : Params} (k : Str) (l : List (Str × Int)) : ∀ j, match l.lookup k with | some i => ∃ t, fd k (ents P l j) = some (.int i t) | none => fd k (ents P l j) = none := by
  induction l with
  | nil => exact fun _ => rfl
  | cons a r ih =>
    intro j
    rw [List.lookup_cons]
    unfold ents
    cases hk : k == a.1 with
    | true => exact ⟨_, by unfold fd; rw [List.find?_cons_of_pos (by rw [eq_of_beq hk]; exact beq_self_eq_true _)]; rfl⟩
    | false =>
      rw [fd_neg fun q => by rw [eq_of_beq (α := Str) q, beq_self_eq_true] at hk; cases hk]
      exact ih (j + 1)

theorem rdict_of {prog : Program} {w : World} {h : Heap} {a : Addr} {l : List (Str × Int)} {j n : Nat} (ho : h.get? a = some { cls := .type "dict", data := .dict (ents w.params l j).toArray n }) (hne : (a == sysModules) = false) :
    (RDict prog w l).is h (.ref a) := by
  refine ⟨a, fun k => fd k (ents w.params l j), rfl, hne, ⟨_, (ents w.params l j).toArray, n, ho, ⟨rfl, rfl, rfl⟩, rfl, ?_, ?_⟩, fun k => kv_find k l j⟩
  · intro e he
    obtain ⟨x, t, h1, h2⟩ := ents_all e (Array.mem_toList_iff.mpr he)
    exact ⟨x, h1 ▸ beq_self_eq_true _, h2⟩
  · intro k
    unfold findBy
    rw [← Array.find?_toList]
    rfl

theorem lk36 (P : Params) : (KF P).lookup 36 = some { cls := .type "dict", data := .dict (ents P exact 0).toArray 48 } := by rfl
theorem exact_is {prog : Program} {w : World} {mg mb h} (W : Wd w mg mb h) : (RDict prog w exact).is h (.ref 36) :=
  rdict_of (prog := prog) (w := w) (W.k _ _ (lk36 w.params)) (by decide)
end Mine

-- Law2
namespace Mine

section
variable {prog : Program} {w : World} {A : Around} {h : Heap}
theorem Fn.len_str {x : Str} (hsz : x.length < 2 ^ 62) : Fn prog w A h (.builtin "len") [RStr x] (RInt x.length) := by
  rintro s vs Q E k a q
  refine a.elim1 fun v0 e0 a1 => ?_
  subst e0
  obtain ⟨t, rfl⟩ := a1
  exact PySem.P.len_str (by (first | assumption | decide | lia | omega)) (q _ _ Gw.toks ⟨_, rfl⟩)
theorem Wd.gl {mg mb h x v} (W : Wd w mg mb h) (e : nsIn (KF w.params) mainGlobals x = some (some v)) : mg x = some v := mg_of W.k W.g e
theorem Wd.gn {mg mb h x} (W : Wd w mg mb h) (e : nsIn (KF w.params) mainGlobals x = some none) : mg x = none := mg_none_of W.k W.g e
end

theorem Wd.blt {prog : Program} {w : World} {A : Around} {h : Heap} {mg mb : Str → Option Value} {env : Env} {x : Str} {v : Value} (W : Wd w mg mb h) (e1 : nsIn (KF w.params) mainGlobals x = some none) (e2 : bootBuiltins x = some v) (e3 : (x == Str.ofString "__name__") = false)
    (hl : env.kindOf x = some .globalImplicit) (hk : env.scope.kind = .function) (hg : env.globals = mainGlobals) (hb : env.builtins = builtinsNs) : Nm prog w A h env x v :=
  Nm.blt (mg := mg) (mb := mb) (hg ▸ W.g) (W.gn e1) (hb ▸ W.b) ((W.bl x (by simpa using e3)).trans e2) hl hk
theorem Wd.glob {prog : Program} {w : World} {A : Around} {h : Heap} {mg mb : Str → Option Value} {env : Env} {x : Str} {v : Value} (W : Wd w mg mb h) (e1 : nsIn (KF w.params) mainGlobals x = some (some v))
    (hl : env.kindOf x = some .globalImplicit) (hk : env.scope.kind = .function) (hg : env.globals = mainGlobals) : Nm prog w A h env x v :=
  Nm.glob (mg := mg) (hg ▸ W.g) (W.gl e1) hl hk
theorem TLoc.int {x : Str} {f : Nat → Int} {n : Nat} {C : Addr} {i : Nat} {h₁ : Heap} (q : TLoc x ((List.range n).map fun i => RInt (f i)) C i h₁) : ∃ t m, h₁.Ns C m ∧ m x = some (.int (f i) t) := by
  obtain ⟨r, v, m, hr, hv, hn, hm⟩ := q
  rw [List.getElem?_map] at hr
  cases e : (List.range n)[i]? with
  | none => rw [e] at hr; cases hr
  | some j =>
    rw [e] at hr
    have := List.getElem?_range (n := n) (i := i) (by have := (List.getElem?_eq_some_iff.mp e).1; simpa using this)
    rw [this] at e; cases e; cases hr
    obtain ⟨t, rfl⟩ := hv
    exact ⟨t, m, hn, hm⟩

noncomputable def S (x : String) : Str := Str.ofString x
noncomputable def isTok (x : Str) (a b : Nat) : Bool := (exact.lookup (sub x a b)).isSome
/- the longest of up to three signs at a place -/
noncomputable def ahead (x : Str) (a : Nat) : Nat := if a + 3 ≤ x.length ∧ isTok x a (a + 3) = true then 3 else if a + 2 ≤ x.length ∧ isTok x a (a + 2) = true then 2 else 1
noncomputable def Good (x : Str) : Prop := 0 < x.length ∧ x.length ≤ 16 ∧ ∀ i, i < x.length → isTok x i (i + 1) = true
theorem Good.lt62 {x : Str} (h : Good x) : x.length < 2 ^ 62 := Nat.lt_of_le_of_lt h.2.1 (by decide)
theorem Good.szl {x : Str} (h : Good x) : x.length ≤ sizeLine := Nat.le_trans h.2.1 (by decide)
noncomputable def front (x : Str) : Nat → Nat → List Nat
  | 0, _ => []
  | n + 1, a => if a < x.length then (a + ahead x a) :: front x n (a + ahead x a) else []

theorem ahead_spec {x : Str} {a : Nat} (hx : Good x) (ha : a < x.length) : 1 ≤ ahead x a ∧ ahead x a ≤ 3 ∧ a + ahead x a ≤ x.length ∧ isTok x a (a + ahead x a) = true ∧
    ∀ n, 1 ≤ n → n ≤ 3 → a + n ≤ x.length → isTok x a (a + n) = true → n ≤ ahead x a := by
  have h1 := hx.2.2 a ha
  unfold ahead
  split
  · rename_i h3; exact ⟨by (first | assumption | decide | lia | omega), by (first | assumption | decide | lia | omega), h3.1, h3.2, fun n _ h _ _ => h⟩
  · rename_i h3
    split
    · rename_i h2
      refine ⟨by (first | assumption | decide | lia | omega), by (first | assumption | decide | lia | omega), h2.1, h2.2, fun n hn1 hn3 hl ht => ?_⟩
      by_cases hn : n = 3
      · subst hn; exact absurd ⟨hl, ht⟩ h3
      · (first | assumption | decide | lia | omega)
    · rename_i h2
      refine ⟨by (first | assumption | decide | lia | omega), by (first | assumption | decide | lia | omega), by (first | assumption | decide | lia | omega), h1, fun n hn1 hn3 hl ht => ?_⟩
      by_cases hn : n = 3
      · subst hn; exact absurd ⟨hl, ht⟩ h3
      · by_cases hn' : n = 2
        · subst hn'; exact absurd ⟨hl, ht⟩ h2
        · (first | assumption | decide | lia | omega)

theorem ahead_max {x : Str} {a' : Nat} (hx : Good x) (hlt : a' < x.length) :
    (∃ i ∈ (List.range 3).filter (fun i : Nat => decide ((Int.ofNat a' : Int) + (1 + (i : Int)) ≤ x.length) && isTok x a' (a' + (1 + i))), 1 + (i : Int) = Int.ofNat (ahead x a')) ∧
    ∀ i ∈ (List.range 3).filter (fun i : Nat => decide ((Int.ofNat a' : Int) + (1 + (i : Int)) ≤ x.length) && isTok x a' (a' + (1 + i))), 1 + (i : Int) ≤ Int.ofNat (ahead x a') := by
  obtain ⟨p1, p2, p3, p4, p5⟩ := ahead_spec hx hlt
  refine ⟨⟨ahead x a' - 1, ?_, ?_⟩, ?_⟩
  · refine List.mem_filter.mpr ⟨by simp; (first | assumption | decide | lia | omega), ?_⟩
    rw [show a' + (1 + (ahead x a' - 1)) = a' + ahead x a' by (first | assumption | decide | lia | omega), p4]
    simp only [Bool.and_true, decide_eq_true_eq]
    simp only [Int.ofNat_eq_natCast]
    (first | assumption | decide | lia | omega)
  · simp only [Int.ofNat_eq_natCast]; (first | assumption | decide | lia | omega)
  · intro i hi
    obtain ⟨h1, h2⟩ := List.mem_filter.mp hi
    simp only [Bool.and_eq_true, decide_eq_true_eq, Int.ofNat_eq_natCast] at h2
    have h3 : i < 3 := by simpa using h1
    have := p5 (1 + i) (by (first | assumption | decide | lia | omega)) (by (first | assumption | decide | lia | omega)) (by (first | assumption | decide | lia | omega)) h2.2
    simp only [Int.ofNat_eq_natCast]
    (first | assumption | decide | lia | omega)
/- a reading under way -/
structure IF (env : Env) (s : Shared) (h₁ : Heap) (x : Str) (tx : Tok) (a : Addr) (m cm : Str → Option Value) (a' : Nat) (ta : Tok) (vs : List Value) (done go all : List Nat) (s' : Shared) : Prop where
  F : FS env s m cm (Hk h₁) s'
  hm : m (S "cuts") = some (.ref a)
  hc : cm (S "text") = some (.str x tx)
  hc' : cm (S "at") = some (.int (Int.ofNat a') ta)
  ha : a' ≤ x.length
  hl : s'.heap.PlainList a vs.toArray
  hi : IntsAre vs (done.map Int.ofNat)
  hd : done ++ go = all
noncomputable def I50 (env : Env) (s : Shared) (h₁ : Heap) (x : Str) (tx : Tok) (a : Addr) (kk : Nat) (s' : Shared) : Prop :=
  ∃ m cm a' ta vs f done, IF env s h₁ x tx a m cm a' ta vs done (front x f a') (front x 17 0) s' ∧ x.length - a' ≤ f ∧ done.length ≤ a' ∧ kk = x.length - a'
theorem I50.elim {env : Env} {s : Shared} {h₁ : Heap} {x : Str} {tx : Tok} {a : Addr} {kk : Nat} {s' : Shared} {P : Prop} (y : I50 env s h₁ x tx a kk s')
    (k : ∀ m cm a' ta vs f done, IF env s h₁ x tx a m cm a' ta vs done (front x f a') (front x 17 0) s' → x.length - a' ≤ f → done.length ≤ a' → kk = x.length - a' → P) : P := by
  obtain ⟨m, cm, a', ta, vs, f, done, h1, h2, h3, h4⟩ := y; exact k m cm a' ta vs f done h1 h2 h3 h4
noncomputable abbrev envFront (P : Params) (L : Addr) : Env := callEnvC (fdOf (objAt P 50)) L 50

section
variable {prog : Program} {w : World} {A : Around} {h : Heap} {mg mb : Str → Option Value}

theorem front_fn (W : Wd w mg mb h) (hh : A.handled = none) (hroom : A.depth < recursionLimit) {x : Str} (hx : Good x) :
    Fn prog w A h (.ref 50) [RStr x] (RInts ((front x 17 0).map Int.ofNat)) := by
  refine Fn.of [S "text"] (W.k _ _ (lk50 _)) (fd50 _) (bd50 _) W.lim (codeRec_of W.k (cd50 _)) rfl hroom ?_ ?_ ?_
  · intro vs hvs
    obtain ⟨v, rfl⟩ := len1 hvs
    rfl
  · intro L y hy
    simp at hy; subst hy
    exact .inr ⟨by rfl, by rfl⟩
  · intro s s₁ vs k a F
    refine a.elim1 fun v0 e0 a1 => ?_
    subst e0
    replace a := a1
    clear a1
    refine str_elim a fun tx e0 => ?_
    subst e0
    have W₁ : Wd w mg mb s₁.heap := W.kp (k.trans F.base)
    generalize hL : s.heap.objs.size = L at F ⊢
    have hh' : (A.deeper (envFront w.params L)).handled = none := hh
    have F0 := F.adv
    refine wpAny_execs_cons ?_
    refine two hh' (EvP.list EvL.nil) (Ev.tell Ev.int) (n1 := S "cuts") (n2 := S "at") ?_
    intro v1 v2 s1 s2 s3 g1 y1 g2 y2 g3
    refine NewL.elim0 y1 fun a e1 hn hl => ?_
    subst e1
    obtain ⟨t, rfl⟩ := y2
    have F3 := ((F0.gw g1).gw g2).gw g3
    have hl3 : s3.heap.PlainList a #[] := by obtain ⟨q, e⟩ := hl; exact ⟨q, g3.kp _ _ (g2.kp _ _ e)⟩
    refine F3.stL (by rfl) (by rfl) fun s4 F4 y4 => ?_
    refine F4.stC (c := L + 2) (by rfl) (by rfl) (by rfl) fun s5 F5 y5 => ?_
    have hl5 : s5.heap.PlainList a #[] := by obtain ⟨q, e⟩ := hl3; exact ⟨q, y5 _ _ (y4 _ _ e (seq_not_vary rfl)) (seq_not_vary rfl)⟩
    have W5 : Wd w mg mb s5.heap := W.kp (k.trans F5.base)
    first | with_reducible refine wpAny_execs_cons ?_ | refine wpAny_execs_cons ?_
    refine wpAny_While ?_
    refine codeAny_whileLoop (I50 (envFront w.params L) s s₁.heap x tx a) ?_ (x.length - 0)
      ⟨_, _, 0, t, [], 17, [], ⟨F5, by rfl, by rfl, by rfl, Nat.zero_le _, hl5, .nil, by rfl⟩, by have := hx.2.1; (first | assumption | decide | lia | omega), Nat.le_refl _, rfl⟩
    intro kk s6 y6
    refine y6.elim fun m cm a' ta vs f done ⟨F6, hm1, hc1, hc2, ha', hl6, hi6, hd6⟩ hf6 hdl ekk => ?_
    subst ekk
    clear y6
    have W6 : Wd w mg mb s6.heap := W.kp (k.trans F6.base)
    have hlen := hx.2.1
    have n_text : ∀ {A'}, Nm prog w A' s6.heap (envFront w.params L) (S "text") (.str x tx) := F6.ldC (c := L + 1) (by rfl) hc1 (by rfl) (by rfl)
    have n_at : ∀ {A'}, Nm prog w A' s6.heap (envFront w.params L) (S "at") (.int (Int.ofNat a') ta) := F6.ldC (c := L + 2) (by rfl) hc2 (by rfl) (by rfl)
    refine Tr.go (b := decide (Int.ofNat a' < x.length)) ?t1 fun s7 g7 => ?t2
    case t1 => exact Tr.cmp (Ev.nint n_at) (Ev.callB (n := S "len") (W6.blt (by rfl) (by rfl) (by rfl) (by rfl) (by rfl) (by rfl) (by rfl)) (EvL.cons (Ev.nstr n_text) EvL.nil) (Fn.len_str hx.lt62) (by rfl)) Cm.lt
    have F7 := F6.gw g7
    have W7 : Wd w mg mb s7.heap := W6.kp g7.kp
    have hl7 : s7.heap.PlainList a vs.toArray := by obtain ⟨q, e⟩ := hl6; exact ⟨q, g7.kp _ _ e⟩
    have n_text : ∀ {A'}, Nm prog w A' s7.heap (envFront w.params L) (S "text") (.str x tx) := F7.ldC (c := L + 1) (by rfl) hc1 (by rfl) (by rfl)
    have n_at : ∀ {A'}, Nm prog w A' s7.heap (envFront w.params L) (S "at") (.int (Int.ofNat a') ta) := F7.ldC (c := L + 2) (by rfl) hc2 (by rfl) (by rfl)
    by_cases hlt : a' < x.length
    · rw [show decide (Int.ofNat a' < (x.length : Int)) = true by simpa using hlt]
      simp only [if_true]
      refine wpAny_execs_cons (F7.asgC (n := S "at") (c := L + 2) (r₁ := RInt (Int.ofNat a' + Int.ofNat (ahead x a'))) (Ev.bin (Ev.nint n_at) (Ev.callB (n := S "max") (W7.blt (by rfl) (by rfl) (by rfl) (by rfl) (by rfl) (by rfl) (by rfl)) (EvL.cons (Ev.comp (items := (List.range 3).map fun i : Nat => RInt (1 + (i : Int)))
        (b := fun i => decide ((Int.ofNat a' : Int) + (1 + (i : Int)) ≤ x.length) && isTok x a' (a' + (1 + i))) (f := fun i => RInt (1 + (i : Int))) (Src.list hh' (Ev.list (EvL.cons Ev.int (EvL.cons Ev.int (EvL.cons Ev.int EvL.nil))))) (Target.loc (by rfl) (by rfl) ?hsc)
        ?tst ?elt (fun _ => Sc.int) (by decide) (by rfl) (by rfl) ?nms) EvL.nil) ?mx (by rfl)) Bn.add) Ss.int (by rfl) (by rfl) (by rfl) ?cont)
      case hsc => intro r hr; obtain ⟨i, _, rfl⟩ := List.mem_map.mp hr; exact Sc.int
      case nms => decide +kernel
      case mx => exact Fn.maxf hh' (ahead_max hx hlt).1 (ahead_max hx hlt).2
      case tst =>
        intro C i h₁ hi ht kh
        obtain ⟨tn, mm, hns, hmn⟩ := TLoc.int ht
        have W8 : Wd w mg mb h₁ := W7.kp kh
        have hi3 : i < 3 := by simpa using hi
        have c_text := (F7.cell (S "text") (L + 1) (by rfl)).keeps kh
        have c_at := (F7.cell (S "at") (L + 2) (by rfl)).keeps kh
        rw [hc1] at c_text
        rw [hc2] at c_at
        refine Tests.one (Tr.and2 (Tr.cmp (Ev.bin (Ev.nint (Nm.cell (by rfl) c_at (by rfl) (by rfl))) (Ev.nint (Nm.local hns hmn (by rfl) (by rfl))) Bn.add)
          (Ev.callB (n := S "len") (W8.blt (by rfl) (by rfl) (by rfl) (by rfl) (by rfl) (by rfl) (by rfl)) (EvL.cons (Ev.nstr (Nm.cell (by rfl) c_text (by rfl) (by rfl))) EvL.nil) (Fn.len_str hx.lt62) (by rfl)) Cm.le) fun hle => ?_)
        have hle' : a' + (1 + i) ≤ x.length := by
          simp only [decide_eq_true_eq, Int.ofNat_eq_natCast] at hle; (first | assumption | decide | lia | omega)
        exact Tr.cmp (Ev.sslice (a := a') (b := a' + (1 + i)) (Ev.nstr (Nm.cell (by rfl) c_text (by rfl) (by rfl))) (Ev.nint (Nm.cell (by rfl) c_at (by rfl) (by rfl)))
          (Ev.ieq (by simp only [Int.ofNat_eq_natCast]; (first | assumption | decide | lia | omega)) (Ev.bin (Ev.nint (Nm.cell (by rfl) c_at (by rfl) (by rfl))) (Ev.nint (Nm.local hns hmn (by rfl) (by rfl))) Bn.add)) (by (first | assumption | decide | lia | omega)) hle' hx.szl)
          (Ev.name (n := S "EXACT_TOKEN_TYPES") (v := .ref 36) (W8.glob (by rfl) (by rfl) (by rfl) (by rfl)) (exact_is W8) (by rfl)) Cm.inDict
      case elt =>
        intro C i h₁ hi hb ht kh
        obtain ⟨tn, mm, hns, hmn⟩ := TLoc.int ht
        exact Ev.nint (Nm.local hns hmn (by rfl) (by rfl))
      case cont =>
        intro v s8 F8 y8 hv
        obtain ⟨tv, rfl⟩ := hv
        obtain ⟨p1, p2, p3, p4, p5⟩ := ahead_spec hx hlt
        have hl8 : s8.heap.PlainList a vs.toArray := by obtain ⟨q, e⟩ := hl7; exact ⟨q, y8 _ _ e (seq_not_vary rfl)⟩
        have hsa : s.heap.get? a = none := by
          cases q : s.heap.get? a with
          | none => rfl
          | some o => have := F.base _ _ q; rw [hn] at this; cases this
        have hvl : vs.length ≤ sizeLine := by have e1 := hi6.length; simp at e1; have : sizeLine = 16777216 := rfl; (first | assumption | decide | lia | omega)
        first | with_reducible refine wpAny_execs_cons ?_ | refine wpAny_execs_cons ?_
        refine F8.append (n := S "cuts") (F8.ldL hm1 (by rfl) (by rfl)) hl8 (Ev.nint (F8.ldC (c := L + 2) (by rfl) up_self (by rfl) (by rfl))) (hk_none hn) hsa hvl ?_ (hd := by rfl)
        rintro _ s9 F9 hl9 ⟨h₁, k₁, ⟨t9, rfl⟩, sb⟩
        refine wpAny_execs_nil ?_
        obtain ⟨f', rfl⟩ : ∃ f', f = f' + 1 := ⟨f - 1, by (first | assumption | decide | lia | omega)⟩
        refine ⟨x.length - (a' + ahead x a'), by (first | assumption | decide | lia | omega), m, _, a' + ahead x a', tv, vs ++ [_], f', done ++ [a' + ahead x a'], ⟨F9, hm1, ?_, ?_, p3, hl9, ?_, ?_⟩, by (first | assumption | decide | lia | omega), ?_, rfl⟩
        · rw [up_ne (by decide)]; exact hc1
        · exact up_self
        · rw [List.map_append]; exact hi6.append (.cons _ _ .nil)
        · rw [← hd6]; simp [front, hlt]
        · rw [List.length_append, List.length_singleton]; (first | assumption | decide | lia | omega)
    · rw [show decide (Int.ofNat a' < (x.length : Int)) = false by simpa using hlt]
      simp only [Bool.false_eq_true, if_false]
      refine wpAny_execs_nil (wpAny_execs_cons (wpAny_Return_some ?_))
      have hfin : front x f a' = [] := by cases f <;> simp [front, hlt]
      rw [hfin, List.append_nil] at hd6
      refine Ev.go (Ev.name (r₁ := RInts (done.map Int.ofNat)) (F7.ldL hm1 (by rfl) (by rfl)) ⟨a, vs, rfl, hl7, ints_all2 hi6⟩ (by rfl)) fun v s9 g9 hv => ⟨v, rfl, (F7.out).trans g9, by rw [← hd6]; exact hv⟩
end
end Mine

-- Law3
namespace Mine
theorem lk55 (P : Params) : (KF P).lookup 55 = some (objAt P 55) := by rfl
theorem fd55 (P : Params) : (objAt P 55).data = .func (fdOf (objAt P 55)) := by rfl
theorem bd55 (P : Params) : (fdOf (objAt P 55)).body = .stmts (bodyOf (fdOf (objAt P 55))) := by rfl
theorem cd55 (P : Params) : codeIn (KF P) (fdOf (objAt P 55)).code (fdOf (objAt P 55)).qualname = true := by rfl

/- the longest of up to three signs that ends at a place -/
noncomputable def behind (x : Str) (b : Nat) : Nat := if 3 ≤ b ∧ isTok x (b - 3) b = true then 3 else if 2 ≤ b ∧ isTok x (b - 2) b = true then 2 else 1
noncomputable def back (x : Str) : Nat → Nat → List Nat
  | 0, _ => []
  | n + 1, b => if 0 < b then b :: back x n (b - behind x b) else []
theorem behind_spec {x : Str} {b : Nat} (hx : Good x) (hb : b ≤ x.length) (h0 : 0 < b) : 1 ≤ behind x b ∧ behind x b ≤ 3 ∧ behind x b ≤ b ∧ isTok x (b - behind x b) b = true ∧
    ∀ n, 1 ≤ n → n ≤ 3 → n ≤ b → isTok x (b - n) b = true → n ≤ behind x b := by
  have h1 := hx.2.2 (b - 1) (by (first | assumption | decide | lia | omega))
  rw [show b - 1 + 1 = b by (first | assumption | decide | lia | omega)] at h1
  unfold behind
  split
  · rename_i h3; exact ⟨by (first | assumption | decide | lia | omega), by (first | assumption | decide | lia | omega), h3.1, h3.2, fun n _ h _ _ => h⟩
  · rename_i h3
    split
    · rename_i h2
      refine ⟨by (first | assumption | decide | lia | omega), by (first | assumption | decide | lia | omega), h2.1, h2.2, fun n hn1 hn3 hl ht => ?_⟩
      by_cases hn : n = 3
      · subst hn; exact absurd ⟨hl, ht⟩ h3
      · (first | assumption | decide | lia | omega)
    · rename_i h2
      refine ⟨by (first | assumption | decide | lia | omega), by (first | assumption | decide | lia | omega), by (first | assumption | decide | lia | omega), h1, fun n hn1 hn3 hl ht => ?_⟩
      by_cases hn : n = 3
      · subst hn; exact absurd ⟨hl, ht⟩ h3
      · by_cases hn' : n = 2
        · subst hn'; exact absurd ⟨hl, ht⟩ h2
        · (first | assumption | decide | lia | omega)

theorem behind_max {x : Str} {kk : Nat} (hx : Good x) (ha : kk ≤ x.length) (hlt : 0 < kk) :
    (∃ i ∈ (List.range 3).filter (fun i : Nat => decide ((1 + (i : Int)) ≤ Int.ofNat kk) && isTok x (kk - (1 + i)) kk), 1 + (i : Int) = Int.ofNat (behind x kk)) ∧ ∀ i ∈ (List.range 3).filter (fun i : Nat => decide ((1 + (i : Int)) ≤ Int.ofNat kk) && isTok x (kk - (1 + i)) kk), 1 + (i : Int) ≤ Int.ofNat (behind x kk) := by
  obtain ⟨p1, p2, p3, p4, p5⟩ := behind_spec hx ha hlt
  refine ⟨⟨behind x kk - 1, ?_, ?_⟩, ?_⟩
  · refine List.mem_filter.mpr ⟨by simp; (first | assumption | decide | lia | omega), ?_⟩
    rw [show kk - (1 + (behind x kk - 1)) = kk - behind x kk by (first | assumption | decide | lia | omega), p4]
    simp only [Bool.and_true, decide_eq_true_eq]
    simp only [Int.ofNat_eq_natCast]
    (first | assumption | decide | lia | omega)
  · simp only [Int.ofNat_eq_natCast]; (first | assumption | decide | lia | omega)
  · intro i hi
    obtain ⟨h1, h2⟩ := List.mem_filter.mp hi
    simp only [Bool.and_eq_true, decide_eq_true_eq, Int.ofNat_eq_natCast] at h2
    have h3 : i < 3 := by simpa using h1
    have := p5 (1 + i) (by (first | assumption | decide | lia | omega)) (by (first | assumption | decide | lia | omega)) (by (first | assumption | decide | lia | omega)) h2.2
    simp only [Int.ofNat_eq_natCast]
    (first | assumption | decide | lia | omega)
noncomputable def I55 (env : Env) (s : Shared) (h₁ : Heap) (x : Str) (tx : Tok) (a : Addr) (kk : Nat) (s' : Shared) : Prop :=
  ∃ m cm a' ta vs f done, IF env s h₁ x tx a m cm a' ta vs done (back x f a') (back x 17 x.length) s' ∧ a' ≤ f ∧ done.length + a' ≤ x.length ∧ kk = a'
theorem I55.elim {env : Env} {s : Shared} {h₁ : Heap} {x : Str} {tx : Tok} {a : Addr} {kk : Nat} {s' : Shared} {P : Prop} (y : I55 env s h₁ x tx a kk s')
    (k : ∀ m cm a' ta vs f done, IF env s h₁ x tx a m cm a' ta vs done (back x f a') (back x 17 x.length) s' → a' ≤ f → done.length + a' ≤ x.length → kk = a' → P) : P := by
  obtain ⟨m, cm, a', ta, vs, f, done, h1, h2, h3, h4⟩ := y; exact k m cm a' ta vs f done h1 h2 h3 h4
noncomputable abbrev envBack (P : Params) (L : Addr) : Env := callEnvC (fdOf (objAt P 55)) L 55

section
variable {prog : Program} {w : World} {A : Around} {h : Heap} {mg mb : Str → Option Value}

theorem back_fn (W : Wd w mg mb h) (hh : A.handled = none) (hroom : A.depth < recursionLimit) {x : Str} (hx : Good x) :
    Fn prog w A h (.ref 55) [RStr x] (RInts ((back x 17 x.length).reverse.map Int.ofNat)) := by
  refine Fn.of [S "text"] (W.k _ _ (lk55 _)) (fd55 _) (bd55 _) W.lim (codeRec_of W.k (cd55 _)) rfl hroom ?_ ?_ ?_
  · intro vs hvs
    obtain ⟨v, rfl⟩ := len1 hvs
    rfl
  · intro L y hy
    simp at hy; subst hy
    exact .inr ⟨by rfl, by rfl⟩
  · intro s s₁ vs k a F
    refine a.elim1 fun v0 e0 a1 => ?_
    subst e0
    replace a := a1
    clear a1
    refine str_elim a fun tx e0 => ?_
    subst e0
    have W₁ : Wd w mg mb s₁.heap := W.kp (k.trans F.base)
    have hlen := hx.2.1
    generalize hL : s.heap.objs.size = L at F ⊢
    have hh' : (A.deeper (envBack w.params L)).handled = none := hh
    have F0 := F.adv
    refine wpAny_execs_cons ?_
    refine two (P2 := Tell (RInt x.length)) hh' (EvP.list EvL.nil) ?_ (n1 := S "cuts") (n2 := S "at") ?_
    · exact Ev.callB (n := S "len") (W₁.blt (by rfl) (by rfl) (by rfl) (by rfl) (by rfl) (by rfl) (by rfl)) (EvL.cons (Ev.nstr (F0.ldC (c := L + 1) (by rfl) (v := .str x tx) (by rfl) (by rfl) (by rfl))) EvL.nil) (Fn.len_str hx.lt62) (by rfl)
    intro v1 v2 s1 s2 s3 g1 y1 g2 y2 g3
    refine NewL.elim0 y1 fun a e1 hn hl => ?_
    subst e1
    obtain ⟨t, rfl⟩ := y2
    have F3 := ((F0.gw g1).gw g2).gw g3
    have hl3 : s3.heap.PlainList a #[] := by obtain ⟨q, e⟩ := hl; exact ⟨q, g3.kp _ _ (g2.kp _ _ e)⟩
    refine F3.stL (by rfl) (by rfl) fun s4 F4 y4 => ?_
    refine F4.stC (c := L + 2) (by rfl) (by rfl) (by rfl) fun s5 F5 y5 => ?_
    have hl5 : s5.heap.PlainList a #[] := by obtain ⟨q, e⟩ := hl3; exact ⟨q, y5 _ _ (y4 _ _ e (seq_not_vary rfl)) (seq_not_vary rfl)⟩
    first | with_reducible refine wpAny_execs_cons ?_ | refine wpAny_execs_cons ?_
    refine wpAny_While ?_
    refine codeAny_whileLoop (I55 (envBack w.params L) s s₁.heap x tx a) ?_ x.length
      ⟨_, _, x.length, t, [], 17, [], ⟨F5, by rfl, by rfl, by rfl, Nat.le_refl _, hl5, .nil, by rfl⟩, by (first | assumption | decide | lia | omega), by simp, rfl⟩
    intro kk s6 y6
    refine y6.elim fun m cm a' ta vs f done ⟨F6, hm1, hc1, hc2, ha', hl6, hi6, hd6⟩ hf6 hdl ekk => ?_
    subst ekk
    clear y6
    have W6 : Wd w mg mb s6.heap := W.kp (k.trans F6.base)
    have n_at : ∀ {A'}, Nm prog w A' s6.heap (envBack w.params L) (S "at") (.int (Int.ofNat kk) ta) := F6.ldC (c := L + 2) (by rfl) hc2 (by rfl) (by rfl)
    refine Tr.go (b := decide ((0 : Int) < Int.ofNat kk)) ?t1 fun s7 g7 => ?t2
    case t1 => exact Tr.cmp (Ev.nint n_at) Ev.int Cm.gt
    have F7 := F6.gw g7
    have W7 : Wd w mg mb s7.heap := W6.kp g7.kp
    have hl7 : s7.heap.PlainList a vs.toArray := by obtain ⟨q, e⟩ := hl6; exact ⟨q, g7.kp _ _ e⟩
    have hsa : s.heap.get? a = none := by
      cases q : s.heap.get? a with
      | none => rfl
      | some o => have := F.base _ _ q; rw [hn] at this; cases this
    have hvl : vs.length ≤ sizeLine := by have e1 := hi6.length; simp at e1; have : sizeLine = 16777216 := rfl; (first | assumption | decide | lia | omega)
    by_cases hlt : 0 < kk
    · rw [show decide ((0 : Int) < Int.ofNat kk) = true by simpa using hlt]
      simp only [if_true]
      first | with_reducible refine wpAny_execs_cons ?_ | refine wpAny_execs_cons ?_
      refine F7.append (n := S "cuts") (F7.ldL hm1 (by rfl) (by rfl)) hl7 (Ev.nint (F7.ldC (c := L + 2) (by rfl) hc2 (by rfl) (by rfl))) (hk_none hn) hsa hvl ?_ (hd := by rfl)
      rintro _ s8 F8 hl8 ⟨h₁, k₁, ⟨t8, rfl⟩, sb⟩
      have W8 : Wd w mg mb s8.heap := W.kp (k.trans F8.base)
      have n_at : ∀ {A'}, Nm prog w A' s8.heap (envBack w.params L) (S "at") (.int (Int.ofNat kk) ta) := F8.ldC (c := L + 2) (by rfl) hc2 (by rfl) (by rfl)
      obtain ⟨p1, p2, p3, p4, p5⟩ := behind_spec hx ha' hlt
      refine wpAny_execs_cons (F8.asgC (n := S "at") (c := L + 2) (r₁ := RInt (Int.ofNat (kk - behind x kk))) (Ev.ieq (x := Int.ofNat kk - Int.ofNat (behind x kk)) (by simp only [Int.ofNat_eq_natCast]; (first | assumption | decide | lia | omega)) (Ev.bin (Ev.nint n_at) (Ev.callB (n := S "max") (W8.blt (by rfl) (by rfl) (by rfl) (by rfl) (by rfl) (by rfl) (by rfl)) (EvL.cons (Ev.comp (items := (List.range 3).map fun i : Nat => RInt (1 + (i : Int)))
        (b := fun i => decide ((1 + (i : Int)) ≤ Int.ofNat kk) && isTok x (kk - (1 + i)) kk) (f := fun i => RInt (1 + (i : Int))) (Src.list hh' (Ev.list (EvL.cons Ev.int (EvL.cons Ev.int (EvL.cons Ev.int EvL.nil))))) (Target.loc (by rfl) (by rfl) ?hsc)
        ?tst ?elt (fun _ => Sc.int) (by decide) (by rfl) (by rfl) ?nms) EvL.nil) ?mx (by rfl)) Bn.sub)) Ss.int (by rfl) (by rfl) (by rfl) ?cont)
      case hsc => intro r hr; obtain ⟨i, _, rfl⟩ := List.mem_map.mp hr; exact Sc.int
      case nms => decide +kernel
      case mx => exact Fn.maxf hh' (behind_max hx ha' hlt).1 (behind_max hx ha' hlt).2
      case tst =>
        intro C i h₁ hi ht kh
        obtain ⟨tn, mm, hns, hmn⟩ := TLoc.int ht
        have W9 : Wd w mg mb h₁ := W8.kp kh
        have hi3 : i < 3 := by simpa using hi
        have c_text := (F8.cell (S "text") (L + 1) (by rfl)).keeps kh
        have c_at := (F8.cell (S "at") (L + 2) (by rfl)).keeps kh
        rw [hc1] at c_text
        rw [hc2] at c_at
        refine Tests.one (Tr.and2 (Tr.cmp (Ev.nint (Nm.local hns hmn (by rfl) (by rfl))) (Ev.nint (Nm.cell (by rfl) c_at (by rfl) (by rfl))) Cm.le) fun hle => ?_)
        have hle' : 1 + i ≤ kk := by
          simp only [decide_eq_true_eq, Int.ofNat_eq_natCast] at hle; (first | assumption | decide | lia | omega)
        exact Tr.cmp (Ev.sslice (a := kk - (1 + i)) (b := kk) (Ev.nstr (Nm.cell (by rfl) c_text (by rfl) (by rfl)))
          (Ev.ieq (by simp only [Int.ofNat_eq_natCast]; (first | assumption | decide | lia | omega)) (Ev.bin (Ev.nint (Nm.cell (by rfl) c_at (by rfl) (by rfl))) (Ev.nint (Nm.local hns hmn (by rfl) (by rfl))) Bn.sub)) (Ev.nint (Nm.cell (by rfl) c_at (by rfl) (by rfl))) (by (first | assumption | decide | lia | omega)) ha' hx.szl)
          (Ev.name (n := S "EXACT_TOKEN_TYPES") (v := .ref 36) (W9.glob (by rfl) (by rfl) (by rfl) (by rfl)) (exact_is W9) (by rfl)) Cm.inDict
      case elt =>
        intro C i h₁ hi hb ht kh
        obtain ⟨tn, mm, hns, hmn⟩ := TLoc.int ht
        exact Ev.nint (Nm.local hns hmn (by rfl) (by rfl))
      case cont =>
        intro v s9 F9 y9 hv
        obtain ⟨tv, rfl⟩ := hv
        have hl9 : s9.heap.PlainList a (vs ++ [Value.int (Int.ofNat kk) t8]).toArray := by obtain ⟨q, e⟩ := hl8; exact ⟨q, y9 _ _ e (seq_not_vary rfl)⟩
        refine wpAny_execs_nil ?_
        obtain ⟨f', rfl⟩ : ∃ f', f = f' + 1 := ⟨f - 1, by (first | assumption | decide | lia | omega)⟩
        refine ⟨kk - behind x kk, by (first | assumption | decide | lia | omega), m, _, kk - behind x kk, tv, vs ++ [_], f', done ++ [kk], ⟨F9, hm1, ?_, ?_, by (first | assumption | decide | lia | omega), hl9, ?_, ?_⟩, by (first | assumption | decide | lia | omega), ?_, rfl⟩
        · rw [up_ne (by decide)]; exact hc1
        · exact up_self
        · rw [List.map_append]; exact hi6.append (.cons _ _ .nil)
        · rw [← hd6]; simp [back, hlt]
        · rw [List.length_append, List.length_singleton]; (first | assumption | decide | lia | omega)
    · rw [show decide ((0 : Int) < Int.ofNat kk) = false by simpa using hlt]
      simp only [Bool.false_eq_true, if_false]
      refine wpAny_execs_nil (wpAny_execs_cons (wpAny_Return_some ?_))
      have hfin : back x f kk = [] := by cases f <;> simp [back, hlt]
      rw [hfin, List.append_nil] at hd6
      refine Ev.go (Ev.revslice (Ev.name (r₁ := RInts (done.map Int.ofNat)) (F7.ldL hm1 (by rfl) (by rfl)) ⟨a, vs, rfl, hl7, ints_all2 hi6⟩ (by rfl)) (Ev.neg Ev.int) (by simp; have : sizeLine = 16777216 := rfl; (first | assumption | decide | lia | omega))) fun v s9 g9 hv => ⟨v, rfl, (F7.out).trans g9, ?_⟩
      rw [← hd6, List.map_reverse]
      unfold RInts
      rw [List.map_reverse]
      exact hv
end
end Mine

-- Math0
namespace Mine
section
variable (n : Nat) (tk : Nat → Nat → Prop) (dot : Nat → Prop)
/- a text of operators: what the two readings ask of it -/
structure Txs : Prop where
  one : ∀ i, i < n → tk i (i + 1)
  suf : ∀ j, j + 3 ≤ n → tk j (j + 3) → tk (j + 1) (j + 3) ∨ (dot j ∧ dot (j + 1) ∧ dot (j + 2))
  pre : ∀ j, j + 3 ≤ n → tk j (j + 3) → tk j (j + 2) ∨ (dot j ∧ dot (j + 1) ∧ dot (j + 2))
  dts : ∀ j k i, j < k → k ≤ j + 3 → k ≤ n → tk j k → j ≤ i → i < k → dot i → (∀ i', j ≤ i' → i' < k → dot i') ∧ k ≠ j + 2
  ell : ∀ j, j + 3 ≤ n → dot j → dot (j + 1) → dot (j + 2) → tk j (j + 3)
noncomputable def St (j k : Nat) : Prop := j < k ∧ k ≤ j + 3 ∧ k ≤ n ∧ tk j k
end

section
variable {n : Nat} {tk : Nat → Nat → Prop} {dot : Nat → Prop} {al : Nat → Nat} {g : Nat → Nat} {T : Nat → Nat}

theorem far_abs (X : Txs n tk dot) (hal : ∀ a, a < n → 1 ≤ al a ∧ al a ≤ 3 ∧ a + al a ≤ n ∧ tk a (a + al a) ∧ ∀ m, 1 ≤ m → m ≤ 3 → a + m ≤ n → tk a (a + m) → m ≤ al a)
    (g0 : g 0 = 0) (gs : ∀ i, g (i + 1) = if g i < n then g i + al (g i) else g i)
    (hT0 : T 0 = 0) (hT : ∀ k, 1 ≤ k → k ≤ n → (∃ j, St n tk j k ∧ T k = 1 + T j) ∧ ∀ j, St n tk j k → T k ≤ 1 + T j) :
    (∀ i, g i ≤ n ∧ T (g i) ≤ i) ∧ ∀ i, (∀ k, k ≤ n → T k ≤ i → k ≤ g i) ∧ ¬ ∃ j, j + 1 = g i ∧ j + 3 ≤ n ∧ T j ≤ i ∧ dot j ∧ dot (j + 1) ∧ dot (j + 2) := by
  have c1 : ∀ i, g i ≤ n ∧ T (g i) ≤ i := by
    intro i
    induction i with
    | zero => rw [g0]; exact ⟨Nat.zero_le _, Nat.le_of_eq hT0⟩
    | succ i ih =>
      rw [gs]
      by_cases h : g i < n
      · rw [if_pos h]
        obtain ⟨a1, a2, a3, a4, _⟩ := hal _ h
        refine ⟨a3, ?_⟩
        have := (hT (g i + al (g i)) (Nat.le_trans a1 (Nat.le_add_left _ _)) a3).2 (g i) ⟨Nat.lt_add_of_pos_right a1, Nat.add_le_add_left a2 _, a3, a4⟩
        exact Nat.le_trans this (by rw [Nat.add_comm]; exact Nat.succ_le_succ ih.2)
      · rw [if_neg h]; exact ⟨ih.1, Nat.le_succ_of_le ih.2⟩
  refine ⟨c1, ?_⟩
  intro i
  induction i with
  | zero =>
    rw [g0]
    refine ⟨fun k hk hTk => ?_, fun ⟨j, hj, _⟩ => Nat.succ_ne_zero _ hj⟩
    by_cases h : 1 ≤ k
    · obtain ⟨⟨j, _, e⟩, _⟩ := hT k h hk
      rw [e, Nat.add_comm] at hTk
      exact absurd hTk (Nat.not_succ_le_zero _)
    · exact Nat.le_of_lt_succ (Nat.lt_of_not_le h)
  | succ i ih =>
    obtain ⟨iha, ihb⟩ := ih
    rw [gs]
    by_cases h : g i < n
    · rw [if_pos h]
      obtain ⟨a1, a2, a3, a4, a5⟩ := hal _ h
      constructor
      · intro k hk hTk
        by_cases hk1 : 1 ≤ k
        · obtain ⟨⟨j, hst, e⟩, _⟩ := hT k hk1 hk
          obtain ⟨s1, s2, s3, s4⟩ := hst
          have hTj : T j ≤ i := Nat.le_of_succ_le_succ (by rw [e, Nat.add_comm] at hTk; exact hTk)
          have hj := iha j (Nat.le_of_lt (Nat.lt_of_lt_of_le s1 s3)) hTj
          by_cases hkg : k ≤ g i
          · exact Nat.le_trans hkg (Nat.le_add_right _ _)
          · by_cases hjg : j = g i
            · subst hjg
              have ek : g i + (k - g i) = k := Nat.add_sub_cancel' (Nat.le_of_lt s1)
              have := a5 (k - g i) (Nat.sub_pos_of_lt s1) (Nat.sub_le_iff_le_add'.mpr s2) (by rw [ek]; exact s3) (by rw [ek]; exact s4)
              exact Nat.sub_le_iff_le_add'.mp this
            · by_cases hk2 : k = g i + 1
              · exact Nat.le_trans (Nat.le_of_eq hk2) (Nat.add_le_add_left a1 _)
              · have e1 : k = j + 3 := by (first | assumption | decide | lia | omega)
                have e2 : g i = j + 1 := by (first | assumption | decide | lia | omega)
                subst e1
                rcases X.suf j s3 s4 with q | ⟨d1, d2, d3⟩
                · have := a5 2 (by decide) (by decide) (by rw [e2]; exact s3) (by rw [e2]; exact q)
                  have h5 := Nat.add_le_add_left this (g i)
                  exact Nat.le_trans (Nat.le_of_eq (by rw [e2])) h5
                · exact absurd ⟨j, e2.symm, s3, hTj, d1, d2, d3⟩ ihb
        · exact Nat.le_trans (Nat.le_of_lt_succ (Nat.lt_of_not_le hk1)) (Nat.zero_le _)
      · rintro ⟨j, hj, hjn, hTj, d1, d2, d3⟩
        -- the last token read ends at j + 1 and holds the dot at j
        obtain ⟨q1, q2⟩ := X.dts (g i) (g i + al (g i)) j (Nat.lt_add_of_pos_right a1) (Nat.add_le_add_left a2 _) a3 a4 (by (first | assumption | decide | lia | omega)) (hj ▸ Nat.lt_succ_self j) d1
        have h3 : al (g i) = 1 ∨ al (g i) = 3 := by (first | assumption | decide | lia | omega)
        rcases h3 with h3 | h3
        · have hgj : g i = j := by (first | assumption | decide | lia | omega)
          have := a5 3 (by decide) (by decide) (by rw [hgj]; exact hjn) (by rw [hgj]; exact X.ell j hjn d1 d2 d3)
          rw [h3] at this
          exact absurd this (by decide)
        · have hgj : g i = j - 2 := by (first | assumption | decide | lia | omega)
          have hj2 : 2 ≤ j := by (first | assumption | decide | lia | omega)
          obtain ⟨⟨j', hst, e⟩, _⟩ := hT j (by (first | assumption | decide | lia | omega)) (by (first | assumption | decide | lia | omega))
          obtain ⟨s1, s2, s3, s4⟩ := hst
          obtain ⟨r1, r2⟩ := X.dts j' j (j - 1) s1 s2 s3 s4 (by (first | assumption | decide | lia | omega)) (by (first | assumption | decide | lia | omega)) (q1 (j - 1) (by (first | assumption | decide | lia | omega)) (by (first | assumption | decide | lia | omega)))
          have hj' := iha j' (by (first | assumption | decide | lia | omega)) (by (first | assumption | decide | lia | omega))
          have e3 : j = j' + 3 := by (first | assumption | decide | lia | omega)
          subst e3
          exact ihb ⟨j', by (first | assumption | decide | lia | omega), by (first | assumption | decide | lia | omega), by (first | assumption | decide | lia | omega), r1 j' (Nat.le_refl _) (Nat.lt_add_of_pos_right (by decide)), r1 (j' + 1) (Nat.le_add_right _ _) (Nat.add_lt_add_left (by decide) _), r1 (j' + 2) (Nat.le_add_right _ _) (Nat.add_lt_add_left (by decide) _)⟩
    · rw [if_neg h]
      have := (c1 i).1
      have hgn := Nat.le_of_not_lt h
      exact ⟨fun k hk _ => Nat.le_trans hk hgn, fun ⟨j, hj, hjn, _⟩ => by (first | assumption | decide | lia | omega)⟩

theorem near_abs (X : Txs n tk dot) (hal : ∀ b, 0 < b → b ≤ n → 1 ≤ al b ∧ al b ≤ 3 ∧ al b ≤ b ∧ tk (b - al b) b ∧ ∀ m, 1 ≤ m → m ≤ 3 → m ≤ b → tk (b - m) b → m ≤ al b)
    (g0 : g 0 = n) (gs : ∀ i, g (i + 1) = if 0 < g i then g i - al (g i) else g i)
    (hT0 : T n = 0) (hT : ∀ k, k < n → (∃ j, St n tk k j ∧ T k = 1 + T j) ∧ ∀ j, St n tk k j → T k ≤ 1 + T j) :
    (∀ i, g i ≤ n ∧ T (g i) ≤ i) ∧ ∀ i, (∀ k, k ≤ n → T k ≤ i → g i ≤ k) ∧ ¬ ∃ j, j = g i + 1 ∧ 3 ≤ j ∧ j ≤ n ∧ T j ≤ i ∧ dot (j - 3) ∧ dot (j - 2) ∧ dot (j - 1) := by
  have c1 : ∀ i, g i ≤ n ∧ T (g i) ≤ i := by
    intro i
    induction i with
    | zero => rw [g0]; exact ⟨Nat.le_refl _, Nat.le_of_eq hT0⟩
    | succ i ih =>
      rw [gs]
      by_cases h : 0 < g i
      · rw [if_pos h]
        obtain ⟨a1, a2, a3, a4, _⟩ := hal _ h ih.1
        refine ⟨Nat.le_trans (Nat.sub_le _ _) ih.1, ?_⟩
        have := (hT (g i - al (g i)) (Nat.lt_of_lt_of_le (Nat.sub_lt h a1) ih.1)).2 (g i) ⟨Nat.sub_lt h a1, by (first | assumption | decide | lia | omega), ih.1, a4⟩
        exact Nat.le_trans this (by rw [Nat.add_comm]; exact Nat.succ_le_succ ih.2)
      · rw [if_neg h]; exact ⟨ih.1, Nat.le_succ_of_le ih.2⟩
  refine ⟨c1, ?_⟩
  intro i
  induction i with
  | zero =>
    rw [g0]
    refine ⟨fun k hk hTk => ?_, fun ⟨j, hj, _, hjn, _⟩ => Nat.not_succ_le_self _ (hj ▸ hjn)⟩
    by_cases h : k < n
    · obtain ⟨⟨j, _, e⟩, _⟩ := hT k h
      rw [e, Nat.add_comm] at hTk
      exact absurd hTk (Nat.not_succ_le_zero _)
    · exact Nat.le_of_not_lt h
  | succ i ih =>
    obtain ⟨iha, ihb⟩ := ih
    rw [gs]
    by_cases h : 0 < g i
    · rw [if_pos h]
      obtain ⟨a1, a2, a3, a4, a5⟩ := hal _ h (c1 i).1
      constructor
      · intro k hk hTk
        by_cases hk1 : k < n
        · obtain ⟨⟨j, hst, e⟩, _⟩ := hT k hk1
          obtain ⟨s1, s2, s3, s4⟩ := hst
          have hTj : T j ≤ i := Nat.le_of_succ_le_succ (by rw [e, Nat.add_comm] at hTk; exact hTk)
          have hj := iha j s3 hTj
          by_cases hkg : g i ≤ k
          · exact Nat.le_trans (Nat.sub_le _ _) hkg
          · by_cases hjg : j = g i
            · subst hjg
              have := a5 (g i - k) (Nat.sub_pos_of_lt s1) (Nat.sub_le_iff_le_add'.mpr s2) (Nat.sub_le _ _) (by rw [Nat.sub_sub_self (Nat.le_of_lt s1)]; exact s4)
              exact Nat.sub_le_iff_le_add.mpr (Nat.sub_le_iff_le_add'.mp this)
            · by_cases hk2 : g i = k + 1
              · exact Nat.sub_le_iff_le_add.mpr (Nat.le_trans (Nat.le_of_eq hk2) (Nat.add_le_add_left a1 k))
              · have e1 : j = k + 3 := by (first | assumption | decide | lia | omega)
                have e2 : g i = k + 2 := by (first | assumption | decide | lia | omega)
                subst e1
                rcases X.pre k s3 s4 with q | ⟨d1, d2, d3⟩
                · have := a5 2 (by decide) (by decide) (by rw [e2]; exact Nat.le_add_left _ _) (by rw [e2]; exact q)
                  exact Nat.sub_le_iff_le_add.mpr (Nat.le_trans (Nat.le_of_eq e2) (Nat.add_le_add_left this k))
                · exact absurd ⟨k + 3, by rw [e2], Nat.le_add_left _ _, s3, hTj, d1, d2, d3⟩ ihb
        · exact Nat.le_trans (Nat.le_trans (Nat.sub_le _ _) (c1 i).1) (Nat.le_of_not_lt hk1)
      · rintro ⟨j, hj, hj3, hjn, hTj, d1, d2, d3⟩
        obtain ⟨q1, q2⟩ := X.dts (g i - al (g i)) (g i) (j - 1) (by (first | assumption | decide | lia | omega)) (by (first | assumption | decide | lia | omega)) (c1 i).1 a4 (by (first | assumption | decide | lia | omega)) (by (first | assumption | decide | lia | omega)) d3
        have h3 : al (g i) = 1 ∨ al (g i) = 3 := by (first | assumption | decide | lia | omega)
        rcases h3 with h3 | h3
        · have hgj : g i = j := by (first | assumption | decide | lia | omega)
          have := a5 3 (by decide) (by decide) (by rw [hgj]; exact hj3) (by
            rw [hgj]
            have := X.ell (j - 3) (by (first | assumption | decide | lia | omega)) d1 (by rw [show j - 3 + 1 = j - 2 by (first | assumption | decide | lia | omega)]; exact d2) (by rw [show j - 3 + 2 = j - 1 by (first | assumption | decide | lia | omega)]; exact d3)
            rwa [show j - 3 + 3 = j by (first | assumption | decide | lia | omega)] at this)
          rw [h3] at this
          exact absurd this (by decide)
        · have hgj : g i = j + 2 := by (first | assumption | decide | lia | omega)
          have := (c1 i).1
          obtain ⟨⟨j', hst, e⟩, _⟩ := hT j (by (first | assumption | decide | lia | omega))
          obtain ⟨s1, s2, s3, s4⟩ := hst
          obtain ⟨r1, r2⟩ := X.dts j j' j s1 s2 s3 s4 (by (first | assumption | decide | lia | omega)) (by (first | assumption | decide | lia | omega)) (q1 j (by (first | assumption | decide | lia | omega)) (by (first | assumption | decide | lia | omega)))
          have hj' := iha j' s3 (by (first | assumption | decide | lia | omega))
          have e3 : j' = j + 3 := by (first | assumption | decide | lia | omega)
          subst e3
          exact ihb ⟨j + 3, by (first | assumption | decide | lia | omega), by (first | assumption | decide | lia | omega), s3, by (first | assumption | decide | lia | omega), r1 _ (by (first | assumption | decide | lia | omega)) (by (first | assumption | decide | lia | omega)), r1 _ (by (first | assumption | decide | lia | omega)) (by (first | assumption | decide | lia | omega)), r1 _ (by (first | assumption | decide | lia | omega)) (by (first | assumption | decide | lia | omega))⟩
    · rw [if_neg h]
      have hg0 : g i = 0 := Nat.le_zero.mp (Nat.le_of_not_lt h)
      exact ⟨fun k hk _ => hg0 ▸ Nat.zero_le k, fun ⟨j, hj, hj3, _⟩ => by rw [hg0] at hj; rw [hj] at hj3; exact absurd hj3 (by decide)⟩
end
end Mine

-- Math1
namespace Mine
/- one operator leads from j to k -/
noncomputable def Stp (x : Str) (j k : Nat) : Prop := j < k ∧ k ≤ j + 3 ∧ k ≤ x.length ∧ isTok x j k = true
noncomputable def LeastAt (x : Str) (T : Nat → Nat) (k : Nat) : Prop := if k = 0 then T k = 0 else (∃ j, Stp x j k ∧ T k = 1 + T j) ∧ ∀ j, Stp x j k → T k ≤ 1 + T j
noncomputable def RestAt (x : Str) (U : Nat → Nat) (k : Nat) : Prop := if k = x.length then U k = 0 else (∃ j, Stp x k j ∧ U k = 1 + U j) ∧ ∀ j, Stp x k j → U k ≤ 1 + U j

noncomputable def isK (l : List Nat) : Bool := (exact.lookup ⟨l.toArray⟩).isSome
noncomputable def chk (k : Str) : Bool := match k.cps.toList with
  | [_] => true
  | [a, b] => !(a == 46) && !(b == 46)
  | [a, b, c] => (isK [b, c] && isK [a, b] && !(a == 46) && !(b == 46) && !(c == 46)) || (a == 46 && b == 46 && c == 46)
  | _ => false
theorem chk_all : (exact.all fun p => chk p.1) = true := by decide +kernel
theorem chk_of {l : List Nat} (h : isK l = true) : chk ⟨l.toArray⟩ = true := by
  obtain ⟨v, hv⟩ := Option.isSome_iff_exists.mp h
  exact List.all_eq_true.mp chk_all _ (mem_of_lookup hv)
theorem ell_k : isK [46, 46, 46] = true := by decide +kernel

noncomputable def ch (x : Str) (i : Nat) : Nat := x.cps.toList.getD i 0
theorem drop_ch {x : Str} {a : Nat} (h : a < x.length) : x.cps.toList.drop a = ch x a :: x.cps.toList.drop (a + 1) := by
  have h' : a < x.cps.toList.length := by rw [Array.length_toList]; exact h
  rw [List.drop_eq_getElem_cons h']
  congr 1
  unfold ch List.getD
  rw [List.getElem?_eq_getElem h']
  rfl
theorem tok1 {x : Str} {a : Nat} (h : a + 1 ≤ x.length) : isTok x a (a + 1) = isK [ch x a] := by
  unfold isTok isK sub
  rw [show a + 1 - a = 1 by (first | assumption | decide | lia | omega), drop_ch (by (first | assumption | decide | lia | omega))]; rfl
theorem tok2 {x : Str} {a : Nat} (h : a + 2 ≤ x.length) : isTok x a (a + 2) = isK [ch x a, ch x (a + 1)] := by
  unfold isTok isK sub
  rw [show a + 2 - a = 2 by (first | assumption | decide | lia | omega), drop_ch (by (first | assumption | decide | lia | omega)), drop_ch (a := a + 1) (by (first | assumption | decide | lia | omega))]; rfl
theorem tok3 {x : Str} {a : Nat} (h : a + 3 ≤ x.length) : isTok x a (a + 3) = isK [ch x a, ch x (a + 1), ch x (a + 2)] := by
  unfold isTok isK sub
  rw [show a + 3 - a = 3 by (first | assumption | decide | lia | omega), drop_ch (by (first | assumption | decide | lia | omega)), drop_ch (a := a + 1) (by (first | assumption | decide | lia | omega)), drop_ch (a := a + 1 + 1) (by (first | assumption | decide | lia | omega))]; rfl

theorem txs_of {x : Str} (hx : Good x) : Txs x.length (fun a b => isTok x a b = true) (fun i => ch x i = 46) where
  one := hx.2.2
  suf := fun j hj h => by
    rw [tok3 hj] at h
    have := chk_of h
    simp only [chk, Bool.or_eq_true, Bool.and_eq_true, beq_iff_eq] at this
    rcases this with q | q
    · left; rw [show j + 3 = j + 1 + 2 by (first | assumption | decide | lia | omega), tok2 (by (first | assumption | decide | lia | omega))]; exact q.1.1.1.1
    · right; exact ⟨q.1.1, q.1.2, q.2⟩
  pre := fun j hj h => by
    rw [tok3 hj] at h
    have := chk_of h
    simp only [chk, Bool.or_eq_true, Bool.and_eq_true, beq_iff_eq] at this
    rcases this with q | q
    · left; rw [tok2 (by (first | assumption | decide | lia | omega))]; exact q.1.1.1.2
    · right; exact ⟨q.1.1, q.1.2, q.2⟩
  dts := fun j k i h1 h2 h3 h4 h5 h6 h7 => by
    have hc : k = j + 1 ∨ k = j + 2 ∨ k = j + 3 := by (first | assumption | decide | lia | omega)
    rcases hc with rfl | rfl | rfl
    · refine ⟨fun i' a b => ?_, by (first | assumption | decide | lia | omega)⟩
      obtain rfl : i' = i := by (first | assumption | decide | lia | omega)
      exact h7
    · rw [tok2 h3] at h4
      have := chk_of h4
      simp only [chk, Bool.and_eq_true, Bool.not_eq_true', beq_eq_false_iff_ne] at this
      have hi : i = j ∨ i = j + 1 := by (first | assumption | decide | lia | omega)
      rcases hi with rfl | rfl
      · exact absurd h7 this.1
      · exact absurd h7 this.2
    · rw [tok3 h3] at h4
      have := chk_of h4
      simp only [chk, Bool.or_eq_true, Bool.and_eq_true, Bool.not_eq_true', beq_eq_false_iff_ne, beq_iff_eq] at this
      have hi : i = j ∨ i = j + 1 ∨ i = j + 2 := by (first | assumption | decide | lia | omega)
      rcases this with q | q
      · rcases hi with rfl | rfl | rfl
        · exact absurd h7 q.1.1.2
        · exact absurd h7 q.1.2
        · exact absurd h7 q.2
      · refine ⟨fun i' a b => ?_, by (first | assumption | decide | lia | omega)⟩
        have hi' : i' = j ∨ i' = j + 1 ∨ i' = j + 2 := by (first | assumption | decide | lia | omega)
        rcases hi' with rfl | rfl | rfl
        · exact q.1.1
        · exact q.1.2
        · exact q.2
  ell := fun j hj a b c => by rw [tok3 hj, a, b, c]; exact ell_k

noncomputable def gF (x : Str) : Nat → Nat
  | 0 => 0
  | i + 1 => if gF x i < x.length then gF x i + ahead x (gF x i) else gF x i
noncomputable def gB (x : Str) : Nat → Nat
  | 0 => x.length
  | i + 1 => if 0 < gB x i then gB x i - behind x (gB x i) else gB x i
theorem gF_le {x : Str} (hx : Good x) : ∀ i, gF x i ≤ x.length
  | 0 => Nat.zero_le _
  | i + 1 => by
    unfold gF
    split
    · rename_i h; exact (ahead_spec hx h).2.2.1
    · exact gF_le hx i
theorem gB_le {x : Str} (hx : Good x) : ∀ i, gB x i ≤ x.length
  | 0 => Nat.le_refl _
  | i + 1 => by
    unfold gB
    split
    · exact Nat.le_trans (Nat.sub_le _ _) (gB_le hx i)
    · exact gB_le hx i
theorem front_spec {x : Str} (hx : Good x) : ∀ f i, x.length - gF x i ≤ f → gF x (i + (front x f (gF x i)).length) = x.length ∧ ∀ j, j < (front x f (gF x i)).length → (front x f (gF x i)).getD j 0 = gF x (i + j + 1) ∧ gF x (i + j) < x.length
  | 0, i, h => by
    have := gF_le hx i
    simp only [front, List.length_nil, Nat.add_zero]
    exact ⟨by (first | assumption | decide | lia | omega), fun j hj => absurd hj (Nat.not_lt_zero _)⟩
  | f + 1, i, h => by
    by_cases hlt : gF x i < x.length
    · have e : gF x (i + 1) = gF x i + ahead x (gF x i) := by rw [gF, if_pos hlt]
      have a1 := (ahead_spec hx hlt).1
      have ih := front_spec hx f (i + 1) (by rw [e]; (first | assumption | decide | lia | omega))
      rw [e] at ih
      rw [front, if_pos hlt]
      refine ⟨?_, fun j hj => ?_⟩
      · rw [List.length_cons, show i + ((front x f (gF x i + ahead x (gF x i))).length + 1) = i + 1 + (front x f (gF x i + ahead x (gF x i))).length by (first | assumption | decide | lia | omega)]; exact ih.1
      · cases j with
        | zero => exact ⟨by simp [e], by simpa using hlt⟩
        | succ j =>
          have := ih.2 j (by simpa using hj)
          rw [show i + 1 + j + 1 = i + (j + 1) + 1 by (first | assumption | decide | lia | omega), show i + 1 + j = i + (j + 1) by (first | assumption | decide | lia | omega)] at this
          exact ⟨by simpa using this.1, this.2⟩
    · have := gF_le hx i
      rw [front, if_neg hlt]
      exact ⟨by simp; (first | assumption | decide | lia | omega), fun j hj => absurd hj (Nat.not_lt_zero _)⟩
theorem back_spec {x : Str} (hx : Good x) : ∀ f i, gB x i ≤ f → gB x (i + (back x f (gB x i)).length) = 0 ∧ ∀ j, j < (back x f (gB x i)).length → (back x f (gB x i)).getD j 0 = gB x (i + j) ∧ 0 < gB x (i + j)
  | 0, i, h => by
    simp only [back, List.length_nil, Nat.add_zero]
    exact ⟨by (first | assumption | decide | lia | omega), fun j hj => absurd hj (Nat.not_lt_zero _)⟩
  | f + 1, i, h => by
    by_cases hlt : 0 < gB x i
    · have e : gB x (i + 1) = gB x i - behind x (gB x i) := by rw [gB, if_pos hlt]
      have a1 := (behind_spec hx (gB_le hx i) hlt).1
      have ih := back_spec hx f (i + 1) (by rw [e]; (first | assumption | decide | lia | omega))
      rw [e] at ih
      rw [back, if_pos hlt]
      refine ⟨?_, fun j hj => ?_⟩
      · rw [List.length_cons, show i + ((back x f (gB x i - behind x (gB x i))).length + 1) = i + 1 + (back x f (gB x i - behind x (gB x i))).length by (first | assumption | decide | lia | omega)]; exact ih.1
      · cases j with
        | zero => exact ⟨by simp, by simpa using hlt⟩
        | succ j =>
          have := ih.2 j (by simpa using hj)
          rw [show i + 1 + j = i + (j + 1) by (first | assumption | decide | lia | omega)] at this
          exact ⟨by simpa using this.1, this.2⟩
    · rw [back, if_neg hlt]
      exact ⟨by simp; (first | assumption | decide | lia | omega), fun j hj => absurd hj (Nat.not_lt_zero _)⟩

theorem gF_grow {x : Str} (hx : Good x) : ∀ i, (∀ j, j < i → gF x j < x.length) → i ≤ gF x i
  | 0, _ => Nat.zero_le _
  | i + 1, h => by
    have ih := gF_grow hx i fun j hj => h j (by (first | assumption | decide | lia | omega))
    have hl := h i (by (first | assumption | decide | lia | omega))
    rw [gF, if_pos hl]
    have := (ahead_spec hx hl).1
    (first | assumption | decide | lia | omega)
theorem gB_fall {x : Str} (hx : Good x) : ∀ i, (∀ j, j < i → 0 < gB x j) → gB x i + i ≤ x.length
  | 0, _ => Nat.le_refl _
  | i + 1, h => by
    have ih := gB_fall hx i fun j hj => h j (by (first | assumption | decide | lia | omega))
    have hl := h i (by (first | assumption | decide | lia | omega))
    rw [gB, if_pos hl]
    have := behind_spec hx (gB_le hx i) hl
    (first | assumption | decide | lia | omega)
theorem front_len {x : Str} (hx : Good x) : (front x 17 0).length ≤ 16 ∧ 0 < (front x 17 0).length := by
  have hl := hx.2.1
  have h0 := hx.1
  obtain ⟨s1, s2⟩ := front_spec hx 17 0 (by show x.length - 0 ≤ 17; (first | assumption | decide | lia | omega))
  change gF x (0 + (front x 17 0).length) = x.length at s1
  change ∀ j, j < (front x 17 0).length → (front x 17 0).getD j 0 = gF x (0 + j + 1) ∧ gF x (0 + j) < x.length at s2
  rw [Nat.zero_add] at s1
  have := gF_grow hx (front x 17 0).length fun j hj => by have := (s2 j hj).2; rwa [Nat.zero_add] at this
  refine ⟨by (first | assumption | decide | lia | omega), Nat.pos_of_ne_zero fun q => ?_⟩
  rw [q] at s1
  change 0 = x.length at s1
  (first | assumption | decide | lia | omega)
theorem back_len {x : Str} (hx : Good x) : (back x 17 x.length).length ≤ 16 ∧ 0 < (back x 17 x.length).length := by
  have hl := hx.2.1
  have h0 := hx.1
  obtain ⟨s1, s2⟩ := back_spec hx 17 0 (by show x.length ≤ 17; (first | assumption | decide | lia | omega))
  change gB x (0 + (back x 17 x.length).length) = 0 at s1
  change ∀ j, j < (back x 17 x.length).length → (back x 17 x.length).getD j 0 = gB x (0 + j) ∧ 0 < gB x (0 + j) at s2
  rw [Nat.zero_add] at s1
  have := gB_fall hx (back x 17 x.length).length fun j hj => by have := (s2 j hj).2; rwa [Nat.zero_add] at this
  refine ⟨by (first | assumption | decide | lia | omega), Nat.pos_of_ne_zero fun q => ?_⟩
  rw [q] at s1
  change x.length = 0 at s1
  (first | assumption | decide | lia | omega)
theorem far_math {x : Str} (hx : Good x) {T : Nat → Nat} (hT : ∀ k, k ≤ x.length → LeastAt x T k) :
    T x.length = (front x 17 0).length ∧ ∀ i, i < (front x 17 0).length → (front x 17 0).getD i 0 ≤ x.length ∧ T ((front x 17 0).getD i 0) ≤ i + 1 ∧ ∀ k, k ≤ x.length → T k ≤ i + 1 → k ≤ (front x 17 0).getD i 0 := by
  have hl := hx.2.1
  obtain ⟨s1, s2⟩ := front_spec hx 17 0 (by show x.length - 0 ≤ 17; (first | assumption | decide | lia | omega))
  change gF x (0 + (front x 17 0).length) = x.length at s1
  change ∀ j, j < (front x 17 0).length → (front x 17 0).getD j 0 = gF x (0 + j + 1) ∧ gF x (0 + j) < x.length at s2
  rw [Nat.zero_add] at s1
  obtain ⟨c1, c2⟩ := far_abs (g := gF x) (T := T) (al := ahead x) (txs_of hx) (fun a ha => ahead_spec hx ha) rfl (fun i => rfl) (by have := hT 0 (Nat.zero_le _); simpa [LeastAt] using this)
    (fun k hk hk' => by have := hT k hk'; rw [LeastAt, if_neg (by (first | assumption | decide | lia | omega))] at this; exact this)
  constructor
  · have h1 := (c1 (front x 17 0).length).2
    rw [s1] at h1
    have h2 := (c2 (T x.length)).1 x.length (Nat.le_refl _) (Nat.le_refl _)
    rcases Nat.lt_or_ge (T x.length) (front x 17 0).length with q | q
    · have := (s2 _ q).2
      rw [Nat.zero_add] at this
      (first | assumption | decide | lia | omega)
    · (first | assumption | decide | lia | omega)
  · intro i hi
    rw [(s2 i hi).1, Nat.zero_add]
    exact ⟨(c1 _).1, (c1 _).2, (c2 _).1⟩
theorem near_math {x : Str} (hx : Good x) {U : Nat → Nat} (hU : ∀ k, k ≤ x.length → RestAt x U k) :
    U 0 = (back x 17 x.length).length ∧ ∀ i, i < (back x 17 x.length).length → (back x 17 x.length).getD i 0 ≤ x.length ∧ U ((back x 17 x.length).getD i 0) ≤ i ∧ ∀ k, k ≤ x.length → U k ≤ i → (back x 17 x.length).getD i 0 ≤ k := by
  have hl := hx.2.1
  obtain ⟨s1, s2⟩ := back_spec hx 17 0 (by show x.length ≤ 17; (first | assumption | decide | lia | omega))
  change gB x (0 + (back x 17 x.length).length) = 0 at s1
  change ∀ j, j < (back x 17 x.length).length → (back x 17 x.length).getD j 0 = gB x (0 + j) ∧ 0 < gB x (0 + j) at s2
  rw [Nat.zero_add] at s1
  obtain ⟨c1, c2⟩ := near_abs (g := gB x) (T := U) (al := behind x) (txs_of hx) (fun b h0 hb => behind_spec hx hb h0) rfl (fun i => rfl) (by have := hU x.length (Nat.le_refl _); simpa [RestAt] using this)
    (fun k hk => by have := hU k (by (first | assumption | decide | lia | omega)); rw [RestAt, if_neg (by (first | assumption | decide | lia | omega))] at this; exact this)
  constructor
  · have h1 := (c1 (back x 17 x.length).length).2
    rw [s1] at h1
    have h2 := (c2 (U 0)).1 0 (Nat.zero_le _) (Nat.le_refl _)
    rcases Nat.lt_or_ge (U 0) (back x 17 x.length).length with q | q
    · have := (s2 _ q).2
      rw [Nat.zero_add] at this
      (first | assumption | decide | lia | omega)
    · (first | assumption | decide | lia | omega)
  · intro i hi
    rw [(s2 i hi).1, Nat.zero_add]
    exact ⟨(c1 _).1, (c1 _).2, (c2 _).1⟩
end Mine

-- Law4
namespace Mine
theorem lk60 (P : Params) : (KF P).lookup 60 = some (objAt P 60) := by rfl
theorem fd60 (P : Params) : (objAt P 60).data = .func (fdOf (objAt P 60)) := by rfl
theorem bd60 (P : Params) : (fdOf (objAt P 60)).body = .stmts (bodyOf (fdOf (objAt P 60))) := by rfl
theorem cd60 (P : Params) : codeIn (KF P) (fdOf (objAt P 60)).code (fdOf (objAt P 60)).qualname = true := by rfl
noncomputable abbrev envDue (P : Params) (L : Addr) : Env := callEnvC (fdOf (objAt P 60)) L 60

/- the test within goes -/
noncomputable def goB (x : Str) (k i : Nat) : Bool := decide ((k : Int) + (1 + (i : Int)) ≤ x.length) && isTok x k (k + (1 + i))
noncomputable def goI (x : Str) (k : Nat) : List Int := ((List.range 3).filter (goB x k)).map fun i : Nat => (k : Int) + (1 + (i : Int))
noncomputable def goR (x : Str) (k : Nat) : List R := (goI x k).map RInt
theorem goR_eq (x : Str) (k : Nat) : ((List.range 3).filter (goB x k)).map (fun i : Nat => RInt ((k : Int) + (1 + (i : Int)))) = goR x k := by unfold goR goI; rw [List.map_map]; rfl
theorem go_mem {x : Str} {j k : Nat} : (k : Int) ∈ goI x j ↔ Stp x j k := by
  unfold goI goB Stp
  simp only [List.mem_map, List.mem_filter, List.mem_range, Bool.and_eq_true, decide_eq_true_eq]
  constructor
  · rintro ⟨i, ⟨h1, h2, h3⟩, h4⟩
    have : k = j + (1 + i) := by exact_mod_cast h4.symm
    subst this
    exact ⟨Nat.lt_add_of_pos_right (Nat.lt_of_lt_of_le Nat.zero_lt_one (Nat.le_add_right 1 i)), Nat.add_le_add_left (by rw [Nat.add_comm]; exact h1) j, by exact_mod_cast h2, h3⟩
  · rintro ⟨h1, h2, h3, h4⟩
    have e : j + (1 + (k - j - 1)) = k := by (first | assumption | decide | lia | omega)
    have e' : (j : Int) + (1 + ((k - j - 1 : Nat) : Int)) = (k : Int) := by exact_mod_cast congrArg (Nat.cast (R := Int)) e
    exact ⟨k - j - 1, ⟨by (first | assumption | decide | lia | omega), by rw [e']; exact_mod_cast h3, by rw [e]; exact h4⟩, e'⟩
theorem go_any {x : Str} {j k : Nat} : (goI x j).any (· == (k : Int)) = true ↔ Stp x j k := by
  rw [← go_mem, List.any_eq_true]
  constructor
  · rintro ⟨a, h1, h2⟩; rw [← beq_iff_eq.mp h2]; exact h1
  · intro h1; exact ⟨_, h1, by simp⟩
theorem exists_min {f : Nat → Nat} : ∀ {l : List Nat}, l ≠ [] → ∃ q ∈ l, ∀ q' ∈ l, f q ≤ f q'
  | [], h => absurd rfl h
  | [a], _ => ⟨a, by simp, by simp⟩
  | a :: b :: l, _ => by
    obtain ⟨q, hq, hm⟩ := exists_min (f := f) (l := b :: l) (by simp)
    by_cases h : f a ≤ f q
    · refine ⟨a, by simp, fun q' hq' => ?_⟩
      rcases List.mem_cons.mp hq' with rfl | hq'
      · exact Nat.le_refl _
      · exact Nat.le_trans h (hm q' hq')
    · refine ⟨q, List.mem_cons_of_mem _ hq, fun q' hq' => ?_⟩
      rcases List.mem_cons.mp hq' with rfl | hq'
      · (first | assumption | decide | lia | omega)
      · exact hm q' hq'
noncomputable def tab (n : Nat) (T : Nat → Nat) : List Int := (List.range n).map fun k => (T k : Int)
theorem tab_set {n k v : Nat} {T : Nat → Nat} : (tab n T).set k (v : Int) = tab n (fun q => if q = k then v else T q) := by
  apply List.ext_getElem
  · simp [tab]
  · intro i h1 h2
    simp only [tab, List.getElem_set, List.getElem_map, List.getElem_range]
    by_cases h : k = i
    · simp [h]
    · simp [h, Ne.symm h]
theorem tab_get {n k : Nat} {T : Nat → Nat} (h : k < n) : ((tab n T).map RInt)[k]? = some (RInt (T k)) := by simp [tab, h]
theorem tab_len {n : Nat} {T : Nat → Nat} : (tab n T).length = n := by simp [tab]

theorem ar0 (q : Nat) : (0 : Int) + (q : Int) * 1 = (q : Int) := by (first | assumption | decide | lia | omega)
theorem ar1 (i : Nat) : (1 : Int) + (i : Int) * 1 = ((i + 1 : Nat) : Int) := by (first | assumption | decide | lia | omega)
theorem ar2 (b q : Nat) : (b : Int) + (q : Int) * 1 = ((b + q : Nat) : Int) := by (first | assumption | decide | lia | omega)
theorem ar3 (k : Nat) : (1 : Int) + (k : Int) = ((1 + k : Nat) : Int) := by (first | assumption | decide | lia | omega)
theorem nn (k : Nat) : (0 : Int) ≤ (k : Int) := Int.natCast_nonneg k
theorem n62 {k n : Nat} (h : k ≤ n) (hn : n ≤ 16) : (k : Int) < 2 ^ 62 := by omega (splitDisjunctions := true)
theorem n30 {k n : Nat} (h : k ≤ n) (hn : n ≤ 16) : (k : Int) < 2 ^ 30 := by omega (splitDisjunctions := true)
theorem m30 (k : Nat) : -2 ^ 30 < (k : Int) := by omega (splitDisjunctions := true)
theorem LeastAt.step {x : Str} {T : Nat → Nat} {i j0 : Nat} (hT : ∀ k, k ≤ i → LeastAt x T k) (hst : Stp x j0 (i + 1)) (hmin : ∀ j, Stp x j (i + 1) → T j0 ≤ T j) : ∀ k, k ≤ i + 1 → LeastAt x (fun q => if q = i + 1 then 1 + T j0 else T q) k := by
  intro k hk
  by_cases hki : k = i + 1
  · subst hki
    unfold LeastAt
    rw [if_neg (Nat.succ_ne_zero i)]
    refine ⟨⟨j0, hst, by show (if _ then _ else _) = 1 + (if _ then _ else _); rw [if_pos rfl, if_neg (Nat.ne_of_lt hst.1)]⟩, fun j hj => ?_⟩
    simp only [if_true]
    rw [if_neg (Nat.ne_of_lt hj.1)]
    exact Nat.add_le_add_left (hmin j hj) 1
  · have hk' : k ≤ i := Nat.le_of_lt_succ (Nat.lt_of_le_of_ne hk hki)
    have := hT k hk'
    unfold LeastAt at this ⊢
    simp only [if_neg hki]
    by_cases hk0 : k = 0
    · rw [if_pos hk0] at this ⊢; exact this
    · rw [if_neg hk0] at this ⊢
      obtain ⟨⟨j, hj, e⟩, hall⟩ := this
      have ne : ∀ j, j < k → ¬ j = i + 1 := fun j h => Nat.ne_of_lt (Nat.lt_of_lt_of_le h hk)
      refine ⟨⟨j, hj, ?_⟩, fun j' hj' => ?_⟩
      · rw [if_neg (ne j hj.1)]; exact e
      · rw [if_neg (ne j' hj'.1)]; exact hall j' hj'
theorem RestAt.step {x : Str} {U : Nat → Nat} {K j0 : Nat} (hK : K < x.length) (hU : ∀ k, K + 1 ≤ k → k ≤ x.length → RestAt x U k) (hst : Stp x K j0) (hmin : ∀ j, Stp x K j → U j0 ≤ U j) : ∀ k, K ≤ k → k ≤ x.length → RestAt x (fun q => if q = K then 1 + U j0 else U q) k := by
  intro k hk hk'
  by_cases hki : k = K
  · subst hki
    unfold RestAt
    rw [if_neg (Nat.ne_of_lt hK)]
    refine ⟨⟨j0, hst, by show (if _ then _ else _) = 1 + (if _ then _ else _); rw [if_pos rfl, if_neg (Nat.ne_of_gt hst.1)]⟩, fun j hj => ?_⟩
    simp only [if_true]
    rw [if_neg (Nat.ne_of_gt hj.1)]
    exact Nat.add_le_add_left (hmin j hj) 1
  · have hlt : K < k := Nat.lt_of_le_of_ne hk (Ne.symm hki)
    have := hU k hlt hk'
    unfold RestAt at this ⊢
    simp only [if_neg hki]
    by_cases hk0 : k = x.length
    · rw [if_pos hk0] at this ⊢; exact this
    · rw [if_neg hk0] at this ⊢
      obtain ⟨⟨j, hj, e⟩, hall⟩ := this
      have ne : ∀ j, k < j → ¬ j = K := fun j h => Nat.ne_of_gt (Nat.lt_trans hlt h)
      refine ⟨⟨j, hj, ?_⟩, fun j' hj' => ?_⟩
      · rw [if_neg (ne j hj.1)]; exact e
      · rw [if_neg (ne j' hj'.1)]; exact hall j' hj'
/- the candidates of one step from the front -/
noncomputable def cand (x : Str) (i : Nat) : List Nat := (List.range (i + 1 - (i + 1 - 3))).filter fun q => (goI x (i + 1 - 3 + q)).any (· == ((i + 1 : Nat) : Int))
theorem least_pick {x : Str} (hx : Good x) {T : Nat → Nat} {i : Nat} (hi : i < x.length) (hT : ∀ k, k ≤ i → LeastAt x T k) :
    ∃ q0, q0 ∈ cand x i ∧ (∀ q' ∈ cand x i, T (i + 1 - 3 + q0) ≤ T (i + 1 - 3 + q')) ∧ ∀ k, k ≤ i + 1 → LeastAt x (fun q => if q = i + 1 then 1 + T (i + 1 - 3 + q0) else T q) k := by
  have key : ∀ j, Stp x j (i + 1) → ∃ q, q ∈ cand x i ∧ i + 1 - 3 + q = j := by
    intro j hj
    have h1 := hj.1
    have h2 := hj.2.1
    have e : i + 1 - 3 + (j - (i + 1 - 3)) = j := by (first | assumption | decide | lia | omega)
    exact ⟨j - (i + 1 - 3), List.mem_filter.mpr ⟨List.mem_range.mpr (by (first | assumption | decide | lia | omega)), by rw [e]; exact go_any.mpr hj⟩, e⟩
  obtain ⟨q1, hq1, _⟩ := key i ⟨Nat.lt_succ_self i, by (first | assumption | decide | lia | omega), hi, hx.2.2 i hi⟩
  obtain ⟨q0, hq0, hmin⟩ := exists_min (f := fun q => T (i + 1 - 3 + q)) (l := cand x i) (List.ne_nil_of_mem hq1)
  refine ⟨q0, hq0, hmin, LeastAt.step hT (go_any.mp (List.mem_filter.mp hq0).2) fun j hj => ?_⟩
  obtain ⟨q, hq, e⟩ := key j hj
  have := hmin q hq
  rw [e] at this
  exact this
theorem go_get {x : Str} {k q : Nat} (hq : q < (goI x k).length) : ∃ j : Nat, (goI x k).getD q 0 = (j : Int) ∧ Stp x k j := by
  have hm : (goI x k).getD q 0 ∈ goI x k := by simp [List.getD, hq]
  obtain ⟨i', hi', e'⟩ := List.mem_map.mp hm
  have e2 : ((k + (1 + i') : Nat) : Int) = (k : Int) + (1 + (i' : Int)) := by push_cast; rfl
  exact ⟨k + (1 + i'), by rw [← e', e2], go_mem.mp (by rw [e2, e']; exact hm)⟩
theorem rest_pick {x : Str} (hx : Good x) {U : Nat → Nat} {K : Nat} (hK : K < x.length) (hU : ∀ k, K + 1 ≤ k → k ≤ x.length → RestAt x U k) :
    ∃ q0 j0 : Nat, q0 ∈ List.range (goI x K).length ∧ (goI x K).getD q0 0 = (j0 : Int) ∧ Stp x K j0 ∧ (∀ q ∈ List.range (goI x K).length, U j0 ≤ U ((goI x K).getD q 0).toNat) ∧
      ∀ k, K ≤ k → k ≤ x.length → RestAt x (fun q => if q = K then 1 + U j0 else U q) k := by
  have gj : ∀ {j : Nat}, Stp x K j → ∃ q, q < (goI x K).length ∧ (goI x K).getD q 0 = (j : Int) := fun {j} hj => by
    obtain ⟨q, hq, e⟩ := List.getElem_of_mem (go_mem.mpr hj)
    exact ⟨q, hq, by simp [List.getD, hq, e]⟩
  obtain ⟨q1, hq1, _⟩ := gj (j := K + 1) ⟨Nat.lt_succ_self K, by (first | assumption | decide | lia | omega), hK, hx.2.2 K hK⟩
  obtain ⟨q0, hq0, hmin⟩ := exists_min (f := fun q => U ((goI x K).getD q 0).toNat) (l := List.range (goI x K).length) (List.ne_nil_of_mem (List.mem_range.mpr hq1))
  obtain ⟨j0, hj0, hst⟩ := go_get (List.mem_range.mp hq0)
  simp only [hj0, Int.toNat_natCast] at hmin
  refine ⟨q0, j0, hq0, hj0, hst, hmin, RestAt.step hK hU hst fun j hj => ?_⟩
  obtain ⟨q, hq, e⟩ := gj hj
  have := hmin q (List.mem_range.mpr hq)
  rw [e, Int.toNat_natCast] at this
  exact this
end Mine

-- Law5
namespace Mine
noncomputable def dueSt (P : Params) (i : Nat) : Stmt := (bodyOf (fdOf (objAt P 60))).getD i (.Pass ⟨0, 0, 0, 0⟩)

/- the names of _law_due, all but the loops' own -/
structure DN (x : Str) (tx tz : Tok) (vk vg : Value) (aL aR : Addr) (cm : Str → Option Value) : Prop where
  text : cm (S "text") = some (.str x tx)
  kinds : cm (S "kinds") = some vk
  size : cm (S "size") = some (.int x.length tz)
  goes : cm (S "goes") = some vg
  least : cm (S "least") = some (.ref aL)
  rest : cm (S "rest") = some (.ref aR)
theorem DN.k {x tx tz vk vg aL aR cm v} (d : DN x tx tz vk vg aL aR cm) : DN x tx tz vk vg aL aR (up cm (S "k") v) :=
  ⟨(up_ne (by decide)).trans d.text, (up_ne (by decide)).trans d.kinds, (up_ne (by decide)).trans d.size, (up_ne (by decide)).trans d.goes, (up_ne (by decide)).trans d.least, (up_ne (by decide)).trans d.rest⟩
noncomputable def JL (x : Str) (tx tz : Tok) (vk vg : Value) (aL aR : Addr) (vR : List Value) (i : Nat) (m' cm' : Str → Option Value) (h : Heap) : Prop :=
  DN x tx tz vk vg aL aR cm' ∧ (∃ (T : Nat → Nat) (vL' : List Value), h.PlainList aL vL'.toArray ∧ IntsAre vL' (tab (x.length + 1) T) ∧ ∀ k, k ≤ i → LeastAt x T k) ∧ h.PlainList aR vR.toArray
noncomputable def JR (x : Str) (tx tz : Tok) (vk vg : Value) (aL aR : Addr) (vL : List Value) (i : Nat) (m' cm' : Str → Option Value) (h : Heap) : Prop :=
  DN x tx tz vk vg aL aR cm' ∧ (∃ (U : Nat → Nat) (vR' : List Value), h.PlainList aR vR'.toArray ∧ IntsAre vR' (tab (x.length + 1) U) ∧ ∀ k, x.length - i ≤ k → k ≤ x.length → RestAt x U k) ∧ h.PlainList aL vL.toArray
noncomputable def RGoes (x : Str) : R := RList ((List.range x.length).map fun k => RList (goR x k))
theorem RGoes.ss {x : Str} : Ss (RGoes x) := Ss.list (by intro r hr; obtain ⟨i, _, rfl⟩ := List.mem_map.mp hr; exact Ss.list (by intro r hr; obtain ⟨i, _, rfl⟩ := List.mem_map.mp hr; exact Ss.int))

section
variable {prog : Program} {w : World} {A : Around} {h : Heap} {mg mb : Str → Option Value} {s sS : Shared} {L : Nat} {x : Str} {tx tz : Tok} {vk vg : Value} {aL aR : Addr} {m cm : Str → Option Value} {h3 : Heap} {vL vR : List Value} {E : Value → Shared → Prop}

theorem due_least {Q : Flow → Shared → Prop} (W : Wd w mg mb s.heap) (hh' : A.handled = none) (hx : Good x) (F : FS (envDue w.params L) s m cm (Hk h3) sS) (dn : DN x tx tz vk vg aL aR cm) (hg : (RGoes x).is h3 vg)
    (hL : sS.heap.PlainList aL vL.toArray) (iL : IntsAre vL (tab (x.length + 1) fun _ => 0)) (hR : sS.heap.PlainList aR vR.toArray) (hLR : aL ≠ aR) (n3 : h3.get? aL = none) (n0 : s.heap.get? aL = none)
    (q : ∀ s' m' cm' T vL', FS (envDue w.params L) s m' cm' (Hk h3) s' → DN x tx tz vk vg aL aR cm' → (∀ k, k ≤ x.length → LeastAt x T k) → s'.heap.PlainList aL vL'.toArray → IntsAre vL' (tab (x.length + 1) T) → s'.heap.PlainList aR vR.toArray → Q .next s') :
    wpAny (model prog w) A (exec (dueSt w.params 3) (envDue w.params L)) Q E sS := by
  have hlen := hx.2.1
  have WS : Wd w mg mb sS.heap := W.kp F.base
  refine FS.for_ (items := rng 1 1 x.length) (JL x tx tz vk vg aL aR vR) F
    (SrcN.range2 (b := (x.length : Int) + 1) hh' (WS.blt (by rfl) (by rfl) (by rfl) (by rfl) (by rfl) (by rfl) (by rfl)) (EvL.cons Ev.int (EvL.cons (Ev.bin (Ev.nint (F.ldC (c := L + 3) (by rfl) dn.size (by rfl) (by rfl))) Ev.int Bn.add) EvL.nil)) (by (first | assumption | decide | lia | omega)) (by decide) (by (first | assumption | decide | lia | omega)) (by decide) (by (first | assumption | decide | lia | omega))) ?js ?j0 ?step ?fin
  case js =>
    rintro i m' cm' h h' ⟨d, ⟨T, vL', ⟨c, e⟩, a2, a3⟩, ⟨c2, e2⟩⟩ kk
    exact ⟨d, ⟨T, vL', ⟨c, kk _ _ (by obtain ⟨_, o⟩ := hL; exact ⟨_, o⟩) e⟩, a2, a3⟩, ⟨c2, kk _ _ (by obtain ⟨_, o⟩ := hR; exact ⟨_, o⟩) e2⟩⟩
  case j0 => exact ⟨dn, ⟨_, vL, hL, iL, fun k hk => by obtain rfl : k = 0 := (by (first | assumption | decide | lia | omega)); simp [LeastAt]⟩, hR⟩
  case fin =>
    rintro s' m' cm' F' ⟨d, ⟨T, vL', a1, a2, a3⟩, a4⟩
    rw [rng_len] at a3
    exact q s' m' cm' T vL' F' d a3 a1 a2 a4
  case step =>
    rintro i v s₁ m₁ cm₁ K₁ E' hi ⟨r, hr, hv⟩ F₁ hK hK' ⟨d, ⟨T, vL', hl, hit, hT⟩, hr'⟩
    rw [rng_len] at hi
    rw [rng_get hi] at hr
    cases hr
    obtain ⟨tk, rfl⟩ := hv
    rw [ar1 i]
    refine wpAny_assign_Name (F₁.stC (n := S "k") (c := L + 4) (by rfl) (by rfl) (by rfl) fun s₂ F₂ y₂ => ?_)
    have d₂ := d.k (v := .int ((i + 1 : Nat) : Int) tk)
    have hl₂ : s₂.heap.PlainList aL vL'.toArray := by obtain ⟨c, e⟩ := hl; exact ⟨c, y₂ _ _ e (seq_not_vary rfl)⟩
    have hr₂ : s₂.heap.PlainList aR vR.toArray := by obtain ⟨c, e⟩ := hr'; exact ⟨c, y₂ _ _ e (seq_not_vary rfl)⟩
    have W₂ : Wd w mg mb s₂.heap := W.kp F₂.base
    have hg₂ : (RGoes x).is s₂.heap vg := RGoes.ss _ _ _ (fun b o e nv => F₂.sy b o (hK b o e) nv) hg
    have hka : ∀ o, ¬ K₁ aL o := hK' aL (by obtain ⟨_, o⟩ := hL; exact ⟨_, o⟩) (hk_none n3)
    have n_k : ∀ {A'}, Nm prog w A' s₂.heap (envDue w.params L) (S "k") (.int ((i + 1 : Nat) : Int) tk) := F₂.ldC (c := L + 4) (by rfl) up_self (by rfl) (by rfl)
    have n_l : ∀ {A'}, Nm prog w A' s₂.heap (envDue w.params L) (S "least") (.ref aL) := F₂.ldC (c := L + 6) (by rfl) d₂.least (by rfl) (by rfl)
    -- the candidates
    obtain ⟨q0, hq0, hmin, hLs⟩ := least_pick hx hi hT
    unfold cand at hq0 hmin
    obtain ⟨b, hb⟩ : ∃ b, b = i + 1 - 3 := ⟨_, rfl⟩
    rw [← hb] at hq0 hmin hLs
    have hb1 : b ≤ i + 1 := by (first | assumption | decide | lia | omega)
    have hbI : id (Max.max (0 : Int) (((i + 1 : Nat) : Int) - 3) = ((b : Nat) : Int)) := by show Max.max (0 : Int) (((i + 1 : Nat) : Int) - 3) = ((b : Nat) : Int); (first | assumption | decide | lia | omega)
    clear hb
    have hlT : vL'.length = x.length + 1 := by have := hit.length; rw [tab_len] at this; exact this
    first | with_reducible refine wpAny_execs_cons ?_ | refine wpAny_execs_cons ?_
    refine F₂.setItem (a := aL) (k := ((i + 1 : Nat) : Int)) (x := ((1 + T (b + q0) : Nat) : Int)) ?val (Ev.name n_l rfl (by rfl)) (Ev.nint n_k) hl₂ (nn _) (by rw [hlT]; (first | assumption | decide | lia | omega)) (by (first | assumption | decide | lia | omega)) hka n0 ?cont
    case cont =>
      intro t h₁ s₃ k₁ sb F₃ hl₃
      refine wpAny_execs_nil ⟨rfl, m₁, _, F₃, d₂, ⟨fun q => if q = i + 1 then 1 + T (b + q0) else T q, _, hl₃, ?_, ?_⟩, ?_⟩
      · rw [← tab_set]; exact ints_set hit _
      · exact hLs
      · obtain ⟨c, e⟩ := hr₂; exact ⟨c, sb.extBut _ _ (Ne.symm hLR) (k₁ _ _ e)⟩
    case val =>
      refine Ev.ieq (x := 1 + ((T (b + q0) : Nat) : Int)) (ar3 _) (Ev.bin Ev.int (Ev.callB (n := S "min") (W₂.blt (by rfl) (by rfl) (by rfl) (by rfl) (by rfl) (by rfl) (by rfl)) (EvL.cons (Ev.comp (items := rng ((b : Nat) : Int) 1 (i + 1 - b))
        (b := fun q => (goI x (b + q)).any (· == ((i + 1 : Nat) : Int))) (f := fun q => RInt ((T (b + q) : Nat) : Int))
        (SrcN.range2 hh' (W₂.blt (by rfl) (by rfl) (by rfl) (by rfl) (by rfl) (by rfl) (by rfl)) (EvL.cons (Ev.ieq hbI (Ev.callB (n := S "max") (W₂.blt (by rfl) (by rfl) (by rfl) (by rfl) (by rfl) (by rfl) (by rfl)) (EvL.cons Ev.int (EvL.cons (Ev.bin (Ev.nint n_k) Ev.int Bn.sub) EvL.nil)) (Fn.max2 hh') (by rfl))) (EvL.cons (Ev.nint n_k) EvL.nil)) (by (first | assumption | decide | lia | omega)) (by (first | assumption | decide | lia | omega)) (by (first | assumption | decide | lia | omega)) (by (first | assumption | decide | lia | omega)) (by (first | assumption | decide | lia | omega))).src
        (Target.loc (by rfl) (by rfl) rng_sc) ?tst ?elt (fun _ => Sc.int) (by rw [rng_len]; have : sizeLine = 16777216 := rfl; (first | assumption | decide | lia | omega)) (by rfl) (by rfl) (by decide +kernel)) EvL.nil) ?mn (by rfl)) Bn.add)
      case mn =>
        rw [rng_len]
        exact Fn.minf hh' ⟨q0, hq0, rfl⟩ fun q hq => Int.ofNat_le.mpr (hmin q hq)
      case tst =>
        intro C q h₁ hq ht kh
        obtain ⟨tj, mj, hnj, hmj⟩ := TLoc.rng ht hq
        rw [rng_len] at hq
        rw [ar2 b q] at hmj
        have c_k := (F₂.cell (S "k") (L + 4) (by rfl)).keeps kh
        have c_g := (F₂.cell (S "goes") (L + 5) (by rfl)).keeps kh
        rw [d₂.goes] at c_g
        refine Tests.one (Tr.cmp (Ev.nint (Nm.cell (by rfl) c_k (by rfl) (by rfl))) (Ev.item (r₁ := RInts (goI x (b + q))) (Ev.name (r₁ := RGoes x) (Nm.cell (by rfl) c_g (by rfl) (by rfl)) (R.kp _ kh hg₂) (by rfl)) (Ev.nint (Nm.local hnj hmj (by rfl) (by rfl))) (nn _) (by (first | assumption | decide | lia | omega)) ?_) Cm.inInts)
        rw [Int.toNat_natCast, List.getElem?_map, List.getElem?_range (by (first | assumption | decide | lia | omega))]
        rfl
      case elt =>
        intro C q h₁ hq hb ht kh
        obtain ⟨tj, mj, hnj, hmj⟩ := TLoc.rng ht hq
        rw [rng_len] at hq
        rw [ar2 b q] at hmj
        have c_l := (F₂.cell (S "least") (L + 6) (by rfl)).keeps kh
        rw [d₂.least] at c_l
        refine Ev.item (Ev.name (r₁ := RInts (tab (x.length + 1) T)) (Nm.cell (by rfl) c_l (by rfl) (by rfl)) ?_ (by rfl)) (Ev.nint (Nm.local hnj hmj (by rfl) (by rfl))) (nn _) (by (first | assumption | decide | lia | omega)) ?_
        · obtain ⟨c, e⟩ := hl₂; exact ⟨aL, vL', rfl, ⟨c, kh _ _ e⟩, ints_all2 hit⟩
        · rw [Int.toNat_natCast]; exact tab_get (by (first | assumption | decide | lia | omega))

theorem TLoc.ints {y : Str} {l : List Int} {C : Addr} {i : Nat} {h₁ : Heap} (q : TLoc y (l.map RInt) C i h₁) (hi : i < (l.map RInt).length) : ∃ t m, h₁.Ns C m ∧ m y = some (.int (l.getD i 0) t) := by
  obtain ⟨r, v, m, hr, hv, hn, hm⟩ := q
  have hi' : i < l.length := by simpa using hi
  rw [List.getElem?_map, List.getElem?_eq_getElem hi'] at hr
  cases hr
  obtain ⟨t, rfl⟩ := hv
  exact ⟨t, m, hn, by rw [hm]; simp [List.getD, hi']⟩

theorem due_rest {Q : Flow → Shared → Prop} (W : Wd w mg mb s.heap) (hh' : A.handled = none) (hx : Good x) (F : FS (envDue w.params L) s m cm (Hk h3) sS) (dn : DN x tx tz vk vg aL aR cm) (hg : (RGoes x).is h3 vg)
    (hL : sS.heap.PlainList aL vL.toArray) (hR : sS.heap.PlainList aR vR.toArray) (iR : IntsAre vR (tab (x.length + 1) fun _ => 0)) (hLR : aL ≠ aR) (n3 : h3.get? aR = none) (n0 : s.heap.get? aR = none)
    (q : ∀ s' m' cm' U vR', FS (envDue w.params L) s m' cm' (Hk h3) s' → DN x tx tz vk vg aL aR cm' → (∀ k, k ≤ x.length → RestAt x U k) → s'.heap.PlainList aR vR'.toArray → IntsAre vR' (tab (x.length + 1) U) → s'.heap.PlainList aL vL.toArray → Q .next s') :
    wpAny (model prog w) A (exec (dueSt w.params 4) (envDue w.params L)) Q E sS := by
  have hlen := hx.2.1
  have hpos := hx.1
  have WS : Wd w mg mb sS.heap := W.kp F.base
  refine FS.for_ (items := rng ((x.length : Int) - 1) (-1) x.length) (JR x tx tz vk vg aL aR vL) F
    (SrcN.range3 hh' (WS.blt (by rfl) (by rfl) (by rfl) (by rfl) (by rfl) (by rfl) (by rfl)) (EvL.cons (Ev.bin (Ev.nint (F.ldC (c := L + 3) (by rfl) dn.size (by rfl) (by rfl))) Ev.int Bn.sub) (EvL.cons (Ev.neg Ev.int) (EvL.cons (Ev.neg Ev.int) EvL.nil))) (by (first | assumption | decide | lia | omega)) (by (first | assumption | decide | lia | omega)) (by (first | assumption | decide | lia | omega))) ?js ?j0 ?step ?fin
  case js =>
    rintro i m' cm' h h' ⟨d, ⟨T, vL', ⟨c, e⟩, a2, a3⟩, ⟨c2, e2⟩⟩ kk
    exact ⟨d, ⟨T, vL', ⟨c, kk _ _ (by obtain ⟨_, o⟩ := hR; exact ⟨_, o⟩) e⟩, a2, a3⟩, ⟨c2, kk _ _ (by obtain ⟨_, o⟩ := hL; exact ⟨_, o⟩) e2⟩⟩
  case j0 => exact ⟨dn, ⟨_, vR, hR, iR, fun k hk hk' => by obtain rfl : k = x.length := (by (first | assumption | decide | lia | omega)); simp [RestAt]⟩, hL⟩
  case fin =>
    rintro s' m' cm' F' ⟨d, ⟨U, vR', a1, a2, a3⟩, a4⟩
    rw [rng_len] at a3
    exact q s' m' cm' U vR' F' d (fun k hk => a3 k (by (first | assumption | decide | lia | omega)) hk) a1 a2 a4
  case step =>
    rintro i v s₁ m₁ cm₁ K₁ E' hi ⟨r, hr, hv⟩ F₁ hK hK' ⟨d, ⟨U, vR', hl, hit, hU⟩, hr'⟩
    rw [rng_len] at hi
    rw [rng_get hi] at hr
    cases hr
    obtain ⟨tk, rfl⟩ := hv
    obtain ⟨kk, hkk⟩ : ∃ kk, kk = x.length - 1 - i := ⟨_, rfl⟩
    rw [show (x.length : Int) - 1 + (i : Int) * (-1) = ((kk : Nat) : Int) by (first | assumption | decide | lia | omega)]
    refine wpAny_assign_Name (F₁.stC (n := S "k") (c := L + 4) (by rfl) (by rfl) (by rfl) fun s₂ F₂ y₂ => ?_)
    have d₂ := d.k (v := .int (kk : Int) tk)
    have hl₂ : s₂.heap.PlainList aR vR'.toArray := by obtain ⟨c, e⟩ := hl; exact ⟨c, y₂ _ _ e (seq_not_vary rfl)⟩
    have hr₂ : s₂.heap.PlainList aL vL.toArray := by obtain ⟨c, e⟩ := hr'; exact ⟨c, y₂ _ _ e (seq_not_vary rfl)⟩
    have W₂ : Wd w mg mb s₂.heap := W.kp F₂.base
    have hg₂ : (RGoes x).is s₂.heap vg := RGoes.ss _ _ _ (fun b o e nv => F₂.sy b o (hK b o e) nv) hg
    have hka : ∀ o, ¬ K₁ aR o := hK' aR (by obtain ⟨_, o⟩ := hR; exact ⟨_, o⟩) (hk_none n3)
    have n_k : ∀ {A'}, Nm prog w A' s₂.heap (envDue w.params L) (S "k") (.int (kk : Int) tk) := F₂.ldC (c := L + 4) (by rfl) up_self (by rfl) (by rfl)
    have n_r : ∀ {A'}, Nm prog w A' s₂.heap (envDue w.params L) (S "rest") (.ref aR) := F₂.ldC (c := L + 7) (by rfl) d₂.rest (by rfl) (by rfl)
    have n_g : ∀ {A'}, Nm prog w A' s₂.heap (envDue w.params L) (S "goes") vg := F₂.ldC (c := L + 5) (by rfl) d₂.goes (by rfl) (by rfl)
    have hkl : kk < x.length := by (first | assumption | decide | lia | omega)
    obtain ⟨q0, j0, hq0, hj0, hst, hmin, hRs⟩ := rest_pick hx hkl (U := U) fun k hk hk' => hU k (by (first | assumption | decide | lia | omega)) hk'
    have hlT : vR'.length = x.length + 1 := by have := hit.length; rw [tab_len] at this; exact this
    first | with_reducible refine wpAny_execs_cons ?_ | refine wpAny_execs_cons ?_
    refine F₂.setItem (a := aR) (k := (kk : Int)) (x := ((1 + U j0 : Nat) : Int)) ?val (Ev.name n_r rfl (by rfl)) (Ev.nint n_k) hl₂ (nn _) (by rw [hlT]; (first | assumption | decide | lia | omega)) (by (first | assumption | decide | lia | omega)) hka n0 ?cont
    case cont =>
      intro t h₁ s₃ k₁ sb F₃ hl₃
      refine wpAny_execs_nil ⟨rfl, m₁, _, F₃, d₂, ⟨fun q => if q = kk then 1 + U j0 else U q, _, hl₃, ?_, ?_⟩, ?_⟩
      · rw [← tab_set]; exact ints_set hit _
      · exact fun k hk hk' => hRs k (by (first | assumption | decide | lia | omega)) hk'
      · obtain ⟨c, e⟩ := hr₂; exact ⟨c, sb.extBut _ _ hLR (k₁ _ _ e)⟩
    case val =>
      have hgl : (goI x kk).length ≤ 3 := by unfold goI; rw [List.length_map]; exact List.length_filter_le _ _
      refine Ev.ieq (x := 1 + ((U j0 : Nat) : Int)) (ar3 _) (Ev.bin Ev.int (Ev.callB (n := S "min") (W₂.blt (by rfl) (by rfl) (by rfl) (by rfl) (by rfl) (by rfl) (by rfl)) (EvL.cons (Ev.comp (items := (goI x kk).map RInt)
        (b := fun q => true) (f := fun q => RInt ((U ((goI x kk).getD q 0).toNat : Nat) : Int))
        (Src.list hh' (Ev.item (Ev.name (r₁ := RGoes x) n_g hg₂ (by rfl)) (Ev.nint n_k) (nn _) (n62 (Nat.le_of_lt hkl) hlen) ?gk))
        (Target.loc (by rfl) (by rfl) ?scs) (fun C i h₁ hi ht kh => Tests.nil) ?elt (fun _ => Sc.int) (by rw [List.length_map]; have : sizeLine = 16777216 := rfl; (first | assumption | decide | lia | omega)) (by rfl) (by rfl) (by decide +kernel)) EvL.nil) ?mn (by rfl)) Bn.add)
      case gk =>
        rw [Int.toNat_natCast, List.getElem?_map, List.getElem?_range (by (first | assumption | decide | lia | omega))]
        rfl
      case scs => intro r hr; obtain ⟨i, _, rfl⟩ := List.mem_map.mp hr; exact Sc.int
      case mn =>
        rw [List.length_map, List.filter_eq_self.mpr (by intro _ _; rfl)]
        refine Fn.minf hh' ⟨q0, hq0, by rw [hj0, Int.toNat_natCast]⟩ fun q hq => ?_
        exact Int.ofNat_le.mpr (hmin q hq)
      case elt =>
        intro C q h₁ hq hb ht kh
        obtain ⟨tj, mj, hnj, hmj⟩ := TLoc.ints ht hq
        rw [List.length_map] at hq
        obtain ⟨j, ej, hj⟩ := go_get hq
        rw [ej] at hmj ⊢
        have c_r := (F₂.cell (S "rest") (L + 7) (by rfl)).keeps kh
        rw [d₂.rest] at c_r
        have hjl := hj.2.2.1
        refine Ev.item (Ev.name (r₁ := RInts (tab (x.length + 1) U)) (Nm.cell (by rfl) c_r (by rfl) (by rfl)) ?_ (by rfl)) (Ev.nint (Nm.local hnj hmj (by rfl) (by rfl))) (nn _) (by (first | assumption | decide | lia | omega)) ?_
        · obtain ⟨c, e⟩ := hl₂; exact ⟨aR, vR', rfl, ⟨c, kh _ _ e⟩, ints_all2 hit⟩
        · rw [Int.toNat_natCast]; exact tab_get (by (first | assumption | decide | lia | omega))
end
end Mine

-- Law6
namespace Mine
theorem list_of_getD {l : List Nat} {n : Nat} (hn : n = l.length) : (List.range n).map (fun i => RInt (Int.ofNat (l.getD i 0))) = (l.map Int.ofNat).map RInt := by
  subst hn
  apply List.ext_getElem
  · simp
  · intro i h1 h2
    have : i < l.length := by simpa using h1
    simp [List.getD, this]
section
variable {prog : Program} {w : World} {A : Around} {h : Heap} {mg mb : Str → Option Value} {s sS : Shared} {L : Nat} {x : Str} {tx tz : Tok} {vk vg : Value} {aL aR : Addr} {m cm : Str → Option Value} {h3 : Heap} {vL vR : List Value} {E : Value → Shared → Prop}

theorem due_far {Q : Flow → Shared → Prop} (W : Wd w mg mb s.heap) (hh' : A.handled = none) (hx : Good x) (F : FS (envDue w.params L) s m cm (Hk h3) sS) (dn : DN x tx tz vk vg aL aR cm)
    {T : Nat → Nat} (hT : ∀ k, k ≤ x.length → LeastAt x T k) (hL : sS.heap.PlainList aL vL.toArray) (iL : IntsAre vL (tab (x.length + 1) T))
    (q : ∀ a s', FS (envDue w.params L) s (up m (S "far") (.ref a)) cm (Hk h3) s' → (∀ b o, b ≠ (envDue w.params L).locals → sS.heap.get? b = some o → s'.heap.get? b = some o) → (RInts ((front x 17 0).map Int.ofNat)).is s'.heap (.ref a) → Q .next s') :
    wpAny (model prog w) A (exec (dueSt w.params 5) (envDue w.params L)) Q E sS := by
  have hlen := hx.2.1
  have WS : Wd w mg mb sS.heap := W.kp F.base
  obtain ⟨hn, hc⟩ := far_math hx hT
  have hfl := (front_len hx).1
  have n_size : ∀ {A'}, Nm prog w A' sS.heap (envDue w.params L) (S "size") (.int x.length tz) := F.ldC (c := L + 3) (by rfl) dn.size (by rfl) (by rfl)
  have n_l : ∀ {A'}, Nm prog w A' sS.heap (envDue w.params L) (S "least") (.ref aL) := F.ldC (c := L + 6) (by rfl) dn.least (by rfl) (by rfl)
  have hLis : (RInts (tab (x.length + 1) T)).is sS.heap (.ref aL) := ⟨aL, vL, rfl, hL, ints_all2 iL⟩
  refine F.used (y := S "far") (items := rng 1 1 (T x.length)) (b := fun _ => true) (f := fun i => RInt (Int.ofNat ((front x 17 0).getD i 0)))
    (SrcN.range2 hh' (WS.blt (by rfl) (by rfl) (by rfl) (by rfl) (by rfl) (by rfl) (by rfl)) (EvL.cons Ev.int (EvL.cons (Ev.bin (Ev.item (r₁ := RInt (T x.length)) (Ev.name n_l hLis (by rfl)) (Ev.nint n_size) (by (first | assumption | decide | lia | omega)) (by (first | assumption | decide | lia | omega)) (by rw [Int.toNat_natCast]; exact tab_get (by (first | assumption | decide | lia | omega)))) Ev.int Bn.add) EvL.nil)) (by (first | assumption | decide | lia | omega)) (by decide) (by (first | assumption | decide | lia | omega)) (by decide) (by (first | assumption | decide | lia | omega))).src
    (Target.cell (by rfl) (by intro C; rfl) (by intro C; rfl) (by intro C; exact .head _) rng_sc) (fun C i h₁ hi ht kh => Tests.nil) ?elt (fun _ => Sc.int) (by rw [rng_len]; have : sizeLine = 16777216 := rfl; (first | assumption | decide | lia | omega)) (by rfl) (by rfl) (by decide +kernel) (by rfl) (by rfl) ?fin
  case fin =>
    intro a vs s' F' kk hna hl hall
    rw [rng_len, List.filter_eq_self.mpr (by intro _ _; rfl), list_of_getD hn] at hall
    exact q a s' F' kk ⟨a, vs, rfl, hl, hall⟩
  case elt =>
    intro C i h₁ hi _ ht kh
    obtain ⟨tm, hcm⟩ := TCell.rng ht hi
    rw [rng_len, hn] at hi
    obtain ⟨c1, c2, c3⟩ := hc i hi
    have W₁ : Wd w mg mb h₁ := WS.kp kh
    have c_size := (F.cell (S "size") (L + 3) (by rfl)).keeps kh
    rw [dn.size] at c_size
    refine Ev.callB (n := S "max") (W₁.blt (by rfl) (by rfl) (by rfl) (by rfl) (by rfl) (by rfl) (by rfl)) (EvL.cons (Ev.comp (items := rng 0 1 (x.length + 1)) (b := fun q => decide (((T q : Nat) : Int) ≤ 1 + (i : Int) * 1)) (f := fun q => RInt ((q : Nat) : Int))
      (SrcN.range1 hh' (W₁.blt (by rfl) (by rfl) (by rfl) (by rfl) (by rfl) (by rfl) (by rfl)) (EvL.cons (Ev.ieq (by (first | assumption | decide | lia | omega)) (Ev.bin (Ev.nint (Nm.cell (by rfl) c_size (by rfl) (by rfl))) Ev.int Bn.add)) EvL.nil) (by (first | assumption | decide | lia | omega))).src
      (Target.loc (by rfl) (by rfl) rng_sc) ?tst ?elt2 (fun _ => Sc.int) (by rw [rng_len]; have : sizeLine = 16777216 := rfl; (first | assumption | decide | lia | omega)) (by rfl) (by rfl) (by decide +kernel)) EvL.nil) ?mx (by rfl)
    case mx =>
      rw [rng_len]
      refine Fn.maxf hh' ⟨(front x 17 0).getD i 0, List.mem_filter.mpr ⟨List.mem_range.mpr (by (first | assumption | decide | lia | omega)), by simp only [decide_eq_true_eq]; (first | assumption | decide | lia | omega)⟩, rfl⟩ fun q hq => ?_
      obtain ⟨h1, h2⟩ := List.mem_filter.mp hq
      simp only [decide_eq_true_eq] at h2
      have h3 := List.mem_range.mp h1
      exact Int.ofNat_le.mpr (c3 q (by (first | assumption | decide | lia | omega)) (by (first | assumption | decide | lia | omega)))
    case tst =>
      intro C2 q h₂ hq ht2 kh2
      obtain ⟨tj, mj, hnj, hmj⟩ := TLoc.rng ht2 hq
      rw [rng_len] at hq
      rw [ar0 q] at hmj
      have c_l := (F.cell (S "least") (L + 6) (by rfl)).keeps (kh.trans kh2)
      rw [dn.least] at c_l
      exact Tests.one (Tr.cmp (Ev.item (r₁ := RInt (T q)) (Ev.name (Nm.cell (by rfl) c_l (by rfl) (by rfl)) (R.kp _ (kh.trans kh2) hLis) (by rfl)) (Ev.nint (Nm.local hnj hmj (by rfl) (by rfl))) (by (first | assumption | decide | lia | omega)) (by (first | assumption | decide | lia | omega)) (by rw [Int.toNat_natCast]; exact tab_get (by (first | assumption | decide | lia | omega)))) (Ev.nint (Nm.cell (by rfl) (hcm.keeps kh2) (by rfl) (by rfl))) Cm.le)
    case elt2 =>
      intro C2 q h₂ hq hb2 ht2 kh2
      obtain ⟨tj, mj, hnj, hmj⟩ := TLoc.rng ht2 hq
      rw [ar0 q] at hmj
      exact Ev.nint (Nm.local hnj hmj (by rfl) (by rfl))

theorem due_near {Q : Flow → Shared → Prop} (W : Wd w mg mb s.heap) (hh' : A.handled = none) (hx : Good x) (F : FS (envDue w.params L) s m cm (Hk h3) sS) (dn : DN x tx tz vk vg aL aR cm)
    {U : Nat → Nat} (hU : ∀ k, k ≤ x.length → RestAt x U k) (hR : sS.heap.PlainList aR vR.toArray) (iR : IntsAre vR (tab (x.length + 1) U))
    (q : ∀ a s', FS (envDue w.params L) s (up m (S "near") (.ref a)) cm (Hk h3) s' → (∀ b o, b ≠ (envDue w.params L).locals → sS.heap.get? b = some o → s'.heap.get? b = some o) → (RInts ((back x 17 x.length).reverse.map Int.ofNat)).is s'.heap (.ref a) → Q .next s') :
    wpAny (model prog w) A (exec (dueSt w.params 6) (envDue w.params L)) Q E sS := by
  have hlen := hx.2.1
  have WS : Wd w mg mb sS.heap := W.kp F.base
  obtain ⟨hn, hc⟩ := near_math hx hU
  have hfl := (back_len hx).1
  have hf0 := (back_len hx).2
  have n_r : ∀ {A'}, Nm prog w A' sS.heap (envDue w.params L) (S "rest") (.ref aR) := F.ldC (c := L + 7) (by rfl) dn.rest (by rfl) (by rfl)
  have hRis : (RInts (tab (x.length + 1) U)).is sS.heap (.ref aR) := ⟨aR, vR, rfl, hR, ints_all2 iR⟩
  refine F.used (y := S "near") (items := rng ((U 0 : Nat) - 1 : Int) (-1) (U 0)) (b := fun _ => true) (f := fun i => RInt (Int.ofNat ((back x 17 x.length).reverse.getD i 0)))
    (SrcN.range3 hh' (WS.blt (by rfl) (by rfl) (by rfl) (by rfl) (by rfl) (by rfl) (by rfl)) (EvL.cons (Ev.bin (Ev.item (r₁ := RInt (U 0)) (Ev.name n_r hRis (by rfl)) Ev.int (by (first | assumption | decide | lia | omega)) (by (first | assumption | decide | lia | omega)) (tab_get (by (first | assumption | decide | lia | omega)))) Ev.int Bn.sub) (EvL.cons (Ev.neg Ev.int) (EvL.cons (Ev.neg Ev.int) EvL.nil))) (by (first | assumption | decide | lia | omega)) (by (first | assumption | decide | lia | omega)) (by (first | assumption | decide | lia | omega))).src
    (Target.cell (by rfl) (by intro C; rfl) (by intro C; rfl) (by intro C; exact .head _) rng_sc) (fun C i h₁ hi ht kh => Tests.nil) ?elt (fun _ => Sc.int) (by rw [rng_len]; have : sizeLine = 16777216 := rfl; (first | assumption | decide | lia | omega)) (by rfl) (by rfl) (by decide +kernel) (by rfl) (by rfl) ?fin
  case fin =>
    intro a vs s' F' kk hna hl hall
    rw [rng_len, List.filter_eq_self.mpr (by intro _ _; rfl), list_of_getD (by rw [List.length_reverse]; exact hn)] at hall
    exact q a s' F' kk ⟨a, vs, rfl, hl, hall⟩
  case elt =>
    intro C i h₁ hi _ ht kh
    obtain ⟨tm, hcm⟩ := TCell.rng ht hi
    rw [rng_len, hn] at hi
    have erev : (back x 17 x.length).reverse.getD i 0 = (back x 17 x.length).getD ((back x 17 x.length).length - 1 - i) 0 := by
      simp [List.getD, List.getElem?_reverse hi]
    obtain ⟨c1, c2, c3⟩ := hc ((back x 17 x.length).length - 1 - i) (by (first | assumption | decide | lia | omega))
    rw [← erev] at c1 c2 c3
    have W₁ : Wd w mg mb h₁ := WS.kp kh
    have c_size := (F.cell (S "size") (L + 3) (by rfl)).keeps kh
    rw [dn.size] at c_size
    refine Ev.callB (n := S "min") (W₁.blt (by rfl) (by rfl) (by rfl) (by rfl) (by rfl) (by rfl) (by rfl)) (EvL.cons (Ev.comp (items := rng 0 1 (x.length + 1)) (b := fun q => decide (((U q : Nat) : Int) ≤ ((U 0 : Nat) - 1 : Int) + (i : Int) * (-1))) (f := fun q => RInt ((q : Nat) : Int))
      (SrcN.range1 hh' (W₁.blt (by rfl) (by rfl) (by rfl) (by rfl) (by rfl) (by rfl) (by rfl)) (EvL.cons (Ev.ieq (by (first | assumption | decide | lia | omega)) (Ev.bin (Ev.nint (Nm.cell (by rfl) c_size (by rfl) (by rfl))) Ev.int Bn.add)) EvL.nil) (by (first | assumption | decide | lia | omega))).src
      (Target.loc (by rfl) (by rfl) rng_sc) ?tst ?elt2 (fun _ => Sc.int) (by rw [rng_len]; have : sizeLine = 16777216 := rfl; (first | assumption | decide | lia | omega)) (by rfl) (by rfl) (by decide +kernel)) EvL.nil) ?mx (by rfl)
    case mx =>
      rw [rng_len]
      refine Fn.minf hh' ⟨(back x 17 x.length).reverse.getD i 0, List.mem_filter.mpr ⟨List.mem_range.mpr (by (first | assumption | decide | lia | omega)), by simp only [decide_eq_true_eq]; (first | assumption | decide | lia | omega)⟩, rfl⟩ fun q hq => ?_
      obtain ⟨h1, h2⟩ := List.mem_filter.mp hq
      simp only [decide_eq_true_eq] at h2
      have h3 := List.mem_range.mp h1
      exact Int.ofNat_le.mpr (c3 q (by (first | assumption | decide | lia | omega)) (by (first | assumption | decide | lia | omega)))
    case tst =>
      intro C2 q h₂ hq ht2 kh2
      obtain ⟨tj, mj, hnj, hmj⟩ := TLoc.rng ht2 hq
      rw [rng_len] at hq
      rw [ar0 q] at hmj
      have c_r := (F.cell (S "rest") (L + 7) (by rfl)).keeps (kh.trans kh2)
      rw [dn.rest] at c_r
      exact Tests.one (Tr.cmp (Ev.item (r₁ := RInt (U q)) (Ev.name (Nm.cell (by rfl) c_r (by rfl) (by rfl)) (R.kp _ (kh.trans kh2) hRis) (by rfl)) (Ev.nint (Nm.local hnj hmj (by rfl) (by rfl))) (by (first | assumption | decide | lia | omega)) (by (first | assumption | decide | lia | omega)) (by rw [Int.toNat_natCast]; exact tab_get (by (first | assumption | decide | lia | omega)))) (Ev.nint (Nm.cell (by rfl) (hcm.keeps kh2) (by rfl) (by rfl))) Cm.le)
    case elt2 =>
      intro C2 q h₂ hq hb2 ht2 kh2
      obtain ⟨tj, mj, hnj, hmj⟩ := TLoc.rng ht2 hq
      rw [ar0 q] at hmj
      exact Ev.nint (Nm.local hnj hmj (by rfl) (by rfl))
end

section
variable {prog : Program} {w : World} {A : Around} {h : Heap} {mg mb : Str → Option Value}

theorem due_fn (W : Wd w mg mb h) (hh : A.handled = none) (hroom : A.depth < recursionLimit) {x : Str} (hx : Good x) {kv : List (Str × Int)} (hkv : ∀ y, kv.lookup y = exact.lookup y) :
    Fn prog w A h (.ref 60) [RStr x, RDict prog w kv] (RTup [RInts ((front x 17 0).map Int.ofNat), RInts ((back x 17 x.length).reverse.map Int.ofNat)]) := by
  refine Fn.of [S "text", S "kinds"] (W.k _ _ (lk60 _)) (fd60 _) (bd60 _) W.lim (codeRec_of W.k (cd60 _)) rfl hroom ?_ ?_ ?_
  · intro vs hvs
    obtain ⟨v, u, rfl⟩ := len2 hvs
    rfl
  · intro L y hy
    simp at hy
    rcases hy with rfl | rfl
    · exact .inr ⟨by rfl, by rfl⟩
    · exact .inr ⟨by rfl, by rfl⟩
  · intro s s₁ vs k a F
    refine a.elim2 fun v0 vk e0 a1 b => ?_
    subst e0
    replace a := a1
    clear a1
    refine str_elim a fun tx e0 => ?_
    subst e0
    have hlen := hx.2.1
    generalize hL : s.heap.objs.size = L at F ⊢
    have hh' : (A.deeper (envDue w.params L)).handled = none := hh
    have hkd : ∀ {h'}, Kp s.heap h' → (RDict prog w kv).is h' vk := fun kk => R.kp _ kk b
    have W₁ : Wd w mg mb s₁.heap := W.kp (k.trans F.base)
    -- size = len(text)
    first | with_reducible refine wpAny_execs_cons ?_ | refine wpAny_execs_cons ?_
    refine F.asgC (n := S "size") (c := L + 3) (Ev.callB (n := S "len") (W₁.blt (by rfl) (by rfl) (by rfl) (by rfl) (by rfl) (by rfl) (by rfl)) (EvL.cons (Ev.nstr (F.ldC (c := L + 1) (by rfl) (v := .str x tx) (by rfl) (by rfl) (by rfl))) EvL.nil) (Fn.len_str (by (first | assumption | decide | lia | omega))) (by rfl)) Ss.int (by rfl) (by rfl) (by rfl) ?_
    rintro _ s2 F2 y2 ⟨tz, rfl⟩
    have W2 : Wd w mg mb s2.heap := W.kp (k.trans F2.base)
    -- goes
    first | with_reducible refine wpAny_execs_cons ?_ | refine wpAny_execs_cons ?_
    refine F2.asgC (n := S "goes") (c := L + 5) (r₁ := RGoes x) ?goes ?ssg (by rfl) (by rfl) (by rfl) ?cont
    case ssg => exact RGoes.ss
    case goes =>
      refine Ev.req ?rq (Ev.compL (items := rng 0 1 x.length) (b := fun _ => true) (f := goR x) (SrcN.range1 hh' (W2.blt (by rfl) (by rfl) (by rfl) (by rfl) (by rfl) (by rfl) (by rfl)) (EvL.cons (Ev.nint (F2.ldC (c := L + 3) (by rfl) up_self (by rfl) (by rfl))) EvL.nil) (by (first | assumption | decide | lia | omega))).src
        (Target.cell (by rfl) (by intro C; rfl) (by intro C; rfl) (by intro C; exact .head _) rng_sc) (fun C i h₁ hi ht kh => Tests.nil) ?elt ?sc (by rw [rng_len]; have : sizeLine = 16777216 := rfl; (first | assumption | decide | lia | omega)) (by rfl) (by rfl) (by decide +kernel))
      case rq => unfold RGoes; rw [rng_len, List.filter_eq_self.mpr (by intro _ _; rfl)]
      case sc => intro i r hr; obtain ⟨j, _, rfl⟩ := List.mem_map.mp hr; exact Sc.int
      case elt =>
        intro C i h₁ hi _ ht kh
        have hi' : i < x.length := by rwa [rng_len] at hi
        obtain ⟨tk, hck⟩ := TCell.rng ht hi
        rw [ar0 i] at hck
        refine EvP.req (goR_eq x i) (EvP.comp (items := (List.range 3).map fun i : Nat => RInt (1 + (i : Int))) (b := goB x i) (f := fun j : Nat => RInt ((i : Int) + (1 + (j : Int)))) (Src.list hh' (Ev.list (EvL.cons Ev.int (EvL.cons Ev.int (EvL.cons Ev.int EvL.nil))))) (Target.loc (by rfl) (by rfl) ?hsc)
          ?tst ?elt2 (fun _ => Sc.int) (by decide) (by rfl) (by rfl) (by decide +kernel))
        case hsc => intro r hr; obtain ⟨i, _, rfl⟩ := List.mem_map.mp hr; exact Sc.int
        case tst =>
          intro C2 j h₂ hj ht2 kh2
          obtain ⟨tn, mm, hns, hmn⟩ := TLoc.int ht2
          have hj3 : j < 3 := by simpa using hj
          have c_k := hck.keeps kh2
          have c_text := (F2.cell (S "text") (L + 1) (by rfl)).keeps (kh.trans kh2)
          have c_size := (F2.cell (S "size") (L + 3) (by rfl)).keeps (kh.trans kh2)
          have c_kinds := (F2.cell (S "kinds") (L + 2) (by rfl)).keeps (kh.trans kh2)
          refine Tests.one (Tr.and2 (Tr.cmp (Ev.bin (Ev.nint (Nm.cell (by rfl) c_k (by rfl) (by rfl))) (Ev.nint (Nm.local hns hmn (by rfl) (by rfl))) Bn.add) (Ev.nint (Nm.cell (by rfl) c_size (by rfl) (by rfl))) Cm.le) fun hle => ?_)
          have hle' : i + (1 + j) ≤ x.length := by simp only [decide_eq_true_eq] at hle; (first | assumption | decide | lia | omega)
          unfold isTok
          rw [← hkv]
          exact Tr.cmp (Ev.sslice (a := i) (b := i + (1 + j)) (Ev.nstr (Nm.cell (by rfl) c_text (by rfl) (by rfl))) (Ev.nint (Nm.cell (by rfl) c_k (by rfl) (by rfl)))
            (Ev.ieq (by (first | assumption | decide | lia | omega)) (Ev.bin (Ev.nint (Nm.cell (by rfl) c_k (by rfl) (by rfl))) (Ev.nint (Nm.local hns hmn (by rfl) (by rfl))) Bn.add)) (by (first | assumption | decide | lia | omega)) hle' (by have : sizeLine = 16777216 := rfl; (first | assumption | decide | lia | omega)))
            (Ev.name (n := S "kinds") (v := vk) (Nm.cell (by rfl) c_kinds (by rfl) (by rfl)) (hkd (F2.base.trans (kh.trans kh2))) (by rfl)) Cm.inDict
        case elt2 =>
          intro C2 j h₂ hj hb2 ht2 kh2
          obtain ⟨tn, mm, hns, hmn⟩ := TLoc.int ht2
          exact Ev.bin (Ev.nint (Nm.cell (by rfl) (hck.keeps kh2) (by rfl) (by rfl))) (Ev.nint (Nm.local hns hmn (by rfl) (by rfl))) Bn.add
    case cont =>
      intro vg s3 F3 y3 hg
      have W3 : Wd w mg mb s3.heap := W.kp (k.trans F3.base)
      have F3' := F3.adv
      have zeros : ∀ (p1 p2 p3 p4 p5 p6 p7 : Pos), EvP prog w (A.deeper (envDue w.params L)) s3.heap (envDue w.params L) (.BinOp (.List [.Constant (.int 0) 0 p1] p2) .Mult (.BinOp (.Name (S "size") p3) .Add (.Constant (.int 1) 0 p4) p5) p6) (NewL ((tab (x.length + 1) fun _ => 0).map RInt)) := fun p1 p2 p3 p4 p5 p6 p7 => by
        refine EvP.req ?_ (EvP.mul (k := x.length + 1) (Ev.list (EvL.cons Ev.int EvL.nil)) (Ev.ieq (by (first | assumption | decide | lia | omega)) (Ev.bin (Ev.nint (F3'.ldC (c := L + 3) (by rfl) (v := .int x.length tz) (by rfl) (by rfl) (by rfl))) Ev.int Bn.add)) (by simp; (first | assumption | decide | lia | omega)) (by (first | assumption | decide | lia | omega)))
        rw [lm_rep_flat_one]
        apply List.ext_getElem
        · simp [tab]
        · intro i h1 h2; simp [tab]
      first | with_reducible refine wpAny_execs_cons ?_ | refine wpAny_execs_cons ?_
      refine two hh' (zeros _ _ _ _ _ _ default) (zeros _ _ _ _ _ _ default) (n1 := S "least") (n2 := S "rest") ?_
      rintro _ _ s4 s5 s6 g4 ⟨aL, vL, rfl, hnL, hlL, hallL⟩ g5 ⟨aR, vR, rfl, hnR, hlR, hallR⟩ g6
      have F6 := ((F3'.gw g4).gw g5).gw g6
      refine F6.stC (c := L + 6) (by rfl) (by rfl) (by rfl) fun s7 F7 y7 => ?_
      refine F7.stC (c := L + 7) (by rfl) (by rfl) (by rfl) fun s8 F8 y8 => ?_
      have y68 := y7.trans y8
      have hlL8 : s8.heap.PlainList aL vL.toArray := by obtain ⟨q, e⟩ := hlL; exact ⟨q, y68 _ _ (g6.kp _ _ (g5.kp _ _ e)) (seq_not_vary rfl)⟩
      have hlR8 : s8.heap.PlainList aR vR.toArray := by obtain ⟨q, e⟩ := hlR; exact ⟨q, y68 _ _ (g6.kp _ _ e) (seq_not_vary rfl)⟩
      have hLR : aL ≠ aR := by rintro rfl; obtain ⟨q, e⟩ := hlL; rw [hnR] at e; cases e
      have iL := hallL.ints
      have iR := hallR.ints
      have s0L : s.heap.get? aL = none := by
        cases q : s.heap.get? aL with
        | none => rfl
        | some o => have := F3.base _ _ q; rw [hnL] at this; cases this
      have s3R : s3.heap.get? aR = none := by
        cases q : s3.heap.get? aR with
        | none => rfl
        | some o => have := g4.kp _ _ q; rw [hnR] at this; cases this
      have s0R : s.heap.get? aR = none := by
        cases q : s.heap.get? aR with
        | none => rfl
        | some o => have := F3.base _ _ q; rw [s3R] at this; cases this
      first | with_reducible refine wpAny_execs_cons ?_ | refine wpAny_execs_cons ?_
      refine due_least (W.kp k) hh' hx F8 ⟨by rfl, by rfl, by rfl, by rfl, by rfl, by rfl⟩ hg hlL8 iL hlR8 hLR hnL s0L ?_
      intro s9 m9 cm9 T vL9 F9 d9 hT hlL9 iL9 hlR9
      first | with_reducible refine wpAny_execs_cons ?_ | refine wpAny_execs_cons ?_
      refine due_rest (W.kp k) hh' hx F9 d9 hg hlL9 hlR9 iR hLR s3R s0R ?_
      intro s10 m10 cm10 U vR10 F10 d10 hU hlR10 iR10 hlL10
      first | with_reducible refine wpAny_execs_cons ?_ | refine wpAny_execs_cons ?_
      refine due_far (W.kp k) hh' hx F10 d10 hT hlL10 iL9 ?_
      intro af s11 F11 k11 hf
      have hlR11 : s11.heap.PlainList aR vR10.toArray := by
        obtain ⟨c, e⟩ := hlR10
        exact ⟨c, k11 _ _ (fun hb => by obtain ⟨o', es, ep, ho', hd', _⟩ := F10.ns; rw [← hb, e] at ho'; cases ho'; cases hd') e⟩
      first | with_reducible refine wpAny_execs_cons ?_ | refine wpAny_execs_cons ?_
      refine due_near (W.kp k) hh' hx F11 d10 hU hlR11 iR10 ?_
      intro an s12 F12 k12 hn
      have hf12 : (RInts ((front x 17 0).map Int.ofNat)).is s12.heap (.ref af) := Ss.ints _ _ _ (fun b o e nv => k12 b o (fun hb => by obtain ⟨o', es, ep, ho', hd', _⟩ := F11.ns; rw [← hb, e] at ho'; cases ho'; exact nv (.inl ⟨_, _, hd'⟩)) e) hf
      first | with_reducible refine wpAny_execs_cons ?_ | refine wpAny_execs_cons ?_
      refine wpAny_Return_some ?_
      refine Ev.go (Ev.tuple (EvL.cons (Ev.name (F12.ldL (v := .ref af) (by rfl) (by rfl) (by rfl)) hf12 (by rfl)) (EvL.cons (Ev.name (F12.ldL up_self (by rfl) (by rfl)) hn (by rfl)) EvL.nil)) (hsz := show 2 ≤ sizeLine by decide)) fun v s13 g13 hv => ⟨v, rfl, (F12.out).trans g13, hv⟩
end
end Mine

-- Law7
namespace Mine
theorem lk45 (P : Params) : (KF P).lookup 45 = some (objAt P 45) := by rfl
theorem fd45 (P : Params) : (objAt P 45).data = .func (fdOf (objAt P 45)) := by rfl
theorem bd45 (P : Params) : (fdOf (objAt P 45)).body = .stmts (bodyOf (fdOf (objAt P 45))) := by rfl
theorem cd45 (P : Params) : codeIn (KF P) (fdOf (objAt P 45)).code (fdOf (objAt P 45)).qualname = true := by rfl
noncomputable abbrev envText (P : Params) (L : Addr) : Env := callEnvC (fdOf (objAt P 45)) L 45

noncomputable def six : Str := S "<>*/-."
noncomputable def all24 : Str := S "()[]:,;+-*/|&<>=.%{}~^@!"
/- the sign that a number stands for -/
noncomputable def sign (x : Int) : Nat := if x.fmod 3 = 0 then 61 else if x.fmod 3 = 1 then six.cps.getD ((x.fdiv 3).fmod 6).toNat 0 else all24.cps.getD ((x.fdiv 3).fmod 24).toNat 0
noncomputable def signS (x : Int) : Str := ⟨#[sign x]⟩
noncomputable def JT (vsc : Value) (ar : Addr) (xs : List Int) (i : Nat) (m' cm' : Str → Option Value) (h : Heap) : Prop :=
  m' (S "script") = some vsc ∧ m' (S "row") = some (.ref ar) ∧ ∃ vs : List Value, h.PlainList ar vs.toArray ∧ All2 h ((((xs.take 16).take i).map signS).map RStr) vs
noncomputable def textOf (xs : List Int) : Str := if xs = [] then S "<<==->>=...." else Txt.join Str.empty ((xs.take 16).map signS)

section
variable {prog : Program} {w : World} {A : Around} {h : Heap} {mg mb : Str → Option Value}
theorem All2.strs {h : Heap} {ys : List Str} {vs : List Value} (x : All2 h (ys.map RStr) vs) : StrsAre vs ys := by
  induction ys generalizing vs with
  | nil => cases x; exact .nil
  | cons a xs ih => cases x with | cons a b => obtain ⟨t, rfl⟩ := a; exact .cons _ _ (ih b)
theorem Fn.join {x : Str} {ys : List Str} (hok : (ys.map (·.length)).sum + ys.length * x.length ≤ 16777216) : Fn prog w A h (.builtin "str.join") [RStr x, RList (ys.map RStr)] (RStr (Txt.join x ys)) := by
      rintro s vs Q E k a q
      refine a.elim2 fun v0 v1 e0 a1 b => ?_
      subst e0
      obtain ⟨t, rfl⟩ := a1
      obtain ⟨D, ws, rfl, hl, hall⟩ := b
      exact join_list (plain_isList hl) (by simpa using hall.strs) hok fun t' kk => q _ _ Gw.toks ⟨_, rfl⟩

theorem sign_ev {env : Env} {value : Expr} {x : Int} {p1 p2 p3 p4 p5 p6 p7 p8 p9 p10 p11 p12 p13 p14 p15 p16 : Pos} {t t' : Tok} (hx : Nm prog w A h env (S "x") (.int x t)) (hp : Nm prog w A h env (S "part") (.int (x.fdiv 3) t')) : 
    Ev prog w A h env (.Subscript (.List [.Constant (.str (S "=")) 0 p1, .Subscript (.Constant (.str six) 0 p2) (.BinOp (.Name (S "part") p3) .Mod (.Constant (.int 6) 0 p4) p5) p6, .Subscript (.Constant (.str all24) 0 p7) (.BinOp (.Name (S "part") p8) .Mod (.Constant (.int 24) 0 p9) p10) p11] p12)
      (.BinOp (.Name (S "x") p13) .Mod (.Constant (.int 3) 0 p14) p15) p16) (RStr (signS x)) := by
  have h3 := Int.fmod_lt_of_pos x (show (0 : Int) < 3 by decide)
  have h3' := Int.fmod_nonneg_of_pos x (show (0 : Int) < 3 by decide)
  have h6 := Int.fmod_lt_of_pos (x.fdiv 3) (show (0 : Int) < 6 by decide)
  have h6' := Int.fmod_nonneg_of_pos (x.fdiv 3) (show (0 : Int) < 6 by decide)
  have h24 := Int.fmod_lt_of_pos (x.fdiv 3) (show (0 : Int) < 24 by decide)
  have h24' := Int.fmod_nonneg_of_pos (x.fdiv 3) (show (0 : Int) < 24 by decide)
  have s6 : six.cps.size = 6 := by decide +kernel
  have s24 : all24.cps.size = 24 := by decide +kernel
  refine Ev.item (rs := [RStr (S "="), RStr ⟨#[six.cps.getD ((x.fdiv 3).fmod 6).toNat 0]⟩, RStr ⟨#[all24.cps.getD ((x.fdiv 3).fmod 24).toNat 0]⟩])
    (Ev.list (EvL.cons Ev.str (EvL.cons (Ev.sitem Ev.str (Ev.bin (Ev.nint hp) Ev.int (Bn.mod (by decide))) h6' (by (first | assumption | decide | lia | omega)) ?_) (EvL.cons (Ev.sitem Ev.str (Ev.bin (Ev.nint hp) Ev.int (Bn.mod (by decide))) h24' (by (first | assumption | decide | lia | omega)) ?_) EvL.nil))) (show 3 ≤ sizeLine by decide))
    (Ev.bin (Ev.nint hx) Ev.int (Bn.mod (by decide))) h3' (by (first | assumption | decide | lia | omega)) ?_
  · have : ((x.fdiv 3).fmod 6).toNat < six.cps.size := by (first | assumption | decide | lia | omega)
    simp [Array.getD, this]
  · have : ((x.fdiv 3).fmod 24).toNat < all24.cps.size := by (first | assumption | decide | lia | omega)
    simp [Array.getD, this]
  · have hc : x.fmod 3 = 0 ∨ x.fmod 3 = 1 ∨ x.fmod 3 = 2 := by (first | assumption | decide | lia | omega)
    rcases hc with e | e | e <;> rw [e] <;> simp [signS, sign, e]
    · rfl

theorem text_fn (W : Wd w mg mb h) (hse : h.NoSeer) (htr : prog.given.tree = none) (hh : A.handled = none) {l : List Env} (hfr : A.frames = some l) (hroom : A.depth + 200 < recursionLimit) (hun : A.units < 1000) {xs : List Int} (hxs : xs.length ≤ 63) :
    Fn prog w A h (.ref 45) [RScript xs] (RStr (textOf xs)) := by
  refine Fn.of [S "script"] (W.k _ _ (lk45 _)) (fd45 _) (bd45 _) W.lim (codeRec_of W.k (cd45 _)) rfl (Nat.lt_of_le_of_lt (Nat.le_add_right _ _) hroom) ?_ ?_ ?_
  · intro vs hvs
    obtain ⟨v, rfl⟩ := len1 hvs
    rfl
  · intro L y hy
    simp at hy; subst hy
    exact .inl (by rfl)
  · intro s s₁ vs k a F
    refine a.elim1 fun vsc e0 a1 => ?_
    subst e0
    replace a := a1
    clear a1
    have hsz : sizeLine = 16777216 := rfl
    generalize hL : s.heap.objs.size = L at F ⊢
    have hh' : (A.deeper (envText w.params L)).handled = none := hh
    have a₁ := R.kp _ F.base a
    have n_sc : ∀ {A'}, Nm prog w A' s₁.heap (envText w.params L) (S "script") vsc := F.ldL (by rfl) (by rfl) (by rfl)
    first | with_reducible refine wpAny_execs_cons ?_ | refine wpAny_execs_cons ?_
    refine wpAny_If ?_
    refine Tr.go (b := decide (xs = [])) ?_ fun s2 g2 => ?_
    · refine Tr.cmp (r₁ := RScript xs) (r₂ := RInts []) (Ev.name n_sc a₁ (by rfl)) (Ev.list EvL.nil) ?_
      have := Cm.eqD (prog := prog) (w := w) (A := A.deeper (envText w.params L)) (h := s₁.heap) (Dt.script (xs := xs)) (Dt.ints (xs := [])) (ints_canLay xs) (ints_canLay []) (by
        show A.units + 3 + min (PyData.depthAll _ + 1) (PyData.depthAll _ + 1) < 9900; rw [ints_depth, ints_depth]; (first | assumption | decide | lia | omega))
      rwa [show PyData.eqv (.list (xs.map .int)) (.list (([] : List Int).map .int)) = decide (xs = []) from ints_eqv xs []] at this
    by_cases hx0 : xs = []
    · rw [show decide (xs = []) = true by simpa using hx0]
      simp only [if_true]
      first | with_reducible refine wpAny_execs_cons ?_ | refine wpAny_execs_cons ?_
      refine wpAny_Return_some (Ev.go Ev.str fun v s3 g3 hv => ?_)
      refine ⟨v, rfl, (F.out.trans g2).trans g3, ?_⟩
      unfold textOf; rw [if_pos hx0]; exact hv
    · rw [show decide (xs = []) = false by simpa using hx0]
      simp only [Bool.false_eq_true, if_false]
      refine wpAny_execs_nil ?_
      have F2 := (F.gw g2).adv
      have a₂ := R.kp _ g2.kp a₁
      -- row = []
      first | with_reducible refine wpAny_execs_cons ?_ | refine wpAny_execs_cons ?_
      refine wpAny_Assign_Name (EvP.list (prog := prog) (w := w) (A := A.deeper (envText w.params L)) (h := s2.heap) EvL.nil (by decide) s2 _ _ Kp.rfl ?_) (by rfl)
      rintro _ s3 g3 ⟨ar, vr, rfl, hnr, hlr, hallr⟩
      cases hallr
      refine (F2.gw g3).stL (n := S "row") (by rfl) (by rfl) fun s4 F4 y4 => ?_
      have hl4 : s4.heap.PlainList ar #[] := by obtain ⟨q, e⟩ := hlr; exact ⟨q, y4 _ _ e (seq_not_vary rfl)⟩
      have a₄ : (RScript xs).is s4.heap vsc := R.kp _ F4.base a
      have hsr : s.heap.get? ar = none := by
        cases q : s.heap.get? ar with
        | none => rfl
        | some o => have := g2.kp _ _ (F.base _ _ q); rw [hnr] at this; cases this
      -- the loop
      have hlen16 : (xs.take 16).length ≤ 16 := by rw [List.length_take]; (first | assumption | decide | lia | omega)
      refine wpAny_execs_cons (FS.for_ (items := (xs.take 16).map RInt) (JT vsc ar xs) F4
        (SrcN.newlist hh' (EvP.first (b := 16) (Ev.name (F4.ldL (by rfl) (by rfl) (by rfl)) a₄ (by rfl)) Ev.int (by (first | assumption | decide | lia | omega))) (by intro r hr; obtain ⟨i, _, rfl⟩ := List.mem_map.mp hr; exact Sc.int)) ?js ?j0 ?step ?fin)
      case js =>
        rintro i m' cm' h h' ⟨e1, e2, vs, ⟨c, e⟩, hall⟩ kk
        refine ⟨e1, e2, vs, ⟨c, kk _ _ (by obtain ⟨_, o⟩ := hl4; exact ⟨_, o⟩) e⟩, hall.sc (by intro r hr; obtain ⟨i, _, rfl⟩ := List.mem_map.mp hr; exact Sc.str)⟩
      case j0 => exact ⟨by rfl, by rfl, [], hl4, .nil⟩
      case fin =>
        rintro s' m' cm' F' ⟨e1, e2, vs, hl, hall⟩
        rw [List.length_map, List.take_of_length_le (Nat.le_refl _)] at hall
        first | with_reducible refine wpAny_execs_cons ?_ | refine wpAny_execs_cons ?_
        refine wpAny_Return_some ?_
        refine Ev.go (Ev.meth (T := "str") (id := "str.join") Ev.str (EvL.cons (Ev.name (r₁ := RList (((xs.take 16).map signS).map RStr)) (F'.ldL e2 (by rfl) (by rfl)) ⟨ar, vs, rfl, hl, hall⟩ (by rfl)) EvL.nil) (Fn.join ?_) (fun s v hv => ?_) PySem.F.plainAttrs_str PySem.F.slot_str_join PySem.F.type_str_join) fun v s3 g3 hv => ⟨v, rfl, F'.out.trans g3, ?_⟩
        · have : ∀ l : List Int, ((l.map signS).map (·.length)).sum = l.length := by
            intro l
            induction l with
            | nil => rfl
            | cons a r ih => simp only [List.map_cons, List.sum_cons, ih, List.length_cons]; show 1 + r.length = r.length + 1; (first | assumption | decide | lia | omega)
          rw [this, List.length_map]
          show _ + _ * 0 ≤ _
          (first | assumption | decide | lia | omega)
        · obtain ⟨t, rfl⟩ := hv
          exact ⟨typeIs_str s _ t, fun a ha => by cases ha⟩
        · unfold textOf; rw [if_neg hx0]; exact hv
      case step =>
        rintro i v s₁ m₁ cm₁ K₁ E' hi ⟨r, hr, hv⟩ F₁ hK hK' ⟨e1, e2, vs, hl, hall⟩
        rw [List.length_map] at hi
        rw [List.getElem?_map, List.getElem?_eq_getElem hi] at hr
        cases hr
        obtain ⟨tk, rfl⟩ := hv
        generalize hxi : (xs.take 16)[i] = xi
        refine wpAny_assign_Name (F₁.stL (n := S "x") (by rfl) (by rfl) fun s₂ F₂ y₂ => ?_)
        have hse₂ : SeerAt (model prog w) (A.deeper (envText w.params L)) s₂.heap := SeerAt.of (env := envText w.params L) (l := l) (hse.keeps (k.trans F₂.base)) htr (by show A.frames.map _ = _; rw [hfr]; rfl) (by rfl) (by rfl) (by rfl) (by rfl)
        first | with_reducible refine wpAny_execs_cons ?_ | refine wpAny_execs_cons ?_
        refine F₂.asgL (n := S "part") (r₁ := RInt (xi.fdiv 3)) (Ev.bin (Ev.nint (F₂.ldL up_self (by rfl) (by rfl))) Ev.int (Bn.fdiv (by decide) ?pl)) Ss.int (by rfl) (by rfl) ?_
        case pl =>
          intro s5 k5
          refine Or.inr (PylongRoom.of ((W.lim.keeps (k.trans F₂.base)).keeps k5) (by show A.depth + 1 + 100 < recursionLimit; (first | assumption | decide | lia | omega)) ?_)
          exact SeerAt.of (env := envText w.params L) (l := l) ((hse.keeps (k.trans F₂.base)).keeps k5) htr (by show A.frames.map _ = _; rw [hfr]; rfl) (by rfl) (by rfl) (by rfl) (by rfl)
        rintro _ s₃ F₃ y₃ ⟨tp, rfl⟩
        have hl₃ : s₃.heap.PlainList ar vs.toArray := by obtain ⟨c, e⟩ := hl; exact ⟨c, y₃ _ _ (y₂ _ _ e (seq_not_vary rfl)) (seq_not_vary rfl)⟩
        have hvl : vs.length ≤ sizeLine := by have := hall.len; rw [List.length_map, List.length_map, List.length_take] at this; (first | assumption | decide | lia | omega)
        refine wpAny_execs_cons (F₃.append (n := S "row") (F₃.ldL ((up_ne (by decide)).trans ((up_ne (by decide)).trans e2)) (by rfl) (by rfl)) hl₃ (sign_ev (value := .Name (S "x") default) (F₃.ldL ((up_ne (by decide)).trans up_self) (by rfl) (by rfl)) (F₃.ldL up_self (by rfl) (by rfl)))
          (hK' ar (by obtain ⟨_, o⟩ := hl4; exact ⟨_, o⟩) (hk_none hnr)) hsr hvl ?_ (hd := by rfl))
        rintro _ s₄ F₄ hl₄ ⟨h₁, k₁, ⟨t9, rfl⟩, sb⟩
        refine wpAny_execs_nil ⟨rfl, _, cm₁, F₄, (up_ne (by decide)).trans ((up_ne (by decide)).trans e1), (up_ne (by decide)).trans ((up_ne (by decide)).trans e2), _, hl₄, ?_⟩
        have hsn : ((xs.take 16).take (i + 1)) = (xs.take 16).take i ++ [xi] := by rw [List.take_add_one, List.getElem?_eq_getElem hi, hxi]; rfl
        rw [hsn, List.map_append, List.map_append]
        exact (hall.sc (by intro r hr; obtain ⟨i, _, rfl⟩ := List.mem_map.mp hr; exact Sc.str)).append (.cons ⟨_, rfl⟩ .nil)
end
end Mine

-- Law8
namespace Mine
theorem lk35 (P : Params) : (KF P).lookup 35 = some (objAt P 35) := by rfl
theorem fd35 (P : Params) : (objAt P 35).data = .func (fdOf (objAt P 35)) := by rfl
theorem bd35 (P : Params) : (fdOf (objAt P 35)).body = .stmts (bodyOf (fdOf (objAt P 35))) := by rfl
theorem cd35 (P : Params) : codeIn (KF P) (fdOf (objAt P 35)).code (fdOf (objAt P 35)).qualname = true := by rfl
section
variable {prog : Program} {w : World} {A : Around} {h : Heap} {mg mb : Str → Option Value}
theorem cmp3_fn (W : Wd w mg mb h) (hroom : A.depth < recursionLimit) (hun : A.units < 1000) {xs ys : List Int} :
    Fn prog w A h (.ref 35) [RInts xs, RInts ys] (RInt (b2i (lexLt ys xs) - b2i (lexLt xs ys))) := by
  refine Fn.of [S "x", S "y"] (W.k _ _ (lk35 _)) (fd35 _) (bd35 _) W.lim (codeRec_of W.k (cd35 _)) rfl hroom ?_ ?_ ?_
  · intro vs hvs
    obtain ⟨v, u, rfl⟩ := len2 hvs
    rfl
  · intro L y hy
    simp at hy
    rcases hy with rfl | rfl
    · exact .inl (by rfl)
    · exact .inl (by rfl)
  · intro s s₁ vs k a F
    refine a.elim2 fun vx vy e0 a1 b => ?_
    subst e0
    replace a := a1
    clear a1
    have a₁ := R.kp _ F.base a
    have b₁ := R.kp _ F.base b
    generalize hL : s.heap.objs.size = L at F ⊢
    have n_x : ∀ {A'}, Nm prog w A' s₁.heap (callEnvC (fdOf (objAt w.params 35)) L 35) (S "x") vx := F.ldL (by rfl) (by rfl) (by rfl)
    have n_y : ∀ {A'}, Nm prog w A' s₁.heap (callEnvC (fdOf (objAt w.params 35)) L 35) (S "y") vy := F.ldL (by rfl) (by rfl) (by rfl)
    have hu' : (A.deeper (callEnvC (fdOf (objAt w.params 35)) L 35)).units < 9000 := by show A.units + 3 < 9000; (first | assumption | decide | lia | omega)
    first | with_reducible refine wpAny_execs_cons ?_ | refine wpAny_execs_cons ?_
    refine wpAny_Return_some (Ev.go (Ev.bin (Ev.cmp (Ev.name n_x a₁ (by rfl)) (Ev.name n_y b₁ (by rfl)) (Cm.gtInts hu')) (Ev.cmp (Ev.name n_x a₁ (by rfl)) (Ev.name n_y b₁ (by rfl)) (Cm.ltInts hu')) Bn.subB) fun v s2 g2 hv => ⟨v, rfl, F.out.trans g2, hv⟩)
end
end Mine

-- Law9
namespace Mine
theorem sign_tok (x : Int) : isK [sign x] = true := by
  have h6 := Int.fmod_lt_of_pos (x.fdiv 3) (show (0 : Int) < 6 by decide)
  have h6' := Int.fmod_nonneg_of_pos (x.fdiv 3) (show (0 : Int) < 6 by decide)
  have h24 := Int.fmod_lt_of_pos (x.fdiv 3) (show (0 : Int) < 24 by decide)
  have h24' := Int.fmod_nonneg_of_pos (x.fdiv 3) (show (0 : Int) < 24 by decide)
  have k6 : ∀ i, i < 6 → isK [six.cps.getD i 0] = true := by decide +kernel
  have k24 : ∀ i, i < 24 → isK [all24.cps.getD i 0] = true := by decide +kernel
  unfold sign
  split
  · decide +kernel
  · split
    · exact k6 _ (by (first | assumption | decide | lia | omega))
    · exact k24 _ (by (first | assumption | decide | lia | omega))
theorem join_signs : ∀ l : List Int, (Txt.join Str.empty (l.map signS)).cps.toList = l.map sign := by
  intro l
  show (Builtin.Str.glued Str.empty (l.map signS)).cps.toList = _
  rw [StrLaws.glued_eq_join]
  induction l with
  | nil => rfl
  | cons a r ih =>
    cases r with
    | nil => rfl
    | cons b r =>
      have e : Str.join Str.empty ((a :: b :: r).map signS) = signS a ++ Str.empty ++ Str.join Str.empty ((b :: r).map signS) := rfl
      rw [e]
      simp only [Str.cps_append, Array.toList_append, ih]
      rfl
theorem text_good {xs : List Int} : Good (textOf xs) := by
  unfold textOf
  split
  · refine ⟨by decide +kernel, by decide +kernel, ?_⟩
    have : (S "<<==->>=....").length = 12 := by decide +kernel
    rw [this]
    decide +kernel
  · rename_i h
    have hc := join_signs (xs.take 16)
    have hlen : (Txt.join Str.empty ((xs.take 16).map signS)).length = (xs.take 16).length := by
      show (Txt.join Str.empty ((xs.take 16).map signS)).cps.size = _
      rw [← Array.length_toList, hc, List.length_map]
    have hpos : 0 < xs.length := List.length_pos_iff.mpr h
    refine ⟨by rw [hlen, List.length_take]; (first | assumption | decide | lia | omega), by rw [hlen, List.length_take]; (first | assumption | decide | lia | omega), fun i hi => ?_⟩
    rw [tok1 (by (first | assumption | decide | lia | omega))]
    unfold ch
    rw [hc]
    rw [hlen] at hi
    simp only [List.getD, List.getElem?_map, List.getElem?_eq_getElem hi, Option.map_some, Option.getD_some]
    exact sign_tok _
end Mine

-- Math2
namespace Mine
theorem exists_least {x : Str} (hx : Good x) : ∀ K, K ≤ x.length → ∃ T : Nat → Nat, ∀ k, k ≤ K → LeastAt x T k
  | 0, _ => ⟨fun _ => 0, fun k hk => by obtain rfl : k = 0 := Nat.le_zero.mp hk; simp [LeastAt]⟩
  | K + 1, hK => by
    obtain ⟨T, hT⟩ := exists_least hx K (Nat.le_of_lt hK)
    obtain ⟨q0, _, _, h⟩ := least_pick hx hK hT
    exact ⟨_, h⟩
theorem exists_rest {x : Str} (hx : Good x) : ∀ d, d ≤ x.length → ∃ U : Nat → Nat, ∀ k, x.length - d ≤ k → k ≤ x.length → RestAt x U k
  | 0, _ => ⟨fun _ => 0, fun k hk hk' => by obtain rfl : k = x.length := Nat.le_antisymm hk' hk; simp [RestAt]⟩
  | d + 1, hd => by
    obtain ⟨U, hU⟩ := exists_rest hx d (Nat.le_of_lt hd)
    obtain ⟨q0, j0, _, _, _, _, h⟩ := rest_pick hx (U := U) (K := x.length - (d + 1)) (by (first | assumption | decide | lia | omega)) fun k hk hk' => hU k (by (first | assumption | decide | lia | omega)) hk'
    exact ⟨_, h⟩

/- the cuts of the two readings, as told: the k-th of each -/
structure Cuts (x : Str) (m : Nat) : Prop where
  fl : (front x 17 0).length = m
  bl : (back x 17 x.length).length = m
  pos : 0 < m
  le : m ≤ 16
  fg : ∀ i, i < m → (front x 17 0).getD i 0 = gF x (i + 1)
  bg : ∀ i, i < m → (back x 17 x.length).getD i 0 = gB x i
  flt : ∀ i, i < m → gF x i < x.length
  blt : ∀ i, i < m → 0 < gB x i
  fend : gF x m = x.length
  bend : gB x m = 0
  ge : ∀ i, i ≤ m → gB x (m - i) ≤ gF x i
theorem cuts_of {x : Str} (hx : Good x) : ∃ m, Cuts x m := by
  obtain ⟨T, hT⟩ := exists_least hx x.length (Nat.le_refl _)
  obtain ⟨U, hU'⟩ := exists_rest hx x.length (Nat.le_refl _)
  have hU : ∀ k, k ≤ x.length → RestAt x U k := fun k hk => hU' k (by (first | assumption | decide | lia | omega)) hk
  obtain ⟨f1, f2⟩ := far_math hx hT
  obtain ⟨b1, b2⟩ := near_math hx hU
  have hl := hx.2.1
  obtain ⟨s1, s2⟩ := front_spec hx 17 0 (by show x.length - 0 ≤ 17; (first | assumption | decide | lia | omega))
  change gF x (0 + (front x 17 0).length) = x.length at s1
  change ∀ j, j < (front x 17 0).length → (front x 17 0).getD j 0 = gF x (0 + j + 1) ∧ gF x (0 + j) < x.length at s2
  obtain ⟨r1, r2⟩ := back_spec hx 17 0 (by show x.length ≤ 17; (first | assumption | decide | lia | omega))
  change gB x (0 + (back x 17 x.length).length) = 0 at r1
  change ∀ j, j < (back x 17 x.length).length → (back x 17 x.length).getD j 0 = gB x (0 + j) ∧ 0 < gB x (0 + j) at r2
  rw [Nat.zero_add] at s1 r1
  -- the two least numbers are one
  have q1 : ∀ u k, k ≤ x.length → U k = u → T x.length ≤ T k + U k := by
    intro u
    induction u with
    | zero =>
      intro k hk e
      have := hU k hk
      unfold RestAt at this
      by_cases h : k = x.length
      · subst h; exact Nat.le_add_right _ _
      · rw [if_neg h] at this; obtain ⟨⟨j, _, e'⟩, _⟩ := this; exact absurd (e.symm.trans e') (Nat.ne_of_lt (Nat.lt_of_lt_of_le Nat.zero_lt_one (Nat.le_add_right 1 _)))
    | succ u ih =>
      intro k hk e
      have := hU k hk
      unfold RestAt at this
      by_cases h : k = x.length
      · subst h; exact Nat.le_add_right _ _
      · rw [if_neg h] at this
        obtain ⟨⟨j, hj, e'⟩, _⟩ := this
        have h1 := ih j hj.2.2.1 (by (first | assumption | decide | lia | omega))
        have h2 := hT j hj.2.2.1
        unfold LeastAt at h2
        rw [if_neg (by have := hj.1; (first | assumption | decide | lia | omega))] at h2
        have h3 := h2.2 k hj
        (first | assumption | decide | lia | omega)
  have q2 : ∀ t k, k ≤ x.length → T k = t → U 0 ≤ T k + U k := by
    intro t
    induction t with
    | zero =>
      intro k hk e
      have := hT k hk
      unfold LeastAt at this
      by_cases h : k = 0
      · subst h; exact Nat.le_add_left _ _
      · rw [if_neg h] at this; obtain ⟨⟨j, _, e'⟩, _⟩ := this; exact absurd (e.symm.trans e') (Nat.ne_of_lt (Nat.lt_of_lt_of_le Nat.zero_lt_one (Nat.le_add_right 1 _)))
    | succ t ih =>
      intro k hk e
      have := hT k hk
      unfold LeastAt at this
      by_cases h : k = 0
      · subst h; exact Nat.le_add_left _ _
      · rw [if_neg h] at this
        obtain ⟨⟨j, hj, e'⟩, _⟩ := this
        have hjn : j ≤ x.length := by have := hj.1; (first | assumption | decide | lia | omega)
        have h1 := ih j hjn (by (first | assumption | decide | lia | omega))
        have h2 := hU j hjn
        unfold RestAt at h2
        rw [if_neg (by have := hj.1; (first | assumption | decide | lia | omega))] at h2
        have h3 := h2.2 k hj
        (first | assumption | decide | lia | omega)
  have hT0 : T 0 = 0 := by have := hT 0 (Nat.zero_le _); simpa [LeastAt] using this
  have hUn : U x.length = 0 := by have := hU x.length (Nat.le_refl _); simpa [RestAt] using this
  have hTU : T x.length = U 0 := by
    have h1 := q1 _ 0 (Nat.zero_le _) rfl
    have h2 := q2 _ x.length (Nat.le_refl _) rfl
    (first | assumption | decide | lia | omega)
  have hm : (back x 17 x.length).length = (front x 17 0).length := by (first | assumption | decide | lia | omega)
  refine ⟨(front x 17 0).length, rfl, hm, (front_len hx).2, (front_len hx).1, fun i hi => by rw [(s2 i hi).1, Nat.zero_add], fun i hi => by rw [(r2 i (by (first | assumption | decide | lia | omega))).1, Nat.zero_add], fun i hi => by have := (s2 i hi).2; rwa [Nat.zero_add] at this,
    fun i hi => by have := (r2 i (by (first | assumption | decide | lia | omega))).2; rwa [Nat.zero_add] at this, s1, by rw [← hm]; exact r1, ?_⟩
  -- from the i-th cut on the end is m - i operators away
  have hd : ∀ d i, i + d = (front x 17 0).length → U (gF x i) ≤ d := by
    intro d
    induction d with
    | zero => intro i e; rw [show i = (front x 17 0).length by (first | assumption | decide | lia | omega), s1]; (first | assumption | decide | lia | omega)
    | succ d ih =>
      intro i e
      have h1 := ih (i + 1) (by (first | assumption | decide | lia | omega))
      have h2 := (s2 i (by (first | assumption | decide | lia | omega))).2
      rw [Nat.zero_add] at h2
      have e2 : gF x (i + 1) = gF x i + ahead x (gF x i) := by rw [gF, if_pos h2]
      obtain ⟨a1, a2, a3, a4, _⟩ := ahead_spec hx h2
      have h3 := hU (gF x i) (by (first | assumption | decide | lia | omega))
      unfold RestAt at h3
      rw [if_neg (by (first | assumption | decide | lia | omega))] at h3
      have := h3.2 (gF x (i + 1)) (by rw [e2]; exact ⟨by (first | assumption | decide | lia | omega), by (first | assumption | decide | lia | omega), a3, a4⟩)
      (first | assumption | decide | lia | omega)
  intro i hi
  have h1 := hd ((front x 17 0).length - i) i (by (first | assumption | decide | lia | omega))
  by_cases hz : i = 0
  · subst hz; rw [Nat.sub_zero, ← hm, r1]; exact Nat.zero_le _
  · have := (b2 ((front x 17 0).length - i) (by (first | assumption | decide | lia | omega))).2.2 (gF x i) (gF_le hx i) h1
    rw [(r2 _ (by (first | assumption | decide | lia | omega))).1, Nat.zero_add] at this
    exact this
end Mine

-- Ev16
namespace Mine
theorem nA {N a b : Nat} (h : a ≠ b) : N + a ≠ N + b := fun e => h (Nat.add_left_cancel e)
theorem n0 {N a : Nat} (h : 0 ≠ a) : N ≠ N + a := nA (a := 0) h
theorem nL {l N a : Nat} (h : l < N) : l ≠ N + a := Nat.ne_of_lt (Nat.lt_add_right a h)
section
variable {prog : Program} {w : World} {A : Around} {env : Env} {h : Heap} {e l : Expr} {p pos : Pos}
theorem ints_get {vs : List Value} {xs : List Int} (hv : IntsAre vs xs) {i : Nat} {v : Value} (h : vs.toArray[i]? = some v) : ∃ t, v = .int (xs.getD i 0) t := by
  have hi : i < xs.length := by have := (Array.getElem?_eq_some_iff.mp h).1; rw [← hv.length]; simpa using this
  obtain ⟨t, ht⟩ := ints_at hv i hi
  rw [ht] at h; cases h
  exact ⟨t, rfl⟩

/- zip(xs, ys) of two lists of ints, unpacked by the target -/
theorem Src.zip {x : Str} {elts : List Expr} {kk : Nat} {tp : Pos} {xs ys : List Int} (hh : A.handled = none) (hx : Nm prog w A h env x (.type "zip")) (y : EvL prog w A h env pos [e, l] [RInts xs, RInts ys])
    (hd : (x == ("__debug__" : Str)) = false := by rfl) (he : starEach [e, l] env = (false, eval e env) :: starEach [l] env := by rfl)
    (hp : (backTo pos (starEach [l] env)).any (·.1) = false := by rfl) :
    Src prog w A h env (.Tuple elts kk tp) (.Call (.Name x p) [e, l] [] pos) ((List.range (min xs.length ys.length)).map fun i => RPair (xs.getD i 0) (ys.getD i 0)) := fun s Q E k q =>
  wpAny_Call_NameR (wpAny_Name (hx s _ E k (callWith_type1 (y s _ E k fun vs s₁ g₁ a₁ => by
    refine a₁.elim2 fun v0 v1 e0 a b => ?_
    subst e0
    clear a₁
    obtain ⟨l1, v1, rfl, hl1, h1⟩ := a
    obtain ⟨l2, v2, rfl, hl2, h2⟩ := b
    have e1 := h1.ints.length
    have e2 := h2.ints.length
    have L1 : l1 < s₁.heap.objs.size := by obtain ⟨_, o⟩ := hl1; exact Heap.lt_size o
    have L2 : l2 < s₁.heap.objs.size := by obtain ⟨_, o⟩ := hl2; exact Heap.lt_size o
    have L1' : @LT.lt Nat _ l1 s₁.heap.objs.size := L1
    have L2' : @LT.lt Nat _ l2 s₁.heap.objs.size := L2
    refine call_zip_2 (plain_isList hl1) (plain_isList hl2) fun h' z1 z2 z3 z4 z5 z6 z7 => ?_
    generalize hN : s₁.heap.objs.size = N at *
    have D : ZipApart (N + 4) (N + 2) (N + 3) N (N + 1) l1 l2 := by
      constructor <;> first | exact nA (by decide) | exact nL L1' | exact nL L2' | exact n0 (by decide) | exact (n0 (by decide)).symm | exact Nat.ne_of_lt L1' | exact Nat.ne_of_lt L2' | exact (nL L1').symm | exact (nL L2').symm | exact Nat.ne_of_gt L1' | exact Nat.ne_of_gt L2'
    have hW := (WalksT.zip2 (prog := prog) (w := w) hh (N + 4) (N + 2) (N + 3) N (N + 1) l1 l2 D v1.toArray v2.toArray)
    have kz : Kp s₁.heap h' := z7
    have hst : IsZip h' (N + 4) (N + 2) (N + 3) .none ∧ IsPair h' (N + 2) (.ref N) (.ref (N + 1)) ∧ (∃ a b, IsPair h' (N + 3) a b) ∧ h'.IsListIter N l1 0 ∧ h'.IsListIter (N + 1) l2 0 ∧ h'.IsList l1 v1.toArray ∧ h'.IsList l2 v2.toArray :=
      ⟨z1, z2, ⟨_, _, z3⟩, z4, z5, by obtain ⟨c, o⟩ := hl1; exact ⟨_, kz _ _ o, rfl, c, rfl⟩, by obtain ⟨c, o⟩ := hl2; exact ⟨_, kz _ _ o, rfl, c, rfl⟩⟩
    refine wpAny_pyIter_zip z1 ?_
    have W := KTurns.ofWalksU (elts := elts) (k := kk) (pos := tp) hW.toU
    have hmin : min v1.toArray.size v2.toArray.size = min xs.length ys.length := by simp [e1, e2]
    refine q (N + 4) _ _ _ _ _ s₁.heap _ (g₁.trans ⟨h', s₁.toks, rfl, kz⟩) g₁.kp kz ?_ (by rw [List.length_map, List.length_range, ← hmin]; exact W) ?_ hst ?_ ?_ ?_
    · intro b hb
      simp at hb
      refine Heap.get?_none_of_le (?_ : s₁.heap.objs.size ≤ b)
      rw [hN]
      rcases hb with rfl | rfl | rfl | rfl
      · exact Nat.le_add_right _ _
      · exact Nat.le_add_right _ _
      · exact Nat.le_refl _
      · exact Nat.le_add_right _ _
    · exact fun i s Q E st q => wpAny_pyIter_zip st.1 q
    · intro i h st b hb
      obtain ⟨a1, a2, ⟨_, _, a3⟩, ⟨o4, a4, _⟩, ⟨o5, a5, _⟩, _⟩ := st
      simp at hb
      rcases hb with rfl | rfl | rfl | rfl
      · exact ⟨_, a1⟩
      · exact ⟨_, a3⟩
      · exact ⟨_, a4⟩
      · exact ⟨_, a5⟩
    · intro b hb
      have hb' : @LT.lt Nat _ b (N + 5) := by
        simp at hb
        rcases hb with rfl | rfl | rfl | rfl | rfl | rfl | rfl <;> first | exact Nat.add_lt_add_left (by decide) _ | exact Nat.lt_add_of_pos_right (by decide) | exact Nat.lt_add_right _ L1' | exact Nat.lt_add_right _ L2'
      show b < h'.objs.size
      rw [z6]; exact hb'
    · rintro i v h'' ⟨T, vals, rfl, ⟨vx, vy, hx, hy, rfl⟩, hT⟩ kh
      obtain ⟨t1, rfl⟩ := ints_get h1.ints hx
      obtain ⟨t2, rfl⟩ := ints_get h2.ints hy
      have hi1 : i < xs.length := by have := (Array.getElem?_eq_some_iff.mp hx).1; rw [← e1]; simpa using this
      have hi2 : i < ys.length := by have := (Array.getElem?_eq_some_iff.mp hy).1; rw [← e2]; simpa using this
      refine ⟨RPair (xs.getD i 0) (ys.getD i 0), ?_, T, t1, t2, rfl, hT⟩
      rw [List.getElem?_map, List.getElem?_range (by (first | assumption | decide | lia | omega))]
      rfl) he hp)) hd)
end
end Mine

-- Ev17
namespace Mine
section
variable {prog : Program} {w : World} {A : Around} {E : Value → Shared → Prop} {s : Shared}
theorem forA2 {M : Model} {β : Type} {a b : Value} {f : Value → β → Sem (ForInStep β)} {x : β} {Q : β → Shared → Prop} (h : wpAny M A (f a x >>= fun r => match r with | .done y => pure y | .yield y => (f b y >>= fun r => match r with | .done y => pure y | .yield y => pure y)) Q E s) :
    wpAny M A (forIn #[a, b] x f) Q E s := by
  simp only [← Array.forIn_toList, List.forIn_cons, List.forIn_nil]
  exact h
theorem nextOf_range {it : Addr} {x left step : Int} {Q : Value → Shared → Prop} (hit : IsRangeIter s.heap it x left step) (hleft : 0 < left)
    (hQ : ∀ h', IsRangeIter h' it (x + step) (left - 1) step → Heap.SameBut it s.heap h' → Q (.int x s.toks) { s with heap := h', toks := s.toks + 1 }) :
    wpAny (model prog w) A (Builtin.SmallTypes.nextOf (.ref it)) Q E s := by
  have hT : s.TypeIs (.ref it) "range_iterator" := ⟨_, hit, rfl⟩
  unfold Builtin.SmallTypes.nextOf
  refine wpAny_bind (wpAny_callSpecial?_slot (name := Str.ofString "__next__") hT PySem.F.slot_range_iterator_next
    (call_meets PySem.F.slot_range_iterator_next hT PySem.F.entry_range_iterator_next (PySem.F.args_range_iterator_next_1 _) (AutoRange.range_iterator___next___range_iterator_1 it x left step (by (first | assumption | decide | lia | omega))) ⟨hit, ?_⟩))
  exact wpAny_pure (hQ _ (Heap.get?_update_self _ (Heap.get?_update_self _ hit rfl) rfl) ((Heap.SameBut.update ..).trans (Heap.SameBut.update ..)))

abbrev IsZ (h : Heap) (z TI TO : Addr) (f0 f1 : Value) : Prop := h.get? z = some { cls := .type "zip", dict := none, data := .fields #[f0, f1, .bool false, .ref TI, .ref TO], slots := #[] }

theorem lia {M : Model} {a : Addr} {Q : Option Obj → Shared → Prop} (h : Q (s.heap.get? a) s) : wpAny M A (loadIfAlive a) Q E s := fun _ _ _ => h
theorem own_busy {z TI TO T : Addr} {f1 : Value} {oT : Obj} (hz : IsZ s.heap z TI TO (rawInt T) f1) (hT : s.heap.get? T = some oT) :
    wpAny (model prog w) A (Builtin.SmallTypes.ownedTupleIsFree (.ref z)) (fun a s' => a = false ∧ ∃ h₁ f1', s' = { s with heap := h₁ } ∧ IsZ h₁ z TI TO (rawInt T) f1' ∧ Heap.SameBut z s.heap h₁) E s := by
  unfold Builtin.SmallTypes.ownedTupleIsFree
  refine wpAny_bind (wpAny_field hz rfl (x := rawInt T) rfl ?_)
  show wpAny _ _ (loadIfAlive (T : Int).toNat >>= _) _ _ _
  refine wpAny_bind (lia ?_)
  rw [Int.toNat_natCast, hT]
  refine wpAny_ite_false rfl (wpAny_bind (wpAny_field hz rfl (x := f1) rfl ?_))
  by_cases hf : (f1 != Value.bool true) = true
  · refine wpAny_ite_true (decide_eq_true hf) ?_
    exact wpAny_bind (wpAny_setField_rec hz (by simp) fun h₁ hz₁ hs₁ => wpAny_pure ⟨rfl, h₁, _, rfl, hz₁, hs₁⟩)
  · refine wpAny_ite_false (decide_eq_false hf) ?_
    exact wpAny_pure ⟨rfl, s.heap, f1, by cases s; rfl, hz, .refl ..⟩

/- a list's iterator and a range's, zipped: an item that is not the first -/
theorem zipR_next {z TI TO i1 i2 l1 T : Addr} {k : Nat} {xs : Array Value} {v : Value} {x left : Int} {f1 : Value} {oT : Obj} {Q : Value → Shared → Prop}
    (hz : IsZ s.heap z TI TO (rawInt T) f1) (hTI : IsPair s.heap TI (.ref i1) (.ref i2)) (hT : s.heap.get? T = some oT)
    (h1 : s.heap.IsListIter i1 l1 k) (hl1 : s.heap.IsList l1 xs) (hx : xs[k]? = some v) (h2 : IsRangeIter s.heap i2 x left 1) (hleft : 0 < left)
    (d1 : i1 ≠ z) (d2 : i2 ≠ z) (d3 : l1 ≠ z) (d4 : i1 ≠ i2) (d5 : TI ≠ z)
    (hQ : ∀ h' t f1', IsZ h' z TI TO (rawInt T) f1' → h'.IsListIter i1 l1 (k + 1) → IsRangeIter h' i2 (x + 1) (left - 1) 1 → IsPair h' s.heap.objs.size v (.int x t) → h'.objs.size = s.heap.objs.size + 1 →
      (∀ c o, c ≠ z → c ≠ i1 → c ≠ i2 → s.heap.get? c = some o → h'.get? c = some o) → Q (.ref s.heap.objs.size) { s with heap := h', toks := s.toks + 1 }) :
    wpAny (model prog w) A (Builtin.«zip.__next__» ⟨[.ref z], []⟩) (fun fin s' => ∃ v, fin = .done (.ret v) ∧ Q v s') E s := by
  show wpAny _ _ (field (.ref z) 2 >>= _) _ _ _
  refine wpAny_bind (wpAny_field hz rfl (x := .bool false) rfl ?_)
  show wpAny _ _ (field (.ref z) 3 >>= _) _ _ _
  refine wpAny_bind (wpAny_field hz rfl (x := .ref TI) rfl ?_)
  refine wpAny_bind (wpAny_seqItems hTI rfl ?_)
  show wpAny _ _ (Builtin.SmallTypes.ownedTupleIsFree (.ref z) >>= _) _ _ _
  refine wpAny_bind (wpAny_mono (own_busy hz hT) ?_ fun _ _ x => x)
  rintro a s' ⟨rfl, h₁, f1', rfl, hz₁, hs₁⟩
  refine wpAny_ite_false rfl ?_
  refine wpAny_bind (forA2 (wpAny_bind (wpAny_bind (wpAny_holding ?_))))
  show wpAny _ _ (Builtin.SmallTypes.nextOf (.ref i1) >>= _) _ _ _
  refine wpAny_bind (wpAny_nextOf_list_item (h1.extBut hs₁.extBut d1) (hl1.extBut hs₁.extBut d3) hx fun h₂ h1₂ hs₂ => wpAny_pure (wpAny_pure ?_))
  refine wpAny_bind (wpAny_bind (wpAny_holding ?_))
  show wpAny _ _ (Builtin.SmallTypes.nextOf (.ref i2) >>= _) _ _ _
  refine wpAny_bind (nextOf_range (hs₂.extBut _ _ (Ne.symm d4) (hs₁.extBut _ _ d2 h2)) hleft fun h₃ h2₃ hs₃ => wpAny_pure (wpAny_pure (wpAny_pure ?_)))
  refine wpAny_bind (wpAny_newTuple (wpAny_pure ?_) (show 2 ≤ sizeLine by decide))
  have hsz : h₃.objs.size = s.heap.objs.size := by rw [hs₃.1, hs₂.1, hs₁.1]
  refine ⟨_, rfl, ?_⟩
  show Q (.ref h₃.objs.size) _
  rw [hsz]
  refine hQ _ s.toks f1' ?_ ?_ ?_ ?_ ?_ ?_
  · exact Heap.get?_push_of_some _ (hs₃.extBut _ _ (Ne.symm d2) (hs₂.extBut _ _ (Ne.symm d1) hz₁))
  · exact (h1₂.extBut hs₃.extBut d4).at fun o e => Heap.get?_push_of_some _ e
  · exact Heap.get?_push_of_some _ h2₃
  · have := Heap.get?_push_size h₃ (o := { cls := .type "tuple", data := .seq [v, .int x s.toks].toArray }) rfl
    rw [hsz] at this
    exact this
  · rw [Heap.size_push, hsz]
  · exact fun c o c1 c2 c3 e => Heap.get?_push_of_some _ (hs₃.extBut _ _ c3 (hs₂.extBut _ _ c2 (hs₁.extBut _ _ c1 e)))

/- its first item, by the tuple that zip keeps -/
theorem zipR_first {z TI TO i1 i2 l1 : Addr} {k : Nat} {xs : Array Value} {v a b : Value} {x left : Int} {f1 : Value} {Q : Value → Shared → Prop}
    (hz : IsZ s.heap z TI TO .none f1) (hTI : IsPair s.heap TI (.ref i1) (.ref i2)) (hTO : IsPair s.heap TO a b)
    (h1 : s.heap.IsListIter i1 l1 k) (hl1 : s.heap.IsList l1 xs) (hx : xs[k]? = some v) (h2 : IsRangeIter s.heap i2 x left 1) (hleft : 0 < left)
    (d1 : i1 ≠ z) (d2 : i2 ≠ z) (d3 : l1 ≠ z) (d4 : i1 ≠ i2) (d5 : TI ≠ z) (d6 : TO ≠ z) (d7 : TO ≠ i1) (d8 : TO ≠ i2)
    (hQ : ∀ h' t, IsZ h' z TI TO (rawInt s.heap.objs.size) (.bool false) → h'.IsListIter i1 l1 (k + 1) → IsRangeIter h' i2 (x + 1) (left - 1) 1 → IsPair h' s.heap.objs.size v (.int x t) → h'.objs.size = s.heap.objs.size + 1 →
      (∀ c o, c ≠ z → c ≠ i1 → c ≠ i2 → c ≠ TO → s.heap.get? c = some o → h'.get? c = some o) → Q (.ref s.heap.objs.size) { s with heap := h', toks := s.toks + 1 }) :
    wpAny (model prog w) A (Builtin.«zip.__next__» ⟨[.ref z], []⟩) (fun fin s' => ∃ v, fin = .done (.ret v) ∧ Q v s') E s := by
  show wpAny _ _ (field (.ref z) 2 >>= _) _ _ _
  refine wpAny_bind (wpAny_field hz rfl (x := .bool false) rfl ?_)
  show wpAny _ _ (field (.ref z) 3 >>= _) _ _ _
  refine wpAny_bind (wpAny_field hz rfl (x := .ref TI) rfl ?_)
  refine wpAny_bind (wpAny_seqItems hTI rfl ?_)
  show wpAny _ _ (Builtin.SmallTypes.ownedTupleIsFree (.ref z) >>= _) _ _ _
  have free : wpAny (model prog w) A (Builtin.SmallTypes.ownedTupleIsFree (.ref z)) (fun a s' => a = true ∧ s' = s) E s := by
    unfold Builtin.SmallTypes.ownedTupleIsFree
    exact wpAny_bind (wpAny_field hz rfl (x := .none) rfl (wpAny_pure ⟨rfl, rfl⟩))
  refine wpAny_bind (wpAny_mono free ?_ fun _ _ x => x)
  intro a0 s0 h0
  rw [h0.1, h0.2]
  clear h0 a0 s0
  refine wpAny_ite_true rfl (wpAny_bind (wpAny_rule ?_))
  refine wpAny_bind (wpAny_field hz rfl (x := .ref TO) rfl ?_)
  refine wpAny_bind (wpAny_setField_rec hz (by simp) fun h₁ hz₁ hs₁ => ?_)
  replace hz₁ : IsZ h₁ z TI TO .ellipsis f1 := hz₁
  refine wpAny_bind ?_
  refine wpAny_bind (wpAny_bind (wpAny_onRaise ?_))
  show wpAny _ _ (Builtin.SmallTypes.nextOf (.ref i1) >>= _) _ _ _
  refine wpAny_bind (wpAny_nextOf_list_item (h1.extBut hs₁.extBut d1) (hl1.extBut hs₁.extBut d3) hx fun h₂ h1₂ hs₂ => wpAny_pure ?_)
  have hTO₂ : IsPair h₂ TO a b := hs₂.extBut _ _ d7 (hs₁.extBut _ _ d6 hTO)
  refine wpAny_bind (wpAny_seqItems hTO₂ rfl ?_)
  refine wpAny_bind (wpAny_updateSeq_pair hTO₂ fun h₃ hTO₃ hs₃ => ?_)
  replace hTO₃ : IsPair h₃ TO v b := hTO₃
  refine wpAny_bind (wpAny_letGo (wpAny_pure ?_))
  refine wpAny_bind (wpAny_bind (wpAny_onRaise ?_))
  show wpAny _ _ (Builtin.SmallTypes.nextOf (.ref i2) >>= _) _ _ _
  refine wpAny_bind (nextOf_range (hs₃.extBut _ _ (Ne.symm d8) (hs₂.extBut _ _ (Ne.symm d4) (hs₁.extBut _ _ d2 h2))) hleft fun h₄ h2₄ hs₄ => wpAny_pure ?_)
  have hTO₄ : IsPair h₄ TO v b := hs₄.extBut _ _ d8 hTO₃
  refine wpAny_bind (wpAny_seqItems hTO₄ rfl ?_)
  refine wpAny_bind (wpAny_updateSeq_pair hTO₄ fun h₅ hTO₅ hs₅ => ?_)
  replace hTO₅ : IsPair h₅ TO v (.int x s.toks) := hTO₅
  refine wpAny_bind (wpAny_letGo (wpAny_pure (wpAny_pure ?_)))
  refine wpAny_bind (wpAny_seqItems hTO₅ rfl ?_)
  refine wpAny_bind (wpAny_newTuple ?_ (show 2 ≤ sizeLine by decide))
  have hsz : h₅.objs.size = s.heap.objs.size := by rw [hs₅.1, hs₄.1, hs₃.1, hs₂.1, hs₁.1]
  have hz₅ : IsZ h₅ z TI TO .ellipsis f1 := hs₅.extBut _ _ (Ne.symm d6) (hs₄.extBut _ _ (Ne.symm d2) (hs₃.extBut _ _ (Ne.symm d6) (hs₂.extBut _ _ (Ne.symm d1) hz₁)))
  have hzlt : z < h₅.objs.size := Heap.lt_size hz₅
  show wpAny _ _ (Builtin.SmallTypes.ownedTupleHandOut (.ref z) (.ref h₅.objs.size) >>= _) _ _ _
  refine wpAny_bind ?_
  unfold Builtin.SmallTypes.ownedTupleHandOut
  have hz₆ : IsZ (h₅.push { cls := .type "tuple", data := .seq #[v, .int x s.toks] }) z TI TO .ellipsis f1 := Heap.get?_push_of_some _ hz₅
  refine wpAny_bind (wpAny_setField_rec hz₆ (by simp) fun h₇ hz₇ hs₇ => ?_)
  replace hz₇ : IsZ h₇ z TI TO (rawInt h₅.objs.size) f1 := hz₇
  refine wpAny_setField_rec hz₇ (by simp) fun h₈ hz₈ hs₈ => ?_
  replace hz₈ : IsZ h₈ z TI TO (rawInt h₅.objs.size) (.bool false) := hz₈
  have up : ∀ c o, c ≠ z → h₅.get? c = some o → h₈.get? c = some o := fun c o c1 e => hs₈.extBut _ _ c1 (hs₇.extBut _ _ c1 (Heap.get?_push_of_some _ e))
  have hT₈ : IsPair h₈ h₅.objs.size v (.int x s.toks) := hs₈.extBut _ _ (Nat.ne_of_gt hzlt) (hs₇.extBut _ _ (Nat.ne_of_gt hzlt) (Heap.get?_push_size _ rfl))
  have hz8 : h₈.objs.size = h₅.objs.size + 1 := by rw [hs₈.1, hs₇.1, Heap.size_push]
  rw [hsz] at hz₈ hT₈ hz8
  refine wpAny_pure ⟨_, rfl, ?_⟩
  show Q (.ref h₅.objs.size) _
  rw [hsz]
  refine hQ h₈ s.toks hz₈ ?_ (up _ _ d2 (hs₅.extBut _ _ (Ne.symm d8) h2₄)) hT₈ hz8 fun c o c1 c2 c3 c4 e => up c o c1 (hs₅.extBut _ _ c4 (hs₄.extBut _ _ c3 (hs₃.extBut _ _ c4 (hs₂.extBut _ _ c2 (hs₁.extBut _ _ c1 e)))))
  exact (((h1₂.extBut hs₃.extBut (Ne.symm d7)).extBut hs₄.extBut d4).extBut hs₅.extBut (Ne.symm d7)).at fun o e => up _ o d1 e
end
end Mine

-- Ev18
namespace Mine
theorem zip_getattr_none : typeLookup (.type "zip") "__getattr__" = pure none := by rw [typeLookup_type, builtinLookup_eq_fast]; kernel_rfl
theorem zip_keys_none : typeLookup (.type "zip") "keys" = pure none := by rw [typeLookup_type, builtinLookup_eq_fast]; kernel_rfl
theorem canon_zip_ga : Manifest.canonical (String.map (fun c => if (c.isAlphanum || c == '_' || c == '.') = true then c else '_') "zip.__getattribute__") ++ "" = "object.__getattribute__" := by
  rw [show String.map (fun c => if (c.isAlphanum || c == '_' || c == '.') = true then c else '_') "zip.__getattribute__" = "zip.__getattribute__" from by decide +kernel, PySem.W.S.canonicalZ_eq]
  kernel_rfl
theorem entry_zip_ga : entryFor table "zip.__getattribute__" = some Builtin.«object.__getattribute__» :=
  entryFor_alias (id' := "object.__getattribute__") (by rw [fastTable_eq_tree]; kernel_rfl) (by decide +kernel) canon_zip_ga (by rw [fastTable_eq_tree]; kernel_rfl)

theorem miss_zip (a : Addr) (xs : Array Value) (name : Str) (u : Tok) (hmiss : typeLookup (.type "zip") name = pure none) (hname : (["__module__", "__name__", "__qualname__", "__doc__", "__annotations__"] : List Str).contains name = false) (hsz : name.length + 100 ≤ sizeLine) :
    Meets (Builtin.«object.__getattribute__» ⟨[.ref a, .str name u], []⟩) (fun A R s => s.heap.get? a = some { cls := .type "zip", dict := none, data := .fields xs, slots := #[] } ∧ raisesAttr (.ref a) name A R s) :=
  Meets.of_wp fun prog w A R s hs => by
    obtain ⟨hp, g, d, tk, os⟩ := s
    obtain ⟨hx, hs⟩ := hs
    have hT : (⟨hp, g, d, tk, os⟩ : Shared).TypeIs (.ref a) "zip" := ⟨_, hx, rfl⟩
    unfold Builtin.«object.__getattribute__»
    repeat (any_goals (first | assumption | (first | with_reducible (first | refine PySem.wpAny_pure ?_ | refine PySem.wpAny_bind ?_ | refine PySem.wpAny_holding ?_ | refine PySem.wpAny_standAt ?_ | refine PySem.wpAny_point ?_ | refine PySem.wpAny_rule ?_ | refine PySem.wpAny_letGo ?_ | refine PySem.wpAny_mkInt' ?_ | refine PySem.wpAny_fresh' ?_ | refine PySem.wpAny_alloc' ?_ | refine PySem.wpAny_attempt ?_ | refine PySem.wpAny_throw ?_ | refine PySem.wpAny_of_eq (by assumption) ?_ | refine PySem.wpAny_typeOf (by assumption) ?_ | refine PySem.wpAny_specialOf_val (by assumption) (by assumption) ?_ | refine PySem.wpAny_specialOf (by assumption) (by assumption) ?_ | refine PySem.wpAny_isInstance_val (by assumption) (by assumption) ?_ | refine PySem.wpAny_isInstance (by assumption) (by assumption) ?_ | refine PySem.wpAny_call ?_ | refine PySem.wpAny_runValue ?_ | refine PySem.wpAny_run ?_) | wp_delta | (with_reducible refine PySem.wpAny_load' ?hg ?_; (case hg => heap_get; done)) | (with_reducible refine PySem.wpAny_update' ?hg ?_; (case hg => heap_get; done)) | (with_reducible refine PySem.wpAny_loadPart' ?hg ?_; (case hg => heap_get; done)) | (with_reducible refine PySem.wpAny_updatePart' ?hg ?_; (case hg => heap_get; done)) | (with_reducible refine PySem.wpAny_handled_none ?hg ?_; (case hg => assumption)) | (with_reducible refine PySem.wpAny_ite_false ?hg ?_; (case hg => rfl)) | (with_reducible refine PySem.wpAny_ite_true ?hg ?_; (case hg => rfl)) | (with_reducible refine PySem.wpAny_ite_false ?hg ?_; (case hg => simp [*]; done)) | (with_reducible refine PySem.wpAny_ite_true ?hg ?_; (case hg => simp [*]; done)) | wp_step)))
    refine wpAny_ite_false (decide_eq_false (Bool.eq_false_iff.mp hname)) ?_
    repeat (any_goals (first | assumption | (first | with_reducible (first | refine PySem.wpAny_pure ?_ | refine PySem.wpAny_bind ?_ | refine PySem.wpAny_holding ?_ | refine PySem.wpAny_standAt ?_ | refine PySem.wpAny_point ?_ | refine PySem.wpAny_rule ?_ | refine PySem.wpAny_letGo ?_ | refine PySem.wpAny_mkInt' ?_ | refine PySem.wpAny_fresh' ?_ | refine PySem.wpAny_alloc' ?_ | refine PySem.wpAny_attempt ?_ | refine PySem.wpAny_throw ?_ | refine PySem.wpAny_of_eq (by assumption) ?_ | refine PySem.wpAny_typeOf (by assumption) ?_ | refine PySem.wpAny_specialOf_val (by assumption) (by assumption) ?_ | refine PySem.wpAny_specialOf (by assumption) (by assumption) ?_ | refine PySem.wpAny_isInstance_val (by assumption) (by assumption) ?_ | refine PySem.wpAny_isInstance (by assumption) (by assumption) ?_ | refine PySem.wpAny_call ?_ | refine PySem.wpAny_runValue ?_ | refine PySem.wpAny_run ?_) | wp_delta | (with_reducible refine PySem.wpAny_load' ?hg ?_; (case hg => heap_get; done)) | (with_reducible refine PySem.wpAny_update' ?hg ?_; (case hg => heap_get; done)) | (with_reducible refine PySem.wpAny_loadPart' ?hg ?_; (case hg => heap_get; done)) | (with_reducible refine PySem.wpAny_updatePart' ?hg ?_; (case hg => heap_get; done)) | (with_reducible refine PySem.wpAny_handled_none ?hg ?_; (case hg => assumption)) | (with_reducible refine PySem.wpAny_ite_false ?hg ?_; (case hg => rfl)) | (with_reducible refine PySem.wpAny_ite_true ?hg ?_; (case hg => rfl)) | (with_reducible refine PySem.wpAny_ite_false ?hg ?_; (case hg => simp [*]; done)) | (with_reducible refine PySem.wpAny_ite_true ?hg ?_; (case hg => simp [*]; done)) | wp_step)))
    exact wpAny_raiseAttrError hs.1 hs.2 (attrMsg_fits (by decide +kernel) hsz)

theorem zip_no_keys {prog : Program} {w : World} {A : Around} {E : Value → Shared → Prop} {s : Shared} {a : Addr} {xs : Array Value} {Q : Option Value → Shared → Prop}
    (hx : s.heap.get? a = some { cls := .type "zip", dict := none, data := .fields xs, slots := #[] }) (hA : A.handled = none)
    (h : ∀ h' tk, Kp s.heap h' → Q none { s with heap := h', toks := tk }) :
    wpAny (model prog w) A (getAttr? (.ref a) "keys") Q E s := by
  obtain ⟨hp, g, d, tk, os⟩ := s
  have hT : ∀ tk', (⟨hp, g, d, tk', os⟩ : Shared).TypeIs (.ref a) "zip" := fun _ => ⟨_, hx, rfl⟩
  have f1 := sub_AttributeError
  have f3 := F.slot_zip_getattribute.lookup
  have f4 := F.slot_zip_getattribute.bind (.ref a)
  have f5 := zip_getattr_none
  unfold getAttr? getAttrBy? getAttrBy
  repeat (any_goals (first | assumption | exact hT _ | ((with_reducible show wpAny _ _ (call (Value.builtin "zip.__getattribute__") _ _) _ _ _); refine call_meets F.slot_zip_getattribute (hT _) entry_zip_ga (F.args_zip_getattribute_2 _ _) (miss_zip a xs "keys" _ zip_keys_none rfl (by decide)) ⟨hx, hA, fun h' tk' e hx' => ?_⟩) | (first | with_reducible (first | refine PySem.wpAny_pure ?_ | refine PySem.wpAny_bind ?_ | refine PySem.wpAny_holding ?_ | refine PySem.wpAny_standAt ?_ | refine PySem.wpAny_point ?_ | refine PySem.wpAny_rule ?_ | refine PySem.wpAny_letGo ?_ | refine PySem.wpAny_mkInt' ?_ | refine PySem.wpAny_fresh' ?_ | refine PySem.wpAny_alloc' ?_ | refine PySem.wpAny_attempt ?_ | refine PySem.wpAny_throw ?_ | refine PySem.wpAny_of_eq (by assumption) ?_ | refine PySem.wpAny_typeOf (by assumption) ?_ | refine PySem.wpAny_specialOf_val (by assumption) (by assumption) ?_ | refine PySem.wpAny_specialOf (by assumption) (by assumption) ?_ | refine PySem.wpAny_isInstance_val (by assumption) (by assumption) ?_ | refine PySem.wpAny_isInstance (by assumption) (by assumption) ?_ | refine PySem.wpAny_call ?_ | refine PySem.wpAny_runValue ?_ | refine PySem.wpAny_run ?_) | wp_delta | (with_reducible refine PySem.wpAny_load' ?hg ?_; (case hg => heap_get; done)) | (with_reducible refine PySem.wpAny_update' ?hg ?_; (case hg => heap_get; done)) | (with_reducible refine PySem.wpAny_loadPart' ?hg ?_; (case hg => heap_get; done)) | (with_reducible refine PySem.wpAny_updatePart' ?hg ?_; (case hg => heap_get; done)) | (with_reducible refine PySem.wpAny_handled_none ?hg ?_; (case hg => assumption)) | (with_reducible refine PySem.wpAny_ite_false ?hg ?_; (case hg => rfl)) | (with_reducible refine PySem.wpAny_ite_true ?hg ?_; (case hg => rfl)) | (with_reducible refine PySem.wpAny_ite_false ?hg ?_; (case hg => simp [*]; done)) | (with_reducible refine PySem.wpAny_ite_true ?hg ?_; (case hg => simp [*]; done)) | wp_step)))
  obtain ⟨t', u', he⟩ := hx'.there
  show wpAny _ _ (getattributeRaised _ _ _ _ _ _ _) _ _ _
  unfold getattributeRaised
  repeat (any_goals (first | assumption | (first | with_reducible (first | refine PySem.wpAny_pure ?_ | refine PySem.wpAny_bind ?_ | refine PySem.wpAny_holding ?_ | refine PySem.wpAny_standAt ?_ | refine PySem.wpAny_point ?_ | refine PySem.wpAny_rule ?_ | refine PySem.wpAny_letGo ?_ | refine PySem.wpAny_mkInt' ?_ | refine PySem.wpAny_fresh' ?_ | refine PySem.wpAny_alloc' ?_ | refine PySem.wpAny_attempt ?_ | refine PySem.wpAny_throw ?_ | refine PySem.wpAny_of_eq (by assumption) ?_ | refine PySem.wpAny_typeOf (by assumption) ?_ | refine PySem.wpAny_specialOf_val (by assumption) (by assumption) ?_ | refine PySem.wpAny_specialOf (by assumption) (by assumption) ?_ | refine PySem.wpAny_isInstance_val (by assumption) (by assumption) ?_ | refine PySem.wpAny_isInstance (by assumption) (by assumption) ?_ | refine PySem.wpAny_call ?_ | refine PySem.wpAny_runValue ?_ | refine PySem.wpAny_run ?_) | wp_delta | (with_reducible refine PySem.wpAny_load' ?hg ?_; (case hg => heap_get; done)) | (with_reducible refine PySem.wpAny_update' ?hg ?_; (case hg => heap_get; done)) | (with_reducible refine PySem.wpAny_loadPart' ?hg ?_; (case hg => heap_get; done)) | (with_reducible refine PySem.wpAny_updatePart' ?hg ?_; (case hg => heap_get; done)) | (with_reducible refine PySem.wpAny_handled_none ?hg ?_; (case hg => assumption)) | (with_reducible refine PySem.wpAny_ite_false ?hg ?_; (case hg => rfl)) | (with_reducible refine PySem.wpAny_ite_true ?hg ?_; (case hg => rfl)) | (with_reducible refine PySem.wpAny_ite_false ?hg ?_; (case hg => simp [*]; done)) | (with_reducible refine PySem.wpAny_ite_true ?hg ?_; (case hg => simp [*]; done)) | wp_step)))
  exact h _ _ hx'.keeps
end Mine

-- Ev19
namespace Mine
noncomputable abbrev zrH1 (h : Heap) (l1 : Addr) : Heap := h.push { cls := .type "list_iterator", data := .fields #[.ref l1, .int 0 0] }
noncomputable abbrev zrH2 (h : Heap) (l1 : Addr) (a n : Int) : Heap := (zrH1 h l1).push { cls := .type "range_iterator", data := .fields #[rawInt a, rawInt n, rawInt 1] }
noncomputable abbrev zrH3 (h : Heap) (l1 : Addr) (a n : Int) : Heap := (zrH2 h l1 a n).push { cls := .type "tuple", data := .seq #[.ref h.objs.size, .ref (zrH1 h l1).objs.size] }
noncomputable abbrev zrH4 (h : Heap) (l1 : Addr) (a n : Int) : Heap := (zrH3 h l1 a n).push { cls := .type "tuple", data := .seq #[.none, .none] }
noncomputable abbrev zrH5 (h : Heap) (l1 : Addr) (a n : Int) : Heap := (zrH4 h l1 a n).push { cls := .type "zip", data := .fields #[.none, .bool false, .bool false, .ref (zrH2 h l1 a n).objs.size, .ref (zrH3 h l1 a n).objs.size] }

theorem meets_zipR_new (l1 l2 : Addr) (xs : Array Value) (a b : Int) (t u v : Tok) (hs : Builtin.Range.small a b 1 = true) :
    Meets (Builtin.«zip.__new__» ⟨[.type "zip", .ref l1, .ref l2], []⟩) (fun _ R s => s.heap.IsList l1 xs ∧ IsRange s.heap l2 a b 1 t u v ∧
      R (.ok (.ret (.ref (zrH4 s.heap l1 a (Builtin.Range.rangeSize a b 1)).objs.size))) { s with heap := zrH5 s.heap l1 a (Builtin.Range.rangeSize a b 1) }) :=
  .of_wp fun prog w A R s h => by
    obtain ⟨hp, g, d, tk, os⟩ := s; obtain ⟨hl1, hl2, h⟩ := h
    have hsub := sub_zip
    have hL1 : Heap.IsList (Shared.heap ⟨hp, g, d, tk, os⟩) l1 xs := hl1
    have hL2 : IsRange (Shared.heap ⟨hp.push { cls := .type "list_iterator", data := .fields #[.ref l1, .int 0 0] }, g, d, tk, os⟩) l2 a b 1 t u v := Heap.get?_push_of_some _ hl2
    repeat (first | (with_reducible refine wpAny_pyIter_list hL1 ?_) | (with_reducible refine wpAny_pyIter_range hL2 hs ?_) | with_reducible (first | refine PySem.wpAny_pure ?_ | refine PySem.wpAny_bind ?_ | refine PySem.wpAny_holding ?_ | refine PySem.wpAny_standAt ?_ | refine PySem.wpAny_point ?_ | refine PySem.wpAny_rule ?_ | refine PySem.wpAny_letGo ?_ | refine PySem.wpAny_mkInt' ?_ | refine PySem.wpAny_fresh' ?_ | refine PySem.wpAny_alloc' ?_ | refine PySem.wpAny_attempt ?_ | refine PySem.wpAny_throw ?_ | refine PySem.wpAny_of_eq (by assumption) ?_ | refine PySem.wpAny_typeOf (by assumption) ?_ | refine PySem.wpAny_specialOf_val (by assumption) (by assumption) ?_ | refine PySem.wpAny_specialOf (by assumption) (by assumption) ?_ | refine PySem.wpAny_isInstance_val (by assumption) (by assumption) ?_ | refine PySem.wpAny_isInstance (by assumption) (by assumption) ?_ | refine PySem.wpAny_call ?_ | refine PySem.wpAny_runValue ?_ | refine PySem.wpAny_run ?_) | wp_delta | wp_step)
    exact ⟨_, rfl, h⟩

section
variable {prog : Program} {w : World} {A : Around} {E : Value → Shared → Prop} {s : Shared}

theorem call_zipR {l1 l2 : Addr} {xs : Array Value} {a b n : Int} {t u v : Tok} {Q : Value → Shared → Prop} (hl1 : s.heap.IsList l1 xs) (hl2 : IsRange s.heap l2 a b 1 t u v) (hs : Builtin.Range.small a b 1 = true)
    (hn : Builtin.Range.rangeSize a b 1 = n)
    (h : ∀ h', IsZ h' (s.heap.objs.size + 4) (s.heap.objs.size + 2) (s.heap.objs.size + 3) .none (.bool false) → IsPair h' (s.heap.objs.size + 2) (.ref s.heap.objs.size) (.ref (s.heap.objs.size + 1)) →
      IsPair h' (s.heap.objs.size + 3) .none .none → h'.IsListIter s.heap.objs.size l1 0 → IsRangeIter h' (s.heap.objs.size + 1) a n 1 → h'.objs.size = s.heap.objs.size + 5 →
      (∀ c o, s.heap.get? c = some o → h'.get? c = some o) → Q (.ref (s.heap.objs.size + 4)) { s with heap := h' }) :
    wpAny (model prog w) A (call (.type "zip") [.ref l1, .ref l2]) Q E s := by
  subst hn
  generalize hn : Builtin.Range.rangeSize a b 1 = n at h
  refine callType_new F.called_zip (by decide) (F.typeCall_zip_2 _ _) (F.newCall_zip_2 _ _) (fun obj => F.args_object_init_3 obj _ _) F.entry_zip_new
    (meets_zipR_new l1 l2 xs a b t u v hs) ⟨hl1, hl2, ?_⟩
  rw [hn]
  have z1 : (zrH1 s.heap l1).objs.size = s.heap.objs.size + 1 := Heap.size_push ..
  have z2 : (zrH2 s.heap l1 a n).objs.size = s.heap.objs.size + 2 := by rw [Heap.size_push, z1]
  have z3 : (zrH3 s.heap l1 a n).objs.size = s.heap.objs.size + 3 := by rw [Heap.size_push, z2]
  have z4 : (zrH4 s.heap l1 a n).objs.size = s.heap.objs.size + 4 := by rw [Heap.size_push, z3]
  have z5 : (zrH5 s.heap l1 a n).objs.size = s.heap.objs.size + 5 := by rw [Heap.size_push, z4]
  have g5 : (zrH5 s.heap l1 a n).get? (zrH4 s.heap l1 a n).objs.size = some _ := Heap.get?_push_size _ rfl
  have g4 : (zrH5 s.heap l1 a n).get? (zrH3 s.heap l1 a n).objs.size = some _ := Heap.get?_push_of_some _ (Heap.get?_push_size _ rfl)
  have g3 : (zrH5 s.heap l1 a n).get? (zrH2 s.heap l1 a n).objs.size = some _ := Heap.get?_push_of_some _ (Heap.get?_push_of_some _ (Heap.get?_push_size _ rfl))
  have g2 : (zrH5 s.heap l1 a n).get? (zrH1 s.heap l1).objs.size = some _ := Heap.get?_push_of_some _ (Heap.get?_push_of_some _ (Heap.get?_push_of_some _ (Heap.get?_push_size _ rfl)))
  have g1 : (zrH5 s.heap l1 a n).get? s.heap.objs.size = some _ := Heap.get?_push_of_some _ (Heap.get?_push_of_some _ (Heap.get?_push_of_some _ (Heap.get?_push_of_some _ (Heap.get?_push_size _ rfl))))
  show _ ∧ _
  rw [z2, z3, z4] at g5
  rw [z1, z2] at g3
  rw [z3] at g4
  rw [z1] at g2
  rw [z4]
  exact ⟨⟨_, g5, rfl⟩, h _ g5 g3 g4 ⟨_, g1, rfl, rfl⟩ g2 z5 fun c o x =>
    Heap.get?_push_of_some _ (Heap.get?_push_of_some _ (Heap.get?_push_of_some _ (Heap.get?_push_of_some _ (Heap.get?_push_of_some _ x))))⟩

/- zip at its end: the list has no more -/
theorem zipR_end {z TI TO i1 i2 l1 T : Addr} {k : Nat} {xs : Array Value} {f1 : Value} {oT : Obj} {Q : Fin → Shared → Prop} (hh : A.handled = none)
    (hz : IsZ s.heap z TI TO (rawInt T) f1) (hTI : IsPair s.heap TI (.ref i1) (.ref i2)) (hT : s.heap.get? T = some oT)
    (h1 : s.heap.IsListIter i1 l1 k) (hl1 : s.heap.IsList l1 xs) (hx : xs[k]? = none) (d1 : i1 ≠ z) (d3 : l1 ≠ z)
    (hE : ∀ h' e, (∀ c o, c ≠ z → c ≠ i1 → s.heap.get? c = some o → h'.get? c = some o) → (∃ o, h'.get? e = some o ∧ o.cls = .type "StopIteration") → E (.ref e) { s with heap := h' }) :
    wpAny (model prog w) A (Builtin.«zip.__next__» ⟨[.ref z], []⟩) Q E s := by
  show wpAny _ _ (field (.ref z) 2 >>= _) _ _ _
  refine wpAny_bind (wpAny_field hz rfl (x := .bool false) rfl ?_)
  show wpAny _ _ (field (.ref z) 3 >>= _) _ _ _
  refine wpAny_bind (wpAny_field hz rfl (x := .ref TI) rfl ?_)
  refine wpAny_bind (wpAny_seqItems hTI rfl ?_)
  show wpAny _ _ (Builtin.SmallTypes.ownedTupleIsFree (.ref z) >>= _) _ _ _
  refine wpAny_bind (wpAny_mono (own_busy hz hT) ?_ fun _ _ x => x)
  rintro a s' ⟨rfl, h₁, f1', rfl, hz₁, hs₁⟩
  refine wpAny_ite_false rfl ?_
  refine wpAny_bind (forA2 (wpAny_bind (wpAny_bind (wpAny_holding ?_))))
  show wpAny _ _ (Builtin.SmallTypes.nextOf (.ref i1) >>= _) _ _ _
  exact wpAny_bind (wpAny_nextOf_list_end hh (h1.extBut hs₁.extBut d1) (hl1.extBut hs₁.extBut d3) hx fun h₂ e hs₂ he => hE h₂ e (fun c o c1 c2 x => hs₂ _ _ c2 (hs₁.extBut _ _ c1 x)) he)

theorem zip_pyNext {z TI TO : Addr} {f0 f1 : Value} {Q : Option Value → Shared → Prop} (hz : IsZ s.heap z TI TO f0 f1)
    (h : wpAny (model prog w) A.in1 (Builtin.«zip.__next__» ⟨[.ref z], []⟩) (fun fin s' => ∃ v, fin = .done (.ret v) ∧ Q (some v) s')
      (fun e s' => (∃ a o, e = .ref a ∧ s'.heap.get? a = some o ∧ o.cls = .type "StopIteration") ∧ Q none s') s) :
    wpAny (model prog w) A (pyNext (.ref z)) Q E s := by
  have hT : s.TypeIs (.ref z) "zip" := ⟨_, hz, rfl⟩
  unfold pyNext
  refine wpAny_bind (wpAny_attempt (wpAny_callSpecial?_slot (name := Str.ofString "__next__") hT F.slot_zip_next
    (wpAny_call_entry F.slot_zip_next hT F.entry_zip_next (wpAny_mono h ?_ ?_) (F.args_zip_next_1 _))))
  · rintro fin s' ⟨v, rfl, hq⟩
    exact ⟨v, rfl, wpAny_pure hq⟩
  · rintro e s' ⟨⟨a, o, rfl, ho, hc⟩, hq⟩
    refine wpAny_bind (wpAny_isInstance (T := "StopIteration") (b := true) ⟨o, ho, hc⟩ isSubtype_stop ?_)
    exact wpAny_pure hq
end
end Mine

-- Ev20
namespace Mine
theorem plain_dict_loop : plainId "dict.update.loop" = true := by decide +kernel
theorem entry_dict_loop : entryFor table "dict.update.loop" = some Builtin.«dict.update.loop» := entryFor_of_tree (by kernel_rfl)

noncomputable def KvAre : List (Str × Value) → List (Str × Int) → Prop
  | [], [] => True
  | (k, v) :: r, (k', i) :: r' => k = k' ∧ (∃ t, v = .int i t) ∧ KvAre r r'
  | _, _ => False
theorem KvAre.snoc {k : Str} {i : Int} {t : Tok} : ∀ {a : List (Str × Value)} {b : List (Str × Int)}, KvAre a b → KvAre (a ++ [(k, .int i t)]) (b ++ [(k, i)])
  | [], [], _ => ⟨rfl, ⟨t, rfl⟩, trivial⟩
  | (_, _) :: _, (_, _) :: _, h => ⟨h.1, h.2.1, KvAre.snoc h.2.2⟩
theorem KvAre.keys : ∀ {a : List (Str × Value)} {b : List (Str × Int)}, KvAre a b → a.map (·.1) = b.map (·.1)
  | [], [], _ => rfl
  | (_, _) :: _, (_, _) :: _, h => by simp [h.1, KvAre.keys h.2.2]
theorem KvAre.len {a : List (Str × Value)} {b : List (Str × Int)} (h : KvAre a b) : a.length = b.length := by
  have := congrArg List.length h.keys
  simpa using this
theorem KvAre.look (k : Str) : ∀ {a : List (Str × Value)} {b : List (Str × Int)}, KvAre a b → match b.lookup k with | some i => ∃ t, valueAt a k = some (.int i t) | none => valueAt a k = none
  | [], [], _ => rfl
  | (x, v) :: a, (y, i) :: b, h => by
    obtain ⟨rfl, ⟨t, rfl⟩, h⟩ := h
    have ih := KvAre.look k h
    rw [List.lookup_cons]
    by_cases e : k = x
    · subst e
      simp only [beq_self_eq_true]
      exact ⟨t, by simp [valueAt]⟩
    · have e1 : (k == x) = false := by simpa using e
      simp only [e1]
      have e2 : valueAt ((x, Value.int i t) :: a) k = valueAt a k := by simp [valueAt, Ne.symm e]
      rw [e2]
      exact ih

/- the pairs after i turns -/
noncomputable def upTo (ks : List Str) (x0 : Int) (i : Nat) : List (Str × Int) := ((List.range i).map fun j => (ks.getD j (Str.ofString ""), x0 + (j : Int)))
theorem upTo_succ (ks : List Str) (x0 : Int) (i : Nat) : upTo ks x0 (i + 1) = upTo ks x0 i ++ [(ks.getD i (Str.ofString ""), x0 + (i : Int))] := by
  simp [upTo, List.range_succ]
theorem upTo_new {ks : List Str} {x0 : Int} {i : Nat} (hn : ks.Nodup) (hi : i < ks.length) : ks.getD i (Str.ofString "") ∉ (upTo ks x0 i).map (·.1) := by
  intro h
  simp only [upTo, List.map_map, List.mem_map, List.mem_range, Function.comp] at h
  obtain ⟨j, hj, e⟩ := h
  have hj' : j < ks.length := by (first | assumption | decide | lia | omega)
  rw [List.getD_eq_getElem?_getD, List.getD_eq_getElem?_getD, List.getElem?_eq_getElem hi, List.getElem?_eq_getElem hj'] at e
  have := List.pairwise_iff_getElem.mp hn j i hj' hi hj
  exact this e

section
variable {prog : Program} {w : World} {A : Around} {R : Result → Shared → Prop}

structure Lp (z TI TO i1 i2 l1 d : Addr) (ks : List Str) (xs : Array Value) (x0 : Int) (i : Nat) (h : Heap) : Prop where
  z : (i = 0 ∧ IsZ h z TI TO .none (.bool false) ∧ ∃ a b, IsPair h TO a b) ∨ (0 < i ∧ ∃ (T : Addr) (f1 : Value) (oT : Obj), IsZ h z TI TO (rawInt T) f1 ∧ h.get? T = some oT ∧ T ≠ z ∧ T ≠ i1 ∧ T ≠ i2 ∧ T ≠ d)
  ti : IsPair h TI (.ref i1) (.ref i2)
  li : h.IsListIter i1 l1 i
  l : h.IsList l1 xs
  ri : IsRangeIter h i2 (x0 + (i : Int)) (((ks.length - i : Nat)) : Int) 1
structure Ap (z TI TO i1 i2 l1 d : Addr) : Prop where
  d1 : i1 ≠ z
  d2 : i2 ≠ z
  d3 : l1 ≠ z
  d4 : i1 ≠ i2
  d5 : TI ≠ z
  d6 : TO ≠ z
  d7 : TO ≠ i1
  d8 : TO ≠ i2
  d9 : TI ≠ TO
  e1 : TI ≠ i1
  e2 : TI ≠ i2
  e3 : l1 ≠ i1
  e4 : l1 ≠ i2
  e5 : l1 ≠ TO
  f1 : z ≠ d
  f2 : TI ≠ d
  f3 : TO ≠ d
  f4 : i1 ≠ d
  f5 : i2 ≠ d
  f6 : l1 ≠ d

theorem pair_items {A : Around} {E : Value → Shared → Prop} {s : Shared} {T : Addr} {a b : Value} {Q : List Value → Shared → Prop} (hT : IsPair s.heap T a b) (hQ : Q [a, b] s) : wpAny (model prog w) A (Builtin.Dict.pairItems (.ref T)) Q E s := by
  unfold Builtin.Dict.pairItems
  refine wpAny_bind (wpAny_typeOf (T := "tuple") ⟨_, hT, rfl⟩ ?_)
  have h2 : (Value.type "tuple" == Value.type "list" || Value.type "tuple" == Value.type "tuple") = true := by decide
  refine wpAny_ite_true (decide_eq_true h2) ?_
  unfold seqItems?
  exact wpAny_bind (wpAny_bind (wpAny_load hT (wpAny_pure (wpAny_pure hQ))))

theorem dict_loop {z TI TO i1 i2 l1 d : Addr} (D : Ap z TI TO i1 i2 l1 d) (hh : A.handled = none) {ks : List Str} (hnd : ks.Nodup) (h0 : 0 < ks.length) (hle : ks.length ≤ 1000) {xs : Array Value} (x0 : Int) (res : Value)
    (hxs : ∀ j, j < ks.length → ∃ t, xs[j]? = some (.str (ks.getD j (Str.ofString "")) t)) (hsz : xs.size = ks.length) :
    ∀ (m i : Nat) (s : Shared) (kvs : List (Str × Value)), ks.length - i = m → i ≤ ks.length → Lp z TI TO i1 i2 l1 d ks xs x0 i s.heap → s.heap.DictOf (strKind prog w) d kvs → KvAre kvs (upTo ks x0 i) →
      (∀ h' tk kvs', h'.DictOf (strKind prog w) d kvs' → KvAre kvs' (upTo ks x0 ks.length) → (∀ c o, c ≠ z → c ≠ TO → c ≠ i1 → c ≠ i2 → c ≠ d → s.heap.get? c = some o → h'.get? c = some o) → R (.ok (.ret res)) { s with heap := h', toks := tk }) →
      codeAny (model prog w) A (.builtin "dict.update.loop" ⟨[.ref d, .ref z, rawInt (i : Int), res], []⟩) R s := by
  intro m
  induction m with
  | zero =>
    intro i s kvs hm hi L hd hkv hR
    have e : i = ks.length := by (first | assumption | decide | lia | omega)
    subst e
    refine codeAny_builtin entry_dict_loop ?_
    rw [Around.under_plainId plain_dict_loop _]
    show wpAny _ A.in1 (pyNext (.ref z) >>= _) _ _ s
    rcases L.z with h | ⟨_, T, f1, oT, hz, hT, t1, t2, t3, t4⟩
    · (first | assumption | decide | lia | omega)
    refine wpAny_bind (zip_pyNext hz (zipR_end hh hz L.ti hT L.li L.l (by rw [Array.getElem?_eq_none]; (first | assumption | decide | lia | omega)) D.d1 D.d3 fun h' e hk he => ?_))
    obtain ⟨o, ho, hc⟩ := he
    refine ⟨⟨e, o, rfl, ho, hc⟩, ?_⟩
    show wpAny _ _ (Builtin.Dict.addKeywords d [] >>= _) _ _ _
    unfold Builtin.Dict.addKeywords
    refine wpAny_bind (wpAny_pure (wpAny_pure ?_))
    obtain ⟨o', es, ep, ho', r⟩ := hd
    exact hR h' s.toks kvs ⟨o', es, ep, hk _ _ (Ne.symm D.f1) (Ne.symm D.f4) ho', r⟩ hkv fun c o c1 c2 c3 c4 c5 x => hk c o c1 c3 x
  | succ m ih =>
    intro i s kvs hm hi L hd hkv hR
    have hlt : i < ks.length := by (first | assumption | decide | lia | omega)
    obtain ⟨t, hx⟩ := hxs i hlt
    refine codeAny_builtin entry_dict_loop ?_
    rw [Around.under_plainId plain_dict_loop _]
    show wpAny _ A.in1 (pyNext (.ref z) >>= _) _ _ s
    have go : ∀ (h' : Heap) (T : Addr) (u : Tok) (f1 : Value) (oT : Obj), IsZ h' z TI TO (rawInt T) f1 → h'.get? T = some oT → T ≠ z → T ≠ i1 → T ≠ i2 → T ≠ d → h'.IsListIter i1 l1 (i + 1) →
        IsRangeIter h' i2 (x0 + (i : Int) + 1) (((ks.length - i : Nat) : Int) - 1) 1 → IsPair h' s.heap.objs.size (.str (ks.getD i (Str.ofString "")) t) (.int (x0 + (i : Int)) u) →
        (∀ c o, c ≠ z → c ≠ i1 → c ≠ i2 → c ≠ TO → s.heap.get? c = some o → h'.get? c = some o) →
        wpAny (model prog w) A.in1 (do
          holding [Value.ref s.heap.objs.size] (do
            let pair ← (Builtin.Dict.pairItems (Value.ref s.heap.objs.size)).tryCatch fun e => do
              if !(← isInstance e (.type "TypeError")) then throw e
              rule "dict.update.element-no-sequence"
              raiseError "TypeError" s!"cannot convert dictionary update sequence element #{(i : Int)} to a sequence"
            match pair with
            | [k, v] => holding [k, v] (dictSet d k v)
            | l =>
              rule "dict.update.element-length"
              raiseError "ValueError" s!"dictionary update sequence element #{(i : Int)} has length {l.length}; 2 is required")
          again (.builtin "dict.update.loop" ⟨[.ref d, .ref z, rawInt ((i : Int) + 1), res], []⟩))
          (fun fin s' => match fin with | .done f => R (.ok f) s' | .again c' => c'.quiet = true ∧ codeAny (model prog w) A c' R s') (fun e s' => R (.error e) s') { s with heap := h', toks := s.toks + 1 } := by
      intro h' T u f1 oT hz hT t1 t2 t3 t4 hli hri hp hk
      refine wpAny_bind (wpAny_holding ?_)
      refine wpAny_bind (wpAny_tryCatch (pair_items hp ?_))
      refine wpAny_holding ?_
      have hd' : h'.DictOf (strKind prog w) d kvs := by
        obtain ⟨o', es, ep, ho', r⟩ := hd
        exact ⟨o', es, ep, hk _ _ (Ne.symm D.f1) (Ne.symm D.f4) (Ne.symm D.f5) (Ne.symm D.f3) ho', r⟩
      have hul : (upTo ks x0 i).length = i := by simp [upTo]
      refine wpAny_dictSet_pairs (knd := strKind prog w) (s := { s with heap := h', toks := s.toks + 1 }) (hsz := by rw [hkv.len, hul, sizeLine_eq]; (first | assumption | decide | lia | omega)) (strKind_is prog w _ _) hd' fun h₂ hd₂ hs₂ => ?_
      have hst : stored kvs (ks.getD i (Str.ofString "")) (.int (x0 + (i : Int)) u) = kvs ++ [(ks.getD i (Str.ofString ""), .int (x0 + (i : Int)) u)] := by
        unfold stored
        rw [if_neg]
        intro hc
        rw [List.any_eq_true] at hc
        obtain ⟨kv, hm, he⟩ := hc
        refine upTo_new (x0 := x0) hnd hlt ?_
        rw [← hkv.keys]
        exact List.mem_map.mpr ⟨kv, hm, by simpa using he⟩
      rw [hst] at hd₂
      refine wpAny_pure ⟨plainId_quiet plain_dict_loop _, ?_⟩
      have hi1 : ((i : Int) + 1) = ((i + 1 : Nat) : Int) := by (first | assumption | decide | lia | omega)
      rw [hi1]
      refine ih (i + 1) _ _ (by (first | assumption | decide | lia | omega)) hlt ⟨.inr ⟨by (first | assumption | decide | lia | omega), T, f1, oT, hs₂.extBut _ _ D.f1 hz, hs₂.extBut _ _ t4 hT, t1, t2, t3, t4⟩, ?_, hli.extBut hs₂.extBut D.f4, ?_, ?_⟩ hd₂ ?_ ?_
      · exact hs₂.extBut _ _ D.f2 (hk _ _ D.d5 D.e1 D.e2 D.d9 L.ti)
      · exact (L.l.at fun o e => hk _ o D.d3 D.e3 D.e4 D.e5 e).extBut hs₂.extBut D.f6
      · have := hs₂.extBut _ _ D.f5 hri
        have ea : x0 + (i : Int) + 1 = x0 + ((i + 1 : Nat) : Int) := by (first | assumption | decide | lia | omega)
        have eb : ((ks.length - i : Nat) : Int) - 1 = ((ks.length - (i + 1) : Nat) : Int) := by (first | assumption | decide | lia | omega)
        rw [ea, eb] at this
        exact this
      · rw [upTo_succ]; exact hkv.snoc
      · intro h₃ tk kvs' hd₃ hkv₃ hk₃
        exact hR h₃ tk kvs' hd₃ hkv₃ fun c o c1 c2 c3 c4 c5 x => hk₃ c o c1 c2 c3 c4 c5 (hs₂.extBut _ _ c5 (hk c o c1 c3 c4 c2 x))
    have fresh : ∀ {c : Addr} {o : Obj}, s.heap.get? c = some o → s.heap.objs.size ≠ c := fun e => Nat.ne_of_gt (Heap.lt_size e)
    have fd : s.heap.objs.size ≠ d := by obtain ⟨_, _, _, e, _⟩ := hd; exact fresh e
    have fi1 : s.heap.objs.size ≠ i1 := by obtain ⟨_, e, _⟩ := L.li; exact fresh e
    rcases L.z with ⟨rfl, hz, a, b, hTO⟩ | ⟨_, T, f1, oT, hz, hT, t1, t2, t3, t4⟩
    · refine wpAny_bind (zip_pyNext hz (zipR_first hz L.ti hTO L.li L.l hx L.ri (by (first | assumption | decide | lia | omega)) D.d1 D.d2 D.d3 D.d4 D.d5 D.d6 D.d7 D.d8 fun h' u a1 a2 a3 a4 a5 a6 => ?_))
      exact go h' _ u _ _ a1 a4 (fresh hz) fi1 (fresh L.ri) fd a2 a3 a4 a6
    · refine wpAny_bind (zip_pyNext hz (zipR_next hz L.ti hT L.li L.l hx L.ri (by (first | assumption | decide | lia | omega)) D.d1 D.d2 D.d3 D.d4 D.d5 fun h' u f1' a1 a2 a3 a4 a5 a6 => ?_))
      exact go h' T u f1' oT a1 (a6 _ _ t1 t2 t3 hT) t1 t2 t3 t4 a2 a3 a4 fun c o c1 c2 c3 c4 x => a6 c o c1 c2 c3 x
end
end Mine

-- Ev21
namespace Mine
theorem mro_dict' : mroOf (.type "dict") = pure [.type "dict", .type "object"] := by rw [mroOf_type]; kernel_rfl
theorem lookup_dict_new' : typeLookup (.type "dict") "__new__" = pure (some (.builtin "dict.__new__")) := by rw [typeLookup_type, builtinLookup_eq_fast]; kernel_rfl
theorem called_dict' : TypeCalled "dict" "dict.__new__" "dict.__init__" :=
  ⟨by decide +kernel, by decide +kernel, ⟨_, _, mro_dict'⟩, madeBy_type mro_dict' lookup_dict_new' (by decide +kernel), by decide +kernel, by rw [isSubtype_type]; kernel_rfl, F.slot_dict_init⟩
theorem typeCall_dict_1' (a : Value) : checkTypeCall "dict" ⟨[a], []⟩ = pure () := by unfold checkTypeCall; rw [PySem.W.S.signatureZ_eq]; kernel_rfl
theorem newCall_dict_1' (a : Value) : checkBuiltinCall "dict.__new__" ⟨[.type "dict", a], []⟩ = pure () := by unfold checkBuiltinCall; rw [PySem.W.S.signatureZ_eq, PySem.W.S.canonicalZ_eq, PySem.W.S.findZ_eq]; kernel_rfl
theorem entry_dict_new' : entryFor table "dict.__new__" = some Builtin.«dict.__new__» := entryFor_of_tree (by kernel_rfl)
theorem plain_dict_new' : plainId "dict.__new__" = true := by decide +kernel
theorem sub_dict_self' : isSubtype (.type "dict") (.type "dict") = pure true := by rw [isSubtype_type]; kernel_rfl

section
variable {prog : Program} {w : World} {A : Around} {E : Value → Shared → Prop} {s : Shared}
theorem code_dict_new' (a : Value) {Q₁ : Value → Shared → Prop}
    (h : Q₁ (.ref s.heap.objs.size) { s with heap := s.heap.push { cls := .type "dict", data := .dict #[] } }) :
    codeAny (model prog w) A (.call (.builtin "dict.__new__") ⟨[.type "dict", a], []⟩) (wants Q₁ E) s := by
  refine codeAny_of_tree ?_
  show wpAny _ A.in1 (do checkBuiltinCall "dict.__new__" ⟨[.type "dict", a], []⟩; again (.builtin "dict.__new__" ⟨[.type "dict", a], []⟩)) _ _ s
  refine wpAny_bind (wpAny_of_eq (newCall_dict_1' a) (wpAny_pure ⟨plainId_quiet plain_dict_new' _, codeAny_builtin entry_dict_new' ?_⟩))
  rw [Around.under_plainId plain_dict_new' _]
  have hsub := sub_dict_self'
  have hm := mro_dict'
  obtain ⟨hp, g, d, tk, os⟩ := s
  unfold Builtin.«dict.__new__»
  repeat (first | with_reducible (first | refine PySem.wpAny_pure ?_ | refine PySem.wpAny_bind ?_ | refine PySem.wpAny_holding ?_ | refine PySem.wpAny_standAt ?_ | refine PySem.wpAny_point ?_ | refine PySem.wpAny_rule ?_ | refine PySem.wpAny_letGo ?_ | refine PySem.wpAny_mkInt' ?_ | refine PySem.wpAny_fresh' ?_ | refine PySem.wpAny_alloc' ?_ | refine PySem.wpAny_attempt ?_ | refine PySem.wpAny_throw ?_ | refine PySem.wpAny_of_eq (by assumption) ?_ | refine PySem.wpAny_typeOf (by assumption) ?_ | refine PySem.wpAny_specialOf_val (by assumption) (by assumption) ?_ | refine PySem.wpAny_specialOf (by assumption) (by assumption) ?_ | refine PySem.wpAny_isInstance_val (by assumption) (by assumption) ?_ | refine PySem.wpAny_isInstance (by assumption) (by assumption) ?_ | refine PySem.wpAny_call ?_ | refine PySem.wpAny_runValue ?_ | refine PySem.wpAny_run ?_) | wp_delta | (with_reducible refine PySem.wpAny_load' ?hg ?_; (case hg => heap_get; done)) | (with_reducible refine PySem.wpAny_update' ?hg ?_; (case hg => heap_get; done)) | (with_reducible refine PySem.wpAny_loadPart' ?hg ?_; (case hg => heap_get; done)) | (with_reducible refine PySem.wpAny_updatePart' ?hg ?_; (case hg => heap_get; done)) | (with_reducible refine PySem.wpAny_handled_none ?hg ?_; (case hg => assumption)) | (with_reducible refine PySem.wpAny_ite_false ?hg ?_; (case hg => rfl)) | (with_reducible refine PySem.wpAny_ite_true ?hg ?_; (case hg => rfl)) | (with_reducible refine PySem.wpAny_ite_false ?hg ?_; (case hg => simp [*]; done)) | (with_reducible refine PySem.wpAny_ite_true ?hg ?_; (case hg => simp [*]; done)) | wp_step)
  exact h

theorem call_dictZ {z TI TO i1 i2 l1 : Addr} {ks : List Str} {xs : Array Value} {x0 : Int} {Q : Value → Shared → Prop} (hh : A.handled = none) (hnd : ks.Nodup) (h0 : 0 < ks.length) (hle : ks.length ≤ 1000)
    (hxs : ∀ j, j < ks.length → ∃ t, xs[j]? = some (.str (ks.getD j (Str.ofString "")) t)) (hsz : xs.size = ks.length)
    (D : Ap z TI TO i1 i2 l1 s.heap.objs.size) (L : Lp z TI TO i1 i2 l1 s.heap.objs.size ks xs x0 0 s.heap)
    (hQ : ∀ h' tk kvs, h'.DictOf (strKind prog w) s.heap.objs.size kvs → KvAre kvs (upTo ks x0 ks.length) → (∀ c o, c ≠ z → c ≠ TO → c ≠ i1 → c ≠ i2 → s.heap.get? c = some o → h'.get? c = some o) → Q (.ref s.heap.objs.size) { s with heap := h', toks := tk }) :
    wpAny (model prog w) A (call (.type "dict") [.ref z]) Q E s := by
  refine callType_codes (Q₁ := fun obj s₁ => obj = .ref s.heap.objs.size ∧ s₁ = { s with heap := s.heap.push { cls := .type "dict", data := .dict #[] } }) called_dict' (typeCall_dict_1' _) F.entry_dict_init
    (code_dict_new' _ ⟨rfl, rfl⟩) fun obj s₁ h₁ => ?_
  obtain ⟨rfl, rfl⟩ := h₁
  have hS : (s.heap.push { cls := .type "dict", data := .dict #[] }).get? s.heap.objs.size = some { cls := .type "dict", data := .dict #[] } := Heap.get?_push_size _ rfl
  have hD0 : (s.heap.push { cls := .type "dict", data := .dict #[] }).DictOf (strKind prog w) s.heap.objs.size [] := Heap.DictOf.new _
  obtain ⟨hz, a, b, hTO⟩ : IsZ s.heap z TI TO .none (.bool false) ∧ ∃ a b, IsPair s.heap TO a b := by
    rcases L.z with ⟨_, hz⟩ | ⟨h, _⟩
    · exact hz
    · (first | assumption | decide | lia | omega)
  refine ⟨⟨_, hS, rfl⟩, F.args_dict_init_2 _ _, ?_⟩
  show wpAny _ _ (Builtin.Dict.selfAndRest "__init__" ⟨[.ref s.heap.objs.size, .ref z], []⟩ >>= fun p => Builtin.Dict.updateCommon "dict.__init__" "dict" p.1 p.2 []) _ _ _
  refine wpAny_bind ?_
  unfold Builtin.Dict.selfAndRest
  refine wpAny_bind ?_
  unfold Builtin.Dict.notOrdered
  have hc : (["clear", "keys", "values", "items", "popitem", "__reversed__", "__iter__", "__repr__", "pop", "setdefault", "update", "__init__", "__setitem__", "__delitem__", "__ior__"].contains "__init__") = true := by decide
  refine wpAny_ite_true (decide_eq_true hc) ?_
  refine wpAny_bind (wpAny_typeOf (T := "dict") ⟨_, hS, rfl⟩ ?_)
  have hc2 : (Value.type "dict" != Value.type "dict") = false := by decide
  refine wpAny_ite_false (decide_eq_false (Bool.eq_false_iff.mp hc2)) ?_
  refine wpAny_pure ?_
  refine wpAny_bind (wpAny_pure (wpAny_pure ?_))
  show wpAny _ _ (Builtin.Dict.updateFrom "dict.__init__" s.heap.objs.size (.ref z) [] .none) _ _ _
  unfold Builtin.Dict.updateFrom
  have hz1 : IsZ (s.heap.push { cls := .type "dict", data := .dict #[] }) z TI TO .none (.bool false) := Heap.get?_push_of_some _ hz
  refine wpAny_bind (wpAny_typeOf (T := "zip") ⟨_, hz1, rfl⟩ ?_)
  have hc3 : (Value.type "zip" != Value.type "dict") = true := by decide
  refine wpAny_ite_true (decide_eq_true hc3) ?_
  refine wpAny_bind (zip_no_keys hz1 hh fun h' tk kp => ?_)
  refine wpAny_ite_true rfl ?_
  refine wpAny_bind (wpAny_rule ?_)
  refine wpAny_bind (wpAny_pyIter_zip (kp _ _ hz1) ?_)
  have up : ∀ c o, s.heap.get? c = some o → h'.get? c = some o := fun c o e => kp _ _ (Heap.get?_push_of_some _ e)
  refine wpAny_pure ⟨plainId_quiet plain_dict_loop _, dict_loop (A := A.in1) D (show A.in1.handled = none from hh) hnd h0 hle x0 .none hxs hsz ks.length 0 _ [] rfl (by (first | assumption | decide | lia | omega)) ⟨.inl ⟨rfl, up _ _ hz, a, b, up _ _ hTO⟩, up _ _ L.ti, L.li.at fun o e => up _ o e, L.l.at fun o e => up _ o e, up _ _ L.ri⟩ ?_ trivial ?_⟩
  · obtain ⟨o', es, ep, ho', r⟩ := hD0
    exact ⟨o', es, ep, kp _ _ ho', r⟩
  · intro h₂ tk₂ kvs hd hkv hk
    exact ⟨rfl, hQ h₂ tk₂ kvs hd hkv fun c o c1 c2 c3 c4 e => hk c o c1 c2 c3 c4 (Nat.ne_of_lt (Heap.lt_size e)) (up c o e)⟩
end
end Mine

-- Ev22
namespace Mine
noncomputable def RRange (a b : Int) : R := ⟨fun h v => ∃ r t u w, v = .ref r ∧ IsRange h r a b 1 t u w, by
  rintro h h' v k ⟨r, t, u, w, rfl, hr⟩
  exact ⟨r, t, u, w, rfl, k _ _ hr⟩⟩
noncomputable def RStrs (ks : List Str) : R := RList (ks.map RStr)

section
variable {prog : Program} {w : World} {A : Around} {env : Env} {h : Heap} {e l : Expr} {p pos : Pos}
theorem Fn.range2 {a b : Int} : Fn prog w A h (.type "range") [RInt a, RInt b] (RRange a b) := by
      intro s vs Q E k a₁ q
      refine a₁.elim2 fun v0 v1 e0 x y => ?_
      subst e0
      obtain ⟨t, rfl⟩ := x; obtain ⟨u, rfl⟩ := y
      exact call_range_2 (q _ _ (Gw.both (Kp.push _)) ⟨_, _, _, _, rfl, IsRange.new _ _ _ _ _ _ _⟩)

theorem all_str {h : Heap} : ∀ l : List (Str × Tok), All2 h ((l.map (·.1)).map RStr) (strValues l)
  | [] => .nil
  | (x, t) :: r => .cons ⟨t, rfl⟩ (all_str r)
theorem Fn.split {x y : Str} {ks : List Str} (hy : (y.length == 0) = false) (h1 : (decide (x.length < y.length) || decide (Builtin.Str.strKind x < Builtin.Str.strKind y)) = false)
    (hf : (Builtin.Str.occurrences x y 0 x.length (x.length + 1)).isEmpty = false) (hk : Builtin.Str.partsBetween x (Builtin.Str.occurrences x y 0 x.length (x.length + 1)) y.length = ks) (hsz : x.length ≤ sizeLine)
    (hsz2 : ks.length ≤ sizeLine) : Fn prog w A h (.builtin "str.split") [RStr x, RStr y] (RStrs ks) := by
      intro s vs Q E k a₁ q
      refine a₁.elim2 fun v0 v1 e0 a b => ?_
      subst e0
      obtain ⟨t, rfl⟩ := a; obtain ⟨u, rfl⟩ := b
      subst hk
      refine call_meets F.slot_str_split (typeIs_str _ _ _) F.entry_str_split (F.args_str_split_2 _ _) (meets_str_split_sep x y t u h1 hy hf hsz hsz2) ?_
      rw [strsFrom_eq]
      refine q _ _ ⟨_, _, rfl, Kp.push _⟩ ⟨_, _, rfl, ⟨0, Heap.get?_push_size _ rfl⟩, ?_⟩
      have := all_str (h := s.heap.push { cls := .type "list", data := .seq (strValues (numbered s.toks (Builtin.Str.partsBetween x (Builtin.Str.occurrences x y 0 x.length (x.length + 1)) y.length))).toArray }) (numbered s.toks (Builtin.Str.partsBetween x (Builtin.Str.occurrences x y 0 x.length (x.length + 1)) y.length))
      rw [numbered_texts] at this
      exact this

theorem all2_get {h : Heap} : ∀ {ks : List Str} {vs : List Value}, All2 h (ks.map RStr) vs → vs.length = ks.length ∧ ∀ j, j < ks.length → ∃ t, vs[j]? = some (.str (ks.getD j (Str.ofString "")) t)
  | [], _, .nil => ⟨rfl, fun j hj => absurd hj (by simp)⟩
  | x :: r, _, .cons a b => by
    obtain ⟨h1, h2⟩ := all2_get (ks := r) b
    obtain ⟨t, rfl⟩ := a
    refine ⟨by simp [h1], fun j hj => ?_⟩
    cases j with
    | zero => exact ⟨t, rfl⟩
    | succ j => simpa using h2 j (by simpa using hj)

/- a value told, a new object -/
noncomputable def NewO (r : R) (s : Shared) (v : Value) (s' : Shared) : Prop := r.is s'.heap v ∧ ∃ a, v = .ref a ∧ s.heap.get? a = none
/- dict(zip(strings, range(a, b))) -/
theorem EvP.dictZip {xd xz : Str} {pd pz dp zp : Pos} {ks : List Str} {a b : Int} (hh : A.handled = none) (nd : Nm prog w A h env xd (.type "dict")) (nz : Nm prog w A h env xz (.type "zip")) (y : EvL prog w A h env zp [e, l] [RStrs ks, RRange a b])
    (hnd : ks.Nodup) (h0 : 0 < ks.length) (hle : ks.length ≤ 1000) (hn : Builtin.Range.rangeSize a b 1 = ((ks.length : Nat) : Int)) (hs : Builtin.Range.small a b 1 = true) (hsm : ∃ c o, h.get? c = some o ∧ sysModules ≤ c)
    (hdd : (xd == ("__debug__" : Str)) = false := by decide) (hdz : (xz == ("__debug__" : Str)) = false := by decide)
    (he : starEach [e, l] env = (false, eval e env) :: starEach [l] env := by rfl) (hp : (backTo zp (starEach [l] env)).any (·.1) = false := by rfl)
    (he2 : starEach [.Call (.Name xz pz) [e, l] [] zp] env = (false, eval (.Call (.Name xz pz) [e, l] [] zp) env) :: starEach [] env := by rfl) (hp2 : (backTo dp (starEach [] env)).any (·.1) = false := by rfl) :
    EvP prog w A h env (.Call (.Name xd pd) [.Call (.Name xz pz) [e, l] [] zp] [] dp) (NewO (RDict prog w (upTo ks a ks.length))) := fun s Q E k q =>
  wpAny_Call_NameR (wpAny_Name (nd s _ E k (callWith_type1 (args_cons (wpAny_Call_NameR (wpAny_Name (nz s _ E k (callWith_type1 (y s _ E k fun vs s₁ g₁ a₁ => by
    refine a₁.elim2 fun v0 v1 e0 aa bb => ?_
    subst e0
    clear a₁
    obtain ⟨l1, v1, rfl, hl1, h1⟩ := aa
    obtain ⟨l2, t, u, v, rfl, hl2⟩ := bb
    obtain ⟨e1, e2⟩ := all2_get h1
    have L1 : @LT.lt Nat _ l1 s₁.heap.objs.size := by obtain ⟨_, o⟩ := hl1; exact Heap.lt_size o
    refine call_zipR (plain_isList hl1) hl2 hs hn fun h' z1 z2 z3 z4 z5 z6 z7 => ?_
    refine args_nil ?_
    have kz : Kp s₁.heap h' := z7
    obtain ⟨c₀, o₀, ho₀, hc₀⟩ := hsm
    have hlt : @LT.lt Nat _ c₀ s₁.heap.objs.size := Heap.lt_size (g₁.kp _ _ (k _ _ ho₀))
    generalize hN : s₁.heap.objs.size = N at *
    have D : Ap (N + 4) (N + 2) (N + 3) N (N + 1) l1 h'.objs.size := by
      rw [z6]
      constructor <;> (refine neN ?_; (first | assumption | decide | lia | omega))
    refine call_dictZ (s := { s₁ with heap := h' }) (z := N + 4) (x0 := a) hh hnd h0 hle (xs := v1.toArray) (fun j hj => by simpa using e2 j hj) (by simpa using e1) D
      ⟨.inl ⟨rfl, z1, _, _, z3⟩, z2, z4, by obtain ⟨c, o⟩ := hl1; exact ⟨_, kz _ _ o, rfl, c, rfl⟩, by simpa using z5⟩ fun h₂ tk kvs hd hkv hk => ?_
    refine q _ _ (g₁.trans ⟨h₂, tk, rfl, fun c o x => ?_⟩) ⟨⟨_, _, rfl, ?_, hd.mapOf, fun kk => hkv.look kk⟩, _, rfl, ?_⟩
    · have hc : @LT.lt Nat _ c s₁.heap.objs.size := Heap.lt_size x
      rw [hN] at hc
      exact hk c o (neN (by (first | assumption | decide | lia | omega))) (neN (by (first | assumption | decide | lia | omega))) (neN (by (first | assumption | decide | lia | omega))) (neN (by (first | assumption | decide | lia | omega))) (kz _ _ x)
    · show (h'.objs.size == sysModules) = false
      rw [z6]
      have hc₁ : @LE.le Nat _ sysModules c₀ := hc₀
      rw [beq_eq_false_iff_ne]
      exact neN (by (first | assumption | decide | lia | omega))
    · show s.heap.get? h'.objs.size = none
      cases q : s.heap.get? h'.objs.size with
      | none => rfl
      | some o => exact absurd (Heap.lt_size (kz _ _ (g₁.kp _ _ q))) (Nat.lt_irrefl _)) he hp)) hdz)) he2) (by rfl) hp2)) hdd)
end
end Mine

-- Ev23
namespace Mine

/- all that h holds stands from h₁ to h₂, but for the slots of the objects at as -/
noncomputable def Mv (as : List Addr) (h h₁ h₂ : Heap) : Prop :=
  ∀ b o, (∃ o', h.get? b = some o') → h₁.get? b = some o → (b ∉ as → h₂.get? b = some o) ∧ ∃ sl, h₂.get? b = some { o with slots := sl }
theorem Mv.rfl {as h h₁} : Mv as h h₁ h₁ := fun b o _ e => ⟨fun _ => e, o.slots, e⟩
theorem Mv.trans {as h h₁ h₂ h₃} (x : Mv as h h₁ h₂) (y : Mv as h h₂ h₃) : Mv as h h₁ h₃ := fun b o d e => by
  obtain ⟨x1, sl, x2⟩ := x b o d e
  obtain ⟨y1, sl', y2⟩ := y b _ d x2
  refine ⟨fun hb => (y b o d (x1 hb)).1 hb, sl', y2⟩
theorem Mv.kp {as h h₁ h₂} (k : Kp h₁ h₂) : Mv as h h₁ h₂ := fun b o _ e => ⟨fun _ => k b o e, o.slots, k b o e⟩
theorem Mv.dom {as h h₁ h₂} (x : Mv as h h₁ h₂) {b : Addr} (d : ∃ o, h.get? b = some o) (e : ∃ o, h₁.get? b = some o) : ∃ o, h₂.get? b = some o := by
  obtain ⟨o, e⟩ := e
  obtain ⟨_, sl, y⟩ := x b o d e
  exact ⟨_, y⟩
/- a narrower anchor -/
theorem Mv.less {as h h' h₁ h₂} (x : Mv as h h₁ h₂) (k : ∀ b, (∃ o, h'.get? b = some o) → ∃ o, h.get? b = some o) : Mv as h' h₁ h₂ := fun b o d e => x b o (k b d) e

noncomputable def frs (l : List Env) : List Addr := l.filterMap (·.frame)
/- the frames' own objects are tables of names -/
noncomputable def FrAt (h : Heap) : List Env → Prop
  | [] => True
  | env :: r => (env.scope.kind ≠ .module ∧ ∃ L o es n, env.frame = some L ∧ h.get? L = some o ∧ o.data = .dict es n) ∧ FrAt h r
theorem FrAt.to {h h'} : ∀ {l : List Env}, FrAt h l → (∀ b o, h.get? b = some o → ∃ o', h'.get? b = some o' ∧ (∀ es n, o.data = .dict es n → ∃ es n, o'.data = .dict es n)) → FrAt h' l
  | [], _, _ => trivial
  | env :: r, x, k => by
    obtain ⟨⟨hk, L, o, es, n, hf, ho, hd⟩, hr⟩ := x
    obtain ⟨o', ho', hd'⟩ := k L o ho
    obtain ⟨es', n', hd''⟩ := hd' es n hd
    exact ⟨⟨hk, L, o', es', n', hf, ho', hd''⟩, hr.to k⟩
theorem FrAt.mem {h} : ∀ {l : List Env}, FrAt h l → ∀ b ∈ frs l, ∃ o es n, h.get? b = some o ∧ o.data = .dict es n
  | env :: r, x, b, hb => by
    obtain ⟨⟨_, L, o, es, n, hf, ho, hd⟩, hr⟩ := x
    unfold frs at hb
    rw [List.filterMap_cons, hf] at hb
    rcases List.mem_cons.mp hb with rfl | hb
    · exact ⟨o, es, n, ho, hd⟩
    · exact hr.mem b hb
theorem FrAt.fun {h} : ∀ {l : List Env} {base : Heap}, FrAt h l → (∀ b ∈ frs l, base.get? b = none) → h.FunFrames base l
  | [], _, _, _ => trivial
  | env :: r, base, x, k => by
    obtain ⟨⟨hk, L, o, es, n, hf, ho, hd⟩, hr⟩ := x
    refine ⟨hk, ⟨L, o, hf, k L ?_, ho, fun vs q => by rw [hd] at q; cases q⟩, hr.fun fun b hb => k b ?_⟩
    · unfold frs; rw [List.filterMap_cons, hf]; exact .head _
    · unfold frs; rw [List.filterMap_cons, hf]; exact .tail _ hb

/- an exception e, new to h; c: its context; tr: none: no traceback yet, some fl: its traceback's mark of flight -/
noncomputable def ExAt (h : Heap) (e : Addr) (X : String) (c : Value) (tr : Option Value) (h' : Heap) : Prop :=
  h.get? e = none ∧ ∃ oe vs, h'.get? e = some oe ∧ oe.cls = .type X ∧ oe.data = .fields vs ∧ vs[2]? = some c ∧
    (match tr with | none => vs[1]? = some .none | some fl => ∃ T oT ts, vs[1]? = some (.ref T) ∧ h.get? T = none ∧ T ≠ e ∧ h'.get? T = some oT ∧ oT.data = .fields ts ∧ ts[3]? = some fl)

theorem fields_not_vary {o : Obj} {vs} (hd : o.data = .fields vs) : ¬ Vary o := by
  rintro (⟨es, n, e⟩ | ⟨v, e⟩)
  · rw [hd] at e; cases e
  · rw [hd] at e; cases e

theorem ExAt.to {h e X c tr h₁ h₂} (x : ExAt h e X c tr h₁) (k : ∀ b o, h₁.get? b = some o → h.get? b = none → (∃ vs, o.data = .fields vs) → h₂.get? b = some o) : ExAt h e X c tr h₂ := by
  obtain ⟨n, oe, vs, he, hc, hv, h2, h1⟩ := x
  refine ⟨n, oe, vs, k _ _ he n ⟨_, hv⟩, hc, hv, h2, ?_⟩
  cases tr with
  | none => exact h1
  | some fl =>
    obtain ⟨T, oT, ts, a1, a2, a3, a4, a5, a6⟩ := h1
    exact ⟨T, oT, ts, a1, a2, a3, k _ _ a4 a2 ⟨_, a5⟩, a5, a6⟩

theorem ExAt.new {h h' e X} (x : Heap.NewExc h h' e X) : ExAt h e X .none none h' := by
  obtain ⟨ob, t, a1, a2, a3⟩ := x.there
  exact ⟨x.new, ob, _, a1, a2, a3, rfl, rfl⟩

section
variable {M : Model} {A : Around} {E : Value → Shared → Prop} {s : Shared} {Q : Unit → Shared → Prop} {h : Heap} {e L : Addr} {X : String} {c : Value} {env : Env} {outer : List Env}

theorem ex_note (hfr : A.frames = some (env :: outer)) (hf : env.frame = some L) (fr : FrAt s.heap (env :: outer)) (x : ExAt h e X c none s.heap) (dom : ∀ b, (∃ o, h.get? b = some o) → ∃ o, s.heap.get? b = some o)
    (q : ∀ h₂, ExAt h e X c (some (rawInt L)) h₂ → Mv (frs (env :: outer)) h s.heap h₂ → Q () { s with heap := h₂ }) : wpAny M A (noteFrame (.ref e) env) Q E s := by
  obtain ⟨new, oe, vs, he, hc, hd, h2, h1⟩ := x
  have hsz : 1 < vs.size := (Array.getElem?_eq_some_iff.mp h1).1
  have hene : e ∉ frs (env :: outer) := fun hm => by
    obtain ⟨o, es, n, ho, hdo⟩ := fr.mem e hm
    rw [he] at ho; cases ho; rw [hd] at hdo; cases hdo
  have FF : s.heap.FunFrames (hideAll s.heap (frs (env :: outer))) (env :: outer) := fr.fun fun b hb => hideAll_none _ hb
  unfold noteFrame
  simp only [hf]
  refine wpAny_bind (wpAny_field he hd h1 ?_)
  rw [if_neg (by decide)]
  refine wpAny_bind (wpAny_frameOf_fun hfr FF hf fun h₁ hs₁ => ?_)
  refine wpAny_bind (wpAny_entryPlaceOf fun pl hpl => ?_)
  unfold EntryCells.newEntry newFields
  refine wpAny_bind (wpAny_newObj_type ?_ (hpl.sizeOk5 _ _ _ _ _))
  have he₁ : h₁.get? e = some oe := (hs₁.2.1 e hene).trans he
  generalize htb : ({ cls := .type "traceback", dict := none, data := .fields ([Value.none, .ref L, .none, rawInt L, .none] ++ (if pl.isEmpty then List.replicate 6 Value.none else pl)).toArray } : Obj) = tb
  have he₂ : (h₁.push tb).get? e = some oe := Heap.get?_push_of_some _ he₁
  have hTe : h₁.objs.size ≠ e := Nat.ne_of_gt (Heap.lt_size he₁)
  have hd₃ := Obj.data_mapFields hd (·.setIfInBounds 1 (Value.ref h₁.objs.size))
  have keep : ∀ b o, b ≠ e → h₁.get? b = some o → ((h₁.push tb).update e (Obj.mapFields (·.setIfInBounds 1 (Value.ref h₁.objs.size)))).get? b = some o := fun b o hbe hb => by
    rw [Heap.get?_update_other _ _ (Ne.symm hbe)]
    exact Heap.get?_push_of_some _ hb
  refine wpAny_setField he₂ hd hsz (q _ ⟨new, _, _, Heap.get?_update_self _ he₂ (Obj.isFreed_of_fields hd₃), by rw [Obj.cls_mapFields]; exact hc, hd₃, by rw [Array.getElem?_setIfInBounds_ne (by decide)]; exact h2,
    h₁.objs.size, tb, _, by simp [hsz], ?_, hTe, ?_, by rw [← htb], ?_⟩ fun b o hb ho => ?_)
  · cases hq : h.get? h₁.objs.size with
    | none => rfl
    | some o =>
      obtain ⟨o', ho'⟩ := dom _ ⟨o, hq⟩
      have := Heap.lt_size ho'
      rw [← hs₁.1] at this
      exact absurd this (Nat.lt_irrefl _)
  · rw [Heap.get?_update_other _ _ (Ne.symm hTe)]
    exact Heap.get?_push_size _ (by rw [← htb]; rfl)
  · rcases hpl with rfl | ⟨_, _, _, _, _, _, _, rfl⟩ <;> simp
  · have hbe : b ≠ e := fun q => by subst q; obtain ⟨o, ho⟩ := hb; rw [new] at ho; cases ho
    obtain ⟨sl, hsl⟩ := hs₁.2.2 b o ho
    exact ⟨fun hba => keep b o hbe ((hs₁.2.1 b hba).trans ho), sl, keep b _ hbe hsl⟩

theorem ex_again (hf : env.frame = some L) (x : ExAt h e X c (some (rawInt L)) s.heap) (q : Q () s) : wpAny M A (noteFrame (.ref e) env) Q E s := by
  obtain ⟨new, oe, vs, he, hc, hd, h2, T, oT, ts, a1, a2, a3, a4, a5, a6⟩ := x
  exact wpAny_noteFrame_inFlight hf he hd a1 a4 a5 a6 q

theorem ex_flight {as : List Addr} {f : Option Addr} {fl : Value} (x : ExAt h e X c (some fl) s.heap)
    (q : ∀ h₂, ExAt h e X c (some (f.elim .none fun f => rawInt f)) h₂ → Mv as h s.heap h₂ → Q () { s with heap := h₂ }) : wpAny M A (setFlight (.ref e) f) Q E s := by
  obtain ⟨new, oe, vs, he, hc, hd, h2, T, oT, ts, a1, a2, a3, a4, a5, a6⟩ := x
  have hsz3 : 3 < ts.size := (Array.getElem?_eq_some_iff.mp a6).1
  have other : ∀ b, b ≠ T → (s.heap.update T (Obj.mapFields (·.setIfInBounds 3 (f.elim Value.none fun f => rawInt f)))).get? b = s.heap.get? b := fun b hb => Heap.get?_update_other _ _ (Ne.symm hb)
  have nT : ∀ b, (∃ o, h.get? b = some o) → b ≠ T := fun b ⟨o, ho⟩ q => by subst q; rw [a2] at ho; cases ho
  unfold setFlight
  refine wpAny_bind (wpAny_field he hd a1 ?_)
  rw [if_pos (show (Value.ref T != Value.none) = true from by simp)]
  refine wpAny_setField a4 a5 hsz3 (q _ ⟨new, oe, vs, (other e (Ne.symm a3)).trans he, hc, hd, h2, T, _, _, a1, a2, a3, Heap.get?_update_self _ a4 (Obj.isFreed_of_fields (Obj.data_mapFields a5 _)), Obj.data_mapFields a5 _, by simp [hsz3]⟩ fun b o hb ho => ?_)
  · have := (other b (nT b hb)).trans ho
    exact ⟨fun _ => this, o.slots, this⟩

theorem ex_back {as : List Addr} {fl : Value} (hf : env.frame = some L) (x : ExAt h e X c (some fl) s.heap)
    (q : ∀ h₂, ExAt h e X c (some (rawInt L)) h₂ → Mv as h s.heap h₂ → E (.ref e) { s with heap := h₂ }) : cameBackBy M A env E (.ref e) s := by
  unfold cameBackBy
  obtain ⟨new, oe, vs, he, hc, hd, h2, T, oT, ts, a1, a2, a3, a4, a5, a6⟩ := id x
  refine wpAny_bind (wpAny_field he hd a1 ?_)
  rw [if_neg (show ¬ ((Value.ref T == Value.none) = true) from by simp), hf]
  first
    | exact wpAny_bind (wpAny_pure (ex_flight (f := some L) x q))
    | exact ex_flight (f := some L) x q

theorem ex_pass {α : Type} {as : List Addr} {fl : Value} {what : String} {Q : α → Shared → Prop} (hf : env.frame = some L) (x : ExAt h e X c (some fl) s.heap)
    (q : ∀ h₂, ExAt h e X c (some (rawInt L)) h₂ → Mv as h s.heap h₂ → E (.ref e) { s with heap := h₂ }) : wpAny M A (PySem.passOn what (.ref e) env : Sem α) Q E s := by
  unfold PySem.passOn
  obtain ⟨new, oe, vs, he, hc, hd, h2, T, oT, ts, a1, a2, a3, a4, a5, a6⟩ := id x
  refine wpAny_bind (wpAny_field he hd a1 ?_)
  rw [if_neg (show ¬ ((Value.ref T == Value.none) = true) from by simp), hf]
  first
    | exact wpAny_bind (wpAny_pure (wpAny_bind (ex_flight (f := some L) x fun h₂ y z => wpAny_throw (q h₂ y z))))
    | exact wpAny_bind (ex_flight (f := some L) x fun h₂ y z => wpAny_throw (q h₂ y z))
end
end Mine

-- Ev24
namespace Mine

theorem entry_unchain : entryFor table "proto.unchain" = some Builtin.«proto.unchain» := entryFor_of_tree (by kernel_rfl)

section
variable {prog : Program} {w : World} {A : Around} {E : Value → Shared → Prop} {s : Shared} {e e1 : Addr}

/- raising while e1 is handled: e1 becomes the context -/
theorem raiseNew_ctx {α : Type} {Q : α → Shared → Prop} {o1 oe : Obj} {vs1 vs : Array Value} (hh : A.handled = some (.ref e1)) (hne : e ≠ e1) (h1 : s.heap.get? e1 = some o1) (hd1 : o1.data = .fields vs1) (hc1 : vs1[2]? = some .none)
    (he : s.heap.get? e = some oe) (hd : oe.data = .fields vs) (hsz : 2 < vs.size)
    (q : E (.ref e) { s with heap := s.heap.update e (Obj.mapFields (·.setIfInBounds 2 (.ref e1))) }) : wpAny (model prog w) A (raiseNew (.ref e) : Sem α) Q E s := by
  unfold raiseNew
  refine wpAny_bind (wpAny_handled ?_)
  rw [hh]
  have hne' : (Value.ref e1 != Value.ref e) = true := by simp; exact fun q => hne q.symm
  dsimp only
  rw [if_pos hne']
  refine wpAny_bind (wpAny_holding (wpAny_runValue (codeAny_builtin entry_unchain ?_)))
  show wpAny _ _ (do
    let context ← field (.ref e1) 2
    if context == .none then return ← ret .none
    if context == .ref e then
      rule "raise.context-cycle-cut"
      setField (.ref e1) 2 .none
      return ← ret .none
    if context == .ref e1 then rule "raise.context-old-cycle"; return ← ret .none
    let slow ← if false then field (.ref e1) 2 else pure (.ref e1)
    again (.builtin "proto.unchain" ⟨[.ref e, context, slow, .bool !false], []⟩)) _ _ s
  refine wpAny_bind (wpAny_field h1 hd1 hc1 ?_)
  rw [if_pos (by rfl)]
  refine wpAny_bind (wpAny_pure (wpAny_pure ?_))
  refine wpAny_bind ?_
  exact wpAny_setField he hd hsz (wpAny_throw q)

/- an exception made and raised while e1 is handled -/
theorem raiseWords_ctx {α : Type} {cls msg : String} {Q : α → Shared → Prop} {h : Heap} {tr : Option Value} {X1 : String} (hp : PlainExc cls) (hh : A.handled = some (.ref e1)) (x1 : ExAt h e1 X1 .none tr s.heap)
    (q : ∀ h' tk e, ExAt s.heap e cls (.ref e1) none h' → Kp s.heap h' → E (.ref e) { s with heap := h', toks := tk }) :
    wpAny (model prog w) A (raiseErrorWords cls msg : Sem α) Q E s := by
  obtain ⟨n1, o1, vs1, g1, gc, gd, gx, _⟩ := x1
  unfold raiseErrorWords
  refine wpAny_bind (wpAny_mkText (wpAny_bind ?_))
  unfold newExc newTuple
  refine wpAny_bind (wpAny_newObj_type ?_)
  refine wpAny_bind (m := firstArgMember _ _) (wpAny_of_eq (a := Value.none) (by simp only [firstArgMember, hp.first]; rfl) ?_)
  rw [hp.own]
  refine wpAny_newObj_type ?_
  have kk : ∀ b o, s.heap.get? b = some o → ∀ o1 o2, ((s.heap.push o1).push o2).get? b = some o := fun b o hb _ _ => Heap.get?_push_of_some _ (Heap.get?_push_of_some _ hb)
  have hE := Heap.get?_push_size (h := s.heap.push { cls := .type "tuple", dict := none, data := .seq [Value.str msg s.toks].toArray }) (o := { cls := .type cls, dict := none, data := .fields (#[.ref s.heap.objs.size, .none, .none, .none, .bool false, Value.none] ++ #[]) }) rfl
  have hnew : s.heap.get? (s.heap.push { cls := .type "tuple", dict := none, data := .seq [Value.str msg s.toks].toArray }).objs.size = none := Heap.get?_none_of_le (by simp)
  refine raiseNew_ctx (vs := #[.ref s.heap.objs.size, .none, .none, .none, .bool false, Value.none] ++ #[]) hh ?_ (kk _ _ g1 _ _) gd gx hE rfl (by simp) (q _ _ _ ⟨hnew, _, _, Heap.get?_update_self _ hE (Obj.isFreed_of_fields (Obj.data_mapFields rfl _)), ?_, Obj.data_mapFields rfl _, ?_, ?_⟩ ?_)
  · intro q
    have : s.heap.get? e1 = none := by rw [← q]; exact hnew
    rw [this] at g1; cases g1
  · rw [Obj.cls_mapFields]
  · simp
  · simp
  · intro b o ho
    rw [Heap.get?_update_other _ _ (fun q => ?_)]
    · exact kk _ _ ho _ _
    · rw [← q] at ho; rw [hnew] at ho; cases ho

theorem getItem_out_ctx' {l : Addr} {items : Array Value} {k : Int} {j : Nat} {t : Tok} {Q : Value → Shared → Prop} {h : Heap} {tr : Option Value} {X1 : String} (hh : A.handled = some (.ref e1)) (x1 : ExAt h e1 X1 .none tr s.heap) (hl : s.heap.IsList l items)
    (hk : k = Int.ofNat j) (hout : items.size ≤ j) (hhi : Builtin.List.listFitsIndex k = true)
    (q : ∀ h' tk e, ExAt s.heap e "IndexError" (.ref e1) none h' → Kp s.heap h' → E (.ref e) { s with heap := h', toks := tk }) :
    wpAny (model prog w) A (getItem (.ref l) (.int k t)) Q E s := by
  obtain ⟨o, ho, hc, ne, hd⟩ := id hl
  unfold getItem
  try with_reducible refine wpAny_holding ?_
  first | refine wpAny_bind (wpAny_pure ?_) | skip
  refine wpAny_bind (wpAny_sequenceKey hl.typeIs (by decide) ?_)
  refine wpAny_bind (wpAny_callSpecial?_slot (name := Str.ofString "__getitem__") hl.typeIs slot_list_getitem
    (wpAny_call_entry slot_list_getitem hl.typeIs entry_list_getitem ?_ (args_list_getitem _ _)))
  show wpAny _ _ (Builtin.List.listSubscript? (.int k t) >>= _) _ _ s
  refine wpAny_bind (wpAny_listSubscript_int hhi ?_)
  clear hhi
  subst hk
  have hx : items[j]? = none := Array.getElem?_eq_none hout
  show wpAny _ _ ((seqItemAt l j >>= fun r => pure (r.map (j, ·))) >>= _) _ _ s
  refine wpAny_bind (wpAny_bind (wpAny_seqItemAt ho hd (wpAny_pure ?_)))
  rw [hx]
  exact wpAny_bind (wpAny_rule (wpAny_bind (raiseWords_ctx plainExc_IndexError hh x1 q)))
theorem fits_nat {j : Nat} (h : j < 2 ^ 32) : Builtin.List.listFitsIndex (Int.ofNat j) = true := by
  have : (j : Int) < 2 ^ 63 := by omega (splitDisjunctions := true)
  exact fitsIndex_both (k := (j : Int)) (by omega (splitDisjunctions := true)) this
theorem getItem_out_ctx {l : Addr} {items : Array Value} {j : Nat} {t : Tok} {Q : Value → Shared → Prop} {h : Heap} {tr : Option Value} {X1 : String} (hh : A.handled = some (.ref e1)) (x1 : ExAt h e1 X1 .none tr s.heap) (hl : s.heap.IsList l items)
    (hout : items.size ≤ j) (hhi : j < 2 ^ 32)
    (q : ∀ h' tk e, ExAt s.heap e "IndexError" (.ref e1) none h' → Kp s.heap h' → E (.ref e) { s with heap := h', toks := tk }) :
    wpAny (model prog w) A (getItem (.ref l) (.int (Int.ofNat j) t)) Q E s := getItem_out_ctx' hh x1 hl rfl hout (fits_nat hhi) q
theorem getItem_out {l : Addr} {items : Array Value} {j : Nat} {t : Tok} {Q : Value → Shared → Prop} (hh : A.handled = none) (hl : s.heap.IsList l items)
    (hout : items.size ≤ j) (hhi : j < 2 ^ 32)
    (q : ∀ h' tk e, ExAt s.heap e "IndexError" .none none h' → Kp s.heap h' → E (.ref e) { s with heap := h', toks := tk }) :
    wpAny (model prog w) A (getItem (.ref l) (.int (Int.ofNat j) t)) Q E s :=
  wpAny_getItem_list_out hh hl (.inr (by simp only [Int.ofNat_eq_natCast]; omega (splitDisjunctions := true))) (by simp only [Int.ofNat_eq_natCast]; omega (splitDisjunctions := true)) (by simp only [Int.ofNat_eq_natCast]; omega (splitDisjunctions := true)) fun h' tk e x => q h' tk e (.new x) x.keeps
end
end Mine

-- Ev25
namespace Mine

/- the part of h' at the addresses that h₀ knows -/
noncomputable def only (h₀ h' : Heap) : Heap := hideAll h' ((List.range h'.objs.size).filter fun b => (h₀.get? b).isNone)
theorem only_le {h₀ h' : Heap} : Kp (only h₀ h') h' := fun _ _ e => of_hideAll _ e
theorem only_some {h₀ h' : Heap} {b : Addr} {o o' : Obj} (e : h₀.get? b = some o) (e' : h'.get? b = some o') : (only h₀ h').get? b = some o' :=
  hideAll_get _ e' fun hm => by have := (List.mem_filter.mp hm).2; rw [e] at this; cases this
theorem only_none {h₀ h' : Heap} {b : Addr} (e : h₀.get? b = none) : (only h₀ h').get? b = none := by
  cases q : (only h₀ h').get? b with
  | none => rfl
  | some o =>
    have h1 := only_le _ _ q
    have : (only h₀ h').get? b = none := hideAll_none _ (List.mem_filter.mpr ⟨List.mem_range.mpr (Heap.lt_size h1), by rw [e]; rfl⟩)
    rw [this] at q; cases q

/- a base whose frames' slots have turned -/
noncomputable def Rb (as : List Addr) (s₀ s₁ : Shared) : Prop := ∃ h', s₁ = { s₀ with heap := h' } ∧ Mv as s₀.heap s₀.heap h' ∧ ∀ b, s₀.heap.get? b = none → h'.get? b = none
theorem Rb.rfl {as s₀} : Rb as s₀ s₀ := ⟨s₀.heap, by cases s₀; rfl, Mv.rfl, fun _ e => e⟩
theorem Rb.trans {as s₀ s₁ s₂} (x : Rb as s₀ s₁) (y : Rb as s₁ s₂) : Rb as s₀ s₂ := by
  obtain ⟨h, rfl, m1, n1⟩ := x
  obtain ⟨h', rfl, m2, n2⟩ := y
  refine ⟨h', by rfl, m1.trans fun b o d e => m2 b o ⟨o, e⟩ e, fun b e => n2 b (n1 b e)⟩

/- h knows all that the frame holds -/
noncomputable def Anch (env : Env) (s₀ : Shared) (K : Addr → Obj → Prop) (h : Heap) : Prop :=
  (∀ b, (∃ o, s₀.heap.get? b = some o) → ∃ o, h.get? b = some o) ∧ (∃ o, h.get? env.locals = some o) ∧ (∀ n c, env.cells.lookup n = some c → ∃ o, h.get? c = some o) ∧ ∀ b o, K b o → ¬ Vary o → ∃ o', h.get? b = some o'

section
variable {prog : Program} {w : World} {A : Around} {env : Env} {s₀ s : Shared} {m cm : Str → Option Value} {K : Addr → Obj → Prop} {E : Value → Shared → Prop} {l : List Env}

theorem FS.anch (F : FS env s₀ m cm K s) : Anch env s₀ K s.heap := by
  refine ⟨fun b ⟨o, e⟩ => ⟨o, F.base b o e⟩, ?_, fun n c hc => ?_, fun b o q nv => ⟨o, F.sy b o q nv⟩⟩
  · obtain ⟨o, _, _, ho, _⟩ := F.ns; exact ⟨o, ho⟩
  · obtain ⟨o, ho, _⟩ := F.cell n c hc; exact ⟨o, ho⟩
theorem Anch.rb {as : List Addr} {s₁ : Shared} {h : Heap} (x : Anch env s₀ K h) (r : Rb as s₀ s₁) : Anch env s₁ K h := by
  obtain ⟨h', rfl, m1, n1⟩ := r
  refine ⟨fun b ⟨o, e⟩ => x.1 b ?_, x.2.1, x.2.2.1, x.2.2.2⟩
  cases q : s₀.heap.get? b with
  | none => rw [n1 b q] at e; cases e
  | some o => exact ⟨o, rfl⟩
theorem Anch.dom {h h' : Heap} (x : Anch env s₀ K h) (k : ∀ b, (∃ o, h.get? b = some o) → ∃ o, h'.get? b = some o) : Anch env s₀ K h' :=
  ⟨fun b q => k b (x.1 b q), k _ x.2.1, fun n c hc => k _ (x.2.2.1 n c hc), fun b o q nv => k _ (x.2.2.2 b o q nv)⟩

theorem FrAt.vary {h : Heap} (x : FrAt h l) {b : Addr} {o : Obj} (hb : b ∈ frs l) (e : h.get? b = some o) : Vary o := by
  obtain ⟨o', es, n, ho, hd⟩ := x.mem b hb
  rw [e] at ho; cases ho
  exact .inl ⟨_, _, hd⟩

/- the frame survives what a raise does -/
theorem FS.mz {hA h' : Heap} {t : Nat} (F : FS env s₀ m cm K s) (an : Anch env s₀ K hA) (fr : FrAt s.heap l) (z : Mv (frs l) hA s.heap h') :
    ∃ s₁, Rb (frs l) s₀ s₁ ∧ FS env s₁ m cm K { s with heap := h', toks := t } := by
  have st : ∀ b o, s₀.heap.get? b = some o → (b ∉ frs l → h'.get? b = some o) ∧ ∃ sl, h'.get? b = some { o with slots := sl } := fun b o e => z b o (an.1 b ⟨o, e⟩) (F.base b o e)
  refine ⟨{ s₀ with heap := only s₀.heap h' }, ⟨_, rfl, fun b o _ e => ?_, fun b e => only_none e⟩, ⟨?_, only_le, ?_, fun n c hc => ?_, F.apart, F.off, ⟨only_none F.fresh.1, fun n c hc => only_none (F.fresh.2 n c hc)⟩, fun b o q nv => ?_⟩⟩
  · obtain ⟨x1, sl, x2⟩ := st b o e
    exact ⟨fun hb => only_some e (x1 hb), sl, only_some e x2⟩
  · obtain ⟨h, tk, e⟩ := F.same
    exact ⟨h', t, by rw [e]⟩
  · obtain ⟨o, es, ep, ho, hd, r⟩ := F.ns
    obtain ⟨_, sl, hs⟩ := z _ o an.2.1 ho
    exact ⟨_, es, ep, hs, hd, r⟩
  · obtain ⟨o, ho, hd⟩ := F.cell n c hc
    obtain ⟨_, sl, hs⟩ := z _ o (an.2.2.1 n c hc) ho
    exact ⟨_, hs, hd⟩
  · have := F.sy b o q nv
    exact (z b o (an.2.2.2 b o q nv) this).1 fun hb => nv (fr.vary hb this)

theorem mv_sy {h₁ h' : Heap} (fr : FrAt h₁ l) (z : Mv (frs l) h₁ h₁ h') : Sy h₁ h' := fun b o e nv => (z b o ⟨o, e⟩ e).1 fun hb => nv (fr.vary hb e)
theorem Rb.sy {s₁ : Shared} (x : Rb (frs l) s₀ s₁) (fr : ∀ b ∈ frs l, ∀ o, s₀.heap.get? b = some o → Vary o) : Sy s₀.heap s₁.heap := by
  obtain ⟨h', rfl, m1, n1⟩ := x
  exact fun b o e nv => (m1 b o ⟨o, e⟩ e).1 fun hb => nv (fr b hb o e)

/- frames under the growth of a frame's state -/
theorem FrAt.kp {h h' : Heap} (x : FrAt h l) (k : Kp h h') : FrAt h' l := x.to fun b o e => ⟨o, k b o e, fun es n q => ⟨es, n, q⟩⟩
theorem FrAt.mv {hA h h' : Heap} {as : List Addr} (x : FrAt h l) (z : Mv as hA h h') (k : ∀ b ∈ frs l, ∃ o, hA.get? b = some o) : FrAt h' l := by
  induction l with
  | nil => trivial
  | cons env r ih =>
    obtain ⟨⟨hk, L, o, es, n, hf, ho, hd⟩, hr⟩ := x
    have hm : ∀ b ∈ frs r, b ∈ frs (env :: r) := fun b hb => by unfold frs; rw [List.filterMap_cons, hf]; exact .tail _ hb
    obtain ⟨_, sl, hs⟩ := z L o (k L (by unfold frs; rw [List.filterMap_cons, hf]; exact .head _)) ho
    exact ⟨⟨hk, L, _, es, n, hf, hs, hd⟩, ih hr fun b hb => k b (hm b hb)⟩
end
end Mine

-- Ev26
namespace Mine
section
variable (prog : Program) (w : World) (A : Around)
/- what an index out of range does -/
noncomputable def Out (h : Heap) (c : Value) : Prop := ∀ (s : Shared) (l : Addr) (items : Array Value) (j : Nat) (t : Tok) (Q : Value → Shared → Prop) (E : Value → Shared → Prop), Kp h s.heap → s.heap.IsList l items → items.size ≤ j → j < 2 ^ 32 →
  (∀ h' tk e, ExAt s.heap e "IndexError" c none h' → Kp s.heap h' → E (.ref e) { s with heap := h', toks := tk }) → wpAny (model prog w) A (getItem (.ref l) (.int (Int.ofNat j) t)) Q E s
end
section
variable {prog : Program} {w : World} {A : Around} {env : Env} {s₀ s : Shared} {m cm : Str → Option Value} {K : Addr → Obj → Prop} {E : Value → Shared → Prop} {outer : List Env} {L : Addr}

theorem Out.plain {h : Heap} (hh : A.handled = none) : Out prog w A h .none := fun s l items j t Q E _ hl ho hj q => getItem_out hh hl ho hj q
theorem ExAt.kp {h e X c tr h₁ h₂} (x : ExAt h e X c tr h₁) (k : Kp h₁ h₂) : ExAt h e X c tr h₂ := x.to fun b o e _ _ => k b o e
theorem ExAt.sy {h e X c tr h₁ h₂} (x : ExAt h e X c tr h₁) (k : Sy h₁ h₂) : ExAt h e X c tr h₂ := x.to fun b o e _ ⟨vs, hd⟩ => k b o e (fields_not_vary hd)
theorem Out.ctx {h h₀ : Heap} {e1 : Addr} {X : String} {tr : Option Value} (hh : A.handled = some (.ref e1)) (x1 : ExAt h₀ e1 X .none tr h) : Out prog w A h (.ref e1) := fun s l items j t Q E k hl ho hj q => getItem_out_ctx hh (x1.kp k) hl ho hj q

/- name += 1 -/
theorem FS.aug {n : Str} {i k : Int} {t : Tok} {p p1 pos : Pos} {kk : Nat} {Q : Flow → Shared → Prop} (F : FS env s₀ m cm K s) (hm : m n = some (.int i t)) (hl : env.kindOf n = some .local) (hk : env.scope.kind = .function)
    (q : ∀ t' s', FS env s₀ (up m n (.int (i + k) t')) cm K s' → Sy s.heap s'.heap → Q .next s') :
    wpAny (model prog w) A (exec (.AugAssign (.Name n p) .Add (.Constant (.int k) kk p1) pos) env) Q E s := by
  refine wpAny_AugAssign_Name (F.ldL hm hl hk s _ E Kp.rfl (wpAny_Constant_int (PyProof.Rows.iadd_int ?_)))
  refine ((F.gw Gw.toks).gw Gw.toks).stL hl hk fun s' F' y => q _ s' F' y

/- a list's item, out of range -/
theorem sub_out {n ni : Str} {l : Addr} {items : Array Value} {j : Nat} {t : Tok} {p1 p2 p3 : Pos} {c : Value} {Q : Value → Shared → Prop} (O : Out prog w A s.heap c) (hn : Nm prog w A s.heap env n (.ref l)) (hi : Nm prog w A s.heap env ni (.int (Int.ofNat j) t))
    (hl : s.heap.IsList l items) (ho : items.size ≤ j) (hj : j < 2 ^ 32)
    (q : ∀ h' tk e, ExAt s.heap e "IndexError" c none h' → Kp s.heap h' → E (.ref e) { s with heap := h', toks := tk })
    (hs : ∀ o i, subscripted (.Name ni p2) false o i = operate [o, i] (getItem o i) := by intro _ _; with_unfolding_all rfl)
    (hd : (n == ("__debug__" : Str)) = false := by rfl) (hd' : (ni == ("__debug__" : Str)) = false := by rfl) :
    wpAny (model prog w) A (eval (.Subscript (.Name n p1) (.Name ni p2) p3) env) Q E s :=
  Subscript_ (wpAny_Name (hn s _ E Kp.rfl (wpAny_Name (hi s _ E Kp.rfl (subTail hl.typeIs slot_list_getitem.lookup (O s l items j t Q E Kp.rfl hl ho hj q) (hs _ _))) hd')) hd)

/- while l[j] == x: .., out of range -/
theorem while_out {n ni : Str} {l : Addr} {items : Array Value} {j : Nat} {t : Tok} {p1 p2 p3 p5 p6 : Pos} {e2 : Expr} {body : List Stmt} {c : Value} {Q : Flow → Shared → Prop} (O : Out prog w A s.heap c) (hfr : A.frames = some (env :: outer)) (hf : env.frame = some L) (fr : FrAt s.heap (env :: outer))
    (hn : Nm prog w A s.heap env n (.ref l)) (hi : Nm prog w A s.heap env ni (.int (Int.ofNat j) t))
    (hl : s.heap.IsList l items) (ho : items.size ≤ j) (hj : j < 2 ^ 32)
    (q : ∀ h' tk e, ExAt s.heap e "IndexError" c (some (rawInt L)) h' → Mv (frs (env :: outer)) s.heap s.heap h' → E (.ref e) { s with heap := h', toks := tk })
    (hs : ∀ o i, subscripted (.Name ni p2) false o i = operate [o, i] (getItem o i) := by intro _ _; with_unfolding_all rfl)
    (hd : (n == ("__debug__" : Str)) = false := by rfl) (hd' : (ni == ("__debug__" : Str)) = false := by rfl)  (hmk : behindInMarks .Eq e2 = false := by with_unfolding_all rfl) :
    wpAny (model prog w) A (exec (.While (.Compare (.Subscript (.Name n p1) (.Name ni p2) p3) [.Eq] [e2] p5) body [] p6) env) Q E s := by
  refine wpAny_While (codeAny_whileLoop (fun _ s' => s' = s) (fun k s' hs' => ?_) 0 rfl)
  subst hs'
  refine wpAny_isTrue_Compare1 (sub_out O hn hi hl ho hj (fun h' tk e x k => ?_) hs hd hd') hmk
  refine ex_note (s := { s' with heap := h', toks := tk }) hfr hf (fr.kp k) x (fun b ⟨o, ho⟩ => ⟨o, k b o ho⟩) fun h₂ x₂ m₂ => ?_
  refine ex_back (s := { s' with heap := h₂, toks := tk }) (as := frs (env :: outer)) hf x₂ fun h₃ x₃ m₃ => ?_
  exact q h₃ tk e x₃ (((Mv.kp k).trans m₂).trans m₃)

/- while l[j] == x: .., another item -/
theorem while_stop {e1 e2 : Expr} {x y : Int} {p5 p6 : Pos} {body : List Stmt} {Q : Flow → Shared → Prop} (h1 : Ev prog w A s.heap env e1 (RInt x)) (h2 : Ev prog w A s.heap env e2 (RInt y)) (hne : x ≠ y) (q : ∀ s', Gw s s' → Q .next s')
    (hmk : behindInMarks .Eq e2 = false := by with_unfolding_all rfl) :
    wpAny (model prog w) A (exec (.While (.Compare e1 [.Eq] [e2] p5) body [] p6) env) Q E s := by
  refine wpAny_While (codeAny_whileLoop (fun _ s' => s' = s) (fun k s' hs' => ?_) 0 rfl)
  subst hs'
  refine Tr.go (Tr.cmp h1 h2 Cm.eq hmk) fun s₂ g₂ => ?_
  rw [show (x == y) = false by simpa using hne]
  simp only [Bool.false_eq_true, if_false]
  exact wpAny_execs_nil (q s₂ g₂)

/- an exception meets its clause -/
theorem caught {hA : Heap} {e : Addr} {X T : String} {c : Value} {tr : Option Value} {n : Str} {np pos : Pos} {b₀ : Stmt} {suite : List Stmt} {Q : Flow → Shared → Prop}
    (hfr : A.frames = some (env :: outer)) (hf : env.frame = some L) (fr : FrAt s.heap (env :: outer)) (x : ExAt hA e X c tr s.heap) (htr : (tr = none ∧ ∀ b, (∃ o, hA.get? b = some o) → ∃ o, s.heap.get? b = some o) ∨ tr = some (rawInt L))
    (hn : ∀ h₂, Mv (frs (env :: outer)) hA s.heap h₂ → Nm prog w (A.mark (some (.ref e))) h₂ env n (.type T))
    (hexc : isSubtype (.type T) (.type "BaseException") = pure true) (hnt : isSubtype (.type ((Manifest.find? T).elim "type" fun y => y.metatype)) (.type "tuple") = pure false) (hsub : isSubtype (.type X) (.type T) = pure true)
    (k : ∀ h₂ (E' : Value → Shared → Prop), ExAt hA e X c (some .none) h₂ → Mv (frs (env :: outer)) hA s.heap h₂ → wpAny (model prog w) (A.mark (some (.ref e))) (execs (b₀ :: suite) env) Q E' { s with heap := h₂ })
    (hd : (n == ("__debug__" : Str)) = false := by rfl) :
    wpAny (model prog w) A (noteFrame (.ref e) env) (fun _ s₂ => wpAny (model prog w) A (setFlight (.ref e) none) (fun _ s₃ =>
      wpAny (model prog w) A (handleBy (.ref e) env [.ExceptHandler (some (.Name n np)) none (b₀ :: suite) pos]) Q E s₃) E s₂) E s := by
  have step : ∀ h₁, ExAt hA e X c (some (rawInt L)) h₁ → Mv (frs (env :: outer)) hA s.heap h₁ → wpAny (model prog w) A (setFlight (.ref e) none) (fun _ s₃ =>
      wpAny (model prog w) A (handleBy (.ref e) env [.ExceptHandler (some (.Name n np)) none (b₀ :: suite) pos]) Q E s₃) E { s with heap := h₁ } := by
    intro h₁ x₁ m₁
    refine ex_flight (s := { s with heap := h₁ }) (as := frs (env :: outer)) (f := none) x₁ fun h₂ x₂ m₂ => ?_
    refine wpAny_handleBy_builtin (X := X) (T := T) (b := true) hexc hnt hsub (wpAny_Name (hn h₂ (m₁.trans m₂) _ _ _ Kp.rfl ?_) hd)
    refine ⟨rfl, ?_, ?_⟩
    · obtain ⟨_, oe, vs, he, hc, _⟩ := x₂
      exact ⟨oe, he, hc⟩
    · rw [if_pos rfl]
      exact ex_flight (s := { s with heap := h₂ }) (as := frs (env :: outer)) (f := none) x₂ fun h₃ x₃ m₃ => k h₃ _ x₃ ((m₁.trans m₂).trans m₃)
  rcases htr with ⟨rfl, dom⟩ | rfl
  · exact ex_note hfr hf fr x dom fun h₁ x₁ m₁ => step h₁ x₁ m₁
  · exact ex_again hf x (step s.heap x Mv.rfl)

/- name.extend(expression), the list one of the frame's own -/
theorem FS.extend {Q : Flow → Shared → Prop} {n : Str} {a : Addr} {vs : List Value} {rs : List R} {e : Expr} {np ap cp pos : Pos} (F : FS env s₀ m cm K s) (hn : Nm prog w A s.heap env n (.ref a)) (hl : s.heap.PlainList a vs.toArray) (x : Ev prog w A s.heap env e (RList rs))
    (hra : ∀ o, ¬ K a o) (hba : s₀.heap.get? a = none) (hsz : vs.length ≤ 2 ^ 20) (hsz' : rs.length ≤ 2 ^ 20)
    (q : ∀ us s', FS env s₀ m cm K s' → s'.heap.PlainList a (vs ++ us).toArray → (∃ h₁, Kp s.heap h₁ ∧ All2 h₁ rs us ∧ Heap.SameBut a h₁ s'.heap) → Q .next s')
    (hi : interactive env = false := by rfl) (hsw : swapsWith (.Call (.Attribute (.Name n np) "extend" ap) [e] [] cp) none pos.line env = pure false := by rfl)
    (hd : (n == ("__debug__" : Str)) = false := by rfl)
    (hbase : attributeBase (.Name n np) "extend" env (eval (.Name n np) env) = eval (.Name n np) env := by rfl)
    (hfew : ((backTo cp (starEach [e] env)).all (fun x => !x.1) && (backToKw cp (keywordEach [] env)).all (fun x => x.1.isSome)
      && decide ([e].length + ([] : List Keyword).length + (if ([] : List Keyword).isEmpty then 0 else 1) < 30)) = true := by rfl)
    (hline : (ap.endLine == cp.line) = true := by rfl)
    (he : starEach [e] env = (false, eval e env) :: starEach [] env := by rfl) :
    wpAny (model prog w) A (exec (.Expr (.Call (.Attribute (.Name n np) "extend" ap) [e] [] cp) pos) env) Q E s := by
  refine wpAny_Expr ?_ hi hsw
  refine wpAny_Call_method hbase hfew hline PySem.F.plainAttrs_list PySem.F.slot_list_extend PySem.F.type_list_extend (wpAny_Name (hn s _ E Kp.rfl ⟨(plain_isList hl).typeIs, ?_, ?_⟩) hd)
  · intro b hb; cases hb; obtain ⟨k, ho⟩ := hl; exact ⟨_, ho, rfl⟩
  · have hb : backTo cp (starEach [e] env) = [(false, eval e env)] := by rw [he]; rfl
    rw [hb]
    refine PySem.P.extend_list (x s _ E Kp.rfl fun v s₁ g₁ a₁ => ?_)
    obtain ⟨k, ho⟩ := hl
    obtain ⟨b, us, rfl, ⟨k2, ho2⟩, hall⟩ := a₁
    have ho1 := g₁.kp _ _ ho
    have hlen := hall.len
    have hz : sizeLine = 16777216 := rfl
    refine ⟨b, vs.toArray, us.toArray, k, k2, by simp; (first | assumption | decide | lia | omega), by simp; (first | assumption | decide | lia | omega), ?_, rfl, ho1, ho2, ?_⟩
    · have : Builtin.List.listTooLong (vs.toArray.size + us.toArray.size) = false := by
        unfold Builtin.List.listTooLong
        simp; (first | assumption | decide | lia | omega)
      rw [this]; simp
    · have sb : Heap.SameBut a s₁.heap (s₁.heap.update a (Obj.mapSeq fun xs => xs ++ us.toArray)) := Heap.SameBut.update ..
      have hl' : (s₁.heap.update a (Obj.mapSeq fun xs => xs ++ us.toArray)).PlainList a (vs ++ us).toArray := by
        have := PySem.IsL.update ho1 fun xs => xs ++ us.toArray
        have e : (vs ++ us).toArray = vs.toArray ++ us.toArray := by simp
        rw [e]
        exact ⟨_, this⟩
      exact q us _ ((F.gw g₁).own (t := s₁.toks) ho1 rfl hra hba sb) hl' ⟨s₁.heap, g₁.kp, hall, sb⟩
end
end Mine

-- Ev27
namespace Mine

/- all of s stands in s', but for the slots of the frames -/
noncomputable def Zt (outer : List Env) (s s' : Shared) : Prop := ∃ h' t, s' = { s with heap := h', toks := t } ∧ Mv (frs outer) s.heap s.heap h'
noncomputable def ZetsTo (outer : List Env) (s : Shared) (r : R) (fl : Flow) (s' : Shared) : Prop := ∃ v, fl = .ret v ∧ Zt outer s s' ∧ r.is s'.heap v
section
variable (prog : Program) (w : World) (A : Around)
/- a call that may turn the slots of the frames -/
noncomputable def FnZ (h : Heap) (outer : List Env) (f : Value) (rs : List R) (r : R) : Prop :=
  ∀ (s : Shared) (vs : List Value) (Q : Value → Shared → Prop) (E : Value → Shared → Prop), Kp h s.heap → All2 s.heap rs vs → FrAt s.heap outer → (∀ v s', Zt outer s s' → r.is s'.heap v → Q v s') → wpAny (model prog w) A (call f vs) Q E s
end
section
variable {prog : Program} {w : World} {A : Around} {env : Env} {s₀ s : Shared} {m cm : Str → Option Value} {K : Addr → Obj → Prop} {E : Value → Shared → Prop} {outer : List Env} {L : Addr}

theorem FnZ.of {h : Heap} {f : Addr} {o : Obj} {fd : FuncData} {body : List Stmt} {rs : List R} {r : R} (names : List Str)
    (ho : h.get? f = some o) (hdata : o.data = .func fd) (hbody : fd.body = .stmts body) (hlim : h.NoLimit) (hcd : h.CodeRec fd.code fd.qualname) (hclo : fd.closure = []) (hroom : A.depth < recursionLimit)
    (hbind : ∀ vs : List Value, vs.length = rs.length → bindArgs fd ⟨vs, []⟩ = pure (names.zip vs))
    (hkind : ∀ (L : Nat), ∀ x ∈ names, fd.scope.names.lookup x = some .local ∨ (fd.scope.names.lookup x = some .cell ∧ ((cellsFrom L fd.scope.names []).lookup x).isSome = true))
    (hb : ∀ (s s₁ : Shared) (vs : List Value), Kp h s.heap → All2 s.heap rs vs → FrAt s.heap outer →
      FS (callEnvC fd s.heap.objs.size f) s (bindL (callEnvC fd s.heap.objs.size f).kindOf (names.zip vs) fun _ => none) (bindC (callEnvC fd s.heap.objs.size f).kindOf (names.zip vs) fun _ => none) (Hk s.heap) s₁ →
      wpAny (model prog w) (A.deeper (callEnvC fd s.heap.objs.size f)) (execs body (callEnvC fd s.heap.objs.size f)) (ZetsTo outer s r) (fun _ _ => False) s₁)
    (hco : fd.scope.isCoroutine = false := by rfl) (hgen : fd.scope.isGenerator = false := by rfl) (hk : fd.scope.kind = .function := by rfl) : FnZ prog w A h outer (.ref f) rs r := by
  intro s vs Q E k a fo q
  refine wpAny_call (codeAny_call_cells hroom (k _ _ ho) hdata (hlim.keeps k) (hcd.keeps k) hbody (hbind vs a.len) hclo ?_ (fun s₁ x => ?_) hco hgen hk)
  · intro x hx
    exact hkind _ x.1 (List.of_mem_zip hx).1
  · refine wpAny_mono (hb s s₁ vs k a fo (FS.of x)) ?_ (fun _ _ f => f.elim)
    rintro fl s' ⟨v, rfl, g, hv⟩
    exact q v s' g hv

theorem FS.fr (F : FS env s₀ m cm K s) (hf : env.frame = some env.locals) (hk : env.scope.kind = .function) (fo : FrAt s₀.heap outer) : FrAt s.heap (env :: outer) := by
  obtain ⟨o, es, ep, ho, hd, _⟩ := F.ns
  exact ⟨⟨by rw [hk]; decide, env.locals, o, es, ep, hf, ho, hd⟩, fo.kp F.base⟩
theorem FrAt.rb {as : List Addr} {s₁ : Shared} (x : FrAt s₀.heap outer) (r : Rb as s₀ s₁) : FrAt s₁.heap outer := by
  obtain ⟨h', rfl, m1, n1⟩ := r
  exact x.mv m1 fun b hb => by obtain ⟨o, _, _, ho, _⟩ := x.mem b hb; exact ⟨o, ho⟩
/- the frame's own address is none of the base's -/
theorem Rb.cut {s₁ : Shared} (r : Rb (frs (env :: outer)) s₀ s₁) (hf : env.frame = some L) (hn : s₀.heap.get? L = none) : Rb (frs outer) s₀ s₁ := by
  obtain ⟨h', rfl, m1, n1⟩ := r
  refine ⟨h', by rfl, fun b o d e => ?_, n1⟩
  obtain ⟨x1, x2⟩ := m1 b o d e
  refine ⟨fun hb => x1 fun hm => ?_, x2⟩
  unfold frs at hm
  rw [List.filterMap_cons, hf] at hm
  rcases List.mem_cons.mp hm with rfl | hm
  · rw [hn] at e; cases e
  · exact hb hm
theorem Rb.non {as : List Addr} {s₁ : Shared} (r : Rb as s₀ s₁) {b : Addr} : s₁.heap.get? b = none ↔ s₀.heap.get? b = none := by
  obtain ⟨h', rfl, m1, n1⟩ := r
  refine ⟨fun e => ?_, n1 b⟩
  cases q : s₀.heap.get? b with
  | none => rfl
  | some o => obtain ⟨_, sl, x⟩ := m1 b o ⟨o, q⟩ q; rw [x] at e; cases e
theorem Rb.kp {h : Heap} {s₁ : Shared} {as : List Addr} (r : Rb as s₀ s₁) (k : Kp h s₀.heap) (hn : ∀ b ∈ as, h.get? b = none) : Kp h s₁.heap := by
  obtain ⟨h', rfl, m1, n1⟩ := r
  exact fun b o e => (m1 b o ⟨o, k b o e⟩ (k b o e)).1 fun hb => by rw [hn b hb] at e; cases e
/- out of a frame whose base has turned -/
theorem Rb.out {s₁ : Shared} {s' : Shared} (r : Rb (frs outer) s₀ s₁) (g : Gw s₁ s') : Zt outer s₀ s' := by
  obtain ⟨h', rfl, m1, n1⟩ := r
  obtain ⟨h, t, rfl, k⟩ := g
  exact ⟨h, t, by rfl, m1.trans (Mv.kp k)⟩
theorem FS.rebase {s₁ : Shared} {h₁ : Heap} (F : FS env s₀ m cm K s) (e : s₁ = { s₀ with heap := h₁ }) (k : Kp h₁ s₀.heap) : FS env s₁ m cm K s := by
  subst e
  have nn : ∀ a, s₀.heap.get? a = none → h₁.get? a = none := fun a e => by
    cases q : h₁.get? a with
    | none => rfl
    | some o => rw [k _ _ q] at e; cases e
  obtain ⟨h, t, e⟩ := F.same
  exact ⟨⟨h, t, by rw [e]⟩, k.trans F.base, F.ns, F.cell, F.apart, F.off, ⟨nn _ F.fresh.1, fun n c hc => nn _ (F.fresh.2 n c hc)⟩, F.sy⟩
end
end Mine

-- Law10
namespace Mine
theorem lk21 (P : Params) : (KF P).lookup 21 = some (objAt P 21) := by rfl
theorem fd21 (P : Params) : (objAt P 21).data = .func (fdOf (objAt P 21)) := by rfl
theorem bd21 (P : Params) : (fdOf (objAt P 21)).body = .stmts (bodyOf (fdOf (objAt P 21))) := by rfl
theorem cd21 (P : Params) : codeIn (KF P) (fdOf (objAt P 21)).code (fdOf (objAt P 21)).qualname = true := by rfl
noncomputable abbrev env21 (P : Params) (L : Addr) : Env := callEnvC (fdOf (objAt P 21)) L 21

/- what stands still while the def runs -/
structure C21 (P : Params) (s : Shared) (L : Addr) (outer : List Env) (ax ay : Addr) (vx vy : List Value) (xs ys : List Int) (aM aU : Addr) : Prop where
  fo : FrAt s.heap outer
  nL : s.heap.get? L = none
  lx : s.heap.PlainList ax vx.toArray
  ix : IntsAre vx xs
  ly : s.heap.PlainList ay vy.toArray
  iy : IntsAre vy ys
  nM : s.heap.get? aM = none
  nU : s.heap.get? aU = none
  ne : aM ≠ aU
  zx : xs.length ≤ 1000
  zy : ys.length ≤ 1000
structure S21 (P : Params) (s : Shared) (L : Addr) (outer : List Env) (aM aU : Addr) (M U : List Int) (m : Str → Option Value) (s' : Shared) : Prop where
  F : ∃ s₀ cm, Rb (frs outer) s s₀ ∧ FS (env21 P L) s₀ m cm (fun _ _ => False) s'
  lM : ∃ vs : List Value, s'.heap.PlainList aM vs.toArray ∧ IntsAre vs M
  lU : ∃ vs : List Value, s'.heap.PlainList aU vs.toArray ∧ IntsAre vs U
  zM : M.length ≤ 1000
  zU : U.length ≤ 1000
structure N21 (ax ay aM aU : Addr) (m : Str → Option Value) (i j : Nat) : Prop where
  x : m (S "expected") = some (.ref ax)
  y : m (S "actual") = some (.ref ay)
  i : ∃ t, m (S "i") = some (.int (Int.ofNat i) t)
  j : ∃ t, m (S "j") = some (.int (Int.ofNat j) t)
  M : m (S "missing") = some (.ref aM)
  U : m (S "unexpected") = some (.ref aU)
/- the heap knows all that is held -/
structure D21 (s : Shared) (L aM aU : Addr) (h : Heap) : Prop where
  s : ∀ b, (∃ o, s.heap.get? b = some o) → ∃ o, h.get? b = some o
  L : ∃ o, h.get? L = some o
  M : ∃ o, h.get? aM = some o
  U : ∃ o, h.get? aU = some o

theorem N21.e {ax ay aM aU m i j v} (x : N21 ax ay aM aU m i j) : N21 ax ay aM aU (up m (S "e") v) i j :=
  ⟨by rw [up_ne (by decide)]; exact x.x, by rw [up_ne (by decide)]; exact x.y, by rw [up_ne (by decide)]; exact x.i, by rw [up_ne (by decide)]; exact x.j, by rw [up_ne (by decide)]; exact x.M, by rw [up_ne (by decide)]; exact x.U⟩
theorem N21.a {ax ay aM aU m i j v} (x : N21 ax ay aM aU m i j) : N21 ax ay aM aU (up m (S "a") v) i j :=
  ⟨by rw [up_ne (by decide)]; exact x.x, by rw [up_ne (by decide)]; exact x.y, by rw [up_ne (by decide)]; exact x.i, by rw [up_ne (by decide)]; exact x.j, by rw [up_ne (by decide)]; exact x.M, by rw [up_ne (by decide)]; exact x.U⟩
theorem N21.ip {ax ay aM aU m i j t} (x : N21 ax ay aM aU m i j) : N21 ax ay aM aU (up m (S "i") (.int (Int.ofNat i + 1) t)) (i + 1) j :=
  ⟨by rw [up_ne (by decide)]; exact x.x, by rw [up_ne (by decide)]; exact x.y, ⟨t, up_self⟩, by rw [up_ne (by decide)]; exact x.j, by rw [up_ne (by decide)]; exact x.M, by rw [up_ne (by decide)]; exact x.U⟩
theorem N21.jp {ax ay aM aU m i j t} (x : N21 ax ay aM aU m i j) : N21 ax ay aM aU (up m (S "j") (.int (Int.ofNat j + 1) t)) i (j + 1) :=
  ⟨by rw [up_ne (by decide)]; exact x.x, by rw [up_ne (by decide)]; exact x.y, by rw [up_ne (by decide)]; exact x.i, ⟨t, up_self⟩, by rw [up_ne (by decide)]; exact x.M, by rw [up_ne (by decide)]; exact x.U⟩

theorem fr21 (P : Params) (L : Addr) : (env21 P L).frame = some L := by rfl
theorem fk21 (P : Params) (L : Addr) : (env21 P L).scope.kind = .function := by rfl
theorem cl21 (P : Params) (L : Addr) : (env21 P L).cells = [] := by rfl
theorem k21_x (P : Params) (L : Addr) : (env21 P L).kindOf (S "expected") = some .local := by rfl
theorem k21_y (P : Params) (L : Addr) : (env21 P L).kindOf (S "actual") = some .local := by rfl
theorem k21_i (P : Params) (L : Addr) : (env21 P L).kindOf (S "i") = some .local := by rfl
theorem k21_j (P : Params) (L : Addr) : (env21 P L).kindOf (S "j") = some .local := by rfl
theorem k21_e (P : Params) (L : Addr) : (env21 P L).kindOf (S "e") = some .local := by rfl
theorem k21_a (P : Params) (L : Addr) : (env21 P L).kindOf (S "a") = some .local := by rfl
theorem k21_M (P : Params) (L : Addr) : (env21 P L).kindOf (S "missing") = some .local := by rfl
theorem k21_U (P : Params) (L : Addr) : (env21 P L).kindOf (S "unexpected") = some .local := by rfl

section
variable {prog : Program} {w : World} {A : Around} {P : Params} {s s' : Shared} {L : Addr} {outer : List Env} {ax ay : Addr} {vx vy : List Value} {xs ys : List Int} {aM aU : Addr} {M U : List Int} {m : Str → Option Value} {i j : Nat} {E : Value → Shared → Prop}

theorem S21.fr (C : C21 P s L outer ax ay vx vy xs ys aM aU) (x : S21 P s L outer aM aU M U m s') : FrAt s'.heap (env21 P L :: outer) := by
  obtain ⟨s₀, cm, r, F⟩ := x.F
  exact F.fr (fr21 P L) (fk21 P L) (C.fo.rb r)
theorem S21.gw {s'' : Shared} (x : S21 P s L outer aM aU M U m s') (g : Gw s' s'') : S21 P s L outer aM aU M U m s'' := by
  obtain ⟨s₀, cm, r, F⟩ := x.F
  obtain ⟨vM, lM, iM⟩ := x.lM
  obtain ⟨vU, lU, iU⟩ := x.lU
  exact ⟨⟨s₀, cm, r, F.gw g⟩, ⟨vM, lM.imp fun _ e => g.kp _ _ e, iM⟩, ⟨vU, lU.imp fun _ e => g.kp _ _ e, iU⟩, x.zM, x.zU⟩
theorem S21.dm (x : S21 P s L outer aM aU M U m s') : D21 s L aM aU s'.heap := by
  obtain ⟨s₀, cm, r, F⟩ := x.F
  obtain ⟨vM, ⟨_, lM⟩, iM⟩ := x.lM
  obtain ⟨vU, ⟨_, lU⟩, iU⟩ := x.lU
  refine ⟨fun b ⟨o, ho⟩ => ?_, ?_, ⟨_, lM⟩, ⟨_, lU⟩⟩
  · cases q : s₀.heap.get? b with
    | none => rw [r.non] at q; rw [q] at ho; cases ho
    | some o' => exact ⟨o', F.base _ _ q⟩
  · obtain ⟨o, _, _, ho, _⟩ := F.ns; exact ⟨o, ho⟩
theorem S21.mz {hA h' : Heap} {t : Nat} (C : C21 P s L outer ax ay vx vy xs ys aM aU) (x : S21 P s L outer aM aU M U m s') (d : D21 s L aM aU hA) (z : Mv (frs (env21 P L :: outer)) hA s'.heap h') :
    S21 P s L outer aM aU M U m { s' with heap := h', toks := t } := by
  have fr := x.fr C
  obtain ⟨s₀, cm, r, F⟩ := x.F
  obtain ⟨vM, ⟨cM, lM⟩, iM⟩ := x.lM
  obtain ⟨vU, ⟨cU, lU⟩, iU⟩ := x.lU
  have an : Anch (env21 P L) s₀ (fun _ _ => False) hA := by
    refine ⟨fun b ⟨o, ho⟩ => d.s b ?_, d.L, fun n c hc => ?_, fun b o f => f.elim⟩
    · cases q : s.heap.get? b with
      | none => rw [r.non.mpr q] at ho; cases ho
      | some o => exact ⟨o, rfl⟩
    · rw [cl21] at hc; cases hc
  obtain ⟨s₁, r₁, F₁⟩ := F.mz (t := t) an fr z
  have r₂ := r₁.cut (fr21 P L) F.fresh.1
  exact ⟨⟨s₁, cm, r.trans r₂, F₁⟩, ⟨vM, ⟨cM, (z _ _ d.M lM).1 fun hb => seq_not_vary rfl (fr.vary hb lM)⟩, iM⟩, ⟨vU, ⟨cU, (z _ _ d.U lU).1 fun hb => seq_not_vary rfl (fr.vary hb lU)⟩, iU⟩, x.zM, x.zU⟩
theorem S21.sy (C : C21 P s L outer ax ay vx vy xs ys aM aU) (x : S21 P s L outer aM aU M U m s') : Sy s.heap s'.heap := by
  obtain ⟨s₀, cm, r, F⟩ := x.F
  exact (r.sy fun b hb o e => C.fo.vary hb e).trans F.base.sy
theorem S21.px (C : C21 P s L outer ax ay vx vy xs ys aM aU) (x : S21 P s L outer aM aU M U m s') : s'.heap.PlainList ax vx.toArray := C.lx.imp fun _ e => x.sy C _ _ e (seq_not_vary rfl)
theorem S21.py (C : C21 P s L outer ax ay vx vy xs ys aM aU) (x : S21 P s L outer aM aU M U m s') : s'.heap.PlainList ay vy.toArray := C.ly.imp fun _ e => x.sy C _ _ e (seq_not_vary rfl)
theorem S21.ld {n : Str} {v : Value} (x : S21 P s L outer aM aU M U m s') (hm : m n = some v) (hl : (env21 P L).kindOf n = some .local) : Nm prog w A s'.heap (env21 P L) n v := by
  obtain ⟨s₀, cm, r, F⟩ := x.F
  exact F.ldL hm hl (fk21 P L)
theorem S21.st {n : Str} {v : Value} {Q : Unit → Shared → Prop} (x : S21 P s L outer aM aU M U m s') (hl : (env21 P L).kindOf n = some .local) (q : ∀ s'', S21 P s L outer aM aU M U (up m n v) s'' → Q () s'') :
    wpAny (model prog w) A (storeName (env21 P L) n v) Q E s' := by
  obtain ⟨s₀, cm, r, F⟩ := x.F
  obtain ⟨vM, lM, iM⟩ := x.lM
  obtain ⟨vU, lU, iU⟩ := x.lU
  exact F.stL hl (fk21 P L) fun s'' F' y => q s'' ⟨⟨s₀, cm, r, F'⟩, ⟨vM, lM.imp fun _ e => y _ _ e (seq_not_vary rfl), iM⟩, ⟨vU, lU.imp fun _ e => y _ _ e (seq_not_vary rfl), iU⟩, x.zM, x.zU⟩
theorem S21.asg {n : Str} {value : Expr} {p pos : Pos} {k : Int} {Q : Flow → Shared → Prop} (x : S21 P s L outer aM aU M U m s') (hl : (env21 P L).kindOf n = some .local) (v : Ev prog w A s'.heap (env21 P L) value (RInt k))
    (q : ∀ t s'', S21 P s L outer aM aU M U (up m n (.int k t)) s'' → Q .next s'') (hsw : swapsWith value (some (.Name n p)) pos.line (env21 P L) = pure false := by rfl) :
    wpAny (model prog w) A (exec (.Assign [.Name n p] value pos) (env21 P L)) Q E s' :=
  wpAny_Assign_Name (v s' _ E Kp.rfl fun v s₁ g₁ a₁ => by obtain ⟨t, rfl⟩ := a₁; exact (x.gw g₁).st hl fun s'' y => q t s'' y) hsw
theorem S21.aug {n : Str} {p p1 pos : Pos} {kk : Nat} {k d : Int} {t : Tok} {Q : Flow → Shared → Prop} (x : S21 P s L outer aM aU M U m s') (hl : (env21 P L).kindOf n = some .local) (hm : m n = some (.int k t))
    (q : ∀ t s'', S21 P s L outer aM aU M U (up m n (.int (k + d) t)) s'' → Sy s'.heap s''.heap → Q .next s'') :
    wpAny (model prog w) A (exec (.AugAssign (.Name n p) .Add (.Constant (.int d) kk p1) pos) (env21 P L)) Q E s' := by
  obtain ⟨s₀, cm, r, F⟩ := x.F
  obtain ⟨vM, lM, iM⟩ := x.lM
  obtain ⟨vU, lU, iU⟩ := x.lU
  exact F.aug hm hl (fk21 P L) fun t s'' F' y => q t s'' ⟨⟨s₀, cm, r, F'⟩, ⟨vM, lM.imp fun _ e => y _ _ e (seq_not_vary rfl), iM⟩, ⟨vU, lU.imp fun _ e => y _ _ e (seq_not_vary rfl), iU⟩, x.zM, x.zU⟩ y
end
end Mine

-- Law11
namespace Mine
section
variable {prog : Program} {w : World} {A : Around} {P : Params} {s s' : Shared} {L : Addr} {outer : List Env} {ax ay : Addr} {vx vy : List Value} {xs ys : List Int} {aM aU : Addr} {M U : List Int} {m : Str → Option Value} {i j : Nat} {E : Value → Shared → Prop}

theorem S21.itx {p1 p2 p3 : Pos} {k : Int} (C : C21 P s L outer ax ay vx vy xs ys aM aU) (x : S21 P s L outer aM aU M U m s') (n : N21 ax ay aM aU m i j) (hi : xs[i]? = some k) :
    Ev prog w A s'.heap (env21 P L) (.Subscript (.Name (S "expected") p1) (.Name (S "i") p2) p3) (RInt k) := by
  obtain ⟨t, ht⟩ := n.i
  have hlt : i < xs.length := (List.getElem?_eq_some_iff.mp hi).1
  have := C.zx
  exact Ev.item (rs := xs.map RInt) (Ev.name (x.ld n.x (k21_x P L)) ⟨ax, vx, rfl, x.px C, ints_all2 C.ix⟩ (by rfl)) (Ev.nint (x.ld ht (k21_i P L))) (by simp only [Int.ofNat_eq_natCast]; (first | assumption | decide | lia | omega)) (by simp only [Int.ofNat_eq_natCast]; (first | assumption | decide | lia | omega)) (by simp [hi])
theorem S21.ity {p1 p2 p3 : Pos} {k : Int} (C : C21 P s L outer ax ay vx vy xs ys aM aU) (x : S21 P s L outer aM aU M U m s') (n : N21 ax ay aM aU m i j) (hi : ys[j]? = some k) :
    Ev prog w A s'.heap (env21 P L) (.Subscript (.Name (S "actual") p1) (.Name (S "j") p2) p3) (RInt k) := by
  obtain ⟨t, ht⟩ := n.j
  have hlt : j < ys.length := (List.getElem?_eq_some_iff.mp hi).1
  have := C.zy
  exact Ev.item (rs := ys.map RInt) (Ev.name (x.ld n.y (k21_y P L)) ⟨ay, vy, rfl, x.py C, ints_all2 C.iy⟩ (by rfl)) (Ev.nint (x.ld ht (k21_j P L))) (by simp only [Int.ofNat_eq_natCast]; (first | assumption | decide | lia | omega)) (by simp only [Int.ofNat_eq_natCast]; (first | assumption | decide | lia | omega)) (by simp [hi])

theorem S21.appM {p1 p2 p3 p4 : Pos} {e : Expr} {k : Int} {Q : Flow → Shared → Prop} (C : C21 P s L outer ax ay vx vy xs ys aM aU) (x : S21 P s L outer aM aU M U m s') (n : N21 ax ay aM aU m i j) (v : Ev prog w A s'.heap (env21 P L) e (RInt k)) (hz : M.length < 1000)
    (q : ∀ s'', S21 P s L outer aM aU (M ++ [k]) U m s'' → Q .next s'')
    (hsw : swapsWith (.Call (.Attribute (.Name (S "missing") p1) "append" p2) [e] [] p3) none p4.line (env21 P L) = pure false := by rfl)
    (hfew : ((backTo p3 (starEach [e] (env21 P L))).all (fun x => !x.1) && (backToKw p3 (keywordEach [] (env21 P L))).all (fun x => x.1.isSome)
      && decide ([e].length + ([] : List Keyword).length + (if ([] : List Keyword).isEmpty then 0 else 1) < 30)) = true := by rfl)
    (hline : (p2.endLine == p3.line) = true := by rfl)
    (he : starEach [e] (env21 P L) = (false, eval e (env21 P L)) :: starEach [] (env21 P L) := by rfl) :
    wpAny (model prog w) A (exec (.Expr (.Call (.Attribute (.Name (S "missing") p1) "append" p2) [e] [] p3) p4) (env21 P L)) Q E s' := by
  obtain ⟨s₀, cm, r, F⟩ := x.F
  obtain ⟨vM, lM, iM⟩ := x.lM
  obtain ⟨vU, lU, iU⟩ := x.lU
  refine F.append (n := S "missing") (x.ld n.M (k21_M P L)) lM v (fun _ f => f) (r.non.mpr C.nM) (by have := iM.length; have h1 := x.zM; have : sizeLine = 16777216 := rfl; (first | assumption | decide | lia | omega)) ?_ (hi := by rfl) (hsw := hsw) (hd := by rfl) (hbase := by rfl) (hfew := hfew) (hline := hline) (he := he)
  rintro _ s'' F' l' ⟨h₁, k₁, ⟨t, rfl⟩, sb⟩
  exact q s'' ⟨⟨s₀, cm, r, F'⟩, ⟨_, l', iM.append (.cons _ _ .nil)⟩, ⟨vU, lU.imp fun _ e => sb.extBut _ _ (Ne.symm C.ne) (k₁ _ _ e), iU⟩, by simp; (first | assumption | decide | lia | omega), x.zU⟩
theorem S21.appU {p1 p2 p3 p4 : Pos} {e : Expr} {k : Int} {Q : Flow → Shared → Prop} (C : C21 P s L outer ax ay vx vy xs ys aM aU) (x : S21 P s L outer aM aU M U m s') (n : N21 ax ay aM aU m i j) (v : Ev prog w A s'.heap (env21 P L) e (RInt k)) (hz : U.length < 1000)
    (q : ∀ s'', S21 P s L outer aM aU M (U ++ [k]) m s'' → Q .next s'')
    (hsw : swapsWith (.Call (.Attribute (.Name (S "unexpected") p1) "append" p2) [e] [] p3) none p4.line (env21 P L) = pure false := by rfl)
    (hfew : ((backTo p3 (starEach [e] (env21 P L))).all (fun x => !x.1) && (backToKw p3 (keywordEach [] (env21 P L))).all (fun x => x.1.isSome)
      && decide ([e].length + ([] : List Keyword).length + (if ([] : List Keyword).isEmpty then 0 else 1) < 30)) = true := by rfl)
    (hline : (p2.endLine == p3.line) = true := by rfl)
    (he : starEach [e] (env21 P L) = (false, eval e (env21 P L)) :: starEach [] (env21 P L) := by rfl) :
    wpAny (model prog w) A (exec (.Expr (.Call (.Attribute (.Name (S "unexpected") p1) "append" p2) [e] [] p3) p4) (env21 P L)) Q E s' := by
  obtain ⟨s₀, cm, r, F⟩ := x.F
  obtain ⟨vM, lM, iM⟩ := x.lM
  obtain ⟨vU, lU, iU⟩ := x.lU
  refine F.append (n := S "unexpected") (x.ld n.U (k21_U P L)) lU v (fun _ f => f) (r.non.mpr C.nU) (by have := iU.length; have h1 := x.zU; have : sizeLine = 16777216 := rfl; (first | assumption | decide | lia | omega)) ?_ (hi := by rfl) (hsw := hsw) (hd := by rfl) (hbase := by rfl) (hfew := hfew) (hline := hline) (he := he)
  rintro _ s'' F' l' ⟨h₁, k₁, ⟨t, rfl⟩, sb⟩
  exact q s'' ⟨⟨s₀, cm, r, F'⟩, ⟨vM, lM.imp fun _ e => sb.extBut _ _ C.ne (k₁ _ _ e), iM⟩, ⟨_, l', iU.append (.cons _ _ .nil)⟩, x.zM, by simp; (first | assumption | decide | lia | omega)⟩

theorem slicePick_fromN (items : Array Value) (b : Nat) (hb : b ≤ items.size) : (slicePick items (some (Int.ofNat b)) none none).toList = items.toList.drop b := by
  have := slicePick_from items b hb
  rw [show (Int.ofNat b) = (b : Int) from rfl, this]

theorem S21.extM {p1 p2 p3 p4 q1 q2 q3 q4 : Pos} {Q : Flow → Shared → Prop} (C : C21 P s L outer ax ay vx vy xs ys aM aU) (x : S21 P s L outer aM aU M U m s') (n : N21 ax ay aM aU m i j) (hi : i ≤ xs.length) (hz : M.length + xs.length ≤ 1000 + i)
    (q : ∀ s'', S21 P s L outer aM aU (M ++ xs.drop i) U m s'' → Q .next s'')
    (hsw : swapsWith (.Call (.Attribute (.Name (S "missing") p1) "extend" p2) [.Subscript (.Name (S "expected") q1) (.Slice (some (.Name (S "i") q2)) none none q3) q4] [] p3) none p4.line (env21 P L) = pure false := by rfl)
    (hline : (p2.endLine == p3.line) = true := by rfl) :
    wpAny (model prog w) A (exec (.Expr (.Call (.Attribute (.Name (S "missing") p1) "extend" p2) [.Subscript (.Name (S "expected") q1) (.Slice (some (.Name (S "i") q2)) none none q3) q4] [] p3) p4) (env21 P L)) Q E s' := by
  obtain ⟨s₀, cm, r, F⟩ := x.F
  obtain ⟨vM, lM, iM⟩ := x.lM
  obtain ⟨vU, lU, iU⟩ := x.lU
  obtain ⟨t, ht⟩ := n.i
  have hx := C.zx
  have hlx := C.ix.length
  have ev : Ev prog w A s'.heap (env21 P L) (.Subscript (.Name (S "expected") q1) (.Slice (some (.Name (S "i") q2)) none none q3) q4) (RList ((xs.drop i).map RInt)) := by
    refine Ev.slice (rs := xs.map RInt) (li := some (Int.ofNat i)) (ui := none) (Ev.name (x.ld n.x (k21_x P L)) ⟨ax, vx, rfl, x.px C, ints_all2 C.ix⟩ (by rfl)) (.int (Ev.nint (x.ld ht (k21_i P L)))) .none (by have : sizeLine = 16777216 := rfl; simp; (first | assumption | decide | lia | omega)) ?_
    intro h vs hall
    have h2 := hall.len
    rw [slicePick_fromN _ _ (by simp at h2 ⊢; (first | assumption | decide | lia | omega)), List.map_drop]
    exact hall.drop i
  refine F.extend (n := S "missing") (x.ld n.M (k21_M P L)) lM ev (fun _ f => f) (r.non.mpr C.nM) (by have := iM.length; have h1 := x.zM; (first | assumption | decide | lia | omega)) (by simp; (first | assumption | decide | lia | omega)) ?_ (hi := by rfl) (hsw := hsw) (hd := by rfl) (hbase := by rfl) (hfew := by rfl) (hline := hline) (he := by rfl)
  rintro us s'' F' l' ⟨h₁, k₁, hall, sb⟩
  exact q s'' ⟨⟨s₀, cm, r, F'⟩, ⟨_, l', iM.append hall.ints⟩, ⟨vU, lU.imp fun _ e => sb.extBut _ _ (Ne.symm C.ne) (k₁ _ _ e), iU⟩, by simp; (first | assumption | decide | lia | omega), x.zU⟩
theorem S21.extU {p1 p2 p3 p4 q1 q2 q3 q4 : Pos} {Q : Flow → Shared → Prop} (C : C21 P s L outer ax ay vx vy xs ys aM aU) (x : S21 P s L outer aM aU M U m s') (n : N21 ax ay aM aU m i j) (hi : j ≤ ys.length) (hz : U.length + ys.length ≤ 1000 + j)
    (q : ∀ s'', S21 P s L outer aM aU M (U ++ ys.drop j) m s'' → Q .next s'')
    (hsw : swapsWith (.Call (.Attribute (.Name (S "unexpected") p1) "extend" p2) [.Subscript (.Name (S "actual") q1) (.Slice (some (.Name (S "j") q2)) none none q3) q4] [] p3) none p4.line (env21 P L) = pure false := by rfl)
    (hline : (p2.endLine == p3.line) = true := by rfl) :
    wpAny (model prog w) A (exec (.Expr (.Call (.Attribute (.Name (S "unexpected") p1) "extend" p2) [.Subscript (.Name (S "actual") q1) (.Slice (some (.Name (S "j") q2)) none none q3) q4] [] p3) p4) (env21 P L)) Q E s' := by
  obtain ⟨s₀, cm, r, F⟩ := x.F
  obtain ⟨vM, lM, iM⟩ := x.lM
  obtain ⟨vU, lU, iU⟩ := x.lU
  obtain ⟨t, ht⟩ := n.j
  have hx := C.zy
  have hlx := C.iy.length
  have ev : Ev prog w A s'.heap (env21 P L) (.Subscript (.Name (S "actual") q1) (.Slice (some (.Name (S "j") q2)) none none q3) q4) (RList ((ys.drop j).map RInt)) := by
    refine Ev.slice (rs := ys.map RInt) (li := some (Int.ofNat j)) (ui := none) (Ev.name (x.ld n.y (k21_y P L)) ⟨ay, vy, rfl, x.py C, ints_all2 C.iy⟩ (by rfl)) (.int (Ev.nint (x.ld ht (k21_j P L)))) .none (by have : sizeLine = 16777216 := rfl; simp; (first | assumption | decide | lia | omega)) ?_
    intro h vs hall
    have h2 := hall.len
    rw [slicePick_fromN _ _ (by simp at h2 ⊢; (first | assumption | decide | lia | omega)), List.map_drop]
    exact hall.drop j
  refine F.extend (n := S "unexpected") (x.ld n.U (k21_U P L)) lU ev (fun _ f => f) (r.non.mpr C.nU) (by have := iU.length; have h1 := x.zU; (first | assumption | decide | lia | omega)) (by simp; (first | assumption | decide | lia | omega)) ?_ (hi := by rfl) (hsw := hsw) (hd := by rfl) (hbase := by rfl) (hfew := by rfl) (hline := hline) (he := by rfl)
  rintro us s'' F' l' ⟨h₁, k₁, hall, sb⟩
  exact q s'' ⟨⟨s₀, cm, r, F'⟩, ⟨vM, lM.imp fun _ e => sb.extBut _ _ C.ne (k₁ _ _ e), iM⟩, ⟨_, l', iU.append hall.ints⟩, x.zM, by simp; (first | assumption | decide | lia | omega)⟩
end
end Mine

-- Math3
namespace Mine
/- how far two rows have been gone through -/
structure Inv (xs ys : List Int) (i j : Nat) (M U : List Int) : Prop where
  hi : i ≤ xs.length
  hj : j ≤ ys.length
  hM : M = (xs.take i).filter (fun x => !ys.contains x)
  hU : U = (ys.take j).filter (fun y => !xs.contains y)
  lx : ∀ a ∈ xs.take i, ∀ b ∈ ys.drop j, a < b
  ly : ∀ b ∈ ys.take j, ∀ a ∈ xs.drop i, b < a
theorem Inv.start {xs ys : List Int} : Inv xs ys 0 0 [] [] := ⟨Nat.zero_le _, Nat.zero_le _, by simp, by simp, by simp, by simp⟩
theorem Inv.swap {xs ys : List Int} {i j M U} (h : Inv xs ys i j M U) : Inv ys xs j i U M := ⟨h.hj, h.hi, h.hU, h.hM, h.ly, h.lx⟩
theorem drop_at {xs : List Int} {i : Nat} {x : Int} (h : xs[i]? = some x) : xs.drop i = x :: xs.drop (i + 1) := by
  obtain ⟨hlt, rfl⟩ := List.getElem?_eq_some_iff.mp h
  rw [List.drop_eq_getElem_cons hlt]
theorem take_at {xs : List Int} {i : Nat} {x : Int} (h : xs[i]? = some x) : xs.take (i + 1) = xs.take i ++ [x] := by
  rw [List.take_succ, h]; rfl
theorem after_lt {xs : List Int} (hs : xs.Pairwise (· < ·)) {i : Nat} {x : Int} (h : xs[i]? = some x) : ∀ a ∈ xs.drop (i + 1), x < a := by
  have := hs.drop (i := i)
  rw [drop_at h] at this
  exact (List.pairwise_cons.mp this).1
theorem mem_split {ys : List Int} {x : Int} (j : Nat) (h : x ∈ ys) : x ∈ ys.take j ∨ x ∈ ys.drop j := by
  rw [← List.take_append_drop j ys] at h
  exact List.mem_append.mp h
theorem Inv.lt {xs ys : List Int} {i j M U} {x y : Int} (h : Inv xs ys i j M U) (hx : xs[i]? = some x) (hy : ys[j]? = some y) (hsy : ys.Pairwise (· < ·)) (hlt : x < y) : Inv xs ys (i + 1) j (M ++ [x]) U := by
  have hlen : i < xs.length := (List.getElem?_eq_some_iff.mp hx).1
  have xb : ∀ b ∈ ys.drop j, x < b := by
    intro b hb
    rw [drop_at hy] at hb
    rcases List.mem_cons.mp hb with rfl | hb
    · exact hlt
    · have := after_lt hsy hy b hb; (first | assumption | decide | lia | omega)
  have hnin : x ∉ ys := fun hm => by
    rcases mem_split j hm with h1 | h1
    · have := h.ly x h1 x (by rw [drop_at hx]; exact List.mem_cons_self)
      (first | assumption | decide | lia | omega)
    · have := xb x h1; (first | assumption | decide | lia | omega)
  refine ⟨hlen, h.hj, ?_, h.hU, ?_, ?_⟩
  · rw [take_at hx, List.filter_append, ← h.hM]
    simp [hnin]
  · intro a ha b hb
    rw [take_at hx] at ha
    rcases List.mem_append.mp ha with ha | ha
    · exact h.lx a ha b hb
    · simp at ha; subst ha; exact xb b hb
  · intro b hb a ha
    exact h.ly b hb a (by rw [drop_at hx]; exact List.mem_cons_of_mem _ ha)
theorem Inv.gt {xs ys : List Int} {i j M U} {x y : Int} (h : Inv xs ys i j M U) (hx : xs[i]? = some x) (hy : ys[j]? = some y) (hsx : xs.Pairwise (· < ·)) (hlt : y < x) : Inv xs ys i (j + 1) M (U ++ [y]) :=
  (h.swap.lt hy hx hsx hlt).swap
theorem Inv.eq {xs ys : List Int} {i j M U} {x : Int} (h : Inv xs ys i j M U) (hx : xs[i]? = some x) (hy : ys[j]? = some x) (hsx : xs.Pairwise (· < ·)) (hsy : ys.Pairwise (· < ·)) : Inv xs ys (i + 1) (j + 1) M U := by
  have hlen : i < xs.length := (List.getElem?_eq_some_iff.mp hx).1
  have hlen' : j < ys.length := (List.getElem?_eq_some_iff.mp hy).1
  have hinx : x ∈ xs := List.mem_of_getElem? hx
  have hiny : x ∈ ys := List.mem_of_getElem? hy
  refine ⟨hlen, hlen', ?_, ?_, ?_, ?_⟩
  · rw [take_at hx, List.filter_append, ← h.hM]
    simp [hiny]
  · rw [take_at hy, List.filter_append, ← h.hU]
    simp [hinx]
  · intro a ha b hb
    rw [take_at hx] at ha
    rcases List.mem_append.mp ha with ha | ha
    · exact h.lx a ha b (by rw [drop_at hy]; exact List.mem_cons_of_mem _ hb)
    · simp at ha; subst ha; exact after_lt hsy hy b hb
  · intro b hb a ha
    rw [take_at hy] at hb
    rcases List.mem_append.mp hb with hb | hb
    · exact h.ly b hb a (by rw [drop_at hx]; exact List.mem_cons_of_mem _ ha)
    · simp at hb; subst hb; exact after_lt hsx hx a ha
theorem filter_id {xs : List Int} {p : Int → Bool} (h : ∀ x ∈ xs, p x = true) : xs.filter p = xs := List.filter_eq_self.mpr h
theorem Inv.fin1 {xs ys : List Int} {i j M U} (h : Inv xs ys i j M U) (he : i = xs.length ∨ j = ys.length) : M ++ xs.drop i = xs.filter (fun x => !ys.contains x) := by
  rcases he with rfl | rfl
  · rw [List.drop_length, List.append_nil, h.hM, List.take_length]
  · have : (xs.drop i).filter (fun x => !ys.contains x) = xs.drop i := filter_id fun x hx => by
      simp only [Bool.not_eq_true', List.contains_eq_mem, decide_eq_false_iff_not]
      intro hm
      have := h.ly x (by rw [List.take_length]; exact hm) x hx
      (first | assumption | decide | lia | omega)
    rw [h.hM]
    conv => lhs; arg 2; rw [← this]
    rw [← List.filter_append, List.take_append_drop]
theorem Inv.fin2 {xs ys : List Int} {i j M U} (h : Inv xs ys i j M U) (he : i = xs.length ∨ j = ys.length) : U ++ ys.drop j = ys.filter (fun y => !xs.contains y) := h.swap.fin1 he.symm
theorem Inv.zM {xs ys : List Int} {i j M U} (h : Inv xs ys i j M U) : M.length ≤ i := by
  rw [h.hM]
  refine Nat.le_trans (List.length_filter_le _ _) ?_
  rw [List.length_take]; exact Nat.min_le_left _ _
theorem Inv.zU {xs ys : List Int} {i j M U} (h : Inv xs ys i j M U) : U.length ≤ j := h.swap.zM
end Mine

-- Law12
namespace Mine
noncomputable def tr21 (P : Params) : Stmt := Stmt.While.elim (motive_2 := fun _ => Stmt) ((bodyOf (fdOf (objAt P 21))).getD 3 (.Pass ⟨0, 0, 0, 0⟩)) rfl fun _ b _ _ => b.getD 0 (.Pass ⟨0, 0, 0, 0⟩)
noncomputable def tb21 (P : Params) : List Stmt := Stmt.Try.elim (motive_2 := fun _ => List Stmt) (tr21 P) rfl fun b _ _ _ _ => b

section
variable {prog : Program} {w : World} {A : Around} {P : Params} {s s' : Shared} {L : Addr} {outer : List Env} {ax ay : Addr} {vx vy : List Value} {xs ys : List Int} {aM aU : Addr} {M U : List Int} {m : Str → Option Value} {i j : Nat} {E : Value → Shared → Prop}

noncomputable def EX (P : Params) (s : Shared) (L : Addr) (outer : List Env) (ax ay aM aU : Addr) (xs ys : List Int) (e : Value) (s' : Shared) : Prop :=
  ∃ ea hA c tr m i j M U, e = .ref ea ∧ D21 s L aM aU hA ∧ ExAt hA ea "IndexError" c tr s'.heap ∧ ((tr = none ∧ ∀ b, (∃ o, hA.get? b = some o) → ∃ o, s'.heap.get? b = some o) ∨ tr = some (rawInt L)) ∧
    S21 P s L outer aM aU M U m s' ∧ N21 ax ay aM aU m i j ∧ Inv xs ys i j M U ∧ (i = xs.length ∨ j = ys.length)
noncomputable def GO (P : Params) (s : Shared) (L : Addr) (outer : List Env) (ax ay aM aU : Addr) (xs ys : List Int) (k : Nat) (f : Flow) (s' : Shared) : Prop :=
  f = .next ∧ ∃ m i j M U, S21 P s L outer aM aU M U m s' ∧ N21 ax ay aM aU m i j ∧ Inv xs ys i j M U ∧ k < i + j

theorem S21.raise (C : C21 P s L outer ax ay vx vy xs ys aM aU) {h' : Heap} {t : Nat} {e : Addr} {c : Value} (x : S21 P s L outer aM aU M U m s') (n : N21 ax ay aM aU m i j) (v : Inv xs ys i j M U) (he : i = xs.length ∨ j = ys.length) (ex : ExAt s'.heap e "IndexError" c none h') (k : Kp s'.heap h') :
    EX P s L outer ax ay aM aU xs ys (.ref e) { s' with heap := h', toks := t } :=
  ⟨e, s'.heap, c, none, m, i, j, M, U, rfl, x.dm, ex, .inl ⟨rfl, fun b ⟨o, ho⟩ => ⟨o, k b o ho⟩⟩, x.gw ⟨h', t, rfl, k⟩, n, v, he⟩
theorem S21.raiseL (C : C21 P s L outer ax ay vx vy xs ys aM aU) {h' : Heap} {t : Nat} {e : Addr} {c : Value} (x : S21 P s L outer aM aU M U m s') (n : N21 ax ay aM aU m i j) (v : Inv xs ys i j M U) (he : i = xs.length ∨ j = ys.length) (ex : ExAt s'.heap e "IndexError" c (some (rawInt L)) h') (z : Mv (frs (env21 P L :: outer)) s'.heap s'.heap h') :
    EX P s L outer ax ay aM aU xs ys (.ref e) { s' with heap := h', toks := t } :=
  ⟨e, s'.heap, c, some (rawInt L), m, i, j, M, U, rfl, x.dm, ex, .inr rfl, x.mz C x.dm z, n, v, he⟩
/- through an activation of the frame's own -/
theorem EX.own {A' A'' : Around} (C : C21 P s L outer ax ay vx vy xs ys aM aU) {e : Value} (x : EX P s L outer ax ay aM aU xs ys e s') (hL : ∃ ea hA c, e = .ref ea ∧ ExAt hA ea "IndexError" c (some (rawInt L)) s'.heap ∧ D21 s L aM aU hA) :
    notedBy (model prog w) A' (env21 P L) (cameBackBy (model prog w) A'' (env21 P L) (EX P s L outer ax ay aM aU xs ys)) e s' := by
  obtain ⟨ea, hA, c, rfl, ex, d⟩ := hL
  refine ex_again (fr21 P L) ex ?_
  refine ex_back (as := frs (env21 P L :: outer)) (fr21 P L) ex fun h₂ ex₂ m₂ => ?_
  obtain ⟨ea', hA', c', tr', m, i, j, M, U, h0, d', ex', htr, S, N, I, he⟩ := x
  exact ⟨ea, hA, c, some (rawInt L), m, i, j, M, U, rfl, d, ex₂, .inr rfl, S.mz (t := s'.toks) C d m₂, N, I, he⟩

theorem szx (C : C21 P s L outer ax ay vx vy xs ys aM aU) : vx.toArray.size = xs.length := by rw [List.size_toArray]; exact C.ix.length
theorem szy (C : C21 P s L outer ax ay vx vy xs ys aM aU) : vy.toArray.size = ys.length := by rw [List.size_toArray]; exact C.iy.length

/- while expected[i] == e: .. where e is no longer there -/
theorem S21.wx {A : Around} {p1 p2 p3 p4 p5 p6 : Pos} {body : List Stmt} {k : Int} {te : Tok} {c : Value} {Q : Flow → Shared → Prop} (C : C21 P s L outer ax ay vx vy xs ys aM aU) (hfr : A.frames = some (env21 P L :: outer)) (O : ∀ s'' : Shared, Kp s'.heap s''.heap → Out prog w A s''.heap c)
    (x : S21 P s L outer aM aU M U m s') (n : N21 ax ay aM aU m (i + 1) j) (hk : xs[i]? = some k) (hm : m (S "e") = some (.int k te)) (hsx : xs.Pairwise (· < ·))
    (q1 : i + 1 < xs.length → ∀ s'', Gw s' s'' → S21 P s L outer aM aU M U m s'' → Q .next s'')
    (q2 : i + 1 = xs.length → ∀ h' tk e, ExAt s'.heap e "IndexError" c (some (rawInt L)) h' → Mv (frs (env21 P L :: outer)) s'.heap s'.heap h' → E (.ref e) { s' with heap := h', toks := tk }) :
    wpAny (model prog w) A (exec (.While (.Compare (.Subscript (.Name (S "expected") p1) (.Name (S "i") p2) p3) [.Eq] [.Name (S "e") p4] p5) body [] p6) (env21 P L)) Q E s' := by
  have hlt : i < xs.length := (List.getElem?_eq_some_iff.mp hk).1
  have hz := C.zx
  by_cases hi : i + 1 < xs.length
  · obtain ⟨k', hk'⟩ : ∃ k', xs[i + 1]? = some k' := ⟨_, List.getElem?_eq_getElem hi⟩
    have hne : k' ≠ k := by
      have := after_lt hsx hk k' (by rw [drop_at hk']; exact List.mem_cons_self)
      (first | assumption | decide | lia | omega)
    exact while_stop (x.itx C n hk') (Ev.nint (x.ld hm (k21_e P L))) hne fun s'' g => q1 hi s'' g (x.gw g)
  · obtain ⟨t, ht⟩ := n.i
    exact while_out (O s' Kp.rfl) hfr (fr21 P L) (x.fr C) (x.ld n.x (k21_x P L)) (x.ld ht (k21_i P L)) (plain_isList (x.px C)) (by rw [szx C]; (first | assumption | decide | lia | omega)) (by (first | assumption | decide | lia | omega)) (q2 (by (first | assumption | decide | lia | omega)))
theorem S21.wy {A : Around} {p1 p2 p3 p4 p5 p6 : Pos} {body : List Stmt} {k : Int} {te : Tok} {c : Value} {Q : Flow → Shared → Prop} (C : C21 P s L outer ax ay vx vy xs ys aM aU) (hfr : A.frames = some (env21 P L :: outer)) (O : ∀ s'' : Shared, Kp s'.heap s''.heap → Out prog w A s''.heap c)
    (x : S21 P s L outer aM aU M U m s') (n : N21 ax ay aM aU m i (j + 1)) (hk : ys[j]? = some k) (hm : m (S "a") = some (.int k te)) (hsy : ys.Pairwise (· < ·))
    (q1 : j + 1 < ys.length → ∀ s'', Gw s' s'' → S21 P s L outer aM aU M U m s'' → Q .next s'')
    (q2 : j + 1 = ys.length → ∀ h' tk e, ExAt s'.heap e "IndexError" c (some (rawInt L)) h' → Mv (frs (env21 P L :: outer)) s'.heap s'.heap h' → E (.ref e) { s' with heap := h', toks := tk }) :
    wpAny (model prog w) A (exec (.While (.Compare (.Subscript (.Name (S "actual") p1) (.Name (S "j") p2) p3) [.Eq] [.Name (S "a") p4] p5) body [] p6) (env21 P L)) Q E s' := by
  have hlt : j < ys.length := (List.getElem?_eq_some_iff.mp hk).1
  have hz := C.zy
  by_cases hi : j + 1 < ys.length
  · obtain ⟨k', hk'⟩ : ∃ k', ys[j + 1]? = some k' := ⟨_, List.getElem?_eq_getElem hi⟩
    have hne : k' ≠ k := by
      have := after_lt hsy hk k' (by rw [drop_at hk']; exact List.mem_cons_self)
      (first | assumption | decide | lia | omega)
    exact while_stop (x.ity C n hk') (Ev.nint (x.ld hm (k21_a P L))) hne fun s'' g => q1 hi s'' g (x.gw g)
  · obtain ⟨t, ht⟩ := n.j
    exact while_out (O s' Kp.rfl) hfr (fr21 P L) (x.fr C) (x.ld n.y (k21_y P L)) (x.ld ht (k21_j P L)) (plain_isList (x.py C)) (by rw [szy C]; (first | assumption | decide | lia | omega)) (by (first | assumption | decide | lia | omega)) (q2 (by (first | assumption | decide | lia | omega)))

theorem body21 (C : C21 P s L outer ax ay vx vy xs ys aM aU) (hfr : A.frames = some (env21 P L :: outer)) (hh : A.handled = none) (hsx : xs.Pairwise (· < ·)) (hsy : ys.Pairwise (· < ·))
    (x : S21 P s L outer aM aU M U m s') (n : N21 ax ay aM aU m i j) (v : Inv xs ys i j M U) :
    wpAny (model prog w) A (execs (tb21 P) (env21 P L)) (GO P s L outer ax ay aM aU xs ys (i + j)) (EX P s L outer ax ay aM aU xs ys) s' := by
  have O : ∀ s'' : Shared, Out prog w A s''.heap .none := fun s'' => Out.plain hh
  have hzx := C.zx
  have hzy := C.zy
  by_cases hi : i < xs.length
  case neg =>
    have he : i = xs.length := by have := v.hi; (first | assumption | decide | lia | omega)
    obtain ⟨t, ht⟩ := n.i
    first | with_reducible refine wpAny_execs_cons ?_ | refine wpAny_execs_cons ?_
    refine wpAny_Assign_Name (sub_out (O s') (x.ld n.x (k21_x P L)) (x.ld ht (k21_i P L)) (plain_isList (x.px C)) (by rw [szx C]; (first | assumption | decide | lia | omega)) (by (first | assumption | decide | lia | omega)) fun h' tk e ex k => x.raise C n v (.inl he) ex k) (by rfl)
  obtain ⟨k, hk⟩ : ∃ k, xs[i]? = some k := ⟨_, List.getElem?_eq_getElem hi⟩
  first | with_reducible refine wpAny_execs_cons ?_ | refine wpAny_execs_cons ?_
  refine x.asg (n := S "e") (k21_e P L) (x.itx C n hk) (fun te s1 x1 => ?_) (by rfl)
  have n1 := n.e (v := .int k te)
  by_cases hj : j < ys.length
  case neg =>
    have he : j = ys.length := by have := v.hj; (first | assumption | decide | lia | omega)
    obtain ⟨t, ht⟩ := n1.j
    first | with_reducible refine wpAny_execs_cons ?_ | refine wpAny_execs_cons ?_
    refine wpAny_Assign_Name (sub_out (O s1) (x1.ld n1.y (k21_y P L)) (x1.ld ht (k21_j P L)) (plain_isList (x1.py C)) (by rw [szy C]; (first | assumption | decide | lia | omega)) (by (first | assumption | decide | lia | omega)) fun h' tk e ex k => x1.raise C n1 v (.inr he) ex k) (by rfl)
  obtain ⟨l, hl⟩ : ∃ l, ys[j]? = some l := ⟨_, List.getElem?_eq_getElem hj⟩
  first | with_reducible refine wpAny_execs_cons ?_ | refine wpAny_execs_cons ?_
  refine x1.asg (n := S "a") (k21_a P L) (x1.ity C n1 hl) (fun ta s2 x2 => ?_) (by rfl)
  have n2 := n1.a (v := .int l ta)
  have me2 : up (up m (S "e") (.int k te)) (S "a") (.int l ta) (S "e") = some (.int k te) := by rw [up_ne (by decide)]; exact up_self
  have ma2 : up (up m (S "e") (.int k te)) (S "a") (.int l ta) (S "a") = some (.int l ta) := up_self
  generalize up (up m (S "e") (.int k te)) (S "a") (.int l ta) = m2 at *
  have zM := v.zM
  have zU := v.zU
  first | with_reducible refine wpAny_execs_cons ?_ | refine wpAny_execs_cons ?_
  refine wpAny_If (Tr.go (b := decide (k < l)) (Tr.cmp (Ev.nint (x2.ld me2 (k21_e P L))) (Ev.nint (x2.ld ma2 (k21_a P L))) Cm.lt) fun s3 g3 => ?_)
  have x3 := x2.gw g3
  by_cases hlt : k < l
  · rw [show decide (k < l) = true by simpa using hlt]
    simp only [if_true]
    first | with_reducible refine wpAny_execs_cons ?_ | refine wpAny_execs_cons ?_
    refine x3.appM C n2 (Ev.nint (x3.ld me2 (k21_e P L))) (by (first | assumption | decide | lia | omega)) fun s4 x4 => ?_
    obtain ⟨t, ht⟩ := n2.i
    first | with_reducible refine wpAny_execs_cons ?_ | refine wpAny_execs_cons ?_
    refine x4.aug (n := S "i") (k21_i P L) ht fun t5 s5 x5 _ => ?_
    have n5 := n2.ip (t := t5)
    have v5 := v.lt hk hl hsy hlt
    first | with_reducible refine wpAny_execs_cons ?_ | refine wpAny_execs_cons ?_
    refine x5.wx C hfr (fun s'' _ => O s'') n5 hk (by rw [up_ne (by decide)]; exact me2) hsx (fun _ s6 _ x6 => wpAny_execs_nil (wpAny_execs_nil ?_)) fun he h' tk e ex z => ?_
    · exact ⟨rfl, _, _, _, _, _, x6, n5, v5, by (first | assumption | decide | lia | omega)⟩
    · exact x5.raiseL C n5 v5 (.inl he) ex z
  · rw [show decide (k < l) = false by simpa using hlt]
    simp only [Bool.false_eq_true, if_false]
    first | with_reducible refine wpAny_execs_cons ?_ | refine wpAny_execs_cons ?_
    refine wpAny_If (Tr.go (b := decide (l < k)) (Tr.cmp (Ev.nint (x3.ld me2 (k21_e P L))) (Ev.nint (x3.ld ma2 (k21_a P L))) Cm.gt) fun s4 g4 => ?_)
    have x4 := x3.gw g4
    by_cases hgt : l < k
    · rw [show decide (l < k) = true by simpa using hgt]
      simp only [if_true]
      first | with_reducible refine wpAny_execs_cons ?_ | refine wpAny_execs_cons ?_
      refine x4.appU C n2 (Ev.nint (x4.ld ma2 (k21_a P L))) (by (first | assumption | decide | lia | omega)) fun s5 x5 => ?_
      obtain ⟨t, ht⟩ := n2.j
      first | with_reducible refine wpAny_execs_cons ?_ | refine wpAny_execs_cons ?_
      refine x5.aug (n := S "j") (k21_j P L) ht fun t6 s6 x6 _ => ?_
      have n6 := n2.jp (t := t6)
      have v6 := v.gt hk hl hsx hgt
      first | with_reducible refine wpAny_execs_cons ?_ | refine wpAny_execs_cons ?_
      refine x6.wy C hfr (fun s'' _ => O s'') n6 hl (by rw [up_ne (by decide)]; exact ma2) hsy (fun _ s7 _ x7 => wpAny_execs_nil (wpAny_execs_nil (wpAny_execs_nil ?_))) fun he h' tk e ex z => ?_
      · exact ⟨rfl, _, _, _, _, _, x7, n6, v6, by (first | assumption | decide | lia | omega)⟩
      · exact x6.raiseL C n6 v6 (.inr he) ex z
    · rw [show decide (l < k) = false by simpa using hgt]
      simp only [Bool.false_eq_true, if_false]
      have hkl : k = l := by (first | assumption | decide | lia | omega)
      subst hkl
      obtain ⟨t, ht⟩ := n2.i
      first | with_reducible refine wpAny_execs_cons ?_ | refine wpAny_execs_cons ?_
      refine x4.aug (n := S "i") (k21_i P L) ht fun t5 s5 x5 _ => ?_
      have n5 := n2.ip (t := t5)
      have v5 := v.eq hk hl hsx hsy
      have me5 : up m2 (S "i") (.int (Int.ofNat i + 1) t5) (S "e") = some (.int k te) := by rw [up_ne (by decide)]; exact me2
      have ma5 : up m2 (S "i") (.int (Int.ofNat i + 1) t5) (S "a") = some (.int k ta) := by rw [up_ne (by decide)]; exact ma2
      generalize up m2 (S "i") (.int (Int.ofNat i + 1) t5) = m5 at *
      obtain ⟨tj, htj⟩ := n5.j
      first | with_reducible refine wpAny_execs_cons ?_ | refine wpAny_execs_cons ?_
      refine wpAny_Try_finally ?_
      first | with_reducible refine wpAny_execs_cons ?_ | refine wpAny_execs_cons ?_
      refine x5.wx C hfr (fun s'' _ => O s'') n5 hk me5 hsx (fun _ s6 _ x6 => wpAny_execs_nil (wpAny_execs_nil ?_)) fun he h' tk e ex z => ?_
      · first | with_reducible refine wpAny_execs_cons ?_ | refine wpAny_execs_cons ?_
        refine x6.aug (n := S "j") (k21_j P L) htj fun t7 s7 x7 _ => ?_
        have n7 := n5.jp (t := t7)
        first | with_reducible refine wpAny_execs_cons ?_ | refine wpAny_execs_cons ?_
        refine x7.wy C hfr (fun s'' _ => O s'') n7 hl (by rw [up_ne (by decide)]; exact ma5) hsy (fun _ s8 _ x8 => wpAny_execs_nil ?_) fun he h' tk e ex z => ?_
        · exact wpAny_execs_nil (wpAny_execs_nil (wpAny_execs_nil ⟨rfl, _, _, _, _, _, x8, n7, v5, by (first | assumption | decide | lia | omega)⟩))
        · exact EX.own C (x7.raiseL C n7 v5 (.inr he) ex z) ⟨e, _, _, rfl, ex, x7.dm⟩
      · have d5 := x5.dm
        refine ex_again (s := { s5 with heap := h', toks := tk }) (fr21 P L) ex ⟨ref_ne_byPass e, ex_again (s := { s5 with heap := h', toks := tk }) (fr21 P L) ex ?_⟩
        have y5 := x5.mz (t := tk) C d5 z
        refine ex_flight (s := { s5 with heap := h', toks := tk }) (as := frs (env21 P L :: outer)) (f := none) ex fun h₆ ex₆ z₆ => ?_
        have y6 := y5.mz (t := tk) C d5 z₆
        first | with_reducible refine wpAny_execs_cons ?_ | refine wpAny_execs_cons ?_
        refine y6.aug (n := S "j") (k21_j P L) htj fun t7 s7 x7 sy7 => ?_
        have n7 := n5.jp (t := t7)
        have ex₇ := ex₆.sy sy7
        first | with_reducible refine wpAny_execs_cons ?_ | refine wpAny_execs_cons ?_
        refine x7.wy (A := A.mark (some (.ref e))) C hfr (fun s'' k'' => Out.ctx rfl (ex₇.kp k'')) n7 hl (by rw [up_ne (by decide)]; exact ma5) hsy (fun _ s8 g8 x8 => wpAny_execs_nil ?_) fun he' h' tk e ex z => ?_
        · refine ex_pass (as := frs (env21 P L :: outer)) (fr21 P L) (ex₇.kp g8.kp) fun h₉ ex₉ z₉ => ?_
          exact ⟨e, _, _, some (rawInt L), _, _, _, _, _, rfl, d5, ex₉, .inr rfl, x8.mz (t := s8.toks) C d5 z₉, n7, v5, .inl he⟩
        · exact EX.own C (x7.raiseL C n7 v5 (.inr he') ex z) ⟨e, _, _, rfl, ex, x7.dm⟩
end
end Mine

-- Law13
namespace Mine
section
variable {prog : Program} {w : World} {A : Around} {s s' : Shared} {L : Addr} {outer : List Env} {ax ay : Addr} {vx vy : List Value} {xs ys : List Int} {aM aU : Addr} {M U : List Int} {m : Str → Option Value} {i j : Nat} {E : Value → Shared → Prop} {h : Heap} {mg mb : Str → Option Value}

theorem S21.wd (W : Wd w mg mb h) (k : Kp h s.heap) (hn : ∀ b ∈ frs outer, h.get? b = none) (x : S21 w.params s L outer aM aU M U m s') : Wd w mg mb s'.heap := by
  obtain ⟨s₀, cm, r, F⟩ := x.F
  exact W.kp ((r.kp k hn).trans F.base)

noncomputable def hb21 (P : Params) : List ExceptHandler := Stmt.Try.elim (motive_2 := fun _ => List ExceptHandler) (tr21 P) rfl fun _ b _ _ _ => b

theorem hand21 (C : C21 w.params s L outer ax ay vx vy xs ys aM aU) (W : Wd w mg mb h) (k : Kp h s.heap) (hn : ∀ b ∈ frs outer, h.get? b = none) (hfr : A.frames = some (env21 w.params L :: outer)) {e : Value} {Q : Flow → Shared → Prop}
    (x : EX w.params s L outer ax ay aM aU xs ys e s')
    (q : ∀ m s'', S21 w.params s L outer aM aU (xs.filter fun x => !ys.contains x) (ys.filter fun y => !xs.contains y) m s'' → N21 ax ay aM aU m 0 0 ∨ (m (S "missing") = some (.ref aM) ∧ m (S "unexpected") = some (.ref aU)) → Q .brk s'') :
    wpAny (model prog w) A (noteFrame e (env21 w.params L)) (fun _ s₂ => wpAny (model prog w) A (setFlight e none) (fun _ s₃ =>
      wpAny (model prog w) A (handleBy e (env21 w.params L) (hb21 w.params)) Q E s₃) E s₂) E s' := by
  obtain ⟨ea, hA, c, tr, m, i, j, M, U, rfl, d, ex, htr, S0, N, I, he⟩ := x
  refine caught (L := L) (n := S "IndexError") (T := "IndexError") hfr (fr21 _ L) (S0.fr C) ex htr ?_ F.isExc_IndexError F.notTuple_IndexError (by rw [isSubtype_type]; kernel_rfl) ?_ (hd := by rfl)
  · intro h₂ z
    have S2 := S0.mz (t := s'.toks) C d z
    exact (S2.wd W k hn).blt (by rfl) (by rfl) (by rfl) (by rfl) (by rfl) (by rfl) (by rfl)
  · intro h₂ E' ex₂ z
    have S2 := S0.mz (t := s'.toks) C d z
    have hzx := C.zx
    have hzy := C.zy
    have zM := I.zM
    have zU := I.zU
    have hi := I.hi
    have hj := I.hj
    first | with_reducible refine wpAny_execs_cons ?_ | refine wpAny_execs_cons ?_
    refine S2.extM C N hi (by (first | assumption | decide | lia | omega)) fun s3 S3 => ?_
    first | with_reducible refine wpAny_execs_cons ?_ | refine wpAny_execs_cons ?_
    refine S3.extU C N hj (by (first | assumption | decide | lia | omega)) fun s4 S4 => ?_
    first | with_reducible refine wpAny_execs_cons ?_ | refine wpAny_execs_cons ?_
    refine wpAny_Break ?_
    rw [I.fin1 he, I.fin2 he] at S4
    exact q m s4 S4 (.inr ⟨N.M, N.U⟩)

noncomputable def I21 (P : Params) (s : Shared) (L : Addr) (outer : List Env) (ax ay aM aU : Addr) (xs ys : List Int) (kk : Nat) (s' : Shared) : Prop :=
  ∃ m i j M U, S21 P s L outer aM aU M U m s' ∧ N21 ax ay aM aU m i j ∧ Inv xs ys i j M U ∧ kk = xs.length + ys.length - (i + j)
theorem I21.elim {P : Params} {s : Shared} {L : Addr} {outer : List Env} {ax ay aM aU : Addr} {xs ys : List Int} {kk : Nat} {s' : Shared} {p : Prop} (y : I21 P s L outer ax ay aM aU xs ys kk s')
    (k : ∀ m i j M U, S21 P s L outer aM aU M U m s' → N21 ax ay aM aU m i j → Inv xs ys i j M U → kk = xs.length + ys.length - (i + j) → p) : p := by
  obtain ⟨m, i, j, M, U, h1, h2, h3, h4⟩ := y; exact k m i j M U h1 h2 h3 h4
theorem sld_fn (W : Wd w mg mb h) (hn : ∀ b ∈ frs outer, h.get? b = none) (hfr : A.frames = some outer) (hh : A.handled = none) (hroom : A.depth < recursionLimit) (hsx : xs.Pairwise (· < ·)) (hsy : ys.Pairwise (· < ·)) (hzx : xs.length ≤ 1000) (hzy : ys.length ≤ 1000) :
    FnZ prog w A h outer (.ref 21) [RInts xs, RInts ys] (RTwo (xs.filter fun x => !ys.contains x) (ys.filter fun y => !xs.contains y)) := by
  refine FnZ.of [S "expected", S "actual"] (W.k _ _ (lk21 _)) (fd21 _) (bd21 _) W.lim (codeRec_of W.k (cd21 _)) rfl hroom ?_ ?_ ?_
  · intro vs hvs
    obtain ⟨v, u, rfl⟩ := len2 hvs
    rfl
  · intro L y hy
    simp at hy
    rcases hy with rfl | rfl
    · exact .inl (by rfl)
    · exact .inl (by rfl)
  · intro s s₁ vs k a fo F
    refine a.elim2 fun v0 v1 e0 a1 b => ?_
    subst e0
    replace a := a1
    clear a1
    refine ints_elim a fun ax vx e0 lx ix => ?_
    subst e0
    refine ints_elim b fun ay vy e0 ly iy => ?_
    subst e0
    generalize hL : s.heap.objs.size = L at F ⊢
    have hfr' : (A.deeper (env21 w.params L)).frames = some (env21 w.params L :: outer) := Around.frames_deeper hfr
    have hh' : (A.deeper (env21 w.params L)).handled = none := hh
    have F0 : FS (env21 w.params L) s _ _ (fun _ _ => False) s₁ := F.weak fun _ _ f => f.elim
    first | with_reducible refine wpAny_execs_cons ?_ | refine wpAny_execs_cons ?_
    refine wpAny_Assign_two (wpAny_Constant_int (wpAny_assign_Name ((F0.gw Gw.toks).stL (n := S "i") (k21_i _ L) (fk21 _ L) fun s2 F2 _ => wpAny_assign_Name (F2.stL (n := S "j") (k21_j _ L) (fk21 _ L) fun s3 F3 _ => ?_)))) (by rfl) (by rfl)
    first | with_reducible refine wpAny_execs_cons ?_ | refine wpAny_execs_cons ?_
    refine wpAny_Assign_Name (EvP.list EvL.nil (by decide) s3 _ _ Kp.rfl fun v s4 g4 y4 => ?_) (by rfl)
    refine NewL.elim0 y4 fun aM e4 nM lM => ?_
    subst e4
    refine (F3.gw g4).stL (n := S "missing") (k21_M _ L) (fk21 _ L) fun s5 F5 y5 => ?_
    first | with_reducible refine wpAny_execs_cons ?_ | refine wpAny_execs_cons ?_
    refine wpAny_Assign_Name (EvP.list EvL.nil (by decide) s5 _ _ Kp.rfl fun v s6 g6 y6 => ?_) (by rfl)
    refine NewL.elim0 y6 fun aU e6 nU lU => ?_
    subst e6
    refine (F5.gw g6).stL (n := S "unexpected") (k21_U _ L) (fk21 _ L) fun s7 F7 y7 => ?_
    have lM5 : s5.heap.PlainList aM ([] : List Value).toArray := lM.imp fun _ e => y5 _ _ e (seq_not_vary rfl)
    have lM7 : s7.heap.PlainList aM ([] : List Value).toArray := lM5.imp fun _ e => y7 _ _ (g6.kp _ _ e) (seq_not_vary rfl)
    have lU7 : s7.heap.PlainList aU ([] : List Value).toArray := lU.imp fun _ e => y7 _ _ e (seq_not_vary rfl)
    have non : ∀ {s' : Shared} {b : Addr}, Kp s.heap s'.heap → s'.heap.get? b = none → s.heap.get? b = none := fun k e => by
      cases q : s.heap.get? _ with
      | none => rfl
      | some o => rw [k _ _ q] at e; cases e
    have C : C21 w.params s L outer ax ay vx vy xs ys aM aU := ⟨fo, F.fresh.1, lx, ix, ly, iy, non F3.base nM, non F5.base nU, (fun q => by subst q; obtain ⟨_, e⟩ := lM5; rw [nU] at e; cases e), hzx, hzy⟩
    have S7 : ∃ m7, S21 w.params s L outer aM aU [] [] m7 s7 ∧ N21 ax ay aM aU m7 0 0 := by
      refine ⟨_, ⟨⟨s, _, Rb.rfl, F7⟩, ⟨[], lM7, .nil⟩, ⟨[], lU7, .nil⟩, Nat.zero_le _, Nat.zero_le _⟩, ⟨?_, ?_, ⟨s₁.toks, ?_⟩, ⟨s₁.toks, ?_⟩, ?_, up_self⟩⟩
      · rw [up_ne (by decide), up_ne (by decide), up_ne (by decide), up_ne (by decide)]; rfl
      · rw [up_ne (by decide), up_ne (by decide), up_ne (by decide), up_ne (by decide)]; rfl
      · rw [up_ne (by decide), up_ne (by decide), up_ne (by decide)]; exact up_self
      · rw [up_ne (by decide), up_ne (by decide)]; exact up_self
      · rw [up_ne (by decide)]; exact up_self
    obtain ⟨m7, S7, N7⟩ := S7
    first | with_reducible refine wpAny_execs_cons ?_ | refine wpAny_execs_cons ?_
    refine wpAny_While ?_
    refine codeAny_whileLoop (I21 w.params s L outer ax ay aM aU xs ys) ?_ _
      ⟨_, 0, 0, [], [], S7, N7, Inv.start, rfl⟩
    intro kk s8 y8
    refine y8.elim fun m i j M U S8 N8 I8 ekk => ?_
    subst ekk
    clear y8
    refine isTrue_plain (Constant_bool (wpAny_truthy_bool ?_))
    simp only [if_true]
    first | with_reducible refine wpAny_execs_cons ?_ | refine wpAny_execs_cons ?_
    refine wpAny_Try_except (wpAny_mono (body21 (w := w) C hfr' hh' hsx hsy S8 N8 I8) ?_ ?_)
    · rintro f s9 ⟨rfl, m9, i9, j9, M9, U9, S9, N9, I9, hlt⟩
      refine wpAny_execs_nil (wpAny_execs_nil ?_)
      have := I9.hi
      have := I9.hj
      exact ⟨_, by (first | assumption | decide | lia | omega), m9, i9, j9, M9, U9, S9, N9, I9, rfl⟩
    · intro e s9 x9
      refine hand21 C W k hn hfr' x9 fun m s10 S10 N10 => ?_
      have N10' : m (S "missing") = some (.ref aM) ∧ m (S "unexpected") = some (.ref aU) := N10.elim (fun n => ⟨n.M, n.U⟩) id
      obtain ⟨vM, lM, iM⟩ := S10.lM
      obtain ⟨vU, lU, iU⟩ := S10.lU
      obtain ⟨s₀, cm, r, F10⟩ := S10.F
      first | with_reducible refine wpAny_execs_cons ?_ | refine wpAny_execs_cons ?_
      refine wpAny_Return_some ?_
      refine Ev.go (Ev.tuple (rs := [RInts (xs.filter fun x => !ys.contains x), RInts (ys.filter fun y => !xs.contains y)]) (EvL.cons (Ev.name (S10.ld N10'.1 (k21_M _ L)) ⟨aM, vM, rfl, lM, ints_all2 iM⟩ (by rfl)) (EvL.cons (Ev.name (S10.ld N10'.2 (k21_U _ L)) ⟨aU, vU, rfl, lU, ints_all2 iU⟩ (by rfl)) EvL.nil)) (show 2 ≤ sizeLine by decide)) fun v s11 g11 hv => ?_
      exact ⟨v, rfl, r.out (F10.out.trans g11), hv⟩
end
end Mine

-- Ev28
namespace Mine

theorem first_at {k : Int} : ∀ {ys : List Int}, k ∈ ys → ∃ j, ys[j]? = some k ∧ (∀ m, m < j → ∀ y, ys[m]? = some y → y ≠ k) ∧ ys.erase k = ys.eraseIdx j
  | y :: r, h => by
    by_cases hy : y = k
    · subst hy; exact ⟨0, by simp, by intro m hm; (first | assumption | decide | lia | omega), by simp⟩
    · have hr : k ∈ r := by rcases List.mem_cons.mp h with rfl | h; exact absurd rfl hy; exact h
      obtain ⟨j, h1, h2, h3⟩ := first_at hr
      refine ⟨j + 1, by simpa using h1, ?_, ?_⟩
      · intro m hm z hz
        cases m with
        | zero => simp at hz; subst hz; exact hy
        | succ m => exact h2 m (by (first | assumption | decide | lia | omega)) z (by simpa using hz)
      · rw [List.erase_cons_tail (by simpa using hy), h3]; rfl
theorem ints_eraseIdx {vs : List Value} {ys : List Int} (h : IntsAre vs ys) : ∀ j, IntsAre (vs.eraseIdx j) (ys.eraseIdx j) := by
  induction h with
  | nil => intro j; simp; exact .nil
  | cons n t h ih => intro j; cases j with | zero => simpa using h | succ j => simpa using IntsAre.cons n t (ih j)
theorem erase_toArray (vs : List Value) (j : Nat) : vs.toArray.eraseIdxIfInBounds j = (vs.eraseIdx j).toArray := by
  unfold Array.eraseIdxIfInBounds
  split
  · simp
  · rename_i h
    rw [List.eraseIdx_of_length_le (by simpa using h)]

section
variable {prog : Program} {w : World} {A : Around} {env : Env} {s₀ s : Shared} {m cm : Str → Option Value} {K : Addr → Obj → Prop} {E : Value → Shared → Prop} {n ni : Str} {a : Addr} {np ap cp pos ip : Pos}

/- name.pop(), the list one of the frame's own -/
theorem FS.pop {Q : Value → Shared → Prop} {vs : List Value} {v : Value} (F : FS env s₀ m cm K s) (hn : Nm prog w A s.heap env n (.ref a)) (hl : s.heap.PlainList a (vs ++ [v]).toArray)
    (hra : ∀ o, ¬ K a o) (hba : s₀.heap.get? a = none) (hsz : vs.length < sizeLine)
    (q : ∀ s', FS env s₀ m cm K s' → s'.heap.PlainList a vs.toArray → Heap.SameBut a s.heap s'.heap → Q v s')
    (hd : (n == ("__debug__" : Str)) = false := by rfl)
    (hbase : attributeBase (.Name n np) "pop" env (eval (.Name n np) env) = eval (.Name n np) env := by rfl)
    (hline : (ap.endLine == cp.line) = true := by rfl) :
    wpAny (model prog w) A (eval (.Call (.Attribute (.Name n np) "pop" ap) [] [] cp) env) Q E s := by
  refine wpAny_Call_method hbase (by rfl) hline PySem.F.plainAttrs_list PySem.F.slot_list_pop PySem.F.type_list_pop (wpAny_Name (hn s _ E Kp.rfl ⟨(plain_isList hl).typeIs, ?_, ?_⟩) hd)
  · intro b hb; cases hb; obtain ⟨k, ho⟩ := hl; exact ⟨_, ho, rfl⟩
  · obtain ⟨k, ho⟩ := hl
    show wpAny _ A (callWith cp (.builtin "list.pop") [.ref a] [] []) Q E s
    refine PySem.P.pop_list (y := v) ho (by simp) ?_ (by simp; (first | assumption | decide | lia | omega))
    have sb : Heap.SameBut a s.heap (s.heap.update a (Obj.mapSeq fun xs => xs.eraseIdxIfInBounds ((vs ++ [v]).toArray.size - 1))) := Heap.SameBut.update ..
    refine q _ (F.own (t := s.toks) ho rfl hra hba sb) ?_ sb
    have := PySem.IsL.update ho fun xs => xs.eraseIdxIfInBounds ((vs ++ [v]).toArray.size - 1)
    rw [show (vs ++ [v]).toArray.eraseIdxIfInBounds ((vs ++ [v]).toArray.size - 1) = vs.toArray by
      rw [erase_toArray]; congr 1; rw [List.size_toArray, List.length_append, List.length_singleton, Nat.add_sub_cancel, List.eraseIdx_append_of_length_le (Nat.le_refl _)]; simp] at this
    exact ⟨_, this⟩

theorem isInt_at {k : Int} {vs : List Value} {ys : List Int} (h : IntsAre vs ys) {j : Nat} (hj : j < vs.toArray.size) : isInt k vs.toArray[j] = (ys[j]'(by have := h.length; simp at hj; (first | assumption | decide | lia | omega)) == k) := by
  have hl := h.length
  have hj' : j < ys.length := by simp at hj; (first | assumption | decide | lia | omega)
  obtain ⟨t, ht⟩ := h.get j ys[j] (by simp [hj'])
  have : vs.toArray[j] = .int ys[j] t := by
    have := List.getElem?_eq_some_iff.mp ht
    obtain ⟨_, e⟩ := this
    simpa using e
  rw [this]; rfl

/- name.remove(item): there -/
theorem FS.removeIn {Q : Flow → Shared → Prop} {vs : List Value} {ys : List Int} {k : Int} {t : Tok} (F : FS env s₀ m cm K s) (hn : Nm prog w A s.heap env n (.ref a)) (hi : Nm prog w A s.heap env ni (.int k t)) (hl : s.heap.PlainList a vs.toArray) (hv : IntsAre vs ys) (hk : k ∈ ys)
    (hra : ∀ o, ¬ K a o) (hba : s₀.heap.get? a = none) (hsz : vs.length ≤ sizeLine)
    (q : ∀ us s', FS env s₀ m cm K s' → s'.heap.PlainList a us.toArray → IntsAre us (ys.erase k) → Heap.SameBut a s.heap s'.heap → Q .next s')
    (hin : interactive env = false := by rfl) (hsw : swapsWith (.Call (.Attribute (.Name n np) "remove" ap) [.Name ni ip] [] cp) none pos.line env = pure false := by rfl)
    (hd : (n == ("__debug__" : Str)) = false := by rfl) (hd' : (ni == ("__debug__" : Str)) = false := by rfl)
    (hbase : attributeBase (.Name n np) "remove" env (eval (.Name n np) env) = eval (.Name n np) env := by rfl)
    (hline : (ap.endLine == cp.line) = true := by rfl) :
    wpAny (model prog w) A (exec (.Expr (.Call (.Attribute (.Name n np) "remove" ap) [.Name ni ip] [] cp) pos) env) Q E s := by
  refine wpAny_Expr ?_ hin hsw
  refine wpAny_Call_method hbase (by rfl) hline PySem.F.plainAttrs_list PySem.F.slot_list_remove PySem.F.type_list_remove (wpAny_Name (hn s _ E Kp.rfl ⟨(plain_isList hl).typeIs, ?_, ?_⟩) hd)
  · intro b hb; cases hb; obtain ⟨k, ho⟩ := hl; exact ⟨_, ho, rfl⟩
  · obtain ⟨c, ho⟩ := hl
    show wpAny _ A (callWith cp (.builtin "list.remove") [.ref a] [(false, eval (.Name ni ip) env)] []) _ E s
    obtain ⟨j, h1, h2, h3⟩ := first_at hk
    have hjl : j < ys.length := (List.getElem?_eq_some_iff.mp h1).1
    have hlen := hv.length
    have hj : j < vs.toArray.size := by simp; (first | assumption | decide | lia | omega)
    refine PySem.P.remove_list (wpAny_Name (hi s _ E Kp.rfl ⟨vs.toArray, c, isInt k, j, hj, by simpa using hsz, ho, fun y hy => eq_isInt k t hv y (by simpa using hy), ?_, fun b hb hbj => ?_, ?_⟩) hd')
    · rw [isInt_at hv]
      have := (List.getElem?_eq_some_iff.mp h1).2
      simp [this]
    · rw [isInt_at hv]
      have hbl : b < ys.length := by (first | assumption | decide | lia | omega)
      have := h2 b hbj ys[b] (by simp [hbl])
      simpa using this
    · have sb : Heap.SameBut a s.heap (s.heap.update a (Obj.mapSeq fun xs => xs.eraseIdxIfInBounds j)) := Heap.SameBut.update ..
      have := PySem.IsL.update ho fun xs => xs.eraseIdxIfInBounds j
      simp only [erase_toArray] at this
      exact q (vs.eraseIdx j) _ (F.own (t := s.toks) ho rfl hra hba sb) ⟨_, this⟩ (by rw [h3]; exact ints_eraseIdx hv j) sb
/- name.remove(item): not there -/
theorem removeOut {Q : Flow → Shared → Prop} {vs : List Value} {ys : List Int} {k : Int} {t : Tok} (hh : A.handled = none) (hn : Nm prog w A s.heap env n (.ref a)) (hi : Nm prog w A s.heap env ni (.int k t)) (hl : s.heap.PlainList a vs.toArray) (hv : IntsAre vs ys) (hk : k ∉ ys)
    (q : ∀ h' tk e, ExAt s.heap e "ValueError" .none none h' → Kp s.heap h' → E (.ref e) { s with heap := h', toks := tk })
    (hin : interactive env = false := by rfl) (hsw : swapsWith (.Call (.Attribute (.Name n np) "remove" ap) [.Name ni ip] [] cp) none pos.line env = pure false := by rfl)
    (hd : (n == ("__debug__" : Str)) = false := by rfl) (hd' : (ni == ("__debug__" : Str)) = false := by rfl)
    (hbase : attributeBase (.Name n np) "remove" env (eval (.Name n np) env) = eval (.Name n np) env := by rfl)
    (hline : (ap.endLine == cp.line) = true := by rfl) :
    wpAny (model prog w) A (exec (.Expr (.Call (.Attribute (.Name n np) "remove" ap) [.Name ni ip] [] cp) pos) env) Q E s := by
  refine wpAny_Expr ?_ hin hsw
  refine wpAny_Call_method hbase (by rfl) hline PySem.F.plainAttrs_list PySem.F.slot_list_remove PySem.F.type_list_remove (wpAny_Name (hn s _ E Kp.rfl ⟨(plain_isList hl).typeIs, ?_, ?_⟩) hd)
  · intro b hb; cases hb; obtain ⟨k, ho⟩ := hl; exact ⟨_, ho, rfl⟩
  · obtain ⟨c, ho⟩ := hl
    show wpAny _ A (callWith cp (.builtin "list.remove") [.ref a] [(false, eval (.Name ni ip) env)] []) _ E s
    have hlen := hv.length
    refine seqMethod1_meets PySem.F.slot_list_remove PySem.F.entry_list_remove (wpAny_Name (hi s _ E Kp.rfl ⟨⟨_, ho, rfl⟩, PySem.F.args_list_remove_2 _ _, _, MeetsSeq.list_remove_none a vs.toArray c (.int k t) (isInt k) (fun y hy => eq_isInt k t hv y (by simpa using hy)) (fun b hb => ?_), ho, hh, fun h' tk e x => ?_⟩) hd')
    · rw [isInt_at hv]
      have hbl : b < ys.length := by simp at hb; (first | assumption | decide | lia | omega)
      have : ys[b] ≠ k := fun e => hk (e ▸ List.getElem_mem hbl)
      simpa using this
    · exact q h' tk e (.new x) x.keeps
end
end Mine

-- Law14
namespace Mine
theorem lk28 (P : Params) : (KF P).lookup 28 = some (objAt P 28) := by rfl
theorem fd28 (P : Params) : (objAt P 28).data = .func (fdOf (objAt P 28)) := by rfl
theorem bd28 (P : Params) : (fdOf (objAt P 28)).body = .stmts (bodyOf (fdOf (objAt P 28))) := by rfl
theorem cd28 (P : Params) : codeIn (KF P) (fdOf (objAt P 28)).code (fdOf (objAt P 28)).qualname = true := by rfl
noncomputable abbrev env28 (P : Params) (L : Addr) : Env := callEnvC (fdOf (objAt P 28)) L 28
theorem fr28 (P : Params) (L : Addr) : (env28 P L).frame = some L := by rfl
theorem fk28 (P : Params) (L : Addr) : (env28 P L).scope.kind = .function := by rfl
theorem cl28 (P : Params) (L : Addr) : (env28 P L).cells = [] := by rfl
theorem k28_x (P : Params) (L : Addr) : (env28 P L).kindOf (S "expected") = some .local := by rfl
theorem k28_y (P : Params) (L : Addr) : (env28 P L).kindOf (S "actual") = some .local := by rfl
theorem k28_M (P : Params) (L : Addr) : (env28 P L).kindOf (S "missing") = some .local := by rfl
theorem k28_i (P : Params) (L : Addr) : (env28 P L).kindOf (S "item") = some .local := by rfl

noncomputable def undo : List Int → List Int → List Int → List Int × List Int
  | [], ys, M => (M, ys)
  | x :: r, ys, M => if x ∈ ys then undo r (ys.erase x) M else undo r ys (M ++ [x])
theorem ints_snoc : ∀ {a : List Int} {x : Int} {vs : List Value}, IntsAre vs (a ++ [x]) → ∃ us t, vs = us ++ [.int x t] ∧ IntsAre us a
  | [], x, vs, h => by cases h with | cons _ t h => cases h; exact ⟨[], t, rfl, .nil⟩
  | b :: a, x, vs, h => by
    cases h with
    | cons _ t h =>
      obtain ⟨us, t', rfl, h'⟩ := ints_snoc h
      exact ⟨_ :: us, t', rfl, .cons _ _ h'⟩

/- what is held while the def runs: the two lists given are its own -/
structure S28 (P : Params) (s : Shared) (L : Addr) (outer : List Env) (ax ay aM : Addr) (X Y M : List Int) (m : Str → Option Value) (s' : Shared) : Prop where
  F : ∃ s₀ cm, Rb (frs outer) { s with heap := hideAll s.heap [ax, ay] } s₀ ∧ FS (env28 P L) s₀ m cm (fun _ _ => False) s'
  lX : ∃ vs : List Value, s'.heap.PlainList ax vs.toArray ∧ IntsAre vs X
  lY : ∃ vs : List Value, s'.heap.PlainList ay vs.toArray ∧ IntsAre vs Y
  lM : ∃ vs : List Value, s'.heap.PlainList aM vs.toArray ∧ IntsAre vs M
  z : X.length ≤ 1000 ∧ Y.length ≤ 1000 ∧ M.length ≤ 1000
  n : m (S "expected") = some (.ref ax) ∧ m (S "actual") = some (.ref ay) ∧ m (S "missing") = some (.ref aM)
structure C28 (s : Shared) (L : Addr) (outer : List Env) (ax ay aM : Addr) : Prop where
  fo : FrAt (hideAll s.heap [ax, ay]) outer
  nM : s.heap.get? aM = none
  xy : ax ≠ ay
  xM : aM ≠ ax
  yM : aM ≠ ay
structure D28 (s : Shared) (L ax ay aM : Addr) (h : Heap) : Prop where
  s : ∀ b, (∃ o, (hideAll s.heap [ax, ay]).get? b = some o) → ∃ o, h.get? b = some o
  L : ∃ o, h.get? L = some o
  X : ∃ o, h.get? ax = some o
  Y : ∃ o, h.get? ay = some o
  M : ∃ o, h.get? aM = some o

section
variable {prog : Program} {w : World} {A : Around} {P : Params} {s s' : Shared} {L : Addr} {outer : List Env} {ax ay aM : Addr} {X Y M : List Int} {m : Str → Option Value} {E : Value → Shared → Prop} {h : Heap} {mg mb : Str → Option Value}

theorem S28.fr (C : C28 s L outer ax ay aM) (x : S28 P s L outer ax ay aM X Y M m s') : FrAt s'.heap (env28 P L :: outer) := by
  obtain ⟨s₀, cm, r, F⟩ := x.F
  exact F.fr (fr28 P L) (fk28 P L) (FrAt.rb (s₀ := { s with heap := hideAll s.heap [ax, ay] }) C.fo r)
theorem S28.gw {s'' : Shared} (x : S28 P s L outer ax ay aM X Y M m s') (g : Gw s' s'') : S28 P s L outer ax ay aM X Y M m s'' := by
  obtain ⟨s₀, cm, r, F⟩ := x.F
  obtain ⟨vX, lX, iX⟩ := x.lX
  obtain ⟨vY, lY, iY⟩ := x.lY
  obtain ⟨vM, lM, iM⟩ := x.lM
  exact ⟨⟨s₀, cm, r, F.gw g⟩, ⟨vX, lX.imp fun _ e => g.kp _ _ e, iX⟩, ⟨vY, lY.imp fun _ e => g.kp _ _ e, iY⟩, ⟨vM, lM.imp fun _ e => g.kp _ _ e, iM⟩, x.z, x.n⟩
theorem S28.dm (x : S28 P s L outer ax ay aM X Y M m s') : D28 s L ax ay aM s'.heap := by
  obtain ⟨s₀, cm, r, F⟩ := x.F
  obtain ⟨vX, ⟨_, lX⟩, iX⟩ := x.lX
  obtain ⟨vY, ⟨_, lY⟩, iY⟩ := x.lY
  obtain ⟨vM, ⟨_, lM⟩, iM⟩ := x.lM
  refine ⟨fun b ⟨o, ho⟩ => ?_, ?_, ⟨_, lX⟩, ⟨_, lY⟩, ⟨_, lM⟩⟩
  · cases q : s₀.heap.get? b with
    | none => rw [r.non] at q; rw [q] at ho; cases ho
    | some o' => exact ⟨o', F.base _ _ q⟩
  · obtain ⟨o, _, _, ho, _⟩ := F.ns; exact ⟨o, ho⟩
theorem S28.mz {hA h' : Heap} {t : Nat} (C : C28 s L outer ax ay aM) (x : S28 P s L outer ax ay aM X Y M m s') (d : D28 s L ax ay aM hA) (z : Mv (frs (env28 P L :: outer)) hA s'.heap h') :
    S28 P s L outer ax ay aM X Y M m { s' with heap := h', toks := t } := by
  have fr := x.fr C
  obtain ⟨s₀, cm, r, F⟩ := x.F
  obtain ⟨vX, ⟨cX, lX⟩, iX⟩ := x.lX
  obtain ⟨vY, ⟨cY, lY⟩, iY⟩ := x.lY
  obtain ⟨vM, ⟨cM, lM⟩, iM⟩ := x.lM
  have an : Anch (env28 P L) s₀ (fun _ _ => False) hA := by
    refine ⟨fun b ⟨o, ho⟩ => d.s b ?_, d.L, fun n c hc => ?_, fun b o f => f.elim⟩
    · cases q : (hideAll s.heap [ax, ay]).get? b with
      | none => rw [r.non.mpr q] at ho; cases ho
      | some o => exact ⟨o, rfl⟩
    · rw [cl28] at hc; cases hc
  obtain ⟨s₁, r₁, F₁⟩ := F.mz (t := t) an fr z
  have r₂ := r₁.cut (fr28 P L) F.fresh.1
  exact ⟨⟨s₁, cm, r.trans r₂, F₁⟩, ⟨vX, ⟨cX, (z _ _ d.X lX).1 fun hb => seq_not_vary rfl (fr.vary hb lX)⟩, iX⟩, ⟨vY, ⟨cY, (z _ _ d.Y lY).1 fun hb => seq_not_vary rfl (fr.vary hb lY)⟩, iY⟩, ⟨vM, ⟨cM, (z _ _ d.M lM).1 fun hb => seq_not_vary rfl (fr.vary hb lM)⟩, iM⟩, x.z, x.n⟩
theorem S28.ld {n : Str} {v : Value} (x : S28 P s L outer ax ay aM X Y M m s') (hm : m n = some v) (hl : (env28 P L).kindOf n = some .local) : Nm prog w A s'.heap (env28 P L) n v := by
  obtain ⟨s₀, cm, r, F⟩ := x.F
  exact F.ldL hm hl (fk28 P L)
theorem S28.wd (W : Wd w mg mb h) (k : Kp h s.heap) (hx : h.get? ax = none) (hy : h.get? ay = none) (hn : ∀ b ∈ frs outer, h.get? b = none) (x : S28 w.params s L outer ax ay aM X Y M m s') : Wd w mg mb s'.heap := by
  obtain ⟨s₀, cm, r, F⟩ := x.F
  have k' : Kp h (hideAll s.heap [ax, ay]) := fun b o e => hideAll_get _ (k b o e) fun hm => by
    rcases List.mem_cons.mp hm with rfl | hm
    · rw [hx] at e; cases e
    · rcases List.mem_cons.mp hm with rfl | hm
      · rw [hy] at e; cases e
      · cases hm
  exact W.kp ((Rb.kp (s₀ := { s with heap := hideAll s.heap [ax, ay] }) r k' hn).trans F.base)
theorem hid_x {h : Heap} {a b : Addr} : (hideAll h [a, b]).get? a = none := hideAll_none _ (by simp)
theorem hid_y {h : Heap} {a b : Addr} : (hideAll h [a, b]).get? b = none := hideAll_none _ (by simp)
theorem hid_n {h : Heap} {a b c : Addr} (e : h.get? c = none) : (hideAll h [a, b]).get? c = none := by
  cases q : (hideAll h [a, b]).get? c with
  | none => rfl
  | some o => rw [of_hideAll _ q] at e; cases e

/- item = expected.pop() -/
theorem S28.pop {p p1 p2 p3 pos : Pos} {x : Int} {Q : Flow → Shared → Prop} (C : C28 s L outer ax ay aM) (y : S28 P s L outer ax ay aM (X ++ [x]) Y M m s')
    (q : ∀ t s'', S28 P s L outer ax ay aM X Y M (up m (S "item") (.int x t)) s'' → Q .next s'')
    (hsw : swapsWith (.Call (.Attribute (.Name (S "expected") p1) "pop" p2) [] [] p3) (some (.Name (S "item") p)) pos.line (env28 P L) = pure false := by rfl)
    (hline : (p2.endLine == p3.line) = true := by rfl) :
    wpAny (model prog w) A (exec (.Assign [.Name (S "item") p] (.Call (.Attribute (.Name (S "expected") p1) "pop" p2) [] [] p3) pos) (env28 P L)) Q E s' := by
  obtain ⟨s₀, cm, r, F⟩ := y.F
  obtain ⟨vX, lX, iX⟩ := y.lX
  obtain ⟨vY, lY, iY⟩ := y.lY
  obtain ⟨vM, lM, iM⟩ := y.lM
  obtain ⟨us, t, rfl, iX'⟩ := ints_snoc iX
  obtain ⟨z1, z2, z3⟩ := y.z
  simp only [List.length_append, List.length_singleton] at z1
  have hlen := iX'.length
  have hz : sizeLine = 16777216 := rfl
  refine wpAny_Assign_Name (F.pop (n := S "expected") (y.ld y.n.1 (k28_x P L)) lX (fun _ f => f) (r.non.mpr hid_x) (by (first | assumption | decide | lia | omega)) (fun s1 F1 l1 sb => ?_) (by rfl) (by rfl) hline) hsw
  refine F1.stL (n := S "item") (k28_i P L) (fk28 P L) fun s2 F2 y2 => ?_
  exact q t s2 ⟨⟨s₀, cm, r, F2⟩, ⟨us, l1.imp fun _ e => y2 _ _ e (seq_not_vary rfl), iX'⟩, ⟨vY, lY.imp fun _ e => y2 _ _ (sb.extBut _ _ (Ne.symm C.xy) e) (seq_not_vary rfl), iY⟩, ⟨vM, lM.imp fun _ e => y2 _ _ (sb.extBut _ _ C.xM e) (seq_not_vary rfl), iM⟩, ⟨by (first | assumption | decide | lia | omega), z2, z3⟩,
    by rw [up_ne (by decide)]; exact y.n.1, by rw [up_ne (by decide)]; exact y.n.2.1, by rw [up_ne (by decide)]; exact y.n.2.2⟩

/- missing.append(item) -/
theorem S28.app {p1 p2 p3 p4 ip : Pos} {x : Int} {t : Tok} {Q : Flow → Shared → Prop} (C : C28 s L outer ax ay aM) (y : S28 P s L outer ax ay aM X Y M m s') (hm : m (S "item") = some (.int x t)) (hz : M.length < 1000)
    (q : ∀ s'', S28 P s L outer ax ay aM X Y (M ++ [x]) m s'' → Q .next s'')
    (hsw : swapsWith (.Call (.Attribute (.Name (S "missing") p1) "append" p2) [.Name (S "item") ip] [] p3) none p4.line (env28 P L) = pure false := by rfl)
    (hline : (p2.endLine == p3.line) = true := by rfl) :
    wpAny (model prog w) A (exec (.Expr (.Call (.Attribute (.Name (S "missing") p1) "append" p2) [.Name (S "item") ip] [] p3) p4) (env28 P L)) Q E s' := by
  obtain ⟨s₀, cm, r, F⟩ := y.F
  obtain ⟨vX, lX, iX⟩ := y.lX
  obtain ⟨vY, lY, iY⟩ := y.lY
  obtain ⟨vM, lM, iM⟩ := y.lM
  obtain ⟨z1, z2, z3⟩ := y.z
  have hz' : sizeLine = 16777216 := rfl
  have hlen := iM.length
  refine F.append (n := S "missing") (y.ld y.n.2.2 (k28_M P L)) lM (Ev.nint (y.ld hm (k28_i P L))) (fun _ f => f) (r.non.mpr (hid_n C.nM)) (by (first | assumption | decide | lia | omega)) ?_ (hi := by rfl) (hsw := hsw) (hd := by rfl) (hbase := by rfl) (hfew := by rfl) (hline := hline) (he := by rfl)
  rintro _ s'' F' l' ⟨h₁, k₁, ⟨t', rfl⟩, sb⟩
  exact q s'' ⟨⟨s₀, cm, r, F'⟩, ⟨vX, lX.imp fun _ e => sb.extBut _ _ (Ne.symm C.xM) (k₁ _ _ e), iX⟩, ⟨vY, lY.imp fun _ e => sb.extBut _ _ (Ne.symm C.yM) (k₁ _ _ e), iY⟩, ⟨_, l', iM.append (.cons _ _ .nil)⟩, ⟨z1, z2, by simp; (first | assumption | decide | lia | omega)⟩, y.n⟩

/- actual.remove(item): there -/
theorem S28.rem {p1 p2 p3 p4 ip : Pos} {x : Int} {t : Tok} {Q : Flow → Shared → Prop} (C : C28 s L outer ax ay aM) (y : S28 P s L outer ax ay aM X Y M m s') (hm : m (S "item") = some (.int x t)) (hx : x ∈ Y)
    (q : ∀ s'', S28 P s L outer ax ay aM X (Y.erase x) M m s'' → Q .next s'')
    (hsw : swapsWith (.Call (.Attribute (.Name (S "actual") p1) "remove" p2) [.Name (S "item") ip] [] p3) none p4.line (env28 P L) = pure false := by rfl)
    (hline : (p2.endLine == p3.line) = true := by rfl) :
    wpAny (model prog w) A (exec (.Expr (.Call (.Attribute (.Name (S "actual") p1) "remove" p2) [.Name (S "item") ip] [] p3) p4) (env28 P L)) Q E s' := by
  obtain ⟨s₀, cm, r, F⟩ := y.F
  obtain ⟨vX, lX, iX⟩ := y.lX
  obtain ⟨vY, lY, iY⟩ := y.lY
  obtain ⟨vM, lM, iM⟩ := y.lM
  obtain ⟨z1, z2, z3⟩ := y.z
  have hz' : sizeLine = 16777216 := rfl
  have hlen := iY.length
  refine F.removeIn (n := S "actual") (ni := S "item") (y.ld y.n.2.1 (k28_y P L)) (y.ld hm (k28_i P L)) lY iY hx (fun _ f => f) (r.non.mpr hid_y) (by (first | assumption | decide | lia | omega)) ?_ (hin := by rfl) (hsw := hsw) (hd := by rfl) (hd' := by rfl) (hbase := by rfl) (hline := hline)
  intro us s'' F' l' i' sb
  exact q s'' ⟨⟨s₀, cm, r, F'⟩, ⟨vX, lX.imp fun _ e => sb.extBut _ _ C.xy e, iX⟩, ⟨us, l', i'⟩, ⟨vM, lM.imp fun _ e => sb.extBut _ _ C.yM e, iM⟩, ⟨z1, Nat.le_trans List.length_erase_le z2, z3⟩, y.n⟩
end
end Mine

-- Law15
namespace Mine
section
variable {prog : Program} {w : World} {A : Around} {s s' : Shared} {L : Addr} {outer : List Env} {ax ay aM : Addr} {xs ys : List Int} {vx vy : List Value} {E : Value → Shared → Prop} {h : Heap} {mg mb : Str → Option Value}

noncomputable def I28 (P : Params) (s : Shared) (L : Addr) (outer : List Env) (ax ay aM : Addr) (xs ys : List Int) (kk : Nat) (s' : Shared) : Prop :=
  ∃ m X Y M, S28 P s L outer ax ay aM X Y M m s' ∧ undo X.reverse Y M = undo xs.reverse ys [] ∧ X.length + M.length ≤ 1000 ∧ kk = X.length
noncomputable def Und (outer : List Env) (s : Shared) (ax ay : Addr) (xs ys : List Int) (fl : Flow) (s' : Shared) : Prop :=
  ∃ v, fl = .ret v ∧ ∃ h' t, s' = { s with heap := h', toks := t } ∧ Mv (frs outer) (hideAll s.heap [ax, ay]) s.heap h' ∧ (RTwo (undo xs.reverse ys []).1 (undo xs.reverse ys []).2).is h' v
theorem I28.elim {P : Params} {s : Shared} {L : Addr} {outer : List Env} {ax ay aM : Addr} {xs ys : List Int} {kk : Nat} {s' : Shared} {p : Prop} (y : I28 P s L outer ax ay aM xs ys kk s')
    (k : ∀ m X Y M, S28 P s L outer ax ay aM X Y M m s' → undo X.reverse Y M = undo xs.reverse ys [] → X.length + M.length ≤ 1000 → kk = X.length → p) : p := by
  obtain ⟨m, X, Y, M, h1, h2, h3, h4⟩ := y; exact k m X Y M h1 h2 h3 h4
theorem und_fn (W : Wd w mg mb h) (hn : ∀ b ∈ frs outer, h.get? b = none) (hfr : A.frames = some outer) (hh : A.handled = none) (hroom : A.depth < recursionLimit)
    (k : Kp h s.heap) (lx : s.heap.PlainList ax vx.toArray) (ix : IntsAre vx xs) (ly : s.heap.PlainList ay vy.toArray) (iy : IntsAre vy ys) (hxy : ax ≠ ay) (hx : h.get? ax = none) (hy : h.get? ay = none) (fo : FrAt s.heap outer) (zz : xs.length + ys.length ≤ 1000)
    {Q : Value → Shared → Prop} (q : ∀ v h' t, Mv (frs outer) (hideAll s.heap [ax, ay]) s.heap h' → (RTwo (undo xs.reverse ys []).1 (undo xs.reverse ys []).2).is h' v → Q v { s with heap := h', toks := t }) :
    wpAny (model prog w) A (call (.ref 28) [.ref ax, .ref ay]) Q E s := by
  refine wpAny_call (codeAny_call_cells (binds := [S "expected", S "actual"].zip [.ref ax, .ref ay]) hroom (k _ _ (W.k _ _ (lk28 _))) (fd28 _) (W.lim.keeps k) ((codeRec_of W.k (cd28 _)).keeps k) (bd28 _) (by rfl) (by rfl) ?_ (fun s₁ x => ?_) (by rfl) (by rfl) (by rfl))
  · intro y hy
    have h1 := (List.of_mem_zip hy).1
    simp at h1
    rcases h1 with h1 | h1
    · rw [h1]; exact .inl (by rfl)
    · rw [h1]; exact .inl (by rfl)
  · have F := FS.of (env := env28 w.params s.heap.objs.size) x
    refine wpAny_mono (Q := Und outer s ax ay xs ys) (E := fun _ _ => False) ?_ ?_ (fun _ _ f => f.elim)
    rotate_left
    · rintro fl s' ⟨v, rfl, h', t, rfl, z, r⟩
      exact q v h' t z r
    generalize hL : s.heap.objs.size = L at F ⊢
    have hfr' : (A.deeper (env28 w.params L)).frames = some (env28 w.params L :: outer) := Around.frames_deeper hfr
    have hh' : (A.deeper (env28 w.params L)).handled = none := hh
    have kH : Kp (hideAll s.heap [ax, ay]) s.heap := fun _ _ e => of_hideAll _ e
    have F0 : FS (env28 w.params L) { s with heap := hideAll s.heap [ax, ay] } _ _ (fun _ _ => False) s₁ := (F.weak fun _ _ f => f.elim).rebase (by rfl) kH
    have lx1 : s₁.heap.PlainList ax vx.toArray := lx.imp fun _ e => F.base _ _ e
    have ly1 : s₁.heap.PlainList ay vy.toArray := ly.imp fun _ e => F.base _ _ e
    first | with_reducible refine wpAny_execs_cons ?_ | refine wpAny_execs_cons ?_
    refine wpAny_Assign_Name (EvP.list EvL.nil (by decide) s₁ _ _ Kp.rfl fun v s2 g2 y2 => ?_) (by rfl)
    refine NewL.elim0 y2 fun aM e2 nM lM => ?_
    subst e2
    refine (F0.gw g2).stL (n := S "missing") (k28_M _ L) (fk28 _ L) fun s3 F3 y3 => ?_
    have lM3 : s3.heap.PlainList aM ([] : List Value).toArray := lM.imp fun _ e => y3 _ _ e (seq_not_vary rfl)
    have lx3 : s3.heap.PlainList ax vx.toArray := lx1.imp fun _ e => y3 _ _ (g2.kp _ _ e) (seq_not_vary rfl)
    have ly3 : s3.heap.PlainList ay vy.toArray := ly1.imp fun _ e => y3 _ _ (g2.kp _ _ e) (seq_not_vary rfl)
    have nMs : s.heap.get? aM = none := by
      cases q : s.heap.get? aM with
      | none => rfl
      | some o => rw [F.base _ _ q] at nM; cases nM
    have fo' : FrAt (hideAll s.heap [ax, ay]) outer := by
      have : ∀ l : List Env, FrAt s.heap l → FrAt (hideAll s.heap [ax, ay]) l := by
        intro l
        induction l with
        | nil => intro _; trivial
        | cons env r ih =>
          rintro ⟨⟨hk, L', o, es, n, hf, ho, hd⟩, hr⟩
          refine ⟨⟨hk, L', o, es, n, hf, hideAll_get _ ho fun hm => ?_, hd⟩, ih hr⟩
          rcases List.mem_cons.mp hm with e | hm
          · subst e; obtain ⟨_, e⟩ := lx; rw [ho] at e; cases e; cases hd
          · rcases List.mem_cons.mp hm with e | hm
            · subst e; obtain ⟨_, e⟩ := ly; rw [ho] at e; cases e; cases hd
            · cases hm
      exact this outer fo
    have C : C28 s L outer ax ay aM := ⟨fo', nMs, hxy, (fun e => by subst e; obtain ⟨_, e⟩ := lx; rw [nMs] at e; cases e), (fun e => by subst e; obtain ⟨_, e⟩ := ly; rw [nMs] at e; cases e)⟩
    have S3 : ∃ m, S28 w.params s L outer ax ay aM xs ys [] m s3 := by
      refine ⟨_, ⟨{ s with heap := hideAll s.heap [ax, ay] }, _, Rb.rfl, F3⟩, ⟨vx, lx3, ix⟩, ⟨vy, ly3, iy⟩, ⟨[], lM3, .nil⟩, ⟨by (first | assumption | decide | lia | omega), by (first | assumption | decide | lia | omega), Nat.zero_le _⟩, ?_, ?_, up_self⟩
      · rw [up_ne (by decide)]; rfl
      · rw [up_ne (by decide)]; rfl
    obtain ⟨m3, S3⟩ := S3
    first | with_reducible refine wpAny_execs_cons ?_ | refine wpAny_execs_cons ?_
    refine wpAny_While ?_
    refine codeAny_whileLoop (I28 w.params s L outer ax ay aM xs ys) ?_ _ ⟨m3, xs, ys, [], S3, rfl, by simp; (first | assumption | decide | lia | omega), rfl⟩
    intro kk s4 y4
    refine y4.elim fun m4 X Y M S4 h4 z4 ekk => ?_
    subst ekk
    clear y4
    obtain ⟨vX, lX, iX⟩ := S4.lX
    have hlX := iX.length
    refine isTrue_plain (wpAny_Name (S4.ld S4.n.1 (k28_x _ L) s4 _ _ Kp.rfl (wpAny_truthy_list (plain_isList lX) (by have := S4.z.1; simp; (first | assumption | decide | lia | omega)) ?_)) (by rfl))
    have S5 := S4.gw (s'' := { s4 with toks := s4.toks + 1 + 1 }) Gw.toks
    rcases List.eq_nil_or_concat X with rfl | ⟨X', x, rfl⟩
    · cases iX
      simp only [List.isEmpty_toArray, List.isEmpty_nil, Bool.not_true, Bool.false_eq_true, if_false]
      refine wpAny_execs_nil (wpAny_execs_cons (wpAny_Return_some ?_))
      have h5 : (M, Y) = undo xs.reverse ys [] := h4
      obtain ⟨vY, lY, iY⟩ := S5.lY
      obtain ⟨vM, lM, iM⟩ := S5.lM
      obtain ⟨s₀, cm, r, F5⟩ := S5.F
      refine Ev.go (Ev.tuple (rs := [RInts M, RInts Y]) (EvL.cons (Ev.name (S5.ld S5.n.2.2 (k28_M _ L)) ⟨aM, vM, rfl, lM, ints_all2 iM⟩ (by rfl)) (EvL.cons (Ev.name (S5.ld S5.n.2.1 (k28_y _ L)) ⟨ay, vY, rfl, lY, ints_all2 iY⟩ (by rfl)) EvL.nil)) (show 2 ≤ sizeLine by decide)) fun v s6 g6 hv => ?_
      obtain ⟨h', t, e, z⟩ := r.out (F5.out.trans g6)
      refine ⟨v, rfl, h', t, e, fun b o d e => z b o d ?_, ?_⟩
      · obtain ⟨o', ho'⟩ := d
        have := kH _ _ ho'
        rw [e] at this; cases this
        exact ho'
      · rw [← h5]
        subst e
        exact hv
    · have hne : vX ≠ [] := fun e => by subst e; simp at hlX
      have hem : vX.toArray.isEmpty = false := by cases vX with | nil => exact absurd rfl hne | cons a b => rfl
      rw [hem]
      simp only [Bool.not_false, if_true]
      simp only [List.concat_eq_append] at *
      simp only [List.length_append, List.length_singleton] at z4
      have hun : undo (x :: X'.reverse) Y M = undo xs.reverse ys [] := by rw [← h4]; simp
      first | with_reducible refine wpAny_execs_cons ?_ | refine wpAny_execs_cons ?_
      refine S5.pop C fun t6 s6 S6 => ?_
      have hm6 : up m4 (S "item") (.int x t6) (S "item") = some (.int x t6) := up_self
      first | with_reducible refine wpAny_execs_cons ?_ | refine wpAny_execs_cons ?_
      refine wpAny_Try_except ?_
      by_cases hin : x ∈ Y
      · first | with_reducible refine wpAny_execs_cons ?_ | refine wpAny_execs_cons ?_
        refine S6.rem C hm6 hin fun s7 S7 => wpAny_execs_nil (wpAny_execs_nil (wpAny_execs_nil ?_))
        refine ⟨X'.length, by simp, _, X', _, M, S7, ?_, by (first | assumption | decide | lia | omega), rfl⟩
        rw [← hun]; simp [undo, hin]
      · obtain ⟨vY, lY, iY⟩ := S6.lY
        first | with_reducible refine wpAny_execs_cons ?_ | refine wpAny_execs_cons ?_
        refine removeOut (n := S "actual") (ni := S "item") hh' (S6.ld S6.n.2.1 (k28_y _ L)) (S6.ld hm6 (k28_i _ L)) lY iY hin fun h' tk e ex kk => ?_
        have S7 := S6.gw (s'' := { s6 with heap := h', toks := tk }) ⟨h', tk, rfl, kk⟩
        have d7 := S6.dm
        refine caught (s := { s6 with heap := h', toks := tk }) (L := L) (n := S "ValueError") (T := "ValueError") hfr' (fr28 _ L) (S7.fr C) ex (.inl ⟨rfl, fun b ⟨o, ho⟩ => ⟨o, kk b o ho⟩⟩) ?_ PySem.F.isExc_ValueError PySem.F.notTuple_ValueError (by rw [isSubtype_type]; kernel_rfl) ?_ (hd := by rfl)
        · intro h₂ z
          have S8 := S7.mz (t := tk) C d7 z
          exact (S8.wd W k hx hy hn).blt (by rfl) (by rfl) (by rfl) (by rfl) (by rfl) (by rfl) (by rfl)
        · intro h₂ E' ex₂ z
          have S8 := S7.mz (t := tk) C d7 z
          first | with_reducible refine wpAny_execs_cons ?_ | refine wpAny_execs_cons ?_
          refine S8.app C hm6 (by (first | assumption | decide | lia | omega)) fun s9 S9 => wpAny_execs_nil (wpAny_execs_nil ?_)
          refine ⟨X'.length, by simp, _, X', Y, _, S9, ?_, by simp; (first | assumption | decide | lia | omega), rfl⟩
          rw [← hun]; simp [undo, hin]
end
end Mine

-- Math4
namespace Mine
/- l without the first n v of each v -/
noncomputable def dropN : (Int → Nat) → List Int → List Int
  | _, [] => []
  | n, v :: l => if 0 < n v then dropN (fun u => if u = v then n u - 1 else n u) l else v :: dropN n l
noncomputable def plus1 (n : Int → Nat) (x : Int) : Int → Nat := fun u => if u = x then n u + 1 else n u
theorem dropN_count (x : Int) : ∀ (l : List Int) (n : Int → Nat), (dropN n l).count x = l.count x - n x
  | [], n => by simp [dropN]
  | v :: l, n => by
    unfold dropN
    by_cases h : 0 < n v
    · rw [if_pos h, dropN_count x l]
      by_cases hv : x = v
      · subst hv; simp; (first | assumption | decide | lia | omega)
      · simp only [if_neg hv]
        rw [List.count_cons_of_ne (Ne.symm hv)]
    · rw [if_neg h]
      by_cases hv : x = v
      · subst hv
        simp only [List.count_cons_self, dropN_count x l]
        (first | assumption | decide | lia | omega)
      · rw [List.count_cons_of_ne (Ne.symm hv), List.count_cons_of_ne (Ne.symm hv), dropN_count x l]
theorem plus_dec {n : Int → Nat} {x v : Int} (h : 0 < n v) : (fun u => if u = v then plus1 n x u - 1 else plus1 n x u) = plus1 (fun u => if u = v then n u - 1 else n u) x := by
  funext u
  unfold plus1
  by_cases h1 : u = v
  · subst h1
    by_cases h2 : u = x
    · subst h2; simp; (first | assumption | decide | lia | omega)
    · simp [h2]
  · simp [h1]
theorem dropN_plus_out (x : Int) : ∀ (l : List Int) (n : Int → Nat), x ∉ dropN n l → dropN (plus1 n x) l = dropN n l
  | [], n, _ => by simp [dropN]
  | v :: l, n, hx => by
    unfold dropN at hx ⊢
    by_cases h : 0 < n v
    · rw [if_pos h] at hx ⊢
      rw [if_pos (by unfold plus1; split <;> (first | assumption | decide | lia | omega)), plus_dec h]
      exact dropN_plus_out x l _ hx
    · rw [if_neg h] at hx ⊢
      simp only [List.mem_cons, not_or] at hx
      rw [if_neg (by unfold plus1; rw [if_neg (fun q => hx.1 q.symm)]; exact h), dropN_plus_out x l n hx.2]
theorem dropN_erase (x : Int) : ∀ (l : List Int) (n : Int → Nat), (dropN n l).erase x = dropN (plus1 n x) l
  | [], n => by simp [dropN]
  | v :: l, n => by
    conv => lhs; unfold dropN
    conv => rhs; unfold dropN
    by_cases h : 0 < n v
    · rw [if_pos h, if_pos (by unfold plus1; split <;> (first | assumption | decide | lia | omega)), plus_dec h]
      exact dropN_erase x l _
    · rw [if_neg h]
      by_cases hv : v = x
      · subst hv
        rw [if_pos (by unfold plus1; simp)]
        rw [List.erase_cons_head]
        congr 1
        funext u
        unfold plus1
        by_cases hu : u = v
        · subst hu; simp
        · simp [hu]
      · rw [if_neg (by unfold plus1; rw [if_neg hv]; exact h), List.erase_cons_tail (by simpa using hv), dropN_erase x l n]
theorem dropN_snoc (x : Int) : ∀ (l : List Int) (n : Int → Nat), dropN n (l ++ [x]) = dropN n l ++ (if n x ≤ l.count x then [x] else [])
  | [], n => by
    have h0 : ([] : List Int).count x = 0 := rfl
    have e1 : dropN n ([] ++ [x]) = if 0 < n x then [] else [x] := by rw [List.nil_append]; rfl
    have e2 : dropN n [] = [] := rfl
    rw [e1, e2, List.nil_append]
    by_cases h : 0 < n x
    · rw [if_pos h, if_neg (show ¬ n x ≤ ([] : List Int).count x by (first | assumption | decide | lia | omega))]
    · rw [if_neg h, if_pos (show n x ≤ ([] : List Int).count x by (first | assumption | decide | lia | omega))]
  | v :: l, n => by
    rw [List.cons_append]
    conv => lhs; unfold dropN
    conv => rhs; arg 1; unfold dropN
    by_cases h : 0 < n v
    · rw [if_pos h, if_pos h, dropN_snoc x l]
      congr 1
      by_cases hv : x = v
      · subst hv
        simp only [if_true, List.count_cons_self]
        by_cases h1 : n x ≤ l.count x + 1
        · rw [if_pos (by (first | assumption | decide | lia | omega)), if_pos h1]
        · rw [if_neg (by (first | assumption | decide | lia | omega)), if_neg h1]
      · simp only [if_neg hv]
        rw [List.count_cons_of_ne (Ne.symm hv)]
    · rw [if_neg h, if_neg h, dropN_snoc x l, List.cons_append]
      congr 2
      by_cases hv : x = v
      · subst hv
        rw [if_pos (by (first | assumption | decide | lia | omega)), if_pos (by (first | assumption | decide | lia | omega))]
      · rw [List.count_cons_of_ne (Ne.symm hv)]
theorem undo_go (ys : List Int) : ∀ (r p : List Int), undo r (dropN (fun v => p.count v) ys) (dropN (fun v => ys.count v) p) = (dropN (fun v => ys.count v) (p ++ r), dropN (fun v => (p ++ r).count v) ys)
  | [], p => by simp [undo]
  | x :: r, p => by
    have hp : (fun v => (p ++ [x]).count v) = plus1 (fun v => p.count v) x := by
      funext v
      unfold plus1
      rw [List.count_append]
      by_cases h : v = x
      · subst h; simp
      · rw [if_neg h, List.count_singleton]; simp; exact fun q => absurd q.symm h
    have hin : x ∈ dropN (fun v => p.count v) ys ↔ p.count x < ys.count x := by
      rw [← List.count_pos_iff, dropN_count]; (first | assumption | decide | lia | omega)
    have ih := undo_go ys r (p ++ [x])
    rw [List.append_assoc, List.singleton_append] at ih
    unfold undo
    by_cases h : x ∈ dropN (fun v => p.count v) ys
    · rw [if_pos h, dropN_erase, ← hp]
      rw [dropN_snoc, if_neg (by have := hin.mp h; (first | assumption | decide | lia | omega)), List.append_nil] at ih
      exact ih
    · rw [if_neg h]
      rw [dropN_snoc, if_pos (by have := mt hin.mpr h; (first | assumption | decide | lia | omega)), hp, dropN_plus_out x ys _ h] at ih
      exact ih
theorem undo_is (xs ys : List Int) : undo xs.reverse ys [] = (dropN (fun v => ys.count v) xs.reverse, dropN (fun v => xs.count v) ys) := by
  have := undo_go ys xs.reverse []
  have h0 : dropN (fun v => ([] : List Int).count v) ys = ys := by
    have : ∀ l : List Int, dropN (fun v => ([] : List Int).count v) l = l := by
      intro l
      induction l with
      | nil => rfl
      | cons a l ih => unfold dropN; rw [if_neg (by simp)]; rw [ih]
    exact this ys
  rw [h0] at this
  have h1 : dropN (fun v => ys.count v) [] = [] := rfl
  rw [h1] at this
  rw [this]
  simp only [List.nil_append]
  congr 2
  funext v
  rw [List.count_reverse]
theorem dropN_range (n : Int → Nat) (l : List Int) : ((List.range l.length).filter (fun k => decide (n (l.getD k 0) < (l.take (k + 1)).count (l.getD k 0)))).map (fun k => l.getD k 0) = dropN n l := by
  have : ∀ k : List Int, ∀ l, l = k.reverse → ((List.range l.length).filter (fun k => decide (n (l.getD k 0) < (l.take (k + 1)).count (l.getD k 0)))).map (fun k => l.getD k 0) = dropN n l := by
    intro k
    induction k with
    | nil => intro l e; subst e; simp [dropN]
    | cons x k ih =>
      intro l e
      have e' : l = k.reverse ++ [x] := by rw [e]; simp
      have ih := ih k.reverse rfl
      generalize k.reverse = l' at *
      subst e'
      rw [dropN_snoc, ← ih, List.length_append, List.length_singleton, List.range_succ, List.filter_append, List.map_append]
      have g : ∀ i, i < l'.length → (l' ++ [x]).getD i 0 = l'.getD i 0 := fun i hi => by
        simp [List.getD_eq_getElem?_getD, List.getElem?_append_left hi]
      congr 1
      · have hf : (List.range l'.length).filter (fun k => decide (n ((l' ++ [x]).getD k 0) < ((l' ++ [x]).take (k + 1)).count ((l' ++ [x]).getD k 0))) = (List.range l'.length).filter (fun k => decide (n (l'.getD k 0) < (l'.take (k + 1)).count (l'.getD k 0))) := by
          refine List.filter_congr fun i hi => ?_
          have hi := List.mem_range.mp hi
          rw [g i hi, List.take_append_of_le_length (by (first | assumption | decide | lia | omega))]
        rw [hf]
        refine List.map_congr_left fun i hi => ?_
        exact g i (List.mem_range.mp (List.mem_filter.mp hi).1)
      · have hx : (l' ++ [x]).getD l'.length 0 = x := by simp [List.getD_eq_getElem?_getD]
        have ht : (l' ++ [x]).take (l'.length + 1) = l' ++ [x] := List.take_of_length_le (by simp)
        simp only [List.filter_cons, List.filter_nil, hx, ht, List.count_append, List.count_singleton_self]
        by_cases h : n x ≤ l'.count x
        · rw [if_pos (by simp; (first | assumption | decide | lia | omega)), if_pos h]; simp
        · rw [if_neg (by simp; (first | assumption | decide | lia | omega)), if_neg h]; rfl
  exact this l.reverse l (by simp)
theorem over_is (xs ys : List Int) : ((List.range ys.length).filter (fun k => decide (xs.count (ys.getD k 0) < (ys.take (k + 1)).count (ys.getD k 0)))).map (fun k => ys.getD k 0) = (undo xs.reverse ys []).2 := by
  rw [undo_is]; exact dropN_range (fun v => xs.count v) ys
theorem lacks_is (xs ys : List Int) : ((List.range xs.length).filter (fun k => decide (ys.count (xs.getD (xs.length - 1 - k) 0) < (xs.drop (xs.length - 1 - k)).count (xs.getD (xs.length - 1 - k) 0)))).map (fun k => xs.getD (xs.length - 1 - k) 0) = (undo xs.reverse ys []).1 := by
  rw [undo_is]
  have := dropN_range (fun v => ys.count v) xs.reverse
  rw [List.length_reverse] at this
  rw [← this]
  have g : ∀ i, i < xs.length → xs.reverse.getD i 0 = xs.getD (xs.length - 1 - i) 0 := fun i hi => by
    simp [List.getD_eq_getElem?_getD, List.getElem?_reverse hi]
  have hf : (List.range xs.length).filter (fun k => decide (ys.count (xs.getD (xs.length - 1 - k) 0) < (xs.drop (xs.length - 1 - k)).count (xs.getD (xs.length - 1 - k) 0))) = (List.range xs.length).filter (fun k => decide (ys.count (xs.reverse.getD k 0) < (xs.reverse.take (k + 1)).count (xs.reverse.getD k 0))) := by
    refine List.filter_congr fun i hi => ?_
    have hi := List.mem_range.mp hi
    rw [g i hi, List.take_reverse, List.count_reverse, show xs.length - (i + 1) = xs.length - 1 - i by (first | assumption | decide | lia | omega)]
  rw [hf]
  refine List.map_congr_left fun i hi => ?_
  rw [g i (List.mem_range.mp (List.mem_filter.mp hi).1)]
end Mine

-- Math5
namespace Mine
/- l: the cuts c 1, .., c m of x -/
structure CutL (x : Str) (m : Nat) (c : Nat → Nat) (l : List Int) : Prop where
  eq : l = (List.range m).map fun i => ((c (i + 1) : Nat) : Int)
  pos : 0 < m
  le : m ≤ 16
  z : c 0 = 0
  e : c m = x.length
  up : ∀ i, i < m → c i < c (i + 1)
  tk : ∀ i, i < m → isTok x (c i) (c (i + 1)) = true
theorem list_is {l : List Nat} {m : Nat} {f : Nat → Nat} (hl : l.length = m) (h : ∀ i, i < m → l.getD i 0 = f i) : l = (List.range m).map f := by
  apply List.ext_getElem?
  intro i
  by_cases hi : i < m
  · have := h i hi
    rw [List.getD_eq_getElem?_getD] at this
    have hi' : i < l.length := by (first | assumption | decide | lia | omega)
    rw [List.getElem?_eq_getElem hi'] at this ⊢
    simp only [Option.getD_some] at this
    simp [hi, this]
  · rw [List.getElem?_eq_none (by (first | assumption | decide | lia | omega)), List.getElem?_eq_none (by simp; (first | assumption | decide | lia | omega))]
theorem cutF {x : Str} (hx : Good x) {m : Nat} (C : Cuts x m) : CutL x m (gF x) ((front x 17 0).map Int.ofNat) := by
  have st : ∀ i, i < m → gF x (i + 1) = gF x i + ahead x (gF x i) := fun i hi => by
    have := C.flt i hi
    rw [gF, if_pos this]
  refine ⟨?_, C.pos, C.le, rfl, C.fend, fun i hi => ?_, fun i hi => ?_⟩
  · rw [list_is C.fl C.fg, List.map_map]; rfl
  · have := (ahead_spec hx (C.flt i hi)).1
    have := st i hi
    (first | assumption | decide | lia | omega)
  · rw [st i hi]; exact (ahead_spec hx (C.flt i hi)).2.2.2.1
theorem cutB {x : Str} (hx : Good x) {m : Nat} (C : Cuts x m) : CutL x m (fun i => gB x (m - i)) ((back x 17 x.length).reverse.map Int.ofNat) := by
  have st : ∀ j, j < m → gB x (j + 1) = gB x j - behind x (gB x j) := fun j hj => by
    have := C.blt j hj
    rw [gB, if_pos this]
  have key : ∀ i, i < m → gB x (m - i) = gB x (m - (i + 1)) - behind x (gB x (m - (i + 1))) := fun i hi => by
    rw [← st (m - (i + 1)) (by (first | assumption | decide | lia | omega))]; congr 1; (first | assumption | decide | lia | omega)
  refine ⟨?_, C.pos, C.le, ?_, ?_, fun i hi => ?_, fun i hi => ?_⟩
  · have hr : (back x 17 x.length).reverse = (List.range m).map fun i => gB x (m - (i + 1)) := by
      refine list_is (by rw [List.length_reverse]; exact C.bl) fun i hi => ?_
      have hi' : i < (back x 17 x.length).length := by rw [C.bl]; exact hi
      rw [List.getD_eq_getElem?_getD, List.getElem?_reverse hi', ← List.getD_eq_getElem?_getD, C.bl, C.bg _ (by (first | assumption | decide | lia | omega))]
      congr 1
      (first | assumption | decide | lia | omega)
    rw [hr, List.map_map]; rfl
  · show gB x (m - 0) = 0
    rw [Nat.sub_zero]; exact C.bend
  · show gB x (m - m) = x.length
    rw [Nat.sub_self]; rfl
  · show gB x (m - i) < gB x (m - (i + 1))
    have h0 := C.blt (m - (i + 1)) (by (first | assumption | decide | lia | omega))
    have := (behind_spec hx (gB_le hx _) h0).1
    have := key i hi
    (first | assumption | decide | lia | omega)
  · show isTok x (gB x (m - i)) (gB x (m - (i + 1))) = true
    rw [key i hi]
    exact (behind_spec hx (gB_le hx _) (C.blt (m - (i + 1)) (by (first | assumption | decide | lia | omega)))).2.2.2.1

section
variable {x : Str} {m : Nat} {c c' : Nat → Nat} {l l' : List Int}
theorem CutL.len (h : CutL x m c l) : l.length = m := by rw [h.eq]; simp
theorem CutL.get (h : CutL x m c l) {i : Nat} (hi : i < m) : l.getD i 0 = ((c (i + 1) : Nat) : Int) := by rw [h.eq]; simp [List.getD_eq_getElem?_getD, hi]
theorem CutL.get0 (h : CutL x m c l) {i : Nat} (hi : i < m) : ((0 : Int) :: l).getD i 0 = ((c i : Nat) : Int) := by
  cases i with
  | zero => simp [h.z]
  | succ i => rw [List.getD_cons_succ, h.get (by (first | assumption | decide | lia | omega))]
theorem CutL.lt (h : CutL x m c l) : ∀ {i j : Nat}, i < j → j ≤ m → c i < c j := by
  intro i j hij
  induction j with
  | zero => (first | assumption | decide | lia | omega)
  | succ j ih =>
    intro hj
    have h1 := h.up j (by (first | assumption | decide | lia | omega))
    by_cases he : i = j
    · subst he; exact h1
    · have := ih (by (first | assumption | decide | lia | omega)) (by (first | assumption | decide | lia | omega)); (first | assumption | decide | lia | omega)
theorem CutL.le_n (h : CutL x m c l) {i : Nat} (hi : i ≤ m) : c i ≤ x.length := by
  rw [← h.e]
  by_cases he : i = m
  · subst he; exact Nat.le_refl _
  · exact Nat.le_of_lt (h.lt (by (first | assumption | decide | lia | omega)) (Nat.le_refl _))
theorem CutL.sorted (h : CutL x m c l) : l.Pairwise (· < ·) := by
  rw [h.eq]
  refine List.Pairwise.map _ (R := fun i j => i < j ∧ j < m) (fun i j hij => ?_) ?_
  · have := h.lt (i := i + 1) (j := j + 1) (by (first | assumption | decide | lia | omega)) (by (first | assumption | decide | lia | omega))
    (first | assumption | decide | lia | omega)
  · have h1 : (List.range m).Pairwise (· < ·) := List.pairwise_lt_range
    refine List.Pairwise.imp_of_mem (fun {a b} ha hb hab => ⟨hab, List.mem_range.mp hb⟩) h1
theorem CutL.last (h : CutL x m c l) : l = l.take (m - 1) ++ [(x.length : Int)] := by
  have hl := h.len
  have hp := h.pos
  have : l.drop (m - 1) = [(x.length : Int)] := by
    have hi : m - 1 < l.length := by (first | assumption | decide | lia | omega)
    rw [List.drop_eq_getElem_cons hi, List.drop_eq_nil_of_le (by (first | assumption | decide | lia | omega))]
    have := h.get (i := m - 1) (by (first | assumption | decide | lia | omega))
    rw [List.getD_eq_getElem?_getD, List.getElem?_eq_getElem hi, Option.getD_some, show m - 1 + 1 = m by (first | assumption | decide | lia | omega), h.e] at this
    rw [this]
  conv => lhs; rw [← List.take_append_drop (m - 1) l, this]
theorem diff_init {a b : List Int} {n : Int} (ha : ∀ x ∈ a, x < n) : (a ++ [n]).filter (fun x => !(b ++ [n]).contains x) = a.filter (fun x => !b.contains x) := by
  rw [List.filter_append]
  have h1 : [n].filter (fun x => !(b ++ [n]).contains x) = [] := by simp
  rw [h1, List.append_nil]
  refine List.filter_congr fun y hy => ?_
  have := ha y hy
  have hne : y ≠ n := by (first | assumption | decide | lia | omega)
  simp [hne]
theorem CutL.diff (h : CutL x m c l) (h' : CutL x m c' l') : (l.take (m - 1)).filter (fun x => !(l'.take (m - 1)).contains x) = l.filter (fun x => !l'.contains x) := by
  have hs := h.sorted
  have e := h.last
  have e' := h'.last
  generalize l.take (m - 1) = a at *
  generalize l'.take (m - 1) = b at *
  rw [e] at hs
  rw [e, e']
  refine (diff_init fun y hy => ?_).symm
  exact (List.pairwise_append.mp hs).2.2 y hy _ (by simp)

theorem lex_ge : ∀ {a b : List Int}, a.length = b.length → (∀ i, i < a.length → b.getD i 0 ≤ a.getD i 0) → (a = b ∧ lexLt b a = false ∧ lexLt a b = false) ∨ (a ≠ b ∧ lexLt b a = true ∧ lexLt a b = false)
  | [], [], _, _ => .inl ⟨rfl, rfl, rfl⟩
  | [], _ :: _, h, _ => by simp at h
  | _ :: _, [], h, _ => by simp at h
  | u :: a, v :: b, h, hi => by
    have h0 := hi 0 (by simp)
    simp only [List.getD_cons_zero] at h0
    unfold lexLt
    by_cases he : u = v
    · subst he
      simp only [if_true]
      rcases lex_ge (a := a) (b := b) (by simpa using h) (fun i hi' => by have := hi (i + 1) (by simpa using hi'); simpa using this) with ⟨rfl, h2, h3⟩ | ⟨h1, h2, h3⟩
      · exact .inl ⟨rfl, h2, h3⟩
      · exact .inr ⟨by simpa using h1, h2, h3⟩
    · rw [if_neg he, if_neg (fun q => he q.symm)]
      refine .inr ⟨by simp [he], by simp; (first | assumption | decide | lia | omega), by simp; (first | assumption | decide | lia | omega)⟩
theorem CutL.cmp (h : CutL x m c l) (h' : CutL x m c' l') (hge : ∀ i, i ≤ m → c' i ≤ c i) : (l = l' ∧ lexLt l' l = false ∧ lexLt l l' = false) ∨ (l ≠ l' ∧ lexLt l' l = true ∧ lexLt l l' = false) := by
  refine lex_ge (by rw [h.len, h'.len]) fun i hi => ?_
  rw [h.len] at hi
  rw [h.get hi, h'.get hi]
  have := hge (i + 1) (by (first | assumption | decide | lia | omega))
  (first | assumption | decide | lia | omega)

/- a comprehension with a filter -/
theorem comp_filter (p : Int → Bool) (l : List Int) : ((List.range l.length).filter (fun i => p (l.getD i 0))).map (fun i => RInt (l.getD i 0)) = (l.filter p).map RInt := by
  induction l with
  | nil => rfl
  | cons a l ih =>
    rw [List.length_cons, List.range_succ_eq_map, List.filter_cons, List.filter_map]
    have e : (List.filter ((fun i => p ((a :: l).getD i 0)) ∘ Nat.succ) (List.range l.length)) = (List.range l.length).filter (fun i => p (l.getD i 0)) := List.filter_congr fun i _ => by simp
    rw [e]
    have e2 : (((List.range l.length).filter (fun i => p (l.getD i 0))).map Nat.succ).map (fun i => RInt ((a :: l).getD i 0)) = (l.filter p).map RInt := by
      rw [← ih, List.map_map]
      exact List.map_congr_left fun i _ => by simp
    by_cases hp : p a = true
    · rw [if_pos (by simpa using hp), List.map_cons, e2, List.filter_cons, if_pos hp]; rfl
    · rw [if_neg (by simpa using hp), e2, List.filter_cons, if_neg hp]
end
end Mine

-- Law16
namespace Mine
noncomputable def line48 : Str := S "( ) [ ] : , ; + - * / | & < > = . % { } == != <= >= ~ ^ << >> ** += -= *= /= %= &= |= ^= <<= >>= **= // //= @ @= -> ... := !"
noncomputable def ks48 : List Str := [S "(", S ")", S "[", S "]", S ":", S ",", S ";", S "+", S "-", S "*", S "/", S "|", S "&", S "<", S ">", S "=", S ".", S "%", S "{", S "}", S "==", S "!=", S "<=", S ">=", S "~", S "^", S "<<", S ">>", S "**", S "+=", S "-=", S "*=", S "/=", S "%=", S "&=", S "|=", S "^=", S "<<=", S ">>=", S "**=", S "//", S "//=", S "@", S "@=", S "->", S "...", S ":=", S "!"]
noncomputable def kinds48 : List (Str × Int) := upTo ks48 7 48
theorem ks48_split : Builtin.Str.partsBetween line48 (Builtin.Str.occurrences line48 (S " ") 0 line48.length (line48.length + 1)) (S " ").length = ks48 := by decide +kernel
theorem ks48_occ : (Builtin.Str.occurrences line48 (S " ") 0 line48.length (line48.length + 1)).isEmpty = false := by decide +kernel
theorem ks48_nodup : ks48.Nodup := by decide +kernel
theorem ks48_len : ks48.length = 48 := by rfl
theorem kinds_a : (exact.all fun p => kinds48.lookup p.1 == some p.2) = true := by decide +kernel
theorem kinds_b : (kinds48.all fun p => exact.lookup p.1 == some p.2) = true := by decide +kernel
theorem mem_lookup {k : Str} {i : Int} : ∀ {l : List (Str × Int)}, l.lookup k = some i → (k, i) ∈ l
  | (a, b) :: l, h => by
    rw [List.lookup_cons] at h
    by_cases hk : k = a
    · subst hk; simp at h; subst h; exact .head _
    · have : (k == a) = false := by simpa using hk
      rw [this] at h
      exact .tail _ (mem_lookup h)
theorem kinds_exact (k : Str) : kinds48.lookup k = exact.lookup k := by
  cases h : exact.lookup k with
  | some i =>
    have := List.all_eq_true.mp kinds_a _ (mem_lookup h)
    simpa using this
  | none =>
    cases h' : kinds48.lookup k with
    | none => rfl
    | some i =>
      have := List.all_eq_true.mp kinds_b _ (mem_lookup h')
      simp at this
      rw [h] at this; cases this
section
variable {prog : Program} {w : World} {A : Around} {h : Heap}
theorem split48 : Fn prog w A h (.builtin "str.split") [RStr line48, RStr (S " ")] (RStrs ks48) :=
  Fn.split (by decide +kernel) (by decide +kernel) ks48_occ ks48_split (by decide +kernel) (by decide +kernel)
end
end Mine

-- Law17
namespace Mine
theorem lk65 (P : Params) : (KF P).lookup 65 = some (objAt P 65) := by rfl
theorem fd65 (P : Params) : (objAt P 65).data = .func (fdOf (objAt P 65)) := by rfl
theorem bd65 (P : Params) : (fdOf (objAt P 65)).body = .stmts (bodyOf (fdOf (objAt P 65))) := by rfl
theorem cd65 (P : Params) : codeIn (KF P) (fdOf (objAt P 65)).code (fdOf (objAt P 65)).qualname = true := by rfl
noncomputable abbrev env65 (P : Params) (L : Addr) : Env := callEnvC (fdOf (objAt P 65)) L 65
theorem fr65 (P : Params) (L : Addr) : (env65 P L).frame = some L := by rfl
theorem fk65 (P : Params) (L : Addr) : (env65 P L).scope.kind = .function := by rfl
theorem cl65 (P : Params) (L : Addr) : (env65 P L).cells = [(S "second", L + 6), (S "first", L + 5), (S "near", L + 4), (S "far", L + 3), (S "text", L + 2), (S "kinds", L + 1)] := by rfl
end Mine

-- Law18
namespace Mine
/- values that are known and stay so while names and cells turn -/
noncomputable def Held (l : List (R × Value)) (h : Heap) : Prop := ∀ p ∈ l, p.1.is h p.2 ∧ Ss p.1
theorem Held.nil {h : Heap} : Held [] h := fun _ hp => nomatch hp
theorem Held.sy {l h h'} (x : Held l h) (y : Sy h h') : Held l h' := fun p hp => ⟨(x p hp).2 _ _ _ y (x p hp).1, (x p hp).2⟩
theorem Held.add {l h r v} (x : Held l h) (y : r.is h v) (z : Ss r) : Held ((r, v) :: l) h := fun p hp => by
  rcases List.mem_cons.mp hp with rfl | hp
  · exact ⟨y, z⟩
  · exact x p hp
theorem Held.at {l h} {r : R} {v : Value} (x : Held l h) (i : Nat) (e : l[i]? = some (r, v) := by rfl) : r.is h v := (x _ (List.mem_of_getElem? e)).1
theorem Fn.mono {prog : Program} {w : World} {A : Around} {h h' : Heap} {f : Value} {rs : List R} {r : R} (x : Fn prog w A h f rs r) (k : Kp h h') : Fn prog w A h' f rs r := fun s vs Q E k' => x s vs Q E (k.trans k')

section
variable {prog : Program} {w : World} {A : Around} {env : Env} {s₀ s : Shared} {m cm : Str → Option Value} {K : Addr → Obj → Prop} {E : Value → Shared → Prop}
theorem FS.phantom (F : FS env s₀ m cm K s) (as : List Addr) (hL : env.locals ∈ as) (hc : ∀ n c, (n, c) ∈ env.cells → c ∈ as) : FS env { s₀ with heap := hideAll s.heap as } m cm (fun _ _ => False) s := by
  obtain ⟨h, t, e⟩ := F.same
  exact ⟨⟨h, t, by rw [e]⟩, fun _ _ e => of_hideAll _ e, F.ns, F.cell, F.apart, F.off, ⟨hideAll_none _ hL, fun n c hm => hideAll_none _ (hc n c hm)⟩, fun _ _ f => f.elim⟩
theorem kp_hide {h h' : Heap} {as : List Addr} (k : Kp h h') (hn : ∀ a ∈ as, h.get? a = none) : Kp h (hideAll h' as) := fun b o e => hideAll_get _ (k b o e) fun hm => by rw [hn b hm] at e; cases e

/- n1, n2 = a call that gives a pair -/
theorem twoU (hh : A.handled = none) {n1 n2 : Str} {p1 p2 tp pos : Pos} {k1 : Nat} {value : Expr} {r1 r2 : R} (x : Ev prog w A s.heap env value (RTup [r1, r2])) {Q : Flow → Shared → Prop}
    (st : ∀ v1 v2 s1, Gw s s1 → r1.is s1.heap v1 → r2.is s1.heap v2 → wpAny (model prog w) A (storeName env n1 v1) (fun _ s4 => wpAny (model prog w) A (storeName env n2 v2) (fun _ s5 => Q .next s5) E s4) E s1)
    (hs : swapsWithSole [.Tuple [.Name n1 p1, .Name n2 p2] k1 tp] value pos.line env = pure false := by rfl)
    (hw : swappedStores [.Tuple [.Name n1 p1, .Name n2 p2] k1 tp] value env = pure none := by rfl) :
    wpAny (model prog w) A (exec (.Assign [.Tuple [.Name n1 p1, .Name n2 p2] k1 tp] value pos) env) Q E s := by
  refine Assign_Tuple (x s _ E Kp.rfl fun v s1 g1 a1 => ?_) hs hw
  obtain ⟨a, vs, rfl, ho, hall⟩ := a1
  cases hall with
  | cons b1 hall =>
  cases hall with
  | cons b2 hall =>
  cases hall
  rename_i v1 v2
  refine wpAny_assign_Tuple hh (items := #[v1, v2]) ⟨_, ho, rfl, 0, rfl⟩ rfl rfl fun h' k => ?_
  have kk : Kp s1.heap h' := fun b o e => k b o (Nat.ne_of_lt (Heap.lt_size e)) e
  exact wpAny_assignInOrder_more (wpAny_assign_Name (wpAny_mono (st v1 v2 { s1 with heap := h' } (g1.trans ⟨h', s1.toks, rfl, kk⟩) (r1.kp kk b1) (r2.kp kk b2)) (fun _ s4 h4 => wpAny_assignInOrder_more (wpAny_assign_Name (wpAny_mono h4 (fun _ _ q => wpAny_pure q) fun _ _ x => x))) fun _ _ x => x))
end

section
variable {prog : Program} {w : World} {A : Around} {h : Heap} {mg mb : Str → Option Value}

/- what the law's first four statements leave -/
structure L4 (prog : Program) (w : World) (L : Addr) (sB : Shared) (x : Str) (kd : Value) (m cm : Str → Option Value) (l : List (R × Value)) (s : Shared) : Prop where
  F : FS (env65 w.params L) sB m cm (fun _ _ => False) s
  H : Held l s.heap
  rd : (RDict prog w kinds48).is sB.heap kd
  ck : cm (S "kinds") = some kd
  ct : ∃ t, cm (S "text") = some (.str x t)

noncomputable def as65 (L : Addr) : List Addr := [L, L + 1, L + 2, L + 3, L + 4, L + 5, L + 6]
theorem in65 (P : Params) (L : Addr) : ∀ n c, (n, c) ∈ (env65 P L).cells → c ∈ as65 L := by
  intro n c hm
  rw [cl65] at hm
  simp only [as65, List.mem_cons, List.not_mem_nil, or_false, Prod.mk.injEq] at hm ⊢
  rcases hm with ⟨_, rfl⟩ | ⟨_, rfl⟩ | ⟨_, rfl⟩ | ⟨_, rfl⟩ | ⟨_, rfl⟩ | ⟨_, rfl⟩ <;> simp

theorem law_a (W : Wd w mg mb h) (hse : h.NoSeer) (htr : prog.given.tree = none) (hh : A.handled = none) (hfr : A.frames = some []) (hroom : A.depth + 300 < recursionLimit) (hun : A.units < 500) (hsm : ∃ c o, h.get? c = some o ∧ sysModules ≤ c) {xs : List Int} (hxs : xs.length ≤ 63)
    (hB : ∀ (L : Addr) (s sB s' : Shared) (m cm : Str → Option Value) (kd vf vb vr vn : Value), Kp h s.heap → (∃ hB, sB = { s with heap := hB } ∧ Kp s.heap hB) →
      L4 prog w L sB (textOf xs) kd m cm [(RInts ((back (textOf xs) 17 (textOf xs).length).reverse.map Int.ofNat), vn), (RInts ((front (textOf xs) 17 0).map Int.ofNat), vr), (RInts ((back (textOf xs) 17 (textOf xs).length).reverse.map Int.ofNat), vb), (RInts ((front (textOf xs) 17 0).map Int.ofNat), vf)] s' →
      m (S "front") = some vf → m (S "back") = some vb → cm (S "far") = some vr → cm (S "near") = some vn →
      wpAny (model prog w) (A.deeper (env65 w.params L)) (execs ((bodyOf (fdOf (objAt w.params 65))).drop 4) (env65 w.params L)) (RetsTo s (RBool true)) (fun _ _ => False) s') :
    Fn prog w A h (.ref 65) [RScript xs] (RBool true) := by
  have hG := text_good (xs := xs)
  refine Fn.of [S "script"] (W.k _ _ (lk65 _)) (fd65 _) (bd65 _) W.lim (codeRec_of W.k (cd65 _)) rfl (Nat.lt_of_le_of_lt (Nat.le_add_right _ _) hroom) ?_ ?_ ?_
  · intro vs hvs
    obtain ⟨v, rfl⟩ := len1 hvs
    rfl
  · intro L y hy
    simp at hy; subst hy
    exact .inl (by rfl)
  · intro s s₁ vs k a F
    refine a.elim1 fun vsc e0 a1 => ?_
    subst e0
    replace a := a1
    clear a1
    have W₁ : Wd w mg mb s₁.heap := W.kp (k.trans F.base)
    generalize hL : s.heap.objs.size = L at F ⊢
    have hh' : (A.deeper (env65 w.params L)).handled = none := hh
    have hfr' : (A.deeper (env65 w.params L)).frames = some [env65 w.params L] := Around.frames_deeper hfr
    have hroom' : (A.deeper (env65 w.params L)).depth + 200 < recursionLimit := by show A.depth + 1 + 200 < recursionLimit; (first | assumption | decide | lia | omega)
    have hun' : (A.deeper (env65 w.params L)).units < 1000 := by show A.units + 3 < 1000; (first | assumption | decide | lia | omega)
    have hd0 : (A.deeper (env65 w.params L)).depth < recursionLimit := Nat.lt_of_le_of_lt (Nat.le_add_right _ _) hroom'
    -- kinds
    refine wpAny_execs_cons (wpAny_Assign_Name (EvP.dictZip (xd := S "dict") (xz := S "zip") (ks := ks48) (a := 7) (b := 55) hh' (W₁.blt (by rfl) (by rfl) (by rfl) (by rfl) (by rfl) (by rfl) (by rfl)) (W₁.blt (by rfl) (by rfl) (by rfl) (by rfl) (by rfl) (by rfl) (by rfl))
      (EvL.cons (Ev.meth (T := "str") (id := "str.split") Ev.str (EvL.cons Ev.str EvL.nil) split48 (fun s v hv => ?_) PySem.F.plainAttrs_str PySem.F.slot_str_split PySem.F.type_str_split)
        (EvL.cons (Ev.callT (n := S "range") (W₁.blt (by rfl) (by rfl) (by rfl) (by rfl) (by rfl) (by rfl) (by rfl)) (EvL.cons Ev.int (EvL.cons Ev.int EvL.nil)) Fn.range2 (by rfl)) EvL.nil))
      ks48_nodup (by decide) (by decide) (by rfl) (by rfl) ?_ (by rfl) (by rfl) (by rfl) (by rfl) (by rfl) (by rfl) s₁ _ _ Kp.rfl fun v s2 g2 y2 => ?_) (by rfl))
    · obtain ⟨t, rfl⟩ := hv
      exact ⟨typeIs_str s _ _, fun a e => by cases e⟩
    · obtain ⟨c, o, ho, hc⟩ := hsm
      exact ⟨c, o, F.base _ _ (k _ _ ho), hc⟩
    obtain ⟨hd, ad, rfl, nd⟩ := y2
    have old : ∀ b, b ∈ as65 L → ∃ o, s₁.heap.get? b = some o := by
      intro b hb
      have hc : ∀ n c, (env65 w.params L).cells.lookup n = some c → ∃ o, s₁.heap.get? c = some o := fun n c hc => by obtain ⟨o, ho, _⟩ := F.cell n c hc; exact ⟨o, ho⟩
      simp only [as65, List.mem_cons, List.not_mem_nil, or_false] at hb
      rcases hb with rfl | rfl | rfl | rfl | rfl | rfl | rfl
      · obtain ⟨o, _, _, ho, _⟩ := F.ns; exact ⟨o, ho⟩
      · exact hc (S "kinds") _ (by rfl)
      · exact hc (S "text") _ (by rfl)
      · exact hc (S "far") _ (by rfl)
      · exact hc (S "near") _ (by rfl)
      · exact hc (S "first") _ (by rfl)
      · exact hc (S "second") _ (by rfl)
    have fre : ∀ b, b ∈ as65 L → s.heap.get? b = none := by
      intro b hb
      refine Heap.get?_none_of_le ?_
      rw [hL]
      simp only [as65, List.mem_cons, List.not_mem_nil, or_false] at hb
      rcases hb with rfl | rfl | rfl | rfl | rfl | rfl | rfl
      · exact Nat.le_refl _
      all_goals exact Nat.le_add_right _ _
    have F2 := (F.gw g2).phantom (as65 L) (List.mem_cons_self) (in65 w.params L)
    have kB : Kp s.heap (hideAll s2.heap (as65 L)) := kp_hide (F.base.trans g2.kp) fre
    have rd : (RDict prog w kinds48).is (hideAll s2.heap (as65 L)) (.ref ad) := by
      obtain ⟨a, f, e, hne, ⟨o, es, ep, ho, hx, hd', hr⟩, hf⟩ := hd
      cases e
      refine ⟨ad, f, rfl, hne, ⟨o, es, ep, hideAll_get _ ho fun hm => ?_, hx, hd', hr⟩, hf⟩
      obtain ⟨o', ho'⟩ := old ad hm
      rw [nd] at ho'; cases ho'
    generalize hideAll s2.heap (as65 L) = hB' at F2 kB rd
    refine F2.stC (n := S "kinds") (c := L + 1) (by rfl) (by rfl) (by rfl) fun s3 F3 y3 => ?_
    -- text
    have k3 : Kp h s3.heap := (k.trans kB).trans F3.base
    have W3 : Wd w mg mb s3.heap := W.kp k3
    refine wpAny_execs_cons (F3.asgC (n := S "text") (c := L + 2) (r₁ := RStr (textOf xs)) (Ev.callF (n := S "_law_text") (f := 45) (W3.glob (by rfl) (by rfl) (by rfl) (by rfl)) (W3.k _ _ (lk45 _)) (fd45 _)
      (EvL.cons (Ev.name (n := S "script") (r₁ := RScript xs) (F3.ldL (by rfl) (by rfl) (by rfl)) (R.kp _ (kB.trans F3.base) a) (by rfl)) EvL.nil) ((text_fn W hse htr hh' hfr' hroom' hun' hxs).mono k3) (by rfl)) Ss.str (by rfl) (by rfl) (by rfl) fun v s4 F4 y4 hv => ?_)
    obtain ⟨tt, rfl⟩ := hv
    have k4 : Kp h s4.heap := (k.trans kB).trans F4.base
    have W4 : Wd w mg mb s4.heap := W.kp k4
    have n_text : ∀ {A'}, Nm prog w A' s4.heap (env65 w.params L) (S "text") (.str (textOf xs) tt) := F4.ldC (c := L + 2) (by rfl) up_self (by rfl) (by rfl)
    -- front, back
    refine wpAny_execs_cons (twoS (n1 := S "front") (n2 := S "back") hh' (Ev.tell (Ev.callF (n := S "_law_front") (f := 50) (W4.glob (by rfl) (by rfl) (by rfl) (by rfl)) (W4.k _ _ (lk50 _)) (fd50 _) (EvL.cons (Ev.nstr n_text) EvL.nil) ((front_fn W hh' hd0 hG).mono k4) (by rfl)))
      (Ev.tell (Ev.callF (n := S "_law_back") (f := 55) (W4.glob (by rfl) (by rfl) (by rfl) (by rfl)) (W4.k _ _ (lk55 _)) (fd55 _) (EvL.cons (Ev.nstr n_text) EvL.nil) ((back_fn W hh' hd0 hG).mono k4) (by rfl))) ?_ (by rfl) (by rfl) (by rfl) (by rfl))
    intro vf vb s5 s6 s7 g5 a5 g6 a6 g7
    have F7 := ((F4.gw g5).gw g6).gw g7
    have H7 : Held [(RInts ((back (textOf xs) 17 (textOf xs).length).reverse.map Int.ofNat), vb), (RInts ((front (textOf xs) 17 0).map Int.ofNat), vf)] s7.heap :=
      (Held.nil.add (R.kp _ (g6.kp.trans g7.kp) a5) Ss.ints).add (R.kp _ g7.kp a6) Ss.ints
    refine F7.stL (n := S "back") (by rfl) (by rfl) fun s8 F8 y8 => ?_
    refine F8.stL (n := S "front") (by rfl) (by rfl) fun s9 F9 y9 => ?_
    have H9 := (H7.sy y8).sy y9
    have k9 : Kp h s9.heap := (k.trans kB).trans F9.base
    have W9 : Wd w mg mb s9.heap := W.kp k9
    have n_text : ∀ {A'}, Nm prog w A' s9.heap (env65 w.params L) (S "text") (.str (textOf xs) tt) := F9.ldC (c := L + 2) (by rfl) up_self (by rfl) (by rfl)
    have n_kinds : ∀ {A'}, Nm prog w A' s9.heap (env65 w.params L) (S "kinds") (.ref ad) := F9.ldC (c := L + 1) (by rfl) (by rw [up_ne (by decide)]; exact up_self) (by rfl) (by rfl)
    -- far, near
    first | with_reducible refine wpAny_execs_cons ?_ | refine wpAny_execs_cons ?_
    refine twoU (n1 := S "far") (n2 := S "near") hh' (Ev.callF (n := S "_law_due") (f := 60) (W9.glob (by rfl) (by rfl) (by rfl) (by rfl)) (W9.k _ _ (lk60 _)) (fd60 _) (EvL.cons (Ev.nstr n_text) (EvL.cons (Ev.name n_kinds (R.kp _ F9.base rd) (by rfl)) EvL.nil)) ((due_fn W hh' hd0 hG kinds_exact).mono k9) (by rfl)) ?_ (by rfl) (by rfl)
    intro vr vn s10 g10 ar an
    refine (F9.gw g10).stC (n := S "far") (c := L + 3) (by rfl) (by rfl) (by rfl) fun s11 F11 y11 => ?_
    refine F11.stC (n := S "near") (c := L + 4) (by rfl) (by rfl) (by rfl) fun s12 F12 y12 => ?_
    have H12 := ((((H9.sy g10.kp.sy).add ar Ss.ints).add an Ss.ints).sy y11).sy y12
    refine hB L s _ s12 _ _ (.ref ad) vf vb vr vn k ⟨hB', rfl, kB⟩ ⟨F12, H12, rd, ?_, ⟨tt, ?_⟩⟩ ?_ ?_ ?_ ?_
    · rw [up_ne (by decide), up_ne (by decide), up_ne (by decide)]; exact up_self
    · rw [up_ne (by decide), up_ne (by decide)]; exact up_self
    · exact up_self
    · rw [up_ne (by decide)]; exact up_self
    · rw [up_ne (by decide)]; exact up_self
    · exact up_self
end
end Mine

-- Law19
namespace Mine
section
variable {prog : Program} {w : World} {A : Around} {h : Heap} {mg mb : Str → Option Value} {env : Env} {s : Shared} {E : Value → Shared → Prop} {outer : List Env}

theorem callZ {n : Str} {f : Addr} {o : Obj} {fd : FuncData} {e : Expr} {es : List Expr} {p pos : Pos} {rs : List R} {r : R} {Q : Value → Shared → Prop} (x : Nm prog w A s.heap env n (.ref f)) (ho : s.heap.get? f = some o) (hdat : o.data = .func fd) (y : EvL prog w A s.heap env pos (e :: es) rs)
    (z : FnZ prog w A h outer (.ref f) rs r) (k : Kp h s.heap) (fo : FrAt s.heap outer) (q : ∀ v s1 s', Gw s s1 → Zt outer s1 s' → r.is s'.heap v → Q v s')
    (hd : (n == ("__debug__" : Str)) = false := by rfl) (he : starEach (e :: es) env = (false, eval e env) :: starEach es env := by rfl) :
    wpAny (model prog w) A (eval (.Call (.Name n p) (e :: es) [] pos) env) Q E s :=
  wpAny_Call_NameR (wpAny_Name (x s _ E Kp.rfl (callWith_def hdat (y s _ E Kp.rfl fun vs s₁ g₁ a₁ => ⟨g₁.kp _ _ ho, z s₁ vs Q E (k.trans g₁.kp) a₁ (fo.kp g₁.kp) fun v s' zt a => q v s₁ s' g₁ zt a⟩) he)) hd)

theorem zt65 {P : Params} {L : Addr} {sB s1 s' : Shared} {m cm : Str → Option Value} (F : FS (env65 P L) sB m cm (fun _ _ => False) s1) (z : Zt [env65 P L] s1 s') : FS (env65 P L) sB m cm (fun _ _ => False) s' ∧ Sy s1.heap s'.heap := by
  obtain ⟨h', t, rfl, z⟩ := z
  have fr : FrAt s1.heap [env65 P L] := F.fr (outer := []) (fr65 P L) (fk65 P L) trivial
  obtain ⟨s₁, r, F'⟩ := F.mz (t := t) F.anch fr z
  have hn : ∀ b ∈ frs [env65 P L], sB.heap.get? b = none := by
    intro b hb
    have : b = L := by simpa [frs, fr65] using hb
    subst this; exact F.fresh.1
  have kk := r.kp Kp.rfl hn
  obtain ⟨h₁, rfl, _, _⟩ := r
  exact ⟨F'.rebase (by rfl) kk, mv_sy fr z⟩
theorem fro65 {P : Params} {L : Addr} {sB s1 : Shared} {m cm : Str → Option Value} {K : Addr → Obj → Prop} (F : FS (env65 P L) sB m cm K s1) : FrAt s1.heap [env65 P L] := F.fr (outer := []) (fr65 P L) (fk65 P L) trivial
theorem frs65 {P : Params} {L : Addr} {hB : Heap} (e : hB.get? L = none) : ∀ b ∈ frs [env65 P L], hB.get? b = none := by
  intro b hb
  have : b = L := by simpa [frs, fr65] using hb
  subst this; exact e

/- xs[:-1] -/
theorem Ev.init {value : Expr} {ps p1 p2 pos : Pos} {kk : Nat} {l : List Int} (x : Ev prog w A s.heap env value (RInts l)) (hsz : l.length ≤ sizeLine) (ht : ∀ o r, letTemporaryGo value o r = pure () := by intro _ _; rfl) :
    Ev prog w A s.heap env (.Subscript value (.Slice none (some (.UnaryOp .USub (.Constant (.int 1) kk p1) p2)) none ps) pos) (RInts (l.take (l.length - 1))) := by
  refine Ev.slice (rs := l.map RInt) (li := none) (ui := some (-1)) x .none (.int (Ev.neg Ev.int)) (by simpa using hsz) (rs' := (l.take (l.length - 1)).map RInt) ?_ ht
  intro h vs hall
  have hlen := hall.len
  have := slicePick_butLast vs.toArray 1 (Nat.le_refl _)
  rw [show (-1 : Int) = -((1 : Nat) : Int) by rfl, this]
  simp only [List.size_toArray, hlen, List.length_map]
  rw [List.map_take]
  exact hall.take _

theorem notin_eq {B : List Int} : (fun k => !(B.any (· == k))) = (fun k : Int => !B.contains k) := by
  funext k
  congr 1
  rw [Bool.eq_iff_iff]
  simp

/- [k for k in far if k not in near] -/
theorem TLoc.intsL {x : Str} {l : List Int} {C : Addr} {i : Nat} {h₁ : Heap} (q : TLoc x (l.map RInt) C i h₁) : ∃ t m, h₁.Ns C m ∧ m x = some (.int (l.getD i 0) t) := by
  obtain ⟨r, v, m, hr, hv, hn, hm⟩ := q
  rw [List.getElem?_map] at hr
  cases e : l[i]? with
  | none => rw [e] at hr; cases hr
  | some j =>
    rw [e] at hr; cases hr
    obtain ⟨t, rfl⟩ := hv
    refine ⟨t, m, hn, ?_⟩
    rw [hm, List.getD_eq_getElem?_getD, e]; rfl
end
end Mine

-- Law20
namespace Mine
section
variable {prog : Program} {w : World} {A : Around} {h : Heap} {mg mb : Str → Option Value} {s : Shared} {E : Value → Shared → Prop} {x : Str} {n : Nat} {c c' : Nat → Nat} {fr bk : List Int} {L : Addr} {sB s' : Shared} {m cm : Str → Option Value} {kd vf vb vr vn : Value}

theorem Tr.to {env : Env} {e : Expr} {b b' : Bool} (q : b = b') (t : Tr prog w A h env e b) : Tr prog w A h env e b' := q ▸ t

theorem law_b (W : Wd w mg mb h) (hh : A.handled = none) (hfr : A.frames = some [env65 w.params L]) (hroom : A.depth + 200 < recursionLimit) (hun : A.units < 1000) (CF : CutL x n c fr) (CB : CutL x n c' bk) (hge : ∀ i, i ≤ n → c' i ≤ c i) (k : Kp h sB.heap)
    (Z : L4 prog w L sB x kd m cm [(RInts bk, vn), (RInts fr, vr), (RInts bk, vb), (RInts fr, vf)] s') (hmf : m (S "front") = some vf) (hmb : m (S "back") = some vb) (hcr : cm (S "far") = some vr) (hcn : cm (S "near") = some vn) {Q : Flow → Shared → Prop}
    (hC : ∀ m' s'', L4 prog w L sB x kd m' cm [(RInts bk, vn), (RInts fr, vr), (RInts bk, vb), (RInts fr, vf)] s'' → m' (S "front") = some vf → m' (S "back") = some vb →
      wpAny (model prog w) A (execs ((bodyOf (fdOf (objAt w.params 65))).drop 9) (env65 w.params L)) Q E s'') :
    wpAny (model prog w) A (execs ((bodyOf (fdOf (objAt w.params 65))).drop 4) (env65 w.params L)) Q E s' := by
  have hu : A.units < 9000 := Nat.lt_trans hun (by decide)
  have hd0 : A.depth < recursionLimit := Nat.lt_of_le_of_lt (Nat.le_add_right _ _) hroom
  have hz : sizeLine = 16777216 := rfl
  have lf := CF.len
  have lb := CB.len
  have hle := CF.le
  have zF : fr.length ≤ sizeLine := lf ▸ Nat.le_trans hle (by decide)
  have zB : bk.length ≤ sizeLine := lb ▸ Nat.le_trans hle (by decide)
  have F := Z.F
  have H := Z.H
  have nB := F.fresh.1
  have W₀ : Wd w mg mb sB.heap := W.kp k
  have n_f : ∀ {A'}, Nm prog w A' s'.heap (env65 w.params L) (S "front") vf := F.ldL hmf (by rfl) (by rfl)
  have n_b : ∀ {A'}, Nm prog w A' s'.heap (env65 w.params L) (S "back") vb := F.ldL hmb (by rfl) (by rfl)
  have n_r : ∀ {A'}, Nm prog w A' s'.heap (env65 w.params L) (S "far") vr := F.ldC (c := L + 3) (by rfl) hcr (by rfl) (by rfl)
  have n_n : ∀ {A'}, Nm prog w A' s'.heap (env65 w.params L) (S "near") vn := F.ldC (c := L + 4) (by rfl) hcn (by rfl) (by rfl)
  -- front != far or back != near
  first | with_reducible refine wpAny_execs_cons ?_ | refine wpAny_execs_cons ?_
  refine wpAny_If (Tr.go (b := false) (Tr.to (b := !decide (fr = fr) || !decide (bk = bk)) (by simp) (Tr.or2 (Tr.cmp (Ev.name n_f (H.at 3) (by rfl)) (Ev.name n_r (H.at 1) (by rfl)) (Cm.neInts hu)) fun _ => Tr.cmp (Ev.name n_b (H.at 2) (by rfl)) (Ev.name n_n (H.at 0) (by rfl)) (Cm.neInts hu))) fun s1 g1 => ?_)
  simp only [Bool.false_eq_true, if_false]
  refine wpAny_execs_nil ?_
  replace F := F.gw g1
  replace H := H.sy g1.kp.sy
  clear n_f n_b n_r n_n
  -- mine, other
  have n_f : ∀ {A'}, Nm prog w A' s1.heap (env65 w.params L) (S "front") vf := F.ldL hmf (by rfl) (by rfl)
  have n_b : ∀ {A'}, Nm prog w A' s1.heap (env65 w.params L) (S "back") vb := F.ldL hmb (by rfl) (by rfl)
  have n_r : ∀ {A'}, Nm prog w A' s1.heap (env65 w.params L) (S "far") vr := F.ldC (c := L + 3) (by rfl) hcr (by rfl) (by rfl)
  have n_n : ∀ {A'}, Nm prog w A' s1.heap (env65 w.params L) (S "near") vn := F.ldC (c := L + 4) (by rfl) hcn (by rfl) (by rfl)
  have c_r := F.cell (S "far") (L + 3) (by rfl)
  have c_n := F.cell (S "near") (L + 4) (by rfl)
  rw [hcr] at c_r
  rw [hcn] at c_n
  have hsc : ∀ l : List Int, ∀ r ∈ l.map RInt, Sc r := by intro l r hr; obtain ⟨i, _, rfl⟩ := List.mem_map.mp hr; exact Sc.int
  refine wpAny_execs_cons (twoS (n1 := S "mine") (n2 := S "other") hh
    (EvP.req (comp_filter (fun k => !(bk.any (· == k))) fr) (by
      rw [← List.length_map (f := RInt) (as := fr)]
      exact EvP.comp (cl := [(S "near", L + 4)]) (items := fr.map RInt) (b := fun i => !(bk.any (· == fr.getD i 0))) (f := fun i => RInt (fr.getD i 0)) (Src.list hh (Ev.name n_r (H.at 1) (by rfl))) (Target.loc (by rfl) (by rfl) (hsc fr))
        (fun C i h₁ hi ht kh => by
          obtain ⟨t, mm, hn, hm⟩ := ht.intsL
          exact Tests.one (Tr.cmp (Ev.nint (Nm.local hn hm (by rfl) (by rfl))) (Ev.name (Nm.cell (by rfl) (c_n.keeps kh) (by rfl) (by rfl)) (R.kp _ kh (H.at 0)) (by rfl)) Cm.notInInts))
        (fun C i h₁ hi hb ht kh => by
          obtain ⟨t, mm, hn, hm⟩ := ht.intsL
          exact Ev.nint (Nm.local hn hm (by rfl) (by rfl)))
        (fun _ => Sc.int) (by rw [List.length_map]; exact zF) (by rfl) (by rfl) (by decide +kernel)))
    (EvP.req (comp_filter (fun k => !(fr.any (· == k))) bk) (by
      rw [← List.length_map (f := RInt) (as := bk)]
      exact EvP.comp (cl := [(S "far", L + 3)]) (items := bk.map RInt) (b := fun i => !(fr.any (· == bk.getD i 0))) (f := fun i => RInt (bk.getD i 0)) (Src.list hh (Ev.name n_n (H.at 0) (by rfl))) (Target.loc (by rfl) (by rfl) (hsc bk))
        (fun C i h₁ hi ht kh => by
          obtain ⟨t, mm, hn, hm⟩ := ht.intsL
          exact Tests.one (Tr.cmp (Ev.nint (Nm.local hn hm (by rfl) (by rfl))) (Ev.name (Nm.cell (by rfl) (c_r.keeps kh) (by rfl) (by rfl)) (R.kp _ kh (H.at 1)) (by rfl)) Cm.notInInts))
        (fun C i h₁ hi hb ht kh => by
          obtain ⟨t, mm, hn, hm⟩ := ht.intsL
          exact Ev.nint (Nm.local hn hm (by rfl) (by rfl)))
        (fun _ => Sc.int) (by rw [List.length_map]; exact zB) (by rfl) (by rfl) (by decide +kernel))) ?_ (by rfl) (by rfl) (by rfl) (by rfl))
  rintro _ _ s2 s3 s4 g2 ⟨aM, vsM, rfl, nM, lM, allM⟩ g3 ⟨aO, vsO, rfl, nO, lO, allO⟩ g4
  rw [notin_eq] at allM allO
  have F4 := ((F.gw g2).gw g3).gw g4
  have iM : (RInts (fr.filter fun k => !bk.contains k)).is s2.heap (.ref aM) := ⟨aM, vsM, rfl, lM, allM⟩
  have iO : (RInts (bk.filter fun k => !fr.contains k)).is s3.heap (.ref aO) := ⟨aO, vsO, rfl, lO, allO⟩
  have H4 := ((H.sy ((g2.kp.trans g3.kp).trans g4.kp).sy).add (R.kp _ (g3.kp.trans g4.kp) iM) Ss.ints).add (R.kp _ g4.kp iO) Ss.ints
  refine F4.stL (n := S "other") (by rfl) (by rfl) fun s5 F5 y5 => ?_
  refine F5.stL (n := S "mine") (by rfl) (by rfl) fun s6 F6 y6 => ?_
  have H6 := (H4.sy y5).sy y6
  have mf6 : up (up m (S "other") (.ref aO)) (S "mine") (.ref aM) (S "front") = some vf := by rw [up_ne (by decide), up_ne (by decide)]; exact hmf
  have mb6 : up (up m (S "other") (.ref aO)) (S "mine") (.ref aM) (S "back") = some vb := by rw [up_ne (by decide), up_ne (by decide)]; exact hmb
  have mm6 : up (up m (S "other") (.ref aO)) (S "mine") (.ref aM) (S "mine") = some (.ref aM) := up_self
  have mo6 : up (up m (S "other") (.ref aO)) (S "mine") (.ref aM) (S "other") = some (.ref aO) := by rw [up_ne (by decide)]; exact up_self
  generalize up (up m (S "other") (.ref aO)) (S "mine") (.ref aM) = m6 at *
  have sf : (fr.take (fr.length - 1)).Pairwise (· < ·) := CF.sorted.sublist (List.take_sublist _ _)
  have sb : (bk.take (bk.length - 1)).Pairwise (· < ·) := CB.sorted.sublist (List.take_sublist _ _)
  have zf : (fr.take (fr.length - 1)).length ≤ 1000 := Nat.le_trans (List.length_take_le' _ _) (lf ▸ Nat.le_trans hle (by decide))
  have zb : (bk.take (bk.length - 1)).length ≤ 1000 := Nat.le_trans (List.length_take_le' _ _) (lb ▸ Nat.le_trans hle (by decide))
  -- sorted_list_difference
  have W6 : Wd w mg mb s6.heap := W₀.kp F6.base
  refine wpAny_execs_cons (wpAny_If (wpAny_isTrue_Compare1 (callZ (n := S "sorted_list_difference") (f := 21) (W6.glob (by rfl) (by rfl) (by rfl) (by rfl)) (W6.k _ _ (lk21 _)) (fd21 _)
    (EvL.cons (Ev.init (Ev.name (F6.ldL mf6 (by rfl) (by rfl)) (H6.at 5) (by rfl)) zF) (EvL.cons (Ev.init (Ev.name (F6.ldL mb6 (by rfl) (by rfl)) (H6.at 4) (by rfl)) zB) EvL.nil))
    (sld_fn W₀ (frs65 nB) hfr hh hd0 sf sb zf zb) F6.base (fro65 F6) (fun v s7 s8 g7 z7 a7 => ?_) (by rfl) (by rfl)) (by rfl)))
  obtain ⟨F8, y8⟩ := zt65 (F6.gw g7) z7
  have H8 := (H6.sy g7.kp.sy).sy y8
  rw [lf, lb, CF.diff CB, CB.diff CF] at a7
  refine Ev.go (Ev.tuple (rs := [RInts (fr.filter fun k => !bk.contains k), RInts (bk.filter fun k => !fr.contains k)]) (EvL.cons (Ev.name (F8.ldL mm6 (by rfl) (by rfl)) (H8.at 1) (by rfl)) (EvL.cons (Ev.name (F8.ldL mo6 (by rfl) (by rfl)) (H8.at 0) (by rfl)) EvL.nil)) (show 2 ≤ sizeLine by decide)) fun v9 s9 g9 a9 => ?_
  refine Cm.neTwo hu s9 v v9 _ _ Kp.rfl (R.kp _ g9.kp a7) a9 fun s10 g10 => wpAny_truthy_bool ?_
  simp only [decide_true, Bool.and_self, Bool.not_true, Bool.false_eq_true, if_false]
  refine wpAny_execs_nil ?_
  have F10 := (F8.gw g9).gw g10
  have H10 := H8.sy (g9.kp.trans g10.kp).sy
  -- the other way round
  have W10 : Wd w mg mb s10.heap := W₀.kp F10.base
  refine wpAny_execs_cons (wpAny_If (wpAny_isTrue_Compare1 (callZ (n := S "sorted_list_difference") (f := 21) (W10.glob (by rfl) (by rfl) (by rfl) (by rfl)) (W10.k _ _ (lk21 _)) (fd21 _)
    (EvL.cons (Ev.init (Ev.name (F10.ldL mb6 (by rfl) (by rfl)) (H10.at 4) (by rfl)) zB) (EvL.cons (Ev.init (Ev.name (F10.ldL mf6 (by rfl) (by rfl)) (H10.at 5) (by rfl)) zF) EvL.nil))
    (sld_fn W₀ (frs65 nB) hfr hh hd0 sb sf zb zf) F10.base (fro65 F10) (fun v s11 s12 g11 z11 a11 => ?_) (by rfl) (by rfl)) (by rfl)))
  obtain ⟨F12, y12⟩ := zt65 (F10.gw g11) z11
  have H12 := (H10.sy g11.kp.sy).sy y12
  rw [lf, lb, CF.diff CB, CB.diff CF] at a11
  refine Ev.go (Ev.tuple (rs := [RInts (bk.filter fun k => !fr.contains k), RInts (fr.filter fun k => !bk.contains k)]) (EvL.cons (Ev.name (F12.ldL mo6 (by rfl) (by rfl)) (H12.at 0) (by rfl)) (EvL.cons (Ev.name (F12.ldL mm6 (by rfl) (by rfl)) (H12.at 1) (by rfl)) EvL.nil)) (show 2 ≤ sizeLine by decide)) fun v13 s13 g13 a13 => ?_
  refine Cm.neTwo hu s13 v v13 _ _ Kp.rfl (R.kp _ g13.kp a11) a13 fun s14 g14 => wpAny_truthy_bool ?_
  simp only [decide_true, Bool.and_self, Bool.not_true, Bool.false_eq_true, if_false]
  refine wpAny_execs_nil ?_
  have F14 := (F12.gw g13).gw g14
  have H14 := H12.sy (g13.kp.trans g14.kp).sy
  have W14 : Wd w mg mb s14.heap := W₀.kp F14.base
  have kh14 : Kp h s14.heap := k.trans F14.base
  -- three_way_cmp
  have n_f : ∀ {A'}, Nm prog w A' s14.heap (env65 w.params L) (S "front") vf := F14.ldL mf6 (by rfl) (by rfl)
  have n_b : ∀ {A'}, Nm prog w A' s14.heap (env65 w.params L) (S "back") vb := F14.ldL mb6 (by rfl) (by rfl)
  have n_r : ∀ {A'}, Nm prog w A' s14.heap (env65 w.params L) (S "far") vr := F14.ldC (c := L + 3) (by rfl) hcr (by rfl) (by rfl)
  have n_n : ∀ {A'}, Nm prog w A' s14.heap (env65 w.params L) (S "near") vn := F14.ldC (c := L + 4) (by rfl) hcn (by rfl) (by rfl)
  refine wpAny_execs_cons (wpAny_If (Tr.go (b := false) (Tr.to (b := !decide ([b2i (lexLt bk fr) - b2i (lexLt fr bk), b2i (lexLt fr bk) - b2i (lexLt bk fr)] = (if fr = bk then [0, 0] else [1, -1]))) ?cmp (Tr.cmp
    (Ev.list (rs := [RInt (b2i (lexLt bk fr) - b2i (lexLt fr bk)), RInt (b2i (lexLt fr bk) - b2i (lexLt bk fr))]) (EvL.cons (Ev.callF (n := S "three_way_cmp") (f := 35) (W14.glob (by rfl) (by rfl) (by rfl) (by rfl)) (W14.k _ _ (lk35 _)) (fd35 _) (EvL.cons (Ev.name n_f (H14.at 5) (by rfl)) (EvL.cons (Ev.name n_b (H14.at 4) (by rfl)) EvL.nil)) ((cmp3_fn W hd0 hun).mono kh14) (by rfl))
      (EvL.cons (Ev.callF (n := S "three_way_cmp") (f := 35) (W14.glob (by rfl) (by rfl) (by rfl) (by rfl)) (W14.k _ _ (lk35 _)) (fd35 _) (EvL.cons (Ev.name n_b (H14.at 4) (by rfl)) (EvL.cons (Ev.name n_f (H14.at 5) (by rfl)) EvL.nil)) ((cmp3_fn W hd0 hun).mono kh14) (by rfl)) EvL.nil)) (show 2 ≤ sizeLine by decide))
    (Ev.ifexp (r₁ := RInts (if fr = bk then [0, 0] else [1, -1])) (x := decide (fr = bk)) (Tr.cmp (Ev.name n_r (H14.at 3) (by rfl)) (Ev.name n_n (H14.at 2) (by rfl)) (Cm.eqInts hu))
      (fun e => ?yes) (fun e => ?no)) (Cm.neInts (xs := [b2i (lexLt bk fr) - b2i (lexLt fr bk), b2i (lexLt fr bk) - b2i (lexLt bk fr)]) (ys := if fr = bk then [0, 0] else [1, -1]) hu))) fun s15 g15 => ?_))
  case yes =>
    rw [if_pos (by simpa using e)]
    exact Ev.list (rs := [RInt 0, RInt 0]) (EvL.cons Ev.int (EvL.cons Ev.int EvL.nil)) (show 2 ≤ sizeLine by decide)
  case no =>
    rw [if_neg (by simpa using e)]
    exact Ev.list (rs := [RInt 1, RInt (-1)]) (EvL.cons Ev.int (EvL.cons (Ev.neg Ev.int) EvL.nil)) (show 2 ≤ sizeLine by decide)
  case cmp =>
    rcases CF.cmp CB hge with ⟨e1, e2, e3⟩ | ⟨e1, e2, e3⟩
    · rw [e2, e3, if_pos e1]; rfl
    · rw [e2, e3, if_neg e1]; rfl
  simp only [Bool.false_eq_true, if_false]
  refine wpAny_execs_nil ?_
  have H15 := H14.sy g15.kp.sy
  exact hC m6 s15 ⟨F14.gw g15, fun p hp => H15 p (.tail _ (.tail _ hp)), Z.rd, Z.ck, Z.ct⟩ mf6 mb6
end
end Mine

-- Law21
namespace Mine
noncomputable def kindAt (x : Str) (a b : Nat) : Int := (exact.lookup (sub x a b)).getD 0
noncomputable def nums (x : Str) (n : Nat) (c : Nat → Nat) : List Int := (List.range n).map fun i => kindAt x (c i) (c (i + 1))
theorem kind_look {x : Str} {a b : Nat} (h : isTok x a b = true) : exact.lookup (sub x a b) = some (kindAt x a b) := by
  unfold isTok at h
  unfold kindAt
  cases e : exact.lookup (sub x a b) with
  | none => rw [e] at h; cases h
  | some i => rfl
theorem nums_r {x : Str} {n : Nat} {c : Nat → Nat} : (((List.range ((List.range n).map fun i => RPair ((c i : Nat) : Int) ((c (i + 1) : Nat) : Int)).length).filter fun _ => true).map fun i => RInt (kindAt x (c i) (c (i + 1)))) = (nums x n c).map RInt := by
  unfold nums
  rw [List.filter_eq_self.mpr (fun _ _ => rfl), List.map_map, List.length_map, List.length_range]
  rfl

section
variable {prog : Program} {w : World} {A : Around} {h : Heap} {env : Env} {x : Str} {n : Nat} {c : Nat → Nat} {l : List Int}

theorem zip_src {nf : Str} {v : Value} {pa pb tp p p0 p1 p2 p3 p4 pos : Pos} {kk k0 : Nat} (hh : A.handled = none) (C : CutL x n c l) (nz : Nm prog w A h env (S "zip") (.type "zip")) (nl : Nm prog w A h env nf v) (hv : (RInts l).is h v) (hd : (nf == ("__debug__" : Str)) = false := by rfl) :
    Src prog w A h env (.Tuple [.Name (S "a") pa, .Name (S "b") pb] kk tp) (.Call (.Name (S "zip") p) [.BinOp (.List [.Constant (.int 0) k0 p0] p1) .Add (.Name nf p2) p3, .Name nf p4] [] pos) ((List.range n).map fun i => RPair ((c i : Nat) : Int) ((c (i + 1) : Nat) : Int)) := by
  have hl := C.len
  have hle := C.le
  have := Src.zip (prog := prog) (w := w) (A := A) (h := h) (env := env) (x := S "zip") (elts := [.Name (S "a") pa, .Name (S "b") pb]) (kk := kk) (tp := tp) (p := p) (pos := pos) (xs := 0 :: l) (ys := l) hh nz
    (EvL.cons (Ev.bin (p := p3) (r₃ := RInts (0 :: l)) (Ev.list (rs := [RInt 0]) (p := p1) (EvL.cons (Ev.int (k := k0) (p := p0)) EvL.nil) (show 1 ≤ sizeLine by decide)) (Ev.name (p := p2) nl hv hd) (Bn.addL (rs := [RInt 0]) (rs' := l.map RInt) (by simp; (first | assumption | decide | lia | omega)))) (EvL.cons (Ev.name (p := p4) nl hv hd) EvL.nil))
  have e : ((List.range (min (0 :: l).length l.length)).map fun i => RPair (((0 : Int) :: l).getD i 0) (l.getD i 0)) = ((List.range n).map fun i => RPair ((c i : Nat) : Int) ((c (i + 1) : Nat) : Int)) := by
    rw [show min (0 :: l).length l.length = n by simp [hl]]
    refine List.map_congr_left fun i hi => ?_
    have hi := List.mem_range.mp hi
    rw [C.get0 hi, C.get hi]
  rw [e] at this
  exact this

/- D[text[a:b]] -/
theorem nums_elt {D : Expr} {kv : List (Str × Int)} {t : Tok} {pt pa pb ps p1 p2 : Pos} {C : Addr} {i : Nat} (CC : CutL x n c l) (hi : i < n) (hkv : ∀ y, kv.lookup y = exact.lookup y) (hsz : x.length ≤ 16) (hD : Ev prog w A h env D (RDict prog w kv)) (hT : Nm prog w A h env (S "text") (.str x t))
    (ta : ∃ t, Nm prog w A h env (S "a") (.int ((c i : Nat) : Int) t)) (tb : ∃ t, Nm prog w A h env (S "b") (.int ((c (i + 1) : Nat) : Int) t)) :
    Ev prog w A h env (.Subscript D (.Subscript (.Name (S "text") pt) (.Slice (some (.Name (S "a") pa)) (some (.Name (S "b") pb)) none ps) p1) p2) (RInt (kindAt x (c i) (c (i + 1)))) := by
  obtain ⟨t1, na⟩ := ta
  obtain ⟨t2, nb⟩ := tb
  have := CC.up i hi
  have hz : sizeLine = 16777216 := rfl
  exact Ev.ditem hD (Ev.sslice (a := c i) (b := c (i + 1)) (Ev.nstr hT) (Ev.nint na) (Ev.nint nb) (by (first | assumption | decide | lia | omega)) (CC.le_n (by (first | assumption | decide | lia | omega))) (by (first | assumption | decide | lia | omega))) ((hkv _).trans (kind_look (CC.tk i hi)))
end

theorem used_sy {env : Env} {sB s s' : Shared} {m cm : Str → Option Value} {K : Addr → Obj → Prop} (F : FS env sB m cm K s) (k : ∀ b o, b ≠ env.locals → s.heap.get? b = some o → s'.heap.get? b = some o) : Sy s.heap s'.heap := fun b o e nv => k b o (fun q => by
  obtain ⟨o', es, ep, ho, hd, _⟩ := F.ns
  subst q; rw [e] at ho; cases ho; exact nv (.inl ⟨_, _, hd⟩)) e

section
variable {prog : Program} {w : World} {A : Around} {h : Heap} {mg mb : Str → Option Value} {s : Shared} {E : Value → Shared → Prop} {x : Str} {n : Nat} {c c' : Nat → Nat} {fr bk : List Int} {L : Addr} {sB s' : Shared} {m cm : Str → Option Value} {kd vf vb vr vn : Value}

theorem law_c (W : Wd w mg mb h) (hh : A.handled = none) (hun : A.units < 1000) (hx : x.length ≤ 16) (CF : CutL x n c fr) (CB : CutL x n c' bk) (k : Kp h sB.heap)
    (Z : L4 prog w L sB x kd m cm [(RInts bk, vn), (RInts fr, vr), (RInts bk, vb), (RInts fr, vf)] s') (hmf : m (S "front") = some vf) (hmb : m (S "back") = some vb) (hcr : cm (S "far") = some vr) (hcn : cm (S "near") = some vn) {Q : Flow → Shared → Prop}
    (hC : ∀ m' cm' s'' aA aB v1 v2, FS (env65 w.params L) sB m' cm' (fun _ _ => False) s'' → Held [(RInts (nums x n c'), v2), (RInts (nums x n c), v1), (RInts (nums x n c'), .ref aB), (RInts (nums x n c), .ref aA)] s''.heap →
      m' (S "ahead") = some (.ref aA) → m' (S "behind") = some (.ref aB) → cm' (S "first") = some v1 → cm' (S "second") = some v2 → aA ≠ aB → sB.heap.get? aA = none → sB.heap.get? aB = none →
      wpAny (model prog w) A (execs ((bodyOf (fdOf (objAt w.params 65))).drop 14) (env65 w.params L)) Q E s'') :
    wpAny (model prog w) A (execs ((bodyOf (fdOf (objAt w.params 65))).drop 9) (env65 w.params L)) Q E s' := by
  have hu : A.units < 9000 := by (first | assumption | decide | lia | omega)
  have hz : sizeLine = 16777216 := rfl
  have hle := CF.le
  have F := Z.F
  have H := Z.H
  obtain ⟨tt, hct⟩ := Z.ct
  have hck := Z.ck
  have W₀ : Wd w mg mb sB.heap := W.kp k
  have lenR : ∀ c : Nat → Nat, ((List.range n).map fun i => RPair ((c i : Nat) : Int) ((c (i + 1) : Nat) : Int)).length = n := fun c => by simp
  -- ahead
  have c_t := F.cell (S "text") (L + 2) (by rfl)
  rw [hct] at c_t
  have W1 : Wd w mg mb s'.heap := W₀.kp F.base
  refine wpAny_execs_cons (F.used (y := S "ahead") (cl := [(S "text", L + 2)]) (items := (List.range n).map fun i => RPair ((c i : Nat) : Int) ((c (i + 1) : Nat) : Int)) (b := fun _ => true) (f := fun i => RInt (kindAt x (c i) (c (i + 1))))
    (zip_src (nf := S "front") hh CF (W1.blt (by rfl) (by rfl) (by rfl) (by rfl) (by rfl) (by rfl) (by rfl)) (F.ldL hmf (by rfl) (by rfl)) (H.at 3)) (Target.two hh (by rfl) (by rfl) (by decide) (by rfl))
    (fun C i h₁ hi ht kh => Tests.nil)
    (fun C i h₁ hi hb ht kh => by
      obtain ⟨mm, t, u, hn, ha, hb⟩ := ht
      have W2 := W1.kp kh
      exact nums_elt (C := C) CF (by simpa using hi) (fun _ => rfl) hx (Ev.name (n := S "EXACT_TOKEN_TYPES") (v := .ref 36) (W2.glob (by rfl) (by rfl) (by rfl) (by rfl)) (exact_is W2) (by rfl)) (Nm.cell (by rfl) (c_t.keeps kh) (by rfl) (by rfl)) ⟨t, Nm.local hn ha (by rfl) (by rfl)⟩ ⟨u, Nm.local hn hb (by rfl) (by rfl)⟩)
    (fun _ => Sc.int) (by rw [lenR]; (first | assumption | decide | lia | omega)) (by rfl) (by rfl) (by decide +kernel) (by rfl) (by rfl) ?_ (by rfl))
  intro aA vA s1 F1 k1 nA lA allA
  rw [nums_r] at allA
  have y1 := used_sy F k1
  have H1 := (H.sy y1).add (r := RInts (nums x n c)) (v := .ref aA) ⟨aA, vA, rfl, lA, allA⟩ Ss.ints
  have nAB : sB.heap.get? aA = none := by
    cases q : sB.heap.get? aA with
    | none => rfl
    | some o => rw [F.base _ _ q] at nA; cases nA
  -- behind
  have c_t := F1.cell (S "text") (L + 2) (by rfl)
  rw [hct] at c_t
  have W1 : Wd w mg mb s1.heap := W₀.kp F1.base
  refine wpAny_execs_cons (F1.used (y := S "behind") (cl := [(S "text", L + 2)]) (items := (List.range n).map fun i => RPair ((c' i : Nat) : Int) ((c' (i + 1) : Nat) : Int)) (b := fun _ => true) (f := fun i => RInt (kindAt x (c' i) (c' (i + 1))))
    (zip_src (nf := S "back") hh CB (W1.blt (by rfl) (by rfl) (by rfl) (by rfl) (by rfl) (by rfl) (by rfl)) (F1.ldL (by rw [up_ne (by decide)]; exact hmb) (by rfl) (by rfl)) (H1.at 3)) (Target.two hh (by rfl) (by rfl) (by decide) (by rfl))
    (fun C i h₁ hi ht kh => Tests.nil)
    (fun C i h₁ hi hb ht kh => by
      obtain ⟨mm, t, u, hn, ha, hb⟩ := ht
      have W2 := W1.kp kh
      exact nums_elt (C := C) CB (by simpa using hi) (fun _ => rfl) hx (Ev.name (n := S "EXACT_TOKEN_TYPES") (v := .ref 36) (W2.glob (by rfl) (by rfl) (by rfl) (by rfl)) (exact_is W2) (by rfl)) (Nm.cell (by rfl) (c_t.keeps kh) (by rfl) (by rfl)) ⟨t, Nm.local hn ha (by rfl) (by rfl)⟩ ⟨u, Nm.local hn hb (by rfl) (by rfl)⟩)
    (fun _ => Sc.int) (by rw [lenR]; (first | assumption | decide | lia | omega)) (by rfl) (by rfl) (by decide +kernel) (by rfl) (by rfl) ?_ (by rfl))
  intro aB vB s2 F2 k2 nB lB allB
  rw [nums_r] at allB
  have y2 := used_sy F1 k2
  have H2 := (H1.sy y2).add (r := RInts (nums x n c')) (v := .ref aB) ⟨aB, vB, rfl, lB, allB⟩ Ss.ints
  have nBB : sB.heap.get? aB = none := by
    cases q : sB.heap.get? aB with
    | none => rfl
    | some o => rw [F1.base _ _ q] at nB; cases nB
  have hne : aA ≠ aB := fun q => by subst q; obtain ⟨_, e⟩ := lA; rw [nB] at e; cases e
  -- first
  have c_t := F2.cell (S "text") (L + 2) (by rfl)
  rw [hct] at c_t
  have c_k := F2.cell (S "kinds") (L + 1) (by rfl)
  rw [hck] at c_k
  have W2 : Wd w mg mb s2.heap := W₀.kp F2.base
  refine wpAny_execs_cons (F2.asgC (n := S "first") (c := L + 5) (r₁ := RInts (nums x n c)) (Ev.req (congrArg RList nums_r) (Ev.comp (cl := [(S "text", L + 2), (S "kinds", L + 1)]) (items := (List.range n).map fun i => RPair ((c i : Nat) : Int) ((c (i + 1) : Nat) : Int)) (b := fun _ => true) (f := fun i => RInt (kindAt x (c i) (c (i + 1))))
    (zip_src (nf := S "far") hh CF (W2.blt (by rfl) (by rfl) (by rfl) (by rfl) (by rfl) (by rfl) (by rfl)) (F2.ldC (c := L + 3) (by rfl) hcr (by rfl) (by rfl)) (H2.at 3)) (Target.two hh (by rfl) (by rfl) (by decide) (by rfl))
    (fun C i h₁ hi ht kh => Tests.nil)
    (fun C i h₁ hi hb ht kh => by
      obtain ⟨mm, t, u, hn, ha, hb⟩ := ht
      exact nums_elt (C := C) CF (by simpa using hi) kinds_exact hx (Ev.name (n := S "kinds") (Nm.cell (by rfl) (c_k.keeps kh) (by rfl) (by rfl)) (R.kp _ (F2.base.trans kh) Z.rd) (by rfl)) (Nm.cell (by rfl) (c_t.keeps kh) (by rfl) (by rfl)) ⟨t, Nm.local hn ha (by rfl) (by rfl)⟩ ⟨u, Nm.local hn hb (by rfl) (by rfl)⟩)
    (fun _ => Sc.int) (by rw [lenR]; (first | assumption | decide | lia | omega)) (by rfl) (by rfl) (by decide +kernel))) Ss.ints (by rfl) (by rfl) (by rfl) (fun v1 s3 F3 y3 hv1 => ?_) (by rfl))
  have H3 := (H2.sy y3).add hv1 Ss.ints
  -- second
  have c_t := F3.cell (S "text") (L + 2) (by rfl)
  rw [up_ne (by decide), hct] at c_t
  have c_k := F3.cell (S "kinds") (L + 1) (by rfl)
  rw [up_ne (by decide), hck] at c_k
  have W3 : Wd w mg mb s3.heap := W₀.kp F3.base
  refine wpAny_execs_cons (F3.asgC (n := S "second") (c := L + 6) (r₁ := RInts (nums x n c')) (Ev.req (congrArg RList nums_r) (Ev.comp (cl := [(S "text", L + 2), (S "kinds", L + 1)]) (items := (List.range n).map fun i => RPair ((c' i : Nat) : Int) ((c' (i + 1) : Nat) : Int)) (b := fun _ => true) (f := fun i => RInt (kindAt x (c' i) (c' (i + 1))))
    (zip_src (nf := S "near") hh CB (W3.blt (by rfl) (by rfl) (by rfl) (by rfl) (by rfl) (by rfl) (by rfl)) (F3.ldC (c := L + 4) (by rfl) (by rw [up_ne (by decide)]; exact hcn) (by rfl) (by rfl)) (H3.at 3)) (Target.two hh (by rfl) (by rfl) (by decide) (by rfl))
    (fun C i h₁ hi ht kh => Tests.nil)
    (fun C i h₁ hi hb ht kh => by
      obtain ⟨mm, t, u, hn, ha, hb⟩ := ht
      exact nums_elt (C := C) CB (by simpa using hi) kinds_exact hx (Ev.name (n := S "kinds") (Nm.cell (by rfl) (c_k.keeps kh) (by rfl) (by rfl)) (R.kp _ (F3.base.trans kh) Z.rd) (by rfl)) (Nm.cell (by rfl) (c_t.keeps kh) (by rfl) (by rfl)) ⟨t, Nm.local hn ha (by rfl) (by rfl)⟩ ⟨u, Nm.local hn hb (by rfl) (by rfl)⟩)
    (fun _ => Sc.int) (by rw [lenR]; (first | assumption | decide | lia | omega)) (by rfl) (by rfl) (by decide +kernel))) Ss.ints (by rfl) (by rfl) (by rfl) (fun v2 s4 F4 y4 hv2 => ?_) (by rfl))
  have H4 := (H3.sy y4).add hv2 Ss.ints
  -- ahead != first or behind != second
  have mA : up (up m (S "ahead") (.ref aA)) (S "behind") (.ref aB) (S "ahead") = some (.ref aA) := by rw [up_ne (by decide)]; exact up_self
  have mB : up (up m (S "ahead") (.ref aA)) (S "behind") (.ref aB) (S "behind") = some (.ref aB) := up_self
  have c1 : up (up cm (S "first") v1) (S "second") v2 (S "first") = some v1 := by rw [up_ne (by decide)]; exact up_self
  have c2 : up (up cm (S "first") v1) (S "second") v2 (S "second") = some v2 := up_self
  generalize up (up m (S "ahead") (.ref aA)) (S "behind") (.ref aB) = m4 at *
  generalize up (up cm (S "first") v1) (S "second") v2 = cm4 at *
  refine wpAny_execs_cons (wpAny_If (Tr.go (b := false) (Tr.to (b := !decide (nums x n c = nums x n c) || !decide (nums x n c' = nums x n c')) (by simp) (Tr.or2 (Tr.cmp (Ev.name (F4.ldL mA (by rfl) (by rfl)) (H4.at 3) (by rfl)) (Ev.name (F4.ldC (c := L + 5) (by rfl) c1 (by rfl) (by rfl)) (H4.at 1) (by rfl)) (Cm.neInts hu))
    fun _ => Tr.cmp (Ev.name (F4.ldL mB (by rfl) (by rfl)) (H4.at 2) (by rfl)) (Ev.name (F4.ldC (c := L + 6) (by rfl) c2 (by rfl) (by rfl)) (H4.at 0) (by rfl)) (Cm.neInts hu))) fun s5 g5 => ?_))
  simp only [Bool.false_eq_true, if_false]
  refine wpAny_execs_nil ?_
  have H5 := H4.sy g5.kp.sy
  exact hC m4 cm4 s5 aA aB v1 v2 (F4.gw g5) (fun p hp => H5 p (by
    rcases List.mem_cons.mp hp with rfl | hp
    · exact .head _
    rcases List.mem_cons.mp hp with rfl | hp
    · exact .tail _ (.head _)
    rcases List.mem_cons.mp hp with rfl | hp
    · exact .tail _ (.tail _ (.head _))
    rcases List.mem_cons.mp hp with rfl | hp
    · exact .tail _ (.tail _ (.tail _ (.head _)))
    · cases hp)) mA mB c1 c2 hne nAB nBB
end
end Mine

-- Law22
namespace Mine
noncomputable def sc65 : Scope := { kind := .function, names := [(S ".0", .local), (S "k", .local), (S "first", .free), (S "second", .free)], isGenerator := false, isCoroutine := false }
theorem ints_T {l : List Int} (s : Shared) (v : Value) (hv : (RInts l).is s.heap v) : s.TypeIs v "list" ∧ (∀ a, v = .ref a → ∃ ob, s.heap.get? a = some ob ∧ ob.dict = none) := by
  obtain ⟨a, vs, rfl, hl, _⟩ := hv
  refine ⟨(plain_isList hl).typeIs, fun b e => ?_⟩
  cases e
  obtain ⟨c, ho⟩ := hl
  exact ⟨_, ho, rfl⟩
section
variable {prog : Program} {w : World} {A : Around} {h : Heap} {env : Env} {value lo hi : Expr} {l : List Int} {pos ps : Pos}
theorem Ev.from {j : Nat} (x : Ev prog w A h env value (RInts l)) (y : Ev prog w A h env lo (RInt (Int.ofNat j))) (hj : j ≤ l.length) (hsz : l.length ≤ sizeLine) (ht : ∀ o r, letTemporaryGo value o r = pure () := by intro _ _; rfl) :
    Ev prog w A h env (.Subscript value (.Slice (some lo) none none ps) pos) (RInts (l.drop j)) := by
  refine Ev.slice (rs := l.map RInt) (li := some (Int.ofNat j)) (ui := none) x (.int y) .none (by simpa using hsz) (rs' := (l.drop j).map RInt) ?_ ht
  intro h vs hall
  have h2 := hall.len
  rw [slicePick_fromN _ _ (by simp at h2 ⊢; (first | assumption | decide | lia | omega)), List.map_drop]
  exact hall.drop j
theorem Ev.upto {j : Nat} (x : Ev prog w A h env value (RInts l)) (y : Ev prog w A h env hi (RInt (Int.ofNat j))) (hsz : l.length ≤ sizeLine) (ht : ∀ o r, letTemporaryGo value o r = pure () := by intro _ _; rfl) :
    Ev prog w A h env (.Subscript value (.Slice none (some hi) none ps) pos) (RInts (l.take j)) := by
  refine Ev.slice (rs := l.map RInt) (li := none) (ui := some (Int.ofNat j)) x .none (.int y) (by simpa using hsz) (rs' := (l.take j).map RInt) ?_ ht
  intro h vs hall
  rw [show (Int.ofNat j) = (j : Int) from rfl, slicePick_upto', List.map_take]
  exact hall.take j
theorem Ev.itemN {j : Nat} (x : Ev prog w A h env value (RInts l)) (y : Ev prog w A h env lo (RInt (Int.ofNat j))) (hj : j < l.length) (hsz : l.length ≤ 1000)
    (hs : ∀ o i, subscripted lo false o i = operate [o, i] (getItem o i) := by intro _ _; with_unfolding_all rfl) : Ev prog w A h env (.Subscript value lo pos) (RInt (l.getD j 0)) :=
  Ev.item (rs := l.map RInt) x y (by simp only [Int.ofNat_eq_natCast]; (first | assumption | decide | lia | omega)) (by simp only [Int.ofNat_eq_natCast]; (first | assumption | decide | lia | omega)) (by simp [List.getD_eq_getElem?_getD, hj]) hs
end

section
variable {prog : Program} {w : World} {A : Around} {h : Heap} {mg mb : Str → Option Value} {s : Shared} {E : Value → Shared → Prop} {n : Nat} {P T : List Int} {L : Addr} {sB s' : Shared} {m cm : Str → Option Value} {aA aB : Addr} {v1 v2 : Value}

theorem law_d (W : Wd w mg mb h) (hh : A.handled = none) (hfr : A.frames = some [env65 w.params L]) (hroom : A.depth < recursionLimit) (hun : A.units < 1000) (hP : P.length ≤ 16) (hT : T.length ≤ 16) (k : Kp h sB.heap)
    (F : FS (env65 w.params L) sB m cm (fun _ _ => False) s') (H : Held [(RInts T, v2), (RInts P, v1), (RInts T, .ref aB), (RInts P, .ref aA)] s'.heap)
    (mA : m (S "ahead") = some (.ref aA)) (mB : m (S "behind") = some (.ref aB)) (c1 : cm (S "first") = some v1) (c2 : cm (S "second") = some v2) (hne : aA ≠ aB) (nA : sB.heap.get? aA = none) (nB : sB.heap.get? aB = none) :
    wpAny (model prog w) A (execs ((bodyOf (fdOf (objAt w.params 65))).drop 14) (env65 w.params L)) (RetsTo sB (RBool true)) E s' := by
  have hu : A.units < 9000 := Nat.lt_trans hun (by decide)
  have P1 : P.length ≤ sizeLine := Nat.le_trans hP (by decide)
  have P2 : P.length ≤ 1000 := Nat.le_trans hP (by decide)
  have T1 : T.length ≤ sizeLine := Nat.le_trans hT (by decide)
  have T2 : T.length ≤ 1000 := Nat.le_trans hT (by decide)
  have hz : sizeLine = 16777216 := rfl
  have nL := F.fresh.1
  have W₀ : Wd w mg mb sB.heap := W.kp k
  -- lacks
  have W1 : Wd w mg mb s'.heap := W₀.kp F.base
  have d1 := F.cell (S "first") (L + 5) (by rfl)
  rw [c1] at d1
  have d2 := F.cell (S "second") (L + 6) (by rfl)
  rw [c2] at d2
  refine wpAny_execs_cons (F.used (y := S "lacks") (cl := [(S "second", L + 6), (S "first", L + 5)]) (items := rng ((P.length : Int) - 1) (-1) P.length)
    (b := fun k => decide (T.count (P.getD (P.length - 1 - k) 0) < (P.drop (P.length - 1 - k)).count (P.getD (P.length - 1 - k) 0))) (f := fun k => RInt (P.getD (P.length - 1 - k) 0))
    (SrcN.range3 hh (W1.blt (by rfl) (by rfl) (by rfl) (by rfl) (by rfl) (by rfl) (by rfl)) (EvL.cons (Ev.bin (Ev.callB (n := S "len") (W1.blt (by rfl) (by rfl) (by rfl) (by rfl) (by rfl) (by rfl) (by rfl)) (EvL.cons (Ev.name (r₁ := RInts P) (F.ldC (c := L + 5) (by rfl) c1 (by rfl) (by rfl)) (H.at 1) (by rfl)) EvL.nil) (by have := Fn.len_list (prog := prog) (w := w) (A := A) (h := s'.heap) (rs := P.map RInt) (by simp; (first | assumption | decide | lia | omega)); rwa [List.length_map] at this) (by rfl)) Ev.int Bn.sub) (EvL.cons (Ev.neg Ev.int) (EvL.cons (Ev.neg Ev.int) EvL.nil))) (by (first | assumption | decide | lia | omega)) (by (first | assumption | decide | lia | omega)) (by (first | assumption | decide | lia | omega))).src
    (Target.loc (by rfl) (by rfl) rng_sc)
    (fun C i h₁ hi ht kh => by
      rw [rng_len] at hi
      obtain ⟨t, mm, hn, hm⟩ := TLoc.rng ht (by rw [rng_len]; exact hi)
      have n1 : ∀ {A'}, Nm prog w A' h₁ (compEnvX sc65 [(S "second", L + 6), (S "first", L + 5)] C (env65 w.params L)) (S "first") v1 := Nm.cell (by rfl) (d1.keeps kh) (by rfl) (by rfl)
      have n2 : ∀ {A'}, Nm prog w A' h₁ (compEnvX sc65 [(S "second", L + 6), (S "first", L + 5)] C (env65 w.params L)) (S "second") v2 := Nm.cell (by rfl) (d2.keeps kh) (by rfl) (by rfl)
      have i1 := R.kp _ kh (H.at 1)
      have i2 := R.kp _ kh (H.at 0)
      have hj : P.length - 1 - i < P.length := by (first | assumption | decide | lia | omega)
      have hj' : P.length - 1 - i ≤ P.length := Nat.le_of_lt hj
      have nk : ∀ {p : Pos}, Ev prog w A h₁ (compEnvX sc65 [(S "second", L + 6), (S "first", L + 5)] C (env65 w.params L)) (.Name (S "k") p) (RInt (Int.ofNat (P.length - 1 - i))) := fun {p} => Ev.ieq (by simp only [Int.ofNat_eq_natCast]; (first | assumption | decide | lia | omega)) (Ev.nint (Nm.local hn hm (by rfl) (by rfl)))
      refine Tests.one (Tr.to (b := decide (((T.count (P.getD (P.length - 1 - i) 0) : Nat) : Int) < (((P.drop (P.length - 1 - i)).count (P.getD (P.length - 1 - i) 0) : Nat) : Int))) (by simp) (Tr.cmp
        (Ev.meth (T := "list") (id := "list.count") (Ev.from (Ev.name n1 i1 (by rfl)) nk hj' P1) (EvL.cons (Ev.itemN (Ev.name n1 i1 (by rfl)) nk hj P2) EvL.nil) Fn.count ints_T PySem.F.plainAttrs_list PySem.F.slot_list_count PySem.F.type_list_count)
        (Ev.meth (T := "list") (id := "list.count") (Ev.name n2 i2 (by rfl)) (EvL.cons (Ev.itemN (Ev.name n1 i1 (by rfl)) nk hj P2) EvL.nil) Fn.count ints_T PySem.F.plainAttrs_list PySem.F.slot_list_count PySem.F.type_list_count) Cm.gt)))
    (fun C i h₁ hi hb ht kh => by
      rw [rng_len] at hi
      obtain ⟨t, mm, hn, hm⟩ := TLoc.rng ht (by rw [rng_len]; exact hi)
      exact Ev.itemN (Ev.name (Nm.cell (by rfl) (d1.keeps kh) (by rfl) (by rfl)) (R.kp _ kh (H.at 1)) (by rfl)) (Ev.ieq (by simp only [Int.ofNat_eq_natCast]; (first | assumption | decide | lia | omega)) (Ev.nint (Nm.local hn hm (by rfl) (by rfl)))) (by (first | assumption | decide | lia | omega)) (by (first | assumption | decide | lia | omega)))
    (fun _ => Sc.int) (by rw [rng_len]; assumption) (by rfl) (by rfl) (by decide +kernel) (by rfl) (by rfl) ?_ (by rfl))
  intro aL vL s1 F1 k1 nLk lL allL
  have y1 := used_sy F k1
  have iL : (RInts (undo P.reverse T []).1).is s1.heap (.ref aL) := ⟨aL, vL, rfl, lL, by
    rw [rng_len] at allL
    have e : ((List.range P.length).filter (fun k => decide (T.count (P.getD (P.length - 1 - k) 0) < (P.drop (P.length - 1 - k)).count (P.getD (P.length - 1 - k) 0)))).map (fun k => RInt (P.getD (P.length - 1 - k) 0)) = ((undo P.reverse T []).1).map RInt := by
      rw [← lacks_is, List.map_map]; rfl
    rw [e] at allL
    exact allL⟩
  have H1 := (H.sy y1).add iL Ss.ints
  -- over
  have W1 : Wd w mg mb s1.heap := W₀.kp F1.base
  have d1 := F1.cell (S "first") (L + 5) (by rfl)
  rw [c1] at d1
  have d2 := F1.cell (S "second") (L + 6) (by rfl)
  rw [c2] at d2
  refine wpAny_execs_cons (F1.used (y := S "over") (cl := [(S "second", L + 6), (S "first", L + 5)]) (items := rng 0 1 T.length)
    (b := fun k => decide (P.count (T.getD k 0) < (T.take (k + 1)).count (T.getD k 0))) (f := fun k => RInt (T.getD k 0))
    (SrcN.range1 hh (W1.blt (by rfl) (by rfl) (by rfl) (by rfl) (by rfl) (by rfl) (by rfl)) (EvL.cons (Ev.callB (n := S "len") (W1.blt (by rfl) (by rfl) (by rfl) (by rfl) (by rfl) (by rfl) (by rfl)) (EvL.cons (Ev.name (r₁ := RInts T) (F1.ldC (c := L + 6) (by rfl) c2 (by rfl) (by rfl)) (H1.at 1) (by rfl)) EvL.nil) (by have := Fn.len_list (prog := prog) (w := w) (A := A) (h := s1.heap) (rs := T.map RInt) (by simp; (first | assumption | decide | lia | omega)); rwa [List.length_map] at this) (by rfl)) EvL.nil) (by (first | assumption | decide | lia | omega))).src
    (Target.loc (by rfl) (by rfl) rng_sc)
    (fun C i h₁ hi ht kh => by
      rw [rng_len] at hi
      obtain ⟨t, mm, hn, hm⟩ := TLoc.rng ht (by rw [rng_len]; exact hi)
      have n1 : ∀ {A'}, Nm prog w A' h₁ (compEnvX sc65 [(S "second", L + 6), (S "first", L + 5)] C (env65 w.params L)) (S "first") v1 := Nm.cell (by rfl) (d1.keeps kh) (by rfl) (by rfl)
      have n2 : ∀ {A'}, Nm prog w A' h₁ (compEnvX sc65 [(S "second", L + 6), (S "first", L + 5)] C (env65 w.params L)) (S "second") v2 := Nm.cell (by rfl) (d2.keeps kh) (by rfl) (by rfl)
      have i1 := R.kp _ kh (H1.at 2)
      have i2 := R.kp _ kh (H1.at 1)
      have nk : ∀ {p : Pos}, Ev prog w A h₁ (compEnvX sc65 [(S "second", L + 6), (S "first", L + 5)] C (env65 w.params L)) (.Name (S "k") p) (RInt (Int.ofNat i)) := fun {p} => Ev.ieq (by simp only [Int.ofNat_eq_natCast]; (first | assumption | decide | lia | omega)) (Ev.nint (Nm.local hn hm (by rfl) (by rfl)))
      refine Tests.one (Tr.to (b := decide (((P.count (T.getD i 0) : Nat) : Int) < (((T.take (i + 1)).count (T.getD i 0) : Nat) : Int))) (by simp) (Tr.cmp
        (Ev.meth (T := "list") (id := "list.count") (Ev.upto (j := i + 1) (Ev.name n2 i2 (by rfl)) (Ev.ieq (by simp only [Int.ofNat_eq_natCast]; (first | assumption | decide | lia | omega)) (Ev.bin nk Ev.int Bn.add)) T1) (EvL.cons (Ev.itemN (Ev.name n2 i2 (by rfl)) nk hi T2) EvL.nil) Fn.count ints_T PySem.F.plainAttrs_list PySem.F.slot_list_count PySem.F.type_list_count)
        (Ev.meth (T := "list") (id := "list.count") (Ev.name n1 i1 (by rfl)) (EvL.cons (Ev.itemN (Ev.name n2 i2 (by rfl)) nk hi T2) EvL.nil) Fn.count ints_T PySem.F.plainAttrs_list PySem.F.slot_list_count PySem.F.type_list_count) Cm.gt)))
    (fun C i h₁ hi hb ht kh => by
      rw [rng_len] at hi
      obtain ⟨t, mm, hn, hm⟩ := TLoc.rng ht (by rw [rng_len]; exact hi)
      exact Ev.itemN (Ev.name (Nm.cell (by rfl) (d2.keeps kh) (by rfl) (by rfl)) (R.kp _ kh (H1.at 1)) (by rfl)) (Ev.ieq (by simp only [Int.ofNat_eq_natCast]; (first | assumption | decide | lia | omega)) (Ev.nint (Nm.local hn hm (by rfl) (by rfl)))) (by (first | assumption | decide | lia | omega)) (by (first | assumption | decide | lia | omega)))
    (fun _ => Sc.int) (by rw [rng_len]; assumption) (by rfl) (by rfl) (by decide +kernel) (by rfl) (by rfl) ?_ (by rfl))
  intro aO vO s2 F2 k2 nO lO allO
  have y2 := used_sy F1 k2
  have iO : (RInts (undo P.reverse T []).2).is s2.heap (.ref aO) := ⟨aO, vO, rfl, lO, by
    rw [rng_len] at allO
    have e : ((List.range T.length).filter (fun k => decide (P.count (T.getD k 0) < (T.take (k + 1)).count (T.getD k 0)))).map (fun k => RInt (T.getD k 0)) = ((undo P.reverse T []).2).map RInt := by
      rw [← over_is, List.map_map]; rfl
    rw [e] at allO
    exact allO⟩
  have H2 := (H1.sy y2).add iO Ss.ints
  have mA2 : up (up m (S "lacks") (.ref aL)) (S "over") (.ref aO) (S "ahead") = some (.ref aA) := by rw [up_ne (by decide), up_ne (by decide)]; exact mA
  have mB2 : up (up m (S "lacks") (.ref aL)) (S "over") (.ref aO) (S "behind") = some (.ref aB) := by rw [up_ne (by decide), up_ne (by decide)]; exact mB
  have mL2 : up (up m (S "lacks") (.ref aL)) (S "over") (.ref aO) (S "lacks") = some (.ref aL) := by rw [up_ne (by decide)]; exact up_self
  have mO2 : up (up m (S "lacks") (.ref aL)) (S "over") (.ref aO) (S "over") = some (.ref aO) := up_self
  generalize up (up m (S "lacks") (.ref aL)) (S "over") (.ref aO) = m2 at *
  -- the four lists lie apart
  refine ints_refE (a := aA) (l := P) (H.at 3) fun vA0 ⟨cA0, lA0⟩ _ => ?_
  refine ints_refE (a := aB) (l := T) (H.at 2) fun vB0 ⟨cB0, lB0⟩ _ => ?_
  have nAL : aL ≠ aA := fun q => by subst q; rw [nLk] at lA0; cases lA0
  have nBL : aL ≠ aB := fun q => by subst q; rw [nLk] at lB0; cases lB0
  have lA1 := y1 _ _ lA0 (seq_not_vary rfl)
  have lB1 := y1 _ _ lB0 (seq_not_vary rfl)
  have nAO : aO ≠ aA := fun q => by subst q; rw [nO] at lA1; cases lA1
  have nBO : aO ≠ aB := fun q => by subst q; rw [nO] at lB1; cases lB1
  -- unorderable_list_difference
  have W2 : Wd w mg mb s2.heap := W₀.kp F2.base
  refine wpAny_execs_cons (wpAny_Return_some (wpAny_Compare1 (wpAny_Call_NameR (wpAny_Name (W2.glob (x := S "unorderable_list_difference") (v := .ref 28) (by rfl) (by rfl) (by rfl) (by rfl) s2 _ _ Kp.rfl (callWith_def (fd28 w.params)
    (EvL.cons (Ev.name (r₁ := RVal (.ref aA)) (F2.ldL mA2 (by rfl) (by rfl)) rfl (by rfl)) (EvL.cons (Ev.name (r₁ := RVal (.ref aB)) (F2.ldL mB2 (by rfl) (by rfl)) rfl (by rfl)) EvL.nil (by rfl)) (by rfl) s2 _ _ Kp.rfl fun vs s3 g3 a3 => ⟨g3.kp _ _ (W2.k _ _ (lk28 _)), ?_⟩) (by rfl))) (by rfl))) (by rfl)))
  refine a3.elim2 fun w1 w2 e3 b1 b2 => ?_
  subst e3
  cases b1
  cases b2
  have F3 := F2.gw g3
  have H3 := H2.sy g3.kp.sy
  refine ints_refE (a := aA) (l := P) (H3.at 5) fun vA lA jA => ?_
  refine ints_refE (a := aB) (l := T) (H3.at 4) fun vB lB jB => ?_
  have fr3 := fro65 F3
  refine und_fn W₀ (frs65 nL) hfr hh hroom F3.base lA jA lB jB hne nA nB fr3 (by (first | assumption | decide | lia | omega)) fun v h' t z r => ?_
  have dom3 : ∀ b o, s3.heap.get? b = some o → b ≠ aA → b ≠ aB → ∃ o', (hideAll s3.heap [aA, aB]).get? b = some o' := fun b o e n1 n2 => ⟨o, hideAll_get _ e fun hm => by
    rcases List.mem_cons.mp hm with q | hm
    · exact n1 q
    · rcases List.mem_cons.mp hm with q | hm
      · exact n2 q
      · cases hm⟩
  have seqne : ∀ b o, s3.heap.get? b = some o → Vary o → b ≠ aA ∧ b ≠ aB := fun b o e vy => by
    refine ⟨fun q => ?_, fun q => ?_⟩
    · subst q; obtain ⟨_, e'⟩ := lA; rw [e] at e'; cases e'; exact seq_not_vary rfl vy
    · subst q; obtain ⟨_, e'⟩ := lB; rw [e] at e'; cases e'; exact seq_not_vary rfl vy
  have an : Anch (env65 w.params L) sB (fun _ _ => False) (hideAll s3.heap [aA, aB]) := by
    refine ⟨fun b ⟨o, ho⟩ => dom3 b o (F3.base _ _ ho) (fun q => by subst q; rw [nA] at ho; cases ho) (fun q => by subst q; rw [nB] at ho; cases ho), ?_, fun nn cc hc => ?_, fun _ _ f => f.elim⟩
    · obtain ⟨o, es, ep, ho, hd, _⟩ := F3.ns
      obtain ⟨q1, q2⟩ := seqne _ _ ho (.inl ⟨_, _, hd⟩)
      exact dom3 _ _ ho q1 q2
    · obtain ⟨o, ho, hd⟩ := F3.cell nn cc hc
      obtain ⟨q1, q2⟩ := seqne _ _ ho (.inr ⟨_, hd⟩)
      exact dom3 _ _ ho q1 q2
  obtain ⟨s₀, rb, F4⟩ := F3.mz (t := t) an fr3 z
  have kk := rb.kp Kp.rfl (frs65 nL)
  refine ints_refE (a := aL) (l := (undo P.reverse T []).1) (H3.at 1) fun vL' ⟨cL, lL'⟩ jL => ?_
  refine ints_refE (a := aO) (l := (undo P.reverse T []).2) (H3.at 0) fun vO' ⟨cO, lO'⟩ jO => ?_
  have iL4 : (RInts (undo P.reverse T []).1).is h' (.ref aL) := ⟨aL, vL', rfl, ⟨cL, (z _ _ (dom3 _ _ lL' nAL nBL) lL').1 fun hb => seq_not_vary rfl (fr3.vary hb lL')⟩, ints_all2 jL⟩
  have iO4 : (RInts (undo P.reverse T []).2).is h' (.ref aO) := ⟨aO, vO', rfl, ⟨cO, (z _ _ (dom3 _ _ lO' nAO nBO) lO').1 fun hb => seq_not_vary rfl (fr3.vary hb lO')⟩, ints_all2 jO⟩
  refine Ev.go (s := { s3 with heap := h', toks := t }) (Ev.tuple (rs := [RInts (undo P.reverse T []).1, RInts (undo P.reverse T []).2]) (EvL.cons (Ev.name (F4.ldL mL2 (by rfl) (by rfl)) iL4 (by rfl)) (EvL.cons (Ev.name (F4.ldL mO2 (by rfl) (by rfl)) iO4 (by rfl)) EvL.nil)) (show 2 ≤ sizeLine by decide)) fun v5 s5 g5 a5 => ?_
  refine Cm.eqTwo hu s5 v v5 _ _ Kp.rfl (R.kp _ g5.kp r) a5 fun s6 g6 => ?_
  refine ⟨_, rfl, ?_, by simp; rfl⟩
  have g := (F4.gw g5).gw g6
  obtain ⟨h0, rfl, _, _⟩ := rb
  obtain ⟨h6, t6, e6⟩ := g.same
  exact ⟨h6, t6, by rw [e6], by
    have := g.base
    rw [e6] at this
    exact kk.trans this⟩
end
end Mine

-- Law23
namespace Mine
section
variable {prog : Program} {w : World} {A : Around} {h : Heap} {mg mb : Str → Option Value}
theorem law_fn (W : Wd w mg mb h) (hse : h.NoSeer) (htr : prog.given.tree = none) (hh : A.handled = none) (hfr : A.frames = some []) (hroom : A.depth + 300 < recursionLimit) (hun : A.units < 500) (hsm : ∃ c o, h.get? c = some o ∧ sysModules ≤ c) {xs : List Int} (hxs : xs.length ≤ 63) :
    Fn prog w A h (.ref 65) [RScript xs] (RBool true) := by
  have hG := text_good (xs := xs)
  obtain ⟨n, C⟩ := cuts_of hG
  have CF := cutF hG C
  have CB := cutB hG C
  refine law_a W hse htr hh hfr hroom hun hsm hxs ?_
  intro L s sB s' m cm kd vf vb vr vn k ⟨hB, eB, kB⟩ Z hmf hmb hcr hcn
  have hfr' : (A.deeper (env65 w.params L)).frames = some [env65 w.params L] := Around.frames_deeper hfr
  have hh' : (A.deeper (env65 w.params L)).handled = none := hh
  have hroom' : (A.deeper (env65 w.params L)).depth + 200 < recursionLimit := by show A.depth + 1 + 200 < recursionLimit; (first | assumption | decide | lia | omega)
  have hun' : (A.deeper (env65 w.params L)).units < 1000 := by show A.units + 3 < 1000; (first | assumption | decide | lia | omega)
  have kB' : Kp h sB.heap := by rw [eB]; exact k.trans kB
  refine law_b W hh' hfr' hroom' hun' CF CB C.ge kB' Z hmf hmb hcr hcn fun m1 s1 Z1 hmf1 hmb1 => ?_
  refine law_c W hh' hun' hG.2.1 CF CB kB' Z1 hmf1 hmb1 hcr hcn fun m2 cm2 s2 aA aB v1 v2 F2 H2 mA mB c1 c2 hne nA nB => ?_
  have hl : ∀ c : Nat → Nat, (nums (textOf xs) n c).length ≤ 16 := fun c => by unfold nums; simp; exact C.le
  refine wpAny_mono (law_d W hh' hfr' (Nat.lt_of_le_of_lt (Nat.le_add_right _ _) hroom') hun' (hl _) (hl _) kB' F2 H2 mA mB c1 c2 hne nA nB) ?_ fun _ _ f => f
  rintro fl s3 ⟨v, rfl, g, r⟩
  refine ⟨v, rfl, ?_, r⟩
  obtain ⟨h3, t3, e3, k3⟩ := g
  subst eB
  exact ⟨h3, t3, e3, kB.trans k3⟩
end
theorem as_KF (P : Params) : [3, 20, 21, 27, 28, 34, 35, 36, 44, 45, 49, 50, 54, 55, 59, 60, 64, 65] = (KF P).map (·.1) := by rfl
theorem tt : PySem.Challenge.rw_mr0220_01.Holds := by
  w_on
  o_law
  o_head (kHook KF [3, 20, 21, 27, 28, 34, 35, 36, 44, 45, 49, 50, 54, 55, 59, 60, 64, 65] as_KF)
  case hw => w_witness2
  intro w s₀ s₁ mg mb G Y fa o pm cd doc dV kV ho hd hcd hD hmg hg args vals as hpre hlay hrd hwl hlo
  have W : Wd w mg mb s₁.heap := ⟨kIn_of Y, G.T.g, G.T.b, G.T.nolimit, G.T.builtins⟩
  have hse := G.T.seer (by decide +kernel)
  have hfa : fa = 65 := by
    have h1 := W.gl (x := Str.ofString "law") (v := .ref 65) (by rfl)
    have h2 : mg (Str.ofString "law") = some (.ref fa) := hmg
    rw [h1] at h2
    injection h2 with h2
    injection h2 with h2
    exact h2.symm
  subst hfa
  clear ho hd hcd hD hmg
  wrow_args hpre hlay hrd hwl hlo
  rename_i xs hs hlay0 hL1 hr1 hl2 as1 as2 l vs as3 hl ra w1 r0 hI hr hc hT
  have hlen : xs.length ≤ 63 := by
    have h1 : ¬ ((63 : Nat) : Int) < ((xs.length : Nat) : Int) := hc
    (first | assumption | decide | lia | omega)
  refine law_fn (prog := PySem.Challenge.rw_mr0220_01.row.prog) W hse (by rfl) (by rfl) (by rfl) (by decide +kernel) (by decide +kernel) ⟨65, _, W.k _ _ (lk65 _), by decide +kernel⟩ hlen s₁ [.ref l] _ _ Kp.rfl (.cons ⟨l, vs, rfl, hl, hI⟩ .nil) fun v s' g r => ?_
  obtain ⟨h', t', rfl, k'⟩ := g
  cases r
  exact ⟨.inl ⟨.bool true, .bool true, [], rfl, fun cls => rfl, .bool true, by with_unfolding_all rfl, fun _ => ⟨List.nodup_nil, fun _ hm => nomatch hm⟩⟩, .of_keep k', rfl, .of_eq hg⟩
end Mine

theorem PySem.Challenge.cw_mr0220_01_holds : PySem.Challenge.rw_mr0220_01.Holds :=
  Mine.tt
