import PyProof.Rows.All
import Wide.All
import OpenK.AllK
import Wide.FinOn
import PySem.Challenge.RW_rw0028_01

set_option maxRecDepth 100000
set_option Elab.async false
set_option linter.unusedVariables false
set_option linter.unusedSectionVars false

namespace Mine
open PySem PySem.Calls PyProof.Rows
/-- pure data -/
inductive P where
  | none
  | bool (b : Bool)
  | int (i : Int)
  | str (x : Str)
  | val (v : Value)
  | list (xs : List P)
abbrev Gt := Addr → Option Obj
abbrev lobj (vs : Array Value) (n : Nat) : Obj := { cls := .type "list", dict := none, data := .seq vs n, slots := #[] }
mutual
def Is (g : Gt) : P → Value → Prop
  | .none, v => v = .none
  | .bool b, v => v = .bool b
  | .int i, v => ∃ t, v = .int i t
  | .str x, v => ∃ t, v = .str x t
  | .val u, v => v = u
  | .list ps, v => ∃ a n vs, v = .ref a ∧ g a = some (lobj (List.toArray vs) n) ∧ Iss g ps vs
def Iss (g : Gt) : List P → List Value → Prop
  | [], vs => vs = []
  | p :: ps, vs => ∃ v r, vs = v :: r ∧ Is g p v ∧ Iss g ps r
end
def LExt (g g' : Gt) : Prop := ∀ a vs n, g a = some (lobj vs n) → g' a = some (lobj vs n)
theorem LExt.refl (g : Gt) : LExt g g := fun _ _ _ e => e
theorem LExt.trans {g g' g'' : Gt} (a : LExt g g') (b : LExt g' g'') : LExt g g'' := fun x vs n e => b x vs n (a x vs n e)
theorem LExt.of {g g' : Gt} (h : ∀ b o, g b = some o → g' b = some o) : LExt g g' := fun a _ _ e => h a _ e
mutual
theorem Is.ext {g g' : Gt} (e : LExt g g') : ∀ {p : P} {v : Value}, Is g p v → Is g' p v
  | .none, _, x => x
  | .bool _, _, x => x
  | .int _, _, x => x
  | .str _, _, x => x
  | .val _, _, x => x
  | .list _, _, x => by
    simp only [Is] at x ⊢
    obtain ⟨a, n, vs, hv, hl, hi⟩ := x
    exact ⟨a, n, vs, hv, e _ _ _ hl, Iss.ext e hi⟩
theorem Iss.ext {g g' : Gt} (e : LExt g g') : ∀ {ps : List P} {vs : List Value}, Iss g ps vs → Iss g' ps vs
  | [], _, x => by simp only [Iss] at x ⊢; exact x
  | _ :: _, _, x => by
    simp only [Iss] at x ⊢
    obtain ⟨v, r, hv, hi, hr⟩ := x
    exact ⟨v, r, hv, Is.ext e hi, Iss.ext e hr⟩
end
section
variable {h g : Gt} {p : P} {ps qs : List P} {v : Value} {vs us : List Value}
theorem Iss.nil : Iss h [] [] := by simp only [Iss]
theorem Iss.cons (a : Is h p v) (b : Iss h ps vs) : Iss h (p :: ps) (v :: vs) := by
  simp only [Iss]; exact ⟨v, vs, rfl, a, b⟩
theorem Iss.head (x : Iss h (p :: ps) (v :: vs)) : Is h p v := by
  simp only [Iss] at x; obtain ⟨_, _, e, a, _⟩ := x; cases e; exact a
theorem Iss.tail (x : Iss h (p :: ps) (v :: vs)) : Iss h ps vs := by
  simp only [Iss] at x; obtain ⟨_, _, e, _, b⟩ := x; cases e; exact b
theorem Iss.length : ∀ {ps : List P} {vs : List Value}, Iss h ps vs → vs.length = ps.length
  | [], _, x => by simp only [Iss] at x; rw [x]; rfl
  | _ :: _, _, x => by
    simp only [Iss] at x
    obtain ⟨v, r, rfl, _, hr⟩ := x
    simp [hr.length]
theorem Iss.get : ∀ {ps : List P} {vs : List Value} {i : Nat} {p : P}, Iss h ps vs → ps[i]? = some p → ∃ v, vs[i]? = some v ∧ Is h p v
  | [], _, _, _, _, e => by simp at e
  | _ :: _, _, i, p, x, e => by
    simp only [Iss] at x
    obtain ⟨v, r, rfl, hv, hr⟩ := x
    cases i with
    | zero => simp at e; subst e; exact ⟨v, by simp, hv⟩
    | succ i => simp at e; obtain ⟨u, hu, hi⟩ := hr.get e; exact ⟨u, by simpa using hu, hi⟩
theorem Iss.get' : ∀ {ps : List P} {vs : List Value} {i : Nat} {v : Value}, Iss h ps vs → vs[i]? = some v → ∃ p, ps[i]? = some p ∧ Is h p v
  | [], _, _, _, x, e => by simp only [Iss] at x; subst x; simp at e
  | _ :: _, _, i, p, x, e => by
    simp only [Iss] at x
    obtain ⟨v, r, rfl, hv, hr⟩ := x
    cases i with
    | zero => simp at e; subst e; exact ⟨_, by simp, hv⟩
    | succ i => simp at e; obtain ⟨u, hu, hi⟩ := hr.get' e; exact ⟨u, by simpa using hu, hi⟩
theorem Iss.append : ∀ {ps qs : List P} {vs us : List Value}, Iss h ps vs → Iss h qs us → Iss h (ps ++ qs) (vs ++ us)
  | [], _, _, _, x, y => by simp only [Iss] at x; subst x; exact y
  | _ :: _, _, _, _, x, y => by
    simp only [Iss] at x
    obtain ⟨v, r, rfl, hv, hr⟩ := x
    exact Iss.cons hv (hr.append y)
theorem Iss.erase : ∀ {ps : List P} {vs : List Value} (i : Nat), Iss h ps vs → Iss h (ps.eraseIdx i) (vs.eraseIdx i)
  | [], _, i, x => by simp only [Iss] at x; subst x; simpa using Iss.nil
  | _ :: _, _, i, x => by
    simp only [Iss] at x
    obtain ⟨v, r, rfl, hv, hr⟩ := x
    cases i with
    | zero => simpa using hr
    | succ i => simpa using Iss.cons hv (hr.erase i)
theorem Iss.set : ∀ {ps : List P} {vs : List Value} (i : Nat) {p : P} {v : Value}, Iss h ps vs → Is h p v → Iss h (ps.set i p) (vs.set i v)
  | [], _, i, _, _, x, _ => by simp only [Iss] at x; subst x; simpa using Iss.nil
  | _ :: _, _, i, _, _, x, y => by
    simp only [Iss] at x
    obtain ⟨v, r, rfl, hv, hr⟩ := x
    cases i with
    | zero => simpa using Iss.cons y hr
    | succ i => simpa using Iss.cons hv (hr.set i y)
theorem Iss.drop : ∀ {ps : List P} {vs : List Value} (i : Nat), Iss h ps vs → Iss h (ps.drop i) (vs.drop i)
  | _, _, 0, x => by simpa using x
  | [], _, i + 1, x => by simp only [Iss] at x; subst x; simpa using Iss.nil
  | _ :: _, _, i + 1, x => by
    simp only [Iss] at x
    obtain ⟨v, r, rfl, hv, hr⟩ := x
    simpa using hr.drop i
theorem Iss.mem : ∀ {ps : List P} {vs : List Value} {v : Value}, Iss h ps vs → v ∈ vs → ∃ p ∈ ps, Is h p v
  | [], _, _, x, m => by simp only [Iss] at x; subst x; cases m
  | _ :: _, _, u, x, m => by
    simp only [Iss] at x
    obtain ⟨v, r, rfl, hv, hr⟩ := x
    rcases List.mem_cons.mp m with rfl | m
    · exact ⟨_, List.mem_cons_self, hv⟩
    · obtain ⟨p, hp, hi⟩ := hr.mem m; exact ⟨p, List.mem_cons_of_mem _ hp, hi⟩
theorem Iss.replicate (x : Is h p v) : ∀ k : Nat, Iss h (List.replicate k p) (List.replicate k v)
  | 0 => Iss.nil
  | k + 1 => by rw [List.replicate_succ, List.replicate_succ]; exact Iss.cons x (Iss.replicate x k)
theorem Is.int {i : Int} {t : Tok} : Is h (.int i) (.int i t) := by simp only [Is]; exact ⟨t, rfl⟩
theorem Is.str {x : Str} {t : Tok} : Is h (.str x) (.str x t) := by simp only [Is]; exact ⟨t, rfl⟩
theorem Is.bool {b : Bool} : Is h (.bool b) (.bool b) := by simp only [Is]
theorem Is.none : Is h .none .none := by simp only [Is]
theorem Is.val : Is h (.val v) v := by simp only [Is]
theorem Is.list {a : Addr} {n : Nat} (x : h a = some (lobj vs.toArray n)) (y : Iss h ps vs) : Is h (.list ps) (.ref a) := by
  simp only [Is]; exact ⟨a, n, vs, rfl, x, y⟩
theorem Is.ofInt {i : Int} (x : Is h (.int i) v) : ∃ t, v = .int i t := by simpa only [Is] using x
theorem Is.ofStr {i : Str} (x : Is h (.str i) v) : ∃ t, v = .str i t := by simpa only [Is] using x
theorem Is.ofBool {i : Bool} (x : Is h (.bool i) v) : v = .bool i := by simpa only [Is] using x
theorem Is.ofNone (x : Is h .none v) : v = .none := by simpa only [Is] using x
theorem Is.ofVal {u : Value} (x : Is h (.val u) v) : v = u := by simpa only [Is] using x
theorem Is.ofList (x : Is h (.list ps) v) : ∃ a n vs, v = .ref a ∧ h a = some (lobj (List.toArray vs) n) ∧ Iss h ps vs := by simpa only [Is] using x
end
/-! ## states -/
def hid (S : List Addr) (h : Heap) : Gt := fun b => if b ∈ S then none else h.get? b
theorem hid_some {S : List Addr} {h : Heap} {b : Addr} {o : Obj} : hid S h b = some o ↔ b ∉ S ∧ h.get? b = some o := by
  unfold hid; by_cases hb : b ∈ S <;> simp [hb]
theorem hid_le {S S' : List Addr} {h : Heap} (hs : ∀ b ∈ S, b ∈ S') : ∀ b o, hid S' h b = some o → hid S h b = some o := fun b o e =>
  hid_some.mpr ⟨fun m => (hid_some.mp e).1 (hs b m), (hid_some.mp e).2⟩
abbrev Kp (s s' : Shared) : Prop := Keeps s s'
theorem Kp.refl (s : Shared) : Kp s s := ⟨s.heap, s.toks, rfl, fun _ _ e => e⟩
theorem Kp.trans {s s' s'' : Shared} (a : Kp s s') (b : Kp s' s'') : Kp s s'' := by
  obtain ⟨h, tk, rfl, k⟩ := a
  obtain ⟨h', tk', rfl, k'⟩ := b
  exact ⟨h', tk', rfl, fun x o e => k' x o (k x o e)⟩
theorem Kp.get {s s' : Shared} (a : Kp s s') : ∀ b o, s.heap.get? b = some o → s'.heap.get? b = some o := by
  obtain ⟨h, tk, rfl, k⟩ := a
  exact k
theorem Kp.ext {s s' : Shared} {S : List Addr} (a : Kp s s') : LExt (hid S s.heap) (hid S s'.heap) :=
  .of fun b o e => hid_some.mpr ⟨(hid_some.mp e).1, a.get b o (hid_some.mp e).2⟩
theorem Kp.toks (s : Shared) (tk : Nat) : Kp s { s with toks := tk } := ⟨s.heap, tk, rfl, fun _ _ e => e⟩
theorem Kp.push (s : Shared) (o : Obj) : Kp s { s with heap := s.heap.push o } := ⟨_, s.toks, rfl, fun _ _ e => Heap.get?_push_of_some o e⟩
theorem Kp.pushT (s : Shared) (o : Obj) (tk : Nat) : Kp s { s with heap := s.heap.push o, toks := tk } := ⟨_, tk, rfl, fun _ _ e => Heap.get?_push_of_some o e⟩
def Hid (S : List Addr) (s : Shared) : Prop := ∀ b ∈ S, ∃ o, s.heap.get? b = some o
theorem Hid.mono {S : List Addr} {s s' : Shared} (x : Hid S s) (k : Kp s s') : Hid S s' := fun b m => let ⟨o, e⟩ := x b m; ⟨o, k.get b o e⟩
theorem Hid.notin {S : List Addr} {s : Shared} (x : Hid S s) : s.heap.objs.size ∉ S := fun m => let ⟨_, e⟩ := x _ m; Nat.lt_irrefl _ (Heap.lt_size e)
theorem Hid.new {S : List Addr} {s : Shared} (x : Hid S s) {o : Obj} (ho : o.isFreed = false) : hid S (s.heap.push o) s.heap.objs.size = some o :=
  hid_some.mpr ⟨x.notin, Heap.get?_push_size _ ho⟩
theorem Hid.newList {S : List Addr} {s : Shared} (x : Hid S s) {vs : List Value} {ps : List P} (y : Iss (hid S s.heap) ps vs) : Is (hid S (s.heap.push (lobj vs.toArray 0))) (.list ps) (.ref s.heap.objs.size) :=
  Is.list (x.new rfl) (y.ext (Kp.ext (Kp.push s _)))
/-- tree t, at s, gives p and keeps all -/
def Gv (prog : Program) (w : World) (A : Around) (S : List Addr) (s : Shared) (t : Sem Value) (p : P) : Prop :=
  ∀ E, wpAny (model prog w) A t (fun v s' => Is (hid S s'.heap) p v ∧ Kp s s') E s
/-- e, at s and wherever more stands, gives p and keeps all -/
structure PE (prog : Program) (w : World) (A : Around) (S : List Addr) (env : Env) (s : Shared) (e : Expr) (p : P) : Prop where
  go : ∀ s₁, Kp s s₁ → Hid S s₁ → Gv prog w A S s₁ (eval e env) p
/-- the test e comes out as b -/
structure PT (prog : Program) (w : World) (A : Around) (S : List Addr) (env : Env) (s : Shared) (e : Expr) (b : Bool) : Prop where
  go : ∀ s₁ E, Kp s s₁ → Hid S s₁ → wpAny (model prog w) A (isTrue e env (eval e env)) (fun v s' => v = b ∧ Kp s₁ s') E s₁
/-- the comparison of p and q comes out as b -/
structure Cm (prog : Program) (w : World) (A : Around) (S : List Addr) (op : CmpOp) (p q : P) (b : Bool) : Prop where
  go : ∀ x y s₂, Hid S s₂ → Is (hid S s₂.heap) p x → Is (hid S s₂.heap) q y → Gv prog w A S s₂ (compareOp op x y) (.bool b)
/-- the arguments -/
structure PEs (prog : Program) (w : World) (A : Around) (S : List Addr) (env : Env) (s : Shared) (es : List Expr) (ps : List P) : Prop where
  go : ∀ s₁ E pos, Kp s s₁ → Hid S s₁ → wpAny (model prog w) A (spliced (backTo pos (starEach es env))) (fun vs s' => Iss (hid S s'.heap) ps vs ∧ Kp s₁ s') E s₁
section
variable {prog : Program} {w : World} {A : Around} {S : List Addr} {env : Env} {s : Shared}
theorem PE.mono {s' : Shared} {e : Expr} {p : P} (k : Kp s s') (x : PE prog w A S env s e p) : PE prog w A S env s' e p := ⟨fun s₁ k' => x.go s₁ (k.trans k')⟩
theorem PT.mono {s' : Shared} {e : Expr} {p : Bool} (k : Kp s s') (x : PT prog w A S env s e p) : PT prog w A S env s' e p := ⟨fun s₁ E k' => x.go s₁ E (k.trans k')⟩
theorem PEs.mono {s' : Shared} {e : List Expr} {p : List P} (k : Kp s s') (x : PEs prog w A S env s e p) : PEs prog w A S env s' e p := ⟨fun s₁ E pos k' => x.go s₁ E pos (k.trans k')⟩
theorem PE.eq {e : Expr} {p q : P} (x : PE prog w A S env s e p) (h : p = q) : PE prog w A S env s e q := h ▸ x
theorem PT.eq {e : Expr} {p q : Bool} (x : PT prog w A S env s e p) (h : p = q) : PT prog w A S env s e q := h ▸ x
/-- two parts, then an operation -/
theorem two {l r : Expr} {p q : P} {R : P} (hl : PE prog w A S env s l p) (hr : PE prog w A S env s r q) {s₁ : Shared} {E : Value → Shared → Prop} (k : Kp s s₁) (hS : Hid S s₁) {op : Value → Value → Sem Value}
    (h : ∀ a b s₂, Hid S s₂ → Is (hid S s₂.heap) p a → Is (hid S s₂.heap) q b → Gv prog w A S s₂ (op a b) R) :
    wpAny (model prog w) A (eval l env) (fun a s₂ => wpAny (model prog w) A (eval r env) (fun b s₃ => wpAny (model prog w) A (op a b) (fun v s' => Is (hid S s'.heap) R v ∧ Kp s₁ s') E s₃) E s₂) E s₁ := by
  refine wpAny_mono (hl.go s₁ k hS E) (fun a s₂ ⟨ha, k2⟩ => ?_) fun _ _ e => e
  refine wpAny_mono (hr.go s₂ (k.trans k2) (hS.mono k2) E) (fun b s₃ ⟨hb, k3⟩ => ?_) fun _ _ e => e
  exact wpAny_mono (h a b s₃ (hS.mono (k2.trans k3)) (ha.ext k3.ext) hb E) (fun v s' ⟨hv, k4⟩ => ⟨hv, (k2.trans k3).trans k4⟩) fun _ _ e => e
theorem PE.binop {l r : Expr} {op : Operator} {pos : Pos} {p q R : P} (hl : PE prog w A S env s l p) (hr : PE prog w A S env s r q)
    (h : ∀ a b s₂, Hid S s₂ → Is (hid S s₂.heap) p a → Is (hid S s₂.heap) q b → Gv prog w A S s₂ (binaryOp op a b) R) : PE prog w A S env s (.BinOp l op r pos) R :=
  ⟨fun s₁ k hS E => wpAny_BinOp (two hl hr k hS (op := binaryOp op) h)⟩
theorem PE.cmp {l r : Expr} {op : CmpOp} {pos : Pos} {p q : P} {b : Bool} (hl : PE prog w A S env s l p) (hr : PE prog w A S env s r q) (h : Cm prog w A S op p q b)
    (hm : behindInMarks op r = false := by with_unfolding_all rfl) : PE prog w A S env s (.Compare l [op] [r] pos) (.bool b) :=
  ⟨fun s₁ k hS E => wpAny_Compare1 (two hl hr k hS (op := compareOp op) h.go) hm⟩
theorem PT.cmp {l r : Expr} {op : CmpOp} {pos : Pos} {p q : P} {b : Bool} (hl : PE prog w A S env s l p) (hr : PE prog w A S env s r q) (h : Cm prog w A S op p q b)
    (hm : behindInMarks op r = false := by with_unfolding_all rfl) : PT prog w A S env s (.Compare l [op] [r] pos) b :=
  ⟨fun s₁ E k hS => wpAny_isTrue_Compare1 (by
    refine wpAny_mono (two hl hr k hS (op := compareOp op) h.go) (fun a s₂ h₂ => wpAny_mono h₂ (fun b s₃ h₃ => wpAny_mono h₃ (fun v s₄ h₄ => ?_) fun _ _ e => e) fun _ _ e => e) fun _ _ e => e
    cases h₄.1.ofBool
    exact wpAny_truthy_bool ⟨rfl, h₄.2⟩) hm⟩
theorem PE.const_int {i : Int} {k : Nat} {pos : Pos} : PE prog w A S env s (.Constant (.int i) k pos) (.int i) :=
  ⟨fun s₁ _ _ _ => wpAny_Constant_int ⟨Is.int, Kp.toks s₁ _⟩⟩
theorem PE.const_str {x : Str} {k : Nat} {pos : Pos} : PE prog w A S env s (.Constant (.str x) k pos) (.str x) :=
  ⟨fun s₁ _ _ _ => wpAny_mkText ⟨Is.str, Kp.toks s₁ _⟩⟩
theorem PE.const_bool {b : Bool} {k : Nat} {pos : Pos} : PE prog w A S env s (.Constant (.bool b) k pos) (.bool b) :=
  ⟨fun s₁ _ _ _ => wpAny_pure ⟨Is.bool, Kp.refl s₁⟩⟩
/-! ## truth -/
theorem PT.plain {e : Expr} {p : P} {b : Bool} (h : PE prog w A S env s e p) (ht : ∀ v s₂ (Q : Bool → Shared → Prop) E, Is (hid S s₂.heap) p v → Q b s₂ → wpAny (model prog w) A (truthy v) Q E s₂)
    (he : ∀ whole, isTrue e env whole = (do let v ← whole; standAt e.pos; holding [v] (truthy v)) := by intro _; rfl) : PT prog w A S env s e b :=
  ⟨fun s₁ E k hS => isTrue_plain (wpAny_mono (h.go s₁ k hS E) (fun v s₂ ⟨hi, k2⟩ => ht v s₂ _ _ hi ⟨rfl, k2⟩) fun _ _ e => e) (he _)⟩
theorem PT.ofBool {e : Expr} {b : Bool} (h : PE prog w A S env s e (.bool b))
    (he : ∀ whole, isTrue e env whole = (do let v ← whole; standAt e.pos; holding [v] (truthy v)) := by intro _; rfl) : PT prog w A S env s e b :=
  PT.plain h (fun v s₂ Q E hi hq => by cases hi.ofBool; exact wpAny_truthy_bool hq) he
theorem PT.ofInt {e : Expr} {i : Int} (h : PE prog w A S env s e (.int i))
    (he : ∀ whole, isTrue e env whole = (do let v ← whole; standAt e.pos; holding [v] (truthy v)) := by intro _; rfl) : PT prog w A S env s e (i != 0) :=
  PT.plain h (fun v s₂ Q E hi hq => by obtain ⟨t, rfl⟩ := hi.ofInt; exact PyProof.Rows.truthy_int hq) he
theorem PT.ofNone {e : Expr} (h : PE prog w A S env s e .none)
    (he : ∀ whole, isTrue e env whole = (do let v ← whole; standAt e.pos; holding [v] (truthy v)) := by intro _; rfl) : PT prog w A S env s e false :=
  PT.plain h (fun v s₂ Q E hi hq => by cases hi.ofNone; exact truthy_none hq) he
theorem PT.not {e : Expr} {pos : Pos} {b : Bool} (h : PT prog w A S env s e b) : PT prog w A S env s (.UnaryOp .Not e pos) (!b) :=
  ⟨fun s₁ E k hS => isTrue_not (wpAny_mono (h.go s₁ E k hS) (fun v s₂ ⟨hv, k2⟩ => ⟨by rw [hv], k2⟩) fun _ _ e => e)⟩
theorem PT.and {x y : Expr} {pos : Pos} {a b : Bool} (h : PT prog w A S env s x a) (h' : a = true → PT prog w A S env s y b) : PT prog w A S env s (.BoolOp .And [x, y] pos) (a && b) :=
  ⟨fun s₁ E k hS => isTrue_and (wpAny_mono (h.go s₁ E k hS) (fun v s₂ ⟨hv, k2⟩ => by
    subst hv
    cases v with
    | false => exact ⟨rfl, k2⟩
    | true =>
      refine isTrue_and (wpAny_mono ((h' rfl).go s₂ E (k.trans k2) (hS.mono k2)) (fun v s₃ ⟨hv, k3⟩ => ?_) fun _ _ e => e)
      subst hv
      cases v with
      | false => exact ⟨rfl, k2.trans k3⟩
      | true => exact isTrue_and_nil ⟨rfl, k2.trans k3⟩) fun _ _ e => e)⟩
theorem PT.or {x y : Expr} {pos : Pos} {a b : Bool} (h : PT prog w A S env s x a) (h' : a = false → PT prog w A S env s y b) : PT prog w A S env s (.BoolOp .Or [x, y] pos) (a || b) :=
  ⟨fun s₁ E k hS => isTrue_or (wpAny_mono (h.go s₁ E k hS) (fun v s₂ ⟨hv, k2⟩ => by
    subst hv
    cases v with
    | true => exact ⟨rfl, k2⟩
    | false =>
      refine isTrue_or (wpAny_mono ((h' rfl).go s₂ E (k.trans k2) (hS.mono k2)) (fun v s₃ ⟨hv, k3⟩ => ?_) fun _ _ e => e)
      subst hv
      cases v with
      | true => exact ⟨rfl, k2.trans k3⟩
      | false => exact isTrue_or_nil ⟨rfl, k2.trans k3⟩) fun _ _ e => e)⟩
theorem PT.or3 {x y z : Expr} {pos : Pos} {a b c : Bool} (h : PT prog w A S env s x a) (h' : a = false → PT prog w A S env s y b) (h'' : a = false → b = false → PT prog w A S env s z c) : PT prog w A S env s (.BoolOp .Or [x, y, z] pos) (a || b || c) :=
  ⟨fun s₁ E k hS => isTrue_or (wpAny_mono (h.go s₁ E k hS) (fun v s₂ ⟨hv, k2⟩ => by
    subst hv
    cases v with
    | true => exact ⟨rfl, k2⟩
    | false =>
      refine isTrue_or (wpAny_mono ((h' rfl).go s₂ E (k.trans k2) (hS.mono k2)) (fun v s₃ ⟨hv, k3⟩ => ?_) fun _ _ e => e)
      subst hv
      cases v with
      | true => exact ⟨rfl, k2.trans k3⟩
      | false =>
        refine isTrue_or (wpAny_mono ((h'' rfl rfl).go s₃ E ((k.trans k2).trans k3) (hS.mono (k2.trans k3))) (fun v s₄ ⟨hv, k4⟩ => ?_) fun _ _ e => e)
        subst hv
        cases v with
        | true => exact ⟨rfl, (k2.trans k3).trans k4⟩
        | false => exact isTrue_or_nil ⟨rfl, (k2.trans k3).trans k4⟩) fun _ _ e => e)⟩
theorem PE.ite {t a b : Expr} {pos : Pos} {c : Bool} {p : P} (ht : PT prog w A S env s t c) (ha : c = true → PE prog w A S env s a p) (hb : c = false → PE prog w A S env s b p) :
    PE prog w A S env s (.IfExp t a b pos) p :=
  ⟨fun s₁ k hS E => wpAny_IfExp (wpAny_mono (ht.go s₁ E k hS) (fun v s₂ ⟨hv, k2⟩ => by
    subst hv
    cases v with
    | true => exact wpAny_mono ((ha rfl).go s₂ (k.trans k2) (hS.mono k2) E) (fun v s₃ ⟨hv, k3⟩ => ⟨hv, k2.trans k3⟩) fun _ _ e => e
    | false => exact wpAny_mono ((hb rfl).go s₂ (k.trans k2) (hS.mono k2) E) (fun v s₃ ⟨hv, k3⟩ => ⟨hv, k2.trans k3⟩) fun _ _ e => e) fun _ _ e => e)⟩
/-! ## arguments, displays -/
theorem PEs.nil : PEs prog w A S env s [] [] := ⟨fun s₁ E pos k hS => spliced_nil ⟨Iss.nil, Kp.refl _⟩⟩
theorem PEs.cons {e : Expr} {es : List Expr} {p : P} {ps : List P} (h : PE prog w A S env s e p) (hs : PEs prog w A S env s es ps)
    (hstar : starEach (e :: es) env = (false, eval e env) :: starEach es env := by intros; rfl)
    (hb : ∀ pos, backTo pos ((false, eval e env) :: starEach es env) = (false, eval e env) :: backTo pos (starEach es env) := by intros; rfl) :
    PEs prog w A S env s (e :: es) (p :: ps) := ⟨fun s₁ E pos k hS => by
  rw [hstar, hb]
  refine spliced_cons (wpAny_mono (h.go s₁ k hS E) (fun v s₂ ⟨hv, k2⟩ => ?_) fun _ _ e => e)
  exact wpAny_mono (hs.go s₂ E pos (k.trans k2) (hS.mono k2)) (fun vs s₃ ⟨hvs, k3⟩ => ⟨Iss.cons (hv.ext k3.ext) hvs, k2.trans k3⟩) fun _ _ e => e⟩
theorem PE.display {es : List Expr} {ps : List P} {pos : Pos} (h : PEs prog w A S env s es ps) (hz : ps.length ≤ 16777216) : PE prog w A S env s (.List es pos) (.list ps) :=
  ⟨fun s₁ k hS E => wpAny_List_spliced (wpAny_mono (h.go s₁ E pos k hS) (fun vs s₂ ⟨hv, k2⟩ =>
    ⟨by rw [hv.length, sizeLine_eq]; exact hz, (hS.mono k2).newList hv, k2.trans (Kp.push _ _)⟩) fun _ _ e => e)⟩
end
end Mine

namespace Mine
open PySem PySem.Calls PyProof.Rows
section
variable {prog : Program} {w : World} {A : Around} {S : List Addr} {env : Env} {s : Shared}
/-! ## ints -/
theorem PE.add {l r : Expr} {pos : Pos} {a b : Int} (hl : PE prog w A S env s l (.int a)) (hr : PE prog w A S env s r (.int b)) : PE prog w A S env s (.BinOp l .Add r pos) (.int (a + b)) :=
  hl.binop hr fun x y s₂ hS hx hy E => by
    obtain ⟨t, rfl⟩ := hx.ofInt; obtain ⟨u, rfl⟩ := hy.ofInt
    exact PyProof.Rows.add_int ⟨Is.int, Kp.toks _ _⟩
theorem PE.sub {l r : Expr} {pos : Pos} {a b : Int} (hl : PE prog w A S env s l (.int a)) (hr : PE prog w A S env s r (.int b)) : PE prog w A S env s (.BinOp l .Sub r pos) (.int (a - b)) :=
  hl.binop hr fun x y s₂ hS hx hy E => by
    obtain ⟨t, rfl⟩ := hx.ofInt; obtain ⟨u, rfl⟩ := hy.ofInt
    exact PyProof.Rows.sub_int' ⟨Is.int, Kp.toks _ _⟩
theorem PE.mul {l r : Expr} {pos : Pos} {a b : Int} (hl : PE prog w A S env s l (.int a)) (hr : PE prog w A S env s r (.int b)) (hm : IntMulOk a b) : PE prog w A S env s (.BinOp l .Mult r pos) (.int (a * b)) :=
  hl.binop hr fun x y s₂ hS hx hy E => by
    obtain ⟨t, rfl⟩ := hx.ofInt; obtain ⟨u, rfl⟩ := hy.ofInt
    exact PyProof.Rows.mul_int ⟨Is.int, Kp.toks _ _⟩ hm
theorem PE.mod {l r : Expr} {pos : Pos} {a b : Int} (hl : PE prog w A S env s l (.int a)) (hr : PE prog w A S env s r (.int b)) (hb : 0 < b) (hs : b < 1073741824) : PE prog w A S env s (.BinOp l .Mod r pos) (.int (a % b)) :=
  hl.binop hr fun x y s₂ hS hx hy E => by
    obtain ⟨t, rfl⟩ := hx.ofInt; obtain ⟨u, rfl⟩ := hy.ofInt
    refine PyProof.Rows.mod_int' (by omega) ?_
    rw [Int.fmod_eq_emod_of_nonneg _ (by omega)]
    exact ⟨Is.int, Kp.toks _ _⟩
theorem PE.div {l r : Expr} {pos : Pos} {a b : Int} (hl : PE prog w A S env s l (.int a)) (hr : PE prog w A S env s r (.int b)) (hb : 0 < b) (hs : b < 1073741824) : PE prog w A S env s (.BinOp l .FloorDiv r pos) (.int (a / b)) :=
  hl.binop hr fun x y s₂ hS hx hy E => by
    obtain ⟨t, rfl⟩ := hx.ofInt; obtain ⟨u, rfl⟩ := hy.ofInt
    refine PyProof.Rows.floordiv_int (by omega) ?_ (Or.inl (PyProof.noPylong_small (by omega)))
    rw [Int.fdiv_eq_ediv_of_nonneg _ (by omega)]
    exact ⟨Is.int, Kp.toks _ _⟩
theorem PE.pow {l r : Expr} {pos : Pos} {a b : Int} (hl : PE prog w A S env s l (.int a)) (hr : PE prog w A S env s r (.int b)) (h0 : 0 ≤ b) (h1 : b ≤ 1000000) (ha : a.natAbs < 2 ^ 64) : PE prog w A S env s (.BinOp l .Pow r pos) (.int (a ^ b.toNat)) :=
  hl.binop hr fun x y s₂ hS hx hy E => by
    obtain ⟨t, rfl⟩ := hx.ofInt; obtain ⟨u, rfl⟩ := hy.ofInt
    exact PyProof.Rows.pow_int_small h0 h1 ha ⟨Is.int, Kp.toks _ _⟩
theorem PE.shl {l r : Expr} {pos : Pos} {a b : Int} (hl : PE prog w A S env s l (.int a)) (hr : PE prog w A S env s r (.int b)) (h0 : 0 ≤ b) (h1 : b ≤ 1000000) (ha : a.natAbs < 2 ^ 64) : PE prog w A S env s (.BinOp l .LShift r pos) (.int (a * 2 ^ b.toNat)) :=
  hl.binop hr fun x y s₂ hS hx hy E => by
    obtain ⟨t, rfl⟩ := hx.ofInt; obtain ⟨u, rfl⟩ := hy.ofInt
    exact PyProof.Rows.lshift_int_small h0 h1 ha ⟨Is.int, Kp.toks _ _⟩
theorem PE.band {l r : Expr} {pos : Pos} {a b : Int} (hl : PE prog w A S env s l (.int a)) (hr : PE prog w A S env s r (.int b)) : PE prog w A S env s (.BinOp l .BitAnd r pos) (.int (Builtin.bitAnd a b)) :=
  hl.binop hr fun x y s₂ hS hx hy E => by
    obtain ⟨t, rfl⟩ := hx.ofInt; obtain ⟨u, rfl⟩ := hy.ofInt
    exact PyProof.Rows.and_int ⟨Is.int, Kp.toks _ _⟩
theorem PE.bxor {l r : Expr} {pos : Pos} {a b : Int} (hl : PE prog w A S env s l (.int a)) (hr : PE prog w A S env s r (.int b)) : PE prog w A S env s (.BinOp l .BitXor r pos) (.int (Builtin.bitXor a b)) :=
  hl.binop hr fun x y s₂ hS hx hy E => by
    obtain ⟨t, rfl⟩ := hx.ofInt; obtain ⟨u, rfl⟩ := hy.ofInt
    exact PyProof.Rows.xor_int ⟨Is.int, Kp.toks _ _⟩
theorem PE.neg {l : Expr} {pos : Pos} {a : Int} (hl : PE prog w A S env s l (.int a)) : PE prog w A S env s (.UnaryOp .USub l pos) (.int (-a)) := ⟨fun s₁ k hS E => by
  show wpAny _ _ (do let v ← eval l env; standAt pos; holding [v] (unaryOp .USub v)) _ _ _
  refine wpAny_bind (wpAny_mono (hl.go s₁ k hS E) (fun v s₂ ⟨hv, k2⟩ => ?_) fun _ _ e => e)
  obtain ⟨t, rfl⟩ := hv.ofInt
  exact wpAny_bind (wpAny_standAt (wpAny_holding (PyProof.Rows.neg_int ⟨Is.int, k2.trans (Kp.toks _ _)⟩)))⟩
/-! ## comparisons of ints, texts, bools -/
theorem cmpI {op : CmpOp} {R : Int → Int → Bool} (h : ∀ a b t u (s₂ : Shared) (Q : Value → Shared → Prop) E, Q (.bool (R a b)) s₂ → wpAny (model prog w) A (compareOp op (.int a t) (.int b u)) Q E s₂) {a b : Int} :
    Cm prog w A S op (.int a) (.int b) (R a b) := ⟨fun x y s₂ hS hx hy E => by
  obtain ⟨t, rfl⟩ := hx.ofInt; obtain ⟨u, rfl⟩ := hy.ofInt
  exact h a b t u s₂ _ E ⟨Is.bool, Kp.refl _⟩⟩
theorem cmpS {op : CmpOp} {R : Str → Str → Bool} (h : ∀ a b t u (s₂ : Shared) (Q : Value → Shared → Prop) E, Q (.bool (R a b)) s₂ → wpAny (model prog w) A (compareOp op (.str a t) (.str b u)) Q E s₂) {a b : Str} :
    Cm prog w A S op (.str a) (.str b) (R a b) := ⟨fun x y s₂ hS hx hy E => by
  obtain ⟨t, rfl⟩ := hx.ofStr; obtain ⟨u, rfl⟩ := hy.ofStr
  exact h a b t u s₂ _ E ⟨Is.bool, Kp.refl _⟩⟩
theorem gLt {a b : Int} : Cm prog w A S .Lt (.int a) (.int b) (decide (a < b)) := cmpI (R := fun a b => decide (a < b)) (fun a b t u s₂ Q E hq => PyProof.Rows.lt_int hq)
theorem gGt {a b : Int} : Cm prog w A S .Gt (.int a) (.int b) (decide (b < a)) := cmpI (R := fun a b => decide (b < a)) (fun a b t u s₂ Q E hq => PyProof.Rows.gt_int hq)
theorem gGe {a b : Int} : Cm prog w A S .GtE (.int a) (.int b) (decide (b ≤ a)) := cmpI (R := fun a b => decide (b ≤ a)) (fun a b t u s₂ Q E hq => PyProof.Rows.ge_int hq)
theorem gEqI {a b : Int} : Cm prog w A S .Eq (.int a) (.int b) (a == b) := cmpI (R := fun a b => a == b) (fun a b t u s₂ Q E hq => PyProof.Rows.eq_int hq)
theorem gNeI {a b : Int} : Cm prog w A S .NotEq (.int a) (.int b) (a != b) := cmpI (R := fun a b => a != b) (fun a b t u s₂ Q E hq => PyProof.Rows.ne_int hq)
theorem gEqS {a b : Str} : Cm prog w A S .Eq (.str a) (.str b) (a == b) := cmpS (R := fun a b => a == b) (fun a b t u s₂ Q E hq => PyProof.Rows.eq_str hq)
theorem gNeS {a b : Str} : Cm prog w A S .NotEq (.str a) (.str b) (a != b) := cmpS (R := fun a b => a != b) (fun a b t u s₂ Q E hq => PyProof.Rows.ne_str hq)
theorem gNeB {a b : Bool} : Cm prog w A S .NotEq (.bool a) (.bool b) (a != b) := ⟨fun x y s₂ hS hx hy E => by
  cases hx.ofBool; cases hy.ofBool
  exact PyProof.Rows.ne_bool ⟨Is.bool, Kp.refl _⟩⟩
/-! ## texts -/
theorem PE.cat {l r : Expr} {pos : Pos} {a b : Str} (hl : PE prog w A S env s l (.str a)) (hr : PE prog w A S env s r (.str b)) (hz : a.length + b.length ≤ 16777216) : PE prog w A S env s (.BinOp l .Add r pos) (.str (a ++ b)) :=
  hl.binop hr fun x y s₂ hS hx hy E => by
    obtain ⟨t, rfl⟩ := hx.ofStr; obtain ⟨u, rfl⟩ := hy.ofStr
    exact PyProof.Rows.add_str (fun t' tk => ⟨Is.str, Kp.toks _ _⟩) (by rw [sizeLine_eq]; exact hz)
theorem PE.rep {l r : Expr} {pos : Pos} {a : Str} {b : Int} (hl : PE prog w A S env s l (.str a)) (hr : PE prog w A S env s r (.int b)) (hz : MulOk a b) : PE prog w A S env s (.BinOp l .Mult r pos) (.str (Txt.mul a b)) :=
  hl.binop hr fun x y s₂ hS hx hy E => by
    obtain ⟨t, rfl⟩ := hx.ofStr; obtain ⟨u, rfl⟩ := hy.ofInt
    exact SB.mul hz fun t' tk => ⟨Is.str, Kp.toks _ _⟩
/-! ## lists -/
theorem hid_list {h : Heap} {a : Addr} {vs : Array Value} {n : Nat} (e : hid S h a = some (lobj vs n)) : IsL h a vs n := (hid_some.mp e).2
theorem PE.catL {l r : Expr} {pos : Pos} {a b : List P} (hl : PE prog w A S env s l (.list a)) (hr : PE prog w A S env s r (.list b)) (hz : a.length + b.length ≤ 16777216) : PE prog w A S env s (.BinOp l .Add r pos) (.list (a ++ b)) :=
  hl.binop hr fun x y s₂ hS hx hy E => by
    obtain ⟨c, n, vs, rfl, lx, ix⟩ := hx.ofList; obtain ⟨d, k, us, rfl, ly, iy⟩ := hy.ofList
    refine PySem.P.add_list (hid_list lx) (hid_list ly) ⟨?_, Kp.push _ _⟩ (by simp [ix.length, iy.length, sizeLine_eq]; exact hz)
    have e : vs.toArray ++ us.toArray = (vs ++ us).toArray := by simp
    rw [e]
    exact hS.newList (ix.append iy)
theorem rep_fold (x : Value) (k : Nat) : List.foldl (fun x1 x2 => x1 ++ x2) #[] (List.replicate k #[x]) = (List.replicate k x).toArray := by
  have h : ∀ (k : Nat) (acc : Array Value), List.foldl (fun x1 x2 => x1 ++ x2) acc (List.replicate k #[x]) = acc ++ (List.replicate k x).toArray := by
    intro k
    induction k with
    | zero => intro acc; simp
    | succ k ih => intro acc; rw [List.replicate_succ, List.foldl_cons, ih, List.replicate_succ]; apply Array.ext'; simp
  rw [h]; simp
theorem PE.repL {l r : Expr} {pos : Pos} {p : P} {b : Int} (hl : PE prog w A S env s l (.list [p])) (hr : PE prog w A S env s r (.int b)) (h0 : 0 ≤ b) (hz : b ≤ 16777216) : PE prog w A S env s (.BinOp l .Mult r pos) (.list (List.replicate b.toNat p)) :=
  hl.binop hr fun x y s₂ hS hx hy E => by
    obtain ⟨c, k, vs, rfl, lx', ix⟩ := hx.ofList; obtain ⟨u, rfl⟩ := hy.ofInt
    have lx := hid_list lx'
    simp only [Iss] at ix
    obtain ⟨v, r, rfl, iv, rfl⟩ := ix
    refine wpAny_binaryOp_repeat_ref (T := "list") (U := "int") (by decide) ⟨_, lx, rfl⟩ (fun s' => typeIs_int s' b u) noFill_list_mul F.fills_int_mul F.slot_int_rmul repeat_list F.slot_int_index.lookup
      (call_meets F.slot_int_rmul (typeIs_int _ b u) F.entry_int_rmul (F.args_int_rmul_2 _ _) (int___rmul___int_list b u c _ k)
      ⟨lx, rfl, ⟨_, lx, rfl⟩, call_meets F.slot_list_mul ⟨_, lx, rfl⟩ F.entry_list_mul (F.args_list_mul_2 _ _)
        (AutoListH.list___mul___list_int_3 c _ k b u (by simp [Builtin.List.listFitsIndex]; omega) (by simp; omega) (by simp [Builtin.List.listTooLong, sizeLine]; omega))
        ⟨lx, ?_⟩⟩)
    show Is _ _ _ ∧ _
    refine ⟨?_, Kp.push _ _⟩
    have e : List.foldl (fun x1 x2 => x1 ++ x2) #[] (List.replicate (if ([v].toArray).isEmpty = true then 0 else b.toNat) [v].toArray) = (List.replicate b.toNat v).toArray := by
      rw [if_neg (by simp)]; exact rep_fold v _
    rw [e]
    exact hS.newList (Iss.replicate iv _)
theorem Iss.ints {g : Gt} : ∀ {ns : List Int} {vs : List Value}, Iss g (ns.map .int) vs → IntsAre vs ns
  | [], _, x => by simp only [List.map_nil, Iss] at x; subst x; exact .nil
  | _ :: _, _, x => by
    simp only [List.map_cons, Iss] at x
    obtain ⟨v, r, rfl, hv, hr⟩ := x
    obtain ⟨t, rfl⟩ := hv.ofInt
    exact .cons _ t (Iss.ints hr)
theorem Iss.strs {g : Gt} : ∀ {ns : List Str} {vs : List Value}, Iss g (ns.map .str) vs → StrsAre vs ns
  | [], _, x => by simp only [List.map_nil, Iss] at x; subst x; exact .nil
  | _ :: _, _, x => by
    simp only [List.map_cons, Iss] at x
    obtain ⟨v, r, rfl, hv, hr⟩ := x
    obtain ⟨t, rfl⟩ := hv.ofStr
    exact .cons _ t (Iss.strs hr)
theorem Iss.ofInts {g : Gt} : ∀ {ns : List Int} {vs : List Value}, IntsAre vs ns → Iss g (ns.map .int) vs
  | _, _, .nil => Iss.nil
  | _, _, .cons _ _ h => Iss.cons Is.int (Iss.ofInts h)
theorem Iss.ofStrs {g : Gt} : ∀ {ns : List Str} {vs : List Value}, StrsAre vs ns → Iss g (ns.map .str) vs
  | _, _, .nil => Iss.nil
  | _, _, .cons _ _ h => Iss.cons Is.str (Iss.ofStrs h)
theorem strs_values {g : Gt} : ∀ {l : List (Str × Tok)}, Iss g ((l.map (·.1)).map .str) (strValues l)
  | [] => Iss.nil
  | (x, t) :: r => Iss.cons Is.str strs_values
theorem strs_pairs {g : Gt} : ∀ {ns : List Str} {vs : List Value}, Iss g (ns.map .str) vs → ∃ l : List (Str × Tok), l.map (·.1) = ns ∧ vs = strValues l
  | [], _, x => by simp only [List.map_nil, Iss] at x; exact ⟨[], rfl, x⟩
  | a :: _, _, x => by
    simp only [List.map_cons, Iss] at x
    obtain ⟨v, r, rfl, hv, hr⟩ := x
    obtain ⟨t, rfl⟩ := hv.ofStr
    obtain ⟨l, h1, h2⟩ := strs_pairs hr
    exact ⟨(a, t) :: l, by simp [h1], by rw [h2]; rfl⟩
/-- items of a list -/
def pick (ps : List P) (i : Int) : Option P := if 0 ≤ i then ps[i.toNat]? else if -(ps.length : Int) ≤ i then ps[(i + ps.length).toNat]? else none
theorem Gv.item {ps : List P} {i : Int} {p : P} {a : Addr} {t : Tok} {s₂ : Shared} (hl : Is (hid S s₂.heap) (.list ps) (.ref a)) (hp : pick ps i = some p) (hz : i < 2 ^ 62) (hlo : -(2 ^ 62) ≤ i) : Gv prog w A S s₂ (getItem (.ref a) (.int i t)) p := fun E => by
  obtain ⟨c, n, vs, e, lx, ix⟩ := hl.ofList
  cases e
  unfold pick at hp
  by_cases h0 : 0 ≤ i
  · rw [if_pos h0] at hp
    obtain ⟨v, hv, hi⟩ := ix.get hp
    exact wpAny_getItem_list (hid_list lx).isList h0 (by omega) (by simpa using hv) ⟨hi, Kp.refl _⟩
  · rw [if_neg h0] at hp
    by_cases h1 : -(ps.length : Int) ≤ i
    · rw [if_pos h1] at hp
      obtain ⟨v, hv, hi⟩ := ix.get hp
      exact wpAny_getItem_list_neg (hid_list lx).isList (by omega) (by simpa [ix.length] using h1) (by omega) (by simpa [ix.length] using hv) ⟨hi, Kp.refl _⟩
    · rw [if_neg h1] at hp; cases hp
theorem PE.item {value slice : Expr} {pos : Pos} {ps : List P} {i : Int} {p : P} (hl : PE prog w A S env s value (.list ps)) (hi : PE prog w A S env s slice (.int i)) (hp : pick ps i = some p) (hz : i < 2 ^ 62) (hlo : -(2 ^ 62) ≤ i)
    (hs : ∀ a t, subscripted slice false (.ref a) (.int i t) = operate [.ref a, .int i t] (getItem (.ref a) (.int i t)) := by intros; with_unfolding_all rfl) : PE prog w A S env s (.Subscript value slice pos) p :=
  ⟨fun s₁ k hS E => Subscript_ (two hl hi k hS (op := subscriptTail value slice) fun x y s₂ hS₂ hx hy E => by
    obtain ⟨c, n, vs, rfl, lx, ix⟩ := hx.ofList; obtain ⟨u, rfl⟩ := hy.ofInt
    exact tail_any (hid_list lx).isList.typeIs slot_list_getitem.lookup (Gv.item (Is.list lx ix) hp hz hlo E) (hs _ _))⟩
theorem PE.itemS {value slice : Expr} {pos : Pos} {x : Str} {i : Int} (hl : PE prog w A S env s value (.str x)) (hi : PE prog w A S env s slice (.int i)) (hin : (Txt.charAt x i).isSome = true) (hr : fitsSsize i = true)
    (hs : ∀ t u, subscripted slice false (.str x t) (.int i u) = operate [.str x t, .int i u] (getItem (.str x t) (.int i u)) := by intros; with_unfolding_all rfl) : PE prog w A S env s (.Subscript value slice pos) (.str (Txt.item x i)) :=
  ⟨fun s₁ k hS E => Subscript_ (two hl hi k hS (op := subscriptTail value slice) fun x y s₂ hS₂ hx hy E => by
    obtain ⟨t, rfl⟩ := hx.ofStr; obtain ⟨u, rfl⟩ := hy.ofInt
    exact tail_any (typeIs_str _ _ _) F.slot_str_getitem.lookup (SB.getItem hr hin ⟨Is.str, Kp.toks _ _⟩) (hs _ _))⟩
end
end Mine

namespace Mine
open PySem PySem.Calls PyProof.Rows
/-- room for d more calls -/
def Ok (d : Nat) (A : Around) : Prop := A.handled = none ∧ A.depth + d < recursionLimit ∧ A.units + 100 * d + 200 < cLine
theorem Ok.deeper {d : Nat} {A : Around} (h : Ok (d + 1) A) (env : Env) : Ok d (A.deeper env) := ⟨h.1, by have := h.2.1; show A.depth + 1 + d < _; omega, by have := h.2.2; show A.units + 3 + _ + _ < _; omega⟩
theorem Ok.le {d e : Nat} {A : Around} (h : Ok d A) (hd : e ≤ d) : Ok e A := ⟨h.1, by have := h.2.1; omega, by have := h.2.2; omega⟩
section
variable {prog : Program} {w : World} {A : Around} {S : List Addr} {env : Env} {s : Shared}
/-! ## slices -/
theorem PE.sliceFrom {value l : Expr} {p pos : Pos} {x : Str} {i : Int} (hv : PE prog w A S env s value (.str x)) (hl : PE prog w A S env s l (.int i)) (hsz : x.length ≤ 16777216)
    (ht : ∀ o r, letTemporaryGo value o r = pure () := by intro _ _; rfl) : PE prog w A S env s (.Subscript value (.Slice (some l) none none p) pos) (.str (Txt.slice x (some i) none)) :=
  ⟨fun s₁ k hS E => wpAny_Subscript_str_slice (wpAny_mono (hv.go s₁ k hS E) (fun o s₂ ⟨ho, k2⟩ => evalPart_some_step (wpAny_mono (hl.go s₂ (k.trans k2) (hS.mono k2) E) (fun vl s₃ ⟨hvl, k3⟩ => wpAny_evalPart_none (by
    obtain ⟨t, rfl⟩ := ho.ofStr; obtain ⟨u, rfl⟩ := hvl.ofInt
    refine ⟨x, t, some (i, u), none, rfl, rfl, rfl, post_val_or_str (Q := fun v s' => _) ⟨Nat.le_trans (Txt.slice_le x _ _) (by rw [sizeLine_eq]; exact hsz), fun t' tk => ?_⟩⟩
    exact ⟨Is.str, (k2.trans k3).trans (Kp.pushT _ _ _)⟩)) fun _ _ e => e)) fun _ _ e => e) ht⟩
theorem PE.sliceTo {value u : Expr} {p pos : Pos} {x : Str} {i : Int} (hv : PE prog w A S env s value (.str x)) (hl : PE prog w A S env s u (.int i)) (hsz : x.length ≤ 16777216)
    (ht : ∀ o r, letTemporaryGo value o r = pure () := by intro _ _; rfl) : PE prog w A S env s (.Subscript value (.Slice none (some u) none p) pos) (.str (Txt.slice x none (some i))) :=
  ⟨fun s₁ k hS E => wpAny_Subscript_str_slice (wpAny_mono (hv.go s₁ k hS E) (fun o s₂ ⟨ho, k2⟩ => wpAny_evalPart_none (evalPart_some_step (wpAny_mono (hl.go s₂ (k.trans k2) (hS.mono k2) E) (fun vl s₃ ⟨hvl, k3⟩ => by
    obtain ⟨t, rfl⟩ := ho.ofStr; obtain ⟨u, rfl⟩ := hvl.ofInt
    refine ⟨x, t, none, some (i, u), rfl, rfl, rfl, post_val_or_str (Q := fun v s' => _) ⟨Nat.le_trans (Txt.slice_le x _ _) (by rw [sizeLine_eq]; exact hsz), fun t' tk => ?_⟩⟩
    exact ⟨Is.str, (k2.trans k3).trans (Kp.pushT _ _ _)⟩) fun _ _ e => e))) fun _ _ e => e) ht⟩
theorem PE.sliceList {value l : Expr} {p pos : Pos} {ps : List P} {i : Nat} (hv : PE prog w A S env s value (.list ps)) (hl : PE prog w A S env s l (.int i)) (hi : i ≤ ps.length) (hsz : ps.length ≤ 16777216)
    (ht : ∀ o r, letTemporaryGo value o r = pure () := by intro _ _; rfl) : PE prog w A S env s (.Subscript value (.Slice (some l) none none p) pos) (.list (ps.drop i)) :=
  ⟨fun s₁ k hS E => wpAny_Subscript_list_slice (wpAny_mono (hv.go s₁ k hS E) (fun o s₂ ⟨ho, k2⟩ => evalPart_some_step (wpAny_mono (hl.go s₂ (k.trans k2) (hS.mono k2) E) (fun vl s₃ ⟨hvl, k3⟩ => wpAny_evalPart_none (by
    obtain ⟨a, n, vs, rfl, la, ia⟩ := (ho.ext k3.ext).ofList; obtain ⟨u, rfl⟩ := hvl.ofInt
    refine ⟨a, vs.toArray, some i, none, rfl, (hid_list la).isList, by rw [sizeLine_eq, List.size_toArray, ia.length]; exact hsz, ?_, ?_, ?_⟩
    · exact IsPart.int _ _
    · exact IsPart.none
    · rw [slicePick_from _ _ (by rw [List.size_toArray, ia.length]; exact hi)]
      have k4 : Kp s₁ { s₃ with heap := s₃.heap.push { cls := .type "slice", data := .fields #[.int (i : Int) u, .none, .none] } } := (k2.trans k3).trans (Kp.push _ _)
      refine ⟨?_, k4.trans (Kp.push _ _)⟩
      have := (hS.mono k4).newList (vs := vs.drop i) (ps := ps.drop i) ((ia.drop i).ext (Kp.ext (Kp.push _ _)))
      simpa [Heap.size_push] using this)) fun _ _ e => e)) fun _ _ e => e) ht⟩
/-! ## lists compared -/
theorem strs_shaped : ∀ ns : List Str, (∀ x ∈ ns, PyData.strOk x = true) → PyData.canLayAll0 (ns.map PyData.str) = true
  | [], _ => rfl
  | a :: r, h => by simp [PyData.canLayAll0, PyData.canLay0, strs_shaped r fun x m => h x (.tail _ m), h a (.head _)]
theorem strs_depth : ∀ ns : List Str, PyData.depthAll (ns.map PyData.str) = 0
  | [] => rfl
  | _ :: r => by simp [PyData.depthAll, PyData.depth, strs_depth r]
theorem strs_shaped' (ns : List Str) (h : ∀ x ∈ ns, PyData.strOk x = true) : SeqAt.shaped (.list (ns.map PyData.str)) = true := by
  simp [SeqAt.shaped, PyData.canLay0, PyData.depth, strs_shaped ns h, strs_depth]
theorem strs_eqv : ∀ ns ms : List Str, PyData.eqvAll (ns.map PyData.str) (ms.map PyData.str) = (ns == ms)
  | [], [] => by simp [PyData.eqvAll]
  | [], _ :: _ => by simp [PyData.eqvAll]
  | _ :: _, [] => by simp [PyData.eqvAll]
  | a :: r, b :: t => by
    simp only [List.map_cons, PyData.eqvAll, PyData.eqv, strs_eqv r t]
    rfl
theorem gNeStrs {d : Nat} (hA : Ok d A) {xs ys : List Str} (hxs : ∀ x ∈ xs, PyData.strOk x = true) (hys : ∀ x ∈ ys, PyData.strOk x = true) : Cm prog w A S .NotEq (.list (xs.map .str)) (.list (ys.map .str)) (!(xs == ys)) := ⟨fun x y s₂ hS hx hy E => by
  obtain ⟨a, n, vs, rfl, la, ia⟩ := hx.ofList
  obtain ⟨b, m, us, rfl, lb, ib⟩ := hy.ofList
  refine ne_dataH (Reads.list (hid_list la) rfl rfl (StrsAre.reads _ ia.strs)) (Reads.list (hid_list lb) rfl rfl (StrsAre.reads _ ib.strs)) (strs_shaped' _ hxs) (strs_shaped' _ hys) (by have := hA.2.2; omega) ?_
  simp only [PyData.eqv, strs_eqv]
  exact ⟨Is.bool, Kp.refl _⟩⟩
/-- a list against the empty list -/
theorem gEqNil {d : Nat} (hA : Ok d A) {ps : List P} (hp : ps ≠ []) : Cm prog w A S .Eq (.list ps) (.list []) false := ⟨fun x y s₂ hS hx hy E => by
  obtain ⟨a, n, vs, rfl, la, ia⟩ := hx.ofList
  obtain ⟨b, m, us, rfl, lb, ib⟩ := hy.ofList
  refine PySem.P.eq_list_lengths (hid_list la) (hid_list lb) ?_ (by have := hA.2.2; omega) ⟨Is.bool, Kp.refl _⟩
  have h1 := ia.length
  have h2 := ib.length
  cases ps with
  | nil => exact absurd rfl hp
  | cons p r => simp only [List.size_toArray]; rw [h1, h2]; simp⟩
theorem any_isStr {k : Str} {xs : List Str} : xs.any (· == k) = xs.contains k := by
  induction xs with
  | nil => rfl
  | cons a r ih => rw [List.any_cons, List.contains_cons, ih]; congr 1; rw [Bool.eq_iff_iff, beq_iff_eq, beq_iff_eq]; exact ⟨Eq.symm, Eq.symm⟩
theorem gIn {k : Str} {xs : List Str} : Cm prog w A S .In (.str k) (.list (xs.map .str)) (xs.contains k) := ⟨fun x y s₂ hS hx hy E => by
  obtain ⟨a, n, vs, rfl, la, ia⟩ := hy.ofList
  obtain ⟨t, rfl⟩ := hx.ofStr
  refine in_list_strs (hid_list la).isList ia.strs ?_
  rw [any_isStr]; exact ⟨Is.bool, Kp.refl _⟩⟩
theorem gNotIn {k : Str} {xs : List Str} : Cm prog w A S .NotIn (.str k) (.list (xs.map .str)) (!xs.contains k) := ⟨fun x y s₂ hS hx hy E => by
  obtain ⟨a, n, vs, rfl, la, ia⟩ := hy.ofList
  obtain ⟨t, rfl⟩ := hx.ofStr
  refine notin_list_strs (hid_list la).isList ia.strs ?_
  rw [any_isStr]; exact ⟨Is.bool, Kp.refl _⟩⟩
/-! ## calls of a name -/
theorem PE.callB {x : Str} {pn pos : Pos} {id : String} {e : Expr} {es : List Expr} {ps : List P} {R : P} (hf : PE prog w A S env s (.Name x pn) (.val (.builtin id))) (ha : PEs prog w A S env s (e :: es) ps)
    (h : ∀ vs s₂, Hid S s₂ → Iss (hid S s₂.heap) ps vs → Gv prog w A S s₂ (call (.builtin id) vs) R)
    (he : starEach (e :: es) env = (false, eval e env) :: starEach es env := by intros; rfl) (hplain : (backTo pos (starEach (e :: es) env)).any (·.1) = false := by intros; rfl) :
    PE prog w A S env s (.Call (.Name x pn) (e :: es) [] pos) R := ⟨fun s₁ k hS E => by
  refine Call_Name rfl (wpAny_mono (hf.go s₁ k hS E) (fun f s₂ ⟨hfv, k2⟩ => ?_) fun _ _ e => e)
  cases hfv.ofVal
  refine callWith_builtin hplain ?_
  have ha' := ha.go s₂ E pos (k.trans k2) (hS.mono k2)
  rw [he] at ha' ⊢
  refine evalArgs_plain (wpAny_mono ha' (fun vs s₃ ⟨hvs, k3⟩ => ?_) fun _ _ e => e)
  exact wpAny_mono (h vs s₃ (hS.mono (k2.trans k3)) hvs E) (fun v s' ⟨hv, k4⟩ => ⟨hv, (k2.trans k3).trans k4⟩) fun _ _ e => e⟩
theorem PE.callT {x : Str} {pn pos : Pos} {T : String} {e : Expr} {es : List Expr} {ps : List P} {R : P} (hf : PE prog w A S env s (.Name x pn) (.val (.type T))) (ha : PEs prog w A S env s (e :: es) ps)
    (h : ∀ vs s₂, Hid S s₂ → Iss (hid S s₂.heap) ps vs → Gv prog w A S s₂ (call (.type T) vs) R)
    (he : starEach (e :: es) env = (false, eval e env) :: starEach es env := by intros; rfl) (hplain : (backTo pos (starEach es env)).any (·.1) = false := by intros; rfl) :
    PE prog w A S env s (.Call (.Name x pn) (e :: es) [] pos) R := ⟨fun s₁ k hS E => by
  refine Call_Name rfl (wpAny_mono (hf.go s₁ k hS E) (fun f s₂ ⟨hfv, k2⟩ => ?_) fun _ _ e => e)
  cases hfv.ofVal
  refine PyProof.Rows.callWith_type1 (wpAny_mono (ha.go s₂ E pos (k.trans k2) (hS.mono k2)) (fun vs s₃ ⟨hvs, k3⟩ => ?_) fun _ _ e => e) he hplain
  exact wpAny_mono (h vs s₃ (hS.mono (k2.trans k3)) hvs E) (fun v s' ⟨hv, k4⟩ => ⟨hv, (k2.trans k3).trans k4⟩) fun _ _ e => e⟩
theorem PE.callF {x : Str} {pn pos : Pos} {f : Addr} {o : Obj} {fd : FuncData} {e : Expr} {es : List Expr} {ps : List P} {R : P} (hf : PE prog w A S env s (.Name x pn) (.val (.ref f))) (ho : s.heap.get? f = some o) (hd : o.data = .func fd) (ha : PEs prog w A S env s (e :: es) ps)
    (h : ∀ vs s₂, Kp s s₂ → Hid S s₂ → Iss (hid S s₂.heap) ps vs → Gv prog w A S s₂ (call (.ref f) vs) R)
    (he : starEach (e :: es) env = (false, eval e env) :: starEach es env := by intros; rfl) :
    PE prog w A S env s (.Call (.Name x pn) (e :: es) [] pos) R := ⟨fun s₁ k hS E => by
  refine Call_Name rfl (wpAny_mono (hf.go s₁ k hS E) (fun f s₂ ⟨hfv, k2⟩ => ?_) fun _ _ e => e)
  cases hfv.ofVal
  refine callWith_def hd (wpAny_mono (ha.go s₂ E pos (k.trans k2) (hS.mono k2)) (fun vs s₃ ⟨hvs, k3⟩ => ?_) fun _ _ e => e) he
  exact ⟨(k.trans (k2.trans k3)).get _ _ ho, wpAny_mono (h vs s₃ (k.trans (k2.trans k3)) (hS.mono (k2.trans k3)) hvs E) (fun v s' ⟨hv, k4⟩ => ⟨hv, (k2.trans k3).trans k4⟩) fun _ _ e => e⟩⟩
theorem Iss.one {g : Gt} {p : P} {vs : List Value} (h : Iss g [p] vs) : ∃ v, vs = [v] ∧ Is g p v := by
  simp only [Iss] at h; obtain ⟨v, r, rfl, hv, rfl⟩ := h; exact ⟨v, rfl, hv⟩
theorem Iss.two {g : Gt} {p q : P} {vs : List Value} (h : Iss g [p, q] vs) : ∃ u v, vs = [u, v] ∧ Is g p u ∧ Is g q v := by
  simp only [Iss] at h; obtain ⟨u, r, rfl, hu, v, r', rfl, hv, rfl⟩ := h; exact ⟨u, v, rfl, hu, hv⟩
/-! ## built-in functions -/
theorem PE.lenL {pn pos : Pos} {x : Str} {e : Expr} {ps : List P} (hf : PE prog w A S env s (.Name x pn) (.val (.builtin "len"))) (ha : PE prog w A S env s e (.list ps)) (hz : ps.length ≤ 16777216)
    (he : starEach [e] env = [(false, eval e env)] := by intros; rfl) : PE prog w A S env s (.Call (.Name x pn) [e] [] pos) (.int ps.length) :=
  PE.callB hf (PEs.cons ha PEs.nil he) (fun vs s₂ hS hv E => by
    obtain ⟨v, rfl, hv1⟩ := hv.one
    obtain ⟨a, n, vs, rfl, la, ia⟩ := hv1.ofList
    have hl := ia.length
    refine call_len_list (hid_list la).isList (by rw [List.size_toArray]; omega) ⟨?_, Kp.toks _ _⟩
    rw [List.size_toArray, hl]; exact Is.int) he (by rw [he]; rfl)
theorem PE.hex {pn pos : Pos} {x : Str} {e : Expr} {i : Int} (hf : PE prog w A S env s (.Name x pn) (.val (.builtin "hex"))) (ha : PE prog w A S env s e (.int i)) (hz : (baseText "0x" 16 i).length ≤ 16777216)
    (he : starEach [e] env = [(false, eval e env)] := by intros; rfl) : PE prog w A S env s (.Call (.Name x pn) [e] [] pos) (.str (baseText "0x" 16 i)) :=
  PE.callB hf (PEs.cons ha PEs.nil he) (fun vs s₂ hS hv E => by
    obtain ⟨v, rfl, hv1⟩ := hv.one
    obtain ⟨t, rfl⟩ := hv1.ofInt
    exact PySem.P.hex_of_int ⟨Is.str, Kp.toks _ _⟩ (by rw [sizeLine_eq]; exact hz)) he (by rw [he]; rfl)
theorem PE.sum {d : Nat} (hA : Ok d A) {pn pos : Pos} {x : Str} {e : Expr} {ns : List Int} (hf : PE prog w A S env s (.Name x pn) (.val (.builtin "sum"))) (ha : PE prog w A S env s e (.list (ns.map .int)))
    (he : starEach [e] env = [(false, eval e env)] := by intros; rfl) : PE prog w A S env s (.Call (.Name x pn) [e] [] pos) (.int ns.sum) :=
  PE.callB hf (PEs.cons ha PEs.nil he) (fun vs s₂ hS hv E => by
    obtain ⟨v, rfl, hv1⟩ := hv.one
    obtain ⟨a, n, vs, rfl, la, ia⟩ := hv1.ofList
    obtain ⟨xs, hxs⟩ := ia.ints.allInts.items
    refine sum_intListG (xs := xs) hA.1 (hxs ▸ (hid_list la).isList) fun h' tk t' hk => ?_
    rw [preSum_eq, List.take_of_length_le (by simp), ← nums_intItems, ← hxs, show vs.toArray.toList = vs from rfl, ia.ints.numsOf]
    exact ⟨Is.int, _, _, rfl, hk⟩) he (by rw [he]; rfl)
theorem PE.min {d : Nat} (hA : Ok d A) {pn pos : Pos} {x : Str} {e e' : Expr} {a b : Int} (hf : PE prog w A S env s (.Name x pn) (.val (.builtin "min"))) (ha : PE prog w A S env s e (.int a)) (hb : PE prog w A S env s e' (.int b))
    (he : starEach [e, e'] env = [(false, eval e env), (false, eval e' env)] := by intros; rfl) (he' : starEach [e'] env = [(false, eval e' env)] := by intros; rfl) : PE prog w A S env s (.Call (.Name x pn) [e, e'] [] pos) (.int (if b < a then b else a)) :=
  PE.callB hf (PEs.cons ha (PEs.cons hb PEs.nil he') (by rw [he, he'])) (fun vs s₂ hS hv E => by
    obtain ⟨u, v, rfl, hu1, hv1⟩ := hv.two
    obtain ⟨t, rfl⟩ := hu1.ofInt
    obtain ⟨t', rfl⟩ := hv1.ofInt
    refine min_two_ints hA.1 fun h' tk hk => ?_
    by_cases hc : b < a
    · rw [if_pos hc, if_pos hc]; exact ⟨Is.int, _, _, rfl, hk⟩
    · rw [if_neg hc, if_neg hc]; exact ⟨Is.int, _, _, rfl, hk⟩) (by rw [he, he']) (by rw [he]; rfl)
end
end Mine

namespace Mine
open PySem PySem.Calls PyProof.Rows Builtin.Str
section
variable {prog : Program} {w : World} {A : Around} {S : List Addr} {env : Env} {s : Shared}
theorem PE.method0 {o : Expr} {name : Str} {apos pos : Pos} {p R : P} (ho : PE prog w A S env s o p)
    (h : ∀ v s₂, Hid S s₂ → Is (hid S s₂.heap) p v → ∀ E, MethodOnS prog w A E name v pos [] (fun v s' => Is (hid S s'.heap) R v ∧ Kp s₂ s') s₂)
    (hbase : attributeBase o name env (eval o env) = eval o env := by intros; rfl) (hline : (apos.endLine == pos.line) = true := by rfl) :
    PE prog w A S env s (.Call (.Attribute o name apos) [] [] pos) R := ⟨fun s₁ k hS E =>
  Call_method0 hbase hline (wpAny_mono (ho.go s₁ k hS E) (fun v s₂ ⟨hv, k2⟩ => by
    obtain ⟨T, id, a, b, c, d, e, hw⟩ := h v s₂ (hS.mono k2) hv E
    exact ⟨T, id, a, b, c, d, e, wpAny_mono hw (fun v s' ⟨hv, k3⟩ => ⟨hv, k2.trans k3⟩) fun _ _ e => e⟩) fun _ _ e => e)⟩
theorem PE.method1 {o e : Expr} {name : Str} {apos pos : Pos} {p q R : P} (ho : PE prog w A S env s o p) (he : PE prog w A S env s e q)
    (h : ∀ v s₂ E (x : Sem Value), Hid S s₂ → Is (hid S s₂.heap) p v → wpAny (model prog w) A x (fun u s₃ => Is (hid S s₃.heap) q u ∧ Kp s₂ s₃) E s₂ → MethodOnS prog w A E name v pos [(false, x)] (fun v s' => Is (hid S s'.heap) R v ∧ Kp s₂ s') s₂)
    (hs : starEach [e] env = [(false, eval e env)] := by intros; rfl) (hbase : attributeBase o name env (eval o env) = eval o env := by intros; rfl) (hline : (apos.endLine == pos.line) = true := by rfl) :
    PE prog w A S env s (.Call (.Attribute o name apos) [e] [] pos) R := ⟨fun s₁ k hS E =>
  Call_method1 hbase hs hline (wpAny_mono (ho.go s₁ k hS E) (fun v s₂ ⟨hv, k2⟩ => by
    obtain ⟨T, id, a, b, c, d, e, hw⟩ := h v s₂ E _ (hS.mono k2) hv (he.go s₂ (k.trans k2) (hS.mono k2) E)
    exact ⟨T, id, a, b, c, d, e, wpAny_mono hw (fun v s' ⟨hv, k3⟩ => ⟨hv, k2.trans k3⟩) fun _ _ e => e⟩) fun _ _ e => e)⟩
theorem PE.lower {o : Expr} {apos pos : Pos} {x : Str} (ho : PE prog w A S env s o (.str x)) (hfit : Builtin.Str.tooLong (Txt.lower x).length = false)
    (hbase : attributeBase o (Str.ofString "lower") env (eval o env) = eval o env := by intros; rfl) (hline : (apos.endLine == pos.line) = true := by rfl) :
    PE prog w A S env s (.Call (.Attribute o (Str.ofString "lower") apos) [] [] pos) (.str (Txt.lower x)) :=
  PE.method0 ho (fun v s₂ hS hv E => by obtain ⟨t, rfl⟩ := hv.ofStr; exact SB.lower hfit ⟨Is.str, Kp.toks _ _⟩) hbase hline
theorem PE.upper {o : Expr} {apos pos : Pos} {x : Str} (ho : PE prog w A S env s o (.str x)) (hfit : Builtin.Str.tooLong (Txt.upper x).length = false)
    (hbase : attributeBase o (Str.ofString "upper") env (eval o env) = eval o env := by intros; rfl) (hline : (apos.endLine == pos.line) = true := by rfl) :
    PE prog w A S env s (.Call (.Attribute o (Str.ofString "upper") apos) [] [] pos) (.str (Txt.upper x)) :=
  PE.method0 ho (fun v s₂ hS hv E => by obtain ⟨t, rfl⟩ := hv.ofStr; exact SB.upper hfit ⟨Is.str, Kp.toks _ _⟩) hbase hline
theorem PE.startswith {o e : Expr} {apos pos : Pos} {x y : Str} (ho : PE prog w A S env s o (.str x)) (he : PE prog w A S env s e (.str y))
    (hs : starEach [e] env = [(false, eval e env)] := by intros; rfl) (hbase : attributeBase o (Str.ofString "startswith") env (eval o env) = eval o env := by intros; rfl) (hline : (apos.endLine == pos.line) = true := by rfl) :
    PE prog w A S env s (.Call (.Attribute o (Str.ofString "startswith") apos) [e] [] pos) (.bool (Txt.startswith x y)) :=
  PE.method1 ho he (fun v s₂ E a hS hv hw => by
    obtain ⟨t, rfl⟩ := hv.ofStr
    exact SB.startswith (wpAny_mono hw (fun u s₃ ⟨hu, k3⟩ => by obtain ⟨t', rfl⟩ := hu.ofStr; exact ⟨y, t', rfl, Is.bool, k3⟩) fun _ _ e => e)) hs hbase hline
theorem PE.endswith {o e : Expr} {apos pos : Pos} {x y : Str} (ho : PE prog w A S env s o (.str x)) (he : PE prog w A S env s e (.str y))
    (hs : starEach [e] env = [(false, eval e env)] := by intros; rfl) (hbase : attributeBase o (Str.ofString "endswith") env (eval o env) = eval o env := by intros; rfl) (hline : (apos.endLine == pos.line) = true := by rfl) :
    PE prog w A S env s (.Call (.Attribute o (Str.ofString "endswith") apos) [e] [] pos) (.bool (Txt.endswith x y)) :=
  PE.method1 ho he (fun v s₂ E a hS hv hw => by
    obtain ⟨t, rfl⟩ := hv.ofStr
    exact SB.endswith (wpAny_mono hw (fun u s₃ ⟨hu, k3⟩ => by obtain ⟨t', rfl⟩ := hu.ofStr; exact ⟨y, t', rfl, Is.bool, k3⟩) fun _ _ e => e)) hs hbase hline
theorem PE.find {o e : Expr} {apos pos : Pos} {x y : Str} (ho : PE prog w A S env s o (.str x)) (he : PE prog w A S env s e (.str y))
    (hs : starEach [e] env = [(false, eval e env)] := by intros; rfl) (hbase : attributeBase o (Str.ofString "find") env (eval o env) = eval o env := by intros; rfl) (hline : (apos.endLine == pos.line) = true := by rfl) :
    PE prog w A S env s (.Call (.Attribute o (Str.ofString "find") apos) [e] [] pos) (.int (Txt.find x y)) :=
  PE.method1 ho he (fun v s₂ E a hS hv hw => by
    obtain ⟨t, rfl⟩ := hv.ofStr
    exact SB.find (wpAny_mono hw (fun u s₃ ⟨hu, k3⟩ => by obtain ⟨t', rfl⟩ := hu.ofStr; exact ⟨y, t', rfl, Is.int, k3.trans (Kp.toks _ _)⟩) fun _ _ e => e)) hs hbase hline
theorem PE.join {o e : Expr} {apos pos : Pos} {x : Str} {ys : List Str} (ho : PE prog w A S env s o (.str x)) (he : PE prog w A S env s e (.list (ys.map .str))) (hok : JoinOk x ys = true)
    (hs : starEach [e] env = [(false, eval e env)] := by intros; rfl) (hbase : attributeBase o (Str.ofString "join") env (eval o env) = eval o env := by intros; rfl) (hline : (apos.endLine == pos.line) = true := by rfl) :
    PE prog w A S env s (.Call (.Attribute o (Str.ofString "join") apos) [e] [] pos) (.str (Txt.join x ys)) :=
  PE.method1 ho he (fun v s₂ E a hS hv hw => by
    obtain ⟨t, rfl⟩ := hv.ofStr
    exact SB.join (wpAny_mono hw (fun u s₃ ⟨hu, k3⟩ => by
      obtain ⟨D, n, vs, rfl, lD, iD⟩ := hu.ofList
      obtain ⟨l, h1, rfl⟩ := strs_pairs iD
      exact ⟨D, l, rfl, (hid_list lD).isList, ys, h1, hok, fun t' tk => ⟨Is.str, k3.trans (Kp.toks _ _)⟩⟩) fun _ _ e => e)) hs hbase hline
theorem PE.split {o e : Expr} {apos pos : Pos} {x y : Str} (ho : PE prog w A S env s o (.str x)) (he : PE prog w A S env s e (.str y)) (hy : (y.length == 0) = false) (hx : x.length ≤ 16777216)
    (hn : (partsBetween x (Builtin.Str.occurrences x y 0 x.length (x.length + 1)) y.length).length ≤ sizeLine)
    (hs : starEach [e] env = [(false, eval e env)] := by intros; rfl) (hbase : attributeBase o (Str.ofString "split") env (eval o env) = eval o env := by intros; rfl) (hline : (apos.endLine == pos.line) = true := by rfl) :
    PE prog w A S env s (.Call (.Attribute o (Str.ofString "split") apos) [e] [] pos) (.list ((Txt.split x y).map .str)) :=
  PE.method1 ho he (fun v s₂ E a hS hv hw => by
    obtain ⟨t, rfl⟩ := hv.ofStr
    have made : ∀ {s₃ : Shared} (l : List (Str × Tok)) (tk : Nat), Kp s₂ s₃ → l.map (·.1) = Txt.split x y →
        Is (hid S (s₃.heap.push { cls := .type "list", data := .seq (strValues l).toArray })) (.list ((Txt.split x y).map .str)) (.ref s₃.heap.objs.size) ∧ Kp s₂ { s₃ with heap := s₃.heap.push { cls := .type "list", data := .seq (strValues l).toArray }, toks := tk } :=
      fun l tk k3 hl => ⟨(hS.mono k3).newList (by rw [← hl]; exact strs_values), k3.trans (Kp.pushT _ _ _)⟩
    refine ⟨"str", _, PySem.F.plainAttrs_str, PySem.F.slot_str_split, PySem.F.type_str_split, typeIs_str _ _ _, (fun _ e => nomatch e),
      method1_meets PySem.F.slot_str_split PySem.F.entry_str_split (wpAny_mono hw (fun u s₃ ⟨hu, k3⟩ => ?_) fun _ _ e => e)⟩
    obtain ⟨t', rfl⟩ := hu.ofStr
    refine ⟨typeIs_str _ _ _, PySem.F.args_str_split_2 _ _, ?_⟩
    by_cases h1 : (decide (x.length < y.length) || decide (Builtin.Str.strKind x < Builtin.Str.strKind y)) = true
    · exact ⟨_, meets_str_split_cannot_occur x y t t' h1, made [(x, t)] _ k3 (if_pos h1).symm⟩
    · by_cases hf : (occurrences x y 0 x.length (x.length + 1)).isEmpty = true
      · exact ⟨_, meets_str_split_not_found x y t t' (by simpa using h1) hy hf, made [(x, t)] _ k3 ((if_neg h1).trans (if_pos hf)).symm⟩
      · refine ⟨_, meets_str_split_sep x y t t' (by simpa using h1) hy (by simpa using hf) (by rw [sizeLine_eq]; exact hx) hn, ?_⟩
        show wants _ _ _ { s₃ with toks := _, heap := s₃.heap.push { cls := .type "list", data := .seq (strsFrom s₃.toks (partsBetween x (occurrences x y 0 x.length (x.length + 1)) y.length)).toArray } }
        rw [strsFrom_eq]
        exact made _ _ k3 ((numbered_texts _ _).trans ((if_neg h1).trans (if_neg hf)).symm)) hs hbase hline
/-! ## lists' own methods -/
theorem onList {E : Value → Shared → Prop} {name : Str} {id : String} {pos : Pos} {args : List (Bool × Sem Value)} {Q : Value → Shared → Prop} {s₂ : Shared} {a : Addr} {vs : Array Value} {n : Nat}
    (slot : Slot "list" name id) (ty : typeOf (.builtin id) = pure (.type "method_descriptor")) (la : IsL s₂.heap a vs n) (h : wpAny (model prog w) A (callWith pos (.builtin id) [.ref a] args []) Q E s₂) :
    MethodOnS prog w A E name (.ref a) pos args Q s₂ :=
  ⟨"list", id, PySem.F.plainAttrs_list, slot, ty, ⟨_, la, rfl⟩, fun b e => by cases e; exact ⟨_, la, rfl⟩, h⟩
theorem PE.indexS {o e : Expr} {apos pos : Pos} {xs : List Str} {k : Str} {j : Nat} (ho : PE prog w A S env s o (.list (xs.map .str))) (he : PE prog w A S env s e (.str k)) (hj : xs[j]? = some k) (hno : ∀ m, m < j → xs[m]? ≠ some k) (hz : j < 16777216)
    (hs : starEach [e] env = [(false, eval e env)] := by intros; rfl) (hbase : attributeBase o (Str.ofString "index") env (eval o env) = eval o env := by intros; rfl) (hline : (apos.endLine == pos.line) = true := by rfl) :
    PE prog w A S env s (.Call (.Attribute o (Str.ofString "index") apos) [e] [] pos) (.int j) :=
  PE.method1 ho he (fun v s₂ E a hS hv hw => by
    obtain ⟨a, n, vs, rfl, la, ia⟩ := hv.ofList
    have hat : ∀ i (hi : i < vs.length) x, xs[i]? = some x → isStrOf k vs[i] = (x == k) := fun i hi x e => by
      obtain ⟨v, hv, hx⟩ := ia.get (i := i) (p := .str x) (by rw [List.getElem?_map, e]; rfl)
      rw [List.getElem?_eq_getElem hi] at hv
      cases hv
      obtain ⟨t, ht⟩ := hx.ofStr
      rw [ht]; rfl
    have hlen : vs.length = xs.length := by simpa using ia.length
    have hjl : j < vs.length := by rw [hlen]; exact (List.getElem?_eq_some_iff.mp hj).1
    refine onList F.slot_list_index F.type_list_index (hid_list la) (PySem.P.index_list (wpAny_mono hw (fun u s₃ ⟨hu, k3⟩ => ?_) fun _ _ e => e))
    obtain ⟨t, rfl⟩ := hu.ofStr
    refine ⟨vs.toArray, n, isStrOf k, j, by simpa using hjl, k3.get _ _ (hid_list la), fun y hy => eq_isStrOf k t ia.strs y (by simpa using hy), by omega, ?_, fun m hm hmj => ?_, Is.int, k3.trans (Kp.toks _ _)⟩
    · rw [show (vs.toArray[j]'(by simpa using hjl)) = vs[j] from by simp, hat j hjl k hj]; exact beq_self_eq_true k
    · have hm' : m < vs.length := by simpa using hm
      have hmx : m < xs.length := by rw [← hlen]; exact hm'
      rw [show (vs.toArray[m]'hm) = vs[m] from by simp, hat m hm' xs[m] (List.getElem?_eq_getElem hmx)]
      have := hno m hmj
      rw [List.getElem?_eq_getElem hmx] at this
      exact beq_false_of_ne fun e => this (by rw [e])) hs hbase hline
theorem PE.countI {o e : Expr} {apos pos : Pos} {ns : List Int} {k : Int} (ho : PE prog w A S env s o (.list (ns.map .int))) (he : PE prog w A S env s e (.int k))
    (hs : starEach [e] env = [(false, eval e env)] := by intros; rfl) (hbase : attributeBase o (Str.ofString "count") env (eval o env) = eval o env := by intros; rfl) (hline : (apos.endLine == pos.line) = true := by rfl) :
    PE prog w A S env s (.Call (.Attribute o (Str.ofString "count") apos) [e] [] pos) (.int (ns.count k)) :=
  PE.method1 ho he (fun v s₂ E a hS hv hw => by
    obtain ⟨a, n, vs, rfl, la, ia⟩ := hv.ofList
    refine onList F.slot_list_count F.type_list_count (hid_list la) (PySem.P.count_list (wpAny_mono hw (fun u s₃ ⟨hu, k3⟩ => ?_) fun _ _ e => e))
    obtain ⟨t, rfl⟩ := hu.ofInt
    refine ⟨vs.toArray, n, isInt k, k3.get _ _ (hid_list la), fun y hy => eq_isInt k t ia.ints y (by simpa using hy), ?_, k3.trans (Kp.toks _ _)⟩
    have hc : ∀ {vs : List Value} {ns : List Int}, IntsAre vs ns → vs.countP (isInt k) = ns.count k := fun h => by
      induction h with
      | nil => rfl
      | cons m t _ ih => rw [List.countP_cons, List.count_cons, ih]; rfl
    show Is _ (.int (ns.count k)) (.int ((vs.toArray.toList.countP (isInt k) : Nat) : Int) _)
    rw [show vs.toArray.toList = vs from rfl, hc ia.ints]
    exact Is.int) hs hbase hline
/-! ## sorted, list(range ..) -/
theorem PE.sorted {pn pos : Pos} {x : Str} {e : Expr} {ns ms : List Int} (hf : PE prog w A S env s (.Name x pn) (.val (.builtin "sorted"))) (ha : PE prog w A S env s e (.list (ns.map .int))) (h64 : ns.length < 64)
    (hp : ms.Perm ns) (ho : ms.Pairwise (· ≤ ·)) (he : starEach [e] env = [(false, eval e env)] := by intros; rfl) : PE prog w A S env s (.Call (.Name x pn) [e] [] pos) (.list (ms.map .int)) :=
  PE.callB hf (PEs.cons ha PEs.nil he) (fun vs s₂ hS hv E => by
    obtain ⟨v, rfl, hv1⟩ := hv.one
    obtain ⟨a, n, vs, rfl, la, ia⟩ := hv1.ofList
    refine sorted_ints (hid_list la).isList ia.ints (by rw [ia.length]; simpa using h64) fun out ns' hI hp' ho' => ?_
    have e1 : ns' = ms := List.Perm.eq_of_pairwise (fun a b _ _ => Int.le_antisymm) ho' ho (hp'.trans hp.symm)
    subst e1
    obtain ⟨c, hc⟩ := sortedAll_at s₂.heap vs out
    have hk : Kp s₂ { s₂ with heap := sortedAll s₂.heap vs out } := ⟨_, s₂.toks, rfl, fun _ _ => sortedAll_old⟩
    refine ⟨Is.list (vs := out.toList) (n := c) (hid_some.mpr ⟨fun m => ?_, by simpa using hc⟩) (Iss.ofInts hI), hk⟩
    obtain ⟨o, ho⟩ := hS _ m
    exact Nat.not_lt.mpr (Nat.le_succ _) (Heap.lt_size ho)) he (by rw [he]; rfl)
theorem ints_of_items {g : Gt} {a : Int} {n : Nat} {acc : Array Value} (h : ItemsOf (fun i v => ∃ t, v = Value.int (a + i * 1) t) acc n) : Iss g (((List.range n).map fun i : Nat => a + (i : Int)).map P.int) acc.toList := by
  obtain ⟨hsz, hi⟩ := h
  obtain ⟨l⟩ := acc
  simp only [List.size_toArray] at hsz
  have key : ∀ (l : List Value) (k : Nat), (∀ j v, l[j]? = some v → ∃ t, v = Value.int (a + ((k + j : Nat) : Int)) t) → Iss g (((List.range' k l.length).map fun i : Nat => a + (i : Int)).map P.int) l := by
    intro l
    induction l with
    | nil => intro k _; exact Iss.nil
    | cons v r ih =>
      intro k hk
      rw [List.length_cons, List.range'_succ, List.map_cons, List.map_cons]
      obtain ⟨t, rfl⟩ := hk 0 v (by simp)
      exact Iss.cons Is.int (ih (k + 1) fun j v hj => by
        obtain ⟨t, rfl⟩ := hk (j + 1) v (by simpa using hj)
        exact ⟨t, by rw [show k + (j + 1) = k + 1 + j by omega]⟩)
  have := key l 0 fun j v hj => by
    obtain ⟨t, rfl⟩ := hi j v (by simpa using hj)
    exact ⟨t, by simp⟩
  rw [hsz, ← List.range_eq_range'] at this
  exact this
end
end Mine

namespace Mine
open PySem PySem.Calls PyProof.Rows Builtin.Str
section
variable {prog : Program} {w : World} {A : Around} {S : List Addr} {env : Env} {s : Shared}
/-! ## ranges -/
/-- e gives the range from a to b -/
structure PR (prog : Program) (w : World) (A : Around) (S : List Addr) (env : Env) (s : Shared) (e : Expr) (a b : Int) : Prop where
  go : ∀ s₁, Kp s s₁ → Hid S s₁ → ∀ E, wpAny (model prog w) A (eval e env) (fun v s' => (∃ r t u z, v = .ref r ∧ IsRange s'.heap r a b 1 t u z) ∧ Kp s₁ s') E s₁
theorem PR.one {x : Str} {pn pos : Pos} {e : Expr} {n : Int} (hf : PE prog w A S env s (.Name x pn) (.val (.type "range"))) (ha : PE prog w A S env s e (.int n))
    (he : starEach [e] env = [(false, eval e env)] := by intros; rfl) : PR prog w A S env s (.Call (.Name x pn) [e] [] pos) 0 n := ⟨fun s₁ k hS E => by
  refine Call_Name rfl (wpAny_mono (hf.go s₁ k hS E) (fun f s₂ ⟨hfv, k2⟩ => ?_) fun _ _ e => e)
  cases hfv.ofVal
  refine PyProof.Rows.callWith_type1 (wpAny_mono ((PEs.cons ha PEs.nil he).go s₂ E pos (k.trans k2) (hS.mono k2)) (fun vs s₃ ⟨hvs, k3⟩ => ?_) fun _ _ e => e) he rfl
  obtain ⟨v, rfl, hv⟩ := hvs.one
  obtain ⟨t, rfl⟩ := hv.ofInt
  exact call_range_1 ⟨⟨_, _, _, _, rfl, IsRange.new _ _ _ _ _ _ _⟩, (k2.trans k3).trans (Kp.pushT _ _ _)⟩⟩
theorem PR.two {x : Str} {pn pos : Pos} {e e' : Expr} {a b : Int} (hf : PE prog w A S env s (.Name x pn) (.val (.type "range"))) (ha : PE prog w A S env s e (.int a)) (hb : PE prog w A S env s e' (.int b))
    (he : starEach [e, e'] env = (false, eval e env) :: starEach [e'] env := by intros; rfl) (he' : starEach [e'] env = [(false, eval e' env)] := by intros; rfl) : PR prog w A S env s (.Call (.Name x pn) [e, e'] [] pos) a b := ⟨fun s₁ k hS E => by
  refine Call_Name rfl (wpAny_mono (hf.go s₁ k hS E) (fun f s₂ ⟨hfv, k2⟩ => ?_) fun _ _ e => e)
  cases hfv.ofVal
  refine PyProof.Rows.callWith_type1 (wpAny_mono ((PEs.cons ha (PEs.cons hb PEs.nil he') he).go s₂ E pos (k.trans k2) (hS.mono k2)) (fun vs s₃ ⟨hvs, k3⟩ => ?_) fun _ _ e => e) he (by rw [he']; rfl)
  obtain ⟨u, v, rfl, hu, hv⟩ := hvs.two
  obtain ⟨t, rfl⟩ := hu.ofInt
  obtain ⟨t', rfl⟩ := hv.ofInt
  exact call_range_2 ⟨⟨_, _, _, _, rfl, IsRange.new _ _ _ _ _ _ _⟩, (k2.trans k3).trans (Kp.pushT _ _ _)⟩⟩
def upto (a b : Int) : List P := ((List.range (b - a).toNat).map fun i : Nat => a + (i : Int)).map P.int
theorem upto_length {a b : Int} : (upto a b).length = (b - a).toNat := by simp [upto]
theorem rangeSize_nat {a b : Int} : Builtin.Range.rangeSize a b 1 = ((b - a).toNat : Int) := by rw [rangeSize_one]; split <;> omega
theorem PE.listRange {d : Nat} (hA : Ok d A) {x : Str} {pn pos : Pos} {e : Expr} {a b : Int} (hf : PE prog w A S env s (.Name x pn) (.val (.type "list"))) (hr : PR prog w A S env s e a b)
    (ha : -(2 ^ 20) ≤ a) (ha' : a < 2 ^ 20) (hb : -(2 ^ 20) ≤ b) (hb' : b < 2 ^ 20)
    (he : starEach [e] env = [(false, eval e env)] := by intros; rfl) : PE prog w A S env s (.Call (.Name x pn) [e] [] pos) (.list (upto a b)) := ⟨fun s₁ k hS E => by
  refine Call_Name rfl (wpAny_mono (hf.go s₁ k hS E) (fun f s₂ ⟨hfv, k2⟩ => ?_) fun _ _ e => e)
  cases hfv.ofVal
  refine PyProof.Rows.callWith_type1 ?_ he rfl
  rw [he]
  refine spliced_cons (wpAny_mono (hr.go s₂ (k.trans k2) (hS.mono k2) E) (fun v s₃ ⟨hv, k3⟩ => spliced_nil ?_) fun _ _ e => e)
  obtain ⟨r, t, u, z, rfl, hr⟩ := hv
  refine call_list_range hA.1 hr (small_one (by omega) (by omega) (by omega) (by omega)) rangeSize_nat (by omega) fun h' tk acc c hk hD hacc => ?_
  have k4 : Kp s₃ { s₃ with heap := h', toks := tk } := ⟨_, _, rfl, hk⟩
  refine ⟨Is.list (vs := acc.toList) (n := c) (hid_some.mpr ⟨((hS.mono (k2.trans k3))).notin, by simpa using hD⟩) (ints_of_items hacc), (k2.trans k3).trans k4⟩⟩
/-! ## what can be walked through -/
def Src (prog : Program) (w : World) (A : Around) (S : List Addr) (s₁ : Shared) (it : Value) (items : List P) (s₃ : Shared) : Prop :=
  ∃ I fp wr J St, it = .ref I ∧ Walks prog w A I fp wr items.length J St ∧ St 0 s₃.heap ∧ (∀ b ∈ fp, b ∉ S ∧ ∃ o, s₃.heap.get? b = some o ∧ (∀ es n, o.data ≠ .dict es n) ∧ ∀ v, o.data ≠ .cell v) ∧ (∀ b ∈ wr, s₁.heap.get? b = none) ∧
    (∀ i h, St i h → ∀ b ∈ wr, ∃ o, h.get? b = some o) ∧ ∀ j v, J j v → ∃ p, items[j]? = some p ∧ Is (hid (wr ++ S) s₃.heap) p v
structure PI (prog : Program) (w : World) (A : Around) (S : List Addr) (env : Env) (s : Shared) (e : Expr) (items : List P) : Prop where
  go : ∀ s₁, Kp s s₁ → Hid S s₁ → ∀ E, wpAny (model prog w) A (eval e env) (fun xv s₂ => wpAny (model prog w) A (pyIter xv) (fun it s₃ => Kp s₁ s₃ ∧ Src prog w A S s₁ it items s₃) E s₂) E s₁
theorem PI.list {d : Nat} (hA : Ok d A) {e : Expr} {ps : List P} (h : PE prog w A S env s e (.list ps)) : PI prog w A S env s e ps := ⟨fun s₁ k hS E =>
  wpAny_mono (h.go s₁ k hS E) (fun xv s₂ ⟨hv, k2⟩ => by
    obtain ⟨a, n, vs, rfl, la, ia⟩ := hv.ofList
    have hlt := Heap.lt_size (hid_list la)
    have hne : a ≠ s₂.heap.objs.size := Nat.ne_of_lt hlt
    refine wpAny_pyIter_list (hid_list la).isList ⟨k2.trans (Kp.push _ _), s₂.heap.objs.size, [s₂.heap.objs.size, a], [s₂.heap.objs.size], (fun i v => vs.toArray[i]? = some v), (fun i h => h.IsListIter s₂.heap.objs.size a i ∧ h.IsList a vs.toArray), rfl, ?_, ?_, ?_, ?_, ?_, ?_⟩
    · rw [← ia.length]
      have := Walks.list (prog := prog) (w := w) (A := A) hA.1 s₂.heap.objs.size a hne vs.toArray
      rwa [List.size_toArray] at this
    · exact ⟨⟨_, Heap.get?_push_size _ rfl, rfl, rfl⟩, (hid_list la).isList.push _⟩
    · intro b hb
      rcases List.mem_cons.mp hb with rfl | hb
      · exact ⟨(hS.mono k2).notin, _, Heap.get?_push_size _ rfl, (fun _ _ e => nomatch e), (fun _ e => nomatch e)⟩
      · obtain rfl := List.mem_singleton.mp hb
        exact ⟨(hid_some.mp la).1, _, Heap.get?_push_of_some _ (hid_list la), (fun _ _ e => nomatch e), (fun _ e => nomatch e)⟩
    · intro b hb
      obtain rfl := List.mem_singleton.mp hb
      cases hq : s₁.heap.get? s₂.heap.objs.size with
      | none => rfl
      | some o => exact absurd (Heap.lt_size (k2.get _ _ hq)) (Nat.lt_irrefl _)
    · rintro i h ⟨⟨o, ho, _⟩, _⟩ b hb
      obtain rfl := List.mem_singleton.mp hb
      exact ⟨o, ho⟩
    · intro j v hj
      obtain ⟨p, hp, hi⟩ := ia.get' (i := j) (v := v) (by simpa using hj)
      refine ⟨p, hp, hi.ext (.of fun c o e => ?_)⟩
      have e2 := (hid_some.mp e).2
      refine hid_some.mpr ⟨fun m => ?_, Heap.get?_push_of_some _ e2⟩
      rcases List.mem_cons.mp m with rfl | m
      · exact Nat.lt_irrefl _ (Heap.lt_size e2)
      · exact (hid_some.mp e).1 m) fun _ _ e => e⟩
theorem PI.range {d : Nat} (hA : Ok d A) {e : Expr} {a b : Int} (h : PR prog w A S env s e a b) (ha : -(2 ^ 20) ≤ a) (ha' : a < 2 ^ 20) (hb : -(2 ^ 20) ≤ b) (hb' : b < 2 ^ 20) : PI prog w A S env s e (upto a b) := ⟨fun s₁ k hS E =>
  wpAny_mono (h.go s₁ k hS E) (fun xv s₂ ⟨hv, k2⟩ => by
    obtain ⟨r, t, u, z, rfl, hr⟩ := hv
    refine wpAny_pyIter_range hr (small_one (by omega) (by omega) (by omega) (by omega)) ⟨k2.trans (Kp.push _ _), s₂.heap.objs.size, [s₂.heap.objs.size], [s₂.heap.objs.size], (fun i v => i < (b - a).toNat ∧ ∃ t, v = .int (a + i * 1) t), (fun i h => IsRangeIter h s₂.heap.objs.size (a + (i : Nat) * 1) (((b - a).toNat : Int) - (i : Nat)) 1), rfl, ?_, ?_, ?_, ?_, ?_, ?_⟩
    · rw [upto_length]
      have W := Walks.range (prog := prog) (w := w) (A := A) hA.1 s₂.heap.objs.size a 1 (b - a).toNat
      exact { sub := W.sub, frame := W.frame, item := fun i s Q E hi st hQ => W.item i s Q E hi st fun v h' tk hv => hQ v h' tk ⟨hi, hv⟩, done := W.done, self := W.self }
    · show IsRangeIter _ _ _ _ _
      have e : ((b - a).toNat : Int) - ((0 : Nat) : Int) = Builtin.Range.rangeSize a b 1 := by rw [rangeSize_nat]; simp
      rw [e]
      simpa using (Heap.get?_push_size s₂.heap (o := { cls := .type "range_iterator", data := .fields #[rawInt a, rawInt (Builtin.Range.rangeSize a b 1), rawInt 1] }) rfl)
    · intro c hc
      obtain rfl := List.mem_singleton.mp hc
      exact ⟨(hS.mono k2).notin, _, Heap.get?_push_size _ rfl, (fun _ _ e => nomatch e), (fun _ e => nomatch e)⟩
    · intro c hc
      obtain rfl := List.mem_singleton.mp hc
      cases hq : s₁.heap.get? s₂.heap.objs.size with
      | none => rfl
      | some o => exact absurd (Heap.lt_size (k2.get _ _ hq)) (Nat.lt_irrefl _)
    · intro i h hi c hc
      obtain rfl := List.mem_singleton.mp hc
      exact ⟨_, hi⟩
    · rintro j v ⟨hj, t, rfl⟩
      refine ⟨.int (a + j * 1), ?_, Is.int⟩
      unfold upto
      rw [List.getElem?_map, List.getElem?_map, List.getElem?_range hj]
      simp) fun _ _ e => e⟩
/-! ## names -/
def LV (env : Env) (h : Heap) (x : Str) (v : Value) : Prop :=
  (env.kindOf x = some .local ∧ ∃ m, h.Ns env.locals m ∧ m x = some v) ∨
  ((env.kindOf x = some .cell ∨ env.kindOf x = some .free) ∧ ∃ c, env.cells.lookup x = some c ∧ h.IsCell c (some v))
theorem LV.keeps {h h' : Heap} {x : Str} {v : Value} (l : LV env h x v) (hk : ∀ b o, h.get? b = some o → h'.get? b = some o) : LV env h' x v := by
  rcases l with ⟨a, m, b, c⟩ | ⟨a, c, b, e⟩
  · exact .inl ⟨a, m, b.keeps hk, c⟩
  · exact .inr ⟨a, c, b, e.keeps hk⟩
def NV (S : List Addr) (env : Env) (s : Shared) (x : Str) (p : P) : Prop := ∃ v, LV env s.heap x v ∧ Is (hid S s.heap) p v
/-- more stands, and what could be read still can -/
def Fwd (S : List Addr) (s : Shared) (S' : List Addr) (s' : Shared) : Prop := Kp s s' ∧ LExt (hid S s.heap) (hid S' s'.heap)
theorem Fwd.refl : Fwd S s S s := ⟨Kp.refl _, LExt.refl _⟩
theorem Fwd.trans {S' S'' : List Addr} {s' s'' : Shared} (a : Fwd S s S' s') (b : Fwd S' s' S'' s'') : Fwd S s S'' s'' := ⟨a.1.trans b.1, a.2.trans b.2⟩
theorem Kp.fwd {s' : Shared} (k : Kp s s') : Fwd S s S s' := ⟨k, k.ext⟩
theorem NV.fwd {S' : List Addr} {s' : Shared} {x : Str} {p : P} (n : NV S env s x p) (f : Fwd S s S' s') : NV S' env s' x p :=
  let ⟨v, l, i⟩ := n; ⟨v, l.keeps f.1.get, i.ext f.2⟩
theorem PE.name {x : Str} {pos : Pos} {p : P} (hk : env.scope.kind = .function) (n : NV S env s x p) (hd : (x == ("__debug__" : Str)) = false := by rfl) (hc : (x == ("__classdict__" : Str)) = false := by rfl) :
    PE prog w A S env s (.Name x pos) p := ⟨fun s₁ k hS E => by
  obtain ⟨v, l, i⟩ := n.fwd (Kp.fwd k)
  have q : Is (hid S s₁.heap) p v ∧ Kp s₁ s₁ := ⟨i, Kp.refl _⟩
  rcases l with ⟨a, m, b, c⟩ | ⟨a | a, c, b, e⟩
  · exact wpAny_Name (wpAny_loadName_local hk a b c q) hd
  · exact wpAny_Name (wpAny_loadName_cell hk a b e q) hd
  · exact wpAny_Name (wpAny_loadName_free hk a b e q hc) hd⟩
end
end Mine

namespace Mine
open PySem PySem.Calls PyProof.Rows Builtin.Str
/-! ## frames -/
def FrameOk (env : Env) (h : Heap) : Prop := (∃ m, h.Ns env.locals m) ∧ ∀ x c, env.cells.lookup x = some c → ∃ ov, h.IsCell c ov
theorem FrameOk.keeps {env : Env} {h h' : Heap} (f : FrameOk env h) (hk : ∀ b o, h.get? b = some o → h'.get? b = some o) : FrameOk env h' :=
  ⟨let ⟨m, hm⟩ := f.1; ⟨m, hm.keeps hk⟩, fun x c e => let ⟨ov, h1⟩ := f.2 x c e; ⟨ov, h1.keeps hk⟩⟩
/-- the addresses that the frame may write -/
def Own (env : Env) (b : Addr) : Prop := b = env.locals ∨ ∃ x, env.cells.lookup x = some b
/-- where a name is stored -/
def At (env : Env) (x : Str) (b : Addr) : Prop := (env.kindOf x = some .local ∧ b = env.locals) ∨ (env.kindOf x = some .cell ∧ env.cells.lookup x = some b)
theorem At.own {env : Env} {x : Str} {b : Addr} (h : At env x b) : Own env b := h.elim (fun h => .inl h.2) fun h => .inr ⟨x, h.2⟩
def Inj (env : Env) : Prop := ∀ x y c, env.cells.lookup x = some c → env.cells.lookup y = some c → x = y
section
variable {prog : Program} {w : World} {A : Around} {S : List Addr} {env : Env} {s : Shared}
theorem ns_not_list {h : Heap} {a : Addr} {m : Str → Option Value} {vs : Array Value} {n : Nat} (hn : h.Ns a m) : h.get? a ≠ some (lobj vs n) := fun e => by
  obtain ⟨o, es, ep, ho, hd, _⟩ := hn
  rw [e] at ho; cases ho; cases hd
theorem cell_not_list {h : Heap} {a : Addr} {v : Option Value} {vs : Array Value} {n : Nat} (hn : h.IsCell a v) : h.get? a ≠ some (lobj vs n) := fun e => by
  obtain ⟨o, ho, hd⟩ := hn
  rw [e] at ho; cases ho; cases hd
theorem ns_ne_cell {h : Heap} {a c : Addr} {m : Str → Option Value} {v : Option Value} (hn : h.Ns a m) (hc : h.IsCell c v) : a ≠ c := fun e => by
  subst e
  obtain ⟨o, es, ep, ho, hd, _⟩ := hn
  obtain ⟨o', ho', hd'⟩ := hc
  rw [ho] at ho'; cases ho'; rw [hd] at hd'; cases hd'
theorem store {x : Str} {v : Value} {Q : Unit → Shared → Prop} {E : Value → Shared → Prop} (hk : env.scope.kind = .function) (hx : env.kindOf x = some .local ∨ (env.kindOf x = some .cell ∧ ∃ c, env.cells.lookup x = some c)) (F : FrameOk env s.heap) (hi : Inj env)
    (h : ∀ h' tk, FrameOk env h' → LV env h' x v → (∀ y u, y ≠ x → LV env s.heap y u → LV env h' y u) → (∀ b o, ¬ At env x b → s.heap.get? b = some o → h'.get? b = some o) → LExt s.heap.get? h'.get? →
      (∀ b o, s.heap.get? b = some o → ∃ o', h'.get? b = some o') → Q () { s with heap := h', toks := tk }) :
    wpAny (model prog w) A (storeName env x v) Q E s := by
  obtain ⟨⟨m, hm⟩, hc⟩ := F
  rcases hx with hx | ⟨hx, c, hxc⟩
  · refine wpAny_storeName_local hx hm (fun h' hn' hs' => ?_) (by rw [hk]; rfl)
    refine h h' _ ⟨⟨_, hn'⟩, fun y c e => ?_⟩ (.inl ⟨hx, _, hn', by simp⟩) (fun y u hy l => ?_) (fun b o hb e => (hs'.2 b fun q => hb (.inl ⟨hx, q⟩)).trans e) (fun a vs n e => (hs'.2 a fun q => ns_not_list hm (q ▸ e)).trans e) fun b o e => ?_
    · obtain ⟨ov, h1⟩ := hc y c e
      exact ⟨ov, h1.sameBut hs' (Ne.symm (ns_ne_cell hm h1))⟩
    · rcases l with ⟨a, m', b, e⟩ | ⟨a, c, b, e⟩
      · exact .inl ⟨a, _, hn', by simp only [hy, if_false]; rw [← e]; exact hm.agree b y⟩
      · exact .inr ⟨a, c, b, e.sameBut hs' (Ne.symm (ns_ne_cell hm e))⟩
    · by_cases hb : b = env.locals
      · subst hb; obtain ⟨o', _, _, ho', _⟩ := hn'; exact ⟨o', ho'⟩
      · exact ⟨o, (hs'.2 b hb).trans e⟩
  · obtain ⟨ov, hov⟩ := hc x c hxc
    refine wpAny_storeName_cell hk hx hxc hov fun h' hv' hs' => ?_
    refine h h' s.toks ⟨⟨m, hm.sameBut hs' (ns_ne_cell hm hov)⟩, fun y d e => ?_⟩ (.inr ⟨.inl hx, c, hxc, hv'⟩) (fun y u hy l => ?_) (fun b o hb e => (hs'.2 b fun q => hb (.inr ⟨hx, q ▸ hxc⟩)).trans e) (fun a vs n e => (hs'.2 a fun q => cell_not_list hov (q ▸ e)).trans e) fun b o e => ?_
    · by_cases hd : d = c
      · subst hd; exact ⟨_, hv'⟩
      · obtain ⟨ov', h1⟩ := hc y d e
        exact ⟨ov', h1.sameBut hs' hd⟩
    · rcases l with ⟨a, m', b, e⟩ | ⟨a, d, b, e⟩
      · exact .inl ⟨a, m', b.sameBut hs' (ns_ne_cell b hov), e⟩
      · exact .inr ⟨a, d, b, e.sameBut hs' fun q => hy (hi y x c (q ▸ b) hxc)⟩
    · by_cases hb : b = c
      · subst hb; obtain ⟨o', ho', _⟩ := hv'; exact ⟨o', ho'⟩
      · exact ⟨o, (hs'.2 b hb).trans e⟩
end
/-- a frame at work: G stands as it stood, S is hidden, the names read as ρ, the hidden lists μ hold .. -/
structure B (s₀ : Shared) (G : Gt) (S : List Addr) (env : Env) (s : Shared) (ρ : List (Str × P)) (μ : List (Addr × List P)) : Prop where
  same : ∃ h tk, s = { s₀ with heap := h, toks := tk }
  keep : ∀ b o, G b = some o → s.heap.get? b = some o
  kind : env.scope.kind = .function
  frame : FrameOk env s.heap
  inj : Inj env
  fresh : ∀ b, Own env b → G b = none
  hidden : Hid S s
  names : ∀ x p, ρ.lookup x = some p → NV S env s x p
  muts : ∀ q ∈ μ, q.1 ∈ S ∧ G q.1 = none ∧ ∃ n vs, IsL s.heap q.1 (List.toArray vs) n ∧ Iss (hid S s.heap) q.2 vs
  nd : (μ.map (·.1)).Nodup
section
variable {prog : Program} {w : World} {A : Around} {s₀ : Shared} {G : Gt} {S : List Addr} {env : Env} {s : Shared} {ρ : List (Str × P)} {μ : List (Addr × List P)}
theorem B.kp {s' : Shared} (b : B s₀ G S env s ρ μ) (k : Kp s s') : B s₀ G S env s' ρ μ where
  same := by
    obtain ⟨h, tk, e⟩ := b.same
    obtain ⟨h', tk', e', _⟩ := k
    exact ⟨h', tk', by rw [e', e]⟩
  keep := fun a o e => k.get a o (b.keep a o e)
  kind := b.kind
  frame := b.frame.keeps k.get
  inj := b.inj
  fresh := b.fresh
  hidden := b.hidden.mono k
  names := fun x p e => (b.names x p e).fwd (Kp.fwd k)
  muts := fun q m => let ⟨h1, h2, n, vs, h3, h4⟩ := b.muts q m; ⟨h1, h2, n, vs, k.get _ _ h3, h4.ext k.ext⟩
  nd := b.nd
/-- all the entries of one list in another -/
def Sub (ρ : List (Str × P)) : List (Str × P) → Prop
  | [] => True
  | q :: r => ρ.lookup q.1 = some q.2 ∧ Sub ρ r
theorem Sub.get : ∀ {ρ' : List (Str × P)}, Sub ρ ρ' → ∀ x p, ρ'.lookup x = some p → ρ.lookup x = some p
  | [], _, _, _, e => by simp at e
  | (y, q) :: r, ⟨h1, h2⟩, x, p, e => by
    rw [List.lookup_cons] at e
    by_cases hx : (x == y) = true
    · rw [hx] at e; cases e; rw [eq_of_beq hx]; exact h1
    · rw [Bool.not_eq_true] at hx; rw [hx] at e; exact h2.get x p e
theorem B.weaken (b : B s₀ G S env s ρ μ) (ρ' : List (Str × P)) (h : Sub ρ ρ') : B s₀ G S env s ρ' μ := { b with names := fun x p e => b.names x p (h.get x p e) }
theorem B.get (b : B s₀ G S env s ρ μ) {x : Str} {p : P} (h : ρ.lookup x = some p := by rfl) : NV S env s x p := b.names x p h
theorem B.pe (b : B s₀ G S env s ρ μ) {x : Str} {pos : Pos} {p : P} (h : ρ.lookup x = some p := by rfl) (hd : (x == ("__debug__" : Str)) = false := by rfl) (hc : (x == ("__classdict__" : Str)) = false := by rfl) : PE prog w A S env s (.Name x pos) p :=
  PE.name b.kind (b.names x p h) hd hc
theorem B.stored {h' : Heap} {tk : Nat} {x : Str} {v : Value} {p : P} (b : B s₀ G S env s ρ μ) (hv : Is (hid S s.heap) p v) (a1 : FrameOk env h') (a2 : LV env h' x v) (a3 : ∀ y u, y ≠ x → LV env s.heap y u → LV env h' y u)
    (a4 : ∀ b o, ¬ At env x b → s.heap.get? b = some o → h'.get? b = some o) (a5 : LExt s.heap.get? h'.get?) (a6 : ∀ b o, s.heap.get? b = some o → ∃ o', h'.get? b = some o') : B s₀ G S env { s with heap := h', toks := tk } ((x, p) :: ρ) μ where
  same := by obtain ⟨h, tk', e⟩ := b.same; exact ⟨h', tk, by rw [e]⟩
  keep := fun c o e => a4 c o (fun q => by rw [b.fresh c q.own] at e; cases e) (b.keep c o e)
  kind := b.kind
  frame := a1
  inj := b.inj
  fresh := b.fresh
  hidden := fun c m => let ⟨o, e⟩ := b.hidden c m; a6 c o e
  names := fun y q e => by
    have ex : LExt (hid S s.heap) (hid S h') := fun c vs n e => hid_some.mpr ⟨(hid_some.mp e).1, a5 c vs n (hid_some.mp e).2⟩
    rw [List.lookup_cons] at e
    by_cases hy : (y == x) = true
    · rw [hy] at e; cases e; rw [eq_of_beq hy]; exact ⟨v, a2, hv.ext ex⟩
    · rw [Bool.not_eq_true] at hy; rw [hy] at e
      obtain ⟨u, l, i⟩ := b.names y q e
      exact ⟨u, a3 y u (ne_of_beq_false hy) l, i.ext ex⟩
  muts := fun q m => by
    have ex : LExt (hid S s.heap) (hid S h') := fun c vs n e => hid_some.mpr ⟨(hid_some.mp e).1, a5 c vs n (hid_some.mp e).2⟩
    obtain ⟨h1, h2, n, vs, h3, h4⟩ := b.muts q m
    exact ⟨h1, h2, n, vs, a5 _ _ _ h3, h4.ext ex⟩
  nd := b.nd
def Stores (env : Env) (x : Str) : Prop := env.kindOf x = some .local ∨ (env.kindOf x = some .cell ∧ ∃ c, env.cells.lookup x = some c)
theorem B.store {x : Str} {v : Value} {p : P} {Q : Unit → Shared → Prop} {E : Value → Shared → Prop} (b : B s₀ G S env s ρ μ) (hx : Stores env x) (hv : Is (hid S s.heap) p v) (k : ∀ s', B s₀ G S env s' ((x, p) :: ρ) μ → Q () s') :
    wpAny (model prog w) A (storeName env x v) Q E s :=
  Mine.store b.kind hx b.frame b.inj fun h' tk a1 a2 a3 a4 a5 a6 => k _ (b.stored hv a1 a2 a3 a4 a5 a6)
/-! ## statements -/
theorem B.assign {x : Str} {pos' pos : Pos} {value : Expr} {rest : List Stmt} {p : P} {Q : Flow → Shared → Prop} {E : Value → Shared → Prop} (b : B s₀ G S env s ρ μ) (he : PE prog w A S env s value p)
    (k : ∀ s', B s₀ G S env s' ((x, p) :: ρ) μ → wpAny (model prog w) A (execs rest env) Q E s') (hx : Stores env x := by first | exact .inl rfl | exact .inr ⟨rfl, _, rfl⟩) (hs : swapsWith value (some (.Name x pos')) pos.line env = pure false := by rfl) :
    wpAny (model prog w) A (execs (.Assign [.Name x pos'] value pos :: rest) env) Q E s :=
  wpAny_execs_cons (wpAny_Assign_Name (wpAny_mono (he.go s (Kp.refl _) b.hidden E) (fun v s₁ ⟨hv, k1⟩ => (b.kp k1).store hx hv fun s' b' => k s' b') fun _ _ e => e) hs)
theorem B.ret {value : Expr} {pos : Pos} {rest : List Stmt} {p : P} {Q : Flow → Shared → Prop} {E : Value → Shared → Prop} (b : B s₀ G S env s ρ μ) (he : PE prog w A S env s value p)
    (k : ∀ v s', Is (hid S s'.heap) p v → B s₀ G S env s' ρ μ → Q (.ret v) s') : wpAny (model prog w) A (execs (.Return (some value) pos :: rest) env) Q E s :=
  wpAny_execs_cons (wpAny_Return_some (wpAny_mono (he.go s (Kp.refl _) b.hidden E) (fun v s₁ ⟨hv, k1⟩ => k v s₁ hv (b.kp k1)) fun _ _ e => e))
theorem B.ifs {test : Expr} {body orelse rest : List Stmt} {pos : Pos} {c : Bool} {Q : Flow → Shared → Prop} {E : Value → Shared → Prop} (b : B s₀ G S env s ρ μ) (ht : PT prog w A S env s test c)
    (h1 : c = true → ∀ s', B s₀ G S env s' ρ μ → wpAny (model prog w) A (execs body env) (fun f s'' => match f with | .next => wpAny (model prog w) A (execs rest env) Q E s'' | f => Q f s'') E s')
    (h2 : c = false → ∀ s', B s₀ G S env s' ρ μ → wpAny (model prog w) A (execs orelse env) (fun f s'' => match f with | .next => wpAny (model prog w) A (execs rest env) Q E s'' | f => Q f s'') E s') :
    wpAny (model prog w) A (execs (.If test body orelse pos :: rest) env) Q E s :=
  wpAny_execs_cons (wpAny_If (wpAny_mono (ht.go s E (Kp.refl _) b.hidden) (fun v s₁ ⟨hv, k1⟩ => by
    subst hv
    cases v with
    | true => exact h1 rfl s₁ (b.kp k1)
    | false => exact h2 rfl s₁ (b.kp k1)) fun _ _ e => e))
/-- one list of the hidden turns -/
theorem B.turned {a : Addr} {ps ps' : List P} {μ₁ μ₂ : List (Addr × List P)} {vs' : List Value} {n' : Nat} {h' : Heap} {tk : Nat} (b : B s₀ G S env s ρ (μ₁ ++ (a, ps) :: μ₂)) (hs : ∀ c, c ≠ a → h'.get? c = s.heap.get? c)
    (hl : IsL h' a vs'.toArray n') (hi : Iss (hid S s.heap) ps' vs') : B s₀ G S env { s with heap := h', toks := tk } ρ (μ₁ ++ (a, ps') :: μ₂) := by
  obtain ⟨haS, hGa, n, vs, hla, hia⟩ := b.muts (a, ps) (by simp)
  have hh : hid S h' = hid S s.heap := funext fun c => by
    unfold hid
    by_cases hc : c ∈ S
    · rw [if_pos hc, if_pos hc]
    · rw [if_neg hc, if_neg hc]; exact hs c fun q => hc (q ▸ haS)
  have hnl : a ≠ env.locals := fun q => by obtain ⟨⟨m, hm⟩, _⟩ := b.frame; exact ns_not_list hm (q ▸ hla)
  have hcl : ∀ {c ov}, s.heap.IsCell c ov → c ≠ a := fun h1 q => cell_not_list h1 (q ▸ hla)
  have hnd := b.nd
  refine ⟨?_, fun c o e => ?_, b.kind, ⟨?_, fun x c e => ?_⟩, b.inj, b.fresh, fun c m => ?_, fun x p e => ?_, fun q m => ?_, ?_⟩
  · obtain ⟨h, tk', e⟩ := b.same; exact ⟨h', tk, by rw [e]⟩
  · rw [hs c fun q => by rw [q, hGa] at e; cases e]; exact b.keep c o e
  · obtain ⟨⟨m, o, es, ep, ho, r⟩, _⟩ := b.frame
    exact ⟨m, o, es, ep, (hs _ (Ne.symm hnl)).trans ho, r⟩
  · obtain ⟨ov, h1⟩ := b.frame.2 x c e
    obtain ⟨o, ho, r⟩ := h1
    exact ⟨ov, o, (hs c (hcl ⟨o, ho, r⟩)).trans ho, r⟩
  · by_cases hc : c = a
    · subst hc; exact ⟨_, hl⟩
    · obtain ⟨o, e⟩ := b.hidden c m; exact ⟨o, (hs c hc).trans e⟩
  · obtain ⟨u, l, i⟩ := b.names x p e
    refine ⟨u, ?_, by show Is (hid S h') p u; rw [hh]; exact i⟩
    rcases l with ⟨a1, m, ⟨o, es, ep, ho, r⟩, c⟩ | ⟨a1, c, e1, ⟨o, ho, r⟩⟩
    · exact .inl ⟨a1, m, ⟨o, es, ep, (hs _ (Ne.symm hnl)).trans ho, r⟩, c⟩
    · exact .inr ⟨a1, c, e1, o, (hs c (hcl ⟨o, ho, r⟩)).trans ho, r⟩
  · have hold : ∀ q ∈ μ₁ ++ μ₂, q.1 ≠ a := fun q m e => by
      rw [List.map_append, List.map_cons, List.nodup_append] at hnd
      obtain ⟨_, n2, n3⟩ := hnd
      rw [List.nodup_cons] at n2
      rcases List.mem_append.mp m with m | m
      · exact n3 q.1 (List.mem_map_of_mem m) a (.head _) e
      · exact n2.1 (by have := List.mem_map_of_mem (f := (·.1)) m; rwa [e] at this)
    have old : ∀ q ∈ μ₁ ++ μ₂, q.1 ∈ S ∧ G q.1 = none ∧ ∃ n vs, IsL h' q.1 (List.toArray vs) n ∧ Iss (hid S h') q.2 vs := fun q m => by
      obtain ⟨h1, h2, n, vs, h3, h4⟩ := b.muts q (by rcases List.mem_append.mp m with m | m <;> simp [m])
      exact ⟨h1, h2, n, vs, (hs q.1 (hold q m)).trans h3, by rw [hh]; exact h4⟩
    rcases List.mem_append.mp m with m | m
    · exact old q (List.mem_append_left _ m)
    · rcases List.mem_cons.mp m with rfl | m
      · exact ⟨haS, hGa, n', vs', hl, by show Iss (hid S h') ps' vs'; rw [hh]; exact hi⟩
      · exact old q (List.mem_append_right _ m)
  · simpa using hnd
theorem B.append {x : Str} {xp ap pos pos' : Pos} {e : Expr} {rest : List Stmt} {a : Addr} {ps : List P} {p : P} {μ₁ μ₂ : List (Addr × List P)} {Q : Flow → Shared → Prop} {E : Value → Shared → Prop} (b : B s₀ G S env s ρ (μ₁ ++ (a, ps) :: μ₂))
    (hx : ρ.lookup x = some (.val (.ref a))) (he : PE prog w A S env s e p) (hz : ps.length ≤ 1000000)
    (k : ∀ s', B s₀ G S env s' ρ (μ₁ ++ (a, ps ++ [p]) :: μ₂) → wpAny (model prog w) A (execs rest env) Q E s')
    (hs : starEach [e] env = [(false, eval e env)] := by intros; rfl) (hline : (ap.endLine == pos.line) = true := by rfl) (hi : interactive env = false := by rfl)
    (hbase : attributeBase (.Name x xp) (Str.ofString "append") env (eval (.Name x xp) env) = eval (.Name x xp) env := by rfl) (hsw : swapsWith (.Call (.Attribute (.Name x xp) (Str.ofString "append") ap) [e] [] pos) none pos'.line env = pure false := by rfl)
    (hd : (x == ("__debug__" : Str)) = false := by rfl) (hc : (x == ("__classdict__" : Str)) = false := by rfl) :
    wpAny (model prog w) A (execs (.Expr (.Call (.Attribute (.Name x xp) (Str.ofString "append") ap) [e] [] pos) pos' :: rest) env) Q E s := by
  refine wpAny_execs_cons (wpAny_Expr_any (Call_method1 hbase hs hline (wpAny_mono ((PE.name b.kind (b.names x _ hx) hd hc).go s (Kp.refl _) b.hidden E) (fun v s₁ ⟨hv, k1⟩ => ?_) fun _ _ e => e)) hi hsw)
  cases hv.ofVal
  have b1 := b.kp k1
  obtain ⟨_, _, n, vs, hla, hia⟩ := b1.muts (a, ps) (by simp)
  refine onList PySem.F.slot_list_append PySem.F.type_list_append hla (PySem.P.append_list (wpAny_mono (he.go s₁ k1 b1.hidden E) (fun u s₂ ⟨hu, k2⟩ => ?_) fun _ _ e => e))
  have b2 := b1.kp k2
  have hla2 := k2.get _ _ hla
  refine ⟨vs.toArray, n, by rw [List.size_toArray, hia.length, sizeLine_eq]; show ps.length ≤ _; omega, hla2, k _ (b2.turned (vs' := vs ++ [u]) (n' := n + 1) (fun c hc => Heap.get?_update_ne _ _ _ _ hc) ?_ ?_)⟩
  · have := IsL.update hla2 (fun xs => xs.push u)
    simpa using this
  · exact (hia.ext k2.ext).append (Iss.cons hu Iss.nil)
end
end Mine

namespace Mine
open PySem PySem.Calls PyProof.Rows Builtin.Str
def compRes (b : Nat → Bool) (f : Nat → P) (n : Nat) : List P := ((List.range n).filter b).map f
theorem compRes_succ (b : Nat → Bool) (f : Nat → P) (k : Nat) : compRes b f (k + 1) = compRes b f k ++ (if b k then [f k] else []) := by
  unfold compRes
  rw [List.range_succ, List.filter_append, List.map_append]
  cases hb : b k <;> simp [hb]
theorem compRes_le (b : Nat → Bool) (f : Nat → P) (k : Nat) : (compRes b f k).length ≤ k := by
  unfold compRes
  rw [List.length_map]
  exact Nat.le_trans (List.length_filter_le _ _) (by simp)
section
variable {prog : Program} {w : World} {A : Around} {S : List Addr} {env : Env} {s : Shared}
/-- the tests of a comprehension come out as c -/
structure PTs (prog : Program) (w : World) (A : Around) (S : List Addr) (env : Env) (s : Shared) (ifs : List Expr) (c : Bool) : Prop where
  go : ∀ s₁ E, Kp s s₁ → Hid S s₁ → wpAny (model prog w) A (forIn ifs true fun c r => if r = true then do let ok ← isTrue c env (eval c env); pure (ForInStep.yield ok) else pure (ForInStep.yield r)) (fun v s' => v = c ∧ Kp s₁ s') E s₁
theorem PTs.nil : PTs prog w A S env s [] true := ⟨fun s₁ E k hS => wpAny_tests_nil ⟨rfl, Kp.refl _⟩⟩
theorem PTs.one {e : Expr} {c : Bool} (h : PT prog w A S env s e c) : PTs prog w A S env s [e] c := ⟨fun s₁ E k hS => wpAny_tests_one (h.go s₁ E k hS)⟩
end
section
variable {s₀ : Shared} {G : Gt} {S : List Addr} {env : Env} {s : Shared} {ρ : List (Str × P)} {μ : List (Addr × List P)}
theorem LV.but {h h' : Heap} {wr : List Addr} {x : Str} {v : Value} (l : LV env h x v) (hw : ∀ c o, c ∉ wr → h.get? c = some o → h'.get? c = some o) (ho : ∀ c ∈ wr, ¬ Own env c) : LV env h' x v := by
  rcases l with ⟨a, m, ⟨o, es, ep, e, r⟩, c⟩ | ⟨a, c, b, o, e, r⟩
  · exact .inl ⟨a, m, ⟨o, es, ep, hw _ _ (fun q => ho _ q (.inl rfl)) e, r⟩, c⟩
  · exact .inr ⟨a, c, b, o, hw _ _ (fun q => ho _ q (.inr ⟨x, b⟩)) e, r⟩
theorem FrameOk.but {h h' : Heap} {wr : List Addr} (f : FrameOk env h) (hw : ∀ c o, c ∉ wr → h.get? c = some o → h'.get? c = some o) (ho : ∀ c ∈ wr, ¬ Own env c) : FrameOk env h' := by
  obtain ⟨⟨m, o, es, ep, e, r⟩, f2⟩ := f
  refine ⟨⟨m, o, es, ep, hw _ _ (fun q => ho _ q (.inl rfl)) e, r⟩, fun x c hc => ?_⟩
  obtain ⟨ov, o, e, r⟩ := f2 x c hc
  exact ⟨ov, o, hw _ _ (fun q => ho _ q (.inr ⟨x, hc⟩)) e, r⟩
/-- the writable ones of a walk turn -/
theorem B.next {h' : Heap} {tk : Nat} {wr : List Addr} (b : B s₀ G S env s ρ μ) (hw : ∀ c o, c ∉ wr → s.heap.get? c = some o → h'.get? c = some o) (hG : ∀ c ∈ wr, G c = none) (ho : ∀ c ∈ wr, ¬ Own env c)
    (hS : ∀ c ∈ wr, c ∈ S) (hμ : ∀ c ∈ wr, ∀ q ∈ μ, q.1 ≠ c) (hex : ∀ c ∈ wr, ∃ o, h'.get? c = some o) : B s₀ G S env { s with heap := h', toks := tk } ρ μ := by
  have ex : LExt (hid S s.heap) (hid S h') := .of fun c o e => hid_some.mpr ⟨(hid_some.mp e).1, hw c o (fun q => (hid_some.mp e).1 (hS c q)) (hid_some.mp e).2⟩
  refine ⟨?_, fun c o e => hw c o (fun q => by rw [hG c q] at e; cases e) (b.keep c o e), b.kind, b.frame.but hw ho, b.inj, b.fresh, fun c m => ?_, fun x p e => ?_, fun q m => ?_, b.nd⟩
  · obtain ⟨h, tk', e⟩ := b.same; exact ⟨h', tk, by rw [e]⟩
  · by_cases hc : c ∈ wr
    · exact hex c hc
    · obtain ⟨o, e⟩ := b.hidden c m; exact ⟨o, hw c o hc e⟩
  · obtain ⟨v, l, i⟩ := b.names x p e
    exact ⟨v, l.but hw ho, i.ext ex⟩
  · obtain ⟨h1, h2, n, vs, h3, h4⟩ := b.muts q m
    exact ⟨h1, h2, n, vs, hw _ _ (fun z => hμ _ z q m rfl) h3, h4.ext ex⟩
/-- the walk is over: what it wrote is forgotten -/
theorem B.last {h' : Heap} {tk : Nat} {wr S₁ : List Addr} (b : B s₀ G S env s ρ μ) (hw : ∀ c o, c ∉ wr → s.heap.get? c = some o → h'.get? c = some o) (hG : ∀ c ∈ wr, G c = none) (ho : ∀ c ∈ wr, ¬ Own env c)
    (hS : ∀ c ∈ wr, c ∈ S) (hμ : ∀ c ∈ wr, ∀ q ∈ μ, q.1 ≠ c) (h1 : ∀ c ∈ S₁, c ∈ S ∧ c ∉ wr) (h2 : ∀ q ∈ μ, q.1 ∈ S₁) : B s₀ G S₁ env { s with heap := h', toks := tk } ρ μ := by
  have ex : LExt (hid S s.heap) (hid S₁ h') := .of fun c o e => hid_some.mpr ⟨fun m => (hid_some.mp e).1 (h1 c m).1, hw c o (fun q => (hid_some.mp e).1 (hS c q)) (hid_some.mp e).2⟩
  refine ⟨?_, fun c o e => hw c o (fun q => by rw [hG c q] at e; cases e) (b.keep c o e), b.kind, b.frame.but hw ho, b.inj, b.fresh, fun c m => ?_, fun x p e => ?_, fun q m => ?_, b.nd⟩
  · obtain ⟨h, tk', e⟩ := b.same; exact ⟨h', tk, by rw [e]⟩
  · obtain ⟨o, e⟩ := b.hidden c (h1 c m).1; exact ⟨o, hw c o (h1 c m).2 e⟩
  · obtain ⟨v, l, i⟩ := b.names x p e
    exact ⟨v, l.but hw ho, i.ext ex⟩
  · obtain ⟨_, h4, n, vs, h5, h6⟩ := b.muts q m
    exact ⟨h2 q m, h4, n, vs, hw _ _ (fun z => hμ _ z q m rfl) h5, h6.ext ex⟩
end
section
variable {prog : Program} {w : World} {A : Around}
/-- the loop of a comprehension -/
theorem comp_loop {elt iter : Expr} {ifs : List Expr} {scope : Scope} {pos px : Pos} {x : Str} {ce : Env} {I D : Addr} {fp wr : List Addr} {J : Nat → Value → Prop} {St : Nat → Heap → Prop} {items : List P} {S : List Addr}
    {s₀ s : Shared} {G : Gt} {R : Result → Shared → Prop} {bs : Nat → Bool} {f : Nat → P} {Kex : Heap → Heap → Prop} (hKx : Kex = fun h h' => ∀ c o, ¬ At ce x c → c ∉ wr → c ≠ D → h.get? c = some o → h'.get? c = some o) (fr : Bool) (W : Walks prog w A I fp wr items.length J St) (hx : Stores ce x)
    (hb : B s₀ G (D :: (wr ++ S)) ce s [] [(D, [])]) (hG : ∀ c ∈ wr, G c = none) (ho : ∀ c ∈ fp, ¬ Own ce c) (hD : D ∉ fp) (hDS : ∀ c ∈ S, c ∉ wr) (hz : items.length ≤ 1000000)
    (hst : St 0 s.heap) (hex : ∀ i h, St i h → ∀ c ∈ wr, ∃ o, h.get? c = some o)
    (hJ : ∀ j v, J j v → ∃ p, items[j]? = some p ∧ ∀ s' : Shared, (∀ c o, G c = some o → s'.heap.get? c = some o) → Is (hid (D :: (wr ++ S)) s'.heap) p v)
    (htests : ∀ i p, items[i]? = some p → ∀ s' r, B s₀ G (D :: (wr ++ S)) ce s' [(x, p)] [(D, r)] → Kex s.heap s'.heap → PTs prog w A (D :: (wr ++ S)) ce s' ifs (bs i))
    (helt : ∀ i p, items[i]? = some p → bs i = true → ∀ s' r, B s₀ G (D :: (wr ++ S)) ce s' [(x, p)] [(D, r)] → Kex s.heap s'.heap → ∀ E, wpAny (model prog w) A (eval elt ce) (fun v s₂ => Is (hid (D :: (wr ++ S)) s₂.heap) (f i) v ∧ Kp s' s₂ ∧
      (fr = true → ∃ a, v = .ref a ∧ s'.heap.get? a = none ∧ ∃ o, s₂.heap.get? a = some o)) E s')
    (hR : ∀ s', B s₀ G (D :: S) ce s' [] [(D, compRes bs f items.length)] → Kex s.heap s'.heap → (fr = true → ∃ n, ∃ as : List Addr, IsL s'.heap D (as.map Value.ref).toArray n ∧ as.Nodup ∧ ∀ a ∈ as, s.heap.get? a = none) → R (.ok .next) s') :
    codeAny (model prog w) A (.compLoop (.ListComp elt [⟨.Name x px, iter, ifs, 0⟩] scope pos) 0 (.ref I) (.ref D) ce) R s := by
  have hwr : ∀ c ∈ wr, ¬ Own ce c := fun c m => ho c (W.sub c m)
  have hwD : ∀ c ∈ wr, D ≠ c := fun c m q => hD (q ▸ W.sub c m)
  have hin : ∀ c ∈ wr, c ∈ D :: (wr ++ S) := fun c m => List.mem_cons_of_mem _ (List.mem_append_left _ m)
  have hμ : ∀ r, ∀ c ∈ wr, ∀ q ∈ [(D, r)], (q : Addr × List P).1 ≠ c := fun r c m q hq => by rw [List.mem_singleton.mp hq]; exact hwD c m
  refine codeAny_compLoop_tests
    (fun n s' => ∃ k ≤ items.length, n = items.length + 1 - k ∧ B s₀ G (D :: (wr ++ S)) ce s' [] [(D, compRes bs f k)] ∧ St k s'.heap ∧ Kex s.heap s'.heap ∧ (∀ c o, s.heap.get? c = some o → ∃ o', s'.heap.get? c = some o') ∧
      (fr = true → ∃ n, ∃ as : List Addr, IsL s'.heap D (as.map Value.ref).toArray n ∧ as.Nodup ∧ ∀ a ∈ as, s.heap.get? a = none ∧ ∃ o, s'.heap.get? a = some o)) ?_ (items.length + 1)
    ⟨0, Nat.zero_le _, rfl, hb, hst, by rw [hKx]; exact fun _ _ _ _ _ e => e, fun c o e => ⟨o, e⟩, fun _ => by
      obtain ⟨_, _, n, vs, hl, hi⟩ := hb.muts (D, []) (by simp)
      simp only [Iss] at hi
      subst hi
      exact ⟨n, [], hl, List.nodup_nil, fun a m => nomatch m⟩⟩
  rintro n s' ⟨k, hk, rfl, b, st, hkx, hex0, hg⟩
  rw [hKx] at hkx
  by_cases hlt : k < items.length
  · refine W.item k s' _ _ hlt st fun v h₁ tk₁ hv st₁ hk₁ => ?_
    obtain ⟨p, hp, hpi⟩ := hJ k v hv
    have b1 : B s₀ G (D :: (wr ++ S)) ce { s' with heap := h₁, toks := tk₁ } [] [(D, compRes bs f k)] := b.next hk₁ hG hwr hin (hμ _) (hex _ _ st₁)
    have ex1 : ∀ c o, s'.heap.get? c = some o → ∃ o', h₁.get? c = some o' := fun c o e => by
      by_cases hc : c ∈ wr
      · exact hex _ _ st₁ c hc
      · exact ⟨o, hk₁ c o hc e⟩
    refine wpAny_assign_Name (Mine.store b1.kind hx b1.frame b1.inj fun h₂ tk₂ a1 a2 a3 a4 a5 a6 => ?_)
    have b2 := b1.stored (p := p) (x := x) (tk := tk₂) (hpi _ b1.keep) a1 a2 a3 a4 a5 a6
    have st₂ : St (k + 1) h₂ := W.frame _ _ _ st₁ fun c hc o e => a4 c o (fun q => ho c hc q.own) e
    have kx2 : ∀ c o, ¬ At ce x c → c ∉ wr → c ≠ D → s.heap.get? c = some o → h₂.get? c = some o := fun c o q1 q2 q3 e => a4 c o q1 (hk₁ c o q2 (hkx c o q1 q2 q3 e))
    refine wpAny_mono ((htests k p hp _ _ b2 (by rw [hKx]; exact kx2)).go _ _ (Kp.refl _) b2.hidden) (fun ok s₃ h₃ => ?_) fun _ _ e => e
    obtain ⟨rfl, k3⟩ := h₃
    have b3 := b2.kp k3
    have kx3 : ∀ c o, ¬ At ce x c → c ∉ wr → c ≠ D → s.heap.get? c = some o → s₃.heap.get? c = some o := fun c o q1 q2 q3 e => k3.get c o (kx2 c o q1 q2 q3 e)
    have st₃ : St (k + 1) s₃.heap := W.frame _ _ _ st₂ fun c _ o e => k3.get c o e
    have ex3 : ∀ c o, s'.heap.get? c = some o → ∃ o', s₃.heap.get? c = some o' := fun c o e => by
      obtain ⟨o1, e1⟩ := ex1 c o e
      obtain ⟨o2, e2⟩ := a6 c o1 e1
      exact ⟨o2, k3.get c o2 e2⟩
    have hDk : ∀ vs m, IsL s'.heap D vs m → IsL s₃.heap D vs m := fun vs m e => k3.get _ _ (a5 _ _ _ (hk₁ _ _ (fun q => hwD D q rfl) e))
    cases hbk : bs k with
    | false =>
      simp only [Bool.false_eq_true, if_false]
      refine ⟨items.length + 1 - (k + 1), by omega, k + 1, hlt, rfl, ?_, st₃, by rw [hKx]; exact kx3, fun c o e => ?_, fun hf => ?_⟩
      · rw [compRes_succ, hbk]; simpa using b3.weaken [] trivial
      · obtain ⟨o1, e1⟩ := hex0 c o e; exact ex3 c o1 e1
      · obtain ⟨m, as, hl, hnd, ha⟩ := hg hf
        exact ⟨m, as, hDk _ _ hl, hnd, fun a ma => ⟨(ha a ma).1, let ⟨o, e⟩ := (ha a ma).2; ex3 a o e⟩⟩
    | true =>
      simp only [if_true]
      refine wpAny_mono (helt k p hp hbk s₃ _ b3 (by rw [hKx]; exact kx3) _) (fun y s₄ h₄ => ?_) fun _ _ e => e
      obtain ⟨hy, k4, hfr⟩ := h₄
      have b4 := b3.kp k4
      obtain ⟨_, _, m, vs, hl, hi⟩ := b4.muts (D, compRes bs f k) (by simp)
      refine wpAny_list_append_plain (hsz := by rw [List.size_toArray, hi.length, sizeLine_eq]; have := compRes_le bs f k; show (compRes bs f k).length ≤ _; omega) ⟨m, hl⟩ fun h₅ hl₅ hs₅ => ?_
      obtain ⟨m', hl₅⟩ := hl₅
      have b5 := b4.turned (μ₁ := []) (μ₂ := []) (vs' := vs ++ [y]) (ps' := compRes bs f k ++ [f k]) (n' := m') (h' := h₅) (tk := s₄.toks) (fun c hc => hs₅.2 c hc) (by simpa using hl₅) (hi.append (Iss.cons hy Iss.nil))
      refine ⟨items.length + 1 - (k + 1), by omega, k + 1, hlt, rfl, ?_, ?_, by rw [hKx]; exact fun c o q1 q2 q3 e => (hs₅.2 c q3).trans (k4.get c o (kx3 c o q1 q2 q3 e)), fun c o e => ?_, fun hf => ?_⟩
      · rw [compRes_succ, hbk]; simpa using b5.weaken [] trivial
      · exact W.frame _ _ _ st₃ fun c hc o e => (hs₅.2 c fun q => hD (q ▸ hc)).trans (k4.get c o e)
      · obtain ⟨o1, e1⟩ := hex0 c o e
        obtain ⟨o2, e2⟩ := ex3 c o1 e1
        by_cases hc : c = D
        · subst hc; exact ⟨_, hl₅⟩
        · exact ⟨o2, (hs₅.2 c hc).trans (k4.get c o2 e2)⟩
      · obtain ⟨m0, as, hl0, hnd, ha⟩ := hg hf
        obtain ⟨a, rfl, hnone, o9, ho9⟩ := hfr hf
        have hvs : vs = as.map Value.ref := by
          have e1 := k4.get _ _ (hDk _ _ hl0)
          have e2 : some (lobj (as.map Value.ref).toArray m0) = some (lobj vs.toArray m) := e1.symm.trans hl
          injection e2 with e2
          injection e2 with _ _ e3 _
          injection e3 with e4 _
          exact (congrArg Array.toList e4).symm
        have hnew : ∀ c ∈ as, c ≠ a := fun c mc q => by
          obtain ⟨o, e⟩ := (ha c mc).2
          obtain ⟨o', e'⟩ := ex3 c o e
          rw [q, hnone] at e'; cases e'
        refine ⟨m', as ++ [a], by rw [List.map_append, ← hvs]; simpa using hl₅, ?_, fun c mc => ?_⟩
        · rw [List.nodup_append]
          exact ⟨hnd, by simp, fun c mc d md => by rw [List.mem_singleton.mp md]; exact hnew c mc⟩
        · have hcD : ∀ {c o}, s₄.heap.get? c = some o → ∃ o', h₅.get? c = some o' := fun {c o} e => by
            by_cases hc : c = D
            · subst hc; exact ⟨_, hl₅⟩
            · exact ⟨o, (hs₅.2 c hc).trans e⟩
          rcases List.mem_append.mp mc with mc | mc
          · obtain ⟨o, e⟩ := (ha c mc).2
            obtain ⟨o', e'⟩ := ex3 c o e
            exact ⟨(ha c mc).1, hcD (k4.get _ _ e')⟩
          · obtain rfl := List.mem_singleton.mp mc
            refine ⟨?_, ?_⟩
            · cases hq : s.heap.get? c with
              | none => rfl
              | some o =>
                obtain ⟨o1, e1⟩ := hex0 c o hq
                obtain ⟨o2, e2⟩ := ex3 c o1 e1
                rw [hnone] at e2; cases e2
            · exact hcD ho9
  · have hin' : k = items.length := by omega
    subst hin'
    refine W.done s' _ _ st fun h₁ tk₁ hk₁ => ?_
    refine hR _ (b.last hk₁ hG hwr hin (hμ _) (fun c m => ?_) fun q m => by rw [List.mem_singleton.mp m]; exact .head _) (by rw [hKx]; exact fun c o q1 q2 q3 e => hk₁ c o q2 (hkx c o q1 q2 q3 e)) fun hf => ?_
    · rcases List.mem_cons.mp m with rfl | m
      · exact ⟨.head _, fun q => hwD _ q rfl⟩
      · exact ⟨List.mem_cons_of_mem _ (List.mem_append_right _ m), hDS c m⟩
    · obtain ⟨m, as, hl, hnd, ha⟩ := hg hf
      exact ⟨m, as, hk₁ _ _ (fun q => hwD D q rfl) hl, hnd, fun a ma => (ha a ma).1⟩
end
end Mine

namespace Mine
open PySem PySem.Calls PyProof.Rows Builtin.Str
section
variable {s₀ : Shared} {G : Gt} {S : List Addr} {env : Env} {s : Shared} {ρ : List (Str × P)} {μ : List (Addr × List P)}
/-- an address of no concern turns -/
theorem B.other {h' : Heap} {tk : Nat} {C : Addr} (b : B s₀ G S env s ρ μ) (hw : ∀ c, c ≠ C → h'.get? c = s.heap.get? c) (hG : G C = none) (ho : ¬ Own env C) (hS : C ∉ S) (hl : ∀ vs n, s.heap.get? C ≠ some (lobj vs n)) :
    B s₀ G S env { s with heap := h', toks := tk } ρ μ := by
  have hw' : ∀ c o, c ∉ [C] → s.heap.get? c = some o → h'.get? c = some o := fun c o q e => (hw c fun z => q (by simp [z])).trans e
  have ho' : ∀ c ∈ [C], ¬ Own env c := fun c m => by rw [List.mem_singleton.mp m]; exact ho
  have ex : LExt (hid S s.heap) (hid S h') := fun c vs n e => hid_some.mpr ⟨(hid_some.mp e).1, (hw c fun q => hl vs n (q ▸ (hid_some.mp e).2)).trans (hid_some.mp e).2⟩
  refine ⟨?_, fun c o e => (hw c fun q => by rw [q, hG] at e; cases e).trans (b.keep c o e), b.kind, b.frame.but hw' ho', b.inj, b.fresh, fun c m => ?_, fun x p e => ?_, fun q m => ?_, b.nd⟩
  · obtain ⟨h, tk', e⟩ := b.same; exact ⟨h', tk, by rw [e]⟩
  · obtain ⟨o, e⟩ := b.hidden c m; exact ⟨o, (hw c fun q => hS (q ▸ m)).trans e⟩
  · obtain ⟨v, l, i⟩ := b.names x p e
    exact ⟨v, l.but hw' ho', i.ext ex⟩
  · obtain ⟨h1, h4, n, vs, h5, h6⟩ := b.muts q m
    exact ⟨h1, h4, n, vs, (hw _ fun z => hS (z ▸ h1)).trans h5, h6.ext ex⟩
end
theorem mem_of_look {y : Str} {c : Addr} : ∀ {l : List (Str × Addr)}, l.lookup y = some c → (y, c) ∈ l
  | [], h => nomatch h
  | (z, d) :: r, h => by
    rw [List.lookup_cons] at h
    cases hb : y == z with
    | true => rw [hb] at h; cases h; rw [eq_of_beq hb]; exact List.mem_cons_self
    | false => rw [hb] at h; exact List.mem_cons_of_mem _ (mem_of_look h)
section
variable {prog : Program} {w : World} {A : Around}
/-- the frame of a comprehension is made -/
def Makes (prog : Program) (w : World) (A : Around) (scope : Scope) (cl : List (Str × Addr)) (nc : List (Str × Nat)) (env : Env) : Prop :=
  ∀ (s : Shared) (Q : Env → Shared → Prop) (E : Value → Shared → Prop),
    (∀ h₁ tk e, { e with scope := relabel scope env } = compEnvC scope (nc.map (fun q => (q.1, s.heap.objs.size + q.2)) ++ cl) s.heap.objs.size env → e.locals = s.heap.objs.size → (∃ m, h₁.Ns s.heap.objs.size m) →
      (∀ q ∈ nc, h₁.IsCell (s.heap.objs.size + q.2) none) → (∀ b o, s.heap.get? b = some o → h₁.get? b = some o) → Q e { s with heap := h₁, toks := tk }) →
    wpAny (model prog w) A (newFunctionEnv scope env.globals cl [] env.qual none .none (some env)) Q E s
theorem Makes.plain {scope : Scope} {cl : List (Str × Addr)} {env : Env} (hcell : ∀ y ∈ scope.names, y.2 ≠ .cell) (hkind : scope.kind = .function) : Makes prog w A scope cl [] env := fun s Q E h =>
  wpAny_newFunctionEnv hcell (by intro y hy; simp at hy) (fun h₁ hns hsb => h h₁ _ _ rfl rfl ⟨_, hns⟩ (fun q m => nomatch m) fun b o e => hsb.extBut b o (Nat.ne_of_lt (Heap.lt_size e)) (Heap.get?_push_of_some _ e)) hkind
theorem fresh_at {h : Heap} {a : Addr} (ha : h.objs.size ≤ a) : h.get? a = none := by
  cases e : h.get? a with
  | none => rfl
  | some o => exact absurd (Heap.lt_size e) (Nat.not_lt.mpr ha)
/-- what the parts of a comprehension may lean on -/
structure In (S : List Addr) (s : Shared) (S' : List Addr) (ce : Env) (s' : Shared) (x : Str) (p : P) : Prop where
  fwd : Fwd S s S' s'
  name : NV S' ce s' x p
theorem comp_block {elt iter : Expr} {ifs : List Expr} {scope : Scope} {pos px : Pos} {x : Str} {env : Env} {items : List P} {S : List Addr} {cl : List (Str × Addr)} {nc : List (Str × Nat)} {s₁ s₂ : Shared} {it : Value} {bs : Nat → Bool} {f : Nat → P} {E : Value → Shared → Prop}
    {RR : Value → Addr → Result → Shared → Prop} (fr : Bool) (k12 : Kp s₁ s₂) (src : Src prog w A S s₁ it items s₂) (hS : Hid S s₂) (hm : Makes prog w A scope cl nc env) (hkind : scope.kind = .function)
    (hx : ∀ C, Stores (compEnvC scope (nc.map (fun q => (q.1, C + q.2)) ++ cl) C env) x ∧ ∀ c, At (compEnvC scope (nc.map (fun q => (q.1, C + q.2)) ++ cl) C env) x c → c = C ∨ ∃ q ∈ nc, c = C + q.2)
    (hinj : ∀ C, (∀ y c, cl.lookup y = some c → c < C) → Inj (compEnvC scope (nc.map (fun q => (q.1, C + q.2)) ++ cl) C env))
    (hcl : ∀ y c, (y, c) ∈ cl → ∃ ov, s₁.heap.IsCell c ov) (hz : items.length ≤ 1000000)
    (htests : ∀ i p, items[i]? = some p → ∀ S' C s', In S s₁ S' (compEnvC scope (nc.map (fun q => (q.1, C + q.2)) ++ cl) C env) s' x p → PTs prog w A S' (compEnvC scope (nc.map (fun q => (q.1, C + q.2)) ++ cl) C env) s' ifs (bs i))
    (helt : ∀ i p, items[i]? = some p → bs i = true → ∀ S' C s', In S s₁ S' (compEnvC scope (nc.map (fun q => (q.1, C + q.2)) ++ cl) C env) s' x p → Hid S' s' → ∀ E, wpAny (model prog w) A (eval elt (compEnvC scope (nc.map (fun q => (q.1, C + q.2)) ++ cl) C env)) (fun v s₂ => Is (hid S' s₂.heap) (f i) v ∧ Kp s' s₂ ∧
      (fr = true → ∃ a, v = .ref a ∧ s'.heap.get? a = none ∧ ∃ o, s₂.heap.get? a = some o)) E s')
    (hRR : ∀ D C s', s₁.heap.get? D = none → s₁.heap.get? C = none → D ≠ C → D ∉ S → C ∉ S → Kp s₁ s' → (∃ m, s'.heap.Ns C m) → Is (hid S s'.heap) (.list (compRes bs f items.length)) (.ref D) →
      (fr = true → ∃ n, ∃ as : List Addr, IsL s'.heap D (as.map Value.ref).toArray n ∧ as.Nodup ∧ ∀ a ∈ as, s₁.heap.get? a = none ∧ a ≠ D ∧ a ≠ C) → RR (.ref D) C (.ok .next) s') :
    wpAny (model prog w) A (newList []) (fun acc s₃ => wpAny (model prog w) A (newFunctionEnv scope env.globals cl [] env.qual none .none (some env)) (fun cenv s₄ =>
      codeAny (model prog w) A (.compStart (.ListComp elt [⟨.Name x px, iter, ifs, 0⟩] scope pos) 0 it acc { cenv with scope := relabel scope env }) (RR acc cenv.locals) s₄) E s₃) E s₂ := by
  obtain ⟨I, fp, wr, J, St, rfl, W, hst, hfp, hwr, hex, hJ⟩ := src
  refine wpAny_newObj_type (hm _ _ _ fun h₁ tk e he hel hns hnc hk₁ => ?_)
  rw [he, hel]
  dsimp only at hns hnc hk₁ ⊢
  have hsz : (s₂.heap.push { cls := .type "list", dict := none, data := .seq ([] : List Value).toArray }).objs.size = s₂.heap.objs.size + 1 := Heap.size_push ..
  have hDl : h₁.get? s₂.heap.objs.size = some (lobj #[] 0) := hk₁ _ _ (Heap.get?_push_size _ rfl)
  have hk₂ : ∀ b o, s₂.heap.get? b = some o → h₁.get? b = some o := fun b o e => hk₁ b o (Heap.get?_push_of_some _ e)
  rw [hsz] at hns hnc ⊢
  obtain ⟨hx1, hx2⟩ := hx (s₂.heap.objs.size + 1)
  have lt1 : ∀ {b o}, s₁.heap.get? b = some o → b < s₂.heap.objs.size := fun e => Heap.lt_size (k12.get _ _ e)
  have hclt : ∀ y c, (y, c) ∈ cl → c < s₂.heap.objs.size ∧ ∃ ov, h₁.IsCell c ov := fun y c m => by
    obtain ⟨ov, o, e, r⟩ := hcl y c m
    exact ⟨lt1 e, ov, o, hk₂ _ _ (k12.get _ _ e), r⟩
  have hlk : ∀ {y c}, (nc.map (fun q => (q.1, s₂.heap.objs.size + 1 + q.2)) ++ cl).lookup y = some c → (∃ q ∈ nc, c = s₂.heap.objs.size + 1 + q.2) ∨ (y, c) ∈ cl := fun {y c} e => by
    rcases List.mem_append.mp (mem_of_look e) with m | m
    · obtain ⟨q, hq, e2⟩ := List.mem_map.mp m
      cases e2; exact .inl ⟨q, hq, rfl⟩
    · exact .inr m
  have hown : ∀ c, Own (compEnvC scope (nc.map (fun q => (q.1, s₂.heap.objs.size + 1 + q.2)) ++ cl) (s₂.heap.objs.size + 1) env) c → s₂.heap.objs.size + 1 ≤ c ∨ ∃ y, (y, c) ∈ cl := fun c h => by
    rcases h with rfl | ⟨y, e⟩
    · exact .inl (Nat.le_refl _)
    · rcases hlk e with ⟨q, _, rfl⟩ | m
      · exact .inl (Nat.le_add_right _ _)
      · exact .inr ⟨y, m⟩
  have hatn : ∀ c, At (compEnvC scope (nc.map (fun q => (q.1, s₂.heap.objs.size + 1 + q.2)) ++ cl) (s₂.heap.objs.size + 1) env) x c → s₂.heap.objs.size + 1 ≤ c := fun c h => by
    rcases hx2 c h with rfl | ⟨q, _, rfl⟩
    · exact Nat.le_refl _
    · exact Nat.le_add_right _ _
  have hnotL : ∀ {c vs n}, s₁.heap.get? c = some (lobj vs n) → ∀ y, (y, c) ∉ cl := fun e y m => by
    obtain ⟨ov, h⟩ := hcl y _ m
    exact cell_not_list h e
  have hwr' : ∀ c ∈ wr, ∃ o, s₂.heap.get? c = some o := hex _ _ hst
  have hDS : s₂.heap.objs.size ∉ S := hS.notin
  have hB : B s₂ (hid (wr ++ cl.map (·.2)) s₂.heap) (s₂.heap.objs.size :: (wr ++ S)) (compEnvC scope (nc.map (fun q => (q.1, s₂.heap.objs.size + 1 + q.2)) ++ cl) (s₂.heap.objs.size + 1) env)
      { s₂ with heap := h₁, toks := tk } [] [(s₂.heap.objs.size, [])] := by
    refine ⟨⟨h₁, tk, rfl⟩, fun b o e => hk₂ b o (hid_some.mp e).2, hkind, ⟨hns, fun y c e => ?_⟩, hinj _ fun y c e => Nat.lt_succ_of_lt (hclt y c (mem_of_look e)).1, fun b hb => ?_, fun b hb => ?_, (fun y p e => nomatch e), fun q m => ?_, List.nodup_cons.mpr ⟨(fun m => nomatch m), List.nodup_nil⟩⟩
    · rcases hlk e with ⟨q, hq, rfl⟩ | m
      · exact ⟨_, hnc q hq⟩
      · exact (hclt y c m).2
    · rcases hown b hb with h | ⟨y, m⟩
      · cases hq : hid (wr ++ cl.map (·.2)) s₂.heap b with
        | none => rfl
        | some o => exact absurd (Heap.lt_size (hid_some.mp hq).2) (Nat.not_lt.mpr (Nat.le_of_succ_le h))
      · unfold hid; rw [if_pos (List.mem_append_right _ (List.mem_map_of_mem (f := (·.2)) m))]
    · rcases List.mem_cons.mp hb with rfl | hb
      · exact ⟨_, hDl⟩
      · rcases List.mem_append.mp hb with hb | hb
        · obtain ⟨o, e⟩ := hwr' b hb; exact ⟨o, hk₂ _ _ e⟩
        · obtain ⟨o, e⟩ := hS b hb; exact ⟨o, hk₂ _ _ e⟩
    · rw [List.mem_singleton.mp m]
      refine ⟨.head _, ?_, 0, [], hDl, Iss.nil⟩
      unfold hid; split
      · rfl
      · exact fresh_at (Nat.le_refl _)
  have hin : ∀ {p s'} {r : List P}, B s₂ (hid (wr ++ cl.map (·.2)) s₂.heap) (s₂.heap.objs.size :: (wr ++ S)) (compEnvC scope (nc.map (fun q => (q.1, s₂.heap.objs.size + 1 + q.2)) ++ cl) (s₂.heap.objs.size + 1) env) s' [(x, p)] [(s₂.heap.objs.size, r)] →
      (∀ c o, ¬ At (compEnvC scope (nc.map (fun q => (q.1, s₂.heap.objs.size + 1 + q.2)) ++ cl) (s₂.heap.objs.size + 1) env) x c → c ∉ wr → c ≠ s₂.heap.objs.size → h₁.get? c = some o → s'.heap.get? c = some o) →
      In S s₁ (s₂.heap.objs.size :: (wr ++ S)) (compEnvC scope (nc.map (fun q => (q.1, s₂.heap.objs.size + 1 + q.2)) ++ cl) (s₂.heap.objs.size + 1) env) s' x p := fun {p s' r} b kx => by
    have hkp : ∀ c o, s₁.heap.get? c = some o → s'.heap.get? c = some o := fun c o e => by
      have h1 := lt1 e
      exact kx c o (fun q => by have := hatn c q; exact absurd h1 (Nat.not_lt.mpr (Nat.le_of_succ_le this))) (fun q => by rw [hwr c q] at e; cases e) (Nat.ne_of_lt h1) (hk₂ _ _ (k12.get _ _ e))
    refine ⟨⟨?_, fun c vs n e => hid_some.mpr ⟨fun m => ?_, hkp _ _ (hid_some.mp e).2⟩⟩, b.names x p (by rw [List.lookup_cons, beq_self_eq_true])⟩
    · obtain ⟨h2, t2, e2, _⟩ := k12
      obtain ⟨h3, t3, e3⟩ := b.same
      exact ⟨h3, t3, by rw [e3, e2], fun c o e => by have := hkp c o e; rw [e3] at this; exact this⟩
    · have e2 := (hid_some.mp e).2
      rcases List.mem_cons.mp m with rfl | m
      · exact Nat.lt_irrefl _ (lt1 e2)
      · rcases List.mem_append.mp m with m | m
        · rw [hwr c m] at e2; cases e2
        · exact (hid_some.mp e).1 m
  have loop : codeAny (model prog w) A (.compLoop (.ListComp elt [⟨.Name x px, iter, ifs, 0⟩] scope pos) 0 (.ref I) (.ref s₂.heap.objs.size) (compEnvC scope (nc.map (fun q => (q.1, s₂.heap.objs.size + 1 + q.2)) ++ cl) (s₂.heap.objs.size + 1) env))
      (RR (.ref s₂.heap.objs.size) (s₂.heap.objs.size + 1)) { s₂ with heap := h₁, toks := tk } := by
    refine comp_loop (bs := bs) (f := f) rfl fr W hx1 hB (fun c m => ?_) (fun c m h => ?_) (fun m => ?_) (fun c m q => ?_) hz (W.frame _ _ _ hst fun b _ o e => hk₂ b o e) hex (fun j v hj => ?_) (fun i p hp s' r b kx => htests i p hp _ _ s' (hin b kx)) (fun i p hp hb s' r b kx E => helt i p hp hb _ _ s' (hin b kx) b.hidden E) fun s' b kx hg => ?_
    · unfold hid; rw [if_pos (List.mem_append_left _ m)]
    · obtain ⟨_, o, e, _, hnc'⟩ := hfp c m
      rcases hown c h with h | ⟨y, my⟩
      · exact absurd (Heap.lt_size e) (Nat.not_lt.mpr (Nat.le_of_succ_le h))
      · obtain ⟨ov, o', e', r⟩ := hcl y c my
        rw [k12.get _ _ e'] at e; cases e
        exact hnc' ov r
    · obtain ⟨_, o, e, _⟩ := hfp _ m
      exact Nat.lt_irrefl _ (Heap.lt_size e)
    · exact (hfp c (W.sub c q)).1 m
    · obtain ⟨p, hp, hi⟩ := hJ j v hj
      refine ⟨p, hp, fun s' hk => hi.ext fun c vs n e => ?_⟩
      have e2 := (hid_some.mp e).2
      have e1 := (hid_some.mp e).1
      refine hid_some.mpr ⟨fun m => ?_, hk c _ (hid_some.mpr ⟨fun m => ?_, e2⟩)⟩
      · rcases List.mem_cons.mp m with rfl | m
        · exact Nat.lt_irrefl _ (Heap.lt_size e2)
        · exact e1 m
      · rcases List.mem_append.mp m with m | m
        · exact e1 (List.mem_append_left _ m)
        · obtain ⟨⟨y, c'⟩, my, rfl⟩ := List.mem_map.mp m
          obtain ⟨ov, o, eo, r⟩ := hcl y c' my
          rw [k12.get _ _ eo] at e2; cases e2; cases r
    · have hkp : ∀ c o, s₁.heap.get? c = some o → s'.heap.get? c = some o := fun c o e => by
        have h1 := lt1 e
        exact kx c o (fun q => by have := hatn c q; exact absurd h1 (Nat.not_lt.mpr (Nat.le_of_succ_le this))) (fun q => by rw [hwr c q] at e; cases e) (Nat.ne_of_lt h1) (hk₂ _ _ (k12.get _ _ e))
      have none1 : ∀ {c}, s₂.heap.objs.size ≤ c → s₁.heap.get? c = none := fun {c} hc => by
        cases q : s₁.heap.get? c with
        | none => rfl
        | some o => exact absurd (lt1 q) (Nat.not_lt.mpr hc)
      obtain ⟨_, _, n, vs, hl, hi⟩ := b.muts (s₂.heap.objs.size, compRes bs f items.length) (by simp)
      refine hRR _ _ s' (none1 (Nat.le_refl _)) (none1 (Nat.le_succ _)) (Nat.ne_of_lt (Nat.lt_succ_self _)) hDS (fun m => ?_) ?_ b.frame.1 (Is.list (hid_some.mpr ⟨hDS, hl⟩) (hi.ext (.of (hid_le fun c m => List.mem_cons_of_mem _ m)))) fun hf => ?_
      · obtain ⟨o, e⟩ := hS _ m
        exact absurd (Heap.lt_size e) (Nat.not_lt.mpr (Nat.le_succ _))
      · obtain ⟨h2, t2, e2, _⟩ := k12
        obtain ⟨h3, t3, e3⟩ := b.same
        exact ⟨h3, t3, by rw [e3, e2], fun c o e => by have := hkp c o e; rw [e3] at this; exact this⟩
      · obtain ⟨n, as, h1, h2, h3⟩ := hg hf
        have h4 : ∀ a ∈ as, h₁.get? a = none := h3
        refine ⟨n, as, h1, h2, fun a ma => ⟨?_, fun q => ?_, fun q => ?_⟩⟩
        · cases q : s₁.heap.get? a with
          | none => rfl
          | some o => have := h4 a ma; rw [hk₂ _ _ (k12.get _ _ q)] at this; cases this
        · have := h4 a ma; rw [q, hDl] at this; cases this
        · obtain ⟨m, o, _, _, ho, _⟩ := hns
          have := h4 a ma; rw [q, ho] at this; cases this
  exact codeAny_compStart_list loop (W.self 0 _ _ _ (W.frame _ _ _ hst fun b _ o e => hk₂ b o e) loop)
end
end Mine

namespace Mine
open PySem PySem.Calls PyProof.Rows Builtin.Str
/-- the environment of a comprehension -/
abbrev CE (scope : Scope) (nc : List (Str × Nat)) (cl : List (Str × Addr)) (env : Env) (C : Addr) : Env := compEnvC scope (nc.map (fun q => (q.1, C + q.2)) ++ cl) C env
structure CompOk (prog : Program) (w : World) (A : Around) (env : Env) (s : Shared) (scope : Scope) (x : Str) (nc : List (Str × Nat)) (cl : List (Str × Addr)) : Prop where
  clos : closureFor scope env = pure cl
  kind : scope.kind = .function
  names : ∀ y ∈ scope.names, y.2 = .local → scope.names.lookup y.1 = some .local
  makes : Makes prog w A scope cl nc env
  store : ∀ C, Stores (CE scope nc cl env C) x ∧ ∀ c, At (CE scope nc cl env C) x c → c = C ∨ ∃ q ∈ nc, c = C + q.2
  inj : ∀ C, (∀ y c, cl.lookup y = some c → c < C) → Inj (CE scope nc cl env C)
  cells : ∀ y c, (y, c) ∈ cl → ∃ ov, s.heap.IsCell c ov
section
variable {prog : Program} {w : World} {A : Around} {S : List Addr} {env : Env} {s : Shared}
theorem CompOk.mono {s' : Shared} {scope : Scope} {x : Str} {nc : List (Str × Nat)} {cl : List (Str × Addr)} (c : CompOk prog w A env s scope x nc cl) (k : ∀ b o, s.heap.get? b = some o → s'.heap.get? b = some o) : CompOk prog w A env s' scope x nc cl :=
  { c with cells := fun y a m => let ⟨ov, h⟩ := c.cells y a m; ⟨ov, h.keeps k⟩ }
/-- no cells of its own -/
theorem CompOk.plain {scope : Scope} {x : Str} {cl : List (Str × Addr)} (F : FrameOk env s.heap) (hi : Inj env) (hclos : closureFor scope env = pure cl) (hsub : ∀ q ∈ cl, env.cells.lookup q.1 = some q.2)
    (hx : scope.names.lookup x = some .local) (hkind : scope.kind = .function := by rfl) (hcell : ∀ y ∈ scope.names, y.2 ≠ .cell := by decide)
    (hnames : ∀ y ∈ scope.names, y.2 = .local → scope.names.lookup y.1 = some .local := by decide) : CompOk prog w A env s scope x [] cl where
  clos := hclos
  kind := hkind
  names := hnames
  makes := Makes.plain hcell hkind
  store := fun C => ⟨.inl (lookup_relabel_local hx), fun c h => by
    rcases h with ⟨_, e⟩ | ⟨e, _⟩
    · exact .inl e
    · rw [show (CE scope [] cl env C).kindOf x = some .local from lookup_relabel_local hx] at e; cases e⟩
  inj := fun C _ y z c e1 e2 => hi y z c (hsub (y, c) (mem_of_look e1)) (hsub (z, c) (mem_of_look e2))
  cells := fun y c m => F.2 y c (hsub (y, c) m)
theorem PE.comp {elt iter : Expr} {ifs : List Expr} {scope : Scope} {pos px : Pos} {x : Str} {items : List P} {cl : List (Str × Addr)} {nc : List (Str × Nat)} (bs : Nat → Bool) (f : Nat → P)
    (hc : CompOk prog w A env s scope x nc cl) (hI : PI prog w A S env s iter items) (hz : items.length ≤ 1000000)
    (htests : ∀ i p, items[i]? = some p → ∀ S' C s', In S s S' (CE scope nc cl env C) s' x p → PTs prog w A S' (CE scope nc cl env C) s' ifs (bs i))
    (helt : ∀ i p, items[i]? = some p → bs i = true → ∀ S' C s', In S s S' (CE scope nc cl env C) s' x p → PE prog w A S' (CE scope nc cl env C) s' elt (f i))
    (hs : ∀ x, foldedSetIterable iter env x = pure x := by intro _; rfl) :
    PE prog w A S env s (.ListComp elt [⟨.Name x px, iter, ifs, 0⟩] scope pos) (.list (compRes bs f items.length)) := ⟨fun s₁ k hS E => by
  have up : ∀ {S' ce s' p}, In S s₁ S' ce s' x p → In S s S' ce s' x p := fun h => ⟨(Kp.fwd k).trans h.fwd, h.name⟩
  rw [eval_ListComp]
  refine wpAny_comprehension_free (use := none) rfl hs hc.clos hc.kind hc.names (wpAny_mono (hI.go s₁ k hS E) (fun xv s₂' h => wpAny_mono h (fun it s₂ ⟨k12, src⟩ => ?_) fun _ _ e => e) fun _ _ e => e)
  refine comp_block (RR := fun acc C => compPost (model prog w) A E none (fun v s' => Is (hid S s'.heap) (.list (compRes bs f items.length)) v ∧ Kp s₁ s') acc C) (bs := bs) (f := f) false k12 src (hS.mono k12) hc.makes hc.kind hc.store hc.inj
    (hc.mono k.get).cells hz (fun i p hp S' C s' h => htests i p hp S' C s' (up h)) (fun i p hp hb S' C s' h hS' E => ?_) fun D C s' hD hC hDC hDS hCS k' hn hi _ => ?_
  · exact wpAny_mono ((helt i p hp hb S' C s' (up h)).go s' (Kp.refl _) hS' E) (fun v s₂ ⟨h1, h2⟩ => ⟨h1, h2, fun e => nomatch e⟩) fun _ _ e => e
  · obtain ⟨m, hm⟩ := hn
    refine ⟨m, hm, fun h' hs' => ⟨hi.ext fun c vs n e => ?_, ?_⟩⟩
    · exact hid_some.mpr ⟨(hid_some.mp e).1, (hs'.2 c fun q => ns_not_list hm (q ▸ (hid_some.mp e).2)).trans (hid_some.mp e).2⟩
    · obtain ⟨h2, t2, e2, k2⟩ := k'
      subst e2
      exact ⟨h', t2, rfl, fun c o e => (hs'.2 c fun q => by rw [q, hC] at e; cases e).trans (k2 c o e)⟩⟩
/-! ## names seen from within -/
theorem NV.inner {S' : List Addr} {s' : Shared} {scope : Scope} {nc : List (Str × Nat)} {cl : List (Str × Addr)} {C : Addr} {y : Str} {q : P} (n : NV S env s y q) (f : Fwd S s S' s') (hk' : env.kindOf y = some .cell ∨ env.kindOf y = some .free)
    (hk : (CE scope nc cl env C).kindOf y = some .cell ∨ (CE scope nc cl env C).kindOf y = some .free) (hl : (CE scope nc cl env C).cells.lookup y = env.cells.lookup y) : NV S' (CE scope nc cl env C) s' y q := by
  obtain ⟨v, l, i⟩ := n.fwd f
  refine ⟨v, ?_, i⟩
  rcases l with ⟨a, _⟩ | ⟨_, c, b, e⟩
  · rcases hk' with h | h <;> rw [h] at a <;> cases a
  · exact .inr ⟨hk, c, hl.trans b, e⟩
end
/-! ## the world -/
structure Wd (K : W.Frag) (mg mb : Str → Option Value) (h : Heap) : Prop where
  kin : K.In h
  g : h.Ns mainGlobals mg
  b : h.Ns builtinsNs mb
  mbe : ∀ x : Str, x ≠ "__name__" → mb x = bootBuiltins x
  nolimit : h.NoLimit
theorem Wd.keeps {K : W.Frag} {mg mb : Str → Option Value} {h h' : Heap} (x : Wd K mg mb h) (k : ∀ b o, h.get? b = some o → h'.get? b = some o) : Wd K mg mb h' :=
  ⟨fun a o e => k a o (x.kin a o e), x.g.keeps k, x.b.keeps k, x.mbe, x.nolimit.keeps k⟩
section
variable {prog : Program} {w : World} {A : Around} {S : List Addr} {env : Env} {s : Shared} {K : W.Frag} {mg mb : Str → Option Value}
theorem PE.global {x : Str} {pos : Pos} {v : Value} (hW : Wd K mg mb s.heap) (e : PySem.W.nsIn K mainGlobals x = some (some v)) (hk : env.scope.kind = .function := by rfl) (hg : env.globals = mainGlobals := by rfl)
    (hx : env.kindOf x = some .globalImplicit := by rfl) (hd : (x == ("__debug__" : Str)) = false := by rfl) : PE prog w A S env s (.Name x pos) (.val v) := ⟨fun s₁ k hS E =>
  Name_function_global hk hx (loadGlobal_global (hg ▸ (hW.keeps k.get).g) (PySem.W.mg_of hW.kin hW.g e) ⟨Is.val, Kp.refl _⟩) hd⟩
theorem PE.builtin {x : Str} {pos : Pos} {v : Value} (hW : Wd K mg mb s.heap) (e : PySem.W.nsIn K mainGlobals x = some none) (hv : bootBuiltins x = some v) (hn : x ≠ "__name__") (hk : env.scope.kind = .function := by rfl) (hg : env.globals = mainGlobals := by rfl) (hb : env.builtins = builtinsNs := by rfl)
    (hx : env.kindOf x = some .globalImplicit := by rfl) (hd : (x == ("__debug__" : Str)) = false := by rfl) : PE prog w A S env s (.Name x pos) (.val v) := ⟨fun s₁ k hS E =>
  Name_function_global hk hx (loadGlobal_builtin (hg ▸ (hW.keeps k.get).g) (PySem.W.mg_none_of hW.kin hW.g e) (hb ▸ (hW.keeps k.get).b) ((hW.mbe x hn).trans hv) ⟨Is.val, Kp.refl _⟩) hd⟩
end
end Mine

namespace Mine
open PySem PySem.Calls PyProof.Rows Builtin.Str
section
variable {prog : Program} {w : World} {A : Around} {s₀ : Shared} {G : Gt} {S : List Addr} {env : Env} {s : Shared} {ρ : List (Str × P)} {μ : List (Addr × List P)}
theorem B.less {G' : Gt} {S' : List Addr} (b : B s₀ G' S' env s ρ μ) (hG : ∀ c o, G c = some o → G' c = some o) (hS : ∀ c ∈ S, c ∈ S') (hμ : ∀ q ∈ μ, q.1 ∈ S) : B s₀ G S env s ρ μ := by
  have ex : LExt (hid S' s.heap) (hid S s.heap) := .of (hid_le hS)
  refine ⟨b.same, fun c o e => b.keep c o (hG c o e), b.kind, b.frame, b.inj, fun c h => ?_, fun c m => b.hidden c (hS c m), fun x p e => ?_, fun q m => ?_, b.nd⟩
  · cases q : G c with
    | none => rfl
    | some o => have := hG c o q; rw [b.fresh c h] at this; cases this
  · obtain ⟨v, l, i⟩ := b.names x p e; exact ⟨v, l, i.ext ex⟩
  · obtain ⟨h1, h2, n, vs, h3, h4⟩ := b.muts q m
    refine ⟨hμ q m, ?_, n, vs, h3, h4.ext ex⟩
    cases z : G q.1 with
    | none => rfl
    | some o => have := hG _ o z; rw [h2] at this; cases this
/-- fewer lists are watched -/
theorem B.forget (b : B s₀ G S env s ρ μ) (μ' : List (Addr × List P)) (h : ∀ q ∈ μ', q ∈ μ) (hn : (μ'.map (·.1)).Nodup) : B s₀ G S env s ρ μ' := { b with muts := fun q m => b.muts q (h q m), nd := hn }
/-- an expression whose value is a new list -/
structure PF (prog : Program) (w : World) (A : Around) (S : List Addr) (env : Env) (s : Shared) (e : Expr) (ps : List P) : Prop where
  go : ∀ s₁, Kp s s₁ → Hid S s₁ → ∀ E, wpAny (model prog w) A (eval e env) (fun v s' => ∃ a, v = .ref a ∧ s₁.heap.get? a = none ∧ Is (hid S s'.heap) (.list ps) (.ref a) ∧ Kp s₁ s') E s₁
theorem PF.display {es : List Expr} {ps : List P} {pos : Pos} (h : PEs prog w A S env s es ps) (hz : ps.length ≤ 16777216) : PF prog w A S env s (.List es pos) ps :=
  ⟨fun s₁ k hS E => wpAny_List_spliced (wpAny_mono (h.go s₁ E pos k hS) (fun vs s₂ ⟨hv, k2⟩ =>
    ⟨by rw [hv.length, sizeLine_eq]; exact hz, _, rfl, by
      cases q : s₁.heap.get? s₂.heap.objs.size with
      | none => rfl
      | some o => exact absurd (Heap.lt_size (k2.get _ _ q)) (Nat.lt_irrefl _), (hS.mono k2).newList hv, k2.trans (Kp.push _ _)⟩) fun _ _ e => e)⟩
theorem PF.listRange {d : Nat} (hA : Ok d A) {x : Str} {pn pos : Pos} {e : Expr} {a b : Int} (hf : PE prog w A S env s (.Name x pn) (.val (.type "list"))) (hr : PR prog w A S env s e a b)
    (ha : -(2 ^ 20) ≤ a) (ha' : a < 2 ^ 20) (hb : -(2 ^ 20) ≤ b) (hb' : b < 2 ^ 20)
    (he : starEach [e] env = [(false, eval e env)] := by intros; rfl) : PF prog w A S env s (.Call (.Name x pn) [e] [] pos) (upto a b) := ⟨fun s₁ k hS E => by
  refine Call_Name rfl (wpAny_mono (hf.go s₁ k hS E) (fun f s₂ ⟨hfv, k2⟩ => ?_) fun _ _ e => e)
  cases hfv.ofVal
  refine PyProof.Rows.callWith_type1 ?_ he rfl
  rw [he]
  refine spliced_cons (wpAny_mono (hr.go s₂ (k.trans k2) (hS.mono k2) E) (fun v s₃ ⟨hv, k3⟩ => spliced_nil ?_) fun _ _ e => e)
  obtain ⟨r, t, u, z, rfl, hr⟩ := hv
  refine call_list_range hA.1 hr (small_one (by omega) (by omega) (by omega) (by omega)) rangeSize_nat (by omega) fun h' tk acc c hk hD hacc => ?_
  have k4 : Kp s₃ { s₃ with heap := h', toks := tk } := ⟨_, _, rfl, hk⟩
  refine ⟨_, rfl, ?_, Is.list (vs := acc.toList) (n := c) (hid_some.mpr ⟨((hS.mono (k2.trans k3))).notin, by simpa using hD⟩) (ints_of_items hacc), (k2.trans k3).trans k4⟩
  cases q : s₁.heap.get? s₃.heap.objs.size with
  | none => rfl
  | some o => exact absurd (Heap.lt_size ((k2.trans k3).get _ _ q)) (Nat.lt_irrefl _)⟩
def P.flat : P → Bool
  | .list _ => false
  | _ => true
theorem Is.flat {g g' : Gt} {p : P} {v : Value} (i : Is g p v) (h : p.flat = true) : Is g' p v := by
  cases p with
  | list _ => cases h
  | _ => simp only [Is] at i ⊢; exact i
theorem Iss.flat {g g' : Gt} : ∀ {ps : List P} {vs : List Value}, Iss g ps vs → (∀ p ∈ ps, p.flat = true) → Iss g' ps vs
  | [], _, x, _ => by simp only [Iss] at x ⊢; exact x
  | _ :: _, _, x, h => by
    simp only [Iss] at x
    obtain ⟨v, r, rfl, hv, hr⟩ := x
    exact Iss.cons (hv.flat (h _ (.head _))) (hr.flat fun p m => h p (.tail _ m))
/-- a list of an address that was none is hidden from here on -/
theorem B.hide {s' : Shared} {a : Addr} {ps : List P} (b : B s₀ G S env s ρ μ) (k : Kp s s') (hn : s.heap.get? a = none) (hi : Is (hid S s'.heap) (.list ps) (.ref a)) (hf : ∀ p ∈ ps, p.flat = true) : B s₀ G (a :: S) env s' ρ ((a, ps) :: μ) := by
  obtain ⟨a', n, vs, e, la, ia⟩ := hi.ofList
  cases e
  have ex : LExt (hid S s.heap) (hid (a :: S) s'.heap) := .of fun c o e => hid_some.mpr ⟨fun m => by
    rcases List.mem_cons.mp m with rfl | m
    · have := (hid_some.mp e).2; rw [hn] at this; cases this
    · exact (hid_some.mp e).1 m, k.get c o (hid_some.mp e).2⟩
  have b' := b.kp k
  refine ⟨b'.same, b'.keep, b'.kind, b'.frame, b'.inj, b'.fresh, fun c m => ?_, fun x p e => ?_, fun q m => ?_, ?_⟩
  · rcases List.mem_cons.mp m with rfl | m
    · exact ⟨_, (hid_some.mp la).2⟩
    · exact b'.hidden c m
  · exact (b.names x p e).fwd ⟨k, ex⟩
  · rcases List.mem_cons.mp m with rfl | m
    · refine ⟨.head _, ?_, n, vs, (hid_some.mp la).2, ia.flat hf⟩
      cases q : G a with
      | none => rfl
      | some o => have := b.keep _ _ q; rw [hn] at this; cases this
    · obtain ⟨h1, h2, n', vs', h3, h4⟩ := b.muts q m
      exact ⟨.tail _ h1, h2, n', vs', k.get _ _ h3, h4.ext ex⟩
  · rw [List.map_cons, List.nodup_cons]
    refine ⟨fun m => ?_, b.nd⟩
    obtain ⟨q, hq, e⟩ := List.mem_map.mp m
    obtain ⟨_, _, n', vs', h3, _⟩ := b.muts q hq
    have h4 : s.heap.get? q.1 = some _ := h3
    rw [show q.1 = a from e, hn] at h4; cases h4
theorem B.assignHide {x : Str} {pos' pos : Pos} {value : Expr} {rest : List Stmt} {ps : List P} {Q : Flow → Shared → Prop} {E : Value → Shared → Prop} (b : B s₀ G S env s ρ μ) (he : PF prog w A S env s value ps) (hf : ∀ p ∈ ps, p.flat = true)
    (k : ∀ a s', B s₀ G (a :: S) env s' ((x, .val (.ref a)) :: ρ) ((a, ps) :: μ) → wpAny (model prog w) A (execs rest env) Q E s') (hx : Stores env x := by first | exact .inl rfl | exact .inr ⟨rfl, _, rfl⟩) (hs : swapsWith value (some (.Name x pos')) pos.line env = pure false := by rfl) :
    wpAny (model prog w) A (execs (.Assign [.Name x pos'] value pos :: rest) env) Q E s :=
  wpAny_execs_cons (wpAny_Assign_Name (wpAny_mono (he.go s (Kp.refl _) b.hidden E) (fun v s₁ ⟨a, hv, hn, hi, k1⟩ => by
    subst hv
    exact (b.hide k1 hn hi hf).store hx Is.val fun s' b' => k a s' b') fun _ _ e => e) hs)
/-- the end: a hidden list comes to light -/
theorem B.light {a : Addr} {ps : List P} {S₁ : List Addr} (b : B s₀ G S env s ρ μ) (hm : (a, ps) ∈ μ) (hS : ∀ c ∈ S₁, c ∈ S) (ha : a ∉ S₁) : Is (hid S₁ s.heap) (.list ps) (.ref a) := by
  obtain ⟨_, _, n, vs, hl, hi⟩ := b.muts (a, ps) hm
  exact Is.list (hid_some.mpr ⟨ha, hl⟩) (hi.ext (.of (hid_le hS)))
theorem B.exit (b : B s₀ s₀.heap.get? S env s ρ μ) : Kp s₀ s := by
  obtain ⟨h, tk, e⟩ := b.same
  exact ⟨h, tk, e, fun c o q => by have := b.keep c o q; rw [e] at this; exact this⟩
/-! ## a comprehension kept under a name -/
theorem B.compEnd {y : Str} {py : Pos} {D C : Addr} {s' : Shared} {E : Value → Shared → Prop} {Q : Flow → Shared → Prop} (b : B s₀ G S env s ρ μ) (hy : Stores env y)
    (hC : s.heap.get? C = none) (hCS : C ∉ S) (k' : Kp s s') (hn : ∃ m, s'.heap.Ns C m)
    {S' : List Addr} {p : P} {ρ' : List (Str × P)} {μ' : List (Addr × List P)} (b' : B s₀ G S' env s' ρ' μ') (hCS' : C ∉ S') (hi : Is (hid S' s'.heap) p (.ref D))
    (k : ∀ s'', B s₀ G S' env s'' ((y, p) :: ρ') μ' → Q .next s'') :
    compPost (model prog w) A E (some (PySem.assign (.Name y py) env)) (fun _ s' => Q .next s') (.ref D) C (.ok .next) s' := by
  obtain ⟨m, hm⟩ := hn
  have hno : ¬ Own env C := fun h => by
    rcases h with rfl | ⟨z, e⟩
    · obtain ⟨⟨m, o, _, _, ho, _⟩, _⟩ := b.frame; rw [hC] at ho; cases ho
    · obtain ⟨ov, o, ho, _⟩ := b.frame.2 z C e; rw [hC] at ho; cases ho
  show wpAny _ A (PySem.assign (.Name y py) env (.ref D)) _ _ _
  refine wpAny_assign_Name (Mine.store b'.kind hy b'.frame b'.inj fun h₂ tk₂ a1 a2 a3 a4 a5 a6 => ?_)
  have b2 := b'.stored (x := y) (p := p) (tk := tk₂) hi a1 a2 a3 a4 a5 a6
  have hm2 : h₂.Ns C m := by
    obtain ⟨o, es, ep, ho, r⟩ := hm
    exact ⟨o, es, ep, a4 C o (fun q => hno q.own) ho, r⟩
  refine ⟨m, hm2, fun h₃ hs₃ => k _ (b2.other (fun c hc => hs₃.2 c hc) ?_ hno hCS' fun vs n => ns_not_list hm2)⟩
  cases q : G C with
  | none => rfl
  | some o => have := b.keep C o q; rw [hC] at this; cases this
theorem B.assignComp {elt iter : Expr} {ifs : List Expr} {scope : Scope} {pos spos px py : Pos} {x y : Str} {items : List P} {cl : List (Str × Addr)} {nc : List (Str × Nat)} {rest : List Stmt} {Q : Flow → Shared → Prop} {E : Value → Shared → Prop} (bs : Nat → Bool) (f : Nat → P)
    (b : B s₀ G S env s ρ μ) (hc : CompOk prog w A env s scope x nc cl) (hI : PI prog w A S env s iter items) (hz : items.length ≤ 1000000)
    (htests : ∀ i p, items[i]? = some p → ∀ S' C s', In S s S' (CE scope nc cl env C) s' x p → PTs prog w A S' (CE scope nc cl env C) s' ifs (bs i))
    (helt : ∀ i p, items[i]? = some p → bs i = true → ∀ S' C s', In S s S' (CE scope nc cl env C) s' x p → PE prog w A S' (CE scope nc cl env C) s' elt (f i))
    (k : ∀ s', B s₀ G S env s' ((y, .list (compRes bs f items.length)) :: ρ) μ → wpAny (model prog w) A (execs rest env) Q E s')
    (hy : Stores env y := by first | exact .inl rfl | exact .inr ⟨rfl, _, rfl⟩) (hsw : swapsWith (.ListComp elt [⟨.Name x px, iter, ifs, 0⟩] scope pos) (some (.Name y py)) spos.line env = pure true := by rfl) (hs : ∀ x, foldedSetIterable iter env x = pure x := by intro _; rfl) :
    wpAny (model prog w) A (execs (.Assign [.Name y py] (.ListComp elt [⟨.Name x px, iter, ifs, 0⟩] scope pos) spos :: rest) env) Q E s := by
  refine wpAny_execs_cons ?_
  rw [exec_Assign_Name_used _ _ _ _ hsw]
  refine wpAny_bind (wpAny_standAt (wpAny_bind ?_))
  show wpAny _ A (do let _ ← comprehension (.ListComp elt [⟨.Name x px, iter, ifs, 0⟩] scope pos) scope env _ (newList []) false (eval iter env) (some (PySem.assign (.Name y py) env))) _ _ s
  have hS := b.hidden
  refine wpAny_bind (wpAny_mono (wpAny_comprehension_free (use := some (PySem.assign (.Name y py) env)) (Q := fun _ s' => wpAny (model prog w) A (execs rest env) Q E s') rfl hs hc.clos hc.kind hc.names
    (wpAny_mono (hI.go s (Kp.refl _) hS E) (fun xv s₂' h => wpAny_mono h (fun it s₂ ⟨k12, src⟩ => ?_) fun _ _ e => e) fun _ _ e => e)) (fun _ s' hq => wpAny_pure (wpAny_pure hq)) fun _ _ e => e)
  refine comp_block (RR := fun acc C => compPost (model prog w) A E (some (PySem.assign (.Name y py) env)) (fun _ s' => wpAny (model prog w) A (execs rest env) Q E s') acc C) (bs := bs) (f := f) false k12 src (hS.mono k12) hc.makes hc.kind hc.store hc.inj
    hc.cells hz (fun i p hp S' C s' h => htests i p hp S' C s' h) (fun i p hp hb S' C s' h hS' E => ?_) fun D C s' hD hC hDC hDS hCS k' hn hi _ => ?_
  · exact wpAny_mono ((helt i p hp hb S' C s' h).go s' (Kp.refl _) hS' E) (fun v s₂ ⟨h1, h2⟩ => ⟨h1, h2, fun e => nomatch e⟩) fun _ _ e => e
  · exact b.compEnd (Q := fun _ s' => wpAny (model prog w) A (execs rest env) Q E s') hy hC hCS k' hn (b.kp k') hCS hi k
/-- several new lists are hidden -/
theorem B.hideMany {s' : Shared} (b : B s₀ G S env s ρ μ) (k : Kp s s') (L : List (Addr × List P)) (h : ∀ q ∈ L, s.heap.get? q.1 = none ∧ Is (hid S s'.heap) (.list q.2) (.ref q.1) ∧ ∀ p ∈ q.2, p.flat = true) (hnd : (L.map (·.1)).Nodup) :
    B s₀ G (L.map (·.1) ++ S) env s' ρ (L ++ μ) := by
  have ex : LExt (hid S s.heap) (hid (L.map (·.1) ++ S) s'.heap) := .of fun c o e => hid_some.mpr ⟨fun m => by
    rcases List.mem_append.mp m with m | m
    · obtain ⟨q, hq, e1⟩ := List.mem_map.mp m
      have h4 := (h q hq).1
      have := (hid_some.mp e).2
      rw [show q.1 = c from e1] at h4
      rw [h4] at this; cases this
    · exact (hid_some.mp e).1 m, k.get c o (hid_some.mp e).2⟩
  have b' := b.kp k
  refine ⟨b'.same, b'.keep, b'.kind, b'.frame, b'.inj, b'.fresh, fun c m => ?_, fun x p e => ?_, fun q m => ?_, ?_⟩
  · rcases List.mem_append.mp m with m | m
    · obtain ⟨q, hq, e1⟩ := List.mem_map.mp m
      obtain ⟨a', n, vs, e, la, ia⟩ := (h q hq).2.1.ofList
      cases e
      exact ⟨_, (show q.1 = c from e1) ▸ (hid_some.mp la).2⟩
    · exact b'.hidden c m
  · exact (b.names x p e).fwd ⟨k, ex⟩
  · rcases List.mem_append.mp m with m | m
    · obtain ⟨h1, h2, h3⟩ := h q m
      obtain ⟨a', n, vs, e, la, ia⟩ := h2.ofList
      cases e
      refine ⟨List.mem_append_left _ (List.mem_map_of_mem (f := (·.1)) m), ?_, n, vs, (hid_some.mp la).2, ia.flat h3⟩
      cases z : G q.1 with
      | none => rfl
      | some o => have := b.keep _ _ z; rw [h1] at this; cases this
    · obtain ⟨h1, h2, n', vs', h3, h4⟩ := b.muts q m
      exact ⟨List.mem_append_right _ h1, h2, n', vs', k.get _ _ h3, h4.ext ex⟩
  · rw [List.map_append, List.nodup_append]
    refine ⟨hnd, b.nd, fun c m d m' e => ?_⟩
    subst e
    obtain ⟨q, hq, e1⟩ := List.mem_map.mp m
    obtain ⟨q', hq', e2⟩ := List.mem_map.mp m'
    obtain ⟨_, _, n', vs', h3, _⟩ := b.muts q' hq'
    have h4 : s.heap.get? q'.1 = some _ := h3
    have h5 := (h q hq).1
    rw [show q.1 = c from e1] at h5
    rw [show q'.1 = c from e2, h5] at h4; cases h4
theorem Iss.refs {g : Gt} : ∀ {rows : List (List P)} {as : List Addr}, Iss g (rows.map .list) (as.map Value.ref) → as.length = rows.length ∧ ∀ q ∈ as.zip rows, Is g (.list q.2) (.ref q.1)
  | [], as, h => by
    simp only [List.map_nil, Iss] at h
    have : as = [] := List.map_eq_nil_iff.mp h
    subst this; exact ⟨rfl, fun q m => nomatch m⟩
  | r :: rows, [], h => by simp only [List.map_cons, List.map_nil, Iss] at h; obtain ⟨_, _, e, _⟩ := h; cases e
  | r :: rows, a :: as, h => by
    simp only [List.map_cons] at h
    obtain ⟨h1, h2⟩ := Iss.refs h.tail
    refine ⟨by simp [h1], fun q m => ?_⟩
    rcases List.mem_cons.mp m with rfl | m
    · exact h.head
    · exact h2 q m
theorem Iss.vals {g : Gt} : ∀ {as : List Addr}, Iss g (as.map fun a => P.val (.ref a)) (as.map Value.ref)
  | [] => Iss.nil
  | _ :: _ => Iss.cons Is.val Iss.vals
/-- a table of new rows, kept under a name: the rows are hidden -/
theorem B.assignRows {elt iter : Expr} {scope : Scope} {pos spos px py : Pos} {x y : Str} {items : List P} {cl : List (Str × Addr)} {nc : List (Str × Nat)} {rest : List Stmt} {Q : Flow → Shared → Prop} {E : Value → Shared → Prop} (f : Nat → List P)
    (b : B s₀ G S env s ρ μ) (hc : CompOk prog w A env s scope x nc cl) (hI : PI prog w A S env s iter items) (hz : items.length ≤ 1000000) (hf : ∀ i, ∀ p ∈ f i, p.flat = true)
    (helt : ∀ i p, items[i]? = some p → ∀ S' C s', In S s S' (CE scope nc cl env C) s' x p → PF prog w A S' (CE scope nc cl env C) s' elt (f i))
    (k : ∀ as : List Addr, as.length = items.length → ∀ s', B s₀ G (as ++ S) env s' ((y, .list (as.map fun a => .val (.ref a))) :: ρ) (as.zip ((List.range items.length).map f) ++ μ) → wpAny (model prog w) A (execs rest env) Q E s')
    (hy : Stores env y := by first | exact .inl rfl | exact .inr ⟨rfl, _, rfl⟩) (hsw : swapsWith (.ListComp elt [⟨.Name x px, iter, [], 0⟩] scope pos) (some (.Name y py)) spos.line env = pure true := by rfl) (hs : ∀ x, foldedSetIterable iter env x = pure x := by intro _; rfl) :
    wpAny (model prog w) A (execs (.Assign [.Name y py] (.ListComp elt [⟨.Name x px, iter, [], 0⟩] scope pos) spos :: rest) env) Q E s := by
  refine wpAny_execs_cons ?_
  rw [exec_Assign_Name_used _ _ _ _ hsw]
  refine wpAny_bind (wpAny_standAt (wpAny_bind ?_))
  show wpAny _ A (do let _ ← comprehension (.ListComp elt [⟨.Name x px, iter, [], 0⟩] scope pos) scope env _ (newList []) false (eval iter env) (some (PySem.assign (.Name y py) env))) _ _ s
  have hS := b.hidden
  refine wpAny_bind (wpAny_mono (wpAny_comprehension_free (use := some (PySem.assign (.Name y py) env)) (Q := fun _ s' => wpAny (model prog w) A (execs rest env) Q E s') rfl hs hc.clos hc.kind hc.names
    (wpAny_mono (hI.go s (Kp.refl _) hS E) (fun xv s₂' h => wpAny_mono h (fun it s₂ ⟨k12, src⟩ => ?_) fun _ _ e => e) fun _ _ e => e)) (fun _ s' hq => wpAny_pure (wpAny_pure hq)) fun _ _ e => e)
  refine comp_block (RR := fun acc C => compPost (model prog w) A E (some (PySem.assign (.Name y py) env)) (fun _ s' => wpAny (model prog w) A (execs rest env) Q E s') acc C) (bs := fun _ => true) (f := fun i => .list (f i)) true k12 src (hS.mono k12) hc.makes hc.kind hc.store hc.inj
    hc.cells hz (fun i p hp S' C s' h => PTs.nil) (fun i p hp hb S' C s' h hS' E => ?_) fun D C s' hD hC hDC hDS hCS k' hn hi hg => ?_
  · exact wpAny_mono ((helt i p hp S' C s' h).go s' (Kp.refl _) hS' E) (fun v s₂ ⟨a, h0, h1, h2, h3⟩ => by
      subst h0
      refine ⟨h2, h3, fun _ => ⟨a, rfl, h1, ?_⟩⟩
      obtain ⟨a', n, vs, e, la, _⟩ := h2.ofList
      cases e
      exact ⟨_, (hid_some.mp la).2⟩) fun _ _ e => e
  · obtain ⟨n, as, hl, hnd, ha⟩ := hg rfl
    obtain ⟨D', n', vs, e, lD, iD⟩ := hi.ofList
    cases e
    have e1 : vs = as.map Value.ref := by
      have e2 : some (lobj (as.map Value.ref).toArray n) = some (lobj vs.toArray n') := hl.symm.trans (hid_some.mp lD).2
      injection e2 with e2
      injection e2 with _ _ e3 _
      injection e3 with e4 _
      exact (congrArg Array.toList e4).symm
    subst e1
    have e3 : compRes (fun _ => true) (fun i => P.list (f i)) items.length = ((List.range items.length).map f).map P.list := by
      unfold compRes; rw [List.filter_eq_self.mpr fun _ _ => rfl, List.map_map]; rfl
    rw [e3] at iD
    obtain ⟨hlen, hrd⟩ := Iss.refs iD
    have hlen' : as.length = items.length := by rw [hlen]; simp
    have hz1 : (as.zip ((List.range items.length).map f)).map (·.1) = as := by rw [List.map_fst_zip]; simp [hlen']
    have b' := b.hideMany k' (as.zip ((List.range items.length).map f)) (fun q m => ⟨(ha q.1 (List.of_mem_zip m).1).1, hrd q m, by
      obtain ⟨i, _, e⟩ := List.mem_map.mp (List.of_mem_zip m).2
      rw [← e]; exact hf i⟩) (by rw [hz1]; exact hnd)
    rw [hz1] at b'
    refine b.compEnd (Q := fun _ s' => wpAny (model prog w) A (execs rest env) Q E s') (S' := as ++ S) (p := .list (as.map fun a => .val (.ref a))) hy hC hCS k' hn b' (fun m => ?_) (Is.list (vs := as.map Value.ref) (n := n) (hid_some.mpr ⟨fun m => ?_, hl⟩) Iss.vals) (k as hlen')
    · rcases List.mem_append.mp m with m | m
      · exact (ha _ m).2.2 rfl
      · exact hCS m
    · rcases List.mem_append.mp m with m | m
      · exact (ha _ m).2.1 rfl
      · exact hDS m
end
end Mine

namespace Mine
open PySem PySem.Calls PyProof.Rows Builtin.Str
section
variable {prog : Program} {w : World} {A : Around} {s₀ : Shared} {G : Gt} {S : List Addr} {env : Env} {s : Shared} {ρ : List (Str × P)} {μ : List (Addr × List P)}
open Classical in
/-- a loop whose k-th state is known -/
theorem B.for {x : Str} {px pos : Pos} {iter : Expr} {body orelse rest : List Stmt} {items : List P} {Q : Flow → Shared → Prop} {E : Value → Shared → Prop} (ρf : Nat → List (Str × P)) (μf : Nat → List (Addr × List P))
    (b : B s₀ G S env s ρ μ) (hI : PI prog w A S env s iter items) (Iv : Nat → Prop) (hv0 : Iv 0) (h0 : Sub ρ (ρf 0)) (hμ : μf 0 = μ) (hμf : ∀ k, (μf k).map (·.1) = μ.map (·.1))
    (hbody : ∀ k p, items[k]? = some p → Iv k → ∀ S' G' s', (∀ c ∈ S, c ∈ S') → (∀ c o, G c = some o → G' c = some o) → B s₀ G' S' env s' ((x, p) :: ρf k) (μf k) → ∀ E', wpAny (model prog w) A (execs body env) (fun f s'' => match f with
      | .next | .cont => B s₀ G' S' env s'' (ρf (k + 1)) (μf (k + 1)) ∧ Iv (k + 1)
      | .brk => wpAny (model prog w) A (execs rest env) Q E s''
      | .ret v => Q (.ret v) s'') E' s')
    (hdone : Iv items.length → ∀ s', B s₀ G S env s' (ρf items.length) (μf items.length) → ∀ E', wpAny (model prog w) A (execs orelse env) (fun f s'' => match f with | .next => wpAny (model prog w) A (execs rest env) Q E s'' | f => Q f s'') E' s')
    (hx : Stores env x := by first | exact .inl rfl | exact .inr ⟨rfl, _, rfl⟩) (hs : ∀ x, foldedSetIterable iter env x = pure x := by intro _; rfl) :
    wpAny (model prog w) A (execs (.For (.Name x px) iter body orelse pos :: rest) env) Q E s := by
  refine wpAny_execs_cons (wpAny_For (wpAny_mono (hI.go s (Kp.refl _) b.hidden _) (fun xv s₂ h => wpAny_mono h (fun it s₃ ⟨k3, src⟩ => ?_) fun _ _ e => e) fun _ _ e => e) hs)
  obtain ⟨I, fp, wr, J, St, rfl, W, hst, hfp, hwr, hex, hJ⟩ := src
  have b3 := b.kp k3
  have hGs : ∀ c o, G c = some o → s.heap.get? c = some o := b.keep
  have hGwr : ∀ c ∈ wr, G c = none := fun c m => by
    cases q : G c with
    | none => rfl
    | some o => have := hGs c o q; rw [hwr c m] at this; cases this
  have hfpo : ∀ c ∈ fp, ¬ Own env c := fun c m h => by
    obtain ⟨_, o, e, hnd, hnc⟩ := hfp c m
    rcases h with rfl | ⟨y, hy⟩
    · obtain ⟨⟨m, o', es, ep, e', hd, _⟩, _⟩ := b3.frame
      rw [e] at e'; cases e'; exact hnd es ep hd
    · obtain ⟨ov, o', e', hd⟩ := b3.frame.2 y c hy
      rw [e] at e'; cases e'; exact hnc ov hd
  have hwro : ∀ c ∈ wr, ¬ Own env c := fun c m => hfpo c (W.sub c m)
  have hSwr : ∀ c ∈ S, c ∉ wr := fun c m q => (hfp c (W.sub c q)).1 m
  let G1 : Gt := fun c => if c ∈ wr ∨ c ∈ S ∨ Own env c then G c else s₃.heap.get? c
  have hG1 : ∀ c o, G c = some o → G1 c = some o := fun c o e => by
    show (if _ then _ else _) = _
    split
    · exact e
    · exact b3.keep c o e
  have hG1n : ∀ c, (c ∈ wr ∨ c ∈ S ∨ Own env c) → G1 c = G c := fun c h => if_pos h
  have hμS : ∀ k, ∀ q ∈ μf k, q.1 ∈ S ∧ G q.1 = none := fun k q m => by
    have h1 : q.1 ∈ (μf k).map (·.1) := List.mem_map_of_mem m
    rw [hμf k] at h1
    obtain ⟨q', h2, h3⟩ := List.mem_map.mp h1
    obtain ⟨h4, h5, _⟩ := b.muts q' h2
    exact ⟨(show q'.1 = q.1 from h3) ▸ h4, (show q'.1 = q.1 from h3) ▸ h5⟩
  have hμwr : ∀ k, ∀ c ∈ wr, ∀ q ∈ μf k, q.1 ≠ c := fun k c m q hq e => hSwr q.1 (hμS k q hq).1 (e ▸ m)
  have b4 : B s₀ G1 (wr ++ S) env s₃ (ρf 0) (μf 0) := by
    have ex : LExt (hid S s.heap) (hid (wr ++ S) s₃.heap) := .of fun c o e => hid_some.mpr ⟨fun m => by
      rcases List.mem_append.mp m with m | m
      · have := (hid_some.mp e).2; rw [hwr c m] at this; cases this
      · exact (hid_some.mp e).1 m, k3.get c o (hid_some.mp e).2⟩
    refine ⟨b3.same, fun c o e => ?_, b3.kind, b3.frame, b3.inj, fun c h => (hG1n c (.inr (.inr h))).trans (b3.fresh c h), fun c m => ?_, fun y p e => (b.names y p (h0.get y p e)).fwd ⟨k3, ex⟩, fun q m => ?_, by rw [hμ]; exact b.nd⟩
    · have e' : (if c ∈ wr ∨ c ∈ S ∨ Own env c then G c else s₃.heap.get? c) = some o := e
      split at e'
      · exact b3.keep c o e'
      · exact e'
    · rcases List.mem_append.mp m with m | m
      · exact hex _ _ hst c m
      · exact b3.hidden c m
    · rw [hμ] at m
      obtain ⟨h1, h2, n, vs, h3, h4⟩ := b.muts q m
      exact ⟨List.mem_append_right _ h1, (hG1n _ (.inr (.inl h1))).trans h2, n, vs, k3.get _ _ h3, h4.ext ex⟩
  refine codeAny_forLoop (fun n s' => ∃ k ≤ items.length, n = items.length - k ∧ B s₀ G1 (wr ++ S) env s' (ρf k) (μf k) ∧ Iv k ∧ St k s'.heap) ?_ items.length ⟨0, Nat.zero_le _, rfl, b4, hv0, hst⟩
  rintro n s' ⟨k, hk, rfl, bk, ik, st⟩
  by_cases hlt : k < items.length
  · refine W.item k s' _ _ hlt st fun v h₁ tk₁ hv st₁ hk₁ => ?_
    obtain ⟨p, hp, hpi⟩ := hJ k v hv
    have b1 : B s₀ G1 (wr ++ S) env { s' with heap := h₁, toks := tk₁ } (ρf k) (μf k) :=
      bk.next hk₁ (fun c m => (hG1n c (.inl m)).trans (hGwr c m)) hwro (fun c m => List.mem_append_left _ m) (hμwr k) (hex _ _ st₁)
    have hitem : Is (hid (wr ++ S) h₁) p v := hpi.ext fun c vs n e => by
      have e1 := (hid_some.mp e).1
      have e2 := (hid_some.mp e).2
      refine hid_some.mpr ⟨e1, b1.keep c _ ?_⟩
      show (if _ then _ else _) = _
      rw [if_neg ?_]
      · exact e2
      · rintro (q | q | q)
        · exact e1 (List.mem_append_left _ q)
        · exact e1 (List.mem_append_right _ q)
        · rcases q with rfl | ⟨y, hy⟩
          · obtain ⟨⟨m, hm⟩, _⟩ := b3.frame; exact ns_not_list hm e2
          · obtain ⟨ov, h⟩ := b3.frame.2 y c hy; exact cell_not_list h e2
    refine wpAny_assign_Name (Mine.store b1.kind hx b1.frame b1.inj fun h₂ tk₂ a1 a2 a3 a4 a5 a6 => ?_)
    have b2 := b1.stored (x := x) (p := p) (tk := tk₂) hitem a1 a2 a3 a4 a5 a6
    have st₂ : St (k + 1) h₂ := W.frame _ _ _ st₁ fun c hc o e => a4 c o (fun q => hfpo c hc q.own) e
    let G2 : Gt := fun c => if c ∈ fp then h₂.get? c else G1 c
    have hG2 : ∀ c o, G1 c = some o → G2 c = some o := fun c o e => by
      show (if _ then _ else _) = _
      split
      · exact b2.keep c o e
      · exact e
    have b5 : B s₀ G2 (wr ++ S) env { s' with heap := h₂, toks := tk₂ } ((x, p) :: ρf k) (μf k) := by
      refine ⟨b2.same, fun c o e => ?_, b2.kind, b2.frame, b2.inj, fun c h => ?_, b2.hidden, b2.names, fun q m => ?_, b2.nd⟩
      · have e' : (if c ∈ fp then h₂.get? c else G1 c) = some o := e
        split at e'
        · exact e'
        · exact b2.keep c o e'
      · show (if _ then _ else _) = _
        rw [if_neg fun q => hfpo c q h]; exact b2.fresh c h
      · obtain ⟨h1, h2, r⟩ := b2.muts q m
        refine ⟨h1, ?_, r⟩
        show (if _ then _ else _) = _
        rw [if_neg fun z => (hfp _ z).1 (hμS k q m).1]; exact h2
    refine wpAny_mono (hbody k p hp ik _ _ _ (fun c m => List.mem_append_right _ m) (fun c o e => hG2 c o (hG1 c o e)) b5 _) (fun f s'' h => ?_) fun _ _ e => e
    have fin : B s₀ G2 (wr ++ S) env s'' (ρf (k + 1)) (μf (k + 1)) ∧ Iv (k + 1) → ∃ m, m < items.length - k ∧ ∃ k' ≤ items.length, m = items.length - k' ∧ B s₀ G1 (wr ++ S) env s'' (ρf k') (μf k') ∧ Iv k' ∧ St k' s''.heap := fun ⟨h, hi'⟩ =>
      ⟨items.length - (k + 1), by omega, k + 1, hlt, rfl, h.less hG2 (fun c m => m) (fun q m => List.mem_append_right _ (hμS _ q m).1), hi', W.frame _ _ _ st₂ fun c hc o e => h.keep c o (by show (if _ then _ else _) = _; rw [if_pos hc]; exact e)⟩
    cases f with
    | next => exact fin h
    | cont => exact fin h
    | brk => exact h
    | ret v => exact h
  · have hin : k = items.length := by omega
    subst hin
    refine W.done s' _ _ st fun h₁ tk₁ hk₁ => ?_
    have b5 : B s₀ G1 S env { s' with heap := h₁, toks := tk₁ } (ρf items.length) (μf items.length) :=
      bk.last hk₁ (fun c m => (hG1n c (.inl m)).trans (hGwr c m)) hwro (fun c m => List.mem_append_left _ m) (hμwr _) (fun c m => ⟨List.mem_append_right _ m, hSwr c m⟩) fun q m => (hμS _ q m).1
    refine wpAny_mono (hdone ik _ (b5.less hG1 (fun c m => m) fun q m => (hμS _ q m).1) _) (fun f s'' h => ?_) fun _ _ e => e
    cases f <;> exact h
/-! ## other statements -/
theorem B.skip {Q : Flow → Shared → Prop} {E : Value → Shared → Prop} (h : Q .next s) : wpAny (model prog w) A (execs [] env) Q E s := wpAny_execs_nil h
theorem B.aug {x : Str} {px pos : Pos} {op : Operator} {value : Expr} {rest : List Stmt} {p q r : P} {Q : Flow → Shared → Prop} {E : Value → Shared → Prop} (b : B s₀ G S env s ρ μ) (hp : ρ.lookup x = some p) (he : PE prog w A S env s value q)
    (hop : ∀ u v s₂, Hid S s₂ → Is (hid S s₂.heap) p u → Is (hid S s₂.heap) q v → Gv prog w A S s₂ (inplaceOp op u v) r)
    (k : ∀ s', B s₀ G S env s' ((x, r) :: ρ) μ → wpAny (model prog w) A (execs rest env) Q E s') (hx : Stores env x := by first | exact .inl rfl | exact .inr ⟨rfl, _, rfl⟩) : wpAny (model prog w) A (execs (.AugAssign (.Name x px) op value pos :: rest) env) Q E s := by
  refine wpAny_execs_cons (wpAny_AugAssign_Name ?_)
  obtain ⟨u, l, i⟩ := b.names x p hp
  have go : wpAny (model prog w) A (eval value env) (fun v s₂ => wpAny (model prog w) A (inplaceOp op u v) (fun r s₃ => wpAny (model prog w) A (storeName env x r) (fun _ s' => wpAny (model prog w) A (execs rest env) Q E s') E s₃) E s₂) E s :=
    wpAny_mono (he.go s (Kp.refl _) b.hidden E) (fun v s₂ ⟨hv, k2⟩ => wpAny_mono (hop u v s₂ (b.hidden.mono k2) (i.ext k2.ext) hv E) (fun y s₃ ⟨hy, k3⟩ => ((b.kp k2).kp k3).store hx hy fun s' b' => k s' b') fun _ _ e => e) fun _ _ e => e
  rcases l with ⟨a, m, h1, h2⟩ | ⟨a | a, c, h1, h2⟩
  · exact wpAny_loadName_local b.kind a h1 h2 go
  · exact wpAny_loadName_cell b.kind a h1 h2 go
  · rcases hx with hx | ⟨hx, _⟩ <;> rw [hx] at a <;> cases a
end
end Mine

namespace Mine
open PySem PySem.Calls PyProof.Rows Builtin.Str
/-! ## the program's functions -/
/-- calls of f on ps give p, with room for d calls -/
structure PC (prog : Program) (w : World) (K : W.Frag) (mg mb : Str → Option Value) (d : Nat) (f : Addr) (ps : List P) (p : P) : Prop where
  go : ∀ A S s vs, Ok d A → Wd K mg mb s.heap → Hid S s → Iss (hid S s.heap) ps vs → Gv prog w A S s (call (.ref f) vs) p
/-- a def of the world -/
structure Fn (K : W.Frag) (name : Str) (params : Arguments) (body : List Stmt) (scope : Scope) (f : Addr) (fd : FuncData) : Prop where
  bound : W.nsIn K mainGlobals name = some (some (.ref f))
  obj : ∃ oc od osl, K.lookup f = some ⟨oc, od, .func fd, osl⟩
  data : ∃ doc pm an cd ct, fd = W.fnOf name name params body scope .none .none doc pm an cd ct ∧ W.codeIn K cd name = true
theorem lookup_zip : ∀ {names : List Str} {g : Gt} {ps : List P} {vs : List Value} {x : Str} {p : P}, Iss g ps vs → (names.zip ps).lookup x = some p → ∃ v, (names.zip vs).lookup x = some v ∧ Is g p v
  | [], _, _, _, _, _, _, e => by simp at e
  | n :: names, _, [], _, _, _, _, e => by simp at e
  | n :: names, g, q :: ps, vs, x, p, h, e => by
    simp only [Iss] at h
    obtain ⟨v, r, rfl, hv, hr⟩ := h
    rw [List.zip_cons_cons, List.lookup_cons] at e
    rw [List.zip_cons_cons, List.lookup_cons]
    cases hx : x == n with
    | true => rw [hx] at e; cases e; exact ⟨v, rfl, hv⟩
    | false => rw [hx] at e; exact lookup_zip hr e
theorem bindL_not {k : Str → Option NameKind} {x : Str} : ∀ {binds : List (Str × Value)} {m : Str → Option Value}, x ∉ binds.map (·.1) → bindL k binds m x = m x
  | [], _, _ => rfl
  | (n, v) :: r, m, h => by
    have hn : x ≠ n := fun e => h (by simp [e])
    unfold bindL
    rw [bindL_not fun q => h (by simp [q])]
    split
    · exact if_neg hn
    · rfl
theorem bindC_not {k : Str → Option NameKind} {x : Str} : ∀ {binds : List (Str × Value)} {m : Str → Option Value}, x ∉ binds.map (·.1) → bindC k binds m x = m x
  | [], _, _ => rfl
  | (n, v) :: r, m, h => by
    have hn : x ≠ n := fun e => h (by simp [e])
    unfold bindC
    rw [bindC_not fun q => h (by simp [q])]
    split
    · rfl
    · exact if_neg hn
theorem bindL_at {k : Str → Option NameKind} {x : Str} {v : Value} (hk : k x = some .local) : ∀ {binds : List (Str × Value)} {m : Str → Option Value}, (binds.map (·.1)).Nodup → binds.lookup x = some v → bindL k binds m x = some v
  | [], _, _, e => nomatch e
  | (n, u) :: r, m, hnd, e => by
    rw [List.map_cons, List.nodup_cons] at hnd
    rw [List.lookup_cons] at e
    unfold bindL
    cases hx : x == n with
    | true =>
      rw [hx] at e; cases e
      obtain rfl := eq_of_beq hx
      rw [bindL_not hnd.1, if_pos hk]; exact if_pos rfl
    | false => rw [hx] at e; exact bindL_at hk hnd.2 e
theorem bindC_at {k : Str → Option NameKind} {x : Str} {v : Value} (hk : k x = some .cell) : ∀ {binds : List (Str × Value)} {m : Str → Option Value}, (binds.map (·.1)).Nodup → binds.lookup x = some v → bindC k binds m x = some v
  | [], _, _, e => nomatch e
  | (n, u) :: r, m, hnd, e => by
    rw [List.map_cons, List.nodup_cons] at hnd
    rw [List.lookup_cons] at e
    unfold bindC
    cases hx : x == n with
    | true =>
      rw [hx] at e; cases e
      obtain rfl := eq_of_beq hx
      rw [bindC_not hnd.1, if_neg (by rw [hk]; decide)]; exact if_pos rfl
    | false => rw [hx] at e; exact bindC_at hk hnd.2 e
theorem mem_of_lookV {y : Str} {c : Value} : ∀ {l : List (Str × Value)}, l.lookup y = some c → (y, c) ∈ l
  | [], h => nomatch h
  | (z, d) :: r, h => by
    rw [List.lookup_cons] at h
    cases hb : y == z with
    | true => rw [hb] at h; cases h; rw [eq_of_beq hb]; exact List.mem_cons_self
    | false => rw [hb] at h; exact List.mem_cons_of_mem _ (mem_of_lookV h)
section
variable {prog : Program} {w : World} {K : W.Frag} {mg mb : Str → Option Value}
/-- the state at the start of a def's body -/
theorem B.start {s s₁ : Shared} {S : List Addr} {fd : FuncData} {f : Addr} {names : List Str} {ps : List P} {vs : List Value} (hS : Hid S s) (hv : Iss (hid S s.heap) ps vs) (hlen : vs.length = names.length) (hk : fd.scope.kind = .function) (hnd : names.Nodup)
    (hkind : ∀ x ∈ names, fd.scope.names.lookup x = some .local ∨ (fd.scope.names.lookup x = some .cell ∧ ∀ n, ((cellsFrom n fd.scope.names []).lookup x).isSome = true))
    (x : InCallC s (callEnvC fd s.heap.objs.size f).locals (bindL (callEnvC fd s.heap.objs.size f).kindOf (names.zip vs) fun _ => none) (callEnvC fd s.heap.objs.size f).cells (bindC (callEnvC fd s.heap.objs.size f).kindOf (names.zip vs) fun _ => none) s₁) :
    B s s.heap.get? S (callEnvC fd s.heap.objs.size f) s₁ (names.zip ps) [] := by
  have kp : Kp s s₁ := x.done.elim fun h' ⟨tk, e, k⟩ => ⟨h', tk, e, k⟩
  have hz : ((names.zip vs).map (·.1)) = names := by rw [List.map_fst_zip]; omega
  refine ⟨let ⟨h', tk, e, _⟩ := x.done; ⟨h', tk, e⟩, kp.get, hk, ⟨⟨_, x.toInCall.ns⟩, fun y c e => ⟨_, x.cell y c e⟩⟩, fun y z c e1 e2 => ?_, fun c h => ?_, hS.mono kp, fun y p e => ?_, (fun q m => nomatch m), List.nodup_nil⟩
  · have m1 := mem_of_look e1
    have m2 := mem_of_look e2
    have ap := x.apart
    have key : ∀ {l : List (Str × Addr)}, l.Pairwise (fun a b => a.2 ≠ b.2) → (y, c) ∈ l → (z, c) ∈ l → y = z := fun {l} => by
      induction l with
      | nil => intro _ m; cases m
      | cons q r ih =>
        intro hp m1 m2
        rw [List.pairwise_cons] at hp
        rcases List.mem_cons.mp m1 with e1 | m1 <;> rcases List.mem_cons.mp m2 with e2 | m2
        · exact (congrArg Prod.fst e1).trans (congrArg Prod.fst e2).symm
        · exact absurd (congrArg Prod.snd e1).symm (hp.1 (z, c) m2)
        · exact absurd (congrArg Prod.snd e2).symm (hp.1 (y, c) m1)
        · exact ih hp.2 m1 m2
    exact key ap m1 m2
  · refine fresh_at ?_
    rcases h with rfl | ⟨y, e⟩
    · exact x.toInCall.fresh
    · exact Nat.le_of_lt (Nat.lt_of_le_of_lt x.toInCall.fresh (x.above y c (mem_of_look e)))
  · obtain ⟨v, hl, hi⟩ := lookup_zip hv e
    refine ⟨v, ?_, hi.ext kp.ext⟩
    have hm : y ∈ names := by
      have := List.mem_map_of_mem (f := (·.1)) (mem_of_lookV hl)
      rwa [hz] at this
    rcases hkind y hm with h | ⟨h, hs⟩
    · exact .inl ⟨h, _, x.toInCall.ns, bindL_at h (by rw [hz]; exact hnd) hl⟩
    · obtain ⟨c, hc⟩ := Option.isSome_iff_exists.mp (hs (s.heap.objs.size + 1))
      refine .inr ⟨.inl h, c, hc, ?_⟩
      have := x.cell y c hc
      rwa [bindC_at h (by rw [hz]; exact hnd) hl] at this
theorem PC.of {name : Str} {params : Arguments} {body : List Stmt} {scope : Scope} {f : Addr} {fd : FuncData} {names : List Str} {ps : List P} {p : P} {d : Nat} (hf : Fn K name params body scope f fd) (hlen : ps.length = names.length)
    (hbind : ∀ vs, vs.length = names.length → ∀ doc pm an cd ct, bindArgs (W.fnOf name name params body scope .none .none doc pm an cd ct) ⟨vs, []⟩ = pure (names.zip vs)) (hnd : names.Nodup)
    (hkind' : (names.all fun x => scope.names.lookup x == some .local || scope.names.lookup x == some .cell) = true)
    (hk : scope.kind = .function) (hco : scope.isCoroutine = false) (hgen : scope.isGenerator = false)
    (h : ∀ A S s s₁ L cd, Ok d A → Wd K mg mb s.heap → Hid S s → B s s.heap.get? S (W.envX name scope L f cd (cellsFrom (L + 1) scope.names [])) s₁ (names.zip ps) [] → ∀ E,
      wpAny (model prog w) A (execs body (W.envX name scope L f cd (cellsFrom (L + 1) scope.names []))) (fun fl s' => ∃ v, fl = .ret v ∧ Is (hid S s'.heap) p v ∧ Kp s s') E s₁) :
    PC prog w K mg mb (d + 1) f ps p := ⟨fun A S s vs hA hW hS hv E => by
  obtain ⟨oc, od, osl, ho⟩ := hf.obj
  have hkind : ∀ x ∈ names, scope.names.lookup x = some .local ∨ (scope.names.lookup x = some .cell ∧ ∀ n, ((cellsFrom n scope.names []).lookup x).isSome = true) := fun x m => by
    rcases Bool.or_eq_true_iff.mp (List.all_eq_true.mp hkind' x m) with h | h
    · exact .inl (by simpa using h)
    · have h' : scope.names.lookup x = some .cell := by simpa using h
      exact .inr ⟨h', fun n => W.cellsFrom_some _ _ _ (.inl h')⟩
  obtain ⟨doc, pm, an, cd, ct, hfd, hcd⟩ := hf.data
  have hvl : vs.length = names.length := hv.length.trans hlen
  have hzn : ∀ y ∈ names.zip vs, y.1 ∈ names := fun y m => (List.of_mem_zip m).1
  refine wpAny_call (codeAny_call_cells (body := body) (binds := names.zip vs) (by have := hA.2.1; omega) (hW.kin _ _ ho) rfl hW.nolimit (by rw [hfd]; exact W.codeRec_of hW.kin hcd) (by rw [hfd]) (by rw [hfd]; exact hbind vs hvl _ _ _ _ _) (by rw [hfd])
    (fun y m => ?_) (fun s₁ x => ?_) (by rw [hfd]; exact hco) (by rw [hfd]; exact hgen) (by rw [hfd]; exact hk))
  · rw [hfd]
    rcases hkind y.1 (hzn y m) with h1 | ⟨h1, h2⟩
    · exact .inl h1
    · exact .inr ⟨h1, h2 _⟩
  · have b := B.start (f := f) hS hv hvl (by rw [hfd]; exact hk) hnd (by rw [hfd]; exact hkind) x
    subst hfd
    refine wpAny_mono (h _ S s s₁ _ cd (hA.deeper _) hW hS b _) (fun fl s' ⟨v, e, r⟩ => ?_) fun _ _ e => e
    subst e
    exact r⟩
end
end Mine

namespace Mine
open PySem PySem.Calls PyProof.Rows Builtin.Str
/-- statements run, in a box -/
structure Ex (prog : Program) (w : World) (A : Around) (env : Env) (ss : List Stmt) (Q : Flow → Shared → Prop) (E : Value → Shared → Prop) (s : Shared) : Prop where
  go : wpAny (model prog w) A (execs ss env) Q E s
/-- what stands behind a block -/
def Beh (prog : Program) (w : World) (A : Around) (env : Env) (rest : List Stmt) (Q : Flow → Shared → Prop) (E : Value → Shared → Prop) (f : Flow) (s : Shared) : Prop :=
  match f with
  | .next => Ex prog w A env rest Q E s
  | f => Q f s
/-- a def ends so -/
def Done (S : List Addr) (s : Shared) (p : P) (fl : Flow) (s' : Shared) : Prop := ∃ v, fl = .ret v ∧ Is (hid S s'.heap) p v ∧ Kp s s'
section
variable {prog : Program} {w : World} {A : Around} {s₀ : Shared} {G : Gt} {S : List Addr} {env : Env} {s : Shared} {ρ : List (Str × P)} {μ : List (Addr × List P)} {rest : List Stmt} {Q : Flow → Shared → Prop} {E : Value → Shared → Prop}
theorem Ex.mono {ss : List Stmt} {Q' : Flow → Shared → Prop} (h : Ex prog w A env ss Q E s) (hq : ∀ f s, Q f s → Q' f s) : Ex prog w A env ss Q' E s := ⟨wpAny_mono h.go hq fun _ _ e => e⟩
theorem Ex.assign {x : Str} {pos' pos : Pos} {value : Expr} {p : P} (b : B s₀ G S env s ρ μ) (he : PE prog w A S env s value p)
    (k : ∀ s', B s₀ G S env s' ((x, p) :: ρ) μ → Ex prog w A env rest Q E s') (hx : Stores env x := by first | exact .inl rfl | exact .inr ⟨rfl, _, rfl⟩) (hs : swapsWith value (some (.Name x pos')) pos.line env = pure false := by rfl) :
    Ex prog w A env (.Assign [.Name x pos'] value pos :: rest) Q E s := ⟨b.assign he (fun s' b' => (k s' b').go) hx hs⟩
theorem Ex.ret {value : Expr} {pos : Pos} {p : P} (b : B s₀ G S env s ρ μ) (he : PE prog w A S env s value p)
    (k : ∀ v s', Is (hid S s'.heap) p v → B s₀ G S env s' ρ μ → Q (.ret v) s') : Ex prog w A env (.Return (some value) pos :: rest) Q E s := ⟨b.ret he k⟩
/-- a return whose value no hidden list is asked for -/
theorem Ex.fin {S₁ : List Addr} {value : Expr} {pos : Pos} {p : P} (b : B s₀ s₀.heap.get? S env s ρ μ) (he : PE prog w A S env s value p) (hS : ∀ c ∈ S₁, c ∈ S) (hQ : ∀ v s', Done S₁ s₀ p (.ret v) s' → Q (.ret v) s' := by exact fun _ _ h => h) : Ex prog w A env (.Return (some value) pos :: rest) Q E s :=
  Ex.ret b he fun v s' hv b' => hQ v s' ⟨v, rfl, hv.ext (.of (hid_le hS)), b'.exit⟩
/-- a return of a hidden list -/
theorem Ex.finList {S₁ : List Addr} {x : Str} {xp pos : Pos} {a : Addr} {ps : List P} (b : B s₀ s₀.heap.get? S env s ρ μ) (hx : ρ.lookup x = some (.val (.ref a))) (hm : (a, ps) ∈ μ) (hS : ∀ c ∈ S₁, c ∈ S) (ha : a ∉ S₁)
    (hQ : ∀ v s', Done S₁ s₀ (.list ps) (.ret v) s' → Q (.ret v) s' := by exact fun _ _ h => h) (hd : (x == ("__debug__" : Str)) = false := by rfl) (hc : (x == ("__classdict__" : Str)) = false := by rfl) : Ex prog w A env (.Return (some (.Name x xp)) pos :: rest) Q E s :=
  Ex.ret b (p := .val (.ref a)) (PE.name b.kind (b.names x _ hx) hd hc) fun v s' hv b' => hQ v s' ⟨v, rfl, by cases hv.ofVal; exact b'.light hm hS ha, b'.exit⟩
theorem Ex.ifs {test : Expr} {body orelse : List Stmt} {pos : Pos} {c : Bool} (b : B s₀ G S env s ρ μ) (ht : PT prog w A S env s test c)
    (h1 : c = true → ∀ s', B s₀ G S env s' ρ μ → Ex prog w A env body (Beh prog w A env rest Q E) E s')
    (h2 : c = false → ∀ s', B s₀ G S env s' ρ μ → Ex prog w A env orelse (Beh prog w A env rest Q E) E s') :
    Ex prog w A env (.If test body orelse pos :: rest) Q E s :=
  ⟨b.ifs ht (fun hc s' b' => wpAny_mono (h1 hc s' b').go (fun f s'' h => by cases f <;> first | exact Ex.go h | exact h) fun _ _ e => e) fun hc s' b' => wpAny_mono (h2 hc s' b').go (fun f s'' h => by cases f <;> first | exact Ex.go h | exact h) fun _ _ e => e⟩
theorem Ex.skip (h : Q .next s) : Ex prog w A env [] Q E s := ⟨wpAny_execs_nil h⟩
theorem Ex.append {x : Str} {xp ap pos pos' : Pos} {e : Expr} {a : Addr} {ps : List P} {p : P} (μ₁ μ₂ : List (Addr × List P)) (b : B s₀ G S env s ρ (μ₁ ++ (a, ps) :: μ₂))
    (hx : ρ.lookup x = some (.val (.ref a))) (he : PE prog w A S env s e p) (hz : ps.length ≤ 1000000)
    (k : ∀ s', B s₀ G S env s' ρ (μ₁ ++ (a, ps ++ [p]) :: μ₂) → Ex prog w A env rest Q E s')
    (hs : starEach [e] env = [(false, eval e env)] := by intros; rfl) (hline : (ap.endLine == pos.line) = true := by rfl) (hi : interactive env = false := by rfl)
    (hbase : attributeBase (.Name x xp) (Str.ofString "append") env (eval (.Name x xp) env) = eval (.Name x xp) env := by rfl) (hsw : swapsWith (.Call (.Attribute (.Name x xp) (Str.ofString "append") ap) [e] [] pos) none pos'.line env = pure false := by rfl)
    (hd : (x == ("__debug__" : Str)) = false := by rfl) (hc : (x == ("__classdict__" : Str)) = false := by rfl) :
    Ex prog w A env (.Expr (.Call (.Attribute (.Name x xp) (Str.ofString "append") ap) [e] [] pos) pos' :: rest) Q E s :=
  ⟨b.append hx he hz (fun s' b' => (k s' b').go) hs hline hi hbase hsw hd hc⟩
theorem Ex.hide {x : Str} {pos' pos : Pos} {value : Expr} {ps : List P} (b : B s₀ G S env s ρ μ) (he : PF prog w A S env s value ps) (hf : ∀ p ∈ ps, p.flat = true)
    (k : ∀ a s', a ∉ S → B s₀ G (a :: S) env s' ((x, .val (.ref a)) :: ρ) ((a, ps) :: μ) → Ex prog w A env rest Q E s') (hx : Stores env x := by first | exact .inl rfl | exact .inr ⟨rfl, _, rfl⟩) (hs : swapsWith value (some (.Name x pos')) pos.line env = pure false := by rfl) :
    Ex prog w A env (.Assign [.Name x pos'] value pos :: rest) Q E s :=
  ⟨wpAny_execs_cons (wpAny_Assign_Name (wpAny_mono (he.go s (Kp.refl _) b.hidden E) (fun v s₁ ⟨a, hv, hn, hi, k1⟩ => by
    subst hv
    have ha : a ∉ S := fun m => by obtain ⟨o, e⟩ := b.hidden a m; rw [hn] at e; cases e
    exact (b.hide k1 hn hi hf).store hx Is.val fun s' b' => (k a s' ha b').go) fun _ _ e => e) hs)⟩
theorem Ex.comp {elt iter : Expr} {ifs : List Expr} {scope : Scope} {pos spos px py : Pos} {x y : Str} {items : List P} {cl : List (Str × Addr)} {nc : List (Str × Nat)} (bs : Nat → Bool) (f : Nat → P)
    (b : B s₀ G S env s ρ μ) (hc : CompOk prog w A env s scope x nc cl) (hI : PI prog w A S env s iter items) (hz : items.length ≤ 1000000)
    (htests : ∀ i p, items[i]? = some p → ∀ S' C s', In S s S' (CE scope nc cl env C) s' x p → PTs prog w A S' (CE scope nc cl env C) s' ifs (bs i))
    (helt : ∀ i p, items[i]? = some p → bs i = true → ∀ S' C s', In S s S' (CE scope nc cl env C) s' x p → PE prog w A S' (CE scope nc cl env C) s' elt (f i))
    (k : ∀ s', B s₀ G S env s' ((y, .list (compRes bs f items.length)) :: ρ) μ → Ex prog w A env rest Q E s')
    (hy : Stores env y := by first | exact .inl rfl | exact .inr ⟨rfl, _, rfl⟩) (hsw : swapsWith (.ListComp elt [⟨.Name x px, iter, ifs, 0⟩] scope pos) (some (.Name y py)) spos.line env = pure true := by rfl) (hs : ∀ x, foldedSetIterable iter env x = pure x := by intro _; rfl) :
    Ex prog w A env (.Assign [.Name y py] (.ListComp elt [⟨.Name x px, iter, ifs, 0⟩] scope pos) spos :: rest) Q E s :=
  ⟨b.assignComp bs f hc hI hz htests helt (fun s' b' => (k s' b').go) hy hsw hs⟩
theorem Ex.rows {elt iter : Expr} {scope : Scope} {pos spos px py : Pos} {x y : Str} {items : List P} {cl : List (Str × Addr)} {nc : List (Str × Nat)} (f : Nat → List P)
    (b : B s₀ G S env s ρ μ) (hc : CompOk prog w A env s scope x nc cl) (hI : PI prog w A S env s iter items) (hz : items.length ≤ 1000000) (hf : ∀ i, ∀ p ∈ f i, p.flat = true)
    (helt : ∀ i p, items[i]? = some p → ∀ S' C s', In S s S' (CE scope nc cl env C) s' x p → PF prog w A S' (CE scope nc cl env C) s' elt (f i))
    (k : ∀ as : List Addr, as.length = items.length → ∀ s', B s₀ G (as ++ S) env s' ((y, .list (as.map fun a => .val (.ref a))) :: ρ) (as.zip ((List.range items.length).map f) ++ μ) → Ex prog w A env rest Q E s')
    (hy : Stores env y := by first | exact .inl rfl | exact .inr ⟨rfl, _, rfl⟩) (hsw : swapsWith (.ListComp elt [⟨.Name x px, iter, [], 0⟩] scope pos) (some (.Name y py)) spos.line env = pure true := by rfl) (hs : ∀ x, foldedSetIterable iter env x = pure x := by intro _; rfl) :
    Ex prog w A env (.Assign [.Name y py] (.ListComp elt [⟨.Name x px, iter, [], 0⟩] scope pos) spos :: rest) Q E s :=
  ⟨b.assignRows f hc hI hz hf helt (fun as h s' b' => (k as h s' b').go) hy hsw hs⟩
theorem Ex.forI {x : Str} {px pos : Pos} {iter : Expr} {body orelse : List Stmt} {items : List P} (ρf : Nat → List (Str × P)) (μf : Nat → List (Addr × List P)) (Iv : Nat → Prop)
    (b : B s₀ G S env s ρ μ) (hI : PI prog w A S env s iter items) (hv0 : Iv 0) (h0 : Sub ρ (ρf 0)) (hμ : μf 0 = μ) (hμf : ∀ k, (μf k).map (·.1) = μ.map (·.1))
    (hbody : ∀ k p, items[k]? = some p → Iv k → ∀ S' G' s', (∀ c ∈ S, c ∈ S') → (∀ c o, G c = some o → G' c = some o) → B s₀ G' S' env s' ((x, p) :: ρf k) (μf k) → ∀ E', Ex prog w A env body (fun f s'' => match f with
      | .next | .cont => B s₀ G' S' env s'' (ρf (k + 1)) (μf (k + 1)) ∧ Iv (k + 1)
      | .brk => Ex prog w A env rest Q E s''
      | .ret v => Q (.ret v) s'') E' s')
    (hdone : Iv items.length → ∀ s', B s₀ G S env s' (ρf items.length) (μf items.length) → ∀ E', Ex prog w A env orelse (Beh prog w A env rest Q E) E' s')
    (hx : Stores env x := by first | exact .inl rfl | exact .inr ⟨rfl, _, rfl⟩) (hs : ∀ x, foldedSetIterable iter env x = pure x := by intro _; rfl) :
    Ex prog w A env (.For (.Name x px) iter body orelse pos :: rest) Q E s :=
  ⟨b.for ρf μf hI Iv hv0 h0 hμ hμf (fun k p hp hi S' G' s' h1 h2 b' E' => wpAny_mono (hbody k p hp hi S' G' s' h1 h2 b' E').go (fun f s'' h => by
      cases f with
      | brk => exact h.go
      | _ => exact h) fun _ _ e => e) (fun hi s' b' E' => wpAny_mono (hdone hi s' b' E').go (fun f s'' h => by cases f <;> first | exact Ex.go h | exact h) fun _ _ e => e) hx hs⟩
theorem Ex.for {x : Str} {px pos : Pos} {iter : Expr} {body orelse : List Stmt} {items : List P} (ρf : Nat → List (Str × P)) (μf : Nat → List (Addr × List P))
    (b : B s₀ G S env s ρ μ) (hI : PI prog w A S env s iter items) (h0 : Sub ρ (ρf 0)) (hμ : μf 0 = μ) (hμf : ∀ k, (μf k).map (·.1) = μ.map (·.1))
    (hbody : ∀ k p, items[k]? = some p → ∀ S' G' s', (∀ c ∈ S, c ∈ S') → (∀ c o, G c = some o → G' c = some o) → B s₀ G' S' env s' ((x, p) :: ρf k) (μf k) → ∀ E', Ex prog w A env body (fun f s'' => match f with
      | .next | .cont => B s₀ G' S' env s'' (ρf (k + 1)) (μf (k + 1))
      | .brk => Ex prog w A env rest Q E s''
      | .ret v => Q (.ret v) s'') E' s')
    (hdone : ∀ s', B s₀ G S env s' (ρf items.length) (μf items.length) → ∀ E', Ex prog w A env orelse (Beh prog w A env rest Q E) E' s')
    (hx : Stores env x := by first | exact .inl rfl | exact .inr ⟨rfl, _, rfl⟩) (hs : ∀ x, foldedSetIterable iter env x = pure x := by intro _; rfl) :
    Ex prog w A env (.For (.Name x px) iter body orelse pos :: rest) Q E s :=
  Ex.forI ρf μf (fun _ => True) b hI trivial h0 hμ hμf (fun k p hp _ S' G' s' h1 h2 b' E' => (hbody k p hp S' G' s' h1 h2 b' E').mono fun f s'' h => by
      cases f with
      | next => exact ⟨h, trivial⟩
      | cont => exact ⟨h, trivial⟩
      | _ => exact h) (fun _ => hdone) hx hs
theorem Ex.aug {x : Str} {px pos : Pos} {op : Operator} {value : Expr} {p q r : P} (b : B s₀ G S env s ρ μ) (hp : ρ.lookup x = some p) (he : PE prog w A S env s value q)
    (hop : ∀ u v s₂, Hid S s₂ → Is (hid S s₂.heap) p u → Is (hid S s₂.heap) q v → Gv prog w A S s₂ (inplaceOp op u v) r)
    (k : ∀ s', B s₀ G S env s' ((x, r) :: ρ) μ → Ex prog w A env rest Q E s') (hx : Stores env x := by first | exact .inl rfl | exact .inr ⟨rfl, _, rfl⟩) : Ex prog w A env (.AugAssign (.Name x px) op value pos :: rest) Q E s :=
  ⟨b.aug hp he hop (fun s' b' => (k s' b').go) hx⟩
end
theorem PC.make {prog : Program} {w : World} {K : W.Frag} {mg mb : Str → Option Value} {name : Str} {params : Arguments} {body : List Stmt} {scope : Scope} {f : Addr} {fd : FuncData} (names : List Str) {ps : List P} {p : P} {d : Nat} (hf : Fn K name params body scope f fd) (hlen : ps.length = names.length)
    (hbind : ∀ vs, vs.length = names.length → ∀ doc pm an cd ct, bindArgs (W.fnOf name name params body scope .none .none doc pm an cd ct) ⟨vs, []⟩ = pure (names.zip vs)) (hnd : names.Nodup)
    (hkind' : (names.all fun x => scope.names.lookup x == some .local || scope.names.lookup x == some .cell) = true)
    (hk : scope.kind = .function) (hco : scope.isCoroutine = false) (hgen : scope.isGenerator = false)
    (h : ∀ A S s s₁ L cd, Ok d A → Wd K mg mb s.heap → Hid S s → B s s.heap.get? S (W.envX name scope L f cd (cellsFrom (L + 1) scope.names [])) s₁ (names.zip ps) [] → ∀ E,
      Ex prog w A (W.envX name scope L f cd (cellsFrom (L + 1) scope.names [])) body (Done S s p) E s₁) :
    PC prog w K mg mb (d + 1) f ps p := PC.of hf hlen hbind hnd hkind' hk hco hgen fun A S s s₁ L cd hA hW hS b E => (h A S s s₁ L cd hA hW hS b E).go
end Mine

namespace Mine
open PySem PySem.Calls PyProof.Rows Builtin.Str
section
variable {prog : Program} {w : World} {A : Around} {s₀ : Shared} {G : Gt} {S : List Addr} {env : Env} {s : Shared} {ρ : List (Str × P)} {μ : List (Addr × List P)} {rest : List Stmt} {Q : Flow → Shared → Prop} {E : Value → Shared → Prop}
theorem erase_toArray (vs : List Value) (k : Nat) : vs.toArray.eraseIdxIfInBounds k = (vs.eraseIdx k).toArray := by
  unfold Array.eraseIdxIfInBounds
  split
  · simp
  · rename_i h
    rw [List.eraseIdx_of_length_le (by simpa using h)]
theorem set_toArray (vs : List Value) (k : Nat) (v : Value) : vs.toArray.setIfInBounds k v = (vs.set k v).toArray := by simp
theorem seqIndex_nat {i : Int} {n : Nat} (h0 : 0 ≤ i) (h : i.toNat < n) : seqIndex? i n = some i.toNat := by
  have h1 : ¬ i < 0 := by omega
  have h2 : i < (n : Int) := by omega
  simp [seqIndex?, h1, h0, h2]
/-- an item is taken out of one hidden list and put at the end of another -/
theorem Ex.appendPop {x y : Str} {xp ap pos pos' yp bp qos : Pos} {e : Expr} {a c : Addr} {ps ls : List P} {i : Int} {p : P} (b : B s₀ G S env s ρ [(a, ps), (c, ls)])
    (hx : ρ.lookup x = some (.val (.ref a))) (hy : ρ.lookup y = some (.val (.ref c))) (he : PE prog w A S env s e (.int i)) (h0 : 0 ≤ i) (hi : i < 2 ^ 62) (hp : ls[i.toNat]? = some p) (hz : ps.length ≤ 1000000) (hz' : ls.length ≤ 1000000)
    (k : ∀ s', B s₀ G S env s' ρ [(a, ps ++ [p]), (c, ls.eraseIdx i.toNat)] → Ex prog w A env rest Q E s')
    (hs : starEach [.Call (.Attribute (.Name y yp) (Str.ofString "pop") bp) [e] [] qos] env = [(false, eval (.Call (.Attribute (.Name y yp) (Str.ofString "pop") bp) [e] [] qos) env)] := by intros; rfl) (hs' : starEach [e] env = [(false, eval e env)] := by intros; rfl)
    (hline : (ap.endLine == pos.line) = true := by rfl) (hline' : (bp.endLine == qos.line) = true := by rfl) (hin : interactive env = false := by rfl)
    (hbase : attributeBase (.Name x xp) (Str.ofString "append") env (eval (.Name x xp) env) = eval (.Name x xp) env := by rfl) (hbase' : attributeBase (.Name y yp) (Str.ofString "pop") env (eval (.Name y yp) env) = eval (.Name y yp) env := by rfl)
    (hsw : swapsWith (.Call (.Attribute (.Name x xp) (Str.ofString "append") ap) [.Call (.Attribute (.Name y yp) (Str.ofString "pop") bp) [e] [] qos] [] pos) none pos'.line env = pure false := by rfl)
    (hd : (x == ("__debug__" : Str)) = false := by rfl) (hc : (x == ("__classdict__" : Str)) = false := by rfl) (hd' : (y == ("__debug__" : Str)) = false := by rfl) (hc' : (y == ("__classdict__" : Str)) = false := by rfl) :
    Ex prog w A env (.Expr (.Call (.Attribute (.Name x xp) (Str.ofString "append") ap) [.Call (.Attribute (.Name y yp) (Str.ofString "pop") bp) [e] [] qos] [] pos) pos' :: rest) Q E s := by
  refine ⟨wpAny_execs_cons (wpAny_Expr_any (Call_method1 hbase hs hline (wpAny_mono ((PE.name b.kind (b.names x _ hx) hd hc).go s (Kp.refl _) b.hidden E) (fun v s₁ ⟨hv, k1⟩ => ?_) fun _ _ e => e)) hin hsw)⟩
  cases hv.ofVal
  have b1 := b.kp k1
  obtain ⟨_, _, n, vs, hla, hia⟩ := b1.muts (a, ps) (by simp)
  refine onList PySem.F.slot_list_append PySem.F.type_list_append hla (PySem.P.append_list (Call_method1 hbase' hs' hline' (wpAny_mono ((PE.name b1.kind (b1.names y _ hy) hd' hc').go s₁ (Kp.refl _) b1.hidden E) (fun v s₂ ⟨hv, k2⟩ => ?_) fun _ _ e => e)))
  cases hv.ofVal
  have b2 := b1.kp k2
  obtain ⟨_, _, m, us, hlc, hic⟩ := b2.muts (c, ls) (by simp)
  refine onList PySem.F.slot_list_pop PySem.F.type_list_pop hlc (PySem.P.pop_at_list (wpAny_mono (he.go s₂ (k1.trans k2) b2.hidden E) (fun u s₃ ⟨hu, k3⟩ => ?_) fun _ _ e => e))
  obtain ⟨t, rfl⟩ := hu.ofInt
  have b3 := b2.kp k3
  have hlc3 := k3.get _ _ hlc
  have hic3 := hic.ext (k3.ext (S := S))
  obtain ⟨y', hy', hpi⟩ := hic3.get hp
  have hlt : i.toNat < us.length := (List.getElem?_eq_some_iff.mp hy').1
  have hul : us.length = ls.length := hic.length
  refine ⟨us.toArray, m, i, t, i.toNat, y', by rw [List.size_toArray, hul, sizeLine_eq]; show ls.length ≤ _; omega, rfl, hlc3, by simp [Builtin.List.listFitsIndex]; omega, ?_, by simpa using hy', ?_⟩
  · rw [List.size_toArray]
    exact seqIndex_nat h0 hlt
  · have hca : c ≠ a := fun q => by have := b.nd; subst q; simp at this
    have hh : hid S (s₃.heap.update c (Obj.mapSeq fun xs => xs.eraseIdxIfInBounds i.toNat)) = hid S s₃.heap := funext fun d => by
      unfold hid
      by_cases hd : d ∈ S
      · rw [if_pos hd, if_pos hd]
      · rw [if_neg hd, if_neg hd]; exact Heap.get?_update_ne _ _ _ _ fun q => hd (q ▸ (b.muts (c, ls) (by simp)).1)
    have hupd : IsL (s₃.heap.update c (Obj.mapSeq fun xs => xs.eraseIdxIfInBounds i.toNat)) c (us.eraseIdx i.toNat).toArray (m + 1) := by
      have := IsL.update hlc3 (fun xs => xs.eraseIdxIfInBounds i.toNat)
      rw [erase_toArray] at this
      have hne : ((us.eraseIdx i.toNat).toArray.size == us.toArray.size) = false := by
        simp only [List.size_toArray, List.length_eraseIdx_of_lt hlt, beq_eq_false_iff_ne]
        omega
      rw [hne] at this; exact this
    have b4 := b3.turned (μ₁ := [(a, ps)]) (μ₂ := []) (vs' := us.eraseIdx i.toNat) (ps' := ls.eraseIdx i.toNat) (tk := s₃.toks) (fun d hd => Heap.get?_update_ne _ _ _ _ hd) hupd (hic3.erase _)
    have hla4 : IsL (s₃.heap.update c (Obj.mapSeq fun xs => xs.eraseIdxIfInBounds i.toNat)) a vs.toArray n := (Heap.get?_update_ne _ _ _ _ (Ne.symm hca)).trans (k3.get _ _ (k2.get _ _ hla))
    refine ⟨vs.toArray, n, by rw [List.size_toArray, hia.length, sizeLine_eq]; show ps.length ≤ _; omega, hla4, (k _ (b4.turned (μ₁ := []) (vs' := vs ++ [y']) (n' := n + 1) (tk := s₃.toks) (fun d hd => Heap.get?_update_ne _ _ _ _ hd) ?_ ?_)).go⟩
    · have := IsL.update hla4 (fun xs => xs.push y')
      simpa using this
    · show Iss (hid S (s₃.heap.update c _)) _ _
      rw [hh]
      exact (hia.ext ((k2.trans k3).ext)).append (Iss.cons hpi Iss.nil)
/-- hidden lists come to light under their names -/
theorem B.reveal {S₁ : List Addr} (b : B s₀ G S env s ρ μ) (hS : ∀ c ∈ S₁, c ∈ S) (ρ' : List (Str × P)) (h : ∀ q ∈ ρ', ρ.lookup q.1 = some q.2 ∨ ∃ a ps, ρ.lookup q.1 = some (.val (.ref a)) ∧ (a, ps) ∈ μ ∧ a ∉ S₁ ∧ q.2 = .list ps) : B s₀ G S₁ env s ρ' [] := by
  have ex : LExt (hid S s.heap) (hid S₁ s.heap) := .of (hid_le hS)
  refine ⟨b.same, b.keep, b.kind, b.frame, b.inj, b.fresh, fun c m => b.hidden c (hS c m), fun x p e => ?_, (fun q m => nomatch m), List.nodup_nil⟩
  have hm : (x, p) ∈ ρ' := by
    clear h
    induction ρ' with
    | nil => simp at e
    | cons q r ih =>
      obtain ⟨y, q⟩ := q
      rw [List.lookup_cons] at e
      cases hb : x == y with
      | true => rw [hb] at e; cases e; rw [eq_of_beq hb]; exact .head _
      | false => rw [hb] at e; exact .tail _ (ih e)
  rcases h (x, p) hm with h1 | ⟨a, ps, h1, h2, h3, h4⟩
  · obtain ⟨v, l, i⟩ := b.names x p h1; exact ⟨v, l, i.ext ex⟩
  · obtain ⟨v, l, i⟩ := b.names x _ h1
    cases i.ofVal
    refine ⟨_, l, ?_⟩
    rw [show p = .list ps from h4]
    exact b.light h2 hS h3
theorem PF.repL {l r : Expr} {pos : Pos} {p : P} {b : Int} (hl : PE prog w A S env s l (.list [p])) (hr : PE prog w A S env s r (.int b)) (h0 : 0 ≤ b) (hz : b ≤ 16777216) : PF prog w A S env s (.BinOp l .Mult r pos) (List.replicate b.toNat p) :=
  ⟨fun s₁ k1 hS E => wpAny_BinOp (wpAny_mono (hl.go s₁ k1 hS E) (fun x s₂ ⟨hx, k2⟩ => wpAny_mono (hr.go s₂ (k1.trans k2) (hS.mono k2) E) (fun y s₃ ⟨hy, k3⟩ => by
    have hS3 := hS.mono (k2.trans k3)
    obtain ⟨c, k, vs, rfl, lx', ix⟩ := (hx.ext k3.ext).ofList; obtain ⟨u, rfl⟩ := hy.ofInt
    have lx := hid_list lx'
    simp only [Iss] at ix
    obtain ⟨v, r, rfl, iv, rfl⟩ := ix
    refine wpAny_binaryOp_repeat_ref (T := "list") (U := "int") (by decide) ⟨_, lx, rfl⟩ (fun s' => typeIs_int s' b u) noFill_list_mul F.fills_int_mul F.slot_int_rmul repeat_list F.slot_int_index.lookup
      (call_meets F.slot_int_rmul (typeIs_int _ b u) F.entry_int_rmul (F.args_int_rmul_2 _ _) (int___rmul___int_list b u c _ k)
      ⟨lx, rfl, ⟨_, lx, rfl⟩, call_meets F.slot_list_mul ⟨_, lx, rfl⟩ F.entry_list_mul (F.args_list_mul_2 _ _)
        (AutoListH.list___mul___list_int_3 c _ k b u (by simp [Builtin.List.listFitsIndex]; omega) (by simp; omega) (by simp [Builtin.List.listTooLong, sizeLine]; omega))
        ⟨lx, ?_⟩⟩)
    refine ⟨_, rfl, ?_, ?_, (k2.trans k3).trans (Kp.push _ _)⟩
    · cases q : s₁.heap.get? s₃.heap.objs.size with
      | none => rfl
      | some o => exact absurd (Heap.lt_size ((k2.trans k3).get _ _ q)) (Nat.lt_irrefl _)
    · have e : List.foldl (fun x1 x2 => x1 ++ x2) #[] (List.replicate (if ([v].toArray).isEmpty = true then 0 else b.toNat) [v].toArray) = (List.replicate b.toNat v).toArray := by
        rw [if_neg (by simp)]; exact rep_fold v _
      rw [e]
      exact hS3.newList (Iss.replicate iv _)) fun _ _ e => e) fun _ _ e => e)⟩
/-- an item of a hidden list is set -/
theorem Ex.setItem {o i value : Expr} {pos' pos : Pos} {a : Addr} {ps : List P} {j : Nat} {p : P} (μ₁ μ₂ : List (Addr × List P)) (b : B s₀ G S env s ρ (μ₁ ++ (a, ps) :: μ₂)) (hv : PE prog w A S env s value p) (ho : PE prog w A S env s o (.val (.ref a))) (hi : PE prog w A S env s i (.int j)) (hj : j < ps.length) (hz : ps.length ≤ 1000000)
    (k : ∀ s', B s₀ G S env s' ρ (μ₁ ++ (a, ps.set j p) :: μ₂) → Ex prog w A env rest Q E s') (hs : swapsWith value (some (.Subscript o i pos')) pos.line env = pure false := by rfl) :
    Ex prog w A env (.Assign [.Subscript o i pos'] value pos :: rest) Q E s := by
  refine ⟨wpAny_execs_cons (wpAny_Assign_Subscript (wpAny_mono (hv.go s (Kp.refl _) b.hidden E) (fun v s₁ ⟨hv, k1⟩ => wpAny_mono (ho.go s₁ k1 (b.hidden.mono k1) E) (fun ov s₂ ⟨ho, k2⟩ => wpAny_mono (hi.go s₂ (k1.trans k2) (b.hidden.mono (k1.trans k2)) E) (fun iv s₃ ⟨hi, k3⟩ => ?_) fun _ _ e => e) fun _ _ e => e) fun _ _ e => e) hs)⟩
  cases ho.ofVal
  obtain ⟨t, rfl⟩ := hi.ofInt
  have b3 := b.kp ((k1.trans k2).trans k3)
  obtain ⟨_, _, n, vs, hla, hia⟩ := b3.muts (a, ps) (by simp)
  have hlen : vs.length = ps.length := hia.length
  refine W.ki_setAt (n := n) hla (by omega) (by omega) (by rw [List.size_toArray]; omega) (k _ (b3.turned (vs' := vs.set j v) (n' := n) (tk := s₃.toks) (fun d hd => Heap.get?_update_ne _ _ _ _ hd) ?_ (hia.set j (hv.ext ((k2.trans k3).ext))))).go
  have := IsL.update hla (fun xs => xs.setIfInBounds (j : Int).toNat v)
  rw [set_toArray] at this
  simpa using this
/-- the dict of a table by ints, asked with a default -/
theorem PE.getInt {x : Str} {xp ap pos : Pos} {e e' : Expr} {dct : Addr} {fm : Int → Option Value} {i : Int} {q r : P} (ho : PE prog w A S env s (.Name x xp) (.val (.ref dct))) (hm : s.heap.MapOf (intKind prog w) dct fm) (hd : (dct == sysModules) = false)
    (he : PE prog w A S env s e (.int i)) (he' : PE prog w A S env s e' q) (hr : ∀ (s₂ : Shared) v, Is (hid S s₂.heap) q v → Is (hid S s₂.heap) r ((fm i).getD v))
    (hs : starEach [e, e'] env = [(false, eval e env), (false, eval e' env)] := by intros; rfl) (hbase : attributeBase (.Name x xp) (Str.ofString "get") env (eval (.Name x xp) env) = eval (.Name x xp) env := by intros; rfl) (hline : (ap.endLine == pos.line) = true := by rfl) :
    PE prog w A S env s (.Call (.Attribute (.Name x xp) (Str.ofString "get") ap) [e, e'] [] pos) r :=
  ⟨fun s₁ k1 hS E => Call_method2 hbase hs hline (wpAny_mono (ho.go s₁ k1 hS E) (fun v s₂ ⟨hv, k2⟩ => by
    cases hv.ofVal
    have keep : ∀ {s₃ : Shared}, Kp s s₃ → s₃.heap.MapOf (intKind prog w) dct fm := fun k => let ⟨o, es, ep, h, r⟩ := hm; ⟨o, es, ep, k.get _ _ h, r⟩
    refine ⟨"dict", "dict.get", F.plainAttrs_dict, F.slot_dict_get, F.type_dict_get, (keep (k1.trans k2)).typeIs, (keep (k1.trans k2)).noDict, ?_⟩
    refine wpAny_dict_get2 (knd := intKind prog w) hd (wpAny_mono (he.go s₂ (k1.trans k2) (hS.mono k2) E) (fun key s₃ ⟨hk, k3⟩ => wpAny_mono (he'.go s₃ ((k1.trans k2).trans k3) (hS.mono (k2.trans k3)) E) (fun dv s₄ ⟨hdv, k4⟩ => ?_) fun _ _ e => e) fun _ _ e => e)
    obtain ⟨t, rfl⟩ := hk.ofInt
    refine ⟨i, fm, ?_, keep (((k1.trans k2).trans k3).trans k4), hr _ _ hdv, ((k2.trans k3).trans k4).trans (Kp.toks _ _)⟩
    show Value.isInt i (.int i t) = true
    simp [Value.isInt]) fun _ _ e => e)⟩
end
end Mine

namespace Mine
open PySem PySem.Calls PyProof.Rows Builtin.Str
/-! ## the row's defs -/
def nth : Nat → List Stmt → Stmt
  | _, [] => .Pass ⟨0, 0, 0, 0⟩
  | 0, s :: _ => s
  | k + 1, _ :: r => nth k r
def fBody : Stmt → List Stmt
  | .FunctionDef _ _ b .. => b
  | _ => []
def fParams : Stmt → Arguments
  | .FunctionDef _ a .. => a
  | _ => { posonlyargs := [], args := [], vararg := none, kwonlyargs := [], kw_defaults := [], kwarg := none, defaults := [] }
def fScope : Stmt → Scope
  | .FunctionDef _ _ _ _ _ _ s .. => s
  | _ => default
def fName : Stmt → Str
  | .FunctionDef n .. => n
  | _ => Str.empty
def D (k : Nat) : Stmt := nth k PySem.Challenge.pw_rw0028_01.main.body
section
variable {prog : Program} {w : World} {K : W.Frag} {mg mb : Str → Option Value}
/-- what the world holds by name -/
structure Names (K : W.Frag) : Prop where
  len : W.nsIn K mainGlobals (Str.ofString "len") = some none
def atV (ns : List Int) (k : Nat) : Int := ns.getD k 0
theorem c_at (N : Names K) {f : Addr} {fd : FuncData} (hf : Fn K (fName (D 11)) (fParams (D 11)) (fBody (D 11)) (fScope (D 11)) f fd) (ns : List Int) (k : Nat) (hz : ns.length ≤ 1000) (hk : k < 1000) :
    PC prog w K mg mb 1 f [.list (ns.map .int), .int k] (.int (atV ns k)) := by
  refine PC.make [Str.ofString "script", Str.ofString "k"] hf rfl (fun vs h doc pm an cd ct => ?_) (by decide) (by decide +kernel) rfl rfl rfl fun A S s s₁ L cd hA hW hS b E => ?_
  · match vs, h with
    | [u, v], _ => rfl
  · unfold D PySem.Challenge.pw_rw0028_01 at b ⊢
    dsimp only [nth, fBody, fScope, fName] at b ⊢
    have W1 := hW.keeps b.keep
    refine Ex.fin b (PE.ite (PT.cmp (p := .int k) (q := .int ns.length) b.pe ?_ gLt) (fun h => ?_) fun h => ?_) (fun c m => m)
    · refine (PE.lenL (ps := ns.map .int) (PE.builtin W1 N.len rfl (by decide)) b.pe (by simp; omega)).eq (by simp)
    · have h' : k < ns.length := by simpa using h
      refine PE.item (ps := ns.map .int) (i := k) b.pe b.pe ?_ (by omega) (by omega)
      unfold pick atV
      rw [if_pos (by omega)]
      simp [List.getD, h']
    · have h' : ¬ k < ns.length := by simpa using h
      refine PE.const_int.eq ?_
      unfold atV
      simp [List.getD, h']
end
end Mine

namespace Mine
open PySem PySem.Calls PyProof.Rows Builtin.Str
section
variable {prog : Program} {w : World} {K : W.Frag} {mg mb : Str → Option Value}
def flagNames : List Str := ["OPTIMIZED", "NEWLOCALS", "VARARGS", "VARKEYWORDS", "NESTED", "GENERATOR", "NOFREE", "COROUTINE", "ITERABLE_COROUTINE", "ASYNC_GENERATOR"].map Str.ofString
def wordV (p : Nat) : Str :=
  if 31 < p then [Str.ofString "", Str.ofString "-"].getD (p / 9 % 2) Str.empty ++ Str.ofString "0x" ++ Txt.item (Str.ofString "3456789ab") ((p : Int) % 9) ++ Str.ofString "00000000"
  else if p < 10 then flagNames.getD p Str.empty else Str.ofString "0x" ++ Txt.item (Str.ofString "1248") ((p : Int) % 4) ++ Txt.mul (Str.ofString "0") ((p : Int) / 4)
def constsOf : List Expr → Option (List Str)
  | [] => some []
  | .Constant (.str x) _ _ :: r => (constsOf r).map (x :: ·)
  | _ => none
theorem PEs.consts {A : Around} {S : List Addr} {env : Env} {s : Shared} : ∀ {es : List Expr} {xs : List Str}, constsOf es = some xs → PEs prog w A S env s es (xs.map .str)
  | [], xs, h => by simp only [constsOf] at h; cases h; exact PEs.nil
  | .Constant (.str x) k pos :: r, xs, h => by
    simp only [constsOf] at h
    obtain ⟨ys, h1, rfl⟩ := Option.map_eq_some_iff.mp h
    exact PEs.cons PE.const_str (PEs.consts h1)
theorem mulOk_small {x : Str} {n : Int} (h0 : 0 ≤ n) (h1 : n ≤ 1000) (hx : x.length ≤ 1000) : MulOk x n := by
  have key : (x.length : Int) * n ≤ 1000000 := by
    have := Int.mul_le_mul (a := (x.length : Int)) (c := 1000) (b := n) (d := 1000) (by omega) h1 h0 (by omega)
    omega
  refine ⟨by simp; omega, fun h2 _ h3 => ?_, fun h2 _ => ?_⟩
  · have h4 : (1 : Int) ≤ n := by omega
    have h5 : (1000 : Int) ≤ (2 ^ 63 - 1) / n := by
      rw [Int.le_ediv_iff_mul_le (by omega)]; omega
    omega
  · unfold tooLong
    rw [decide_eq_false_iff_not]
    have h5 : ((x.length * n.toNat : Nat) : Int) ≤ 1000000 := by rw [Int.natCast_mul, Int.toNat_of_nonneg h0]; exact key
    have : sizeLine = 16777216 := sizeLine_eq
    omega
theorem nat_div (p k : Nat) : ((p : Int) / (k : Int)) = ((p / k : Nat) : Int) := rfl
theorem nat_mod (p k : Nat) : ((p : Int) % (k : Int)) = ((p % k : Nat) : Int) := rfl
theorem pick_map {α : Type} {f : α → P} {l : List α} {i : Nat} {a : α} (h : l[i]? = some a) : pick (l.map f) (i : Int) = some (f a) := by
  unfold pick
  rw [if_pos (by omega), Int.toNat_natCast, List.getElem?_map, h]; rfl
theorem w_facts : ∀ p : Fin 54, 31 < p.val → (Txt.charAt (Str.ofString "3456789ab") ((p.val : Int) % 9)).isSome = true ∧ (Txt.item (Str.ofString "3456789ab") ((p.val : Int) % 9)).length = 1 := by decide +kernel
theorem w_facts4 : ∀ p : Fin 32, (Txt.charAt (Str.ofString "1248") ((p.val : Int) % 4)).isSome = true ∧ (Txt.item (Str.ofString "1248") ((p.val : Int) % 4)).length = 1 ∧ (Txt.mul (Str.ofString "0") ((p.val : Int) / 4)).length ≤ 8 := by decide +kernel
theorem c_word {f : Addr} {fd : FuncData} (hf : Fn K (fName (D 12)) (fParams (D 12)) (fBody (D 12)) (fScope (D 12)) f fd) (p : Nat) (hp : p < 54) :
    PC prog w K mg mb 1 f [.int p] (.str (wordV p)) := by
  refine PC.make [Str.ofString "place"] hf rfl (fun vs h doc pm an cd ct => ?_) (by decide) (by decide +kernel) rfl rfl rfl fun A S s s₁ L cd hA hW hS b E => ?_
  · match vs, h with
    | [u], _ => rfl
  · unfold D PySem.Challenge.pw_rw0028_01 at b ⊢
    dsimp only [nth, fBody, fScope, fName] at b ⊢
    refine Ex.assign b (p := .list (flagNames.map .str)) ?_ ?_
    · exact PE.display (ps := flagNames.map .str) (PEs.consts (xs := flagNames) (by decide +kernel)) (by decide +kernel)
    intro s₂ b
    refine Ex.ifs b (c := decide ((31 : Int) < p)) ?_ ?_ ?_
    · exact PT.cmp (p := .int p) (q := .int 31) b.pe PE.const_int gGt
    · intro h s₃ b
      have h' : 31 < p := by have := of_decide_eq_true h; omega
      have w9 := w_facts ⟨p, hp⟩ h'
      have hpick : pick [P.str (Str.ofString ""), P.str (Str.ofString "-")] (((p : Int) / 9) % 2) = some (.str ([Str.ofString "", Str.ofString "-"].getD (p / 9 % 2) Str.empty)) := by
        have : p / 9 % 2 = 0 ∨ p / 9 % 2 = 1 := by omega
        rw [show ((p : Int) / 9) % 2 = ((p / 9 % 2 : Nat) : Int) from rfl]
        rcases this with e | e <;> rw [e] <;> rfl
      have hl1 : ([Str.ofString "", Str.ofString "-"].getD (p / 9 % 2) Str.empty).length ≤ 1 := by
        have : p / 9 % 2 = 0 ∨ p / 9 % 2 = 1 := by omega
        rcases this with e | e <;> rw [e] <;> decide +kernel
      refine Ex.fin b (p := .str (wordV p)) ?_ (fun c m => m)
      have l2 : (Str.ofString "0x").length = 2 := by decide +kernel
      have l8 : (Str.ofString "00000000").length = 8 := by decide +kernel
      have lA : ∀ a b : Str, (a ++ b).length = a.length + b.length := strLen_append
      refine PE.eq (p := .str (([Str.ofString "", Str.ofString "-"].getD (p / 9 % 2) Str.empty ++ Str.ofString "0x" ++ Txt.item (Str.ofString "3456789ab") ((p : Int) % 9)) ++ Str.ofString "00000000")) ?_ (by unfold wordV; rw [if_pos h'])
      refine PE.cat (PE.cat (PE.cat (PE.item (PE.display (PEs.cons PE.const_str (PEs.cons PE.const_str PEs.nil)) ?_) (PE.mod (PE.div b.pe PE.const_int ?_ ?_) PE.const_int ?_ ?_) hpick ?_ ?_) PE.const_str ?_) (PE.itemS PE.const_str (PE.mod b.pe PE.const_int ?_ ?_) w9.1 ?_) ?_) PE.const_str ?_
      all_goals first | decide | omega | (simp only [lA, l2, l8, w9.2]; omega) | (unfold fitsSsize; simp; omega)
    · intro h s₃ b
      have h' : ¬ 31 < p := by have := of_decide_eq_false h; omega
      have w4 := w_facts4 ⟨p, by omega⟩
      have l2 : (Str.ofString "0x").length = 2 := by decide +kernel
      have lA : ∀ a b : Str, (a ++ b).length = a.length + b.length := strLen_append
      refine Ex.skip ?_
      refine Ex.fin b (p := .str (wordV p)) ?_ (fun c m => m)
      refine PE.ite (PT.cmp (p := .int p) (q := .int 10) b.pe PE.const_int gLt) (fun h => ?_) fun h => ?_
      · have h2 : p < 10 := by have := of_decide_eq_true h; omega
        refine PE.eq (p := .str (flagNames.getD p Str.empty)) ?_ (by unfold wordV; rw [if_neg h', if_pos h2])
        refine PE.item (ps := flagNames.map .str) b.pe b.pe (pick_map ?_) (by omega) (by omega)
        rw [List.getD_eq_getElem?_getD, List.getElem?_eq_getElem (by simpa [flagNames] using h2)]; rfl
      · have h2 : ¬ p < 10 := by have := of_decide_eq_false h; omega
        refine PE.eq (p := .str ((Str.ofString "0x" ++ Txt.item (Str.ofString "1248") ((p : Int) % 4)) ++ Txt.mul (Str.ofString "0") ((p : Int) / 4))) ?_ (by unfold wordV; rw [if_neg h', if_neg h2])
        refine PE.cat (PE.cat PE.const_str (PE.itemS PE.const_str (PE.mod b.pe PE.const_int ?_ ?_) w4.1 ?_) ?_) (PE.rep PE.const_str (PE.div b.pe PE.const_int ?_ ?_) (mulOk_small ?_ ?_ ?_)) ?_
        all_goals first | decide | decide +kernel | omega | (have h1 := w4.2.1; have h3 := w4.2.2; simp only [lA, l2]; simp only [] at h1 h3; omega) | (unfold fitsSsize; simp; omega)
end
end Mine

namespace Mine
open PySem PySem.Calls PyProof.Rows Builtin.Str
section
variable {prog : Program} {w : World} {K : W.Frag} {mg mb : Str → Option Value}
def numV (p : Nat) : Int := if 31 < p then (3 + (p : Int) % 9) * (if p / 9 % 2 = 0 then 1 else -1) * 2 ^ (32 : Int).toNat else 2 ^ (p : Int).toNat
theorem mulOk_le {a b : Int} (h : a.natAbs < 2 ^ 62) : IntMulOk a b := .of_left (intBits_le_64 (by omega) (by omega))
theorem c_number {f : Addr} {fd : FuncData} (hf : Fn K (fName (D 13)) (fParams (D 13)) (fBody (D 13)) (fScope (D 13)) f fd) (p : Nat) (hp : p < 54) :
    PC prog w K mg mb 1 f [.int p] (.int (numV p)) := by
  refine PC.make [Str.ofString "place"] hf rfl (fun vs h doc pm an cd ct => ?_) (by decide) (by decide +kernel) rfl rfl rfl fun A S s s₁ L cd hA hW hS b E => ?_
  · match vs, h with
    | [u], _ => rfl
  · unfold D PySem.Challenge.pw_rw0028_01 at b ⊢
    dsimp only [nth, fBody, fScope, fName] at b ⊢
    refine Ex.ifs b (c := decide ((31 : Int) < p)) ?_ ?_ ?_
    · exact PT.cmp (p := .int p) (q := .int 31) b.pe PE.const_int gGt
    · intro h s₃ b
      have h' : 31 < p := by have := of_decide_eq_true h; omega
      have hpick : pick [P.int 1, P.int (-1)] ((p : Int) / 9 % 2) = some (.int (if p / 9 % 2 = 0 then 1 else -1)) := by
        have : p / 9 % 2 = 0 ∨ p / 9 % 2 = 1 := by omega
        rw [show ((p : Int) / 9) % 2 = ((p / 9 % 2 : Nat) : Int) from rfl]
        rcases this with e | e <;> rw [e] <;> rfl
      refine Ex.fin b (p := .int (numV p)) ?_ (fun c m => m)
      refine PE.eq (p := .int ((3 + (p : Int) % 9) * (if p / 9 % 2 = 0 then 1 else -1) * 2 ^ (32 : Int).toNat)) ?_ (by unfold numV; rw [if_pos h'])
      refine PE.mul (PE.mul (PE.add PE.const_int (PE.mod b.pe PE.const_int ?_ ?_)) (PE.item (PE.display (PEs.cons PE.const_int (PEs.cons (PE.neg PE.const_int) PEs.nil)) ?_) (PE.mod (PE.div b.pe PE.const_int ?_ ?_) PE.const_int ?_ ?_) hpick ?_ ?_) (mulOk_le ?_)) (PE.pow PE.const_int PE.const_int ?_ ?_ ?_) (mulOk_le ?_)
      all_goals first | decide | omega | skip
      split <;> omega
    · intro h s₃ b
      have h' : ¬ 31 < p := by have := of_decide_eq_false h; omega
      refine Ex.skip ?_
      refine Ex.fin b (p := .int (numV p)) ?_ (fun c m => m)
      refine PE.eq (p := .int (2 ^ (p : Int).toNat)) ?_ (by unfold numV; rw [if_neg h'])
      refine PE.pow PE.const_int b.pe ?_ ?_ ?_
      all_goals first | decide | omega
end
end Mine

namespace Mine
open PySem PySem.Calls PyProof.Rows Builtin.Str
/-- the builtins by name -/
structure NamesB (K : W.Frag) : Prop where
  len : W.nsIn K mainGlobals (Str.ofString "len") = some none
  list : W.nsIn K mainGlobals (Str.ofString "list") = some none
  range : W.nsIn K mainGlobals (Str.ofString "range") = some none
  sum : W.nsIn K mainGlobals (Str.ofString "sum") = some none
  min : W.nsIn K mainGlobals (Str.ofString "min") = some none
  hex : W.nsIn K mainGlobals (Str.ofString "hex") = some none
  sorted : W.nsIn K mainGlobals (Str.ofString "sorted") = some none
section
variable {prog : Program} {w : World} {K : W.Frag} {mg mb : Str → Option Value}
def plSt (x : Int) : Nat → Int × List Int × List Int
  | 0 => (x, (List.range ((32 : Int) - 0).toNat).map (fun i : Nat => (0 : Int) + (i : Int)), [])
  | k + 1 => ((plSt x k).1 / ((32 - k : Nat) : Int), (plSt x k).2.1.eraseIdx ((plSt x k).1 % ((32 - k : Nat) : Int)).toNat, (plSt x k).2.2 ++ [(plSt x k).2.1.getD ((plSt x k).1 % ((32 - k : Nat) : Int)).toNat 0])
def highL : List Int := (List.range ((54 : Int) - 36).toNat).map (fun i : Nat => (36 : Int) + (i : Int))
def placesV (x : Int) : List Int := (plSt x 3).2.2 ++ [((plSt x 3).2.1 ++ highL).getD ((plSt x 3).1 % 47).toNat 0]
theorem plSt_len (x : Int) : ∀ k, k ≤ 3 → (plSt x k).2.1.length = 32 - k ∧ (plSt x k).2.2.length = k
  | 0, _ => by simp [plSt]
  | k + 1, h => by
    obtain ⟨h1, h2⟩ := plSt_len x k (by omega)
    have h3 : ((plSt x k).1 % ((32 - k : Nat) : Int)).toNat < 32 - k := by
      have := Int.emod_lt_of_pos (plSt x k).1 (b := ((32 - k : Nat) : Int)) (by omega)
      have := Int.emod_nonneg (plSt x k).1 (b := ((32 - k : Nat) : Int)) (by omega)
      omega
    refine ⟨?_, ?_⟩
    · show ((plSt x k).2.1.eraseIdx _).length = _
      rw [List.length_eraseIdx_of_lt (by omega)]; omega
    · show ((plSt x k).2.2 ++ [_]).length = _
      simp [h2]
theorem getD_some {l : List Int} {i : Nat} (h : i < l.length) : l[i]? = some (l.getD i 0) := by
  rw [List.getD_eq_getElem?_getD, List.getElem?_eq_getElem h]; rfl
theorem map_erase {α β : Type} (f : α → β) : ∀ (l : List α) (k : Nat), (l.eraseIdx k).map f = (l.map f).eraseIdx k
  | [], _ => by simp
  | _ :: _, 0 => rfl
  | a :: r, k + 1 => by simp [map_erase f r k]
theorem c_places (N : NamesB K) {f : Addr} {fd : FuncData} (hf : Fn K (fName (D 14)) (fParams (D 14)) (fBody (D 14)) (fScope (D 14)) f fd) (x : Int) :
    PC prog w K mg mb 1 f [.int x] (.list ((placesV x).map .int)) := by
  refine PC.make [Str.ofString "x"] hf rfl (fun vs h doc pm an cd ct => ?_) (by decide) (by decide +kernel) rfl rfl rfl fun A S s s₁ L cd hA hW hS b E => ?_
  · match vs, h with
    | [u], _ => rfl
  unfold D PySem.Challenge.pw_rw0028_01 at b ⊢
  dsimp only [nth, fBody, fScope, fName] at b ⊢
  refine Ex.hide b (ps := upto 0 32) ?_ ?_ ?_
  · have W1 := hW.keeps b.keep
    refine PF.listRange hA (PE.builtin W1 N.list rfl (by decide)) (PR.one (PE.builtin W1 N.range rfl (by decide)) PE.const_int) ?_ ?_ ?_ ?_
    all_goals decide
  · intro p m
    obtain ⟨i, _, rfl⟩ := List.mem_map.mp m
    rfl
  intro aL s₂ haL b
  refine Ex.hide b (ps := []) ?_ ?_ ?_
  · exact PF.display PEs.nil (by decide)
  · intro p m; cases m
  intro aP s₃ haP b
  refine Ex.for (fun k => [(Str.ofString "x", .int (plSt x k).1), (Str.ofString "left", .val (.ref aL)), (Str.ofString "places", .val (.ref aP))]) (fun k => [(aP, (plSt x k).2.2.map .int), (aL, (plSt x k).2.1.map .int)]) b
    (items := [.int 32, .int 31, .int 30]) ?_ ?_ ?_ ?_ ?_ ?_
  · exact PI.list hA (PE.display (PEs.cons PE.const_int (PEs.cons PE.const_int (PEs.cons PE.const_int PEs.nil))) (by decide))
  · exact ⟨rfl, rfl, rfl, trivial⟩
  · rfl
  · intro k; rfl
  · intro k p hp S' G' s' hS' hG' b' E'
    have hk : k < 3 := (List.getElem?_eq_some_iff.mp hp).1
    have hp' : p = .int ((32 - k : Nat) : Int) := by
      have : k = 0 ∨ k = 1 ∨ k = 2 := by omega
      rcases this with rfl | rfl | rfl <;> (cases hp; rfl)
    subst hp'
    obtain ⟨hl1, hl2⟩ := plSt_len x k (by omega)
    have h1 := Int.emod_lt_of_pos (plSt x k).1 (b := ((32 - k : Nat) : Int)) (by omega)
    have h2 := Int.emod_nonneg (plSt x k).1 (b := ((32 - k : Nat) : Int)) (by omega)
    refine Ex.appendPop b' (a := aP) (c := aL) (i := (plSt x k).1 % ((32 - k : Nat) : Int)) (p := .int ((plSt x k).2.1.getD ((plSt x k).1 % ((32 - k : Nat) : Int)).toNat 0)) rfl rfl ?_ h2 (by omega) ?_ (by simp; omega) (by simp; omega) ?_
    · exact PE.mod b'.pe b'.pe (by omega) (by omega)
    · rw [List.getElem?_map, getD_some (by omega)]; rfl
    intro s'' b''
    refine Ex.assign b'' (p := .int ((plSt x k).1 / ((32 - k : Nat) : Int))) ?_ ?_
    · exact PE.div b''.pe b''.pe (by omega) (by omega)
    intro s3 b3
    refine Ex.skip ?_
    have b4 := b3.weaken [(Str.ofString "x", .int (plSt x (k + 1)).1), (Str.ofString "left", .val (.ref aL)), (Str.ofString "places", .val (.ref aP))] ⟨rfl, rfl, rfl, trivial⟩
    have e1 : (plSt x (k + 1)).2.2.map P.int = (plSt x k).2.2.map P.int ++ [P.int ((plSt x k).2.1.getD ((plSt x k).1 % ((32 - k : Nat) : Int)).toNat 0)] := by
      show ((plSt x k).2.2 ++ [_]).map P.int = _
      rw [List.map_append]; rfl
    have e2 : (plSt x (k + 1)).2.1.map P.int = ((plSt x k).2.1.map P.int).eraseIdx ((plSt x k).1 % ((32 - k : Nat) : Int)).toNat := by
      exact map_erase P.int _ _
    show B _ _ _ _ _ _ [(aP, (plSt x (k + 1)).2.2.map P.int), (aL, (plSt x (k + 1)).2.1.map P.int)]
    rw [e1, e2]; exact b4
  · intro s' b' E'
    refine Ex.skip ?_
    show Ex _ _ _ _ _ _ _ _
    obtain ⟨hl1, hl2⟩ := plSt_len x 3 (by omega)
    have b5 := b'.reveal (S₁ := S) (fun c m => .tail _ (.tail _ m)) [(Str.ofString "x", .int (plSt x 3).1), (Str.ofString "left", .list ((plSt x 3).2.1.map .int)), (Str.ofString "places", .list ((plSt x 3).2.2.map .int))] (by
      intro q m
      rcases List.mem_cons.mp m with rfl | m
      · exact .inl rfl
      rcases List.mem_cons.mp m with rfl | m
      · exact .inr ⟨aL, _, rfl, .tail _ (.head _), haL, rfl⟩
      rcases List.mem_cons.mp m with rfl | m
      · exact .inr ⟨aP, _, rfl, .head _, fun q => haP (.tail _ q), rfl⟩
      cases m)
    have W1 := hW.keeps b5.keep
    refine Ex.fin b5 (p := .list ((placesV x).map .int)) ?_ (fun c m => m)
    have h1 := Int.emod_lt_of_pos (plSt x 3).1 (b := 47) (by omega)
    have h2 := Int.emod_nonneg (plSt x 3).1 (b := 47) (by omega)
    refine PE.eq (p := .list ((plSt x 3).2.2.map .int ++ [.int (((plSt x 3).2.1 ++ highL).getD ((plSt x 3).1 % 47).toNat 0)])) ?_ (by unfold placesV; rw [List.map_append]; rfl)
    refine PE.catL b5.pe (PE.display (PEs.cons (PE.item (PE.catL b5.pe (PE.listRange hA (PE.builtin W1 N.list rfl (by decide)) (PR.two (PE.builtin W1 N.range rfl (by decide)) PE.const_int PE.const_int) ?_ ?_ ?_ ?_) ?_) (PE.mod b5.pe PE.const_int ?_ ?_) ?_ ?_ ?_) PEs.nil) ?_) ?_
    all_goals first | decide | omega | skip
    · simp only [List.length_map, upto_length]; omega
    · show pick ((plSt x 3).2.1.map P.int ++ highL.map P.int) _ = _
      rw [← List.map_append]
      unfold pick
      rw [if_pos h2, List.getElem?_map, getD_some (by rw [List.length_append, hl1]; simp [highL]; omega)]
      rfl
    · simp only [List.length_cons, List.length_nil]; omega
    · simp only [List.length_map, List.length_cons, List.length_nil]; omega
end
end Mine

namespace Mine
open PySem PySem.Calls PyProof.Rows Builtin.Str
section
variable {prog : Program} {w : World} {K : W.Frag} {mg mb : Str → Option Value} {A : Around} {s₀ : Shared} {G : Gt} {S : List Addr} {env : Env} {s : Shared} {ρ : List (Str × P)} {μ : List (Addr × List P)}
/-- a call of a def of the world -/
theorem PE.callP {x : Str} {pn pos : Pos} {name : Str} {params : Arguments} {body : List Stmt} {scope : Scope} {f : Addr} {fd : FuncData} {e : Expr} {es : List Expr} {ps : List P} {R : P} {d : Nat} (hf : Fn K name params body scope f fd) (hc : PC prog w K mg mb d f ps R) (hA : Ok d A) (hW : Wd K mg mb s.heap)
    (ha : PEs prog w A S env s (e :: es) ps) (hn : name = x := by rfl) (he : starEach (e :: es) env = (false, eval e env) :: starEach es env := by intros; rfl)
    (hk : env.scope.kind = .function := by rfl) (hg : env.globals = mainGlobals := by rfl) (hx : env.kindOf x = some .globalImplicit := by rfl) (hd : (x == ("__debug__" : Str)) = false := by rfl) :
    PE prog w A S env s (.Call (.Name x pn) (e :: es) [] pos) R := by
  subst hn
  obtain ⟨oc, od, osl, ho⟩ := hf.obj
  exact PE.callF (PE.global hW hf.bound hk hg hx hd) (hW.kin _ _ ho) rfl ha (fun vs s₂ k hS hv => hc.go A S s₂ vs hA (hW.keeps k.get) hS hv) he
theorem Gv.itemL {ps : List P} {i : Int} {p : P} {a : Addr} {t : Tok} {s₂ : Shared} {vs : List Value} {n : Nat} (la : IsL s₂.heap a vs.toArray n) (ia : Iss (hid S s₂.heap) ps vs) (hp : pick ps i = some p) (hz : i < 2 ^ 62) (hlo : -(2 ^ 62) ≤ i) : Gv prog w A S s₂ (getItem (.ref a) (.int i t)) p := fun E => by
  unfold pick at hp
  by_cases h0 : 0 ≤ i
  · rw [if_pos h0] at hp
    obtain ⟨v, hv, hi⟩ := ia.get hp
    exact wpAny_getItem_list la.isList h0 (by omega) (by simpa using hv) ⟨hi, Kp.refl _⟩
  · rw [if_neg h0] at hp
    by_cases h1 : -(ps.length : Int) ≤ i
    · rw [if_pos h1] at hp
      obtain ⟨v, hv, hi⟩ := ia.get hp
      exact wpAny_getItem_list_neg la.isList (by omega) (by simpa [ia.length] using h1) (by omega) (by simpa [ia.length] using hv) ⟨hi, Kp.refl _⟩
    · rw [if_neg h1] at hp; cases hp
/-- an item of a hidden list -/
theorem PE.itemH {x : Str} {px pos : Pos} {slice : Expr} {a : Addr} {ps : List P} {i : Int} {p : P} (b : B s₀ G S env s ρ μ) (hm : (a, ps) ∈ μ) (hi : PE prog w A S env s slice (.int i)) (hp : pick ps i = some p) (hz : i < 2 ^ 62) (hlo : -(2 ^ 62) ≤ i) (hx : ρ.lookup x = some (.val (.ref a)) := by rfl)
    (hd : (x == ("__debug__" : Str)) = false := by rfl) (hc : (x == ("__classdict__" : Str)) = false := by rfl)
    (hs : ∀ a t, subscripted slice false (.ref a) (.int i t) = operate [.ref a, .int i t] (getItem (.ref a) (.int i t)) := by intros; with_unfolding_all rfl) : PE prog w A S env s (.Subscript (.Name x px) slice pos) p :=
  ⟨fun s₁ k hS E => Subscript_ (wpAny_mono ((PE.name b.kind (b.names x _ hx) hd hc).go s₁ k hS E) (fun u s₂ ⟨hu, k2⟩ => wpAny_mono (hi.go s₂ (k.trans k2) (hS.mono k2) E) (fun v s₃ ⟨hv, k3⟩ => by
    cases hu.ofVal
    obtain ⟨t, rfl⟩ := hv.ofInt
    obtain ⟨_, _, n, vs, la, ia⟩ := (b.kp ((k.trans k2).trans k3)).muts (a, ps) hm
    refine tail_any la.isList.typeIs slot_list_getitem.lookup (wpAny_mono (Gv.itemL la ia hp hz hlo E) (fun y s₄ ⟨hy, k4⟩ => ⟨hy, (k2.trans k3).trans k4⟩) fun _ _ e => e) (hs _ _)) fun _ _ e => e) fun _ _ e => e)⟩
/-! ## hosts -/
def hostsV (root : Str) (ws : List Str) (ab : List Int) : Nat → List Str
  | 0 => [root]
  | k + 1 => hostsV root ws ab k ++ [(ws.getD k Str.empty ++ Str.ofString ".") ++ (hostsV root ws ab k).getD (ab.getD k 0).toNat Str.empty]
theorem hostsV_len (root : Str) (ws : List Str) (ab : List Int) : ∀ k, (hostsV root ws ab k).length = k + 1
  | 0 => rfl
  | k + 1 => by rw [hostsV, List.length_append, hostsV_len]; rfl
theorem getD_someS {l : List Str} {i : Nat} (h : i < l.length) : l[i]? = some (l.getD i Str.empty) := by
  rw [List.getD_eq_getElem?_getD, List.getElem?_eq_getElem h]; rfl
theorem hostsV_short {root : Str} {ws : List Str} {ab : List Int} (hr : root.length ≤ 30) (hw : ∀ x ∈ ws, x.length ≤ 20) : ∀ k, ∀ x ∈ hostsV root ws ab k, x.length ≤ 30 + 30 * k
  | 0, x, m => by rw [List.mem_singleton.mp m]; omega
  | k + 1, x, m => by
    rw [hostsV] at m
    rcases List.mem_append.mp m with m | m
    · have := hostsV_short hr hw k x m; omega
    · rw [List.mem_singleton.mp m]
      rw [strLen_append, strLen_append]
      have e0 : Str.empty.length = 0 := rfl
      have e1 : (Str.ofString ".").length = 1 := by decide +kernel
      have e2 : (ws.getD k Str.empty).length ≤ 20 := by
        rw [List.getD_eq_getElem?_getD]
        cases h : ws[k]? with
        | none => exact Nat.zero_le _
        | some y => exact hw y (List.mem_of_getElem? h)
      have e3 : ((hostsV root ws ab k).getD (ab.getD k 0).toNat Str.empty).length ≤ 30 + 30 * k := by
        rw [List.getD_eq_getElem?_getD]
        cases h : (hostsV root ws ab k)[(ab.getD k 0).toNat]? with
        | none => exact Nat.zero_le _
        | some y => exact hostsV_short hr hw k y (List.mem_of_getElem? h)
      omega
theorem upto_get {n : Int} {k : Nat} {p : P} (hp : (upto 0 n)[k]? = some p) : p = .int (k : Int) ∧ k < n.toNat := by
  have h1 := (List.getElem?_eq_some_iff.mp hp).1
  rw [upto_length, Int.sub_zero] at h1
  unfold upto at hp
  rw [List.getElem?_map, List.getElem?_map, List.getElem?_range (by simpa using h1)] at hp
  cases hp
  exact ⟨by simp, h1⟩
theorem c_hosts (N : NamesB K) {f : Addr} {fd : FuncData} (hf : Fn K (fName (D 15)) (fParams (D 15)) (fBody (D 15)) (fScope (D 15)) f fd) (root : Str) (ws : List Str) (ab : List Int) (hr : root.length ≤ 30) (hw : ∀ x ∈ ws, x.length ≤ 20) (hwl : ws.length = 4) (hal : ab.length = 4)
    (hab : ∀ k, k < 4 → 0 ≤ ab.getD k 0 ∧ ab.getD k 0 ≤ k) :
    PC prog w K mg mb 1 f [.str root, .list (ws.map .str), .list (ab.map .int)] (.list ((hostsV root ws ab 4).map .str)) := by
  refine PC.make [Str.ofString "root", Str.ofString "words", Str.ofString "above"] hf rfl (fun vs h doc pm an cd ct => ?_) (by decide) (by decide +kernel) rfl rfl rfl fun A S s s₁ L cd hA hW hS b E => ?_
  · match vs, h with
    | [u, v, y], _ => rfl
  unfold D PySem.Challenge.pw_rw0028_01 at b ⊢
  dsimp only [nth, fBody, fScope, fName] at b ⊢
  refine Ex.hide b (ps := [.str root]) ?_ ?_ ?_
  · exact PF.display (PEs.cons b.pe PEs.nil) (by simp)
  · intro p m; rw [List.mem_singleton.mp m]; rfl
  intro a s₂ ha b
  refine Ex.for (fun k => [(Str.ofString "root", .str root), (Str.ofString "words", .list (ws.map .str)), (Str.ofString "above", .list (ab.map .int)), (Str.ofString "hosts", .val (.ref a))]) (fun k => [(a, (hostsV root ws ab k).map .str)]) b
    (items := upto 0 4) ?_ ?_ ?_ ?_ ?_ ?_
  · have W1 := hW.keeps b.keep
    exact PI.range hA (PR.one (PE.builtin W1 N.range rfl (by decide)) PE.const_int) (by decide) (by decide) (by decide) (by decide)
  · exact ⟨rfl, rfl, rfl, rfl, trivial⟩
  · rfl
  · intro k; rfl
  · intro k p hp S' G' s' hS' hG' b' E'
    obtain ⟨rfl, hk⟩ := upto_get hp
    have hk : k < 4 := hk
    obtain ⟨ha0, ha1⟩ := hab k hk
    have hsh := hostsV_short hr hw (ab := ab) k
    have hlen := hostsV_len root ws ab k
    have hget : (hostsV root ws ab k)[(ab.getD k 0).toNat]? = some ((hostsV root ws ab k).getD (ab.getD k 0).toNat Str.empty) := getD_someS (by omega)
    have hwk : ws[k]? = some (ws.getD k Str.empty) := getD_someS (by omega)
    refine Ex.append (a := a) [] [] b' rfl (p := .str ((ws.getD k Str.empty ++ Str.ofString ".") ++ (hostsV root ws ab k).getD (ab.getD k 0).toNat Str.empty)) ?_ (by simp; omega) ?_
    · refine PE.cat (PE.cat (PE.item (i := k) b'.pe b'.pe (pick_map hwk) ?_ ?_) PE.const_str ?_) (PE.itemH b' (.head _) (PE.item (i := k) b'.pe b'.pe (pick_map (a := ab.getD k 0) (getD_some ?_)) ?_ ?_) ?_ ?_ ?_) ?_
      all_goals first | omega | skip
      · have := hw _ (List.mem_of_getElem? hwk)
        have e1 : (Str.ofString ".").length = 1 := by decide +kernel
        omega
      · unfold pick; rw [if_pos ha0, List.getElem?_map, hget]; rfl
      · rw [strLen_append]
        have := hw _ (List.mem_of_getElem? hwk)
        have := hsh _ (List.mem_of_getElem? hget)
        have e1 : (Str.ofString ".").length = 1 := by decide +kernel
        omega
    intro s'' b''
    refine Ex.skip ?_
    have b4 := b''.weaken [(Str.ofString "root", .str root), (Str.ofString "words", .list (ws.map .str)), (Str.ofString "above", .list (ab.map .int)), (Str.ofString "hosts", .val (.ref a))] ⟨rfl, rfl, rfl, rfl, trivial⟩
    show B _ _ _ _ _ _ [(a, (hostsV root ws ab (k + 1)).map P.str)]
    rw [hostsV, List.map_append]; exact b4
  · intro s' b' E'
    refine Ex.skip ?_
    show Ex _ _ _ _ _ _ _ _
    exact Ex.finList b' rfl (.head _) (fun c m => .tail _ m) ha
end
end Mine

namespace Mine
open PySem PySem.Calls PyProof.Rows Builtin.Str
section
variable {prog : Program} {w : World} {K : W.Frag} {mg mb : Str → Option Value}
def numbersV (ps : List Int) (ab : List Int) : Nat → List Int
  | 0 => [0]
  | k + 1 => numbersV ps ab k ++ [(numbersV ps ab k).getD (ab.getD k 0).toNat 0 + numV (ps.getD k 0).toNat]
theorem numbersV_len (ps : List Int) (ab : List Int) : ∀ k, (numbersV ps ab k).length = k + 1
  | 0 => rfl
  | k + 1 => by rw [numbersV, List.length_append, numbersV_len]; rfl
theorem c_numbers (N : NamesB K) {fn : Addr} {fdn : FuncData} (hfn : Fn K (fName (D 13)) (fParams (D 13)) (fBody (D 13)) (fScope (D 13)) fn fdn)
    {f : Addr} {fd : FuncData} (hf : Fn K (fName (D 16)) (fParams (D 16)) (fBody (D 16)) (fScope (D 16)) f fd) (ps : List Int) (ab : List Int) (hpl : ps.length = 4) (hps : ∀ k, k < 4 → 0 ≤ ps.getD k 0 ∧ ps.getD k 0 < 54) (hal : ab.length = 4)
    (hab : ∀ k, k < 4 → 0 ≤ ab.getD k 0 ∧ ab.getD k 0 ≤ k) :
    PC prog w K mg mb 2 f [.list (ps.map .int), .list (ab.map .int)] (.list ((numbersV ps ab 4).map .int)) := by
  refine PC.make [Str.ofString "places", Str.ofString "above"] hf rfl (fun vs h doc pm an cd ct => ?_) (by decide) (by decide +kernel) rfl rfl rfl fun A S s s₁ L cd hA hW hS b E => ?_
  · match vs, h with
    | [u, v], _ => rfl
  unfold D PySem.Challenge.pw_rw0028_01 at b ⊢
  dsimp only [nth, fBody, fScope, fName] at b ⊢
  refine Ex.hide b (ps := [.int 0]) ?_ ?_ ?_
  · exact PF.display (PEs.cons PE.const_int PEs.nil) (by simp)
  · intro p m; rw [List.mem_singleton.mp m]; rfl
  intro a s₂ ha b
  refine Ex.for (fun k => [(Str.ofString "places", .list (ps.map .int)), (Str.ofString "above", .list (ab.map .int)), (Str.ofString "numbers", .val (.ref a))]) (fun k => [(a, (numbersV ps ab k).map .int)]) b
    (items := upto 0 4) ?_ ?_ ?_ ?_ ?_ ?_
  · have W1 := hW.keeps b.keep
    exact PI.range hA (PR.one (PE.builtin W1 N.range rfl (by decide)) PE.const_int) (by decide) (by decide) (by decide) (by decide)
  · exact ⟨rfl, rfl, rfl, trivial⟩
  · rfl
  · intro k; rfl
  · intro k p hp S' G' s' hS' hG' b' E'
    obtain ⟨rfl, hk⟩ := upto_get hp
    have hk : k < 4 := hk
    obtain ⟨ha0, ha1⟩ := hab k hk
    obtain ⟨hp0, hp1⟩ := hps k hk
    have hlen := numbersV_len ps ab k
    have hget : (numbersV ps ab k)[(ab.getD k 0).toNat]? = some ((numbersV ps ab k).getD (ab.getD k 0).toNat 0) := getD_some (by omega)
    have W1 := hW.keeps (fun c o e => b'.keep c o (hG' c o e))
    refine Ex.append (a := a) [] [] b' rfl (p := .int ((numbersV ps ab k).getD (ab.getD k 0).toNat 0 + numV (ps.getD k 0).toNat)) ?_ (by simp; omega) ?_
    · refine PE.add (PE.itemH b' (.head _) (PE.item (i := k) b'.pe b'.pe (pick_map (a := ab.getD k 0) (getD_some ?_)) ?_ ?_) ?_ ?_ ?_) (PE.callP hfn (c_number hfn (ps.getD k 0).toNat (by omega)) hA W1 (PEs.cons (PE.eq (PE.item (i := k) b'.pe b'.pe (pick_map (a := ps.getD k 0) (getD_some ?_)) ?_ ?_) ?_) PEs.nil))
      all_goals first | omega | skip
      · unfold pick; rw [if_pos ha0, List.getElem?_map, hget]; rfl
      · rw [Int.toNat_of_nonneg hp0]
    intro s'' b''
    refine Ex.skip ?_
    have b4 := b''.weaken [(Str.ofString "places", .list (ps.map .int)), (Str.ofString "above", .list (ab.map .int)), (Str.ofString "numbers", .val (.ref a))] ⟨rfl, rfl, rfl, trivial⟩
    show B _ _ _ _ _ _ [(a, (numbersV ps ab (k + 1)).map P.int)]
    rw [numbersV, List.map_append]; exact b4
  · intro s' b' E'
    refine Ex.skip ?_
    show Ex _ _ _ _ _ _ _ _
    exact Ex.finList b' rfl (.head _) (fun c m => .tail _ m) ha
end
end Mine

namespace Mine
open PySem PySem.Calls PyProof.Rows Builtin.Str
section
variable {prog : Program} {w : World} {K : W.Frag} {mg mb : Str → Option Value}
/-- the table of names -/
structure Tab (prog : Program) (w : World) (K : W.Frag) (dct : Addr) : Prop where
  bound : W.nsIn K mainGlobals (Str.ofString "COMPILER_FLAG_NAMES") = some (some (.ref dct))
  map : ∃ fm, (∀ h, K.In h → h.MapOf (intKind prog w) dct fm) ∧ (∀ i, i < 10 → ∃ t, fm (2 ^ i) = some (.str (flagNames.getD i Str.empty) t)) ∧ ∀ i, 10 ≤ i → i < 32 → fm (2 ^ i) = none
  ne : (dct == sysModules) = false
def flag (k : Nat) : Int := 1 * 2 ^ (k : Int).toNat
theorem flag_eq (k : Nat) : flag k = 2 ^ k := by unfold flag; rw [Int.one_mul, Int.toNat_natCast]
def nmV (k : Nat) : Str := if k < 10 then flagNames.getD k Str.empty else baseText "0x" 16 (flag k)
def pfSt (n : Int) : Nat → Int × List Str
  | 0 => (n, [])
  | k + 1 => if Builtin.bitAnd (pfSt n k).1 (flag k) = 0 then pfSt n k else (Builtin.bitXor (pfSt n k).1 (flag k), (pfSt n k).2 ++ [nmV k])
def pfV (n : Int) : List Str := if (pfSt n 32).1 = 0 ∧ n ≠ 0 then (pfSt n 32).2 else (pfSt n 32).2 ++ [baseText "0x" 16 (pfSt n 32).1]
theorem pfSt_len (n : Int) : ∀ k, (pfSt n k).2.length ≤ k
  | 0 => Nat.le_refl _
  | k + 1 => by
    have := pfSt_len n k
    unfold pfSt
    split
    · omega
    · simp; omega
theorem and_zero (y : Int) : Builtin.bitAnd 0 y = 0 := by
  unfold Builtin.bitAnd
  by_cases h : 0 ≤ y
  · simp [h]
  · simp [h]
theorem pfSt_stay {n : Int} {k : Nat} (h : (pfSt n k).1 = 0) : ∀ j, pfSt n (k + j) = pfSt n k
  | 0 => rfl
  | j + 1 => by
    have := pfSt_stay h j
    rw [← Nat.add_assoc, pfSt, this, if_pos (by rw [h, and_zero])]
theorem flag_small : ∀ k : _root_.Fin 32, (baseText "0x" 16 (flag k.val)).length ≤ 20 := by decide +kernel
theorem Ex.brk {A : Around} {env : Env} {pos : Pos} {rest : List Stmt} {Q : Flow → Shared → Prop} {E : Value → Shared → Prop} {s : Shared} (h : Q .brk s) : Ex prog w A env (.Break pos :: rest) Q E s := ⟨wpAny_execs_cons (wpAny_Break h)⟩
theorem c_pf (N : NamesB K) {dct : Addr} (T : Tab prog w K dct) {f : Addr} {fd : FuncData} (hf : Fn K (fName (D 3)) (fParams (D 3)) (fBody (D 3)) (fScope (D 3)) f fd) (n : Int)
    (hz : (baseText "0x" 16 (pfSt n 32).1).length ≤ 1000000) (hj : JoinOk (Str.ofString ", ") (pfV n) = true) :
    PC prog w K mg mb 1 f [.int n] (.str (Txt.join (Str.ofString ", ") (pfV n))) := by
  refine PC.make [Str.ofString "flags"] hf rfl (fun vs h doc pm an cd ct => ?_) (by decide) (by decide +kernel) rfl rfl rfl fun A S s s₁ L cd hA hW hS b E => ?_
  · match vs, h with
    | [u], _ => rfl
  unfold D PySem.Challenge.pw_rw0028_01 at b ⊢
  dsimp only [nth, fBody, fScope, fName] at b ⊢
  refine Ex.hide b (ps := []) ?_ ?_ ?_
  · exact PF.display PEs.nil (by decide)
  · intro p m; cases m
  intro a s₂ ha b
  refine Ex.forI (fun k => [(Str.ofString "flags", .int (pfSt n k).1), (Str.ofString "names", .val (.ref a))]) (fun k => [(a, (pfSt n k).2.map .str)]) (fun k => (pfSt n k).1 ≠ 0 ∨ n = 0) b
    (items := upto 0 32) ?_ ?_ ?_ ?_ ?_ ?_ ?_
  · have W1 := hW.keeps b.keep
    exact PI.range hA (PR.one (PE.builtin W1 N.range rfl (by decide)) PE.const_int) (by decide) (by decide) (by decide) (by decide)
  · show n ≠ 0 ∨ n = 0
    omega
  · exact ⟨rfl, rfl, trivial⟩
  · rfl
  · intro k; rfl
  · intro k p hp hi S' G' s' hS' hG' b' E'
    obtain ⟨rfl, hk⟩ := upto_get hp
    have hk : k < 32 := hk
    have W1 := hW.keeps (fun c o e => b'.keep c o (hG' c o e))
    have hsm := flag_small ⟨k, hk⟩
    have hln := pfSt_len n k
    refine Ex.assign b' (p := .int (flag k)) ?_ ?_
    · exact PE.shl PE.const_int b'.pe (by omega) (by omega) (by decide)
    intro s3 b3
    refine Ex.ifs b3 (c := (Builtin.bitAnd (pfSt n k).1 (flag k) != 0)) ?_ ?_ ?_
    · exact PT.ofInt (PE.band b3.pe b3.pe)
    · intro hc s4 b4
      have hne : ¬ Builtin.bitAnd (pfSt n k).1 (flag k) = 0 := by simpa using hc
      have hst : pfSt n (k + 1) = (Builtin.bitXor (pfSt n k).1 (flag k), (pfSt n k).2 ++ [nmV k]) := by rw [pfSt, if_neg hne]
      have W4 := hW.keeps (fun c o e => b4.keep c o (hG' c o e))
      refine Ex.append (a := a) [] [] b4 rfl (p := .str (nmV k)) ?_ (by simp; omega) ?_
      · obtain ⟨fm, h1, h2, h3⟩ := T.map
        refine PE.getInt (fm := fm) (i := flag k) (q := .str (baseText "0x" 16 (flag k))) (PE.global W4 T.bound) (h1 _ W4.kin) T.ne b4.pe (PE.hex (PE.builtin W4 N.hex rfl (by decide)) b4.pe (by have : (baseText "0x" 16 (flag k)).length ≤ 20 := hsm; omega)) ?_
        intro s₅ v hv
        by_cases hk10 : k < 10
        · obtain ⟨t, ht⟩ := h2 k hk10
          rw [flag_eq, ht]
          unfold nmV; rw [if_pos hk10]; exact Is.str
        · rw [flag_eq, h3 k (by omega) hk]
          unfold nmV; rw [if_neg hk10]; exact hv
      intro s5 b5
      refine Ex.aug b5 (p := .int (pfSt n k).1) (q := .int (flag k)) (r := .int (Builtin.bitXor (pfSt n k).1 (flag k))) rfl b5.pe ?_ ?_
      · intro u v s₂ _ hu hv E
        obtain ⟨t, rfl⟩ := hu.ofInt
        obtain ⟨t', rfl⟩ := hv.ofInt
        exact PyProof.Rows.ixor_int ⟨Is.int, Kp.toks _ _⟩
      intro s6 b6
      refine Ex.ifs b6 (c := !(Builtin.bitXor (pfSt n k).1 (flag k) != 0)) ?_ ?_ ?_
      · exact PT.not (PT.ofInt b6.pe)
      · intro hc s7 b7
        refine Ex.brk ?_
        show Ex _ _ _ _ _ _ _ _
        have h0 : Builtin.bitXor (pfSt n k).1 (flag k) = 0 := by simpa using hc
        have hn0 : n ≠ 0 := by
          rcases hi with h | h
          · intro q
            subst q
            have := pfSt_stay (n := 0) (k := 0) rfl k
            rw [Nat.zero_add] at this
            rw [this] at h; exact h rfl
          · subst h
            have := pfSt_stay (n := 0) (k := 0) rfl k
            rw [Nat.zero_add] at this
            rw [this] at hne
            exact absurd (and_zero _) hne
        have e32 : pfSt n 32 = pfSt n (k + 1) := by
          have := pfSt_stay (n := n) (k := k + 1) (by rw [hst]; exact h0) (32 - (k + 1))
          rwa [show k + 1 + (32 - (k + 1)) = 32 by omega] at this
        have hV : pfV n = (pfSt n k).2 ++ [nmV k] := by
          unfold pfV
          rw [if_pos ⟨by rw [e32, hst]; exact h0, hn0⟩, e32, hst]
        have b8 := (b7.less (G := s.heap.get?) (S := a :: S) hG' hS' (fun q m => by rw [List.mem_singleton.mp m]; exact .head _)).reveal (S₁ := S) (fun c m => .tail _ m) [(Str.ofString "names", .list (((pfSt n k).2 ++ [nmV k]).map .str))] (by
          intro q m
          rw [List.mem_singleton.mp m]
          exact .inr ⟨a, _, rfl, .head _, ha, by rw [List.map_append]; rfl⟩)
        refine Ex.fin b8 (p := .str (Txt.join (Str.ofString ", ") (pfV n))) ?_ (fun c m => m)
        rw [hV] at hj ⊢
        exact PE.join PE.const_str b8.pe hj
      · intro hc s7 b7
        refine Ex.skip ?_
        show Ex _ _ _ _ _ _ _ _
        refine Ex.skip ?_
        show Ex _ _ _ _ _ _ _ _
        refine Ex.skip ?_
        have h0 : ¬ Builtin.bitXor (pfSt n k).1 (flag k) = 0 := by simpa using hc
        refine ⟨?_, .inl (by rw [hst]; exact h0)⟩
        have b8 := b7.weaken [(Str.ofString "flags", .int (pfSt n (k + 1)).1), (Str.ofString "names", .val (.ref a))] ⟨by rw [hst]; rfl, rfl, trivial⟩
        show B _ _ _ _ _ _ [(a, (pfSt n (k + 1)).2.map P.str)]
        rw [hst, List.map_append]; rw [hst] at b8; exact b8
    · intro hc s4 b4
      have hne : Builtin.bitAnd (pfSt n k).1 (flag k) = 0 := by simpa using hc
      have hst : pfSt n (k + 1) = pfSt n k := by rw [pfSt, if_pos hne]
      refine Ex.skip ?_
      show Ex _ _ _ _ _ _ _ _
      refine Ex.skip ?_
      refine ⟨?_, by rw [hst]; exact hi⟩
      have b8 := b4.weaken [(Str.ofString "flags", .int (pfSt n (k + 1)).1), (Str.ofString "names", .val (.ref a))] ⟨by rw [hst]; rfl, rfl, trivial⟩
      show B _ _ _ _ _ _ [(a, (pfSt n (k + 1)).2.map P.str)]
      rw [hst]; rw [hst] at b8; exact b8
  · intro hi s' b' E'
    have hi : (pfSt n 32).1 ≠ 0 ∨ n = 0 := hi
    have W1 := hW.keeps b'.keep
    have hV : pfV n = (pfSt n 32).2 ++ [baseText "0x" 16 (pfSt n 32).1] := by
      unfold pfV
      rw [if_neg fun h => hi.elim (fun q => q h.1) fun q => h.2 q]
    have hln := pfSt_len n 32
    refine Ex.append (a := a) [] [] b' rfl (p := .str (baseText "0x" 16 (pfSt n 32).1)) ?_ (by simp; show (pfSt n 32).2.length ≤ _; omega) ?_
    · exact PE.hex (PE.builtin W1 N.hex rfl (by decide)) b'.pe (by omega)
    intro s3 b3
    refine Ex.skip ?_
    show Ex _ _ _ _ _ _ _ _
    have b8 := b3.reveal (S₁ := S) (fun c m => .tail _ m) [(Str.ofString "names", .list (((pfSt n 32).2 ++ [baseText "0x" 16 (pfSt n 32).1]).map .str))] (by
      intro q m
      rw [List.mem_singleton.mp m]
      exact .inr ⟨a, _, rfl, .head _, ha, by rw [List.map_append]; rfl⟩)
    refine Ex.fin b8 (p := .str (Txt.join (Str.ofString ", ") (pfV n))) ?_ (fun c m => m)
    rw [hV] at hj ⊢
    exact PE.join PE.const_str b8.pe hj
end
end Mine

namespace Mine
open PySem PySem.Calls PyProof.Rows Builtin.Str
section
variable {prog : Program} {w : World} {K : W.Frag} {mg mb : Str → Option Value}
def ent (t : List (List Int)) (r c : Nat) : Int := (t.getD r []).getD c 0
def colsOf (ch : Nat) : List Nat := (List.range 5).filter fun c => ch / 2 ^ c % 2 == 1
def wAt (t : List (List Int)) (ws : List Int) (ch : Nat) (cs : List Nat) : Nat → Int
  | 0 => 0
  | j + 1 => ent t (cs.length - 1) (cs.getD j 0) * ws.getD (ch - 2 ^ cs.getD j 0) 0 - wAt t ws ch cs j
def detWs (t : List (List Int)) : Nat → List Int
  | 0 => [1]
  | k + 1 => detWs t k ++ [wAt t (detWs t k) (k + 1) (colsOf (k + 1)) (colsOf (k + 1)).length]
def detV (t : List (List Int)) : Int := (detWs t 31).getD 31 0
theorem detWs_len (t : List (List Int)) : ∀ k, (detWs t k).length = k + 1
  | 0 => rfl
  | k + 1 => by rw [detWs, List.length_append, detWs_len]; rfl
theorem upto_getA {a n : Int} {k : Nat} {p : P} (hp : (upto a n)[k]? = some p) : p = .int (a + k) ∧ k < (n - a).toNat := by
  have h1 := (List.getElem?_eq_some_iff.mp hp).1
  rw [upto_length] at h1
  unfold upto at hp
  rw [List.getElem?_map, List.getElem?_map, List.getElem?_range (by simpa using h1)] at hp
  cases hp
  exact ⟨rfl, h1⟩
theorem c_det (N : NamesB K) {f : Addr} {fd : FuncData} (hf : Fn K (fName (D 20)) (fParams (D 20)) (fBody (D 20)) (fScope (D 20)) f fd) (t : List (List Int)) (htl : t.length = 5) (htr : ∀ r ∈ t, r.length = 5)
    (hm : ∀ k, k < 31 → ∀ c ∈ colsOf (k + 1), IntMulOk (ent t ((colsOf (k + 1)).length - 1) c) ((detWs t k).getD (k + 1 - 2 ^ c) 0)) :
    PC prog w K mg mb 1 f [.list (t.map fun r => .list (r.map .int))] (.int (detV t)) := by
  refine PC.make [Str.ofString "table"] hf rfl (fun vs h doc pm an cd ct => ?_) (by decide) (by decide +kernel) rfl rfl rfl fun A S s s₁ L cd hA hW hS b E => ?_
  · match vs, h with
    | [u], _ => rfl
  unfold D PySem.Challenge.pw_rw0028_01 at b ⊢
  dsimp only [nth, fBody, fScope, fName] at b ⊢
  refine Ex.hide b (ps := [.int 1]) ?_ ?_ ?_
  · exact PF.display (PEs.cons PE.const_int PEs.nil) (by simp)
  · intro p m; rw [List.mem_singleton.mp m]; rfl
  intro a s₂ ha b
  refine Ex.for (fun k => [(Str.ofString "table", .list (t.map fun r => .list (r.map .int))), (Str.ofString "worths", .val (.ref a))]) (fun k => [(a, (detWs t k).map .int)]) b
    (items := upto 1 32) ?_ ?_ ?_ ?_ ?_ ?_
  · have W1 := hW.keeps b.keep
    refine PI.range hA (PR.two (PE.builtin W1 N.range rfl (by decide)) PE.const_int (PE.eq (PE.pow PE.const_int (PE.lenL (ps := t.map fun r => .list (r.map .int)) (PE.builtin W1 N.len rfl (by decide)) b.pe (by simp; omega)) ?_ ?_ ?_) ?_)) (by decide) (by decide) (by decide) (by decide)
    · omega
    · simp; omega
    · decide
    · rw [List.length_map, htl]; rfl
  · exact ⟨rfl, rfl, trivial⟩
  · rfl
  · intro k; rfl
  · intro k p hp S' G' s' hS' hG' b' E'
    obtain ⟨rfl, hk⟩ := upto_getA hp
    have hk : k < 31 := hk
    have W1 := hW.keeps (fun c o e => b'.keep c o (hG' c o e))
    refine Ex.comp (fun i => (k + 1) / 2 ^ i % 2 == 1) (fun i => .int i) b' (cl := [(Str.ofString "chosen", L + 1)]) (nc := []) (items := upto 0 5) ?_ ?_ ?_ ?_ ?_ ?_
    · exact CompOk.plain b'.frame b'.inj rfl (by intro q m; rw [List.mem_singleton.mp m]; rfl) rfl
    · refine PI.range hA (PR.one (PE.builtin W1 N.range rfl (by decide)) (PE.eq (PE.lenL (ps := t.map fun r => .list (r.map .int)) (PE.builtin W1 N.len rfl (by decide)) b'.pe (by simp; omega)) ?_)) (by decide) (by decide) (by decide) (by decide)
      rw [List.length_map, htl]; rfl
    · decide
    · intro i p hp S2 C s2 h2
      obtain ⟨rfl, hi⟩ := upto_get hp
      have hi : i < 5 := hi
      refine PTs.one ?_
      refine PT.eq (p := ((((1 : Int) + k) / (2 ^ (i : Int).toNat)) % 2 == 1)) ?_ ?_
      · refine PT.cmp (PE.mod (PE.div (PE.name (p := .int (1 + (k : Int))) rfl (NV.inner b'.get h2.fwd (.inl rfl) (.inl rfl) rfl)) (PE.pow PE.const_int (PE.name rfl h2.name) ?_ ?_ ?_) ?_ ?_) PE.const_int ?_ ?_) PE.const_int gEqI
        all_goals first | omega | decide | skip
        · have : (2 : Int) ^ i > 0 := Int.pow_pos (by decide)
          simpa using this
        · have : i = 0 ∨ i = 1 ∨ i = 2 ∨ i = 3 ∨ i = 4 := by omega
          rcases this with rfl | rfl | rfl | rfl | rfl <;> decide
      · rw [Int.toNat_natCast, show ((1 : Int) + k) = ((k + 1 : Nat) : Int) by omega, show ((2 : Int) ^ i) = ((2 ^ i : Nat) : Int) by simp, nat_div, show (2 : Int) = ((2 : Nat) : Int) from rfl, nat_mod]
        rw [Bool.eq_iff_iff, beq_iff_eq, beq_iff_eq]; omega
    · intro i p hp hb S2 C s2 h2
      obtain ⟨rfl, hi⟩ := upto_get hp
      exact PE.name rfl h2.name
    intro s3 b3
    have hcols : compRes (fun i => (k + 1) / 2 ^ i % 2 == 1) (fun i => P.int i) (upto 0 5).length = (colsOf (k + 1)).map fun c : Nat => P.int (c : Int) := rfl
    rw [hcols] at b3
    have hcl : (colsOf (k + 1)).length ≤ 5 := Nat.le_trans (List.length_filter_le _ _) (by simp)
    refine Ex.assign b3 (p := .int 0) PE.const_int ?_
    intro s4 b4
    have hws := detWs_len t k
    refine Ex.for (fun j => [(Str.ofString "worth", .int (wAt t (detWs t k) (k + 1) (colsOf (k + 1)) j)), (Str.ofString "columns", .list ((colsOf (k + 1)).map fun c : Nat => P.int (c : Int))), (Str.ofString "chosen", .int (1 + (k : Int))), (Str.ofString "table", .list (t.map fun r => .list (r.map .int))), (Str.ofString "worths", .val (.ref a))])
      (fun j => [(a, (detWs t k).map .int)]) b4 (items := (colsOf (k + 1)).map fun c : Nat => P.int (c : Int)) ?_ ?_ ?_ ?_ ?_ ?_
    · exact PI.list hA b4.pe
    · exact ⟨rfl, rfl, rfl, rfl, rfl, trivial⟩
    · rfl
    · intro j; rfl
    · intro j p hp S5 G5 s5 hS5 hG5 b5 E5
      rw [List.getElem?_map] at hp
      obtain ⟨c, hc, rfl⟩ := Option.map_eq_some_iff.mp hp
      have hcm : c ∈ colsOf (k + 1) := List.mem_of_getElem? hc
      have hjl : j < (colsOf (k + 1)).length := (List.getElem?_eq_some_iff.mp hc).1
      have hgd : (colsOf (k + 1)).getD j 0 = c := by rw [List.getD_eq_getElem?_getD, hc]; rfl
      have hc5 : c < 5 ∧ (k + 1) / 2 ^ c % 2 = 1 := by
        have := List.mem_filter.mp hcm
        exact ⟨List.mem_range.mp this.1, by simpa using this.2⟩
      have hle : 2 ^ c ≤ k + 1 := by
        have h1 := hc5.2
        have h2 : 0 < (k + 1) / 2 ^ c := by generalize (k + 1) / 2 ^ c = z at h1 ⊢; omega
        exact (Nat.div_pos_iff.mp h2).2
      have hpos : 0 < 2 ^ c := Nat.pow_pos (by decide)
      have W5 := W1.keeps (fun c o e => e) |> fun _ => hW.keeps (fun d o e => b5.keep d o (hG5 d o (hG' d o e)))
      have hr1 : t[(colsOf (k + 1)).length - 1]? = some (t.getD ((colsOf (k + 1)).length - 1) []) := by
        rw [List.getD_eq_getElem?_getD, List.getElem?_eq_getElem (by omega)]; rfl
      have hrl : (t.getD ((colsOf (k + 1)).length - 1) []).length = 5 := htr _ (List.mem_of_getElem? hr1)
      refine Ex.assign b5 (p := .int (wAt t (detWs t k) (k + 1) (colsOf (k + 1)) (j + 1))) ?_ ?_
      · refine PE.eq (p := .int (ent t ((colsOf (k + 1)).length - 1) c * (detWs t k).getD (k + 1 - 2 ^ c) 0 - wAt t (detWs t k) (k + 1) (colsOf (k + 1)) j)) ?_ (by rw [wAt, hgd])
        refine PE.sub (PE.mul ?_ ?_ (hm k hk c hcm)) b5.pe
        · refine PE.item (ps := (t.getD ((colsOf (k + 1)).length - 1) []).map .int) (i := c) ?_ b5.pe (pick_map (getD_some (by omega))) (by omega) (by omega)
          refine PE.item (i := ((colsOf (k + 1)).length : Int) - 1) b5.pe (PE.sub (PE.eq (PE.lenL (ps := (colsOf (k + 1)).map fun c : Nat => P.int (c : Int)) (PE.builtin W5 N.len rfl (by decide)) b5.pe (by simp; omega)) (by rw [List.length_map])) PE.const_int) ?_ (by omega) (by omega)
          rw [show ((colsOf (k + 1)).length : Int) - 1 = (((colsOf (k + 1)).length - 1 : Nat) : Int) by omega]
          exact pick_map hr1
        · refine PE.itemH (a := a) (ps := (detWs t k).map .int) (i := 1 + (k : Int) - 2 ^ (c : Int).toNat) b5 (.head _) (PE.sub b5.pe (PE.pow PE.const_int b5.pe ?_ ?_ ?_)) ?_ ?_ ?_
          all_goals first | omega | decide | skip
          · have e1 : 1 + (k : Int) - 2 ^ (c : Int).toNat = ((k + 1 - 2 ^ c : Nat) : Int) := by
              rw [Int.toNat_natCast]
              have : ((2 : Int) ^ c) = ((2 ^ c : Nat) : Int) := by simp
              omega
            rw [e1]
            exact pick_map (getD_some (by omega))
          · have : (0 : Int) < 2 ^ (c : Int).toNat := Int.pow_pos (by decide)
            omega
          · have : ((2 : Int) ^ (c : Int).toNat) = ((2 ^ c : Nat) : Int) := by simp
            omega
      intro s6 b6
      refine Ex.skip ?_
      exact b6.weaken [(Str.ofString "worth", .int (wAt t (detWs t k) (k + 1) (colsOf (k + 1)) (j + 1))), (Str.ofString "columns", .list ((colsOf (k + 1)).map fun c : Nat => P.int (c : Int))), (Str.ofString "chosen", .int (1 + (k : Int))), (Str.ofString "table", .list (t.map fun r => .list (r.map .int))), (Str.ofString "worths", .val (.ref a))] ⟨rfl, rfl, rfl, rfl, rfl, trivial⟩
    · intro s5 b5 E5
      rw [List.length_map] at b5
      refine Ex.skip ?_
      show Ex _ _ _ _ _ _ _ _
      refine Ex.append (a := a) [] [] b5 rfl (p := .int (wAt t (detWs t k) (k + 1) (colsOf (k + 1)) (colsOf (k + 1)).length)) b5.pe (by simp; omega) ?_
      intro s6 b6
      refine Ex.skip ?_
      have b7 := b6.weaken [(Str.ofString "table", .list (t.map fun r => .list (r.map .int))), (Str.ofString "worths", .val (.ref a))] ⟨rfl, rfl, trivial⟩
      show B _ _ _ _ _ _ [(a, (detWs t (k + 1)).map P.int)]
      rw [detWs, List.map_append]; exact b7
  · intro s' b' E'
    refine Ex.skip ?_
    show Ex _ _ _ _ _ _ _ _
    have hws := detWs_len t 31
    refine Ex.fin b' (p := .int (detV t)) ?_ (fun c m => .tail _ m)
    refine PE.itemH (a := a) (ps := (detWs t 31).map .int) (i := -1) b' (.head _) (PE.neg PE.const_int) ?_ (by decide) (by decide)
    unfold pick detV
    rw [if_neg (by decide), List.length_map, hws, if_pos (by omega), List.getElem?_map]
    rw [show ((-1 : Int) + ((31 + 1 : Nat) : Int)).toNat = 31 from rfl, getD_some (by omega)]; rfl
end
end Mine

namespace Mine
open PySem PySem.Sre
/-! ## the machine of the regular expression, on a text whose last sign is neither a digit nor a new line -/
def RC : Array Nat := #[14, 8, 1, 2, 4294967295, 1, 1, 46, 0, 16, 46, 24, 9, 1, 4294967295, 13, 4, 8, 0, 0, 1, 6, 5, 1]
def Ends (n : Nat) (m : M) : Prop := (m.runFor n).outcome = some .failed
theorem runFor_over {m : M} (h : m.outcome.isSome = true) : ∀ n, m.runFor n = m
  | 0 => rfl
  | n + 1 => by rw [M.runFor, if_pos h]
theorem Ends.step {n : Nat} {m : M} (h : m.outcome = none) (e : Ends n m.step) : Ends (n + 1) m := by
  unfold Ends; rw [M.runFor, h, if_neg (by decide)]; exact e
theorem Ends.more {m : M} : ∀ {n k : Nat}, n ≤ k → Ends n m → Ends k m := by
  intro n
  induction n generalizing m with
  | zero => intro k _ e; unfold Ends at e ⊢; rw [M.runFor] at e; rw [runFor_over (by rw [e]; rfl)]; exact e
  | succ n ih =>
    intro k h e
    match k, h with
    | k + 1, h =>
      unfold Ends at e ⊢; rw [M.runFor] at e ⊢
      split
      · rename_i q; rw [if_pos q] at e; exact e
      · rename_i q; rw [if_neg q] at e; exact ih (by omega) e
def nsF (s : Nat) (o : Bool) : Sre.Frame := { wait := .nextStart, pc := 9, pos := s, outermost := o }
def gbF (q : Nat) (o : Bool) (c : Nat) : Sre.Frame := { wait := .giveBack, pc := 11, pos := q, outermost := o, count := c, kept := { lastmark := -1, lastindex := -1, whole := false, marks := #[] } }
def Mk (t : Array Nat) (start pos handed pc : Nat) (o : Bool) (fs : List Sre.Frame) (w : Nat) (an : Option Bool) (seen : Seen) : M :=
  { code := RC, text := t, lim := t.size, start, lastStart := t.size, pc, pos, handed, outermost := o, marks := #[], frames := fs, weight := w, answer := an, seen }
/-- the text's last sign is neither a digit nor a new line -/
def Tail (t : Array Nat) : Prop := isDigit (t.getD (t.size - 1) 0) = false ∧ t.getD (t.size - 1) 0 ≠ 10
theorem s_end (t : Array Nat) (a b c d : Nat) (o : Bool) (w : Nat) (seen : Seen) : Ends 1 (Mk t a b c d o [] w (some false) seen) := by
  refine Ends.step rfl ?_
  rfl
theorem s_at {t : Array Nat} (a q c : Nat) (o : Bool) (fs : List Sre.Frame) (w : Nat) (seen : Seen) (h : ¬ q = t.size) (h' : ¬ (q + 1 = t.size ∧ t.getD q 0 = 10)) :
    ∃ seen', M.step (Mk t a q c 21 o fs w none seen) = Mk t a q c 21 o fs w (some false) seen' := by
  refine ⟨(seen.add 6).add 48, ?_⟩
  have e : (M.isAt (Mk t a q c 21 o fs w none (seen.add 6)) 5) = .ok false := by
    show Except.ok ((q == t.size) || ((q + 1 == t.size) && (t.getD q 0 == 10))) = Except.ok false
    congr 1
    rw [Bool.or_eq_false_iff, Bool.and_eq_false_iff]
    simp only [beq_eq_false_iff_ne]
    refine ⟨h, ?_⟩
    by_cases q1 : q + 1 = t.size
    · exact .inr fun q2 => h' ⟨q1, q2⟩
    · exact .inl q1
  show (match M.isAt (Mk t a q c 21 o fs w none (seen.add 6)) 5 with
    | .error why => (Mk t a q c 21 o fs w none (seen.add 6)).stick why
    | .ok yes => let m := { (Mk t a q c 21 o fs w none (seen.add 6)) with seen := (seen.add 6).add (43 + 5) }; if yes then { m with pc := m.pc + 2 } else m.say false) = _
  rw [e]; rfl
theorem s_back1 (t : Array Nat) (a q c d f : Nat) (o o' : Bool) (fs : List Sre.Frame) (seen : Seen) :
    M.step (Mk t a q c d o (gbF f o' 1 :: fs) 2 (some false) seen) = Mk t a f c 11 o' fs 1 (some false) seen := rfl
theorem s_back (t : Array Nat) (a q c d f k : Nat) (o o' : Bool) (fs : List Sre.Frame) (seen : Seen) :
    M.step (Mk t a q c d o (gbF (f + 1) o' (k + 2) :: fs) 2 (some false) seen) = Mk t a f f 21 o' (gbF f o' (k + 1) :: fs) 2 none seen := by
  have e : ¬ (((k + 2 : Nat) : Int) - 1 < ((1 : Nat) : Int)) := by omega
  have e2 : (((k + 2 : Nat) : Int) - 1) = ((k + 1 : Nat) : Int) := by omega
  show (if ((k + 2 : Nat) : Int) - 1 < ((1 : Nat) : Int) then _ else M.afterRun { (Mk t a (f + 1) c 11 o' fs 1 none seen) with pos := f + 1 - 1 } .giveBack (((k + 2 : Nat) : Int) - 1) { lastmark := -1, lastindex := -1, whole := false, marks := #[] }) = _
  rw [if_neg e, e2]; rfl
theorem s_lit_out {t : Array Nat} (a q c : Nat) (o : Bool) (fs : List Sre.Frame) (w : Nat) (seen : Seen) (h : t.size ≤ q) :
    ∃ seen', M.step (Mk t a q c 9 o fs w none seen) = Mk t a q c 9 o fs w (some false) seen' := by
  refine ⟨seen.add 16, ?_⟩
  show (if q ≥ t.size then (Mk t a q c 9 o fs w none (seen.add 16)).say false else _) = _
  rw [if_pos h]; rfl
theorem s_lit {t : Array Nat} (a q c : Nat) (o : Bool) (fs : List Sre.Frame) (w : Nat) (seen : Seen) (h : q < t.size) :
    ∃ seen', M.step (Mk t a q c 9 o fs w none seen) = Mk t a q c 9 o fs w (some false) seen' ∨ M.step (Mk t a q c 9 o fs w none seen) = Mk t a (q + 1) c 11 o fs w none seen' := by
  refine ⟨seen.add 16, ?_⟩
  have e : M.step (Mk t a q c 9 o fs w none seen) = (if q ≥ t.size then (Mk t a q c 9 o fs w none (seen.add 16)).say false else
    match (Except.ok (t.getD q 0 == 46, seen.add 16) : Except String (Bool × Seen)) with
    | .error why => (Mk t a q c 9 o fs w none (seen.add 16)).stick why
    | .ok (false, seen) => { (Mk t a q c 9 o fs w none (seen.add 16)) with seen }.say false
    | .ok (true, seen) => { (Mk t a q c 9 o fs w none (seen.add 16)) with seen, pc := 11, pos := q + 1 }) := rfl
  rw [e, if_neg (by omega)]
  cases t.getD q 0 == 46
  · exact .inl rfl
  · exact .inr rfl
theorem accepts15 (c : Nat) (seen : Seen) : ∃ seen', accepts RC 15 c seen = .ok (isDigit c, seen') := by
  have e : accepts RC 15 c seen = (do
      if ← (Except.ok (isDigit c)).map (· != false) then pure (true, ((seen.add 8).add (55 + 0))) else inSet RC c 23 19 true ((seen.add 8).add (55 + 0)) : Except String (Bool × Seen)) := rfl
  rw [e]
  cases isDigit c
  · exact ⟨_, rfl⟩
  · exact ⟨_, rfl⟩
theorem run15 (t : Array Nat) : ∀ n p found seen, ∃ j seen', run RC t 15 n p found seen = .ok (found + j, seen') ∧ j ≤ n ∧ ∀ i, i < j → isDigit (t.getD (p + i) 0) = true
  | 0, p, found, seen => ⟨0, seen, rfl, Nat.le_refl _, fun i h => absurd h (Nat.not_lt_zero _)⟩
  | n + 1, p, found, seen => by
    obtain ⟨s1, h1⟩ := accepts15 (t.getD p 0) seen
    rw [Sre.run, h1]
    cases hd : isDigit (t.getD p 0) with
    | false => exact ⟨0, s1, rfl, Nat.zero_le _, fun i h => absurd h (Nat.not_lt_zero _)⟩
    | true =>
      obtain ⟨j, s2, h2, hj, hi⟩ := run15 t n (p + 1) (found + 1) s1
      refine ⟨j + 1, s2, ?_, by omega, fun i h => ?_⟩
      · show run RC t 15 n (p + 1) (found + 1) s1 = _
        rw [h2, show found + 1 + j = found + (j + 1) by omega]
      · match i with
        | 0 => exact hd
        | i + 1 => have := hi i (by omega); rwa [show p + 1 + i = p + (i + 1) by omega] at this
theorem s_rep {t : Array Nat} (a q c : Nat) (o : Bool) (fs : List Sre.Frame) (seen : Seen) :
    ∃ seen', M.step (Mk t a q c 11 o fs 1 none seen) = Mk t a q c 11 o fs 1 (some false) seen' ∨
      ∃ j, q + (j + 1) ≤ t.size ∧ (∀ i, i < j + 1 → isDigit (t.getD (q + i) 0) = true) ∧ M.step (Mk t a q c 11 o fs 1 none seen) = Mk t a (q + (j + 1)) (q + (j + 1)) 21 o (gbF (q + (j + 1)) o (j + 1) :: fs) 2 none seen' := by
  have e : M.step (Mk t a q c 11 o fs 1 none seen) = (if ((1 : Nat) : Int) > (t.size : Int) - q then (Mk t a q c 11 o fs 1 none (seen.add 24)).say false else
      match run RC t 15 (min 4294967295 ((t.size : Int) - q).toNat) q 0 ((seen.add 24).add 13) with
      | .error why => (Mk t a q c 11 o fs 1 none (seen.add 24)).stick why
      | .ok (n, seen) =>
        if n < 1 then (Mk t a q c 11 o fs 1 none seen).say false else
        M.afterRun (Mk t a (q + n) c 11 o fs 1 none seen) .giveBack n { lastmark := -1, lastindex := -1, whole := false, marks := #[] }) := rfl
  rw [e]
  by_cases h : ((1 : Nat) : Int) > (t.size : Int) - q
  · rw [if_pos h]; exact ⟨_, .inl rfl⟩
  rw [if_neg h]
  obtain ⟨j, s1, h1, hj, hi⟩ := run15 t (min 4294967295 ((t.size : Int) - q).toNat) q 0 ((seen.add 24).add 13)
  rw [h1, Nat.zero_add]
  refine ⟨s1, ?_⟩
  match j, hj, hi with
  | 0, _, _ => exact .inl rfl
  | j + 1, hj, hi => exact .inr ⟨j, by omega, hi, rfl⟩
theorem s_next {t : Array Nat} (a q c d f : Nat) (o o' : Bool) (seen : Seen) :
    M.step (Mk t a q c d o [nsF f o'] 1 (some false) seen) = if f < t.size then Mk t (f + 1) (f + 1) (f + 1) 9 false [nsF (f + 1) false] 1 none seen else Mk t a f c 9 o' [] 0 (some false) seen := rfl
theorem s_backs {t : Array Nat} (ht : Tail t) (fs : List Sre.Frame) (N : Nat) (hf : ∀ a q c d o seen, Ends N (Mk t a q c d o fs 1 (some false) seen)) (p : Nat) : ∀ j a c o o' seen,
    p + (j + 1) ≤ t.size → (∀ i, i < j + 1 → isDigit (t.getD (p + i) 0) = true) → Ends (2 * j + 2 + N) (Mk t a (p + (j + 1)) c 21 o (gbF (p + (j + 1)) o' (j + 1) :: fs) 2 none seen) := by
  intro j
  induction j with
  | zero =>
    intro a c o o' seen hz hi
    have h1 : ¬ p + (0 + 1) = t.size := fun e => by
      have h := hi 0 (by omega)
      have := ht.1
      rw [show t.size - 1 = p + 0 by omega, h] at this; cases this
    have h2 : ¬ (p + (0 + 1) + 1 = t.size ∧ t.getD (p + (0 + 1)) 0 = 10) := fun ⟨e, e'⟩ => by
      apply ht.2; rw [show t.size - 1 = p + (0 + 1) by omega]; exact e'
    obtain ⟨s1, e1⟩ := s_at a (p + (0 + 1)) c o (gbF (p + (0 + 1)) o' (0 + 1) :: fs) 2 seen h1 h2
    rw [show 2 * 0 + 2 + N = (N + 1) + 1 by omega]
    refine Ends.step rfl ?_
    rw [e1]
    refine Ends.step rfl ?_
    exact hf _ _ _ _ _ _
  | succ j ih =>
    intro a c o o' seen hz hi
    have h1 : ¬ p + (j + 1 + 1) = t.size := fun e => by
      have h := hi (j + 1) (by omega)
      have := ht.1
      rw [show t.size - 1 = p + (j + 1) by omega, h] at this; cases this
    have h2 : ¬ (p + (j + 1 + 1) + 1 = t.size ∧ t.getD (p + (j + 1 + 1)) 0 = 10) := fun ⟨e, e'⟩ => by
      apply ht.2; rw [show t.size - 1 = p + (j + 1 + 1) by omega]; exact e'
    obtain ⟨s1, e1⟩ := s_at a (p + (j + 1 + 1)) c o (gbF (p + (j + 1 + 1)) o' (j + 1 + 1) :: fs) 2 seen h1 h2
    rw [show 2 * (j + 1) + 2 + N = ((2 * j + 2 + N) + 1) + 1 by omega]
    refine Ends.step rfl ?_
    rw [e1]
    refine Ends.step rfl ?_
    have := s_back t a (p + (j + 1 + 1)) c 21 (p + (j + 1)) j o o' fs s1
    rw [show p + (j + 1 + 1) = p + (j + 1) + 1 by omega, show j + 1 + 1 = j + 2 by omega] at *
    rw [this]
    exact ih _ _ _ _ _ (by omega) (fun i h => hi i (by omega))
theorem s_starts {t : Array Nat} (ht : Tail t) : ∀ k s, s + k = t.size + 1 → 0 < k → ∀ a c o o' seen, Ends (k * (2 * t.size + 10) + 5) (Mk t a s c 9 o [nsF s o'] 1 none seen) := by
  intro k
  induction k with
  | zero => intro s _ h; exact absurd h (Nat.not_lt_zero _)
  | succ k ih =>
    intro s hs _ a c o o' seen
    have hbad : ∀ a q c d o seen, Ends (k * (2 * t.size + 10) + 7) (Mk t a q c d o [nsF s o'] 1 (some false) seen) := fun a q c d o seen => by
      rw [show k * (2 * t.size + 10) + 7 = (k * (2 * t.size + 10) + 6) + 1 by omega]
      refine Ends.step rfl ?_
      rw [s_next]
      split
      · rename_i h
        exact Ends.more (by omega) (ih (s + 1) (by omega) (by omega) (s + 1) (s + 1) false false seen)
      · exact Ends.more (by omega) (s_end t a s c 9 o' 0 seen)
    have hN : (k + 1) * (2 * t.size + 10) = k * (2 * t.size + 10) + (2 * t.size + 10) := Nat.succ_mul _ _
    rw [hN]
    by_cases hlt : s < t.size
    · obtain ⟨s1, e | e⟩ := s_lit a s c o [nsF s o'] 1 seen hlt
      · refine Ends.more (n := (k * (2 * t.size + 10) + 7) + 1) (by omega) (Ends.step rfl ?_)
        rw [e]; exact hbad _ _ _ _ _ _
      · refine Ends.more (n := (k * (2 * t.size + 10) + 2 * t.size + 11) + 1) (by omega) (Ends.step rfl ?_)
        rw [e]
        obtain ⟨s2, e2 | ⟨j, hj, hi, e2⟩⟩ := s_rep a (s + 1) c o [nsF s o'] s1
        · refine Ends.more (n := (k * (2 * t.size + 10) + 7) + 1) (by omega) (Ends.step rfl ?_)
          rw [e2]; exact hbad _ _ _ _ _ _
        · refine Ends.more (n := (2 * j + 2 + (k * (2 * t.size + 10) + 7)) + 1) (by omega) (Ends.step rfl ?_)
          rw [e2]
          exact s_backs ht _ _ hbad (s + 1) j _ _ _ _ _ hj hi
    · obtain ⟨s1, e⟩ := s_lit_out (t := t) a s c o [nsF s o'] 1 seen (by omega)
      refine Ends.more (n := (k * (2 * t.size + 10) + 7) + 1) (by omega) (Ends.step rfl ?_)
      rw [e]; exact hbad _ _ _ _ _ _
theorem forSearch_ends {t : Array Nat} (ht : Tail t) : ∃ n, n ≤ (t.size + 1) * (2 * t.size + 10) + 5 ∧ Ends n (forSearch RC t 0 0 t.size false) := by
  by_cases h : t.size < 2
  · refine ⟨1, ?_, ?_⟩
    · generalize (t.size + 1) * (2 * t.size + 10) = z; omega
    have e : forSearch RC t 0 0 t.size false = if (0 > t.size || t.size - 0 < 2) = true then ({ (Mk t 0 0 0 9 true [] 0 none (({} : Seen).add 14)) with lastStart := 0 } : M).say false else Mk t 0 0 0 9 true [nsF 0 true] 1 none (({} : Seen).add 14) := rfl
    rw [e, if_pos (by simp; omega)]
    exact Ends.step rfl rfl
  · refine ⟨_, Nat.le_refl _, ?_⟩
    have e : forSearch RC t 0 0 t.size false = if (0 > t.size || t.size - 0 < 2) = true then ({ (Mk t 0 0 0 9 true [] 0 none (({} : Seen).add 14)) with lastStart := 0 } : M).say false else Mk t 0 0 0 9 true [nsF 0 true] 1 none (({} : Seen).add 14) := rfl
    rw [e, if_neg (by simp; omega)]
    exact s_starts ht (t.size + 1) 0 (by omega) (by omega) _ _ _ _ _
end Mine

namespace Mine
open PySem PyProof.Rows Builtin.Re Sre
theorem rx_plain : PlainAttrs "re.Pattern" :=
  ⟨⟨"object.__getattribute__", by rw [typeLookup_type, builtinLookup_eq_fast]; kernel_rfl, by decide +kernel⟩, by rw [typeLookup_type, builtinLookup_eq_fast]; kernel_rfl⟩
theorem rx_owner : Manifest.owners.lookup (String.ofList ['n', 'r', 'e', 't', 't', 'a', 'P', '.', 'e', 'r'].reverse) = some Manifest.sig_re_Pattern := by kernel_rfl
theorem rx_slot : Slot "re.Pattern" "search" "re.Pattern.search" :=
  .of (owner := "re.Pattern") (n := "search") (by rw [typeLookup_type, builtinLookup_eq_fast]; kernel_rfl) (by decide +kernel) (by decide +kernel) (by decide +kernel)
    (by first | exact .inl (by decide +kernel) | exact .inr (by decide +kernel)) (by rw [isSubtype_type]; kernel_rfl)
theorem rx_type : typeOf (.builtin "re.Pattern.search") = pure (.type "method_descriptor") := by show builtinType _ = _; rw [builtinType_eq_fast]; kernel_rfl
theorem rx_entry : entryFor table "re.Pattern.search" = some Builtin.«re.Pattern.search» := entryFor_of_tree (by kernel_rfl)
theorem rx_args (a b : Value) : argsOk "re.Pattern.search" ⟨[a, b], []⟩ := by
  unfold argsOk; rw [signature?_of (id := "re.Pattern.search") (n := ['h', 'c', 'r', 'a', 'e', 's']) (o := ['n', 'r', 'e', 't', 't', 'a', 'P', '.', 'e', 'r']) (by kernel_rfl) rx_owner]; kernel_rfl
theorem drive_ends {M : Model} {A : Around} {E : Value → Shared → Prop} {s : Shared} {Q : Sre.M → Shared → Prop} (hQ : ∀ m, m.outcome = some .failed → Q m s) : ∀ turns n m, n < 4 * turns → Ends n m → wpAny M A (reDrive turns m) Q E s := by
  intro turns
  induction turns with
  | zero => intro n m h; omega
  | succ k ih =>
    intro n m h e
    rw [reDrive]
    show wpAny M A (if (m.runFor 4).outcome.isSome then pure (m.runFor 4) else do rule "sre.turn"; reDrive k (m.runFor 4)) Q E s
    have split : ∀ (j i : Nat) (m : Sre.M), Sre.M.runFor (i + j) m = Sre.M.runFor j (Sre.M.runFor i m) := fun j i => by
      induction i with
      | zero => intro m; rw [Nat.zero_add]; rfl
      | succ i ih2 =>
        intro m
        rw [show i + 1 + j = (i + j) + 1 by omega, Sre.M.runFor]
        by_cases hm : m.outcome.isSome = true
        · rw [if_pos hm, runFor_over hm, runFor_over hm]
        · rw [if_neg hm, Sre.M.runFor, if_neg hm, ih2]
    split
    · rename_i hs
      refine wpAny_pure (hQ _ ?_)
      by_cases h4 : n ≤ 4
      · exact Ends.more h4 e
      · have e2 : Ends (4 + (n - 4)) m := by rwa [show 4 + (n - 4) = n by omega]
        unfold Ends at e2
        rw [split, runFor_over hs] at e2
        exact e2
    · rename_i hs
      have h4 : 4 < n := by
        refine Nat.lt_of_not_le fun h4 => hs ?_
        have := Ends.more h4 e
        unfold Ends at this
        rw [this]; rfl
      refine wpAny_bind (wpAny_rule (ih (n - 4) _ (by omega) ?_))
      have e2 : Ends (4 + (n - 4)) m := by rwa [show 4 + (n - 4) = n by omega]
      unfold Ends at e2 ⊢
      rw [split] at e2
      exact e2
theorem runToEnd_none {M : Model} {A : Around} {E : Value → Shared → Prop} {s : Shared} {Q : Option Sre.M → Shared → Prop} {n : Nat} {m : Sre.M} (hn : n < 2 ^ 64) (e : Ends n m) (hQ : Q none s) : wpAny M A (reRunToEnd m) Q E s := by
  unfold reRunToEnd
  refine wpAny_bind (drive_ends (fun m' hm => ?_) (2 ^ 64) n m (by omega) e)
  refine wpAny_bind (wpAny_forIn_list _ (fun _ _ s' => s' = s) _ (fun x rest b s' hs => ?_) (fun b s' hs => ?_) _ _ rfl)
  · subst hs
    by_cases hx : m'.seen.has x = true
    · rw [if_pos hx]; exact wpAny_bind (wpAny_rule (wpAny_pure rfl))
    · rw [if_neg hx]; exact wpAny_pure rfl
  · subst hs
    rw [hm]; exact wpAny_pure hQ
def rxObj (q q1 q3 q4 : Value) (c : Addr) : Obj := { cls := .type "re.Pattern", data := .fields #[q, q1, .int 0 0, q3, q4, .ref c, .int 0 0] }
def rxCode : Obj := { cls := .type "tuple", data := .seq (RC.map fun n : Nat => Value.int (n : Int) 0) }
theorem answer_none {M : Model} {A : Around} {E : Value → Shared → Prop} {s : Shared} {Q : Fin → Shared → Prop} {x : Str} (hx : Tail x.cps) (hz : x.cps.size < 1000000) (tg : ReTarget) (hc : tg.code = RC) (ht : tg.text = x.cps) (hg : tg.groups = 0) (hp : tg.pos = 0) (hl : tg.lim = x.cps.size) (hQ : Q (.done (.ret .none)) s) :
    wpAny M A (reAnswer tg (forSearch tg.code tg.text tg.groups tg.pos tg.lim false)) Q E s := by
  obtain ⟨n, hn1, hn2⟩ := forSearch_ends hx
  rw [hc, ht, hg, hp, hl]
  unfold reAnswer
  refine wpAny_bind (runToEnd_none (n := n) ?_ hn2 ?_)
  · have : (x.cps.size + 1) * (2 * x.cps.size + 10) ≤ 1000000 * 2000010 := Nat.mul_le_mul (by omega) (by omega)
    omega
  · exact wpAny_pure hQ
theorem search_none {a c : Addr} {q q1 q3 q4 : Value} {x : Str} {t : Tok} (hx : Tail x.cps) (hz : x.length < 1000000) : Meets (Builtin.«re.Pattern.search» ⟨[.ref a, .str x t], []⟩) (fun A R s => s.heap.get? a = some (rxObj q q1 q3 q4 c) ∧ s.heap.get? c = some rxCode ∧ R (.ok (.ret .none)) s) :=
  Meets.of_wp fun prog w A R s ⟨ha, hc, hR⟩ => by
    have hz' : x.cps.size < 1000000 := hz
    unfold Builtin.«re.Pattern.search» reTarget
    have hn : reNamed "re.Pattern.search" "search" ["string", "pos", "endpos"] 1 [.str x t] [] = pure [some (.str x t), none, none] := rfl
    simp only [hn, pure_bind]
    refine wpAny_bind (wpAny_bind (wpAny_fieldsOf ha rfl ?_))
    refine wpAny_bind (wpAny_pure ?_)
    refine wpAny_bind (wpAny_pure ?_)
    show wpAny _ _ (reRawItems (.ref c) >>= _) _ _ _
    unfold reRawItems
    refine wpAny_bind (wpAny_bind (wpAny_seqItems hc rfl (wpAny_pure ?_)))
    refine wpAny_pure ?_
    refine answer_none hx hz' _ ?_ ?_ ?_ ?_ ?_ ⟨_, rfl, hR⟩
    · show Array.map (fun i : Int => i.toNat) (Array.map reRawOf (RC.map fun n : Nat => Value.int (n : Int) 0)) = RC
      rw [Array.map_map, Array.map_map]
      exact Array.map_id RC
    · exact rfl
    · exact rfl
    · exact rfl
    · show min ((2 ^ 63 - 1 : Int)).toNat x.cps.size = x.cps.size
      omega
end Mine

namespace Mine
open PySem PySem.Calls PyProof.Rows Builtin.Str
section
variable {prog : Program} {w : World} {K : W.Frag} {mg mb : Str → Option Value} {A : Around} {S : List Addr} {env : Env} {s : Shared}
/-- the regular expression of the world -/
structure Rx (K : W.Frag) : Prop where
  go : ∃ a c q q1 q3 q4, W.nsIn K mainGlobals (Str.ofString "IPV4_RE") = some (some (.ref a)) ∧ K.lookup a = some (rxObj q q1 q3 q4 c) ∧ K.lookup c = some rxCode
theorem PE.search {xp ap pos : Pos} {e : Expr} {x : Str} (R : Rx K) (hW : Wd K mg mb s.heap) (he : PE prog w A S env s e (.str x)) (ht : Tail x.cps) (hz : x.length < 1000000)
    (hk : env.scope.kind = .function := by rfl) (hg : env.globals = mainGlobals := by rfl) (hx : env.kindOf (Str.ofString "IPV4_RE") = some .globalImplicit := by rfl)
    (hs : starEach [e] env = [(false, eval e env)] := by intros; rfl) (hbase : attributeBase (.Name (Str.ofString "IPV4_RE") xp) (Str.ofString "search") env (eval (.Name (Str.ofString "IPV4_RE") xp) env) = eval (.Name (Str.ofString "IPV4_RE") xp) env := by intros; rfl) (hline : (ap.endLine == pos.line) = true := by rfl) :
    PE prog w A S env s (.Call (.Attribute (.Name (Str.ofString "IPV4_RE") xp) (Str.ofString "search") ap) [e] [] pos) .none := by
  obtain ⟨a, c, q, q1, q3, q4, hb, ha, hc⟩ := R.go
  exact ⟨fun s₁ k1 hS E => Call_method1 hbase hs hline (wpAny_mono ((PE.global hW hb hk hg hx rfl).go s₁ k1 hS E) (fun v s₂ ⟨hv, k2⟩ => by
    cases hv.ofVal
    have ga := (hW.keeps (k1.trans k2).get).kin _ _ ha
    have gc := (hW.keeps (k1.trans k2).get).kin _ _ hc
    refine ⟨"re.Pattern", "re.Pattern.search", rx_plain, rx_slot, rx_type, ⟨_, ga, rfl⟩, (fun b e => by cases e; exact ⟨_, ga, rfl⟩), method1_meets rx_slot rx_entry (wpAny_mono (he.go s₂ (k1.trans k2) (hS.mono k2) E) (fun u s₃ ⟨hu, k3⟩ => ?_) fun _ _ e => e)⟩
    obtain ⟨t', rfl⟩ := hu.ofStr
    exact ⟨⟨_, k3.get _ _ ga, rfl⟩, rx_args _ _, _, search_none ht hz, k3.get _ _ ga, k3.get _ _ gc, Is.none, k2.trans k3⟩) fun _ _ e => e)⟩
end
end Mine

namespace Mine
open PySem PySem.Calls PyProof.Rows Builtin.Str
section
variable {prog : Program} {w : World} {K : W.Frag} {mg mb : Str → Option Value}
def dot : Str := Str.ofString "."
theorem c_lib (R : Rx K) {f : Addr} {fd : FuncData} (hf : Fn K (fName (D 7)) (fParams (D 7)) (fBody (D 7)) (fScope (D 7)) f fd) (x : Str) (hx : Tail x.cps) (hz : x.length < 1000000) :
    PC prog w K mg mb 1 f [.str x] (.bool true) := by
  refine PC.make [Str.ofString "text"] hf rfl (fun vs h doc pm an cd ct => ?_) (by decide) (by decide +kernel) rfl rfl rfl fun A S s s₁ L cd hA hW hS b E => ?_
  · match vs, h with
    | [u], _ => rfl
  unfold D PySem.Challenge.pw_rw0028_01 at b ⊢
  dsimp only [nth, fBody, fScope, fName] at b ⊢
  refine Ex.ifs b (c := false) ?_ ?_ ?_
  · exact PT.ofNone (PE.search R (hW.keeps b.keep) b.pe hx hz)
  · intro h; cases h
  intro _ s' b'
  refine Ex.skip ?_
  show Ex _ _ _ _ _ _ _ _
  exact Ex.fin b' PE.const_bool (fun c m => m)
structure Hosty (x : Str) : Prop where
  tail : Tail x.cps
  short : x.length < 1000000
  ne : (x == Str.empty) = false
  first : (Txt.charAt x 0).isSome = true
  firstNe : (Txt.item x 0 == dot) = false
  last : (Txt.charAt x (-1)).isSome = true
  lastNe : (Txt.item x (-1) == dot) = false
theorem c_hdn (R : Rx K) {f : Addr} {fd : FuncData} (hf : Fn K (fName (D 6)) (fParams (D 6)) (fBody (D 6)) (fScope (D 6)) f fd) (x : Str) (hx : Hosty x) :
    PC prog w K mg mb 1 f [.str x] (.bool true) := by
  refine PC.make [Str.ofString "text"] hf rfl (fun vs h doc pm an cd ct => ?_) (by decide) (by decide +kernel) rfl rfl rfl fun A S s s₁ L cd hA hW hS b E => ?_
  · match vs, h with
    | [u], _ => rfl
  unfold D PySem.Challenge.pw_rw0028_01 at b ⊢
  dsimp only [nth, fBody, fScope, fName] at b ⊢
  refine Ex.ifs b (c := false) ?_ ?_ ?_
  · exact PT.ofNone (PE.search R (hW.keeps b.keep) b.pe hx.tail hx.short)
  · intro h; cases h
  intro _ s' b'
  refine Ex.skip ?_
  show Ex _ _ _ _ _ _ _ _
  refine Ex.ifs b' (c := (x == Str.empty)) ?_ ?_ ?_
  · exact PT.cmp (p := .str x) (q := .str Str.empty) b'.pe (PE.const_str (x := Str.empty)) gEqS
  · intro h; rw [hx.ne] at h; cases h
  intro _ s' b'
  refine Ex.skip ?_
  show Ex _ _ _ _ _ _ _ _
  refine Ex.ifs b' (c := (Txt.item x 0 == dot || Txt.item x (-1) == dot)) ?_ ?_ ?_
  · refine PT.or (PT.cmp (p := .str (Txt.item x 0)) (q := .str dot) (PE.itemS b'.pe PE.const_int hx.first rfl) PE.const_str gEqS) (fun _ => PT.cmp (p := .str (Txt.item x (-1))) (q := .str dot) (PE.itemS b'.pe (PE.neg PE.const_int) hx.last rfl) PE.const_str gEqS)
  · intro h; rw [hx.firstNe, hx.lastNe] at h; cases h
  intro _ s' b'
  refine Ex.skip ?_
  show Ex _ _ _ _ _ _ _ _
  exact Ex.fin b' PE.const_bool (fun c m => m)
theorem c_udm (R : Rx K) {fl : Addr} {fdl : FuncData} (hfl : Fn K (fName (D 7)) (fParams (D 7)) (fBody (D 7)) (fScope (D 7)) fl fdl) {f : Addr} {fd : FuncData} (hf : Fn K (fName (D 8)) (fParams (D 8)) (fBody (D 8)) (fScope (D 8)) f fd) (x y : Str)
    (hx : Tail (Txt.lower x).cps) (hy : Tail (Txt.lower y).cps) (hxl : (Txt.lower x).length < 1000000) (hyl : (Txt.lower y).length < 1000000) (hd : Txt.startswith (Txt.lower y) dot = true) :
    PC prog w K mg mb 2 f [.str x, .str y] (.bool (Txt.endswith (Txt.lower x) (Txt.lower y))) := by
  refine PC.make [Str.ofString "A", Str.ofString "B"] hf rfl (fun vs h doc pm an cd ct => ?_) (by decide) (by decide +kernel) rfl rfl rfl fun A S s s₁ L cd hA hW hS b E => ?_
  · match vs, h with
    | [u, v], _ => rfl
  have fit : ∀ z : Str, z.length < 1000000 → Builtin.Str.tooLong z.length = false := fun z h => by simp [Builtin.Str.tooLong, sizeLine]; omega
  unfold D PySem.Challenge.pw_rw0028_01 at b ⊢
  dsimp only [nth, fBody, fScope, fName] at b ⊢
  refine Ex.assign b (p := .str (Txt.lower x)) ?_ ?_
  · exact PE.lower b.pe (fit _ hxl)
  intro s' b'
  refine Ex.assign b' (p := .str (Txt.lower y)) ?_ ?_
  · exact PE.lower b'.pe (fit _ hyl)
  intro s' b'
  have W1 := hW.keeps b'.keep
  refine Ex.ifs b' (c := !(true && true)) ?_ ?_ ?_
  · refine PT.not (PT.and (PT.ofBool ?_) fun _ => PT.ofBool ?_)
    · exact PE.callP hfl (c_lib R hfl _ hx hxl) hA W1 (PEs.cons b'.pe PEs.nil)
    · exact PE.callP hfl (c_lib R hfl _ hy hyl) hA W1 (PEs.cons b'.pe PEs.nil)
  · intro h; cases h
  intro _ s' b'
  refine Ex.skip ?_
  show Ex _ _ _ _ _ _ _ _
  refine Ex.assign b' (p := .bool true) ?_ ?_
  · exact PE.eq (PE.startswith b'.pe PE.const_str) (congrArg P.bool hd)
  intro s' b'
  refine Ex.ifs b' (c := (true && Txt.endswith (Txt.lower x) (Txt.lower y))) ?_ ?_ ?_
  · exact PT.and (PT.ofBool b'.pe) fun _ => PT.ofBool (PE.endswith b'.pe b'.pe)
  · intro h s' b'
    rw [Bool.true_and] at h
    rw [h]
    exact Ex.fin b' PE.const_bool (fun c m => m)
  intro h s' b'
  rw [Bool.true_and] at h
  refine Ex.skip ?_
  show Ex _ _ _ _ _ _ _ _
  refine Ex.ifs b' (c := (!true && (Txt.lower x == Txt.lower y))) ?_ ?_ ?_
  · exact PT.and (PT.not (PT.ofBool b'.pe)) fun h => nomatch h
  · intro h; cases h
  intro _ s' b'
  refine Ex.skip ?_
  show Ex _ _ _ _ _ _ _ _
  rw [h]
  exact Ex.fin b' PE.const_bool (fun c m => m)
def reachV (h : Str) : Str :=
  if 0 ≤ Txt.find h dot then
    if 0 ≤ Txt.find (Txt.slice h (some (Txt.find h dot + 1)) none) dot || Txt.slice h (some (Txt.find h dot + 1)) none == Str.ofString "local" then dot ++ Txt.slice h (some (Txt.find h dot + 1)) none else h
  else h
theorem c_reach (R : Rx K) {fl : Addr} {fdl : FuncData} (hfl : Fn K (fName (D 6)) (fParams (D 6)) (fBody (D 6)) (fScope (D 6)) fl fdl) {f : Addr} {fd : FuncData} (hf : Fn K (fName (D 9)) (fParams (D 9)) (fBody (D 9)) (fScope (D 9)) f fd) (x : Str) (hx : Hosty x) :
    PC prog w K mg mb 2 f [.str x] (.str (reachV x)) := by
  refine PC.make [Str.ofString "h"] hf rfl (fun vs h doc pm an cd ct => ?_) (by decide) (by decide +kernel) rfl rfl rfl fun A S s s₁ L cd hA hW hS b E => ?_
  · match vs, h with
    | [u], _ => rfl
  unfold D PySem.Challenge.pw_rw0028_01 at b ⊢
  dsimp only [nth, fBody, fScope, fName] at b ⊢
  have hz := hx.short
  have hsl := Txt.slice_le x (some (Txt.find x dot + 1)) none
  refine Ex.assign b (p := .int (Txt.find x dot)) (PE.find b.pe PE.const_str) ?_
  intro s' b'
  refine Ex.ifs b' (c := decide (0 ≤ Txt.find x dot)) ?_ ?_ ?_
  · exact PT.cmp (p := .int (Txt.find x dot)) (q := .int 0) b'.pe PE.const_int gGe
  · intro h1 s' b'
    have h1 : 0 ≤ Txt.find x dot := by simpa using h1
    refine Ex.assign b' (p := .str (Txt.slice x (some (Txt.find x dot + 1)) none)) ?_ ?_
    · exact PE.sliceFrom b'.pe (PE.add b'.pe PE.const_int) (by omega)
    intro s' b'
    refine Ex.assign b' (p := .int (Txt.find (Txt.slice x (some (Txt.find x dot + 1)) none) dot)) (PE.find b'.pe PE.const_str) ?_
    intro s' b'
    have W1 := hW.keeps b'.keep
    refine Ex.ifs b' (c := (true && (decide (0 ≤ Txt.find (Txt.slice x (some (Txt.find x dot + 1)) none) dot) || Txt.slice x (some (Txt.find x dot + 1)) none == Str.ofString "local"))) ?_ ?_ ?_
    · refine PT.and (PT.ofBool (PE.callP hfl (c_hdn R hfl _ hx) hA W1 (PEs.cons b'.pe PEs.nil))) fun _ => PT.or ?_ fun _ => ?_
      · exact PT.cmp (p := .int (Txt.find (Txt.slice x (some (Txt.find x dot + 1)) none) dot)) (q := .int 0) b'.pe PE.const_int gGe
      · exact PT.cmp (p := .str (Txt.slice x (some (Txt.find x dot + 1)) none)) (q := .str (Str.ofString "local")) b'.pe PE.const_str gEqS
    · intro h2 s' b'
      have e : reachV x = dot ++ Txt.slice x (some (Txt.find x dot + 1)) none := by
        unfold reachV; rw [if_pos h1, if_pos (by simpa using h2)]
      rw [e]
      refine Ex.fin b' (PE.cat PE.const_str b'.pe ?_) (fun c m => m)
      have e1 : (Str.ofString ".").length = 1 := by decide +kernel
      omega
    · intro h2 s' b'
      have e : reachV x = x := by
        unfold reachV; rw [if_pos h1, if_neg (by rw [Bool.true_and] at h2; rw [h2]; decide)]
      rw [e]
      refine Ex.skip ?_
      show Ex _ _ _ _ _ _ _ _
      refine Ex.skip ?_
      show Ex _ _ _ _ _ _ _ _
      exact Ex.fin b' b'.pe (fun c m => m)
  · intro h1 s' b'
    have h1 : ¬ 0 ≤ Txt.find x dot := by simpa using h1
    have e : reachV x = x := by unfold reachV; rw [if_neg h1]
    rw [e]
    refine Ex.skip ?_
    show Ex _ _ _ _ _ _ _ _
    exact Ex.fin b' b'.pe (fun c m => m)
end
end Mine

namespace Mine
open PySem PySem.Calls PyProof.Rows Builtin.Str
section
variable {prog : Program} {w : World} {K : W.Frag} {mg mb : Str → Option Value}
structure TiedOk (hs : List Str) (ix : List Nat) : Prop where
  len : hs.length = ix.length + 1
  few : ix.length ≤ 1000
  hosty : ∀ x ∈ hs, Hosty x
  root : reachV (hs.getD 0 Str.empty) = hs.getD 0 Str.empty
  sliced : ∀ k, k < ix.length → Txt.slice (reachV (hs.getD (k + 1) Str.empty)) none (some 1) = dot
  short : ∀ x ∈ hs, (reachV x).length ≤ 1000000
  at_ : ∀ k, k < ix.length → hs[ix.getD k 0]? = some (Txt.slice (reachV (hs.getD (k + 1) Str.empty)) (some 1) none)
  first : ∀ k, k < ix.length → ∀ m, m < ix.getD k 0 → hs[m]? ≠ some (Txt.slice (reachV (hs.getD (k + 1) Str.empty)) (some 1) none)
theorem compRes_all (f : Nat → P) : ∀ n, compRes (fun _ => true) f n = (List.range n).map f := fun n => by
  unfold compRes
  rw [List.filter_eq_self.mpr fun _ _ => rfl]
theorem compRes_none (f : Nat → P) : ∀ n, compRes (fun _ => false) f n = [] := fun n => by
  unfold compRes
  rw [show (List.range n).filter (fun _ => false) = [] from List.filter_eq_nil_iff.mpr fun _ _ h => Bool.false_ne_true h]; rfl
theorem c_tied (R : Rx K) {fl : Addr} {fdl : FuncData} (hfl : Fn K (fName (D 6)) (fParams (D 6)) (fBody (D 6)) (fScope (D 6)) fl fdl) {fr : Addr} {fdr : FuncData} (hfr : Fn K (fName (D 9)) (fParams (D 9)) (fBody (D 9)) (fScope (D 9)) fr fdr)
    {f : Addr} {fd : FuncData} (hf : Fn K (fName (D 17)) (fParams (D 17)) (fBody (D 17)) (fScope (D 17)) f fd) (hs : List Str) (ix : List Nat) (T : TiedOk hs ix) :
    PC prog w K mg mb 3 f [.list (hs.map .str)] (.list (ix.map fun i : Nat => .int (i : Int))) := by
  refine PC.make [Str.ofString "hosts"] hf rfl (fun vs h doc pm an cd ct => ?_) (by decide) (by decide +kernel) rfl rfl rfl fun A S s s₁ L cd hA hW hS b E => ?_
  · match vs, h with
    | [u], _ => rfl
  have hlen := T.len
  have hfew := T.few
  unfold D PySem.Challenge.pw_rw0028_01 at b ⊢
  dsimp only [nth, fBody, fScope, fName] at b ⊢
  refine Ex.comp (fun i => true) (fun i => .str (reachV (hs.getD i Str.empty))) b (cl := []) (nc := []) (items := hs.map .str) ?_ ?_ ?_ ?_ ?_ ?_
  · exact CompOk.plain b.frame b.inj rfl (fun q m => nomatch m) rfl
  · exact PI.list hA b.pe
  · rw [List.length_map]; omega
  · intro i p hp S2 C s2 h2
    exact PTs.nil
  · intro i p hp hb S2 C s2 h2
    rw [List.getElem?_map] at hp
    obtain ⟨x, hx, rfl⟩ := Option.map_eq_some_iff.mp hp
    have hg : hs.getD i Str.empty = x := by rw [List.getD_eq_getElem?_getD, hx]; rfl
    rw [hg]
    exact PE.callP hfr (c_reach R hfl hfr x (T.hosty x (List.mem_of_getElem? hx))) hA (hW.keeps (fun c o e => h2.fwd.1.get _ _ (b.keep c o e))) (PEs.cons (PE.name rfl h2.name) PEs.nil)
  intro s3 b3
  rw [compRes_all, List.length_map] at b3
  have htold : (List.range hs.length).map (fun i => P.str (reachV (hs.getD i Str.empty))) = (hs.map reachV).map .str := by
    rw [List.map_map]
    refine List.ext_getElem (by simp) fun i h1 h2 => ?_
    have h3 : i < hs.length := by simpa using h1
    simp [List.getD, h3]
  rw [htold] at b3
  have hget : ∀ i, i < hs.length → (hs.map reachV)[i]? = some (reachV (hs.getD i Str.empty)) := fun i hi => by
    rw [List.getElem?_map, getD_someS hi]; rfl
  have hs0 : hs[0]? = some (hs.getD 0 Str.empty) := getD_someS (by omega)
  have hdrop : ∀ i p, (((hs.map reachV).map P.str).drop 1)[i]? = some p → p = .str (reachV (hs.getD (i + 1) Str.empty)) ∧ i < ix.length := fun i p hp => by
    rw [List.getElem?_drop] at hp
    have hi : 1 + i < hs.length := by have := (List.getElem?_eq_some_iff.mp hp).1; simpa using this
    rw [List.getElem?_map, hget _ hi] at hp
    cases hp
    exact ⟨by rw [Nat.add_comm], by omega⟩
  have W3 := hW.keeps b3.keep
  refine Ex.ifs b3 (c := ((reachV (hs.getD 0 Str.empty) != hs.getD 0 Str.empty) || !(([] : List Str) == [])) ) ?_ ?_ ?_
  · refine PT.or ?_ fun _ => ?_
    · exact PT.cmp (p := .str (reachV (hs.getD 0 Str.empty))) (q := .str (hs.getD 0 Str.empty)) (PE.item (i := 0) b3.pe PE.const_int (pick_map (a := reachV (hs.getD 0 Str.empty)) (hget 0 (by omega))) (by omega) (by omega)) (PE.item (i := 0) b3.pe PE.const_int (pick_map (a := hs.getD 0 Str.empty) hs0) (by omega) (by omega)) gNeS
    · refine PT.cmp (p := .list (([] : List Str).map .str)) (q := .list (([] : List Str).map .str)) ?_ (PE.display PEs.nil (by decide)) (gNeStrs hA (fun x m => nomatch m) (fun x m => nomatch m))
      refine PE.eq (PE.comp (fun i => false) (fun i => .none) (cl := [(Str.ofString "hosts", L + 1)]) (nc := []) (items := ((hs.map reachV).map P.str).drop 1) ?_ ?_ ?_ ?_ ?_) (congrArg P.list (compRes_none _ _))
      · exact CompOk.plain b3.frame b3.inj rfl (by intro q m; rw [List.mem_singleton.mp m]; rfl) rfl
      · exact PI.list hA (PE.sliceList (i := 1) (ps := (hs.map reachV).map P.str) b3.pe PE.const_int (by simp; omega) (by simp; omega))
      · simp; omega
      · intro i p hp S2 C s2 h2
        obtain ⟨rfl, hi⟩ := hdrop i p hp
        have hm : hs.getD (i + 1) Str.empty ∈ hs := List.mem_of_getElem? (getD_someS (by omega))
        have hsh := T.short _ hm
        refine PTs.one (PT.eq (PT.or (a := false) (b := false) (PT.eq (PT.cmp (p := .str (Txt.slice (reachV (hs.getD (i + 1) Str.empty)) none (some 1))) (q := .str dot) (PE.sliceTo (PE.name rfl h2.name) PE.const_int (by omega)) PE.const_str gNeS) ?_) fun _ => PT.eq (PT.cmp (p := .str (Txt.slice (reachV (hs.getD (i + 1) Str.empty)) (some 1) none)) (q := .list (hs.map .str)) (PE.sliceFrom (PE.name rfl h2.name) PE.const_int (by omega)) (PE.name rfl (NV.inner b3.get h2.fwd (.inl rfl) (.inl rfl) rfl)) gNotIn) ?_) rfl)
        · rw [T.sliced i hi]; exact bne_self_eq_false dot
        · rw [Bool.not_eq_false', List.contains_iff_mem]; exact List.mem_of_getElem? (T.at_ i hi)
      · intro i p hp hb; cases hb
  · intro h; rw [T.root, bne_self_eq_false] at h; cases h
  intro _ s4 b4
  refine Ex.skip ?_
  show Ex _ _ _ _ _ _ _ _
  refine Ex.fin b4 (p := .list (ix.map fun i : Nat => .int (i : Int))) ?_ (fun c m => m)
  refine PE.eq (PE.comp (fun i => true) (fun i => .int (ix.getD i 0 : Nat)) (cl := [(Str.ofString "hosts", L + 1)]) (nc := []) (items := ((hs.map reachV).map P.str).drop 1) ?_ ?_ ?_ ?_ ?_) ?_
  · exact CompOk.plain b4.frame b4.inj rfl (by intro q m; rw [List.mem_singleton.mp m]; rfl) rfl
  · exact PI.list hA (PE.sliceList (i := 1) (ps := (hs.map reachV).map P.str) b4.pe PE.const_int (by simp; omega) (by simp; omega))
  · simp; omega
  · intro i p hp S2 C s2 h2
    exact PTs.nil
  · intro i p hp hb S2 C s2 h2
    obtain ⟨rfl, hi⟩ := hdrop i p hp
    have hm : hs.getD (i + 1) Str.empty ∈ hs := List.mem_of_getElem? (getD_someS (by omega))
    have hsh := T.short _ hm
    have hj : ix.getD i 0 < hs.length := (List.getElem?_eq_some_iff.mp (T.at_ i hi)).1
    exact PE.indexS (PE.name rfl (NV.inner b4.get h2.fwd (.inl rfl) (.inl rfl) rfl)) (PE.sliceFrom (PE.name rfl h2.name) PE.const_int (by omega)) (T.at_ i hi) (T.first i hi) (by omega)
  · rw [compRes_all]
    congr 1
    refine List.ext_getElem (by simp; omega) fun i h1 h2 => ?_
    have h3 : i < ix.length := by simpa using h2
    simp [List.getD, h3]
end
end Mine

namespace Mine
open PySem PySem.Calls PyProof.Rows Builtin.Str
section
variable {prog : Program} {w : World} {A : Around}
theorem Makes.one {scope : Scope} {cl : List (Str × Addr)} {env : Env} {y : Str} (hcf : ∀ C, cellsFrom (C + 1) scope.names cl = (y, C + 1) :: cl) (hpc : ∀ h : Heap, pushCells h scope.names = h.push { cls := .type "cell", data := .cell none }) (hkind : scope.kind = .function) :
    Makes prog w A scope cl [(y, 1)] env := fun s Q E h => by
  simp only [newFunctionEnv, Option.isSome_some, if_true]
  refine wpAny_bind (wpAny_alloc ?_)
  refine wpAny_bind (wpAny_layCells _ (fun name kind cells => by cases hkc : kind == NameKind.cell <;> simp) _ _ _ _ ?_)
  rw [List.forIn_nil]
  refine wpAny_bind (wpAny_pure (wpAny_pure ?_))
  have hsz : (s.heap.push { cls := .type "dict", data := .dict #[] }).objs.size = s.heap.objs.size + 1 := Heap.size_push ..
  have hk : ∀ b o, s.heap.get? b = some o → (pushCells (s.heap.push { cls := .type "dict", data := .dict #[] }) scope.names).get? b = some o := fun b o e => by
    rw [hpc]; exact Heap.get?_push_of_some _ (Heap.get?_push_of_some _ e)
  refine h _ s.toks _ ?_ rfl ?_ ?_ hk
  · dsimp only
    rw [hsz, hcf]; rfl
  · rw [hpc]
    exact ⟨_, (Heap.Ns.new s.heap (.type "dict")).keeps fun b o e => Heap.get?_push_of_some _ e⟩
  · intro q m
    rw [List.mem_singleton.mp m]
    dsimp only
    rw [hpc, ← hsz]
    exact ⟨_, Heap.get?_push_size _ rfl, rfl⟩
/-- the target is a cell of the comprehension -/
theorem CompOk.one {env : Env} {s : Shared} {scope : Scope} {x : Str} {cl : List (Str × Addr)} (F : FrameOk env s.heap) (hi : Inj env) (hclos : closureFor scope env = pure cl) (hsub : ∀ q ∈ cl, env.cells.lookup q.1 = some q.2)
    (hx : ∀ C, (CE scope [(x, 1)] cl env C).kindOf x = some .cell) (hne : ∀ q ∈ cl, q.1 ≠ x) (hcf : ∀ C, cellsFrom (C + 1) scope.names cl = (x, C + 1) :: cl := by intro _; rfl) (hpc : ∀ h : Heap, pushCells h scope.names = h.push { cls := .type "cell", data := .cell none } := by intro _; rfl) (hkind : scope.kind = .function := by rfl)
    (hnames : ∀ y ∈ scope.names, y.2 = .local → scope.names.lookup y.1 = some .local := by decide) : CompOk prog w A env s scope x [(x, 1)] cl where
  clos := hclos
  kind := hkind
  names := hnames
  makes := Makes.one hcf hpc hkind
  store := fun C => by
    have hl : (CE scope [(x, 1)] cl env C).cells.lookup x = some (C + 1) := by
      show List.lookup x ((x, C + 1) :: cl) = _
      rw [List.lookup_cons, beq_self_eq_true]
    refine ⟨.inr ⟨hx C, _, hl⟩, fun c h => ?_⟩
    rcases h with ⟨e, _⟩ | ⟨_, e⟩
    · rw [hx C] at e; cases e
    · rw [hl] at e; cases e; exact .inr ⟨_, List.mem_singleton.mpr rfl, rfl⟩
  inj := fun C hlt y z c e1 e2 => by
    change List.lookup y ((x, C + 1) :: cl) = some c at e1
    change List.lookup z ((x, C + 1) :: cl) = some c at e2
    rw [List.lookup_cons] at e1 e2
    cases h1 : y == x <;> cases h2 : z == x <;> rw [h1] at e1 <;> rw [h2] at e2
    · exact hi y z c (hsub (y, c) (mem_of_look e1)) (hsub (z, c) (mem_of_look e2))
    · cases e2; exact absurd (hlt _ _ e1) (Nat.not_lt.mpr (Nat.le_succ C))
    · cases e1; exact absurd (hlt _ _ e2) (Nat.not_lt.mpr (Nat.le_succ C))
    · rw [eq_of_beq h1, eq_of_beq h2]
  cells := fun y c m => F.2 y c (hsub (y, c) m)
end
end Mine

namespace Mine
open PySem PySem.Calls PyProof.Rows Builtin.Str
/-- one name from outside -/
theorem CompOk.free1 {prog : Program} {w : World} {A : Around} {env : Env} {s : Shared} {scope : Scope} {x y : Str} {c : Addr} (hclos : closureFor scope env = pure [(y, c)]) (hcell : ∃ ov, s.heap.IsCell c ov)
    (hx : scope.names.lookup x = some .local) (hkind : scope.kind = .function := by rfl) (hcell' : ∀ y ∈ scope.names, y.2 ≠ .cell := by decide)
    (hnames : ∀ y ∈ scope.names, y.2 = .local → scope.names.lookup y.1 = some .local := by decide) : CompOk prog w A env s scope x [] [(y, c)] where
  clos := hclos
  kind := hkind
  names := hnames
  makes := Makes.plain hcell' hkind
  store := fun C => ⟨.inl (lookup_relabel_local hx), fun c h => by
    rcases h with ⟨_, e⟩ | ⟨e, _⟩
    · exact .inl e
    · rw [show (CE scope [] [(y, _)] env C).kindOf x = some .local from lookup_relabel_local hx] at e; cases e⟩
  inj := fun C _ u z d e1 e2 => by
    have h1 := mem_of_look (l := [(y, c)]) e1
    have h2 := mem_of_look (l := [(y, c)]) e2
    rw [List.mem_singleton] at h1 h2
    cases h1; cases h2; rfl
  cells := fun u d m => by rw [List.mem_singleton] at m; cases m; exact hcell
section
variable {prog : Program} {w : World} {K : W.Frag} {mg mb : Str → Option Value}
def prev (k : Nat) : Nat := if k = 0 then 4 else k - 1
def textV (hs : List Str) (k : Nat) : Str := (hs.getD (prev k) Str.empty ++ dot) ++ hs.getD k Str.empty
def belowV (hs : List Str) (k j : Nat) : Bool := Txt.endswith (Txt.lower (Txt.upper (textV hs k))) (Txt.lower (dot ++ hs.getD (j + 1) Str.empty))
structure BelowOk (hs : List Str) : Prop where
  len : hs.length = 5
  short : ∀ x ∈ hs, x.length ≤ 1000
  up : ∀ k, k < 5 → (Txt.upper (textV hs k)).length < 1000000
  low : ∀ k, k < 5 → (Txt.lower (Txt.upper (textV hs k))).length < 1000000
  tail : ∀ k, k < 5 → Tail (Txt.lower (Txt.upper (textV hs k))).cps
  lowH : ∀ j, j < 4 → (Txt.lower (dot ++ hs.getD (j + 1) Str.empty)).length < 1000000
  tailH : ∀ j, j < 4 → Tail (Txt.lower (dot ++ hs.getD (j + 1) Str.empty)).cps
  dots : ∀ j, j < 4 → Txt.startswith (Txt.lower (dot ++ hs.getD (j + 1) Str.empty)) dot = true
theorem c_below (N : NamesB K) (R : Rx K) {fl : Addr} {fdl : FuncData} (hfl : Fn K (fName (D 7)) (fParams (D 7)) (fBody (D 7)) (fScope (D 7)) fl fdl) {fu : Addr} {fdu : FuncData} (hfu : Fn K (fName (D 8)) (fParams (D 8)) (fBody (D 8)) (fScope (D 8)) fu fdu)
    {f : Addr} {fd : FuncData} (hf : Fn K (fName (D 18)) (fParams (D 18)) (fBody (D 18)) (fScope (D 18)) f fd) (hs : List Str) (T : BelowOk hs) :
    PC prog w K mg mb 3 f [.list (hs.map .str)] (.list ((List.range 5).map fun k => .list ((List.range 4).map fun j => .bool (belowV hs k j)))) := by
  refine PC.make [Str.ofString "hosts"] hf rfl (fun vs h doc pm an cd ct => ?_) (by decide) (by decide +kernel) rfl rfl rfl fun A S s s₁ L cd hA hW hS b E => ?_
  · match vs, h with
    | [u], _ => rfl
  have hlen := T.len
  have e1 : (Str.ofString ".").length = 1 := by decide +kernel
  have fit : ∀ z : Str, z.length < 1000000 → Builtin.Str.tooLong z.length = false := fun z h => by simp [Builtin.Str.tooLong, sizeLine]; omega
  have hat : ∀ i, i < 5 → hs[i]? = some (hs.getD i Str.empty) := fun i hi => getD_someS (by omega)
  have hsh : ∀ i, i < 5 → (hs.getD i Str.empty).length ≤ 1000 := fun i hi => T.short _ (List.mem_of_getElem? (hat i hi))
  have hpr : ∀ k, k < 5 → prev k < 5 := fun k hk => by unfold prev; split <;> omega
  have hpk : ∀ k : Nat, k < 5 → pick (hs.map P.str) ((k : Int) - 1) = some (.str (hs.getD (prev k) Str.empty)) := fun k hk => by
    unfold pick prev
    by_cases h0 : k = 0
    · subst h0
      rw [if_neg (by decide), if_pos (by rw [List.length_map, hlen]; decide), List.getElem?_map, List.length_map, hlen]
      rw [show (((0 : Nat) : Int) - 1 + ((5 : Nat) : Int)).toNat = 4 from rfl, hat 4 (by decide)]; rfl
    · rw [if_pos (by omega), if_neg h0, List.getElem?_map, show ((k : Int) - 1).toNat = k - 1 by omega, hat _ (by omega)]; rfl
  unfold D PySem.Challenge.pw_rw0028_01 at b ⊢
  dsimp only [nth, fBody, fScope, fName] at b ⊢
  refine Ex.comp (fun i => true) (fun k => .str (Txt.upper (textV hs k))) b (cl := [(Str.ofString "hosts", L + 1)]) (nc := []) (items := upto 0 5) ?_ ?_ ?_ ?_ ?_ ?_
  · exact CompOk.plain b.frame b.inj rfl (by intro q m; rw [List.mem_singleton.mp m]; rfl) rfl
  · exact PI.range hA (PR.one (PE.builtin (hW.keeps b.keep) N.range rfl (by decide)) PE.const_int) (by decide) (by decide) (by decide) (by decide)
  · decide
  · intro i p hp S2 C s2 h2
    exact PTs.nil
  · intro k p hp hb S2 C s2 h2
    obtain ⟨rfl, hk⟩ := upto_get hp
    have hk : k < 5 := hk
    have h1 := hsh k hk
    have h3 := hsh _ (hpr k hk)
    refine PE.upper (PE.cat (PE.cat (PE.item (i := (k : Int) - 1) (p := .str (hs.getD (prev k) Str.empty)) (PE.name rfl (NV.inner b.get h2.fwd (.inl rfl) (.inl rfl) rfl)) (PE.sub (PE.name rfl h2.name) PE.const_int) (hpk k hk) ?_ ?_) PE.const_str ?_) (PE.item (i := (k : Int)) (p := .str (hs.getD k Str.empty)) (PE.name rfl (NV.inner b.get h2.fwd (.inl rfl) (.inl rfl) rfl)) (PE.name rfl h2.name) (pick_map (a := hs.getD k Str.empty) (hat k hk)) ?_ ?_) ?_) (fit _ (T.up k hk))
    all_goals first | omega | skip
    · have : dot.length = 1 := e1
      omega
    · have : dot.length = 1 := e1
      rw [strLen_append]; omega
  intro s3 b3
  rw [compRes_all] at b3
  refine Ex.fin b3 (p := .list ((List.range 5).map fun k => .list ((List.range 4).map fun j => .bool (belowV hs k j)))) ?_ (fun c m => m)
  refine PE.eq (PE.comp (fun i => true) (fun k => .list ((List.range 4).map fun j => .bool (belowV hs k j))) (cl := [(Str.ofString "hosts", L + 1)]) (nc := [(Str.ofString "text", 1)]) (items := (List.range (upto 0 5).length).map (fun k => P.str (Txt.upper (textV hs k)))) ?_ ?_ ?_ ?_ ?_) ?_
  · exact CompOk.one b3.frame b3.inj rfl (by intro q m; rw [List.mem_singleton.mp m]; rfl) (fun _ => rfl) (by intro q m; rw [List.mem_singleton.mp m]; exact (by decide : Str.ofString "hosts" ≠ Str.ofString "text"))
  · exact PI.list hA b3.pe
  · simp [upto_length]
  · intro i p hp S2 C s2 h2
    exact PTs.nil
  · intro k p hp hb S2 C s2 h2
    have hk : k < 5 := by have := (List.getElem?_eq_some_iff.mp hp).1; simpa [upto_length] using this
    have hpe : p = .str (Txt.upper (textV hs k)) := by
      rw [List.getElem?_map, List.getElem?_range (by simpa [upto_length] using hk)] at hp
      cases hp; rfl
    subst hpe
    have hcellC : ∃ ov, s2.heap.IsCell (C + 1) ov := by
      obtain ⟨v, l, _⟩ := h2.name
      rcases l with ⟨a, _⟩ | ⟨_, c, b', e⟩
      · exact nomatch (show some NameKind.cell = some NameKind.local from a)
      · have : c = C + 1 := by
          have b2 : some (C + 1) = some c := b'
          cases b2; rfl
        subst this
        exact ⟨_, e⟩
    refine PE.eq (PE.comp (fun i => true) (fun j => .bool (belowV hs k j)) (cl := [(Str.ofString "text", C + 1)]) (nc := []) (items := (hs.map P.str).drop 1) ?_ ?_ ?_ ?_ ?_) ?_
    · exact CompOk.free1 rfl hcellC rfl
    · exact PI.list hA (PE.sliceList (i := 1) (ps := hs.map P.str) (PE.name rfl (NV.inner b3.get h2.fwd (.inl rfl) (.inl rfl) rfl)) PE.const_int (by simp; omega) (by simp; omega))
    · simp; omega
    · intro i p hp S2 C s2 h2
      exact PTs.nil
    · intro j p hp hb S5 C5 s5 h5
      have hj : j < 4 := by have := (List.getElem?_eq_some_iff.mp hp).1; simp at this; omega
      have hpe : p = .str (hs.getD (j + 1) Str.empty) := by
        rw [List.getElem?_drop, List.getElem?_map, Nat.add_comm, hat _ (by omega)] at hp
        cases hp; rfl
      subst hpe
      have W5 := hW.keeps (fun c o e => h5.fwd.1.get _ _ (h2.fwd.1.get _ _ (b3.keep c o e)))
      have h1 := hsh (j + 1) (by omega)
      exact PE.callP hfu (c_udm R hfl hfu (Txt.upper (textV hs k)) (dot ++ hs.getD (j + 1) Str.empty) (T.tail k hk) (T.tailH j hj) (T.low k hk) (T.lowH j hj) (T.dots j hj)) hA W5
        (PEs.cons (PE.name rfl (NV.inner h2.name h5.fwd (.inl rfl) (.inl rfl) rfl)) (PEs.cons (PE.cat (a := dot) PE.const_str (PE.name rfl h5.name) (by have : dot.length = 1 := e1; omega)) PEs.nil))
    · rw [compRes_all]; simp [hlen]
  · rw [compRes_all]; simp [upto_length]
end
end Mine

namespace Mine
open PySem PySem.Calls PyProof.Rows Builtin.Str
/-! ## rows -/
theorem zip_at {α : Type} : ∀ {as : List Addr} {rs : List α} {i : Nat} {a : Addr} {r : α}, as[i]? = some a → rs[i]? = some r → as.zip rs = (as.zip rs).take i ++ (a, r) :: (as.zip rs).drop (i + 1)
  | [], _, _, _, _, h, _ => by simp at h
  | _ :: _, [], _, _, _, _, h => by simp at h
  | b :: as, q :: rs, 0, a, r, h, h' => by simp at h h'; simp [h, h']
  | b :: as, q :: rs, i + 1, a, r, h, h' => by
    have := zip_at (as := as) (rs := rs) (i := i) (a := a) (r := r) (by simpa using h) (by simpa using h')
    simp only [List.zip_cons_cons, List.take_succ_cons, List.drop_succ_cons, List.cons_append]
    rw [← this]
theorem zip_set {α : Type} : ∀ {as : List Addr} {rs : List α} {i : Nat} {a : Addr} {r : α}, as[i]? = some a → i < rs.length → as.zip (rs.set i r) = (as.zip rs).take i ++ (a, r) :: (as.zip rs).drop (i + 1)
  | [], _, _, _, _, h, _ => by simp at h
  | _ :: _, [], _, _, _, _, h => by simp at h
  | b :: as, q :: rs, 0, a, r, h, h' => by simp at h; simp [h]
  | b :: as, q :: rs, i + 1, a, r, h, h' => by
    have := zip_set (as := as) (rs := rs) (i := i) (a := a) (r := r) (by simpa using h) (by simpa using h')
    simp only [List.set_cons_succ, List.zip_cons_cons, List.take_succ_cons, List.drop_succ_cons, List.cons_append]
    rw [← this]
theorem zip_fst {α : Type} : ∀ {as : List Addr} {rs : List α}, as.length = rs.length → (as.zip rs).map (·.1) = as
  | [], _, _ => rfl
  | _ :: _, [], h => nomatch h
  | a :: as, r :: rs, h => by
    simp only [List.zip_cons_cons, List.map_cons]
    rw [zip_fst (by simpa using h)]
section
variable {prog : Program} {w : World} {A : Around} {s₀ : Shared} {S : List Addr} {env : Env} {s : Shared} {ρ : List (Str × P)} {rest : List Stmt} {Q : Flow → Shared → Prop} {E : Value → Shared → Prop}
theorem Iss.reveal {g g' : Gt} : ∀ {as : List Addr} {rows : List (List P)} {vs : List Value}, as.length = rows.length → Iss g (as.map fun a => P.val (.ref a)) vs → (∀ q ∈ as.zip rows, Is g' (.list q.2) (.ref q.1)) → Iss g' (rows.map .list) vs
  | [], [], vs, _, h, _ => by
    match vs, h with
    | [], _ => exact Iss.nil
    | _ :: _, h => simp only [List.map_nil, Iss] at h; cases h
  | a :: as, r :: rows, [], _, h, _ => by
    have := h.length
    simp at this
  | a :: as, r :: rows, v :: vs, hl, h, hq => by
    have h1 := h.head.ofVal
    subst h1
    exact Iss.cons (hq (a, r) (by simp)) (Iss.reveal (by simpa using hl) h.tail fun q m => hq q (by simp [m]))
/-- a return of a list of hidden rows -/
theorem Ex.finRows {S₁ : List Addr} {x : Str} {xp pos : Pos} {as : List Addr} {rows : List (List P)} (b : B s₀ s₀.heap.get? S env s ρ (as.zip rows)) (hl : as.length = rows.length) (hx : ρ.lookup x = some (.list (as.map fun a => .val (.ref a)))) (hS : ∀ c ∈ S₁, c ∈ S) (ha : ∀ a ∈ as, a ∉ S₁)
    (hQ : ∀ v s', Done S₁ s₀ (.list (rows.map .list)) (.ret v) s' → Q (.ret v) s' := by exact fun _ _ h => h) (hd : (x == ("__debug__" : Str)) = false := by rfl) (hc : (x == ("__classdict__" : Str)) = false := by rfl) : Ex prog w A env (.Return (some (.Name x xp)) pos :: rest) Q E s :=
  Ex.ret b (p := .list (as.map fun a => .val (.ref a))) (PE.name b.kind (b.names x _ hx) hd hc) fun v s' hv b' => hQ v s' ⟨v, rfl, by
    obtain ⟨a, n, vs, rfl, la, ia⟩ := hv.ofList
    refine Is.list (hid_some.mpr ⟨fun m => (hid_some.mp la).1 (hS _ m), (hid_some.mp la).2⟩) (Iss.reveal hl ia fun q m => b'.light m hS (ha _ (List.of_mem_zip m).1)), b'.exit⟩
theorem compRes_list {α : Type} (d : α) (q : α → Bool) (g : α → P) (l : List α) : compRes (fun i => q (l.getD i d)) (fun i => g (l.getD i d)) l.length = (l.filter q).map g := by
  have h : (List.range l.length).map (fun i => l.getD i d) = l := by
    refine List.ext_getElem (by simp) fun i h1 h2 => ?_
    simp [List.getD, h2]
  have h2 : (l.filter q).map g = (((List.range l.length).map (fun i => l.getD i d)).filter q).map g := by rw [h]
  rw [h2, List.filter_map, List.map_map]
  rfl
end
section
variable {prog : Program} {w : World} {K : W.Frag} {mg mb : Str → Option Value}
def sep : Str := Str.ofString ", "
structure WayOk (n : Int) (way : List Str) : Prop where
  hz : (baseText "0x" 16 (pfSt n 32).1).length ≤ 1000000
  hj : JoinOk sep (pfV n) = true
  hx : (Txt.join sep (pfV n)).length ≤ 16777216
  hn : (partsBetween (Txt.join sep (pfV n)) (Builtin.Str.occurrences (Txt.join sep (pfV n)) sep 0 (Txt.join sep (pfV n)).length ((Txt.join sep (pfV n)).length + 1)) sep.length).length ≤ sizeLine
  split : Txt.split (Txt.join sep (pfV n)) sep = way
  few : way.length ≤ 1000
  ok : ∀ x ∈ way, PyData.strOk x = true
def setT (t : List (List Int)) (r c : Nat) (v : Int) : List (List Int) := t.set r ((t.getD r []).set c v)
def upV (ws : List Str) (ix : Str → Nat) (ps : List Int) (way : List Str) : Int := (way.map fun x => ps.getD (ix x) 0).sum
def lowV (bl : Nat → Nat → Bool) (ps : List Int) (i j : Nat) : Int := (((List.range 4).filter fun k => bl i k != bl j k).map fun k => ps.getD k 0).sum
def innT (ws : List Str) (ix : Str → Nat) (ps : List Int) (bl : Nat → Nat → Bool) (way : Nat → Nat → List Str) (j : Nat) (t : List (List Int)) : Nat → List (List Int)
  | 0 => t
  | i + 1 => setT (setT (innT ws ix ps bl way j t i) i j (upV ws ix ps (way i j))) j i (lowV bl ps i j)
def outT (ws : List Str) (ix : Str → Nat) (ps : List Int) (bl : Nat → Nat → Bool) (way : Nat → Nat → List Str) : Nat → List (List Int)
  | 0 => List.replicate 5 (List.replicate 5 0)
  | j + 1 => innT ws ix ps bl way j (outT ws ix ps bl way j) j
def Five (t : List (List Int)) : Prop := t.length = 5 ∧ ∀ r ∈ t, r.length = 5
theorem Five.getD {t : List (List Int)} (h : Five t) {r : Nat} (hr : r < 5) : t[r]? = some (t.getD r []) ∧ (t.getD r []).length = 5 := by
  have h1 : t[r]? = some (t.getD r []) := by rw [List.getD_eq_getElem?_getD, List.getElem?_eq_getElem (by rw [h.1]; exact hr)]; rfl
  exact ⟨h1, h.2 _ (List.mem_of_getElem? h1)⟩
theorem Five.set {t : List (List Int)} (h : Five t) {r c : Nat} (hr : r < 5) (v : Int) : Five (setT t r c v) := by
  refine ⟨by unfold setT; rw [List.length_set]; exact h.1, fun q m => ?_⟩
  unfold setT at m
  rcases List.mem_or_eq_of_mem_set m with m | rfl
  · exact h.2 q m
  · rw [List.length_set]; exact (h.getD hr).2
theorem innT_five {ws : List Str} {ix : Str → Nat} {ps : List Int} {bl : Nat → Nat → Bool} {way : Nat → Nat → List Str} {j : Nat} {t : List (List Int)} (hj : j < 5) (h : Five t) : ∀ i, i ≤ 5 → Five (innT ws ix ps bl way j t i)
  | 0, _ => h
  | i + 1, hi => ((innT_five hj h i (by omega)).set (by omega) _).set hj _
theorem outT_five {ws : List Str} {ix : Str → Nat} {ps : List Int} {bl : Nat → Nat → Bool} {way : Nat → Nat → List Str} : ∀ j, j ≤ 5 → Five (outT ws ix ps bl way j)
  | 0, _ => ⟨rfl, fun r m => by rw [(List.mem_replicate.mp m).2]; rfl⟩
  | j + 1, hj => innT_five (by omega) (outT_five j (by omega)) j (by omega)
structure TableOk (ns : List Int) (ws : List Str) (ix : Str → Nat) (ps : List Int) (rs : List Str) (way : Nat → Nat → List Str) : Prop where
  nlen : ns.length = 5
  wlen : ws.length = 4
  plen : ps.length = 4
  rlen : rs.length ≤ 1000
  ways : ∀ i j, i < j → j < 5 → WayOk (Builtin.bitXor (ns.getD i 0) (ns.getD j 0)) (way i j)
  rise : ∀ i j, i < j → j < 5 → rs.filter (fun x => (way i j).contains x) = way i j
  index : ∀ i j, i < j → j < 5 → ∀ x ∈ way i j, ws[ix x]? = some x ∧ ∀ m, m < ix x → ws[m]? ≠ some x
end
end Mine

namespace Mine
open PySem PySem.Calls PyProof.Rows Builtin.Str
section
variable {prog : Program} {w : World} {K : W.Frag} {mg mb : Str → Option Value}
def rowsP (t : List (List Int)) : List (List P) := t.map fun r => r.map P.int
theorem rowsP_set {t : List (List Int)} (h : Five t) {r c : Nat} (hr : r < 5) (v : Int) : rowsP (setT t r c v) = (rowsP t).set r (((t.getD r []).map P.int).set c (.int v)) := by
  unfold rowsP setT
  rw [List.map_set, List.map_set]
theorem Ex.setCell {A : Around} {s₀ : Shared} {G : Gt} {S : List Addr} {env : Env} {s : Shared} {ρ : List (Str × P)} {rest : List Stmt} {Q : Flow → Shared → Prop} {E : Value → Shared → Prop}
    {x : Str} {xp pa pb pos : Pos} {i j value : Expr} {as : List Addr} {t : List (List Int)} {r c : Nat} {v : Int} (b : B s₀ G S env s ρ (as.zip (rowsP t))) (ht : Five t) (has : as.length = 5) (hx : ρ.lookup x = some (.list (as.map fun a => .val (.ref a))))
    (hv : PE prog w A S env s value (.int v)) (hi : PE prog w A S env s i (.int r)) (hj : PE prog w A S env s j (.int c)) (hr : r < 5) (hc : c < 5)
    (k : ∀ s', B s₀ G S env s' ρ (as.zip (rowsP (setT t r c v))) → Ex prog w A env rest Q E s') (hs : swapsWith value (some (.Subscript (.Subscript (.Name x xp) i pa) j pb)) pos.line env = pure false := by rfl)
    (hd : (x == ("__debug__" : Str)) = false := by rfl) (hcd : (x == ("__classdict__" : Str)) = false := by rfl)
    (hsub : ∀ a t, subscripted i false (.ref a) (.int r t) = operate [.ref a, .int r t] (getItem (.ref a) (.int r t)) := by intros; with_unfolding_all rfl) :
    Ex prog w A env (.Assign [.Subscript (.Subscript (.Name x xp) i pa) j pb] value pos :: rest) Q E s := by
  obtain ⟨h1, h2⟩ := ht.getD hr
  have ha : as[r]? = some (as.getD r 0) := by rw [List.getD_eq_getElem?_getD, List.getElem?_eq_getElem (by omega)]; rfl
  have hrow : (rowsP t)[r]? = some ((t.getD r []).map P.int) := by unfold rowsP; rw [List.getElem?_map, h1]; rfl
  have e := zip_at ha hrow
  rw [e] at b
  refine Ex.setItem (a := as.getD r 0) (ps := (t.getD r []).map P.int) (j := c) (p := .int v) _ _ b hv ?_ hj (by rw [List.length_map, h2]; exact hc) (by rw [List.length_map, h2]; decide) ?_ hs
  · refine PE.item (ps := as.map fun a => .val (.ref a)) (i := r) (PE.name b.kind (b.names x _ hx) hd hcd) hi ?_ (by omega) (by omega) hsub
    unfold pick
    rw [if_pos (by omega), Int.toNat_natCast, List.getElem?_map, ha]; rfl
  · intro s' b'
    refine k s' ?_
    rw [rowsP_set ht hr, zip_set ha (by unfold rowsP; rw [List.length_map, ht.1]; exact hr)]
    exact b'
theorem c_table (N : NamesB K) {dct : Addr} (T : Tab prog w K dct) {fp : Addr} {fdp : FuncData} (hfp : Fn K (fName (D 3)) (fParams (D 3)) (fBody (D 3)) (fScope (D 3)) fp fdp)
    {f : Addr} {fd : FuncData} (hf : Fn K (fName (D 19)) (fParams (D 19)) (fBody (D 19)) (fScope (D 19)) f fd) (ns : List Int) (ws : List Str) (ix : Str → Nat) (ps : List Int) (rs : List Str) (bl : Nat → Nat → Bool) (way : Nat → Nat → List Str) (T' : TableOk ns ws ix ps rs way) :
    PC prog w K mg mb 2 f [.list (ns.map .int), .list ((List.range 5).map fun k => .list ((List.range 4).map fun j => .bool (bl k j))), .list (ws.map .str), .list (ps.map .int), .list (rs.map .str)]
      (.list ((outT ws ix ps bl way 5).map fun r => .list (r.map .int))) := by
  refine PC.make [Str.ofString "numbers", Str.ofString "below", Str.ofString "words", Str.ofString "prices", Str.ofString "rising"] hf rfl (fun vs h doc pm an cd ct => ?_) (by decide) (by decide +kernel) rfl rfl rfl fun A S s s₁ L cd hA hW hS b E => ?_
  · match vs, h with
    | [u1, u2, u3, u4, u5], _ => rfl
  have hnl := T'.nlen
  have hwl := T'.wlen
  have hpl := T'.plen
  have hrl := T'.rlen
  have hnat : ∀ i, i < 5 → ns[i]? = some (ns.getD i 0) := fun i hi => getD_some (by omega)
  unfold D PySem.Challenge.pw_rw0028_01 at b ⊢
  dsimp only [nth, fBody, fScope, fName] at b ⊢
  refine Ex.rows (fun _ => List.replicate 5 (.int 0)) b (cl := []) (nc := []) (items := upto 0 5) ?_ ?_ ?_ ?_ ?_ ?_
  · exact CompOk.plain b.frame b.inj rfl (fun q m => nomatch m) rfl
  · exact PI.range hA (PR.one (PE.builtin (hW.keeps b.keep) N.range rfl (by decide)) PE.const_int) (by decide) (by decide) (by decide) (by decide)
  · decide
  · intro i p m; rw [(List.mem_replicate.mp m).2]; rfl
  · intro i p hp S2 C s2 h2
    exact PF.repL (p := .int 0) (b := 5) (PE.display (PEs.cons PE.const_int PEs.nil) (by simp)) PE.const_int (by decide) (by decide)
  intro as has s3 b3
  have has : as.length = 5 := has
  have hz0 : ((List.range (upto 0 5).length).map fun _ => List.replicate 5 (P.int 0)) = rowsP (outT ws ix ps bl way 0) := rfl
  rw [hz0, List.append_nil] at b3
  have hnotS : ∀ a ∈ as, a ∉ S := fun a m hm => by
    obtain ⟨o, ho⟩ := hS a hm
    have hfst : (as.zip (rowsP (outT ws ix ps bl way 0))).map (·.1) = as := zip_fst (by rw [has]; rfl)
    rw [← hfst] at m
    obtain ⟨q, hq, rfl⟩ := List.mem_map.mp m
    obtain ⟨_, h2, _⟩ := b3.muts q hq
    rw [ho] at h2; cases h2
  have hfive := fun j hj => outT_five (ws := ws) (ix := ix) (ps := ps) (bl := bl) (way := way) j hj
  have hlen : ∀ t, Five t → as.length = (rowsP t).length := fun t h => by unfold rowsP; rw [List.length_map, h.1, has]
  have hfst0 : (as.zip (rowsP (outT ws ix ps bl way 0))).map (·.1) = as := zip_fst (hlen _ (hfive 0 (by decide)))
  have hroom : ∀ t : List (List Int), True := fun _ => trivial
  refine Ex.forI (fun j => [(Str.ofString "numbers", .list (ns.map .int)), (Str.ofString "below", .list ((List.range 5).map fun k => .list ((List.range 4).map fun j => .bool (bl k j)))), (Str.ofString "words", .list (ws.map .str)), (Str.ofString "prices", .list (ps.map .int)), (Str.ofString "rising", .list (rs.map .str)), (Str.ofString "table", .list (as.map fun a => .val (.ref a)))])
    (fun j => as.zip (rowsP (outT ws ix ps bl way (min j 5)))) (fun _ => True) b3 (items := upto 0 5) ?_ trivial ?_ ?_ ?_ ?_ ?_
  · exact PI.range hA (PR.one (PE.builtin (hW.keeps b3.keep) N.range rfl (by decide)) PE.const_int) (by decide) (by decide) (by decide) (by decide)
  · exact ⟨rfl, rfl, rfl, rfl, rfl, rfl, trivial⟩
  · rfl
  · intro k
    rw [hfst0]; exact zip_fst (hlen _ (hfive _ (by omega)))
  · intro j p hp _ S4 G4 s4 hS4 hG4 b4 E4
    obtain ⟨rfl, hj⟩ := upto_get hp
    have hj : j < 5 := hj
    rw [show min j 5 = j by omega] at b4
    have hin := fun i hi => innT_five (ws := ws) (ix := ix) (ps := ps) (bl := bl) (way := way) hj (hfive j (by omega)) i hi
    have W4 := hW.keeps (fun c o e => b4.keep c o (hG4 c o e))
    refine Ex.forI (fun i => [(Str.ofString "j", .int j), (Str.ofString "numbers", .list (ns.map .int)), (Str.ofString "below", .list ((List.range 5).map fun k => .list ((List.range 4).map fun j => .bool (bl k j)))), (Str.ofString "words", .list (ws.map .str)), (Str.ofString "prices", .list (ps.map .int)), (Str.ofString "rising", .list (rs.map .str)), (Str.ofString "table", .list (as.map fun a => .val (.ref a)))])
      (fun i => as.zip (rowsP (innT ws ix ps bl way j (outT ws ix ps bl way j) (min i j)))) (fun _ => True) b4 (items := upto 0 j) ?_ trivial ?_ ?_ ?_ ?_ ?_
    · exact PI.range hA (PR.one (PE.builtin W4 N.range rfl (by decide)) b4.pe) (by decide) (by decide) (by omega) (by omega)
    · exact ⟨rfl, rfl, rfl, rfl, rfl, rfl, rfl, trivial⟩
    · rw [show min 0 j = 0 by omega]; rfl
    · intro k
      rw [zip_fst (hlen _ (hin _ (by omega))), zip_fst (hlen _ (hfive j (by omega)))]
    · intro i p hp _ S5 G5 s5 hS5 hG5 b5 E5
      obtain ⟨rfl, hi⟩ := upto_get hp
      have hi : i < j := by omega
      rw [show min i j = i by omega] at b5
      have hft := hin i (by omega)
      have Wk : ∀ {s6 ρ6 μ6}, B s G5 S5 (W.envX (Str.ofString "_law_table") (fScope (D 19)) L f cd (cellsFrom (L + 1) (fScope (D 19)).names [])) s6 ρ6 μ6 → Wd K mg mb s6.heap := fun b6 => hW.keeps (fun c o e => b6.keep c o (hG5 c o (hG4 c o e)))
      have O := T'.ways i j hi hj
      have hrise := T'.rise i j hi hj
      have hix := T'.index i j hi hj
      generalize hw : way i j = wy at O hrise hix
      refine Ex.assign b5 (p := .list (wy.map .str)) ?_ ?_
      · refine PE.eq (PE.split (PE.callP hfp (c_pf N T hfp (Builtin.bitXor (ns.getD i 0) (ns.getD j 0)) O.hz O.hj) hA (Wk b5) (PEs.cons (PE.bxor (PE.item (i := (i : Int)) b5.pe b5.pe (pick_map (hnat i (by omega))) ?_ ?_) (PE.item (i := (j : Int)) b5.pe b5.pe (pick_map (hnat j hj)) ?_ ?_)) PEs.nil)) PE.const_str ?_ O.hx O.hn) (by rw [← O.split]; rfl)
        all_goals first | omega | decide +kernel
      intro s6 b6
      have hcs : ∀ {s7 ρ7 μ7}, B s G5 S5 (W.envX (Str.ofString "_law_table") (fScope (D 19)) L f cd (cellsFrom (L + 1) (fScope (D 19)).names [])) s7 ρ7 μ7 → True := fun _ => trivial
      refine Ex.ifs b6 (c := !(wy == wy)) ?_ ?_ ?_
      · refine PT.cmp (p := .list (wy.map .str)) (q := .list (wy.map .str)) b6.pe ?_ (gNeStrs hA O.ok O.ok)
        refine PE.eq (PE.comp (fun i => wy.contains (rs.getD i Str.empty)) (fun i => .str (rs.getD i Str.empty)) (cl := [(Str.ofString "way", L + 6)]) (nc := []) (items := rs.map .str) ?_ ?_ ?_ ?_ ?_) ?_
        · exact CompOk.plain b6.frame b6.inj rfl (by intro q m; rw [List.mem_singleton.mp m]; rfl) rfl
        · exact PI.list hA b6.pe
        · rw [List.length_map]; omega
        · intro m p hp S7 C s7 h7
          rw [List.getElem?_map] at hp
          obtain ⟨x, hx, rfl⟩ := Option.map_eq_some_iff.mp hp
          have hg : rs.getD m Str.empty = x := by rw [List.getD_eq_getElem?_getD, hx]; rfl
          rw [hg]
          exact PTs.one (PT.cmp (p := .str x) (q := .list (wy.map .str)) (PE.name rfl h7.name) (PE.name rfl (NV.inner b6.get h7.fwd (.inl rfl) (.inl rfl) rfl)) gIn)
        · intro m p hp hb S7 C s7 h7
          rw [List.getElem?_map] at hp
          obtain ⟨x, hx, rfl⟩ := Option.map_eq_some_iff.mp hp
          have hg : rs.getD m Str.empty = x := by rw [List.getD_eq_getElem?_getD, hx]; rfl
          rw [hg]
          exact PE.name rfl h7.name
        · rw [List.length_map, compRes_list Str.empty (fun x => wy.contains x) P.str rs, hrise]
      · intro h; rw [beq_self_eq_true] at h; cases h
      intro _ s7 b7
      refine Ex.skip ?_
      show Ex _ _ _ _ _ _ _ _
      refine Ex.setCell (r := i) (c := j) (v := upV ws ix ps wy) b7 hft has rfl ?_ b7.pe b7.pe (by omega) hj ?_
      · refine PE.sum hA (PE.builtin (Wk b7) N.sum rfl (by decide)) (ns := wy.map fun x => ps.getD (ix x) 0) ?_
        refine PE.eq (PE.comp (fun i => true) (fun m => .int (ps.getD (ix (wy.getD m Str.empty)) 0)) (cl := [(Str.ofString "words", L + 2), (Str.ofString "prices", L + 3)]) (nc := []) (items := wy.map .str) ?_ ?_ ?_ ?_ ?_) ?_
        · exact CompOk.plain b7.frame b7.inj rfl (by intro q m; simp only [List.mem_cons, List.not_mem_nil, or_false] at m; rcases m with rfl | rfl <;> rfl) rfl
        · exact PI.list hA b7.pe
        · rw [List.length_map]; have := O.few; omega
        · intro m p hp S8 C s8 h8
          exact PTs.nil
        · intro m p hp hb S8 C s8 h8
          rw [List.getElem?_map] at hp
          obtain ⟨x, hx, rfl⟩ := Option.map_eq_some_iff.mp hp
          have hg : wy.getD m Str.empty = x := by rw [List.getD_eq_getElem?_getD, hx]; rfl
          rw [hg]
          obtain ⟨h1, h2⟩ := hix x (List.mem_of_getElem? hx)
          have h3 : ix x < 4 := by have := (List.getElem?_eq_some_iff.mp h1).1; omega
          exact PE.item (i := (ix x : Nat)) (p := .int (ps.getD (ix x) 0)) (PE.name rfl (NV.inner b7.get h8.fwd (.inl rfl) (.inl rfl) rfl)) (PE.indexS (PE.name rfl (NV.inner b7.get h8.fwd (.inl rfl) (.inl rfl) rfl)) (PE.name rfl h8.name) h1 h2 (by omega)) (pick_map (getD_some (by omega))) (by omega) (by omega)
        · rw [List.length_map, compRes_list Str.empty (fun _ => true) (fun x => P.int (ps.getD (ix x) 0)) wy, List.filter_eq_self.mpr (fun _ _ => rfl), List.map_map]; rfl
      intro s8 b8
      refine Ex.setCell (r := j) (c := i) (v := lowV bl ps i j) b8 (hft.set (by omega) _) has rfl ?_ b8.pe b8.pe hj (by omega) ?_
      · refine PE.sum hA (PE.builtin (Wk b8) N.sum rfl (by decide)) (ns := ((List.range 4).filter fun k => bl i k != bl j k).map fun k => ps.getD k 0) ?_
        refine PE.eq (PE.comp (fun k => bl i k != bl j k) (fun k => .int (ps.getD k 0)) (cl := [(Str.ofString "prices", L + 3), (Str.ofString "j", L + 4), (Str.ofString "i", L + 5), (Str.ofString "below", L + 1)]) (nc := []) (items := upto 0 4) ?_ ?_ ?_ ?_ ?_) ?_
        · exact CompOk.plain b8.frame b8.inj rfl (by intro q m; simp only [List.mem_cons, List.not_mem_nil, or_false] at m; rcases m with rfl | rfl | rfl | rfl <;> rfl) rfl
        · exact PI.range hA (PR.one (PE.builtin (Wk b8) N.range rfl (by decide)) PE.const_int) (by decide) (by decide) (by decide) (by decide)
        · decide
        · intro k p hp S9 C s9 h9
          obtain ⟨rfl, hk⟩ := upto_get hp
          have hk : k < 4 := hk
          have hrow : ∀ r : Nat, r < 5 → pick ((List.range 5).map fun k => P.list ((List.range 4).map fun j => .bool (bl k j))) (r : Int) = some (.list ((List.range 4).map fun j => .bool (bl r j))) := fun r hr => by
            unfold pick; rw [if_pos (by omega), Int.toNat_natCast, List.getElem?_map, List.getElem?_range hr]; rfl
          have hcell : ∀ r : Nat, pick ((List.range 4).map fun j => P.bool (bl r j)) (k : Int) = some (.bool (bl r k)) := fun r => by
            unfold pick; rw [if_pos (by omega), Int.toNat_natCast, List.getElem?_map, List.getElem?_range hk]; rfl
          exact PTs.one (PT.cmp (p := .bool (bl i k)) (q := .bool (bl j k))
            (PE.item (i := (k : Int)) (PE.item (i := (i : Int)) (PE.name rfl (NV.inner b8.get h9.fwd (.inl rfl) (.inl rfl) rfl)) (PE.name rfl (NV.inner b8.get h9.fwd (.inl rfl) (.inl rfl) rfl)) (hrow i (by omega)) (by omega) (by omega)) (PE.name rfl h9.name) (hcell i) (by omega) (by omega))
            (PE.item (i := (k : Int)) (PE.item (i := (j : Int)) (PE.name rfl (NV.inner b8.get h9.fwd (.inl rfl) (.inl rfl) rfl)) (PE.name rfl (NV.inner b8.get h9.fwd (.inl rfl) (.inl rfl) rfl)) (hrow j hj) (by omega) (by omega)) (PE.name rfl h9.name) (hcell j) (by omega) (by omega)) gNeB)
        · intro k p hp hb S9 C s9 h9
          obtain ⟨rfl, hk⟩ := upto_get hp
          have hk : k < 4 := hk
          exact PE.item (i := (k : Int)) (PE.name rfl (NV.inner b8.get h9.fwd (.inl rfl) (.inl rfl) rfl)) (PE.name rfl h9.name) (pick_map (getD_some (by omega))) (by omega) (by omega)
        · unfold compRes; rw [List.map_map]; rfl
      intro s9 b9
      refine Ex.skip ?_
      refine ⟨?_, trivial⟩
      rw [show min (i + 1) j = i + 1 by omega]
      have b10 := b9.weaken [(Str.ofString "j", .int j), (Str.ofString "numbers", .list (ns.map .int)), (Str.ofString "below", .list ((List.range 5).map fun k => .list ((List.range 4).map fun j => .bool (bl k j)))), (Str.ofString "words", .list (ws.map .str)), (Str.ofString "prices", .list (ps.map .int)), (Str.ofString "rising", .list (rs.map .str)), (Str.ofString "table", .list (as.map fun a => .val (.ref a)))] ⟨rfl, rfl, rfl, rfl, rfl, rfl, rfl, trivial⟩
      rw [innT, hw]; exact b10
    · intro _ s6 b6 E6
      refine Ex.skip ?_
      show Ex _ _ _ _ _ _ _ _
      refine Ex.skip ?_
      refine ⟨?_, trivial⟩
      rw [show min (j + 1) 5 = j + 1 by omega, outT]
      have hul : (upto 0 (j : Int)).length = j := by rw [upto_length]; omega
      rw [hul, Nat.min_self] at b6
      exact b6.weaken [(Str.ofString "numbers", .list (ns.map .int)), (Str.ofString "below", .list ((List.range 5).map fun k => .list ((List.range 4).map fun j => .bool (bl k j)))), (Str.ofString "words", .list (ws.map .str)), (Str.ofString "prices", .list (ps.map .int)), (Str.ofString "rising", .list (rs.map .str)), (Str.ofString "table", .list (as.map fun a => .val (.ref a)))] ⟨rfl, rfl, rfl, rfl, rfl, rfl, trivial⟩
  · intro _ s6 b6 E6
    refine Ex.skip ?_
    show Ex _ _ _ _ _ _ _ _
    have h5 : (outT ws ix ps bl way 5).map (fun r => P.list (r.map .int)) = (rowsP (outT ws ix ps bl way (min (upto 0 5).length 5))).map .list := by
      unfold rowsP; rw [List.map_map]; rfl
    rw [h5]
    exact Ex.finRows b6 (hlen _ (hfive _ (by decide))) rfl (fun c m => List.mem_append_right _ m) hnotS
end
end Mine

namespace Mine
open PySem PySem.Calls PyProof.Rows Builtin.Str
abbrev FnD (K : W.Frag) (k : Nat) (f : Addr) (fd : FuncData) : Prop := Fn K (fName (D k)) (fParams (D k)) (fBody (D k)) (fScope (D k)) f fd
def shV (ns : List Int) : Int := atV ns 0
def abV (ns : List Int) : List Int := [0, (shV ns / 2 + 1) % 2, (shV ns / 4 + 1) % 3, (shV ns / 12 + 2) % 4]
def plV (ns : List Int) : List Int := placesV (atV ns 1 + 892096)
def wsV (ns : List Int) : List Str := (plV ns).map fun p => wordV p.toNat
def rtV (ns : List Int) : Str := if shV ns % 2 = 0 then Str.ofString "local" else Str.ofString "x.net"
def hsV (ns : List Int) : List Str := hostsV (rtV ns) (wsV ns) (abV ns) 4
def prV (ns : List Int) : List Int := (List.range 4).map fun k => atV ns (2 + k) + 2 ^ k
def nbV (ns : List Int) : List Int := numbersV (plV ns) (abV ns) 4
def facV (ix : List Nat) (j : Nat) : Int := 2 - ((ix.map fun i : Nat => (i : Int)).count (j : Int) : Nat) - (if (1 : Int) < j then 1 else (j : Int))
structure LawOk (ns : List Int) (ix : List Nat) (ixw : Str → Nat) (ms : List Int) (way : Nat → Nat → List Str) (t : List (List Int)) : Prop where
  ht : t = outT (wsV ns) ixw (prV ns) (belowV (hsV ns)) way 5
  pl : (plV ns).length = 4
  plb : ∀ k, k < 4 → 0 ≤ (plV ns).getD k 0 ∧ (plV ns).getD k 0 < 54
  wshort : ∀ x ∈ wsV ns, x.length ≤ 20
  tied : TiedOk (hsV ns) ix
  tne : ix ≠ []
  below : BelowOk (hsV ns)
  perm : ms.Perm (plV ns)
  asc : ms.Pairwise (· ≤ ·)
  table : TableOk (nbV ns) (wsV ns) ixw (prV ns) (ms.map fun p => wordV p.toNat) way
  mulRow : ∀ r ∈ t, ∀ j, j < 5 → IntMulOk (r.getD j 0) (facV ix j)
  rows : ∀ r ∈ t, ((List.range 5).map fun j => r.getD j 0 * facV ix j).sum = (prV ns).sum
  mulDet : ∀ k, k < 31 → ∀ c ∈ colsOf (k + 1), IntMulOk (ent t ((colsOf (k + 1)).length - 1) c) ((detWs t k).getD (k + 1 - 2 ^ c) 0)
  m0 : IntMulOk 8 ((prV ns).getD 0 0)
  m1 : IntMulOk (8 * (prV ns).getD 0 0) ((prV ns).getD 1 0)
  m2 : IntMulOk (8 * (prV ns).getD 0 0 * (prV ns).getD 1 0) ((prV ns).getD 2 0)
  m3 : IntMulOk (8 * (prV ns).getD 0 0 * (prV ns).getD 1 0 * (prV ns).getD 2 0) ((prV ns).getD 3 0)
  m4 : IntMulOk (8 * (prV ns).getD 0 0 * (prV ns).getD 1 0 * (prV ns).getD 2 0 * (prV ns).getD 3 0) (prV ns).sum
  det : detV t = 8 * (prV ns).getD 0 0 * (prV ns).getD 1 0 * (prV ns).getD 2 0 * (prV ns).getD 3 0 * (prV ns).sum
section
variable {prog : Program} {w : World} {K : W.Frag} {mg mb : Str → Option Value}
structure Fns (K : W.Frag) : Prop where
  pf : ∃ f fd, FnD K 3 f fd
  hdn : ∃ f fd, FnD K 6 f fd
  lib : ∃ f fd, FnD K 7 f fd
  udm : ∃ f fd, FnD K 8 f fd
  reach : ∃ f fd, FnD K 9 f fd
  at_ : ∃ f fd, FnD K 11 f fd
  word : ∃ f fd, FnD K 12 f fd
  number : ∃ f fd, FnD K 13 f fd
  places : ∃ f fd, FnD K 14 f fd
  hosts : ∃ f fd, FnD K 15 f fd
  numbers : ∃ f fd, FnD K 16 f fd
  tied : ∃ f fd, FnD K 17 f fd
  below : ∃ f fd, FnD K 18 f fd
  table : ∃ f fd, FnD K 19 f fd
  det : ∃ f fd, FnD K 20 f fd
theorem abV_ok (ns : List Int) : ∀ k, k < 4 → 0 ≤ (abV ns).getD k 0 ∧ (abV ns).getD k 0 ≤ k := fun k hk => by
  have : k = 0 ∨ k = 1 ∨ k = 2 ∨ k = 3 := by omega
  unfold abV
  rcases this with rfl | rfl | rfl | rfl
  · exact ⟨Int.le_refl _, Int.le_refl _⟩
  · show 0 ≤ (shV ns / 2 + 1) % 2 ∧ (shV ns / 2 + 1) % 2 ≤ 1
    omega
  · show 0 ≤ (shV ns / 4 + 1) % 3 ∧ (shV ns / 4 + 1) % 3 ≤ 2
    omega
  · show 0 ≤ (shV ns / 12 + 2) % 4 ∧ (shV ns / 12 + 2) % 4 ≤ 3
    omega
theorem pf0 : pfV 0 = [baseText "0x" 16 0] := by decide +kernel
theorem pf0h : (baseText "0x" 16 (pfSt 0 32).1).length ≤ 1000000 := by decide +kernel
theorem pf0j : JoinOk sep (pfV 0) = true := by decide +kernel
theorem pf0v : Txt.join sep (pfV 0) = Str.ofString "0x0" := by decide +kernel
theorem PC.eqv {d : Nat} {f : Addr} {ps : List P} {p q : P} (h : PC prog w K mg mb d f ps p) (e : p = q) : PC prog w K mg mb d f ps q := e ▸ h
theorem c_law (N : NamesB K) (R : Rx K) {dct : Addr} (T : Tab prog w K dct) (F : Fns K) {f : Addr} {fd : FuncData} (hf : FnD K 21 f fd) (ns : List Int) (hn : ns.length ≤ 1000) (ix : List Nat) (ixw : Str → Nat) (ms : List Int) (way : Nat → Nat → List Str) (t : List (List Int)) (O : LawOk ns ix ixw ms way t) :
    PC prog w K mg mb 4 f [.list (ns.map .int)] (.bool true) := by
  obtain ⟨f3, d3, h3⟩ := F.pf
  obtain ⟨f6, d6, h6⟩ := F.hdn
  obtain ⟨f7, d7, h7⟩ := F.lib
  obtain ⟨f8, d8, h8⟩ := F.udm
  obtain ⟨f9, d9, h9⟩ := F.reach
  obtain ⟨f11, d11, h11⟩ := F.at_
  obtain ⟨f12, d12, h12⟩ := F.word
  obtain ⟨f13, d13, h13⟩ := F.number
  obtain ⟨f14, d14, h14⟩ := F.places
  obtain ⟨f15, d15, h15⟩ := F.hosts
  obtain ⟨f16, d16, h16⟩ := F.numbers
  obtain ⟨f17, d17, h17⟩ := F.tied
  obtain ⟨f18, d18, h18⟩ := F.below
  obtain ⟨f19, d19, h19⟩ := F.table
  obtain ⟨f20, d20, h20⟩ := F.det
  refine PC.make [Str.ofString "script"] hf rfl (fun vs h doc pm an cd ct => ?_) (by decide) (by decide +kernel) rfl rfl rfl fun A S s s₁ L cd hA hW hS b E => ?_
  · match vs, h with
    | [u], _ => rfl
  have A1 : Ok 1 A := hA.le (by decide)
  have A2 : Ok 2 A := hA.le (by decide)
  have hpl := O.pl
  have hal : (abV ns).length = 4 := rfl
  have hwl : (wsV ns).length = 4 := by unfold wsV; rw [List.length_map, hpl]
  have hprl : (prV ns).length = 4 := rfl
  have hrt : (rtV ns).length ≤ 30 := by unfold rtV; split <;> decide +kernel
  have hplg : ∀ i p, ((plV ns).map P.int)[i]? = some p → p = .int ((plV ns).getD i 0) ∧ i < 4 := fun i p hp => by
    have hi : i < 4 := by have := (List.getElem?_eq_some_iff.mp hp).1; rw [List.length_map, hpl] at this; exact this
    rw [List.getElem?_map, getD_some (by omega)] at hp
    cases hp; exact ⟨rfl, hi⟩
  have htl : t.length = 5 ∧ ∀ r ∈ t, r.length = 5 := by rw [O.ht]; exact outT_five 5 (by decide)
  unfold FnD at h3 h6 h7 h8 h9 h11 h12 h13 h14 h15 h16 h17 h18 h19 h20
  unfold D PySem.Challenge.pw_rw0028_01 at b ⊢
  dsimp only [nth, fBody, fScope, fName] at b ⊢
  have hat : ∀ {s' ρ μ} (b' : B s s.heap.get? S (W.envX (Str.ofString "law") (fScope (D 21)) L f cd (cellsFrom (L + 1) (fScope (D 21)).names [])) s' ρ μ), Wd K mg mb s'.heap := fun b' => hW.keeps b'.keep
  -- shape
  refine Ex.assign b (p := .int (shV ns)) ?_ ?_
  · exact PE.callP h11 (c_at ⟨N.len⟩ h11 ns 0 hn (by decide)) A1 (hat b) (PEs.cons b.pe (PEs.cons PE.const_int PEs.nil))
  intro s2 b2
  refine Ex.assign b2 (p := .list ((abV ns).map .int)) ?_ ?_
  · refine PE.display (PEs.cons PE.const_int (PEs.cons (PE.mod (PE.add (PE.div b2.pe PE.const_int ?_ ?_) PE.const_int) PE.const_int ?_ ?_) (PEs.cons (PE.mod (PE.add (PE.div b2.pe PE.const_int ?_ ?_) PE.const_int) PE.const_int ?_ ?_) (PEs.cons (PE.mod (PE.add (PE.div b2.pe PE.const_int ?_ ?_) PE.const_int) PE.const_int ?_ ?_) PEs.nil)))) ?_
    all_goals first | decide | (rw [List.length_map, hal]; decide)
  intro s3 b3
  refine Ex.assign b3 (p := .list ((plV ns).map .int)) ?_ ?_
  · exact PE.callP h14 (c_places N h14 (atV ns 1 + 892096)) A1 (hat b3) (PEs.cons (PE.add (PE.callP h11 (c_at ⟨N.len⟩ h11 ns 1 hn (by decide)) A1 (hat b3) (PEs.cons b3.pe (PEs.cons PE.const_int PEs.nil))) PE.const_int) PEs.nil)
  intro s4 b4
  -- words
  refine Ex.comp (fun i => true) (fun i => .str (wordV ((plV ns).getD i 0).toNat)) b4 (cl := []) (nc := []) (items := (plV ns).map .int) ?_ ?_ ?_ ?_ ?_ ?_
  · exact CompOk.plain b4.frame b4.inj rfl (fun q m => nomatch m) rfl
  · exact PI.list hA b4.pe
  · rw [List.length_map, hpl]; decide
  · intro i p hp S5 C s5 h5
    exact PTs.nil
  · intro i p hp hb S5 C s5 h5
    obtain ⟨rfl, hi⟩ := hplg i p hp
    have hb2 := O.plb i hi
    refine PE.callP h12 (c_word h12 ((plV ns).getD i 0).toNat (by omega)) A1 (hW.keeps (fun c o e => h5.fwd.1.get _ _ (b4.keep c o e))) (PEs.cons (PE.eq (PE.name rfl h5.name) ?_) PEs.nil)
    rw [Int.toNat_of_nonneg hb2.1]
  intro s5 b5
  have hwords : compRes (fun i => true) (fun i => P.str (wordV ((plV ns).getD i 0).toNat)) ((plV ns).map P.int).length = (wsV ns).map .str := by
    rw [List.length_map, compRes_list 0 (fun _ => true) (fun p => P.str (wordV p.toNat)) (plV ns), List.filter_eq_self.mpr (fun _ _ => rfl)]
    unfold wsV; rw [List.map_map]; rfl
  rw [hwords] at b5
  -- hosts
  refine Ex.assign b5 (p := .list ((hsV ns).map .str)) ?_ ?_
  · refine PE.callP h15 (c_hosts N h15 (rtV ns) (wsV ns) (abV ns) hrt O.wshort hwl hal (abV_ok ns)) A1 (hat b5) (PEs.cons (PE.item (ps := [.str (Str.ofString "local"), .str (Str.ofString "x.net")]) (i := shV ns % 2) (PE.display (PEs.cons PE.const_str (PEs.cons PE.const_str PEs.nil)) (by decide)) (PE.mod b5.pe PE.const_int ?_ ?_) ?_ ?_ ?_) (PEs.cons b5.pe (PEs.cons b5.pe PEs.nil)))
    · decide
    · decide
    · unfold pick rtV
      have : shV ns % 2 = 0 ∨ shV ns % 2 = 1 := by omega
      rcases this with h | h <;> rw [h] <;> rfl
    · omega
    · omega
  intro s6 b6
  -- prices
  refine Ex.comp (fun i => true) (fun k => .int (atV ns (2 + k) + 2 ^ k)) b6 (cl := [(Str.ofString "script", L + 1)]) (nc := []) (items := upto 0 4) ?_ ?_ ?_ ?_ ?_ ?_
  · exact CompOk.plain b6.frame b6.inj rfl (by intro q m; rw [List.mem_singleton.mp m]; rfl) rfl
  · exact PI.range hA (PR.one (PE.builtin (hat b6) N.range rfl (by decide)) PE.const_int) (by decide) (by decide) (by decide) (by decide)
  · decide
  · intro i p hp S5 C s5 h5
    exact PTs.nil
  · intro k p hp hb S7 C s7 h7
    obtain ⟨rfl, hk⟩ := upto_get hp
    have hk : k < 4 := hk
    have W7 := hW.keeps (fun c o e => h7.fwd.1.get _ _ (b6.keep c o e))
    refine PE.add (PE.callP h11 (c_at ⟨N.len⟩ h11 ns (2 + k) hn (by omega)) A1 W7 (PEs.cons (PE.name rfl (NV.inner b6.get h7.fwd (.inl rfl) (.inl rfl) rfl)) (PEs.cons (PE.eq (PE.add PE.const_int (PE.name rfl h7.name)) ?_) PEs.nil))) (PE.eq (PE.pow PE.const_int (PE.name rfl h7.name) ?_ ?_ ?_) ?_)
    · rw [Int.natCast_add]; rfl
    · omega
    · omega
    · decide
    · rw [Int.toNat_natCast]
  intro s7 b7
  have hprices : compRes (fun i => true) (fun k => P.int (atV ns (2 + k) + 2 ^ k)) (upto 0 4).length = (prV ns).map .int := by
    rw [compRes_all]; unfold prV; rw [List.map_map]; rfl
  rw [hprices] at b7
  -- tied
  refine Ex.assign b7 (p := .list (ix.map fun i : Nat => .int (i : Int))) ?_ ?_
  · exact PE.callP h17 (c_tied R h6 h9 h17 (hsV ns) ix O.tied) hA (hat b7) (PEs.cons b7.pe PEs.nil)
  intro s8 b8
  -- table
  refine Ex.assign b8 (p := .list (t.map fun r => .list (r.map .int))) ?_ ?_
  · refine PE.callP h19 (PC.eqv (c_table N T h3 h19 (nbV ns) (wsV ns) ixw (prV ns) (ms.map fun p => wordV p.toNat) (belowV (hsV ns)) way O.table) (by rw [O.ht])) A2 (hat b8) (PEs.cons ?_ (PEs.cons ?_ (PEs.cons b8.pe (PEs.cons b8.pe (PEs.cons ?_ PEs.nil)))))
    · exact PE.callP h16 (c_numbers N h13 h16 (plV ns) (abV ns) hpl O.plb hal (abV_ok ns)) A2 (hat b8) (PEs.cons b8.pe (PEs.cons b8.pe PEs.nil))
    · exact PE.callP h18 (c_below N R h7 h8 h18 (hsV ns) O.below) hA (hat b8) (PEs.cons b8.pe PEs.nil)
    · have hmm : ∀ i p, (ms.map P.int)[i]? = some p → ∃ x, ms[i]? = some x ∧ p = P.int x ∧ 0 ≤ x ∧ x < 54 := fun i p hp => by
        rw [List.getElem?_map] at hp
        obtain ⟨x, hx, rfl⟩ := Option.map_eq_some_iff.mp hp
        have hm := O.perm.mem_iff.mp (List.mem_of_getElem? hx)
        obtain ⟨k, hk⟩ := List.mem_iff_getElem?.mp hm
        have hk4 : k < 4 := by have := (List.getElem?_eq_some_iff.mp hk).1; omega
        have := O.plb k hk4
        have hg : (plV ns).getD k 0 = x := by rw [List.getD_eq_getElem?_getD, hk]; rfl
        rw [hg] at this
        exact ⟨x, hx, rfl, this⟩
      have hml : ms.length = 4 := by rw [O.perm.length_eq, hpl]
      refine PE.eq (PE.comp (fun i => true) (fun i => .str (wordV (ms.getD i 0).toNat)) (cl := []) (nc := []) (items := ms.map .int) ?_ ?_ ?_ ?_ ?_) ?_
      · exact CompOk.plain b8.frame b8.inj rfl (fun q m => nomatch m) rfl
      · exact PI.list hA (PE.sorted (PE.builtin (hat b8) N.sorted rfl (by decide)) b8.pe (by omega) O.perm O.asc)
      · rw [List.length_map, hml]; decide
      · intro i p hp S5 C s5 h5
        exact PTs.nil
      · intro i p hp hb S5 C s5 h5
        obtain ⟨x, hx, rfl, h0, h54⟩ := hmm i p hp
        have hg : ms.getD i 0 = x := by rw [List.getD_eq_getElem?_getD, hx]; rfl
        rw [hg]
        refine PE.callP h12 (c_word h12 x.toNat (by omega)) A1 (hW.keeps (fun c o e => h5.fwd.1.get _ _ (b8.keep c o e))) (PEs.cons (PE.eq (PE.name rfl h5.name) ?_) PEs.nil)
        rw [Int.toNat_of_nonneg h0]
      · rw [List.length_map, compRes_list 0 (fun _ => true) (fun p => P.str (wordV p.toNat)) ms, List.filter_eq_self.mpr (fun _ _ => rfl), List.map_map]; rfl
  intro s9 b9
  -- the first test
  refine Ex.ifs b9 (c := (false || false || (Txt.join sep (pfV 0) != Str.ofString "0x0"))) ?_ ?_ ?_
  · refine PT.or3 ?_ (fun _ => ?_) fun _ _ => ?_
    · exact PT.cmp (p := .list (ix.map fun i : Nat => .int (i : Int))) (q := .list []) b9.pe (PE.display PEs.nil (by decide)) (gEqNil hA (fun e => O.tne (List.map_eq_nil_iff.mp e)))
    · refine PT.cmp (p := .list (t.map fun r => .list (r.map .int))) (q := .list []) b9.pe (PE.display PEs.nil (by decide)) (gEqNil hA (fun e => ?_))
      have := htl.1
      rw [List.map_eq_nil_iff.mp e] at this; cases this
    · exact PT.cmp (p := .str (Txt.join sep (pfV 0))) (q := .str (Str.ofString "0x0")) (PE.callP h3 (c_pf N T h3 0 pf0h pf0j) A1 (hat b9) (PEs.cons PE.const_int PEs.nil)) PE.const_str gNeS
  · intro h; rw [pf0v] at h; simp at h
  intro _ s10 b10
  refine Ex.skip ?_
  show Ex _ _ _ _ _ _ _ _
  -- factors
  refine Ex.assign b10 (p := .list (((List.range 5).map (facV ix)).map .int)) ?_ ?_
  · refine PE.eq (PE.comp (fun i => true) (fun j => .int (facV ix j)) (cl := [(Str.ofString "tied", L + 2)]) (nc := []) (items := upto 0 5) ?_ ?_ ?_ ?_ ?_) ?_
    · exact CompOk.plain b10.frame b10.inj rfl (by intro q m; rw [List.mem_singleton.mp m]; rfl) rfl
    · exact PI.range hA (PR.one (PE.builtin (hat b10) N.range rfl (by decide)) PE.const_int) (by decide) (by decide) (by decide) (by decide)
    · decide
    · intro i p hp S5 C s5 h5
      exact PTs.nil
    · intro j p hp hb S7 C s7 h7
      obtain ⟨rfl, hj⟩ := upto_get hp
      have W7 := hW.keeps (fun c o e => h7.fwd.1.get _ _ (b10.keep c o e))
      refine PE.sub (PE.sub PE.const_int (PE.countI (ns := ix.map fun i : Nat => (i : Int)) (PE.eq (PE.name rfl (NV.inner b10.get h7.fwd (.inl rfl) (.inl rfl) rfl)) ?_) (PE.name rfl h7.name))) (PE.min hA (PE.builtin W7 N.min rfl (by decide)) (PE.name rfl h7.name) PE.const_int)
      rw [List.map_map]; rfl
    · rw [compRes_all, List.map_map]; rfl
  intro s11 b11
  -- the rows
  refine Ex.forI (fun k => [(Str.ofString "factors", .list (((List.range 5).map (facV ix)).map .int)), (Str.ofString "prices", .list ((prV ns).map .int)), (Str.ofString "table", .list (t.map fun r => .list (r.map .int)))]) (fun _ => []) (fun _ => True) b11 (items := t.map fun r => .list (r.map .int)) ?_ trivial ?_ ?_ ?_ ?_ ?_
  · exact PI.list hA b11.pe
  · exact ⟨rfl, rfl, rfl, trivial⟩
  · rfl
  · intro k; rfl
  · intro k p hp _ S4 G4 s12 hS4 hG4 b12 E4
    rw [List.getElem?_map] at hp
    obtain ⟨r, hr, rfl⟩ := Option.map_eq_some_iff.mp hp
    have hrm := List.mem_of_getElem? hr
    have hrl := htl.2 r hrm
    have W12 := hW.keeps (fun c o e => b12.keep c o (hG4 c o e))
    refine Ex.ifs b12 (c := ((((List.range 5).map fun j => r.getD j 0 * facV ix j).sum : Int) != (prV ns).sum)) ?_ ?_ ?_
    · refine PT.cmp (p := .int ((List.range 5).map fun j => r.getD j 0 * facV ix j).sum) (q := .int (prV ns).sum) (PE.sum hA (PE.builtin W12 N.sum rfl (by decide)) ?_) (PE.sum hA (PE.builtin W12 N.sum rfl (by decide)) b12.pe) gNeI
      refine PE.eq (PE.comp (fun i => true) (fun j => .int (r.getD j 0 * facV ix j)) (cl := [(Str.ofString "row", L + 4), (Str.ofString "factors", L + 3)]) (nc := []) (items := upto 0 5) ?_ ?_ ?_ ?_ ?_) ?_
      · exact CompOk.plain b12.frame b12.inj rfl (by intro q m; simp only [List.mem_cons, List.not_mem_nil, or_false] at m; rcases m with rfl | rfl <;> rfl) rfl
      · exact PI.range hA (PR.one (PE.builtin W12 N.range rfl (by decide)) PE.const_int) (by decide) (by decide) (by decide) (by decide)
      · decide
      · intro i p hp S5 C s5 h5
        exact PTs.nil
      · intro j p hp hb S7 C s7 h7
        obtain ⟨rfl, hj⟩ := upto_get hp
        have hj : j < 5 := hj
        have hf : ((List.range 5).map (facV ix))[j]? = some (facV ix j) := by rw [List.getElem?_map, List.getElem?_range hj]; rfl
        exact PE.mul (PE.item (i := (j : Int)) (PE.name rfl (NV.inner b12.get h7.fwd (.inl rfl) (.inl rfl) rfl)) (PE.name rfl h7.name) (pick_map (getD_some (by omega))) (by omega) (by omega)) (PE.item (i := (j : Int)) (PE.name rfl (NV.inner b12.get h7.fwd (.inl rfl) (.inl rfl) rfl)) (PE.name rfl h7.name) (pick_map hf) (by omega) (by omega)) (O.mulRow r hrm j hj)
      · rw [compRes_all, List.map_map]; rfl
    · intro h; rw [O.rows r hrm] at h; simp at h
    intro _ s13 b13
    refine Ex.skip ?_
    show Ex _ _ _ _ _ _ _ _
    refine Ex.skip ?_
    exact ⟨b13.weaken [(Str.ofString "factors", .list (((List.range 5).map (facV ix)).map .int)), (Str.ofString "prices", .list ((prV ns).map .int)), (Str.ofString "table", .list (t.map fun r => .list (r.map .int)))] ⟨rfl, rfl, rfl, trivial⟩, trivial⟩
  · intro _ s12 b12 E12
    refine Ex.skip ?_
    show Ex _ _ _ _ _ _ _ _
    have hp : ∀ k, k < 4 → (prV ns)[k]? = some ((prV ns).getD k 0) := fun k hk => getD_some (by omega)
    refine Ex.fin b12 (p := .bool true) ?_ (fun c m => m)
    refine PE.eq (PE.cmp (p := .int (detV t)) (q := .int (8 * (prV ns).getD 0 0 * (prV ns).getD 1 0 * (prV ns).getD 2 0 * (prV ns).getD 3 0 * (prV ns).sum)) (PE.callP h20 (c_det N h20 t htl.1 htl.2 O.mulDet) A1 (hat b12) (PEs.cons b12.pe PEs.nil)) ?_ gEqI) (by rw [O.det, beq_self_eq_true])
    refine PE.mul (PE.mul (PE.mul (PE.mul (PE.mul PE.const_int (PE.item (i := 0) b12.pe PE.const_int (pick_map (hp 0 (by decide))) ?_ ?_) O.m0) (PE.item (i := 1) b12.pe PE.const_int (pick_map (hp 1 (by decide))) ?_ ?_) O.m1) (PE.item (i := 2) b12.pe PE.const_int (pick_map (hp 2 (by decide))) ?_ ?_) O.m2) (PE.item (i := 3) b12.pe PE.const_int (pick_map (hp 3 (by decide))) ?_ ?_) O.m3) (PE.sum hA (PE.builtin (hat b12) N.sum rfl (by decide)) b12.pe) O.m4
    all_goals decide
end
end Mine

namespace Mine
open PySem PySem.Calls PyProof.Rows Builtin.Str PySem.W
theorem wells_ints {Pm : Params} {h : Heap} {g : Gt} : ∀ {ns : List Int} {vs : List Value}, WellAll Pm h vs (ofPys (ns.map PyData.int)) → Iss g (ns.map .int) vs
  | [], vs, w => by
    simp only [List.map_nil, ofPys] at w
    cases w; exact Iss.nil
  | n :: ns, vs, w => by
    simp only [List.map_cons, ofPys, ofPy] at w
    cases w with
    | cons w1 w2 =>
      cases w1
      exact Iss.cons Is.int (wells_ints w2)
theorem well_ints {Pm : Params} {h : Heap} {v : Value} {ns : List Int} (w : Well Pm h v (ofPy (PyData.list (ns.map PyData.int)))) : Is h.get? (.list (ns.map .int)) v := by
  simp only [ofPy] at w
  cases w with
  | list h1 h2 => exact Is.list h1 (wells_ints h2)
theorem law_good {prog : Program} {w : World} {K : Frag} {p : Program} {loose : List Str} {mean : ExcName → Option Value} {mg mb : Str → Option Value} {s₁ : Shared} {fa fl dct : Addr} {fd : FuncData} {v : Value} {Pm : Params} {ns : List Int} {Q E : Value → Shared → Prop}
    (KX : K.In s₁.heap) (T : Top p loose mean mg mb s₁.heap) (hmg : mg (Str.ofString "law") = some (.ref fa)) (hw : Well Pm s₁.heap v (ofPy (PyData.list (ns.map PyData.int)))) (hn : ns.length ≤ 1000)
    (hok : ∃ ix ixw ms way t, LawOk ns ix ixw ms way t) (hQ : ∀ s', Kp s₁ s' → Q (.bool true) s')
    (N : NamesB K) (R : Rx K) (Tb : Tab prog w K dct) (F : Fns K) (hf : FnD K 21 fl fd) :
    wpAny (model prog w) callerA (call (.ref fa) [v]) Q E s₁ := by
  obtain ⟨ix, ixw, ms, way, t, O⟩ := hok
  have hb : mg (Str.ofString "law") = some (.ref fl) := PySem.W.mg_of KX T.g hf.bound
  rw [hmg] at hb
  cases hb
  have hW : Wd K mg mb s₁.heap := ⟨KX, T.g, T.b, T.builtins, T.nolimit⟩
  have hA : Ok 4 callerA := ⟨rfl, by decide, by decide⟩
  have hS : Hid [] s₁ := fun c m => nomatch m
  refine wpAny_mono ((c_law N R Tb F hf ns hn ix ixw ms way t O).go callerA [] s₁ [v] hA hW hS (Iss.cons ((well_ints hw).ext (.of fun b o e => hid_some.mpr ⟨List.not_mem_nil, e⟩)) Iss.nil) E) (fun u s' ⟨hu, k⟩ => ?_) fun _ _ e => e
  cases hu.ofBool
  exact hQ s' k
end Mine

namespace Mine
open PySem PySem.Calls PyProof.Rows Builtin.Str PySem.W
/-! ## the given top, read -/
def aOf (K : Frag) (x : Str) : Addr := match nsIn K mainGlobals x with
  | some (some (.ref a)) => a
  | _ => 0
def fldOf (K : Frag) (a : Addr) (i : Nat) : Value := match K.lookup a with
  | some ⟨_, _, .fields vs, _⟩ => vs.getD i .none
  | _ => .none
def addrOf : Value → Addr
  | .ref a => a
  | _ => 0
def esOf (K : Frag) (a : Addr) : Array DictEntry := match K.lookup a with
  | some ⟨_, _, .dict es _, _⟩ => es
  | _ => #[]
def epOf (K : Frag) (a : Addr) : Nat := match K.lookup a with
  | some ⟨_, _, .dict _ n, _⟩ => n
  | _ => 0
def fdOf (K : Frag) (a : Addr) : FuncData := match K.lookup a with
  | some ⟨_, _, .func fd, _⟩ => fd
  | _ => default
def clsOf (K : Frag) (a : Addr) : Value := match K.lookup a with
  | some o => o.cls
  | _ => .none
def dictOf (K : Frag) (a : Addr) : Option Addr := match K.lookup a with
  | some o => o.dict
  | _ => none
theorem rx_of {K : Frag} (h1 : nsIn K mainGlobals (Str.ofString "IPV4_RE") = some (some (.ref (aOf K (Str.ofString "IPV4_RE")))))
    (h2 : K.lookup (aOf K (Str.ofString "IPV4_RE")) = some (rxObj (fldOf K (aOf K (Str.ofString "IPV4_RE")) 0) (fldOf K (aOf K (Str.ofString "IPV4_RE")) 1) (fldOf K (aOf K (Str.ofString "IPV4_RE")) 3) (fldOf K (aOf K (Str.ofString "IPV4_RE")) 4) (addrOf (fldOf K (aOf K (Str.ofString "IPV4_RE")) 5))))
    (h3 : K.lookup (addrOf (fldOf K (aOf K (Str.ofString "IPV4_RE")) 5)) = some rxCode) : Rx K := ⟨_, _, _, _, _, _, h1, h2, h3⟩
abbrev flagsName : Str := Str.ofString "COMPILER_FLAG_NAMES"
def esAt (K : Frag) : Array DictEntry := esOf K (aOf K flagsName)
theorem tab_of {prog : Program} {w : World} {K : Frag} (h1 : nsIn K mainGlobals flagsName = some (some (.ref (aOf K flagsName))))
    (h2 : K.lookup (aOf K flagsName) = some ⟨.type "dict", none, .dict (esAt K) (epOf K (aOf K flagsName)), #[]⟩)
    (hk : ((esAt K).toList.all fun e => match e.key with | .int k _ => e.hash == hashInt k | _ => false) = true)
    (h10 : ((List.range 10).all fun i => match findBy Value.isInt (esAt K) (2 ^ i) with | some (.str x _) => x == flagNames.getD i Str.empty | _ => false) = true)
    (h32 : ((List.range 22).all fun i => (findBy Value.isInt (esAt K) (2 ^ (10 + i))).isNone) = true)
    (hn : (aOf K flagsName == sysModules) = false) : Tab prog w K (aOf K flagsName) where
  bound := h1
  ne := hn
  map := by
    refine ⟨fun k => findBy Value.isInt (esAt K) k, fun h X => ⟨_, _, _, X _ _ h2, ⟨rfl, rfl, rfl⟩, rfl, fun e he => ?_, fun _ => rfl⟩, fun i hi => ?_, fun i h0 hi => ?_⟩
    · have := List.all_eq_true.mp hk e (Array.mem_toList_iff.mpr he)
      obtain ⟨hash, key, val⟩ := e
      cases key with
      | int k t =>
        refine ⟨k, ?_, ?_⟩
        · show Value.isInt k (.int k t) = true
          simp [Value.isInt]
        · exact eq_of_beq this
      | _ => cases this
    · have := List.all_eq_true.mp h10 i (List.mem_range.mpr hi)
      dsimp only at this ⊢
      cases hq : findBy Value.isInt (esAt K) (2 ^ i) with
      | none => rw [hq] at this; cases this
      | some v =>
        rw [hq] at this
        cases v with
        | str x t => exact ⟨t, by rw [eq_of_beq this]⟩
        | _ => cases this
    · have := List.all_eq_true.mp h32 (i - 10) (List.mem_range.mpr (by omega))
      rw [show 10 + (i - 10) = i by omega] at this
      exact Option.isNone_iff_eq_none.mp this
abbrev nm (k : Nat) : Str := fName (D k)
theorem fn_of {K : Frag} (k : Nat) (h1 : nsIn K mainGlobals (nm k) = some (some (.ref (aOf K (nm k)))))
    (h2 : K.lookup (aOf K (nm k)) = some ⟨clsOf K (aOf K (nm k)), dictOf K (aOf K (nm k)), .func (fdOf K (aOf K (nm k))), #[]⟩)
    (h3 : fdOf K (aOf K (nm k)) = fnOf (nm k) (nm k) (fParams (D k)) (fBody (D k)) (fScope (D k)) .none .none (fdOf K (aOf K (nm k))).doc (fdOf K (aOf K (nm k))).pyModule (fdOf K (aOf K (nm k))).annotations (fdOf K (aOf K (nm k))).code (fdOf K (aOf K (nm k))).closureTuple)
    (h4 : codeIn K (fdOf K (aOf K (nm k))).code (nm k) = true) : FnD K k (aOf K (nm k)) (fdOf K (aOf K (nm k))) :=
  ⟨h1, ⟨_, _, _, h2⟩, ⟨_, _, _, _, _, h3, h4⟩⟩
end Mine

namespace Mine
open PySem PySem.Calls PyProof.Rows Builtin.Str PySem.W
theorem law_goodK {prog : Program} {w : World} {K : Frag} {p : Program} {loose : List Str} {mean : ExcName → Option Value} {mg mb : Str → Option Value} {s₁ : Shared} {fa : Addr} {v : Value} {Pm : Params} {ns : List Int} {Q E : Value → Shared → Prop}
    (KX : K.In s₁.heap) (T : Top p loose mean mg mb s₁.heap) (hmg : mg (Str.ofString "law") = some (.ref fa)) (hw : Well Pm s₁.heap v (ofPy (PyData.list (ns.map PyData.int)))) (hn : ns.length ≤ 1000)
    (hok : ∃ ix ixw ms way t, LawOk ns ix ixw ms way t) (hQ : ∀ s', Kp s₁ s' → Q (.bool true) s')
    (N : NamesB K) (R : Rx K) (Tb : Tab prog w K (aOf K flagsName)) (F : Fns K) (hf : FnD K 21 (aOf K (nm 21)) (fdOf K (aOf K (nm 21)))) :
    wpAny (model prog w) callerA (call (.ref fa) [v]) Q E s₁ :=
  law_good KX T hmg hw hn hok hQ N R Tb F hf
end Mine

namespace Mine
open PySem PySem.Calls PyProof.Rows Builtin.Str
/-! ## the places -/
theorem erase_perm : ∀ (l : List Int) (n : Nat) (h : n < l.length), (l[n] :: l.eraseIdx n).Perm l
  | a :: l, 0, h => List.Perm.refl _
  | a :: l, n + 1, h => by
    have hn : n < l.length := by simpa using h
    have := erase_perm l n hn
    show (l[n] :: a :: l.eraseIdx n).Perm (a :: l)
    exact (List.Perm.swap a l[n] _).trans (this.cons a)
theorem getD_at {α : Type} {l : List α} {n : Nat} {d : α} (h : n < l.length) : l.getD n d = l[n] := by
  rw [List.getD_eq_getElem?_getD, List.getElem?_eq_getElem h]; rfl
theorem plSt_inv (x : Int) : ∀ k, k ≤ 3 → ((plSt x k).2.1 ++ (plSt x k).2.2).Nodup ∧ ∀ y ∈ (plSt x k).2.1 ++ (plSt x k).2.2, 0 ≤ y ∧ y < 32
  | 0, _ => by
    have : ((plSt x 0).2.1 ++ (plSt x 0).2.2) = (List.range 32).map (fun i : Nat => (0 : Int) + (i : Int)) := by unfold plSt; simp
    rw [this]
    exact (by decide +kernel : ((List.range 32).map (fun i : Nat => (0 : Int) + (i : Int))).Nodup ∧ ∀ y ∈ (List.range 32).map (fun i : Nat => (0 : Int) + (i : Int)), 0 ≤ y ∧ y < 32)
  | k + 1, h => by
    obtain ⟨h1, h2⟩ := plSt_inv x k (by omega)
    obtain ⟨l1, l2⟩ := plSt_len x k (by omega)
    have hi : ((plSt x k).1 % ((32 - k : Nat) : Int)).toNat < (plSt x k).2.1.length := by
      rw [l1]
      have hp : (0 : Int) < ((32 - k : Nat) : Int) := by omega
      have := Int.emod_lt_of_pos (plSt x k).1 hp
      have := Int.emod_nonneg (plSt x k).1 (by omega : ((32 - k : Nat) : Int) ≠ 0)
      omega
    have hperm : ((plSt x (k + 1)).2.1 ++ (plSt x (k + 1)).2.2).Perm ((plSt x k).2.1 ++ (plSt x k).2.2) := by
      rw [plSt]
      dsimp only
      generalize ((plSt x k).1 % ((32 - k : Nat) : Int)).toNat = i at hi
      have hg : (plSt x k).2.1.getD i 0 = (plSt x k).2.1[i] := by simp [List.getD, hi]
      rw [hg]
      have h3 : ((plSt x k).2.1[i] :: (plSt x k).2.1.eraseIdx i).Perm (plSt x k).2.1 := erase_perm _ _ hi
      have h4 : ((plSt x k).2.1.eraseIdx i ++ ((plSt x k).2.2 ++ [(plSt x k).2.1[i]])).Perm (((plSt x k).2.1[i] :: (plSt x k).2.1.eraseIdx i) ++ (plSt x k).2.2) := by
        rw [← List.append_assoc]
        refine (List.perm_append_singleton _ _).trans ?_
        rfl
      exact h4.trans (h3.append_right _)
    exact ⟨hperm.nodup_iff.mpr h1, fun y m => h2 y (hperm.mem_iff.mp m)⟩
/-- the four places of a law: distinct, the first three below 32, the fourth below 32 or from 36 to 53 -/
structure Pls (q : List Nat) : Prop where
  len : q.length = 4
  nd : q.Nodup
  low : ∀ k, k < 3 → q.getD k 0 < 32
  ok : ∀ y ∈ q, y < 32 ∨ (36 ≤ y ∧ y < 54)
theorem places_ok (x : Int) : ∃ q : List Nat, placesV x = q.map (fun i : Nat => (i : Int)) ∧ Pls q := by
  obtain ⟨h1, h2⟩ := plSt_inv x 3 (Nat.le_refl _)
  obtain ⟨l1, l2⟩ := plSt_len x 3 (Nat.le_refl _)
  have hhl : highL.length = 18 := by decide +kernel
  have hhm : ∀ y ∈ highL, 36 ≤ y ∧ y < 54 := by decide +kernel
  have hi : ((plSt x 3).1 % 47).toNat < ((plSt x 3).2.1 ++ highL).length := by
    rw [List.length_append, l1, hhl]; omega
  unfold placesV
  generalize hz : ((plSt x 3).2.1 ++ highL).getD ((plSt x 3).1 % 47).toNat 0 = z
  have hzm : z ∈ (plSt x 3).2.1 ++ highL := by
    rw [← hz]
    have : ((plSt x 3).2.1 ++ highL).getD ((plSt x 3).1 % 47).toNat 0 = ((plSt x 3).2.1 ++ highL)[((plSt x 3).1 % 47).toNat] := getD_at hi
    rw [this]; exact List.getElem_mem hi
  generalize (plSt x 3).2.2 = got at *
  generalize (plSt x 3).2.1 = left at *
  have hgot : ∀ y ∈ got, 0 ≤ y ∧ y < 32 := fun y m => h2 y (List.mem_append_right _ m)
  have hz2 : z ∉ got ∧ 0 ≤ z ∧ (z < 32 ∨ (36 ≤ z ∧ z < 54)) := by
    rcases List.mem_append.mp hzm with m | m
    · have := h2 z (List.mem_append_left _ m)
      exact ⟨fun m' => (List.nodup_append.mp h1).2.2 z m z m' rfl, this.1, .inl this.2⟩
    · have := hhm z m
      exact ⟨fun m' => by have := hgot z m'; omega, by omega, .inr this⟩
  have hall : ∀ y ∈ got ++ [z], 0 ≤ y := fun y m => by
    rcases List.mem_append.mp m with m | m
    · exact (hgot y m).1
    · rw [List.mem_singleton.mp m]; exact hz2.2.1
  refine ⟨(got ++ [z]).map Int.toNat, ?_, ?_, ?_, ?_, ?_⟩
  · rw [List.map_map]
    have : ∀ l : List Int, (∀ y ∈ l, 0 ≤ y) → l = l.map ((fun i : Nat => (i : Int)) ∘ Int.toNat) := fun l h => by
      induction l with
      | nil => rfl
      | cons a r ih =>
        rw [List.map_cons, ← ih fun y m => h y (List.mem_cons_of_mem _ m)]
        have := h a List.mem_cons_self
        show a :: r = ((a.toNat : Nat) : Int) :: r
        rw [Int.toNat_of_nonneg this]
    exact this _ hall
  · rw [List.length_map, List.length_append, l2]; rfl
  · have hnd : (got ++ [z]).Nodup := by
      rw [List.nodup_append]
      exact ⟨(List.nodup_append.mp h1).2.1, by simp, fun a ha b hb => by rw [List.mem_singleton.mp hb]; exact fun e => hz2.1 (e ▸ ha)⟩
    rw [List.Nodup, List.pairwise_map]
    refine List.Pairwise.imp_of_mem (fun {a b} ha hb hab e => hab ?_) hnd
    have := hall a ha
    have := hall b hb
    omega
  · intro k hk
    have hg : (got ++ [z])[k]? = got[k]? := List.getElem?_append_left (by omega)
    rw [List.getD_eq_getElem?_getD, List.getElem?_map, hg, List.getElem?_eq_getElem (by omega)]
    have := hgot _ (List.getElem_mem (by omega : k < got.length))
    show (got[k].toNat) < 32
    omega
  · intro y m
    obtain ⟨u, hu, rfl⟩ := List.mem_map.mp m
    rcases List.mem_append.mp hu with m | m
    · have := hgot u m; left; omega
    · rw [List.mem_singleton.mp m]
      rcases hz2.2.2 with h | h
      · left; omega
      · right; omega
end Mine

namespace Mine
open PySem PySem.Calls PyProof.Rows Builtin.Str
/-! ## bits -/
theorem S12 : ∀ a b : Nat, (a ^^^ b) + 2 * (a &&& b) = a + b ∧ (a ||| b) + (a &&& b) = a + b := by
  intro a
  induction a using Nat.strongRecOn with
  | _ a ih =>
    intro b
    by_cases h : a = 0
    · subst h; simp
    · obtain ⟨h1, h2⟩ := ih (a / 2) (by omega) (b / 2)
      have e1 : (a ^^^ b) / 2 = a / 2 ^^^ b / 2 := by simpa using Nat.xor_div_two_pow (a := a) (b := b) (n := 1)
      have e2 : (a &&& b) / 2 = a / 2 &&& b / 2 := by simpa using Nat.and_div_two_pow (a := a) (b := b) (n := 1)
      have e3 : (a ||| b) / 2 = a / 2 ||| b / 2 := by simpa using Nat.or_div_two_pow (a := a) (b := b) (n := 1)
      have f1 : (a ^^^ b) % 2 = (a + b) % 2 := by
        have := Nat.xor_mod_two_pow (a := a) (b := b) (n := 1)
        simp only [Nat.pow_one] at this
        rw [this]
        rcases Nat.mod_two_eq_zero_or_one a with p | p <;> rcases Nat.mod_two_eq_zero_or_one b with q | q <;> rw [p, q] <;> simp <;> omega
      have f2 : (a &&& b) % 2 = (a % 2) * (b % 2) := by
        have := Nat.and_mod_two_pow (a := a) (b := b) (n := 1)
        simp only [Nat.pow_one] at this
        rw [this]
        rcases Nat.mod_two_eq_zero_or_one a with p | p <;> rcases Nat.mod_two_eq_zero_or_one b with q | q <;> rw [p, q] <;> rfl
      have f3 : (a ||| b) % 2 + (a &&& b) % 2 = a % 2 + b % 2 := by
        have := Nat.or_mod_two_pow (a := a) (b := b) (n := 1)
        simp only [Nat.pow_one] at this
        rw [this, f2]
        rcases Nat.mod_two_eq_zero_or_one a with p | p <;> rcases Nat.mod_two_eq_zero_or_one b with q | q <;> rw [p, q] <;> rfl
      have f4 : (a ^^^ b) % 2 + 2 * ((a &&& b) % 2) = a % 2 + b % 2 := by
        have := Nat.xor_mod_two_pow (a := a) (b := b) (n := 1)
        simp only [Nat.pow_one] at this
        rw [this, f2]
        rcases Nat.mod_two_eq_zero_or_one a with p | p <;> rcases Nat.mod_two_eq_zero_or_one b with q | q <;> rw [p, q] <;> rfl
      constructor <;> omega
theorem and_off {a k : Nat} (h : a.testBit k = false) : a &&& 2 ^ k = 0 := Nat.eq_of_testBit_eq fun i => by
  rw [Nat.testBit_and, Nat.testBit_two_pow, Nat.zero_testBit]
  by_cases e : k = i
  · subst e; rw [h]; rfl
  · rw [decide_eq_false e, Bool.and_false]
theorem and_on {a k : Nat} (h : a.testBit k = true) : a &&& 2 ^ k = 2 ^ k := Nat.eq_of_testBit_eq fun i => by
  rw [Nat.testBit_and, Nat.testBit_two_pow]
  by_cases e : k = i
  · subst e; rw [h]; rfl
  · rw [decide_eq_false e, Bool.and_false]
def I : Bool → Nat → Int
  | false, a => a
  | true, a => -(a : Int) - 1
theorem dI (s : Bool) (a : Nat) : decide (0 ≤ I s a) = !s := by
  cases s
  · exact decide_eq_true (Int.natCast_nonneg a)
  · refine decide_eq_false ?_
    show ¬ (0 : Int) ≤ -(a : Int) - 1
    omega
theorem notI (s : Bool) (a : Nat) : Builtin.bitNot (I s a) = I (!s) a := by
  cases s
  · rfl
  · show -(-(a : Int) - 1) - 1 = (a : Int)
    omega
theorem and_ff (a b : Nat) : Builtin.bitAnd (I false a) (I false b) = ((a &&& b : Nat) : Int) := by
  unfold Builtin.bitAnd; rw [dI, dI]; rfl
theorem and_ft (a b : Nat) : Builtin.bitAnd (I false a) (I true b) = (a : Int) - ((a &&& b : Nat) : Int) := by
  unfold Builtin.bitAnd; rw [dI, dI, notI]; rfl
theorem and_tf (a b : Nat) : Builtin.bitAnd (I true a) (I false b) = (b : Int) - ((b &&& a : Nat) : Int) := by
  unfold Builtin.bitAnd; rw [dI, dI, notI true a]; rfl
theorem and_tt (a b : Nat) : Builtin.bitAnd (I true a) (I true b) = I true (a ||| b) := by
  unfold Builtin.bitAnd; rw [dI, dI, notI, notI]; rfl
theorem xorI (s t : Bool) (a b : Nat) : Builtin.bitXor (I s a) (I t b) = I (s ^^ t) (a ^^^ b) := by
  obtain ⟨h1, h2⟩ := S12 a b
  have hc : b &&& a = a &&& b := Nat.and_comm b a
  unfold Builtin.bitXor Builtin.bitOr
  rw [notI, notI]
  cases s <;> cases t
  · rw [and_ff]; show Builtin.bitNot (Builtin.bitAnd (I true a) (I true b)) - _ = _
    rw [and_tt, notI]
    show ((a ||| b : Nat) : Int) - ((a &&& b : Nat) : Int) = ((a ^^^ b : Nat) : Int)
    omega
  · rw [and_ft]; show Builtin.bitNot (Builtin.bitAnd (I true a) (I false b)) - _ = _
    rw [and_tf, hc]
    show -((b : Int) - ((a &&& b : Nat) : Int)) - 1 - ((a : Int) - ((a &&& b : Nat) : Int)) = -((a ^^^ b : Nat) : Int) - 1
    omega
  · rw [and_tf]; show Builtin.bitNot (Builtin.bitAnd (I false a) (I true b)) - _ = _
    rw [and_ft, hc]
    show -((a : Int) - ((a &&& b : Nat) : Int)) - 1 - ((b : Int) - ((a &&& b : Nat) : Int)) = -((a ^^^ b : Nat) : Int) - 1
    omega
  · rw [and_tt]; show Builtin.bitNot (Builtin.bitAnd (I false a) (I false b)) - _ = _
    rw [and_ff]
    show -((a &&& b : Nat) : Int) - 1 - (-((a ||| b : Nat) : Int) - 1) = ((a ^^^ b : Nat) : Int)
    omega
theorem andI (s : Bool) (a k : Nat) : Builtin.bitAnd (I s a) (2 ^ k) = 0 ↔ a.testBit k = s := by
  have e2 : ((2 : Int) ^ k) = I false (2 ^ k) := by simp [I]
  have pk : 0 < 2 ^ k := Nat.pow_pos (by decide)
  rw [e2]
  cases s <;> cases h : a.testBit k
  · rw [and_ff, and_off h]; simp
  · rw [and_ff, and_on h]
    exact ⟨fun e => by omega, fun e => nomatch e⟩
  · rw [and_tf, Nat.and_comm, and_off h]
    exact ⟨fun e => by omega, fun e => nomatch e⟩
  · rw [and_tf, Nat.and_comm, and_on h]; simp
/-- a number whose bits below 32 are S, and H above -/
def Num (n : Int) (S : Nat → Bool) (H : Int) : Prop := ∃ s a, n = I s a ∧ (∀ k, k < 32 → a.testBit k = (s != S k)) ∧ H = I s (a / 2 ^ 32)
theorem Num.xor {n m : Int} {S T : Nat → Bool} {H G : Int} (x : Num n S H) (y : Num m T G) : Num (Builtin.bitXor n m) (fun k => S k != T k) (Builtin.bitXor H G) := by
  obtain ⟨s, a, rfl, h1, rfl⟩ := x
  obtain ⟨t, b, rfl, h2, rfl⟩ := y
  refine ⟨s ^^ t, a ^^^ b, xorI _ _ _ _, fun k hk => ?_, ?_⟩
  · rw [Nat.testBit_xor, h1 k hk, h2 k hk]
    show ((s != S k) ^^ (t != T k)) = ((s ^^ t) != (S k != T k))
    cases s <;> cases t <;> cases S k <;> cases T k <;> rfl
  · rw [xorI, Nat.xor_div_two_pow]
theorem Num.zero : Num 0 (fun _ => false) 0 := ⟨false, 0, rfl, fun k _ => by rw [Nat.zero_testBit]; rfl, rfl⟩
theorem Num.pow {q : Nat} (hq : q < 32) : Num (2 ^ q) (fun k => k == q) 0 := by
  refine ⟨false, 2 ^ q, by simp [I], fun k hk => ?_, ?_⟩
  · rw [Nat.testBit_two_pow]
    by_cases e : q = k
    · subst e; simp
    · have : ¬ k = q := fun h => e h.symm
      simp [e, this]
  · have : 2 ^ q < 2 ^ 32 := Nat.pow_lt_pow_right (by decide) hq
    rw [Nat.div_eq_of_lt this]; rfl
theorem Num.bit {n : Int} {S : Nat → Bool} {H : Int} (x : Num n S H) {k : Nat} (hk : k < 32) : Builtin.bitAnd n (2 ^ k) = 0 ↔ S k = false := by
  obtain ⟨s, a, rfl, h1, rfl⟩ := x
  rw [andI, h1 k hk]
  cases s <;> cases S k <;> simp
theorem Num.ext {n : Int} {S T : Nat → Bool} {H : Int} (x : Num n S H) (h : ∀ k, k < 32 → S k = T k) : Num n T H := by
  obtain ⟨s, a, rfl, h1, rfl⟩ := x
  exact ⟨s, a, rfl, fun k hk => by rw [h1 k hk, h k hk], rfl⟩
/-- a bit that is not there is added -/
theorem Num.add {n : Int} {S : Nat → Bool} {H : Int} (x : Num n S H) {q : Nat} (hq : q < 32) (hS : S q = false) : Num (n + 2 ^ q) (fun k => S k || k == q) H := by
  have hx := x.xor (Num.pow hq)
  have e : Builtin.bitXor n (2 ^ q) = n + 2 ^ q := by
    obtain ⟨s, a, rfl, h1, rfl⟩ := x
    have hb := h1 q hq
    rw [hS] at hb
    have e2 : ((2 : Int) ^ q) = I false (2 ^ q) := by simp [I]
    rw [e2, xorI]
    obtain ⟨h3, _⟩ := S12 a (2 ^ q)
    cases s with
    | false =>
      rw [and_off hb] at h3
      show ((a ^^^ 2 ^ q : Nat) : Int) = (a : Int) + ((2 ^ q : Nat) : Int)
      omega
    | true =>
      rw [and_on hb] at h3
      show -((a ^^^ 2 ^ q : Nat) : Int) - 1 = -(a : Int) - 1 + ((2 ^ q : Nat) : Int)
      omega
  have e3 : Builtin.bitXor H 0 = H := by
    obtain ⟨s, a, rfl, h1, rfl⟩ := x
    have : (0 : Int) = I false 0 := rfl
    rw [this, xorI, Bool.xor_false, Nat.xor_zero]
  rw [e, e3] at hx
  refine hx.ext fun k _ => ?_
  by_cases hk : k = q
  · subst hk; rw [hS]; simp
  · have : (k == q) = false := beq_false_of_ne hk
    rw [this]; simp
/-- what lies above is added -/
theorem Num.high {n : Int} {S : Nat → Bool} (x : Num n S 0) (h : Int) : Num (n + h * 2 ^ 32) S h := by
  obtain ⟨s, a, rfl, h1, h2⟩ := x
  have hs : s = false := by
    cases s with
    | false => rfl
    | true => exfalso; change (0 : Int) = -((a / 2 ^ 32 : Nat) : Int) - 1 at h2; omega
  subst hs
  have ha : a < 2 ^ 32 := by
    change (0 : Int) = ((a / 2 ^ 32 : Nat) : Int) at h2
    have : a / 2 ^ 32 = 0 := by omega
    exact Nat.lt_of_div_eq_zero (by decide) this
  by_cases hh : 0 ≤ h
  · obtain ⟨m, rfl⟩ := Int.eq_ofNat_of_zero_le hh
    refine ⟨false, 2 ^ 32 * m + a, ?_, fun k hk => ?_, ?_⟩
    · show (a : Int) + (m : Int) * 2 ^ 32 = ((2 ^ 32 * m + a : Nat) : Int)
      omega
    · rw [Nat.testBit_two_pow_mul_add m ha, if_pos hk, h1 k hk]
    · show (m : Int) = (((2 ^ 32 * m + a) / 2 ^ 32 : Nat) : Int)
      omega
  · obtain ⟨m, hm⟩ : ∃ m : Nat, h = -(m : Int) - 1 := ⟨(-h - 1).toNat, by omega⟩
    subst hm
    refine ⟨true, 2 ^ 32 * m + (2 ^ 32 - (a + 1)), ?_, fun k hk => ?_, ?_⟩
    · show (a : Int) + (-(m : Int) - 1) * 2 ^ 32 = -((2 ^ 32 * m + (2 ^ 32 - (a + 1)) : Nat) : Int) - 1
      omega
    · rw [Nat.testBit_two_pow_mul_add m (by omega), if_pos hk, Nat.testBit_two_pow_sub_succ ha, h1 k hk, decide_eq_true hk]
      cases S k <;> rfl
    · show -(m : Int) - 1 = -(((2 ^ 32 * m + (2 ^ 32 - (a + 1))) / 2 ^ 32 : Nat) : Int) - 1
      omega
/-- nothing below: the number is what lies above -/
theorem Num.only {n : Int} {S : Nat → Bool} {H : Int} (x : Num n S H) (hS : ∀ k, k < 32 → S k = false) : n = H * 2 ^ 32 := by
  obtain ⟨s, a, rfl, h1, rfl⟩ := x
  have hm : a % 2 ^ 32 = if s then 2 ^ 32 - 1 else 0 := Nat.eq_of_testBit_eq fun i => by
    rw [Nat.testBit_mod_two_pow]
    by_cases hi : i < 32
    · rw [h1 i hi, hS i hi, decide_eq_true hi]
      cases s
      · simp
      · simp only [if_true]; rw [Nat.testBit_two_pow_sub_one, decide_eq_true hi]; rfl
    · rw [decide_eq_false hi]
      cases s
      · simp
      · simp only [if_true]; rw [Nat.testBit_two_pow_sub_one, decide_eq_false hi]; rfl
  have hd := Nat.div_add_mod a (2 ^ 32)
  cases s with
  | false =>
    rw [if_neg (by decide)] at hm
    show (a : Int) = ((a / 2 ^ 32 : Nat) : Int) * 2 ^ 32
    omega
  | true =>
    rw [if_pos rfl] at hm
    show -(a : Int) - 1 = (-((a / 2 ^ 32 : Nat) : Int) - 1) * 2 ^ 32
    omega
theorem Num.of_zero {S : Nat → Bool} {H : Int} (x : Num 0 S H) : (∀ k, k < 32 → S k = false) ∧ H = 0 := by
  obtain ⟨s, a, h0, h1, rfl⟩ := x
  cases s with
  | true => exfalso; change (0 : Int) = -(a : Int) - 1 at h0; omega
  | false =>
    change (0 : Int) = (a : Int) at h0
    have : a = 0 := by omega
    subst this
    refine ⟨fun k hk => ?_, rfl⟩
    have := h1 k hk
    rw [Nat.zero_testBit] at this
    cases hS : S k with
    | false => rfl
    | true => rw [hS] at this; cases this
end Mine

namespace Mine
open PySem PySem.Calls PyProof.Rows Builtin.Str
/-! ## what pretty_flags tells of a number -/
theorem pfSt_num {n : Int} {S : Nat → Bool} {H : Int} (x : Num n S H) : ∀ k, k ≤ 32 → Num (pfSt n k).1 (fun i => S i && decide (k ≤ i)) H ∧ (pfSt n k).2 = ((List.range k).filter S).map nmV
  | 0, _ => ⟨x.ext fun i _ => by simp, rfl⟩
  | k + 1, h => by
    obtain ⟨h1, h2⟩ := pfSt_num x k (by omega)
    have hb := h1.bit (k := k) (by omega)
    rw [List.range_succ, List.filter_append, List.map_append]
    unfold pfSt
    rw [flag_eq]
    simp only [Nat.le_refl, decide_true, Bool.and_true] at hb
    by_cases hS : S k = false
    · rw [if_pos (hb.mpr hS)]
      refine ⟨h1.ext fun i _ => ?_, by rw [h2]; simp [hS]⟩
      by_cases e : i = k
      · subst e; simp [hS]
      · have : decide (k ≤ i) = decide (k + 1 ≤ i) := by
          rw [decide_eq_decide]; omega
        rw [this]
    · rw [if_neg (fun q => hS (hb.mp q))]
      have hS' : S k = true := by simpa using hS
      have e3 : Builtin.bitXor H 0 = H := by
        obtain ⟨s, a, h3, h4, rfl⟩ := x
        have : (0 : Int) = I false 0 := rfl
        rw [this, xorI, Bool.xor_false, Nat.xor_zero]
      have hx := h1.xor (Num.pow (q := k) (by omega))
      rw [e3] at hx
      refine ⟨hx.ext fun i _ => ?_, by rw [h2]; simp [hS']⟩
      by_cases e : i = k
      · subst e; simp [hS']
      · have e' : (i == k) = false := beq_false_of_ne e
        have : decide (k ≤ i) = decide (k + 1 ≤ i) := by
          rw [decide_eq_decide]; omega
        rw [e', this]; simp
theorem pfV_num {n : Int} {S : Nat → Bool} {H : Int} (x : Num n S H) (hn : n ≠ 0) : (pfSt n 32).1 = H * 2 ^ 32 ∧ pfV n = ((List.range 32).filter S).map nmV ++ (if H = 0 then [] else [baseText "0x" 16 (H * 2 ^ 32)]) := by
  obtain ⟨h1, h2⟩ := pfSt_num x 32 (Nat.le_refl _)
  have h3 : (pfSt n 32).1 = H * 2 ^ 32 := h1.only fun k hk => by
    have : decide (32 ≤ k) = false := decide_eq_false (by omega)
    rw [this, Bool.and_false]
  refine ⟨h3, ?_⟩
  unfold pfV
  rw [h2, h3]
  by_cases hH : H = 0
  · rw [if_pos hH, if_pos ⟨by rw [hH]; rfl, hn⟩, List.append_nil]
  · rw [if_neg hH, if_neg fun q => hH (by have := q.1; omega)]
/-- the number above of a place -/
def hiV (q : Nat) : Int := if q < 32 then 0 else (3 + (q : Int) % 9) * (if q / 9 % 2 = 0 then 1 else -1)
theorem hi_word : ∀ q : _root_.Fin 54, 36 ≤ q.val → hiV q.val ≠ 0 ∧ baseText "0x" 16 (hiV q.val * 2 ^ 32) = wordV q.val ∧ numV q.val = hiV q.val * 2 ^ 32 ∧ (baseText "0x" 16 (hiV q.val * 2 ^ 32)).length ≤ 1000000 := by decide +kernel
theorem low_word : ∀ q : _root_.Fin 32, nmV q.val = wordV q.val ∧ numV q.val = 2 ^ q.val := by decide +kernel
/-- the words of the places of a set, rising -/
def waysV (T : Nat → Bool) : List Str := ((List.range 54).filter T).map wordV
theorem range54 : List.range 54 = List.range 32 ++ (List.range 22).map (32 + ·) := by decide +kernel
/-- the set of a number's places: q is above, if anything is -/
theorem pf_ways {n : Int} {T : Nat → Bool} {H : Int} (q : Nat) (x : Num n T H) (hn : n ≠ 0) (hq : q < 54) (hH : (H = 0 ∧ ∀ k, 32 ≤ k → k < 54 → T k = false) ∨ (36 ≤ q ∧ H = hiV q ∧ ∀ k, 32 ≤ k → k < 54 → T k = (k == q))) :
    pfV n = waysV T ∧ (baseText "0x" 16 (pfSt n 32).1).length ≤ 1000000 := by
  obtain ⟨h1, h2⟩ := pfV_num x hn
  have hlow : ((List.range 32).filter T).map nmV = ((List.range 32).filter T).map wordV := List.map_congr_left fun k m => (low_word ⟨k, List.mem_range.mp (List.mem_filter.mp m).1⟩).1
  unfold waysV
  rw [h1, h2, hlow, range54, List.filter_append, List.map_append]
  rcases hH with ⟨rfl, hT⟩ | ⟨hq36, rfl, hT⟩
  · refine ⟨?_, by decide +kernel⟩
    rw [if_pos rfl]
    congr 1
    have : ((List.range 22).map (32 + ·)).filter T = [] := List.filter_eq_nil_iff.mpr fun k m => by
      obtain ⟨j, hj, rfl⟩ := List.mem_map.mp m
      have := List.mem_range.mp hj
      rw [hT _ (by omega) (by omega)]; decide
    rw [this]; rfl
  · obtain ⟨w1, w2, w3, w4⟩ := hi_word ⟨q, hq⟩ hq36
    refine ⟨?_, w4⟩
    dsimp only at w1 w2
    rw [if_neg w1, w2]
    congr 1
    have : ((List.range 22).map (32 + ·)).filter T = ((List.range 22).map (32 + ·)).filter (fun k => k == q) := List.filter_congr fun k m => by
      obtain ⟨j, hj, rfl⟩ := List.mem_map.mp m
      have := List.mem_range.mp hj
      exact hT _ (by omega) (by omega)
    rw [this]
    have h54 : ∀ q : _root_.Fin 54, 36 ≤ q.val → ((List.range 22).map (32 + ·)).filter (fun k => k == q.val) = [q.val] := by decide +kernel
    rw [h54 ⟨q, hq⟩ hq36]; rfl
end Mine

namespace Mine
open PySem PySem.Calls PyProof.Rows Builtin.Str
/-! ## paths and numbers -/
def pathsV (ab : List Int) : Nat → List (List Nat)
  | 0 => [[]]
  | k + 1 => pathsV ab k ++ [k :: (pathsV ab k).getD (ab.getD k 0).toNat []]
theorem pathsV_len (ab : List Int) : ∀ k, (pathsV ab k).length = k + 1
  | 0 => rfl
  | k + 1 => by rw [pathsV, List.length_append, pathsV_len]; rfl
theorem getD_left {α : Type} {l r : List α} {i : Nat} {d : α} (h : i < l.length) : (l ++ r).getD i d = l.getD i d := by
  rw [List.getD_eq_getElem?_getD, List.getElem?_append_left h, ← List.getD_eq_getElem?_getD]
theorem getD_end {α : Type} {l : List α} {x d : α} : (l ++ [x]).getD l.length d = x := by
  rw [List.getD_eq_getElem?_getD, List.getElem?_append_right (Nat.le_refl _), Nat.sub_self]; rfl
/-- the parents stand behind -/
def Par (ab : List Int) : Prop := ∀ k, k < 4 → 0 ≤ ab.getD k 0 ∧ ab.getD k 0 ≤ k
theorem path_lt {ab : List Int} (hab : Par ab) : ∀ k, k ≤ 4 → ∀ i, i ≤ k → ∀ e ∈ (pathsV ab k).getD i [], e < i
  | 0, _, i, hi, e, m => by
    have : i = 0 := by omega
    subst this; cases m
  | k + 1, hk, i, hi, e, m => by
    have hl := pathsV_len ab k
    rw [pathsV] at m
    by_cases h : i ≤ k
    · rw [getD_left (by omega)] at m
      exact path_lt hab k (by omega) i h e m
    · have : i = (pathsV ab k).length := by omega
      rw [this, getD_end] at m
      rcases List.mem_cons.mp m with rfl | m
      · omega
      · have hp := hab k (by omega)
        have := path_lt hab k (by omega) _ (by omega) e m
        omega
def setOf (q : List Nat) (p : List Nat) (b : Nat) : Bool := p.any fun e => q.getD e 0 == b
def highOf (q : List Nat) (p : List Nat) : Int := if p.contains 3 then hiV (q.getD 3 0) else 0
theorem pls_inj {q : List Nat} (hq : Pls q) {i j : Nat} (hi : i < 4) (hj : j < 4) (h : q.getD i 0 = q.getD j 0) : i = j := by
  have hl := hq.len
  rw [getD_at (by omega), getD_at (by omega)] at h
  exact (List.getElem_inj hq.nd).mp h
theorem pls_at {q : List Nat} (hq : Pls q) {i : Nat} (hi : i < 4) : q.getD i 0 < 32 ∨ (36 ≤ q.getD i 0 ∧ q.getD i 0 < 54 ∧ i = 3) := by
  have hl := hq.len
  by_cases h : i < 3
  · exact .inl (hq.low i h)
  · have : i = 3 := by omega
    subst this
    have := hq.ok (q.getD 3 0) (by rw [getD_at (by omega)]; exact List.getElem_mem _)
    omega
theorem nums_ok {q : List Nat} (hq : Pls q) {ab : List Int} (hab : Par ab) : ∀ k, k ≤ 4 → ∀ i, i ≤ k →
    Num ((numbersV (q.map fun i : Nat => (i : Int)) ab k).getD i 0) (setOf q ((pathsV ab k).getD i [])) (highOf q ((pathsV ab k).getD i []))
  | 0, _, i, hi => by
    have : i = 0 := by omega
    subst this
    exact Num.zero.ext fun _ _ => rfl
  | k + 1, hk, i, hi => by
    have hl := pathsV_len ab k
    have hl2 := numbersV_len (q.map fun i : Nat => (i : Int)) ab k
    have hql := hq.len
    rw [pathsV, numbersV]
    by_cases h : i ≤ k
    · rw [getD_left (by omega), getD_left (by omega)]
      exact nums_ok hq hab k (by omega) i h
    · have e1 : i = (pathsV ab k).length := by omega
      have e2 : i = (numbersV (q.map fun i : Nat => (i : Int)) ab k).length := by omega
      rw [show ((numbersV (q.map fun i : Nat => (i : Int)) ab k) ++ [(numbersV (q.map fun i : Nat => (i : Int)) ab k).getD (ab.getD k 0).toNat 0 + numV ((q.map fun i : Nat => (i : Int)).getD k 0).toNat]).getD i 0 = _ from e2 ▸ getD_end, show (pathsV ab k ++ [k :: (pathsV ab k).getD (ab.getD k 0).toNat []]).getD i [] = _ from e1 ▸ getD_end]
      have hp := hab k (by omega)
      have hi' := nums_ok hq hab k (by omega) (ab.getD k 0).toNat (by omega)
      have hlt := path_lt hab k (by omega) (ab.getD k 0).toNat (by omega)
      generalize (pathsV ab k).getD (ab.getD k 0).toNat [] = P at *
      generalize (numbersV (q.map fun i : Nat => (i : Int)) ab k).getD (ab.getD k 0).toNat 0 = n at *
      have hqk : ((q.map fun i : Nat => (i : Int)).getD k 0).toNat = q.getD k 0 := by
        rw [getD_at (by rw [List.length_map]; omega), getD_at (by omega), List.getElem_map]; rfl
      rw [hqk]
      have h3 : P.contains 3 = false := by
        rw [Bool.eq_false_iff]
        intro hc
        have := hlt 3 (List.contains_iff_mem.mp hc)
        omega
      have hH : highOf q P = 0 := by unfold highOf; rw [h3]; rfl
      rw [hH] at hi'
      rcases pls_at hq (i := k) (by omega) with hlow | ⟨h36, h54, rfl⟩
      · have hS : setOf q P (q.getD k 0) = false := by
          unfold setOf
          rw [List.any_eq_false]
          intro e he hb
          have := hlt e he
          have := pls_inj hq (i := e) (j := k) (by omega) (by omega) (eq_of_beq hb)
          omega
        have hN := hi'.add hlow hS
        have hnv : numV (q.getD k 0) = 2 ^ q.getD k 0 := (low_word ⟨_, hlow⟩).2
        rw [hnv]
        have hh : highOf q (k :: P) = 0 := by
          unfold highOf
          rw [List.contains_cons, h3, Bool.or_false]
          by_cases hk3 : k = 3
          · subst hk3
            rw [show (3 == 3) = true from rfl, if_pos rfl]
            unfold hiV; rw [if_pos hlow]
          · rw [if_neg (by rw [beq_iff_eq]; omega)]
        rw [hh]
        refine hN.ext fun b _ => ?_
        unfold setOf
        rw [List.any_cons, Bool.or_comm]
        congr 1
        rw [Bool.eq_iff_iff, beq_iff_eq, beq_iff_eq]
        exact ⟨Eq.symm, Eq.symm⟩
      · obtain ⟨w1, w2, w3, w4⟩ := hi_word ⟨_, h54⟩ h36
        dsimp only at w3
        rw [w3]
        have hh : highOf q (3 :: P) = hiV (q.getD 3 0) := by
          unfold highOf
          rw [List.contains_cons, show (3 == 3) = true from rfl, Bool.true_or, if_pos rfl]
        rw [hh]
        refine (hi'.high _).ext fun b hb => ?_
        unfold setOf
        rw [List.any_cons, beq_false_of_ne (by omega), Bool.false_or]
theorem exI (n : Int) : ∃ s a, n = I s a := by
  by_cases h : 0 ≤ n
  · exact ⟨false, n.toNat, by show n = (n.toNat : Int); omega⟩
  · exact ⟨true, (-n - 1).toNat, by show n = -((-n - 1).toNat : Int) - 1; omega⟩
theorem xor_same (n : Int) : Builtin.bitXor n n = 0 := by
  obtain ⟨s, a, rfl⟩ := exI n
  rw [xorI, Nat.xor_self, Bool.xor_self]; rfl
theorem xor_zero (n : Int) : Builtin.bitXor n 0 = n := by
  obtain ⟨s, a, rfl⟩ := exI n
  rw [show (0 : Int) = I false 0 from rfl, xorI, Nat.xor_zero, Bool.xor_false]
theorem zero_xor (n : Int) : Builtin.bitXor 0 n = n := by
  obtain ⟨s, a, rfl⟩ := exI n
  rw [show (0 : Int) = I false 0 from rfl, xorI, Nat.zero_xor, Bool.false_xor]
def pathV (ab : List Int) (i : Nat) : List Nat := (pathsV ab 4).getD i []
theorem head_path {ab : List Int} : ∀ k, k ≤ 4 → ∀ j, j < k → j ∈ (pathsV ab k).getD (j + 1) []
  | 0, _, j, hj => absurd hj (Nat.not_lt_zero _)
  | k + 1, hk, j, hj => by
    have hl := pathsV_len ab k
    rw [pathsV]
    by_cases h : j < k
    · rw [getD_left (by omega)]; exact head_path k (by omega) j h
    · have : j + 1 = (pathsV ab k).length := by omega
      rw [this, getD_end]
      have : j = k := by omega
      subst this; exact List.mem_cons_self
/-- on which the two nodes' numbers part -/
def parts (q : List Nat) (ab : List Int) (i j b : Nat) : Bool := setOf q (pathV ab i) b != setOf q (pathV ab j) b
theorem pair_ok {q : List Nat} (hq : Pls q) {ab : List Int} (hab : Par ab) {i j : Nat} (hij : i < j) (hj : j < 5) :
    pfV (Builtin.bitXor ((numbersV (q.map fun i : Nat => (i : Int)) ab 4).getD i 0) ((numbersV (q.map fun i : Nat => (i : Int)) ab 4).getD j 0)) = waysV (parts q ab i j) ∧
    (baseText "0x" 16 (pfSt (Builtin.bitXor ((numbersV (q.map fun i : Nat => (i : Int)) ab 4).getD i 0) ((numbersV (q.map fun i : Nat => (i : Int)) ab 4).getD j 0)) 32).1).length ≤ 1000000 := by
  have h1 := nums_ok hq hab 4 (Nat.le_refl _) i (by omega)
  have h2 := nums_ok hq hab 4 (Nat.le_refl _) j (by omega)
  have hx := h1.xor h2
  have li := path_lt hab 4 (Nat.le_refl _) i (by omega)
  have lj := path_lt hab 4 (Nat.le_refl _) j (by omega)
  have hql := hq.len
  have hbit : ∀ p : List Nat, (∀ e ∈ p, e < 4) → ∀ b, 32 ≤ b → b < 54 → setOf q p b = (p.contains 3 && (q.getD 3 0 == b)) := fun p hp b hb hb' => by
    unfold setOf
    rw [Bool.eq_iff_iff, List.any_eq_true, Bool.and_eq_true, List.contains_iff_mem, beq_iff_eq]
    refine ⟨fun ⟨e, he, hbq⟩ => ?_, fun ⟨h3, hbq⟩ => ⟨3, h3, by rw [hbq]; exact beq_self_eq_true b⟩⟩
    have hbe := eq_of_beq hbq
    rcases pls_at hq (hp e he) with h | ⟨_, _, rfl⟩
    · omega
    · exact ⟨he, hbe⟩
  have hbi := hbit (pathV ab i) fun e m => by have := li e m; omega
  have hbj := hbit (pathV ab j) fun e m => by have := lj e m; omega
  have hH : (Builtin.bitXor (highOf q (pathV ab i)) (highOf q (pathV ab j)) = 0 ∧ ∀ b, 32 ≤ b → b < 54 → parts q ab i j b = false) ∨
      (36 ≤ q.getD 3 0 ∧ Builtin.bitXor (highOf q (pathV ab i)) (highOf q (pathV ab j)) = hiV (q.getD 3 0) ∧ ∀ b, 32 ≤ b → b < 54 → parts q ab i j b = (b == q.getD 3 0)) := by
    rcases pls_at hq (i := 3) (by decide) with h3 | ⟨h36, h54, _⟩
    · left
      have hz : hiV (q.getD 3 0) = 0 := by unfold hiV; rw [if_pos h3]
      refine ⟨?_, fun b hb hb' => ?_⟩
      · unfold highOf; rw [hz]; simp [xor_same]
      · unfold parts
        have : (q.getD 3 0 == b) = false := beq_false_of_ne (by omega)
        rw [hbi b hb hb', hbj b hb hb', this]; simp
    · have hcom : ∀ b, (q.getD 3 0 == b) = (b == q.getD 3 0) := fun b => by
        rw [Bool.eq_iff_iff, beq_iff_eq, beq_iff_eq]; exact ⟨Eq.symm, Eq.symm⟩
      cases hc : (pathV ab i).contains 3 <;> cases hd : (pathV ab j).contains 3
      · left
        exact ⟨by unfold highOf; rw [hc, hd]; exact xor_same 0, fun b hb hb' => by unfold parts; rw [hbi b hb hb', hbj b hb hb', hc, hd]; simp⟩
      · right
        exact ⟨h36, by unfold highOf; rw [hc, hd, if_neg (by decide), if_pos rfl]; exact zero_xor _, fun b hb hb' => by unfold parts; rw [hbi b hb hb', hbj b hb hb', hc, hd, hcom]; simp⟩
      · right
        exact ⟨h36, by unfold highOf; rw [hc, hd, if_pos rfl, if_neg (by decide)]; exact xor_zero _, fun b hb hb' => by unfold parts; rw [hbi b hb hb', hbj b hb hb', hc, hd, hcom]; simp⟩
      · left
        exact ⟨by unfold highOf; rw [hc, hd]; exact xor_same _, fun b hb hb' => by unfold parts; rw [hbi b hb hb', hbj b hb hb', hc, hd]; simp⟩
  have hq54 : q.getD 3 0 < 54 := by rcases pls_at hq (i := 3) (by decide) with h | h <;> omega
  refine pf_ways (q.getD 3 0) hx (fun h0 => ?_) hq54 hH
  rw [h0] at hx
  obtain ⟨z1, z2⟩ := hx.of_zero
  -- the edge j - 1 stands on one side alone
  have hej : j - 1 ∈ pathV ab j := by
    have := head_path (ab := ab) 4 (Nat.le_refl _) (j - 1) (by omega)
    rwa [show j - 1 + 1 = j by omega] at this
  have hei : j - 1 ∉ pathV ab i := fun m => by have := li _ m; omega
  have hSj : setOf q (pathV ab j) (q.getD (j - 1) 0) = true := by
    unfold setOf; rw [List.any_eq_true]; exact ⟨_, hej, beq_self_eq_true _⟩
  have hSi : setOf q (pathV ab i) (q.getD (j - 1) 0) = false := by
    unfold setOf; rw [List.any_eq_false]
    intro e he hb
    have h5 := li e he
    have := pls_inj hq (i := e) (j := j - 1) (by omega) (by omega) (eq_of_beq hb)
    exact hei (this ▸ he)
  rcases pls_at hq (i := j - 1) (by omega) with hlow | ⟨h36, h54, hj3⟩
  · have := z1 _ hlow
    change (setOf q (pathV ab i) (q.getD (j - 1) 0) != setOf q (pathV ab j) (q.getD (j - 1) 0)) = false at this
    rw [hSi, hSj] at this; cases this
  · rw [hj3] at hei hej h36 h54
    have hc : (pathV ab i).contains 3 = false := by
      rw [Bool.eq_false_iff]; exact fun h => hei (List.contains_iff_mem.mp h)
    have hd : (pathV ab j).contains 3 = true := List.contains_iff_mem.mpr hej
    have : Builtin.bitXor (highOf q (pathV ab i)) (highOf q (pathV ab j)) = hiV (q.getD 3 0) := by
      unfold highOf; rw [hc, hd, if_neg (by decide), if_pos rfl]; exact zero_xor _
    exact (hi_word ⟨_, h54⟩ h36).1 (this.symm.trans z2)
end Mine

namespace Mine
open PySem PySem.Calls PyProof.Rows Builtin.Str StrLaws
/-! ## joined words come apart again -/
def J : List (List Nat) → List Nat
  | [] => []
  | [w] => w
  | w :: r => w ++ 44 :: 32 :: J r
theorem J_cons (w : List Nat) {r : List (List Nat)} (h : r ≠ []) : J (w :: r) = w ++ 44 :: 32 :: J r := by
  cases r with
  | nil => exact absurd rfl h
  | cons a b => rfl
theorem sep_list : sep.cps.toList = [44, 32] := by decide +kernel
theorem sep_len : sep.length = 2 := by decide +kernel
theorem at_iff {x : Str} {i : Nat} : StrLaws.At x sep x.length i ↔ ∃ r, x.cps.toList.drop i = 44 :: 32 :: r := by
  unfold StrLaws.At
  rw [subAt_eq, sep_len, sep_list, beq_iff_eq]
  constructor
  · rintro ⟨_, h⟩
    cases hd : x.cps.toList.drop i with
    | nil => rw [hd] at h; cases h
    | cons a l =>
      rw [hd] at h
      cases l with
      | nil => simp at h
      | cons b l => simp at h; exact ⟨l, by rw [h.1, h.2]⟩
  · rintro ⟨r, h⟩
    rw [h]
    refine ⟨?_, rfl⟩
    have := congrArg List.length h
    rw [List.length_drop] at this
    simp at this
    show i + 2 ≤ x.cps.size
    omega
theorem drop_at {l w t : List Nat} {a : Nat} (h : l.drop a = w ++ t) (k : Nat) (hk : k ≤ w.length) : l.drop (a + k) = w.drop k ++ t := by
  rw [← List.drop_drop, h, List.drop_append_of_le_length hk]
theorem parts_words {x : Str} : ∀ (ws : List (List Nat)), ws ≠ [] → (∀ w ∈ ws, 44 ∉ w) → ∀ a cuts f, x.cps.toList.drop a = J ws → ChainG x sep x.length a cuts f → (∀ k, f ≤ k → ¬ StrLaws.At x sep x.length k) →
    (partsFrom x sep.length a cuts).map (fun p => p.cps.toList) = ws
  | [], h, _, _, _, _, _, _, _ => absurd rfl h
  | [w], _, hw, a, cuts, f, hd, hG, hn => by
    have hw1 := hw w List.mem_cons_self
    have hd' : x.cps.toList.drop a = w ++ [] := by rw [hd]; simp [J]
    match cuts, hG with
    | [], _ =>
      show [(strSub x a x.length).cps.toList] = [w]
      rw [strSub_toList, hd, List.take_of_length_le]; rfl
      have := congrArg List.length hd
      rw [List.length_drop] at this
      show (J [w]).length ≤ x.cps.size - a
      rw [← this]; simp
    | c :: r, ⟨h1, h2, _⟩ =>
      exfalso
      obtain ⟨t, ht⟩ := at_iff.mp h2
      by_cases hc : c - a ≤ w.length
      · have := drop_at hd' (c - a) hc
        rw [show a + (c - a) = c by omega, ht, List.append_nil] at this
        exact hw1 (List.mem_of_mem_drop (this ▸ List.mem_cons_self))
      · have : x.cps.toList.drop c = [] := by
          rw [show c = a + (c - a) by omega, ← List.drop_drop, hd, List.drop_eq_nil_of_le]
          show w.length ≤ _
          omega
        rw [this] at ht; cases ht
  | w :: v :: r, _, hw, a, cuts, f, hd, hG, hn => by
    have hw1 := hw w List.mem_cons_self
    have hd' : x.cps.toList.drop a = w ++ 44 :: 32 :: J (v :: r) := hd
    have hA : StrLaws.At x sep x.length (a + w.length) := at_iff.mpr ⟨J (v :: r), by rw [drop_at hd' w.length (Nat.le_refl _), List.drop_length]; rfl⟩
    match cuts, hG with
    | [], hf =>
      have hf : f = a := hf
      exact absurd hA (hn _ (by omega))
    | c :: r', ⟨h1, h2, h3, h4⟩ =>
      have hc : c = a + w.length := by
        rcases Nat.lt_trichotomy c (a + w.length) with h | h | h
        · exfalso
          obtain ⟨t, ht⟩ := at_iff.mp h2
          have := drop_at hd' (c - a) (by omega)
          rw [show a + (c - a) = c by omega, ht] at this
          have hm : w.drop (c - a) ≠ [] := by
            intro e
            have := congrArg List.length e
            rw [List.length_drop] at this
            simp at this; omega
          cases hq : w.drop (c - a) with
          | nil => exact hm hq
          | cons y ys =>
            rw [hq] at this
            simp at this
            exact hw1 (List.mem_of_mem_drop (i := c - a) (by rw [hq, ← this.1]; exact List.mem_cons_self))
        · exact h
        · exact absurd hA (h3 _ (by omega) h)
      subst hc
      show (strSub x a (a + w.length)).cps.toList :: (partsFrom x sep.length (a + w.length + sep.length) r').map (fun p => p.cps.toList) = w :: v :: r
      congr 1
      · rw [strSub_toList, hd', Nat.add_sub_cancel_left, List.take_append_of_le_length (Nat.le_refl _), List.take_length]
      · refine parts_words (v :: r) (by simp) (fun u m => hw u (List.mem_cons_of_mem _ m)) _ r' f ?_ h4 hn
        rw [sep_len, ← List.drop_drop, drop_at hd' w.length (Nat.le_refl _), List.drop_length]; rfl
end Mine

namespace Mine
open PySem PySem.Calls PyProof.Rows Builtin.Str StrLaws
theorem join_list : ∀ ws : List Str, (Str.join sep ws).cps.toList = J (ws.map fun w => w.cps.toList)
  | [] => rfl
  | [w] => rfl
  | w :: v :: r => by
    have ih := join_list (v :: r)
    show ((w ++ sep ++ Str.join sep (v :: r)).cps).toList = w.cps.toList ++ 44 :: 32 :: J ((v :: r).map fun w => w.cps.toList)
    rw [← ih]
    show ((w.cps ++ sep.cps) ++ (Str.join sep (v :: r)).cps).toList = _
    rw [Array.toList_append, Array.toList_append, sep_list, List.append_assoc]; rfl
theorem txt_join (ws : List Str) : Txt.join sep ws = Str.join sep ws := glued_eq_join sep ws
theorem str_ext {x y : Str} (h : x.cps.toList = y.cps.toList) : x = y := by
  cases x; cases y
  rw [Str.mk.injEq]
  exact Array.toList_inj.mp h
theorem map_list_inj : ∀ {a b : List Str}, a.map (fun w => w.cps.toList) = b.map (fun w => w.cps.toList) → a = b
  | [], [], _ => rfl
  | [], _ :: _, h => by simp at h
  | _ :: _, [], h => by simp at h
  | x :: a, y :: b, h => by
    simp only [List.map_cons, List.cons.injEq] at h
    rw [map_list_inj h.2, str_ext h.1]
theorem split_parts {ws : List Str} (hne : ws ≠ []) (hf : ∀ w ∈ ws, 44 ∉ w.cps.toList) :
    partsFrom (Txt.join sep ws) sep.length 0 (occurrences (Txt.join sep ws) sep 0 (Txt.join sep ws).length ((Txt.join sep ws).length + 1)) = ws := by
  obtain ⟨f, hG, hn⟩ := occ_tight (Txt.join sep ws) sep (by rw [sep_len]; decide)
  refine map_list_inj (parts_words (x := Txt.join sep ws) (ws.map fun w => w.cps.toList) (by simpa using hne) (fun w m => ?_) 0 _ f ?_ hG hn)
  · obtain ⟨v, hv, rfl⟩ := List.mem_map.mp m; exact hf v hv
  · rw [List.drop_zero, txt_join, join_list]
theorem split_words {ws : List Str} (hne : ws ≠ []) (hf : ∀ w ∈ ws, 44 ∉ w.cps.toList) : Txt.split (Txt.join sep ws) sep = ws := by
  have hp := split_parts hne hf
  have hw : ∀ c : Nat, partsFrom (Txt.join sep ws) sep.length 0 [] = [Txt.join sep ws] := fun _ => by
    show [strSub (Txt.join sep ws) 0 (Txt.join sep ws).length] = _
    rw [sub_whole]
  unfold Txt.split
  split
  · rename_i hc
    rw [Bool.or_eq_true, decide_eq_true_eq, decide_eq_true_eq] at hc
    rcases hc with h | h
    · have : occurrences (Txt.join sep ws) sep 0 (Txt.join sep ws).length ((Txt.join sep ws).length + 1) = [] := by
        obtain ⟨f, hG, hn⟩ := occ_tight (Txt.join sep ws) sep (by rw [sep_len]; decide)
        cases hq : occurrences (Txt.join sep ws) sep 0 (Txt.join sep ws).length ((Txt.join sep ws).length + 1) with
        | nil => rfl
        | cons c r => rw [hq] at hG; have := hG.2.1.1; omega
      rw [this, hw 0] at hp; exact hp
    · exfalso
      have e : Builtin.Str.strKind sep = 1 := by decide +kernel
      rw [e] at h
      have : 1 ≤ Builtin.Str.strKind (Txt.join sep ws) := by
        unfold Builtin.Str.strKind
        split
        · decide
        · split <;> decide
      omega
  · split
    · rename_i he
      rw [List.isEmpty_iff.mp he, hw 0] at hp; exact hp
    · rw [partsBetween_eq]; exact hp
theorem split_len {ws : List Str} (hne : ws ≠ []) (hf : ∀ w ∈ ws, 44 ∉ w.cps.toList) (hl : ws.length ≤ 1000) :
    (partsBetween (Txt.join sep ws) (occurrences (Txt.join sep ws) sep 0 (Txt.join sep ws).length ((Txt.join sep ws).length + 1)) sep.length).length ≤ sizeLine := by
  rw [partsBetween_eq, split_parts hne hf, sizeLine_eq]; omega
/-! ## the words -/
def goodQ (q : Nat) : Bool := decide (q < 32) || (decide (36 ≤ q) && decide (q < 54))
theorem word_facts : ∀ q : _root_.Fin 54, (wordV q.val).length ≤ 20 ∧ 1 ≤ (wordV q.val).length ∧ (∀ c ∈ (wordV q.val).cps.toList, c < 128 ∧ c ≠ 44 ∧ c ≠ 46 ∧ c ≠ 10) := by decide +kernel
/-- a word as one number -/
def encV (l : List Nat) : Nat := l.foldl (fun a c => a * 128 + c) 0
def codeV : List Nat := [8061957143642682084, 7983720397859747443, 522333189878771, 140212753581987191370355, 3806926287588, 7479277417458907122, 3809583346405, 7196694477469808485, 70390909631152571402578028047151822693, 31027610485449264144697616316402, 13137418288, 13137483824, 1681583249456, 1681585346608, 1681589540912, 1681597929520, 215242655930416, 215242924365872, 215243461236784, 215244534978608, 27551059959093296, 27551094318831664, 27551163038308400, 27551300477261872, 3526535674763941936, 3526540072810453040, 3526548868903475248, 3526566461089519664, 451396566369784567856, 451397129319737989168, 451398255219644831792, 451400507019458517040, 6857987000230779797903408, 6857987072288373835831344, 6857989954592135352948784, 6857990026649729390876720, 57778904610520500541488, 57778976668114538469424, 57779048725708576397360, 57779120783302614325296, 57779192840896652253232, 57779264898490690181168, 57779336956084728109104, 57782219259846245226544, 57782291317440283154480, 6857986639942809608263728, 6857986712000403646191664, 6857986784057997684119600, 6857986856115591722047536, 6857986928173185759975472, 6857987000230779797903408, 6857987072288373835831344, 6857989954592135352948784, 6857990026649729390876720]
theorem code_eq : (List.range 54).map (fun q => encV ((wordV q).cps.toList.map lo1)) = codeV := by decide +kernel
theorem code_at (q : _root_.Fin 54) : encV ((wordV q.val).cps.toList.map lo1) = codeV.getD q.val 0 := by
  rw [← code_eq, List.getD_eq_getElem?_getD, List.getElem?_map, List.getElem?_range q.isLt]; rfl
theorem code_inj : ∀ q r : _root_.Fin 54, goodQ q.val = true → goodQ r.val = true → codeV.getD q.val 0 = codeV.getD r.val 0 → q = r := by decide +kernel
theorem word_inj : ∀ q r : _root_.Fin 54, goodQ q.val = true → goodQ r.val = true → (wordV q.val).cps.map lo1 = (wordV r.val).cps.map lo1 → q = r := fun q r hq hr h => by
  refine code_inj q r hq hr ?_
  rw [← code_at, ← code_at]
  have := congrArg Array.toList h
  rw [Array.toList_map, Array.toList_map] at this
  rw [this]
end Mine

namespace Mine
open PySem PySem.Calls PyProof.Rows Builtin.Str StrLaws
/-! ## the table of the ways -/
def ixOf : List Str → Str → Nat
  | [], _ => 0
  | w :: r, x => if w = x then 0 else ixOf r x + 1
theorem ixOf_ok : ∀ {ws : List Str} {x : Str}, x ∈ ws → ws[ixOf ws x]? = some x ∧ ∀ m, m < ixOf ws x → ws[m]? ≠ some x
  | [], x, h => by cases h
  | w :: r, x, h => by
    unfold ixOf
    by_cases e : w = x
    · rw [if_pos e]; subst e
      exact ⟨rfl, fun m hm => absurd hm (Nat.not_lt_zero _)⟩
    · rw [if_neg e]
      have hm : x ∈ r := (List.mem_cons.mp h).resolve_left fun q => e q.symm
      obtain ⟨h1, h2⟩ := ixOf_ok hm
      refine ⟨by simpa using h1, fun m hm' => ?_⟩
      cases m with
      | zero => simpa using e
      | succ m => simpa using h2 m (by omega)
theorem goodQ_of {q : List Nat} (hq : Pls q) {b : Nat} (h : b ∈ q) : b < 54 ∧ goodQ b = true := by
  rcases hq.ok b h with h | h <;> (refine ⟨by omega, ?_⟩; unfold goodQ; simp; omega)
theorem wordV_inj {a b : Nat} (ha : a < 54) (hb : b < 54) (ga : goodQ a = true) (gb : goodQ b = true) (h : wordV a = wordV b) : a = b := by
  have := word_inj ⟨a, ha⟩ ⟨b, hb⟩ ga gb (by dsimp only; rw [h])
  exact congrArg Fin.val this
def rising (q : List Nat) : List Nat := (List.range 54).filter fun b => q.contains b
theorem rising_perm {q : List Nat} (hq : Pls q) : (rising q).Perm q := by
  unfold rising
  rw [List.perm_ext_iff_of_nodup (List.Nodup.sublist List.filter_sublist List.nodup_range) hq.nd]
  intro b
  rw [List.mem_filter, List.mem_range, List.contains_iff_mem]
  exact ⟨fun h => h.2, fun h => ⟨(goodQ_of hq h).1, h⟩⟩
theorem rising_asc (q : List Nat) : ((rising q).map fun i : Nat => (i : Int)).Pairwise (· ≤ ·) := by
  rw [List.pairwise_map]
  refine List.Pairwise.sublist List.filter_sublist ?_
  exact List.pairwise_lt_range.imp fun h => by omega
theorem setOf_at {q : List Nat} (hq : Pls q) {p : List Nat} (hp : ∀ e ∈ p, e < 4) {k : Nat} (hk : k < 4) : setOf q p (q.getD k 0) = p.contains k := by
  unfold setOf
  rw [Bool.eq_iff_iff, List.any_eq_true, List.contains_iff_mem]
  refine ⟨fun ⟨e, he, hb⟩ => ?_, fun h => ⟨k, h, beq_self_eq_true _⟩⟩
  have := pls_inj hq (hp e he) hk (eq_of_beq hb)
  exact this ▸ he
theorem setOf_mem {q : List Nat} (hq : Pls q) {p : List Nat} (hp : ∀ e ∈ p, e < 4) {b : Nat} (h : setOf q p b = true) : b ∈ q := by
  unfold setOf at h
  obtain ⟨e, he, hb⟩ := List.any_eq_true.mp h
  have hl := hq.len
  rw [← eq_of_beq hb, getD_at (by have := hp e he; omega)]
  exact List.getElem_mem _
def onV (ab : List Int) (i k : Nat) : Bool := (pathV ab i).contains k
theorem path4 {ab : List Int} (hab : Par ab) {i : Nat} (hi : i < 5) : ∀ e ∈ pathV ab i, e < 4 := fun e m => by
  have := path_lt hab 4 (Nat.le_refl _) i (by omega) e m; omega
theorem parts_at {q : List Nat} (hq : Pls q) {ab : List Int} (hab : Par ab) {i j k : Nat} (hi : i < 5) (hj : j < 5) (hk : k < 4) : parts q ab i j (q.getD k 0) = (onV ab i k != onV ab j k) := by
  unfold parts onV
  rw [setOf_at hq (path4 hab hi) hk, setOf_at hq (path4 hab hj) hk]
theorem parts_mem {q : List Nat} (hq : Pls q) {ab : List Int} (hab : Par ab) {i j b : Nat} (hi : i < 5) (hj : j < 5) (h : parts q ab i j b = true) : b ∈ q := by
  unfold parts at h
  cases h1 : setOf q (pathV ab i) b with
  | true => exact setOf_mem hq (path4 hab hi) h1
  | false =>
    cases h2 : setOf q (pathV ab j) b with
    | true => exact setOf_mem hq (path4 hab hj) h2
    | false => rw [h1, h2] at h; cases h
theorem ways_mem {T : Nat → Bool} {x : Str} : x ∈ waysV T ↔ ∃ b, b < 54 ∧ T b = true ∧ wordV b = x := by
  unfold waysV
  rw [List.mem_map]
  exact ⟨fun ⟨b, hb, e⟩ => ⟨b, List.mem_range.mp (List.mem_filter.mp hb).1, (List.mem_filter.mp hb).2, e⟩, fun ⟨b, h1, h2, e⟩ => ⟨b, List.mem_filter.mpr ⟨List.mem_range.mpr h1, h2⟩, e⟩⟩
theorem ways_few (T : Nat → Bool) : (waysV T).length ≤ 54 := by
  unfold waysV
  rw [List.length_map]
  exact Nat.le_trans (List.length_filter_le _ _) (by rw [List.length_range]; omega)
theorem ways_free (T : Nat → Bool) : ∀ w ∈ waysV T, 44 ∉ w.cps.toList ∧ w.length ≤ 20 ∧ PyData.strOk w = true := fun w m => by
  obtain ⟨b, hb, _, rfl⟩ := ways_mem.mp m
  obtain ⟨h1, h2, h3⟩ := word_facts ⟨b, hb⟩
  dsimp only at h1 h2 h3
  refine ⟨fun h => (h3 44 h).2.1 rfl, h1, ?_⟩
  unfold PyData.strOk
  rw [← Array.all_toList, List.all_eq_true]
  intro c hc
  have := (h3 c hc).1
  simp; omega
theorem fold_len : ∀ (ws : List Str) (a : Nat), (∀ w ∈ ws, w.length ≤ 20) → ws.foldl (fun x y => x + y.length + sep.length) a ≤ a + 22 * ws.length
  | [], a, _ => by simp
  | w :: r, a, h => by
    have h1 := h w List.mem_cons_self
    have h2 := fold_len r (a + w.length + sep.length) fun v m => h v (List.mem_cons_of_mem _ m)
    rw [List.foldl_cons, List.length_cons]
    rw [sep_len] at h2 ⊢
    omega
theorem sum_len : ∀ (ws : List Str), (∀ w ∈ ws, w.length ≤ 20) → (ws.map (·.length)).sum ≤ 20 * ws.length
  | [], _ => by simp
  | w :: r, h => by
    have h1 := h w List.mem_cons_self
    have h2 := sum_len r fun v m => h v (List.mem_cons_of_mem _ m)
    rw [List.map_cons, List.sum_cons, List.length_cons]; omega
theorem way_ok {q : List Nat} (hq : Pls q) {ab : List Int} (hab : Par ab) {i j : Nat} (hij : i < j) (hj : j < 5) :
    WayOk (Builtin.bitXor ((numbersV (q.map fun i : Nat => (i : Int)) ab 4).getD i 0) ((numbersV (q.map fun i : Nat => (i : Int)) ab 4).getD j 0)) (waysV (parts q ab i j)) := by
  obtain ⟨h1, h2⟩ := pair_ok hq hab hij hj
  have hfree := ways_free (parts q ab i j)
  have hfew := ways_few (parts q ab i j)
  have hne : waysV (parts q ab i j) ≠ [] := by
    have hej : j - 1 ∈ pathV ab j := by
      have := head_path (ab := ab) 4 (Nat.le_refl _) (j - 1) (by omega)
      rwa [show j - 1 + 1 = j by omega] at this
    have hei : j - 1 ∉ pathV ab i := fun m => by have := path_lt hab 4 (Nat.le_refl _) i (by omega) _ m; omega
    have hT : parts q ab i j (q.getD (j - 1) 0) = true := by
      rw [parts_at hq hab (by omega) hj (by omega)]
      unfold onV
      have c1 : (pathV ab j).contains (j - 1) = true := List.contains_iff_mem.mpr hej
      have c2 : (pathV ab i).contains (j - 1) = false := by rw [Bool.eq_false_iff]; exact fun h => hei (List.contains_iff_mem.mp h)
      rw [c1, c2]; rfl
    have hb := (goodQ_of hq (parts_mem hq hab (by omega) hj hT)).1
    intro e
    have : wordV (q.getD (j - 1) 0) ∈ waysV (parts q ab i j) := ways_mem.mpr ⟨_, hb, hT, rfl⟩
    rw [e] at this; cases this
  refine ⟨h2, ?_, ?_, ?_, ?_, by omega, fun x m => (hfree x m).2.2⟩ <;> rw [h1]
  · unfold JoinOk
    have hb := fold_len (waysV (parts q ab i j)) 0 fun w m => (hfree w m).2.1
    have e : (waysV (parts q ab i j)).toArray.foldl (fun x y => x + y.length + sep.length) 0 = (waysV (parts q ab i j)).foldl (fun x y => x + y.length + sep.length) 0 := by simp
    rw [e, Bool.not_eq_true']
    unfold Builtin.Str.tooLong
    rw [decide_eq_false]
    rw [sizeLine_eq]; omega
  · have hb := StrLaws.join_length_le sep (waysV (parts q ab i j))
    have hs := sum_len (waysV (parts q ab i j)) fun w m => (hfree w m).2.1
    rw [txt_join]
    rw [sep_len] at hb
    omega
  · exact split_len hne (fun w m => (hfree w m).1) (by omega)
  · exact split_words hne fun w m => (hfree w m).1
theorem rise_ok {q : List Nat} (hq : Pls q) {ab : List Int} (hab : Par ab) {i j : Nat} (hi : i < 5) (hj : j < 5) :
    ((rising q).map wordV).filter (fun x => (waysV (parts q ab i j)).contains x) = waysV (parts q ab i j) := by
  rw [List.filter_map]
  unfold rising
  rw [List.filter_filter]
  conv => rhs; unfold waysV
  congr 1
  refine List.filter_congr fun b m => ?_
  have hb := List.mem_range.mp m
  rw [Bool.eq_iff_iff, Bool.and_eq_true]
  constructor
  · rintro ⟨h1, h2⟩
    have h1 := List.contains_iff_mem.mp h1
    have h2 := List.contains_iff_mem.mp h2
    obtain ⟨c, hc, hT, e⟩ := ways_mem.mp h1
    have hcq := goodQ_of hq (parts_mem hq hab hi hj hT)
    have hbq := goodQ_of hq h2
    have := wordV_inj hcq.1 hbq.1 hcq.2 hbq.2 e
    exact this ▸ hT
  · intro hT
    exact ⟨List.contains_iff_mem.mpr (ways_mem.mpr ⟨b, hb, hT, rfl⟩), List.contains_iff_mem.mpr (parts_mem hq hab hi hj hT)⟩
theorem perm_sum {a b : List Int} (h : a.Perm b) : a.sum = b.sum := by
  induction h with
  | nil => rfl
  | cons x _ ih => rw [List.sum_cons, List.sum_cons, ih]
  | swap x y l => simp only [List.sum_cons]; omega
  | trans _ _ h1 h2 => exact h1.trans h2
/-- the price of a way -/
theorem up_ok {q : List Nat} (hq : Pls q) {ab : List Int} (hab : Par ab) (ps : List Int) {i j : Nat} (hi : i < 5) (hj : j < 5) :
    upV (q.map wordV) (ixOf (q.map wordV)) ps (waysV (parts q ab i j)) = lowV (onV ab) ps i j := by
  have hl := hq.len
  unfold upV lowV waysV
  rw [List.map_map]
  have hperm : ((List.range 54).filter (parts q ab i j)).Perm (((List.range 4).filter fun k => onV ab i k != onV ab j k).map fun k => q.getD k 0) := by
    rw [List.perm_ext_iff_of_nodup (List.Nodup.sublist List.filter_sublist List.nodup_range)]
    · intro b
      rw [List.mem_filter, List.mem_range, List.mem_map]
      constructor
      · rintro ⟨hb, hT⟩
        obtain ⟨k, hk, hkb⟩ := List.getElem_of_mem (parts_mem hq hab hi hj hT)
        have hg : q.getD k 0 = b := by rw [getD_at hk, hkb]
        refine ⟨k, List.mem_filter.mpr ⟨List.mem_range.mpr (by omega), ?_⟩, hg⟩
        rw [← parts_at hq hab hi hj (by omega), hg]; exact hT
      · rintro ⟨k, hk, rfl⟩
        have hk4 := List.mem_range.mp (List.mem_filter.mp hk).1
        have hT : parts q ab i j (q.getD k 0) = true := by rw [parts_at hq hab hi hj hk4]; exact (List.mem_filter.mp hk).2
        exact ⟨(goodQ_of hq (parts_mem hq hab hi hj hT)).1, hT⟩
    · rw [List.Nodup, List.pairwise_map]
      refine List.Pairwise.imp_of_mem (fun {a b} ha hb hab' e => hab' ?_) (List.Nodup.sublist List.filter_sublist List.nodup_range)
      exact pls_inj hq (List.mem_range.mp (List.mem_filter.mp ha).1) (List.mem_range.mp (List.mem_filter.mp hb).1) e
  rw [perm_sum (hperm.map _), List.map_map]
  congr 1
  refine List.map_congr_left fun k m => ?_
  have hk := List.mem_range.mp (List.mem_filter.mp m).1
  show ps.getD (ixOf (q.map wordV) (wordV (q.getD k 0))) 0 = ps.getD k 0
  congr 1
  have hm : q.getD k 0 ∈ q := by rw [getD_at (by omega)]; exact List.getElem_mem _
  have hmw : wordV (q.getD k 0) ∈ q.map wordV := List.mem_map.mpr ⟨_, hm, rfl⟩
  obtain ⟨h1, h2⟩ := ixOf_ok hmw
  generalize ixOf (q.map wordV) (wordV (q.getD k 0)) = x at h1 h2
  rw [List.getElem?_map] at h1
  obtain ⟨y, hy, he⟩ := Option.map_eq_some_iff.mp h1
  have hym := List.mem_of_getElem? hy
  have := wordV_inj (goodQ_of hq hym).1 (goodQ_of hq hm).1 (goodQ_of hq hym).2 (goodQ_of hq hm).2 he
  have hx : x < q.length := (List.getElem?_eq_some_iff.mp hy).1
  refine pls_inj hq (by omega) hk ?_
  rw [← this, List.getD_eq_getElem?_getD, hy]; rfl
end Mine

namespace Mine
open PySem PySem.Calls PyProof.Rows Builtin.Str StrLaws
/-! ## labels behind dots -/
def Dt (lab : Nat → List Nat) : List Nat → List Nat
  | [] => []
  | a :: r => 46 :: (lab a ++ Dt lab r)
theorem Dt_append (lab : Nat → List Nat) : ∀ A B, Dt lab (A ++ B) = Dt lab A ++ Dt lab B
  | [], B => rfl
  | a :: r, B => by
    show 46 :: (lab a ++ Dt lab (r ++ B)) = 46 :: (lab a ++ Dt lab r) ++ Dt lab B
    rw [Dt_append]; simp
structure Labs (lab : Nat → List Nat) : Prop where
  free : ∀ a, a < 6 → 46 ∉ lab a
  inj : ∀ a b, a < 6 → b < 6 → lab a = lab b → a = b
theorem cut_eq : ∀ (x y s t : List Nat), 46 ∉ x → 46 ∉ y → (s = [] ∨ ∃ r, s = 46 :: r) → (t = [] ∨ ∃ r, t = 46 :: r) → x ++ s = y ++ t → x = y ∧ s = t
  | [], [], _, _, _, _, _, _, h => ⟨rfl, h⟩
  | [], b :: y, s, t, _, hy, hs, _, h => by
    exfalso
    rcases hs with rfl | ⟨r, rfl⟩
    · cases h
    · simp only [List.nil_append, List.cons_append, List.cons.injEq] at h
      exact hy (h.1 ▸ List.mem_cons_self)
  | a :: x, [], s, t, hx, _, _, ht, h => by
    exfalso
    rcases ht with rfl | ⟨r, rfl⟩
    · cases h
    · simp only [List.nil_append, List.cons_append, List.cons.injEq] at h
      exact hx (h.1 ▸ List.mem_cons_self)
  | a :: x, b :: y, s, t, hx, hy, hs, ht, h => by
    simp only [List.cons_append, List.cons.injEq] at h
    obtain ⟨h1, h2⟩ := cut_eq x y s t (fun m => hx (List.mem_cons_of_mem _ m)) (fun m => hy (List.mem_cons_of_mem _ m)) hs ht h.2
    exact ⟨by rw [h.1, h1], h2⟩
theorem Dt_form (lab : Nat → List Nat) : ∀ A, Dt lab A = [] ∨ ∃ r, Dt lab A = 46 :: r
  | [] => .inl rfl
  | a :: r => .inr ⟨_, rfl⟩
theorem Dt_inj {lab : Nat → List Nat} (L : Labs lab) : ∀ A B, (∀ a ∈ A, a < 6) → (∀ a ∈ B, a < 6) → Dt lab A = Dt lab B → A = B
  | [], [], _, _, _ => rfl
  | [], _ :: _, _, _, h => by cases h
  | _ :: _, [], _, _, h => by cases h
  | a :: A, b :: B, ha, hb, h => by
    have h : lab a ++ Dt lab A = lab b ++ Dt lab B := by
      simp only [Dt, List.cons.injEq] at h; exact h.2
    obtain ⟨h1, h2⟩ := cut_eq _ _ _ _ (L.free a (ha a List.mem_cons_self)) (L.free b (hb b List.mem_cons_self)) (Dt_form lab A) (Dt_form lab B) h
    rw [L.inj a b (ha a List.mem_cons_self) (hb b List.mem_cons_self) h1, Dt_inj L A B (fun c m => ha c (List.mem_cons_of_mem _ m)) (fun c m => hb c (List.mem_cons_of_mem _ m)) h2]
theorem Dt_suffix {lab : Nat → List Nat} (L : Labs lab) : ∀ (B A x : List Nat), A ≠ [] → (∀ a ∈ A, a < 6) → (∀ a ∈ B, a < 6) → 46 ∉ x → Dt lab A <:+ x ++ Dt lab B → A <:+ B
  | [], A, x, hne, hA, _, hx, h => by
    exfalso
    match A, hne with
    | a :: A, _ =>
      simp only [Dt, List.append_nil] at h
      exact hx (h.subset List.mem_cons_self)
  | b :: B, A, x, hne, hA, hB, hx, h => by
    obtain ⟨t, ht⟩ := h
    match A, hne with
    | a :: A, hne =>
      have e : t ++ 46 :: (lab a ++ Dt lab A) = x ++ 46 :: (lab b ++ Dt lab B) := ht
      rcases List.append_eq_append_iff.mp e with ⟨u, hu1, hu2⟩ | ⟨u, hu1, hu2⟩
      · -- x = t ++ u, 46 :: .. = u ++ 46 :: ..
        match u, hu1, hu2 with
        | [], hu1, hu2 =>
          have : Dt lab (a :: A) = Dt lab (b :: B) := hu2
          rw [Dt_inj L _ _ hA hB this]
          exact List.suffix_refl _
        | c :: u, hu1, hu2 =>
          exfalso
          simp only [List.cons_append, List.cons.injEq] at hu2
          exact hx (by rw [hu1, ← hu2.1]; simp)
      · match u, hu1, hu2 with
        | [], hu1, hu2 =>
          have : Dt lab (b :: B) = Dt lab (a :: A) := hu2
          rw [Dt_inj L _ _ hB hA this]
          exact List.suffix_refl _
        | c :: u, hu1, hu2 =>
          simp only [List.cons_append, List.cons.injEq] at hu2
          have hs : Dt lab (a :: A) <:+ lab b ++ Dt lab B := ⟨u, hu2.2.symm⟩
          have := Dt_suffix L B (a :: A) (lab b) hne hA (fun c m => hB c (List.mem_cons_of_mem _ m)) (L.free b (hB b List.mem_cons_self)) hs
          exact this.trans (List.suffix_cons _ _)
theorem Dt_suffix_iff {lab : Nat → List Nat} (L : Labs lab) {B A x : List Nat} (hne : A ≠ []) (hA : ∀ a ∈ A, a < 6) (hB : ∀ a ∈ B, a < 6) (hx : 46 ∉ x) : Dt lab A <:+ x ++ Dt lab B ↔ A <:+ B :=
  ⟨Dt_suffix L B A x hne hA hB hx, fun ⟨t, ht⟩ => ⟨x ++ Dt lab t, by rw [← ht, Dt_append, List.append_assoc]⟩⟩
/-! ## the hosts' labels -/
def rlV (b : Bool) : List Nat := if b then [4] else [5, 4]
def labsV (ab : List Int) (b : Bool) (i : Nat) : List Nat := pathV ab i ++ rlV b
def rootV (b : Bool) : Str := if b then Str.ofString "local" else Str.ofString "x.net"
def labT (ws : List Str) (b : Bool) (a : Nat) : Str := if a < 4 then ws.getD a Str.empty else if a = 4 then (if b then Str.ofString "local" else Str.ofString "net") else Str.ofString "x"
def labL (g : Nat → Nat) (ws : List Str) (b : Bool) (a : Nat) : List Nat := (labT ws b a).cps.toList.map g
theorem xnet : (Str.ofString "x.net").cps.toList = (Str.ofString "x").cps.toList ++ 46 :: (Str.ofString "net").cps.toList := by decide +kernel
theorem dot_list : (Str.ofString ".").cps.toList = [46] := by decide +kernel
theorem app_list (a b : Str) : (a ++ b).cps.toList = a.cps.toList ++ b.cps.toList := by
  show (a.cps ++ b.cps).toList = _
  rw [Array.toList_append]
theorem hosts_lab {g : Nat → Nat} (hg : g 46 = 46) (ws : List Str) (b : Bool) {ab : List Int} (hab : Par ab) : ∀ k, k ≤ 4 → ∀ i, i ≤ k →
    46 :: ((hostsV (rootV b) ws ab k).getD i Str.empty).cps.toList.map g = Dt (labL g ws b) ((pathsV ab k).getD i [] ++ rlV b)
  | 0, _, i, hi => by
    have : i = 0 := by omega
    subst this
    cases b
    · show 46 :: (Str.ofString "x.net").cps.toList.map g = 46 :: ((Str.ofString "x").cps.toList.map g ++ 46 :: ((Str.ofString "net").cps.toList.map g ++ []))
      rw [xnet, List.map_append, List.map_cons, hg, List.append_nil]
    · show 46 :: (Str.ofString "local").cps.toList.map g = 46 :: ((Str.ofString "local").cps.toList.map g ++ [])
      rw [List.append_nil]
  | k + 1, hk, i, hi => by
    have hl := pathsV_len ab k
    have hl2 := hostsV_len (rootV b) ws ab k
    rw [pathsV, hostsV]
    by_cases h : i ≤ k
    · rw [getD_left (by omega), getD_left (by omega)]
      exact hosts_lab hg ws b hab k (by omega) i h
    · have e1 : i = (pathsV ab k).length := by omega
      have e2 : i = (hostsV (rootV b) ws ab k).length := by omega
      rw [show (hostsV (rootV b) ws ab k ++ [(ws.getD k Str.empty ++ Str.ofString ".") ++ (hostsV (rootV b) ws ab k).getD (ab.getD k 0).toNat Str.empty]).getD i Str.empty = _ from e2 ▸ getD_end, show (pathsV ab k ++ [k :: (pathsV ab k).getD (ab.getD k 0).toNat []]).getD i [] = _ from e1 ▸ getD_end]
      have hp := hab k (by omega)
      have ih := hosts_lab hg ws b hab k (by omega) (ab.getD k 0).toNat (by omega)
      rw [List.cons_append, Dt, ← ih, app_list, app_list, dot_list]
      have : labL g ws b k = (ws.getD k Str.empty).cps.toList.map g := by
        unfold labL labT; rw [if_pos (by omega)]
      rw [this]
      simp [hg]
end Mine

namespace Mine
open PySem PySem.Calls PyProof.Rows Builtin.Str StrLaws
/-! ## texts as lists of signs -/
theorem len_list (x : Str) : x.cps.toList.length = x.length := by simp [Str.length]
theorem ends_iff (x y : Str) : Txt.endswith x y = true ↔ y.cps.toList <:+ x.cps.toList := by
  unfold Txt.endswith
  rw [subAt_eq, Bool.and_eq_true, decide_eq_true_eq, beq_iff_eq, List.suffix_iff_eq_drop, len_list, len_list]
  constructor
  · rintro ⟨h1, h2⟩
    rw [← h2, List.take_of_length_le]
    rw [List.length_drop, len_list]; omega
  · intro h
    have hl := congrArg List.length h
    rw [List.length_drop, len_list, len_list] at hl
    refine ⟨by omega, ?_⟩
    rw [h, List.take_of_length_le]
    · rw [List.length_drop, len_list]; omega
theorem starts_dot {x : Str} {r : List Nat} (h : x.cps.toList = 46 :: r) : Txt.startswith x dot = true := by
  unfold Txt.startswith
  have hl := congrArg List.length h
  rw [len_list] at hl
  have hd : dot.cps.toList = [46] := dot_list
  have hdl : dot.length = 1 := by rw [← len_list, hd]; rfl
  rw [subAt_eq, hdl, h, hd, Bool.and_eq_true, decide_eq_true_eq]
  refine ⟨?_, rfl⟩
  simp at hl; omega
theorem at_dot {x : Str} {i : Nat} : StrLaws.At x dot x.length i ↔ ∃ r, x.cps.toList.drop i = 46 :: r := by
  have hd : dot.cps.toList = [46] := dot_list
  have hdl : dot.length = 1 := by rw [← len_list, hd]; rfl
  unfold StrLaws.At
  rw [subAt_eq, hdl, hd, beq_iff_eq]
  constructor
  · rintro ⟨_, h⟩
    cases hq : x.cps.toList.drop i with
    | nil => rw [hq] at h; cases h
    | cons a l => rw [hq] at h; simp at h; exact ⟨l, by rw [h]⟩
  · rintro ⟨r, h⟩
    rw [h]
    refine ⟨?_, rfl⟩
    have := congrArg List.length h
    rw [List.length_drop, len_list] at this
    simp at this
    omega
theorem find_dot {x : Str} {w t : List Nat} (h : x.cps.toList = w ++ 46 :: t) (hw : 46 ∉ w) : Txt.find x dot = (w.length : Int) := by
  have hA : StrLaws.At x dot x.length w.length := at_dot.mpr ⟨t, by rw [h]; simp⟩
  rcases find_whole x dot with ⟨_, hn⟩ | ⟨i, e, hi, hn⟩
  · exact absurd hA (hn _)
  · rw [e]
    rcases Nat.lt_trichotomy i w.length with hlt | heq | hgt
    · exfalso
      obtain ⟨r, hr⟩ := at_dot.mp hi
      rw [h, List.drop_append_of_le_length (by omega)] at hr
      cases hq : w.drop i with
      | nil => have := congrArg List.length hq; simp at this; omega
      | cons a l =>
        rw [hq] at hr
        simp at hr
        have : a ∈ w := List.mem_of_mem_drop (hq ▸ List.mem_cons_self : a ∈ w.drop i)
        exact hw (hr.1 ▸ this)
    · rw [heq]
    · exact absurd hA (hn _ hgt)
theorem find_none {x : Str} (h : 46 ∉ x.cps.toList) : Txt.find x dot = -1 := by
  rcases find_whole x dot with ⟨e, _⟩ | ⟨i, e, hi, _⟩
  · exact e
  · exfalso
    obtain ⟨r, hr⟩ := at_dot.mp hi
    exact h (List.mem_of_mem_drop (hr ▸ List.mem_cons_self : 46 ∈ x.cps.toList.drop i))
theorem slice_after {x y : Str} {w : List Nat} (h : x.cps.toList = w ++ y.cps.toList) {i : Int} (hi : i = (w.length : Int)) : Txt.slice x (some i) none = y := by
  have hl := congrArg List.length h
  rw [len_list, List.length_append, len_list] at hl
  subst hi
  rw [slice_from_eq (b := (x.length : Int)) (by omega) (by omega) rfl]
  apply str_ext
  rw [h]
  simp only [Int.toNat_natCast, List.drop_left]
  rw [List.take_of_length_le]
  rw [len_list]; omega
theorem slice_one {x : Str} {c : Nat} {r : List Nat} (h : x.cps.toList = c :: r) : Txt.slice x none (some 1) = ⟨#[c]⟩ := by
  have hl := congrArg List.length h
  rw [eq_of_beq (slice_closes_to (j := 1) ⟨by decide, by rw [hl]; simp; omega⟩), h]
  rfl
theorem char_first {x : Str} {c : Nat} {r : List Nat} (h : x.cps.toList = c :: r) : Txt.charAt x 0 = some c := by
  have hl := congrArg List.length h
  rw [len_list, List.length_cons] at hl
  unfold Txt.charAt
  rw [seqIndex_of (by decide) (by omega)]
  have : x.cps[0]? = x.cps.toList[0]? := by simp
  show x.cps[0]? = some c
  rw [this, h]; rfl
theorem char_last {x : Str} {c : Nat} {r : List Nat} (h : x.cps.toList = r ++ [c]) : Txt.charAt x (-1) = some c := by
  have hl := congrArg List.length h
  rw [len_list, List.length_append] at hl
  have hl : x.length = r.length + 1 := hl
  unfold Txt.charAt
  refine StrLaws.at_neg (by decide) (by omega) ?_
  have e : (-1 + (x.length : Int)).toNat = r.length := by omega
  rw [e]
  have : x.cps[r.length]? = x.cps.toList[r.length]? := by simp
  rw [this, h]; simp
theorem tail_of {x : Str} {c : Nat} {r : List Nat} (h : x.cps.toList = r ++ [c]) (hc : Sre.isDigit c = false ∧ c ≠ 10) : Tail x.cps := by
  have hl := congrArg List.length h
  have hs : x.cps.size = r.length + 1 := by simpa using hl
  unfold Tail
  have e : x.cps.getD (x.cps.size - 1) 0 = c := by
    rw [Array.getD_eq_getD_getElem?, hs]
    have : x.cps[r.length + 1 - 1]? = x.cps.toList[r.length]? := by simp
    rw [this, h]; simp
  rw [e]; exact hc
theorem lo_up (c : Nat) : lo1 (up1 c) = lo1 c := by
  unfold lo1 up1
  repeat' split
  all_goals omega
theorem up_ascii {c : Nat} (h : c < 128) : up1 c < 128 := by
  unfold up1; split <;> omega
theorem low_list {x : Str} (hA : ∀ c ∈ x.cps.toList, c < 128) : (Txt.lower x).cps.toList = x.cps.toList.map lo1 := by
  rw [lower_ascii hA]; simp
theorem lowup_list {x : Str} (hA : ∀ c ∈ x.cps.toList, c < 128) : (Txt.lower (Txt.upper x)).cps.toList = x.cps.toList.map lo1 := by
  rw [upper_ascii hA]
  rw [low_list]
  · simp only [Array.toList_map, List.map_map]
    exact List.map_congr_left fun c _ => lo_up c
  · intro c m
    simp only [Array.toList_map, List.mem_map] at m
    obtain ⟨d, hd, rfl⟩ := m
    exact up_ascii (hA d hd)
end Mine

namespace Mine
open PySem PySem.Calls PyProof.Rows Builtin.Str StrLaws
/-! ## the 24 shapes -/
def shapes : List (List Int) := (List.range 2).flatMap fun a : Nat => (List.range 3).flatMap fun b : Nat => (List.range 4).map fun c : Nat => [0, (a : Int), (b : Int), (c : Int)]
theorem abV_mem (ns : List Int) : abV ns ∈ shapes := by
  unfold abV shapes
  have h1 : 0 ≤ (shV ns / 2 + 1) % 2 ∧ (shV ns / 2 + 1) % 2 < 2 := by omega
  have h2 : 0 ≤ (shV ns / 4 + 1) % 3 ∧ (shV ns / 4 + 1) % 3 < 3 := by omega
  have h3 : 0 ≤ (shV ns / 12 + 2) % 4 ∧ (shV ns / 12 + 2) % 4 < 4 := by omega
  generalize (shV ns / 2 + 1) % 2 = a at *
  generalize (shV ns / 4 + 1) % 3 = b at *
  generalize (shV ns / 12 + 2) % 4 = c at *
  rw [List.mem_flatMap]
  refine ⟨a.toNat, List.mem_range.mpr (by omega), List.mem_flatMap.mpr ⟨b.toNat, List.mem_range.mpr (by omega), List.mem_map.mpr ⟨c.toNat, List.mem_range.mpr (by omega), ?_⟩⟩⟩
  rw [Int.toNat_of_nonneg h1.1, Int.toNat_of_nonneg h2.1, Int.toNat_of_nonneg h3.1]
def labsOk (ab : List Int) (b : Bool) : Bool :=
  ((List.range 5).all fun k => (List.range 4).all fun j => (labsV ab b (j + 1)).isSuffixOf ((labsV ab b (prev k)).tail ++ labsV ab b k) == onV ab k j) &&
  ((List.range 4).all fun k => labsV ab b (k + 1) == k :: labsV ab b (ab.getD k 0).toNat && (List.range (ab.getD k 0).toNat).all fun m => labsV ab b m != labsV ab b (ab.getD k 0).toNat) &&
  ((List.range 5).all fun i => (labsV ab b i).all (· < 6) && (labsV ab b i) != []) &&
  labsV ab b 0 == rlV b &&
  ((List.range 5).all fun i => labsV ab b i == [4] && b || decide (1 < (labsV ab b i).length))
theorem shapes_ok : (shapes.all fun ab => labsOk ab true && labsOk ab false) = true := by decide +kernel
structure LabsOk (ab : List Int) (b : Bool) : Prop where
  suf : ∀ k, k < 5 → ∀ j, j < 4 → ((labsV ab b (j + 1)) <:+ ((labsV ab b (prev k)).tail ++ labsV ab b k) ↔ onV ab k j = true)
  up : ∀ k, k < 4 → labsV ab b (k + 1) = k :: labsV ab b (ab.getD k 0).toNat
  first : ∀ k, k < 4 → ∀ m, m < (ab.getD k 0).toNat → labsV ab b m ≠ labsV ab b (ab.getD k 0).toNat
  few : ∀ i, i < 5 → ∀ a ∈ labsV ab b i, a < 6
  ne : ∀ i, i < 5 → labsV ab b i ≠ []
  root : labsV ab b 0 = rlV b
  dots : ∀ i, i < 5 → (labsV ab b i = [4] ∧ b = true) ∨ 1 < (labsV ab b i).length
theorem labs_ok {ab : List Int} (hab : ab ∈ shapes) (b : Bool) : LabsOk ab b := by
  have h0 := List.all_eq_true.mp shapes_ok ab hab
  have h1 : labsOk ab b = true := by
    rw [Bool.and_eq_true] at h0
    cases b
    · exact h0.2
    · exact h0.1
  unfold labsOk at h1
  simp only [Bool.and_eq_true, List.all_eq_true, List.mem_range, beq_iff_eq, bne_iff_ne, decide_eq_true_eq, Bool.or_eq_true] at h1
  obtain ⟨⟨⟨⟨a1, a2⟩, a3⟩, a4⟩, a5⟩ := h1
  refine ⟨fun k hk j hj => ?_, fun k hk => (a2 k hk).1, fun k hk => (a2 k hk).2, fun i hi => (a3 i hi).1, fun i hi => (a3 i hi).2, a4, a5⟩
  rw [← a1 k hk j hj, List.isSuffixOf_iff_suffix]
/-! ## the words of a law -/
theorem root_apart : ∀ q : _root_.Fin 54, (wordV q.val).cps.toList.map lo1 ≠ (Str.ofString "local").cps.toList.map lo1 ∧ (wordV q.val).cps.toList.map lo1 ≠ (Str.ofString "net").cps.toList.map lo1 ∧ (wordV q.val).cps.toList.map lo1 ≠ (Str.ofString "x").cps.toList.map lo1 := by decide +kernel
theorem lo46 {c : Nat} (h : lo1 c = 46) : c = 46 := by
  unfold lo1 at h; split at h <;> omega
theorem ws_at {q : List Nat} (hq : Pls q) {k : Nat} (hk : k < 4) : (q.map wordV).getD k Str.empty = wordV (q.getD k 0) := by
  have hl := hq.len
  rw [getD_at (by rw [List.length_map]; omega), getD_at (by omega), List.getElem_map]
theorem pls_lt {q : List Nat} (hq : Pls q) {k : Nat} (hk : k < 4) : q.getD k 0 < 54 ∧ goodQ (q.getD k 0) = true := by
  have hl := hq.len
  exact goodQ_of hq (by rw [getD_at (by omega)]; exact List.getElem_mem _)
theorem labs_low {q : List Nat} (hq : Pls q) (b : Bool) : Labs (labL lo1 (q.map wordV) b) where
  free := fun a ha hm => by
    unfold labL labT at hm
    by_cases h4 : a < 4
    · rw [if_pos h4, ws_at hq h4] at hm
      obtain ⟨c, hc, e⟩ := List.mem_map.mp hm
      have := (word_facts ⟨_, (pls_lt hq h4).1⟩).2.2 c hc
      exact this.2.2.1 (lo46 e)
    · rw [if_neg h4] at hm
      have : a = 4 ∨ a = 5 := by omega
      rcases this with rfl | rfl
      · rw [if_pos rfl] at hm
        cases b
        · rw [if_neg (by decide)] at hm
          exact absurd hm (by decide +kernel)
        · rw [if_pos rfl] at hm
          exact absurd hm (by decide +kernel)
      · rw [if_neg (by decide)] at hm
        exact absurd hm (by decide +kernel)
  inj := by
    have key : ∀ a, a < 4 → labL lo1 (q.map wordV) b a = (wordV (q.getD a 0)).cps.toList.map lo1 := fun a ha => by
      unfold labL labT; rw [if_pos ha, ws_at hq ha]
    have k4 : labL lo1 (q.map wordV) b 4 = (if b then Str.ofString "local" else Str.ofString "net").cps.toList.map lo1 := rfl
    have k5 : labL lo1 (q.map wordV) b 5 = (Str.ofString "x").cps.toList.map lo1 := rfl
    have w4 : ∀ a, a < 4 → labL lo1 (q.map wordV) b a ≠ labL lo1 (q.map wordV) b 4 := fun a ha e => by
      rw [key a ha, k4] at e
      have := root_apart ⟨_, (pls_lt hq ha).1⟩
      cases b
      · rw [if_neg (by decide)] at e; exact this.2.1 e
      · rw [if_pos rfl] at e; exact this.1 e
    have w5 : ∀ a, a < 4 → labL lo1 (q.map wordV) b a ≠ labL lo1 (q.map wordV) b 5 := fun a ha e => by
      rw [key a ha, k5] at e
      exact (root_apart ⟨_, (pls_lt hq ha).1⟩).2.2 e
    have w45 : labL lo1 (q.map wordV) b 4 ≠ labL lo1 (q.map wordV) b 5 := fun e => by
      rw [k4, k5] at e
      cases b
      · rw [if_neg (by decide)] at e; exact absurd e (by decide +kernel)
      · rw [if_pos rfl] at e; exact absurd e (by decide +kernel)
    intro a c ha hc e
    have ca : a < 4 ∨ a = 4 ∨ a = 5 := by omega
    have cc : c < 4 ∨ c = 4 ∨ c = 5 := by omega
    rcases ca with ca | rfl | rfl <;> rcases cc with cc | rfl | rfl
    · rw [key a ca, key c cc] at e
      refine pls_inj hq ca cc ?_
      have h1 := pls_lt hq ca
      have h2 := pls_lt hq cc
      have := word_inj ⟨_, h1.1⟩ ⟨_, h2.1⟩ h1.2 h2.2 (Array.toList_inj.mp (by simpa using e))
      exact congrArg Fin.val this
    · exact absurd e (w4 a ca)
    · exact absurd e (w5 a ca)
    · exact absurd e.symm (w4 c cc)
    · rfl
    · exact absurd e w45
    · exact absurd e.symm (w5 c cc)
    · exact absurd e.symm w45
    · rfl
theorem labL_lo (ws : List Str) (b : Bool) (a : Nat) : labL lo1 ws b a = (labL _root_.id ws b a).map lo1 := by
  unfold labL; rw [List.map_id]
theorem labs_id {q : List Nat} (hq : Pls q) (b : Bool) : Labs (labL _root_.id (q.map wordV) b) where
  free := fun a ha hm => (labs_low hq b).free a ha (by
    rw [labL_lo]
    exact List.mem_map.mpr ⟨46, hm, rfl⟩)
  inj := fun a c ha hc e => (labs_low hq b).inj a c ha hc (by rw [labL_lo, labL_lo, e])
end Mine

namespace Mine
open PySem PySem.Calls PyProof.Rows Builtin.Str StrLaws
/-! ## the hosts of a law -/
def hsQ (q : List Nat) (b : Bool) (ab : List Int) : List Str := hostsV (rootV b) (q.map wordV) ab 4
theorem hosts_all (p : Nat → Prop) {root : Str} {ws : List Str} {ab : List Int} (hr : ∀ c ∈ root.cps.toList, p c) (hw : ∀ x ∈ ws, ∀ c ∈ x.cps.toList, p c) (hd : p 46) : ∀ k, ∀ x ∈ hostsV root ws ab k, ∀ c ∈ x.cps.toList, p c
  | 0, x, m => by rw [List.mem_singleton.mp m]; exact hr
  | k + 1, x, m => by
    rw [hostsV] at m
    rcases List.mem_append.mp m with m | m
    · exact hosts_all p hr hw hd k x m
    · rw [List.mem_singleton.mp m, app_list, app_list, dot_list]
      intro c hc
      rcases List.mem_append.mp hc with hc | hc
      · rcases List.mem_append.mp hc with hc | hc
        · rw [List.getD_eq_getElem?_getD] at hc
          cases h : ws[k]? with
          | none => rw [h] at hc; cases hc
          | some y => rw [h] at hc; exact hw y (List.mem_of_getElem? h) c hc
        · rw [List.mem_singleton.mp hc]; exact hd
      · rw [List.getD_eq_getElem?_getD] at hc
        cases h : (hostsV root ws ab k)[(ab.getD k 0).toNat]? with
        | none => rw [h] at hc; cases hc
        | some y => rw [h] at hc; exact hosts_all p hr hw hd k y (List.mem_of_getElem? h) c hc
theorem hosts_end {root : Str} {ws : List Str} {ab : List Int} (hab : Par ab) : ∀ k, k ≤ 4 → ∀ x ∈ hostsV root ws ab k, ∃ pre, x.cps.toList = pre ++ root.cps.toList
  | 0, _, x, m => by rw [List.mem_singleton.mp m]; exact ⟨[], rfl⟩
  | k + 1, hk, x, m => by
    rw [hostsV] at m
    rcases List.mem_append.mp m with m | m
    · exact hosts_end hab k (by omega) x m
    · rw [List.mem_singleton.mp m, app_list]
      have hl := hostsV_len root ws ab k
      have hp := hab k (by omega)
      obtain ⟨pre, h⟩ := hosts_end (root := root) (ws := ws) hab k (by omega) ((hostsV root ws ab k).getD (ab.getD k 0).toNat Str.empty) (by rw [getD_at (by omega)]; exact List.getElem_mem _)
      exact ⟨(ws.getD k Str.empty ++ Str.ofString ".").cps.toList ++ pre, by rw [h, List.append_assoc]⟩
section
variable {q : List Nat} (hq : Pls q) (b : Bool) {ab : List Int} (hab : Par ab) (hsh : ab ∈ shapes)
include hq
theorem hs_len : (hsQ q b ab).length = 5 := hostsV_len _ _ _ 4
theorem hs_ascii : ∀ x ∈ hsQ q b ab, ∀ c ∈ x.cps.toList, c < 128 ∧ c ≠ 10 := by
  refine hosts_all (fun c => c < 128 ∧ c ≠ 10) ?_ ?_ (by decide) 4
  · cases b
    · exact (by decide +kernel : ∀ c ∈ (Str.ofString "x.net").cps.toList, c < 128 ∧ c ≠ 10)
    · exact (by decide +kernel : ∀ c ∈ (Str.ofString "local").cps.toList, c < 128 ∧ c ≠ 10)
  · intro x m c hc
    obtain ⟨y, hy, rfl⟩ := List.mem_map.mp m
    have := (word_facts ⟨y, (goodQ_of hq hy).1⟩).2.2 c hc
    exact ⟨this.1, this.2.2.2⟩
theorem hs_short : ∀ x ∈ hsQ q b ab, x.length ≤ 150 := by
  refine hostsV_short ?_ ?_ 4
  · cases b
    · exact (by decide +kernel : (Str.ofString "x.net").length ≤ 30)
    · exact (by decide +kernel : (Str.ofString "local").length ≤ 30)
  · intro x m
    obtain ⟨y, hy, rfl⟩ := List.mem_map.mp m
    exact (word_facts ⟨y, (goodQ_of hq hy).1⟩).1
include hab
theorem hs_last : ∀ x ∈ hsQ q b ab, ∃ pre c, x.cps.toList = pre ++ [c] ∧ c ≠ 46 ∧ (Sre.isDigit c = false ∧ c ≠ 10) ∧ (Sre.isDigit (lo1 c) = false ∧ lo1 c ≠ 10) := by
  intro x m
  obtain ⟨pre, h⟩ := hosts_end hab 4 (Nat.le_refl _) x m
  cases b
  · refine ⟨pre ++ [120, 46, 110, 101], 116, ?_, by decide, by decide +kernel, by decide +kernel⟩
    rw [h, List.append_assoc, show (rootV false).cps.toList = [120, 46, 110, 101] ++ [116] by decide +kernel]
  · refine ⟨pre ++ [108, 111, 99, 97], 108, ?_, by decide, by decide +kernel, by decide +kernel⟩
    rw [h, List.append_assoc, show (rootV true).cps.toList = [108, 111, 99, 97] ++ [108] by decide +kernel]
theorem hs_at {i : Nat} (hi : i < 5) : (hsQ q b ab).getD i Str.empty ∈ hsQ q b ab := by
  have := hs_len hq b (ab := ab)
  rw [getD_at (by omega)]; exact List.getElem_mem _
theorem hs_lab {g : Nat → Nat} (hg : g 46 = 46) {i : Nat} (hi : i < 5) : 46 :: ((hsQ q b ab).getD i Str.empty).cps.toList.map g = Dt (labL g (q.map wordV) b) (labsV ab b i) :=
  hosts_lab hg _ b hab 4 (Nat.le_refl _) i (by omega)
theorem hs_labI {i : Nat} (hi : i < 5) : 46 :: ((hsQ q b ab).getD i Str.empty).cps.toList = Dt (labL _root_.id (q.map wordV) b) (labsV ab b i) := by
  have := hs_lab hq b hab (g := _root_.id) rfl hi
  rwa [List.map_id] at this
include hsh
/-- a host parts at its first dot -/
theorem hs_cut {k : Nat} (hk : k < 4) : ∃ w, 46 ∉ w ∧ ((hsQ q b ab).getD (k + 1) Str.empty).cps.toList = w ++ 46 :: ((hsQ q b ab).getD (ab.getD k 0).toNat Str.empty).cps.toList := by
  have L := labs_ok hsh b
  have hp := hab k (by omega)
  have h1 := hs_labI hq b hab (i := k + 1) (by omega)
  have h2 := hs_labI hq b hab (i := (ab.getD k 0).toNat) (by omega)
  rw [L.up k hk, Dt, ← h2] at h1
  simp only [List.cons.injEq, true_and] at h1
  exact ⟨_, (labs_id hq b).free k (by omega), h1⟩
theorem hs_dots {i : Nat} (hi : i < 5) : ((hsQ q b ab).getD i Str.empty = Str.ofString "local") ∨ 46 ∈ ((hsQ q b ab).getD i Str.empty).cps.toList := by
  have L := labs_ok hsh b
  have h1 := hs_labI hq b hab hi
  rcases L.dots i hi with ⟨h, rfl⟩ | h
  · left
    rw [h] at h1
    simp only [Dt, List.cons.injEq, true_and, List.append_nil] at h1
    exact str_ext h1
  · right
    match hl : labsV ab b i, h with
    | a :: c :: r, _ =>
      rw [hl] at h1
      simp only [Dt, List.cons.injEq, true_and] at h1
      rw [h1]; simp
theorem reach_up {k : Nat} (hk : k < 4) : reachV ((hsQ q b ab).getD (k + 1) Str.empty) = dot ++ (hsQ q b ab).getD (ab.getD k 0).toNat Str.empty := by
  obtain ⟨w, hw, h⟩ := hs_cut hq b hab hsh hk
  have hp := hab k (by omega)
  have hd := hs_dots hq b hab hsh (i := (ab.getD k 0).toNat) (by omega)
  generalize (hsQ q b ab).getD (k + 1) Str.empty = x at *
  generalize (hsQ q b ab).getD (ab.getD k 0).toNat Str.empty = y at *
  have hf := find_dot h hw
  have hs : Txt.slice x (some (Txt.find x dot + 1)) none = y := slice_after (w := w ++ [46]) (by rw [h]; simp) (by rw [hf]; simp)
  unfold reachV
  rw [if_pos (by rw [hf]; omega), hs, if_pos]
  rw [Bool.or_eq_true, decide_eq_true_eq, beq_iff_eq]
  rcases hd with h1 | h1
  · exact .inr h1
  · left
    obtain ⟨u, v, huv, hu⟩ := List.eq_append_cons_of_mem h1
    rw [find_dot huv hu]; omega
end
end Mine

namespace Mine
open PySem PySem.Calls PyProof.Rows Builtin.Str StrLaws
def ixV (ab : List Int) : List Nat := (List.range 4).map fun k => (ab.getD k 0).toNat
theorem ix_at (ab : List Int) {k : Nat} (hk : k < 4) : (ixV ab).getD k 0 = (ab.getD k 0).toNat := by
  unfold ixV
  rw [getD_at (by simpa using hk)]; simp
theorem slice_dot (y : Str) : Txt.slice (dot ++ y) (some 1) none = y := by
  have hdot : dot.cps.toList = [46] := dot_list
  exact slice_after (w := [46]) (by rw [app_list, hdot]) rfl
section
variable {q : List Nat} (hq : Pls q) (b : Bool) {ab : List Int} (hab : Par ab) (hsh : ab ∈ shapes)
include hq hab hsh
theorem hs_first {i : Nat} (hi : i < 5) : ∃ c r, ((hsQ q b ab).getD i Str.empty).cps.toList = c :: r ∧ c ≠ 46 := by
  have L := labs_ok hsh b
  have h0 : i = 0 ∨ ∃ k, k < 4 ∧ i = k + 1 := by
    rcases Nat.eq_zero_or_pos i with h | h
    · exact .inl h
    · exact .inr ⟨i - 1, by omega, by omega⟩
  rcases h0 with rfl | ⟨k, hk, rfl⟩
  · have h1 := hs_labI hq b hab (i := 0) (by decide)
    rw [L.root] at h1
    cases b
    · refine ⟨120, [46, 110, 101, 116], ?_, by decide⟩
      have e : Dt (labL _root_.id (q.map wordV) false) (rlV false) = 46 :: [120, 46, 110, 101, 116] := by
        show 46 :: ((Str.ofString "x").cps.toList.map _root_.id ++ 46 :: ((Str.ofString "net").cps.toList.map _root_.id ++ [])) = _
        decide +kernel
      rw [e] at h1
      exact (List.cons.inj h1).2
    · refine ⟨108, [111, 99, 97, 108], ?_, by decide⟩
      have e : Dt (labL _root_.id (q.map wordV) true) (rlV true) = 46 :: [108, 111, 99, 97, 108] := by
        show 46 :: ((Str.ofString "local").cps.toList.map _root_.id ++ []) = _
        decide +kernel
      rw [e] at h1
      exact (List.cons.inj h1).2
  · have h1 := hs_labI hq b hab (i := k + 1) (by omega)
    rw [L.up k hk, Dt] at h1
    have hw : labL _root_.id (q.map wordV) b k = (wordV (q.getD k 0)).cps.toList := by
      unfold labL labT; rw [if_pos hk, ws_at hq hk, List.map_id]
    have hf := (labs_id hq b).free k (by omega)
    have h2 := (word_facts ⟨_, (pls_lt hq hk).1⟩).2.1
    rw [← len_list] at h2
    rw [hw] at h1 hf
    cases hc : (wordV (q.getD k 0)).cps.toList with
    | nil => dsimp only at h2; rw [hc] at h2; cases h2
    | cons c r =>
      rw [hc] at h1 hf
      exact ⟨c, _, (List.cons.inj h1).2, fun e => hf (e ▸ List.mem_cons_self)⟩
theorem hs_hosty : ∀ x ∈ hsQ q b ab, Hosty x := by
  intro x m
  obtain ⟨i, hi, he⟩ := List.getElem_of_mem m
  have hl := hs_len hq b (ab := ab)
  have hg : (hsQ q b ab).getD i Str.empty = x := by rw [getD_at hi, he]
  obtain ⟨c, r, hc, hn⟩ := hs_first hq b hab hsh (i := i) (by omega)
  rw [hg] at hc
  obtain ⟨pre, d, hd, hd46, hdd, _⟩ := hs_last hq b hab x m
  have h1 := char_first hc
  have h2 := char_last hd
  have hs := hs_short hq b x m
  have one : ∀ e : Nat, e ≠ 46 → ((⟨#[e]⟩ : Str) == dot) = false := fun e he => by
    rw [beq_eq_false_iff_ne]
    intro h
    have := congrArg (fun z : Str => z.cps.toList) h
    have hd : dot.cps.toList = [46] := dot_list
    dsimp only at this
    rw [hd] at this
    exact he (by simpa using this)
  refine ⟨tail_of hd hdd, by omega, ?_, by rw [h1]; rfl, ?_, by rw [h2]; rfl, ?_⟩
  · rw [beq_eq_false_iff_ne]
    intro h
    rw [h] at hc
    cases hc
  · unfold Txt.item; rw [h1]; exact one c hn
  · unfold Txt.item; rw [h2]; exact one d hd46
theorem root_stays : reachV ((hsQ q b ab).getD 0 Str.empty) = (hsQ q b ab).getD 0 Str.empty := by
  have L := labs_ok hsh b
  have h1 := hs_labI hq b hab (i := 0) (by decide)
  rw [L.root] at h1
  have e : (hsQ q b ab).getD 0 Str.empty = rootV b := by
    apply str_ext
    have hr : 46 :: (rootV b).cps.toList = Dt (labL _root_.id (q.map wordV) b) (rlV b) := by
      have := hosts_lab (g := _root_.id) rfl (q.map wordV) b hab 0 (by decide) 0 (by decide)
      rw [List.map_id] at this
      exact this
    rw [← hr] at h1
    exact (List.cons.inj h1).2
  rw [e]
  cases b
  · exact (by decide +kernel : reachV (rootV false) = rootV false)
  · exact (by decide +kernel : reachV (rootV true) = rootV true)
theorem tied_ok : TiedOk (hsQ q b ab) (ixV ab) := by
  have L := labs_ok hsh b
  have hl := hs_len hq b (ab := ab)
  have hil : (ixV ab).length = 4 := by unfold ixV; simp
  have hdot : dot.cps.toList = [46] := dot_list
  refine ⟨by omega, by omega, hs_hosty hq b hab hsh, root_stays hq b hab hsh, ?_, ?_, ?_, ?_⟩
  · intro k hk
    rw [reach_up hq b hab hsh (by omega), slice_one (c := 46) (r := ((hsQ q b ab).getD (ab.getD k 0).toNat Str.empty).cps.toList) (by rw [app_list, hdot]; rfl)]
    exact str_ext (by rw [hdot])
  · intro x m
    obtain ⟨i, hi, he⟩ := List.getElem_of_mem m
    have hg : (hsQ q b ab).getD i Str.empty = x := by rw [getD_at hi, he]
    rcases Nat.eq_zero_or_pos i with h | h
    · subst h
      rw [← hg, root_stays hq b hab hsh]
      have := hs_short hq b _ (hs_at hq b hab (i := 0) (by decide))
      omega
    · have h1 := reach_up hq b hab hsh (k := i - 1) (by omega)
      rw [show i - 1 + 1 = i by omega, hg] at h1
      rw [h1, strLen_append]
      have hp := hab (i - 1) (by omega)
      have := hs_short hq b _ (hs_at hq b hab (i := (ab.getD (i - 1) 0).toNat) (by omega))
      have : dot.length = 1 := by rw [← len_list, hdot]; rfl
      omega
  · intro k hk
    have hp := hab k (by omega)
    rw [ix_at ab (by omega), reach_up hq b hab hsh (by omega), slice_dot]
    exact getD_someS (by omega)
  · intro k hk m hm
    have hp := hab k (by omega)
    rw [ix_at ab (by omega)] at hm
    rw [reach_up hq b hab hsh (by omega), slice_dot, getD_someS (by omega)]
    intro e
    have e := Option.some.inj e
    have h1 := hs_labI hq b hab (i := m) (by omega)
    have h2 := hs_labI hq b hab (i := (ab.getD k 0).toNat) (by omega)
    rw [e, h2] at h1
    exact L.first k (by omega) m hm (Dt_inj (labs_id hq b) _ _ (L.few _ (by omega)) (L.few _ (by omega)) h1).symm
theorem text_low {k : Nat} (hk : k < 5) : ∃ a, a < 6 ∧ (Txt.lower (Txt.upper (textV (hsQ q b ab) k))).cps.toList = labL lo1 (q.map wordV) b a ++ Dt (labL lo1 (q.map wordV) b) ((labsV ab b (prev k)).tail ++ labsV ab b k) := by
  have L := labs_ok hsh b
  have hpk : prev k < 5 := by unfold prev; split <;> omega
  have hdot : dot.cps.toList = [46] := dot_list
  have hA : ∀ c ∈ (textV (hsQ q b ab) k).cps.toList, c < 128 := by
    unfold textV
    intro c hc
    rw [app_list, app_list, hdot] at hc
    rcases List.mem_append.mp hc with hc | hc
    · rcases List.mem_append.mp hc with hc | hc
      · exact (hs_ascii hq b _ (hs_at hq b hab hpk) c hc).1
      · rw [List.mem_singleton.mp hc]; decide
    · exact (hs_ascii hq b _ (hs_at hq b hab hk) c hc).1
  have h1 := hs_lab hq b hab (g := lo1) (by decide) hpk
  have h2 := hs_lab hq b hab (g := lo1) (by decide) hk
  match hl : labsV ab b (prev k), L.ne _ hpk with
  | a :: r, _ =>
    refine ⟨a, L.few _ hpk a (by rw [hl]; exact List.mem_cons_self), ?_⟩
    rw [hl, Dt] at h1
    have h1 := (List.cons.inj h1).2
    rw [lowup_list hA, List.tail_cons, Dt_append, ← h2]
    unfold textV
    rw [app_list, app_list, hdot, List.map_append, List.map_append, h1]
    simp [show lo1 46 = 46 by decide]
theorem host_low {j : Nat} (hj : j < 5) : (Txt.lower (dot ++ (hsQ q b ab).getD j Str.empty)).cps.toList = Dt (labL lo1 (q.map wordV) b) (labsV ab b j) := by
  have hdot : dot.cps.toList = [46] := dot_list
  rw [← hs_lab hq b hab (g := lo1) (by decide) hj, low_list, app_list, hdot]
  · rfl
  · intro c hc
    rw [app_list, hdot] at hc
    rcases List.mem_append.mp hc with hc | hc
    · rw [List.mem_singleton.mp hc]; decide
    · exact (hs_ascii hq b _ (hs_at hq b hab hj) c hc).1
/-- a host lies below a name if the name is on its path -/
theorem below_on {k j : Nat} (hk : k < 5) (hj : j < 4) : belowV (hsQ q b ab) k j = onV ab k j := by
  have L := labs_ok hsh b
  have hpk : prev k < 5 := by unfold prev; split <;> omega
  obtain ⟨a, ha, h1⟩ := text_low hq b hab hsh hk
  have h2 := host_low hq b hab hsh (j := j + 1) (by omega)
  rw [Bool.eq_iff_iff]
  unfold belowV
  rw [ends_iff, h1, h2, Dt_suffix_iff (labs_low hq b) (L.ne _ (by omega)) (L.few _ (by omega)) ?_ ((labs_low hq b).free a ha)]
  · exact L.suf k hk j hj
  · intro c hc
    rcases List.mem_append.mp hc with hc | hc
    · exact L.few _ hpk c (List.mem_of_mem_tail hc)
    · exact L.few _ hk c hc
theorem below_ok : BelowOk (hsQ q b ab) := by
  have hdot : dot.cps.toList = [46] := dot_list
  have hd1 : dot.length = 1 := by rw [← len_list, hdot]; rfl
  have hpr : ∀ k, k < 5 → prev k < 5 := fun k hk => by unfold prev; split <;> omega
  have hshort := hs_short hq b (ab := ab)
  have htext : ∀ k, k < 5 → (textV (hsQ q b ab) k).length ≤ 301 := fun k hk => by
    unfold textV
    rw [strLen_append, strLen_append]
    have := hshort _ (hs_at hq b hab (hpr k hk))
    have := hshort _ (hs_at hq b hab hk)
    omega
  have hascii : ∀ k, k < 5 → ∀ c ∈ (textV (hsQ q b ab) k).cps.toList, c < 128 := fun k hk => by
    unfold textV
    intro c hc
    rw [app_list, app_list, hdot] at hc
    rcases List.mem_append.mp hc with hc | hc
    · rcases List.mem_append.mp hc with hc | hc
      · exact (hs_ascii hq b _ (hs_at hq b hab (hpr k hk)) c hc).1
      · rw [List.mem_singleton.mp hc]; decide
    · exact (hs_ascii hq b _ (hs_at hq b hab hk) c hc).1
  have hasciiH : ∀ j, j < 5 → ∀ c ∈ (dot ++ (hsQ q b ab).getD j Str.empty).cps.toList, c < 128 := fun j hj => by
    intro c hc
    rw [app_list, hdot] at hc
    rcases List.mem_append.mp hc with hc | hc
    · rw [List.mem_singleton.mp hc]; decide
    · exact (hs_ascii hq b _ (hs_at hq b hab hj) c hc).1
  refine ⟨hs_len hq b, fun x m => by have := hshort x m; omega, ?_, ?_, ?_, ?_, ?_, ?_⟩
  · intro k hk
    have := len_upper (textV (hsQ q b ab) k)
    have := htext k hk
    omega
  · intro k hk
    have := len_upper (textV (hsQ q b ab) k)
    have := len_lower (Txt.upper (textV (hsQ q b ab) k))
    have := htext k hk
    omega
  · intro k hk
    obtain ⟨pre, c, h, _, _, hc⟩ := hs_last hq b hab _ (hs_at hq b hab hk)
    refine tail_of (c := lo1 c) (r := (((hsQ q b ab).getD (prev k) Str.empty).cps.toList ++ [46] ++ pre).map lo1) ?_ hc
    rw [lowup_list (hascii k hk)]
    unfold textV
    rw [app_list, app_list, hdot, h]
    simp
  · intro j hj
    have := len_lower (dot ++ (hsQ q b ab).getD (j + 1) Str.empty)
    rw [strLen_append] at this
    have := hshort _ (hs_at hq b hab (i := j + 1) (by omega))
    omega
  · intro j hj
    obtain ⟨pre, c, h, _, _, hc⟩ := hs_last hq b hab _ (hs_at hq b hab (i := j + 1) (by omega))
    refine tail_of (c := lo1 c) (r := ([46] ++ pre).map lo1) ?_ hc
    rw [low_list (hasciiH _ (by omega)), app_list, hdot, h]
    simp
  · intro j hj
    refine starts_dot (r := ((hsQ q b ab).getD (j + 1) Str.empty).cps.toList.map lo1) ?_
    rw [low_list (hasciiH _ (by omega)), app_list, hdot]
    rfl
end
end Mine

namespace Mine
open PySem PySem.Calls PyProof.Rows Builtin.Str
def tabV (ab : List Int) (ps : List Int) : List (List Int) := (List.range 5).map fun i => (List.range 5).map fun j => if i = j then 0 else lowV (onV ab) ps i j
theorem lowV_comm (bl : Nat → Nat → Bool) (ps : List Int) (i j : Nat) : lowV bl ps i j = lowV bl ps j i := by
  unfold lowV
  congr 2
  refine List.filter_congr fun k _ => ?_
  cases bl i k <;> cases bl j k <;> rfl
def innG (u l : Nat → Nat → Int) (j : Nat) (t : List (List Int)) : Nat → List (List Int)
  | 0 => t
  | i + 1 => setT (setT (innG u l j t i) i j (u i j)) j i (l i j)
def outG (u l : Nat → Nat → Int) : Nat → List (List Int)
  | 0 => List.replicate 5 (List.replicate 5 0)
  | j + 1 => innG u l j (outG u l j) j
theorem innT_eq {ws : List Str} {ix : Str → Nat} {ps : List Int} {bl : Nat → Nat → Bool} {way : Nat → Nat → List Str} {u l : Nat → Nat → Int} (hu : ∀ i j, i < j → j < 5 → upV ws ix ps (way i j) = u i j) (hl : ∀ i j, i < j → j < 5 → lowV bl ps i j = l i j) {j : Nat} (hj : j < 5) (t : List (List Int)) : ∀ i, i ≤ j → innT ws ix ps bl way j t i = innG u l j t i
  | 0, _ => rfl
  | i + 1, hi => by rw [innT, innG, innT_eq hu hl hj t i (by omega), hu i j (by omega) hj, hl i j (by omega) hj]
theorem outT_eq {ws : List Str} {ix : Str → Nat} {ps : List Int} {bl : Nat → Nat → Bool} {way : Nat → Nat → List Str} {u l : Nat → Nat → Int} (hu : ∀ i j, i < j → j < 5 → upV ws ix ps (way i j) = u i j) (hl : ∀ i j, i < j → j < 5 → lowV bl ps i j = l i j) : ∀ j, j ≤ 5 → outT ws ix ps bl way j = outG u l j
  | 0, _ => rfl
  | j + 1, hj => by rw [outT, outG, outT_eq hu hl j (by omega), innT_eq hu hl (by omega) _ j (Nat.le_refl _)]
theorem outG_tab (f : Nat → Nat → Int) : outG f (fun i j => f j i) 5 = (List.range 5).map fun i => (List.range 5).map fun j => if i = j then 0 else f i j := by simp [outG, innG, setT, List.range, List.range.loop, List.replicate]
theorem outT_tab {ws : List Str} {ix : Str → Nat} {ps : List Int} {bl : Nat → Nat → Bool} {way : Nat → Nat → List Str} {ab : List Int} (hu : ∀ i j, i < j → j < 5 → upV ws ix ps (way i j) = lowV (onV ab) ps i j) (hb : ∀ k j, k < 5 → j < 4 → bl k j = onV ab k j) :
    outT ws ix ps bl way 5 = tabV ab ps := by
  have hl : ∀ i j, i < j → j < 5 → lowV bl ps i j = lowV (onV ab) ps j i := fun i j hij hj => by
    rw [lowV_comm]
    unfold lowV
    congr 2
    refine List.filter_congr fun k m => ?_
    have hk := List.mem_range.mp m
    rw [hb i k (by omega) hk, hb j k hj hk]
  rw [outT_eq hu hl 5 (Nat.le_refl _)]
  exact outG_tab (lowV (onV ab) ps)
theorem det5 (p q r s t u v w x y : Int) : detV [[0,p,q,r,s],[p,0,t,u,v],[q,t,0,w,x],[r,u,w,0,y],[s,v,x,y,0]] =
  -(y *
        (y * -(t * -(p * q) - q * (t * p)) -
          (w * (x * -(p * p) - (t * -(p * s) - q * (v * p))) -
            (u * (x * -(p * q) + q * (v * q - t * s)) - r * (x * (t * p) + t * (v * q - t * s))))) -
      (x *
          (y * (w * -(p * p) - (t * -(p * r) - q * (u * p))) +
            (u * (x * -(p * r) - (w * -(p * s) - q * (v * r - u * s))) -
              r * (x * (u * p) - (w * (v * p) - t * (v * r - u * s))))) -
        (v *
            (y * (w * -(p * q) + q * (u * q - t * r)) +
              (w * (x * -(p * r) - (w * -(p * s) - q * (v * r - u * s))) -
                r * (x * (u * q - t * r) - w * (v * q - t * s)))) -
          s *
            (y * (w * (t * p) + t * (u * q - t * r)) +
              (w * (x * (u * p) - (w * (v * p) - t * (v * r - u * s))) -
                u * (x * (u * q - t * r) - w * (v * q - t * s))))))) := by
  simp [detV, detWs, wAt, colsOf, ent, List.range, List.range.loop, List.filter]
theorem row5 (a b c d e : Int) (f : Nat → Int) : ((List.range 5).map fun j => [a, b, c, d, e].getD j 0 * f j).sum = a * f 0 + (b * f 1 + (c * f 2 + (d * f 3 + (e * f 4 + 0)))) := rfl
def ShapeOk (ab : List Int) : Prop := ∀ a b c d : Int, detV (tabV ab [a, b, c, d]) = 8 * a * b * c * d * (a + (b + (c + (d + 0)))) ∧ ∀ r ∈ tabV ab [a, b, c, d], ((List.range 5).map fun j => r.getD j 0 * facV (ixV ab) j).sum = a + (b + (c + (d + 0)))
end Mine

namespace Mine
open PySem PySem.Calls PyProof.Rows Builtin.Str
theorem sh_000 : ShapeOk [0, 0, 0, 0] := fun a b c d => by
  have e : tabV [0, 0, 0, 0] [a, b, c, d] = [[0, a + 0, b + 0, c + 0, d + 0], [a + 0, 0, a + (b + 0), a + (c + 0), a + (d + 0)], [b + 0, a + (b + 0), 0, b + (c + 0), b + (d + 0)], [c + 0, a + (c + 0), b + (c + 0), 0, c + (d + 0)], [d + 0, a + (d + 0), b + (d + 0), c + (d + 0), 0]] := by rfl
  have f0 : facV (ixV [0, 0, 0, 0]) 0 = -2 := by decide +kernel
  have f1 : facV (ixV [0, 0, 0, 0]) 1 = 1 := by decide +kernel
  have f2 : facV (ixV [0, 0, 0, 0]) 2 = 1 := by decide +kernel
  have f3 : facV (ixV [0, 0, 0, 0]) 3 = 1 := by decide +kernel
  have f4 : facV (ixV [0, 0, 0, 0]) 4 = 1 := by decide +kernel
  rw [e]
  refine ⟨?_, fun r m => ?_⟩
  · rw [det5]; clear e f0 f1 f2 f3 f4; grind
  · simp only [List.mem_cons, List.not_mem_nil, or_false] at m
    rcases m with rfl | rfl | rfl | rfl | rfl <;> (rw [row5, f0, f1, f2, f3, f4]; omega)
theorem sh_001 : ShapeOk [0, 0, 0, 1] := fun a b c d => by
  have e : tabV [0, 0, 0, 1] [a, b, c, d] = [[0, a + 0, b + 0, c + 0, a + (d + 0)], [a + 0, 0, a + (b + 0), a + (c + 0), d + 0], [b + 0, a + (b + 0), 0, b + (c + 0), a + (b + (d + 0))], [c + 0, a + (c + 0), b + (c + 0), 0, a + (c + (d + 0))], [a + (d + 0), d + 0, a + (b + (d + 0)), a + (c + (d + 0)), 0]] := by rfl
  have f0 : facV (ixV [0, 0, 0, 1]) 0 = -1 := by decide +kernel
  have f1 : facV (ixV [0, 0, 0, 1]) 1 = 0 := by decide +kernel
  have f2 : facV (ixV [0, 0, 0, 1]) 2 = 1 := by decide +kernel
  have f3 : facV (ixV [0, 0, 0, 1]) 3 = 1 := by decide +kernel
  have f4 : facV (ixV [0, 0, 0, 1]) 4 = 1 := by decide +kernel
  rw [e]
  refine ⟨?_, fun r m => ?_⟩
  · rw [det5]; clear e f0 f1 f2 f3 f4; grind
  · simp only [List.mem_cons, List.not_mem_nil, or_false] at m
    rcases m with rfl | rfl | rfl | rfl | rfl <;> (rw [row5, f0, f1, f2, f3, f4]; omega)
theorem sh_002 : ShapeOk [0, 0, 0, 2] := fun a b c d => by
  have e : tabV [0, 0, 0, 2] [a, b, c, d] = [[0, a + 0, b + 0, c + 0, b + (d + 0)], [a + 0, 0, a + (b + 0), a + (c + 0), a + (b + (d + 0))], [b + 0, a + (b + 0), 0, b + (c + 0), d + 0], [c + 0, a + (c + 0), b + (c + 0), 0, b + (c + (d + 0))], [b + (d + 0), a + (b + (d + 0)), d + 0, b + (c + (d + 0)), 0]] := by rfl
  have f0 : facV (ixV [0, 0, 0, 2]) 0 = -1 := by decide +kernel
  have f1 : facV (ixV [0, 0, 0, 2]) 1 = 1 := by decide +kernel
  have f2 : facV (ixV [0, 0, 0, 2]) 2 = 0 := by decide +kernel
  have f3 : facV (ixV [0, 0, 0, 2]) 3 = 1 := by decide +kernel
  have f4 : facV (ixV [0, 0, 0, 2]) 4 = 1 := by decide +kernel
  rw [e]
  refine ⟨?_, fun r m => ?_⟩
  · rw [det5]; clear e f0 f1 f2 f3 f4; grind
  · simp only [List.mem_cons, List.not_mem_nil, or_false] at m
    rcases m with rfl | rfl | rfl | rfl | rfl <;> (rw [row5, f0, f1, f2, f3, f4]; omega)
theorem sh_003 : ShapeOk [0, 0, 0, 3] := fun a b c d => by
  have e : tabV [0, 0, 0, 3] [a, b, c, d] = [[0, a + 0, b + 0, c + 0, c + (d + 0)], [a + 0, 0, a + (b + 0), a + (c + 0), a + (c + (d + 0))], [b + 0, a + (b + 0), 0, b + (c + 0), b + (c + (d + 0))], [c + 0, a + (c + 0), b + (c + 0), 0, d + 0], [c + (d + 0), a + (c + (d + 0)), b + (c + (d + 0)), d + 0, 0]] := by rfl
  have f0 : facV (ixV [0, 0, 0, 3]) 0 = -1 := by decide +kernel
  have f1 : facV (ixV [0, 0, 0, 3]) 1 = 1 := by decide +kernel
  have f2 : facV (ixV [0, 0, 0, 3]) 2 = 1 := by decide +kernel
  have f3 : facV (ixV [0, 0, 0, 3]) 3 = 0 := by decide +kernel
  have f4 : facV (ixV [0, 0, 0, 3]) 4 = 1 := by decide +kernel
  rw [e]
  refine ⟨?_, fun r m => ?_⟩
  · rw [det5]; clear e f0 f1 f2 f3 f4; grind
  · simp only [List.mem_cons, List.not_mem_nil, or_false] at m
    rcases m with rfl | rfl | rfl | rfl | rfl <;> (rw [row5, f0, f1, f2, f3, f4]; omega)
theorem sh_010 : ShapeOk [0, 0, 1, 0] := fun a b c d => by
  have e : tabV [0, 0, 1, 0] [a, b, c, d] = [[0, a + 0, b + 0, a + (c + 0), d + 0], [a + 0, 0, a + (b + 0), c + 0, a + (d + 0)], [b + 0, a + (b + 0), 0, a + (b + (c + 0)), b + (d + 0)], [a + (c + 0), c + 0, a + (b + (c + 0)), 0, a + (c + (d + 0))], [d + 0, a + (d + 0), b + (d + 0), a + (c + (d + 0)), 0]] := by rfl
  have f0 : facV (ixV [0, 0, 1, 0]) 0 = -1 := by decide +kernel
  have f1 : facV (ixV [0, 0, 1, 0]) 1 = 0 := by decide +kernel
  have f2 : facV (ixV [0, 0, 1, 0]) 2 = 1 := by decide +kernel
  have f3 : facV (ixV [0, 0, 1, 0]) 3 = 1 := by decide +kernel
  have f4 : facV (ixV [0, 0, 1, 0]) 4 = 1 := by decide +kernel
  rw [e]
  refine ⟨?_, fun r m => ?_⟩
  · rw [det5]; clear e f0 f1 f2 f3 f4; grind
  · simp only [List.mem_cons, List.not_mem_nil, or_false] at m
    rcases m with rfl | rfl | rfl | rfl | rfl <;> (rw [row5, f0, f1, f2, f3, f4]; omega)
theorem sh_011 : ShapeOk [0, 0, 1, 1] := fun a b c d => by
  have e : tabV [0, 0, 1, 1] [a, b, c, d] = [[0, a + 0, b + 0, a + (c + 0), a + (d + 0)], [a + 0, 0, a + (b + 0), c + 0, d + 0], [b + 0, a + (b + 0), 0, a + (b + (c + 0)), a + (b + (d + 0))], [a + (c + 0), c + 0, a + (b + (c + 0)), 0, c + (d + 0)], [a + (d + 0), d + 0, a + (b + (d + 0)), c + (d + 0), 0]] := by rfl
  have f0 : facV (ixV [0, 0, 1, 1]) 0 = 0 := by decide +kernel
  have f1 : facV (ixV [0, 0, 1, 1]) 1 = -1 := by decide +kernel
  have f2 : facV (ixV [0, 0, 1, 1]) 2 = 1 := by decide +kernel
  have f3 : facV (ixV [0, 0, 1, 1]) 3 = 1 := by decide +kernel
  have f4 : facV (ixV [0, 0, 1, 1]) 4 = 1 := by decide +kernel
  rw [e]
  refine ⟨?_, fun r m => ?_⟩
  · rw [det5]; clear e f0 f1 f2 f3 f4; grind
  · simp only [List.mem_cons, List.not_mem_nil, or_false] at m
    rcases m with rfl | rfl | rfl | rfl | rfl <;> (rw [row5, f0, f1, f2, f3, f4]; omega)
theorem sh_012 : ShapeOk [0, 0, 1, 2] := fun a b c d => by
  have e : tabV [0, 0, 1, 2] [a, b, c, d] = [[0, a + 0, b + 0, a + (c + 0), b + (d + 0)], [a + 0, 0, a + (b + 0), c + 0, a + (b + (d + 0))], [b + 0, a + (b + 0), 0, a + (b + (c + 0)), d + 0], [a + (c + 0), c + 0, a + (b + (c + 0)), 0, a + (b + (c + (d + 0)))], [b + (d + 0), a + (b + (d + 0)), d + 0, a + (b + (c + (d + 0))), 0]] := by rfl
  have f0 : facV (ixV [0, 0, 1, 2]) 0 = 0 := by decide +kernel
  have f1 : facV (ixV [0, 0, 1, 2]) 1 = 0 := by decide +kernel
  have f2 : facV (ixV [0, 0, 1, 2]) 2 = 0 := by decide +kernel
  have f3 : facV (ixV [0, 0, 1, 2]) 3 = 1 := by decide +kernel
  have f4 : facV (ixV [0, 0, 1, 2]) 4 = 1 := by decide +kernel
  rw [e]
  refine ⟨?_, fun r m => ?_⟩
  · rw [det5]; clear e f0 f1 f2 f3 f4; grind
  · simp only [List.mem_cons, List.not_mem_nil, or_false] at m
    rcases m with rfl | rfl | rfl | rfl | rfl <;> (rw [row5, f0, f1, f2, f3, f4]; omega)
theorem sh_013 : ShapeOk [0, 0, 1, 3] := fun a b c d => by
  have e : tabV [0, 0, 1, 3] [a, b, c, d] = [[0, a + 0, b + 0, a + (c + 0), a + (c + (d + 0))], [a + 0, 0, a + (b + 0), c + 0, c + (d + 0)], [b + 0, a + (b + 0), 0, a + (b + (c + 0)), a + (b + (c + (d + 0)))], [a + (c + 0), c + 0, a + (b + (c + 0)), 0, d + 0], [a + (c + (d + 0)), c + (d + 0), a + (b + (c + (d + 0))), d + 0, 0]] := by rfl
  have f0 : facV (ixV [0, 0, 1, 3]) 0 = 0 := by decide +kernel
  have f1 : facV (ixV [0, 0, 1, 3]) 1 = 0 := by decide +kernel
  have f2 : facV (ixV [0, 0, 1, 3]) 2 = 1 := by decide +kernel
  have f3 : facV (ixV [0, 0, 1, 3]) 3 = 0 := by decide +kernel
  have f4 : facV (ixV [0, 0, 1, 3]) 4 = 1 := by decide +kernel
  rw [e]
  refine ⟨?_, fun r m => ?_⟩
  · rw [det5]; clear e f0 f1 f2 f3 f4; grind
  · simp only [List.mem_cons, List.not_mem_nil, or_false] at m
    rcases m with rfl | rfl | rfl | rfl | rfl <;> (rw [row5, f0, f1, f2, f3, f4]; omega)
theorem sh_020 : ShapeOk [0, 0, 2, 0] := fun a b c d => by
  have e : tabV [0, 0, 2, 0] [a, b, c, d] = [[0, a + 0, b + 0, b + (c + 0), d + 0], [a + 0, 0, a + (b + 0), a + (b + (c + 0)), a + (d + 0)], [b + 0, a + (b + 0), 0, c + 0, b + (d + 0)], [b + (c + 0), a + (b + (c + 0)), c + 0, 0, b + (c + (d + 0))], [d + 0, a + (d + 0), b + (d + 0), b + (c + (d + 0)), 0]] := by rfl
  have f0 : facV (ixV [0, 0, 2, 0]) 0 = -1 := by decide +kernel
  have f1 : facV (ixV [0, 0, 2, 0]) 1 = 1 := by decide +kernel
  have f2 : facV (ixV [0, 0, 2, 0]) 2 = 0 := by decide +kernel
  have f3 : facV (ixV [0, 0, 2, 0]) 3 = 1 := by decide +kernel
  have f4 : facV (ixV [0, 0, 2, 0]) 4 = 1 := by decide +kernel
  rw [e]
  refine ⟨?_, fun r m => ?_⟩
  · rw [det5]; clear e f0 f1 f2 f3 f4; grind
  · simp only [List.mem_cons, List.not_mem_nil, or_false] at m
    rcases m with rfl | rfl | rfl | rfl | rfl <;> (rw [row5, f0, f1, f2, f3, f4]; omega)
theorem sh_021 : ShapeOk [0, 0, 2, 1] := fun a b c d => by
  have e : tabV [0, 0, 2, 1] [a, b, c, d] = [[0, a + 0, b + 0, b + (c + 0), a + (d + 0)], [a + 0, 0, a + (b + 0), a + (b + (c + 0)), d + 0], [b + 0, a + (b + 0), 0, c + 0, a + (b + (d + 0))], [b + (c + 0), a + (b + (c + 0)), c + 0, 0, a + (b + (c + (d + 0)))], [a + (d + 0), d + 0, a + (b + (d + 0)), a + (b + (c + (d + 0))), 0]] := by rfl
  have f0 : facV (ixV [0, 0, 2, 1]) 0 = 0 := by decide +kernel
  have f1 : facV (ixV [0, 0, 2, 1]) 1 = 0 := by decide +kernel
  have f2 : facV (ixV [0, 0, 2, 1]) 2 = 0 := by decide +kernel
  have f3 : facV (ixV [0, 0, 2, 1]) 3 = 1 := by decide +kernel
  have f4 : facV (ixV [0, 0, 2, 1]) 4 = 1 := by decide +kernel
  rw [e]
  refine ⟨?_, fun r m => ?_⟩
  · rw [det5]; clear e f0 f1 f2 f3 f4; grind
  · simp only [List.mem_cons, List.not_mem_nil, or_false] at m
    rcases m with rfl | rfl | rfl | rfl | rfl <;> (rw [row5, f0, f1, f2, f3, f4]; omega)
theorem sh_022 : ShapeOk [0, 0, 2, 2] := fun a b c d => by
  have e : tabV [0, 0, 2, 2] [a, b, c, d] = [[0, a + 0, b + 0, b + (c + 0), b + (d + 0)], [a + 0, 0, a + (b + 0), a + (b + (c + 0)), a + (b + (d + 0))], [b + 0, a + (b + 0), 0, c + 0, d + 0], [b + (c + 0), a + (b + (c + 0)), c + 0, 0, c + (d + 0)], [b + (d + 0), a + (b + (d + 0)), d + 0, c + (d + 0), 0]] := by rfl
  have f0 : facV (ixV [0, 0, 2, 2]) 0 = 0 := by decide +kernel
  have f1 : facV (ixV [0, 0, 2, 2]) 1 = 1 := by decide +kernel
  have f2 : facV (ixV [0, 0, 2, 2]) 2 = -1 := by decide +kernel
  have f3 : facV (ixV [0, 0, 2, 2]) 3 = 1 := by decide +kernel
  have f4 : facV (ixV [0, 0, 2, 2]) 4 = 1 := by decide +kernel
  rw [e]
  refine ⟨?_, fun r m => ?_⟩
  · rw [det5]; clear e f0 f1 f2 f3 f4; grind
  · simp only [List.mem_cons, List.not_mem_nil, or_false] at m
    rcases m with rfl | rfl | rfl | rfl | rfl <;> (rw [row5, f0, f1, f2, f3, f4]; omega)
theorem sh_023 : ShapeOk [0, 0, 2, 3] := fun a b c d => by
  have e : tabV [0, 0, 2, 3] [a, b, c, d] = [[0, a + 0, b + 0, b + (c + 0), b + (c + (d + 0))], [a + 0, 0, a + (b + 0), a + (b + (c + 0)), a + (b + (c + (d + 0)))], [b + 0, a + (b + 0), 0, c + 0, c + (d + 0)], [b + (c + 0), a + (b + (c + 0)), c + 0, 0, d + 0], [b + (c + (d + 0)), a + (b + (c + (d + 0))), c + (d + 0), d + 0, 0]] := by rfl
  have f0 : facV (ixV [0, 0, 2, 3]) 0 = 0 := by decide +kernel
  have f1 : facV (ixV [0, 0, 2, 3]) 1 = 1 := by decide +kernel
  have f2 : facV (ixV [0, 0, 2, 3]) 2 = 0 := by decide +kernel
  have f3 : facV (ixV [0, 0, 2, 3]) 3 = 0 := by decide +kernel
  have f4 : facV (ixV [0, 0, 2, 3]) 4 = 1 := by decide +kernel
  rw [e]
  refine ⟨?_, fun r m => ?_⟩
  · rw [det5]; clear e f0 f1 f2 f3 f4; grind
  · simp only [List.mem_cons, List.not_mem_nil, or_false] at m
    rcases m with rfl | rfl | rfl | rfl | rfl <;> (rw [row5, f0, f1, f2, f3, f4]; omega)
theorem sh_100 : ShapeOk [0, 1, 0, 0] := fun a b c d => by
  have e : tabV [0, 1, 0, 0] [a, b, c, d] = [[0, a + 0, a + (b + 0), c + 0, d + 0], [a + 0, 0, b + 0, a + (c + 0), a + (d + 0)], [a + (b + 0), b + 0, 0, a + (b + (c + 0)), a + (b + (d + 0))], [c + 0, a + (c + 0), a + (b + (c + 0)), 0, c + (d + 0)], [d + 0, a + (d + 0), a + (b + (d + 0)), c + (d + 0), 0]] := by rfl
  have f0 : facV (ixV [0, 1, 0, 0]) 0 = -1 := by decide +kernel
  have f1 : facV (ixV [0, 1, 0, 0]) 1 = 0 := by decide +kernel
  have f2 : facV (ixV [0, 1, 0, 0]) 2 = 1 := by decide +kernel
  have f3 : facV (ixV [0, 1, 0, 0]) 3 = 1 := by decide +kernel
  have f4 : facV (ixV [0, 1, 0, 0]) 4 = 1 := by decide +kernel
  rw [e]
  refine ⟨?_, fun r m => ?_⟩
  · rw [det5]; clear e f0 f1 f2 f3 f4; grind
  · simp only [List.mem_cons, List.not_mem_nil, or_false] at m
    rcases m with rfl | rfl | rfl | rfl | rfl <;> (rw [row5, f0, f1, f2, f3, f4]; omega)
theorem sh_101 : ShapeOk [0, 1, 0, 1] := fun a b c d => by
  have e : tabV [0, 1, 0, 1] [a, b, c, d] = [[0, a + 0, a + (b + 0), c + 0, a + (d + 0)], [a + 0, 0, b + 0, a + (c + 0), d + 0], [a + (b + 0), b + 0, 0, a + (b + (c + 0)), b + (d + 0)], [c + 0, a + (c + 0), a + (b + (c + 0)), 0, a + (c + (d + 0))], [a + (d + 0), d + 0, b + (d + 0), a + (c + (d + 0)), 0]] := by rfl
  have f0 : facV (ixV [0, 1, 0, 1]) 0 = 0 := by decide +kernel
  have f1 : facV (ixV [0, 1, 0, 1]) 1 = -1 := by decide +kernel
  have f2 : facV (ixV [0, 1, 0, 1]) 2 = 1 := by decide +kernel
  have f3 : facV (ixV [0, 1, 0, 1]) 3 = 1 := by decide +kernel
  have f4 : facV (ixV [0, 1, 0, 1]) 4 = 1 := by decide +kernel
  rw [e]
  refine ⟨?_, fun r m => ?_⟩
  · rw [det5]; clear e f0 f1 f2 f3 f4; grind
  · simp only [List.mem_cons, List.not_mem_nil, or_false] at m
    rcases m with rfl | rfl | rfl | rfl | rfl <;> (rw [row5, f0, f1, f2, f3, f4]; omega)
theorem sh_102 : ShapeOk [0, 1, 0, 2] := fun a b c d => by
  have e : tabV [0, 1, 0, 2] [a, b, c, d] = [[0, a + 0, a + (b + 0), c + 0, a + (b + (d + 0))], [a + 0, 0, b + 0, a + (c + 0), b + (d + 0)], [a + (b + 0), b + 0, 0, a + (b + (c + 0)), d + 0], [c + 0, a + (c + 0), a + (b + (c + 0)), 0, a + (b + (c + (d + 0)))], [a + (b + (d + 0)), b + (d + 0), d + 0, a + (b + (c + (d + 0))), 0]] := by rfl
  have f0 : facV (ixV [0, 1, 0, 2]) 0 = 0 := by decide +kernel
  have f1 : facV (ixV [0, 1, 0, 2]) 1 = 0 := by decide +kernel
  have f2 : facV (ixV [0, 1, 0, 2]) 2 = 0 := by decide +kernel
  have f3 : facV (ixV [0, 1, 0, 2]) 3 = 1 := by decide +kernel
  have f4 : facV (ixV [0, 1, 0, 2]) 4 = 1 := by decide +kernel
  rw [e]
  refine ⟨?_, fun r m => ?_⟩
  · rw [det5]; clear e f0 f1 f2 f3 f4; grind
  · simp only [List.mem_cons, List.not_mem_nil, or_false] at m
    rcases m with rfl | rfl | rfl | rfl | rfl <;> (rw [row5, f0, f1, f2, f3, f4]; omega)
theorem sh_103 : ShapeOk [0, 1, 0, 3] := fun a b c d => by
  have e : tabV [0, 1, 0, 3] [a, b, c, d] = [[0, a + 0, a + (b + 0), c + 0, c + (d + 0)], [a + 0, 0, b + 0, a + (c + 0), a + (c + (d + 0))], [a + (b + 0), b + 0, 0, a + (b + (c + 0)), a + (b + (c + (d + 0)))], [c + 0, a + (c + 0), a + (b + (c + 0)), 0, d + 0], [c + (d + 0), a + (c + (d + 0)), a + (b + (c + (d + 0))), d + 0, 0]] := by rfl
  have f0 : facV (ixV [0, 1, 0, 3]) 0 = 0 := by decide +kernel
  have f1 : facV (ixV [0, 1, 0, 3]) 1 = 0 := by decide +kernel
  have f2 : facV (ixV [0, 1, 0, 3]) 2 = 1 := by decide +kernel
  have f3 : facV (ixV [0, 1, 0, 3]) 3 = 0 := by decide +kernel
  have f4 : facV (ixV [0, 1, 0, 3]) 4 = 1 := by decide +kernel
  rw [e]
  refine ⟨?_, fun r m => ?_⟩
  · rw [det5]; clear e f0 f1 f2 f3 f4; grind
  · simp only [List.mem_cons, List.not_mem_nil, or_false] at m
    rcases m with rfl | rfl | rfl | rfl | rfl <;> (rw [row5, f0, f1, f2, f3, f4]; omega)
theorem sh_110 : ShapeOk [0, 1, 1, 0] := fun a b c d => by
  have e : tabV [0, 1, 1, 0] [a, b, c, d] = [[0, a + 0, a + (b + 0), a + (c + 0), d + 0], [a + 0, 0, b + 0, c + 0, a + (d + 0)], [a + (b + 0), b + 0, 0, b + (c + 0), a + (b + (d + 0))], [a + (c + 0), c + 0, b + (c + 0), 0, a + (c + (d + 0))], [d + 0, a + (d + 0), a + (b + (d + 0)), a + (c + (d + 0)), 0]] := by rfl
  have f0 : facV (ixV [0, 1, 1, 0]) 0 = 0 := by decide +kernel
  have f1 : facV (ixV [0, 1, 1, 0]) 1 = -1 := by decide +kernel
  have f2 : facV (ixV [0, 1, 1, 0]) 2 = 1 := by decide +kernel
  have f3 : facV (ixV [0, 1, 1, 0]) 3 = 1 := by decide +kernel
  have f4 : facV (ixV [0, 1, 1, 0]) 4 = 1 := by decide +kernel
  rw [e]
  refine ⟨?_, fun r m => ?_⟩
  · rw [det5]; clear e f0 f1 f2 f3 f4; grind
  · simp only [List.mem_cons, List.not_mem_nil, or_false] at m
    rcases m with rfl | rfl | rfl | rfl | rfl <;> (rw [row5, f0, f1, f2, f3, f4]; omega)
theorem sh_111 : ShapeOk [0, 1, 1, 1] := fun a b c d => by
  have e : tabV [0, 1, 1, 1] [a, b, c, d] = [[0, a + 0, a + (b + 0), a + (c + 0), a + (d + 0)], [a + 0, 0, b + 0, c + 0, d + 0], [a + (b + 0), b + 0, 0, b + (c + 0), b + (d + 0)], [a + (c + 0), c + 0, b + (c + 0), 0, c + (d + 0)], [a + (d + 0), d + 0, b + (d + 0), c + (d + 0), 0]] := by rfl
  have f0 : facV (ixV [0, 1, 1, 1]) 0 = 1 := by decide +kernel
  have f1 : facV (ixV [0, 1, 1, 1]) 1 = -2 := by decide +kernel
  have f2 : facV (ixV [0, 1, 1, 1]) 2 = 1 := by decide +kernel
  have f3 : facV (ixV [0, 1, 1, 1]) 3 = 1 := by decide +kernel
  have f4 : facV (ixV [0, 1, 1, 1]) 4 = 1 := by decide +kernel
  rw [e]
  refine ⟨?_, fun r m => ?_⟩
  · rw [det5]; clear e f0 f1 f2 f3 f4; grind
  · simp only [List.mem_cons, List.not_mem_nil, or_false] at m
    rcases m with rfl | rfl | rfl | rfl | rfl <;> (rw [row5, f0, f1, f2, f3, f4]; omega)
theorem sh_112 : ShapeOk [0, 1, 1, 2] := fun a b c d => by
  have e : tabV [0, 1, 1, 2] [a, b, c, d] = [[0, a + 0, a + (b + 0), a + (c + 0), a + (b + (d + 0))], [a + 0, 0, b + 0, c + 0, b + (d + 0)], [a + (b + 0), b + 0, 0, b + (c + 0), d + 0], [a + (c + 0), c + 0, b + (c + 0), 0, b + (c + (d + 0))], [a + (b + (d + 0)), b + (d + 0), d + 0, b + (c + (d + 0)), 0]] := by rfl
  have f0 : facV (ixV [0, 1, 1, 2]) 0 = 1 := by decide +kernel
  have f1 : facV (ixV [0, 1, 1, 2]) 1 = -1 := by decide +kernel
  have f2 : facV (ixV [0, 1, 1, 2]) 2 = 0 := by decide +kernel
  have f3 : facV (ixV [0, 1, 1, 2]) 3 = 1 := by decide +kernel
  have f4 : facV (ixV [0, 1, 1, 2]) 4 = 1 := by decide +kernel
  rw [e]
  refine ⟨?_, fun r m => ?_⟩
  · rw [det5]; clear e f0 f1 f2 f3 f4; grind
  · simp only [List.mem_cons, List.not_mem_nil, or_false] at m
    rcases m with rfl | rfl | rfl | rfl | rfl <;> (rw [row5, f0, f1, f2, f3, f4]; omega)
theorem sh_113 : ShapeOk [0, 1, 1, 3] := fun a b c d => by
  have e : tabV [0, 1, 1, 3] [a, b, c, d] = [[0, a + 0, a + (b + 0), a + (c + 0), a + (c + (d + 0))], [a + 0, 0, b + 0, c + 0, c + (d + 0)], [a + (b + 0), b + 0, 0, b + (c + 0), b + (c + (d + 0))], [a + (c + 0), c + 0, b + (c + 0), 0, d + 0], [a + (c + (d + 0)), c + (d + 0), b + (c + (d + 0)), d + 0, 0]] := by rfl
  have f0 : facV (ixV [0, 1, 1, 3]) 0 = 1 := by decide +kernel
  have f1 : facV (ixV [0, 1, 1, 3]) 1 = -1 := by decide +kernel
  have f2 : facV (ixV [0, 1, 1, 3]) 2 = 1 := by decide +kernel
  have f3 : facV (ixV [0, 1, 1, 3]) 3 = 0 := by decide +kernel
  have f4 : facV (ixV [0, 1, 1, 3]) 4 = 1 := by decide +kernel
  rw [e]
  refine ⟨?_, fun r m => ?_⟩
  · rw [det5]; clear e f0 f1 f2 f3 f4; grind
  · simp only [List.mem_cons, List.not_mem_nil, or_false] at m
    rcases m with rfl | rfl | rfl | rfl | rfl <;> (rw [row5, f0, f1, f2, f3, f4]; omega)
theorem sh_120 : ShapeOk [0, 1, 2, 0] := fun a b c d => by
  have e : tabV [0, 1, 2, 0] [a, b, c, d] = [[0, a + 0, a + (b + 0), a + (b + (c + 0)), d + 0], [a + 0, 0, b + 0, b + (c + 0), a + (d + 0)], [a + (b + 0), b + 0, 0, c + 0, a + (b + (d + 0))], [a + (b + (c + 0)), b + (c + 0), c + 0, 0, a + (b + (c + (d + 0)))], [d + 0, a + (d + 0), a + (b + (d + 0)), a + (b + (c + (d + 0))), 0]] := by rfl
  have f0 : facV (ixV [0, 1, 2, 0]) 0 = 0 := by decide +kernel
  have f1 : facV (ixV [0, 1, 2, 0]) 1 = 0 := by decide +kernel
  have f2 : facV (ixV [0, 1, 2, 0]) 2 = 0 := by decide +kernel
  have f3 : facV (ixV [0, 1, 2, 0]) 3 = 1 := by decide +kernel
  have f4 : facV (ixV [0, 1, 2, 0]) 4 = 1 := by decide +kernel
  rw [e]
  refine ⟨?_, fun r m => ?_⟩
  · rw [det5]; clear e f0 f1 f2 f3 f4; grind
  · simp only [List.mem_cons, List.not_mem_nil, or_false] at m
    rcases m with rfl | rfl | rfl | rfl | rfl <;> (rw [row5, f0, f1, f2, f3, f4]; omega)
theorem sh_121 : ShapeOk [0, 1, 2, 1] := fun a b c d => by
  have e : tabV [0, 1, 2, 1] [a, b, c, d] = [[0, a + 0, a + (b + 0), a + (b + (c + 0)), a + (d + 0)], [a + 0, 0, b + 0, b + (c + 0), d + 0], [a + (b + 0), b + 0, 0, c + 0, b + (d + 0)], [a + (b + (c + 0)), b + (c + 0), c + 0, 0, b + (c + (d + 0))], [a + (d + 0), d + 0, b + (d + 0), b + (c + (d + 0)), 0]] := by rfl
  have f0 : facV (ixV [0, 1, 2, 1]) 0 = 1 := by decide +kernel
  have f1 : facV (ixV [0, 1, 2, 1]) 1 = -1 := by decide +kernel
  have f2 : facV (ixV [0, 1, 2, 1]) 2 = 0 := by decide +kernel
  have f3 : facV (ixV [0, 1, 2, 1]) 3 = 1 := by decide +kernel
  have f4 : facV (ixV [0, 1, 2, 1]) 4 = 1 := by decide +kernel
  rw [e]
  refine ⟨?_, fun r m => ?_⟩
  · rw [det5]; clear e f0 f1 f2 f3 f4; grind
  · simp only [List.mem_cons, List.not_mem_nil, or_false] at m
    rcases m with rfl | rfl | rfl | rfl | rfl <;> (rw [row5, f0, f1, f2, f3, f4]; omega)
theorem sh_122 : ShapeOk [0, 1, 2, 2] := fun a b c d => by
  have e : tabV [0, 1, 2, 2] [a, b, c, d] = [[0, a + 0, a + (b + 0), a + (b + (c + 0)), a + (b + (d + 0))], [a + 0, 0, b + 0, b + (c + 0), b + (d + 0)], [a + (b + 0), b + 0, 0, c + 0, d + 0], [a + (b + (c + 0)), b + (c + 0), c + 0, 0, c + (d + 0)], [a + (b + (d + 0)), b + (d + 0), d + 0, c + (d + 0), 0]] := by rfl
  have f0 : facV (ixV [0, 1, 2, 2]) 0 = 1 := by decide +kernel
  have f1 : facV (ixV [0, 1, 2, 2]) 1 = 0 := by decide +kernel
  have f2 : facV (ixV [0, 1, 2, 2]) 2 = -1 := by decide +kernel
  have f3 : facV (ixV [0, 1, 2, 2]) 3 = 1 := by decide +kernel
  have f4 : facV (ixV [0, 1, 2, 2]) 4 = 1 := by decide +kernel
  rw [e]
  refine ⟨?_, fun r m => ?_⟩
  · rw [det5]; clear e f0 f1 f2 f3 f4; grind
  · simp only [List.mem_cons, List.not_mem_nil, or_false] at m
    rcases m with rfl | rfl | rfl | rfl | rfl <;> (rw [row5, f0, f1, f2, f3, f4]; omega)
theorem sh_123 : ShapeOk [0, 1, 2, 3] := fun a b c d => by
  have e : tabV [0, 1, 2, 3] [a, b, c, d] = [[0, a + 0, a + (b + 0), a + (b + (c + 0)), a + (b + (c + (d + 0)))], [a + 0, 0, b + 0, b + (c + 0), b + (c + (d + 0))], [a + (b + 0), b + 0, 0, c + 0, c + (d + 0)], [a + (b + (c + 0)), b + (c + 0), c + 0, 0, d + 0], [a + (b + (c + (d + 0))), b + (c + (d + 0)), c + (d + 0), d + 0, 0]] := by rfl
  have f0 : facV (ixV [0, 1, 2, 3]) 0 = 1 := by decide +kernel
  have f1 : facV (ixV [0, 1, 2, 3]) 1 = 0 := by decide +kernel
  have f2 : facV (ixV [0, 1, 2, 3]) 2 = 0 := by decide +kernel
  have f3 : facV (ixV [0, 1, 2, 3]) 3 = 0 := by decide +kernel
  have f4 : facV (ixV [0, 1, 2, 3]) 4 = 1 := by decide +kernel
  rw [e]
  refine ⟨?_, fun r m => ?_⟩
  · rw [det5]; clear e f0 f1 f2 f3 f4; grind
  · simp only [List.mem_cons, List.not_mem_nil, or_false] at m
    rcases m with rfl | rfl | rfl | rfl | rfl <;> (rw [row5, f0, f1, f2, f3, f4]; omega)
theorem shapes_list : shapes = [[0, 0, 0, 0], [0, 0, 0, 1], [0, 0, 0, 2], [0, 0, 0, 3], [0, 0, 1, 0], [0, 0, 1, 1], [0, 0, 1, 2], [0, 0, 1, 3], [0, 0, 2, 0], [0, 0, 2, 1], [0, 0, 2, 2], [0, 0, 2, 3], [0, 1, 0, 0], [0, 1, 0, 1], [0, 1, 0, 2], [0, 1, 0, 3], [0, 1, 1, 0], [0, 1, 1, 1], [0, 1, 1, 2], [0, 1, 1, 3], [0, 1, 2, 0], [0, 1, 2, 1], [0, 1, 2, 2], [0, 1, 2, 3]] := by decide +kernel
theorem shape_ok {ab : List Int} (h : ab ∈ shapes) : ShapeOk ab := by
  rw [shapes_list] at h
  simp only [List.mem_cons, List.not_mem_nil, or_false] at h
  rcases h with rfl | rfl | rfl | rfl | rfl | rfl | rfl | rfl | rfl | rfl | rfl | rfl | rfl | rfl | rfl | rfl | rfl | rfl | rfl | rfl | rfl | rfl | rfl | rfl
  · exact sh_000
  · exact sh_001
  · exact sh_002
  · exact sh_003
  · exact sh_010
  · exact sh_011
  · exact sh_012
  · exact sh_013
  · exact sh_020
  · exact sh_021
  · exact sh_022
  · exact sh_023
  · exact sh_100
  · exact sh_101
  · exact sh_102
  · exact sh_103
  · exact sh_110
  · exact sh_111
  · exact sh_112
  · exact sh_113
  · exact sh_120
  · exact sh_121
  · exact sh_122
  · exact sh_123
end Mine

namespace Mine
open PySem PySem.Calls PyProof.Rows Builtin.Str
open Builtin.Int (intBits)
/-! ## the sizes of the products -/
theorem bits_le {x y : Int} {m : Nat} (h : x.natAbs ≤ y.natAbs) (hy : intBits y ≤ m) : intBits x ≤ m := bits_of_natAbs_le h hy
theorem bits0 (m : Nat) : intBits 0 ≤ m := by
  have : intBits 0 = 0 := by decide +kernel
  omega
theorem bits_addM {x y : Int} {m : Nat} (hx : intBits x ≤ m) (hy : intBits y ≤ m) : intBits (x + y) ≤ m + 1 := by
  have := bits_add hx hy
  rwa [Nat.max_self] at this
theorem bits_sum {m : Nat} : ∀ (l : List Int), (∀ x ∈ l, intBits x ≤ m) → intBits l.sum ≤ m + l.length
  | [], _ => bits0 _
  | x :: l, h => by
    rw [List.sum_cons, List.length_cons]
    have h1 := bits_sum l fun y m => h y (List.mem_cons_of_mem _ m)
    have h2 := h x List.mem_cons_self
    exact bits_addM (Nat.le_trans h2 (Nat.le_add_right _ _)) h1
theorem bits_getD0 {m : Nat} {l : List Int} (h : ∀ x ∈ l, intBits x ≤ m) (i : Nat) : intBits (l.getD i 0) ≤ m := by
  rw [List.getD_eq_getElem?_getD]
  cases hq : l[i]? with
  | none => exact bits0 _
  | some y => exact h y (List.mem_of_getElem? hq)
theorem bits_low {m : Nat} {ps : List Int} (h : ∀ x ∈ ps, intBits x ≤ m) (bl : Nat → Nat → Bool) (i j : Nat) : intBits (lowV bl ps i j) ≤ m + 4 := by
  unfold lowV
  have hl : (((List.range 4).filter fun k => bl i k != bl j k).map fun k => ps.getD k 0).length ≤ 4 := by
    rw [List.length_map]
    exact Nat.le_trans (List.length_filter_le _ _) (by simp)
  have := bits_sum (m := m) (((List.range 4).filter fun k => bl i k != bl j k).map fun k => ps.getD k 0) fun x hx => by
    obtain ⟨k, _, rfl⟩ := List.mem_map.mp hx
    exact bits_getD0 h k
  omega
theorem bits_tab {m : Nat} {ps : List Int} (h : ∀ x ∈ ps, intBits x ≤ m) (ab : List Int) : ∀ r ∈ tabV ab ps, ∀ x ∈ r, intBits x ≤ m + 4 := by
  intro r hr x hx
  unfold tabV at hr
  obtain ⟨i, _, rfl⟩ := List.mem_map.mp hr
  obtain ⟨j, _, rfl⟩ := List.mem_map.mp hx
  split
  · exact bits0 _
  · exact bits_low h _ _ _
theorem bits_ent {m : Nat} {t : List (List Int)} (h : ∀ r ∈ t, ∀ x ∈ r, intBits x ≤ m) (r c : Nat) : intBits (ent t r c) ≤ m := by
  unfold ent
  rw [List.getD_eq_getElem?_getD (l := t)]
  cases hq : t[r]? with
  | none => exact bits0 _
  | some y => exact bits_getD0 (h y (List.mem_of_getElem? hq)) c
theorem bits_wAt {m b : Nat} {t : List (List Int)} {ws : List Int} (ht : ∀ r c, intBits (ent t r c) ≤ m) (ch : Nat) (hw : ∀ i, i < ch → intBits (ws.getD i 0) ≤ b) (hc : 0 < ch) (cs : List Nat) : ∀ j, intBits (wAt t ws ch cs j) ≤ m + b + j
  | 0 => bits0 _
  | j + 1 => by
    rw [wAt]
    have hp : 0 < 2 ^ cs.getD j 0 := Nat.pow_pos (by decide)
    have h1 : intBits (ent t (cs.length - 1) (cs.getD j 0) * ws.getD (ch - 2 ^ cs.getD j 0) 0) ≤ m + b := bits_mul (ht _ _) (hw _ (by omega))
    have h2 := bits_wAt ht ch hw hc cs j
    have := bits_sub (Nat.le_trans h1 (by omega : m + b ≤ m + b + j)) h2
    rw [Nat.max_self] at this
    omega
theorem cols_len (ch : Nat) : (colsOf ch).length ≤ 5 := by
  unfold colsOf
  exact Nat.le_trans (List.length_filter_le _ _) (by simp)
theorem bits_ws {m : Nat} {t : List (List Int)} (ht : ∀ r c, intBits (ent t r c) ≤ m) : ∀ k, ∀ i, i ≤ k → intBits ((detWs t k).getD i 0) ≤ (m + 5) * i + 1
  | 0, i, hi => by
    have : i = 0 := by omega
    subst this
    show intBits 1 ≤ _
    have : intBits 1 = 1 := by decide +kernel
    omega
  | k + 1, i, hi => by
    have hl := detWs_len t k
    rw [detWs]
    by_cases h : i ≤ k
    · rw [getD_left (by omega)]
      exact bits_ws ht k i h
    · have e : i = (detWs t k).length := by omega
      rw [show (detWs t k ++ [wAt t (detWs t k) (k + 1) (colsOf (k + 1)) (colsOf (k + 1)).length]).getD i 0 = _ from e ▸ getD_end]
      have hw : ∀ i, i < k + 1 → intBits ((detWs t k).getD i 0) ≤ (m + 5) * k + 1 := fun i hi => by
        have := bits_ws ht k i (by omega)
        have h2 : (m + 5) * i ≤ (m + 5) * k := Nat.mul_le_mul_left _ (by omega)
        omega
      have h1 := bits_wAt ht (k + 1) hw (by omega) (colsOf (k + 1)) (colsOf (k + 1)).length
      have h2 := cols_len (k + 1)
      have e2 : i = k + 1 := by omega
      subst e2
      have e3 : (m + 5) * (k + 1) = (m + 5) * k + (m + 5) := Nat.mul_succ _ _
      omega
theorem fac_small : (shapes.all fun ab => (List.range 5).all fun j => decide (intBits (facV (ixV ab) j) ≤ 64)) = true := by decide +kernel
theorem fac_bits {ab : List Int} (h : ab ∈ shapes) {j : Nat} (hj : j < 5) : intBits (facV (ixV ab) j) ≤ 64 := by
  have := List.all_eq_true.mp (List.all_eq_true.mp fac_small ab h) j (List.mem_range.mpr hj)
  exact of_decide_eq_true this
/-! ## the law's plain facts -/
theorem pr_eq (ns : List Int) : prV ns = [atV ns (2 + 0) + 2 ^ 0, atV ns (2 + 1) + 2 ^ 1, atV ns (2 + 2) + 2 ^ 2, atV ns (2 + 3) + 2 ^ 3] := rfl
theorem pr_bits {ns : List Int} (hl : (PyData.list (ns.map PyData.int)).layable0 = true) : ∀ x ∈ prV ns, intBits x ≤ 1048577 := by
  have e20 : (2 : Nat) ^ 20 = 1048576 := by decide
  have hat : ∀ k, intBits (atV ns k) ≤ 1048576 := fun k => bits_getD0 (fun x m => e20 ▸ PyData.bits_item_of_ints hl m) k
  have h0 : intBits ((2 : Int) ^ 0) ≤ 1048576 := by
    have : intBits ((2 : Int) ^ 0) = 1 := by decide +kernel
    omega
  have h1 : intBits ((2 : Int) ^ 1) ≤ 1048576 := by
    have : intBits ((2 : Int) ^ 1) = 2 := by decide +kernel
    omega
  have h2 : intBits ((2 : Int) ^ 2) ≤ 1048576 := by
    have : intBits ((2 : Int) ^ 2) = 3 := by decide +kernel
    omega
  have h3 : intBits ((2 : Int) ^ 3) ≤ 1048576 := by
    have : intBits ((2 : Int) ^ 3) = 4 := by decide +kernel
    omega
  intro x m
  rw [pr_eq] at m
  simp only [List.mem_cons, List.not_mem_nil, or_false] at m
  rcases m with rfl | rfl | rfl | rfl
  · exact bits_addM (hat _) h0
  · exact bits_addM (hat _) h1
  · exact bits_addM (hat _) h2
  · exact bits_addM (hat _) h3
theorem law_ok (ns : List Int) (hl : (PyData.list (ns.map PyData.int)).layable0 = true) : ∃ ix ixw ms way t, LawOk ns ix ixw ms way t := by
  obtain ⟨q, hpl, hq⟩ := places_ok (atV ns 1 + 892096)
  have hpl : plV ns = q.map fun i : Nat => (i : Int) := hpl
  have hsh := abV_mem ns
  have hab : Par (abV ns) := abV_ok ns
  have hql := hq.len
  have hws : wsV ns = q.map wordV := by
    unfold wsV
    rw [hpl, List.map_map]; rfl
  obtain ⟨b, hrt⟩ : ∃ b, rtV ns = rootV b := by
    unfold rtV
    by_cases h : shV ns % 2 = 0
    · exact ⟨true, if_pos h⟩
    · exact ⟨false, if_neg h⟩
  have hhs : hsV ns = hsQ q b (abV ns) := by unfold hsV hsQ; rw [hrt, hws]
  have hnb : nbV ns = numbersV (q.map fun i : Nat => (i : Int)) (abV ns) 4 := by unfold nbV; rw [hpl]
  have hpb := pr_bits hl
  have hS := shape_ok hsh (atV ns (2 + 0) + 2 ^ 0) (atV ns (2 + 1) + 2 ^ 1) (atV ns (2 + 2) + 2 ^ 2) (atV ns (2 + 3) + 2 ^ 3)
  rw [← pr_eq] at hS
  have htab : outT (wsV ns) (ixOf (wsV ns)) (prV ns) (belowV (hsV ns)) (fun i j => waysV (parts q (abV ns) i j)) 5 = tabV (abV ns) (prV ns) := by
    refine outT_tab (fun i j hij hj => ?_) fun k j hk hj => ?_
    · rw [hws]; exact up_ok hq hab (prV ns) (by omega) hj
    · rw [hhs]; exact below_on hq b hab hsh hk hj
  have hpg : ∀ k, intBits ((prV ns).getD k 0) ≤ 1048577 := bits_getD0 hpb
  have hsum : intBits (prV ns).sum ≤ 1048577 + 4 := bits_sum (prV ns) hpb
  have hte := bits_ent (bits_tab hpb (abV ns))
  have h8 : intBits 8 ≤ 4 := by decide +kernel
  refine ⟨ixV (abV ns), ixOf (wsV ns), (rising q).map fun i : Nat => (i : Int), fun i j => waysV (parts q (abV ns) i j), tabV (abV ns) (prV ns), ?_⟩
  have p1 := bits_mul h8 (hpg 0)
  have p2 := bits_mul p1 (hpg 1)
  have p3 := bits_mul p2 (hpg 2)
  have p4 := bits_mul p3 (hpg 3)
  refine
    { ht := htab.symm
      pl := by rw [hpl, List.length_map]; exact hql
      plb := fun k hk => ?_
      wshort := fun x m => ?_
      tied := hhs ▸ tied_ok hq b hab hsh
      tne := fun h => by have := congrArg List.length h; simp [ixV] at this
      below := hhs ▸ below_ok hq b hab hsh
      perm := by rw [hpl]; exact (rising_perm hq).map _
      asc := rising_asc q
      table := ?_
      mulRow := fun r _ j hj => IntMulOk.of_right (fac_bits hsh hj)
      rows := hS.2
      mulDet := fun k hk c _ => ?_
      m0 := IntMulOk.of_left (Nat.le_trans h8 (by decide))
      m1 := mulOk_of_bits p1 (hpg 1) (by decide)
      m2 := mulOk_of_bits p2 (hpg 2) (by decide)
      m3 := mulOk_of_bits p3 (hpg 3) (by decide)
      m4 := mulOk_of_bits p4 hsum (by decide)
      det := hS.1 }
  · have := pls_lt hq hk
    rw [hpl, getD_at (by rw [List.length_map]; omega), List.getElem_map]
    rw [getD_at (by omega)] at this
    omega
  · rw [hws] at m
    obtain ⟨y, hy, rfl⟩ := List.mem_map.mp m
    exact (word_facts ⟨y, (goodQ_of hq hy).1⟩).1
  · refine ⟨?_, ?_, rfl, ?_, ?_, ?_, ?_⟩
    · rw [hnb]; exact numbersV_len _ _ 4
    · rw [hws, List.length_map]; exact hql
    · rw [List.length_map, List.length_map, (rising_perm hq).length_eq]; omega
    · intro i j hij hj
      rw [hnb]; exact way_ok hq hab hij hj
    · intro i j hij hj
      have e : ((rising q).map fun i : Nat => (i : Int)).map (fun p => wordV p.toNat) = (rising q).map wordV := by
        rw [List.map_map]; rfl
      rw [e]
      exact rise_ok hq hab (by omega) hj
    · intro i j hij hj x m
      obtain ⟨p, hp, hT, rfl⟩ := ways_mem.mp m
      refine ixOf_ok ?_
      rw [hws]
      exact List.mem_map.mpr ⟨p, parts_mem hq hab (by omega) hj hT, rfl⟩
  · have h1 : 0 < 2 ^ c := Nat.pow_pos (by decide)
    have hw := bits_ws hte k (k + 1 - 2 ^ c) (by omega)
    have h2 : (1048577 + 4 + 5) * (k + 1 - 2 ^ c) ≤ (1048577 + 4 + 5) * 31 := Nat.mul_le_mul_left _ (by omega)
    exact mulOk_of_bits (hte _ _) (Nat.le_trans hw (Nat.succ_le_succ h2)) (by decide)
end Mine

open PySem PySem.W PyProof.Rows
set_option maxHeartbeats 8000000 in
theorem PySem.Challenge.cw_rw0028_01_holds : PySem.Challenge.rw_rw0028_01.Holds := by
  (w_on; o_law; k_head; (case hw => w_witness2))
  k_fill
  intro w s₀ s₁ mg mb G Y fa o pm cd doc dV kV ho hd hcd hD hmg hg args vals as hpre hlay hrd hwl hlo
  have KX := kIn_of Y
  refine Ground.open G ?_
  intro T B D TE TW
  wrow_args hpre hlay hrd hwl hlo
  clear hD hcd hd ho
  have hmg' : mg (Str.ofString "law") = some (.ref fa) := hmg
  clear hmg
  have hlen := ‹¬ ((63 : Nat) : Int) < _›
  have hlay2 := ‹(PyData.list (List.map PyData.int _)).layable0 = true›
  have hw := ‹Well _ _ _ _›
  refine Mine.law_goodK KX T hmg' hw ?_ (Mine.law_ok _ hlay2) ?_ ?_ ?_ ?_ ?_ (Mine.fn_of 21 ?_ ?_ ?_ ?_)
  · omega
  · intro s' k
    obtain ⟨h', tk, rfl, hk⟩ := k
    refine GoodW.toG ⟨.inl ⟨.bool true, .bool true, [], rfl, ?_, ?_, ?_, ?_⟩, hk, rfl, hg⟩
    · exact fun _ => rfl
    · exact ReadsW.bool true
    · kernel_rfl
    · exact fun _ => ⟨List.nodup_nil, fun a m => absurd m List.not_mem_nil⟩
  · exact ⟨by kernel_rfl, by kernel_rfl, by kernel_rfl, by kernel_rfl, by kernel_rfl, by kernel_rfl, by kernel_rfl⟩
  · exact Mine.rx_of (by kernel_rfl) (by kernel_rfl) (by kernel_rfl)
  · exact Mine.tab_of (by kernel_rfl) (by kernel_rfl) (by kernel_rfl) (by kernel_rfl) (by kernel_rfl) (by kernel_rfl)
  · exact ⟨⟨_, _, Mine.fn_of 3 (by kernel_rfl) (by kernel_rfl) (by kernel_rfl) (by kernel_rfl)⟩, ⟨_, _, Mine.fn_of 6 (by kernel_rfl) (by kernel_rfl) (by kernel_rfl) (by kernel_rfl)⟩, ⟨_, _, Mine.fn_of 7 (by kernel_rfl) (by kernel_rfl) (by kernel_rfl) (by kernel_rfl)⟩, ⟨_, _, Mine.fn_of 8 (by kernel_rfl) (by kernel_rfl) (by kernel_rfl) (by kernel_rfl)⟩, ⟨_, _, Mine.fn_of 9 (by kernel_rfl) (by kernel_rfl) (by kernel_rfl) (by kernel_rfl)⟩, ⟨_, _, Mine.fn_of 11 (by kernel_rfl) (by kernel_rfl) (by kernel_rfl) (by kernel_rfl)⟩, ⟨_, _, Mine.fn_of 12 (by kernel_rfl) (by kernel_rfl) (by kernel_rfl) (by kernel_rfl)⟩, ⟨_, _, Mine.fn_of 13 (by kernel_rfl) (by kernel_rfl) (by kernel_rfl) (by kernel_rfl)⟩, ⟨_, _, Mine.fn_of 14 (by kernel_rfl) (by kernel_rfl) (by kernel_rfl) (by kernel_rfl)⟩, ⟨_, _, Mine.fn_of 15 (by kernel_rfl) (by kernel_rfl) (by kernel_rfl) (by kernel_rfl)⟩, ⟨_, _, Mine.fn_of 16 (by kernel_rfl) (by kernel_rfl) (by kernel_rfl) (by kernel_rfl)⟩, ⟨_, _, Mine.fn_of 17 (by kernel_rfl) (by kernel_rfl) (by kernel_rfl) (by kernel_rfl)⟩, ⟨_, _, Mine.fn_of 18 (by kernel_rfl) (by kernel_rfl) (by kernel_rfl) (by kernel_rfl)⟩, ⟨_, _, Mine.fn_of 19 (by kernel_rfl) (by kernel_rfl) (by kernel_rfl) (by kernel_rfl)⟩, ⟨_, _, Mine.fn_of 20 (by kernel_rfl) (by kernel_rfl) (by kernel_rfl) (by kernel_rfl)⟩⟩
  · kernel_rfl
  · kernel_rfl
  · kernel_rfl
  · kernel_rfl
