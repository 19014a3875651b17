import PyProof.Rows.All
import Wide.All
import OpenK.AllK
import Wide.FinOn
import PySem.Challenge.RW_tp0007_01
open PySem PySem.W PyProof.Rows
set_option Elab.async false
set_option maxRecDepth 100000
set_option maxHeartbeats 8000000

open_top Mine.hd for PySem.Challenge.rw_tp0007_01

section
namespace Mine

/-- plain data of Python -/
inductive D where
  | none
  | bool (b : Bool)
  | int (i : Int)
  | flt (x : UInt64)
  | str (s : PySem.Str)
  | tup (l : List D)
  | lst (l : List D)

noncomputable abbrev Kp (h h' : Heap) : Prop := ∀ b o, h.get? b = some o → h'.get? b = some o
theorem Kp.refl (h : Heap) : Kp h h := fun _ _ e => e
theorem Kp.trans {a b c : Heap} (x : Kp a b) (y : Kp b c) : Kp a c := fun i o e => y i o (x i o e)

noncomputable abbrev tupObj (vs : List Value) (n : Nat) : Obj := { cls := .type "tuple", dict := .none, data := .seq vs.toArray n, slots := #[] }
noncomputable abbrev lstObj (vs : List Value) (n : Nat) : Obj := { cls := .type "list", dict := .none, data := .seq vs.toArray n, slots := #[] }

mutual
/-- the value v bears the datum d in the heap h, by objects at places of P, its ints by tokens of T -/
inductive Rep (h : Heap) (P : Addr → Prop) (T : Tok → Prop) : Value → D → Prop
  | none : Rep h P T .none .none
  | bool (b) : Rep h P T (.bool b) (.bool b)
  | int (i t) : T t → Rep h P T (.int i t) (.int i)
  | flt (x t) : Rep h P T (.float x t) (.flt x)
  | str (x t) : Rep h P T (.str x t) (.str x)
  | tup {a vs ds n} : P a → h.get? a = some (tupObj vs n) → Reps h P T vs ds → Rep h P T (.ref a) (.tup ds)
  | lst {a vs ds n} : P a → h.get? a = some (lstObj vs n) → Reps h P T vs ds → Rep h P T (.ref a) (.lst ds)
inductive Reps (h : Heap) (P : Addr → Prop) (T : Tok → Prop) : List Value → List D → Prop
  | nil : Reps h P T [] []
  | cons {v d vs ds} : Rep h P T v d → Reps h P T vs ds → Reps h P T (v :: vs) (d :: ds)
end

mutual
theorem Rep.step {h h' : Heap} {P P' : Addr → Prop} {T T' : Tok → Prop} (hs : ∀ a c xs n, P a → h.get? a = some { cls := c, dict := .none, data := .seq xs n, slots := #[] } → P' a ∧ h'.get? a = some { cls := c, dict := .none, data := .seq xs n, slots := #[] }) (ht : ∀ t, T t → T' t) :
    ∀ {v : Value} {d : D}, Rep h P T v d → Rep h' P' T' v d
  | _, _, .none => .none
  | _, _, .bool b => .bool b
  | _, _, .int i t x => .int i t (ht _ x)
  | _, _, .flt x t => .flt x t
  | _, _, .str x t => .str x t
  | _, _, .tup hp hg hr => .tup (hs _ _ _ _ hp hg).1 (hs _ _ _ _ hp hg).2 (Reps.step hs ht hr)
  | _, _, .lst hp hg hr => .lst (hs _ _ _ _ hp hg).1 (hs _ _ _ _ hp hg).2 (Reps.step hs ht hr)
theorem Reps.step {h h' : Heap} {P P' : Addr → Prop} {T T' : Tok → Prop} (hs : ∀ a c xs n, P a → h.get? a = some { cls := c, dict := .none, data := .seq xs n, slots := #[] } → P' a ∧ h'.get? a = some { cls := c, dict := .none, data := .seq xs n, slots := #[] }) (ht : ∀ t, T t → T' t) :
    ∀ {vs : List Value} {ds : List D}, Reps h P T vs ds → Reps h' P' T' vs ds
  | _, _, .nil => .nil
  | _, _, .cons r rs => .cons (Rep.step hs ht r) (Reps.step hs ht rs)
end

theorem Rep.kp {h h' : Heap} {P P' : Addr → Prop} {T T' : Tok → Prop} (k : Kp h h') (hp : ∀ a, P a → P' a) (ht : ∀ t, T t → T' t) {v d} (r : Rep h P T v d) : Rep h' P' T' v d := r.step (fun _ _ _ _ x y => ⟨hp _ x, k _ _ y⟩) ht
theorem Reps.kp {h h' : Heap} {P P' : Addr → Prop} {T T' : Tok → Prop} (k : Kp h h') (hp : ∀ a, P a → P' a) (ht : ∀ t, T t → T' t) {v d} (r : Reps h P T v d) : Reps h' P' T' v d := r.step (fun _ _ _ _ x y => ⟨hp _ x, k _ _ y⟩) ht
theorem Reps.length {h P T} : ∀ {vs : List Value} {ds : List D}, Reps h P T vs ds → vs.length = ds.length
  | _, _, .nil => rfl
  | _, _, .cons _ rs => by simp [rs.length]
theorem Reps.append {h P T} : ∀ {vs : List Value} {ds : List D} {vs' ds'}, Reps h P T vs ds → Reps h P T vs' ds' → Reps h P T (vs ++ vs') (ds ++ ds')
  | _, _, _, _, .nil, r => r
  | _, _, _, _, .cons r rs, r' => .cons r (rs.append r')
theorem Reps.get {h P T} : ∀ {vs : List Value} {ds : List D} (_ : Reps h P T vs ds) {i : Nat} {v : Value}, vs[i]? = some v → ∃ d, ds[i]? = some d ∧ Rep h P T v d
  | _, _, .cons r rs, 0, v, e => by simp at e; subst e; exact ⟨_, rfl, r⟩
  | _, _, .cons r rs, i + 1, v, e => by simpa using rs.get (by simpa using e)
theorem Reps.getD {h P T} : ∀ {vs : List Value} {ds : List D} (_ : Reps h P T vs ds) {i : Nat} {d : D}, ds[i]? = some d → ∃ v, vs[i]? = some v ∧ Rep h P T v d
  | _, _, .cons r rs, 0, v, e => by simp at e; subst e; exact ⟨_, rfl, r⟩
  | _, _, .cons r rs, i + 1, v, e => by simpa using rs.getD (by simpa using e)

/-- of P, or new since h -/
noncomputable def PN (P : Addr → Prop) (h : Heap) (a : Addr) : Prop := P a ∨ h.get? a = none
/-- of T, or new since s -/
noncomputable def TN (T : Tok → Prop) (s s' : Shared) (t : Tok) : Prop := T t ∨ (s.toks ≤ t ∧ t < s'.toks)
/-- lies in h -/
noncomputable def Hin (h : Heap) (a : Addr) : Prop := ∃ o, h.get? a = some o
noncomputable def Tr (_ : Nat) : Prop := True
noncomputable def Nu (_ : Nat) : Prop := False

theorem Hin.kp {h h' : Heap} (k : Kp h h') {a} (x : Hin h a) : Hin h' a := let ⟨o, e⟩ := x; ⟨o, k _ _ e⟩
theorem none_of_kp {h h' : Heap} (k : Kp h h') {a : Addr} (e : h'.get? a = none) : h.get? a = none := by
  cases q : h.get? a with
  | none => rfl
  | some o => rw [k _ _ q] at e; cases e
theorem PN.mono {P P' : Addr → Prop} {h h' : Heap} (hp : ∀ a, P a → P' a) (k : Kp h h') {a} (x : PN P h' a) : PN P' h a := x.elim (fun y => .inl (hp _ y)) fun y => .inr (none_of_kp k y)
theorem TN.mono {T T' : Tok → Prop} {s s₁ s₂ s' : Shared} (hp : ∀ a, T a → T' a) (k : s.toks ≤ s₁.toks) (k' : s₂.toks ≤ s'.toks) {a} (x : TN T s₁ s₂ a) : TN T' s s' a := x.elim (fun y => .inl (hp _ y)) fun y => .inr ⟨Nat.le_trans k y.1, Nat.lt_of_lt_of_le y.2 k'⟩

/-- the rest as it was; what stood stands -/
noncomputable def Ks (s s' : Shared) : Prop := ∃ h' tk, s' = { s with heap := h', toks := tk } ∧ Kp s.heap h' ∧ s.toks ≤ tk
theorem Ks.refl (s : Shared) : Ks s s := ⟨s.heap, s.toks, rfl, fun _ _ e => e, Nat.le_refl _⟩
theorem Ks.trans {a b c : Shared} (x : Ks a b) (y : Ks b c) : Ks a c := by
  obtain ⟨h, t, rfl, k, n⟩ := x
  obtain ⟨h', t', rfl, k', n'⟩ := y
  exact ⟨h', t', rfl, fun b o e => k' b o (k b o e), Nat.le_trans n n'⟩
theorem Ks.kp {a b : Shared} (x : Ks a b) : Kp a.heap b.heap := by obtain ⟨h, t, rfl, k, _⟩ := x; exact k
theorem Ks.le {a b : Shared} (x : Ks a b) : a.toks ≤ b.toks := by obtain ⟨h, t, rfl, _, k⟩ := x; exact k
theorem Ks.mk' {s : Shared} {h' : Heap} {t : Nat} (k : Kp s.heap h') (n : s.toks ≤ t) : Ks s { s with heap := h', toks := t } := ⟨h', t, rfl, k, n⟩
theorem Ks.push {s : Shared} {o : Obj} : Ks s { s with heap := s.heap.push o } := ⟨_, s.toks, rfl, fun _ _ e => Heap.get?_push_of_some _ e, Nat.le_refl _⟩
theorem Ks.tok {s : Shared} : Ks s { s with toks := s.toks + 1 } := ⟨s.heap, _, rfl, fun _ _ e => e, Nat.le_succ _⟩
theorem Ks.tok2 {s : Shared} : Ks s { s with toks := s.toks + 1 + 1 } := ⟨s.heap, _, rfl, fun _ _ e => e, by show s.toks ≤ s.toks + 1 + 1; omega⟩
theorem get_size_none (h : Heap) : h.get? h.objs.size = none := by
  cases q : h.get? h.objs.size with
  | none => rfl
  | some o => exact absurd (Heap.lt_size q) (Nat.lt_irrefl _)

noncomputable abbrev NoE : Value → Shared → Prop := fun _ _ => False
/-- comes back with d, made of what P, T hold or of new objects -/
noncomputable def Rt (P : Addr → Prop) (T : Tok → Prop) (s : Shared) (d : D) (v : Value) (s' : Shared) : Prop := Ks s s' ∧ Rep s'.heap (PN P s.heap) (TN T s s') v d
noncomputable def Rts (P : Addr → Prop) (T : Tok → Prop) (s : Shared) (d : List D) (v : List Value) (s' : Shared) : Prop := Ks s s' ∧ Reps s'.heap (PN P s.heap) (TN T s s') v d
theorem tr_all {α : Nat → Prop} : ∀ a, α a → Tr a := fun _ _ => trivial
theorem nu_all {α : Nat → Prop} : ∀ a, Nu a → α a := fun _ x => x.elim

/-- a later result, of things that were new or P's, seen from the start -/
theorem Rt.from {P P' : Addr → Prop} {T T' : Tok → Prop} {s s₁ s₂ : Shared} {d v} (k : Ks s s₁) (r : Rt P' T' s₁ d v s₂) (hp : ∀ a, P' a → PN P s.heap a) (ht : ∀ a, T' a → TN T s s₁ a) : Rt P T s d v s₂ :=
  ⟨k.trans r.1, r.2.kp (Kp.refl _) (fun _ x => x.elim (fun y => hp _ y) fun y => .inr (none_of_kp k.kp y)) fun _ x => x.elim (fun y => (ht _ y).mono (fun _ z => z) (Nat.le_refl _) r.1.le) fun y => .inr ⟨Nat.le_trans k.le y.1, y.2⟩⟩
theorem Rt.mono {P P' : Addr → Prop} {T T' : Tok → Prop} {s s₂ : Shared} {d v} (r : Rt P' T' s d v s₂) (hp : ∀ a, P' a → P a) (ht : ∀ a, T' a → T a) : Rt P T s d v s₂ :=
  ⟨r.1, r.2.kp (Kp.refl _) (fun _ x => x.mono hp (Kp.refl _)) fun _ x => x.mono ht (Nat.le_refl _) (Nat.le_refl _)⟩
theorem Rt.nu {P : Addr → Prop} {T : Tok → Prop} {s s₂ : Shared} {d v} (r : Rt Nu Nu s d v s₂) : Rt P T s d v s₂ := r.mono nu_all nu_all

section
variable (prog : Program) (w : World) (A : Around) (env : Env) (hB : Heap) (T : Tok → Prop)
structure EV (e : Expr) (d : D) : Prop where
  h : ∀ s, Kp hB s.heap → wpAny (model prog w) A (eval e env) (Rt (Hin hB) T s d) NoE s
structure EVs (es : List Expr) (ds : List D) : Prop where
  h : ∀ s pos, Kp hB s.heap → wpAny (model prog w) A (spliced (backTo pos (starEach es env))) (Rts (Hin hB) T s ds) NoE s
structure EB (e : Expr) (b : Bool) : Prop where
  h : ∀ s, Kp hB s.heap → wpAny (model prog w) A (isTrue e env (eval e env)) (fun r s' => Ks s s' ∧ r = b) NoE s
structure EAnd (es : List Expr) (b : Bool) : Prop where
  h : ∀ s, Kp hB s.heap → wpAny (model prog w) A (allTrue .And es env) (fun r s' => Ks s s' ∧ r = b) NoE s
/-- an operation that hands back a scalar, or what is new -/
noncomputable def BinN (op : Operator) (a b d : D) : Prop := ∀ s va vb, Rep s.heap Tr Tr va a → Rep s.heap Tr Tr vb b → wpAny (model prog w) A (binaryOp op va vb) (Rt Nu Nu s d) NoE s
noncomputable def BinR (op : Operator) (a b d : D) : Prop := ∀ P T s va vb, Rep s.heap P T va a → Rep s.heap P T vb b → wpAny (model prog w) A (binaryOp op va vb) (Rt P T s d) NoE s
noncomputable def CmpR (op : CmpOp) (a b : D) (c : Bool) : Prop := ∀ s va vb, Rep s.heap Tr Tr va a → Rep s.heap Tr Tr vb b → wpAny (model prog w) A (compareOp op va vb) (fun v s' => Ks s s' ∧ v = .bool c) NoE s
/-- a call that hands back what is new -/
noncomputable def CallN (f : Value) (ds : List D) (d : D) : Prop := ∀ s vs, Kp hB s.heap → Reps s.heap Tr Tr vs ds → wpAny (model prog w) A (call f vs) (Rt Nu Nu s d) NoE s
end

section
variable {prog : Program} {w : World} {A : Around} {env : Env} {hB : Heap} {T : Tok → Prop}

theorem mono' {α : Type} {M : Model} {t : Sem α} {Q R : α → Shared → Prop} {E : Value → Shared → Prop} {s : Shared} (h : wpAny M A t Q NoE s) (hk : ∀ a s', Q a s' → R a s') : wpAny M A t R E s := wpAny_mono h hk fun _ _ x => x.elim
/-- tokens only grow -/
theorem toks' {α : Type} {M : Model} {t : Sem α} {Q : α → Shared → Prop} {s : Shared} (h : wpAny M A t (fun a s' => s.toks ≤ s'.toks → Q a s') NoE s) : wpAny M A t Q NoE s :=
  wpAny_with_toks (Nat.le_refl _) (wpAny_mono h (fun _ _ x => x) fun _ _ x => x.elim)

theorem EV.int {i k pos} : EV prog w A env hB T (.Constant (.int i) k pos) (.int i) := ⟨fun s _ => wpAny_Constant_int ⟨.tok, .int _ _ (.inr ⟨Nat.le_refl _, Nat.lt_succ_self _⟩)⟩⟩
theorem EV.flt {x k pos} : EV prog w A env hB T (.Constant (.float x) k pos) (.flt x) := ⟨fun _ _ => AutoFloatOps.wpAny_Constant_float ⟨.tok, .flt _ _⟩⟩
theorem EV.str {x k pos} : EV prog w A env hB T (.Constant (.str x) k pos) (.str x) := ⟨fun _ _ => wpAny_Constant_str ⟨.tok, .str _ _⟩⟩
theorem EV.bool {b k pos} : EV prog w A env hB T (.Constant (.bool b) k pos) (.bool b) := ⟨fun _ _ => wpAny_Constant_bool ⟨.refl _, .bool _⟩⟩
theorem EV.weak {T' : Tok → Prop} {e d} (h : EV prog w A env hB T' e d) (ht : ∀ t, T' t → T t) : EV prog w A env hB T e d := ⟨fun s hk => mono' (h.h s hk) fun _ _ x => x.mono (fun _ y => y) ht⟩

theorem EV.binop {op l r pos a b d} (hl : EV prog w A env hB Tr l a) (hr : EV prog w A env hB Tr r b) (ho : BinN prog w A op a b d) : EV prog w A env hB T (.BinOp l op r pos) d := by
  refine ⟨fun s hk => ?_⟩
  refine wpAny_BinOp (mono' (hl.h s hk) fun va s₁ h₁ => mono' (hr.h s₁ (hk.trans h₁.1.kp)) fun vb s₂ h₂ => ?_)
  refine mono' (ho s₂ va vb (h₁.2.kp h₂.1.kp tr_all tr_all) (h₂.2.kp (Kp.refl _) tr_all tr_all)) fun v s₃ h₃ => ?_
  exact Rt.from (h₁.1.trans h₂.1) h₃ nu_all nu_all
theorem EV.binopR {op l r pos a b d} (hl : EV prog w A env hB T l a) (hr : EV prog w A env hB T r b) (ho : BinR prog w A op a b d) : EV prog w A env hB T (.BinOp l op r pos) d := by
  refine ⟨fun s hk => ?_⟩
  refine wpAny_BinOp (mono' (hl.h s hk) fun va s₁ h₁ => mono' (hr.h s₁ (hk.trans h₁.1.kp)) fun vb s₂ h₂ => ?_)
  refine mono' (ho (PN (Hin hB) s.heap) (TN T s s₂) s₂ va vb (h₁.2.kp h₂.1.kp (fun _ x => x) fun _ x => x.mono (fun _ y => y) (Nat.le_refl _) h₂.1.le) (h₂.2.kp (Kp.refl _) (fun _ x => x.mono (fun _ y => y) h₁.1.kp) fun _ x => x.mono (fun _ y => y) h₁.1.le (Nat.le_refl _))) fun v s₃ h₃ => ?_
  exact Rt.from (h₁.1.trans h₂.1) h₃ (fun _ x => x) fun _ x => x

theorem EV.cmp {op l r pos a b c} (hl : EV prog w A env hB Tr l a) (hr : EV prog w A env hB Tr r b) (ho : CmpR prog w A op a b c) (hm : behindInMarks op r = false := by rfl) : EV prog w A env hB T (.Compare l [op] [r] pos) (.bool c) := by
  refine ⟨fun s hk => ?_⟩
  refine wpAny_Compare1 (mono' (hl.h s hk) fun va s₁ h₁ => mono' (hr.h s₁ (hk.trans h₁.1.kp)) fun vb s₂ h₂ => ?_) hm
  refine mono' (ho s₂ va vb (h₁.2.kp h₂.1.kp tr_all tr_all) (h₂.2.kp (Kp.refl _) tr_all tr_all)) fun v s₃ h₃ => ?_
  obtain ⟨k, rfl⟩ := h₃
  exact ⟨(h₁.1.trans h₂.1).trans k, .bool _⟩
theorem EB.cmp {op l r pos a b c} (hl : EV prog w A env hB Tr l a) (hr : EV prog w A env hB Tr r b) (ho : CmpR prog w A op a b c) (hm : behindInMarks op r = false := by rfl) : EB prog w A env hB (.Compare l [op] [r] pos) c := by
  refine ⟨fun s hk => ?_⟩
  refine wpAny_isTrue_Compare1 (mono' (hl.h s hk) fun va s₁ h₁ => mono' (hr.h s₁ (hk.trans h₁.1.kp)) fun vb s₂ h₂ => ?_) hm
  refine mono' (ho s₂ va vb (h₁.2.kp h₂.1.kp tr_all tr_all) (h₂.2.kp (Kp.refl _) tr_all tr_all)) fun v s₃ h₃ => ?_
  obtain ⟨k, rfl⟩ := h₃
  exact wpAny_truthy_bool ⟨(h₁.1.trans h₂.1).trans k, rfl⟩
theorem EB.val {e b} (h : EV prog w A env hB Tr e (.bool b)) (he : ∀ whole, isTrue e env whole = (do let v ← whole; standAt e.pos; holding [v] (truthy v)) := by intro _; rfl) : EB prog w A env hB e b := by
  refine ⟨fun s hk => ?_⟩
  refine wpAny_isTrue_value (mono' (h.h s hk) fun v s₁ h₁ => ?_) (he _)
  obtain ⟨k, r⟩ := h₁
  cases r
  exact wpAny_truthy_bool ⟨k, rfl⟩
theorem EB.not {e pos b} (h : EB prog w A env hB e b) : EB prog w A env hB (.UnaryOp .Not e pos) (!b) := by
  refine ⟨fun s hk => ?_⟩
  exact wpAny_isTrue_Not (mono' (h.h s hk) fun r s' h' => ⟨h'.1, by rw [h'.2]⟩)
theorem EAnd.nil : EAnd prog w A env hB [] true := ⟨fun _ _ => wpAny_allTrue_And_nil ⟨.refl _, rfl⟩⟩
theorem EAnd.cons {e es b c} (h : EB prog w A env hB e b) (hr : b = true → EAnd prog w A env hB es c) : EAnd prog w A env hB (e :: es) (b && c) := by
  refine ⟨fun s hk => ?_⟩
  refine wpAny_allTrue_And_cons (mono' (h.h s hk) fun r s' h' => ?_)
  obtain ⟨k, rfl⟩ := h'
  cases r with
  | false => exact ⟨k, rfl⟩
  | true => exact mono' ((hr rfl).h s' (hk.trans k.kp)) fun r s'' h'' => ⟨k.trans h''.1, h''.2⟩
theorem EB.and {es pos b} (h : EAnd prog w A env hB es b) : EB prog w A env hB (.BoolOp .And es pos) b := ⟨fun s hk => wpAny_isTrue_BoolOp (h.h s hk)⟩

theorem EVs.nil : EVs prog w A env hB T [] [] := ⟨fun _ _ _ => wpAny_items_nil ⟨.refl _, .nil⟩⟩
theorem EVs.cons {e es d ds} (h : EV prog w A env hB T e d) (hs : EVs prog w A env hB T es ds) (he : starEach (e :: es) env = (false, eval e env) :: starEach es env := by rfl) : EVs prog w A env hB T (e :: es) (d :: ds) := by
  refine ⟨fun s pos hk => ?_⟩
  refine wpAny_items_cons (mono' (h.h s hk) fun v s₁ h₁ => mono' (hs.h s₁ pos (hk.trans h₁.1.kp)) fun vs s₂ h₂ => ?_) he
  exact ⟨h₁.1.trans h₂.1, .cons (h₁.2.kp h₂.1.kp (fun _ x => x) fun _ x => x.mono (fun _ y => y) (Nat.le_refl _) h₂.1.le) (h₂.2.kp (Kp.refl _) (fun _ x => x.mono (fun _ y => y) h₁.1.kp) fun _ x => x.mono (fun _ y => y) h₁.1.le (Nat.le_refl _))⟩

theorem EV.tup {es k pos ds} (h : EVs prog w A env hB T es ds) (hl : ds.length ≤ sizeLine := by size_fits) : EV prog w A env hB T (.Tuple es k pos) (.tup ds) := by
  refine ⟨fun s hk => ?_⟩
  refine wpAny_Tuple (mono' (h.h s pos hk) fun vs s₁ h₁ => ⟨by rw [h₁.2.length]; exact hl, h₁.1.trans .push, ?_⟩)
  exact .tup (n := 0) (.inr (none_of_kp h₁.1.kp (get_size_none _))) (Heap.get?_push_size _ rfl) (h₁.2.kp (fun _ _ e => Heap.get?_push_of_some _ e) (fun _ x => x) fun _ x => x)
theorem EV.lst {es pos ds} (h : EVs prog w A env hB T es ds) (hl : ds.length ≤ sizeLine := by size_fits) : EV prog w A env hB T (.List es pos) (.lst ds) := by
  refine ⟨fun s hk => ?_⟩
  refine wpAny_List (mono' (h.h s pos hk) fun vs s₁ h₁ => ⟨by rw [h₁.2.length]; exact hl, h₁.1.trans .push, ?_⟩)
  exact .lst (n := 0) (.inr (none_of_kp h₁.1.kp (get_size_none _))) (Heap.get?_push_size _ rfl) (h₁.2.kp (fun _ _ e => Heap.get?_push_of_some _ e) (fun _ x => x) fun _ x => x)

/-- the name x of the frame, or of a cell of it, holds d -/
noncomputable def Nm (env : Env) (hB : Heap) (T : Tok → Prop) (x : PySem.Str) (d : D) : Prop := env.scope.kind = .function ∧ ∃ v, Rep hB (Hin hB) T v d ∧
  ((env.kindOf x = some .local ∧ ∃ m, hB.Ns env.locals m ∧ m x = some v) ∨ (env.kindOf x = some .cell ∧ ∃ c, env.cells.lookup x = some c ∧ hB.IsCell c (some v)))
theorem Nm.load {x d} (h : Nm env hB T x d) (s : Shared) (hk : Kp hB s.heap) {E} {Q : Value → Shared → Prop} (hQ : ∀ v, Rep hB (Hin hB) T v d → Q v s) : wpAny (model prog w) A (loadName env x) Q E s := by
  obtain ⟨hf, v, hr, h | h⟩ := h
  · obtain ⟨hl, m, hn, hv⟩ := h
    exact wpAny_loadName_local hf hl (hn.keeps hk) hv (hQ v hr)
  · obtain ⟨hl, c, hc, hv⟩ := h
    exact wpAny_loadName_cell hf hl hc (hv.keeps hk) (hQ v hr)
theorem Nm.weak {T' : Tok → Prop} {x d} (h : Nm env hB T' x d) (ht : ∀ t, T' t → T t) : Nm env hB T x d := by
  obtain ⟨hf, v, hr, h⟩ := h
  exact ⟨hf, v, hr.kp (Kp.refl _) (fun _ x => x) ht, h⟩
theorem EV.name {x pos d} (h : Nm env hB T x d) (hd : (x == ("__debug__" : PySem.Str)) = false := by decide) : EV prog w A env hB T (.Name x pos) d := by
  refine ⟨fun s hk => ?_⟩
  exact wpAny_Name (h.load s hk fun v hr => ⟨.refl _, hr.kp hk (fun _ x => .inl x) fun _ x => .inl x⟩) hd

theorem EV.sub {value slice pos a i d} (hv : EV prog w A env hB T value a) (hs : EV prog w A env hB Tr slice i)
    (hg : ∀ P T s va vi, Rep s.heap P T va a → Rep s.heap Tr Tr vi i → wpAny (model prog w) A (subscriptTail value slice va vi) (fun v s' => s' = s ∧ Rep s.heap P T v d) NoE s) : EV prog w A env hB T (.Subscript value slice pos) d := by
  refine ⟨fun s hk => ?_⟩
  refine Subscript_ (mono' (hv.h s hk) fun va s₁ h₁ => mono' (hs.h s₁ (hk.trans h₁.1.kp)) fun vb s₂ h₂ => ?_)
  refine mono' (hg (PN (Hin hB) s.heap) (TN T s s₂) s₂ va vb (h₁.2.kp h₂.1.kp (fun _ x => x) fun _ x => x.mono (fun _ y => y) (Nat.le_refl _) h₂.1.le) (h₂.2.kp (Kp.refl _) tr_all tr_all)) fun v s₃ h₃ => ?_
  obtain ⟨rfl, h₃⟩ := h₃
  exact ⟨h₁.1.trans h₂.1, h₃⟩

theorem EV.item {value slice pos ds} {i : Int} {d} (hv : EV prog w A env hB T value (.lst ds) ∨ EV prog w A env hB T value (.tup ds)) (hs : EV prog w A env hB Tr slice (.int i)) (h0 : 0 ≤ i) (hi : i < 2 ^ 63) (hd : ds[i.toNat]? = some d)
    (hsub : ∀ o v, subscripted slice false o v = operate [o, v] (getItem o v) := by intro _ _; rfl) : EV prog w A env hB T (.Subscript value slice pos) d := by
  rcases hv with hv | hv
  · refine EV.sub hv hs fun P T s va vi ra ri => ?_
    cases ri with | int _ t _ => ?_
    cases ra with | lst hp hg hr => ?_
    obtain ⟨v, hx, hrv⟩ := hr.getD hd
    have hl : s.heap.IsList _ _ := ⟨_, hg, rfl, _, rfl⟩
    exact tail_any hl.typeIs slot_list_getitem.lookup (wpAny_getItem_list (x := v) hl h0 hi (by simpa using hx) ⟨rfl, hrv⟩) (hsub _ _)
  · refine EV.sub hv hs fun P T s va vi ra ri => ?_
    cases ri with | int _ t _ => ?_
    cases ra with | tup hp hg hr => ?_
    obtain ⟨v, hx, hrv⟩ := hr.getD hd
    have hl : IsTup s.heap _ _ := ⟨_, hg, rfl, _, rfl⟩
    have hlt := (List.getElem?_eq_some_iff.mp hx).1
    exact tail_any hl.typeIs slot_tuple_getitem.lookup (getItem_tuple (j := i.toNat) (x := v) hl (by omega) hi (by simp [seqIndex?]; omega) (by simpa using hx) ⟨rfl, hrv⟩) (hsub _ _)

/-! callables by name -/
noncomputable def Gn (env : Env) (hB : Heap) (x : PySem.Str) (v : Value) : Prop := env.scope.kind = .function ∧ env.kindOf x = some .globalImplicit ∧ ∃ mg, hB.Ns env.globals mg ∧ (mg x = some v ∨ (mg x = none ∧ ∃ mb, hB.Ns env.builtins mb ∧ mb x = some v))
theorem Gn.eval {x pos v} (h : Gn env hB x v) {s : Shared} (hk : Kp hB s.heap) {E} {Q : Value → Shared → Prop} (hQ : Q v s) (hd : (x == ("__debug__" : PySem.Str)) = false) : wpAny (model prog w) A (eval (.Name x pos) env) Q E s := by
  obtain ⟨hf, hx, mg, hg, h | ⟨h, mb, hb, hv⟩⟩ := h
  · exact Calls.Name_function_global hf hx (Calls.loadGlobal_global (hg.keeps hk) h hQ) hd
  · exact Calls.Name_function_global hf hx (Calls.loadGlobal_builtin (hg.keeps hk) h (hb.keeps hk) hv hQ) hd
theorem EV.gflt {x pos b t} (h : Gn env hB x (.float b t)) (hd : (x == ("__debug__" : PySem.Str)) = false := by decide) : EV prog w A env hB T (.Name x pos) (.flt b) := ⟨fun s hk => h.eval hk ⟨.refl _, .flt _ _⟩ hd⟩

noncomputable def Fn (hB : Heap) (a : Addr) : Prop := ∃ o fd, hB.get? a = some o ∧ o.data = .func fd
theorem EV.callf {x np e es pos fa ds d} (h : Gn env hB x (.ref fa)) (hf : Fn hB fa) (hs : EVs prog w A env hB Tr (e :: es) ds) (hc : CallN prog w A hB (.ref fa) ds d)
    (hd : (x == ("__debug__" : PySem.Str)) = false := by decide) (he : starEach (e :: es) env = (false, eval e env) :: starEach es env := by rfl) : EV prog w A env hB T (.Call (.Name x np) (e :: es) [] pos) d := by
  refine ⟨fun s hk => ?_⟩
  obtain ⟨o, fd, ho, hfd⟩ := hf
  refine wpAny_Call_ofName (h.eval hk ?_ hd)
  refine callWith_def hfd (mono' (hs.h s pos hk) fun vs s₁ h₁ => ⟨h₁.1.kp _ _ (hk _ _ ho), ?_⟩) he
  exact mono' (hc s₁ vs (hk.trans h₁.1.kp) (h₁.2.kp (Kp.refl _) tr_all tr_all)) fun v s₂ h₂ => Rt.from h₁.1 h₂ nu_all nu_all
theorem EV.callb {x np e es pos id ds d} (h : Gn env hB x (.builtin id)) (hs : EVs prog w A env hB T (e :: es) ds)
    (hc : ∀ P T s vs, Reps s.heap P T vs ds → wpAny (model prog w) A (call (.builtin id) vs) (Rt P T s d) NoE s)
    (hd : (x == ("__debug__" : PySem.Str)) = false := by decide) (he : starEach (e :: es) env = (false, eval e env) :: starEach es env := by rfl) (hplain : ∀ pos, (backTo pos (starEach es env)).any (·.1) = false := by intro _; rfl) : EV prog w A env hB T (.Call (.Name x np) (e :: es) [] pos) d := by
  refine ⟨fun s hk => ?_⟩
  refine wpAny_Call_ofName (h.eval hk ?_ hd)
  refine callWith_builtin1 (mono' (hs.h s pos hk) fun vs s₁ h₁ => ?_) he (hplain pos)
  exact mono' (hc _ _ s₁ vs h₁.2) fun v s₂ h₂ => Rt.from h₁.1 h₂ (fun _ x => x) fun _ x => x
end
end Mine
end

section
namespace Mine
section
variable {prog : Program} {w : World} {A : Around} {env : Env} {hB : Heap} {T : Tok → Prop}

theorem rtI {P T s} {i : Int} : Rt P T s (.int i) (.int i s.toks) { s with toks := s.toks + 1 } := ⟨.tok, .int _ _ (.inr ⟨Nat.le_refl _, Nat.lt_succ_self _⟩)⟩
theorem rtF {P T s} {x : UInt64} : Rt P T s (.flt x) (.float x s.toks) { s with toks := s.toks + 1 } := ⟨.tok, .flt _ _⟩

theorem BinN.addI {a b : Int} : BinN prog w A .Add (.int a) (.int b) (.int (a + b)) := fun s va vb ra rb => by cases ra; cases rb; exact add_int rtI
theorem BinN.subI {a b : Int} : BinN prog w A .Sub (.int a) (.int b) (.int (a - b)) := fun s va vb ra rb => by cases ra; cases rb; exact PyProof.Rows.sub_int rtI
theorem BinN.mulI {a b : Int} (hm : IntMulOk a b := by mul_fits) : BinN prog w A .Mult (.int a) (.int b) (.int (a * b)) := fun s va vb ra rb => by cases ra; cases rb; exact PyProof.Rows.mul_int rtI hm
theorem BinN.modI {a b : Int} (hb : b ≠ 0) : BinN prog w A .Mod (.int a) (.int b) (.int (a.fmod b)) := fun s va vb ra rb => by cases ra; cases rb; exact PyProof.Rows.mod_int hb rtI
theorem BinN.fdivI {a b : Int} (hb : b ≠ 0) (hp : b.natAbs < 1073741824) : BinN prog w A .FloorDiv (.int a) (.int b) (.int (a.fdiv b)) := fun s va vb ra rb => by cases ra; cases rb; exact PyProof.Rows.floordiv_int hb rtI (.inl (PyProof.noPylong_small hp))
theorem BinN.divI {a b : Int} (hb : ¬(b == 0) = true) (hi : ¬Float64.isInf (Float64.ofFrac (decide (a < 0) != decide (b < 0)) a.natAbs b.natAbs) = true) : BinN prog w A .Div (.int a) (.int b) (.flt (Float64.ofFrac (decide (a < 0) != decide (b < 0)) a.natAbs b.natAbs)) :=
  fun s va vb ra rb => by cases ra; cases rb; exact AutoIntOps.truediv_2 hb hi rtF
theorem BinN.addF {a b : UInt64} : BinN prog w A .Add (.flt a) (.flt b) (.flt (Float64.add a b)) := fun s va vb ra rb => by cases ra; cases rb; exact add_float rtF
theorem BinN.subF {a b : UInt64} : BinN prog w A .Sub (.flt a) (.flt b) (.flt (Float64.sub a b)) := fun s va vb ra rb => by cases ra; cases rb; exact sub_float rtF
theorem BinN.mulF {a b : UInt64} : BinN prog w A .Mult (.flt a) (.flt b) (.flt (Float64.mul a b)) := fun s va vb ra rb => by cases ra; cases rb; exact mul_float rtF
theorem BinN.divF {a b : UInt64} (hb : ¬Float64.isZero b = true) : BinN prog w A .Div (.flt a) (.flt b) (.flt (Float64.div a b)) := fun s va vb ra rb => by cases ra; cases rb; exact AutoFloatOps.truediv_1 hb rtF
theorem BinN.modF {a b : UInt64} (hb : ¬Float64.isZero b = true) : BinN prog w A .Mod (.flt a) (.flt b) (.flt (Float64.divmod a b).snd) := fun s va vb ra rb => by cases ra; cases rb; exact AutoFloatOps.mod_1 hb rtF
theorem BinN.mulFI {a : UInt64} {n : Int} (hfit : n.natAbs < 2 ^ 1023) : BinN prog w A .Mult (.flt a) (.int n) (.flt (Float64.mul a (Float64.ofInt n))) := fun s va vb ra rb => by cases ra; cases rb; exact mul_fi_fits hfit rtF

theorem BinR.cat {a b : List D} (hl : a.length + b.length ≤ sizeLine) : BinR prog w A .Add (.lst a) (.lst b) (.lst (a ++ b)) := by
  intro P T s va vb ra rb
  cases ra with | @lst la xs _ n pa ga ra => ?_
  cases rb with | @lst lb ys _ m pb gb rb => ?_
  refine PySem.P.add_list ga gb ⟨.push, ?_⟩ (by rw [List.size_toArray, List.size_toArray, ra.length, rb.length]; exact hl)
  have k : Kp s.heap (s.heap.push { cls := .type "list", data := .seq (xs.toArray ++ ys.toArray) }) := fun _ _ e => Heap.get?_push_of_some _ e
  refine .lst (vs := xs ++ ys) (n := 0) (.inr (get_size_none _)) ?_ ((ra.append rb).kp k (fun _ x => .inl x) fun _ x => .inl x)
  show (s.heap.push _).get? s.heap.objs.size = _
  rw [Heap.get?_push_size _ rfl]; simp

theorem CmpR.leI {a b : Int} : CmpR prog w A .LtE (.int a) (.int b) (decide (a ≤ b)) := fun s va vb ra rb => by cases ra; cases rb; exact PyProof.Rows.le_int ⟨.refl _, rfl⟩
theorem CmpR.geI {a b : Int} : CmpR prog w A .GtE (.int a) (.int b) (decide (b ≤ a)) := fun s va vb ra rb => by cases ra; cases rb; exact PyProof.Rows.ge_int ⟨.refl _, rfl⟩
theorem CmpR.ltI {a b : Int} : CmpR prog w A .Lt (.int a) (.int b) (decide (a < b)) := fun s va vb ra rb => by cases ra; cases rb; exact PyProof.Rows.lt_int ⟨.refl _, rfl⟩
theorem CmpR.gtI {a b : Int} : CmpR prog w A .Gt (.int a) (.int b) (decide (b < a)) := fun s va vb ra rb => by cases ra; cases rb; exact PyProof.Rows.gt_int ⟨.refl _, rfl⟩
theorem CmpR.eqI {a b : Int} : CmpR prog w A .Eq (.int a) (.int b) (a == b) := fun s va vb ra rb => by cases ra; cases rb; exact PyProof.Rows.eq_int ⟨.refl _, rfl⟩
theorem CmpR.neI {a b : Int} : CmpR prog w A .NotEq (.int a) (.int b) (a != b) := fun s va vb ra rb => by cases ra; cases rb; exact PyProof.Rows.ne_int ⟨.refl _, rfl⟩
theorem CmpR.leF {a b : UInt64} : CmpR prog w A .LtE (.flt a) (.flt b) (Float64.cmp a b == some Ordering.lt || Float64.cmp a b == some Ordering.eq) := fun s va vb ra rb => by cases ra; cases rb; exact AutoFloatOps.le_0 ⟨.refl _, rfl⟩
theorem CmpR.ltF {a b : UInt64} : CmpR prog w A .Lt (.flt a) (.flt b) (Float64.cmp a b == some Ordering.lt) := fun s va vb ra rb => by cases ra; cases rb; exact AutoFloatOps.lt_0 ⟨.refl _, rfl⟩
theorem CmpR.eqF {a b : UInt64} : CmpR prog w A .Eq (.flt a) (.flt b) (Float64.cmp a b == some Ordering.eq) := fun s va vb ra rb => by cases ra; cases rb; exact AutoFloatOps.eq_0 ⟨.refl _, rfl⟩
theorem CmpR.leS {a b : PySem.Str} : CmpR prog w A .LtE (.str a) (.str b) (!(b.cps.toList < a.cps.toList)) := fun s va vb ra rb => by cases ra; cases rb; exact P.le_str ⟨.refl _, rfl⟩
theorem CmpR.eqB {a b : Bool} : CmpR prog w A .Eq (.bool a) (.bool b) (a == b) := fun s va vb ra rb => by cases ra; cases rb; exact PyProof.Rows.eq_bool ⟨.refl _, rfl⟩

theorem intsAre {h P T} : ∀ {ns : List Int} {vs : List Value}, Reps h P T vs (ns.map .int) → IntsAre vs ns
  | [], _, .nil => .nil
  | _ :: _, _, .cons (.int i t _) rs => .cons i t (intsAre rs)
theorem ofInts {h P T} : ∀ {ns : List Int} {vs : List Value}, Reps h P T vs (ns.map .int) → ∃ as, ReadsAll h vs (ns.map PyData.int) as
  | [], _, .nil => ⟨_, .nil⟩
  | _ :: _, _, .cons (.int i t _) rs => let ⟨_, r⟩ := ofInts rs; ⟨_, .cons (.int i t) r⟩

theorem CmpR.inL {k : Int} {ns : List Int} : CmpR prog w A .In (.int k) (.lst (ns.map .int)) (ns.any (· == k)) := by
  intro s va vb ra rb
  cases ra with | int _ t _ => ?_
  cases rb with | lst _ gb rb => ?_
  exact in_list_ints ⟨_, gb, rfl, _, rfl⟩ (intsAre rb) ⟨.refl _, rfl⟩
theorem CmpR.inT {k : Int} {ns : List Int} : CmpR prog w A .In (.int k) (.tup (ns.map .int)) (ns.any (· == k)) := by
  intro s va vb ra rb
  cases ra with | int _ t _ => ?_
  cases rb with | tup _ gb rb => ?_
  refine SeqAt.in_tupleAt (isInt k) ⟨_, gb, rfl, _, rfl⟩ (fun y hy => (eq_isInt k t (intsAre rb) y (by simpa using hy)).at _ _) ?_
  rw [← Array.any_toList, any_isInt k (intsAre rb)]
  exact ⟨.refl _, rfl⟩
theorem CmpR.neT2 {a b : Int} (hu : A.units + 10 < cLine) : CmpR prog w A .NotEq (.tup [.int a, .int b]) (.tup [.int a, .int b]) false := by
  intro s va vb ra rb
  cases ra with | tup _ ga ra => ?_
  cases rb with | tup _ gb rb => ?_
  obtain ⟨as, ha⟩ := ofInts (ns := [a, b]) ra
  obtain ⟨bs, hb⟩ := ofInts (ns := [a, b]) rb
  refine SeqAt.compareNe_reads (da := .tuple [.int a, .int b]) (db := .tuple [.int a, .int b]) (.tuple ga rfl rfl ha) (.tuple gb rfl rfl hb) rfl rfl (by simp [PyData.depth, PyData.depthAll]; omega) ⟨.refl _, ?_⟩
  simp [PyData.eqv, PyData.eqvAll]
theorem CmpR.eqNil {d : D} {ds : List D} (hu : A.units < cLine) : CmpR prog w A .Eq (.lst (d :: ds)) (.lst []) false := by
  intro s va vb ra rb
  cases ra with | lst _ ga ra => ?_
  cases rb with | lst _ gb rb => ?_
  cases ra; cases rb
  exact SeqAt.eq_list_lengthsAt ⟨_, ga, rfl, _, rfl⟩ ⟨_, gb, rfl, _, rfl⟩ (by simp) hu ⟨.refl _, rfl⟩

theorem callLen {ds : List D} (hl : ds.length ≤ 1000000) : ∀ P T s vs, Reps s.heap P T vs [.lst ds] → wpAny (model prog w) A (call (.builtin "len") vs) (Rt P T s (.int ds.length)) NoE s := by
  intro P T s vs r
  cases r with | cons r rs => ?_
  cases rs
  cases r with | lst _ g r => ?_
  have e := r.length
  refine PySem.Calls.call_len_list ⟨_, g, rfl, _, rfl⟩ (by rw [List.size_toArray]; omega) ⟨.tok2, ?_⟩
  rw [List.size_toArray, e]
  exact .int _ _ (.inr ⟨Nat.le_succ _, Nat.lt_succ_self _⟩)
end
end Mine
end

section
namespace Mine

noncomputable def hidObj : Obj := { cls := .none, dict := .none, data := .freed, slots := #[] }
open Classical in
noncomputable def restr (h : Heap) (P : Addr → Prop) : Heap := ⟨h.objs.mapIdx fun i o => if P i then o else hidObj, h.life⟩
open Classical in
theorem restr_get (h : Heap) (P : Addr → Prop) (a : Addr) : (restr h P).get? a = if P a then h.get? a else none := by
  unfold restr Heap.get?
  simp only [Array.getElem?_mapIdx]
  cases e : h.objs[a]? with
  | none => simp
  | some o =>
    by_cases hp : P a
    · simp [hp]
    · simp [hp, hidObj]
theorem restr_pos {h : Heap} {P : Addr → Prop} {a : Addr} {o : Obj} (hp : P a) (e : h.get? a = some o) : (restr h P).get? a = some o := by
  rw [restr_get, if_pos hp]; exact e
theorem restr_kp (h : Heap) (P : Addr → Prop) : Kp (restr h P) h := fun b o e => by
  rw [restr_get] at e
  split at e
  · exact e
  · cases e
theorem restr_in {h : Heap} {P : Addr → Prop} {a : Addr} (x : Hin (restr h P) a) : P a := by
  obtain ⟨o, e⟩ := x
  rw [restr_get] at e
  split at e
  · assumption
  · cases e

/-- no seq object stands there -/
noncomputable def NoSeq (h : Heap) (b : Addr) : Prop := ∀ c xs n, h.get? b ≠ some { cls := c, dict := .none, data := .seq xs n, slots := #[] }
theorem noSeq_ns {h : Heap} {C m} (hn : h.Ns C m) : NoSeq h C := fun c xs n e => by
  obtain ⟨o, es, ep, ho, hd, _⟩ := hn
  rw [e] at ho; cases ho; cases hd

structure ETs (prog : Program) (w : World) (A : Around) (env : Env) (hB : Heap) (lo : Nat) (ifs : List Expr) (b : Bool) : Prop where
  h : ∀ s, Kp hB s.heap → lo ≤ s.toks → wpAny (model prog w) A (forIn ifs true fun c r => if r = true then do let ok ← isTrue c env (eval c env); pure (ForInStep.yield ok) else pure (ForInStep.yield r)) (fun r s' => Ks s s' ∧ r = b) NoE s
theorem ETs.nil {prog w A env hB lo} : ETs prog w A env hB lo [] true := ⟨fun _ _ _ => wpAny_tests_nil ⟨.refl _, rfl⟩⟩
theorem ETs.one {prog w A env hB lo c b} (h : EB prog w A env hB c b) : ETs prog w A env hB lo [c] b := ⟨fun s hk _ => wpAny_tests_one (h.h s hk)⟩
theorem ETs.weak {prog w A env hB lo lo' ifs b} (h : ETs prog w A env hB lo ifs b) (hl : lo ≤ lo') : ETs prog w A env hB lo' ifs b := ⟨fun s hk hs => h.h s hk (Nat.le_trans hl hs)⟩

/-- what a loop over an iterator at I wants to know -/
structure Src (prog : Program) (w : World) (A : Around) (hB : Heap) (T : Tok → Prop) (s s₂ : Shared) (I : Addr) (fp wr : List Addr) (n : Nat) (Pv : Nat → Value → Prop) (St : Nat → Heap → Prop) (ds : List D) : Prop where
  W : Walks prog w A I fp wr n Pv St
  st : St 0 s₂.heap
  fpLt : ∀ b ∈ fp, b < s₂.heap.objs.size
  ks : Ks s s₂
  wrNew : ∀ b ∈ wr, s.heap.get? b = none
  wrSeq : ∀ i H, St i H → ∀ b ∈ wr, NoSeq H b
  item : ∀ i v, Pv i v → ∃ d, ds[i]? = some d ∧ Rep s₂.heap (PN (Hin hB) s.heap) (TN T s s₂) v d
  fpOk : ∀ b ∈ fp, s.heap.get? b = none ∨ (Hin hB b ∧ ¬ NoSeq s.heap b)
  go : ∀ i (u : Shared) target v (U : Unit → Shared → Prop), St i u.heap → U () u → wpAny (model prog w) A (letOwnedTupleGo target (.ref I) v) U NoE u
  len : ds.length = n

section
variable {prog : Program} {w : World} {A : Around} {env : Env} {hB : Heap} {T : Tok → Prop}

theorem go_any {target : Expr} {I : Addr} {nm : String} {vs : Array Value} {v : Value} {o : Obj} {u : Shared} {U : Unit → Shared → Prop} (ho : u.heap.get? I = some o) (hc : o.cls = .type nm) (hd : o.data = .fields vs)
    (hn : ["enumerate", "zip", "dict_itemiterator", "dict_reverseitemiterator", "odict_iterator", "itertools.zip_longest", "itertools.pairwise"].contains nm = false) (hU : U () u) :
    wpAny (model prog w) A (letOwnedTupleGo target (.ref I) v) U NoE u := by
  have key : wpAny (model prog w) A (do
      let (.ref r, .ref a) := ((Value.ref I), v) | return
      let o ← load r
      match o.cls, o.data with
      | .type n, .fields vs =>
        if ["enumerate", "zip", "dict_itemiterator", "dict_reverseitemiterator", "odict_iterator", "itertools.zip_longest", "itertools.pairwise"].contains n && vs[0]? == some (rawInt a) then
          rule "for.unpacks-the-owned-tuple"
          updateField r 0 .none
      | _, _ => pure () : Sem Unit) U NoE u := by
    cases v with
    | ref a =>
      refine wpAny_bind (wpAny_load ho ?_)
      rw [hc, hd]
      show wpAny _ A (if (_ && _) = true then _ else _) U NoE u
      rw [hn, Bool.false_and, if_neg Bool.false_ne_true]
      exact wpAny_pure hU
    | _ => exact wpAny_pure hU
  unfold letOwnedTupleGo
  split
  · exact key
  · exact key
  · exact wpAny_pure hU

theorem take_succ_fm (p : D → Bool) (f : D → D) (ds : List D) (i : Nat) (d : D) (h : ds[i]? = some d) : ((ds.take (i + 1)).filter p).map f = ((ds.take i).filter p).map f ++ (if p d then [f d] else []) := by
  rw [take_succ_filter p ds i d h, List.map_append]
  cases p d <;> rfl

/-- what is handed out was not there -/
noncomputable def FrG (G : Shared → Value → Prop) : Prop := ∀ s v, G s v → ∀ a, v = .ref a → s.heap.get? a = none
noncomputable def Dist (ys : List Value) : Prop := ys.Pairwise fun x y => ∀ a b, x = .ref a → y = .ref b → a ≠ b
theorem Rep.there {h : Heap} {P : Addr → Prop} {T : Tok → Prop} {a : Addr} {d : D} (r : Rep h P T (.ref a) d) : ∃ o, h.get? a = some o := by cases r <;> exact ⟨_, by assumption⟩
theorem Reps.mem {h : Heap} {P : Addr → Prop} {T : Tok → Prop} : ∀ {vs : List Value} {ds : List D}, Reps h P T vs ds → ∀ v ∈ vs, ∃ d, Rep h P T v d
  | _, _, .cons r rs, v, hv => by
    rcases List.mem_cons.mp hv with rfl | hv
    · exact ⟨_, r⟩
    · exact rs.mem v hv

theorem compLoop_D {elt iter : Expr} {x : PySem.Str} {px : Pos} {ifs : List Expr} {scope : Scope} {pos : Pos} {I Dl : Addr} {fp wr : List Addr} {n : Nat} {Pv : Nat → Value → Prop} {St : Nat → Heap → Prop}
    {cenv : Env} {m : PySem.Str → Option Value} {s s₂ s₃ : Shared} {ds : List D} {Ti : Tok → Prop} (G : Shared → Value → Prop) (S : Src prog w A hB Ti s s₂ I fp wr n Pv St ds) (p : D → Bool) (f : D → D)
    (hkB : Kp hB s.heap) (hn1 : n ≤ 1000)
    (hx : cenv.kindOf x = some .local) (hkind : cenv.scope.kind = .function)
    (hDC : Dl ≠ cenv.locals) (hDf : Dl ∉ fp) (hCf : cenv.locals ∉ fp) (hD2 : s₂.heap.get? Dl = none) (hC2 : s₂.heap.get? cenv.locals = none)
    (hst : St 0 s₃.heap) (hacc : s₃.heap.get? Dl = some (lstObj [] 0)) (hn : s₃.heap.Ns cenv.locals m) (hk3 : Ks s₂ s₃)
    (ht : ∀ d ∈ ds, ∀ hE, Kp hB hE → Nm cenv hE Tr x d → ETs prog w A cenv hE s.toks ifs (p d))
    (he : ∀ d ∈ ds, p d = true → ∀ hE, Kp hB hE → Nm cenv hE Tr x d → ∀ s, Kp hE s.heap → wpAny (model prog w) A (eval elt cenv) (fun v s' => Rt (Hin hE) T s (f d) v s' ∧ G s v) NoE s)
    {R : Result → Shared → Prop}
    (hR : ∀ s' m', s'.heap.Ns cenv.locals m' → Ks s s' → Rep s'.heap (PN (Hin hB) s.heap) (TN T s s') (.ref Dl) (.lst ((ds.filter p).map f)) → (∃ ys c, s'.heap.get? Dl = some (lstObj ys c) ∧ (FrG G → Dist ys)) → R (.ok .next) s') :
    codeAny (model prog w) A (.compLoop (.ListComp elt [⟨.Name x px, iter, ifs, 0⟩] scope pos) 0 (.ref I) (.ref Dl) cenv) R s₃ := by
  have W := S.W
  have hCw : cenv.locals ∉ wr := fun h => hCf (W.sub _ h)
  have hDw : Dl ∉ wr := fun h => hDf (W.sub _ h)
  have hDs : s.heap.get? Dl = none := none_of_kp S.ks.kp hD2
  have hCs : s.heap.get? cenv.locals = none := none_of_kp S.ks.kp hC2
  let Py : Addr → Prop := fun a => PN (Hin hB) s.heap a ∧ a ≠ Dl
  refine codeAny_compLoop_tests
    (fun k s' => ∃ H tk m' ys c i, s' = { s₂ with heap := H, toks := tk } ∧ i ≤ n ∧ k = n + 1 - i ∧ St i H ∧ H.get? Dl = some (lstObj ys c) ∧ H.Ns cenv.locals m' ∧
      (∀ b o, b ∉ wr → s₂.heap.get? b = some o → H.get? b = some o) ∧ s₂.toks ≤ tk ∧ Reps H Py (TN T s s') ys (((ds.take i).filter p).map f) ∧ (FrG G → Dist ys)) ?_ (n + 1) ?_
  rotate_left
  · obtain ⟨h3, t3, e3, k3, l3⟩ := hk3
    subst e3
    exact ⟨h3, t3, m, [], 0, 0, rfl, Nat.zero_le _, rfl, hst, hacc, hn, fun b o _ e => k3 b o e, l3, by simpa using Reps.nil, fun _ => List.Pairwise.nil⟩
  rintro k s' ⟨H, tk, m', ys, c, i, rfl, hi, rfl, hst', hacc', hn', hk', htk, hys, hdist⟩
  have hold : Kp s.heap H := fun b o e => hk' b o (fun hm => by rw [S.wrNew b hm] at e; cases e) (S.ks.kp _ _ e)
  by_cases hlt : i < n
  · -- an item
    refine wpAny_with_toks (n := tk) (Nat.le_refl _) (W.item i _ _ _ hlt hst' fun v h₁ tk₁ hPv hst₁ hk₁ htk₁ => ?_)
    obtain ⟨d, hd, hrd'⟩ := S.item i v hPv
    have hrd := hrd'.kp (Kp.refl _) (fun _ x => x) (tr_all (α := TN Ti s s₂))
    have hmem : d ∈ ds := List.mem_of_getElem? hd
    refine wpAny_assign_Name (wpAny_storeName_local hx (hn'.at' fun o e => hk₁ _ o hCw e) (fun h₂ hn₂ hs₂ => ?_) (by rw [hkind]; rfl))
    -- the heap h₂
    have up₂ : ∀ b o, b ≠ cenv.locals → b ∉ wr → H.get? b = some o → h₂.get? b = some o := fun b o hbC hbw e => hs₂.extBut b o hbC (hk₁ b o hbw e)
    have hst₂ : St (i + 1) h₂ := W.frame _ _ _ hst₁ fun b hb o e => hs₂.extBut b o (fun h => hCf (h ▸ hb)) e
    have hold₂ : Kp s.heap h₂ := fun b o e => up₂ b o (fun h => by rw [h, hCs] at e; cases e) (fun hm => by rw [S.wrNew b hm] at e; cases e) (hold b o e)
    have hacc₂ : h₂.get? Dl = some (lstObj ys c) := up₂ _ _ hDC hDw hacc'
    have h2old : ∀ b o, b ∉ wr → s₂.heap.get? b = some o → h₂.get? b = some o := fun b o hbw e => up₂ b o (fun h => by rw [h, hC2] at e; cases e) hbw (hk' b o hbw e)
    have hysH : Reps h₂ Py (TN T s { s₂ with heap := H, toks := tk }) ys (((ds.take i).filter p).map f) := hys.step (fun a cl xs nn hp hg => ⟨hp, up₂ a _ (fun h => by subst h; exact noSeq_ns hn' _ _ _ hg) (fun hm => S.wrSeq i H hst' a hm _ _ _ hg) hg⟩) fun _ x => x
    let hE := restr h₂ Py
    have hBE : Kp hB hE := fun b o e => restr_pos ⟨.inl ⟨o, e⟩, fun h => by have := hkB _ _ e; rw [h, hDs] at this; cases this⟩ (hold₂ _ _ (hkB _ _ e))
    have hEk : Kp hE h₂ := restr_kp _ _
    have hnm : Nm cenv hE Tr x d := by
      refine ⟨hkind, v, ?_, .inl ⟨hx, fun y => if y = x then some v else m' y, ?_, if_pos rfl⟩⟩
      · refine hrd.step (fun a cl xs nn hp hg => ?_) fun _ x => x
        have haD : a ≠ Dl := fun h => by rw [h, hD2] at hg; cases hg
        have g2 : h₂.get? a = some _ := h2old a _ (fun hm => S.wrSeq 0 s₂.heap S.st a hm _ _ _ hg) hg
        exact ⟨⟨_, restr_pos ⟨hp, haD⟩ g2⟩, restr_pos ⟨hp, haD⟩ g2⟩
      · obtain ⟨o, es, ep, ho, r⟩ := hn₂
        exact ⟨o, es, ep, restr_pos ⟨.inr hCs, Ne.symm hDC⟩ ho, r⟩
    refine mono' ((ht d hmem hE hBE hnm).h _ hEk (Nat.le_trans S.ks.le (Nat.le_trans htk (Nat.le_trans htk₁ (Nat.le_succ _))))) fun ok s₃ h₃ => ?_
    obtain ⟨⟨h₃, tk₃, rfl, k₃, l₃⟩, rfl⟩ := h₃
    have htk₁' : tk ≤ tk₁ := htk₁
    have l₃' : tk₁ + 1 ≤ tk₃ := l₃
    have ltk : tk ≤ tk₃ := by omega
    cases hpv : p d with
    | false =>
      simp only [Bool.false_eq_true, if_false]
      refine ⟨n + 1 - (i + 1), by omega, h₃, tk₃, _, ys, c, i + 1, rfl, hlt, rfl, W.frame _ _ _ hst₂ fun b _ o e => k₃ b o e, k₃ _ _ hacc₂, hn₂.keeps k₃, fun b o hbw e => k₃ b o (h2old b o hbw e), by omega, ?_, hdist⟩
      rw [take_succ_fm p f ds i d hd, hpv]
      simp only [Bool.false_eq_true, if_false, List.append_nil]
      exact hysH.kp k₃ (fun _ x => x) fun _ x => x.mono (fun _ y => y) (Nat.le_refl _) ltk
    | true =>
      simp only [if_true]
      refine mono' (he d hmem hpv hE hBE hnm _ (hEk.trans k₃)) fun y s₄ h₄ => ?_
      obtain ⟨⟨⟨h₄, tk₄, rfl, k₄, l₄⟩, ry⟩, hG⟩ := h₄
      have l₄' : tk₃ ≤ tk₄ := l₄
      have hn₄ := (hn₂.keeps k₃).keeps k₄
      have hacc₄ : h₄.get? Dl = some (lstObj ys c) := k₄ _ _ (k₃ _ _ hacc₂)
      have hlen : ys.length ≤ 1000 := by
        have e1 := hysH.length
        have e2 : ((ds.take i).filter p).length ≤ (ds.take i).length := List.length_filter_le _ _
        have e3 : (ds.take i).length ≤ i := by rw [List.length_take]; omega
        rw [List.length_map] at e1
        omega
      refine wpAny_list_append_plain (hsz := by rw [List.size_toArray, sizeLine_eq]; omega) (l := Dl) (items := ys.toArray) ⟨c, hacc₄⟩ fun h₅ hl₅ hs₅ => ?_
      obtain ⟨c', hl₅⟩ := hl₅
      refine ⟨n + 1 - (i + 1), by omega, h₅, tk₄, _, ys ++ [y], c', i + 1, rfl, hlt, rfl, ?_, by rw [hl₅]; simp, hn₄.sameBut hs₅ (Ne.symm hDC), fun b o hbw e => ?_, by omega, ?_, fun hfr => ?_⟩
      · exact W.frame _ _ _ hst₂ fun b hb o e => hs₅.extBut b o (fun h => hDf (h ▸ hb)) (k₄ _ _ (k₃ _ _ e))
      · exact hs₅.extBut b o (fun h => by rw [h, hD2] at e; cases e) (k₄ _ _ (k₃ _ _ (h2old b o hbw e)))
      · rw [take_succ_fm p f ds i d hd, hpv]
        simp only [if_true]
        have hC4 := noSeq_ns hn₄
        have a1 : Reps h₄ Py (TN T s { s₂ with heap := h₅, toks := tk₄ }) ys (((ds.take i).filter p).map f) := hysH.kp (k₃.trans k₄) (fun _ x => x) fun _ x => x.mono (fun _ y => y) (Nat.le_refl _) (by show tk ≤ tk₄; omega)
        have a2 : Rep h₄ Py (TN T s { s₂ with heap := h₅, toks := tk₄ }) y (f d) := by
          refine ry.step (fun a cl xs nn hp hg => ⟨?_, hg⟩) fun t x => x.elim .inl fun z => .inr ⟨?_, z.2⟩
          · rcases hp with hp | hp
            · exact restr_in hp
            · refine ⟨.inr (none_of_kp (hold₂.trans k₃) hp), fun h => ?_⟩
              have hp' : h₃.get? a = none := hp
              rw [h] at hp'
              rw [k₃ _ _ hacc₂] at hp'
              cases hp'
          · have z1 : tk₃ ≤ t := z.1
            have := S.ks.le
            show s.toks ≤ t
            omega
        exact (a1.append (.cons a2 .nil)).step (fun a cl xs nn hp hg => ⟨hp, hs₅.extBut a _ hp.2 hg⟩) fun _ x => x
      · have hold3 : ∀ v ∈ ys, ∀ a, v = .ref a → ∃ o, h₃.get? a = some o := fun v hv a e => by
          subst e
          obtain ⟨d', r'⟩ := hysH.mem _ hv
          obtain ⟨o, ho⟩ := r'.there
          exact ⟨o, k₃ _ _ ho⟩
        refine List.pairwise_append.mpr ⟨hdist hfr, List.pairwise_singleton _ _, fun v hv z hz a b ea eb => ?_⟩
        rw [List.mem_singleton.mp hz] at eb
        obtain ⟨o, ho⟩ := hold3 v hv a ea
        intro q
        have h0 := hfr _ _ hG b eb
        rw [← q] at h0
        rw [show h₃.get? a = none from h0] at ho
        cases ho
  · -- the end
    have hin : i = n := by omega
    refine wpAny_with_toks (n := tk) (Nat.le_refl _) (W.done _ _ _ (hin ▸ hst') fun h₁ tk₁ hk₁ htk₁ => ?_)
    have hold₁ : Kp s.heap h₁ := fun b o e => hk₁ b o (fun hm => by rw [S.wrNew b hm] at e; cases e) (hold b o e)
    have htk₁' : tk ≤ tk₁ := htk₁
    have hall : ds.take i = ds := List.take_of_length_le (by rw [S.len]; omega)
    rw [hall] at hys
    have l0 := S.ks.le
    refine hR _ m' (hn'.at' fun o e => hk₁ _ o hCw e) ?_ ?_ ⟨ys, c, hk₁ _ _ hDw hacc', hdist⟩
    · obtain ⟨h2, t2, e2, _, _⟩ := S.ks
      subst e2
      exact ⟨h₁, tk₁, rfl, hold₁, by have : s.toks ≤ t2 := l0; have : t2 ≤ tk := htk; omega⟩
    · refine .lst (n := c) (.inr hDs) (hk₁ _ _ hDw hacc') (hys.step (fun a cl xs nn hp hg => ⟨hp.1, hk₁ a _ (fun hm => S.wrSeq i H hst' a hm _ _ _ hg) hg⟩) fun _ x => x.mono (fun _ y => y) (Nat.le_refl _) htk₁')
end
end Mine
end

section
namespace Mine

noncomputable def clOf (cells : List (PySem.Str × Addr)) : List (PySem.Str × NameKind) → List (PySem.Str × Addr) → Option (List (PySem.Str × Addr))
  | [], acc => some acc
  | (n, k) :: r, acc => if k == .free then (match cells.lookup n with | some c => clOf cells r ((n, c) :: acc) | none => none) else clOf cells r acc
theorem closureFor_cl {scope : Scope} {env : Env} {cl : List (PySem.Str × Addr)} (h : clOf env.cells scope.names [] = some cl) : closureFor scope env = pure cl := by
  simp only [closureFor]
  have key : ∀ (names : List (PySem.Str × NameKind)) (acc cl : List (PySem.Str × Addr)), clOf env.cells names acc = some cl →
      (forIn names acc fun (x : PySem.Str × NameKind) (r : List (PySem.Str × Addr)) => (match x with | (name, kind) => if (kind == NameKind.free) = true then do let a ← cellOf env name; pure (ForInStep.yield ((name, a) :: r)) else pure (ForInStep.yield r) : Sem (ForInStep (List (PySem.Str × Addr))))) = (pure cl : Sem _) := by
    intro names
    induction names with
    | nil => intro acc cl h; cases h; rfl
    | cons x r ih =>
      intro acc cl h
      obtain ⟨n, k⟩ := x
      rw [List.forIn_cons]
      unfold clOf at h
      by_cases hk : (k == NameKind.free) = true
      · simp only [hk, if_true] at h ⊢
        cases hc : env.cells.lookup n with
        | none => rw [hc] at h; cases h
        | some c =>
          rw [hc] at h
          have e : cellOf env n = pure c := by unfold cellOf; rw [hc]
          rw [e]
          exact ih _ _ h
      · have hk' : (k == NameKind.free) = false := by simpa using hk
        simp only [hk', Bool.false_eq_true, if_false] at h ⊢
        exact ih _ _ h
  have := key scope.names [] cl h
  simpa using this

section
variable {prog : Program} {w : World} {A : Around} {env : Env} {hB : Heap} {T : Tok → Prop}

structure IT (prog : Program) (w : World) (A : Around) (env : Env) (hB : Heap) (T : Tok → Prop) (iter : Expr) (ds : List D) : Prop where
  h : ∀ s, Kp hB s.heap → wpAny (model prog w) A (eval iter env) (fun xv s₁ => wpAny (model prog w) A (pyIter xv) (fun it s₂ => ∃ I fp wr n Pv St, it = .ref I ∧ Src prog w A hB T s s₂ I fp wr n Pv St ds) NoE s₁) NoE s

theorem IT.lst {iter ds} (hh : A.handled = none) (h : EV prog w A env hB T iter (.lst ds)) : IT prog w A env hB T iter ds := by
  refine ⟨fun s hk => ?_⟩
  refine mono' (h.h s hk) fun xv s₁ h₁ => ?_
  obtain ⟨k₁, r⟩ := h₁
  cases r with | @lst l xs _ n pl gl r => ?_
  have hl : s₁.heap.IsList l xs.toArray := ⟨_, gl, rfl, _, rfl⟩
  have hlt : l < s₁.heap.objs.size := Heap.lt_size gl
  refine wpAny_pyIter_list hl ⟨_, _, _, _, _, _, rfl, ⟨Walks.list hh s₁.heap.objs.size l (Nat.ne_of_lt hlt) xs.toArray, ⟨⟨_, Heap.get?_push_size _ rfl, rfl, rfl⟩, hl.push _⟩, ?_, k₁.trans .push, ?_, ?_, ?_, ?_, ?_, ?_⟩⟩
  · intro b hb
    show b < (s₁.heap.push _).objs.size
    rw [Heap.size_push]
    rcases List.mem_cons.mp hb with e | hb
    · rw [e]; exact Nat.lt_succ_self _
    · rw [List.mem_singleton.mp hb]; exact Nat.lt_succ_of_lt hlt
  · intro b hb
    rw [List.mem_singleton.mp hb]
    exact none_of_kp k₁.kp (get_size_none _)
  · intro i H st b hb c ys m e
    rw [List.mem_singleton.mp hb] at e
    obtain ⟨o, ho, _, hd⟩ := st.1
    rw [e] at ho; cases ho; cases hd
  · intro i v hv
    have hv' : xs[i]? = some v := by simpa using hv
    obtain ⟨d, hd, hr⟩ := r.get hv'
    exact ⟨d, hd, hr.kp (fun _ _ e => Heap.get?_push_of_some _ e) (fun _ x => x) fun _ x => x⟩
  · intro b hb
    rcases List.mem_cons.mp hb with e | hb
    · rw [e]; exact .inl (none_of_kp k₁.kp (get_size_none _))
    · rw [List.mem_singleton.mp hb]
      rcases pl with pl | pl
      · refine .inr ⟨pl, ?_⟩
        obtain ⟨o, e⟩ := pl
        intro hn
        have e1 := hk _ _ e
        have e2 := k₁.kp _ _ e1
        rw [gl] at e2; cases e2
        exact hn _ _ _ e1
      · exact .inl pl
  · intro i u target v U st hU
    obtain ⟨o, ho, hc, hd⟩ := st.1
    exact go_any ho hc hd (by decide) hU
  · rw [List.size_toArray]; exact r.length.symm

noncomputable def intsD (a : Int) (n : Nat) : List D := (List.range n).map fun (i : Nat) => D.int (a + (i : Nat))
theorem intsD_length (a n) : (intsD a n).length = n := by simp [intsD]
theorem intsD_get {a n i} (h : i < n) : (intsD a n)[i]? = some (.int (a + (i : Nat))) := by simp [intsD, h]

theorem Src.range {s s₁ : Shared} (hh : A.handled = none) {r : Addr} {a b : Int} {t u v : Tok} (k : Ks s s₁) (hr : IsRange s₁.heap r a b 1 t u v) (ha : -1000 ≤ a) (ha' : a ≤ 1000) (hb : -1000 ≤ b) (hb' : b ≤ 1000) :
    wpAny (model prog w) A (pyIter (.ref r)) (fun it s₂ => ∃ I fp wr n Pv St, it = .ref I ∧ Src prog w A hB Tr s s₂ I fp wr n Pv St (intsD a (b - a).toNat)) NoE s₁ := by
  have hsz := PyProof.Rows.rangeSize_nat a b
  refine wpAny_pyIter_range hr ?_ ⟨_, _, _, (b - a).toNat, _, _, rfl, ⟨(Walks.range hh s₁.heap.objs.size a 1 (b - a).toNat).bound, ?_, ?_, k.trans .push, ?_, ?_, ?_, ?_, ?_, intsD_length _ _⟩⟩
  · unfold Builtin.Range.small
    rw [hsz]
    simp only [Builtin.Range.rangeFitsLong, Bool.and_eq_true, Bool.or_eq_true, decide_eq_true_eq, beq_iff_eq]
    refine ⟨⟨⟨⟨⟨by omega, by omega⟩, ⟨by omega, by omega⟩⟩, by decide⟩, ⟨by omega, by omega⟩⟩, ?_⟩
    right
    simp only [show (1 : Int) > 0 from by decide, if_true]
    simp only [Bool.and_eq_true, decide_eq_true_eq]
    omega
  · have := Heap.get?_push_size s₁.heap (o := { cls := .type "range_iterator", data := .fields #[rawInt a, rawInt (Builtin.Range.rangeSize a b 1), rawInt 1] }) rfl
    rw [hsz] at this ⊢
    simpa using this
  · intro b hb
    show b < (s₁.heap.push _).objs.size
    rw [Heap.size_push, List.mem_singleton.mp hb]
    exact Nat.lt_succ_self _
  · intro b hb
    rw [List.mem_singleton.mp hb]
    exact none_of_kp k.kp (get_size_none _)
  · intro i H st b hb c ys m e
    rw [List.mem_singleton.mp hb] at e
    have st' : H.get? _ = _ := st
    rw [e] at st'; cases st'
  · rintro i v ⟨hi, t, rfl⟩
    exact ⟨_, intsD_get hi, by rw [Int.mul_one]; exact .int _ _ (.inl trivial)⟩
  · intro b hb
    rw [List.mem_singleton.mp hb]
    exact .inl (none_of_kp k.kp (get_size_none _))
  · intro i u target v U st hU
    exact go_any st rfl rfl (by decide) hU

theorem IT.range1 {x np e pos} {n : Int} (hh : A.handled = none) (h : Gn env hB x (.type "range")) (he : EV prog w A env hB Tr e (.int n)) (hn : -1000 ≤ n) (hn' : n ≤ 1000)
    (hd : (x == ("__debug__" : PySem.Str)) = false := by decide) (hs : starEach [e] env = [(false, eval e env)] := by rfl) : IT prog w A env hB Tr (.Call (.Name x np) [e] [] pos) (intsD 0 n.toNat) := by
  refine ⟨fun s hk => ?_⟩
  refine wpAny_Call_ofName (h.eval hk ?_ hd)
  refine callWith_type1 (mono' ((EVs.cons he EVs.nil hs).h s pos hk) fun vs s₁ h₁ => ?_) hs rfl
  obtain ⟨k, r⟩ := h₁
  cases r with | cons r rs => ?_
  cases rs
  cases r with | int _ t _ => ?_
  refine call_range_1 ?_
  have := Src.range (prog := prog) (w := w) (hB := hB) (s := s) (s₁ := { s₁ with heap := s₁.heap.push { cls := .type "range", data := .fields #[.int 0 s₁.toks, .int n t, .int 1 (s₁.toks + 1)] }, toks := s₁.toks + 1 + 1 }) hh (k.trans (Ks.mk' (fun _ _ e => Heap.get?_push_of_some _ e) (by omega))) (IsRange.new _ _ _ _ _ _ _) (by omega) (by omega) hn hn'
  rwa [Int.sub_zero] at this
theorem IT.range2 {x np e e' pos} {a b : Int} (hh : A.handled = none) (h : Gn env hB x (.type "range")) (he : EV prog w A env hB Tr e (.int a)) (he' : EV prog w A env hB Tr e' (.int b)) (ha : -1000 ≤ a) (ha' : a ≤ 1000) (hn : -1000 ≤ b) (hn' : b ≤ 1000)
    (hd : (x == ("__debug__" : PySem.Str)) = false := by decide) (hs : starEach [e, e'] env = (false, eval e env) :: starEach [e'] env := by rfl) (hs' : starEach [e'] env = [(false, eval e' env)] := by rfl) : IT prog w A env hB Tr (.Call (.Name x np) [e, e'] [] pos) (intsD a (b - a).toNat) := by
  refine ⟨fun s hk => ?_⟩
  refine wpAny_Call_ofName (h.eval hk ?_ hd)
  refine callWith_type1 (mono' ((EVs.cons he (EVs.cons he' EVs.nil hs') hs).h s pos hk) fun vs s₁ h₁ => ?_) hs (by rw [hs']; rfl)
  obtain ⟨k, r⟩ := h₁
  cases r with | cons r rs => ?_
  cases rs with | cons r' rs => ?_
  cases rs
  cases r with | int _ t _ => ?_
  cases r' with | int _ t' _ => ?_
  refine call_range_2 ?_
  exact Src.range (prog := prog) (w := w) (hB := hB) (s := s) (s₁ := { s₁ with heap := s₁.heap.push { cls := .type "range", data := .fields #[.int a t, .int b t', .int 1 s₁.toks] }, toks := s₁.toks + 1 }) hh (k.trans (Ks.mk' (fun _ _ e => Heap.get?_push_of_some _ e) (by omega))) (IsRange.new _ _ _ _ _ _ _) ha ha' hn hn'

theorem comp_core (G : Shared → Value → Prop) {elt iter : Expr} {x : PySem.Str} {px : Pos} {ifs : List Expr} {scope : Scope} {cl : List (PySem.Str × Addr)} {pos pos' : Pos} {ds : List D} {s : Shared} {use : Option (Value → Sem Unit)} {Qf : Value → Shared → Prop} (p : D → Bool) (f : D → D)
    (hk : Kp hB s.heap) {Ti : Tok → Prop} (hit : IT prog w A env hB Ti iter ds) (hn : ds.length ≤ 1000)
    (hclos : closureFor scope env = pure cl) (hcell : ∀ y ∈ scope.names, y.2 ≠ .cell) (hkind : scope.kind = .function) (hnames : ∀ y ∈ scope.names, y.2 = .local → scope.names.lookup y.1 = some .local) (hx : scope.names.lookup x = some .local)
    (ht : ∀ d ∈ ds, ∀ C hE, Kp hB hE → Nm (compEnvC scope cl C env) hE Tr x d → ETs prog w A (compEnvC scope cl C env) hE s.toks ifs (p d))
    (he : ∀ d ∈ ds, p d = true → ∀ C hE, Kp hB hE → Nm (compEnvC scope cl C env) hE Tr x d → ∀ s, Kp hE s.heap → wpAny (model prog w) A (eval elt (compEnvC scope cl C env)) (fun v s' => Rt (Hin hE) T s (f d) v s' ∧ G s v) NoE s)
    (hRR : ∀ s' Dl C m', s'.heap.Ns C m' → s.heap.get? C = none → Ks s s' → Rep s'.heap (PN (Hin hB) s.heap) (TN T s s') (.ref Dl) (.lst ((ds.filter p).map f)) → (∃ ys c, s'.heap.get? Dl = some (lstObj ys c) ∧ (FrG G → Dist ys)) → compPost (model prog w) A NoE use Qf (.ref Dl) C (.ok .next) s')
    (hs : ∀ x, foldedSetIterable iter env x = pure x := by intro _; rfl) :
    wpAny (model prog w) A (comprehension (.ListComp elt [⟨.Name x px, iter, ifs, 0⟩] scope pos) scope env pos' (newList []) false (eval iter env) use) Qf NoE s := by
  refine wpAny_comprehension_free (use := use) rfl hs hclos hkind hnames (mono' (hit.h s hk) fun xv s₁ h₁ => mono' h₁ fun it s₂ h₂ => ?_)
  obtain ⟨I, fp, wr, n, Pv, St, rfl, S⟩ := h₂
  have W := S.W
  refine wpAny_newObj_type (wpAny_newFunctionEnv hcell (by intro y hy; simp at hy) (fun h₁ hns₁ hsb₁ => ?_) hkind)
  dsimp only at hns₁ hsb₁ ⊢
  generalize hH2 : s₂.heap.push { cls := .type "list", dict := none, data := .seq ([] : List Value).toArray } = H2 at hns₁ hsb₁ ⊢
  have hC : H2.objs.size = s₂.heap.objs.size + 1 := by rw [← hH2, Heap.size_push]
  have hDC : s₂.heap.objs.size ≠ H2.objs.size := by rw [hC]; exact Nat.ne_of_lt (Nat.lt_succ_self _)
  have below : ∀ b, b < s₂.heap.objs.size → b ≠ H2.objs.size ∧ b ≠ s₂.heap.objs.size := fun b hb => ⟨by rw [hC]; exact Nat.ne_of_lt (Nat.lt_succ_of_lt hb), Nat.ne_of_lt hb⟩
  have hDf : s₂.heap.objs.size ∉ fp := fun hm => Nat.lt_irrefl _ (S.fpLt _ hm)
  have hCf : H2.objs.size ∉ fp := fun hm => by have := S.fpLt _ hm; rw [hC] at this; exact Nat.lt_irrefl _ (Nat.lt_of_succ_lt this)
  have old : ∀ b o, s₂.heap.get? b = some o → h₁.get? b = some o := fun b o e => hsb₁.extBut b o (below b (Heap.lt_size e)).1 (Heap.get?_push_of_some _ (hH2 ▸ Heap.get?_push_of_some _ e))
  have hacc : h₁.get? s₂.heap.objs.size = some (lstObj [] 0) := hsb₁.extBut _ _ hDC (Heap.get?_push_of_some _ (hH2 ▸ Heap.get?_push_size _ rfl))
  have hst₁ : St 0 h₁ := W.frame _ _ _ S.st fun b _ o e => old b o e
  have fresh : ∀ a, s₂.heap.objs.size ≤ a → s₂.heap.get? a = none := fun a ha => by
    cases e : s₂.heap.get? a with
    | none => rfl
    | some o' => exact absurd (Heap.lt_size e) (Nat.not_lt.mpr ha)
  have hC0 : s₂.heap.get? H2.objs.size = none := fresh _ (by rw [hC]; exact Nat.le_succ _)
  have loop : ∀ s₃ : Shared, s₃ = { s₂ with heap := h₁, toks := s₂.toks + ([] : List (PySem.Str × Value)).length } →
      codeAny (model prog w) A (.compLoop (.ListComp elt [⟨.Name x px, iter, ifs, 0⟩] scope pos) 0 (.ref I) (.ref s₂.heap.objs.size) (compEnvC scope cl H2.objs.size env))
        (compPost (model prog w) A NoE use Qf (.ref s₂.heap.objs.size) H2.objs.size) s₃ := by
    rintro s₃ rfl
    refine compLoop_D (cenv := compEnvC scope cl H2.objs.size env) G S p f hk (by rw [← S.len]; exact hn) (lookup_relabel_local hx) (by simp [compEnvC, relabel, hkind]) hDC hDf hCf (fresh _ (Nat.le_refl _)) hC0 hst₁ hacc hns₁ ⟨h₁, s₂.toks + 0, rfl, old, Nat.le_refl _⟩
      (fun d hd hE hk nm => ht d hd _ hE hk nm) (fun d hd hp hE hk nm => he d hd hp _ hE hk nm) ?_
    exact fun s' m' hn' hk' hr hx => hRR s' _ _ m' hn' (none_of_kp S.ks.kp hC0) hk' hr hx
  exact codeAny_compStart_list (loop _ rfl) (W.self 0 _ _ _ hst₁ (loop _ rfl))

theorem EV.comp {elt iter : Expr} {x : PySem.Str} {px : Pos} {ifs : List Expr} {scope : Scope} {cl : List (PySem.Str × Addr)} {pos : Pos} {ds : List D} (p : D → Bool) (f : D → D)
    {Ti : Tok → Prop} (hit : IT prog w A env hB Ti iter ds) (hn : ds.length ≤ 1000)
    (hclos : closureFor scope env = pure cl) (hcell : ∀ y ∈ scope.names, y.2 ≠ .cell) (hkind : scope.kind = .function) (hnames : ∀ y ∈ scope.names, y.2 = .local → scope.names.lookup y.1 = some .local) (hx : scope.names.lookup x = some .local)
    (ht : ∀ d ∈ ds, ∀ C hE, Kp hB hE → Nm (compEnvC scope cl C env) hE Tr x d → ETs prog w A (compEnvC scope cl C env) hE 0 ifs (p d))
    (he : ∀ d ∈ ds, p d = true → ∀ C hE, Kp hB hE → Nm (compEnvC scope cl C env) hE Tr x d → EV prog w A (compEnvC scope cl C env) hE T elt (f d))
    (hs : ∀ x, foldedSetIterable iter env x = pure x := by intro _; rfl) :
    EV prog w A env hB T (.ListComp elt [⟨.Name x px, iter, ifs, 0⟩] scope pos) (.lst ((ds.filter p).map f)) := by
  refine ⟨fun s hk => ?_⟩
  rw [eval_ListComp]
  refine comp_core (fun _ _ => True) p f hk hit hn hclos hcell hkind hnames hx (fun d hd C hE hk nm => (ht d hd C hE hk nm).weak (Nat.zero_le _)) (fun d hd hp C hE hk nm s hs => mono' ((he d hd hp C hE hk nm).h s hs) fun _ _ x => ⟨x, trivial⟩) (fun s' Dl C m' hn' hC hk' hr _ => ?_) hs
  refine ⟨m', hn', fun h'' hs'' => ⟨?_, ?_⟩⟩
  · obtain ⟨h, t, rfl, k, l⟩ := hk'
    exact ⟨h'', t, rfl, fun b o e => hs''.extBut b o (fun hb => by rw [hb, hC] at e; cases e) (k b o e), l⟩
  · refine hr.step (fun a c xs n hp hg => ⟨hp, hs''.extBut a _ (fun hb => ?_) hg⟩) fun _ x => x
    subst hb
    exact noSeq_ns hn' _ _ _ hg
end
end Mine
end

section
namespace Mine

noncomputable abbrev Mp := PySem.Str → Option Value
noncomputable abbrev upd (m : Mp) (x : PySem.Str) (v : Value) : Mp := fun y => if y = x then some v else m y
theorem upd_self {m : Mp} {x v} : upd m x v x = some v := if_pos rfl
theorem upd_ne {m : Mp} {x y v} (h : y ≠ x) : upd m x v y = m y := if_neg h

/-- every plain sequence stands as it stood -/
noncomputable def Sk (h h' : Heap) : Prop := ∀ a c xs n, h.get? a = some { cls := c, dict := .none, data := .seq xs n, slots := #[] } → h'.get? a = some { cls := c, dict := .none, data := .seq xs n, slots := #[] }
theorem Sk.refl (h) : Sk h h := fun _ _ _ _ e => e
theorem Sk.trans {a b c} (x : Sk a b) (y : Sk b c) : Sk a c := fun i cl xs n e => y i cl xs n (x i cl xs n e)
theorem Kp.sk {h h'} (k : Kp h h') : Sk h h' := fun _ _ _ _ e => k _ _ e
theorem Sk.but {h h' : Heap} {b : Addr} (hs : Heap.ExtBut b h h') (hn : NoSeq h b) : Sk h h' := fun a c xs n e => hs a _ (fun q => by subst q; exact hn _ _ _ e) e
theorem Rep.sk {h h' : Heap} {P P' : Addr → Prop} {T T' : Tok → Prop} {v d} (r : Rep h P T v d) (k : Sk h h') (hp : ∀ a, P a → P' a) (ht : ∀ t, T t → T' t) : Rep h' P' T' v d := r.step (fun a c xs n x e => ⟨hp a x, k a c xs n e⟩) ht
theorem Reps.sk {h h' : Heap} {P P' : Addr → Prop} {T T' : Tok → Prop} {v d} (r : Reps h P T v d) (k : Sk h h') (hp : ∀ a, P a → P' a) (ht : ∀ t, T t → T' t) : Reps h' P' T' v d := r.step (fun a c xs n x e => ⟨hp a x, k a c xs n e⟩) ht

/-- step of a frame: but for the addresses of S all stands; tokens grow -/
structure Bt (S : Addr → Prop) (s s' : Shared) : Prop where
  same : ∃ h' tk, s' = { s with heap := h', toks := tk }
  keep : ∀ b o, ¬ S b → s.heap.get? b = some o → s'.heap.get? b = some o
  le : s.toks ≤ s'.toks
theorem Bt.refl {S s} : Bt S s s := ⟨⟨_, _, rfl⟩, fun _ _ _ e => e, Nat.le_refl _⟩
theorem Bt.trans {S a b c} (x : Bt S a b) (y : Bt S b c) : Bt S a c := by
  obtain ⟨⟨h, t, rfl⟩, k, l⟩ := x
  obtain ⟨⟨h', t', rfl⟩, k', l'⟩ := y
  exact ⟨⟨h', t', rfl⟩, fun b o n e => k' b o n (k b o n e), Nat.le_trans l l'⟩
theorem Ks.bt {S s s'} (k : Ks s s') : Bt S s s' := by obtain ⟨h, t, rfl, k, l⟩ := k; exact ⟨⟨h, t, rfl⟩, fun b o _ e => k b o e, l⟩
theorem Bt.weak {S S' : Addr → Prop} {s s'} (x : Bt S s s') (h : ∀ a, S a → S' a) : Bt S' s s' := ⟨x.same, fun b o n e => x.keep b o (fun q => n (h b q)) e, x.le⟩

/-- the places of the frame's own names -/
noncomputable def Fp (env : Env) (b : Addr) : Prop := b = env.locals ∨ ∃ n, (n, b) ∈ env.cells

/-- the state of a called function's body -/
structure Fs (s₀ : Shared) (env : Env) (m cm : Mp) (s : Shared) : Prop where
  ic : InCallC s₀ env.locals m env.cells cm s
  kind : env.scope.kind = .function
  le : s₀.toks ≤ s.toks
  uniq : ∀ n b, (n, b) ∈ env.cells → env.cells.lookup n = some b

section
variable {s₀ s s' : Shared} {env : Env} {m cm : Mp}
theorem Fs.ns (F : Fs s₀ env m cm s) : s.heap.Ns env.locals m := F.ic.toInCall.ns
theorem Fs.keep (F : Fs s₀ env m cm s) : Kp s₀.heap s.heap := F.ic.toInCall.keep
theorem Fs.ks (F : Fs s₀ env m cm s) : Ks s₀ s := by
  have k := F.keep
  have l := F.le
  obtain ⟨h, t, rfl⟩ := F.ic.toInCall.same
  exact ⟨h, t, rfl, k, l⟩
theorem Fs.freshL (F : Fs s₀ env m cm s) : s₀.heap.get? env.locals = none := by
  cases e : s₀.heap.get? env.locals with
  | none => rfl
  | some o => exact absurd (Heap.lt_size e) (Nat.not_lt.mpr F.ic.toInCall.fresh)
theorem Fs.cell (F : Fs s₀ env m cm s) {n c} (h : env.cells.lookup n = some c) : s.heap.IsCell c (cm n) := F.ic.cell n c h
theorem Fs.noSeq (F : Fs s₀ env m cm s) {b} (h : Fp env b) : NoSeq s.heap b := by
  rcases h with rfl | ⟨n, h⟩
  · exact noSeq_ns F.ns
  · intro c xs k e
    obtain ⟨o, ho, hd⟩ := F.cell (F.uniq n b h)
    rw [e] at ho; cases ho; cases hd
theorem Fs.inH (F : Fs s₀ env m cm s) {b} (h : Fp env b) : Hin s.heap b := by
  rcases h with rfl | ⟨n, h⟩
  · obtain ⟨o, _, _, ho, _⟩ := F.ns; exact ⟨o, ho⟩
  · obtain ⟨o, ho, hd⟩ := F.cell (F.uniq n b h); exact ⟨o, ho⟩
theorem Fs.new (F : Fs s₀ env m cm s) {b} (h : Fp env b) : s₀.heap.get? b = none := by
  rcases h with rfl | ⟨n, h⟩
  · exact F.freshL
  · cases e : s₀.heap.get? b with
    | none => rfl
    | some o => exact absurd (Heap.lt_size e) (Nat.not_lt.mpr (Nat.le_trans F.ic.toInCall.fresh (Nat.le_of_lt (F.ic.above n b h))))
/-- the frame over a step that leaves its own names alone -/
theorem Fs.bt {S : Addr → Prop} (F : Fs s₀ env m cm s) (k : Bt S s s') (hS : ∀ b, S b → ¬ Fp env b ∧ s₀.heap.get? b = none) : Fs s₀ env m cm s' := by
  have kk : ∀ b, Fp env b → ∀ o, s.heap.get? b = some o → s'.heap.get? b = some o := fun b hb o e => k.keep b o (fun q => (hS b q).1 hb) e
  obtain ⟨⟨h', tk, rfl⟩, kp, le⟩ := k
  refine ⟨⟨⟨?_, F.ns.at' (kk _ (.inl rfl)), fun b o e => kp b o (fun q => by rw [(hS b q).2] at e; cases e) (F.keep b o e), F.ic.toInCall.fresh⟩, fun n c hc => ?_, F.ic.apart, F.ic.above⟩, F.kind, Nat.le_trans F.le le, F.uniq⟩
  · obtain ⟨h, t, e⟩ := F.ic.toInCall.same
    exact ⟨h', tk, by rw [e]⟩
  · obtain ⟨o, ho, hd⟩ := F.cell hc
    exact ⟨o, kk c (.inr ⟨n, PySem.mem_of_lookup hc⟩) o ho, hd⟩
theorem Fs.ksF (F : Fs s₀ env m cm s) (k : Ks s s') : Fs s₀ env m cm s' := F.bt (S := fun _ => False) k.bt fun _ h => h.elim

/-- a name holds a datum -/
noncomputable def Vr (m : Mp) (h : Heap) (P : Addr → Prop) (T : Tok → Prop) (x : PySem.Str) (d : D) : Prop := ∃ v, m x = some v ∧ Rep h P T v d
theorem Vr.sk {m m' : Mp} {h h' P P' T T' x d} (r : Vr m h P T x d) (k : Sk h h') (e : m' x = m x) (hp : ∀ a, P a → P' a) (ht : ∀ t, T t → T' t) : Vr m' h' P' T' x d := let ⟨v, a, b⟩ := r; ⟨v, e.trans a, b.sk k hp ht⟩

theorem Rep.hin {h : Heap} {P : Addr → Prop} {T : Tok → Prop} {v d} (r : Rep h P T v d) : Rep h (Hin h) T v d := r.step (fun _ _ _ _ _ e => ⟨⟨_, e⟩, e⟩) fun _ x => x
theorem Rep.restr {h : Heap} {P P' : Addr → Prop} {T : Tok → Prop} {v d} (r : Rep h P T v d) (hp : ∀ a, P a → P' a) : Rep (restr h P') (Hin (restr h P')) T v d := r.step (fun _ _ _ _ x e => ⟨⟨_, restr_pos (hp _ x) e⟩, restr_pos (hp _ x) e⟩) fun _ x => x

/-- the base that holds P and the frame's own -/
theorem Fs.nmL (F : Fs s₀ env m cm s) {P' P : Addr → Prop} {T x d} (hP : ∀ b, Fp env b → P b) (r : Vr m s.heap P' T x d) (hx : env.kindOf x = some .local) (hp : ∀ a, P' a → P a) : Nm env (restr s.heap P) T x d := by
  obtain ⟨v, e, r⟩ := r
  refine ⟨F.kind, v, r.restr hp, .inl ⟨hx, m, ?_, e⟩⟩
  obtain ⟨o, es, ep, ho, rr⟩ := F.ns
  exact ⟨o, es, ep, restr_pos (hP _ (.inl rfl)) ho, rr⟩
theorem Fs.nmC (F : Fs s₀ env m cm s) {P' P : Addr → Prop} {T x d c} (hP : ∀ b, Fp env b → P b) (r : Vr cm s.heap P' T x d) (hx : env.kindOf x = some .cell) (hc : env.cells.lookup x = some c) (hp : ∀ a, P' a → P a) : Nm env (restr s.heap P) T x d := by
  obtain ⟨v, e, r⟩ := r
  refine ⟨F.kind, v, r.restr hp, .inr ⟨hx, c, hc, ?_⟩⟩
  obtain ⟨o, ho, hd⟩ := F.cell hc
  exact ⟨o, restr_pos (hP _ (.inr ⟨x, PySem.mem_of_lookup hc⟩)) ho, by rw [hd, e]⟩
theorem Fs.nmL' (F : Fs s₀ env m cm s) {P' : Addr → Prop} {T x d} (r : Vr m s.heap P' T x d) (hx : env.kindOf x = some .local) : Nm env s.heap T x d := by
  obtain ⟨v, e, r⟩ := r
  exact ⟨F.kind, v, r.hin, .inl ⟨hx, m, F.ns, e⟩⟩
theorem Fs.nmC' (F : Fs s₀ env m cm s) {P' : Addr → Prop} {T x d c} (r : Vr cm s.heap P' T x d) (hx : env.kindOf x = some .cell) (hc : env.cells.lookup x = some c) : Nm env s.heap T x d := by
  obtain ⟨v, e, r⟩ := r
  exact ⟨F.kind, v, r.hin, .inr ⟨hx, c, hc, by rw [← e]; exact F.cell hc⟩⟩
/-- a free name of a comprehension -/
theorem Nm.free {env : Env} {hB hE : Heap} {T x d} {scope : Scope} {cl : List (PySem.Str × Addr)} {C : Addr} (h : Nm env hB T x d) (hl : env.kindOf x = some .cell) (hk : Kp hB hE) (hks : scope.kind = .function)
    (hr : (relabel scope env).names.lookup x = some .cell) (hc : ∀ c, env.cells.lookup x = some c → cl.lookup x = some c) : Nm (compEnvC scope cl C env) hE T x d := by
  obtain ⟨_, v, r, ⟨h1, _⟩ | ⟨h1, c, h2, h3⟩⟩ := h
  · rw [hl] at h1; cases h1
  · exact ⟨hks, v, r.kp hk (fun _ y => y.kp hk) fun _ y => y, .inr ⟨hr, c, hc c h2, h3.keeps hk⟩⟩
theorem Gn.comp {env : Env} {hB hE : Heap} {x v} {scope : Scope} {cl : List (PySem.Str × Addr)} {C : Addr} (h : Gn env hB x v) (hk : Kp hB hE) (hks : scope.kind = .function) (hr : (relabel scope env).names.lookup x = some .globalImplicit) : Gn (compEnvC scope cl C env) hE x v := by
  obtain ⟨_, _, mg, hg, h⟩ := h
  exact ⟨hks, hr, mg, hg.keeps hk, h.imp id fun ⟨a, mb, b, c⟩ => ⟨a, mb, b.keeps hk, c⟩⟩
end
end Mine
end

section
namespace Mine

structure EX (prog : Program) (w : World) (A : Around) (env : Env) (R : Flow → Shared → Prop) (l : List Stmt) (s : Shared) : Prop where
  h : wpAny (model prog w) A (execs l env) R NoE s
theorem EX.nil {prog : Program} {w : World} {A : Around} {env : Env} {R : Flow → Shared → Prop} {s : Shared} (h : R .next s) : EX prog w A env R [] s := ⟨wpAny_execs_nil h⟩
theorem EX.mono {prog : Program} {w : World} {A : Around} {env : Env} {R R' : Flow → Shared → Prop} {l : List Stmt} {s : Shared} (h : EX prog w A env R l s) (hr : ∀ f s', R f s' → R' f s') : EX prog w A env R' l s := ⟨mono' h.h hr⟩

/-- the heap without the plain sequences that Q does not hold -/
noncomputable def Bs (h : Heap) (Q : Addr → Prop) : Heap := restr h fun a => NoSeq h a ∨ Q a
theorem Bs.kp (h Q) : Kp (Bs h Q) h := restr_kp _ _
theorem Bs.get {h : Heap} {Q : Addr → Prop} {a o} (e : h.get? a = some o) (hq : NoSeq h a ∨ Q a) : (Bs h Q).get? a = some o := restr_pos hq e
theorem Bs.out {h h' : Heap} {Q : Addr → Prop} {T T' : Tok → Prop} {v d} (k : Kp h h') (r : Rep h' (PN (Hin (Bs h Q)) h) T v d) (ht : ∀ t, T t → T' t) : Rep h' (PN Q h) T' v d := by
  refine r.step (fun a c xs n hp hg => ⟨?_, hg⟩) ht
  rcases hp with hp | hp
  · have h1 := restr_in hp
    obtain ⟨o, e⟩ := hp
    have e' := Bs.kp _ _ _ _ e
    rcases h1 with h1 | h1
    · have := k _ _ e'
      rw [hg] at this
      cases this
      exact absurd e' (h1 c xs n)
    · exact .inl h1
  · exact .inr hp
theorem Bs.ns {h : Heap} {Q a m} (hn : h.Ns a m) : (Bs h Q).Ns a m := by
  have := noSeq_ns hn
  obtain ⟨o, es, ep, ho, r⟩ := hn
  exact ⟨o, es, ep, Bs.get ho (.inl this), r⟩

section
variable {s₀ s s' : Shared} {env : Env} {m cm : Mp} {Q : Addr → Prop}
theorem Fs.nL (F : Fs s₀ env m cm s) {Q' : Addr → Prop} {T x d} (r : Vr m s.heap Q' T x d) (hx : env.kindOf x = some .local) (hp : ∀ a, Q' a → Q a) : Nm env (Bs s.heap Q) T x d :=
  F.nmL (fun _ h => .inl (F.noSeq h)) r hx fun a h => .inr (hp a h)
theorem Fs.nC (F : Fs s₀ env m cm s) {Q' : Addr → Prop} {T x d c} (r : Vr cm s.heap Q' T x d) (hx : env.kindOf x = some .cell) (hc : env.cells.lookup x = some c) (hp : ∀ a, Q' a → Q a) : Nm env (Bs s.heap Q) T x d :=
  F.nmC (fun _ h => .inl (F.noSeq h)) r hx hc fun a h => .inr (hp a h)
theorem Bt.sk (F : Fs s₀ env m cm s) (k : Bt (Fp env) s s') : Sk s.heap s'.heap := fun a c xs n e => k.keep a _ (fun q => F.noSeq q _ _ _ e) e
end

section
variable {prog : Program} {w : World} {A : Around} {env : Env} {T : Tok → Prop} {s₀ s : Shared} {m cm : Mp} {Q : Addr → Prop} {R : Flow → Shared → Prop}

theorem X.storeL {x : PySem.Str} {v : Value} {U : Unit → Shared → Prop} (F : Fs s₀ env m cm s) (hx : env.kindOf x = some .local) (next : ∀ s', Fs s₀ env (upd m x v) cm s' → Bt (Fp env) s s' → U () s') :
    wpAny (model prog w) A (storeName env x v) U NoE s := by
  refine wpAny_storeName_local hx F.ns (fun h' hn hs => next _ ?_ ?_) (by rw [F.kind]; rfl)
  · refine ⟨⟨⟨?_, hn, fun b o e => hs.extBut b o (fun q => by rw [q, F.freshL] at e; cases e) (F.keep b o e), F.ic.toInCall.fresh⟩, fun n c hc => (F.cell hc).sameBut hs (Nat.ne_of_gt (F.ic.above n c (PySem.mem_of_lookup hc))), F.ic.apart, F.ic.above⟩, F.kind, Nat.le_succ_of_le F.le, F.uniq⟩
    obtain ⟨h, t, e⟩ := F.ic.toInCall.same
    exact ⟨h', _, by rw [e]⟩
  · exact ⟨⟨h', _, rfl⟩, fun b o n e => hs.extBut b o (fun q => n (.inl q)) e, Nat.le_succ _⟩
theorem X.storeC {x : PySem.Str} {c : Addr} {v : Value} {U : Unit → Shared → Prop} (F : Fs s₀ env m cm s) (hx : env.kindOf x = some .cell) (hc : env.cells.lookup x = some c) (next : ∀ s', Fs s₀ env m (upd cm x v) s' → Bt (Fp env) s s' → U () s') :
    wpAny (model prog w) A (storeName env x v) U NoE s := by
  have hm := PySem.mem_of_lookup hc
  refine wpAny_storeName_cell F.kind hx hc (F.cell hc) fun h' hcv hs => next _ ?_ ?_
  · have hLc := F.ic.above x c hm
    refine ⟨⟨⟨?_, F.ns.sameBut hs (Nat.ne_of_lt hLc), fun b o e => hs.extBut b o (fun q => by rw [q, F.new (.inr ⟨x, hm⟩)] at e; cases e) (F.keep b o e), F.ic.toInCall.fresh⟩, fun n c' hc' => ?_, F.ic.apart, F.ic.above⟩, F.kind, F.le, F.uniq⟩
    · obtain ⟨h, t, e⟩ := F.ic.toInCall.same
      exact ⟨h', t, by rw [e]⟩
    · by_cases hn : n = x
      · subst hn
        rw [hc] at hc'; cases hc'
        simpa [upd] using hcv
      · show h'.IsCell c' (upd cm x v n)
        rw [upd_ne hn]
        exact (F.cell hc').sameBut hs fun q => hn (PySem.name_of_addr F.ic.apart (PySem.mem_of_lookup hc') (q ▸ hm))
  · exact ⟨⟨h', _, rfl⟩, fun b o n e => hs.extBut b o (fun q => n (.inr ⟨x, q ▸ hm⟩)) e, Nat.le_refl _⟩

theorem X.assignL {x : PySem.Str} {px pos : Pos} {value : Expr} {rest : List Stmt} {d : D} (F : Fs s₀ env m cm s) (hx : env.kindOf x = some .local) (hv : EV prog w A env (Bs s.heap Q) T value d)
    (next : ∀ s' v, Fs s₀ env (upd m x v) cm s' → Bt (Fp env) s s' → Sk s.heap s'.heap → Rep s'.heap (PN Q s.heap) (TN T s s') v d → EX prog w A env R rest s')
    (hsw : swapsWith value (some (.Name x px)) pos.line env = pure false := by rfl) :
    EX prog w A env R (.Assign [.Name x px] value pos :: rest) s := by
  refine ⟨wpAny_execs_cons (wpAny_Assign_Name (mono' (hv.h s (Bs.kp _ _)) fun v s₁ h₁ => ?_) hsw)⟩
  have F₁ := F.ksF h₁.1
  refine X.storeL F₁ hx fun s₂ F₂ b₂ => ?_
  have k₂ := b₂.sk F₁
  exact (next s₂ v F₂ (h₁.1.bt.trans b₂) (h₁.1.kp.sk.trans k₂) ((Bs.out h₁.1.kp h₁.2 fun _ x => x).sk k₂ (fun _ x => x) fun _ x => x.mono (fun _ y => y) (Nat.le_refl _) b₂.le)).h
theorem X.assignC {x : PySem.Str} {px pos : Pos} {c : Addr} {value : Expr} {rest : List Stmt} {d : D} (F : Fs s₀ env m cm s) (hx : env.kindOf x = some .cell) (hc : env.cells.lookup x = some c) (hv : EV prog w A env (Bs s.heap Q) T value d)
    (next : ∀ s' v, Fs s₀ env m (upd cm x v) s' → Bt (Fp env) s s' → Sk s.heap s'.heap → Rep s'.heap (PN Q s.heap) (TN T s s') v d → EX prog w A env R rest s')
    (hsw : swapsWith value (some (.Name x px)) pos.line env = pure false := by rfl) :
    EX prog w A env R (.Assign [.Name x px] value pos :: rest) s := by
  refine ⟨wpAny_execs_cons (wpAny_Assign_Name (mono' (hv.h s (Bs.kp _ _)) fun v s₁ h₁ => ?_) hsw)⟩
  have F₁ := F.ksF h₁.1
  refine X.storeC F₁ hx hc fun s₂ F₂ b₂ => ?_
  have k₂ := b₂.sk F₁
  exact (next s₂ v F₂ (h₁.1.bt.trans b₂) (h₁.1.kp.sk.trans k₂) ((Bs.out h₁.1.kp h₁.2 fun _ x => x).sk k₂ (fun _ x => x) fun _ x => x.mono (fun _ y => y) (Nat.le_refl _) b₂.le)).h
theorem swaps_cell {elt : Expr} {gens : List Comprehension} {scope : Scope} {p px : Pos} {x : PySem.Str} {l : Nat} (hx : env.kindOf x = some .cell) : swapsWith (.ListComp elt gens scope p) (some (.Name x px)) l env = pure false := by
  show (pure (env.blockKind == .function && env.kindOf x == some .local && px.line == p.line && !(scope.names.any fun (n, k) => n == x && (k == .local || k == .cell))) : Sem Bool) = pure false
  rw [hx]; simp [show (NameKind.cell == NameKind.local) = false from rfl]

theorem X.ret {e : Expr} {pos : Pos} {rest : List Stmt} {d : D} (F : Fs s₀ env m cm s) (hv : EV prog w A env (Bs s.heap Q) T e d)
    (next : ∀ s' v, Ks s₀ s' → Ks s s' → Rep s'.heap (PN Q s.heap) (TN T s s') v d → R (.ret v) s') :
    EX prog w A env R (.Return (some e) pos :: rest) s := by
  refine ⟨wpAny_execs_cons (wpAny_Return_some (mono' (hv.h s (Bs.kp _ _)) fun v s₁ h₁ => ?_))⟩
  exact next s₁ v (F.ks.trans h₁.1) h₁.1 (Bs.out h₁.1.kp h₁.2 fun _ x => x)

theorem X.if {test : Expr} {body orelse rest : List Stmt} {pos : Pos} {b : Bool} (ht : EB prog w A env (Bs s.heap Q) test b)
    (next : ∀ s', Ks s s' → EX prog w A env (fun f s'' => match f with | .next => EX prog w A env R rest s'' | f => R f s'') (if b then body else orelse) s') :
    EX prog w A env R (.If test body orelse pos :: rest) s := by
  refine ⟨wpAny_execs_cons (wpAny_If (mono' (ht.h s (Bs.kp _ _)) fun r s₁ h₁ => ?_))⟩
  obtain ⟨k, rfl⟩ := h₁
  have this := (next s₁ k).h
  have e : ∀ (f : Flow) (s'' : Shared), (match f with | .next => EX prog w A env R rest s'' | f => R f s'') → (match f with | .next => wpAny (model prog w) A (execs rest env) R NoE s'' | f => R f s'') := fun f s'' h => by
    cases f with
    | next => exact h.h
    | _ => exact h
  cases r <;> exact mono' this e
/-- an if that is passed by -/
theorem X.ifF {test : Expr} {body rest : List Stmt} {pos : Pos} (F : Fs s₀ env m cm s) (ht : EB prog w A env (Bs s.heap Q) test false)
    (next : ∀ s', Fs s₀ env m cm s' → Ks s s' → EX prog w A env R rest s') :
    EX prog w A env R (.If test body [] pos :: rest) s :=
  X.if ht fun s' k => EX.nil (next s' (F.ksF k) k)

noncomputable def FnAt (h : Heap) (a : Addr) (fd : FuncData) : Prop := ∃ o, h.get? a = some o ∧ o.data = .func fd ∧ h.CodeRec fd.code fd.qualname

theorem lookup_of_mem_nodup {α : Type} : ∀ {l : List (PySem.Str × α)} {n : PySem.Str} {b : α}, (l.map (·.1)).Nodup → (n, b) ∈ l → l.lookup n = some b
  | (k, v) :: r, n, b, hn, hm => by
    rw [List.map_cons, List.nodup_cons] at hn
    rw [List.lookup_cons]
    rcases List.mem_cons.mp hm with e | hm'
    · cases e; simp
    · have hin : n ∈ r.map (·.1) := List.mem_map_of_mem (f := Prod.fst) hm'
      have hk : n ≠ k := fun q => hn.1 (by rw [q] at hin; exact hin)
      rw [beq_eq_false_iff_ne.mpr hk]
      exact lookup_of_mem_nodup hn.2 hm'

/-- what is known of the frame's own description -/
structure EnvIs (env : Env) (names : List (PySem.Str × NameKind)) : Prop where
  kind : env.scope.kind = .function
  nms : env.scope.names = names
  glob : env.globals = mainGlobals
  bi : env.builtins = builtinsNs
  cells : env.cells = cellsFrom (env.locals + 1) names []
theorem EnvIs.k {env names} (E : EnvIs env names) (x : PySem.Str) : env.kindOf x = names.lookup x := by rw [Env.kindOf, E.nms]
theorem EnvIs.c {env names} (E : EnvIs env names) (x : PySem.Str) : env.cells.lookup x = (cellsFrom (env.locals + 1) names []).lookup x := by rw [E.cells]
theorem EnvIs.inter {env names} (E : EnvIs env names) : interactive env = false := by unfold interactive; rw [E.kind]; rfl

noncomputable def cellNames : List (PySem.Str × NameKind) → List PySem.Str → List PySem.Str
  | [], acc => acc
  | (n, k) :: r, acc => if k == .cell then cellNames r (n :: acc) else cellNames r acc
theorem cellNames_eq : ∀ (names : List (PySem.Str × NameKind)) (n : Nat) (acc : List (PySem.Str × Addr)), (cellsFrom n names acc).map (·.1) = cellNames names (acc.map (·.1))
  | [], _, _ => rfl
  | (x, k) :: r, n, acc => by
    unfold cellsFrom cellNames
    split
    · exact cellNames_eq r (n + 1) ((x, n) :: acc)
    · exact cellNames_eq r n acc
noncomputable def nodupB : List PySem.Str → Bool
  | [] => true
  | x :: r => !r.contains x && nodupB r
theorem nodupB_ok : ∀ {l : List PySem.Str}, nodupB l = true → l.Nodup
  | [], _ => .nil
  | x :: r, h => by
    simp only [nodupB, Bool.and_eq_true, Bool.not_eq_true', List.contains_eq_mem, decide_eq_false_iff_not] at h
    exact List.nodup_cons.mpr ⟨h.1, nodupB_ok h.2⟩

theorem enter {fd : FuncData} {body : List Stmt} {a : Addr} {vals : List Value} {U : Value → Shared → Prop} (binds : List (PySem.Str × Value)) (hroom : A.depth < recursionLimit) (hf : FnAt s.heap a fd) (hlim : s.heap.NoLimit)
    (hbody : fd.body = .stmts body) (hbind : bindArgs fd ⟨vals, []⟩ = pure binds) (hclo : fd.closure = []) (hgl : fd.globals = mainGlobals) (hbi : fd.builtins = builtinsNs)
    (hkind : (binds.all fun y => fd.scope.names.lookup y.1 == some .local || fd.scope.names.lookup y.1 == some .cell) = true)
    (huniq : nodupB (cellNames fd.scope.names []) = true)
    (hco : fd.scope.isCoroutine = false) (hgen : fd.scope.isGenerator = false) (hk : fd.scope.kind = .function)
    (h : ∀ s₁ env, EnvIs env fd.scope.names → Fs s env (bindL (fun x => fd.scope.names.lookup x) binds fun _ => none) (bindC (fun x => fd.scope.names.lookup x) binds fun _ => none) s₁ →
      EX prog w (A.deeper env) env (fun f s' => U (match f with | .ret v => v | _ => .none) s') body s₁) :
    wpAny (model prog w) A (call (.ref a) vals) U NoE s := by
  obtain ⟨o, ho, hd, hcd⟩ := hf
  refine wpAny_call (codeAny_call_function hroom ho hd hco hgen hbody hcd ?_)
  rw [hbind, hclo]
  refine wpAny_pure (wpAny_with_toks (n := s.toks) (Nat.le_refl _) (wpAny_newFunctionEnv_cells hk (PySem.W.kindsX hkind _) fun env he s' x ht => ?_))
  have E : EnvIs env fd.scope.names := by subst he; exact ⟨hk, rfl, hgl, hbi, rfl⟩
  have ek : env.kindOf = fun x => fd.scope.names.lookup x := funext E.k
  have hN : ((cellsFrom (env.locals + 1) fd.scope.names []).map (·.1)).Nodup := by rw [cellNames_eq]; exact nodupB_ok huniq
  have F : Fs s env (bindL env.kindOf binds fun _ => none) (bindC env.kindOf binds fun _ => none) s' := ⟨x, E.kind, ht, fun n b hm => by rw [E.cells] at hm ⊢; exact lookup_of_mem_nodup hN hm⟩
  rw [ek] at F
  exact ⟨hlim.keeps x.toInCall.keep, codeAny_func (wpAny_mono (h s' env E F).h (fun _ _ y => y) fun _ _ y => y.elim)⟩

/-- a loop's turns over a source; Φ says what holds between the turns, in words of the names and of the plain sequences -/
theorem X.for {target : Expr} {pos : Pos} {iter : Expr} {body rest : List Stmt} {ds : List D} {S : Addr → Prop} (Φ : Nat → Mp → Mp → Shared → Prop)
    (F : Fs s₀ env m cm s) (hit : IT prog w A env (Bs s.heap Q) T iter ds)
    (hS : ∀ b, S b → s₀.heap.get? b = none ∧ Hin s.heap b ∧ ¬ NoSeq s.heap b ∧ ¬ Q b)
    (hΦ : ∀ i m cm s s', Φ i m cm s → Sk s.heap s'.heap → s.toks ≤ s'.toks → Φ i m cm s')
    (h0 : Φ 0 m cm s)
    (turn : ∀ i d v m₁ cm₁ s₁, ds[i]? = some d → Fs s₀ env m₁ cm₁ s₁ → Φ i m₁ cm₁ s₁ → Rep s₁.heap (PN Q s.heap) (TN T s s₁) v d → Bt (fun b => Fp env b ∨ S b) s s₁ →
      wpAny (model prog w) A (assign target env v) (fun _ s₂ => EX prog w A env (fun f s₃ => match f with
        | .ret v => R (.ret v) s₃
        | .brk => False
        | _ => ∃ m₃ cm₃, Fs s₀ env m₃ cm₃ s₃ ∧ Φ (i + 1) m₃ cm₃ s₃ ∧ Bt (fun b => Fp env b ∨ S b) s₁ s₃) body s₂) NoE s₁)
    (fin : ∀ m' cm' s', Fs s₀ env m' cm' s' → Φ ds.length m' cm' s' → Bt (fun b => Fp env b ∨ S b) s s' → EX prog w A env R rest s')
    (hs : ∀ x, foldedSetIterable iter env x = pure x := by intro _; rfl) :
    EX prog w A env R (.For target iter body [] pos :: rest) s := by
  refine ⟨wpAny_execs_cons (wpAny_For (mono' (hit.h s (Bs.kp _ _)) fun xv s₁ h₁ => mono' h₁ fun it s₂ h₂ => ?_) hs)⟩
  obtain ⟨I, fp, wr, n, Pv, St, rfl, Sr⟩ := h₂
  have W := Sr.W
  have F₂ := F.ksF Sr.ks
  have hFpIn : ∀ b, Fp env b → Hin s.heap b := fun b h => F.inH h
  have hwF : ∀ b ∈ wr, ¬ Fp env b := fun b hb h => by obtain ⟨o, e⟩ := hFpIn b h; rw [Sr.wrNew b hb] at e; cases e
  have hwS : ∀ b ∈ wr, ¬ S b := fun b hb h => by obtain ⟨_, ⟨o, e⟩, _⟩ := hS b h; rw [Sr.wrNew b hb] at e; cases e
  have hw0 : ∀ b ∈ wr, s₀.heap.get? b = none := fun b hb => none_of_kp F.keep (Sr.wrNew b hb)
  have hfp : ∀ b ∈ fp, ¬ (Fp env b ∨ S b) := fun b hb h => by
    rcases Sr.fpOk b hb with e | ⟨hi, hn⟩
    · rcases h with h | h
      · obtain ⟨o, e'⟩ := hFpIn b h; rw [e] at e'; cases e'
      · obtain ⟨_, ⟨o, e'⟩, _⟩ := hS b h; rw [e] at e'; cases e'
    · rcases h with h | h
      · exact hn (F.noSeq h)
      · have := restr_in hi
        exact this.elim hn (hS b h).2.2.2
  refine codeAny_forLoop_any
    (fun k s' => ∃ i m' cm', i ≤ n ∧ k = n + 1 - i ∧ St i s'.heap ∧ Fs s₀ env m' cm' s' ∧ Φ i m' cm' s' ∧ Bt (fun b => Fp env b ∨ S b) s s' ∧ (∃ h t, s' = { s₂ with heap := h, toks := t }) ∧ s₂.toks ≤ s'.toks ∧
      (∀ b o, ¬ (Fp env b ∨ S b) → b ∉ wr → s₂.heap.get? b = some o → s'.heap.get? b = some o)) ?_ (n + 1)
    ⟨0, m, cm, Nat.zero_le _, rfl, Sr.st, F₂, hΦ _ _ _ _ _ h0 Sr.ks.kp.sk Sr.ks.le, Sr.ks.bt, ⟨_, _, rfl⟩, Nat.le_refl _, fun b o _ _ e => e⟩
  rintro k s' ⟨i, m', cm', hi, rfl, hst, F', hφ, hbt, hsame, hle, hkeep⟩
  have hlen := Sr.len
  by_cases hlt : i < n
  · refine wpAny_with_toks (n := s'.toks) (Nat.le_refl _) (W.item i _ _ _ hlt hst fun v h₁ tk₁ hPv hst₁ hk₁ htk₁ => ?_)
    obtain ⟨d, hd, hrd⟩ := Sr.item i v hPv
    have b₁ : Bt (fun b => b ∈ wr) s' { s' with heap := h₁, toks := tk₁ } := ⟨⟨_, _, rfl⟩, fun b o hb e => hk₁ b o hb e, htk₁⟩
    have F₁ := F'.bt b₁ fun b hb => ⟨hwF b hb, hw0 b hb⟩
    have sk₁ : Sk s'.heap h₁ := fun a c xs nn e => hk₁ a _ (fun hm => Sr.wrSeq i _ hst a hm _ _ _ e) e
    have φ₁ := hΦ i m' cm' s' { s' with heap := h₁, toks := tk₁ } hφ sk₁ htk₁
    have bs₁ : Bt (fun b => Fp env b ∨ S b) s { s' with heap := h₁, toks := tk₁ } := by
      obtain ⟨⟨h, t, rfl⟩, kk, ll⟩ := hbt
      exact ⟨⟨h₁, tk₁, rfl⟩, fun b o hb e => hk₁ b o (fun hm => by rw [Sr.wrNew b hm] at e; cases e) (kk b o hb e), Nat.le_trans ll htk₁⟩
    have r₁ : Rep h₁ (PN Q s.heap) (TN T s { s' with heap := h₁, toks := tk₁ }) v d := by
      refine (Bs.out Sr.ks.kp hrd fun _ x => x).step (fun a c xs nn hp hg => ⟨hp, ?_⟩) fun _ x => x.mono (fun _ y => y) (Nat.le_refl _) (Nat.le_trans hle htk₁)
      have hnF : ¬ (Fp env a ∨ S a) := fun h => by
        rcases h with h | h
        · exact F₂.noSeq h _ _ _ hg
        · obtain ⟨_, ⟨o, e⟩, _, hq⟩ := hS a h
          rcases hp with hp | hp
          · exact hq hp
          · rw [hp] at e; cases e
      have hnw : a ∉ wr := fun hm => Sr.wrSeq 0 _ Sr.st a hm _ _ _ hg
      exact hk₁ a _ hnw (hkeep a _ hnF hnw hg)
    refine mono' (Sr.go (i + 1) { s' with heap := h₁, toks := tk₁ } target v (fun _ u => u = { s' with heap := h₁, toks := tk₁ }) hst₁ rfl) fun _ u hu => ?_
    subst hu
    refine mono' (turn i d v m' cm' _ hd F₁ φ₁ r₁ bs₁) fun _ s₂' h₂ => mono' h₂.h fun f s₃ h₃ => ?_
    have done : (∃ m₃ cm₃, Fs s₀ env m₃ cm₃ s₃ ∧ Φ (i + 1) m₃ cm₃ s₃ ∧ Bt (fun b => Fp env b ∨ S b) { s' with heap := h₁, toks := tk₁ } s₃) →
        ∃ k, k < n + 1 - i ∧ ∃ i m' cm', i ≤ n ∧ k = n + 1 - i ∧ St i s₃.heap ∧ Fs s₀ env m' cm' s₃ ∧ Φ i m' cm' s₃ ∧ Bt (fun b => Fp env b ∨ S b) s s₃ ∧ (∃ h t, s₃ = { s₂ with heap := h, toks := t }) ∧ s₂.toks ≤ s₃.toks ∧
          (∀ b o, ¬ (Fp env b ∨ S b) → b ∉ wr → s₂.heap.get? b = some o → s₃.heap.get? b = some o) := by
      rintro ⟨m₃, cm₃, F₃, φ₃, b₃⟩
      refine ⟨n + 1 - (i + 1), by omega, i + 1, m₃, cm₃, hlt, rfl, W.frame _ _ _ hst₁ fun b hb o e => b₃.keep b o (hfp b hb) e, F₃, φ₃, bs₁.trans b₃, ?_, Nat.le_trans hle (Nat.le_trans htk₁ b₃.le), fun b o hb hw e => b₃.keep b o hb (hk₁ b o hw (hkeep b o hb hw e))⟩
      obtain ⟨h, t, e⟩ := b₃.same
      obtain ⟨h', t', e'⟩ := hsame
      exact ⟨h, t, by rw [e, e']⟩
    match f, h₃ with
    | .next, h₃ => exact done h₃
    | .cont, h₃ => exact done h₃
    | .ret v, h₃ => exact h₃
    | .brk, h₃ => exact h₃.elim
  · have hin : i = n := by omega
    refine wpAny_with_toks (n := s'.toks) (Nat.le_refl _) (W.done _ _ _ (hin ▸ hst) fun h₁ tk₁ hk₁ htk₁ => ?_)
    have b₁ : Bt (fun b => b ∈ wr) s' { s' with heap := h₁, toks := tk₁ } := ⟨⟨_, _, rfl⟩, fun b o hb e => hk₁ b o hb e, htk₁⟩
    have F₁ := F'.bt b₁ fun b hb => ⟨hwF b hb, hw0 b hb⟩
    have sk₁ : Sk s'.heap h₁ := fun a c xs nn e => hk₁ a _ (fun hm => Sr.wrSeq i _ hst a hm _ _ _ e) e
    refine wpAny_execs_nil ?_
    refine EX.h (fin m' cm' _ F₁ (by rw [hlen, ← hin]; exact hΦ i m' cm' s' _ hφ sk₁ htk₁) ?_)
    obtain ⟨⟨h, t, rfl⟩, kk, ll⟩ := hbt
    exact ⟨⟨h₁, tk₁, rfl⟩, fun b o hb e => hk₁ b o (fun hm => by rw [Sr.wrNew b hm] at e; cases e) (kk b o hb e), Nat.le_trans ll htk₁⟩
end
end Mine
end

section
namespace Mine
section
variable {prog : Program} {w : World} {A : Around} {env : Env} {T : Tok → Prop} {s₀ s : Shared} {m cm : Mp} {Q : Addr → Prop} {R : Flow → Shared → Prop}

theorem X.asgL {x : PySem.Str} {px : Pos} {v : Value} {U : Unit → Shared → Prop} (F : Fs s₀ env m cm s) (hx : env.kindOf x = some .local) (next : ∀ s', Fs s₀ env (upd m x v) cm s' → Bt (Fp env) s s' → U () s') :
    wpAny (model prog w) A (assign (.Name x px) env v) U NoE s := wpAny_assign_Name (X.storeL F hx next)
theorem X.asgC {x : PySem.Str} {px : Pos} {c : Addr} {v : Value} {U : Unit → Shared → Prop} (F : Fs s₀ env m cm s) (hx : env.kindOf x = some .cell) (hc : env.cells.lookup x = some c) (next : ∀ s', Fs s₀ env m (upd cm x v) s' → Bt (Fp env) s s' → U () s') :
    wpAny (model prog w) A (assign (.Name x px) env v) U NoE s := wpAny_assign_Name (X.storeC F hx hc next)

theorem Fs.ext (F : Fs s₀ env m cm s) {h' : Heap} (he : Heap.ExtBut s.heap.objs.size s.heap h') : Fs s₀ env m cm { s with heap := h' } ∧ Ks s { s with heap := h' } := by
  have k : Ks s { s with heap := h' } := ⟨h', s.toks, rfl, fun b o e => he b o (Nat.ne_of_lt (Heap.lt_size e)) e, Nat.le_refl _⟩
  exact ⟨F.ksF k, k⟩

theorem X.asgTup2 {x y : PySem.Str} {p1 p2 pos : Pos} {k : Nat} {v : Value} {d1 d2 : D} {P : Addr → Prop} {U : Unit → Shared → Prop} (hh : A.handled = none) (F : Fs s₀ env m cm s) (hx : env.kindOf x = some .local) (hy : env.kindOf y = some .local)
    (r : Rep s.heap P T v (.tup [d1, d2])) (next : ∀ s' v1 v2, Fs s₀ env (upd (upd m x v1) y v2) cm s' → Bt (Fp env) s s' → Rep s'.heap P T v1 d1 → Rep s'.heap P T v2 d2 → U () s') :
    wpAny (model prog w) A (assign (.Tuple [.Name x p1, .Name y p2] k pos) env v) U NoE s := by
  cases r with | tup hp hg hr => ?_
  cases hr with | @cons v1 _ _ _ r1 hr => ?_
  cases hr with | @cons v2 _ _ _ r2 hr => ?_
  cases hr
  refine wpAny_assign_Tuple hh ⟨_, hg, rfl, _, rfl⟩ rfl rfl fun h' he => ?_
  obtain ⟨F₁, k₁⟩ := F.ext he
  show wpAny _ A (assignInOrder [assign (.Name x p1) env, assign (.Name y p2) env] [v1, v2]) U NoE _
  refine PySem.wpAny_assignInOrder_more (X.asgL F₁ hx fun s₂ F₂ b₂ => PySem.wpAny_assignInOrder_more (X.asgL F₂ hy fun s₃ F₃ b₃ => PySem.wpAny_assignInOrder_none ?_))
  have sk := (k₁.kp.sk.trans (b₂.sk F₁)).trans (b₃.sk F₂)
  exact next s₃ v1 v2 F₃ ((k₁.bt.trans b₂).trans b₃) (r1.sk sk (fun _ x => x) fun _ x => x) (r2.sk sk (fun _ x => x) fun _ x => x)

theorem X.asgTup3 {x y z : PySem.Str} {p1 p2 p3 pos : Pos} {k : Nat} {v : Value} {d1 d2 d3 : D} {P : Addr → Prop} {U : Unit → Shared → Prop} (hh : A.handled = none) (F : Fs s₀ env m cm s) (hx : env.kindOf x = some .local) (hy : env.kindOf y = some .local) (hz : env.kindOf z = some .local)
    (r : Rep s.heap P T v (.tup [d1, d2, d3])) (next : ∀ s' v1 v2 v3, Fs s₀ env (upd (upd (upd m x v1) y v2) z v3) cm s' → Bt (Fp env) s s' → Rep s'.heap P T v1 d1 → Rep s'.heap P T v2 d2 → Rep s'.heap P T v3 d3 → U () s') :
    wpAny (model prog w) A (assign (.Tuple [.Name x p1, .Name y p2, .Name z p3] k pos) env v) U NoE s := by
  cases r with | tup hp hg hr => ?_
  cases hr with | @cons v1 _ _ _ r1 hr => ?_
  cases hr with | @cons v2 _ _ _ r2 hr => ?_
  cases hr with | @cons v3 _ _ _ r3 hr => ?_
  cases hr
  refine wpAny_assign_Tuple hh ⟨_, hg, rfl, _, rfl⟩ rfl rfl fun h' he => ?_
  obtain ⟨F₁, k₁⟩ := F.ext he
  show wpAny _ A (assignInOrder [assign (.Name x p1) env, assign (.Name y p2) env, assign (.Name z p3) env] [v1, v2, v3]) U NoE _
  refine PySem.wpAny_assignInOrder_more (X.asgL F₁ hx fun s₂ F₂ b₂ => PySem.wpAny_assignInOrder_more (X.asgL F₂ hy fun s₃ F₃ b₃ => PySem.wpAny_assignInOrder_more (X.asgL F₃ hz fun s₄ F₄ b₄ => PySem.wpAny_assignInOrder_none ?_)))
  have sk := ((k₁.kp.sk.trans (b₂.sk F₁)).trans (b₃.sk F₂)).trans (b₄.sk F₃)
  exact next s₄ v1 v2 v3 F₄ (((k₁.bt.trans b₂).trans b₃).trans b₄) (r1.sk sk (fun _ x => x) fun _ x => x) (r2.sk sk (fun _ x => x) fun _ x => x) (r3.sk sk (fun _ x => x) fun _ x => x)

theorem X.assignTup3 {x y z : PySem.Str} {p1 p2 p3 tpos pos : Pos} {k : Nat} {value : Expr} {rest : List Stmt} {d1 d2 d3 : D} (hh : A.handled = none) (F : Fs s₀ env m cm s) (hx : env.kindOf x = some .local) (hy : env.kindOf y = some .local) (hz : env.kindOf z = some .local)
    (hv : EV prog w A env (Bs s.heap Q) T value (.tup [d1, d2, d3]))
    (next : ∀ s' v1 v2 v3, Fs s₀ env (upd (upd (upd m x v1) y v2) z v3) cm s' → Sk s.heap s'.heap → Rep s'.heap (PN Q s.heap) Tr v1 d1 → Rep s'.heap (PN Q s.heap) Tr v2 d2 → Rep s'.heap (PN Q s.heap) Tr v3 d3 → EX prog w A env R rest s')
    (hs : swapsWithSole [.Tuple [.Name x p1, .Name y p2, .Name z p3] k tpos] value pos.line env = pure false := by rfl)
    (hw : swappedStores [.Tuple [.Name x p1, .Name y p2, .Name z p3] k tpos] value env = pure none := by rfl) :
    EX prog w A env R (.Assign [.Tuple [.Name x p1, .Name y p2, .Name z p3] k tpos] value pos :: rest) s := by
  refine ⟨wpAny_execs_cons (Assign_Tuple (mono' (hv.h s (Bs.kp _ _)) fun v s₁ h₁ => ?_) hs hw)⟩
  have F₁ := F.ksF h₁.1
  refine X.asgTup3 hh F₁ hx hy hz ((Bs.out h₁.1.kp h₁.2 tr_all)) fun s₂ v1 v2 v3 F₂ b₂ r1 r2 r3 => ?_
  exact (next s₂ v1 v2 v3 F₂ (h₁.1.kp.sk.trans (b₂.sk F₁)) r1 r2 r3).h

/-- a list of the call's own gets one more -/
theorem X.append {o elt : Expr} {apos pos spos : Pos} {rest : List Stmt} {d : D} {a : Addr} {ys : List Value} {c : Nat} (F : Fs s₀ env m cm s)
    (ho : wpAny (model prog w) A (eval o env) (fun v s' => Ks s s' ∧ v = .ref a) NoE s) (ha : s.heap.get? a = some (lstObj ys c)) (ha0 : s₀.heap.get? a = none) (hQ : ¬ Q a) (hl : ys.length ≤ 1000)
    (hv : EV prog w A env (Bs s.heap Q) T elt d)
    (next : ∀ s' y c', Fs s₀ env m cm s' → Bt (fun b => b = a) s s' → s'.heap.get? a = some (lstObj (ys ++ [y]) c') → Rep s'.heap (PN Q s.heap) (TN T s s') y d → EX prog w A env R rest s')
    (hbase : attributeBase o "append" env (eval o env) = eval o env := by rfl)
    (hline : (apos.endLine == pos.line) = true := by rfl)
    (htrees : ∀ p, backTo p (starEach [elt] env) = [(false, eval elt env)] := by intro _; rfl)
    (hfew : ((backTo pos (starEach [elt] env)).all (fun x => !x.1) && (backToKw pos (keywordEach [] env)).all (fun x => x.1.isSome)
      && decide (([elt] : List Expr).length + ([] : List Keyword).length + (if ([] : List Keyword).isEmpty then 0 else 1) < 30)) = true := by rfl)
    (hi : interactive env = false) (hsw : swapsWith (.Call (.Attribute o "append" apos) [elt] [] pos) none spos.line env = pure false := by rfl) :
    EX prog w A env R (.Expr (.Call (.Attribute o "append" apos) [elt] [] pos) spos :: rest) s := by
  refine ⟨wpAny_execs_cons (wpAny_Expr_any ?_ hi hsw)⟩
  refine wpAny_Call_append hbase hfew hline (htrees pos) (mono' ho fun ov s₁ h₁ => ?_)
  obtain ⟨k₁, rfl⟩ := h₁
  refine ⟨a, ys.toArray, rfl, ⟨_, c, k₁.kp _ _ ha, rfl, rfl, rfl⟩, ?_⟩
  refine mono' (hv.h s₁ ((Bs.kp _ _).trans k₁.kp)) fun y s₂ h₂ => ?_
  obtain ⟨k₂, r⟩ := h₂
  have k := k₁.trans k₂
  have r' : Rep s₂.heap (PN Q s.heap) (TN T s s₂) y d := Bs.out k.kp (r.kp (Kp.refl _) (fun _ x => x.mono (fun _ y => y) k₁.kp) fun _ x => x.mono (fun _ y => y) k₁.le (Nat.le_refl _)) fun _ x => x
  refine wpAny_list_append_plain (items := ys.toArray) ⟨c, k.kp _ _ ha⟩ (fun h' hl' hs' => ?_) (by rw [List.size_toArray, sizeLine_eq]; omega)
  obtain ⟨c', hl'⟩ := hl'
  have b : Bt (fun b => b = a) s₂ { s₂ with heap := h' } := ⟨⟨h', s₂.toks, rfl⟩, fun b o hb e => hs'.extBut b o hb e, Nat.le_refl _⟩
  have F₂ := F.ksF k
  refine EX.h (next { s₂ with heap := h' } y c' (F₂.bt b fun q hq => ⟨fun hf => ?_, hq ▸ ha0⟩) (k.bt.trans b) ?_ ?_)
  · subst hq; exact F₂.noSeq hf _ _ _ (k.kp _ _ ha)
  · show h'.get? a = _
    rw [hl']; simp
  · refine r'.step (fun b cl xs n hp hg => ⟨hp, hs'.extBut b _ (fun q => ?_) hg⟩) fun _ x => x
    subst q
    rcases hp with hp | hp
    · exact hQ hp
    · rw [ha] at hp; cases hp

theorem X.augAdd {x : PySem.Str} {px pos : Pos} {value : Expr} {rest : List Stmt} {i j : Int} (F : Fs s₀ env m cm s) (hx : env.kindOf x = some .local) (hi : Nm env (Bs s.heap Q) Tr x (.int i)) (hv : EV prog w A env (Bs s.heap Q) Tr value (.int j))
    (next : ∀ s' t, Fs s₀ env (upd m x (.int (i + j) t)) cm s' → Bt (Fp env) s s' → Sk s.heap s'.heap → EX prog w A env R rest s') :
    EX prog w A env R (.AugAssign (.Name x px) .Add value pos :: rest) s := by
  refine ⟨wpAny_execs_cons (wpAny_AugAssign_Name (hi.load s (Bs.kp _ _) fun v r => ?_))⟩
  cases r with | int _ t _ => ?_
  refine mono' (hv.h s (Bs.kp _ _)) fun v s₁ h₁ => ?_
  obtain ⟨k, r⟩ := h₁
  cases r with | int _ t _ => ?_
  refine PyProof.Rows.iadd_int ?_
  have kt : Ks s { s₁ with toks := s₁.toks + 1 } := k.trans .tok
  have F₁ := F.ksF kt
  exact X.storeL F₁ hx fun s₂ F₂ b₂ => (next s₂ _ F₂ (kt.bt.trans b₂) (kt.kp.sk.trans (b₂.sk F₁))).h

theorem X.assignComp {elt iter : Expr} {x y : PySem.Str} {px py pos spos : Pos} {ifs : List Expr} {scope : Scope} {cl : List (PySem.Str × Addr)} {ds : List D} {rest : List Stmt} {Ti : Tok → Prop} (p : D → Bool) (f : D → D) (F : Fs s₀ env m cm s) (hy : env.kindOf y = some .local)
    (hit : IT prog w A env (Bs s.heap Q) Ti iter ds) (hn : ds.length ≤ 1000)
    (hclos : closureFor scope env = pure cl) (hcell : ∀ y ∈ scope.names, y.2 ≠ .cell) (hkind : scope.kind = .function) (hnames : ∀ y ∈ scope.names, y.2 = .local → scope.names.lookup y.1 = some .local) (hx : scope.names.lookup x = some .local)
    (ht : ∀ d ∈ ds, ∀ C hE, Kp (Bs s.heap Q) hE → Nm (compEnvC scope cl C env) hE Tr x d → ETs prog w A (compEnvC scope cl C env) hE s.toks ifs (p d))
    (he : ∀ d ∈ ds, p d = true → ∀ C hE, Kp (Bs s.heap Q) hE → Nm (compEnvC scope cl C env) hE Tr x d → EV prog w A (compEnvC scope cl C env) hE T elt (f d))
    (next : ∀ s' v, Fs s₀ env (upd m y v) cm s' → Bt (Fp env) s s' → Sk s.heap s'.heap → Rep s'.heap (PN Q s.heap) (TN T s s') v (.lst ((ds.filter p).map f)) → EX prog w A env R rest s')
    (hsw : swapsWith (.ListComp elt [⟨.Name x px, iter, ifs, 0⟩] scope pos) (some (.Name y py)) spos.line env = pure true)
    (hs : ∀ x, foldedSetIterable iter env x = pure x := by intro _; rfl) :
    EX prog w A env R (.Assign [.Name y py] (.ListComp elt [⟨.Name x px, iter, ifs, 0⟩] scope pos) spos :: rest) s := by
  constructor
  refine wpAny_execs_cons ?_
  rw [exec_Assign_Name_used _ _ _ _ hsw]
  refine wpAny_bind (wpAny_standAt (wpAny_bind ?_))
  show wpAny _ A (do let _ ← comprehension (.ListComp elt [⟨.Name x px, iter, ifs, 0⟩] scope pos) scope env _ (newList []) false (eval iter env) (some (assign (.Name y py) env))) _ _ s
  refine wpAny_bind (mono' (comp_core (fun _ _ => True) (use := some (assign (.Name y py) env)) (Qf := fun _ s' => wpAny (model prog w) A (execs rest env) R NoE s') p f (Bs.kp _ _) hit hn hclos hcell hkind hnames hx ht (fun d hd hp C hE hk nm s hs => mono' ((he d hd hp C hE hk nm).h s hs) fun _ _ x => ⟨x, trivial⟩) (fun s' Dl C m' hn' hC hk' hr _ => ?_) hs) fun _ s' hq => wpAny_pure (wpAny_pure hq))
  have F₁ := F.ksF hk'
  have hCF : ¬ Fp env C := fun h => by obtain ⟨o, e⟩ := F.inH h; rw [hC] at e; cases e
  have r₁ := Bs.out hk'.kp hr fun _ x => x
  refine X.asgL F₁ hy fun s₂ F₂ b₂ => ?_
  obtain ⟨o, es, ep, ho, rr⟩ := hn'
  refine ⟨m', ⟨o, es, ep, b₂.keep _ _ hCF ho, rr⟩, fun h'' hs'' => ?_⟩
  have hn₂ : s₂.heap.Ns C m' := ⟨o, es, ep, b₂.keep _ _ hCF ho, rr⟩
  have b₃ : Bt (fun b => b = C) s₂ { s₂ with heap := h'' } := ⟨⟨h'', s₂.toks, rfl⟩, fun b o hb e => hs''.extBut b o hb e, Nat.le_refl _⟩
  have sk₃ : Sk s₂.heap h'' := Sk.but hs''.extBut (noSeq_ns hn₂)
  refine EX.h (next _ _ (F₂.bt b₃ fun b hb => ⟨hb ▸ hCF, hb ▸ none_of_kp F.keep hC⟩) ?_ ((hk'.kp.sk.trans (b₂.sk F₁)).trans sk₃) ((r₁.sk (b₂.sk F₁) (fun _ x => x) fun _ x => x.mono (fun _ y => y) (Nat.le_refl _) b₂.le).sk sk₃ (fun _ x => x) fun _ x => x))
  have bb := hk'.bt (S := Fp env) |>.trans b₂
  obtain ⟨⟨h, t, rfl⟩, kk, ll⟩ := bb
  exact ⟨⟨h'', t, rfl⟩, fun b o hb e => hs''.extBut b o (fun q => by rw [q, hC] at e; cases e) (kk b o hb e), ll⟩

/-- a return of what is new -/
theorem X.retN {e : Expr} {pos : Pos} {rest : List Stmt} {d : D} (F : Fs s₀ env m cm s) (hv : EV prog w A env (Bs s.heap Nu) Nu e d) :
    EX prog w A env (fun f s' => Rt Nu Nu s₀ d (match f with | .ret v => v | _ => .none) s') (.Return (some e) pos :: rest) s :=
  X.ret F hv fun _ _ _ k' r => Rt.from F.ks ⟨k', r⟩ nu_all nu_all

theorem X.retR {e : Expr} {pos : Pos} {rest : List Stmt} {d : D} (F : Fs s₀ env m cm s) (hv : EV prog w A env (Bs s.heap Nu) Nu e d) (h : ∀ v s', Rt Nu Nu s₀ d v s' → R (.ret v) s') :
    EX prog w A env R (.Return (some e) pos :: rest) s :=
  X.ret F hv fun s' v _ k' r => h v s' (Rt.from F.ks ⟨k', r⟩ nu_all nu_all)
theorem X.ifT {test : Expr} {body orelse rest : List Stmt} {pos' : Pos} {b : Bool} (F : Fs s₀ env m cm s) (ht : EB prog w A env (Bs s.heap Q) test b)
    (pos : b = true → ∀ s', Fs s₀ env m cm s' → Ks s s' → EX prog w A env (fun f s'' => match f with | .next => EX prog w A env R rest s'' | f => R f s'') body s')
    (neg : b = false → ∀ s', Fs s₀ env m cm s' → Ks s s' → EX prog w A env (fun f s'' => match f with | .next => EX prog w A env R rest s'' | f => R f s'') orelse s') :
    EX prog w A env R (.If test body orelse pos' :: rest) s := by
  refine X.if ht fun s' k => ?_
  cases b with
  | true => exact pos rfl s' (F.ksF k) k
  | false => exact neg rfl s' (F.ksF k) k

theorem X.ifJ {test : Expr} {body orelse rest : List Stmt} {pos' : Pos} {b : Bool} (J : Mp → Mp → Mp → Mp → Shared → Prop) (F : Fs s₀ env m cm s) (ht : EB prog w A env (Bs s.heap Q) test b)
    (pos : b = true → ∀ s', Fs s₀ env m cm s' → Ks s s' → EX prog w A env (fun f s'' => f = .next ∧ ∃ m' cm', Fs s₀ env m' cm' s'' ∧ J m cm m' cm' s'') body s')
    (neg : b = false → ∀ s', Fs s₀ env m cm s' → Ks s s' → EX prog w A env (fun f s'' => f = .next ∧ ∃ m' cm', Fs s₀ env m' cm' s'' ∧ J m cm m' cm' s'') orelse s')
    (next : ∀ m' cm' s', Fs s₀ env m' cm' s' → J m cm m' cm' s' → EX prog w A env R rest s') :
    EX prog w A env R (.If test body orelse pos' :: rest) s := by
  refine X.ifT F ht (fun hb s' F' k => (pos hb s' F' k).mono fun f s'' h => ?_) fun hb s' F' k => (neg hb s' F' k).mono fun f s'' h => ?_
  · obtain ⟨rfl, m', cm', F'', j⟩ := h
    exact next m' cm' s'' F'' j
  · obtain ⟨rfl, m', cm', F'', j⟩ := h
    exact next m' cm' s'' F'' j

theorem X.while {test : Expr} {body rest : List Stmt} {pos : Pos} (Φ : Nat → Mp → Mp → Shared → Prop) (n : Nat) (F : Fs s₀ env m cm s) (h0 : Φ n m cm s)
    (turn : ∀ k m cm s, Fs s₀ env m cm s → Φ k m cm s → ∃ (Q : Addr → Prop) (b : Bool), EB prog w A env (Bs s.heap Q) test b ∧ ∀ s', Fs s₀ env m cm s' → Ks s s' →
      if b then EX prog w A env (fun f s₃ => match f with | .next | .cont => ∃ k' m' cm', k' < k ∧ Fs s₀ env m' cm' s₃ ∧ Φ k' m' cm' s₃ | _ => False) body s'
      else EX prog w A env R rest s') :
    EX prog w A env R (.While test body [] pos :: rest) s := by
  refine ⟨wpAny_execs_cons (wpAny_While ?_)⟩
  refine codeAny_whileLoop (fun k s' => ∃ m cm, Fs s₀ env m cm s' ∧ Φ k m cm s') ?_ n ⟨m, cm, F, h0⟩
  rintro k s₁ ⟨m₁, cm₁, F₁, φ₁⟩
  obtain ⟨Q, b, hb, h⟩ := turn k m₁ cm₁ s₁ F₁ φ₁
  refine mono' (hb.h s₁ (Bs.kp _ _)) fun r s₂ h₂ => ?_
  obtain ⟨k₂, rfl⟩ := h₂
  have h' := h s₂ (F₁.ksF k₂) k₂
  cases r with
  | true =>
    simp only [if_true] at h' ⊢
    refine mono' h'.h fun f s₃ h₃ => ?_
    match f, h₃ with
    | .next, ⟨k', m', cm', hk, F', φ'⟩ => exact ⟨k', hk, m', cm', F', φ'⟩
    | .cont, ⟨k', m', cm', hk, F', φ'⟩ => exact ⟨k', hk, m', cm', F', φ'⟩
    | .brk, h₃ => exact h₃.elim
    | .ret _, h₃ => exact h₃.elim
  | false =>
    simp only [Bool.false_eq_true, if_false] at h' ⊢
    exact wpAny_execs_nil h'.h
end
end Mine
end

section
namespace Mine
section
variable {prog : Program} {w : World} {A : Around} {env : Env} {hB : Heap} {T : Tok → Prop}

theorem EB.or2 {x y : Expr} {pos : Pos} {b c : Bool} (h : EB prog w A env hB x b) (h' : b = false → EB prog w A env hB y c) : EB prog w A env hB (.BoolOp .Or [x, y] pos) (b || c) := by
  refine ⟨fun s hk => ?_⟩
  refine wpAny_isTrue_BoolOp (wpAny_allTrue_Or_cons (mono' (h.h s hk) fun r s₁ h₁ => ?_))
  obtain ⟨k, rfl⟩ := h₁
  cases r with
  | true => exact ⟨k, rfl⟩
  | false =>
    refine wpAny_allTrue_Or_cons (mono' ((h' rfl).h s₁ (hk.trans k.kp)) fun r s₂ h₂ => ?_)
    obtain ⟨k₂, rfl⟩ := h₂
    cases r with
    | true => exact ⟨k.trans k₂, rfl⟩
    | false => exact wpAny_allTrue_Or_nil ⟨k.trans k₂, rfl⟩
theorem CmpR.isB {a b : Bool} : CmpR prog w A .Is (.bool a) (.bool b) (a == b) := fun s va vb ra rb => by
  cases ra; cases rb
  refine wpAny_is_plain rfl ⟨.refl _, ?_⟩
  cases a <;> cases b <;> rfl

theorem callMaxI {a b : Int} (hh : A.handled = none) : ∀ P T s vs, Reps s.heap P T vs [.int a, .int b] → wpAny (model prog w) A (call (.builtin "max") vs) (Rt P T s (.int (if b > a then b else a))) NoE s := by
  intro P T s vs r
  cases r with | cons r rs => ?_
  cases rs with | cons r' rs => ?_
  cases rs
  cases r with | int _ t ht => ?_
  cases r' with | int _ u hu => ?_
  refine toks' (max_two_ints hh fun h' tk hk htk => ⟨⟨h', tk, rfl, hk, htk⟩, ?_⟩)
  split
  · exact .int _ _ (.inl hu)
  · exact .int _ _ (.inl ht)
theorem callMinI {a b : Int} (hh : A.handled = none) : ∀ P T s vs, Reps s.heap P T vs [.int a, .int b] → wpAny (model prog w) A (call (.builtin "min") vs) (Rt P T s (.int (if b < a then b else a))) NoE s := by
  intro P T s vs r
  cases r with | cons r rs => ?_
  cases rs with | cons r' rs => ?_
  cases rs
  cases r with | int _ t ht => ?_
  cases r' with | int _ u hu => ?_
  refine toks' (min_two_ints hh fun h' tk hk htk => ⟨⟨h', tk, rfl, hk, htk⟩, ?_⟩)
  split
  · exact .int _ _ (.inl hu)
  · exact .int _ _ (.inl ht)

noncomputable def maxOf (ns : List Int) : Int := ns.getD (argBest (fun i j => decide (ns.getD i 0 > ns.getD j 0)) (ns.length - 1)) 0
theorem maxOf_mem {ns : List Int} (h : ns ≠ []) : maxOf ns ∈ ns := by
  have hl : 0 < ns.length := List.length_pos_iff.mpr h
  have h1 := (argBest_gt (fun i => ns.getD i 0) (ns.length - 1)).1
  unfold maxOf
  have hlt : argBest (fun i j => decide (ns.getD i 0 > ns.getD j 0)) (ns.length - 1) < ns.length := Nat.lt_of_le_of_lt h1 (by omega)
  rw [List.getD_eq_getElem?_getD, List.getElem?_eq_getElem hlt]
  exact List.getElem_mem _
theorem maxOf_ge {ns : List Int} {x : Int} (h : x ∈ ns) : x ≤ maxOf ns := by
  obtain ⟨i, hi, rfl⟩ := List.mem_iff_getElem.mp h
  have h1 := (argBest_gt (fun i => ns.getD i 0) (ns.length - 1)).2 i (by omega)
  have e : ns.getD i 0 = ns[i] := by rw [List.getD_eq_getElem?_getD, List.getElem?_eq_getElem hi]; rfl
  rw [← e]
  exact h1
theorem toksOf {h P} {T : Tok → Prop} : ∀ {ns : List Int} {vs : List Value}, Reps h P T vs (ns.map .int) → ∃ xs : List (Int × Tok), vs = xs.map (fun p => Value.int p.1 p.2) ∧ xs.map (·.1) = ns ∧ ∀ p ∈ xs, T p.2
  | [], _, .nil => ⟨[], rfl, rfl, fun _ h => by cases h⟩
  | _ :: _, _, .cons (.int i t ht) rs => by
    obtain ⟨xs, rfl, e, hx⟩ := toksOf rs
    exact ⟨(i, t) :: xs, rfl, by simp [e], fun p hp => by rcases List.mem_cons.mp hp with rfl | hp; exact ht; exact hx p hp⟩
theorem callMaxL {ns : List Int} (hne : ns ≠ []) (hh : A.handled = none) : ∀ P T s vs, Reps s.heap P T vs [.lst (ns.map .int)] → wpAny (model prog w) A (call (.builtin "max") vs) (Rt P T s (.int (maxOf ns))) NoE s := by
  intro P T s vs r
  cases r with | cons r rs => ?_
  cases rs
  cases r with | @lst l vs _ n hp hg r => ?_
  obtain ⟨xs, rfl, e, hx⟩ := toksOf r
  have hl : s.heap.IsList l (intItems xs.toArray) := ⟨_, hg, rfl, n, by simp [intItems]⟩
  have hnum : numAt xs.toArray = fun i => ns.getD i 0 := by
    funext i
    rw [List.getD_eq_getElem?_getD, ← e]
    simp [numAt]
  have hlen : xs.length = ns.length := by rw [← e, List.length_map]
  refine toks' (max_intList hh hl (by rw [List.size_toArray, hlen]; exact List.length_pos_iff.mpr hne) fun v h' tk hv hk htk => ⟨⟨h', tk, rfl, hk, htk⟩, ?_⟩)
  have hv' := hv
  obtain ⟨t, rfl⟩ := intItems_at hv
  have ht : T t := by
    have : Value.int (numAt xs.toArray (argBest (fun i j => decide (numAt xs.toArray i > numAt xs.toArray j)) (xs.toArray.size - 1))) t ∈ (intItems xs.toArray).toList := Array.mem_toList_iff.mpr (Array.mem_of_getElem? hv')
    simp only [intItems, Array.toList_map, List.mem_map] at this
    obtain ⟨p, hp, ep⟩ := this
    injection ep with _ e2
    rw [← e2]
    exact hx p (by simpa using hp)
  rw [hnum, List.size_toArray, hlen]
  exact .int _ _ (.inl ht)

/-! slices -/
theorem Reps.take {h P} {T : Tok → Prop} : ∀ {vs : List Value} {ds : List D} (n : Nat), Reps h P T vs ds → Reps h P T (vs.take n) (ds.take n)
  | _, _, 0, _ => by simpa using Reps.nil
  | _, _, n + 1, .nil => by simpa using Reps.nil
  | _, _, n + 1, .cons r rs => .cons r (rs.take n)
theorem Reps.drop {h P} {T : Tok → Prop} : ∀ {vs : List Value} {ds : List D} (n : Nat), Reps h P T vs ds → Reps h P T (vs.drop n) (ds.drop n)
  | _, _, 0, r => r
  | _, _, n + 1, .nil => by simpa using Reps.nil
  | _, _, n + 1, .cons _ rs => rs.drop n

theorem sliceNew {s : Shared} {v1 v2 : Value} {vs : List Value} {ds : List D} {P : Addr → Prop} {s0 : Shared} {Tt : Tok → Prop} (k : Ks s0 s) (r : Reps s.heap (PN P s0.heap) Tt vs ds) :
    Ks s0 { s with heap := (s.heap.push { cls := .type "slice", data := .fields #[v1, v2, .none] }).push { cls := .type "list", data := .seq vs.toArray } } ∧
    Rep ((s.heap.push { cls := .type "slice", data := .fields #[v1, v2, .none] }).push { cls := .type "list", data := .seq vs.toArray }) (PN P s0.heap) Tt (.ref (s.heap.objs.size + 1)) (.lst ds) := by
  have kk : Kp s.heap ((s.heap.push { cls := .type "slice", data := .fields #[v1, v2, .none] }).push { cls := .type "list", data := .seq vs.toArray }) := fun _ _ e => Heap.get?_push_of_some _ (Heap.get?_push_of_some _ e)
  have e1 := Heap.get?_push_size (s.heap.push { cls := .type "slice", data := .fields #[v1, v2, .none] }) (o := { cls := .type "list", data := .seq vs.toArray }) rfl
  rw [Heap.size_push] at e1
  refine ⟨k.trans ⟨_, s.toks, rfl, kk, Nat.le_refl _⟩, .lst (n := 0) (.inr (none_of_kp k.kp ?_)) e1 (r.kp kk (fun _ x => x) fun _ x => x)⟩
  cases q : s.heap.get? (s.heap.objs.size + 1) with
  | none => rfl
  | some o => exact absurd (Heap.lt_size q) (Nat.not_lt.mpr (Nat.le_succ _))

theorem EV.sliceTo {value upper : Expr} {p pos : Pos} {ds : List D} {n : Nat} (hv : EV prog w A env hB T value (.lst ds)) (hu : EV prog w A env hB Tr upper (.int n)) (hl : ds.length ≤ 1000000)
    (ht : ∀ o r, letTemporaryGo value o r = pure () := by intro _ _; rfl) : EV prog w A env hB T (.Subscript value (.Slice none (some upper) none p) pos) (.lst (ds.take n)) := by
  refine ⟨fun s hk => ?_⟩
  refine wpAny_Subscript_list_slice (mono' (hv.h s hk) fun o s₁ h₁ => wpAny_evalPart_none (wpAny_evalPart_some (mono' (hu.h s₁ (hk.trans h₁.1.kp)) fun vu s₂ h₂ => ?_))) ht
  obtain ⟨k₁, r⟩ := h₁
  cases r with | @lst l vs _ c hp hg r => ?_
  obtain ⟨k₂, ru⟩ := h₂
  cases ru with | int _ t _ => ?_
  have hlen := r.length
  refine ⟨l, vs.toArray, none, some (n : Int), rfl, ⟨_, k₂.kp _ _ hg, rfl, c, rfl⟩, by rw [List.size_toArray, sizeLine_eq]; omega, .none, .int _ _, ?_⟩
  rw [slicePick_upto']
  exact sliceNew (k₁.trans k₂) ((r.kp k₂.kp (fun _ x => x) fun _ x => x.mono (fun _ y => y) (Nat.le_refl _) k₂.le).take n)
theorem EV.sliceFrom {value lower : Expr} {p pos : Pos} {ds : List D} {n : Nat} (hv : EV prog w A env hB T value (.lst ds)) (hu : EV prog w A env hB Tr lower (.int n)) (hl : ds.length ≤ 1000000)
    (ht : ∀ o r, letTemporaryGo value o r = pure () := by intro _ _; rfl) : EV prog w A env hB T (.Subscript value (.Slice (some lower) none none p) pos) (.lst (ds.drop n)) := by
  refine ⟨fun s hk => ?_⟩
  refine wpAny_Subscript_list_slice (mono' (hv.h s hk) fun o s₁ h₁ => wpAny_evalPart_some (mono' (hu.h s₁ (hk.trans h₁.1.kp)) fun vu s₂ h₂ => wpAny_evalPart_none ?_)) ht
  obtain ⟨k₁, r⟩ := h₁
  cases r with | @lst l vs _ c hp hg r => ?_
  obtain ⟨k₂, ru⟩ := h₂
  cases ru with | int _ t _ => ?_
  have hlen := r.length
  refine ⟨l, vs.toArray, some (n : Int), none, rfl, ⟨_, k₂.kp _ _ hg, rfl, c, rfl⟩, by rw [List.size_toArray, sizeLine_eq]; omega, .int _ _, .none, ?_⟩
  rw [slicePick_from']
  exact sliceNew (k₁.trans k₂) ((r.kp k₂.kp (fun _ x => x) fun _ x => x.mono (fun _ y => y) (Nat.le_refl _) k₂.le).drop n)
end
end Mine
end

section
namespace Mine
noncomputable abbrev KK (w : World) : Frag := Mine.hd.heap_39 w.params
noncomputable def isSeq (o : Obj) : Bool := match o.data with
  | .seq .. => true
  | _ => false
structure Wd (w : World) (h : Heap) : Prop where
  g : ∃ mg mb, h.Ns mainGlobals mg ∧ h.Ns builtinsNs mb ∧ (∀ x v, nsIn (KK w) mainGlobals x = some (some v) → mg x = some v) ∧ (∀ x, nsIn (KK w) mainGlobals x = some none → mg x = none) ∧ (∀ x : PySem.Str, x ≠ "__name__" → mb x = bootBuiltins x)
  lim : h.NoLimit
  fn : ∀ a o, (KK w).lookup a = some o → isSeq o = false → h.get? a = some o
theorem Wd.kp {w h h'} (W : Wd w h) (k : Kp h h') : Wd w h' := by
  obtain ⟨⟨mg, mb, a, b, c⟩, l, f⟩ := W
  exact ⟨⟨mg, mb, a.keeps k, b.keeps k, c⟩, l.keeps k, fun a o e n => k _ _ (f a o e n)⟩
theorem Wd.bs {w h Q} (W : Wd w h) : Wd w (Bs h Q) := by
  obtain ⟨⟨mg, mb, a, b, c⟩, ⟨mc, l, l'⟩, f⟩ := W
  refine ⟨⟨mg, mb, Bs.ns a, Bs.ns b, c⟩, ⟨mc, Bs.ns l, l'⟩, fun a o e n => Bs.get (f a o e n) (.inl fun c xs m q => ?_)⟩
  rw [f a o e n] at q
  cases q
  cases n
theorem Wd.fs {w s₀ env m cm s} (W : Wd w s₀.heap) (F : Fs s₀ env m cm s) : Wd w s.heap := W.kp F.keep
/-- a global name -/
theorem Wd.gn {w hB env x v} (W : Wd w hB) (hk : env.scope.kind = .function) (hx : env.kindOf x = some .globalImplicit) (hg : env.globals = mainGlobals) (e : nsIn (KK w) mainGlobals x = some (some v)) : Gn env hB x v := by
  obtain ⟨mg, mb, a, b, c, _⟩ := W.g
  exact ⟨hk, hx, mg, by rw [hg]; exact a, .inl (c x v e)⟩
theorem Wd.bn {w hB env x v} (W : Wd w hB) (hk : env.scope.kind = .function) (hx : env.kindOf x = some .globalImplicit) (hg : env.globals = mainGlobals) (hb : env.builtins = builtinsNs) (e : nsIn (KK w) mainGlobals x = some none) (hv : bootBuiltins x = some v) (hn : x ≠ ("__name__" : PySem.Str)) : Gn env hB x v := by
  obtain ⟨mg, mb, a, b, c, d, f⟩ := W.g
  exact ⟨hk, hx, mg, by rw [hg]; exact a, .inr ⟨d x e, mb, by rw [hb]; exact b, (f x hn).trans hv⟩⟩

structure AOk (A : Around) (k : Nat) : Prop where
  hh : A.handled = none
  room : A.depth + k < recursionLimit
  units : A.units + 10 * k + 100 < cLine
theorem AOk.deeper {A k env} (a : AOk A (k + 1)) : AOk (A.deeper env) k := ⟨a.hh, by show A.depth + 1 + k < _; have := a.room; omega, by show A.units + 3 + 10 * k + 100 < _; have := a.units; omega⟩
theorem AOk.down {A k} (a : AOk A (k + 1)) : AOk A k := ⟨a.hh, by have := a.room; omega, by have := a.units; omega⟩
theorem AOk.d {A k} (a : AOk A k) : A.depth < recursionLimit := by have := a.room; omega

end Mine
end

section
namespace Mine
variable {prog : Program} {w : World}

noncomputable def leB (a b : PySem.Str) : Bool := !(b.cps.toList < a.cps.toList)
theorem le_spec {A : Around} {hB : Heap} {a b : PySem.Str} (hA : AOk A 1) (W : Wd w hB) : CallN prog w A hB (.ref 49) [.str a, .str b] (.bool (leB a b)) := by
  intro s vs hk r
  cases r with | cons r rs => ?_
  cases rs with | cons r' rs => ?_
  cases rs
  cases r with | str _ t => ?_
  cases r' with | str _ t' => ?_
  have Ws := W.kp hk
  refine enter [("a", .str a t), ("b", .str b t')] hA.d ⟨_, Ws.fn 49 _ rfl rfl, rfl, ⟨48, _, _, _, rfl, Ws.fn 48 _ rfl rfl, rfl, rfl⟩⟩ Ws.lim rfl rfl rfl rfl rfl rfl rfl rfl rfl rfl fun s₁ env E F => ?_
  dsimp only at E F
  exact X.retN F (EV.cmp (EV.name (F.nL ⟨_, rfl, .str _ _⟩ ((E.k _).trans rfl) nu_all)) (EV.name (F.nL ⟨_, rfl, .str _ _⟩ ((E.k _).trans rfl) nu_all)) CmpR.leS)

theorem contains_spec {A : Around} {hB : Heap} {ns : List Int} {b : Int} (hA : AOk A 1) (W : Wd w hB) : CallN prog w A hB (.ref 56) [.lst (ns.map .int), .int b] (.bool (ns.any (· == b))) := by
  intro s vs hk r
  cases r with | @cons v1 _ _ _ r rs => ?_
  cases rs with | @cons v2 _ _ _ r' rs => ?_
  cases rs
  have Ws := W.kp hk
  refine enter [("a", v1), ("b", v2)] hA.d ⟨_, Ws.fn 56 _ rfl rfl, rfl, ⟨55, _, _, _, rfl, Ws.fn 55 _ rfl rfl, rfl, rfl⟩⟩ Ws.lim rfl rfl rfl rfl rfl rfl rfl rfl rfl rfl fun s₁ env E F => ?_
  dsimp only at E F
  have ra := r.kp F.keep tr_all tr_all
  have rb := r'.kp F.keep tr_all tr_all
  exact X.ret (Q := Tr) (T := Tr) F (EV.cmp (EV.name (F.nL ⟨_, rfl, rb⟩ ((E.k _).trans rfl) tr_all)) (EV.name (F.nL ⟨_, rfl, ra⟩ ((E.k _).trans rfl) tr_all)) CmpR.inL) fun _ _ k _ r => by cases r; exact ⟨k, .bool _⟩
end Mine
end

section
namespace Mine
variable {prog : Program} {w : World}

noncomputable abbrev f1 : UInt64 := 4607182418800017408
noncomputable abbrev f0 : UInt64 := 0
noncomputable abbrev f05 : UInt64 := 4602678819172646912
noncomputable abbrev f2 : UInt64 := 4611686018427387904
noncomputable abbrev f4 : UInt64 := 4616189618054758400
noncomputable abbrev f6 : UInt64 := 4618441417868443648
noncomputable abbrev third3 : UInt64 := 4599676419421066581
noncomputable abbrev sixth : UInt64 := 4595172819793696085
noncomputable abbrev thirds2 : UInt64 := 4604180019048437077

noncomputable def ltF (a b : UInt64) : Bool := Float64.cmp a b == some Ordering.lt
noncomputable def gtF (a b : UInt64) : Bool := Float64.cmp a b == some Ordering.gt
noncomputable def leF (a b : UInt64) : Bool := Float64.cmp a b == some Ordering.lt || Float64.cmp a b == some Ordering.eq
noncomputable def eqF (a b : UInt64) : Bool := Float64.cmp a b == some Ordering.eq

noncomputable def vTail (m1 m2 h : UInt64) : UInt64 :=
  bif ltF h sixth then Float64.add m1 (Float64.mul (Float64.mul (Float64.sub m2 m1) h) f6)
  else bif ltF h f05 then m2
  else bif ltF h thirds2 then Float64.add m1 (Float64.mul (Float64.mul (Float64.sub m2 m1) (Float64.sub thirds2 h)) f6)
  else m1
noncomputable def vF (m1 m2 hue : UInt64) : UInt64 := vTail m1 m2 (Float64.divmod hue f1).snd

theorem v_spec {A : Around} {hB : Heap} {m1 m2 hue : UInt64} (hA : AOk A 1) (W : Wd w hB) : CallN prog w A hB (.ref 35) [.flt m1, .flt m2, .flt hue] (.flt (vF m1 m2 hue)) := by
  intro s vs hk r
  cases r with | cons r rs => ?_
  cases rs with | cons r' rs => ?_
  cases rs with | cons r'' rs => ?_
  cases rs
  cases r with | flt _ t => ?_
  cases r' with | flt _ t' => ?_
  cases r'' with | flt _ t'' => ?_
  have Ws := W.kp hk
  refine enter [("m1", .float m1 t), ("m2", .float m2 t'), ("hue", .float hue t'')] hA.d ⟨_, Ws.fn 35 _ rfl rfl, rfl, ⟨34, _, _, _, rfl, Ws.fn 34 _ rfl rfl, rfl, rfl⟩⟩ Ws.lim rfl rfl rfl rfl rfl rfl rfl rfl rfl rfl fun s₁ env E F => ?_
  dsimp only at E F
  refine X.assignL (Q := Nu) (T := Nu) F ((E.k _).trans rfl) (EV.binop (EV.name (F.nL ⟨_, rfl, .flt _ _⟩ ((E.k _).trans rfl) nu_all)) EV.flt (BinN.modF (by decide +kernel))) fun s₂ v F₂ _ _ r₂ => ?_
  cases r₂ with | flt _ t₂ => ?_
  have W₂ := Ws.fs F₂
  unfold vF vTail
  refine X.ifT (Q := Nu) (b := ltF (Float64.divmod hue f1).snd sixth) F₂ (EB.cmp (EV.name (F₂.nL ⟨_, rfl, .flt _ _⟩ ((E.k _).trans rfl) nu_all)) (EV.gflt (W₂.bs.gn E.kind ((E.k _).trans rfl) E.glob rfl)) CmpR.ltF) (fun hb s₃ F₃ _ => ?_) fun hb s₃ F₃ _ => EX.nil ?_
  · rw [hb]
    exact X.retR F₃ (EV.binop (EV.name (F₃.nL ⟨_, rfl, .flt _ _⟩ ((E.k _).trans rfl) nu_all)) (EV.binop (EV.binop (EV.binop (EV.name (F₃.nL ⟨_, rfl, .flt _ _⟩ ((E.k _).trans rfl) nu_all)) (EV.name (F₃.nL ⟨_, rfl, .flt _ _⟩ ((E.k _).trans rfl) nu_all)) BinN.subF) (EV.name (F₃.nL ⟨_, rfl, .flt _ _⟩ ((E.k _).trans rfl) nu_all)) BinN.mulF) EV.flt BinN.mulF) BinN.addF) fun _ _ h => h
  rw [hb]
  have W₃ := Ws.fs F₃
  refine X.ifT (Q := Nu) (b := ltF (Float64.divmod hue f1).snd f05) F₃ (EB.cmp (EV.name (F₃.nL ⟨_, rfl, .flt _ _⟩ ((E.k _).trans rfl) nu_all)) EV.flt CmpR.ltF) (fun hb s₄ F₄ _ => ?_) fun hb s₄ F₄ _ => EX.nil ?_
  · rw [hb]
    exact X.retR F₄ (EV.name (F₄.nL ⟨_, rfl, .flt _ _⟩ ((E.k _).trans rfl) nu_all)) fun _ _ h => h
  rw [hb]
  have W₄ := Ws.fs F₄
  refine X.ifT (Q := Nu) (b := ltF (Float64.divmod hue f1).snd thirds2) F₄ (EB.cmp (EV.name (F₄.nL ⟨_, rfl, .flt _ _⟩ ((E.k _).trans rfl) nu_all)) (EV.gflt (W₄.bs.gn E.kind ((E.k _).trans rfl) E.glob rfl)) CmpR.ltF) (fun hb s₅ F₅ _ => ?_) fun hb s₅ F₅ _ => EX.nil ?_
  · rw [hb]
    have W₅ := Ws.fs F₅
    exact X.retR F₅ (EV.binop (EV.name (F₅.nL ⟨_, rfl, .flt _ _⟩ ((E.k _).trans rfl) nu_all)) (EV.binop (EV.binop (EV.binop (EV.name (F₅.nL ⟨_, rfl, .flt _ _⟩ ((E.k _).trans rfl) nu_all)) (EV.name (F₅.nL ⟨_, rfl, .flt _ _⟩ ((E.k _).trans rfl) nu_all)) BinN.subF) (EV.binop (EV.gflt (W₅.bs.gn E.kind ((E.k _).trans rfl) E.glob rfl)) (EV.name (F₅.nL ⟨_, rfl, .flt _ _⟩ ((E.k _).trans rfl) nu_all)) BinN.subF) BinN.mulF) EV.flt BinN.mulF) BinN.addF) fun _ _ h => h
  rw [hb]
  exact X.retR F₅ (EV.name (F₅.nL ⟨_, rfl, .flt _ _⟩ ((E.k _).trans rfl) nu_all)) fun _ _ h => h
end Mine
end

section
namespace Mine
variable {prog : Program} {w : World}

local macro_rules | `(tactic| walk_at "nm") => `(tactic| exact Fs.nL (by assumption) ⟨_, rfl, .flt _ _⟩ ((EnvIs.k (by assumption) _).trans rfl) nu_all)
local macro_rules | `(tactic| walk_at "gn") => `(tactic| exact Wd.gn (Wd.bs (by assumption)) (EnvIs.kind (by assumption)) ((EnvIs.k (by assumption) _).trans rfl) (EnvIs.glob (by assumption)) rfl)
local macro_rules | `(tactic| walk_at "bin") => `(tactic| first | exact BinN.addF | exact BinN.subF | exact BinN.mulF | exact BinN.divF (by assumption) | exact BinN.divF (by decide +kernel) | exact BinN.modF (by decide +kernel))
local macro_rules | `(tactic| walk_at "ev") => `(tactic| first
  | exact EV.flt
  | exact EV.name (by walk_at "nm")
  | exact EV.gflt (by walk_at "gn")
  | exact EV.binop (by walk_at "ev") (by walk_at "ev") (by walk_at "bin"))

noncomputable def m2F (l s : UInt64) : UInt64 := bif leF l f05 then Float64.mul l (Float64.add f1 s) else Float64.sub (Float64.add l s) (Float64.mul l s)
noncomputable def m1F (l s : UInt64) : UInt64 := Float64.sub (Float64.mul f2 l) (m2F l s)
noncomputable def hlsR (h l s : UInt64) : UInt64 := vF (m1F l s) (m2F l s) (Float64.add h third3)
noncomputable def hlsG (h l s : UInt64) : UInt64 := vF (m1F l s) (m2F l s) h
noncomputable def hlsB (h l s : UInt64) : UInt64 := vF (m1F l s) (m2F l s) (Float64.sub h third3)

theorem EVs1 {A env hB T e d} (h : EV prog w A env hB T e d) (he : starEach [e] env = [(false, eval e env)] := by rfl) : EVs prog w A env hB T [e] [d] := EVs.cons h EVs.nil he

theorem hls_spec {A : Around} {hB : Heap} {h l : UInt64} (hA : AOk A 2) (W : Wd w hB) : CallN prog w A hB (.ref 28) [.flt h, .flt l, .flt f1] (.tup [.flt (hlsR h l f1), .flt (hlsG h l f1), .flt (hlsB h l f1)]) := by
  intro s vs hk r
  cases r with | cons r rs => ?_
  cases rs with | cons r' rs => ?_
  cases rs with | cons r'' rs => ?_
  cases rs
  cases r with | flt _ t => ?_
  cases r' with | flt _ t' => ?_
  cases r'' with | flt _ t'' => ?_
  have Ws := W.kp hk
  refine enter [("h", .float h t), ("l", .float l t'), ("s", .float f1 t'')] hA.d ⟨_, Ws.fn 28 _ rfl rfl, rfl, ⟨27, _, _, _, rfl, Ws.fn 27 _ rfl rfl, rfl, rfl⟩⟩ Ws.lim rfl rfl rfl rfl rfl rfl rfl rfl rfl rfl fun s₁ env E F => ?_
  dsimp only at E F
  refine X.ifF (Q := Nu) F (?_ : EB _ _ _ _ _ _ false) fun s₂ F₂ _ => ?_
  · have e : eqF f1 0 = false := by decide +kernel
    rw [← e]
    exact EB.cmp (by walk_at "ev") (by walk_at "ev") CmpR.eqF
  refine X.ifJ (Q := Nu) (b := leF l f05) (fun m cm m' cm' _ => cm' = cm ∧ ∃ t, m' = upd m "m2" (.float (m2F l f1) t)) F₂ (EB.cmp (by walk_at "ev") (by walk_at "ev") CmpR.leF) (fun hb s₃ F₃ _ => ?_) (fun hb s₃ F₃ _ => ?_) fun m' cm' s₃ F₃ j => ?_
  · refine X.assignL (Q := Nu) (T := Nu) F₃ ((E.k _).trans rfl) (by walk_at "ev") ?_
    intro s₄ v F₄ _ _ r
    refine EX.nil ⟨rfl, _, _, F₄, rfl, ?_⟩
    cases r with | flt _ t => ?_
    exact ⟨t, by unfold m2F; rw [hb]; rfl⟩
  · refine X.assignL (Q := Nu) (T := Nu) F₃ ((E.k _).trans rfl) (by walk_at "ev") ?_
    intro s₄ v F₄ _ _ r
    refine EX.nil ⟨rfl, _, _, F₄, rfl, ?_⟩
    cases r with | flt _ t => ?_
    exact ⟨t, by unfold m2F; rw [hb]; rfl⟩
  obtain ⟨rfl, t2, rfl⟩ := j
  refine X.assignL (Q := Nu) (T := Nu) F₃ ((E.k _).trans rfl) (by walk_at "ev") ?_
  intro s₄ v F₄ _ _ r
  cases r with | flt _ t => ?_
  have W₄ := Ws.fs F₄
  have g := W₄.bs (Q := Nu) |>.gn (env := env) (x := "_v") E.kind ((E.k _).trans rfl) E.glob rfl
  have hv := fun (hue : UInt64) => v_spec (prog := prog) (m1 := m1F l f1) (m2 := m2F l f1) (hue := hue) (hA.deeper (env := env)) (W₄.bs (Q := Nu))
  refine X.retN F₄ (EV.tup (EVs.cons ?_ (EVs.cons ?_ (EVs.cons ?_ EVs.nil))))
  · exact EV.callf g ⟨_, _, W₄.bs.fn 35 _ rfl rfl, rfl⟩ (EVs.cons (by walk_at "ev") (EVs.cons (by walk_at "ev") (EVs.cons (by walk_at "ev") EVs.nil))) (hv (Float64.add h third3))
  · exact EV.callf g ⟨_, _, W₄.bs.fn 35 _ rfl rfl, rfl⟩ (EVs.cons (by walk_at "ev") (EVs.cons (by walk_at "ev") (EVs.cons (by walk_at "ev") EVs.nil))) (hv h)
  · exact EV.callf g ⟨_, _, W₄.bs.fn 35 _ rfl rfl, rfl⟩ (EVs.cons (by walk_at "ev") (EVs.cons (by walk_at "ev") (EVs.cons (by walk_at "ev") EVs.nil))) (hv (Float64.sub h third3))
end Mine
end

section
namespace Mine
variable {prog : Program} {w : World}

theorem CmpOf.flt_gt {A : Around} {P : Nat → Value → Prop} (val : Nat → UInt64) (hval : ∀ i v, P i v → ∃ t, v = .float (val i) t) : CmpOf prog w A .Gt P (fun i j => gtF (val i) (val j)) := fun i j vi vj s Q E hi hj h => by
  obtain ⟨t, rfl⟩ := hval i vi hi
  obtain ⟨u, rfl⟩ := hval j vj hj
  exact AutoFloatOps.gt_0 (a := val i) (b := val j) (t := t) (u := u) h
theorem CmpOf.flt_lt {A : Around} {P : Nat → Value → Prop} (val : Nat → UInt64) (hval : ∀ i v, P i v → ∃ t, v = .float (val i) t) : CmpOf prog w A .Lt P (fun i j => ltF (val i) (val j)) := fun i j vi vj s Q E hi hj h => by
  obtain ⟨t, rfl⟩ := hval i vi hi
  obtain ⟨u, rfl⟩ := hval j vj hj
  exact AutoFloatOps.lt_0 (a := val i) (b := val j) (t := t) (u := u) h

noncomputable def best3 (bt : UInt64 → UInt64 → Bool) (a b c : UInt64) : UInt64 := bif bt b a then (bif bt c b then c else b) else (bif bt c a then c else a)
noncomputable def at3 (a b c : UInt64) : Nat → UInt64
  | 0 => a
  | 1 => b
  | _ => c
theorem at3_get {a b c : UInt64} {t u x : Tok} {i : Nat} {v : Value} (h : (#[Value.float a t, .float b u, .float c x] : Array Value)[i]? = some v) : ∃ t, v = .float (at3 a b c i) t := by
  match i, h with
  | 0, h => exact ⟨t, (Option.some.inj h).symm⟩
  | 1, h => exact ⟨u, (Option.some.inj h).symm⟩
  | 2, h => exact ⟨x, (Option.some.inj h).symm⟩
  | n + 3, h => simp at h
theorem best3_is (bt : UInt64 → UInt64 → Bool) (a b c : UInt64) : at3 a b c (argBest (fun i j => bt (at3 a b c i) (at3 a b c j)) 2) = best3 bt a b c := by
  unfold best3
  simp only [argBest]
  cases h1 : bt b a <;> simp only [at3, h1, Bool.false_eq_true, if_true, if_false, cond_true, cond_false]
  · cases h2 : bt c a <;> simp [at3]
  · cases h2 : bt c b <;> simp [at3]

theorem callMax3 {a b c : UInt64} {A : Around} (hh : A.handled = none) : ∀ P T s vs, Reps s.heap P T vs [.flt a, .flt b, .flt c] → wpAny (model prog w) A (call (.builtin "max") vs) (Rt P T s (.flt (best3 gtF a b c))) NoE s := by
  intro P T s vs r
  cases r with | cons r rs => ?_
  cases rs with | cons r' rs => ?_
  cases rs with | cons r'' rs => ?_
  cases rs
  cases r with | flt _ t => ?_
  cases r' with | flt _ u => ?_
  cases r'' with | flt _ x => ?_
  have hT : (s.heap.push { cls := .type "tuple", data := .seq #[.float a t, .float b u, .float c x] }).IsTuple s.heap.objs.size #[.float a t, .float b u, .float c x] := ⟨_, Heap.get?_push_size _ rfl, rfl, 0, rfl⟩
  refine toks' (call_max_three (wpAny_pyIter_tuple hT ?_))
  have hsz : (s.heap.push { cls := .type "tuple", data := .seq #[.float a t, .float b u, .float c x] }).objs.size = s.heap.objs.size + 1 := Heap.size_push ..
  refine ⟨_, [_, s.heap.objs.size], [_], _, _, _, _, rfl, Walks.tuple (A := A.in1) hh _ s.heap.objs.size (by rw [hsz]; exact Nat.ne_of_lt (Nat.lt_succ_self _)) #[.float a t, .float b u, .float c x],
    ⟨⟨_, Heap.get?_push_size _ rfl, rfl, rfl⟩, hT.push _⟩, fun d hd => ?_, by simp, CmpOf.flt_gt (at3 a b c) (fun _ _ => at3_get), fun v h' tk hP hk => ?_⟩
  · show d < ((s.heap.push _).push _).objs.size
    rw [Heap.size_push, hsz]
    rcases List.mem_cons.mp hd with rfl | hd
    · rw [hsz]; exact Nat.lt_succ_self _
    · rcases List.mem_cons.mp hd with rfl | hd
      · exact Nat.lt_succ_of_lt (Nat.lt_succ_self _)
      · cases hd
  · have hold : ∀ d o, s.heap.get? d = some o → h'.get? d = some o := fun d o e => by
      refine hk d o (fun hm => ?_) (Heap.get?_push_of_some _ (Heap.get?_push_of_some _ e))
      rcases List.mem_cons.mp hm with e1 | hm
      · have := Heap.lt_size e; rw [e1, hsz] at this; exact Nat.lt_irrefl _ (Nat.lt_of_succ_lt this)
      · cases hm
    intro htk
    obtain ⟨t', rfl⟩ := at3_get hP
    refine ⟨⟨h', tk, rfl, hold, htk⟩, ?_⟩
    rw [show (#[Value.float a t, .float b u, .float c x] : Array Value).size - 1 = 2 from rfl, best3_is]
    exact .flt _ _
theorem callMin3 {a b c : UInt64} {A : Around} (hh : A.handled = none) : ∀ P T s vs, Reps s.heap P T vs [.flt a, .flt b, .flt c] → wpAny (model prog w) A (call (.builtin "min") vs) (Rt P T s (.flt (best3 ltF a b c))) NoE s := by
  intro P T s vs r
  cases r with | cons r rs => ?_
  cases rs with | cons r' rs => ?_
  cases rs with | cons r'' rs => ?_
  cases rs
  cases r with | flt _ t => ?_
  cases r' with | flt _ u => ?_
  cases r'' with | flt _ x => ?_
  have hT : (s.heap.push { cls := .type "tuple", data := .seq #[.float a t, .float b u, .float c x] }).IsTuple s.heap.objs.size #[.float a t, .float b u, .float c x] := ⟨_, Heap.get?_push_size _ rfl, rfl, 0, rfl⟩
  refine toks' (call_min_three (wpAny_pyIter_tuple hT ?_))
  have hsz : (s.heap.push { cls := .type "tuple", data := .seq #[.float a t, .float b u, .float c x] }).objs.size = s.heap.objs.size + 1 := Heap.size_push ..
  refine ⟨_, [_, s.heap.objs.size], [_], _, _, _, _, rfl, Walks.tuple (A := A.in1) hh _ s.heap.objs.size (by rw [hsz]; exact Nat.ne_of_lt (Nat.lt_succ_self _)) #[.float a t, .float b u, .float c x],
    ⟨⟨_, Heap.get?_push_size _ rfl, rfl, rfl⟩, hT.push _⟩, fun d hd => ?_, by simp, CmpOf.flt_lt (at3 a b c) (fun _ _ => at3_get), fun v h' tk hP hk => ?_⟩
  · show d < ((s.heap.push _).push _).objs.size
    rw [Heap.size_push, hsz]
    rcases List.mem_cons.mp hd with rfl | hd
    · rw [hsz]; exact Nat.lt_succ_self _
    · rcases List.mem_cons.mp hd with rfl | hd
      · exact Nat.lt_succ_of_lt (Nat.lt_succ_self _)
      · cases hd
  · have hold : ∀ d o, s.heap.get? d = some o → h'.get? d = some o := fun d o e => by
      refine hk d o (fun hm => ?_) (Heap.get?_push_of_some _ (Heap.get?_push_of_some _ e))
      rcases List.mem_cons.mp hm with e1 | hm
      · have := Heap.lt_size e; rw [e1, hsz] at this; exact Nat.lt_irrefl _ (Nat.lt_of_succ_lt this)
      · cases hm
    intro htk
    obtain ⟨t', rfl⟩ := at3_get hP
    refine ⟨⟨h', tk, rfl, hold, htk⟩, ?_⟩
    rw [show (#[Value.float a t, .float b u, .float c x] : Array Value).size - 1 = 2 from rfl, best3_is]
    exact .flt _ _

theorem callRound {x : UInt64} {A : Around} (hA : A.handled = none) (hf : Float64.isFinite x = true) : ∀ P T s vs, Reps s.heap P T vs [.flt x] → wpAny (model prog w) A (call (.builtin "round") vs) (Rt P T s (.int (PySem.Flt.toInt Float64.nearestOf x))) NoE s := by
  intro P T s vs r
  cases r with | cons r rs => ?_
  cases rs
  cases r with | flt _ t => ?_
  refine PySem.Flt.call_round_float hA (fun hn => ?_) (fun hi => ?_) fun _ => rtI
  · rcases PySem.Flt.three x with ⟨hd, _⟩ | ⟨_, hd, _⟩ | ⟨_, _, _, hd, _⟩ <;> simp [Float64.isFinite, Float64.isNaN, hd] at hf hn
  · rcases PySem.Flt.three x with ⟨hd, _⟩ | ⟨_, hd, _⟩ | ⟨_, _, _, hd, _⟩ <;> simp [Float64.isFinite, Float64.isInf, hd] at hf hi
end Mine
end

section
namespace Mine
variable {prog : Program} {w : World}

local macro_rules | `(tactic| walk_at "nm") => `(tactic| exact Fs.nL (by assumption) ⟨_, rfl, .flt _ _⟩ ((EnvIs.k (by assumption) _).trans rfl) nu_all)
local macro_rules | `(tactic| walk_at "gn") => `(tactic| exact Wd.gn (Wd.bs (by assumption)) (EnvIs.kind (by assumption)) ((EnvIs.k (by assumption) _).trans rfl) (EnvIs.glob (by assumption)) rfl)
local macro_rules | `(tactic| walk_at "bin") => `(tactic| first | exact BinN.addF | exact BinN.subF | exact BinN.mulF | exact BinN.divF (by assumption) | exact BinN.divF (by decide +kernel) | exact BinN.modF (by decide +kernel))
local macro_rules | `(tactic| walk_at "ev") => `(tactic| first
  | exact EV.flt
  | exact EV.name (by walk_at "nm")
  | exact EV.gflt (by walk_at "gn")
  | exact EV.binop (by walk_at "ev") (by walk_at "ev") (by walk_at "bin"))

noncomputable def maxF (r g b : UInt64) := best3 gtF r g b
noncomputable def minF (r g b : UInt64) := best3 ltF r g b
noncomputable def sumF (r g b : UInt64) := Float64.add (maxF r g b) (minF r g b)
noncomputable def rangF (r g b : UInt64) := Float64.sub (maxF r g b) (minF r g b)
noncomputable def lightF (r g b : UInt64) := Float64.div (sumF r g b) f2
noncomputable def den2F (r g b : UInt64) := Float64.sub (Float64.sub f2 (maxF r g b)) (minF r g b)
noncomputable def satF (r g b : UInt64) := bif leF (lightF r g b) f05 then Float64.div (rangF r g b) (sumF r g b) else Float64.div (rangF r g b) (den2F r g b)
noncomputable def cF (r g b x : UInt64) := Float64.div (Float64.sub (maxF r g b) x) (rangF r g b)
noncomputable def rawHF (r g b : UInt64) := bif eqF r (maxF r g b) then Float64.sub (cF r g b b) (cF r g b g)
  else bif eqF g (maxF r g b) then Float64.sub (Float64.add f2 (cF r g b r)) (cF r g b b)
  else Float64.sub (Float64.add f4 (cF r g b g)) (cF r g b r)
noncomputable def hueF (r g b : UInt64) := (Float64.divmod (Float64.div (rawHF r g b) f6) f1).snd
noncomputable def okF (r g b : UInt64) : Bool := !eqF (minF r g b) (maxF r g b) && !Float64.isZero (sumF r g b) && !Float64.isZero (den2F r g b) && !Float64.isZero (rangF r g b)

theorem rgb_spec {A : Around} {hB : Heap} {r g b : UInt64} (hA : AOk A 1) (W : Wd w hB) (hok : okF r g b = true) : CallN prog w A hB (.ref 21) [.flt r, .flt g, .flt b] (.tup [.flt (hueF r g b), .flt (lightF r g b), .flt (satF r g b)]) := by
  intro s vs hk rr
  simp only [okF, Bool.and_eq_true, Bool.not_eq_true'] at hok
  obtain ⟨⟨⟨hne, hz1⟩, hz2⟩, hz3⟩ := hok
  have hz1' : ¬ Float64.isZero (sumF r g b) = true := by rw [hz1]; exact Bool.false_ne_true
  have hz2' : ¬ Float64.isZero (den2F r g b) = true := by rw [hz2]; exact Bool.false_ne_true
  have hz3' : ¬ Float64.isZero (rangF r g b) = true := by rw [hz3]; exact Bool.false_ne_true
  cases rr with | cons r1 rs => ?_
  cases rs with | cons r2 rs => ?_
  cases rs with | cons r3 rs => ?_
  cases rs
  cases r1 with | flt _ t1 => ?_
  cases r2 with | flt _ t2 => ?_
  cases r3 with | flt _ t3 => ?_
  have Ws := W.kp hk
  refine enter [("r", .float r t1), ("g", .float g t2), ("b", .float b t3)] hA.d ⟨_, Ws.fn 21 _ rfl rfl, rfl, ⟨20, _, _, _, rfl, Ws.fn 20 _ rfl rfl, rfl, rfl⟩⟩ Ws.lim rfl rfl rfl rfl rfl rfl rfl rfl rfl rfl fun s₁ env E F => ?_
  dsimp only at E F
  have W₁ := Ws.fs F
  have hh : (A.deeper env).handled = none := hA.hh
  -- maxc, minc
  refine X.assignL (Q := Nu) (T := Nu) (d := .flt (maxF r g b)) F ((E.k _).trans rfl) (EV.callb (W₁.bs.bn E.kind ((E.k _).trans rfl) E.glob E.bi rfl (Boot.«max») (by decide)) (EVs.cons (by walk_at "ev") (EVs.cons (by walk_at "ev") (EVs.cons (by walk_at "ev") EVs.nil))) (callMax3 hh)) fun s₂ v F₂ _ _ rv => ?_
  cases rv with | flt _ u1 => ?_
  have W₂ := Ws.fs F₂
  refine X.assignL (Q := Nu) (T := Nu) (d := .flt (minF r g b)) F₂ ((E.k _).trans rfl) (EV.callb (W₂.bs.bn E.kind ((E.k _).trans rfl) E.glob E.bi rfl (Boot.«min») (by decide)) (EVs.cons (by walk_at "ev") (EVs.cons (by walk_at "ev") (EVs.cons (by walk_at "ev") EVs.nil))) (callMin3 hh)) fun s₃ v F₃ _ _ rv => ?_
  cases rv with | flt _ u2 => ?_
  refine X.assignL (Q := Nu) (T := Nu) (d := .flt (sumF r g b)) F₃ ((E.k _).trans rfl) (by walk_at "ev") fun s₄ v F₄ _ _ rv => ?_
  cases rv with | flt _ u3 => ?_
  refine X.assignL (Q := Nu) (T := Nu) (d := .flt (rangF r g b)) F₄ ((E.k _).trans rfl) (by walk_at "ev") fun s₅ v F₅ _ _ rv => ?_
  cases rv with | flt _ u4 => ?_
  refine X.assignL (Q := Nu) (T := Nu) (d := .flt (lightF r g b)) F₅ ((E.k _).trans rfl) (by walk_at "ev") fun s₆ v F₆ _ _ rv => ?_
  cases rv with | flt _ u5 => ?_
  refine X.ifF (Q := Nu) F₆ (?_ : EB _ _ _ _ _ _ false) fun s₇ F₇ _ => ?_
  · rw [← hne]
    exact EB.cmp (by walk_at "ev") (by walk_at "ev") CmpR.eqF
  refine X.ifJ (Q := Nu) (b := leF (lightF r g b) f05) (fun m cm m' cm' _ => cm' = cm ∧ ∃ t, m' = upd m "s" (.float (satF r g b) t)) F₇ (EB.cmp (by walk_at "ev") (by walk_at "ev") CmpR.leF) (fun hb s₈ F₈ _ => ?_) (fun hb s₈ F₈ _ => ?_) fun m' cm' s₈ F₈ j => ?_
  · refine X.assignL (Q := Nu) (T := Nu) (d := .flt (Float64.div (rangF r g b) (sumF r g b))) F₈ ((E.k _).trans rfl) (by walk_at "ev") fun s₄ v F₄ _ _ r => EX.nil ⟨rfl, _, _, F₄, rfl, ?_⟩
    cases r with | flt _ t => ?_
    exact ⟨t, by unfold satF; rw [hb]; rfl⟩
  · refine X.assignL (Q := Nu) (T := Nu) (d := .flt (Float64.div (rangF r g b) (den2F r g b))) F₈ ((E.k _).trans rfl) (by walk_at "ev") fun s₄ v F₄ _ _ r => EX.nil ⟨rfl, _, _, F₄, rfl, ?_⟩
    cases r with | flt _ t => ?_
    exact ⟨t, by unfold satF; rw [hb]; rfl⟩
  obtain ⟨rfl, u6, rfl⟩ := j
  refine X.assignL (Q := Nu) (T := Nu) (d := .flt (cF r g b r)) F₈ ((E.k _).trans rfl) (by walk_at "ev") fun s₉ v F₉ _ _ rv => ?_
  cases rv with | flt _ u7 => ?_
  refine X.assignL (Q := Nu) (T := Nu) (d := .flt (cF r g b g)) F₉ ((E.k _).trans rfl) (by walk_at "ev") fun s₁₀ v F₁₀ _ _ rv => ?_
  cases rv with | flt _ u8 => ?_
  refine X.assignL (Q := Nu) (T := Nu) (d := .flt (cF r g b b)) F₁₀ ((E.k _).trans rfl) (by walk_at "ev") fun s₁₁ v F₁₁ _ _ rv => ?_
  cases rv with | flt _ u9 => ?_
  refine X.ifJ (Q := Nu) (b := eqF r (maxF r g b)) (fun m cm m' cm' _ => cm' = cm ∧ ∃ t, m' = upd m "h" (.float (rawHF r g b) t)) F₁₁ (EB.cmp (by walk_at "ev") (by walk_at "ev") CmpR.eqF) (fun hb s₈ F₈ _ => ?_) (fun hb s₈ F₈ _ => ?_) fun m' cm' s₁₂ F₁₂ j => ?_
  · refine X.assignL (Q := Nu) (T := Nu) (d := .flt (Float64.sub (cF r g b b) (cF r g b g))) F₈ ((E.k _).trans rfl) (by walk_at "ev") fun s₄ v F₄ _ _ r => EX.nil ⟨rfl, _, _, F₄, rfl, ?_⟩
    cases r with | flt _ t => ?_
    exact ⟨t, by unfold rawHF; rw [hb]; rfl⟩
  · refine X.ifJ (Q := Nu) (b := eqF g (maxF r g b)) (fun m cm m' cm' _ => cm' = cm ∧ ∃ t, m' = upd m "h" (.float (rawHF r g b) t)) F₈ (EB.cmp (by walk_at "ev") (by walk_at "ev") CmpR.eqF) (fun hb2 s₉ F₉ _ => ?_) (fun hb2 s₉ F₉ _ => ?_) fun m' cm' s₁₂ F₁₂ j => EX.nil ⟨rfl, _, _, F₁₂, j⟩
    · refine X.assignL (Q := Nu) (T := Nu) (d := .flt (Float64.sub (Float64.add f2 (cF r g b r)) (cF r g b b))) F₉ ((E.k _).trans rfl) (by walk_at "ev") fun s₄ v F₄ _ _ r => EX.nil ⟨rfl, _, _, F₄, rfl, ?_⟩
      cases r with | flt _ t => ?_
      exact ⟨t, by unfold rawHF; rw [hb, hb2]; rfl⟩
    · refine X.assignL (Q := Nu) (T := Nu) (d := .flt (Float64.sub (Float64.add f4 (cF r g b g)) (cF r g b r))) F₉ ((E.k _).trans rfl) (by walk_at "ev") fun s₄ v F₄ _ _ r => EX.nil ⟨rfl, _, _, F₄, rfl, ?_⟩
      cases r with | flt _ t => ?_
      exact ⟨t, by unfold rawHF; rw [hb, hb2]; rfl⟩
  obtain ⟨rfl, u10, rfl⟩ := j
  refine X.assignL (Q := Nu) (T := Nu) (d := .flt (hueF r g b)) F₁₂ ((E.k _).trans rfl) (by walk_at "ev") fun s₁₃ v F₁₃ _ _ rv => ?_
  cases rv with | flt _ u11 => ?_
  exact X.retN F₁₃ (EV.tup (EVs.cons (by walk_at "ev") (EVs.cons (by walk_at "ev") (EVs.cons (by walk_at "ev") EVs.nil))))
end Mine
end

section
namespace Mine
variable {prog : Program} {w : World}

noncomputable def f32F (x : UInt64) : UInt64 := Float64.mul x (Float64.ofInt 32)
noncomputable def f3F (x : UInt64) : UInt64 := Float64.mul x (Float64.ofInt 3)
noncomputable def seenL (r g b : UInt64) : Int := PySem.Flt.toInt Float64.nearestOf (f32F (lightF r g b))
noncomputable def seenT (r g b : UInt64) : Int := PySem.Flt.toInt Float64.nearestOf (f3F (hueF r g b))
theorem seen_spec {A : Around} {hB : Heap} {r g b : UInt64} (hA : AOk A 2) (W : Wd w hB) (hok : okF r g b = true) (h1 : Float64.isFinite (f32F (lightF r g b)) = true) (h2 : Float64.isFinite (f3F (hueF r g b)) = true) :
    CallN prog w A hB (.ref 89) [.tup [.flt r, .flt g, .flt b]] (.tup [.int (seenL r g b), .int (seenT r g b)]) := by
  intro s vs hk rr
  cases rr with | @cons v1 _ _ _ r1 rs => ?_
  cases rs
  have Ws := W.kp hk
  refine enter [("paint", v1)] hA.d ⟨_, Ws.fn 89 _ rfl rfl, rfl, ⟨88, _, _, _, rfl, Ws.fn 88 _ rfl rfl, rfl, rfl⟩⟩ Ws.lim rfl rfl rfl rfl rfl rfl rfl rfl rfl rfl fun s₁ env E F => ?_
  dsimp only at E F
  have W₁ := Ws.fs F
  have hh : (A.deeper env).handled = none := hA.hh
  have rp := r1.kp F.keep tr_all tr_all
  have np : Nm env (Bs s₁.heap Tr) Tr "paint" (.tup [.flt r, .flt g, .flt b]) := F.nL ⟨_, rfl, rp⟩ ((E.k _).trans rfl) tr_all
  refine X.assignTup3 (Q := Tr) (T := Tr) (d1 := .flt (hueF r g b)) (d2 := .flt (lightF r g b)) (d3 := .flt (satF r g b)) hh F ((E.k _).trans rfl) ((E.k _).trans rfl) ((E.k _).trans rfl)
    (EV.callf (W₁.bs.gn E.kind ((E.k _).trans rfl) E.glob rfl) ⟨_, _, W₁.bs.fn 21 _ rfl rfl, rfl⟩
      (EVs.cons (EV.item (.inr (EV.name np)) EV.int (by decide) (by decide) rfl) (EVs.cons (EV.item (.inr (EV.name np)) EV.int (by decide) (by decide) rfl) (EVs.cons (EV.item (.inr (EV.name np)) EV.int (by decide) (by decide) rfl) EVs.nil)))
      (rgb_spec hA.deeper W₁.bs hok)) fun s₂ v1 v2 v3 F₂ _ ra rb rc => ?_
  cases ra with | flt _ t1 => ?_
  cases rb with | flt _ t2 => ?_
  cases rc with | flt _ t3 => ?_
  have W₂ := Ws.fs F₂
  refine X.retN F₂ (EV.tup (EVs.cons ?_ (EVs.cons ?_ EVs.nil)))
  · exact EV.callb (W₂.bs.bn E.kind ((E.k _).trans rfl) E.glob E.bi rfl (Boot.«round») (by decide)) (EVs.cons (EV.binop (EV.name (F₂.nL ⟨_, rfl, .flt _ _⟩ ((E.k _).trans rfl) nu_all)) EV.int (BinN.mulFI (by decide))) EVs.nil) (callRound hh h1)
  · exact EV.callb (W₂.bs.bn E.kind ((E.k _).trans rfl) E.glob E.bi rfl (Boot.«round») (by decide)) (EVs.cons (EV.binop (EV.name (F₂.nL ⟨_, rfl, .flt _ _⟩ ((E.k _).trans rfl) nu_all)) EV.int (BinN.mulFI (by decide))) EVs.nil) (callRound hh h2)

/-- the colour of a level and a third comes back -/
noncomputable def thirdOf (k : Int) : UInt64 := Float64.ofFrac (decide (k < 0) != decide ((3 : Int) < 0)) k.natAbs (3 : Int).natAbs
noncomputable def lightOf (k : Int) : UInt64 := Float64.ofFrac (decide (k < 0) != decide ((32 : Int) < 0)) k.natAbs (32 : Int).natAbs
noncomputable def rOf (l t : Int) := hlsR (thirdOf t) (lightOf l) f1
noncomputable def gOf (l t : Int) := hlsG (thirdOf t) (lightOf l) f1
noncomputable def bOf (l t : Int) := hlsB (thirdOf t) (lightOf l) f1
noncomputable def colourOk (l t : Int) : Bool := !Float64.isInf (thirdOf t) && !Float64.isInf (lightOf l) && okF (rOf l t) (gOf l t) (bOf l t) && Float64.isFinite (f32F (lightF (rOf l t) (gOf l t) (bOf l t))) && Float64.isFinite (f3F (hueF (rOf l t) (gOf l t) (bOf l t))) &&
  seenL (rOf l t) (gOf l t) (bOf l t) == l && seenT (rOf l t) (gOf l t) (bOf l t) == t
theorem colour_ok : ∀ l : Fin 8, ∀ t : Fin 3, colourOk ((l.val : Int) + 1) (t.val : Int) = true := by decide +kernel
end Mine
end

section
namespace Mine
noncomputable def fmtX : PySem.Str := ⟨#[37, 115, 44, 32, 37, 48, 50, 100, 32, 37, 115, 32, 37, 48, 52, 100, 32, 37, 48, 50, 100, 58, 37, 48, 50, 100, 58, 37, 48, 50, 100, 32, 37, 115]⟩
theorem fmtX_is : ("%s, %02d %s %04d %02d:%02d:%02d %s" : PySem.Str) = fmtX := by decide +kernel
noncomputable abbrev FmtOk (hh mm : Int) (x : PySem.Str) : Prop := ∀ (b : Addr) (t t1 t2 t3 t4 t5 t6 t7 t8 : Tok),
  Meets (Builtin.«str.__mod__» ⟨[.str ⟨#[37, 115, 44, 32, 37, 48, 50, 100, 32, 37, 115, 32, 37, 48, 52, 100, 32, 37, 48, 50, 100, 58, 37, 48, 50, 100, 58, 37, 48, 50, 100, 32, 37, 115]⟩ t, .ref b], []⟩) (fun _ R s => IsTup s.heap b #[.str "Mon" t1, .int 1 t2, .str "Jan" t3, .int 2001 t4, .int hh t5, .int mm t6, .int 0 t7, .str "+0000" t8] ∧ ∀ t' k, R (.ok (.ret (.str x t'))) { s with toks := k })
noncomputable def pad2 (n : Int) : PySem.Str := ⟨#[48 + (n / 10).toNat, 48 + (n % 10).toNat]⟩
theorem of_eq' {M : Model} {A : Around} {E : Value → Shared → Prop} {s : Shared} {u : Sem (ForInStep (List Value × Builtin.Str.Writer × List Nat))} {p : List Value} {w : Builtin.Str.Writer} {y : PySem.Str} {r : List Nat} {Q : ForInStep (List Value × Builtin.Str.Writer × List Nat) → Shared → Prop}
    (h : u = pure (ForInStep.yield (p, w.add y none, r))) (hQ : Q (ForInStep.yield (p, w.add y none, r)) s) : wpAny M A u Q E s := wpAny_of_eq h hQ
theorem after_pad {M : Model} {A : Around} {E : Value → Shared → Prop} {s : Shared} {l : List Nat} {p : List Value} {r : List Nat} {f : Nat → List Value × Builtin.Str.Writer × List Nat → Sem (ForInStep (List Value × Builtin.Str.Writer × List Nat))} {Q : List Value × Builtin.Str.Writer × List Nat → Shared → Prop}
    {w : Builtin.Str.Writer} {T : PySem.Str} {N : Nat} {n : Int} (g : KPc.Good w T N) (h : ∀ w', KPc.Good w' (T ++ pad2 n) (N + 2) → wpAny M A (forIn l (p, w', r) f) Q E s) : wpAny M A (forIn l (p, w.add (pad2 n) none, r) f) Q E s :=
  h _ (KPc.good_add g (KPc.obj_none rfl))
noncomputable def hourText (hh mm : Int) : PySem.Str := PySem.Str.ofString "Mon" ++ PySem.Str.ofString ", " ++ PySem.Str.ofString "01" ++ PySem.Str.ofString " " ++ PySem.Str.ofString "Jan" ++ PySem.Str.ofString " " ++ PySem.Str.ofString "2001" ++ PySem.Str.ofString " " ++ pad2 hh ++ PySem.Str.ofString ":" ++ pad2 mm ++ PySem.Str.ofString ":" ++ PySem.Str.ofString "00" ++ PySem.Str.ofString " " ++ PySem.Str.ofString "+0000"
theorem fmtGen {hh mm : Int} (h0 : 6 ≤ hh) (h1 : hh ≤ 17) (hm : mm = 0 ∨ mm = 30) {b : Addr} {t t1 t2 t3 t4 t5 t6 t7 t8 : Tok} :
  Meets (Builtin.«str.__mod__» ⟨[.str ⟨#[37, 115, 44, 32, 37, 48, 50, 100, 32, 37, 115, 32, 37, 48, 52, 100, 32, 37, 48, 50, 100, 58, 37, 48, 50, 100, 58, 37, 48, 50, 100, 32, 37, 115]⟩ t, .ref b], []⟩) (fun _ R s => IsTup s.heap b #[.str "Mon" t1, .int 1 t2, .str "Jan" t3, .int 2001 t4, .int hh t5, .int mm t6, .int 0 t7, .str "+0000" t8] ∧ ∀ t' k, R (.ok (.ret (.str (hourText hh mm) t'))) { s with toks := k }) := by
  apply KPt.meets_tup
  intro _ _ _ _ _ _ kptH _
  obtain ⟨kptO, kptG, kptC, kptN, kptD⟩ := kptH
  rw [KPt.entry_is_r]
  unfold Builtin.Str.percentFormat
  refine wpAny_bind (wpAny_isInstance (T := "tuple") ⟨kptO, kptG, kptC⟩ KPt.sub_tt ?_)
  refine wpAny_bind (KPt.asStr_ref kptG kptD ?_)
  refine wpAny_bind (KPt.fills_ref ⟨kptO, kptG, kptC⟩ ?_)
  intro _
  kpc_if
  refine wpAny_bind (wpAny_seqItems kptG kptD ?_)
  refine wpAny_bind (wpAny_pure ?_)
  refine wpAny_bind ?_
  rw [KPc.range_list]
  refine KPc.start ?_
  intro _ _
  iterate 8 (refine KPc.turn ?_; kpc_check; (repeat kpc_if); first
    | (refine wpAny_pure ?_; kpt_piece)
    | (refine wpAny_bind ?_; refine wpAny_holding ?_; (repeat kpc_if); kpt_conv; refine wpAny_pure ?_; refine wpAny_pure ?_; kpt_piece))
  refine KPc.turn ?_; kpc_check; (repeat kpc_if)
  refine wpAny_bind ?_; refine wpAny_holding ?_; (repeat kpc_if)
  kpt_conv
  refine wpAny_pure ?_
  refine of_eq' (p := ?zp) (w := ?zw) (y := pad2 hh) (r := ?zr) ?zx ?_
  case zx =>
    rcases (show hh = 6 ∨ hh = 7 ∨ hh = 8 ∨ hh = 9 ∨ hh = 10 ∨ hh = 11 ∨ hh = 12 ∨ hh = 13 ∨ hh = 14 ∨ hh = 15 ∨ hh = 16 ∨ hh = 17 by omega) with rfl | rfl | rfl | rfl | rfl | rfl | rfl | rfl | rfl | rfl | rfl | rfl <;> rfl
  refine after_pad (by kpc_g) ?_
  intro _ _
  refine KPc.turn ?_; kpc_check; (repeat kpc_if)
  refine wpAny_pure ?_; kpt_piece
  refine KPc.turn ?_; kpc_check; (repeat kpc_if)
  refine wpAny_bind ?_; refine wpAny_holding ?_; (repeat kpc_if)
  kpt_conv
  refine wpAny_pure ?_
  refine of_eq' (p := ?zp2) (w := ?zw2) (y := pad2 mm) (r := ?zr2) ?zx2 ?_
  case zx2 => rcases hm with rfl | rfl <;> rfl
  refine after_pad (by kpc_g) ?_
  intro _ _
  kpt_turns
noncomputable def hourTab : List PySem.Str := ["Mon, 01 Jan 2001 06:00:00 +0000", "Mon, 01 Jan 2001 06:30:00 +0000", "Mon, 01 Jan 2001 07:00:00 +0000", "Mon, 01 Jan 2001 07:30:00 +0000", "Mon, 01 Jan 2001 08:00:00 +0000", "Mon, 01 Jan 2001 08:30:00 +0000", "Mon, 01 Jan 2001 09:00:00 +0000", "Mon, 01 Jan 2001 09:30:00 +0000", "Mon, 01 Jan 2001 10:00:00 +0000", "Mon, 01 Jan 2001 10:30:00 +0000", "Mon, 01 Jan 2001 11:00:00 +0000", "Mon, 01 Jan 2001 11:30:00 +0000", "Mon, 01 Jan 2001 12:00:00 +0000", "Mon, 01 Jan 2001 12:30:00 +0000", "Mon, 01 Jan 2001 13:00:00 +0000", "Mon, 01 Jan 2001 13:30:00 +0000", "Mon, 01 Jan 2001 14:00:00 +0000", "Mon, 01 Jan 2001 14:30:00 +0000", "Mon, 01 Jan 2001 15:00:00 +0000", "Mon, 01 Jan 2001 15:30:00 +0000", "Mon, 01 Jan 2001 16:00:00 +0000", "Mon, 01 Jan 2001 16:30:00 +0000", "Mon, 01 Jan 2001 17:00:00 +0000", "Mon, 01 Jan 2001 17:30:00 +0000"]
noncomputable def hourStr (h : Nat) : PySem.Str := (hourTab[h]?).getD "" 
theorem hourText_tab : ∀ h : Fin 24, hourText (6 + (h.val : Int).fdiv 2) (30 * (h.val : Int).fmod 2) = hourStr h.val := by decide +kernel
theorem hour_rng : ∀ h : Fin 24, 6 ≤ 6 + (h.val : Int).fdiv 2 ∧ 6 + (h.val : Int).fdiv 2 ≤ 17 ∧ (30 * (h.val : Int).fmod 2 = 0 ∨ 30 * (h.val : Int).fmod 2 = 30) := by decide +kernel
theorem fmtAll : ∀ h : Nat, h < 24 → FmtOk (6 + (h : Int).fdiv 2) (30 * (h : Int).fmod 2) (hourStr h) := by
  intro h hh b t t1 t2 t3 t4 t5 t6 t7 t8
  have e : hourText (6 + (h : Int).fdiv 2) (30 * (h : Int).fmod 2) = hourStr h := hourText_tab ⟨h, hh⟩
  have r : 6 ≤ 6 + (h : Int).fdiv 2 ∧ 6 + (h : Int).fdiv 2 ≤ 17 ∧ (30 * (h : Int).fmod 2 = 0 ∨ 30 * (h : Int).fmod 2 = 30) := hour_rng ⟨h, hh⟩
  rw [← e]
  exact fmtGen r.1 r.2.1 r.2.2
end Mine
end

section
namespace Mine
variable {prog : Program} {w : World}

theorem fmtBin {A : Around} {hh mm : Int} {x : PySem.Str} (g : FmtOk hh mm x) : BinN prog w A .Mod (.str "%s, %02d %s %04d %02d:%02d:%02d %s") (.tup [.str "Mon", .int 1, .str "Jan", .int 2001, .int hh, .int mm, .int 0, .str "+0000"]) (.str x) := by
  intro s va vb ra rb
  cases ra with | str _ t => ?_
  cases rb with | @tup a vs _ n pa ga rs => ?_
  cases rs with | cons r1 rs => ?_
  cases rs with | cons r2 rs => ?_
  cases rs with | cons r3 rs => ?_
  cases rs with | cons r4 rs => ?_
  cases rs with | cons r5 rs => ?_
  cases rs with | cons r6 rs => ?_
  cases rs with | cons r7 rs => ?_
  cases rs with | cons r8 rs => ?_
  cases rs
  cases r1 with | str _ t1 => ?_
  cases r2 with | int _ t2 _ => ?_
  cases r3 with | str _ t3 => ?_
  cases r4 with | int _ t4 _ => ?_
  cases r5 with | int _ t5 _ => ?_
  cases r6 with | int _ t6 _ => ?_
  cases r7 with | int _ t7 _ => ?_
  cases r8 with | str _ t8 => ?_
  rw [fmtX_is]
  have ht : IsTup s.heap a #[.str "Mon" t1, .int 1 t2, .str "Jan" t3, .int 2001 t4, .int hh t5, .int mm t6, .int 0 t7, .str "+0000" t8] := ⟨_, ga, rfl, _, rfl⟩
  have hT : s.TypeIs (.ref a) "tuple" := ⟨_, ga, rfl⟩
  refine toks' (KPt.bin_left (T := "str") (U := "tuple") (op := .Mod) (by decide) (typeIs_str s _ t) hT F.fills_str_mod KPt.fills_tuple F.slot_str_mod
    (call_meets F.slot_str_mod (typeIs_str s _ t) F.entry_str_mod (F.args_str_mod_2 _ _) (g a t t1 t2 t3 t4 t5 t6 t7 t8) ⟨ht, fun t' k => ⟨(fun e => nomatch e), fun hk => ?_⟩⟩))
  exact ⟨⟨s.heap, k, rfl, fun _ _ e => e, hk⟩, .str _ _⟩

theorem format_spec {A : Around} {hB : Heap} {hh mm : Int} {x : PySem.Str} (hA : AOk A 1) (W : Wd w hB) (g : FmtOk hh mm x) : CallN prog w A hB (.ref 42) [.tup [.int 2001, .int 1, .int 1, .int hh, .int mm, .int 0, .int 0], .str "+0000"] (.str x) := by
  intro s vs hk r
  cases r with | @cons v1 _ _ _ r1 rs => ?_
  cases rs with | @cons v2 _ _ _ r2 rs => ?_
  cases rs
  have Ws := W.kp hk
  refine enter [("timetuple", v1), ("zone", v2)] hA.d ⟨_, Ws.fn 42 _ rfl rfl, rfl, ⟨41, _, _, _, rfl, Ws.fn 41 _ rfl rfl, rfl, rfl⟩⟩ Ws.lim rfl rfl rfl rfl rfl rfl rfl rfl rfl rfl fun s₁ env E F => ?_
  dsimp only at E F
  have n1 : Nm env (Bs s₁.heap Tr) Tr "timetuple" (.tup [.int 2001, .int 1, .int 1, .int hh, .int mm, .int 0, .int 0]) := F.nL ⟨_, rfl, r1.kp F.keep tr_all tr_all⟩ ((E.k _).trans rfl) tr_all
  have n2 : Nm env (Bs s₁.heap Tr) Tr "zone" (.str "+0000") := F.nL ⟨_, rfl, r2.kp F.keep tr_all tr_all⟩ ((E.k _).trans rfl) tr_all
  have tt : ∀ (i : Int) d (pos p1 p2 : Pos) (k : Nat), 0 ≤ i → i < 2 ^ 63 → ([D.int 2001, .int 1, .int 1, .int hh, .int mm, .int 0, .int 0])[i.toNat]? = some d → EV prog w (A.deeper env) env (Bs s₁.heap Tr) Tr (.Subscript (.Name "timetuple" p1) (.Constant (.int i) k p2) pos) d :=
    fun i d pos p1 p2 k h0 h1 hd => EV.item (.inr (EV.name n1)) EV.int h0 h1 hd
  refine X.ret (Q := Tr) (T := Nu) (d := .str x) F (EV.binop EV.str (EV.tup (EVs.cons ?_ (EVs.cons (tt 2 _ _ _ _ _ (by decide) (by decide) rfl) (EVs.cons ?_ (EVs.cons (tt 0 _ _ _ _ _ (by decide) (by decide) rfl) (EVs.cons (tt 3 _ _ _ _ _ (by decide) (by decide) rfl) (EVs.cons (tt 4 _ _ _ _ _ (by decide) (by decide) rfl) (EVs.cons (tt 5 _ _ _ _ _ (by decide) (by decide) rfl) (EVs.cons (EV.name n2) EVs.nil))))))))) (fmtBin g)) fun s' v k k' r => ?_
  · exact EV.item (.inl (EV.lst (EVs.cons EV.str (EVs.cons EV.str (EVs.cons EV.str (EVs.cons EV.str (EVs.cons EV.str (EVs.cons EV.str (EVs.cons EV.str EVs.nil))))))))) (tt 6 (.int 0) _ _ _ _ (by decide) (by decide) rfl) (by decide) (by decide) rfl
  · exact EV.item (.inl (EV.lst (EVs.cons EV.str (EVs.cons EV.str (EVs.cons EV.str (EVs.cons EV.str (EVs.cons EV.str (EVs.cons EV.str (EVs.cons EV.str (EVs.cons EV.str (EVs.cons EV.str (EVs.cons EV.str (EVs.cons EV.str (EVs.cons EV.str EVs.nil)))))))))))))) (EV.binop (tt 1 (.int 1) _ _ _ _ (by decide) (by decide) rfl) EV.int BinN.subI) (by decide) (by decide) rfl
  · cases r with | str _ t => exact ⟨k, .str _ _⟩

theorem hour_spec {A : Around} {hB : Heap} {h : Nat} (hh : h < 24) (hA : AOk A 2) (W : Wd w hB) : CallN prog w A hB (.ref 77) [.int h] (.str (hourStr h)) := by
  intro s vs hk r
  cases r with | cons r1 rs => ?_
  cases rs
  cases r1 with | int _ t _ => ?_
  have Ws := W.kp hk
  refine enter [("half", .int h t)] hA.d ⟨_, Ws.fn 77 _ rfl rfl, rfl, ⟨76, _, _, _, rfl, Ws.fn 76 _ rfl rfl, rfl, rfl⟩⟩ Ws.lim rfl rfl rfl rfl rfl rfl rfl rfl rfl rfl fun s₁ env E F => ?_
  dsimp only at E F
  have W₁ := Ws.fs F
  have n1 : Nm env (Bs s₁.heap Nu) Tr "half" (.int h) := F.nL (Q' := Nu) ⟨_, rfl, .int _ _ trivial⟩ ((E.k _).trans rfl) nu_all
  exact X.retN F (EV.callf (W₁.bs.gn E.kind ((E.k _).trans rfl) E.glob rfl) ⟨_, _, W₁.bs.fn 42 _ rfl rfl, rfl⟩
    (EVs.cons (EV.tup (EVs.cons EV.int (EVs.cons EV.int (EVs.cons EV.int (EVs.cons (EV.binop EV.int (EV.binop (EV.name n1) EV.int (BinN.fdivI (by decide) (by decide))) BinN.addI) (EVs.cons (EV.binop EV.int (EV.binop (EV.name n1) EV.int (BinN.modI (by decide))) (BinN.mulI)) (EVs.cons EV.int (EVs.cons EV.int EVs.nil)))))))) (EVs.cons EV.str EVs.nil))
    (format_spec hA.deeper W₁.bs (fmtAll h hh)))

theorem le_hours_fin : ∀ i : Fin 24, ∀ j : Fin 24, leB (hourStr i.val) (hourStr j.val) = decide (i.val ≤ j.val) := by decide +kernel
theorem le_hours {i j : Nat} (hi : i < 24) (hj : j < 24) : leB (hourStr i) (hourStr j) = decide (i ≤ j) := le_hours_fin ⟨i, hi⟩ ⟨j, hj⟩
end Mine
end

section
namespace Mine
section
variable {prog : Program} {w : World} {A : Around} {env : Env} {T : Tok → Prop} {s₀ s : Shared} {m cm : Mp}
theorem X.asgTup2I {x y : PySem.Str} {p1 p2 pos : Pos} {k : Nat} {a : Addr} {v1 v2 : Value} {U : Unit → Shared → Prop} (hh : A.handled = none) (F : Fs s₀ env m cm s) (hx : env.kindOf x = some .local) (hy : env.kindOf y = some .local)
    (hT : IsTup s.heap a #[v1, v2]) (next : ∀ s', Fs s₀ env (upd (upd m x v1) y v2) cm s' → Bt (Fp env) s s' → U () s') :
    wpAny (model prog w) A (assign (.Tuple [.Name x p1, .Name y p2] k pos) env (.ref a)) U NoE s := by
  refine wpAny_assign_Tuple hh hT rfl rfl fun h' he => ?_
  obtain ⟨F₁, k₁⟩ := F.ext he
  show wpAny _ A (assignInOrder [assign (.Name x p1) env, assign (.Name y p2) env] [v1, v2]) U NoE _
  refine PySem.wpAny_assignInOrder_more (X.asgL F₁ hx fun s₂ F₂ b₂ => PySem.wpAny_assignInOrder_more (X.asgL F₂ hy fun s₃ F₃ b₃ => PySem.wpAny_assignInOrder_none ?_))
  exact next s₃ F₃ ((k₁.bt.trans b₂).trans b₃)
end
variable {prog : Program} {w : World}

/-- a call that hands back what is new, its ints by any tokens -/
noncomputable def CallT (prog : Program) (w : World) (A : Around) (hB : Heap) (f : Value) (ds : List D) (d : D) : Prop := ∀ s vs, Kp hB s.heap → Reps s.heap Tr Tr vs ds → wpAny (model prog w) A (call f vs) (Rt Nu Tr s d) NoE s
theorem EV.callt {A : Around} {env : Env} {hB : Heap} {x np e es pos fa ds d} (h : Gn env hB x (.ref fa)) (hf : Fn hB fa) (hs : EVs prog w A env hB Tr (e :: es) ds) (hc : CallT prog w A hB (.ref fa) ds d)
    (hd : (x == ("__debug__" : PySem.Str)) = false := by decide) (he : starEach (e :: es) env = (false, eval e env) :: starEach es env := by rfl) : EV prog w A env hB Tr (.Call (.Name x np) (e :: es) [] pos) d := by
  refine ⟨fun s hk => ?_⟩
  obtain ⟨o, fd, ho, hfd⟩ := hf
  refine wpAny_Call_ofName (h.eval hk ?_ hd)
  refine callWith_def hfd (mono' (hs.h s pos hk) fun vs s₁ h₁ => ⟨h₁.1.kp _ _ (hk _ _ ho), ?_⟩) he
  exact mono' (hc s₁ vs (hk.trans h₁.1.kp) (h₁.2.kp (Kp.refl _) tr_all tr_all)) fun v s₂ h₂ => Rt.from h₁.1 h₂ nu_all fun _ _ => .inl trivial

theorem boolsOf {h P} {T : Tok → Prop} : ∀ {bs : List Bool} {vs : List Value}, Reps h P T vs (bs.map .bool) → vs = bs.map .bool
  | [], _, .nil => rfl
  | _ :: _, _, .cons (.bool b) rs => by rw [boolsOf rs]; rfl

theorem index_spec {A : Around} {hB : Heap} {bs : List Bool} {idx : Nat} (hA : AOk A 1) (W : Wd w hB) (hi : bs[idx]? = some false) (hlt : ∀ j, j < idx → bs[j]? = some true) :
    CallT prog w A hB (.ref 70) [.lst (bs.map .bool), .bool false] (.int idx) := by
  intro s vs hk r
  cases r with | @cons v1 _ _ _ r1 rs => ?_
  cases rs with | @cons v2 _ _ _ r2 rs => ?_
  cases rs
  cases r2
  have Ws := W.kp hk
  refine enter [("a", v1), ("b", .bool false)] hA.d ⟨_, Ws.fn 70 _ rfl rfl, rfl, ⟨69, _, _, _, rfl, Ws.fn 69 _ rfl rfl, rfl, rfl⟩⟩ Ws.lim rfl rfl rfl rfl rfl rfl rfl rfl rfl rfl fun s₁ env E F => ?_
  dsimp only at E F
  have W₁ := Ws.fs F
  have hh : (A.deeper env).handled = none := hA.hh
  have na : Nm env s₁.heap Tr "a" (.lst (bs.map .bool)) := F.nmL' ⟨v1, rfl, r1.kp F.keep tr_all tr_all⟩ ((E.k _).trans rfl)
  have ge : Gn env s₁.heap "enumerate" (.type "enumerate") := W₁.bn E.kind ((E.k _).trans rfl) E.glob E.bi rfl (Boot.«enumerate») (by decide)
  constructor
  refine wpAny_execs_cons (wpAny_For (wpAny_Call_ofName (ge.eval (Kp.refl _) (callWith_type1 (mono' ((EVs.cons (EV.name na) EVs.nil).h s₁ _ (Kp.refl _)) fun vs₂ s₂ h₂ => ?_) rfl rfl) (by decide))))
  obtain ⟨k₂, rr⟩ := h₂
  cases rr with | cons rl rs => ?_
  cases rs
  cases rl with | @lst l xs _ c pl gl rl => ?_
  have ex := boolsOf rl
  subst ex
  refine call_enumerate_1 gl fun h₃ he hit hsz₃ hkeep₃ => wpAny_pyIter_enum he ?_
  generalize hee : s₂.heap.objs.size + 1 = e at he hit ⊢
  generalize hii : s₂.heap.objs.size = it at he hit ⊢
  have hlt₂ : l < s₂.heap.objs.size := Heap.lt_size gl
  have hei : e ≠ it := by rw [← hee, hii]; exact Nat.succ_ne_self _
  have hle : l ≠ e := by rw [← hee]; exact Nat.ne_of_lt (Nat.lt_succ_of_lt hlt₂)
  have hli : l ≠ it := by rw [← hii]; exact Nat.ne_of_lt hlt₂
  have ne : s₂.heap.get? e = none := by
    cases q : s₂.heap.get? e with
    | none => rfl
    | some o => exact absurd (Heap.lt_size q) (by rw [← hee]; exact Nat.not_lt.mpr (Nat.le_succ _))
  have ni : s₂.heap.get? it = none := by rw [← hii]; exact get_size_none _
  have Wk := WalksT.enumerate (prog := prog) (w := w) hh e it l hei hle hli (bs.map Value.bool).toArray
  have F₂ := F.ksF k₂
  have own : ∀ b, b ∈ [e, it] → ¬ Fp env b ∧ s.heap.get? b = none := by
    intro b hb
    have hn : s₂.heap.get? b = none := by
      rcases List.mem_cons.mp hb with q | hb
      · rw [q]; exact ne
      · rw [List.mem_singleton.mp hb]; exact ni
    refine ⟨fun hf => ?_, none_of_kp F₂.keep hn⟩
    obtain ⟨o, q⟩ := F₂.inH hf
    rw [hn] at q
    cases q
  have F₃ := F₂.ksF (s' := { s₂ with heap := h₃ }) ⟨h₃, s₂.toks, rfl, hkeep₃, Nat.le_refl _⟩
  have hidx : idx < bs.length := (List.getElem?_eq_some_iff.mp hi).1
  refine codeAny_forLoop_any (fun k s' => ∃ i m' cm', i ≤ idx ∧ k = idx + 1 - i ∧ ((∃ old, IsEnum s'.heap e it i old) ∧ s'.heap.IsListIter it l i ∧ s'.heap.IsList l (bs.map Value.bool).toArray) ∧ Fs s env m' cm' s' ∧ m' "b" = some (.bool false))
    ?_ (idx + 1) ⟨0, _, _, Nat.zero_le _, rfl, ⟨⟨_, he⟩, hit, ⟨_, hkeep₃ _ _ gl, rfl, c, rfl⟩⟩, F₃, rfl⟩
  rintro k s' ⟨i, m', cm', hii', rfl, hst, F', hb'⟩
  refine wpAny_with_toks (n := s'.toks) (Nat.le_refl _) (Wk.item i _ _ _ (by simp; omega) hst fun Tt vals h₁ tk₁ hP hsz hT hmid hk₁ htk₁ => ?_)
  obtain ⟨t, x, hx, rfl⟩ := hP
  have hx' : bs[i]? = some (bs[i]'(by omega)) := List.getElem?_eq_getElem (by omega)
  have hxe : x = .bool (bs[i]'(by omega)) := by
    rw [List.getElem?_toArray, List.getElem?_map, hx'] at hx
    exact (Option.some.inj hx).symm
  subst hxe
  refine Wk.go _ _ _ i Tt { s' with heap := h₁, toks := tk₁ } _ _ hmid fun h₄ hst₄ hk₄ => ?_
  have b₄ : Bt (fun b => b ∈ [e, it]) s' { s' with heap := h₄, toks := tk₁ } := ⟨⟨_, _, rfl⟩, fun b o hb q => hk₄ b o hb (hk₁ b o hb q), htk₁⟩
  have F₄ := F'.bt b₄ own
  have hT₄ : IsTup h₄ Tt #[.int i t, .bool (bs[i]'(by omega))] := by
    obtain ⟨o, ho, hc, n, hd⟩ := hT
    exact ⟨o, hk₄ _ _ (Wk.apart i Tt h₁ hmid) ho, hc, n, hd⟩
  refine mono' (X.asgTup2I hh F₄ ((E.k _).trans rfl) ((E.k _).trans rfl) hT₄ (U := fun _ s₅ => Fs s env (upd (upd m' "i" (.int i t)) "j" (.bool (bs[i]'(by omega)))) cm' s₅ ∧ ((∃ old, IsEnum s₅.heap e it (i + 1 : Nat) old) ∧ s₅.heap.IsListIter it l (i + 1) ∧ s₅.heap.IsList l (bs.map Value.bool).toArray)) fun s₅ F₅ b₅ => ⟨F₅, ?_⟩) fun _ s₅ h₅ => ?_
  · refine Wk.frame (i + 1) h₄ s₅.heap hst₄ fun b hb o q => b₅.keep b o (fun hf => ?_) q
    rcases List.mem_cons.mp hb with q' | hb
    · exact (own e (by simp)).1 (q' ▸ hf)
    · rcases List.mem_cons.mp hb with q' | hb
      · exact (own it (by simp)).1 (q' ▸ hf)
      · rw [List.mem_singleton.mp hb] at hf
        obtain ⟨o, q⟩ := F₂.inH hf
        rw [gl] at q; cases q
        exact F₂.noSeq hf _ _ _ gl
  · obtain ⟨F₅, hst₅⟩ := h₅
    have nj : Nm env (Bs s₅.heap Nu) Tr "j" (.bool (bs[i]'(by omega))) := F₅.nL (Q' := Nu) ⟨_, rfl, .bool _⟩ ((E.k _).trans rfl) nu_all
    have nb : Nm env (Bs s₅.heap Nu) Tr "b" (.bool false) := F₅.nL (Q' := Nu) ⟨_, (by show m' "b" = _; exact hb'), .bool _⟩ ((E.k _).trans rfl) nu_all
    refine mono' (EX.h (R := fun f s₆ => match f with
      | .next | .cont => ∃ m, m < idx + 1 - i ∧ ∃ i_1 m' cm', i_1 ≤ idx ∧ m = idx + 1 - i_1 ∧ ((∃ old, IsEnum s₆.heap e it i_1 old) ∧ s₆.heap.IsListIter it l i_1 ∧ s₆.heap.IsList l (bs.map Value.bool).toArray) ∧ Fs s env m' cm' s₆ ∧ m' "b" = some (.bool false)
      | .brk => False
      | .ret v => Rt Nu Tr s (.int idx) v s₆) (X.ifT (Q := Nu) (b := (bs[i]'(by omega)) == false || (bs[i]'(by omega)) == false) F₅ (EB.or2 (EB.cmp (EV.name nj) (EV.name nb) CmpR.isB) fun _ => EB.cmp (EV.name nj) (EV.name nb) CmpR.eqB) (fun hb s₆ F₆ k₆ => ?_) fun hb s₆ F₆ k₆ => EX.nil (EX.nil ?_))) fun f s₆ h₆ => ?_
    · have hii2 : i = idx := by
        rcases Nat.lt_or_ge i idx with h | h
        · have := hlt i h
          rw [hx'] at this
          simp [Option.some.inj this] at hb
        · omega
      subst hii2
      have ni : Nm env (Bs s₆.heap Nu) Tr "i" (.int i) := F₆.nL (Q' := Nu) ⟨_, rfl, .int _ _ trivial⟩ ((E.k _).trans rfl) nu_all
      exact X.ret F₆ (EV.name ni) fun s₇ v k₇ k₇' r => ⟨k₇, r.kp (Kp.refl _) (fun _ x => x.mono nu_all F₆.keep) fun _ _ => .inl trivial⟩
    · refine ⟨idx + 1 - (i + 1), by omega, i + 1, _, _, ?_, rfl, ?_, F₆, hb'⟩
      · rcases Nat.lt_or_ge i idx with h | h
        · exact h
        · have : i = idx := by omega
          subst this
          rw [hx'] at hi
          simp [Option.some.inj hi] at hb
      · exact Wk.frame (i + 1) s₅.heap s₆.heap hst₅ fun b _ o q => k₆.kp b o q
    · match f, h₆ with
      | .next, h₆ => exact h₆
      | .cont, h₆ => exact h₆
      | .brk, h₆ => exact h₆.elim
      | .ret v, h₆ => exact h₆
end Mine
end

section
namespace Mine
variable {prog : Program} {w : World}

theorem wpAny_is_int {M : Model} {A : Around} {E : Value → Shared → Prop} {s : Shared} {Q : Value → Shared → Prop} {p q : Int} {t u : Tok} (ht : t ≠ 0) (hu : u ≠ 0) (htu : t ≠ u) (hs : p = q → smallInt p = true) (h : Q (.bool (p == q)) s) : wpAny M A (compareOp .Is (.int p t) (.int q u)) Q E s := by
  have h0 : (t == 0 || u == 0) = false := by simp [ht, hu]
  show wpAny M A (do return .bool (← isSame (.int p t) (.int q u))) Q E s
  refine wpAny_bind ?_
  show wpAny M A (if (p == q && smallInt p) = true then isSame.cachedInt t u else isSame.created (p == q) t u) _ E s
  by_cases hpq : p = q
  · have e : (p == q) = true := by simp [hpq]
    rw [e, hs hpq]
    show wpAny M A (isSame.cachedInt t u) _ E s
    unfold isSame.cachedInt
    rw [h0]
    refine wpAny_bind (wpAny_rule (wpAny_pure (wpAny_pure ?_)))
    rw [e] at h
    exact h
  · have e : (p == q) = false := by simp [hpq]
    rw [e]
    show wpAny M A (isSame.created false t u) _ E s
    unfold isSame.created
    rw [h0]
    have e2 : (t == u) = false := by simp [htu]
    rw [e2]
    refine wpAny_pure (wpAny_pure ?_)
    rw [e] at h
    exact h

theorem EB.isI {A : Around} {env : Env} {hB : Heap} {T1 T2 : Tok → Prop} {x y : PySem.Str} {p1 p2 pos : Pos} {p q : Int} (hx : Nm env hB T1 x (.int p)) (hy : Nm env hB T2 y (.int q)) (hT : ∀ t u, T1 t → T2 u → t ≠ 0 ∧ u ≠ 0 ∧ t ≠ u) (hs : p = q → smallInt p = true)
    (hd1 : (x == ("__debug__" : PySem.Str)) = false := by decide) (hd2 : (y == ("__debug__" : PySem.Str)) = false := by decide) : EB prog w A env hB (.Compare (.Name x p1) [.Is] [.Name y p2] pos) (p == q) := by
  refine ⟨fun s hk => wpAny_isTrue_Compare1 (wpAny_Name (hx.load s hk fun va ra => wpAny_Name (hy.load s hk fun vb rb => ?_) hd2) hd1) rfl⟩
  cases ra with | int _ t ht => ?_
  cases rb with | int _ u hu => ?_
  obtain ⟨h1, h2, h3⟩ := hT t u ht hu
  exact wpAny_is_int h1 h2 h3 hs (wpAny_truthy_bool ⟨.refl _, rfl⟩)

noncomputable def cntOf (ns : List Int) (b : Int) : Nat := (ns.filter (· == b)).length
theorem cntOf_take {ns : List Int} {b : Int} {i : Nat} {n : Int} (h : ns[i]? = some n) : cntOf (ns.take (i + 1)) b = cntOf (ns.take i) b + (if n == b then 1 else 0) := by
  have : ns.take (i + 1) = ns.take i ++ [n] := by rw [List.take_add_one, h]; rfl
  unfold cntOf
  rw [this, List.filter_append, List.length_append]
  congr 1
  by_cases hb : n = b <;> simp [hb]

theorem count_spec {A : Around} {hB : Heap} {ns : List Int} {b : Int} (hA : AOk A 1) (W : Wd w hB) {s : Shared} (hk : Kp hB s.heap) {v1 : Value} {tb : Tok} {T : Tok → Prop} (r1 : Rep s.heap Tr T v1 (.lst (ns.map .int))) (hT : ∀ t, T t → t ≠ 0 ∧ t ≠ tb) (hb0 : tb ≠ 0) (hbs : tb < s.toks) (hsm : ∀ n ∈ ns, smallInt n = true) :
    wpAny (model prog w) A (call (.ref 63) [v1, .int b tb]) (Rt Nu Tr s (.int (cntOf ns b))) NoE s := by
  have Ws := W.kp hk
  refine enter [("a", v1), ("b", .int b tb)] hA.d ⟨_, Ws.fn 63 _ rfl rfl, rfl, ⟨62, _, _, _, rfl, Ws.fn 62 _ rfl rfl, rfl, rfl⟩⟩ Ws.lim rfl rfl rfl rfl rfl rfl rfl rfl rfl rfl fun s₁ env E F => ?_
  dsimp only at E F
  have hh : (A.deeper env).handled = none := hA.hh
  refine X.assignL (Q := Nu) (T := Nu) (d := .int 0) F ((E.k _).trans rfl) EV.int fun s₂ v F₂ b₂ sk₂ rv => ?_
  cases rv with | int _ t0 _ => ?_
  have na : Nm env (Bs s₂.heap Tr) T "a" (.lst (ns.map .int)) := F₂.nL (Q' := Tr) ⟨v1, rfl, r1.kp F₂.keep (fun _ x => x) fun _ x => x⟩ ((E.k _).trans rfl) tr_all
  refine X.for (Q := Tr) (T := T) (S := fun _ => False) (fun i m cm s => m "b" = some (.int b tb) ∧ ∃ t, m "count" = some (.int (cntOf (ns.take i) b : Nat) t)) F₂ (IT.lst hh (EV.name na)) (fun _ h => h.elim) (fun _ _ _ _ _ h _ _ => h) ⟨rfl, t0, rfl⟩ ?_ ?_
  · intro i d v m₁ cm₁ s₃ hd F₃ φ₃ r₃ bt₃
    obtain ⟨hmb, tc, hmc⟩ := φ₃
    rw [List.getElem?_map] at hd
    cases hn : ns[i]? with
    | none => rw [hn] at hd; cases hd
    | some n => ?_
    rw [hn] at hd
    cases hd
    cases r₃ with | int _ t ht => ?_
    have hnm : n ∈ ns := List.mem_of_getElem? hn
    have htt : t ≠ 0 ∧ t ≠ tb := by
      rcases ht with ht | ht
      · exact hT t ht
      · have h1 : s₂.toks ≤ t := ht.1
        have h3 : tb < t := Nat.lt_of_lt_of_le hbs (Nat.le_trans F₂.le h1)
        exact ⟨Nat.ne_of_gt (Nat.lt_of_le_of_lt (Nat.zero_le tb) h3), Nat.ne_of_gt h3⟩
    refine X.asgL F₃ ((E.k _).trans rfl) fun s₄ F₄ b₄ => ?_
    have ni : Nm env (Bs s₄.heap Nu) (fun t => t ≠ 0 ∧ t ≠ tb) "i" (.int n) := F₄.nL (Q' := Nu) ⟨_, rfl, .int _ _ htt⟩ ((E.k _).trans rfl) nu_all
    have nb : Nm env (Bs s₄.heap Nu) (fun t => t = tb) "b" (.int b) := F₄.nL (Q' := Nu) ⟨_, hmb, .int _ _ rfl⟩ ((E.k _).trans rfl) nu_all
    refine X.ifT (Q := Nu) (b := n == b || n == b) F₄ (EB.or2 (EB.isI ni nb (fun t u h1 h2 => ⟨h1.1, h2 ▸ hb0, h2 ▸ h1.2⟩) fun _ => hsm n hnm) fun _ => EB.cmp (EV.name (ni.weak tr_all)) (EV.name (nb.weak tr_all)) CmpR.eqI) (fun hb s₅ F₅ k₅ => ?_) fun hb s₅ F₅ k₅ => EX.nil (EX.nil ?_)
    · have nc : Nm env (Bs s₅.heap Nu) Tr "count" (.int (cntOf (ns.take i) b : Nat)) := F₅.nL (Q' := Nu) ⟨_, hmc, .int _ _ trivial⟩ ((E.k _).trans rfl) nu_all
      refine X.augAdd (Q := Nu) F₅ ((E.k _).trans rfl) nc EV.int fun s₆ t₆ F₆ b₆ _ => EX.nil (EX.nil ⟨_, _, F₆, ⟨hmb, t₆, ?_⟩, ((b₄.trans k₅.bt).trans b₆).weak fun _ h => .inl h⟩)
      have hbb : (n == b) = true := by simpa using hb
      rw [cntOf_take hn, hbb]
      rfl
    · refine ⟨_, _, F₅, ⟨hmb, tc, ?_⟩, (b₄.trans k₅.bt).weak fun _ h => .inl h⟩
      have hbb : (n == b) = false := by simpa using hb
      rw [cntOf_take hn, hbb]
      exact hmc
  · intro m' cm' s₃ F₃ φ₃ _
    obtain ⟨hmb, tc, hmc⟩ := φ₃
    rw [List.length_map, List.take_length] at hmc
    exact X.ret (Q := Nu) (T := Tr) F₃ (EV.name (F₃.nL (Q' := Nu) ⟨_, hmc, .int _ _ trivial⟩ ((E.k _).trans rfl) nu_all)) fun s₇ v k₇ k₇' r => ⟨k₇, r.kp (Kp.refl _) (fun _ x => x.mono nu_all F₃.keep) fun _ _ => .inl trivial⟩
end Mine
end

section
namespace Mine
/-- what is known of an environment -/
structure Ev0 (env : Env) (names : List (PySem.Str × NameKind)) (cells : List (PySem.Str × Addr)) : Prop where
  kind : env.scope.kind = .function
  nms : env.scope.names = names
  glob : env.globals = mainGlobals
  bi : env.builtins = builtinsNs
  cells : env.cells = cells
theorem Ev0.k {env names cells} (E : Ev0 env names cells) (x : PySem.Str) : env.kindOf x = names.lookup x := by rw [Env.kindOf, E.nms]
theorem Ev0.c {env names cells} (E : Ev0 env names cells) (x : PySem.Str) : env.cells.lookup x = cells.lookup x := by rw [E.cells]
theorem EnvIs.e0 {env names} (E : EnvIs env names) : Ev0 env names (cellsFrom (env.locals + 1) names []) := ⟨E.kind, E.nms, E.glob, E.bi, E.cells⟩
noncomputable def relab (ns names : List (PySem.Str × NameKind)) : List (PySem.Str × NameKind) := ns.map fun (n, k) => if (k == .free && names.lookup n == some .cell) then (n, .cell) else (n, k)
theorem Ev0.comp {env names cells} {scope : Scope} {cl C} (E : Ev0 env names cells) (hs : scope.kind = .function) : Ev0 (compEnvC scope cl C env) (relab scope.names names) cl := by
  refine ⟨hs, ?_, E.glob, E.bi, rfl⟩
  show scope.names.map _ = scope.names.map _
  apply List.map_congr_left
  rintro ⟨n, k⟩ _
  show (if (k == .free && env.scope.kind == .function && env.kindOf n == some .cell) = true then _ else _) = _
  rw [E.k, E.kind]
  simp
/-- a free name of a comprehension -/
theorem Ev0.free {env names cells} {scope : Scope} {cl C} {hB hE : Heap} {T x d} (E : Ev0 env names cells) (hs : scope.kind = .function) (h : Nm env hB T x d) (hk : Kp hB hE) (hl : names.lookup x = some .cell)
    (hr : (relab scope.names names).lookup x = some .cell) (hc : cl.lookup x = cells.lookup x) : Nm (compEnvC scope cl C env) hE T x d :=
  h.free ((E.k x).trans hl) hk hs (by have := (E.comp (cl := cl) (C := C) hs).nms; show (compEnvC scope cl C env).scope.names.lookup x = _; rw [this]; exact hr) fun c e => by rw [E.c] at e; rw [hc]; exact e
theorem Wd.gn0 {w hB env names cells x v} (W : Wd w hB) (E : Ev0 env names cells) (hx : names.lookup x = some .globalImplicit) (e : nsIn (KK w) mainGlobals x = some (some v)) : Gn env hB x v := W.gn E.kind ((E.k x).trans hx) E.glob e
theorem Wd.bn0 {w hB env names cells x v} (W : Wd w hB) (E : Ev0 env names cells) (hx : names.lookup x = some .globalImplicit) (e : nsIn (KK w) mainGlobals x = some none) (hv : bootBuiltins x = some v) (hn : x ≠ ("__name__" : PySem.Str)) : Gn env hB x v := W.bn E.kind ((E.k x).trans hx) E.glob E.bi e hv hn
theorem Ev0.clos {env names cells} {scope : Scope} {cl} (E : Ev0 env names cells) (h : clOf cells scope.names [] = some cl) : closureFor scope env = pure cl := closureFor_cl (by rw [E.cells]; exact h)
section
variable {prog : Program} {w : World} {A : Around} {env : Env} {s₀ s : Shared} {m cm : Mp}
theorem Fs.evalL (F : Fs s₀ env m cm s) {x : PySem.Str} {p : Pos} {v : Value} (hx : env.kindOf x = some .local) (e : m x = some v) (hd : (x == ("__debug__" : PySem.Str)) = false := by decide) : wpAny (model prog w) A (eval (.Name x p) env) (fun v' s' => Ks s s' ∧ v' = v) NoE s :=
  wpAny_Name (wpAny_loadName_local F.kind hx F.ns e ⟨.refl _, rfl⟩) hd
end

/-! the plain law's objects -/
structure Ent where
  a : Nat
  b : Nat
  lv : Nat
  th : Nat
noncomputable def Ent.ok (e : Ent) : Prop := e.a < 24 ∧ e.b < 24
noncomputable def entD (e : Ent) : D := .tup [.str (hourStr e.a), .str (hourStr e.b), .int e.lv, .int e.th]
noncomputable def cov (e : Ent) (h : Nat) : Bool := decide (e.a ≤ h) && decide (h ≤ e.b)
noncomputable def rowAt (laid : List Ent) (h : Nat) : List Int := (laid.filter (cov · h)).map (fun e => (e.lv : Int))
noncomputable def hoursOf (a : Nat) (laid : List Ent) : List Nat := a :: laid.map (·.a)
noncomputable def rowsOf (a b : Nat) (laid : List Ent) : List (List Int) := ((hoursOf a laid).filter (fun h => decide (a ≤ h) && decide (h ≤ b))).map (rowAt laid)
noncomputable def cntLe (row : List Int) (l : Nat) : Int := ((row.filter (fun x => decide (x ≤ (l : Int)))).length : Nat)
noncomputable def topOf (rows : List (List Int)) (l : Nat) : Int := maxOf (rows.map (cntLe · l))
noncomputable def levelFrom (rows : List (List Int)) : Nat → Nat → Nat
  | 0, l => l
  | k + 1, l => if (l : Int) ≤ topOf rows l then levelFrom rows k (l + 1) else l
noncomputable def levelOf (a b : Nat) (laid : List Ent) : Nat := levelFrom (rowsOf a b laid) (laid.length + 1) 1
noncomputable def takenOf (lv a b : Nat) (laid : List Ent) : List Int := (laid.filter (fun e => (e.lv == lv) && (decide (e.a ≤ b) && decide (a ≤ e.b)))).map (fun e => (e.th : Int))
noncomputable def thirdIdx (taken : List Int) : Nat := if taken.any (· == 0) = false then 0 else if taken.any (· == 1) = false then 1 else if taken.any (· == 2) = false then 2 else 3
noncomputable def entOf (laid : List Ent) (sp : Nat × Nat) : Ent := ⟨sp.1, sp.2, levelOf sp.1 sp.2 laid, thirdIdx (takenOf (levelOf sp.1 sp.2 laid) sp.1 sp.2 laid)⟩
noncomputable def bookFrom : List Ent → List (Nat × Nat) → List Ent
  | laid, [] => laid
  | laid, sp :: r => bookFrom (laid ++ [entOf laid sp]) r

/-! the same in words of D -/
noncomputable def fstD : D → D
  | .tup (x :: _) => x
  | _ => .none
noncomputable def lvD : D → D
  | .tup (_ :: _ :: x :: _) => x
  | _ => .none
noncomputable def thD : D → D
  | .tup (_ :: _ :: _ :: x :: _) => x
  | _ => .none
noncomputable def covD (x : PySem.Str) : D → Bool
  | .tup (.str p :: .str q :: _) => leB p x && (leB x q && true)
  | _ => false
noncomputable def intsL (xs : List Int) : D := .lst (xs.map .int)
noncomputable def strH (h : Nat) : D := .str (hourStr h)

theorem rowD_eq {laid : List Ent} {h : Nat} (hl : ∀ e ∈ laid, e.ok) (hh : h < 24) : D.lst (((laid.map entD).filter (covD (hourStr h))).map lvD) = intsL (rowAt laid h) := by
  unfold intsL rowAt
  rw [List.filter_map, List.map_map, List.map_map]
  have e1 : laid.filter (covD (hourStr h) ∘ entD) = laid.filter (cov · h) := by
    apply List.filter_congr
    intro e he
    show (leB (hourStr e.a) (hourStr h) && (leB (hourStr h) (hourStr e.b) && true)) = _
    rw [le_hours (hl e he).1 hh, le_hours hh (hl e he).2, Bool.and_true]
    rfl
  rw [e1]
  rfl
theorem hours_eq {a : Nat} {laid : List Ent} : [D.str (hourStr a)] ++ ((laid.map entD).filter (fun _ => true)).map fstD = (hoursOf a laid).map strH := by
  unfold hoursOf
  rw [List.map_cons, List.filter_eq_self.mpr (fun _ _ => rfl), List.map_map, List.map_map]
  rfl
end Mine
end

section
namespace Mine
variable {prog : Program} {w : World}

theorem le_hour_spec {A : Around} {hB : Heap} {x y : PySem.Str} (hA : AOk A 1) (W : Wd w hB) : CallN prog w A hB (.ref 49) [.str x, .str y] (.bool (leB x y)) := le_spec hA W
theorem kp_of {a b c : Heap} (x : Kp a b) (y : Kp b c) : Kp a c := x.trans y

theorem EV.cast {A : Around} {env : Env} {hB : Heap} {T : Tok → Prop} {e : Expr} {d d' : D} (h : EV prog w A env hB T e d) (hd : d = d') : EV prog w A env hB T e d' := hd ▸ h
theorem take_filter {α : Type} (p : α → Bool) (l : List α) (i : Nat) (x : α) (h : l[i]? = some x) : (l.take (i + 1)).filter p = (l.take i).filter p ++ (if p x then [x] else []) := by
  rw [List.take_add_one, h, List.filter_append]
  cases hp : p x <;> simp [hp]
theorem Ev0.ofNm {env names cells} {scope : Scope} {cl C hE T x d} (E : Ev0 env names cells) (_ : Nm (compEnvC scope cl C env) hE T x d) (hs : scope.kind = .function) : Ev0 (compEnvC scope cl C env) (relab scope.names names) cl := E.comp hs
noncomputable def leD (l : Nat) : D → Bool
  | .int x => decide (x ≤ (l : Int))
  | _ => false
noncomputable def cntD (l : Nat) : D → D
  | .lst xs => .int ((xs.filter (leD l)).map id).length
  | _ => .none
theorem cnts_eq {rows : List (List Int)} {l : Nat} : D.lst (((rows.map intsL).filter (fun _ => true)).map (cntD l)) = .lst ((rows.map (cntLe · l)).map .int) := by
  rw [List.filter_eq_self.mpr (fun _ _ => rfl), List.map_map, List.map_map]
  congr 1
  apply List.map_congr_left
  intro row _
  show D.int ((((row.map D.int).filter (leD l)).map id).length : Nat) = D.int (((row.filter (fun x => decide (x ≤ (l : Int)))).length : Nat))
  rw [List.map_id, List.filter_map, List.length_map]
  rfl

theorem level_spec {A : Around} {hB : Heap} {a b : Nat} {laid : List Ent} (ha : a < 24) (hb : b < 24) (hab : a ≤ b) (hl : ∀ e ∈ laid, e.ok) (hlen : laid.length ≤ 8) (hA : AOk A 2) (W : Wd w hB) :
    CallT prog w A hB (.ref 82) [.str (hourStr a), .str (hourStr b), .lst (laid.map entD)] (.int (levelOf a b laid)) := by
  intro s vs hk r
  cases r with | @cons v1 _ _ _ r1 rs => ?_
  cases rs with | @cons v2 _ _ _ r2 rs => ?_
  cases rs with | @cons v3 _ _ _ r3 rs => ?_
  cases rs
  have Ws := W.kp hk
  refine enter [("begin", v1), ("end", v2), ("laid", v3)] hA.d ⟨_, Ws.fn 82 _ rfl rfl, rfl, ⟨81, _, _, _, rfl, Ws.fn 81 _ rfl rfl, rfl, rfl⟩⟩ Ws.lim rfl rfl rfl rfl rfl rfl rfl rfl rfl rfl fun s₁ env E F => ?_
  dsimp only at E F
  have hh : (A.deeper env).handled = none := hA.hh
  have E0 := E.e0
  have in0 : ∀ {T : Tok → Prop} {v d}, Rep s.heap Tr T v d → Rep s.heap (Hin s.heap) T v d := fun r => r.hin
  refine X.assignL (Q := Nu) (T := Nu) (d := .lst []) F ((E.k _).trans rfl) (EV.lst EVs.nil) fun s₂ v F₂ b₂ sk₂ rv => ?_
  cases rv with | @lst ra xs _ c hp hg rr => ?_
  cases rr
  have hra0 : s.heap.get? ra = none := none_of_kp F.keep (hp.resolve_left fun h => h)
  let Q : Addr → Prop := Hin s.heap
  have hQ : ¬ Q ra := fun h => by obtain ⟨o, e⟩ := h; rw [hra0] at e; cases e
  have nm1 : ∀ {m cm st}, Fs s env m cm st → m "begin" = some v1 → Nm env (Bs st.heap Q) Tr "begin" (.str (hourStr a)) := fun F' e => F'.nL (Q' := Hin s.heap) ⟨_, e, (in0 r1).kp F'.keep (fun _ x => x) fun _ x => x⟩ ((E.k _).trans rfl) fun _ x => x
  have nm2 : ∀ {m cm st}, Fs s env m cm st → m "end" = some v2 → Nm env (Bs st.heap Q) Tr "end" (.str (hourStr b)) := fun F' e => F'.nL (Q' := Hin s.heap) ⟨_, e, (in0 r2).kp F'.keep (fun _ x => x) fun _ x => x⟩ ((E.k _).trans rfl) fun _ x => x
  have nm3 : ∀ {m cm st}, Fs s env m cm st → m "laid" = some v3 → Nm env (Bs st.heap Q) Tr "laid" (.lst (laid.map entD)) := fun F' e => F'.nL (Q' := Hin s.heap) ⟨_, e, (in0 r3).kp F'.keep (fun _ x => x) fun _ x => x⟩ ((E.k _).trans rfl) fun _ x => x
  have gle : ∀ {st : Shared}, Wd w st.heap → Gn env (Bs st.heap Q) "le" (.ref 49) := fun W' => W'.bs.gn0 E0 rfl rfl
  let hs := hoursOf a laid
  let inR : Nat → Bool := fun h => decide (a ≤ h) && decide (h ≤ b)
  have hhs : ∀ h ∈ hs, h < 24 := fun h hm => by
    rcases List.mem_cons.mp hm with e | hm
    · rw [e]; exact ha
    · obtain ⟨e, he, rfl⟩ := List.mem_map.mp hm
      exact (hl e he).1
  have hlaid : (laid.map entD).length ≤ 1000 := by rw [List.length_map]; omega
  have item : ∀ {Ax : Around} {env' : Env} {hE : Heap} {e : Ent} {n : PySem.Str} {p1 p2 p3 : Pos} {k : Nat} (i : Nat) (d : D), Nm env' hE Tr n (entD e) → [D.str (hourStr e.a), .str (hourStr e.b), .int e.lv, .int e.th][i]? = some d → i < 10 → (n == ("__debug__" : PySem.Str)) = false → EV prog w Ax env' hE Tr (.Subscript (.Name n p1) (.Constant (.int i) k p2) p3) d :=
    fun i d nx h hi hd => EV.item (.inr (EV.name nx hd)) EV.int (by omega) (by omega) (by simpa using h)
  refine X.for (Q := Q) (T := Tr) (S := fun b => b = ra) (ds := hs.map strH)
    (fun i m cm st => m "begin" = some v1 ∧ m "end" = some v2 ∧ m "laid" = some v3 ∧ m "rows" = some (.ref ra) ∧ ∃ ys c, st.heap.get? ra = some (lstObj ys c) ∧ Reps st.heap (fun b => b ≠ ra) Tr ys (((hs.take i).filter inR).map fun h => intsL (rowAt laid h)))
    F₂ ?_ ?_ ?_ ?_ ?_ ?_
  · rw [show hs.map strH = _ from hours_eq.symm]
    refine IT.lst hh (EV.binopR (EV.lst (EVs.cons (EV.name (nm1 F₂ rfl)) EVs.nil))
      (EV.comp (fun _ => true) fstD (IT.lst hh (EV.name (nm3 F₂ rfl))) hlaid (E0.clos rfl) (by decide) rfl (by decide) rfl (fun d _ C hE _ _ => ETs.nil) fun d hd _ C hE hk' nx => ?_)
      (BinR.cat ?_))
    · obtain ⟨e, he, rfl⟩ := List.mem_map.mp hd
      exact item 0 _ nx rfl (by decide) (by decide)
    · rw [List.length_map]
      have := List.length_filter_le (fun _ => true) (laid.map entD)
      rw [sizeLine_eq]
      simp only [List.length_cons, List.length_nil]
      omega
  · rintro b rfl
    exact ⟨hra0, ⟨_, hg⟩, fun h => h _ _ _ hg, hQ⟩
  · rintro i m cm st st' ⟨e1, e2, e3, e4, ys, c', hy, ry⟩ sk _
    exact ⟨e1, e2, e3, e4, ys, c', sk _ _ _ _ hy, ry.sk sk (fun _ x => x) fun _ x => x⟩
  · exact ⟨rfl, rfl, rfl, rfl, [], c, hg, by simpa using Reps.nil⟩
  · rintro i d v m₁ cm₁ s₃ hd F₃ ⟨e1, e2, e3, e4, ys, c', hy, ry⟩ r₃ bt₃
    rw [List.getElem?_map] at hd
    cases hn : hs[i]? with
    | none => rw [hn] at hd; cases hd
    | some h => ?_
    rw [hn] at hd
    cases hd
    have hmem : h ∈ hs := List.mem_of_getElem? hn
    have h24 := hhs h hmem
    have hcell : ∃ q, env.cells.lookup ("hour" : PySem.Str) = some q := ⟨_, (E.c _).trans rfl⟩
    obtain ⟨q, hq⟩ := hcell
    refine X.asgC F₃ ((E.k _).trans rfl) hq fun s₄ F₄ b₄ => ?_
    have W₄ := Ws.fs F₄
    have sk₄ := b₄.sk F₃
    have hy₄ := sk₄ _ _ _ _ hy
    have ry₄ : Reps s₄.heap (fun b => b ≠ ra) Tr ys _ := ry.sk sk₄ (fun _ x => x) fun _ x => x
    have nh : ∀ {m st}, Fs s env m (upd cm₁ "hour" v) st → Nm env (Bs st.heap Q) Tr "hour" (.str (hourStr h)) := fun F' => by
      cases r₃ with | str _ t => ?_
      exact F'.nC (Q' := Nu) ⟨_, rfl, .str _ _⟩ ((E.k _).trans rfl) hq nu_all
    have hpq : (leB (hourStr a) (hourStr h) && (leB (hourStr h) (hourStr b) && true)) = inR h := by
      rw [le_hours ha h24, le_hours h24 hb, Bool.and_true]
    refine X.ifT (Q := Q) (b := leB (hourStr a) (hourStr h) && (leB (hourStr h) (hourStr b) && true)) F₄
      (EB.and (EAnd.cons (EB.val (EV.callf (gle W₄) ⟨_, _, W₄.bs.fn 49 _ rfl rfl, rfl⟩ (EVs.cons (EV.name (nm1 F₄ e1)) (EVs.cons (EV.name (nh F₄)) EVs.nil)) (le_spec hA.deeper W₄.bs))) fun _ =>
        EAnd.cons (EB.val (EV.callf (gle W₄) ⟨_, _, W₄.bs.fn 49 _ rfl rfl, rfl⟩ (EVs.cons (EV.name (nh F₄)) (EVs.cons (EV.name (nm2 F₄ e2)) EVs.nil)) (le_spec hA.deeper W₄.bs))) fun _ => EAnd.nil))
      (fun hbt s₅ F₅ k₅ => ?_) fun hbf s₅ F₅ k₅ => EX.nil (EX.nil ?_)
    · have W₅ := Ws.fs F₅
      have hlen5 := ry.length
      have hy₅ := k₅.kp _ _ hy₄
      refine X.append (Q := Q) (T := Tr) (d := .lst (((laid.map entD).filter (covD (hourStr h))).map lvD)) F₅ (F₅.evalL ((E.k _).trans rfl) e4) hy₅ hra0 hQ ?_
        (EV.comp (covD (hourStr h)) lvD (IT.lst hh (EV.name (nm3 F₅ e3))) hlaid (E0.clos rfl) (by decide) rfl (by decide) rfl (fun d hd C hE hk' nx => ?_) fun d hd _ C hE hk' nx => ?_) (fun s₆ y c₆ F₆ b₆ hy₆ ry₆ => EX.nil (EX.nil ⟨_, _, F₆, ⟨e1, e2, e3, e4, _, c₆, hy₆, ?_⟩, ?_⟩)) (hi := E.inter)
      · rw [hlen5, List.length_map]
        have h1 := List.length_filter_le inR (hs.take i)
        have h2 : (hs.take i).length ≤ hs.length := by rw [List.length_take]; omega
        have h3 : hs.length = laid.length + 1 := by simp [hs, hoursOf]
        omega
      · obtain ⟨e, he, rfl⟩ := List.mem_map.mp hd
        have We := W₅.bs (Q := Q) |>.kp hk'
        exact ETs.one (EB.and (EAnd.cons (EB.val (EV.callf (We.gn0 (E0.comp rfl) rfl rfl) ⟨_, _, We.fn 49 _ rfl rfl, rfl⟩ (EVs.cons (item 0 _ nx rfl (by decide) (by decide)) (EVs.cons (EV.name (E0.free rfl (nh F₅) hk' rfl rfl rfl)) EVs.nil)) (le_spec hA.deeper We))) fun _ =>
          EAnd.cons (EB.val (EV.callf (We.gn0 (E0.comp rfl) rfl rfl) ⟨_, _, We.fn 49 _ rfl rfl, rfl⟩ (EVs.cons (EV.name (E0.free rfl (nh F₅) hk' rfl rfl rfl)) (EVs.cons (item 1 _ nx rfl (by decide) (by decide)) EVs.nil)) (le_spec hA.deeper We))) fun _ => EAnd.nil))
      · obtain ⟨e, he, rfl⟩ := List.mem_map.mp hd
        exact item 2 _ nx rfl (by decide) (by decide)
      · rw [take_filter inR hs i h hn, show inR h = true from hpq.symm.trans hbt, List.map_append]
        refine Reps.append ?_ (.cons ?_ .nil)
        · exact (ry₄.kp k₅.kp (fun _ x => x) fun _ x => x).step (fun a' c' xs' n' hp hg' => ⟨hp, b₆.keep a' _ hp hg'⟩) fun _ x => x
        · show Rep _ _ _ y (intsL (rowAt laid h))
          rw [← rowD_eq hl h24]
          refine ry₆.step (fun a' c' xs' n' hp' hg' => ⟨fun q' => ?_, hg'⟩) tr_all
          subst q'
          rcases hp' with hp' | hp'
          · exact hQ hp'
          · rw [hy₅] at hp'; cases hp'
      · exact ((b₄.weak fun _ x => .inl x).trans k₅.bt).trans (b₆.weak fun _ x => .inr x)
    · refine ⟨_, _, F₅, ⟨e1, e2, e3, e4, ys, c', k₅.kp _ _ hy₄, ?_⟩, (b₄.weak fun _ x => .inl x).trans k₅.bt⟩
      rw [take_filter inR hs i h hn, show inR h = false from hpq.symm.trans hbf]
      simpa using ry₄.kp k₅.kp (fun _ x => x) fun _ x => x
  · intro m' cm' s₃ F₃ φ₃ _
    rw [List.length_map, List.take_length] at φ₃
    obtain ⟨e1, e2, e3, e4, ys, c', hy, ry⟩ := φ₃
    have hrows : ((hs.filter inR).map fun h => intsL (rowAt laid h)) = (rowsOf a b laid).map intsL := by
      unfold rowsOf
      rw [List.map_map]
      rfl
    rw [hrows] at ry
    generalize hrw : rowsOf a b laid = rows at ry
    have hne : rows ≠ [] := by
      rw [← hrw]
      unfold rowsOf hoursOf
      simp [hab]
    have hrl : ∀ row ∈ rows, row.length ≤ laid.length := by
      rw [← hrw]
      intro row hrow
      obtain ⟨h, _, rfl⟩ := List.mem_map.mp hrow
      unfold rowAt
      rw [List.length_map]
      exact List.length_filter_le _ _
    have hrn : rows.length ≤ laid.length + 1 := by
      rw [← hrw]
      unfold rowsOf
      rw [List.length_map]
      refine Nat.le_trans (List.length_filter_le _ _) ?_
      simp [hoursOf]
    have hcell : ∃ q, env.cells.lookup ("level" : PySem.Str) = some q := ⟨_, (E.c _).trans rfl⟩
    obtain ⟨q, hq⟩ := hcell
    refine X.assignC (Q := Nu) (T := Nu) (d := .int 1) F₃ ((E.k _).trans rfl) hq EV.int fun s₄ v F₄ b₄ sk₄ rv => ?_
    cases rv with | int _ t4 _ => ?_
    refine X.while (fun k m cm st => m "rows" = some (.ref ra) ∧ Rep st.heap Tr Tr (.ref ra) (.lst (rows.map intsL)) ∧ ∃ (l : Nat) (t : Tok), cm "level" = some (.int (l : Int) t) ∧ levelFrom rows k l = levelOf a b laid ∧ k + l = laid.length + 2 ∧ 1 ≤ l)
      (laid.length + 1) F₄ ⟨e4, ?_, 1, t4, rfl, by unfold levelOf; rw [hrw], rfl, Nat.le_refl _⟩ ?_
    · exact .lst (n := c') trivial (sk₄ _ _ _ _ hy) (ry.sk sk₄ tr_all tr_all)
    · rintro k m cm st F' ⟨f4, fr, l, t, fl, flv, fk, fl1⟩
      have W' := Ws.fs F'
      have nl : ∀ {st' : Shared}, Fs s env m cm st' → Nm env (Bs st'.heap Tr) Tr "level" (.int (l : Int)) := fun F'' => F''.nC (Q' := Nu) ⟨_, fl, .int _ _ trivial⟩ ((E.k _).trans rfl) hq nu_all
      have hns : rows.map (cntLe · l) ≠ [] := by simpa using hne
      have hrows1 : (rows.map intsL).length ≤ 1000 := by rw [List.length_map]; omega
      refine ⟨Tr, decide ((l : Int) ≤ maxOf (rows.map (cntLe · l))), EB.cmp (EV.callb (W'.bs.bn0 E0 rfl rfl (Boot.«max») (by decide)) (EVs.cons (EV.cast
        (EV.comp (fun _ => true) (cntD l) (IT.lst hh (EV.name (F'.nL (Q' := Tr) ⟨_, f4, fr⟩ ((E.k _).trans rfl) tr_all))) hrows1 (E0.clos rfl) (by decide) rfl (by decide) rfl (fun d hd C hE hk' nx => ETs.nil) fun d hd _ C hE hk' nx => ?_) cnts_eq) EVs.nil) (callMaxL hns hh)) (EV.name (nl F')) CmpR.geI, fun st' F'' k'' => ?_⟩
      · obtain ⟨row, hrow, rfl⟩ := List.mem_map.mp hd
        have We := (W'.bs (Q := Tr)).kp hk'
        have E1 := E0.ofNm nx rfl
        have hr1 : (row.map D.int).length ≤ 1000 := by rw [List.length_map]; have := hrl row hrow; omega
        refine EV.callb (We.bn0 E1 rfl rfl (Boot.«len») (by decide)) (EVs.cons (EV.comp (leD l) id (IT.lst hh (EV.name nx)) hr1 (E1.clos rfl) (by decide) rfl (by decide) rfl (fun d hd C2 hE2 hk2 nx2 => ?_) fun d hd _ C2 hE2 hk2 nx2 => EV.name nx2) EVs.nil) (callLen ?_)
        · obtain ⟨x, _, rfl⟩ := List.mem_map.mp hd
          exact ETs.one (EB.cmp (EV.name nx2) (EV.name (E1.free rfl (E0.free rfl (nl F') hk' rfl rfl rfl) hk2 rfl rfl rfl)) CmpR.leI)
        · rw [List.length_map]
          have := List.length_filter_le (leD l) (row.map D.int)
          omega
      · have hmx : maxOf (rows.map (cntLe · l)) ≤ (laid.length : Int) := by
          obtain ⟨row, hrow, e⟩ := List.mem_map.mp (maxOf_mem hns)
          rw [← e]
          unfold cntLe
          have h1 := List.length_filter_le (fun x => decide (x ≤ (l : Int))) row
          have h2 := hrl row hrow
          omega
        by_cases hle : (l : Int) ≤ maxOf (rows.map (cntLe · l))
        · rw [if_pos (decide_eq_true hle)]
          refine X.assignC (Q := Nu) (T := Nu) (d := .int ((l : Int) + 1)) F'' ((E.k _).trans rfl) hq (EV.binop (EV.name (F''.nC (Q' := Nu) ⟨_, fl, .int _ _ trivial⟩ ((E.k _).trans rfl) hq nu_all)) EV.int BinN.addI) fun st₂ v₂ G₂ g₂ sg₂ rv₂ => EX.nil ?_
          cases rv₂ with | int _ t₂ _ => ?_
          match k, flv, fk with
          | 0, _, fk => exact absurd hle (by omega)
          | k + 1, flv, fk =>
            refine ⟨k, _, _, Nat.lt_succ_self _, G₂, f4, ?_, l + 1, t₂, rfl, ?_, by omega, by omega⟩
            · exact fr.sk (k''.kp.sk.trans sg₂) tr_all tr_all
            · rw [← flv]
              show _ = if (l : Int) ≤ maxOf (rows.map (cntLe · l)) then levelFrom rows k (l + 1) else l
              rw [if_pos hle]
        · rw [if_neg (by simpa using hle)]
          have hfin : levelOf a b laid = l := by
            rw [← flv]
            match k with
            | 0 => rfl
            | k + 1 =>
              show (if (l : Int) ≤ maxOf (rows.map (cntLe · l)) then levelFrom rows k (l + 1) else l) = l
              rw [if_neg hle]
          rw [hfin]
          exact X.ret (Q := Nu) (T := Tr) F'' (EV.name (F''.nC (Q' := Nu) ⟨_, fl, .int _ _ trivial⟩ ((E.k _).trans rfl) hq nu_all)) fun s₇ v k₇ k₇' r => ⟨k₇, r.kp (Kp.refl _) (fun _ x => x.mono nu_all F''.keep) fun _ _ => .inl trivial⟩
end Mine
end

section
namespace Mine
variable {prog : Program} {w : World}

noncomputable def spanD (sp : Nat × Nat) : D := .tup [.int sp.1, .int sp.2]
theorem bookFrom_snoc : ∀ (l : List Ent) (xs : List (Nat × Nat)) (x : Nat × Nat), bookFrom l (xs ++ [x]) = bookFrom l xs ++ [entOf (bookFrom l xs) x]
  | l, [], x => rfl
  | l, y :: ys, x => bookFrom_snoc (l ++ [entOf l y]) ys x
theorem bookFrom_length : ∀ (l : List Ent) (xs : List (Nat × Nat)), (bookFrom l xs).length = l.length + xs.length
  | l, [] => rfl
  | l, y :: ys => by
    show (bookFrom (l ++ [entOf l y]) ys).length = _
    rw [bookFrom_length]
    simp
    omega
theorem bookFrom_ok : ∀ (l : List Ent) (xs : List (Nat × Nat)), (∀ e ∈ l, e.ok) → (∀ sp ∈ xs, sp.1 ≤ sp.2 ∧ sp.2 < 24) → ∀ e ∈ bookFrom l xs, e.ok
  | l, [], h, _ => h
  | l, y :: ys, h, h' => bookFrom_ok (l ++ [entOf l y]) ys (fun e he => by
      rcases List.mem_append.mp he with he | he
      · exact h e he
      · rw [List.mem_singleton.mp he]
        have := h' y (List.mem_cons_self ..)
        exact ⟨by show y.1 < 24; omega, this.2⟩) fun sp hs => h' sp (List.mem_cons_of_mem _ hs)
theorem bookFrom_take {xs : List (Nat × Nat)} {i : Nat} {sp : Nat × Nat} (h : xs[i]? = some sp) : bookFrom [] (xs.take (i + 1)) = bookFrom [] (xs.take i) ++ [entOf (bookFrom [] (xs.take i)) sp] := by
  rw [List.take_add_one, h]
  exact bookFrom_snoc _ _ _
noncomputable def takD (lv : Nat) (x y : PySem.Str) : D → Bool
  | .tup (.str p :: .str q :: .int l :: _) => (l == (lv : Int)) && (leB p y && (leB x q && true))
  | _ => false
theorem taken_eq {laid : List Ent} {lv a b : Nat} (hl : ∀ e ∈ laid, e.ok) (ha : a < 24) (hb : b < 24) : D.lst (((laid.map entD).filter (takD lv (hourStr a) (hourStr b))).map thD) = intsL (takenOf lv a b laid) := by
  unfold intsL takenOf
  rw [List.filter_map, List.map_map, List.map_map]
  have e1 : laid.filter (takD lv (hourStr a) (hourStr b) ∘ entD) = laid.filter (fun e => (e.lv == lv) && (decide (e.a ≤ b) && decide (a ≤ e.b))) := by
    apply List.filter_congr
    intro e he
    show (((e.lv : Int) == (lv : Int)) && (leB (hourStr e.a) (hourStr b) && (leB (hourStr a) (hourStr e.b) && true))) = _
    rw [le_hours (hl e he).1 hb, le_hours ha (hl e he).2, Bool.and_true]
    have hq : ((e.lv : Int) == (lv : Int)) = (e.lv == lv) := by
      by_cases h : e.lv = lv
      · rw [h, beq_self_eq_true, beq_self_eq_true]
      · have h2 : ¬ ((e.lv : Int) = (lv : Int)) := by omega
        rw [beq_eq_false_iff_ne.mpr h, beq_eq_false_iff_ne.mpr h2]
    rw [hq]
  rw [e1]
  rfl
noncomputable def conD (taken : List Int) : D → D
  | .int x => .bool (taken.any (· == x))
  | _ => .none
noncomputable def tints (taken : List Int) : List Bool := [taken.any (· == 0), taken.any (· == 1), taken.any (· == 2), taken.any (· == 3)]
theorem tints_eq (taken : List Int) : D.lst (((intsD 0 (4 : Int).toNat).filter (fun _ => true)).map (conD taken)) = .lst ((tints taken).map .bool) := rfl
theorem tints_at {taken : List Int} (h : thirdIdx taken ≤ 2) : (tints taken)[thirdIdx taken]? = some false ∧ ∀ j, j < thirdIdx taken → (tints taken)[j]? = some true := by
  unfold thirdIdx at h ⊢
  cases h0 : taken.any (· == 0) with
  | false => simp [tints, h0]
  | true =>
    cases h1 : taken.any (· == 1) with
    | false =>
      simp only [h0, h1, Bool.true_eq_false, if_false, if_true]
      refine ⟨by simp [tints, h1], fun j hj => ?_⟩
      have : j = 0 := by omega
      subst this
      simp [tints, h0]
    | true =>
      cases h2 : taken.any (· == 2) with
      | false =>
        simp only [h0, h1, h2, Bool.true_eq_false, if_false, if_true]
        refine ⟨by simp [tints, h2], fun j hj => ?_⟩
        rcases (show j = 0 ∨ j = 1 by omega) with rfl | rfl
        · simp [tints, h0]
        · simp [tints, h1]
      | true => simp [h0, h1, h2] at h

/-- what the colours want of a booking -/
noncomputable def Ent.fine (e : Ent) : Prop := 1 ≤ e.lv ∧ e.lv ≤ 8 ∧ e.th ≤ 2
theorem colour_at {e : Ent} (h : e.fine) : colourOk (e.lv : Int) (e.th : Int) = true := by
  obtain ⟨h1, h2, h3⟩ := h
  have := colour_ok ⟨e.lv - 1, by omega⟩ ⟨e.th, by omega⟩
  have e1 : (((⟨e.lv - 1, by omega⟩ : Fin 8).val : Int) + 1) = (e.lv : Int) := by show ((e.lv - 1 : Nat) : Int) + 1 = _; omega
  rw [e1] at this
  exact this

theorem book_spec {A : Around} {hB : Heap} {spans : List (Nat × Nat)} (hsp : ∀ sp ∈ spans, sp.1 ≤ sp.2 ∧ sp.2 < 24) (hn : spans.length ≤ 8) (hgood : ∀ i sp, spans[i]? = some sp → (entOf (bookFrom [] (spans.take i)) sp).fine) (hA : AOk A 3) (W : Wd w hB) :
    CallN prog w A hB (.ref 94) [.lst (spans.map spanD)] (.lst ((bookFrom [] spans).map entD)) := by
  intro s vs hk r
  cases r with | @cons v1 _ _ _ r1 rs => ?_
  cases rs
  have Ws := W.kp hk
  refine enter [("spans", v1)] hA.d ⟨_, Ws.fn 94 _ rfl rfl, rfl, ⟨93, _, _, _, rfl, Ws.fn 93 _ rfl rfl, rfl, rfl⟩⟩ Ws.lim rfl rfl rfl rfl rfl rfl rfl rfl rfl rfl fun s₁ env E F => ?_
  dsimp only at E F
  have hh : (A.deeper env).handled = none := hA.hh
  have E0 := E.e0
  refine X.assignL (Q := Nu) (T := Nu) (d := .lst []) F ((E.k _).trans rfl) (EV.lst EVs.nil) fun s₂ v F₂ b₂ sk₂ rv => ?_
  cases rv with | @lst la xs _ c hp hg rr => ?_
  cases rr
  have hla0 : s.heap.get? la = none := none_of_kp F.keep (hp.resolve_left fun h => h)
  let Q : Addr → Prop := Hin s.heap
  have hQ : ¬ Q la := fun h => by obtain ⟨o, e⟩ := h; rw [hla0] at e; cases e
  let P0 : Addr → Prop := fun b => s.heap.get? b = none ∧ b ≠ la
  let LS : Nat → Shared → Prop := fun i st => ∃ ys c, st.heap.get? la = some (lstObj ys c) ∧ Reps st.heap P0 (TN Nu s st) ys ((bookFrom [] (spans.take i)).map entD)
  have ls_sk : ∀ {i : Nat} {st st' : Shared}, LS i st → Sk st.heap st'.heap → st.toks ≤ st'.toks → LS i st' := fun ⟨ys, c, hy, ry⟩ sk l => ⟨ys, c, sk _ _ _ _ hy, ry.sk sk (fun _ x => x) fun _ x => x.mono (fun _ y => y) (Nat.le_refl _) l⟩
  have hcells : ∀ n : PySem.Str, (∃ q, (cellsFrom (env.locals + 1) _ []).lookup n = some q) → ∃ q, env.cells.lookup n = some q := fun n h => by rw [E.c]; exact h
  obtain ⟨qb, hqb⟩ := hcells "begin" ⟨_, rfl⟩
  obtain ⟨qe, hqe⟩ := hcells "end" ⟨_, rfl⟩
  obtain ⟨ql, hql⟩ := hcells "level" ⟨_, rfl⟩
  obtain ⟨qt, hqt⟩ := hcells "taken" ⟨_, rfl⟩
  refine X.for (Q := Q) (T := Tr) (S := fun b => b = la) (ds := spans.map spanD) (fun i m cm st => m "laid" = some (.ref la) ∧ LS i st)
    F₂ (IT.lst hh (EV.name (F₂.nL (Q' := Hin s.heap) ⟨v1, rfl, r1.hin.kp F₂.keep (fun _ x => x) fun _ x => x⟩ ((E.k _).trans rfl) fun _ x => x))) ?_ ?_ ?_ ?_ ?_
  · rintro b rfl
    exact ⟨hla0, ⟨_, hg⟩, fun h => h _ _ _ hg, hQ⟩
  · rintro i m cm st st' ⟨e1, hL⟩ sk l
    exact ⟨e1, ls_sk hL sk l⟩
  · exact ⟨rfl, [], c, hg, by simpa [bookFrom] using Reps.nil⟩
  · rintro i d v m₁ cm₁ s₃ hd F₃ ⟨e1, hL₃⟩ r₃ bt₃
    rw [List.getElem?_map] at hd
    cases hn' : spans[i]? with
    | none => rw [hn'] at hd; cases hd
    | some sp => ?_
    rw [hn'] at hd
    cases hd
    obtain ⟨ha, hb⟩ := hsp sp (List.mem_of_getElem? hn')
    have ha24 : sp.1 < 24 := by omega
    have hfine := hgood i sp hn'
    have hcol := colour_at hfine
    generalize hLd : bookFrom [] (spans.take i) = L at hfine hcol
    have hLlen : L.length ≤ 8 := by
      rw [← hLd, bookFrom_length, List.length_take]
      show 0 + _ ≤ 8
      omega
    have hLok : ∀ e ∈ L, e.ok := by
      rw [← hLd]
      exact bookFrom_ok _ _ (fun _ h => by cases h) fun x hx => hsp x (List.mem_of_mem_take hx)
    refine X.asgTup2 hh F₃ ((E.k _).trans rfl) ((E.k _).trans rfl) r₃ fun s₄ u1 u2 F₄ b₄ ru1 ru2 => ?_
    cases ru1 with | int _ t1 _ => ?_
    cases ru2 with | int _ t2 _ => ?_
    have W₄ := Ws.fs F₄
    have L₄ := ls_sk hL₃ (b₄.sk F₃) b₄.le
    refine X.assignC (Q := Nu) (T := Nu) (d := .str (hourStr sp.1)) F₄ ((E.k _).trans rfl) hqb (EV.callf (W₄.bs.gn0 E0 rfl rfl) ⟨_, _, W₄.bs.fn 77 _ rfl rfl, rfl⟩ (EVs.cons (EV.name (F₄.nL (Q' := Nu) ⟨_, rfl, .int _ _ trivial⟩ ((E.k _).trans rfl) nu_all)) EVs.nil) (hour_spec ha24 hA.deeper W₄.bs)) fun s₅ v₅ F₅ b₅ sk₅ rv₅ => ?_
    cases rv₅ with | str _ t₅ => ?_
    have W₅ := Ws.fs F₅
    have L₅ := ls_sk L₄ sk₅ b₅.le
    refine X.assignC (Q := Nu) (T := Nu) (d := .str (hourStr sp.2)) F₅ ((E.k _).trans rfl) hqe (EV.callf (W₅.bs.gn0 E0 rfl rfl) ⟨_, _, W₅.bs.fn 77 _ rfl rfl, rfl⟩ (EVs.cons (EV.name (F₅.nL (Q' := Nu) ⟨_, rfl, .int _ _ trivial⟩ ((E.k _).trans rfl) nu_all)) EVs.nil) (hour_spec hb hA.deeper W₅.bs)) fun s₆ v₆ F₆ b₆ sk₆ rv₆ => ?_
    cases rv₆ with | str _ t₆ => ?_
    have W₆ := Ws.fs F₆
    have L₆ := ls_sk L₅ sk₆ b₆.le
    have nlaid : ∀ {m cm st}, Fs s env m cm st → m "laid" = some (.ref la) → LS i st → Nm env (Bs st.heap Tr) Tr "laid" (.lst (L.map entD)) := fun F' e ⟨ys, c, hy, ry⟩ => F'.nL (Q' := Tr) ⟨_, e, .lst (n := c) trivial hy (hLd ▸ ry.kp (Kp.refl _) tr_all tr_all)⟩ ((E.k _).trans rfl) tr_all
    have hlaid : (L.map entD).length ≤ 1000 := by rw [List.length_map]; omega
    refine X.assignC (Q := Tr) (T := Tr) (d := .int (levelOf sp.1 sp.2 L)) F₆ ((E.k _).trans rfl) hql (EV.callt (W₆.bs.gn0 E0 rfl rfl) ⟨_, _, W₆.bs.fn 82 _ rfl rfl, rfl⟩
      (EVs.cons (EV.name (F₆.nC (Q' := Tr) ⟨_, rfl, .str _ _⟩ ((E.k _).trans rfl) hqb tr_all)) (EVs.cons (EV.name (F₆.nC (Q' := Tr) ⟨_, rfl, .str _ _⟩ ((E.k _).trans rfl) hqe tr_all)) (EVs.cons (EV.name (nlaid F₆ e1 L₆)) EVs.nil)))
      (level_spec ha24 hb ha hLok hLlen hA.deeper W₆.bs)) fun s₇ v₇ F₇ b₇ sk₇ rv₇ => ?_
    cases rv₇ with | int _ t₇ _ => ?_
    generalize hlv : levelOf sp.1 sp.2 L = lv at F₇
    have W₇ := Ws.fs F₇
    have L₇ := ls_sk L₆ sk₇ b₇.le
    have item : ∀ {Ax : Around} {env' : Env} {hE : Heap} {e : Ent} {n : PySem.Str} {p1 p2 p3 : Pos} {k : Nat} (i : Nat) (d : D), Nm env' hE Tr n (entD e) → [D.str (hourStr e.a), .str (hourStr e.b), .int e.lv, .int e.th][i]? = some d → i < 10 → (n == ("__debug__" : PySem.Str)) = false → EV prog w Ax env' hE Tr (.Subscript (.Name n p1) (.Constant (.int i) k p2) p3) d :=
      fun i d nx h hi hd => EV.item (.inr (EV.name nx hd)) EV.int (by omega) (by omega) (by simpa using h)
    have nbeg : Nm env (Bs s₇.heap Tr) Tr "begin" (.str (hourStr sp.1)) := F₇.nC (Q' := Tr) ⟨_, rfl, .str _ _⟩ ((E.k _).trans rfl) hqb tr_all
    have nend : Nm env (Bs s₇.heap Tr) Tr "end" (.str (hourStr sp.2)) := F₇.nC (Q' := Tr) ⟨_, rfl, .str _ _⟩ ((E.k _).trans rfl) hqe tr_all
    have nlev : Nm env (Bs s₇.heap Tr) Tr "level" (.int lv) := F₇.nC (Q' := Tr) ⟨_, rfl, .int _ _ trivial⟩ ((E.k _).trans rfl) hql tr_all
    refine X.assignC (Q := Tr) (T := Tr) (d := intsL (takenOf lv sp.1 sp.2 L)) F₇ ((E.k _).trans rfl) hqt (EV.cast (EV.comp (takD lv (hourStr sp.1) (hourStr sp.2)) thD (IT.lst hh (EV.name (nlaid F₇ e1 L₇))) hlaid (E0.clos rfl) (by decide) rfl (by decide) rfl (fun d hd C hE hk' nx => ?_) fun d hd _ C hE hk' nx => ?_) (taken_eq hLok ha24 hb)) (fun s₈ v₈ F₈ b₈ sk₈ rv₈ => ?_) (swaps_cell ((E.k _).trans rfl))
    · obtain ⟨e, he, rfl⟩ := List.mem_map.mp hd
      have We := (W₇.bs (Q := Tr)).kp hk'
      exact ETs.one (EB.and (EAnd.cons (EB.cmp (item 2 _ nx rfl (by decide) (by decide)) (EV.name (E0.free rfl nlev hk' rfl rfl rfl)) CmpR.eqI) fun _ =>
        EAnd.cons (EB.val (EV.callf (We.gn0 (E0.comp rfl) rfl rfl) ⟨_, _, We.fn 49 _ rfl rfl, rfl⟩ (EVs.cons (item 0 _ nx rfl (by decide) (by decide)) (EVs.cons (EV.name (E0.free rfl nend hk' rfl rfl rfl)) EVs.nil)) (le_spec hA.deeper.down We))) fun _ =>
        EAnd.cons (EB.val (EV.callf (We.gn0 (E0.comp rfl) rfl rfl) ⟨_, _, We.fn 49 _ rfl rfl, rfl⟩ (EVs.cons (EV.name (E0.free rfl nbeg hk' rfl rfl rfl)) (EVs.cons (item 1 _ nx rfl (by decide) (by decide)) EVs.nil)) (le_spec hA.deeper.down We))) fun _ => EAnd.nil))
    · obtain ⟨e, he, rfl⟩ := List.mem_map.mp hd
      exact item 3 _ nx rfl (by decide) (by decide)
    have W₈ := Ws.fs F₈
    have L₈ := ls_sk L₇ sk₈ b₈.le
    generalize htk : takenOf lv sp.1 sp.2 L = taken at rv₈
    have eent : entOf L sp = ⟨sp.1, sp.2, lv, thirdIdx taken⟩ := by unfold entOf; rw [hlv, htk]
    rw [eent] at hfine hcol
    have hth : thirdIdx taken ≤ 2 := hfine.2.2
    have hti := tints_at hth
    generalize hth0 : thirdIdx taken = th at hfine hcol hth hti eent
    have ntak : Nm env (Bs s₈.heap Tr) Tr "taken" (intsL taken) := F₈.nC (Q' := PN Tr s₇.heap) ⟨_, rfl, rv₈.kp (Kp.refl _) (fun _ x => x) tr_all⟩ ((E.k _).trans rfl) hqt tr_all
    refine X.assignL (Q := Tr) (T := Tr) (d := .int th) F₈ ((E.k _).trans rfl) (EV.callt (W₈.bs.gn0 E0 rfl rfl) ⟨_, _, W₈.bs.fn 70 _ rfl rfl, rfl⟩
      (EVs.cons (EV.cast (EV.comp (fun _ => true) (conD taken) (IT.range1 hh (W₈.bs.bn0 E0 rfl rfl (Boot.«range») (by decide)) EV.int (by decide) (by decide)) (by decide) (E0.clos rfl) (by decide) rfl (by decide) rfl (fun d hd C hE hk' nx => ETs.nil) fun d hd _ C hE hk' nx => ?_) (tints_eq taken)) (EVs.cons EV.bool EVs.nil))
      (index_spec hA.deeper.down W₈.bs hti.1 hti.2)) fun s₉ v₉ F₉ b₉ sk₉ rv₉ => ?_
    · obtain ⟨x, hx, rfl⟩ := List.mem_map.mp hd
      have We := (W₈.bs (Q := Tr)).kp hk'
      exact EV.callf (We.gn0 (E0.comp rfl) rfl rfl) ⟨_, _, We.fn 56 _ rfl rfl, rfl⟩ (EVs.cons (EV.name (E0.free rfl ntak hk' rfl rfl rfl)) (EVs.cons (EV.name nx) EVs.nil)) (contains_spec hA.deeper.down We)
    cases rv₉ with | int _ t₉ _ => ?_
    have W₉ := Ws.fs F₉
    have L₉ := ls_sk L₈ sk₉ b₉.le
    simp only [colourOk, Bool.and_eq_true, Bool.not_eq_true', beq_iff_eq] at hcol
    obtain ⟨⟨⟨⟨⟨⟨hc1, hc2⟩, hc3⟩, hc4⟩, hc5⟩, hc6⟩, hc7⟩ := hcol
    have nth9 : Nm env (Bs s₉.heap Nu) Tr "third" (.int th) := F₉.nL (Q' := Nu) ⟨_, rfl, .int _ _ trivial⟩ ((E.k _).trans rfl) nu_all
    have nlv9 : Nm env (Bs s₉.heap Nu) Tr "level" (.int lv) := F₉.nC (Q' := Nu) ⟨_, rfl, .int _ _ trivial⟩ ((E.k _).trans rfl) hql nu_all
    refine X.assignL (Q := Nu) (T := Nu) (d := .tup [.int lv, .int th]) F₉ ((E.k _).trans rfl) (EV.cast (EV.callf (W₉.bs.gn0 E0 rfl rfl) ⟨_, _, W₉.bs.fn 89 _ rfl rfl, rfl⟩ (EVs.cons
      (EV.callf (W₉.bs.gn0 E0 rfl rfl) ⟨_, _, W₉.bs.fn 28 _ rfl rfl, rfl⟩ (EVs.cons (EV.binop (EV.name nth9) EV.int (BinN.divI (by decide) (by rw [show Float64.ofFrac _ _ _ = thirdOf (th : Int) from rfl, hc1]; exact Bool.false_ne_true))) (EVs.cons (EV.binop (EV.name nlv9) EV.int (BinN.divI (by decide) (by rw [show Float64.ofFrac _ _ _ = lightOf (lv : Int) from rfl, hc2]; exact Bool.false_ne_true))) (EVs.cons EV.flt EVs.nil))) (hls_spec hA.deeper W₉.bs))
      EVs.nil) (seen_spec hA.deeper W₉.bs hc3 hc4 hc5)) ?_) fun s₁₀ v₁₀ F₁₀ b₁₀ sk₁₀ rv₁₀ => ?_
    · show D.tup [.int (seenL (rOf lv th) (gOf lv th) (bOf lv th)), .int (seenT (rOf lv th) (gOf lv th) (bOf lv th))] = _
      rw [hc6, hc7]
    have W₁₀ := Ws.fs F₁₀
    have L₁₀ := ls_sk L₉ sk₁₀ b₁₀.le
    have hLin : ∀ {st : Shared}, LS i st → ∀ {a}, st.heap.get? a = none → a ≠ la := fun ⟨ys, c, hy, _⟩ a e q => by rw [q, hy] at e; cases e
    refine X.ifF (Q := Tr) F₁₀ (EB.cmp (EV.name (F₁₀.nL (Q' := Tr) ⟨_, rfl, rv₁₀.kp (Kp.refl _) tr_all tr_all⟩ ((E.k _).trans rfl) tr_all)) (EV.tup (EVs.cons (EV.name (F₁₀.nC (Q' := Nu) ⟨_, rfl, .int _ _ trivial⟩ ((E.k _).trans rfl) hql nu_all)) (EVs.cons (EV.name (F₁₀.nL (Q' := Nu) ⟨_, rfl, .int _ _ trivial⟩ ((E.k _).trans rfl) nu_all)) EVs.nil))) (CmpR.neT2 (by have := hA.deeper (env := env) |>.units; omega))) fun s₁₁ F₁₁ k₁₁ => ?_
    have L₁₁ := ls_sk L₁₀ k₁₁.kp.sk k₁₁.le
    let Q1 : Addr → Prop := fun b => b ≠ la ∧ s.heap.get? b = none
    have nseen : Nm env (Bs s₁₁.heap Q1) (TN Nu s s₁₁) "seen" (.tup [.int lv, .int th]) := F₁₁.nL (Q' := Q1) ⟨_, rfl, rv₁₀.kp k₁₁.kp (fun a h => ⟨hLin L₉ (h.resolve_left fun x => x), none_of_kp F₉.keep (h.resolve_left fun x => x)⟩) fun t h => h.elim (fun x => x.elim) fun h => .inr ⟨Nat.le_trans F₉.le h.1, Nat.lt_of_lt_of_le h.2 k₁₁.le⟩⟩ ((E.k _).trans rfl) fun _ x => x
    obtain ⟨ys, c', hy, ry⟩ := L₁₁
    have hylen := ry.length
    refine X.append (Q := Q1) (T := TN Nu s s₁₁) (d := entD (entOf L sp)) F₁₁ (F₁₁.evalL ((E.k _).trans rfl) e1) hy hla0 (fun h => h.1 rfl) ?_ ?_ (fun s₁₂ y c₁₂ F₁₂ b₁₂ hy₁₂ ry₁₂ => EX.nil ⟨_, _, F₁₂, ⟨e1, ⟨_, c₁₂, hy₁₂, ?_⟩⟩, ?_⟩) (hi := E.inter)
    · rw [hylen, List.length_map, hLd]; omega
    · rw [eent]
      exact EV.tup (EVs.cons (EV.name (F₁₁.nC (Q' := Nu) ⟨_, rfl, .str _ _⟩ ((E.k _).trans rfl) hqb nu_all)) (EVs.cons (EV.name (F₁₁.nC (Q' := Nu) ⟨_, rfl, .str _ _⟩ ((E.k _).trans rfl) hqe nu_all))
        (EVs.cons (EV.item (.inr (EV.name nseen)) EV.int (by decide) (by decide) rfl) (EVs.cons (EV.item (.inr (EV.name nseen)) EV.int (by decide) (by decide) rfl) EVs.nil))))
    · rw [bookFrom_take hn', hLd, List.map_append]
      refine Reps.append ?_ (.cons ?_ .nil)
      · rw [hLd] at ry
        exact ry.step (fun a' c' xs' n' hp hg' => ⟨hp, b₁₂.keep a' _ hp.2 hg'⟩) fun _ x => x.mono (fun _ y => y) (Nat.le_refl _) b₁₂.le
      · refine ry₁₂.step (fun a' c' xs' n' hp' hg' => ⟨?_, hg'⟩) fun t x => x.elim (fun x => x.mono (fun _ y => y) (Nat.le_refl _) b₁₂.le) fun x => .inr ⟨Nat.le_trans F₁₁.le x.1, x.2⟩
        rcases hp' with hp' | hp'
        · exact ⟨hp'.2, hp'.1⟩
        · exact ⟨none_of_kp F₁₁.keep hp', fun q => by rw [q, hy] at hp'; cases hp'⟩
    · exact ((((((((b₄.trans b₅).trans b₆).trans b₇).trans b₈).trans b₉).trans b₁₀).trans k₁₁.bt).weak fun _ x => .inl x).trans (b₁₂.weak fun _ x => .inr x)
  · rintro m' cm' s₃ F₃ ⟨e1, ys, c', hy, ry⟩ _
    rw [List.length_map, List.take_length] at ry
    refine X.ret (Q := fun b => s.heap.get? b = none) (T := TN Nu s s₃) (d := .lst ((bookFrom [] spans).map entD)) F₃ (EV.name (F₃.nL (Q' := fun b => s.heap.get? b = none) ⟨_, e1, .lst (n := c') hla0 hy (ry.kp (Kp.refl _) (fun _ x => x.1) fun _ x => x)⟩ ((E.k _).trans rfl) fun _ x => x)) fun s₄ v k₄ k₄' r => ⟨k₄, ?_⟩
    exact r.kp (Kp.refl _) (fun a x => x.elim .inr fun x => .inr (none_of_kp F₃.keep x)) fun t x => x.elim (fun x => x.mono (fun _ y => y) (Nat.le_refl _) k₄'.le) fun x => .inr ⟨Nat.le_trans F₃.le x.1, x.2⟩
end Mine
end

section
namespace Mine
section
variable {prog : Program} {w : World} {A : Around} {env : Env} {hB : Heap} {T : Tok → Prop} {s₀ s : Shared} {m cm : Mp} {Q : Addr → Prop} {R : Flow → Shared → Prop}

theorem evalCompF {elt iter : Expr} {x : PySem.Str} {px : Pos} {ifs : List Expr} {scope : Scope} {cl : List (PySem.Str × Addr)} {pos : Pos} {ds : List D} (G : Shared → Value → Prop) (p : D → Bool) (f : D → D)
    {Ti : Tok → Prop} (hit : IT prog w A env hB Ti iter ds) (hn : ds.length ≤ 1000)
    (hclos : closureFor scope env = pure cl) (hcell : ∀ y ∈ scope.names, y.2 ≠ .cell) (hkind : scope.kind = .function) (hnames : ∀ y ∈ scope.names, y.2 = .local → scope.names.lookup y.1 = some .local) (hx : scope.names.lookup x = some .local)
    (ht : ∀ d ∈ ds, ∀ C hE, Kp hB hE → Nm (compEnvC scope cl C env) hE Tr x d → ETs prog w A (compEnvC scope cl C env) hE 0 ifs (p d))
    (he : ∀ d ∈ ds, p d = true → ∀ C hE, Kp hB hE → Nm (compEnvC scope cl C env) hE Tr x d → ∀ s, Kp hE s.heap → wpAny (model prog w) A (eval elt (compEnvC scope cl C env)) (fun v s' => Rt (Hin hE) T s (f d) v s' ∧ G s v) NoE s)
    (hs : ∀ x, foldedSetIterable iter env x = pure x := by intro _; rfl) (s : Shared) (hk : Kp hB s.heap) :
    wpAny (model prog w) A (eval (.ListComp elt [⟨.Name x px, iter, ifs, 0⟩] scope pos) env) (fun v s' => Rt (Hin hB) T s (.lst ((ds.filter p).map f)) v s' ∧ ∃ Dl ys c, v = .ref Dl ∧ s'.heap.get? Dl = some (lstObj ys c) ∧ (FrG G → Dist ys)) NoE s := by
  rw [eval_ListComp]
  refine comp_core G p f hk hit hn hclos hcell hkind hnames hx (fun d hd C hE hk nm => (ht d hd C hE hk nm).weak (Nat.zero_le _)) he (fun s' Dl C m' hn' hC hk' hr hx => ?_) hs
  obtain ⟨ys, c, hy, hD⟩ := hx
  refine ⟨m', hn', fun h'' hs'' => ⟨⟨?_, ?_⟩, Dl, ys, c, rfl, ?_, hD⟩⟩
  · obtain ⟨h, t, rfl, k, l⟩ := hk'
    exact ⟨h'', t, rfl, fun b o e => hs''.extBut b o (fun hb => by rw [hb, hC] at e; cases e) (k b o e), l⟩
  · refine hr.step (fun a c xs n hp hg => ⟨hp, hs''.extBut a _ (fun hb => ?_) hg⟩) fun _ x => x
    subst hb
    exact noSeq_ns hn' _ _ _ hg
  · refine hs''.extBut _ _ (fun hb => ?_) hy
    subst hb
    exact noSeq_ns hn' _ _ _ hy

theorem X.assignCF {elt iter : Expr} {x y : PySem.Str} {c : Addr} {px py pos spos : Pos} {ifs : List Expr} {scope : Scope} {cl : List (PySem.Str × Addr)} {ds : List D} {rest : List Stmt} {Ti : Tok → Prop} (G : Shared → Value → Prop) (p : D → Bool) (f : D → D) (F : Fs s₀ env m cm s) (hy : env.kindOf y = some .cell) (hc : env.cells.lookup y = some c)
    (hit : IT prog w A env (Bs s.heap Q) Ti iter ds) (hn : ds.length ≤ 1000)
    (hclos : closureFor scope env = pure cl) (hcell : ∀ y ∈ scope.names, y.2 ≠ .cell) (hkind : scope.kind = .function) (hnames : ∀ y ∈ scope.names, y.2 = .local → scope.names.lookup y.1 = some .local) (hx : scope.names.lookup x = some .local)
    (ht : ∀ d ∈ ds, ∀ C hE, Kp (Bs s.heap Q) hE → Nm (compEnvC scope cl C env) hE Tr x d → ETs prog w A (compEnvC scope cl C env) hE 0 ifs (p d))
    (he : ∀ d ∈ ds, p d = true → ∀ C hE, Kp (Bs s.heap Q) hE → Nm (compEnvC scope cl C env) hE Tr x d → ∀ s, Kp hE s.heap → wpAny (model prog w) A (eval elt (compEnvC scope cl C env)) (fun v s' => Rt (Hin hE) T s (f d) v s' ∧ G s v) NoE s)
    (next : ∀ s' v, Fs s₀ env m (upd cm y v) s' → Bt (Fp env) s s' → Sk s.heap s'.heap → Rep s'.heap (PN Q s.heap) (TN T s s') v (.lst ((ds.filter p).map f)) → (∃ Dl ys c, v = .ref Dl ∧ s'.heap.get? Dl = some (lstObj ys c) ∧ (FrG G → Dist ys)) → EX prog w A env R rest s')
    (hs : ∀ x, foldedSetIterable iter env x = pure x := by intro _; rfl) :
    EX prog w A env R (.Assign [.Name y py] (.ListComp elt [⟨.Name x px, iter, ifs, 0⟩] scope pos) spos :: rest) s := by
  refine ⟨wpAny_execs_cons (wpAny_Assign_Name (mono' (evalCompF G p f hit hn hclos hcell hkind hnames hx ht he hs s (Bs.kp _ _)) fun v s₁ h₁ => ?_) (swaps_cell hy))⟩
  obtain ⟨h₁, Dl, ys, c', rfl, hg, hD⟩ := h₁
  have F₁ := F.ksF h₁.1
  refine X.storeC F₁ hy hc fun s₂ F₂ b₂ => ?_
  have k₂ := b₂.sk F₁
  exact (next s₂ _ F₂ (h₁.1.bt.trans b₂) (h₁.1.kp.sk.trans k₂) ((Bs.out h₁.1.kp h₁.2 fun _ x => x).sk k₂ (fun _ x => x) fun _ x => x.mono (fun _ y => y) (Nat.le_refl _) b₂.le) ⟨Dl, ys, c', rfl, k₂ _ _ _ _ hg, hD⟩).h

/-- an empty list is a new one -/
theorem nilNew {hE : Heap} {pos : Pos} {T : Tok → Prop} (s : Shared) : wpAny (model prog w) A (eval (.List [] pos) env) (fun v s' => Rt (Hin hE) T s (.lst []) v s' ∧ ∀ a, v = .ref a → s.heap.get? a = none) NoE s := by
  refine mono' ((EV.lst EVs.nil : EV prog w A env (restr s.heap fun _ => False) T (.List [] pos) (.lst [])).h s (restr_kp _ _)) fun v s' h => ⟨⟨h.1, h.2.kp (Kp.refl _) (fun a x => x.elim (fun y => (restr_in y).elim) .inr) fun _ x => x⟩, ?_⟩
  rintro a rfl
  have r := h.2
  cases r with | lst hp hg rr => exact hp.elim (fun y => (restr_in y).elim) fun y => y

theorem EV.item2 {x y : PySem.Str} {p1 p2 p3 p4 p5 : Pos} {kk : Nat} {ls ds : List D} {k i : Nat} {d : D} (hx : Nm env hB T x (.lst ls)) (hy : Nm env hB Tr y (.int (k : Nat))) (hk : ls[k]? = some (.tup ds)) (hd : ds[i]? = some d) (hk9 : k < 1000) (hi9 : i < 1000)
    (hdx : (x == ("__debug__" : PySem.Str)) = false := by decide) (hdy : (y == ("__debug__" : PySem.Str)) = false := by decide) : EV prog w A env hB T (.Subscript (.Subscript (.Name x p1) (.Name y p2) p3) (.Constant (.int (i : Nat)) kk p4) p5) d :=
  EV.item (.inr (EV.item (.inl (EV.name hx hdx)) (EV.name hy hdy) (by omega) (by omega) (by simpa using hk))) EV.int (by omega) (by omega) (by simpa using hd)

/-- the very value at a place of a list -/
theorem evalAt {x y : PySem.Str} {p1 p2 p3 : Pos} {H : Addr} {ys : List Value} {c : Nat} {k : Nat} {t : Tok} {v : Value} {cH : Addr} (F : Fs s₀ env m cm s) (hx : env.kindOf x = some .cell) (hcx : env.cells.lookup x = some cH) (ex : cm x = some (.ref H)) (hy : env.kindOf y = some .local) (ey : m y = some (.int (k : Nat) t)) (hg : s.heap.get? H = some (lstObj ys c)) (hk : ys[k]? = some v) (hk9 : k < 1000)
    (hdx : (x == ("__debug__" : PySem.Str)) = false := by decide) (hdy : (y == ("__debug__" : PySem.Str)) = false := by decide) : wpAny (model prog w) A (eval (.Subscript (.Name x p1) (.Name y p2) p3) env) (fun v' s' => Ks s s' ∧ v' = v) NoE s := by
  refine Subscript_ (wpAny_Name (wpAny_loadName_cell F.kind hx hcx (by have := F.cell hcx; rw [ex] at this; exact this) (wpAny_Name (wpAny_loadName_local F.kind hy F.ns ey ?_) hdy)) hdx)
  have hl : s.heap.IsList H ys.toArray := ⟨_, hg, rfl, c, rfl⟩
  exact tail_any hl.typeIs slot_list_getitem.lookup (wpAny_getItem_list (x := v) hl (by omega) (by omega) (by simpa using hk) ⟨.refl _, rfl⟩) rfl
end
end Mine
end

section
namespace Mine
variable {prog : Program} {w : World}

noncomputable def paintOf (e : Ent) : Int := 3 * (e.lv : Int) + (e.th : Int)
noncomputable def hpAt (book : List Ent) (k : Nat) (j : Nat) : List Int := ((book.take k).filter (cov · j)).map paintOf
structure GoodBook (book : List Ent) : Prop where
  len : book.length = 8
  ok : ∀ e ∈ book, e.a ≤ e.b ∧ e.b < 24 ∧ e.fine ∧ (e.lv = 1 → e.th = 0)
  apart : ∀ (k : Nat) (e : Ent), book[k]? = some e → ∀ j, cov e j = true → ∀ e' ∈ book.take k, cov e' j = true → paintOf e' ≠ paintOf e
  deep : ∀ (k : Nat) (e : Ent), book[k]? = some e → ∃ j, j < 24 ∧ e.lv ≤ (hpAt book (k + 1) j).length
  alone : ∀ (k : Nat) (e : Ent), book[k]? = some e → ∃ j, cov e j = true ∧ cntOf ((hpAt book 8 j).map (fun x => x.fdiv 3)) e.lv = 1

theorem hpAt_succ {book : List Ent} {k : Nat} {e : Ent} (h : book[k]? = some e) (j : Nat) : hpAt book (k + 1) j = hpAt book k j ++ (if cov e j then [paintOf e] else []) := by
  unfold hpAt
  rw [take_filter (cov · j) book k e h, List.map_append]
  cases cov e j <;> rfl
theorem hpAt_len_mono {book : List Ent} {k : Nat} {e : Ent} (h : book[k]? = some e) (j : Nat) : (hpAt book k j).length ≤ (hpAt book (k + 1) j).length := by
  rw [hpAt_succ h, List.length_append]; omega
theorem hpAt_len {book : List Ent} (k j : Nat) : (hpAt book k j).length ≤ k := by
  unfold hpAt
  rw [List.length_map]
  refine Nat.le_trans (List.length_filter_le _ _) ?_
  rw [List.length_take]; omega
/-- while the k-th is being laid: the first i of its hours are done -/
noncomputable def hpPart (book : List Ent) (k i : Nat) (e : Ent) (j : Nat) : List Int := hpAt book k j ++ (if e.a ≤ j ∧ j < e.a + i then [paintOf e] else [])
theorem hpPart_zero {book : List Ent} {k : Nat} {e : Ent} : hpPart book k 0 e = hpAt book k := by
  funext j
  unfold hpPart
  rw [if_neg (by omega), List.append_nil]
theorem hpPart_all {book : List Ent} {k : Nat} {e : Ent} (h : book[k]? = some e) (hab : e.a ≤ e.b) : hpPart book k (e.b + 1 - e.a) e = hpAt book (k + 1) := by
  funext j
  rw [hpAt_succ h]
  unfold hpPart cov
  by_cases h1 : e.a ≤ j <;> by_cases h2 : j ≤ e.b
  · rw [if_pos (by omega)]; simp [h1, h2]
  · rw [if_neg (by omega)]; simp [h1, h2]
  · rw [if_neg (by omega)]; simp [h1, h2]
  · rw [if_neg (by omega)]; simp [h1, h2]
theorem hpPart_succ {book : List Ent} {k i : Nat} {e : Ent} (j : Nat) : hpPart book k (i + 1) e j = if j = e.a + i then hpPart book k i e j ++ [paintOf e] else hpPart book k i e j := by
  unfold hpPart
  by_cases hj : j = e.a + i
  · rw [if_pos hj, if_pos (by omega), if_neg (by omega), List.append_nil]
  · rw [if_neg hj]
    by_cases h2 : e.a ≤ j ∧ j < e.a + i
    · rw [if_pos h2, if_pos (by omega)]
    · rw [if_neg h2, if_neg (by omega)]
theorem hpPart_len {book : List Ent} {k i : Nat} {e : Ent} (j : Nat) : (hpPart book k i e j).length ≤ k + 1 := by
  unfold hpPart
  rw [List.length_append]
  have := hpAt_len (book := book) k j
  split <;> simp <;> omega
theorem fresh_paint {book : List Ent} (Gd : GoodBook book) {k : Nat} {e : Ent} (h : book[k]? = some e) {i : Nat} (hi : e.a + i ≤ e.b) : (hpPart book k i e (e.a + i)).any (· == paintOf e) = false := by
  unfold hpPart
  rw [if_neg (by omega), List.append_nil]
  rw [List.any_eq_false]
  intro x hx
  obtain ⟨e', he', rfl⟩ := List.mem_map.mp hx
  obtain ⟨hm, hc⟩ := List.mem_filter.mp he'
  have := Gd.apart k e h (e.a + i) (by simp [cov]; omega) e' hm hc
  simpa using this

theorem nodup_sub : ∀ {l L : List Int}, l.Nodup → (∀ x ∈ l, x ∈ L) → l.length ≤ L.length
  | [], _, _, _ => Nat.zero_le _
  | x :: r, L, hn, hs => by
    have hx : x ∈ L := hs x (List.mem_cons_self ..)
    have hn' := List.nodup_cons.mp hn
    have h1 : r.length ≤ (L.erase x).length := nodup_sub hn'.2 fun y hy => by
      have hne : y ≠ x := fun e => hn'.1 (e ▸ hy)
      exact (List.mem_erase_of_ne hne).mpr (hs y (List.mem_cons_of_mem _ hy))
    have h2 := List.length_erase_of_mem hx
    have h3 : 0 < L.length := List.length_pos_of_mem hx
    rw [List.length_cons]
    omega
theorem few_paints {ps : List Int} {mo : Int} (hn : ps.Nodup) (h0 : 1 ≤ mo) (hp : ∀ x ∈ ps, ∃ e : Ent, x = paintOf e ∧ 1 ≤ e.lv ∧ (e.lv : Int) ≤ mo ∧ e.th ≤ 2 ∧ (e.lv = 1 → e.th = 0)) : (ps.length : Int) ≤ 3 * mo - 2 := by
  have := nodup_sub (L := 3 :: (List.range (3 * (mo.toNat - 1))).map fun (i : Nat) => (6 + i : Int)) hn fun x hx => by
    obtain ⟨e, rfl, h1, h2, h3, h4⟩ := hp x hx
    unfold paintOf
    by_cases hl : e.lv = 1
    · rw [hl, h4 hl]
      exact List.mem_cons_self ..
    · refine List.mem_cons_of_mem _ (List.mem_map.mpr ⟨3 * e.lv + e.th - 6, List.mem_range.mpr ?_, ?_⟩)
      · omega
      · omega
  rw [List.length_cons, List.length_map, List.length_range] at this
  omega
theorem not45 {e : Ent} (h : 1 ≤ e.lv) (h2 : e.th ≤ 2) (h3 : e.lv = 1 → e.th = 0) : [(4 : Int), 5].any (· == paintOf e) = false := by
  rw [List.any_eq_false]
  intro x hx
  unfold paintOf
  simp only [beq_iff_eq]
  rcases List.mem_cons.mp hx with rfl | hx
  · omega
  · rw [List.mem_singleton.mp hx]; omega
theorem ends_fdiv {e : Ent} (h : e.th ≤ 2) : (paintOf e).fdiv 3 = e.lv := by
  unfold paintOf
  rw [Int.fdiv_eq_ediv_of_nonneg _ (by omega)]
  omega
end Mine
end

section
namespace Mine
variable {prog : Program} {w : World}

noncomputable def seatD (e : Ent) : D := spanD (e.a, e.b)
noncomputable def seqAt (H : Addr) (ys : List Value) (st : Shared) : Prop := ∃ c, st.heap.get? H = some (lstObj ys c)
/-- the 24 lists of the hours -/
noncomputable def HS (ad : Nat → Addr) (hp : Nat → List Int) (st : Shared) : Prop := ∀ j, j < 24 → ∃ ys c, st.heap.get? (ad j) = some (lstObj ys c) ∧ Reps st.heap Tr Tr ys ((hp j).map .int)
theorem HS.sk {ad hp st st'} (h : HS ad hp st) (k : Sk st.heap st'.heap) : HS ad hp st' := fun j hj => let ⟨ys, c, a, b⟩ := h j hj; ⟨ys, c, k _ _ _ _ a, b.sk k (fun _ x => x) fun _ x => x⟩
noncomputable def Bd (mo : Int) (hp : Nat → List Int) : Prop := 0 ≤ mo ∧ mo ≤ 8 ∧ ∀ j, j < 24 → ((hp j).length : Int) ≤ mo

theorem EB.cast {A : Around} {env : Env} {hB : Heap} {e : Expr} {b c : Bool} (h : EB prog w A env hB e b) (hb : b = c) : EB prog w A env hB e c := hb ▸ h
theorem EB.or3F {A : Around} {env : Env} {hB : Heap} {x y z : Expr} {pos : Pos} (h1 : EB prog w A env hB x false) (h2 : EB prog w A env hB y false) (h3 : EB prog w A env hB z false) : EB prog w A env hB (.BoolOp .Or [x, y, z] pos) false := by
  refine ⟨fun s hk => wpAny_isTrue_BoolOp (wpAny_allTrue_Or_cons (mono' (h1.h s hk) fun r s₁ q₁ => ?_))⟩
  obtain ⟨k₁, rfl⟩ := q₁
  refine wpAny_allTrue_Or_cons (mono' (h2.h s₁ (hk.trans k₁.kp)) fun r s₂ q₂ => ?_)
  obtain ⟨k₂, rfl⟩ := q₂
  refine wpAny_allTrue_Or_cons (mono' (h3.h s₂ ((hk.trans k₁.kp).trans k₂.kp)) fun r s₃ q₃ => ?_)
  obtain ⟨k₃, rfl⟩ := q₃
  exact wpAny_allTrue_Or_nil ⟨(k₁.trans k₂).trans k₃, rfl⟩
theorem mul3 (n : Int) (h : 0 ≤ n) (h2 : n ≤ 8) : IntMulOk 3 n := by
  rcases (show n = 0 ∨ n = 1 ∨ n = 2 ∨ n = 3 ∨ n = 4 ∨ n = 5 ∨ n = 6 ∨ n = 7 ∨ n = 8 by omega) with rfl | rfl | rfl | rfl | rfl | rfl | rfl | rfl | rfl <;> mul_fits
theorem hpAt_mono {book : List Ent} {i k : Nat} (h : i ≤ k) (j : Nat) : (hpAt book i j).length ≤ (hpAt book k j).length := by
  unfold hpAt
  rw [List.length_map, List.length_map]
  have e : book.take i = (book.take k).take i := by rw [List.take_take, Nat.min_eq_left h]
  rw [e]
  exact ((List.take_sublist _ _).filter _).length_le
theorem lv_le {book : List Ent} (Gd : GoodBook book) {k : Nat} {mo : Int} (hb : Bd mo (hpAt book (k + 1))) {e : Ent} (he : e ∈ book.take (k + 1)) : (e.lv : Int) ≤ mo := by
  obtain ⟨i, hi, rfl⟩ := List.mem_iff_getElem.mp he
  have hi' : i < k + 1 := by rw [List.length_take] at hi; omega
  have hib : book[i]? = some (book.take (k + 1))[i] := by
    rw [← List.getElem?_take_of_lt hi', List.getElem?_eq_getElem hi]
  obtain ⟨j, hj, hl⟩ := Gd.deep i _ hib
  have h1 := hpAt_mono (book := book) (show i + 1 ≤ k + 1 by omega) j
  have h2 := hb.2.2 j hj
  omega
theorem EV.count {A : Around} {env : Env} {hB : Heap} {Tb : Tok → Prop} {x : PySem.Str} {np pos : Pos} {e1 e2 : Expr} {ns : List Int} {b : Int} {lo : Nat} (hA : AOk A 1) (h : Gn env hB x (.ref 63)) (W : Wd w hB) (h1 : EV prog w A env hB Nu e1 (.lst (ns.map .int))) (h2 : EV prog w A env hB Tb e2 (.int b)) (hT : ∀ t, Tb t → 0 < t ∧ t < lo) (hlo : 0 < lo) (hsm : ∀ n ∈ ns, smallInt n = true)
    (hd : (x == ("__debug__" : PySem.Str)) = false := by decide) (he : starEach [e1, e2] env = (false, eval e1 env) :: starEach [e2] env := by rfl) (he2 : starEach [e2] env = (false, eval e2 env) :: starEach [] env := by rfl) {s : Shared} (hk : Kp hB s.heap) (hs : lo ≤ s.toks) :
    wpAny (model prog w) A (eval (.Call (.Name x np) [e1, e2] [] pos) env) (Rt Nu Tr s (.int (cntOf ns b))) NoE s := by
  refine wpAny_Call_ofName (h.eval hk ?_ hd)
  have hf := W.fn 63 _ rfl rfl
  refine callWith_def rfl (wpAny_items_cons (mono' (h1.h s hk) fun va s₁ q₁ => mono' ((EVs.cons h2 EVs.nil he2).h s₁ pos (hk.trans q₁.1.kp)) fun vs s₂ q₂ => ⟨(q₁.1.trans q₂.1).kp _ _ (hk _ _ hf), ?_⟩) he) he
  obtain ⟨k₁, ra⟩ := q₁
  obtain ⟨k₂, rb⟩ := q₂
  cases rb with | cons rb rbs => ?_
  cases rbs
  cases rb with | int _ tb htb => ?_
  have l1 := k₁.le
  have l2 := k₂.le
  have hb : 0 < tb ∧ tb < s₂.toks ∧ (tb < s.toks ∨ s₁.toks ≤ tb) := by
    rcases htb with q | q
    · have := hT tb q
      exact ⟨this.1, Nat.lt_of_lt_of_le this.2 (Nat.le_trans hs (Nat.le_trans l1 l2)), .inl (Nat.lt_of_lt_of_le this.2 hs)⟩
    · exact ⟨Nat.lt_of_lt_of_le hlo (Nat.le_trans hs (Nat.le_trans l1 q.1)), q.2, .inr q.1⟩
  refine mono' (count_spec (T := fun t => s.toks ≤ t ∧ t < s₁.toks) hA W ((hk.trans k₁.kp).trans k₂.kp) (ra.kp k₂.kp tr_all fun t q => q.resolve_left fun q => q) (fun t q => ⟨Nat.ne_of_gt (Nat.lt_of_lt_of_le hlo (Nat.le_trans hs q.1)), fun q' => ?_⟩) (Nat.ne_of_gt hb.1) hb.2.1 hsm) fun v s₃ q₃ => Rt.from (k₁.trans k₂) q₃ nu_all fun _ _ => .inl trivial
  subst q'
  exact hb.2.2.elim (fun h => absurd q.1 (Nat.not_le.mpr h)) fun h => absurd h (Nat.not_le.mpr q.2)
noncomputable def fdD : D → D
  | .int x => .int (x.fdiv 3)
  | _ => .none
noncomputable def aloneD (hp : Nat → List Int) (lv : Nat) : D → Bool
  | .int h => ((cntOf ((hp h.toNat).map (fun x => x.fdiv 3)) lv : Nat) : Int) == 1
  | _ => false
theorem aloneD_at {hp : Nat → List Int} {lv j : Nat} : aloneD hp lv (.int (j : Nat)) = (((cntOf ((hp j).map (fun x => x.fdiv 3)) lv : Nat) : Int) == 1) := rfl
theorem repsInts {h h' : Heap} {P P' : Addr → Prop} {T : Tok → Prop} : ∀ {vs : List Value} {xs : List Int}, Reps h P T vs (xs.map .int) → Reps h' P' T vs (xs.map .int)
  | _, [], .nil => .nil
  | _, _ :: _, .cons (.int i t ht) rs => .cons (.int i t ht) (repsInts rs)

theorem good_spec {A : Around} {hB : Heap} {book : List Ent} (Gd : GoodBook book) (hA : AOk A 3) (W : Wd w hB) {s : Shared} (hk : Kp hB s.heap) {v1 v2 : Value} (r1 : Rep s.heap Tr Tr v1 (.lst (book.map seatD))) (r2 : Rep s.heap Tr (fun t => 0 < t ∧ t < s.toks) v2 (.lst (book.map entD))) :
    wpAny (model prog w) A (call (.ref 99) [v1, v2]) (Rt Nu Nu s (.bool true)) NoE s := by
  have Ws := W.kp hk
  refine enter [("spans", v1), ("book", v2)] hA.d ⟨_, Ws.fn 99 _ rfl rfl, rfl, ⟨98, _, _, _, rfl, Ws.fn 98 _ rfl rfl, rfl, rfl⟩⟩ Ws.lim rfl rfl rfl rfl rfl rfl rfl rfl rfl rfl fun s₁ env E F => ?_
  dsimp only at E F
  have W₁ := Ws.fs F
  have hh : (A.deeper env).handled = none := hA.hh
  have E0 := E.e0
  have hcells : ∀ n : PySem.Str, (∃ q, (cellsFrom (env.locals + 1) _ []).lookup n = some q) → ∃ q, env.cells.lookup n = some q := fun n h => by rw [E.c]; exact h
  obtain ⟨qb, hqb⟩ := hcells "book" ⟨_, rfl⟩
  obtain ⟨qh, hqh⟩ := hcells "hours" ⟨_, rfl⟩
  obtain ⟨qk, hqk⟩ := hcells "k" ⟨_, rfl⟩
  let Tb : Tok → Prop := fun t => 0 < t ∧ t < s.toks
  let Q : Addr → Prop := Hin s.heap
  have grange : ∀ {st : Shared} {Q' : Addr → Prop}, Wd w st.heap → Gn env (Bs st.heap Q') "range" (.type "range") := fun W' => W'.bs.bn0 E0 rfl rfl (Boot.«range») (by decide)
  -- hours
  refine X.assignCF (Q := Nu) (T := Nu) (fun s v => ∀ a, v = .ref a → s.heap.get? a = none) (fun _ => true) (fun _ => .lst []) F ((E.k _).trans rfl) hqh (IT.range1 hh (grange W₁) EV.int (by decide) (by decide)) (by decide) (E0.clos rfl) (by decide) rfl (by decide) rfl
    (fun d hd C hE hk' nx => ETs.nil) (fun d hd _ C hE hk' nx s hs => nilNew s) fun s₂ v F₂ b₂ sk₂ rv hD => ?_
  obtain ⟨H, hv, cH, rfl, hH, hdist⟩ := hD
  have hdist := hdist fun s v h => h
  have rlen : ((intsD 0 (24 : Int).toNat).filter (fun _ => true)).map (fun _ => D.lst []) = (List.range 24).map fun _ => D.lst [] := rfl
  rw [rlen] at rv
  have rv' : Reps s₂.heap (PN Nu s₁.heap) (TN Nu s₁ s₂) hv ((List.range 24).map fun _ => D.lst []) ∧ s₁.heap.get? H = none := by
    cases rv with | lst hp hg rr => ?_
    rw [hH] at hg
    have := Option.some.inj hg
    injection this with _ _ hdat _
    injection hdat with h1 h2
    have h3 := congrArg Array.toList h1
    simp only at h3
    subst h3
    exact ⟨rr, hp.resolve_left fun x => x⟩
  clear rv
  obtain ⟨rr, hH1⟩ := rv'
  have hlen : hv.length = 24 := by rw [rr.length]; rfl
  have hex : ∀ j, j < 24 → ∃ a, hv[j]? = some (.ref a) ∧ s₁.heap.get? a = none ∧ ∃ c, s₂.heap.get? a = some (lstObj [] c) := fun j hj => by
    obtain ⟨v, hv1, hr⟩ := rr.getD (i := j) (d := .lst []) (by simp [hj])
    cases hr with | lst hp hg hr => ?_
    cases hr
    exact ⟨_, hv1, hp.resolve_left (fun x => x), _, hg⟩
  let ad : Nat → Addr := fun j => match hv[j]? with | some (.ref a) => a | _ => 0
  have had : ∀ j, j < 24 → hv[j]? = some (.ref (ad j)) ∧ s₁.heap.get? (ad j) = none ∧ ∃ c, s₂.heap.get? (ad j) = some (lstObj [] c) := fun j hj => by
    obtain ⟨a, h1, h2, h3⟩ := hex j hj
    have e : ad j = a := by simp only [ad, h1]
    rw [e]; exact ⟨h1, h2, h3⟩
  have hinj : ∀ i j, i < j → j < 24 → ad i ≠ ad j := fun i j hij hj => by
    have hp := List.pairwise_iff_getElem.mp hdist i j (by omega) (by omega) hij
    have h1 := (had i (by omega)).1
    have h2 := (had j hj).1
    obtain ⟨_, e1⟩ := List.getElem?_eq_some_iff.mp h1
    obtain ⟨_, e2⟩ := List.getElem?_eq_some_iff.mp h2
    exact hp _ _ e1 e2
  have hHad : ∀ j, j < 24 → H ≠ ad j := fun j hj q => by
    obtain ⟨c, hc⟩ := (had j hj).2.2
    rw [← q, hH] at hc
    injection hc with hc
    injection hc with _ _ hdat _
    injection hdat with h1 _
    have := congrArg Array.size h1
    simp [hlen] at this
  have hH0 : s.heap.get? H = none := none_of_kp F.keep hH1
  have had0 : ∀ j, j < 24 → s.heap.get? (ad j) = none := fun j hj => none_of_kp F.keep (had j hj).2.1
  -- paints, most
  refine X.assignL (Q := Nu) (T := Nu) (d := .lst []) F₂ ((E.k _).trans rfl) (EV.lst EVs.nil) fun s₃ v F₃ b₃ sk₃ rv => ?_
  cases rv with | @lst pa xs _ cp hpp hgp rr => ?_
  cases rr
  have hpa2 : s₂.heap.get? pa = none := hpp.resolve_left fun h => h
  have hpa0 : s.heap.get? pa = none := none_of_kp F₂.keep hpa2
  have hpaH : pa ≠ H := fun q => by rw [q, hH] at hpa2; cases hpa2
  have hpaad : ∀ j, j < 24 → pa ≠ ad j := fun j hj q => by obtain ⟨c, hc⟩ := (had j hj).2.2; rw [q, hc] at hpa2; cases hpa2
  refine X.assignL (Q := Nu) (T := Nu) (d := .int 0) F₃ ((E.k _).trans rfl) EV.int fun s₄ v F₄ b₄ sk₄ rv => ?_
  cases rv with | int _ t₄ _ => ?_
  have W₄ := Ws.fs F₄
  let S : Addr → Prop := fun b => (∃ j, j < 24 ∧ b = ad j) ∨ b = pa
  have hSH : ¬ S H := fun h => h.elim (fun ⟨j, hj, q⟩ => hHad j hj q) fun q => hpaH q.symm
  let GS : (Nat → List Int) → Shared → Prop := fun hp st => st.heap.get? H = some (lstObj hv cH) ∧ HS ad hp st
  let PS : Nat → Shared → Prop := fun k st => ∃ (ps : List Int) (ys : List Value) (c : Nat), st.heap.get? pa = some (lstObj ys c) ∧ Reps st.heap Tr Tr ys (ps.map D.int) ∧ ps.Nodup ∧ (∀ x ∈ ps, ∃ e ∈ book.take k, x = paintOf e)
  have gs_sk : ∀ {hp : Nat → List Int} {st st' : Shared}, GS hp st → Sk st.heap st'.heap → GS hp st' := fun ⟨a, b⟩ k => ⟨k _ _ _ _ a, b.sk k⟩
  have ps_sk : ∀ {k : Nat} {st st' : Shared}, PS k st → Sk st.heap st'.heap → PS k st' := fun ⟨ps, ys, c, a, b, d⟩ k => ⟨ps, ys, c, k _ _ _ _ a, b.sk k (fun _ x => x) (fun _ x => x), d⟩
  let NV : Mp → Mp → Prop := fun m cm => m "spans" = some v1 ∧ cm "book" = some v2 ∧ cm "hours" = some (.ref H) ∧ m "paints" = some (.ref pa)
  have nspans : ∀ {m cm st}, Fs s env m cm st → m "spans" = some v1 → Nm env (Bs st.heap Q) Tr "spans" (.lst (book.map seatD)) := fun F' e => F'.nL (Q' := Hin s.heap) ⟨_, e, r1.hin.kp F'.keep (fun _ x => x) fun _ x => x⟩ ((E.k _).trans rfl) fun _ x => x
  have nbook : ∀ {m cm st}, Fs s env m cm st → cm "book" = some v2 → Nm env (Bs st.heap Q) Tb "book" (.lst (book.map entD)) := fun F' e => F'.nC (Q' := Hin s.heap) ⟨_, e, r2.hin.kp F'.keep (fun _ x => x) fun _ x => x⟩ ((E.k _).trans rfl) hqb fun _ x => x
  have nhours : ∀ {hp : Nat → List Int} {m cm st}, Fs s env m cm st → cm "hours" = some (.ref H) → GS hp st → Nm env (Bs st.heap Tr) Tr "hours" (.lst ((List.range 24).map fun j => intsL (hp j))) := fun {hp m cm st} F' e g => F'.nC (Q' := Tr) ⟨_, e, .lst (n := cH) trivial g.1 (by
    have key : ∀ n, n ≤ 24 → Reps st.heap Tr Tr (hv.take n) ((List.range n).map fun j => intsL (hp j)) := fun n => by
      induction n with
      | zero => intro _; simpa using Reps.nil
      | succ n ih =>
        intro hn
        have h1 := (had n (by omega)).1
        rw [List.take_add_one, h1, List.range_succ, List.map_append]
        refine (ih (by omega)).append (.cons ?_ .nil)
        obtain ⟨ys, c, hy, ry⟩ := g.2 n (by omega)
        exact .lst (n := c) trivial hy ry
    have := key 24 (Nat.le_refl _)
    rwa [List.take_of_length_le (by omega)] at this)⟩ ((E.k _).trans rfl) hqh tr_all
  refine X.for (Q := Nu) (T := Tr) (S := S) (ds := intsD 0 (8 : Int).toNat) (fun k m cm st => NV m cm ∧ GS (hpAt book k) st ∧ PS k st ∧ ∃ mo t, m "most" = some (.int mo t) ∧ Bd mo (hpAt book k))
    F₄ (IT.range1 hh (grange W₄) EV.int (by decide) (by decide)) ?_ ?_ ?_ ?_ ?_
  · rintro b (⟨j, hj, rfl⟩ | rfl)
    · obtain ⟨c, hc⟩ := (had j hj).2.2
      have hc4 := sk₄ _ _ _ _ (sk₃ _ _ _ _ hc)
      exact ⟨had0 j hj, ⟨_, hc4⟩, fun h => h _ _ _ hc4, fun h => h⟩
    · have hc4 := sk₄ _ _ _ _ hgp
      exact ⟨hpa0, ⟨_, hc4⟩, fun h => h _ _ _ hc4, fun h => h⟩
  · rintro i m cm st st' ⟨a, b, c, d⟩ sk _
    exact ⟨a, gs_sk b sk, ps_sk c sk, d⟩
  · refine ⟨⟨rfl, rfl, rfl, rfl⟩, ⟨sk₄ _ _ _ _ (sk₃ _ _ _ _ hH), fun j hj => ?_⟩, ⟨[], [], cp, sk₄ _ _ _ _ hgp, .nil, List.Pairwise.nil, fun _ h => by cases h⟩, 0, t₄, rfl, Int.le_refl _, by decide, fun j hj => by simp [hpAt]⟩
    obtain ⟨c, hc⟩ := (had j hj).2.2
    exact ⟨[], c, sk₄ _ _ _ _ (sk₃ _ _ _ _ hc), by simpa [hpAt] using Reps.nil⟩
  · rintro k d v m₁ cm₁ s₅ hd F₅ ⟨hnv, hg₅, hp₅, mo, t₅, hmo, hbd⟩ r₅ bt₅
    have hk8 : k < 8 := by
      have := (List.getElem?_eq_some_iff.mp hd).1
      rwa [intsD_length] at this
    rw [intsD_get (by exact hk8)] at hd
    cases hd
    rw [show (0 : Int) + (k : Nat) = (k : Nat) by omega] at r₅
    cases r₅ with | int _ tk _ => ?_
    have hek : book[k]? = some (book[k]'(by rw [Gd.len]; exact hk8)) := List.getElem?_eq_getElem _
    generalize book[k]'(by rw [Gd.len]; exact hk8) = e at hek
    obtain ⟨hab, hb24, hfine, hl1⟩ := Gd.ok e (List.mem_of_getElem? hek)
    have hlv := hfine
    unfold Ent.fine at hlv
    obtain ⟨hlv1, hlv8, hth2⟩ := hlv
    have hkD : (book.map entD)[k]? = some (.tup [.str (hourStr e.a), .str (hourStr e.b), .int e.lv, .int e.th]) := by rw [List.getElem?_map, hek]; rfl
    have hkS : (book.map seatD)[k]? = some (.tup [.int e.a, .int e.b]) := by rw [List.getElem?_map, hek]; rfl
    refine X.asgC F₅ ((E.k _).trans rfl) hqk fun s₆ F₆ b₆ => ?_
    obtain ⟨hv1, hv2, hv3, hv4⟩ := hnv
    have nk6 : Nm env (Bs s₆.heap Q) Tr "k" (.int (k : Nat)) := F₆.nC (Q' := Nu) ⟨_, rfl, .int _ _ trivial⟩ ((E.k _).trans rfl) hqk nu_all
    refine X.assignL (Q := Q) (T := Tr) (d := .int e.lv) F₆ ((E.k _).trans rfl) (EV.item2 (k := k) (i := 2) ((nbook F₆ hv2).weak tr_all) nk6 hkD rfl (by omega) (by decide)) fun s₇ v F₇ b₇ sk₇ rv => ?_
    cases rv with | int _ tl _ => ?_
    refine X.assignL (Q := Q) (T := Tr) (d := .int (paintOf e)) F₇ ((E.k _).trans rfl) (EV.binop (EV.binop EV.int (EV.name (F₇.nL (Q' := Nu) ⟨_, rfl, .int _ _ trivial⟩ ((E.k _).trans rfl) nu_all)) (BinN.mulI (mul3 _ (by omega) (by omega))))
      (EV.item2 (k := k) (i := 3) ((nbook F₇ hv2).weak tr_all) (F₇.nC (Q' := Nu) ⟨_, rfl, .int _ _ trivial⟩ ((E.k _).trans rfl) hqk nu_all) hkD rfl (by omega) (by decide)) BinN.addI) fun s₈ v F₈ b₈ sk₈ rv => ?_
    cases rv with | int _ tp _ => ?_
    have W₈ := Ws.fs F₈
    have sk58 : Sk s₅.heap s₈.heap := ((b₆.sk F₅).trans sk₇).trans sk₈
    have bt58 : Bt (fun b => Fp env b ∨ S b) s₅ s₈ := ((b₆.trans b₇).trans b₈).weak fun _ x => .inl x
    have hg₈ := gs_sk hg₅ sk58
    have hp₈ := ps_sk hp₅ sk58
    have nk8 : Nm env (Bs s₈.heap Q) Tr "k" (.int (k : Nat)) := F₈.nC (Q' := Nu) ⟨_, rfl, .int _ _ trivial⟩ ((E.k _).trans rfl) hqk nu_all
    rw [← hpPart_zero (e := e)] at hg₈ hbd
    refine X.for (Q := Q) (T := Tr) (S := S) (ds := intsD (e.a : Int) (((e.b : Int) + 1) - (e.a : Int)).toNat) (fun i m cm st => NV m cm ∧ cm "k" = some (.int (k : Nat) tk) ∧ m "level" = some (.int e.lv tl) ∧ m "paint" = some (.int (paintOf e) tp) ∧ GS (hpPart book k i e) st ∧ PS k st ∧ ∃ mo t, m "most" = some (.int mo t) ∧ Bd mo (hpPart book k i e))
      F₈ (IT.range2 hh (grange W₈) (EV.item2 (k := k) (i := 0) (nspans F₈ hv1) nk8 hkS rfl (by omega) (by decide)) (EV.binop (EV.item2 (k := k) (i := 1) (nspans F₈ hv1) nk8 hkS rfl (by omega) (by decide)) EV.int BinN.addI) (by omega) (by omega) (by omega) (by omega)) ?_ ?_ ?_ ?_ ?_
    · rintro b (⟨j, hj, rfl⟩ | rfl)
      · obtain ⟨ys, c, hc, _⟩ := hg₈.2 j hj
        exact ⟨had0 j hj, ⟨_, hc⟩, fun h => h _ _ _ hc, fun ⟨o, q⟩ => by rw [had0 j hj] at q; cases q⟩
      · obtain ⟨ps, ys, c, hc, _⟩ := hp₈
        exact ⟨hpa0, ⟨_, hc⟩, fun h => h _ _ _ hc, fun ⟨o, q⟩ => by rw [hpa0] at q; cases q⟩
    · rintro i m cm st st' ⟨a, b, b2, b3, c, d, f⟩ sk _
      exact ⟨a, b, b2, b3, gs_sk c sk, ps_sk d sk, f⟩
    · exact ⟨⟨hv1, hv2, hv3, hv4⟩, rfl, rfl, rfl, hg₈, hp₈, mo, t₅, hmo, hbd⟩
    · rintro i d v m₂ cm₂ s₉ hd F₉ ⟨hnv, ck, ml, mp, hg₉, hp₉, mo, tm, hmo, hbd⟩ r₉ bt₉
      have hi : i < (((e.b : Int) + 1) - (e.a : Int)).toNat := by
        have := (List.getElem?_eq_some_iff.mp hd).1
        rwa [intsD_length] at this
      have hib : e.a + i ≤ e.b := by omega
      rw [intsD_get hi] at hd
      cases hd
      rw [show ((e.a : Nat) : Int) + (i : Nat) = ((e.a + i : Nat) : Int) by omega] at r₉
      cases r₉ with | int _ th _ => ?_
      generalize hj : e.a + i = j at hib
      have hj24 : j < 24 := by omega
      obtain ⟨hv1, hv2, hv3, hv4⟩ := hnv
      refine X.asgL F₉ ((E.k _).trans rfl) fun s₁₀ F₁₀ b₁₀ => ?_
      have hg₁₀ := gs_sk hg₉ (b₁₀.sk F₉)
      have hp₁₀ := ps_sk hp₉ (b₁₀.sk F₉)
      have nhalf : ∀ {m cm st}, Fs s env (upd m "half" (.int (j : Nat) th)) cm st → Nm env (Bs st.heap Tr) Tr "half" (.int (j : Nat)) := fun F' => F'.nL (Q' := Nu) ⟨_, rfl, .int _ _ trivial⟩ ((E.k _).trans rfl) nu_all
      have hpj : ∀ hp : Nat → List Int, ((List.range 24).map fun j => intsL (hp j))[((j : Nat) : Int).toNat]? = some (.lst ((hp j).map .int)) := fun hp => by rw [Int.toNat_natCast, List.getElem?_map, List.getElem?_range hj24]; rfl
      refine X.ifF (Q := Tr) F₁₀ (EB.cast (EB.cmp (EV.name (F₁₀.nL (Q' := Nu) ⟨_, mp, .int _ _ trivial⟩ ((E.k _).trans rfl) nu_all)) (EV.item (.inl (EV.name (nhours F₁₀ hv3 hg₁₀))) (EV.name (nhalf F₁₀)) (by omega) (by omega) (hpj _)) CmpR.inL) (hj ▸ fresh_paint Gd hek (hj ▸ hib))) fun s₁₁ F₁₁ k₁₁ => ?_
      have hg₁₁ := gs_sk hg₁₀ k₁₁.kp.sk
      have hp₁₁ := ps_sk hp₁₀ k₁₁.kp.sk
      obtain ⟨ysj, cj, hyj, ryj⟩ := hg₁₁.2 j hj24
      have hlj := ryj.length
      have hlp := hpPart_len (book := book) (k := k) (i := i) (e := e) j
      refine X.append (Q := Nu) (T := Tr) (d := .int (paintOf e)) F₁₁ (evalAt F₁₁ ((E.k _).trans rfl) hqh hv3 ((E.k _).trans rfl) rfl hg₁₁.1 (had j hj24).1 (by omega)) hyj (had0 j hj24) (fun h => h) ?_ (EV.name (F₁₁.nL (Q' := Nu) ⟨_, mp, .int _ _ trivial⟩ ((E.k _).trans rfl) nu_all)) (fun s₁₂ y c₁₂ F₁₂ b₁₂ hy₁₂ ry₁₂ => ?_) (hi := E.inter)
      · rw [hlj, List.length_map]; omega
      have hg₁₂ : GS (hpPart book k (i + 1) e) s₁₂ := by
        refine ⟨b₁₂.keep _ _ (hHad j hj24) hg₁₁.1, fun j' hj' => ?_⟩
        rw [hpPart_succ, hj]
        by_cases hjj : j' = j
        · rw [if_pos hjj, hjj, List.map_append]
          exact ⟨_, c₁₂, hy₁₂, (repsInts ryj).append (.cons (by cases ry₁₂ with | int _ t _ => exact .int _ _ trivial) .nil)⟩
        · rw [if_neg hjj]
          obtain ⟨ys', c', hy', ry'⟩ := hg₁₁.2 j' hj'
          refine ⟨ys', c', b₁₂.keep _ _ (fun q => ?_) hy', repsInts ry'⟩
          rcases Nat.lt_or_ge j' j with h | h
          · exact hinj j' j h hj24 q
          · exact hinj j j' (by omega) hj' q.symm
      have hp₁₂ : PS k s₁₂ := by
        obtain ⟨ps, ys, c, hy, ry, rest⟩ := hp₁₁
        exact ⟨ps, ys, c, b₁₂.keep _ _ (hpaad j hj24) hy, repsInts ry, rest⟩
      have W₁₂ := Ws.fs F₁₂
      have nmost : Nm env (Bs s₁₂.heap Tr) Tr "most" (.int mo) := F₁₂.nL (Q' := Nu) ⟨_, hmo, .int _ _ trivial⟩ ((E.k _).trans rfl) nu_all
      have hlp' := hpPart_len (book := book) (k := k) (i := i + 1) (e := e) j
      refine X.assignL (Q := Tr) (T := Tr) F₁₂ ((E.k _).trans rfl) (EV.callb (W₁₂.bs.bn0 E0 rfl rfl (Boot.«max») (by decide)) (EVs.cons (EV.name nmost) (EVs.cons (EV.callb (W₁₂.bs.bn0 E0 rfl rfl (Boot.«len») (by decide)) (EVs.cons (EV.item (.inl (EV.name (nhours F₁₂ hv3 hg₁₂))) (EV.name (nhalf F₁₂)) (by omega) (by omega) (hpj _)) EVs.nil) (callLen (by rw [List.length_map]; omega))) EVs.nil)) (callMaxI hh)) fun s₁₃ v F₁₃ b₁₃ sk₁₃ rv => EX.nil ?_
      cases rv with | int _ t₁₃ _ => ?_
      refine ⟨_, _, F₁₃, ⟨⟨hv1, hv2, hv3, hv4⟩, ck, ml, mp, gs_sk hg₁₂ sk₁₃, ps_sk hp₁₂ sk₁₃, _, t₁₃, rfl, ?_⟩, ?_⟩
      · obtain ⟨hb1, hb2, hb3⟩ := hbd
        rw [List.length_map]
        refine ⟨by split <;> omega, by split <;> omega, fun j' hj' => ?_⟩
        by_cases hjj : j' = j
        · rw [hjj]; split <;> omega
        · have := hb3 j' hj'
          rw [hpPart_succ, hj, if_neg hjj]
          split <;> omega
      · exact (((b₁₀.trans k₁₁.bt).weak fun _ x => .inl x).trans (b₁₂.weak fun _ x => .inr (.inl ⟨j, hj24, x⟩))).trans (b₁₃.weak fun _ x => .inl x)
    · rintro m₂ cm₂ s₉ F₉ ⟨hnv, ck, ml, mp, hg₉, hp₉, mo, tm, hmo, hbd⟩ bt₉
      rw [intsD_length, show (((e.b : Int) + 1) - (e.a : Int)).toNat = e.b + 1 - e.a by omega, hpPart_all hek hab] at hg₉ hbd
      obtain ⟨hv1, hv2, hv3, hv4⟩ := hnv
      have W₉ := Ws.fs F₉
      obtain ⟨ps, yps, cps, hyp, ryp, hnd, hmem⟩ := hp₉
      have npaint : ∀ {st}, Fs s env m₂ cm₂ st → Nm env (Bs st.heap Tr) Tr "paint" (.int (paintOf e)) := fun F' => F'.nL (Q' := Nu) ⟨_, mp, .int _ _ trivial⟩ ((E.k _).trans rfl) nu_all
      have npaints : Nm env (Bs s₉.heap Tr) Tr "paints" (.lst (ps.map .int)) := F₉.nL (Q' := Tr) ⟨_, hv4, .lst (n := cps) trivial hyp ryp⟩ ((E.k _).trans rfl) tr_all
      have hpl : ps.length ≤ 24 := by
        have h1 := hfine
        have := nodup_sub (L := (List.range 24).map fun (i : Nat) => ((3 + i : Nat) : Int)) hnd fun x hx => by
          obtain ⟨e', he', rfl⟩ := hmem x hx
          have h2 := (Gd.ok e' (List.mem_of_mem_take he')).2.2.1
          unfold Ent.fine at h2
          refine List.mem_map.mpr ⟨3 * e'.lv + e'.th - 3, List.mem_range.mpr (by omega), ?_⟩
          unfold paintOf
          omega
        simpa using this
      refine X.ifJ (Q := Tr) (b := !(ps.any (· == paintOf e))) (fun m cm m' cm' st => m' = m ∧ cm' = cm ∧ GS (hpAt book (k + 1)) st ∧ PS (k + 1) st ∧ Bt (fun b => Fp env b ∨ S b) s₉ st) F₉
        (EB.not (EB.val (EV.callf (W₉.bs.gn0 E0 rfl rfl) ⟨_, _, W₉.bs.fn 56 _ rfl rfl, rfl⟩ (EVs.cons (EV.name npaints) (EVs.cons (EV.name (npaint F₉)) EVs.nil)) (contains_spec hA.deeper.down W₉.bs)))) (fun hbt s₁₀ F₁₀ k₁₀ => ?_) (fun hbf s₁₀ F₁₀ k₁₀ => EX.nil ?_) fun m' cm' s₁₀ F₁₀ hJ => ?_
      · have hany : ps.any (· == paintOf e) = false := by simpa using hbt
        have hyp' := k₁₀.kp _ _ hyp
        have hypl := ryp.length
        refine X.append (Q := Nu) (T := Tr) (d := .int (paintOf e)) F₁₀ (F₁₀.evalL ((E.k _).trans rfl) hv4) hyp' hpa0 (fun h => h) ?_ (EV.name (F₁₀.nL (Q' := Nu) ⟨_, mp, .int _ _ trivial⟩ ((E.k _).trans rfl) nu_all)) (fun s₁₁ y c₁₁ F₁₁ b₁₁ hy₁₁ ry₁₁ => EX.nil ⟨rfl, _, _, F₁₁, rfl, rfl, ?_, ?_, ?_⟩) (hi := E.inter)
        · rw [hypl, List.length_map]; omega
        · have hg₁₀ := gs_sk hg₉ k₁₀.kp.sk
          refine ⟨b₁₁.keep _ _ (fun q => hpaH q.symm) hg₁₀.1, fun j' hj' => ?_⟩
          obtain ⟨ys', c', hy', ry'⟩ := hg₁₀.2 j' hj'
          exact ⟨ys', c', b₁₁.keep _ _ (fun q => hpaad j' hj' q.symm) hy', repsInts ry'⟩
        · refine ⟨ps ++ [paintOf e], _, c₁₁, hy₁₁, ?_, ?_, ?_⟩
          · rw [List.map_append]
            exact (repsInts ryp).append (.cons (by cases ry₁₁ with | int _ t _ => exact .int _ _ trivial) .nil)
          · refine List.nodup_append.mpr ⟨hnd, List.pairwise_singleton _ _, fun x hx y hy q => ?_⟩
            rw [List.mem_singleton.mp hy] at q
            have := List.any_eq_false.mp hany x hx
            rw [q] at this
            simp at this
          · intro x hx
            rcases List.mem_append.mp hx with hx | hx
            · obtain ⟨e', he', q⟩ := hmem x hx
              refine ⟨e', ?_, q⟩
              rw [List.take_add_one]
              exact List.mem_append_left _ he'
            · refine ⟨e, ?_, List.mem_singleton.mp hx⟩
              rw [List.take_add_one, hek]
              exact List.mem_append_right _ (List.mem_singleton.mpr rfl)
        · exact k₁₀.bt.trans (b₁₁.weak fun _ x => .inr (.inr x))
      · refine ⟨rfl, _, _, F₁₀, rfl, rfl, gs_sk hg₉ k₁₀.kp.sk, ⟨ps, yps, cps, k₁₀.kp _ _ hyp, ryp.kp k₁₀.kp (fun _ x => x) (fun _ x => x), hnd, fun x hx => ?_⟩, k₁₀.bt⟩
        obtain ⟨e', he', q⟩ := hmem x hx
        refine ⟨e', ?_, q⟩
        rw [List.take_add_one]
        exact List.mem_append_left _ he'
      · obtain ⟨rfl, rfl, hg₁₀, ⟨ps', yps', cps', hyp', ryp', hnd', hmem'⟩, bt₁₀⟩ := hJ
        have W₁₀ := Ws.fs F₁₀
        have hlvmo : (e.lv : Int) ≤ mo := lv_le Gd hbd (by rw [List.take_add_one, hek]; exact List.mem_append_right _ (List.mem_singleton.mpr rfl))
        have hfew := few_paints hnd' (mo := mo) (by omega) fun x hx => by
          obtain ⟨e', he', q⟩ := hmem' x hx
          have h2 := Gd.ok e' (List.mem_of_mem_take he')
          have h3 := h2.2.2.1
          unfold Ent.fine at h3
          exact ⟨e', q, h3.1, lv_le Gd hbd he', h3.2.2, h2.2.2.2⟩
        obtain ⟨hmo0, hmo8, _⟩ := id hbd
        have nmost : Nm env (Bs s₁₀.heap Tr) Tr "most" (.int mo) := F₁₀.nL (Q' := Nu) ⟨_, hmo, .int _ _ trivial⟩ ((E.k _).trans rfl) nu_all
        have nlev : Nm env (Bs s₁₀.heap Tr) Tr "level" (.int e.lv) := F₁₀.nL (Q' := Nu) ⟨_, ml, .int _ _ trivial⟩ ((E.k _).trans rfl) nu_all
        have npaints : Nm env (Bs s₁₀.heap Tr) Tr "paints" (.lst (ps'.map .int)) := F₁₀.nL (Q' := Tr) ⟨_, hv4, .lst (n := cps') trivial hyp' ryp'⟩ ((E.k _).trans rfl) tr_all
        refine X.ifF (Q := Tr) F₁₀ (EB.or3F (EB.cast (EB.cmp (EV.name nlev) (EV.name nmost) CmpR.gtI) (decide_eq_false (by omega)))
          (EB.cast (EB.cmp (EV.callb (W₁₀.bs.bn0 E0 rfl rfl (Boot.«len») (by decide)) (EVs.cons (EV.name npaints) EVs.nil) (callLen (by rw [List.length_map]; omega))) (EV.binop (EV.binop EV.int (EV.name nmost) (BinN.mulI (mul3 _ hmo0 hmo8))) EV.int BinN.subI) CmpR.gtI) (decide_eq_false (by rw [List.length_map]; omega)))
          (EB.cast (EB.cmp (EV.name (npaint F₁₀)) (EV.tup (EVs.cons EV.int (EVs.cons EV.int EVs.nil))) (CmpR.inT (ns := [4, 5]))) (not45 hlv1 hth2 hl1))) fun s₁₁ F₁₁ k₁₁ => EX.nil ⟨_, _, F₁₁, ⟨⟨hv1, hv2, hv3, hv4⟩, gs_sk hg₁₀ k₁₁.kp.sk, ⟨ps', yps', cps', k₁₁.kp _ _ hyp', ryp'.kp k₁₁.kp (fun _ x => x) (fun _ x => x), hnd', hmem'⟩, mo, tm, hmo, hbd⟩, ?_⟩
        exact ((bt58.trans bt₉).trans bt₁₀).trans k₁₁.bt
  · rintro m₁ cm₁ s₅ F₅ ⟨hnv, hg₅, _, _⟩ _
    rw [intsD_length, show (8 : Int).toNat = 8 from rfl] at hg₅
    obtain ⟨hv1, hv2, hv3, _⟩ := hnv
    have W₅ := Ws.fs F₅
    refine X.for (Q := Nu) (T := Tr) (S := fun _ => False) (ds := intsD 0 (8 : Int).toNat) (fun k m cm st => (m "spans" = some v1 ∧ cm "book" = some v2 ∧ cm "hours" = some (.ref H)) ∧ GS (hpAt book 8) st)
      F₅ (IT.range1 hh (grange W₅) EV.int (by decide) (by decide)) (fun _ h => h.elim) (fun i m cm st st' ⟨a, b⟩ sk _ => ⟨a, gs_sk b sk⟩) ⟨⟨hv1, hv2, hv3⟩, hg₅⟩ ?_ ?_
    · rintro k d v m₂ cm₂ s₆ hd F₆ ⟨⟨hv1, hv2, hv3⟩, hg₆⟩ r₆ bt₆
      have hk8 : k < 8 := by
        have := (List.getElem?_eq_some_iff.mp hd).1
        rwa [intsD_length] at this
      rw [intsD_get (by exact hk8)] at hd
      cases hd
      rw [show (0 : Int) + (k : Nat) = (k : Nat) by omega] at r₆
      cases r₆ with | int _ tk _ => ?_
      have hek : book[k]? = some (book[k]'(by rw [Gd.len]; exact hk8)) := List.getElem?_eq_getElem _
      generalize book[k]'(by rw [Gd.len]; exact hk8) = e at hek
      obtain ⟨hab, hb24, hfine, hl1⟩ := Gd.ok e (List.mem_of_getElem? hek)
      have hkD : (book.map entD)[k]? = some (.tup [.str (hourStr e.a), .str (hourStr e.b), .int e.lv, .int e.th]) := by rw [List.getElem?_map, hek]; rfl
      have hkS : (book.map seatD)[k]? = some (.tup [.int e.a, .int e.b]) := by rw [List.getElem?_map, hek]; rfl
      refine X.asgC F₆ ((E.k _).trans rfl) hqk fun s₇ F₇ b₇ => ?_
      have W₇ := Ws.fs F₇
      have hg₇ := gs_sk hg₆ (b₇.sk F₆)
      have nk7 : Nm env (Bs s₇.heap Tr) Tr "k" (.int (k : Nat)) := F₇.nC (Q' := Nu) ⟨_, rfl, .int _ _ trivial⟩ ((E.k _).trans rfl) hqk nu_all
      have nsp7 : Nm env (Bs s₇.heap Tr) Tr "spans" (.lst (book.map seatD)) := F₇.nL (Q' := Hin s.heap) ⟨_, hv1, r1.hin.kp F₇.keep (fun _ x => x) fun _ x => x⟩ ((E.k _).trans rfl) tr_all
      have nbk7 : Nm env (Bs s₇.heap Tr) Tb "book" (.lst (book.map entD)) := F₇.nC (Q' := Hin s.heap) ⟨_, hv2, r2.hin.kp F₇.keep (fun _ x => x) fun _ x => x⟩ ((E.k _).trans rfl) hqb tr_all
      have nhr7 := nhours F₇ hv3 hg₇
      have hspos : 0 < s.toks := by
        have h1 := r2
        cases h1 with | lst _ _ rr => ?_
        obtain ⟨v, _, hr⟩ := rr.getD hkD
        cases hr with | tup _ _ rs => ?_
        obtain ⟨v, _, hr⟩ := rs.getD (i := 2) rfl
        cases hr with | int _ t ht => ?_
        exact Nat.lt_of_le_of_lt (Nat.zero_le _) ht.2
      refine X.assignComp (Q := Tr) (T := Tr) (ds := intsD (e.a : Int) (((e.b : Int) + 1) - (e.a : Int)).toNat) (aloneD (hpAt book 8) e.lv) id F₇ ((E.k _).trans rfl)
        (IT.range2 hh (grange W₇) (EV.item2 (k := k) (i := 0) nsp7 nk7 hkS rfl (by omega) (by decide)) (EV.binop (EV.item2 (k := k) (i := 1) nsp7 nk7 hkS rfl (by omega) (by decide)) EV.int BinN.addI) (by omega) (by omega) (by omega) (by omega)) ?_ (E0.clos rfl) (by decide) rfl (by decide) rfl
        (fun d hd C hE hk' nx => ?_) (fun d hd _ C hE hk' nx => EV.name nx) (fun s₈ v F₈ b₈ sk₈ rv => ?_) ?_
      · rw [intsD_length]; omega
      · obtain ⟨i, hi, rfl⟩ := List.mem_map.mp hd
        have hi' : i < (((e.b : Int) + 1) - (e.a : Int)).toNat := List.mem_range.mp hi
        rw [show ((e.a : Nat) : Int) + (i : Nat) = ((e.a + i : Nat) : Int) by omega] at nx ⊢
        have hjb : e.a + i < 24 := by omega
        generalize e.a + i = j at nx hjb
        have We := (W₇.bs (Q := Tr)).kp hk'
        have E1 := E0.ofNm nx rfl
        have hpj : ((List.range 24).map fun j => intsL (hpAt book 8 j))[((j : Nat) : Int).toNat]? = some (.lst ((hpAt book 8 j).map .int)) := by rw [Int.toNat_natCast, List.getElem?_map, List.getElem?_range hjb]; rfl
        have hlj := hpAt_len (book := book) 8 j
        have hcast : D.lst ((((hpAt book 8 j).map D.int).filter (fun _ => true)).map fdD) = .lst (((hpAt book 8 j).map (fun x => x.fdiv 3)).map .int) := by
          rw [List.filter_eq_self.mpr (fun _ _ => rfl), List.map_map, List.map_map]
          rfl
        have hsm : ∀ n ∈ (hpAt book 8 j).map (fun x => x.fdiv 3), smallInt n = true := fun n hn => by
          obtain ⟨x, hx, rfl⟩ := List.mem_map.mp hn
          obtain ⟨e', he', rfl⟩ := List.mem_map.mp hx
          have h2 := (Gd.ok e' (List.mem_of_mem_take (List.mem_filter.mp he').1)).2.2.1
          unfold Ent.fine at h2
          rw [ends_fdiv h2.2.2]
          simp [smallInt]
          omega
        refine ⟨fun st hk2 hlo => wpAny_tests_one (wpAny_isTrue_Compare1 (mono' (EV.count (lo := s₇.toks) (Tb := Tb) (ns := (hpAt book 8 j).map (fun x => x.fdiv 3)) (b := e.lv) hA.deeper.down (We.gn0 E1 rfl rfl) We
          (EV.cast (EV.comp (fun _ => true) fdD (IT.lst hh (EV.item (.inl (EV.name (E0.free rfl nhr7 hk' rfl rfl rfl))) (EV.name nx) (by omega) (by omega) hpj)) (by rw [List.length_map]; omega) (E1.clos rfl) (by decide) rfl (by decide) rfl (fun _ _ _ _ _ _ => ETs.nil) fun d hd _ C2 hE2 hk3 nx2 => ?_) hcast)
          (EV.item2 (k := k) (i := 2) (E0.free rfl nbk7 hk' rfl rfl rfl) (E0.free rfl nk7 hk' rfl rfl rfl) hkD rfl (by omega) (by decide))
          (fun t h => ⟨h.1, Nat.lt_of_lt_of_le h.2 F₇.le⟩) (Nat.lt_of_lt_of_le hspos F₇.le) hsm (hk := hk2) (hs := hlo)) fun va s₁ h₁ => mono' ((EV.int : EV prog w (A.deeper env) _ _ Tr _ (.int 1)).h s₁ (hk2.trans h₁.1.kp)) fun vb s₂ h₂ => ?_) rfl)⟩
        · obtain ⟨x, _, rfl⟩ := List.mem_map.mp hd
          exact EV.binop (EV.name nx2) EV.int (BinN.fdivI (by decide) (by decide))
        · refine mono' (CmpR.eqI s₂ va vb (h₁.2.kp h₂.1.kp tr_all tr_all) (h₂.2.kp (Kp.refl _) tr_all tr_all)) fun v s₃ h₃ => ?_
          obtain ⟨k₃, rfl⟩ := h₃
          refine wpAny_truthy_bool ⟨(h₁.1.trans h₂.1).trans k₃, ?_⟩
          exact aloneD_at.symm
      · obtain ⟨j, hcov, hcnt⟩ := Gd.alone k e hek
        have hmem : D.int (j : Nat) ∈ (intsD (e.a : Int) (((e.b : Int) + 1) - (e.a : Int)).toNat).filter (aloneD (hpAt book 8) e.lv) := by
          simp only [cov, Bool.and_eq_true, decide_eq_true_eq] at hcov
          refine List.mem_filter.mpr ⟨List.mem_map.mpr ⟨j - e.a, List.mem_range.mpr (by omega), by congr 1; omega⟩, ?_⟩
          rw [aloneD_at, hcnt]
          rfl
        have nal : ∀ {l : List D}, ((intsD (e.a : Int) (((e.b : Int) + 1) - (e.a : Int)).toNat).filter (aloneD (hpAt book 8) e.lv)).map id = l → Nm env (Bs s₈.heap Tr) Tr "alone" (.lst l) := fun {l} q => F₈.nL (Q' := Tr) ⟨_, rfl, q ▸ rv.kp (Kp.refl _) tr_all tr_all⟩ ((E.k _).trans rfl) tr_all
        cases hl : ((intsD (e.a : Int) (((e.b : Int) + 1) - (e.a : Int)).toNat).filter (aloneD (hpAt book 8) e.lv)).map id with
        | nil => rw [List.map_id] at hl; rw [hl] at hmem; cases hmem
        | cons d0 rest =>
          have hu : (A.deeper env).units < cLine := by have := hA.deeper (env := env) |>.units; omega
          refine X.ifF (Q := Tr) F₈ (EB.cmp (EV.name (nal hl)) (EV.lst EVs.nil) (CmpR.eqNil hu)) fun s₉ F₉ k₉ => EX.nil ⟨_, _, F₉, ⟨⟨hv1, hv2, hv3⟩, gs_sk hg₇ (sk₈.trans k₉.kp.sk)⟩, ?_⟩
          exact ((b₇.trans b₈).trans k₉.bt).weak fun _ x => .inl x
      · show (pure (env.blockKind == .function && env.kindOf "alone" == some .local && _ && _) : Sem Bool) = pure true
        have hbk : env.blockKind = .function := by unfold Env.blockKind; rw [E.kind]; rfl
        rw [E.k, hbk]
        rfl
    · rintro m₂ cm₂ s₆ F₆ _ _
      exact X.retN F₆ EV.bool
end Mine
end

section
namespace Mine

noncomputable def Cn (laid : List Ent) (h l : Nat) : Nat := (laid.filter (fun e => cov e h && decide (e.lv ≤ l))).length
theorem cntLe_eq (laid : List Ent) (h l : Nat) : cntLe (rowAt laid h) l = (Cn laid h l : Nat) := by
  unfold cntLe rowAt Cn
  rw [List.filter_map, List.length_map, List.filter_filter]
  congr 2
  apply List.filter_congr
  intro e _
  simp [Bool.and_comm]
theorem Cn_append (x y : List Ent) (h l : Nat) : Cn (x ++ y) h l = Cn x h l + Cn y h l := by unfold Cn; rw [List.filter_append, List.length_append]
theorem Cn_mono_l (laid : List Ent) (h : Nat) {l l' : Nat} (hl : l ≤ l') : Cn laid h l ≤ Cn laid h l' := by
  induction laid with
  | nil => exact Nat.le_refl _
  | cons e r ih =>
    rw [show e :: r = [e] ++ r from rfl, Cn_append, Cn_append]
    have : Cn [e] h l ≤ Cn [e] h l' := by
      unfold Cn
      by_cases h1 : cov e h = true <;> by_cases h2 : e.lv ≤ l <;> by_cases h3 : e.lv ≤ l' <;> simp [h1, h2, h3]
      omega
    omega
theorem Cn_one {e : Ent} {h l : Nat} (hc : cov e h = true) (hl : e.lv ≤ l) : Cn [e] h l = 1 := by unfold Cn; simp [hc, hl]
theorem Cn_none {e : Ent} {h l : Nat} (hl : l < e.lv) : Cn [e] h l = 0 := by unfold Cn; simp; intro _; omega
theorem Cn_lt {laid : List Ent} {e : Ent} {h : Nat} (he : e ∈ laid) (hc : cov e h = true) (hl : 1 ≤ e.lv) : Cn laid h (e.lv - 1) + 1 ≤ Cn laid h e.lv := by
  obtain ⟨x, y, rfl⟩ := List.append_of_mem he
  rw [show e :: y = [e] ++ y from rfl, Cn_append, Cn_append, Cn_append, Cn_append, Cn_one hc (Nat.le_refl _), Cn_none (e := e) (by omega : e.lv - 1 < e.lv)]
  have h1 := Cn_mono_l x h (show e.lv - 1 ≤ e.lv by omega)
  have h2 := Cn_mono_l y h (show e.lv - 1 ≤ e.lv by omega)
  omega

theorem top_ge {rows : List (List Int)} {l : Nat} {row : List Int} (h : row ∈ rows) : cntLe row l ≤ topOf rows l := maxOf_ge (List.mem_map.mpr ⟨row, h, rfl⟩)
theorem top_mem {rows : List (List Int)} {l : Nat} (h : rows ≠ []) : ∃ row ∈ rows, topOf rows l = cntLe row l := by
  obtain ⟨row, h1, h2⟩ := List.mem_map.mp (maxOf_mem (ns := rows.map (cntLe · l)) (by simpa using h))
  exact ⟨row, h1, h2.symm⟩

theorem levelFrom_is (rows : List (List Int)) : ∀ k l, l ≤ levelFrom rows k l ∧ levelFrom rows k l ≤ l + k ∧ (levelFrom rows k l < l + k → topOf rows (levelFrom rows k l) < (levelFrom rows k l : Nat)) ∧ ∀ r, l ≤ r → r < levelFrom rows k l → (r : Int) ≤ topOf rows r
  | 0, l => ⟨Nat.le_refl _, Nat.le_refl _, fun h => absurd h (by show ¬ l < l + 0; omega), fun r h1 h2 => absurd h2 (by show ¬ r < l; omega)⟩
  | k + 1, l => by
    have ih := levelFrom_is rows k (l + 1)
    by_cases hc : (l : Int) ≤ topOf rows l
    · have e : levelFrom rows (k + 1) l = levelFrom rows k (l + 1) := by show (if _ then _ else _) = _; rw [if_pos hc]
      rw [e]
      obtain ⟨h1, h2, h3, h4⟩ := ih
      refine ⟨by omega, by omega, fun h => h3 (by omega), fun r hr hr' => ?_⟩
      by_cases hrl : r = l
      · rw [hrl]; exact hc
      · exact h4 r (by omega) hr'
    · have e : levelFrom rows (k + 1) l = l := by show (if _ then _ else _) = _; rw [if_neg hc]
      rw [e]
      exact ⟨Nat.le_refl _, by omega, fun _ => by omega, fun r h1 h2 => absurd h2 (by omega)⟩

theorem Cn_le (laid : List Ent) (h l : Nat) : Cn laid h l ≤ laid.length := List.length_filter_le _ _
theorem level_facts {a b : Nat} {laid : List Ent} (hab : a ≤ b) : 1 ≤ levelOf a b laid ∧ levelOf a b laid ≤ laid.length + 1 ∧
    (∀ h ∈ hoursOf a laid, a ≤ h → h ≤ b → Cn laid h (levelOf a b laid) < levelOf a b laid) ∧
    (∃ h ∈ hoursOf a laid, a ≤ h ∧ h ≤ b ∧ levelOf a b laid - 1 ≤ Cn laid h (levelOf a b laid - 1)) := by
  have hne : rowsOf a b laid ≠ [] := by unfold rowsOf hoursOf; simp [hab]
  have hrow : ∀ {row}, row ∈ rowsOf a b laid → ∃ h ∈ hoursOf a laid, a ≤ h ∧ h ≤ b ∧ row = rowAt laid h := fun hr => by
    obtain ⟨h, hh, rfl⟩ := List.mem_map.mp hr
    obtain ⟨h1, h2⟩ := List.mem_filter.mp hh
    simp only [Bool.and_eq_true, decide_eq_true_eq] at h2
    exact ⟨h, h1, h2.1, h2.2, rfl⟩
  have htop : ∀ l, topOf (rowsOf a b laid) l ≤ (laid.length : Nat) := fun l => by
    obtain ⟨row, h1, h2⟩ := top_mem (l := l) hne
    obtain ⟨h, _, _, _, rfl⟩ := hrow h1
    rw [h2, cntLe_eq]
    exact Int.ofNat_le.mpr (Cn_le _ _ _)
  obtain ⟨h1, h2, h3, h4⟩ := levelFrom_is (rowsOf a b laid) (laid.length + 1) 1
  have e : levelOf a b laid = levelFrom (rowsOf a b laid) (laid.length + 1) 1 := rfl
  rw [← e] at h1 h2 h3 h4
  have hlt : levelOf a b laid < 1 + (laid.length + 1) := by
    rcases Nat.lt_or_ge (levelOf a b laid) (1 + (laid.length + 1)) with h | h
    · exact h
    · have h5 := h4 (laid.length + 1) (by omega) (by omega)
      have h6 := htop (laid.length + 1)
      omega
  refine ⟨h1, by omega, fun h hh ha hb => ?_, ?_⟩
  · have h5 := h3 hlt
    have h6 := top_ge (rows := rowsOf a b laid) (l := levelOf a b laid) (row := rowAt laid h) (List.mem_map.mpr ⟨h, List.mem_filter.mpr ⟨hh, by simp [ha, hb]⟩, rfl⟩)
    rw [cntLe_eq] at h6
    omega
  · by_cases h2' : 2 ≤ levelOf a b laid
    · have h5 := h4 (levelOf a b laid - 1) (by omega) (by omega)
      obtain ⟨row, h6, h7⟩ := top_mem (l := levelOf a b laid - 1) hne
      obtain ⟨h, hh, ha, hb, rfl⟩ := hrow h6
      rw [h7, cntLe_eq] at h5
      exact ⟨h, hh, ha, hb, by omega⟩
    · exact ⟨a, List.mem_cons_self .., Nat.le_refl _, hab, by omega⟩

/-- each entry is what the law makes of those before it -/
noncomputable def Built (L : List Ent) : Prop := ∀ (k : Nat) (e : Ent), L[k]? = some e → e.a ≤ e.b ∧ e.b < 24 ∧ e.lv = levelOf e.a e.b (L.take k) ∧ e.th = thirdIdx (takenOf e.lv e.a e.b (L.take k))
theorem bookFrom_prefix : ∀ (xs : List (Nat × Nat)) (l : List Ent) (i : Nat), (bookFrom l xs).take (l.length + i) = bookFrom l (xs.take i)
  | [], l, i => by simp [bookFrom, List.take_of_length_le]
  | x :: xs, l, 0 => by
    show (bookFrom (l ++ [entOf l x]) xs).take l.length = l
    have := bookFrom_prefix xs (l ++ [entOf l x]) 0
    have h2 : (bookFrom (l ++ [entOf l x]) xs).take l.length = ((bookFrom (l ++ [entOf l x]) xs).take ((l ++ [entOf l x]).length + 0)).take l.length := by rw [List.take_take]; congr 1; simp
    rw [h2, this]
    simp [bookFrom]
  | x :: xs, l, i + 1 => by
    show (bookFrom (l ++ [entOf l x]) xs).take (l.length + (i + 1)) = bookFrom (l ++ [entOf l x]) (xs.take i)
    rw [← bookFrom_prefix xs (l ++ [entOf l x]) i]
    congr 1
    simp
    omega
theorem bookFrom_at {xs : List (Nat × Nat)} {k : Nat} {sp : Nat × Nat} (h : xs[k]? = some sp) : (bookFrom [] xs)[k]? = some (entOf ((bookFrom [] xs).take k) sp) := by
  have h1 := bookFrom_prefix xs [] (k + 1)
  have h0 := bookFrom_prefix xs [] k
  simp only [List.length_nil, Nat.zero_add] at h1 h0
  rw [bookFrom_take h, ← h0] at h1
  have h2 : ((bookFrom [] xs).take (k + 1))[k]? = (bookFrom [] xs)[k]? := List.getElem?_take_of_lt (by omega)
  rw [← h2, h1]
  have hk : k < xs.length := (List.getElem?_eq_some_iff.mp h).1
  have hl : ((bookFrom [] xs).take k).length = k := by rw [List.length_take, bookFrom_length]; simp; omega
  rw [List.getElem?_append_right (by omega), hl]
  simp
theorem built {xs : List (Nat × Nat)} (hsp : ∀ sp ∈ xs, sp.1 ≤ sp.2 ∧ sp.2 < 24) : Built (bookFrom [] xs) := by
  intro k e he
  have hk : k < xs.length := by
    have := (List.getElem?_eq_some_iff.mp he).1
    rw [bookFrom_length] at this
    simpa using this
  have hs : xs[k]? = some xs[k] := List.getElem?_eq_getElem hk
  rw [bookFrom_at hs] at he
  cases he
  have := hsp _ (List.getElem_mem hk)
  exact ⟨this.1, this.2, rfl, rfl⟩
end Mine
end

section
namespace Mine

theorem take_mem {L : List Ent} {i k : Nat} {e : Ent} (h : L[i]? = some e) (hik : i < k) : e ∈ L.take k := List.mem_of_getElem? (i := i) (by rw [List.getElem?_take_of_lt hik]; exact h)
theorem mem_take {L : List Ent} {k : Nat} {e : Ent} (h : e ∈ L.take k) : ∃ i, i < k ∧ L[i]? = some e := by
  obtain ⟨i, hi⟩ := List.mem_iff_getElem?.mp h
  have hik : i < k := by
    have := (List.getElem?_eq_some_iff.mp hi).1
    rw [List.length_take] at this
    omega
  rw [List.getElem?_take_of_lt hik] at hi
  exact ⟨i, hik, hi⟩
theorem take_split {L : List Ent} {k k' : Nat} (h : k ≤ k') : ∃ y, L.take k' = L.take k ++ y := ⟨(L.take k').drop k, by
  have := List.take_append_drop k (L.take k')
  rw [List.take_take, Nat.min_eq_left h] at this
  exact this.symm⟩
theorem cov_iff {e : Ent} {h : Nat} : cov e h = true ↔ e.a ≤ h ∧ h ≤ e.b := by simp [cov]

/-- the private hour -/
theorem priv {L : List Ent} (B : Built L) {k : Nat} {e : Ent} (he : L[k]? = some e) : ∃ p, p < 24 ∧ cov e p = true ∧ e.lv ≤ Cn (L.take (k + 1)) p e.lv ∧ ∀ i f, i ≠ k → L[i]? = some f → f.lv = e.lv → cov f p = false := by
  obtain ⟨hab, hb, hlv, hth⟩ := B k e he
  obtain ⟨f1, f2, f3, p, hp, ha, hb', f4⟩ := level_facts (laid := L.take k) hab
  rw [← hlv] at f1 f2 f3 f4
  have hcov : cov e p = true := cov_iff.mpr ⟨ha, hb'⟩
  have hA := f3 p hp ha hb'
  have htk : L.take (k + 1) = L.take k ++ [e] := by rw [List.take_add_one, he]; rfl
  have hmono := Cn_mono_l (L.take k) p (show e.lv - 1 ≤ e.lv by omega)
  have hC1 : Cn (L.take (k + 1)) p e.lv = Cn (L.take k) p e.lv + 1 := by rw [htk, Cn_append, Cn_one hcov (Nat.le_refl _)]
  refine ⟨p, by omega, hcov, by omega, fun i f hik hf hlf => ?_⟩
  cases hc : cov f p with
  | false => rfl
  | true =>
    exfalso
    rcases Nat.lt_or_gt_of_ne hik with h | h
    · -- an earlier one
      have := Cn_lt (take_mem hf h) hc (by omega)
      rw [hlf] at this
      omega
    · -- a later one
      obtain ⟨gab, gb, glv, _⟩ := B i f hf
      obtain ⟨_, _, g3, _⟩ := level_facts (laid := L.take i) gab
      rw [← glv] at g3
      have hpc := cov_iff.mp hc
      have hpin : p ∈ hoursOf f.a (L.take i) := by
        refine List.mem_cons_of_mem _ ?_
        rcases List.mem_cons.mp hp with hp | hp
        · exact List.mem_map.mpr ⟨e, take_mem he h, hp.symm⟩
        · obtain ⟨x, hx, rfl⟩ := List.mem_map.mp hp
          obtain ⟨j, hj, hxj⟩ := mem_take hx
          exact List.mem_map.mpr ⟨x, take_mem hxj (by omega), rfl⟩
      have h5 := g3 p hpin hpc.1 hpc.2
      obtain ⟨y, hy⟩ := take_split (L := L) (show k + 1 ≤ i by omega)
      rw [hlf, hy, Cn_append] at h5
      omega

theorem taken_mem {lv a b : Nat} {laid : List Ent} {t : Int} (h : (takenOf lv a b laid).any (· == t) = true) : ∃ e ∈ laid, e.lv = lv ∧ e.a ≤ b ∧ a ≤ e.b ∧ (e.th : Int) = t := by
  obtain ⟨x, hx, hxt⟩ := List.any_eq_true.mp h
  obtain ⟨e, he, rfl⟩ := List.mem_map.mp hx
  obtain ⟨h1, h2⟩ := List.mem_filter.mp he
  simp only [Bool.and_eq_true, beq_iff_eq, decide_eq_true_eq] at h2 hxt
  exact ⟨e, h1, h2.1, h2.2.1, h2.2.2, hxt⟩
theorem mem_taken {lv a b : Nat} {laid : List Ent} {e : Ent} (h : e ∈ laid) (h1 : e.lv = lv) (h2 : e.a ≤ b) (h3 : a ≤ e.b) : (takenOf lv a b laid).any (· == (e.th : Int)) = true :=
  List.any_eq_true.mpr ⟨_, List.mem_map.mpr ⟨e, List.mem_filter.mpr ⟨h, by simp [h1, h2, h3]⟩, rfl⟩, by simp⟩

/-- two of a level that reach one hour to their right have private hours on different sides -/
theorem left_two {x y : Ent} {p q c : Nat} (hx : cov x p = true) (hy : cov y q = true) (hxy : cov x q = false) (hyx : cov y p = false) (hp : p < c) (hq : q < c) (hxc : c ≤ x.b) (hyc : c ≤ y.b) : False := by
  have h1 := cov_iff.mp hx
  have h2 := cov_iff.mp hy
  have h3 : ¬ (x.a ≤ q ∧ q ≤ x.b) := fun h => by rw [cov_iff.mpr h] at hxy; cases hxy
  have h4 : ¬ (y.a ≤ p ∧ p ≤ y.b) := fun h => by rw [cov_iff.mpr h] at hyx; cases hyx
  omega
theorem right_two {x y : Ent} {p q c : Nat} (hx : cov x p = true) (hy : cov y q = true) (hxy : cov x q = false) (hyx : cov y p = false) (hp : c < p) (hq : c < q) (hxc : x.a ≤ c) (hyc : y.a ≤ c) : False := by
  have h1 := cov_iff.mp hx
  have h2 := cov_iff.mp hy
  have h3 : ¬ (x.a ≤ q ∧ q ≤ x.b) := fun h => by rw [cov_iff.mpr h] at hxy; cases hxy
  have h4 : ¬ (y.a ≤ p ∧ p ≤ y.b) := fun h => by rw [cov_iff.mpr h] at hyx; cases hyx
  omega

theorem third_small {L : List Ent} (B : Built L) {k : Nat} {e : Ent} (he : L[k]? = some e) : e.th ≤ 2 := by
  obtain ⟨hab, hb, hlv, hth⟩ := B k e he
  rw [hth]
  have key : ¬ ((takenOf e.lv e.a e.b (L.take k)).any (· == 0) = true ∧ (takenOf e.lv e.a e.b (L.take k)).any (· == 1) = true ∧ (takenOf e.lv e.a e.b (L.take k)).any (· == 2) = true) := by
    rintro ⟨h0, h1, h2⟩
    have side : ∀ t : Int, (takenOf e.lv e.a e.b (L.take k)).any (· == t) = true → ∃ (i : Nat) (x : Ent) (p : Nat), i < k ∧ L[i]? = some x ∧ (x.th : Int) = t ∧ x.lv = e.lv ∧ cov x p = true ∧ (∀ (j : Nat) (f : Ent), j ≠ i → L[j]? = some f → f.lv = e.lv → cov f p = false) ∧ ((p < e.a ∧ e.a ≤ x.b) ∨ (e.b < p ∧ x.a ≤ e.b)) := fun t ht => by
      obtain ⟨x, hx, hl, ha, hb', htt⟩ := taken_mem ht
      obtain ⟨i, hik, hxi⟩ := mem_take hx
      obtain ⟨p, _, hcp, _, hpr⟩ := priv B hxi
      rw [hl] at hpr
      have hep := hpr k e (by omega) he rfl
      refine ⟨i, x, p, hik, hxi, htt, hl, hcp, hpr, ?_⟩
      have h3 : ¬ (e.a ≤ p ∧ p ≤ e.b) := fun h => by rw [cov_iff.mpr h] at hep; cases hep
      omega
    obtain ⟨i0, x0, p0, _, g0, t0, l0, c0, q0, s0⟩ := side 0 h0
    obtain ⟨i1, x1, p1, _, g1, t1, l1, c1, q1, s1⟩ := side 1 h1
    obtain ⟨i2, x2, p2, _, g2, t2, l2, c2, q2, s2⟩ := side 2 h2
    have n01 : i0 ≠ i1 := fun h => by subst h; rw [g0] at g1; cases g1; omega
    have n02 : i0 ≠ i2 := fun h => by subst h; rw [g0] at g2; cases g2; omega
    have n12 : i1 ≠ i2 := fun h => by subst h; rw [g1] at g2; cases g2; omega
    have two : ∀ {i j : Nat} {x y : Ent} {p q : Nat}, i ≠ j → L[i]? = some x → L[j]? = some y → x.lv = e.lv → y.lv = e.lv → cov x p = true → cov y q = true → (∀ (j : Nat) (f : Ent), j ≠ i → L[j]? = some f → f.lv = e.lv → cov f p = false) → (∀ (i : Nat) (f : Ent), i ≠ j → L[i]? = some f → f.lv = e.lv → cov f q = false) →
        ¬ ((p < e.a ∧ e.a ≤ x.b) ∧ (q < e.a ∧ e.a ≤ y.b)) ∧ ¬ ((e.b < p ∧ x.a ≤ e.b) ∧ (e.b < q ∧ y.a ≤ e.b)) := fun {i j x y p q} hij gx gy lx ly cx cy qx qy =>
      ⟨fun h => left_two cx cy (qy i x hij gx lx) (qx j y (Ne.symm hij) gy ly) h.1.1 h.2.1 h.1.2 h.2.2, fun h => right_two cx cy (qy i x hij gx lx) (qx j y (Ne.symm hij) gy ly) h.1.1 h.2.1 h.1.2 h.2.2⟩
    have t01 := two n01 g0 g1 l0 l1 c0 c1 q0 q1
    have t02 := two n02 g0 g2 l0 l2 c0 c2 q0 q2
    have t12 := two n12 g1 g2 l1 l2 c1 c2 q1 q2
    rcases s0 with s0 | s0 <;> rcases s1 with s1 | s1 <;> rcases s2 with s2 | s2
    · exact t01.1 ⟨s0, s1⟩
    · exact t01.1 ⟨s0, s1⟩
    · exact t02.1 ⟨s0, s2⟩
    · exact t12.2 ⟨s1, s2⟩
    · exact t12.1 ⟨s1, s2⟩
    · exact t02.2 ⟨s0, s2⟩
    · exact t01.2 ⟨s0, s1⟩
    · exact t01.2 ⟨s0, s1⟩
  unfold thirdIdx
  split
  · omega
  · split
    · omega
    · split
      · omega
      · exfalso; simp_all

theorem third_free {L : List Ent} (B : Built L) {k : Nat} {e : Ent} (he : L[k]? = some e) : (takenOf e.lv e.a e.b (L.take k)).any (· == (e.th : Int)) = false := by
  have h := third_small B he
  obtain ⟨hab, hb, hlv, hth⟩ := B k e he
  have hq := tints_at (taken := takenOf e.lv e.a e.b (L.take k)) (by rw [← hth]; exact h)
  rw [← hth] at hq
  rcases (show e.th = 0 ∨ e.th = 1 ∨ e.th = 2 by omega) with h0 | h0 | h0 <;> rw [h0] at hq ⊢ <;> simpa [tints] using hq.1
theorem third_one {L : List Ent} (B : Built L) {k : Nat} {e : Ent} (he : L[k]? = some e) (h1 : e.lv = 1) : e.th = 0 := by
  obtain ⟨hab, hb, hlv, hth⟩ := B k e he
  obtain ⟨_, _, f3, _⟩ := level_facts (laid := L.take k) hab
  rw [← hlv, h1] at f3
  have hno : takenOf e.lv e.a e.b (L.take k) = [] := by
    unfold takenOf
    rw [List.map_eq_nil_iff, List.filter_eq_nil_iff]
    intro x hx hc
    simp only [Bool.and_eq_true, beq_iff_eq, decide_eq_true_eq] at hc
    obtain ⟨i, hik, hxi⟩ := mem_take hx
    have hxab := (B i x hxi).1
    have hone : ∀ h, cov x h = true → 1 ≤ Cn (L.take k) h 1 := fun h hcov => by
      have := Cn_lt hx hcov (by omega)
      rw [hc.1, h1] at this
      omega
    by_cases hle : e.a ≤ x.a
    · have h5 := f3 x.a (List.mem_cons_of_mem _ (List.mem_map.mpr ⟨x, hx, rfl⟩)) hle hc.2.1
      have h6 := hone x.a (cov_iff.mpr ⟨Nat.le_refl _, hxab⟩)
      omega
    · have h5 := f3 e.a (List.mem_cons_self ..) (Nat.le_refl _) hab
      have h6 := hone e.a (cov_iff.mpr ⟨by omega, hc.2.2⟩)
      omega
  rw [hth, hno]
  rfl
theorem lv_fine {L : List Ent} (B : Built L) (hL : L.length ≤ 8) {k : Nat} {e : Ent} (he : L[k]? = some e) : e.fine := by
  obtain ⟨hab, hb, hlv, hth⟩ := B k e he
  obtain ⟨f1, f2, _, _⟩ := level_facts (laid := L.take k) hab
  rw [← hlv] at f1 f2
  have hk := (List.getElem?_eq_some_iff.mp he).1
  rw [List.length_take] at f2
  exact ⟨f1, by omega, third_small B he⟩

theorem filter_one {α : Type} (q : α → Bool) : ∀ (L : List α) (k : Nat) (e : α), L[k]? = some e → q e = true → (∀ i f, i ≠ k → L[i]? = some f → q f = false) → (L.filter q).length = 1
  | x :: r, 0, e, he, hq, ho => by
    simp only [List.getElem?_cons_zero, Option.some.injEq] at he
    subst he
    have : r.filter q = [] := by
      rw [List.filter_eq_nil_iff]
      intro y hy
      obtain ⟨i, hi⟩ := List.mem_iff_getElem?.mp hy
      rw [ho (i + 1) y (by omega) (by simpa using hi)]
      exact Bool.false_ne_true
    rw [List.filter_cons, if_pos hq, this]
    rfl
  | x :: r, k + 1, e, he, hq, ho => by
    rw [List.filter_cons, if_neg (by rw [ho 0 x (by omega) rfl]; exact Bool.false_ne_true)]
    exact filter_one q r k e (by simpa using he) hq fun i f hi hf => ho (i + 1) f (by omega) (by simpa using hf)

theorem good_book {L : List Ent} (B : Built L) (hL : L.length = 8) : GoodBook L where
  len := hL
  ok := fun e he => by
    obtain ⟨k, hk⟩ := List.mem_iff_getElem?.mp he
    exact ⟨(B k e hk).1, (B k e hk).2.1, lv_fine B (by omega) hk, third_one B hk⟩
  apart := fun k e he j hj e' he' hj' hp => by
    obtain ⟨i, hik, hi⟩ := mem_take he'
    have h1 := third_small B he
    have h2 := third_small B hi
    unfold paintOf at hp
    have hlv : e'.lv = e.lv := by omega
    have hth : e'.th = e.th := by omega
    have c1 := cov_iff.mp hj
    have c2 := cov_iff.mp hj'
    have h3 := mem_taken (lv := e.lv) (a := e.a) (b := e.b) he' hlv (by omega) (by omega)
    rw [hth, third_free B he] at h3
    cases h3
  deep := fun k e he => by
    obtain ⟨p, hp, _, hC, _⟩ := priv B he
    refine ⟨p, hp, Nat.le_trans hC ?_⟩
    unfold hpAt Cn
    rw [List.length_map]
    have : (L.take (k + 1)).filter (fun x => cov x p && decide (x.lv ≤ e.lv)) = ((L.take (k + 1)).filter (cov · p)).filter (fun x => decide (x.lv ≤ e.lv)) := by
      rw [List.filter_filter]
      apply List.filter_congr
      intro x _
      rw [Bool.and_comm]
    rw [this]
    exact List.length_filter_le _ _
  alone := fun k e he => by
    obtain ⟨p, hp, hc, _, hpr⟩ := priv B he
    refine ⟨p, hc, ?_⟩
    unfold cntOf hpAt
    rw [List.take_of_length_le (by omega), List.map_map, List.filter_map, List.length_map, List.filter_filter]
    refine filter_one _ L k e he ?_ fun i f hi hf => ?_
    · simp only [Function.comp_apply, ends_fdiv (third_small B he), hc]
      simp
    · simp only [Function.comp_apply, ends_fdiv (third_small B hf)]
      by_cases hl : f.lv = e.lv
      · rw [hpr i f hi hf hl]; simp
      · have : ¬ ((f.lv : Int) = (e.lv : Int)) := by omega
        simp [this]
end Mine
end

section
namespace Mine
variable {prog : Program} {w : World}

noncomputable def bodyAt (K : Frag) (a : Addr) : Option (List Stmt) := match K.lookup a with
  | some o => (match o.data with
    | .func fd => (match fd.body with
      | .stmts b => some b
      | _ => none)
    | _ => none)
  | none => none
noncomputable def namesAt (K : Frag) (a : Addr) : List (PySem.Str × NameKind) := match K.lookup a with
  | some o => (match o.data with
    | .func fd => fd.scope.names
    | _ => [])
  | none => []

theorem EV.sliceRaw {A : Around} {env : Env} {hB : Heap} {x : PySem.Str} {upper : Expr} {p1 p pos : Pos} {vs : List Value} {xs : List Int} {l : Addr} {n : Nat} {m : Mp} (hf : env.scope.kind = .function) (hx : env.kindOf x = some .local) (hn : hB.Ns env.locals m) (e : m x = some (.ref l)) (hl : hB.IsList l vs.toArray) (hi : IntsAre vs xs) (hu : EV prog w A env hB Tr upper (.int n)) (hlen : xs.length ≤ 1000)
    (hd : (x == ("__debug__" : PySem.Str)) = false := by decide) (ht : ∀ o r, letTemporaryGo (.Name x p1) o r = pure () := by intro _ _; rfl) : EV prog w A env hB Tr (.Subscript (.Name x p1) (.Slice none (some upper) none p) pos) (.lst ((xs.map D.int).take n)) := by
  refine ⟨fun s hk => ?_⟩
  have hr : ∀ {vs xs}, IntsAre vs xs → ∀ {h : Heap} {P : Addr → Prop}, Reps h P Tr vs (xs.map .int) := fun {vs xs} hi => by
    induction hi with
    | nil => intro h P; exact .nil
    | cons i t _ ih => intro h P; exact .cons (.int _ _ trivial) ih
  have hll : vs.length = xs.length := by
    have := (hr hi (h := s.heap) (P := Tr)).length
    rwa [List.length_map] at this
  refine wpAny_Subscript_list_slice (wpAny_Name (wpAny_loadName_local hf hx (hn.keeps hk) e (wpAny_evalPart_none (wpAny_evalPart_some (mono' (hu.h s hk) fun vu s₂ h₂ => ?_)))) hd) ht
  obtain ⟨k₂, ru⟩ := h₂
  cases ru with | int _ t _ => ?_
  refine ⟨l, vs.toArray, none, some (n : Int), rfl, (let ⟨o, a, b, c⟩ := hl; ⟨o, k₂.kp _ _ (hk _ _ a), b, c⟩), by rw [List.size_toArray, sizeLine_eq]; omega, .none, .int _ _, ?_⟩
  rw [slicePick_upto']
  exact sliceNew k₂ (((hr hi (h := s₂.heap) (P := PN (Hin hB) s.heap)).kp (Kp.refl _) (fun _ x => x) fun _ x => .inl x).take n)

noncomputable def givenL : List Int := [2, 7, 12, 17, 73, 110, 124, 129]
noncomputable def drawsL (xs : List Int) : List Int := (xs.take 8).map (fun x => x.fmod 144) ++ givenL.drop (xs.take 8).length
theorem draws_len (xs : List Int) : (drawsL xs).length = 8 := by
  unfold drawsL givenL
  rw [List.length_append, List.length_map, List.length_drop, List.length_take]
  simp only [List.length_cons, List.length_nil]
  omega
theorem draws_in (xs : List Int) : ∀ x ∈ drawsL xs, 0 ≤ x ∧ x < 144 := by
  intro x hx
  rcases List.mem_append.mp hx with hx | hx
  · obtain ⟨y, _, rfl⟩ := List.mem_map.mp hx
    exact ⟨Int.fmod_nonneg_of_pos _ (by decide), Int.fmod_lt_of_pos _ (by decide)⟩
  · have h := List.mem_of_mem_drop hx
    simp only [givenL, List.mem_cons, List.not_mem_nil, or_false] at h
    omega
noncomputable def spanEnd (x : Int) : Int := if x.fmod 24 + x.fdiv 24 < 23 then x.fmod 24 + x.fdiv 24 else 23
noncomputable def spanOf (x : Int) : Nat × Nat := ((x.fmod 24).toNat, (spanEnd x).toNat)
theorem spanOf_ok {x : Int} (h : 0 ≤ x ∧ x < 144) : (spanOf x).1 ≤ (spanOf x).2 ∧ (spanOf x).2 < 24 ∧ (((spanOf x).1 : Nat) : Int) = x.fmod 24 ∧ (((spanOf x).2 : Nat) : Int) = spanEnd x := by
  have h1 : 0 ≤ x.fmod 24 := Int.fmod_nonneg_of_pos _ (by decide)
  have h2 : x.fmod 24 < 24 := Int.fmod_lt_of_pos _ (by decide)
  have h3 : x.fdiv 24 = x / 24 := Int.fdiv_eq_ediv_of_nonneg _ (by decide)
  have h4 : 0 ≤ x.fdiv 24 := by rw [h3]; omega
  unfold spanOf spanEnd
  simp only
  split <;> omega
noncomputable def spansL (xs : List Int) : List (Nat × Nat) := (drawsL xs).map spanOf
theorem spans_ok (xs : List Int) : ∀ sp ∈ spansL xs, sp.1 ≤ sp.2 ∧ sp.2 < 24 := fun sp h => by
  obtain ⟨x, hx, rfl⟩ := List.mem_map.mp h
  have := spanOf_ok (draws_in xs x hx)
  exact ⟨this.1, this.2.1⟩
theorem spans_len (xs : List Int) : (spansL xs).length = 8 := by unfold spansL; rw [List.length_map, draws_len]
noncomputable def modD : D → D
  | .int x => .int (x.fmod 144)
  | _ => .none
noncomputable def cutD : D → D
  | .int x => .tup [.int (x.fmod 24), .int (spanEnd x)]
  | _ => .none
theorem draws_eq (xs : List Int) : D.lst ((((xs.map D.int).take 8).filter (fun _ => true)).map modD ++ (givenL.map D.int).drop ((xs.map D.int).take 8).length) = .lst ((drawsL xs).map .int) := by
  unfold drawsL
  rw [List.filter_eq_self.mpr (fun _ _ => rfl), List.map_append, ← List.map_take, List.map_map, List.map_map, List.length_map, List.map_drop]
  rfl
theorem spansD_eq (xs : List Int) : D.lst ((((drawsL xs).map D.int).filter (fun _ => true)).map cutD) = .lst ((spansL xs).map spanD) := by
  rw [List.filter_eq_self.mpr (fun _ _ => rfl), List.map_map]
  unfold spansL
  rw [List.map_map]
  congr 1
  apply List.map_congr_left
  intro x hx
  have := spanOf_ok (draws_in xs x hx)
  show D.tup [.int (x.fmod 24), .int (spanEnd x)] = D.tup [.int ((spanOf x).1 : Nat), .int ((spanOf x).2 : Nat)]
  rw [this.2.2.1, this.2.2.2]
theorem bookFrom_spans : ∀ (xs : List (Nat × Nat)) (l : List Ent), (bookFrom l xs).map (fun e => (e.a, e.b)) = l.map (fun e => (e.a, e.b)) ++ xs
  | [], l => by simp [bookFrom]
  | x :: xs, l => by
    show (bookFrom (l ++ [entOf l x]) xs).map _ = _
    rw [bookFrom_spans xs]
    simp [entOf]
theorem seats_eq (xs : List (Nat × Nat)) : (bookFrom [] xs).map seatD = xs.map spanD := by
  have := bookFrom_spans xs []
  simp only [List.map_nil, List.nil_append] at this
  have h2 : (bookFrom [] xs).map seatD = ((bookFrom [] xs).map (fun e => (e.a, e.b))).map spanD := by rw [List.map_map]; rfl
  rw [h2, this]
theorem book_fine {xs : List (Nat × Nat)} (hsp : ∀ sp ∈ xs, sp.1 ≤ sp.2 ∧ sp.2 < 24) (hn : xs.length ≤ 8) : ∀ i sp, xs[i]? = some sp → (entOf (bookFrom [] (xs.take i)) sp).fine := fun i sp h => by
  have h1 := bookFrom_at h
  have h0 := bookFrom_prefix xs [] i
  simp only [List.length_nil, Nat.zero_add] at h0
  rw [h0] at h1
  exact lv_fine (built hsp) (by rw [bookFrom_length]; simpa using hn) h1

theorem law_ex {A : Around} {env : Env} {s₀ s : Shared} {m cm : Mp} {body : List Stmt} {l : Addr} {vs : List Value} {xs : List Int} (hb : bodyAt (KK w) 104 = some body) (hA : AOk A 3) (W : Wd w s₀.heap) (E0 : Ev0 env (namesAt (KK w) 104) []) (F : Fs s₀ env m cm s)
    (hm : m "script" = some (.ref l)) (hl : s₀.heap.IsList l vs.toArray) (hi : IntsAre vs xs) (hlen : xs.length ≤ 63) : EX prog w A env (fun f s' => f = .ret (.bool true) ∧ Ks s₀ s') body s := by
  have hb' : bodyAt (KK w) 104 = some _ := rfl
  obtain rfl := Option.some.inj (hb'.symm.trans hb)
  clear hb hb'
  have hh := hA.hh
  have W₁ := W.fs F
  let Q : Addr → Prop := Hin s₀.heap
  -- given
  refine X.assignL (Q := Nu) (T := Nu) (d := .lst (givenL.map .int)) F ((E0.k _).trans rfl) (EV.lst (EVs.cons EV.int (EVs.cons EV.int (EVs.cons EV.int (EVs.cons EV.int (EVs.cons EV.int (EVs.cons EV.int (EVs.cons EV.int (EVs.cons EV.int EVs.nil))))))))) fun s₂ v F₂ b₂ sk₂ rv => ?_
  have hpos : 0 < s₂.toks := by
    cases rv with | lst _ _ rr => ?_
    cases rr with | cons r _ => ?_
    cases r with | int _ t ht => ?_
    exact Nat.lt_of_le_of_lt (Nat.zero_le _) (ht.resolve_left fun x => x).2
  have W₂ := W.fs F₂
  have hlB : ∀ {st : Shared} {m cm}, Fs s₀ env m cm st → (Bs st.heap Tr).IsList l vs.toArray := fun F' => by
    obtain ⟨o, a, b, c⟩ := hl
    exact ⟨o, Bs.get (F'.keep _ _ a) (.inr trivial), b, c⟩
  have sl : ∀ {p1 p2 p3 p4 : Pos} {k : Nat}, EV prog w A env (Bs s₂.heap Tr) Tr (.Subscript (.Name "script" p1) (.Slice none (some (.Constant (.int 8) k p2)) none p3) p4) (.lst ((xs.map D.int).take 8)) :=
    EV.sliceRaw (n := 8) E0.kind ((E0.k _).trans rfl) (Bs.ns F₂.ns) hm (hlB F₂) hi EV.int (by omega)
  have ngiven : Nm env (Bs s₂.heap Tr) Tr "given" (.lst (givenL.map .int)) := F₂.nL (Q' := Tr) ⟨_, rfl, rv.kp (Kp.refl _) tr_all tr_all⟩ ((E0.k _).trans rfl) tr_all
  have hl8 : ((xs.map D.int).take 8).length ≤ 8 := by rw [List.length_take]; omega
  -- draws
  refine X.assignL (Q := Tr) (T := Tr) (d := .lst ((drawsL xs).map .int)) F₂ ((E0.k _).trans rfl) (EV.cast (EV.binopR
    (EV.comp (fun _ => true) modD (IT.lst hh sl) (by omega) (E0.clos rfl) (by decide) rfl (by decide) rfl (fun _ _ _ _ _ _ => ETs.nil) fun d hd _ C hE hk' nx => ?_)
    (EV.sliceFrom (EV.name ngiven) (EV.callb (W₂.bs.bn0 E0 rfl rfl (Boot.«len») (by decide)) (EVs.cons sl EVs.nil) (callLen (by omega))) (by decide))
    (BinR.cat ?_)) (draws_eq xs)) fun s₃ v F₃ b₃ sk₃ rv₃ => ?_
  · obtain ⟨x, _, rfl⟩ := List.mem_map.mp (List.mem_of_mem_take hd)
    exact EV.binop (EV.name nx) EV.int (BinN.modI (by decide))
  · rw [List.length_map, List.length_drop]
    have := List.length_filter_le (fun _ => true) ((xs.map D.int).take 8)
    have h2 : (givenL.map D.int).length = 8 := rfl
    rw [sizeLine_eq]
    omega
  have W₃ := W.fs F₃
  have ndraws : Nm env (Bs s₃.heap Tr) Tr "draws" (.lst ((drawsL xs).map .int)) := F₃.nL (Q' := Tr) ⟨_, rfl, rv₃.kp (Kp.refl _) tr_all tr_all⟩ ((E0.k _).trans rfl) tr_all
  have hdl : ((drawsL xs).map D.int).length ≤ 1000 := by rw [List.length_map, draws_len]; decide
  -- spans
  refine X.assignComp (Q := Tr) (T := Nu) (fun _ => true) cutD F₃ ((E0.k _).trans rfl) (IT.lst hh (EV.name ndraws)) hdl (E0.clos rfl) (by decide) rfl (by decide) rfl (fun _ _ _ _ _ _ => ETs.nil) (fun d hd _ C hE hk' nx => ?_) (fun s₄ v F₄ b₄ sk₄ rv₄ => ?_) ?_
  · obtain ⟨x, _, rfl⟩ := List.mem_map.mp hd
    have We := (W₃.bs (Q := Tr)).kp hk'
    have E1 := E0.ofNm nx rfl
    exact EV.tup (EVs.cons (EV.binop (EV.name nx) EV.int (BinN.modI (by decide))) (EVs.cons (EV.callb (We.bn0 E1 rfl rfl (Boot.«min») (by decide)) (EVs.cons EV.int (EVs.cons (EV.binop (EV.binop (EV.name nx) EV.int (BinN.modI (by decide))) (EV.binop (EV.name nx) EV.int (BinN.fdivI (by decide) (by decide))) BinN.addI) EVs.nil)) (callMinI hh)) EVs.nil))
  · rw [spansD_eq] at rv₄
    have W₄ := W.fs F₄
    have hsp := spans_ok xs
    have hsl := spans_len xs
    have B := built hsp
    have hLen : (bookFrom [] (spansL xs)).length = 8 := by rw [bookFrom_length, hsl]; rfl
    -- book
    refine X.assignL (Q := Tr) (T := Nu) (d := .lst ((bookFrom [] (spansL xs)).map entD)) F₄ ((E0.k _).trans rfl) (EV.callf (W₄.bs.gn0 E0 rfl rfl) ⟨_, _, W₄.bs.fn 94 _ rfl rfl, rfl⟩ (EVs.cons (EV.name (F₄.nL (Q' := Tr) ⟨_, rfl, rv₄.kp (Kp.refl _) tr_all tr_all⟩ ((E0.k _).trans rfl) tr_all)) EVs.nil) (book_spec hsp (by omega) (book_fine hsp (by omega)) hA W₄.bs)) fun s₅ v₅ F₅ b₅ sk₅ rv₅ => ?_
    have W₅ := W.fs F₅
    let Tb : Tok → Prop := fun t => 0 < t ∧ t < s₅.toks
    have nspans : Nm env (Bs s₅.heap Tr) Tb "spans" (.lst ((spansL xs).map spanD)) := F₅.nL (Q' := Tr) ⟨_, rfl, rv₄.sk sk₅ tr_all fun t x => ⟨Nat.lt_of_lt_of_le hpos (Nat.le_trans b₃.le (x.resolve_left fun y => y).1), Nat.lt_of_lt_of_le (x.resolve_left fun y => y).2 b₅.le⟩⟩ ((E0.k _).trans rfl) tr_all
    have nbook : Nm env (Bs s₅.heap Tr) Tb "book" (.lst ((bookFrom [] (spansL xs)).map entD)) := F₅.nL (Q' := Tr) ⟨_, rfl, rv₅.kp (Kp.refl _) tr_all fun t x => ⟨Nat.lt_of_lt_of_le hpos (Nat.le_trans b₃.le (Nat.le_trans b₄.le (x.resolve_left fun y => y).1)), (x.resolve_left fun y => y).2⟩⟩ ((E0.k _).trans rfl) tr_all
    have Gd := good_book B hLen
    have hf := W₅.fn 99 _ rfl rfl
    refine ⟨wpAny_execs_cons (wpAny_Return_some (wpAny_And2 (mono' ((EV.cast (T := Nu) (EV.cmp (EV.callb (W₅.bs.bn0 E0 rfl rfl (Boot.«len») (by decide)) (EVs.cons (EV.name (nbook.weak tr_all)) EVs.nil) (callLen (by rw [List.length_map, hLen]; decide))) EV.int CmpR.eqI) (by rw [List.length_map, hLen]; rfl : _ = D.bool true)).h s₅ (Bs.kp _ Tr)) fun v₆ s₆ h₆ => ?_)))⟩
    obtain ⟨k₆, r₆⟩ := h₆
    cases r₆
    refine wpAny_truthy_bool ?_
    rw [if_pos rfl]
    have hk6 : Kp (Bs s₅.heap Tr) s₆.heap := (Bs.kp _ _).trans k₆.kp
    refine wpAny_Call_ofName ((W₅.bs.gn0 E0 rfl rfl).eval hk6 ?_ (by decide))
    refine callWith_def rfl (mono' ((EVs.cons (EV.name nspans) (EVs.cons (EV.name nbook) EVs.nil)).h s₆ _ hk6) fun vs₇ s₇ h₇ => ⟨h₇.1.kp _ _ (k₆.kp _ _ hf), ?_⟩) rfl
    obtain ⟨k₇, rr⟩ := h₇
    cases rr with | cons ra rr => ?_
    cases rr with | cons rb rr => ?_
    cases rr
    refine mono' (good_spec Gd hA (W₅.bs (Q := Tr)) (hk6.trans k₇.kp) (by rw [seats_eq]; exact ra.kp (Kp.refl _) tr_all tr_all) (rb.kp (Kp.refl _) tr_all fun t x => ?_)) fun v₈ s₈ h₈ => ?_
    · rcases x with x | x
      · exact ⟨x.1, Nat.lt_of_lt_of_le x.2 (Nat.le_trans k₆.le k₇.le)⟩
      · exact ⟨Nat.lt_of_lt_of_le hpos (Nat.le_trans b₃.le (Nat.le_trans b₄.le (Nat.le_trans b₅.le (Nat.le_trans k₆.le x.1)))), x.2⟩
    · obtain ⟨k₈, r₈⟩ := h₈
      cases r₈
      exact ⟨rfl, F₅.ks.trans (k₆.trans (k₇.trans k₈))⟩
  · show (pure (env.blockKind == .function && env.kindOf "spans" == some .local && _ && _) : Sem Bool) = pure true
    have hbk : env.blockKind = .function := by unfold Env.blockKind; rw [E0.kind]; rfl
    rw [E0.k, hbk]
    rfl
end Mine
end

section
namespace Mine
variable {prog : Program} {w : World}
theorem wd_of {h : Heap} {p : Program} {loose : List PySem.Str} {mean : ExcName → Option Value} {mg mb : PySem.Str → Option Value} (T : Top p loose mean mg mb h) (X : (KK w).In h) : Wd w h :=
  ⟨⟨mg, mb, T.g, T.b, fun x v e => mg_of X T.g e, fun x e => ns_none_of X T.g e, T.builtins⟩, T.nolimit, fun a o e _ => X a o e⟩

theorem law_end {p : Program} {loose : List PySem.Str} {mean : ExcName → Option Value} {mg mb : PySem.Str → Option Value} {s₁ : Shared} {h₁ : Heap} {m : Mp} {l : Addr} {vs : List Value} {xs : List Int} {scope : Scope} {body : List Stmt} {nm : PySem.Str} {fa : Addr} {code : Value} {tk : Nat}
    {Q : Flow → Shared → Prop} {E : Value → Shared → Prop} (T : Top p loose mean mg mb s₁.heap) (X : (KK w).In s₁.heap) (F : Fr s₁.heap s₁.heap.objs.size h₁ m) (hm : m "script" = some (.ref l)) (hl : s₁.heap.IsList l vs.toArray) (hi : IntsAre vs xs) (hlen : ¬ (63 : Int) < xs.length)
    (hkind : scope.kind = .function) (hnm : scope.names = namesAt (KK w) 104) (hb : bodyAt (KK w) 104 = some body) (htk : s₁.toks ≤ tk) (hQ : ∀ s', Ks s₁ s' → Q (.ret (.bool true)) s') :
    wpAny (model prog w) (callerA.deeper (envOf nm scope s₁.heap.objs.size fa code)) (execs body (envOf nm scope s₁.heap.objs.size fa code)) Q E { s₁ with heap := h₁, toks := tk } := by
  have W := wd_of T X
  have Fs0 : Fs s₁ (envOf nm scope s₁.heap.objs.size fa code) m (fun _ => none) { s₁ with heap := h₁, toks := tk } :=
    ⟨⟨⟨⟨h₁, tk, rfl⟩, F.ns, F.keep, Nat.le_refl _⟩, fun n c h => by simp [envOf] at h, List.Pairwise.nil, fun n c h => by simp [envOf] at h⟩, hkind, htk, fun n b h => by simp [envOf] at h⟩
  have hA : AOk (callerA.deeper (envOf nm scope s₁.heap.objs.size fa code)) 3 := ⟨rfl, by show callerA.depth + 1 + 3 < recursionLimit; decide +kernel, by show callerA.units + 3 + 10 * 3 + 100 < cLine; decide +kernel⟩
  refine mono' (law_ex hb hA W ⟨hkind, hnm, rfl, rfl, rfl⟩ Fs0 hm hl hi (by omega)).h fun f s' h => ?_
  obtain ⟨rfl, k⟩ := h
  exact hQ s' k
end Mine
end

theorem PySem.Challenge.cw_tp0007_01_holds : PySem.Challenge.rw_tp0007_01.Holds := by
  exact Mine.hd (by
    k_go0
    refine' @Mine.law_end _ _ _ _ _ _ _ _ _ _ _ _ _ _ _ _ _ _ _ _ _ ?T ?X ?F ?hm ?hl ?hi ?hlen ?hk ?hn ?hb ?ht (fun s' k => ?hQ)
    case T => assumption
    case X => assumption
    case F => assumption
    case hm => rfl
    case hl => assumption
    case hi => assumption
    case hlen => assumption
    case hk => rfl
    case hn => rfl
    case hb => rfl
    case ht => exact Nat.le_add_right _ _
    case hQ =>
      show GoodW _ _ _ _ _ (.ok (.ret (.bool true))) _
      refine ⟨.inl ⟨_, .bool true, [], rfl, raisesW_false ?hn, .bool true, ?hp, unshared_nil⟩, k.kp, ?ho, ?hg⟩
      case hn => wrow_none_raised
      case hp =>
        refine' postW_of ?zs ?zv ?ze
        case zs => o_shape
        case zv => wtm_val
        case ze => w_fin
      case ho => obtain ⟨_, _, rfl, _⟩ := k; rfl
      case hg => obtain ⟨_, _, rfl, _⟩ := k; assumption)
