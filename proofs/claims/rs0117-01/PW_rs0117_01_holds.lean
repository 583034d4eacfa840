import PyProof.Rows.All
import Wide.All
import OpenK.AllK
import Wide.FinOn
import PySem.Challenge.RW_rs0117_01
set_option Elab.async false
set_option maxRecDepth 100000
set_option maxHeartbeats 8000000
set_option linter.unusedVariables false

section
open PySem PySem.W PyProof.Rows
namespace Mine
open_top hd for PySem.Challenge.rw_rs0117_01
end Mine
end

section
open PySem PySem.W PyProof.Rows
namespace Mine

/-- every object of h stands in h' -/
def Kp (h h' : Heap) : Prop := ∀ b o, h.get? b = some o → h'.get? b = some o
theorem Kp.rfl {h : Heap} : Kp h h := fun _ _ e => e
theorem Kp.trans {a b c : Heap} (x : Kp a b) (y : Kp b c) : Kp a c := fun p o e => y p o (x p o e)
theorem Kp.push (h : Heap) (o : Obj) : Kp h (h.push o) := fun _ _ e => Heap.get?_push_of_some _ e
theorem Kp.ns {h h' : Heap} {a m} (k : Kp h h') (n : h.Ns a m) : h'.Ns a m := n.keeps k

section
variable {α β : Type} {prog : Program} {w : World} {A : Around} {env : Env} {h h₁ : Heap}

/-- the tree t, run in any state over h, makes new objects alone and gives a value of which R holds -/
def Pv {α : Type} (prog : Program) (w : World) (A : Around) (h : Heap) (t : Sem α) (R : α → Heap → Prop) : Prop :=
  ∀ (s : Shared) (Q : α → Shared → Prop) (E : Value → Shared → Prop), Kp h s.heap →
    (∀ v h' tk, Kp s.heap h' → R v h' → Q v { s with heap := h', toks := tk }) → wpAny (model prog w) A t Q E s

theorem Pv.up {t : Sem α} {R : α → Heap → Prop} (x : Pv prog w A h t R) (k : Kp h h₁) : Pv prog w A h₁ t R :=
  fun s Q E ks q => x s Q E (k.trans ks) q
theorem Pv.mono {t : Sem α} {R R' : α → Heap → Prop} (x : Pv prog w A h t R) (r : ∀ v h', Kp h h' → R v h' → R' v h') : Pv prog w A h t R' :=
  fun s Q E ks q => x s Q E ks fun v h' tk k y => q v h' tk k (r v h' (ks.trans k) y)
theorem Pv.ofPure {a : α} {R : α → Heap → Prop} (r : ∀ h', Kp h h' → R a h') : Pv prog w A h (pure a) R :=
  fun s Q E ks q => wpAny_pure (q a s.heap s.toks Kp.rfl (r _ ks))
theorem Pv.of_eq {t : Sem α} {a : α} {R : α → Heap → Prop} (e : t = Pure.pure a) (r : ∀ h', Kp h h' → R a h') : Pv prog w A h t R := e ▸ Pv.ofPure r
theorem Pv.andThen {t : Sem α} {f : α → Sem β} {R : α → Heap → Prop} {R' : β → Heap → Prop} (x : Pv prog w A h t R)
    (y : ∀ v h', Kp h h' → R v h' → Pv prog w A h' (f v) R') : Pv prog w A h (t >>= f) R' :=
  fun s Q E ks q => wpAny_bind (x s _ E ks fun v h' tk k r => y v h' (ks.trans k) r _ Q E Kp.rfl fun v₂ h₂ tk₂ k₂ r₂ => q v₂ h₂ tk₂ (k.trans k₂) r₂)

/-- values -/
abbrev In (i : Int) : Value → Heap → Prop := fun v _ => ∃ t, v = .int i t
abbrev Bo (b : Bool) : Value → Heap → Prop := fun v _ => v = .bool b
abbrev Is (x : Value) : Value → Heap → Prop := fun v _ => v = x
abbrev Eb (b : Bool) : Bool → Heap → Prop := fun v _ => v = b

/-- a name's value -/
def Rd (env : Env) (h : Heap) (x : Str) (v : Value) : Prop :=
  ∀ (M : Model) (A : Around) (s : Shared) (Q : Value → Shared → Prop) (E : Value → Shared → Prop), Kp h s.heap → Q v s → wpAny M A (loadName env x) Q E s
theorem Rd.up {x : Str} {v : Value} (r : Rd env h x v) (k : Kp h h₁) : Rd env h₁ x v := fun M A s Q E ks q => r M A s Q E (k.trans ks) q
theorem Rd.loc {x : Str} {v : Value} {m : Str → Option Value} (n : h.Ns env.locals m) (hv : m x = some v) (hk : env.scope.kind = .function := by rfl) (hl : env.kindOf x = some .local := by rfl) : Rd env h x v :=
  fun _ _ _ _ _ ks q => wpAny_loadName_local hk hl (n.keeps ks) hv q
theorem Rd.cel {x : Str} {v : Value} {c : Addr} (n : h.IsCell c (some v)) (hc : env.cells.lookup x = some c) (hk : env.scope.kind = .function := by rfl) (hl : env.kindOf x = some .cell := by rfl) : Rd env h x v :=
  fun _ _ _ _ _ ks q => wpAny_loadName_cell hk hl hc (n.keeps ks) q
theorem Rd.fre {x : Str} {v : Value} {c : Addr} (n : h.IsCell c (some v)) (hc : env.cells.lookup x = some c) (hk : env.scope.kind = .function := by rfl) (hl : env.kindOf x = some .free := by rfl)
    (hn : (x == ("__classdict__" : Str)) = false := by decide) : Rd env h x v :=
  fun _ _ _ _ _ ks q => wpAny_loadName_free hk hl hc (n.keeps ks) q hn

theorem Pv.name {x : Str} {pos : Pos} {v : Value} (r : Rd env h x v) (hd : (x == ("__debug__" : Str)) = false := by decide) : Pv prog w A h (eval (.Name x pos) env) (Is v) :=
  fun s _ _ ks q => wpAny_Name (r _ _ _ _ _ ks (q v s.heap s.toks Kp.rfl rfl)) hd
theorem Pv.nameI {x : Str} {pos : Pos} {i : Int} {t : Tok} (r : Rd env h x (.int i t)) (hd : (x == ("__debug__" : Str)) = false := by decide) : Pv prog w A h (eval (.Name x pos) env) (In i) :=
  (Pv.name r hd).mono fun _ _ _ e => ⟨t, e⟩
theorem Pv.cint {i : Int} {k : Nat} {pos : Pos} : Pv prog w A h (eval (.Constant (.int i) k pos) env) (In i) :=
  fun s _ _ _ q => wpAny_Constant_int (q _ s.heap _ Kp.rfl ⟨_, rfl⟩)
theorem Pv.cbool {b : Bool} {k : Nat} {pos : Pos} : Pv prog w A h (eval (.Constant (.bool b) k pos) env) (Bo b) :=
  fun s _ _ _ q => Constant_bool (q _ s.heap s.toks Kp.rfl rfl)
theorem Pv.cnone {k : Nat} {pos : Pos} : Pv prog w A h (eval (.Constant .none k pos) env) (Is .none) :=
  fun s _ _ _ q => Constant_none (q _ s.heap s.toks Kp.rfl rfl)

theorem Pv.bin {l r : Expr} {op : Operator} {pos : Pos} {R₁ : Value → Heap → Prop} {R₂ : Value → Value → Heap → Prop} {R : Value → Heap → Prop}
    (x : Pv prog w A h (eval l env) R₁) (y : ∀ v h', Kp h h' → R₁ v h' → Pv prog w A h' (eval r env) (R₂ v))
    (z : ∀ v₁ v₂ h', Kp h h' → R₂ v₁ v₂ h' → Pv prog w A h' (binaryOp op v₁ v₂) R) : Pv prog w A h (eval (.BinOp l op r pos) env) R :=
  fun s Q E ks q => wpAny_BinOp (x s _ E ks fun v h' tk k r₁ => y v h' (ks.trans k) r₁ _ _ E Kp.rfl fun v₂ h₂ tk₂ k₂ r₂ => z v v₂ h₂ ((ks.trans k).trans k₂) r₂ _ Q E Kp.rfl
    fun v₃ h₃ tk₃ k₃ r₃ => q v₃ h₃ tk₃ ((k.trans k₂).trans k₃) r₃)
theorem Pv.binI {l r : Expr} {op : Operator} {pos : Pos} {a b : Int} {R : Value → Heap → Prop} (x : Pv prog w A h (eval l env) (In a)) (y : Pv prog w A h (eval r env) (In b))
    (z : ∀ t u h', Kp h h' → Pv prog w A h' (binaryOp op (.int a t) (.int b u)) R) : Pv prog w A h (eval (.BinOp l op r pos) env) R :=
  Pv.bin (R₂ := fun v₁ v₂ _ => (∃ t, v₁ = .int a t) ∧ ∃ u, v₂ = .int b u) x (fun _ _ k e => (y.up k).mono fun _ _ _ e' => ⟨e, e'⟩) fun v₁ v₂ h' k e => by
    obtain ⟨⟨t, rfl⟩, u, rfl⟩ := e
    exact z t u h' k
theorem Pv.addI {l r : Expr} {pos : Pos} {a b : Int} (x : Pv prog w A h (eval l env) (In a)) (y : Pv prog w A h (eval r env) (In b)) : Pv prog w A h (eval (.BinOp l .Add r pos) env) (In (a + b)) :=
  .binI x y fun _ _ _ _ s _ _ _ q => add_int (q _ s.heap _ Kp.rfl ⟨_, rfl⟩)
theorem Pv.subI {l r : Expr} {pos : Pos} {a b : Int} (x : Pv prog w A h (eval l env) (In a)) (y : Pv prog w A h (eval r env) (In b)) : Pv prog w A h (eval (.BinOp l .Sub r pos) env) (In (a - b)) :=
  .binI x y fun _ _ _ _ s _ _ _ q => sub_int (q _ s.heap _ Kp.rfl ⟨_, rfl⟩)
theorem Pv.mulI {l r : Expr} {pos : Pos} {a b : Int} (x : Pv prog w A h (eval l env) (In a)) (y : Pv prog w A h (eval r env) (In b)) (hm : IntMulOk a b) : Pv prog w A h (eval (.BinOp l .Mult r pos) env) (In (a * b)) :=
  .binI x y fun _ _ _ _ s _ _ _ q => mul_int (q _ s.heap _ Kp.rfl ⟨_, rfl⟩) hm
theorem Pv.divI {l r : Expr} {pos : Pos} {a b : Int} (x : Pv prog w A h (eval l env) (In a)) (y : Pv prog w A h (eval r env) (In b)) (hb : b ≠ 0) (hs : b.natAbs < 1073741824) :
    Pv prog w A h (eval (.BinOp l .FloorDiv r pos) env) (In (a.fdiv b)) :=
  .binI x y fun _ _ _ _ s _ _ _ q => floordiv_int hb (q _ s.heap _ Kp.rfl ⟨_, rfl⟩) (Or.inl (PyProof.noPylong_small hs))
theorem Pv.modI {l r : Expr} {pos : Pos} {a b : Int} (x : Pv prog w A h (eval l env) (In a)) (y : Pv prog w A h (eval r env) (In b)) (hb : b ≠ 0) :
    Pv prog w A h (eval (.BinOp l .Mod r pos) env) (In (a.fmod b)) :=
  .binI x y fun _ _ _ _ s _ _ _ q => mod_int' hb (q _ s.heap _ Kp.rfl ⟨_, rfl⟩)
theorem Pv.powI {l r : Expr} {pos : Pos} {a b : Int} (x : Pv prog w A h (eval l env) (In a)) (y : Pv prog w A h (eval r env) (In b)) (hb : 0 ≤ b) (hs : (Builtin.Int.intBits a : Int) * b ≤ 2 ^ 27) :
    Pv prog w A h (eval (.BinOp l .Pow r pos) env) (In (a ^ b.toNat)) :=
  .binI x y fun _ _ _ _ s _ _ _ q => pow_int hb hs (q _ s.heap _ Kp.rfl ⟨_, rfl⟩)
theorem Pv.shlI {l r : Expr} {pos : Pos} {a b : Int} (x : Pv prog w A h (eval l env) (In a)) (y : Pv prog w A h (eval r env) (In b)) (hb : 0 ≤ b) (hs : (Builtin.Int.intBits a : Int) + b ≤ 2 ^ 27) :
    Pv prog w A h (eval (.BinOp l .LShift r pos) env) (In (a * 2 ^ b.toNat)) :=
  .binI x y fun _ _ _ _ s _ _ _ q => lshift_int hb hs (q _ s.heap _ Kp.rfl ⟨_, rfl⟩)
theorem Pv.shrI {l r : Expr} {pos : Pos} {a b : Int} (x : Pv prog w A h (eval l env) (In a)) (y : Pv prog w A h (eval r env) (In b)) (hb : 0 ≤ b) :
    Pv prog w A h (eval (.BinOp l .RShift r pos) env) (In (a.fdiv (2 ^ b.toNat))) :=
  .binI x y fun _ _ _ _ s _ _ _ q => rshift_int hb (q _ s.heap _ Kp.rfl ⟨_, rfl⟩)
theorem Pv.xorI {l r : Expr} {pos : Pos} {a b : Int} (x : Pv prog w A h (eval l env) (In a)) (y : Pv prog w A h (eval r env) (In b)) :
    Pv prog w A h (eval (.BinOp l .BitXor r pos) env) (In (Builtin.bitXor a b)) :=
  .binI x y fun _ _ _ _ s _ _ _ q => xor_int (q _ s.heap _ Kp.rfl ⟨_, rfl⟩)
theorem Pv.notI {e : Expr} {pos : Pos} {a : Int} (x : Pv prog w A h (eval e env) (In a)) : Pv prog w A h (eval (.UnaryOp .Invert e pos) env) (In (Builtin.bitNot a)) :=
  fun s Q E ks q => wpAny_UnaryOp (x s _ E ks fun v h' tk k r => by obtain ⟨t, rfl⟩ := r; exact invert_int (q _ h' _ k ⟨_, rfl⟩))
theorem Pv.negI {e : Expr} {pos : Pos} {a : Int} (x : Pv prog w A h (eval e env) (In a)) : Pv prog w A h (eval (.UnaryOp .USub e pos) env) (In (-a)) :=
  fun s Q E ks q => wpAny_UnaryOp (x s _ E ks fun v h' tk k r => by obtain ⟨t, rfl⟩ := r; exact neg_int (q _ h' _ k ⟨_, rfl⟩))

/-- comparisons -/
theorem Pv.cmp {l r : Expr} {op : CmpOp} {pos : Pos} {R₁ : Value → Heap → Prop} {R₂ : Value → Value → Heap → Prop} {R : Value → Heap → Prop}
    (x : Pv prog w A h (eval l env) R₁) (y : ∀ v h', Kp h h' → R₁ v h' → Pv prog w A h' (eval r env) (R₂ v))
    (z : ∀ v₁ v₂ h', Kp h h' → R₂ v₁ v₂ h' → Pv prog w A h' (compareOp op v₁ v₂) R) (hm : behindInMarks op r = false := by with_unfolding_all rfl) : Pv prog w A h (eval (.Compare l [op] [r] pos) env) R :=
  fun s Q E ks q => wpAny_Compare1 (x s _ E ks fun v h' tk k r₁ => y v h' (ks.trans k) r₁ _ _ E Kp.rfl fun v₂ h₂ tk₂ k₂ r₂ => z v v₂ h₂ ((ks.trans k).trans k₂) r₂ _ Q E Kp.rfl
    fun v₃ h₃ tk₃ k₃ r₃ => q v₃ h₃ tk₃ ((k.trans k₂).trans k₃) r₃) hm
/-- tests -/
theorem Pv.tcmp {l r : Expr} {op : CmpOp} {pos : Pos} {whole : Sem Value} {R₁ : Value → Heap → Prop} {R₂ : Value → Value → Heap → Prop} {b : Bool}
    (x : Pv prog w A h (eval l env) R₁) (y : ∀ v h', Kp h h' → R₁ v h' → Pv prog w A h' (eval r env) (R₂ v))
    (z : ∀ v₁ v₂ h', Kp h h' → R₂ v₁ v₂ h' → Pv prog w A h' (compareOp op v₁ v₂) (Bo b)) (hm : behindInMarks op r = false := by with_unfolding_all rfl) :
    Pv prog w A h (isTrue (.Compare l [op] [r] pos) env whole) (Eb b) :=
  fun s Q E ks q => wpAny_isTrue_Compare1 (x s _ E ks fun v h' tk k r₁ => y v h' (ks.trans k) r₁ _ _ E Kp.rfl fun v₂ h₂ tk₂ k₂ r₂ => z v v₂ h₂ ((ks.trans k).trans k₂) r₂ _ _ E Kp.rfl
    fun v₃ h₃ tk₃ k₃ r₃ => by obtain rfl := r₃; exact wpAny_truthy_bool (q _ h₃ tk₃ ((k.trans k₂).trans k₃) rfl)) hm
theorem cmpI_lt {a b : Int} {t u : Tok} : Pv prog w A h (compareOp .Lt (.int a t) (.int b u)) (Bo (decide (a < b))) := fun s _ _ _ q => lt_int (q _ s.heap s.toks Kp.rfl rfl)
theorem cmpI_le {a b : Int} {t u : Tok} : Pv prog w A h (compareOp .LtE (.int a t) (.int b u)) (Bo (decide (a ≤ b))) := fun s _ _ _ q => le_int (q _ s.heap s.toks Kp.rfl rfl)
theorem cmpI_eq {a b : Int} {t u : Tok} : Pv prog w A h (compareOp .Eq (.int a t) (.int b u)) (Bo (a == b)) := fun s _ _ _ q => eq_int (q _ s.heap s.toks Kp.rfl rfl)
theorem cmpI_gt {a b : Int} {t u : Tok} : Pv prog w A h (compareOp .Gt (.int a t) (.int b u)) (Bo (decide (b < a))) := fun s _ _ _ q => gt_int (q _ s.heap s.toks Kp.rfl rfl)
theorem cmpI_ne {a b : Int} {t u : Tok} : Pv prog w A h (compareOp .NotEq (.int a t) (.int b u)) (Bo (a != b)) := fun s _ _ _ q => ne_int (q _ s.heap s.toks Kp.rfl rfl)
theorem cmp_isNone {v : Value} : Pv prog w A h (compareOp .Is v .none) (Bo (v == .none)) := fun s _ _ _ q => is_none_gen (q _ s.heap s.toks Kp.rfl rfl)
theorem Pv.tI {l r : Expr} {op : CmpOp} {pos : Pos} {whole : Sem Value} {a b : Int} {c : Bool} (x : Pv prog w A h (eval l env) (In a)) (y : Pv prog w A h (eval r env) (In b))
    (z : ∀ t u h', Pv prog w A h' (compareOp op (.int a t) (.int b u)) (Bo c)) (hm : behindInMarks op r = false := by with_unfolding_all rfl) : Pv prog w A h (isTrue (.Compare l [op] [r] pos) env whole) (Eb c) :=
  Pv.tcmp (R₂ := fun v₁ v₂ _ => (∃ t, v₁ = .int a t) ∧ ∃ u, v₂ = .int b u) x (fun _ _ k e => (y.up k).mono fun _ _ _ e' => ⟨e, e'⟩) (fun v₁ v₂ h' k e => by
    obtain ⟨⟨t, rfl⟩, u, rfl⟩ := e
    exact z t u h') hm
theorem Pv.eI {l r : Expr} {op : CmpOp} {pos : Pos} {a b : Int} {c : Bool} (x : Pv prog w A h (eval l env) (In a)) (y : Pv prog w A h (eval r env) (In b))
    (z : ∀ t u h', Pv prog w A h' (compareOp op (.int a t) (.int b u)) (Bo c)) (hm : behindInMarks op r = false := by with_unfolding_all rfl) : Pv prog w A h (eval (.Compare l [op] [r] pos) env) (Bo c) :=
  Pv.cmp (R₂ := fun v₁ v₂ _ => (∃ t, v₁ = .int a t) ∧ ∃ u, v₂ = .int b u) x (fun _ _ k e => (y.up k).mono fun _ _ _ e' => ⟨e, e'⟩) (fun v₁ v₂ h' k e => by
    obtain ⟨⟨t, rfl⟩, u, rfl⟩ := e
    exact z t u h') hm
theorem Pv.tlt {l r : Expr} {pos : Pos} {whole : Sem Value} {a b : Int} (x : Pv prog w A h (eval l env) (In a)) (y : Pv prog w A h (eval r env) (In b)) (hm : behindInMarks .Lt r = false := by with_unfolding_all rfl) : Pv prog w A h (isTrue (.Compare l [.Lt] [r] pos) env whole) (Eb (decide (a < b))) := .tI x y (fun _ _ _ => cmpI_lt) hm
theorem Pv.tle {l r : Expr} {pos : Pos} {whole : Sem Value} {a b : Int} (x : Pv prog w A h (eval l env) (In a)) (y : Pv prog w A h (eval r env) (In b)) (hm : behindInMarks .LtE r = false := by with_unfolding_all rfl) : Pv prog w A h (isTrue (.Compare l [.LtE] [r] pos) env whole) (Eb (decide (a ≤ b))) := .tI x y (fun _ _ _ => cmpI_le) hm
theorem Pv.teq {l r : Expr} {pos : Pos} {whole : Sem Value} {a b : Int} (x : Pv prog w A h (eval l env) (In a)) (y : Pv prog w A h (eval r env) (In b)) (hm : behindInMarks .Eq r = false := by with_unfolding_all rfl) : Pv prog w A h (isTrue (.Compare l [.Eq] [r] pos) env whole) (Eb (a == b)) := .tI x y (fun _ _ _ => cmpI_eq) hm
theorem Pv.tgt {l r : Expr} {pos : Pos} {whole : Sem Value} {a b : Int} (x : Pv prog w A h (eval l env) (In a)) (y : Pv prog w A h (eval r env) (In b)) (hm : behindInMarks .Gt r = false := by with_unfolding_all rfl) : Pv prog w A h (isTrue (.Compare l [.Gt] [r] pos) env whole) (Eb (decide (b < a))) := .tI x y (fun _ _ _ => cmpI_gt) hm
theorem Pv.tne {l r : Expr} {pos : Pos} {whole : Sem Value} {a b : Int} (x : Pv prog w A h (eval l env) (In a)) (y : Pv prog w A h (eval r env) (In b)) (hm : behindInMarks .NotEq r = false := by with_unfolding_all rfl) : Pv prog w A h (isTrue (.Compare l [.NotEq] [r] pos) env whole) (Eb (a != b)) := .tI x y (fun _ _ _ => cmpI_ne) hm
theorem Pv.tisNone {l : Expr} {k : Nat} {p pos : Pos} {whole : Sem Value} {v : Value} (x : Pv prog w A h (eval l env) (Is v)) : Pv prog w A h (isTrue (.Compare l [.Is] [.Constant .none k p] pos) env whole) (Eb (v == .none)) :=
  Pv.tcmp (R₂ := fun v₁ v₂ _ => v₁ = v ∧ v₂ = .none) x (fun _ _ k e => Pv.cnone.mono fun _ _ _ e' => ⟨e, e'⟩) (fun v₁ v₂ h' k e => by
    obtain ⟨rfl, rfl⟩ := e
    exact cmp_isNone)
theorem Pv.tor {x y : Expr} {pos : Pos} {whole : Sem Value} {a b : Bool} (p : Pv prog w A h (isTrue x env (eval x env)) (Eb a)) (q : a = false → Pv prog w A h (isTrue y env (eval y env)) (Eb b)) :
    Pv prog w A h (isTrue (.BoolOp .Or [x, y] pos) env whole) (Eb (a || b)) :=
  fun s Q E ks k => isTrue_or (p s _ E ks fun v h' tk k₁ r => by
    obtain rfl := r
    cases v with
    | true => exact k true h' tk k₁ rfl
    | false =>
      simp only [Bool.false_eq_true, if_false]
      exact isTrue_or (q rfl _ _ E (ks.trans k₁) fun v₂ h₂ tk₂ k₂ r₂ => by
        obtain rfl := r₂
        cases v₂ with
        | true => exact k true h₂ tk₂ (k₁.trans k₂) rfl
        | false => exact isTrue_or_nil (k false h₂ tk₂ (k₁.trans k₂) rfl)))
theorem Pv.ifexp {t x y : Expr} {pos : Pos} {b : Bool} {R : Value → Heap → Prop} (p : Pv prog w A h (isTrue t env (eval t env)) (Eb b)) (q₁ : b = true → Pv prog w A h (eval x env) R) (q₂ : b = false → Pv prog w A h (eval y env) R) :
    Pv prog w A h (eval (.IfExp t x y pos) env) R :=
  fun s Q E ks k => IfExp_ (p s _ E ks fun v h' tk k₁ r => by
    obtain rfl := r
    cases v with
    | true => exact q₁ rfl _ Q E (ks.trans k₁) fun v₂ h₂ tk₂ k₂ r₂ => k v₂ h₂ tk₂ (k₁.trans k₂) r₂
    | false => exact q₂ rfl _ Q E (ks.trans k₁) fun v₂ h₂ tk₂ k₂ r₂ => k v₂ h₂ tk₂ (k₁.trans k₂) r₂)
end
end Mine
end

section
open PySem PySem.W PyProof.Rows
namespace Mine

abbrev Led := List (Addr × Obj)
def up (m : Str → Option Value) (x : Str) (v : Value) : Str → Option Value := fun y => if y = x then some v else m y
theorem up_self {m : Str → Option Value} {x : Str} {v : Value} : up m x v x = some v := by simp [up]
theorem up_ne {m : Str → Option Value} {x y : Str} {v : Value} (h : y ≠ x) : up m x v y = m y := by simp [up, h]

/-- what is known of the state s within an activation: gens, os; the base g stands; names m, cells cm; own objects led -/
structure St (G : Array GenState) (O : OsState × Drawn) (g : Heap) (env : Env) (cs : List (Str × Addr)) (m cm : Str → Option Value) (led : Led) (s : Shared) : Prop where
  gens : s.gens = G
  os : (s.os, s.drawn) = O
  keep : Kp g s.heap
  ns : s.heap.Ns env.locals m
  offL : g.get? env.locals = none
  cell : ∀ n c, (n, c) ∈ cs → s.heap.IsCell c (cm n)
  offC : ∀ n c, (n, c) ∈ cs → g.get? c = none ∧ c ≠ env.locals
  apart : cs.Pairwise fun x y => x.2 ≠ y.2
  luk : ∀ n c, (n, c) ∈ cs → cs.lookup n = some c
  own : ∀ p ∈ led, s.heap.get? p.1 = some p.2 ∧ g.get? p.1 = none ∧ p.1 ≠ env.locals ∧ ∀ n c, (n, c) ∈ cs → p.1 ≠ c
  nd : (led.map (·.1)).Nodup

theorem nodup_inj {l : List Nat} (h : l.Nodup) {i j : Nat} (hi : i < l.length) (hj : j < l.length) (e : l[i] = l[j]) : i = j := by
  have p := List.pairwise_iff_getElem.mp h
  rcases Nat.lt_trichotomy i j with q | q | q
  · exact absurd e (p i j hi hj q)
  · exact q
  · exact absurd e.symm (p j i hj hi q)
theorem none_of_new {h : Heap} : h.get? h.objs.size = none := by
  cases q : h.get? h.objs.size with
  | none => rfl
  | some o => exact absurd (Heap.lt_size q) (Nat.lt_irrefl _)

section
variable {G G' : Array GenState} {O : OsState × Drawn} {g : Heap} {env : Env} {cs : List (Str × Addr)} {m cm : Str → Option Value} {led led' : Led} {s s' : Shared} {h' : Heap}

theorem St.loc (S : St G O g env cs m cm led s) {x : Str} {v : Value} (hv : m x = some v) (hk : env.scope.kind = .function := by rfl) (hl : env.kindOf x = some .local := by rfl) : Rd env s.heap x v := .loc S.ns hv hk hl
theorem St.cel (S : St G O g env cs m cm led s) {x : Str} {v : Value} {c : Addr} (hv : cm x = some v) (hc : cs.lookup x = some c := by rfl) (hc' : env.cells.lookup x = some c := by rfl) (hk : env.scope.kind = .function := by rfl) (hl : env.kindOf x = some .cell := by rfl) : Rd env s.heap x v :=
  .cel (hv ▸ S.cell x c (PySem.mem_of_lookup hc)) hc' hk hl
theorem St.fre (S : St G O g env cs m cm led s) {x : Str} {v : Value} {c : Addr} (hv : cm x = some v) (hc : cs.lookup x = some c := by rfl) (hc' : env.cells.lookup x = some c := by rfl) (hk : env.scope.kind = .function := by rfl) (hl : env.kindOf x = some .free := by rfl)
    (hn : (x == ("__classdict__" : Str)) = false := by decide) : Rd env s.heap x v :=
  .fre (hv ▸ S.cell x c (PySem.mem_of_lookup hc)) hc' hk hl hn

/-- new objects alone have come -/
theorem St.growS (S : St G O g env cs m cm led s) (k : Kp s.heap s'.heap) (hg : s'.gens = G') (ho : (s'.os, s'.drawn) = (s.os, s.drawn)) : St G' O g env cs m cm led s' where
  gens := hg
  os := ho.trans S.os
  keep := S.keep.trans k
  ns := S.ns.keeps k
  offL := S.offL
  cell := fun n c e => (S.cell n c e).keeps k
  offC := S.offC
  apart := S.apart
  luk := S.luk
  own := fun p hp => let x := S.own p hp; ⟨k _ _ x.1, x.2⟩
  nd := S.nd
theorem St.grow (S : St G O g env cs m cm led s) (k : Kp s.heap h') (tk : Nat) : St G O g env cs m cm led { s with heap := h', toks := tk } := S.growS (s' := { s with heap := h', toks := tk }) k S.gens rfl
theorem St.tok (S : St G O g env cs m cm led s) (tk : Nat) : St G O g env cs m cm led { s with toks := tk } := S.growS (s' := { s with toks := tk }) Kp.rfl S.gens rfl

/-- an object that was not there joins the own ones -/
theorem St.addS (S : St G O g env cs m cm led s) {l : Addr} {o : Obj} (k : Kp s.heap s'.heap) (hg : s'.gens = G') (ho : (s'.os, s'.drawn) = (s.os, s.drawn)) (hn : s.heap.get? l = none) (hl : s'.heap.get? l = some o) :
    St G' O g env cs m cm ((l, o) :: led) s' := by
  have S' := S.growS k hg ho
  refine { S' with own := ?_, nd := ?_ }
  · intro p hp
    rcases List.mem_cons.mp hp with rfl | hp
    · refine ⟨hl, ?_, ?_, ?_⟩
      · cases q : g.get? l with
        | none => rfl
        | some o' => rw [S.keep _ _ q] at hn; cases hn
      · rintro rfl
        obtain ⟨_, _, _, q, _⟩ := S.ns
        rw [q] at hn; cases hn
      · intro n c hc e
        obtain ⟨o', q, _⟩ := S.cell n _ hc
        have e : l = c := e
        rw [← e, hn] at q; cases q
    · exact S'.own p hp
  · simp only [List.map_cons, List.nodup_cons]
    refine ⟨fun hm => ?_, S.nd⟩
    obtain ⟨p, hp, e⟩ := List.mem_map.mp hm
    have := (S.own p hp).1
    rw [e, hn] at this; cases this
theorem St.add (S : St G O g env cs m cm led s) {l : Addr} {o : Obj} (k : Kp s.heap h') (tk : Nat) (hn : s.heap.get? l = none) (hl : h'.get? l = some o) :
    St G O g env cs m cm ((l, o) :: led) { s with heap := h', toks := tk } := S.addS (s' := { s with heap := h', toks := tk }) k S.gens rfl hn hl

/-- own objects are forgotten -/
theorem St.sub (S : St G O g env cs m cm led s) (h : led'.Sublist led) : St G O g env cs m cm led' s :=
  { S with own := fun p hp => S.own p (h.mem hp), nd := S.nd.sublist (h.map _) }
theorem St.drop (S : St G O g env cs m cm led s) : St G O g env cs m cm [] s := S.sub (List.nil_sublist _)
theorem St.mem (S : St G O g env cs m cm led s) {a : Addr} {o : Obj} (i : Nat) (h : led[i]? = some (a, o)) : s.heap.get? a = some o := (S.own _ (List.mem_of_getElem? h)).1

/-- an own object has turned -/
theorem St.upd (S : St G O g env cs m cm led s) {a : Addr} {o o' : Obj} (i : Nat) (h : led[i]? = some (a, o)) (hs : Heap.SameBut a s.heap s'.heap) (hn : s'.heap.get? a = some o') (hg : s'.gens = G') (ho : (s'.os, s'.drawn) = (s.os, s.drawn)) :
    St G' O g env cs m cm (led.set i (a, o')) s' := by
  have ha := S.own _ (List.mem_of_getElem? h)
  have keepNe : ∀ b ob, b ≠ a → s.heap.get? b = some ob → s'.heap.get? b = some ob := fun b ob ne e => (hs.2 b ne).trans e
  have key : ∀ p ∈ led, p.1 = a → p = (a, o) := fun p hp e => by
    have h1 := (S.own p hp).1
    rw [e, ha.1] at h1
    cases p; cases h1; simp at e; rw [e]
  refine ⟨hg, ho.trans S.os, fun b ob e => keepNe b ob (fun q => ?_) (S.keep b ob e), ?_, S.offL, fun n c e => ?_, S.offC, S.apart, S.luk, fun p hp => ?_, ?_⟩
  · rw [q, ha.2.1] at e; cases e
  · exact S.ns.sameBut hs (Ne.symm ha.2.2.1)
  · exact (S.cell n c e).sameBut hs (Ne.symm (ha.2.2.2 n c e))
  · rcases List.mem_or_eq_of_mem_set hp with hp' | rfl
    · by_cases e : p.1 = a
      · -- p stands in the turned list and bears a: it is the turned entry
        obtain ⟨j, hj⟩ := List.mem_iff_getElem?.mp hp
        have hx := S.own p hp'
        have ji : j = i := by
          have nd' : ((led.set i (a, o')).map (·.1)) = led.map (·.1) := by
            rw [List.map_set]
            apply List.ext_getElem?
            intro k
            rw [List.getElem?_set]
            split
            · rename_i hki; subst hki
              split
              · rw [List.getElem?_map, h]; rfl
              · rename_i hlt; rw [List.getElem?_eq_none (by lia)]
            · rfl
          have h1 : ((led.set i (a, o')).map (·.1))[j]? = some a := by rw [List.getElem?_map, hj, ← e]; rfl
          have h2 : (led.map (·.1))[i]? = some a := by rw [List.getElem?_map, h]; rfl
          rw [nd'] at h1
          have lj := (List.getElem?_eq_some_iff.mp h1).1
          have li := (List.getElem?_eq_some_iff.mp h2).1
          have e1 := (List.getElem?_eq_some_iff.mp h1).2
          have e2 := (List.getElem?_eq_some_iff.mp h2).2
          exact nodup_inj S.nd lj li (e1.trans e2.symm)
        subst ji
        rw [List.getElem?_set] at hj
        have li := (List.getElem?_eq_some_iff.mp h).1
        simp [li] at hj
        subst hj
        exact ⟨hn, ha.2⟩
      · exact ⟨keepNe _ _ e (S.own p hp').1, (S.own p hp').2⟩
    · exact ⟨hn, ha.2⟩
  · have nd' : ((led.set i (a, o')).map (·.1)) = led.map (·.1) := by
      rw [List.map_set]
      apply List.ext_getElem?
      intro k
      rw [List.getElem?_set]
      split
      · rename_i hki; subst hki
        split
        · rw [List.getElem?_map, h]; rfl
        · rename_i hlt; rw [List.getElem?_eq_none (by lia)]
      · rfl
    rw [nd']; exact S.nd

/-- a name is stored -/
theorem St.set (S : St G O g env cs m cm led s) {x : Str} {v : Value} {h' : Heap} {tk : Nat} (hn : h'.Ns env.locals (fun y => if y = x then some v else m y)) (hs : Heap.SameBut env.locals s.heap h') :
    St G O g env cs (up m x v) cm led { s with heap := h', toks := tk } := by
  obtain ⟨oL, _, _, hL, hLd, _⟩ := S.ns
  refine ⟨S.gens, S.os, fun b ob e => (hs.2 b fun q => ?_).trans (S.keep b ob e), hn, S.offL, fun n c e => ?_, S.offC, S.apart, S.luk, fun p hp => ?_, S.nd⟩
  · rw [q, S.offL] at e; cases e
  · exact (S.cell n c e).sameBut hs (S.offC n c e).2
  · have x := S.own p hp
    exact ⟨(hs.2 _ x.2.2.1).trans x.1, x.2⟩
/-- a cell is stored -/
theorem St.setC (S : St G O g env cs m cm led s) {x : Str} {v : Value} {c : Addr} {h' : Heap} (hc : (x, c) ∈ cs) (hn : h'.IsCell c (some v)) (hs : Heap.SameBut c s.heap h') :
    St G O g env cs m (up cm x v) led { s with heap := h' } := by
  refine ⟨S.gens, S.os, fun b ob e => (hs.2 b fun q => ?_).trans (S.keep b ob e), S.ns.sameBut hs (Ne.symm (S.offC x c hc).2), S.offL, fun n c' e => ?_, S.offC, S.apart, S.luk, fun p hp => ?_, S.nd⟩
  · rw [q, (S.offC x c hc).1] at e; cases e
  · by_cases hcc : c' = c
    · subst hcc
      have : n = x := PySem.name_of_addr S.apart e hc
      subst this
      rw [up_self]; exact hn
    · have : n ≠ x := by
        intro q
        subst q
        have := (S.luk _ _ e).symm.trans (S.luk _ _ hc)
        exact hcc (Option.some.inj this)
      rw [up_ne this]; exact (S.cell n c' e).sameBut hs hcc
  · have y := S.own p hp
    exact ⟨(hs.2 _ (y.2.2.2 x c hc)).trans y.1, y.2⟩
end
end Mine
end

section
open PySem PySem.W PyProof.Rows
namespace Mine

section
variable {α : Type} {prog : Program} {w : World} {A : Around} {E : Value → Shared → Prop} {G G' : Array GenState} {O : OsState × Drawn} {g : Heap} {env : Env} {cs : List (Str × Addr)} {m cm : Str → Option Value} {led led' : Led} {s s' : Shared} {h' : Heap}

/-- a pure tree in a known state -/
theorem St.pv {t : Sem α} {R : α → Heap → Prop} {Q : α → Shared → Prop} (S : St G O g env cs m cm led s) (p : Pv prog w A s.heap t R)
    (k : ∀ v (s' : Shared), R v s'.heap → Kp s.heap s'.heap → St G O g env cs m cm led s' → Q v s') : wpAny (model prog w) A t Q E s :=
  p s Q E Kp.rfl fun v h' tk kp r => k v { s with heap := h', toks := tk } r kp (S.grow kp tk)

theorem St.store {x : Str} {v : Value} {Q : Unit → Shared → Prop} (S : St G O g env cs m cm led s) (k : ∀ s', St G O g env cs (up m x v) cm led s' → Q () s')
    (hk : env.scope.kind = .function := by rfl) (hl : env.kindOf x = some .local := by rfl) : wpAny (model prog w) A (storeName env x v) Q E s :=
  wpAny_storeName_local hl S.ns (fun h' hn hs => k _ (S.set hn hs)) (by rw [hk]; rfl)
theorem St.storeC {x : Str} {v : Value} {c : Addr} {Q : Unit → Shared → Prop} (S : St G O g env cs m cm led s) (k : ∀ s', St G O g env cs m (up cm x v) led s' → Q () s')
    (hc : cs.lookup x = some c := by rfl) (hc' : env.cells.lookup x = some c := by rfl) (hk : env.scope.kind = .function := by rfl) (hl : env.kindOf x = some .cell := by rfl) : wpAny (model prog w) A (storeName env x v) Q E s :=
  wpAny_storeName_cell hk hl hc' (S.cell x c (PySem.mem_of_lookup hc)) fun h' hn hs => k _ (S.setC (PySem.mem_of_lookup hc) hn hs)

theorem x_nil {Q : Flow → Shared → Prop} (k : Q .next s) : wpAny (model prog w) A (execs [] env) Q E s := wpAny_execs_nil k
/-- what is wanted, by a name -/
theorem hold {α : Type} {M : Model} {A : Around} {t : Sem α} {s : Shared} {Q₀ : α → Shared → Prop} {E : Value → Shared → Prop} (h : ∀ Q : α → Shared → Prop, (∀ f s', Q₀ f s' → Q f s') → wpAny M A t Q E s) : wpAny M A t Q₀ E s := h Q₀ fun _ _ x => x
/-- what stands behind a statement -/
def nxt (prog : Program) (w : World) (A : Around) (env : Env) (rest : List Stmt) (Q : Flow → Shared → Prop) (E : Value → Shared → Prop) : Flow → Shared → Prop :=
  fun f s' => match f with | .next => wpAny (model prog w) A (execs rest env) Q E s' | f => Q f s'
theorem x_cons {st : Stmt} {rest : List Stmt} {Q : Flow → Shared → Prop}
    (h : wpAny (model prog w) A (exec st env) (nxt prog w A env rest Q E) E s) :
    wpAny (model prog w) A (execs (st :: rest) env) Q E s := wpAny_execs_cons h

/-- x = e, e a plain value -/
theorem x_set {x : Str} {px pos : Pos} {e : Expr} {R : Value → Heap → Prop} {Q : Flow → Shared → Prop} (S : St G O g env cs m cm led s) (p : Pv prog w A s.heap (eval e env) R)
    (k : ∀ v (s₁ s' : Shared), R v s₁.heap → Kp s.heap s₁.heap → St G O g env cs (up m x v) cm led s' → Q .next s')
    (hs : swapsWith e (some (.Name x px)) pos.line env = pure false := by rfl) (hk : env.scope.kind = .function := by rfl) (hl : env.kindOf x = some .local := by rfl) :
    wpAny (model prog w) A (exec (.Assign [.Name x px] e pos) env) Q E s :=
  wpAny_Assign_Name (S.pv p fun v s₁ r kp S₁ => S₁.store (fun s' S' => k v s₁ s' r kp S') hk hl) hs
theorem x_setC {x : Str} {px pos : Pos} {e : Expr} {c : Addr} {R : Value → Heap → Prop} {Q : Flow → Shared → Prop} (S : St G O g env cs m cm led s) (p : Pv prog w A s.heap (eval e env) R)
    (k : ∀ v (s₁ s' : Shared), R v s₁.heap → Kp s.heap s₁.heap → St G O g env cs m (up cm x v) led s' → Q .next s')
    (hs : swapsWith e (some (.Name x px)) pos.line env = pure false := by rfl) (hc : cs.lookup x = some c := by rfl) (hc' : env.cells.lookup x = some c := by rfl) (hk : env.scope.kind = .function := by rfl) (hl : env.kindOf x = some .cell := by rfl) :
    wpAny (model prog w) A (exec (.Assign [.Name x px] e pos) env) Q E s :=
  wpAny_Assign_Name (S.pv p fun v s₁ r kp S₁ => S₁.storeC (fun s' S' => k v s₁ s' r kp S') hc hc' hk hl) hs
/-- ints -/
theorem x_setI {x : Str} {px pos : Pos} {e : Expr} {i : Int} {Q : Flow → Shared → Prop} (S : St G O g env cs m cm led s) (p : Pv prog w A s.heap (eval e env) (In i))
    (k : ∀ t s', St G O g env cs (up m x (.int i t)) cm led s' → Q .next s')
    (hs : swapsWith e (some (.Name x px)) pos.line env = pure false := by rfl) (hk : env.scope.kind = .function := by rfl) (hl : env.kindOf x = some .local := by rfl) :
    wpAny (model prog w) A (exec (.Assign [.Name x px] e pos) env) Q E s :=
  x_set S p (fun v s₁ s' r _ S' => by obtain ⟨t, rfl⟩ := r; exact k t s' S') hs hk hl
theorem x_setCI {x : Str} {px pos : Pos} {e : Expr} {c : Addr} {i : Int} {Q : Flow → Shared → Prop} (S : St G O g env cs m cm led s) (p : Pv prog w A s.heap (eval e env) (In i))
    (k : ∀ t s', St G O g env cs m (up cm x (.int i t)) led s' → Q .next s')
    (hs : swapsWith e (some (.Name x px)) pos.line env = pure false := by rfl) (hc : cs.lookup x = some c := by rfl) (hc' : env.cells.lookup x = some c := by rfl) (hk : env.scope.kind = .function := by rfl) (hl : env.kindOf x = some .cell := by rfl) :
    wpAny (model prog w) A (exec (.Assign [.Name x px] e pos) env) Q E s :=
  x_setC S p (fun v s₁ s' r _ S' => by obtain ⟨t, rfl⟩ := r; exact k t s' S') hs hc hc' hk hl

/-- one new object: a value that was not there, and its object -/
def New (h : Heap) (P : Obj → Heap → Prop) : Value → Heap → Prop := fun v h' => ∃ l o, v = .ref l ∧ h.get? l = none ∧ h'.get? l = some o ∧ P o h'

theorem x_setN {x : Str} {px pos : Pos} {e : Expr} {P : Obj → Heap → Prop} {Q : Flow → Shared → Prop} (S : St G O g env cs m cm led s) (p : Pv prog w A s.heap (eval e env) (New s.heap P))
    (k : ∀ l o (s₁ s' : Shared), P o s₁.heap → Kp s.heap s₁.heap → St G O g env cs (up m x (.ref l)) cm ((l, o) :: led) s' → Q .next s')
    (hs : swapsWith e (some (.Name x px)) pos.line env = pure false := by rfl) (hk : env.scope.kind = .function := by rfl) (hl : env.kindOf x = some .local := by rfl) :
    wpAny (model prog w) A (exec (.Assign [.Name x px] e pos) env) Q E s :=
  wpAny_Assign_Name (S.pv p fun v s₁ r kp S₁ => by
    obtain ⟨l, o, rfl, hn, hl', hp⟩ := r
    exact (S.addS kp S₁.gens (S₁.os.trans S.os.symm) hn hl').store (fun s' S' => k l o s₁ s' hp kp S') hk hl) hs
theorem x_setCN {x : Str} {px pos : Pos} {e : Expr} {c : Addr} {P : Obj → Heap → Prop} {Q : Flow → Shared → Prop} (S : St G O g env cs m cm led s) (p : Pv prog w A s.heap (eval e env) (New s.heap P))
    (k : ∀ l o (s₁ s' : Shared), P o s₁.heap → Kp s.heap s₁.heap → St G O g env cs m (up cm x (.ref l)) ((l, o) :: led) s' → Q .next s')
    (hs : swapsWith e (some (.Name x px)) pos.line env = pure false := by rfl) (hc : cs.lookup x = some c := by rfl) (hc' : env.cells.lookup x = some c := by rfl) (hk : env.scope.kind = .function := by rfl) (hl : env.kindOf x = some .cell := by rfl) :
    wpAny (model prog w) A (exec (.Assign [.Name x px] e pos) env) Q E s :=
  wpAny_Assign_Name (S.pv p fun v s₁ r kp S₁ => by
    obtain ⟨l, o, rfl, hn, hl', hp⟩ := r
    exact (S.addS kp S₁.gens (S₁.os.trans S.os.symm) hn hl').storeC (fun s' S' => k l o s₁ s' hp kp S') hc hc' hk hl) hs

/-- if -/
theorem x_if {t : Expr} {x y : List Stmt} {pos : Pos} {b : Bool} {Q : Flow → Shared → Prop} (S : St G O g env cs m cm led s) (p : Pv prog w A s.heap (isTrue t env (eval t env)) (Eb b))
    (k₁ : b = true → ∀ s', Kp s.heap s'.heap → St G O g env cs m cm led s' → wpAny (model prog w) A (execs x env) Q E s')
    (k₂ : b = false → ∀ s', Kp s.heap s'.heap → St G O g env cs m cm led s' → wpAny (model prog w) A (execs y env) Q E s') : wpAny (model prog w) A (exec (.If t x y pos) env) Q E s :=
  wpAny_If (S.pv p fun v s₁ r kp S₁ => by
    obtain rfl := r
    cases v with
    | true => exact k₁ rfl s₁ kp S₁
    | false => exact k₂ rfl s₁ kp S₁)
theorem x_ret {e : Expr} {pos : Pos} {R : Value → Heap → Prop} {Q : Flow → Shared → Prop} (S : St G O g env cs m cm led s) (p : Pv prog w A s.heap (eval e env) R)
    (k : ∀ v (s' : Shared), R v s'.heap → Kp s.heap s'.heap → St G O g env cs m cm led s' → Q (.ret v) s') : wpAny (model prog w) A (exec (.Return (some e) pos) env) Q E s :=
  wpAny_Return_some (S.pv p fun v s₁ r kp S₁ => k v s₁ r kp S₁)

/-- x op= e, ints -/
theorem x_aug {x : Str} {px pos : Pos} {op : Operator} {e : Expr} {a b c : Int} {t : Tok} {Q : Flow → Shared → Prop} (S : St G O g env cs m cm led s) (hv : m x = some (.int a t)) (p : Pv prog w A s.heap (eval e env) (In b))
    (z : ∀ t u h', Pv prog w A h' (inplaceOp op (.int a t) (.int b u)) (In c))
    (k : ∀ t s', St G O g env cs (up m x (.int c t)) cm led s' → Q .next s') (hk : env.scope.kind = .function := by rfl) (hl : env.kindOf x = some .local := by rfl) :
    wpAny (model prog w) A (exec (.AugAssign (.Name x px) op e pos) env) Q E s :=
  wpAny_AugAssign_Name (S.loc hv hk hl _ _ _ _ _ Kp.rfl (S.pv p fun v s₁ r kp S₁ => by
    obtain ⟨u, rfl⟩ := r
    exact S₁.pv (z t u s₁.heap) fun v₂ s₂ r₂ kp₂ S₂ => by
      obtain ⟨u₂, rfl⟩ := r₂
      exact S₂.store (fun s' S' => k u₂ s' S') hk hl))
theorem iadd_I {h : Heap} {a b : Int} {t u : Tok} : Pv prog w A h (inplaceOp .Add (.int a t) (.int b u)) (In (a + b)) := fun s _ _ _ q => iadd_int (q _ s.heap _ Kp.rfl ⟨_, rfl⟩)

/-- while -/
theorem x_while {t : Expr} {body : List Stmt} {pos : Pos} {Q : Flow → Shared → Prop} (I : Nat → Shared → Prop) (n : Nat) (h0 : I n s)
    (turn : ∀ n s, I n s → ∃ b, Pv prog w A s.heap (isTrue t env (eval t env)) (Eb b) ∧ ∀ h' tk, Kp s.heap h' → if b then
      wpAny (model prog w) A (execs body env) (fun f s₃ => match f with | .next | .cont => ∃ m, m < n ∧ I m s₃ | .brk => Q .next s₃ | .ret v => Q (.ret v) s₃) (fun _ _ => False) { s with heap := h', toks := tk }
      else Q .next { s with heap := h', toks := tk }) : wpAny (model prog w) A (exec (.While t body [] pos) env) Q E s := by
  refine wpAny_While (codeAny_whileLoop I (fun n s hI => ?_) n h0)
  obtain ⟨b, p, k⟩ := turn n s hI
  refine p s _ _ Kp.rfl fun v h' tk kp r => ?_
  obtain rfl := r
  have := k h' tk kp
  cases v with
  | true =>
    simp only [if_true] at this ⊢
    exact wpAny_mono this (fun f s₃ q => by cases f <;> exact q) fun _ _ q => q.elim
  | false =>
    simp only [Bool.false_eq_true, if_false] at this ⊢
    exact wpAny_execs_nil this
end

/-- the plain list and tuple objects -/
abbrev lst (vs : List Value) (n : Nat) : Obj := { cls := .type "list", data := .seq vs.toArray n }
abbrev tup (vs : List Value) : Obj := { cls := .type "tuple", data := .seq vs.toArray }
def Ints (ns : List Int) : Obj → Heap → Prop := fun o _ => ∃ vs n, o = lst vs n ∧ IntsAre vs ns

section
variable {prog : Program} {w : World} {A : Around} {env : Env} {cs : List (Str × Addr)} {h : Heap}
theorem isList_lst {h : Heap} {l : Addr} {vs : List Value} {n : Nat} (e : h.get? l = some (lst vs n)) : h.IsList l vs.toArray := ⟨_, e, rfl, n, rfl⟩
theorem isTup_tup {h : Heap} {l : Addr} {vs : List Value} (e : h.get? l = some (tup vs)) : IsTup h l vs.toArray := ⟨_, e, rfl, 0, rfl⟩
end
end Mine
end

section
open PySem PySem.W PyProof.Rows
namespace Mine
section
variable {prog : Program} {w : World} {A : Around} {env : Env} {h : Heap}

/-- arguments -/
theorem Pv.spl0 {R : List Value → Heap → Prop} {pos : Pos} (r : ∀ h', Kp h h' → R [] h') : Pv prog w A h (spliced (backTo pos (starEach [] env))) R :=
  fun s Q E ks q => Calls.spliced_nil (q [] s.heap s.toks Kp.rfl (r _ ks))
theorem Pv.splC {e : Expr} {rest : List Expr} {pos : Pos} {R₁ : Value → Heap → Prop} {R : List Value → Heap → Prop} (x : Pv prog w A h (eval e env) R₁)
    (y : ∀ v h', Kp h h' → R₁ v h' → Pv prog w A h' (spliced (backTo pos (starEach rest env))) (fun vs h'' => R (v :: vs) h''))
    (he : starEach (e :: rest) env = (false, eval e env) :: starEach rest env := by rfl) : Pv prog w A h (spliced (backTo pos (starEach (e :: rest) env))) R := by
  intro s Q E ks q
  rw [he]
  exact Calls.spliced_cons (x s _ E ks fun v h' tk k r => y v h' (ks.trans k) r _ _ E Kp.rfl fun vs h₂ tk₂ k₂ r₂ => q _ h₂ tk₂ (k.trans k₂) r₂)

theorem Pv.args1 {e : Expr} {pos : Pos} {P : Value → Prop} (x : Pv prog w A h (eval e env) (fun v _ => P v)) (he : starEach [e] env = [(false, eval e env)] := by rfl) :
    Pv prog w A h (spliced (backTo pos (starEach [e] env))) (fun vs _ => ∃ v, vs = [v] ∧ P v) :=
  .splC x (fun v h' k r => .spl0 fun _ _ => ⟨v, rfl, r⟩) he
theorem Pv.args2 {e₁ e₂ : Expr} {pos : Pos} {P₁ P₂ : Value → Prop} (x : Pv prog w A h (eval e₁ env) (fun v _ => P₁ v)) (y : Pv prog w A h (eval e₂ env) (fun v _ => P₂ v))
    (he : starEach [e₁, e₂] env = [(false, eval e₁ env), (false, eval e₂ env)] := by rfl) (he₂ : starEach [e₂] env = [(false, eval e₂ env)] := by rfl) :
    Pv prog w A h (spliced (backTo pos (starEach [e₁, e₂] env))) (fun vs _ => ∃ v₁ v₂, vs = [v₁, v₂] ∧ P₁ v₁ ∧ P₂ v₂) :=
  .splC x (fun v h' k r => .splC (y.up k) (fun v' h'' k' r' => .spl0 fun _ _ => ⟨v, v', rfl, r, r'⟩) he₂) (by rw [he, he₂])
theorem Pv.args3 {e₁ e₂ e₃ : Expr} {pos : Pos} {P₁ P₂ P₃ : Value → Prop} (x : Pv prog w A h (eval e₁ env) (fun v _ => P₁ v)) (y : Pv prog w A h (eval e₂ env) (fun v _ => P₂ v)) (z : Pv prog w A h (eval e₃ env) (fun v _ => P₃ v))
    (he : starEach [e₁, e₂, e₃] env = [(false, eval e₁ env), (false, eval e₂ env), (false, eval e₃ env)] := by rfl) (he₂ : starEach [e₂, e₃] env = [(false, eval e₂ env), (false, eval e₃ env)] := by rfl) (he₃ : starEach [e₃] env = [(false, eval e₃ env)] := by rfl) :
    Pv prog w A h (spliced (backTo pos (starEach [e₁, e₂, e₃] env))) (fun vs _ => ∃ v₁ v₂ v₃, vs = [v₁, v₂, v₃] ∧ P₁ v₁ ∧ P₂ v₂ ∧ P₃ v₃) :=
  .splC x (fun v h' k r => (Pv.args2 (y.up k) (z.up k) he₂ he₃).mono fun vs _ _ q => by obtain ⟨a, b, rfl, ha, hb⟩ := q; exact ⟨v, a, b, rfl, r, ha, hb⟩) (by rw [he, he₂])
theorem Pv.args4 {e₁ e₂ e₃ e₄ : Expr} {pos : Pos} {P₁ P₂ P₃ P₄ : Value → Prop} (x : Pv prog w A h (eval e₁ env) (fun v _ => P₁ v)) (y : Pv prog w A h (eval e₂ env) (fun v _ => P₂ v)) (z : Pv prog w A h (eval e₃ env) (fun v _ => P₃ v)) (u : Pv prog w A h (eval e₄ env) (fun v _ => P₄ v))
    (he : starEach [e₁, e₂, e₃, e₄] env = [(false, eval e₁ env), (false, eval e₂ env), (false, eval e₃ env), (false, eval e₄ env)] := by rfl) (he₂ : starEach [e₂, e₃, e₄] env = [(false, eval e₂ env), (false, eval e₃ env), (false, eval e₄ env)] := by rfl)
    (he₃ : starEach [e₃, e₄] env = [(false, eval e₃ env), (false, eval e₄ env)] := by rfl) (he₄ : starEach [e₄] env = [(false, eval e₄ env)] := by rfl) :
    Pv prog w A h (spliced (backTo pos (starEach [e₁, e₂, e₃, e₄] env))) (fun vs _ => ∃ v₁ v₂ v₃ v₄, vs = [v₁, v₂, v₃, v₄] ∧ P₁ v₁ ∧ P₂ v₂ ∧ P₃ v₃ ∧ P₄ v₄) :=
  .splC x (fun v h' k r => (Pv.args3 (y.up k) (z.up k) (u.up k) he₂ he₃ he₄).mono fun vs _ _ q => by obtain ⟨a, b, c, rfl, ha, hb, hc⟩ := q; exact ⟨v, a, b, c, rfl, r, ha, hb, hc⟩) (by rw [he, he₂])
theorem evalArgs_of {f : Value} {e : Expr} {rest : List Expr} {pos : Pos} {Q : Args → Shared → Prop} {E : Value → Shared → Prop} {s : Shared} (he : starEach (e :: rest) env = (false, eval e env) :: starEach rest env)
    (x : wpAny (model prog w) A (spliced (backTo pos (starEach (e :: rest) env))) (fun vs s' => Q ⟨vs, []⟩ s') E s) : wpAny (model prog w) A (evalArgs f true (backTo pos (starEach (e :: rest) env)) []) Q E s := by
  rw [he] at x ⊢
  exact Calls.evalArgs_plain x

theorem callNameEq (f : Str) (pf pos : Pos) (args : List Expr) : eval (.Call (.Name f pf) args [] pos) env = (do callWith pos (← eval (.Name f pf) env) [] (backTo pos (starEach args env)) (backToKw pos (keywordEach [] env))) := rfl

theorem Pv.callB {f : Str} {id : String} {pf pos : Pos} {e : Expr} {rest : List Expr} {R₁ : List Value → Heap → Prop} {R : Value → Heap → Prop} (hf : Rd env h f (.builtin id))
    (a : Pv prog w A h (spliced (backTo pos (starEach (e :: rest) env))) R₁) (z : ∀ vs h', Kp h h' → R₁ vs h' → Pv prog w A h' (call (.builtin id) vs []) R)
    (he : starEach (e :: rest) env = (false, eval e env) :: starEach rest env := by rfl) (hp : (backTo pos (starEach (e :: rest) env)).any (·.1) = false := by rfl) (hd : (f == ("__debug__" : Str)) = false := by decide) :
    Pv prog w A h (eval (.Call (.Name f pf) (e :: rest) [] pos) env) R := by
  intro s Q E ks q
  rw [callNameEq]
  refine wpAny_bind (Pv.name hf hd s _ E ks fun v h' tk k r => ?_)
  obtain rfl := r
  refine Calls.callWith_builtin hp (evalArgs_of he ?_)
  refine a _ _ E (ks.trans k) fun vs h₂ tk₂ k₂ r₂ => ?_
  exact z vs h₂ ((ks.trans k).trans k₂) r₂ _ _ E Kp.rfl fun v h₃ tk₃ k₃ r₃ => q v h₃ tk₃ ((k.trans k₂).trans k₃) r₃

/-- a call of a def -/
theorem callF_of {f : Str} {fa : Addr} {o : Obj} {fd : FuncData} {pf pos : Pos} {e : Expr} {rest : List Expr} {Q : Value → Shared → Prop} {E : Value → Shared → Prop} {s : Shared} (hf : Rd env s.heap f (.ref fa)) (ho : s.heap.get? fa = some o) (hd : o.data = .func fd)
    {R₁ : List Value → Heap → Prop} (a : Pv prog w A s.heap (spliced (backTo pos (starEach (e :: rest) env))) R₁)
    (z : ∀ vs h' tk, Kp s.heap h' → R₁ vs h' → wpAny (model prog w) A (call (.ref fa) vs []) Q E { s with heap := h', toks := tk })
    (he : starEach (e :: rest) env = (false, eval e env) :: starEach rest env := by rfl) (hdb : (f == ("__debug__" : Str)) = false := by decide) :
    wpAny (model prog w) A (eval (.Call (.Name f pf) (e :: rest) [] pos) env) Q E s := by
  rw [callNameEq]
  refine wpAny_bind (Pv.name (prog := prog) hf hdb s _ E Kp.rfl fun v h' tk k r => ?_)
  obtain rfl := r
  refine Calls.callWith_function (o := o) (fd := fd) (evalArgs_of he ?_)
  refine a _ _ E k fun vs h₂ tk₂ k₂ r₂ => ?_
  exact ⟨⟨(k.trans k₂) _ _ ho, hd⟩, z vs h₂ tk₂ (k.trans k₂) r₂⟩
theorem Pv.callF {f : Str} {fa : Addr} {o : Obj} {fd : FuncData} {pf pos : Pos} {e : Expr} {rest : List Expr} {R₁ : List Value → Heap → Prop} {R : Value → Heap → Prop} (hf : Rd env h f (.ref fa)) (ho : h.get? fa = some o) (hd : o.data = .func fd)
    (a : Pv prog w A h (spliced (backTo pos (starEach (e :: rest) env))) R₁) (z : ∀ vs h', Kp h h' → R₁ vs h' → Pv prog w A h' (call (.ref fa) vs []) R)
    (he : starEach (e :: rest) env = (false, eval e env) :: starEach rest env := by rfl) (hdb : (f == ("__debug__" : Str)) = false := by decide) :
    Pv prog w A h (eval (.Call (.Name f pf) (e :: rest) [] pos) env) R := by
  intro s Q E ks q
  refine callF_of (hf.up ks) (ks _ _ ho) hd (a.up ks) (fun vs h' tk k r => ?_) he hdb
  exact z vs h' (ks.trans k) r _ _ E Kp.rfl fun v h₃ tk₃ k₃ r₃ => q v h₃ tk₃ (k.trans k₃) r₃

/-- displays -/
theorem Pv.tupD {elts : List Expr} {k : Nat} {pos : Pos} {R₁ : List Value → Heap → Prop} {R : Value → Heap → Prop} (a : Pv prog w A h (spliced (backTo pos (starEach elts env))) R₁)
    (z : ∀ vs h' h'' l, Kp h h' → R₁ vs h' → h'.get? l = none → h.get? l = none → Kp h' h'' → h''.get? l = some (tup vs) → R (.ref l) h'') (hsz : ∀ vs h', R₁ vs h' → vs.length ≤ 1000000) : Pv prog w A h (eval (.Tuple elts k pos) env) R := by
  intro s Q E ks q
  refine Tuple_ (a s _ E ks fun vs h' tk kk r => ?_)
  refine wpAny_newObj_type ?_ (by show vs.toArray.size ≤ sizeLine; rw [List.size_toArray, sizeLine_eq]; have := hsz vs h' r; lia)
  have hn : ∀ g, Kp g h' → g.get? h'.objs.size = none := fun g kg => by
    cases e : g.get? h'.objs.size with
    | none => rfl
    | some o => have := kg _ _ e; rw [none_of_new] at this; cases this
  exact q _ _ tk (kk.trans (Kp.push _ _)) (z vs h' _ _ (ks.trans kk) r none_of_new (hn h (ks.trans kk)) (Kp.push _ _) (Heap.get?_push_size _ rfl))
theorem Pv.lstD {elts : List Expr} {pos : Pos} {R₁ : List Value → Heap → Prop} {R : Value → Heap → Prop} (a : Pv prog w A h (spliced (backTo pos (starEach elts env))) R₁)
    (z : ∀ vs h' h'' l, Kp h h' → R₁ vs h' → h'.get? l = none → h.get? l = none → Kp h' h'' → h''.get? l = some (lst vs 0) → R (.ref l) h'') (hsz : ∀ vs h', R₁ vs h' → vs.length ≤ 1000000) : Pv prog w A h (eval (.List elts pos) env) R := by
  intro s Q E ks q
  refine List_ (a s _ E ks fun vs h' tk kk r => ?_)
  refine wpAny_newObj_type ?_ (by show vs.toArray.size ≤ sizeLine; rw [List.size_toArray, sizeLine_eq]; have := hsz vs h' r; lia)
  have hn : ∀ g, Kp g h' → g.get? h'.objs.size = none := fun g kg => by
    cases e : g.get? h'.objs.size with
    | none => rfl
    | some o => have := kg _ _ e; rw [none_of_new] at this; cases this
  exact q _ _ tk (kk.trans (Kp.push _ _)) (z vs h' _ _ (ks.trans kk) r none_of_new (hn h (ks.trans kk)) (Kp.push _ _) (Heap.get?_push_size _ rfl))

/-- items -/
theorem IntsAre.at_ {vs : List Value} {ns : List Int} (hi : IntsAre vs ns) {i : Nat} (hl : i < ns.length) : ∃ t, vs[i]? = some (.int ns[i] t) := hi.get i ns[i] (by simp [hl])

theorem Pv.item {value slice : Expr} {pos : Pos} {l : Addr} {vs : List Value} {n : Nat} {k : Int} {x : Value} (a : Pv prog w A h (eval value env) (Is (.ref l))) (b : Pv prog w A h (eval slice env) (In k))
    (ho : h.get? l = some (lst vs n)) (h0 : 0 ≤ k) (h1 : k < 2 ^ 63) (hx : vs[k.toNat]? = some x)
    (hs : ∀ u, subscripted slice false (.ref l) (.int k u) = operate [.ref l, .int k u] (getItem (.ref l) (.int k u)) := by intro _; with_unfolding_all rfl) (hg : ∀ r, letTemporaryGo value (.ref l) r = pure () := by intro _; with_unfolding_all rfl) :
    Pv prog w A h (eval (.Subscript value slice pos) env) (Is x) := by
  intro s Q E ks q
  refine Subscript_ (a s _ E ks fun v h' tk kk r => b _ _ E (ks.trans kk) fun v₂ h₂ tk₂ k₂ r₂ => ?_)
  obtain rfl := r
  obtain ⟨u, rfl⟩ := r₂
  exact item_listL (isList_lst (((ks.trans kk).trans k₂) _ _ ho)) h0 h1 hx (q _ h₂ tk₂ (kk.trans k₂) rfl) (hs u) hg
theorem IntsAre.at? {vs : List Value} {ns : List Int} (hi : IntsAre vs ns) {i : Nat} {y : Int} (hl : ns[i]? = some y) : ∃ t, vs[i]? = some (.int y t) := hi.get i y hl
theorem Pv.itemI {value slice : Expr} {pos : Pos} {l : Addr} {vs : List Value} {ns : List Int} {n : Nat} {k y : Int} (a : Pv prog w A h (eval value env) (Is (.ref l))) (b : Pv prog w A h (eval slice env) (In k))
    (ho : h.get? l = some (lst vs n)) (hi : IntsAre vs ns) (h0 : 0 ≤ k) (h1 : k < 2 ^ 63) (hk : ns[k.toNat]? = some y)
    (hs : ∀ u, subscripted slice false (.ref l) (.int k u) = operate [.ref l, .int k u] (getItem (.ref l) (.int k u)) := by intro _; with_unfolding_all rfl) (hg : ∀ r, letTemporaryGo value (.ref l) r = pure () := by intro _; with_unfolding_all rfl) :
    Pv prog w A h (eval (.Subscript value slice pos) env) (In y) := by
  obtain ⟨t, ht⟩ := IntsAre.at? hi hk
  exact (Pv.item a b ho h0 h1 ht hs hg).mono fun _ _ _ e => ⟨t, e⟩

/-- len -/
theorem len_pv {l : Addr} {vs : List Value} {n : Nat} (ho : h.get? l = some (lst vs n)) (hf : vs.length ≤ 1000000000) : Pv prog w A h (call (.builtin "len") [.ref l] []) (In vs.length) := by
  intro s Q E ks q
  have := Calls.call_len_list (prog := prog) (w := w) (A := A) (E := E) (s := s) (Q := Q) (isList_lst (ks _ _ ho)) (by simp only [List.size_toArray]; lia)
  simp only [List.size_toArray] at this
  exact this (q _ s.heap _ Kp.rfl ⟨_, rfl⟩)
end
end Mine
end

section
open PySem PySem.W PyProof.Rows
namespace Mine
section
variable {prog : Program} {w : World} {A : Around} {E : Value → Shared → Prop} {G : Array GenState} {O : OsState × Drawn} {g : Heap} {env : Env} {cs : List (Str × Addr)} {m cm : Str → Option Value} {led : Led} {s : Shared}

/-- a method of a list: o.name(args), its tree behind the callee -/
theorem meth_list {o : Expr} {name : Str} {id : String} {apos pos : Pos} {args : List Expr} {l : Addr} {vs : List Value} {n : Nat} {Q : Value → Shared → Prop} (p : Pv prog w A s.heap (eval o env) (Is (.ref l))) (ho : s.heap.get? l = some (lst vs n))
    (slot : Slot "list" name id) (hty : typeOf (.builtin id) = pure (.type "method_descriptor"))
    (h : ∀ h' tk, Kp s.heap h' → wpAny (model prog w) A (callWith pos (.builtin id) [.ref l] (backTo pos (starEach args env)) []) Q E { s with heap := h', toks := tk })
    (hbase : attributeBase o name env (eval o env) = eval o env := by rfl)
    (hfew : ((backTo pos (starEach args env)).all (fun x => !x.1) && (backToKw pos (keywordEach [] env)).all (fun x => x.1.isSome)
      && decide (args.length + ([] : List Keyword).length + (if ([] : List Keyword).isEmpty then 0 else 1) < 30)) = true := by rfl)
    (hline : (apos.endLine == pos.line) = true := by rfl) :
    wpAny (model prog w) A (eval (.Call (.Attribute o name apos) args [] pos) env) Q E s :=
  wpAny_Call_method hbase hfew hline F.plainAttrs_list slot hty (p s _ E Kp.rfl fun v h' tk k r => by
    obtain rfl := r
    exact ⟨⟨_, k _ _ ho, rfl⟩, fun a e => by cases e; exact ⟨_, k _ _ ho, rfl⟩, h h' tk k⟩)

theorem callW1 {id : String} {first : List Value} {e : Expr} {pos : Pos} {R : Value → Heap → Prop} {Q : Value → Shared → Prop} (p : Pv prog w A s.heap (eval e env) R)
    (h : ∀ v h' tk, Kp s.heap h' → R v h' → wpAny (model prog w) A (call (.builtin id) (first ++ [v]) []) Q E { s with heap := h', toks := tk }) (he : starEach [e] env = [(false, eval e env)] := by rfl) :
    wpAny (model prog w) A (callWith pos (.builtin id) first (backTo pos (starEach [e] env)) []) Q E s := by
  refine Calls.callWith_builtin (by rw [he]; rfl) (evalArgs_of he ?_)
  rw [he]
  exact Calls.spliced_cons (p s _ E Kp.rfl fun v h' tk k r => Calls.spliced_nil (h v h' tk k r))
theorem callW2 {id : String} {first : List Value} {e₁ e₂ : Expr} {pos : Pos} {P₁ P₂ : Value → Prop} {Q : Value → Shared → Prop} (p₁ : Pv prog w A s.heap (eval e₁ env) (fun v _ => P₁ v)) (p₂ : Pv prog w A s.heap (eval e₂ env) (fun v _ => P₂ v))
    (h : ∀ v₁ v₂ h' tk, Kp s.heap h' → P₁ v₁ → P₂ v₂ → wpAny (model prog w) A (call (.builtin id) (first ++ [v₁, v₂]) []) Q E { s with heap := h', toks := tk })
    (he : starEach [e₁, e₂] env = [(false, eval e₁ env), (false, eval e₂ env)] := by rfl) (he₂ : starEach [e₂] env = [(false, eval e₂ env)] := by rfl) :
    wpAny (model prog w) A (callWith pos (.builtin id) first (backTo pos (starEach [e₁, e₂] env)) []) Q E s := by
  refine Calls.callWith_builtin (by rw [he]; rfl) (evalArgs_of (by rw [he, he₂]) ?_)
  refine Pv.args2 (prog := prog) p₁ p₂ he he₂ s _ E Kp.rfl fun vs h' tk k r => ?_
  obtain ⟨v₁, v₂, rfl, q₁, q₂⟩ := r
  exact h v₁ v₂ h' tk k q₁ q₂
theorem callW0 {id : String} {first : List Value} {pos : Pos} {Q : Value → Shared → Prop} (h : wpAny (model prog w) A (call (.builtin id) (first ++ []) []) Q E s) :
    wpAny (model prog w) A (callWith pos (.builtin id) first (backTo pos (starEach [] env)) []) Q E s :=
  Calls.callWith_builtin rfl (PySem.evalArgs_none h)

/-- l.append(e) -/
theorem x_append {ln : Str} {pl apos pos spos : Pos} {e : Expr} {l : Addr} {vs : List Value} {n i : Nat} {R : Value → Heap → Prop} {Q : Flow → Shared → Prop} (S : St G O g env cs m cm led s) (hl : Rd env s.heap ln (.ref l)) (hi : led[i]? = some (l, lst vs n))
    (p : Pv prog w A s.heap (eval e env) R) (hsz : vs.length ≤ 1000000)
    (k : ∀ v (s₁ s' : Shared), R v s₁.heap → Kp s.heap s₁.heap → St G O g env cs m cm (led.set i (l, lst (vs ++ [v]) (n + 1))) s' → Q .next s')
    (he : starEach [e] env = [(false, eval e env)] := by rfl) (hline : (apos.endLine == pos.line) = true := by rfl) (hint : interactive env = false := by rfl)
    (hdb : (ln == ("__debug__" : Str)) = false := by decide) :
    wpAny (model prog w) A (exec (.Expr (.Call (.Attribute (.Name ln pl) "append" apos) [e] [] pos) spos) env) Q E s := by
  refine wpAny_Expr_any ?_ hint rfl
  refine meth_list (vs := vs) (n := n) (Pv.name hl hdb) (S.mem i hi) F.slot_list_append F.type_list_append (fun h' tk k' => ?_) rfl (by rw [he]; rfl) hline
  refine callW1 (s := { s with heap := h', toks := tk }) (p.up k') (fun v h₂ tk₂ k₂ r => ?_) he
  have S₂ := S.grow (k'.trans k₂) tk₂
  refine append_at (s := { s with heap := h₂, toks := tk₂ }) (S₂.mem i hi) (fun h₃ hs ho => ?_) (by rw [List.size_toArray, sizeLine_eq]; lia)
  rw [List.push_toArray] at ho
  exact k v { s with heap := h₂, toks := tk₂ } { s with heap := h₃, toks := tk₂ } r (k'.trans k₂) (S₂.upd (s' := { s with heap := h₃, toks := tk₂ }) i hi hs ho S.gens rfl)
/-- l.append(e), e a new object -/
theorem x_appendN {ln : Str} {pl apos pos spos : Pos} {e : Expr} {l : Addr} {vs : List Value} {n i : Nat} {P : Obj → Heap → Prop} {Q : Flow → Shared → Prop} (S : St G O g env cs m cm led s) (hl : Rd env s.heap ln (.ref l)) (hi : led[i]? = some (l, lst vs n))
    (p : Pv prog w A s.heap (eval e env) (New s.heap P)) (hsz : vs.length ≤ 1000000)
    (k : ∀ a o (s₁ s' : Shared), P o s₁.heap → Kp s.heap s₁.heap → St G O g env cs m cm ((a, o) :: led.set i (l, lst (vs ++ [.ref a]) (n + 1))) s' → Q .next s')
    (he : starEach [e] env = [(false, eval e env)] := by rfl) (hline : (apos.endLine == pos.line) = true := by rfl) (hint : interactive env = false := by rfl)
    (hdb : (ln == ("__debug__" : Str)) = false := by decide) :
    wpAny (model prog w) A (exec (.Expr (.Call (.Attribute (.Name ln pl) "append" apos) [e] [] pos) spos) env) Q E s := by
  refine wpAny_Expr_any ?_ hint rfl
  refine meth_list (vs := vs) (n := n) (Pv.name hl hdb) (S.mem i hi) F.slot_list_append F.type_list_append (fun h' tk k' => ?_) rfl (by rw [he]; rfl) hline
  refine callW1 (s := { s with heap := h', toks := tk }) (p.up k') (fun v h₂ tk₂ k₂ r => ?_) he
  obtain ⟨a, o, rfl, hn, ha, hp⟩ := r
  have S₂ := S.addS (s' := { s with heap := h₂, toks := tk₂ }) (k'.trans k₂) S.gens rfl hn ha
  refine append_at (s := { s with heap := h₂, toks := tk₂ }) (S₂.mem (i + 1) (by simpa using hi)) (fun h₃ hs ho => ?_) (by rw [List.size_toArray, sizeLine_eq]; lia)
  rw [List.push_toArray] at ho
  have := S₂.upd (s' := { s with heap := h₃, toks := tk₂ }) (i + 1) (by simpa using hi) hs ho S.gens rfl
  exact k a o { s with heap := h₂, toks := tk₂ } { s with heap := h₃, toks := tk₂ } hp (k'.trans k₂) (by simpa using this)

theorem upd_lst {h : Heap} {l : Addr} {vs vs' : List Value} {n : Nat} (f : Array Value → Array Value) (ho : h.get? l = some (lst vs n)) (e : f vs.toArray = vs'.toArray) :
    (h.update l (Obj.mapSeq f)).get? l = some (lst vs' (if vs'.length = vs.length then n else n + 1)) := by
  have q := PySem.IsL.update ho f
  rw [e] at q
  simp only [List.size_toArray, beq_iff_eq] at q
  exact q
theorem ins_atZ {l : Addr} {vs : List Value} {n : Nat} {x : Int} {u : Tok} {y : Value} {Q : Value → Shared → Prop} (ho : s.heap.get? l = some (lst vs n)) (hf : Builtin.List.listFitsIndex x = true) (hz : vs.length ≤ sizeLine)
    (h : ∀ h', Heap.SameBut l s.heap h' → h'.get? l = some (lst (kl_ins vs x y) (n + 1)) → Q .none { s with heap := h' }) :
    wpAny (model prog w) A (call (.builtin "list.insert") [.ref l, .int x u, y]) Q E s := by
  refine call_meets PySem.F.slot_list_insert ⟨_, ho, rfl⟩ PySem.F.entry_list_insert (PySem.F.args_list_insert_3 _ _ _) (PySem.AutoSeq1.list_insert_list_int_val_1 l _ n x u y (by simp [hf]) (by rw [List.size_toArray]; exact hz)) ⟨ho, h _ (Heap.SameBut.update ..) ?_⟩
  have q := upd_lst (vs' := kl_ins vs x y) (fun xs : Array Value => have k := if x < 0 then (x + (xs.size : Int)).toNat else min x.toNat xs.size; (xs.extract 0 k).push y ++ xs.extract k) ho (by
    show (vs.toArray.extract 0 (if x < 0 then (x + (vs.toArray.size : Int)).toNat else min x.toNat vs.toArray.size)).push y ++ vs.toArray.extract (if x < 0 then (x + (vs.toArray.size : Int)).toNat else min x.toNat vs.toArray.size) = _
    rw [kl_ins_eq, List.size_toArray]; rfl)
  rw [if_neg (by rw [kl_ins_length]; lia)] at q
  exact q
theorem ins_at {l : Addr} {vs : List Value} {n : Nat} {x : Nat} {u : Tok} {y : Value} {Q : Value → Shared → Prop} (ho : s.heap.get? l = some (lst vs n)) (hx : x ≤ vs.length) (hsz : vs.length ≤ 1000000)
    (h : ∀ h', Heap.SameBut l s.heap h' → h'.get? l = some (lst (vs.take x ++ y :: vs.drop x) (n + 1)) → Q .none { s with heap := h' }) :
    wpAny (model prog w) A (call (.builtin "list.insert") [.ref l, .int x u, y]) Q E s := by
  refine ins_atZ ho (fitsIndex_of (by lia) (by lia)) (by rw [sizeLine_eq]; lia) fun h' hs ho' => h h' hs ?_
  have e : kl_ins vs (x : Int) y = vs.take x ++ y :: vs.drop x := by
    unfold kl_ins
    rw [if_neg (by lia), Int.toNat_natCast, Nat.min_eq_left hx]
  rw [← e]; exact ho'
end
end Mine
end

section
open PySem PySem.W PyProof.Rows
namespace Mine

abbrev pr : Program := PySem.Challenge.pw_rs0117_01
noncomputable abbrev KF (w : World) : Frag := Mine.hd.heap_39 w.params

/-- the top's objects stand -/
structure Tp (w : World) (h : Heap) : Prop where
  k : (KF w).In h
  b : ∃ mb, h.Ns builtinsNs mb ∧ ∀ x : Str, x ≠ "__name__" → mb x = bootBuiltins x
  m : ∃ o, h.get? 4 = some o ∧ o.cls = .type "module" ∧ o.dict = some builtinsNs ∧ o.data = .plain
theorem Tp.up {w : World} {h h' : Heap} (T : Tp w h) (k : Kp h h') : Tp w h' := ⟨T.k.keeps k, (let ⟨mb, n, e⟩ := T.b; ⟨mb, n.keeps k, e⟩), let ⟨o, a, r⟩ := T.m; ⟨o, k _ _ a, r⟩⟩

noncomputable def mgOf (w : World) : Str → Option Value := fun x => match (KF w).lookup 3 with
  | some ⟨_, _, .dict es _, _⟩ => nsFind es x
  | _ => none
def keyOk (e : DictEntry) : Bool := match e.key with | .str _ _ => true | _ => false
theorem strKeys_of {es : Array DictEntry} (h : es.toList.all keyOk = true) : StrKeys es := by
  intro e he
  have := List.all_eq_true.mp h e (Array.mem_toList_iff.mpr he)
  unfold keyOk at this
  split at this
  · exact ⟨_, _, by assumption⟩
  · cases this
theorem mg_ns {w : World} {h : Heap} (K : (KF w).In h) : h.Ns mainGlobals (mgOf w) := ⟨_, _, _, K 3 _ rfl, rfl, strKeys_of (by rfl), fun _ => rfl⟩
theorem Tp.ns {w : World} {h : Heap} (T : Tp w h) : h.Ns mainGlobals (mgOf w) := mg_ns T.k
theorem Tp.nolimit {w : World} {h : Heap} (T : Tp w h) : h.NoLimit := by
  refine ⟨fun _ => none, ⟨_, _, _, T.k 2 _ rfl, rfl, ?_, fun _ => rfl⟩, rfl⟩
  intro e he; simp at he

theorem Rd.glob {w : World} {env : Env} {h : Heap} {x : Str} {v : Value} (T : Tp w h) (e : mgOf w x = some v) (hg : env.globals = mainGlobals := by rfl) (hk : env.scope.kind = .function := by rfl) (hx : env.kindOf x = some .globalImplicit := by rfl) : Rd env h x v := by
  intro M A s Q E ks q
  rw [loadName_read hk hx]
  exact PySem.Calls.loadGlobal_global (by rw [hg]; exact (T.up ks).ns) e q
theorem Rd.boot {w : World} {env : Env} {h : Heap} {x : Str} {v : Value} (T : Tp w h) (e : mgOf w x = none) (hb : bootBuiltins x = some v) (hn : x ≠ "__name__" := by decide) (hg : env.globals = mainGlobals := by rfl) (hbi : env.builtins = builtinsNs := by rfl)
    (hk : env.scope.kind = .function := by rfl) (hx : env.kindOf x = some .globalImplicit := by rfl) : Rd env h x v := by
  intro M A s Q E ks q
  obtain ⟨mb, nb, eb⟩ := (T.up ks).b
  rw [loadName_read hk hx]
  exact PySem.Calls.loadGlobal_builtin (by rw [hg]; exact (T.up ks).ns) e (by rw [hbi]; exact nb) ((eb x hn).trans hb) q

theorem g_bisect {w : World} : mgOf w "bisect_right" = some (.ref 81) := rfl
theorem g_len {w : World} : mgOf w "len" = none := rfl
theorem b_len : bootBuiltins "len" = some (.builtin "len") := by decide +kernel

theorem code_rec {w : World} {h : Heap} {c : Addr} {q : Str} {vs : Array Value} {t : Tok} {cl : Value} {d : Option Addr} {sl : Array (Option Value)} (T : Tp w h) (e : (KF w).lookup c = some ⟨cl, d, .fields vs, sl⟩) (hv : vs[1]? = some (.str q t)) : h.CodeRec (.ref c) q :=
  ⟨c, _, vs, t, rfl, T.k _ _ e, rfl, hv⟩
end Mine
end

section
open PySem PySem.W PyProof.Rows
namespace Mine

/-- the state at a def's start -/
theorem St.enter {s : Shared} {env : Env} {h₁ : Heap} {m : Str → Option Value} {tk : Nat} (hL : env.locals = s.heap.objs.size) (hn : h₁.Ns s.heap.objs.size m) (hk : Kp s.heap h₁) :
    St s.gens (s.os, s.drawn) s.heap env [] m (fun _ => none) [] { s with heap := h₁, toks := tk } where
  gens := rfl
  os := rfl
  keep := hk
  ns := hL ▸ hn
  offL := by rw [hL]; exact none_of_new
  cell := by intro _ _ h; cases h
  offC := by intro _ _ h; cases h
  apart := .nil
  luk := by intro _ _ h; cases h
  own := fun _ h => nomatch h
  nd := List.nodup_nil

theorem St.back {s s' : Shared} {g : Heap} {env : Env} {cs : List (Str × Addr)} {m cm : Str → Option Value} {led : Led} (S : St s.gens (s.os, s.drawn) g env cs m cm led s') : s' = { s with heap := s'.heap, toks := s'.toks } := by
  have e₁ := S.gens
  have e₂ := S.os
  obtain ⟨h, gs, d, t, o⟩ := s'
  simp only [Prod.mk.injEq] at e₁ e₂ ⊢
  obtain ⟨rfl, rfl⟩ := e₂
  subst e₁
  rfl
theorem def_call {w : World} {A : Around} {s : Shared} {Q : Value → Shared → Prop} {E : Value → Shared → Prop} {a : Addr} {o : Obj} {fd : FuncData} {body : List Stmt} {vals : List Value} {binds : List (Str × Value)}
    (T : Tp w s.heap) (hroom : A.depth < recursionLimit) (ho : (KF w).lookup a = some o) (hdata : o.data = .func fd) (hcd : s.heap.CodeRec fd.code fd.qualname)
    (hbody : fd.body = .stmts body) (hbind : BindsTo s fd ⟨vals, []⟩ binds)
    (hcell : ∀ x ∈ fd.scope.names, x.2 ≠ .cell) (hloc : ∀ x ∈ binds, fd.scope.names.lookup x.1 = some .local)
    (h : ∀ s₁, St s.gens (s.os, s.drawn) s.heap (callEnv fd s.heap.objs.size a) [] (fun x => binds.reverse.lookup x) (fun _ => none) [] s₁ → Tp w s₁.heap → 
      wpAny (model pr w) (A.deeper (callEnv fd s.heap.objs.size a)) (execs body (callEnv fd s.heap.objs.size a)) (fun f s' => Q (match f with | .ret v => v | _ => .none) s') (fun _ _ => False) s₁)
    (hco : fd.scope.isCoroutine = false := by rfl) (hgen : fd.scope.isGenerator = false := by rfl) (hk : fd.scope.kind = .function := by rfl) :
    wpAny (model pr w) A (call (.ref a) vals []) Q E s :=
  wpAny_call (codeAny_call_def hroom (T.k a _ ho) hdata T.nolimit hcd hbody hbind hcell hloc (fun h₁ hns hk₁ =>
    wpAny_mono (h _ (St.enter (env := callEnv fd s.heap.objs.size a) (tk := s.toks + binds.length) rfl hns hk₁) (T.up hk₁)) (fun f s' q => by cases f <;> exact q) fun _ _ f => f.elim) hco hgen hk)

/-- bisect_right(a, x, lo, hi): what it gives -/
def BisOk (ns : List Int) (x : Int) (lo : Nat) (k : Nat) : Prop := lo ≤ k ∧ k ≤ ns.length ∧ (∀ i, lo ≤ i → i < k → ∀ y, ns[i]? = some y → y ≤ x) ∧ (∀ i, k ≤ i → ∀ y, ns[i]? = some y → x < y)

theorem wpAny_loadK {α : Type} {M : Model} {A : Around} {s : Shared} {E : Value → Shared → Prop} {Q : α → Shared → Prop} {a : Addr} {part : Option Value} {k : Obj → Sem α} {o : Obj} (ho : s.heap.get? a = some o) (h : wpAny M A (k o) Q E s) : wpAny M A (.load a part k) Q E s :=
  wpAny_bind (m := loadPart a part) (f := k) (wpAny_loadPart ho h)

theorem bisect_binds {w : World} {s : Shared} (T : Tp w s.heap) {o : Obj} {fd : FuncData} (ho : (KF w).lookup 81 = some o) (hd : o.data = .func fd) {l x lo : Value} : BindsTo s fd ⟨[l, x, lo, .none], []⟩ [("a", l), ("x", x), ("lo", lo), ("hi", .none), ("key", .none)] := by
  cases ho
  cases hd
  intro M A E Q q
  with_unfolding_all refine wpAny_loadK (a := 73) (T.k 73 _ rfl) ?_
  with_unfolding_all refine wpAny_loadK (a := 74) (T.k 74 _ rfl) ?_
  with_unfolding_all exact wpAny_pure q
theorem bisect_binds3 {w : World} {s : Shared} (T : Tp w s.heap) {o : Obj} {fd : FuncData} (ho : (KF w).lookup 81 = some o) (hd : o.data = .func fd) {l x lo : Value} : BindsTo s fd ⟨[l, x, lo], []⟩ [("a", l), ("x", x), ("lo", lo), ("hi", .none), ("key", .none)] := by
  cases ho
  cases hd
  intro M A E Q q
  with_unfolding_all refine wpAny_loadK (a := 73) (T.k 73 _ rfl) ?_
  with_unfolding_all refine wpAny_loadK (a := 74) (T.k 74 _ rfl) ?_
  with_unfolding_all exact wpAny_pure q
theorem insort_binds {w : World} {s : Shared} (T : Tp w s.heap) {o : Obj} {fd : FuncData} (ho : (KF w).lookup 72 = some o) (hd : o.data = .func fd) {l x : Value} : BindsTo s fd ⟨[l, x], []⟩ [("a", l), ("x", x), ("lo", .int 0 284), ("hi", .none), ("key", .none)] := by
  cases ho
  cases hd
  intro M A E Q q
  with_unfolding_all refine wpAny_loadK (a := 64) (T.k 64 _ rfl) ?_
  with_unfolding_all refine wpAny_loadK (a := 65) (T.k 65 _ rfl) ?_
  with_unfolding_all exact wpAny_pure q

theorem bisect_pv {w : World} {A : Around} {h : Heap} {l : Addr} {vs : List Value} {n : Nat} {ns : List Int} {x : Int} {lo : Nat} {tx tl : Tok} (T : Tp w h) (hd : A.depth < recursionLimit) (ho : h.get? l = some (lst vs n)) (hi : IntsAre vs ns)
    (hs : ns.Pairwise (· ≤ ·)) (hlen : ns.length ≤ 1000000) (hlo : lo ≤ ns.length) :
    Pv pr w A h (call (.ref 81) [.ref l, .int x tx, .int (lo : Nat) tl, .none] []) (fun v _ => ∃ (k : Nat) (t : Tok), v = .int k t ∧ BisOk ns x lo k) := by
  intro s Q E ks q
  have Ts := T.up ks
  have hvl : vs.length = ns.length := hi.length
  refine def_call Ts hd rfl rfl (code_rec Ts rfl rfl) rfl (bisect_binds Ts rfl rfl) (by decide) (locs rfl) fun s₁ S₁ T₁ => ?_
  refine x_cons (x_if S₁ (.tlt (.nameI (S₁.loc rfl)) .cint) (fun hb => ?_) fun _ s₂ k₂ S₂ => ?_)
  · exfalso; simp at hb; lia
  refine x_nil (x_cons (x_if S₂ (.tisNone (.name (S₂.loc rfl))) (fun _ s₃ k₃ S₃ => ?_) fun hb => ?_))
  case refine_2 => exact absurd hb (by decide)
  have T₃ := T₁.up (k₂.trans k₃)
  have hl : ∀ {s' : Shared}, Kp s.heap s'.heap → s'.heap.get? l = some (lst vs n) := fun k => k _ _ (ks _ _ ho)
  refine x_cons (x_setI (i := vs.length) S₃ (.callB (.boot T₃ g_len b_len) (.args1 (.name (S₃.loc rfl))) fun vs' h' k r => ?_) fun t₄ s₄ S₄ => ?_)
  · obtain ⟨_, rfl, rfl⟩ := r
    exact len_pv (k _ _ (hl S₃.keep)) (by lia)
  refine x_nil (x_cons (x_if S₄ (.tisNone (.name (S₄.loc rfl))) (fun _ s₅ k₅ S₅ => ?_) fun hb => ?_))
  case refine_2 => exact absurd hb (by decide)
  -- the loop
  refine x_cons (x_while (fun m s' => ∃ (mm : Str → Option Value) (a b : Nat) (ta tb : Tok), St s.gens (s.os, s.drawn) s.heap (callEnv _ s.heap.objs.size 81) [] mm (fun _ => none) [] s' ∧ mm "a" = some (.ref l) ∧ mm "x" = some (.int x tx) ∧ mm "lo" = some (.int a ta) ∧ mm "hi" = some (.int b tb) ∧
    m = b - a ∧ lo ≤ a ∧ a ≤ b ∧ b ≤ ns.length ∧ (∀ i, lo ≤ i → i < a → ∀ y, ns[i]? = some y → y ≤ x) ∧ (∀ i, b ≤ i → ∀ y, ns[i]? = some y → x < y)) (ns.length - lo)
    ⟨_, lo, ns.length, tl, t₄, S₅, rfl, rfl, rfl, by rw [← hvl]; rfl, rfl, Nat.le_refl _, hlo, Nat.le_refl _, fun i h1 h2 => by lia, fun i h1 y hy => by rw [List.getElem?_eq_none h1] at hy; cases hy⟩ ?_)
  rintro m s₆ ⟨mm, a, b, ta, tb, S₆, ea, ex, elo, ehi, rfl, h1, h2, h3, h4, h5⟩
  refine ⟨_, .tlt (.nameI (S₆.loc elo)) (.nameI (S₆.loc ehi)), fun h' tk k => ?_⟩
  have S₇ := S₆.grow k tk
  by_cases hab : a < b
  · rw [if_pos (by simpa using hab)]
    refine x_cons (x_setI S₇ (.divI (.addI (.nameI (S₇.loc elo)) (.nameI (S₇.loc ehi))) .cint (by decide) (by decide)) fun t₈ s₈ S₈ => ?_)
    have hmid : Int.fdiv ((a : Int) + b) 2 = ((a + b) / 2 : Nat) := by rw [Int.fdiv_eq_ediv_of_nonneg _ (by decide)]; lia
    rw [hmid] at S₈
    obtain ⟨y, hy⟩ : ∃ y, ns[(a + b) / 2]? = some y := ⟨_, List.getElem?_eq_getElem (by lia)⟩
    refine x_cons (x_if S₈ (.tlt (.nameI (S₈.loc ex)) (.itemI (.name (S₈.loc ea)) (.nameI (S₈.loc rfl)) (hl S₈.keep) hi (by lia) (by lia) (by rw [Int.toNat_natCast]; exact hy))) (fun hb s₉ k₉ S₉ => ?_) fun hb s₉ k₉ S₉ => ?_)
    · refine x_cons (x_setI S₉ (.nameI (S₉.loc rfl)) fun t₁₀ s₁₀ S₁₀ => x_nil (x_nil ?_))
      have hb' : x < y := by simpa using hb
      refine ⟨(a + b) / 2 - a, by lia, _, a, (a + b) / 2, ta, t₁₀, S₁₀, ea, ex, elo, rfl, rfl, h1, by lia, by lia, h4, fun i hi1 z hz => ?_⟩
      have hil := (List.getElem?_eq_some_iff.mp hz).1
      have hie := (List.getElem?_eq_some_iff.mp hz).2
      have hye := (List.getElem?_eq_some_iff.mp hy).2
      rcases Nat.lt_or_ge ((a + b) / 2) i with hlt | hge
      · have := List.pairwise_iff_getElem.mp hs _ _ (by lia) hil hlt
        rw [hie, hye] at this; lia
      · have : i = (a + b) / 2 := by lia
        subst this; rw [hy] at hz; cases hz; exact hb'
    · refine x_cons (x_setI S₉ (.addI (.nameI (S₉.loc rfl)) .cint) fun t₁₀ s₁₀ S₁₀ => x_nil (x_nil ?_))
      have hb' : y ≤ x := by simpa using hb
      have e1 : (((a + b) / 2 : Nat) : Int) + 1 = (((a + b) / 2 + 1 : Nat) : Int) := by lia
      rw [e1] at S₁₀
      refine ⟨b - ((a + b) / 2 + 1), by lia, _, (a + b) / 2 + 1, b, t₁₀, tb, S₁₀, ea, ex, rfl, ehi, rfl, by lia, by lia, h3, fun i hi1 hi2 z hz => ?_, h5⟩
      have hil := (List.getElem?_eq_some_iff.mp hz).1
      have hie := (List.getElem?_eq_some_iff.mp hz).2
      have hye := (List.getElem?_eq_some_iff.mp hy).2
      rcases Nat.lt_or_ge i ((a + b) / 2) with hlt | hge
      · have := List.pairwise_iff_getElem.mp hs _ _ hil (by lia) hlt
        rw [hie, hye] at this; lia
      · have : i = (a + b) / 2 := by lia
        subst this; rw [hy] at hz; cases hz; exact hb'
  · rw [if_neg (by simpa using hab)]
    have : a = b := by lia
    subst this
    refine x_nil (x_cons (x_ret S₇ (.name (S₇.loc elo)) fun v s₈ r k₈ S₈ => ?_))
    obtain rfl := r
    rw [S₈.back]
    exact q _ _ _ S₈.keep ⟨a, ta, rfl, h1, h3, h4, h5⟩
end Mine
end

section
open PySem PySem.W PyProof.Rows
namespace Mine

/-- own objects have turned, all else stands -/
theorem St.turn {G G' : Array GenState} {O : OsState × Drawn} {g : Heap} {env : Env} {cs : List (Str × Addr)} {m cm : Str → Option Value} {led led' : Led} {s s' : Shared} (S : St G O g env cs m cm led s) (W : List Addr) (hW : ∀ b ∈ W, b ∈ led.map (·.1))
    (k : ∀ b o, b ∉ W → s.heap.get? b = some o → s'.heap.get? b = some o) (ha : led'.map (·.1) = led.map (·.1)) (hn : ∀ p ∈ led', s'.heap.get? p.1 = some p.2) (hg : s'.gens = G') (ho : (s'.os, s'.drawn) = (s.os, s.drawn)) : St G' O g env cs m cm led' s' := by
  have offW : ∀ b ∈ W, g.get? b = none ∧ b ≠ env.locals ∧ ∀ n c, (n, c) ∈ cs → b ≠ c := fun b hb => by
    obtain ⟨p, hp, rfl⟩ := List.mem_map.mp (hW b hb)
    exact (S.own p hp).2
  refine ⟨hg, ho.trans S.os, fun b o e => k b o (fun hb => ?_) (S.keep b o e), ?_, S.offL, fun n c e => ?_, S.offC, S.apart, S.luk, fun p hp => ?_, by rw [ha]; exact S.nd⟩
  · rw [(offW b hb).1] at e; cases e
  · obtain ⟨o, es, ep, e, r⟩ := S.ns
    exact ⟨o, es, ep, k _ o (fun hb => (offW _ hb).2.1 rfl) e, r⟩
  · obtain ⟨o, e', r⟩ := S.cell n c e
    exact ⟨o, k _ o (fun hb => (offW _ hb).2.2 n c e rfl) e', r⟩
  · have : p.1 ∈ led.map (·.1) := by rw [← ha]; exact List.mem_map_of_mem hp
    obtain ⟨q, hq, e⟩ := List.mem_map.mp this
    exact ⟨hn p hp, e ▸ (S.own q hq).2⟩

/-- a def's start, some objects its own -/
theorem St.enterH {s : Shared} {env : Env} {h₁ : Heap} {m : Str → Option Value} {tk : Nat} (led : Led) (hled : ∀ p ∈ led, s.heap.get? p.1 = some p.2) (nd : (led.map (·.1)).Nodup) (hL : env.locals = s.heap.objs.size)
    (hn : h₁.Ns s.heap.objs.size m) (hk : Kp s.heap h₁) :
    St s.gens (s.os, s.drawn) (hideAll s.heap (led.map (·.1))) env [] m (fun _ => none) led { s with heap := h₁, toks := tk } where
  gens := rfl
  os := rfl
  keep := fun b o e => hk b o (of_hideAll _ e)
  ns := hL ▸ hn
  offL := by
    rw [hL]
    cases e : (hideAll s.heap (led.map (·.1))).get? s.heap.objs.size with
    | none => rfl
    | some o => have := of_hideAll _ e; rw [none_of_new] at this; cases this
  cell := by intro _ _ h; cases h
  offC := by intro _ _ h; cases h
  apart := .nil
  luk := by intro _ _ h; cases h
  own := fun p hp => ⟨hk _ _ (hled p hp), hideAll_none _ (List.mem_map_of_mem hp), (fun e => by
    have := hled p hp
    rw [e, hL, none_of_new] at this; cases this), by intro _ _ h; cases h⟩
  nd := nd

theorem hide_kp {g h : Heap} {as : List Addr} (k : Kp g h) (off : ∀ a ∈ as, g.get? a = none) : Kp g (hideAll h as) := fun b o e => hideAll_get as (k b o e) fun hb => by rw [off b hb] at e; cases e

theorem def_callH {w : World} {A : Around} {s : Shared} {Q : Value → Shared → Prop} {E : Value → Shared → Prop} {a : Addr} {o : Obj} {fd : FuncData} {body : List Stmt} {vals : List Value} {binds : List (Str × Value)} (led : Led)
    (hled : ∀ p ∈ led, s.heap.get? p.1 = some p.2) (nd : (led.map (·.1)).Nodup) (T : Tp w (hideAll s.heap (led.map (·.1)))) (hroom : A.depth < recursionLimit) (ho : (KF w).lookup a = some o) (hdata : o.data = .func fd) (hcd : s.heap.CodeRec fd.code fd.qualname)
    (hbody : fd.body = .stmts body) (hbind : BindsTo s fd ⟨vals, []⟩ binds)
    (hcell : ∀ x ∈ fd.scope.names, x.2 ≠ .cell) (hloc : ∀ x ∈ binds, fd.scope.names.lookup x.1 = some .local)
    (h : ∀ s₁, St s.gens (s.os, s.drawn) (hideAll s.heap (led.map (·.1))) (callEnv fd s.heap.objs.size a) [] (fun x => binds.reverse.lookup x) (fun _ => none) led s₁ →
      wpAny (model pr w) (A.deeper (callEnv fd s.heap.objs.size a)) (execs body (callEnv fd s.heap.objs.size a)) (fun f s' => Q (match f with | .ret v => v | _ => .none) s') (fun _ _ => False) s₁)
    (hco : fd.scope.isCoroutine = false := by rfl) (hgen : fd.scope.isGenerator = false := by rfl) (hk : fd.scope.kind = .function := by rfl) :
    wpAny (model pr w) A (call (.ref a) vals []) Q E s := by
  have T' : Tp w s.heap := T.up fun b o e => of_hideAll _ e
  exact wpAny_call (codeAny_call_def hroom (T'.k a _ ho) hdata T'.nolimit hcd hbody hbind hcell hloc (fun h₁ hns hk₁ =>
    wpAny_mono (h _ (St.enterH (env := callEnv fd s.heap.objs.size a) (tk := s.toks + binds.length) led hled nd rfl hns hk₁)) (fun f s' q => by cases f <;> exact q) fun _ _ f => f.elim) hco hgen hk)

theorem g_insort {w : World} : mgOf w "insort_right" = some (.ref 72) := rfl

theorem sorted_ins {ns : List Int} {x : Int} {k : Nat} (hs : ns.Pairwise (· ≤ ·)) (hb : BisOk ns x 0 k) : (ns.take k ++ x :: ns.drop k).Pairwise (· ≤ ·) ∧ (ns.take k ++ x :: ns.drop k).Perm (x :: ns) := by
  obtain ⟨_, hk, h1, h2⟩ := hb
  refine ⟨?_, ?_⟩
  · rw [List.pairwise_append]
    refine ⟨hs.sublist (List.take_sublist _ _), ?_, ?_⟩
    · rw [List.pairwise_cons]
      refine ⟨fun y hy => ?_, hs.sublist (List.drop_sublist _ _)⟩
      obtain ⟨i, hi⟩ := List.mem_iff_getElem?.mp hy
      rw [List.getElem?_drop] at hi
      exact Int.le_of_lt (h2 _ (by lia) _ hi)
    · intro a ha b hb
      obtain ⟨i, hi⟩ := List.mem_iff_getElem?.mp ha
      rw [List.getElem?_take] at hi
      split at hi
      · rename_i hik
        have hax := h1 i (by lia) hik _ hi
        rcases List.mem_cons.mp hb with rfl | hb
        · exact hax
        · obtain ⟨j, hj⟩ := List.mem_iff_getElem?.mp hb
          rw [List.getElem?_drop] at hj
          have := h2 _ (by lia) _ hj
          lia
      · cases hi
  · refine List.perm_middle.trans ?_
    rw [List.take_append_drop]

theorem ints_ins {vs : List Value} {ns : List Int} (hi : IntsAre vs ns) (k : Nat) (x : Int) (t : Tok) : IntsAre (vs.take k ++ .int x t :: vs.drop k) (ns.take k ++ x :: ns.drop k) :=
  (IntsAre.take hi k).append (.cons _ _ (IntsAre.drop hi k))

theorem insort_call {w : World} {A : Around} {s : Shared} {Q : Value → Shared → Prop} {E : Value → Shared → Prop} {l : Addr} {vs : List Value} {n : Nat} {ns : List Int} {x : Int} {tx : Tok} (T : Tp w (hideAll s.heap [l])) (hd : A.depth + 1 < recursionLimit)
    (ho : s.heap.get? l = some (lst vs n)) (hi : IntsAre vs ns) (hs : ns.Pairwise (· ≤ ·)) (hlen : ns.length ≤ 100000)
    (k : ∀ s' vs' n' ns', s'.heap.get? l = some (lst vs' n') → IntsAre vs' ns' → ns'.Pairwise (· ≤ ·) → ns'.Perm (x :: ns) → Kp (hideAll s.heap [l]) s'.heap → s'.gens = s.gens → (s'.os, s'.drawn) = (s.os, s.drawn) → Q .none s') :
    wpAny (model pr w) A (call (.ref 72) [.ref l, .int x tx] []) Q E s := by
  have T' : Tp w s.heap := T.up fun b o e => of_hideAll _ e
  refine def_callH [(l, lst vs n)] (by intro p hp; rcases List.mem_singleton.mp hp with rfl; exact ho) (by simp) T (by lia) rfl rfl (code_rec T' rfl rfl) rfl (insort_binds T' rfl rfl) (by decide) (locs rfl) fun s₁ S₁ => ?_
  refine x_cons (x_if S₁ (.tisNone (.name (S₁.loc rfl))) (fun _ s₂ k₂ S₂ => ?_) fun hb => ?_)
  case refine_2 => exact absurd hb (by decide)
  have T₂ : Tp w s₂.heap := T.up S₂.keep
  refine x_cons (x_set (R := fun v _ => ∃ (k : Nat) (t : Tok), v = .int k t ∧ BisOk ns x 0 k) S₂ (.callF (.glob T₂ g_bisect) (T₂.k 81 _ rfl) rfl (.args4 (.name (S₂.loc rfl)) (.name (S₂.loc rfl)) (.name (S₂.loc rfl)) (.name (S₂.loc rfl))) fun vs' h' k' r => ?_) fun v s₃ s₄ r k₃ S₄ => ?_)
  · obtain ⟨_, _, _, _, rfl, rfl, rfl, rfl, rfl⟩ := r
    exact bisect_pv (lo := 0) (T₂.up k') (by show A.depth + 1 < _; exact hd) (k' _ _ (S₂.mem 0 rfl)) hi hs (by lia) (by lia)
  obtain ⟨kk, t, rfl, hb⟩ := r
  have hvl : vs.length = ns.length := hi.length
  refine x_nil (x_cons (wpAny_Expr_any (meth_list (vs := vs) (n := n) (.name (S₄.loc rfl)) (S₄.mem 0 rfl) F.slot_list_insert F.type_list_insert fun h₅ tk₅ k₅ => ?_)))
  have S₅ := S₄.grow k₅ tk₅
  refine callW2 (.name (S₅.loc rfl)) (.name (S₅.loc rfl)) fun v₁ v₂ h₆ tk₆ k₆ e₁ e₂ => ?_
  have S₆ := S₅.grow k₆ tk₆
  obtain rfl := e₁
  obtain rfl := e₂
  refine ins_at (S₆.mem 0 rfl) (by rw [hvl]; exact hb.2.1) (by lia) fun h₇ hs₇ ho₇ => x_nil ?_
  obtain ⟨so, pe⟩ := sorted_ins hs hb
  exact k _ _ _ _ ho₇ (ints_ins hi kk x tx) so pe (fun b o e => by
    have hbl : b ≠ l := fun q => by
      rw [q] at e
      have := hideAll_none (h := s.heap) [l] (List.mem_singleton.mpr rfl)
      rw [this] at e; cases e
    exact (hs₇.2 b hbl).trans (S₆.keep b o e)) S₆.gens S₆.os
end Mine
end

section
open PySem PySem.W PyProof.Rows
namespace Mine
section
variable {w : World} {A : Around} {E : Value → Shared → Prop} {G : Array GenState} {O : OsState × Drawn} {g : Heap} {env : Env} {cs : List (Str × Addr)} {m cm : Str → Option Value} {led led' : Led} {s : Shared}

def owns (env : Env) (cs : List (Str × Addr)) (led : Led) : List Addr := env.locals :: (cs.map (·.2) ++ led.map (·.1))
/-- all that stands now and is not the activation's own -/
def frz (h : Heap) (env : Env) (cs : List (Str × Addr)) (led : Led) : Heap := hideAll h (owns env cs led)

theorem St.off (S : St G O g env cs m cm led s) {b : Addr} {o : Obj} (e : s.heap.get? b = some o) (h1 : ∀ es n, o.data ≠ .dict es n) (h2 : ∀ v, o.data ≠ .cell v) (h3 : ∀ p ∈ led, p.1 = b → p.2 ≠ o) : b ∉ owns env cs led := by
  intro hb
  rcases List.mem_cons.mp hb with rfl | hb
  · obtain ⟨o', es, ep, e', hd, _⟩ := S.ns
    rw [e] at e'; cases e'; exact h1 _ _ hd
  · rcases List.mem_append.mp hb with hb | hb
    · obtain ⟨⟨n, c⟩, hc, rfl⟩ := List.mem_map.mp hb
      obtain ⟨o', e', hd⟩ := S.cell n c hc
      rw [e] at e'; cases e'; exact h2 _ hd
    · obtain ⟨p, hp, rfl⟩ := List.mem_map.mp hb
      have := (S.own p hp).1
      rw [e] at this; exact h3 p hp rfl (Option.some.inj this).symm
theorem St.offBase (S : St G O g env cs m cm led s) {b : Addr} {o : Obj} (e : g.get? b = some o) : b ∉ owns env cs led := by
  intro hb
  rcases List.mem_cons.mp hb with rfl | hb
  · rw [S.offL] at e; cases e
  · rcases List.mem_append.mp hb with hb | hb
    · obtain ⟨⟨n, c⟩, hc, rfl⟩ := List.mem_map.mp hb
      rw [(S.offC n c hc).1] at e; cases e
    · obtain ⟨p, hp, rfl⟩ := List.mem_map.mp hb
      rw [(S.own p hp).2.1] at e; cases e
theorem St.frzKp (S : St G O g env cs m cm led s) : Kp g (frz s.heap env cs led) := fun b o e => hideAll_get _ (S.keep b o e) (S.offBase e)
theorem frz_kp {h : Heap} : Kp (frz h env cs led) h := fun b o e => of_hideAll _ e
theorem St.rebase (S : St G O g env cs m cm led s) : St G O (frz s.heap env cs led) env cs m cm led s where
  gens := S.gens
  os := S.os
  keep := frz_kp
  ns := S.ns
  offL := hideAll_none _ (List.mem_cons_self ..)
  cell := S.cell
  offC := fun n c hc => ⟨hideAll_none _ (List.mem_cons_of_mem _ (List.mem_append_left _ (List.mem_map_of_mem (f := fun x : Str × Addr => x.2) hc))), (S.offC n c hc).2⟩
  apart := S.apart
  luk := S.luk
  own := fun p hp => ⟨(S.own p hp).1, hideAll_none _ (List.mem_cons_of_mem _ (List.mem_append_right _ (List.mem_map_of_mem hp))), (S.own p hp).2.2⟩
  nd := S.nd
theorem St.frzGet (S : St G O g env cs m cm led s) {b : Addr} {o : Obj} (e : s.heap.get? b = some o) (h : b ∉ owns env cs led) : (frz s.heap env cs led).get? b = some o := hideAll_get _ e h

/-- a code table: what stands in it is rightly named -/
def TabOk (h : Heap) (pos : Pos) (q : Str) (ps : Array Value) : Prop := TriplesOk ps.toList ∧ ∀ cv, codeAmong pos ps.toList = some cv → h.CodeRec cv q
theorem TabOk.up {h h' : Heap} {pos : Pos} {q : Str} {ps : Array Value} (x : TabOk h pos q ps) (k : Kp h h') : TabOk h' pos q ps := ⟨x.1, fun cv e => (x.2 cv e).keeps k⟩

theorem Tp.bat {h : Heap} (T : Tp w h) {P : Addr} (hP : 4 ≠ P) : h.BuiltinsAt (mgOf w) P := by
  obtain ⟨o, e, r⟩ := T.m
  exact ⟨4, o, rfl, by decide, by decide, hP, e, r⟩

/-- def name(..): .. within a def -/
theorem x_def {name qual : Str} {params : Arguments} {body : List Stmt} {scope : Scope} {pos : Pos} {c P ci : Addr} {i : Nat} {ps : Array Value} {cl : List (Str × Addr)} {Q : Flow → Shared → Prop} (S : St G O g env cs m cm led s) (T : Tp w g)
    (hcode : env.code = .ref c) (C : CodeHd g c P) (hP : led[i]? = some (P, tabObj ps)) (ht : TabOk g pos qual ps) (hP4 : 4 ≠ P) (hPg : mainGlobals ≠ P)
    (hcl : closureFor scope env = pure cl)
    (k : ∀ fa cv ct doc more (s' : Shared), s'.heap.get? fa = some { cls := .type "function", data := .func (kdv_fn name qual params (.stmts body) scope cl .none doc ((mgOf w "__name__").getD .none) cv ct) } → s'.heap.CodeRec cv qual →
      (hideAll s'.heap [P]).CodeRec cv qual → codeAmong pos (ps ++ more).toList = some cv → TriplesOk (ps ++ more).toList →
      St G O g env cs m (up cm name (.ref fa)) (led.set i (P, tabObj (ps ++ more))) s' → Q .next s')
    (hg : env.globals = mainGlobals := by rfl) (hq : qualnameIn env name name = qual := by rfl) (hdef : defaultsOf params env = ([], []) := by rfl) (hkw : params.kwonlyargs = [] := by rfl) (hann : annTrees params none env = [] := by rfl) (hdoc : docOf body = none := by rfl)
    (hc : cs.lookup name = some ci := by rfl) (hc' : env.cells.lookup name = some ci := by rfl) (hk : env.scope.kind = .function := by rfl) (hl : env.kindOf name = some .cell := by rfl) :
    wpAny (model pr w) A (exec (.FunctionDef name params body [] none [] scope none name pos) env) Q E s := by
  have hPm := S.own _ (List.mem_of_getElem? hP)
  have Ts := T.up S.keep
  rw [exec_def, hdef, hann, hq]
  refine wpAny_bind (wpAny_standAt (wpAny_bind (wpAny_holding (wpAny_bind (wpAny_pure ?_)))))
  refine wpAny_bind (wpAny_holding (wpAny_pure ?_))
  refine wpAny_holding (wpAny_bind (wpAny_pure ?_))
  rw [makeFunction_eq, hkw]
  refine wpAny_bind (wpAny_pure (wpAny_bind (wpAny_pure (wpAny_bind (wpAny_pure ?_)))))
  -- behind the making
  have fin : ∀ (fa : Addr) (cv ct doc : Value) (more : Array Value) (h₁ : Heap) (tk : Nat), Heap.ExtBut P s.heap h₁ → h₁.get? P = some (tabObj (ps ++ more)) → h₁.CodeRec cv qual → (hideAll h₁ [P]).CodeRec cv qual → codeAmong pos (ps ++ more).toList = some cv → TriplesOk (ps ++ more).toList →
      fa = h₁.objs.size →
      wpAny (model pr w) A (standAt pos >>= fun _ => bindName env name (.ref fa) >>= fun _ => pure Flow.next) Q E
        { s with heap := h₁.push { cls := .type "function", data := .func (kdv_fn name qual params (.stmts body) scope cl .none doc ((mgOf w "__name__").getD .none) cv ct) }, toks := tk } := by
    intro fa cv ct doc more h₁ tk hx hPn hrec hrecP hca htr hfa
    have keys : (led.set i (P, tabObj (ps ++ more))).map (·.1) = led.map (·.1) := by
      rw [List.map_set]
      apply List.ext_getElem?
      intro j
      rw [List.getElem?_set]
      split
      · rename_i hij; subst hij
        split
        · rw [List.getElem?_map, hP]; rfl
        · rename_i hlt; rw [List.getElem?_eq_none (by lia)]
      · rfl
    have S₁ := S.turn (s' := { s with heap := h₁, toks := tk }) (led' := led.set i (P, tabObj (ps ++ more))) [P] (fun b hb => by rcases List.mem_singleton.mp hb with rfl; exact List.mem_map_of_mem (List.mem_of_getElem? hP))
      (fun b o hb e => hx b o (fun q => hb (List.mem_singleton.mpr q)) e) keys (fun p hp => by
        by_cases hpP : p.1 = P
        · obtain ⟨j, hj⟩ := List.mem_iff_getElem?.mp hp
          have : j = i := by
            have h1 : ((led.set i (P, tabObj (ps ++ more))).map (·.1))[j]? = some P := by rw [List.getElem?_map, hj, ← hpP]; rfl
            have h2 : (led.map (·.1))[i]? = some P := by rw [List.getElem?_map, hP]; rfl
            rw [keys] at h1
            exact nodup_inj S.nd (List.getElem?_eq_some_iff.mp h1).1 (List.getElem?_eq_some_iff.mp h2).1 ((List.getElem?_eq_some_iff.mp h1).2.trans (List.getElem?_eq_some_iff.mp h2).2.symm)
          subst this
          rw [List.getElem?_set] at hj
          simp [(List.getElem?_eq_some_iff.mp hP).1] at hj
          subst hj
          exact hPn
        · rcases List.mem_or_eq_of_mem_set hp with hp' | rfl
          · exact hx _ _ hpP (S.own p hp').1
          · exact absurd rfl hpP) S.gens rfl
    have S₂ := S₁.grow (Kp.push h₁ { cls := .type "function", data := .func (kdv_fn name qual params (.stmts body) scope cl .none doc ((mgOf w "__name__").getD .none) cv ct) }) tk
    refine wpAny_bind (wpAny_standAt (wpAny_bind (wpAny_bindName ?_)))
    have hcell := S₂.cell name ci (PySem.mem_of_lookup hc)
    refine wpAny_storeName_cell hk hl hc' hcell fun h₃ hn₃ hs₃ => wpAny_pure ?_
    have S₃ := S₂.setC (PySem.mem_of_lookup hc) hn₃ hs₃
    have hfget : (h₁.push { cls := .type "function", data := .func (kdv_fn name qual params (.stmts body) scope cl .none doc ((mgOf w "__name__").getD .none) cv ct) }).get? fa = some { cls := .type "function", data := .func (kdv_fn name qual params (.stmts body) scope cl .none doc ((mgOf w "__name__").getD .none) cv ct) } := by
      rw [hfa]; exact Heap.get?_push_size _ rfl
    -- code records stand: a cell is no record
    have ne : ∀ b (o : Obj), (h₁.push { cls := .type "function", data := .func (kdv_fn name qual params (.stmts body) scope cl .none doc ((mgOf w "__name__").getD .none) cv ct) }).get? b = some o → (∀ v, o.data ≠ .cell v) → h₃.get? b = some o := fun b o e hd => by
      refine (hs₃.2 b fun q => ?_).trans e
      obtain ⟨o', e', hd'⟩ := hcell
      rw [q] at e; rw [e] at e'; cases e'; exact hd _ hd'
    have recs : ∀ {hh : Heap}, hh.CodeRec cv qual → (∀ b o, hh.get? b = some o → h₁.get? b = some o) → ∀ {h4 : Heap}, (∀ b o vs, hh.get? b = some o → o.data = .fields vs → h₃.get? b = some o → h4.get? b = some o) → h4.CodeRec cv qual := fun x kk _ k4 => by
      obtain ⟨c₁, o₁, vs₁, t₁, e₁, g₁, d₁, r₁⟩ := x
      exact ⟨c₁, o₁, vs₁, t₁, e₁, k4 _ _ _ g₁ d₁ (ne _ _ (Heap.get?_push_of_some _ (kk _ _ g₁)) (fun v q => by rw [d₁] at q; cases q)), d₁, r₁⟩
    refine k fa cv ct doc more _ (ne _ _ hfget (fun v q => by cases q)) (recs hrec (fun _ _ e => e) fun _ _ _ _ _ e => e) ?_ hca htr S₃
    refine recs hrecP (fun b o e => of_hideAll _ e) fun b o vs e _ e3 => hideAll_get [P] e3 fun q => ?_
    rw [List.mem_singleton.mp q, hideAll_none [P] (List.mem_singleton.mpr rfl)] at e; cases e
  have hPs : s.heap.get? P = some (tabObj ps) := hPm.1
  have offP : ∀ {hh : Heap}, Kp g hh → ∀ {cv : Value}, g.CodeRec cv qual → (hideAll hh [P]).CodeRec cv qual := fun kk _ x => x.keeps fun b o e => hideAll_get [P] (kk b o e) fun q => by
    rw [List.mem_singleton.mp q] at e; have := hPm.2.1; rw [e] at this; cases this
  cases hca : codeAmong pos ps.toList with
  | none =>
    refine kdv_makeTail hcl hg Ts.ns hcode (C.keeps S.keep) hPs ht.1 hca hPg (Ts.bat hP4) fun c' ctv doc h' tk hx hge hlt hrec hPn => ?_
    have hl : (ps ++ #[rawInt pos.line, rawInt pos.col, Value.ref c']).toList = ps.toList ++ [rawInt pos.line, rawInt pos.col, .ref c'] := by simp
    refine fin _ (.ref c') ctv doc _ h' tk hx hPn hrec ?_ (by rw [hl]; exact codeAmong_snoc _ ht.1 hca) (by rw [hl]; exact TriplesOk_snoc _ _ _ _ ht.1) rfl
    obtain ⟨c₁, o₁, vs₁, t₁, e₁, g₁, r₁⟩ := hrec
    cases e₁
    exact ⟨_, o₁, vs₁, t₁, rfl, hideAll_get [P] g₁ (fun q => by rw [List.mem_singleton.mp q] at hge; exact absurd (Heap.lt_size hPs) (Nat.not_lt.mpr hge)), r₁⟩
  | some cv =>
    have hrec := ht.2 cv hca
    refine kdv_makeTailHit hcl hg Ts.ns hcode (C.keeps S.keep) hPs ht.1 hca (Ts.bat hP4) fun ctv doc h' tk hx hge => ?_
    refine fin _ cv ctv doc #[] h' tk (fun b o _ e => hx b o e) (by simpa using hx _ _ hPs) (hrec.keeps (S.keep.trans hx)) (offP (S.keep.trans hx) hrec) (by simpa using hca) (by simpa using ht.1) rfl
end
end Mine
end

section
open PySem PySem.W PyProof.Rows
namespace Mine
theorem fr0 {h : Heap} {L : Addr} {m : Str → Option Value} (n : h.Ns L m) : Fr {} L h m := ⟨n, fun b o e => by simp [Heap.get?] at e, Nat.zero_le _⟩
theorem fresh_of {g h : Heap} (k : Kp g h) : g.get? h.objs.size = none := by
  cases e : g.get? h.objs.size with
  | none => rfl
  | some o => have := k _ _ e; rw [none_of_new] at this; cases this
theorem foldl_rep (v : Value) : ∀ (k : Nat) (acc : Array Value), List.foldl (fun x1 x2 => x1 ++ x2) acc (List.replicate k #[v]) = acc ++ (List.replicate k v).toArray
  | 0, acc => by simp
  | k + 1, acc => by
    rw [List.replicate_succ, List.foldl_cons, foldl_rep v k]
    apply Array.toList_inj.mp
    simp [List.replicate_succ]
section
variable {prog : Program} {w : World} {A : Around} {E : Value → Shared → Prop} {env : Env} {h : Heap} {s : Shared}
/-- [v] * k -/
theorem mul1_pv {l : Addr} {v : Value} {n : Nat} {x : Int} {u : Tok} (ho : h.get? l = some (lst [v] n)) (h0 : 0 ≤ x) (h1 : x ≤ 1000000) :
    Pv prog w A h (binaryOp .Mult (.ref l) (.int x u)) (New h fun o _ => o = lst (List.replicate x.toNat v) 0) := by
  intro s Q E ks q
  have hl := ks _ _ ho
  have hsz : ([v].toArray : Array Value).size * x.toNat ≤ 2 ^ 24 := by show 1 * x.toNat ≤ _; lia
  have hlong : ¬ Builtin.List.listTooLong (([v].toArray : Array Value).size * x.toNat) = true := by
    show ¬ Builtin.List.listTooLong (1 * x.toNat) = true
    rw [Nat.one_mul]
    simp [Builtin.List.listTooLong, sizeLine]
    lia
  have road : wpAny (model prog w) A.in1 (call (.builtin "list.__mul__") [.ref l, .int x u]) Q E s := by
    refine call_meets F.slot_list_mul ⟨_, hl, rfl⟩ F.entry_list_mul (F.args_list_mul_2 _ _) (AutoListH.list___mul___list_int_3 l _ n x u (by simp [Builtin.List.listFitsIndex]; lia) (by lia) hlong) ⟨hl, ?_⟩
    simp only [List.isEmpty_toArray, List.isEmpty_cons, Bool.false_eq_true, if_false, foldl_rep]
    refine q _ _ _ (Kp.push _ _) ⟨_, _, rfl, fresh_of ks, Heap.get?_push_size _ rfl, by simp⟩
  exact wpAny_binaryOp_repeat_ref (T := "list") (U := "int") (by decide) ⟨_, hl, rfl⟩ (fun s' => typeIs_int s' x u) noFill_list_mul F.fills_int_mul F.slot_int_rmul repeat_list F.slot_int_index.lookup
    (call_meets F.slot_int_rmul (typeIs_int s x u) F.entry_int_rmul (F.args_int_rmul_2 _ _) (int___rmul___int_list x u l _ n) ⟨hl, rfl, ⟨_, hl, rfl⟩, wpAny_of_in1 road⟩)

theorem Pv.lst1 {e : Expr} {pos : Pos} {P : Value → Prop} (p : Pv prog w A h (eval e env) (fun v _ => P v)) (he : starEach [e] env = [(false, eval e env)] := by rfl) : Pv prog w A h (eval (.List [e] pos) env) (New h fun o _ => ∃ v, P v ∧ o = lst [v] 0) :=
  .lstD (.args1 p he) (fun vs h' h'' l k r h1 h2 k' ho => by obtain ⟨v, rfl, hv⟩ := r; exact ⟨l, _, rfl, h2, ho, v, hv, rfl⟩) (fun vs h' r => by obtain ⟨v, rfl, _⟩ := r; exact (by decide : 1 ≤ 1000000))
/-- [e] * k -/
theorem Pv.rep {e r : Expr} {pl pos : Pos} {P : Value → Prop} {k : Int} (pe : Pv prog w A h (eval e env) (fun v _ => P v)) (pk : Pv prog w A h (eval r env) (In k)) (h0 : 0 ≤ k) (h1 : k ≤ 1000000) (he : starEach [e] env = [(false, eval e env)] := by rfl) :
    Pv prog w A h (eval (.BinOp (.List [e] pl) .Mult r pos) env) (New h fun o _ => ∃ v, P v ∧ o = lst (List.replicate k.toNat v) 0) :=
  .bin (R₂ := fun v₁ v₂ h' => (∃ l v, v₁ = .ref l ∧ P v ∧ h'.get? l = some (lst [v] 0)) ∧ ∃ u, v₂ = .int k u) (Pv.lst1 pe he)
    (fun v h' kk q => (pk.up kk).mono fun v₂ h₂ k₂ q₂ => by
      obtain ⟨l, o, rfl, _, ho, v, hv, rfl⟩ := q
      exact ⟨⟨l, v, rfl, hv, k₂ _ _ ho⟩, q₂⟩)
    (fun v₁ v₂ h' kk q => by
      obtain ⟨⟨l, v, rfl, hv, ho⟩, u, rfl⟩ := q
      refine (mul1_pv ho h0 h1).mono fun v₃ h₃ k₃ q₃ => ?_
      obtain ⟨l', o, rfl, hn, ho', rfl⟩ := q₃
      refine ⟨l', _, rfl, ?_, ho', v, hv, rfl⟩
      cases e : h.get? l' with
      | none => rfl
      | some o => rw [kk _ _ e] at hn; cases hn)
/-- e.bit_length() -/
theorem Pv.bitlen {o : Expr} {apos pos : Pos} {a : Int} (p : Pv prog w A h (eval o env) (In a)) (hbase : attributeBase o "bit_length" env (eval o env) = eval o env := by rfl) (hline : (apos.endLine == pos.line) = true := by rfl) :
    Pv prog w A h (eval (.Call (.Attribute o "bit_length" apos) [] [] pos) env) (In (Builtin.Int.intBits a)) := by
  intro s Q E ks q
  refine wpAny_Call_method hbase rfl hline F.plainAttrs_int slot_int_bit_length type_int_bit_length (p s _ E ks fun v h' tk k r => ?_)
  obtain ⟨t, rfl⟩ := r
  refine ⟨typeIs_int _ _ _, (fun a e => by cases e), ?_⟩
  exact callW0 (call_int_bit_length (q _ h' _ k ⟨_, rfl⟩))

/-- truth of a plain value -/
theorem Pv.truthI {e : Expr} {whole : Sem Value} {a : Int} (p : Pv prog w A h whole (In a)) (he : isTrue e env whole = (do let v ← whole; standAt e.pos; holding [v] (truthy v)) := by rfl) : Pv prog w A h (isTrue e env whole) (Eb (a != 0)) :=
  fun s Q E ks q => isTrue_plain (p s _ E ks fun v h' tk k r => by obtain ⟨t, rfl⟩ := r; exact P.truthy_int (q _ h' tk k rfl)) he
theorem Pv.truthL {e : Expr} {whole : Sem Value} {l : Addr} {vs : List Value} {n : Nat} (p : Pv prog w A h whole (Is (.ref l))) (ho : h.get? l = some (lst vs n)) (hz : vs.length ≤ 1000000000) (he : isTrue e env whole = (do let v ← whole; standAt e.pos; holding [v] (truthy v)) := by rfl) :
    Pv prog w A h (isTrue e env whole) (Eb (!vs.isEmpty)) :=
  fun s Q E ks q => isTrue_plain (p s _ E ks fun v h' tk k r => by
    obtain rfl := r
    refine wpAny_truthy_list (isList_lst ((ks.trans k) _ _ ho)) (by rw [List.size_toArray]; lia) ?_
    rw [List.isEmpty_toArray]
    exact q _ h' _ k rfl) he
end
section
variable {prog : Program} {w : World} {A : Around} {E : Value → Shared → Prop} {G : Array GenState} {O : OsState × Drawn} {g : Heap} {env : Env} {cs : List (Str × Addr)} {m cm : Str → Option Value} {led : Led} {s : Shared}
theorem setAt_lst {l : Addr} {vs : List Value} {n k : Nat} {u : Tok} {v : Value} {Q : Unit → Shared → Prop} (ho : s.heap.get? l = some (lst vs n)) (hk : k < vs.length) (hz : vs.length ≤ 1000000)
    (h : ∀ h' n', Heap.SameBut l s.heap h' → h'.get? l = some (lst (vs.set k v) n') → Q () { s with heap := h' }) : wpAny (model prog w) A (setItem (.ref l) (.int k u) v) Q E s := by
  refine ki_setAt ho (by lia) (by lia) (by rw [List.size_toArray]; lia) (h _ _ (Heap.SameBut.update ..) (upd_lst _ ho ?_))
  rw [Int.toNat_natCast]
  apply Array.toList_inj.mp
  simp
/-- l[i] = e -/
theorem x_setAt {o i e : Expr} {pos pos' : Pos} {l : Addr} {vs : List Value} {n k j : Nat} {P : Value → Prop} {Q : Flow → Shared → Prop} (S : St G O g env cs m cm led s) (pe : Pv prog w A s.heap (eval e env) (fun v _ => P v)) (po : Pv prog w A s.heap (eval o env) (Is (.ref l))) (pi : Pv prog w A s.heap (eval i env) (In (k : Nat)))
    (hj : led[j]? = some (l, lst vs n)) (hk : k < vs.length) (hz : vs.length ≤ 1000000) (kk : ∀ v n' s', P v → St G O g env cs m cm (led.set j (l, lst (vs.set k v) n')) s' → Q .next s')
    (hs : swapsWith e (some (.Subscript o i pos')) pos.line env = pure false := by rfl) :
    wpAny (model prog w) A (exec (.Assign [.Subscript o i pos'] e pos) env) Q E s := by
  refine wpAny_Assign_Subscript (S.pv pe fun v s₁ r k₁ S₁ => S₁.pv (po.up k₁) fun v₂ s₂ r₂ k₂ S₂ => S₂.pv (pi.up (k₁.trans k₂)) fun v₃ s₃ r₃ k₃ S₃ => ?_) hs
  obtain rfl := r₂
  obtain ⟨u, rfl⟩ := r₃
  exact setAt_lst (S₃.mem j hj) hk hz fun h' n' hs' ho' => kk v n' _ r (S₃.upd (s' := { s₃ with heap := h' }) j hj hs' ho' S₃.gens rfl)
end
end Mine
end

section
open PySem PySem.W PyProof.Rows
namespace Mine

theorem cellsFrom_names : ∀ (names : List (Str × NameKind)) (n k : Nat) (acc acc' : List (Str × Addr)), acc.map (·.1) = acc'.map (·.1) → (cellsFrom n names acc).map (·.1) = (cellsFrom k names acc').map (·.1)
  | [], _, _, _, _, h => h
  | (x, kind) :: r, n, k, acc, acc', h => by
    unfold cellsFrom
    split
    · exact cellsFrom_names r _ _ _ _ (by simp [h])
    · exact cellsFrom_names r _ _ _ _ h
theorem lookup_of_nodup {α : Type} : ∀ {l : List (Str × α)}, (l.map (·.1)).Nodup → ∀ n c, (n, c) ∈ l → l.lookup n = some c
  | [], _, _, _, h => nomatch h
  | (x, y) :: r, hn, n, c, h => by
    rw [List.map_cons, List.nodup_cons] at hn
    rw [List.lookup_cons]
    rcases List.mem_cons.mp h with e | h
    · cases e; simp
    · have : n ≠ x := fun q => hn.1 (by rw [← q]; exact List.mem_map.mpr ⟨(n, c), h, rfl⟩)
      have hb : (n == x) = false := beq_eq_false_iff_ne.mpr this
      rw [hb]; exact lookup_of_nodup hn.2 n c h

theorem def_callC {w : World} {A : Around} {s : Shared} {Q : Value → Shared → Prop} {E : Value → Shared → Prop} {a : Addr} {o : Obj} {fd : FuncData} {body : List Stmt} {vals : List Value} {binds : List (Str × Value)} (led : Led)
    (hled : ∀ p ∈ led, s.heap.get? p.1 = some p.2) (nd : (led.map (·.1)).Nodup) (T : Tp w (hideAll s.heap (led.map (·.1)))) (hroom : A.depth < recursionLimit) (ho : (KF w).lookup a = some o) (hdata : o.data = .func fd) (hcd : s.heap.CodeRec fd.code fd.qualname)
    (hbody : fd.body = .stmts body) (hbind : bindArgs fd ⟨vals, []⟩ = pure binds) (hclo : fd.closure = [])
    (hkind : ∀ x ∈ binds, fd.scope.names.lookup x.1 = some .local ∨ (fd.scope.names.lookup x.1 = some .cell ∧ ((cellsFrom (s.heap.objs.size + 1) fd.scope.names []).lookup x.1).isSome = true))
    (hnn : ((cellsFrom 0 fd.scope.names []).map (·.1)).Nodup)
    (h : ∀ s₁, St s.gens (s.os, s.drawn) (hideAll s.heap (led.map (·.1))) (callEnvC fd s.heap.objs.size a) (cellsFrom (s.heap.objs.size + 1) fd.scope.names []) (bindL (callEnvC fd s.heap.objs.size a).kindOf binds fun _ => none) (bindC (callEnvC fd s.heap.objs.size a).kindOf binds fun _ => none) led s₁ →
      wpAny (model pr w) (A.deeper (callEnvC fd s.heap.objs.size a)) (execs body (callEnvC fd s.heap.objs.size a)) (fun f s' => Q (match f with | .ret v => v | _ => .none) s') (fun _ _ => False) s₁)
    (hco : fd.scope.isCoroutine = false := by rfl) (hgen : fd.scope.isGenerator = false := by rfl) (hk : fd.scope.kind = .function := by rfl) :
    wpAny (model pr w) A (call (.ref a) vals []) Q E s := by
  have T' : Tp w s.heap := T.up fun b o e => of_hideAll _ e
  refine wpAny_call (codeAny_call_cells hroom (T'.k a _ ho) hdata T'.nolimit hcd hbody hbind hclo hkind (fun s₁ X => ?_) hco hgen hk)
  refine wpAny_mono (h s₁ ?_) (fun f s' q => by cases f <;> exact q) fun _ _ f => f.elim
  have hnd : ((cellsFrom (s.heap.objs.size + 1) fd.scope.names []).map (·.1)).Nodup := by rw [cellsFrom_names _ _ 0 [] [] rfl]; exact hnn
  have luk := lookup_of_nodup hnd
  obtain ⟨⟨⟨h', tk, rfl⟩, ns, keep, fresh⟩, cell, apart, above⟩ := X
  refine ⟨rfl, rfl, fun b o e => keep b o (of_hideAll _ e), ns, ?_, fun n c hc => cell n c (luk n c hc), fun n c hc => ⟨?_, Nat.ne_of_gt (above n c hc)⟩, apart, luk, fun p hp => ⟨keep _ _ (hled p hp), hideAll_none _ (List.mem_map_of_mem hp), ?_, fun n c hc e => ?_⟩, nd⟩
  · cases e : (hideAll s.heap (led.map (·.1))).get? (callEnvC fd s.heap.objs.size a).locals with
    | none => rfl
    | some o => have := Heap.lt_size (of_hideAll _ e); exact absurd this (Nat.lt_irrefl _)
  · cases e : (hideAll s.heap (led.map (·.1))).get? c with
    | none => rfl
    | some o => have h1 := Heap.lt_size (of_hideAll _ e); exact absurd (Nat.lt_trans (above n c hc) h1) (Nat.lt_irrefl _)
  · have h1 := Heap.lt_size (hled p hp)
    exact Nat.ne_of_lt h1
  · have h1 := Heap.lt_size (hled p hp)
    exact absurd (Nat.lt_trans (above n c hc) (e ▸ h1)) (Nat.lt_irrefl _)
end Mine
end

section
open PySem PySem.W PyProof.Rows
namespace Mine

/-- k digits of x to the base B, the least first -/
def digs (B : Nat) : Nat → Nat → List Int
  | 0, _ => []
  | k + 1, x => ((x % B : Nat) : Int) :: digs B k (x / B)
theorem digs_length (B : Nat) : ∀ k x, (digs B k x).length = k
  | 0, _ => rfl
  | k + 1, x => by simp [digs, digs_length B k]
theorem digs_add (B : Nat) : ∀ (k j x : Nat), digs B (k + j) x = digs B k (x % B ^ k) ++ digs B j (x / B ^ k)
  | 0, j, x => by simp [digs]
  | k + 1, j, x => by
    rw [Nat.add_right_comm]
    simp only [digs, List.cons_append]
    rw [digs_add B k j (x / B)]
    have h1 : x % B ^ (k + 1) % B = x % B := by
      rw [Nat.pow_succ, Nat.mul_comm, Nat.mod_mul_right_mod]
    have h2 : x % B ^ (k + 1) / B = x / B % B ^ k := by
      rw [Nat.pow_succ, Nat.mul_comm, Nat.mod_mul_right_div_self]
    have h3 : x / B / B ^ k = x / B ^ (k + 1) := by
      rw [Nat.div_div_eq_div_mul, Nat.pow_succ, Nat.mul_comm]
    rw [h1, h2, h3]
theorem digs_one (B x : Nat) (h : x < B) : digs B 1 x = [(x : Int)] := by simp [digs, Nat.mod_eq_of_lt h]
/-- the number that digits tell, the least first -/
def val (B : Nat) : List Int → Int
  | [] => 0
  | d :: r => d + B * val B r
theorem val_append (B : Nat) : ∀ (a b : List Int), val B (a ++ b) = val B a + (B : Int) ^ a.length * val B b
  | [], b => by simp [val]
  | d :: r, b => by
    simp only [List.cons_append, val, val_append B r b, List.length_cons, Int.pow_succ]
    rw [Int.mul_add, ← Int.mul_assoc, Int.mul_comm ((B : Int) ^ r.length) B, Int.add_assoc]
theorem val_bound (B : Nat) (hB : 0 < B) : ∀ (l : List Int), (∀ d ∈ l, 0 ≤ d ∧ d < B) → 0 ≤ val B l ∧ val B l < (B : Int) ^ l.length
  | [], _ => by simp [val]
  | d :: r, h => by
    have ih := val_bound B hB r fun x hx => h x (List.mem_cons_of_mem _ hx)
    have hd := h d (List.mem_cons_self ..)
    simp only [val, List.length_cons, Int.pow_succ]
    have h1 : 0 ≤ (B : Int) * val B r := Int.mul_nonneg (by lia) ih.1
    have h2 : (B : Int) * val B r ≤ B * ((B : Int) ^ r.length - 1) := Int.mul_le_mul_of_nonneg_left (by lia) (by lia)
    have h3 : (B : Int) * ((B : Int) ^ r.length - 1) = (B : Int) ^ r.length * B - B := by rw [Int.mul_sub, Int.mul_one, Int.mul_comm]
    lia

/-- x ^ (x >> s << s) -/
theorem land_shift (x s : Nat) : x &&& (x / 2 ^ s * 2 ^ s) = x / 2 ^ s * 2 ^ s := by
  apply Nat.eq_of_testBit_eq
  intro i
  rw [Nat.testBit_and, Nat.testBit_mul_two_pow, Nat.testBit_div_two_pow]
  by_cases h : s ≤ i
  · simp [h]
  · simp [h]
theorem xor_shift (x s : Nat) : Builtin.bitXor (x : Int) (((x / 2 ^ s * 2 ^ s : Nat)) : Int) = ((x % 2 ^ s : Nat) : Int) := by
  rw [bitXor_and]
  have e : Builtin.bitAnd (x : Int) (((x / 2 ^ s * 2 ^ s : Nat)) : Int) = ((x / 2 ^ s * 2 ^ s : Nat) : Int) := by
    unfold Builtin.bitAnd
    rw [decide_eq_true (by lia : (0 : Int) ≤ (x : Int)), decide_eq_true (by lia : (0 : Int) ≤ ((x / 2 ^ s * 2 ^ s : Nat) : Int))]
    simp only [Int.toNat_natCast, land_shift]
  rw [e]
  have := Nat.mod_add_div x (2 ^ s)
  have h2 : 2 ^ s * (x / 2 ^ s) = x / 2 ^ s * 2 ^ s := Nat.mul_comm _ _
  lia
theorem digs_join {B : Nat} {ds : List Int} {L M R x : Nat} (h1 : L ≤ M) (h2 : M ≤ R) (h3 : R ≤ ds.length) :
    (ds.take L ++ digs B (M - L) (x % B ^ (M - L)) ++ ds.drop M).take M ++ digs B (R - M) (x / B ^ (M - L)) ++ (ds.take L ++ digs B (M - L) (x % B ^ (M - L)) ++ ds.drop M).drop R = ds.take L ++ digs B (R - L) x ++ ds.drop R := by
  have hl : (ds.take L ++ digs B (M - L) (x % B ^ (M - L))).length = M := by simp [digs_length]; lia
  rw [List.take_append_of_le_length (by lia), List.take_of_length_le (by lia)]
  rw [List.drop_append, List.drop_eq_nil_of_le (by lia), List.nil_append, List.drop_drop, hl]
  have e1 : M + (R - M) = R := by lia
  have e2 : R - L = (M - L) + (R - M) := by lia
  rw [e1, e2, digs_add]
  simp [List.append_assoc]
theorem digs_setAt {ds : List Int} {L : Nat} {x : Int} (h : L < ds.length) : ds.set L x = ds.take L ++ [x] ++ ds.drop (L + 1) := by
  rw [List.set_eq_take_append_cons_drop, if_pos h]; simp
theorem fdiv_nat (x k : Nat) : Int.fdiv (x : Int) (2 ^ k) = ((x / 2 ^ k : Nat) : Int) := by
  rw [Int.fdiv_eq_ediv_of_nonneg _ (Int.le_of_lt (Int.pow_pos (by decide)))]
  simp
theorem intBits_le_nat {x m : Nat} (h : x < 2 ^ m) : Builtin.Int.intBits (x : Int) ≤ m := intBits_le_iff.mpr (by simpa using h)
end Mine
end

section
open PySem PySem.W PyProof.Rows
namespace Mine
abbrev pos1 : Pos := ⟨46, 4, 55, 28⟩
abbrev q1 : Str := (Str.ofString "_int2digits" ++ Str.ofString ".<locals>.") ++ Str.ofString "inner"
theorem i2d_binds {w : World} {o : Obj} {fd : FuncData} (ho : (KF w).lookup 42 = some o) (hd : o.data = .func fd) {a n : Value} : bindArgs fd ⟨[a, n], []⟩ = pure [((("a" : String) : Str), a), ((("n" : String) : Str), n)] := by
  cases ho
  cases hd
  rfl
theorem intBits_lt {a : Nat} : a < 2 ^ (Builtin.Int.intBits (a : Int)) := by
  have := (intBits_le_iff (m := Builtin.Int.intBits (a : Int)) (x := (a : Int))).mp (Nat.le_refl _)
  simpa using this

theorem nocell {names : List (Str × NameKind)} (h : (names.all fun x => decide (x.2 ≠ .cell)) = true) : ∀ x ∈ names, x.2 ≠ .cell := fun x hx => of_decide_eq_true (List.all_eq_true.mp h x hx)
theorem def_callX {w : World} {A : Around} {s : Shared} {Q : Value → Shared → Prop} {E : Value → Shared → Prop} {a : Addr} {o : Obj} {fd : FuncData} {body : List Stmt} {vals : List Value} {binds : List (Str × Value)} (led : Led)
    (hled : ∀ p ∈ led, s.heap.get? p.1 = some p.2) (nd : (led.map (·.1)).Nodup) (hlim : s.heap.NoLimit) (hroom : A.depth < recursionLimit) (ho : s.heap.get? a = some o) (hdata : o.data = .func fd) (hcd : s.heap.CodeRec fd.code fd.qualname)
    (hbody : fd.body = .stmts body) (hbind : BindsTo s fd ⟨vals, []⟩ binds)
    (hcell : ∀ x ∈ fd.scope.names, x.2 ≠ .cell) (hloc : ∀ x ∈ binds, fd.scope.names.lookup x.1 = some .local)
    (h : ∀ s₁, Kp s.heap s₁.heap → St s.gens (s.os, s.drawn) (hideAll s.heap (led.map (·.1))) (callEnv fd s.heap.objs.size a) [] (fun x => binds.reverse.lookup x) (fun _ => none) led s₁ →
      wpAny (model pr w) (A.deeper (callEnv fd s.heap.objs.size a)) (execs body (callEnv fd s.heap.objs.size a)) (fun f s' => Q (match f with | .ret v => v | _ => .none) s') (fun _ _ => False) s₁)
    (hco : fd.scope.isCoroutine = false := by rfl) (hgen : fd.scope.isGenerator = false := by rfl) (hk : fd.scope.kind = .function := by rfl) :
    wpAny (model pr w) A (call (.ref a) vals []) Q E s :=
  wpAny_call (codeAny_call_def hroom ho hdata hlim hcd hbody hbind hcell hloc (fun h₁ hns hk₁ =>
    wpAny_mono (h _ hk₁ (St.enterH (env := callEnv fd s.heap.objs.size a) (tk := s.toks + binds.length) led hled nd rfl hns hk₁)) (fun f s' q => by cases f <;> exact q) fun _ _ f => f.elim) hco hgen hk)

theorem ints_rep {t : Tok} {i : Int} : ∀ k, IntsAre (List.replicate k (.int i t)) (List.replicate k i)
  | 0 => .nil
  | k + 1 => .cons _ _ (ints_rep k)

theorem i2d_call {w : World} {A : Around} {s : Shared} {Q : Value → Shared → Prop} {E : Value → Shared → Prop} {a n : Nat} {ta tn : Tok} {ps : Array Value} (T : Tp w (hideAll s.heap [37])) (C : CodeHd (hideAll s.heap [37]) 41 37)
    (hP : s.heap.get? 37 = some (tabObj ps)) (ht : TabOk (hideAll s.heap [37]) pos1 q1 ps) (hd : A.depth + 500 < recursionLimit) (hn1 : 1 ≤ n) (hn2 : n ≤ 1000) (hk : (Builtin.Int.intBits (a : Int) + n - 1) / n ≤ 400)
    (k : ∀ s' l vs nn more, s.heap.get? l = none → s'.heap.get? l = some (lst vs nn) → IntsAre vs (digs (2 ^ n) ((Builtin.Int.intBits (a : Int) + n - 1) / n) a) → s'.heap.get? 37 = some (tabObj (ps ++ more)) →
      TabOk (hideAll s'.heap [37]) pos1 q1 (ps ++ more) → Kp (hideAll s.heap [37]) s'.heap → s'.gens = s.gens → (s'.os, s'.drawn) = (s.os, s.drawn) → Q (.ref l) s') :
    wpAny (model pr w) A (call (.ref 42) [.int (a : Nat) ta, .int (n : Nat) tn] []) Q E s := by
  have T' : Tp w s.heap := T.up fun b o e => of_hideAll _ e
  refine def_callC [(37, tabObj ps)] (by intro p hp; rcases List.mem_singleton.mp hp with rfl; exact hP) (by simp) T (by lia) rfl rfl (code_rec T' rfl rfl) rfl (i2d_binds (w := w) rfl rfl) rfl ?_ (by decide) fun s₁ S₁ => ?_
  · intro x hx
    simp only [List.mem_cons, List.not_mem_nil, or_false] at hx
    rcases hx with rfl | rfl
    · exact .inl rfl
    · exact .inr ⟨rfl, rfl⟩
  replace S₁ : St s.gens (s.os, s.drawn) (hideAll s.heap [37]) _ _ _ _ _ s₁ := S₁
  have hlen : Int.fdiv (((Builtin.Int.intBits (a : Int) : Nat) : Int) + (n : Nat) - 1) (n : Nat) = (((Builtin.Int.intBits (a : Int) + n - 1) / n : Nat) : Int) := by
    have e : (((Builtin.Int.intBits (a : Int) + n - 1 : Nat)) : Int) = ((Builtin.Int.intBits (a : Int) : Nat) : Int) + (n : Nat) - 1 := by lia
    rw [Int.fdiv_eq_ediv_of_nonneg _ (by lia), ← e, Int.natCast_ediv]
  have hl0 : 0 ≤ Int.fdiv (((Builtin.Int.intBits (a : Int) : Nat) : Int) + (n : Nat) - 1) (n : Nat) := by rw [hlen]; exact Int.natCast_nonneg _
  have hl1 : Int.fdiv (((Builtin.Int.intBits (a : Int) : Nat) : Int) + (n : Nat) - 1) (n : Nat) ≤ 1000000 := by
    rw [hlen]
    have : (Builtin.Int.intBits (a : Int) + n - 1) / n ≤ 1000000 := by lia
    exact Int.ofNat_le.mpr this
  refine x_cons (x_setCN S₁ (.rep .cint (.divI (.subI (.addI (.bitlen (.nameI (S₁.loc rfl))) (.nameI (S₁.cel rfl))) .cint) (.nameI (S₁.cel rfl)) (by lia) (by lia)) hl0 hl1) fun D o s₂ s₃ ho k₂ S₃ => ?_)
  obtain ⟨_, ⟨t0, rfl⟩, rfl⟩ := ho
  rw [hlen, Int.toNat_natCast] at S₃
  refine x_cons (x_def (i := 1) S₃ T rfl C rfl ht (by decide) (by decide) rfl fun fa cv ct doc more s₄ hfa hrec hrecP hca htr S₄ => ?_)
  have hD4 := S₄.mem 0 rfl
  have T₄ : Tp w s₄.heap := T.up S₄.keep
  have faD : fa ≠ D := fun q => by rw [q, hD4] at hfa; simp at hfa
  -- what stands while inner runs
  have gI : ∀ b o, b ≠ D → s₄.heap.get? b = some o → (hideAll s₄.heap [D]).get? b = some o := fun b o hb e => hideAll_get [D] e fun q => hb (List.mem_singleton.mp q)
  have Dg : (hideAll s.heap [37]).get? D = none := (S₄.own _ (List.mem_of_getElem? (i := 0) rfl)).2.1
  have TI : Tp w (hideAll s₄.heap [D]) := T.up fun b o e => gI b o (fun q => by rw [q, Dg] at e; cases e) (S₄.keep b o e)
  have cellI : ∀ {c v}, s₄.heap.IsCell c (some v) → (hideAll s₄.heap [D]).IsCell c (some v) := fun {c v} x => by
    obtain ⟨o, e, hd'⟩ := x
    exact ⟨o, gI c o (fun q => by rw [q, hD4] at e; cases e; cases hd') e, hd'⟩
  have recI : (hideAll s₄.heap [D]).CodeRec cv q1 := by
    obtain ⟨c₁, o₁, vs₁, t₁, e₁, g₁, d₁, r₁⟩ := hrec
    exact ⟨c₁, o₁, vs₁, t₁, e₁, gI _ _ (fun q => by rw [q, hD4] at g₁; cases g₁; cases d₁) g₁, d₁, r₁⟩
  have faI := gI fa _ faD hfa
  have cn := cellI (S₄.cell "n" _ (.tail _ (.tail _ (.head _))))
  have ci := cellI (S₄.cell "inner" _ (.head _))
  have cd := cellI (S₄.cell "a_digits" _ (.tail _ (.head _)))
  have hB : 0 < 2 ^ n := Nat.two_pow_pos n
  have inner : ∀ (N L R x : Nat) (A : Around) (s : Shared) (vs : List Value) (nn : Nat) (ds : List Int) (tx tL tR : Tok) (Q : Value → Shared → Prop) (E : Value → Shared → Prop), R - L = N → L < R → R ≤ ds.length → ds.length ≤ 1000 → x < (2 ^ n) ^ (R - L) → Kp (hideAll s₄.heap [D]) s.heap →
      s.heap.get? D = some (lst vs nn) → IntsAre vs ds → A.depth + N < recursionLimit →
      (∀ s' vs' nn', (∀ b o, b ≠ D → s.heap.get? b = some o → s'.heap.get? b = some o) → s'.heap.get? D = some (lst vs' nn') → IntsAre vs' (ds.take L ++ digs (2 ^ n) (R - L) x ++ ds.drop R) → s'.gens = s.gens → (s'.os, s'.drawn) = (s.os, s.drawn) → Q .none s') →
      wpAny (model pr w) A (call (.ref fa) [.int (x : Nat) tx, .int (L : Nat) tL, .int (R : Nat) tR] []) Q E s := by
    intro N
    induction N using Nat.strongRecOn with
    | ind N ih =>
      intro L R x A s vs nn ds tx tL tR Q E hN hLR hR hds hx ks hDs hi hdep kk
      have hvl : vs.length = ds.length := hi.length
      refine def_callX [(D, lst vs nn)] (by intro p hp; rcases List.mem_singleton.mp hp with rfl; exact hDs) (by simp) (TI.up ks).nolimit (by lia) (ks _ _ faI) rfl (recI.keeps ks) rfl (BindsTo.of_eq rfl) (nocell rfl) (locs rfl) fun s₅ k₅ S₅ => ?_
      replace S₅ : St s.gens (s.os, s.drawn) (hideAll s.heap [D]) _ _ _ _ _ s₅ := S₅
      have cells5 : ∀ {s' : Shared}, Kp (hideAll s.heap [D]) s'.heap → Kp (hideAll s₄.heap [D]) s'.heap := fun kk b o e => kk b o (hideAll_get [D] (ks b o e) fun q => by
        rw [List.mem_singleton.mp q, hideAll_none [D] (List.mem_singleton.mpr rfl)] at e; cases e)
      refine x_cons (x_if S₅ (.teq (.addI (.nameI (S₅.loc rfl)) .cint) (.nameI (S₅.loc rfl))) (fun hb s₆ k₆ S₆ => ?_) fun hb s₆ k₆ S₆ => ?_)
      · have hR1 : R = L + 1 := by have : (L : Int) + 1 = (R : Int) := by simpa using hb
                                   lia
        subst hR1
        refine x_cons (x_setAt (j := 0) S₆ (.name (S₆.loc rfl)) (.name (.fre (cd.keeps (cells5 S₆.keep)) rfl)) (.nameI (S₆.loc rfl)) rfl (by lia) (by lia) fun v n' s₇ hv S₇ => ?_)
        obtain rfl := hv
        refine x_cons (wpAny_Return_none ?_)
        have e1 : L + 1 - L = 1 := by lia
        rw [e1, Nat.pow_one] at hx
        refine kk _ _ _ ?_ (S₇.mem 0 rfl) ?_ S₇.gens S₇.os
        · intro b o hb' e
          exact S₇.keep b o (hideAll_get [D] e fun q => hb' (List.mem_singleton.mp q))
        · rw [e1, digs_one _ _ hx, ← digs_setAt (by lia)]
          exact ints_set hi L
      · have hLR2 : L + 1 < R := by
          have : (L : Int) + 1 ≠ (R : Int) := by simpa using hb
          lia
        -- the middle
        have hm1 : L < (L + R) / 2 := by lia
        have hm2 : (L + R) / 2 < R := by lia
        generalize hM : (L + R) / 2 = M at hm1 hm2
        refine x_nil (x_cons (x_setI S₆ (.shrI (.addI (.nameI (S₆.loc rfl)) (.nameI (S₆.loc rfl))) .cint (by decide)) fun t₇ s₇ S₇ => ?_))
        have eM : Int.fdiv ((L : Int) + (R : Int)) (2 ^ (1 : Int).toNat) = ((M : Nat) : Int) := by
          have := fdiv_nat (L + R) 1
          rw [← hM]
          simpa using this
        rw [eM] at S₇
        refine x_cons (x_setI S₇ (.mulI (.subI (.nameI (S₇.loc rfl)) (.nameI (S₇.loc rfl))) (.nameI (.fre (cn.keeps (cells5 S₇.keep)) rfl)) (IntMulOk.of_right (intBits_le_nat (by lia)))) fun t₈ s₈ S₈ => ?_)
        have eS : ((M : Int) - (L : Int)) * (n : Nat) = (((M - L) * n : Nat) : Int) := by
          rw [Int.natCast_mul, Int.ofNat_sub (by lia)]
        rw [eS] at S₈
        refine x_cons (x_setI S₈ (.shrI (.nameI (S₈.loc rfl)) (.nameI (S₈.loc rfl)) (Int.natCast_nonneg _)) fun t₉ s₉ S₉ => ?_)
        rw [Int.toNat_natCast, fdiv_nat] at S₉
        have hpow : (2 ^ n) ^ (M - L) = 2 ^ ((M - L) * n) := by rw [← Nat.pow_mul, Nat.mul_comm]
        have hsmall : (R - L) * n ≤ 1000000 := by
          have : (R - L) * n ≤ 1000 * 1000 := Nat.mul_le_mul (by lia) hn2
          lia
        have hs2 : (M - L) * n ≤ 1000000 := Nat.le_trans (Nat.mul_le_mul_right n (by lia)) hsmall
        have hxb : x < 2 ^ 1000000 := Nat.lt_of_lt_of_le hx (by rw [← Nat.pow_mul, Nat.mul_comm]; exact Nat.pow_le_pow_right (by decide) hsmall)
        have hub : Builtin.Int.intBits ((x / 2 ^ ((M - L) * n) : Nat) : Int) ≤ 1000000 := intBits_le_nat (Nat.lt_of_le_of_lt (Nat.div_le_self ..) hxb)
        refine x_cons (x_setI S₉ (.xorI (.nameI (S₉.loc rfl)) (.shlI (.nameI (S₉.loc rfl)) (.nameI (S₉.loc rfl)) (Int.natCast_nonneg _) ?_)) fun t₁₀ s₁₀ S₁₀ => ?_)
        · have : (Builtin.Int.intBits ((x / 2 ^ ((M - L) * n) : Nat) : Int) : Int) ≤ 1000000 := Int.ofNat_le.mpr hub
          have h2 : (((M - L) * n : Nat) : Int) ≤ 1000000 := Int.ofNat_le.mpr hs2
          have h3 : (1000000 : Int) + 1000000 ≤ 2 ^ 27 := by decide
          lia
        have eX : Builtin.bitXor ((x : Nat) : Int) (((x / 2 ^ ((M - L) * n) : Nat) : Int) * 2 ^ ((((M - L) * n : Nat) : Int)).toNat) = ((x % (2 ^ n) ^ (M - L) : Nat) : Int) := by
          rw [hpow, ← xor_shift, Int.toNat_natCast, Int.natCast_mul, Int.natCast_pow]
          rfl
        rw [eX] at S₁₀
        rw [← hpow] at S₁₀
        have k10 := cells5 S₁₀.keep
        have hMds : M ≤ ds.length := by lia
        refine x_cons (wpAny_Expr_any (callF_of (.fre (ci.keeps k10) rfl) (k10 _ _ faI) rfl (.args3 (.name (S₁₀.loc rfl)) (.name (S₁₀.loc rfl)) (.name (S₁₀.loc rfl))) fun vs' h' tk k' r => ?_))
        obtain ⟨_, _, _, rfl, rfl, rfl, rfl⟩ := r
        have S₁₁ := S₁₀.grow k' tk
        refine ih (M - L) (by lia) L M _ _ _ vs nn ds _ _ _ _ _ rfl hm1 hMds hds (Nat.mod_lt _ (Nat.pow_pos hB)) (k10.trans k') (S₁₁.mem 0 rfl) hi (by show A.depth + 1 + (M - L) < _; lia) fun s₁₂ vs₁ nn₁ kk₁ hD₁ hi₁ g₁ o₁ => ?_
        have S₁₂ := S₁₁.turn (s' := s₁₂) (led' := [(D, lst vs₁ nn₁)]) [D] (fun b hb => hb) (fun b o hb e => kk₁ b o (fun q => hb (List.mem_singleton.mpr q)) e) rfl (fun p hp => by rcases List.mem_singleton.mp hp with rfl; exact hD₁) (g₁.trans S₁₁.gens) o₁
        have k12 := cells5 S₁₂.keep
        have hl1 : (ds.take L ++ digs (2 ^ n) (M - L) (x % (2 ^ n) ^ (M - L)) ++ ds.drop M).length = ds.length := by simp [digs_length]; lia
        refine x_cons (wpAny_Expr_any (callF_of (.fre (ci.keeps k12) rfl) (k12 _ _ faI) rfl (.args3 (.name (S₁₂.loc rfl)) (.name (S₁₂.loc rfl)) (.name (S₁₂.loc rfl))) fun vs' h' tk k' r => ?_))
        obtain ⟨_, _, _, rfl, rfl, rfl, rfl⟩ := r
        have S₁₃ := S₁₂.grow k' tk
        have hxu : x / (2 ^ n) ^ (M - L) < (2 ^ n) ^ (R - M) := by
          rw [Nat.div_lt_iff_lt_mul (Nat.pow_pos hB), ← Nat.pow_add]
          have : R - M + (M - L) = R - L := by lia
          rw [this]; exact hx
        refine ih (R - M) (by lia) M R _ _ _ vs₁ nn₁ _ _ _ _ _ _ rfl hm2 (by rw [hl1]; exact hR) (by rw [hl1]; exact hds) hxu (k12.trans k') (S₁₃.mem 0 rfl) hi₁ (by show A.depth + 1 + (R - M) < _; lia) fun s₁₄ vs₂ nn₂ kk₂ hD₂ hi₂ g₂ o₂ => ?_
        have S₁₄ := S₁₃.turn (s' := s₁₄) (led' := [(D, lst vs₂ nn₂)]) [D] (fun b hb => hb) (fun b o hb e => kk₂ b o (fun q => hb (List.mem_singleton.mpr q)) e) rfl (fun p hp => by rcases List.mem_singleton.mp hp with rfl; exact hD₂) (g₂.trans S₁₃.gens) o₂
        rw [digs_join (by lia) (by lia) hR] at hi₂
        refine x_nil (kk _ _ _ (fun b o hb' e => S₁₄.keep b o (hideAll_get [D] e fun q => hb' (List.mem_singleton.mp q))) hD₂ hi₂ S₁₄.gens S₁₄.os)
  generalize hK : (Builtin.Int.intBits (a : Int) + n - 1) / n = K at *
  -- the end
  have fin : ∀ (s' : Shared) (vs : List Value) (nn : Nat), (∀ b o, b ≠ D → s₄.heap.get? b = some o → s'.heap.get? b = some o) → s'.heap.get? D = some (lst vs nn) → IntsAre vs (digs (2 ^ n) K a) → s'.gens = s₄.gens → (s'.os, s'.drawn) = (s₄.os, s₄.drawn) → Q (.ref D) s' := by
    intro s' vs nn kk hD hi hg ho
    have D37 : D ≠ 37 := fun q => by
      have := S₄.nd
      simp only [List.set, List.map_cons, List.map_nil, List.nodup_cons, List.mem_singleton] at this
      exact this.1 q
    have m37 : s₄.heap.get? 37 = some (tabObj (ps ++ more)) := S₄.mem 1 rfl
    refine k s' D vs nn more ?_ hD hi (kk 37 _ (Ne.symm D37) m37) ⟨htr, fun cv' e => ?_⟩ (fun b o e => kk b o (fun q => by rw [q, Dg] at e; cases e) (S₄.keep b o e)) (hg.trans S₄.gens) (ho.trans S₄.os)
    · cases e : s.heap.get? D with
      | none => rfl
      | some o => have := hideAll_get [37] e (fun q => D37 (List.mem_singleton.mp q)); rw [Dg] at this; cases this
    · rw [hca] at e; cases e
      obtain ⟨c₁, o₁, vs₁, t₁, e₁, g₁, d₁, r₁⟩ := hrecP
      have g₂ := of_hideAll _ g₁
      refine ⟨c₁, o₁, vs₁, t₁, e₁, hideAll_get [37] (kk _ _ (fun q => by rw [q, hD4] at g₂; cases g₂; cases d₁) g₂) (fun q => ?_), d₁, r₁⟩
      rw [List.mem_singleton.mp q, hideAll_none [37] (List.mem_singleton.mpr rfl)] at g₁; cases g₁
  refine x_cons (x_if S₄ (.truthI (.nameI (S₄.loc rfl))) (fun hb s₅ k₅ S₅ => ?_) fun hb s₅ k₅ S₅ => ?_)
  · have ha : a ≠ 0 := by intro q; subst q; simp at hb
    have hbits : a < 2 ^ (Builtin.Int.intBits (a : Int)) := intBits_lt
    have hb1 : 1 ≤ Builtin.Int.intBits (a : Int) := by
      rcases Nat.eq_zero_or_pos (Builtin.Int.intBits (a : Int)) with e | e
      · rw [e] at hbits; simp at hbits; exact absurd hbits ha
      · exact e
    have hK1 : 0 < K := by
      rw [← hK]; exact Nat.div_pos (by lia) (by lia)
    have hKn : Builtin.Int.intBits (a : Int) ≤ n * K := by
      have h1 := Nat.div_add_mod (Builtin.Int.intBits (a : Int) + n - 1) n
      have h2 := Nat.mod_lt (Builtin.Int.intBits (a : Int) + n - 1) (show 0 < n by lia)
      rw [hK] at h1
      lia
    have haK : a < (2 ^ n) ^ (K - 0) := by
      rw [Nat.sub_zero, ← Nat.pow_mul]
      exact Nat.lt_of_lt_of_le hbits (Nat.pow_le_pow_right (by decide) hKn)
    have T₅ : Tp w s₅.heap := T.up S₅.keep
    refine x_cons (wpAny_Expr_any (callF_of (.cel (S₅.cell "inner" _ (.head _)) rfl) (k₅ _ _ hfa) rfl (.args3 (P₃ := fun v => ∃ t, v = .int (K : Nat) t) (.name (S₅.loc rfl)) .cint (.callB (.boot T₅ g_len b_len) (.args1 (.name (S₅.cel rfl))) fun vs' h' k' r => ?_)) fun vs' h' tk k' r => ?_))
    · obtain ⟨_, rfl, rfl⟩ := r
      exact (len_pv (k' _ _ (S₅.mem 0 rfl)) (by simp; lia)).mono fun v _ _ e => by simpa using e
    obtain ⟨_, _, _, rfl, rfl, ⟨_, rfl⟩, _, rfl⟩ := r
    have S₆ := S₅.grow k' tk
    refine inner K 0 K a _ _ (List.replicate K (.int 0 t0)) _ (List.replicate K 0) _ _ _ _ _ (by lia) hK1 (by simp) (by simp; lia) haK ?_ (S₆.mem 0 rfl) (ints_rep K) (by show A.depth + 1 + K < _; lia) ?_
    · exact fun b o e => k' _ _ (k₅ _ _ (of_hideAll _ e))
    · intro s₇ vs₇ nn₇ kk₇ hD₇ hi₇ g₇ o₇
      rw [List.take_zero, List.nil_append, Nat.sub_zero, List.drop_eq_nil_of_le (by simp), List.append_nil] at hi₇
      have S₇ := S₆.turn (s' := s₇) (led' := [(D, lst vs₇ nn₇), (37, tabObj (ps ++ more))]) [D] (fun b hb => by rcases List.mem_singleton.mp hb with rfl; exact List.mem_cons_self ..) (fun b o hb e => kk₇ b o (fun q => hb (List.mem_singleton.mpr q)) e) rfl (fun p hp => by
        rcases List.mem_cons.mp hp with rfl | hp
        · exact hD₇
        · rcases List.mem_singleton.mp hp with rfl
          exact kk₇ _ _ (fun q => by
            have := S₆.nd
            simp only [List.set, List.map_cons, List.map_nil, List.nodup_cons, List.mem_singleton] at this
            exact this.1 q.symm) (S₆.mem 1 rfl)) (g₇.trans S₆.gens) o₇
      refine x_nil (x_cons (x_ret S₇ (.name (S₇.cel rfl)) fun v s₈ r k₈ S₈ => ?_))
      obtain rfl := r
      exact fin s₈ vs₇ nn₇ (fun b o hb e => k₈ _ _ (kk₇ _ _ hb (k' _ _ (k₅ _ _ e)))) (S₈.mem 0 rfl) hi₇ (S₈.gens.trans S₄.gens.symm) (S₈.os.trans S₄.os.symm)
  · have ha : a = 0 := by simpa using hb
    have hK0 : K = 0 := by
      rw [← hK, ha]
      have : Builtin.Int.intBits ((0 : Nat) : Int) = 0 := rfl
      rw [this]
      exact Nat.div_eq_of_lt (by lia)
    refine x_nil (x_cons (x_ret S₅ (.name (S₅.cel rfl)) fun v s₈ r k₈ S₈ => ?_))
    obtain rfl := r
    refine fin s₈ _ _ (fun b o hb e => k₈ _ _ (k₅ _ _ e)) (S₈.mem 0 rfl) ?_ (S₈.gens.trans S₄.gens.symm) (S₈.os.trans S₄.os.symm)
    rw [hK0]; exact .nil
end Mine
end

section
open PySem PySem.W PyProof.Rows
namespace Mine
abbrev pos2 : Pos := ⟨61, 4, 66, 55⟩
abbrev q2 : Str := (Str.ofString "_digits2int" ++ Str.ofString ".<locals>.") ++ Str.ofString "inner"
theorem d2i_binds {w : World} {o : Obj} {fd : FuncData} (ho : (KF w).lookup 49 = some o) (hd : o.data = .func fd) {a n : Value} : bindArgs fd ⟨[a, n], []⟩ = pure [((("digits" : String) : Str), a), ((("n" : String) : Str), n)] := by
  cases ho
  cases hd
  rfl
theorem seg_one {ds : List Int} {L : Nat} {y : Int} (h : ds[L]? = some y) : (ds.take (L + 1)).drop L = [y] := by
  obtain ⟨hl, rfl⟩ := List.getElem?_eq_some_iff.mp h
  rw [List.take_succ_eq_append_getElem hl, List.drop_append, List.drop_eq_nil_of_le (by simp; lia), List.length_take, Nat.min_eq_left (by lia)]
  simp
theorem seg_two {ds : List Int} {L M R : Nat} (h1 : L ≤ M) (h2 : M ≤ R) (h3 : R ≤ ds.length) : (ds.take R).drop L = (ds.take M).drop L ++ (ds.take R).drop M := by
  have : ds.take R = ds.take M ++ (ds.take R).drop M := by
    conv => lhs; rw [← List.take_append_drop M (ds.take R), List.take_take, Nat.min_eq_left h2]
  conv => lhs; rw [this, List.drop_append]
  have e : L - (ds.take M).length = 0 := by rw [List.length_take]; lia
  rw [e, List.drop_zero]
theorem intBits_le_int {x : Int} {m : Nat} (h0 : 0 ≤ x) (h : x < 2 ^ m) : Builtin.Int.intBits x ≤ m := by
  obtain ⟨k, rfl⟩ := Int.eq_ofNat_of_zero_le h0
  exact intBits_le_nat (by exact_mod_cast h)

theorem d2i_call {w : World} {A : Around} {s : Shared} {Q : Value → Shared → Prop} {E : Value → Shared → Prop} {l : Addr} {vs : List Value} {ds : List Int} {nn n : Nat} {tn : Tok} {ps : Array Value} (T : Tp w (hideAll s.heap [44])) (C : CodeHd (hideAll s.heap [44]) 48 44)
    (hP : s.heap.get? 44 = some (tabObj ps)) (ht : TabOk (hideAll s.heap [44]) pos2 q2 ps) (hd : A.depth + 500 < recursionLimit) (hn1 : 1 ≤ n) (hn2 : n ≤ 1000) (hlen : ds.length ≤ 400)
    (ho : s.heap.get? l = some (lst vs nn)) (hi : IntsAre vs ds) (hds : ∀ d ∈ ds, 0 ≤ d ∧ d < ((2 ^ n : Nat) : Int))
    (k : ∀ s' t more, s'.heap.get? 44 = some (tabObj (ps ++ more)) →
      TabOk (hideAll s'.heap [44]) pos2 q2 (ps ++ more) → Kp (hideAll s.heap [44]) s'.heap → s'.gens = s.gens → (s'.os, s'.drawn) = (s.os, s.drawn) → Q (.int (val (2 ^ n) ds) t) s') :
    wpAny (model pr w) A (call (.ref 49) [.ref l, .int (n : Nat) tn] []) Q E s := by
  have T' : Tp w s.heap := T.up fun b o e => of_hideAll _ e
  have l44 : l ≠ 44 := fun q => by rw [q, hP] at ho; cases ho
  have hlg : (hideAll s.heap [44]).get? l = some (lst vs nn) := hideAll_get [44] ho fun q => l44 (List.mem_singleton.mp q)
  refine def_callC [(44, tabObj ps)] (by intro p hp; rcases List.mem_singleton.mp hp with rfl; exact hP) (by simp) T (by lia) rfl rfl (code_rec T' rfl rfl) rfl (d2i_binds (w := w) rfl rfl) rfl ?_ (by decide) fun s₁ S₁ => ?_
  · intro x hx
    simp only [List.mem_cons, List.not_mem_nil, or_false] at hx
    rcases hx with rfl | rfl
    · exact .inr ⟨rfl, rfl⟩
    · exact .inr ⟨rfl, rfl⟩
  replace S₁ : St s.gens (s.os, s.drawn) (hideAll s.heap [44]) _ _ _ _ _ s₁ := S₁
  refine x_cons (x_def (i := 0) S₁ T rfl C rfl ht (by decide) (by decide) rfl fun fa cv ct doc more s₄ hfa hrec hrecP hca htr S₄ => ?_)
  have T₄ : Tp w s₄.heap := T.up S₄.keep
  have cn := S₄.cell "n" _ (PySem.mem_of_lookup (l := cellsFrom (s.heap.objs.size + 1) _ []) rfl)
  have ci := S₄.cell "inner" _ (PySem.mem_of_lookup (l := cellsFrom (s.heap.objs.size + 1) _ []) rfl)
  have cd := S₄.cell "digits" _ (PySem.mem_of_lookup (l := cellsFrom (s.heap.objs.size + 1) _ []) rfl)
  have hl4 := S₄.keep _ _ hlg
  have hvl : vs.length = ds.length := hi.length
  have hB : 0 < 2 ^ n := Nat.two_pow_pos n
  have inner : ∀ (N L R : Nat) (A : Around) (h : Heap) (tL tR : Tok), R - L = N → L < R → R ≤ ds.length → Kp s₄.heap h → A.depth + N < recursionLimit →
      Pv pr w A h (call (.ref fa) [.int (L : Nat) tL, .int (R : Nat) tR] []) (In (val (2 ^ n) ((ds.take R).drop L))) := by
    intro N
    induction N using Nat.strongRecOn with
    | ind N ih =>
      intro L R A h tL tR hN hLR hR kh hdep s Q E ks q
      have k4s := kh.trans ks
      have T₅ : Tp w s.heap := T₄.up k4s
      refine def_callX [] (by intro p hp; cases hp) (by simp) T₅.nolimit (by lia) (k4s _ _ hfa) rfl (hrec.keeps k4s) rfl (BindsTo.of_eq rfl) (nocell rfl) (locs rfl) fun s₅ k₅ S₅ => ?_
      have kp5 : ∀ {s' : Shared}, Kp (hideAll s.heap []) s'.heap → Kp s.heap s'.heap := fun kk b o e => kk b o (hideAll_get [] e (by simp))
      refine x_cons (x_if S₅ (.teq (.addI (.nameI (S₅.loc rfl)) .cint) (.nameI (S₅.loc rfl))) (fun hb s₆ k₆ S₆ => ?_) fun hb s₆ k₆ S₆ => ?_)
      · have hR1 : R = L + 1 := by have : (L : Int) + 1 = (R : Int) := by simpa using hb
                                   lia
        subst hR1
        have k46 := k4s.trans (kp5 S₆.keep)
        obtain ⟨y, hy⟩ : ∃ y, ds[L]? = some y := ⟨_, List.getElem?_eq_getElem (by lia)⟩
        refine x_cons (x_ret S₆ (.itemI (.name (.fre (cd.keeps k46) rfl)) (.nameI (S₆.loc rfl)) (k46 _ _ hl4) hi (Int.natCast_nonneg _) (by lia) (by rw [Int.toNat_natCast]; exact hy)) fun v s₇ r k₇ S₇ => ?_)
        rw [S₇.back]
        refine q _ _ _ (kp5 S₇.keep) ?_
        rw [seg_one hy]
        simpa [val] using r
      · have hLR2 : L + 1 < R := by
          have : (L : Int) + 1 ≠ (R : Int) := by simpa using hb
          lia
        have hm1 : L < (L + R) / 2 := by lia
        have hm2 : (L + R) / 2 < R := by lia
        generalize hM : (L + R) / 2 = M at hm1 hm2
        refine x_nil (x_cons (x_setI S₆ (.shrI (.addI (.nameI (S₆.loc rfl)) (.nameI (S₆.loc rfl))) .cint (by decide)) fun t₇ s₇ S₇ => ?_))
        have eM : Int.fdiv ((L : Int) + (R : Int)) (2 ^ (1 : Int).toNat) = ((M : Nat) : Int) := by
          have := fdiv_nat (L + R) 1
          rw [← hM]
          simpa using this
        rw [eM] at S₇
        have k47 := k4s.trans (kp5 S₇.keep)
        refine x_cons (x_setI S₇ (.mulI (.subI (.nameI (S₇.loc rfl)) (.nameI (S₇.loc rfl))) (.nameI (.fre (cn.keeps k47) rfl)) (IntMulOk.of_right (intBits_le_nat (by lia)))) fun t₈ s₈ S₈ => ?_)
        have eS : ((M : Int) - (L : Int)) * (n : Nat) = (((M - L) * n : Nat) : Int) := by
          rw [Int.natCast_mul, Int.ofNat_sub (by lia)]
        rw [eS] at S₈
        have k48 := k4s.trans (kp5 S₈.keep)
        have hsmall : (M - L) * n ≤ 400000 := by
          have : (M - L) * n ≤ 400 * 1000 := Nat.mul_le_mul (by lia) hn2
          lia
        have hsm2 : n * (R - M) ≤ 400000 := by
          have : n * (R - M) ≤ 1000 * 400 := Nat.mul_le_mul hn2 (by lia)
          lia
        have bnd := val_bound (2 ^ n) hB ((ds.take R).drop M) fun d hd' => hds d (List.mem_of_mem_take (List.mem_of_mem_drop hd'))
        have lenM : ((ds.take R).drop M).length = R - M := by simp; lia
        have lenL : ((ds.take M).drop L).length = M - L := by simp; lia
        have bits : Builtin.Int.intBits (val (2 ^ n) ((ds.take R).drop M)) ≤ 400000 := by
          refine Nat.le_trans (intBits_le_int bnd.1 (m := n * (R - M)) ?_) hsm2
          have := bnd.2
          rw [lenM, Int.natCast_pow, ← Int.pow_mul] at this
          exact this
        refine x_cons (x_ret S₈ (.addI (a := val (2 ^ n) ((ds.take R).drop M) * 2 ^ (((M - L) * n : Nat) : Int).toNat) (b := val (2 ^ n) ((ds.take M).drop L)) (.shlI (a := val (2 ^ n) ((ds.take R).drop M)) (.callF (.fre (ci.keeps k48) rfl) (k48 _ _ hfa) rfl (.args2 (.name (S₈.loc rfl)) (.name (S₈.loc rfl))) fun vs' h' k' r => ?_) (.nameI (S₈.loc rfl)) (Int.natCast_nonneg _) ?_)
          (.callF (.fre (ci.keeps k48) rfl) (k48 _ _ hfa) rfl (.args2 (.name (S₈.loc rfl)) (.name (S₈.loc rfl))) fun vs' h' k' r => ?_)) fun v s₉ r k₉ S₉ => ?_)
        · obtain ⟨_, _, rfl, rfl, rfl⟩ := r
          exact ih (R - M) (by lia) M R _ _ _ _ rfl hm2 hR (k48.trans k') (by show A.depth + 1 + (R - M) < _; lia)
        · have h1 : (Builtin.Int.intBits (val (2 ^ n) ((ds.take R).drop M)) : Int) ≤ 400000 := Int.ofNat_le.mpr bits
          have h2 : (((M - L) * n : Nat) : Int) ≤ 400000 := Int.ofNat_le.mpr hsmall
          have h3 : (400000 : Int) + 400000 ≤ 2 ^ 27 := by decide
          lia
        · obtain ⟨_, _, rfl, rfl, rfl⟩ := r
          exact ih (M - L) (by lia) L M _ _ _ _ rfl hm1 (by lia) (k48.trans k') (by show A.depth + 1 + (M - L) < _; lia)
        · rw [S₉.back]
          refine q _ _ _ (kp5 S₉.keep) ?_
          rw [seg_two (Nat.le_of_lt hm1) (Nat.le_of_lt hm2) hR, val_append, lenL]
          have e : val (2 ^ n) ((ds.take R).drop M) * 2 ^ (((M - L) * n : Nat) : Int).toNat + val (2 ^ n) ((ds.take M).drop L) = val (2 ^ n) ((ds.take M).drop L) + ((2 ^ n : Nat) : Int) ^ (M - L) * val (2 ^ n) ((ds.take R).drop M) := by
            rw [Int.toNat_natCast, Int.natCast_pow, ← Int.pow_mul, Nat.mul_comm n, Int.mul_comm, Int.add_comm]; rfl
          rw [← e]; exact r
  have fin : ∀ (s' : Shared) (t : Tok), Kp s₄.heap s'.heap → s'.gens = s₄.gens → (s'.os, s'.drawn) = (s₄.os, s₄.drawn) → Q (.int (val (2 ^ n) ds) t) s' := by
    intro s' t kk hg ho
    refine k s' t more (kk _ _ (S₄.mem 0 rfl)) ⟨htr, fun cv' e => ?_⟩ (fun b o e => kk b o (S₄.keep b o e)) (hg.trans S₄.gens) (ho.trans S₄.os)
    rw [hca] at e; cases e
    exact hrecP.keeps fun b o e => hideAll_get [44] (kk _ _ (of_hideAll _ e)) fun q => by
      rw [List.mem_singleton.mp q, hideAll_none [44] (List.mem_singleton.mpr rfl)] at e; cases e
  refine x_cons (x_ret (R := In (val (2 ^ n) ds)) S₄ (.ifexp (.truthL (.name (S₄.cel rfl)) hl4 (by lia)) (fun hb => ?_) fun hb => ?_) fun v s₅ r k₅ S₅ => ?_)
  · have hpos : 0 < ds.length := by
      rw [← hvl]; cases vs with
      | nil => simp at hb
      | cons a r => simp
    refine .callF (.cel ci rfl) hfa rfl (.args2 (P₂ := fun v => ∃ t, v = .int (ds.length : Nat) t) .cint (.callB (.boot T₄ g_len b_len) (.args1 (.name (S₄.cel rfl))) fun vs' h' k' r => ?_)) fun vs' h' k' r => ?_
    · obtain ⟨_, rfl, rfl⟩ := r
      exact (len_pv (k' _ _ hl4) (by lia)).mono fun v _ _ e => by rw [hvl] at e; exact e
    · obtain ⟨_, _, rfl, ⟨_, rfl⟩, _, rfl⟩ := r
      refine (inner ds.length 0 ds.length _ h' _ _ (by lia) hpos (by lia) k' (by show A.depth + 1 + ds.length < _; lia)).mono fun v _ _ e => ?_
      rw [List.take_length, List.drop_zero] at e
      exact e
  · have : ds = [] := by
      rw [← List.length_eq_zero_iff, ← hvl]
      cases vs with
      | nil => rfl
      | cons a r => simp at hb
    subst this
    exact .cint
  · obtain ⟨t, rfl⟩ := r
    exact fin s₅ t k₅ (S₅.gens.trans S₄.gens.symm) (S₅.os.trans S₄.os.symm)
end Mine
end

section
open PySem PySem.W PyProof.Rows
namespace Mine
section
variable {prog : Program} {w : World} {A : Around} {E : Value → Shared → Prop} {G : Array GenState} {O : OsState × Drawn} {g g' : Heap} {env : Env} {cs : List (Str × Addr)} {m cm : Str → Option Value} {led : Led} {s : Shared}

theorem St.low (S : St G O g' env cs m cm led s) (k : Kp g g') : St G O g env cs m cm led s := by
  have no : ∀ {b}, g'.get? b = none → g.get? b = none := fun {b} h => by
    cases e : g.get? b with
    | none => rfl
    | some o => rw [k _ _ e] at h; cases h
  exact { S with keep := k.trans S.keep, offL := no S.offL, offC := fun n c hc => ⟨no (S.offC n c hc).1, (S.offC n c hc).2⟩, own := fun p hp => let x := S.own p hp; ⟨x.1, no x.2.1, x.2.2⟩ }

theorem extNew {h h' : Heap} (e : Heap.ExtBut h.objs.size h h') : Kp h h' := fun b o q => e b o (Nat.ne_of_lt (Heap.lt_size q)) q

/-- a tuple of two into two targets -/
theorem a_tup2 {e₁ e₂ : Expr} {k : Nat} {pos : Pos} {t : Addr} {v₁ v₂ : Value} {Q : Unit → Shared → Prop} (hh : A.handled = none) (ht : IsTup s.heap t #[v₁, v₂])
    (h : ∀ h', Kp s.heap h' → wpAny (model prog w) A (assign e₁ env v₁) (fun _ s₁ => wpAny (model prog w) A (assign e₂ env v₂) Q E s₁) E { s with heap := h' })
    (hs : assignEach [e₁, e₂] env = [(false, assign e₁ env), (false, assign e₂ env)] := by rfl) : wpAny (model prog w) A (assign (.Tuple [e₁, e₂] k pos) env (.ref t)) Q E s := by
  refine PyProof.Rows.assign_Tuple_tuple hh ht (by rw [hs]; rfl) (by rw [hs]; rfl) fun h' he => ?_
  rw [hs]
  exact assignInOrder_cons (wpAny_mono (h h' (extNew he)) (fun _ s₁ q => assignInOrder_cons (wpAny_mono q (fun _ s₂ q₂ => assignInOrder_nil q₂) fun _ _ x => x)) fun _ _ x => x)
theorem a_tup3 {e₁ e₂ e₃ : Expr} {k : Nat} {pos : Pos} {t : Addr} {v₁ v₂ v₃ : Value} {Q : Unit → Shared → Prop} (hh : A.handled = none) (ht : IsTup s.heap t #[v₁, v₂, v₃])
    (h : ∀ h', Kp s.heap h' → wpAny (model prog w) A (assign e₁ env v₁) (fun _ s₁ => wpAny (model prog w) A (assign e₂ env v₂) (fun _ s₂ => wpAny (model prog w) A (assign e₃ env v₃) Q E s₂) E s₁) E { s with heap := h' })
    (hs : assignEach [e₁, e₂, e₃] env = [(false, assign e₁ env), (false, assign e₂ env), (false, assign e₃ env)] := by rfl) : wpAny (model prog w) A (assign (.Tuple [e₁, e₂, e₃] k pos) env (.ref t)) Q E s := by
  refine PyProof.Rows.assign_Tuple_tuple hh ht (by rw [hs]; rfl) (by rw [hs]; rfl) fun h' he => ?_
  rw [hs]
  exact assignInOrder_cons (wpAny_mono (h h' (extNew he)) (fun _ s₁ q => assignInOrder_cons (wpAny_mono q (fun _ s₂ q₂ => assignInOrder_cons (wpAny_mono q₂ (fun _ s₃ q₃ => assignInOrder_nil q₃) fun _ _ x => x)) fun _ _ x => x)) fun _ _ x => x)
theorem St.asg {x : Str} {px : Pos} {v : Value} {Q : Unit → Shared → Prop} (S : St G O g env cs m cm led s) (k : ∀ s', St G O g env cs (up m x v) cm led s' → Q () s')
    (hk : env.scope.kind = .function := by rfl) (hl : env.kindOf x = some .local := by rfl) : wpAny (model prog w) A (assign (.Name x px) env v) Q E s :=
  wpAny_assign_Name (S.store k hk hl)
theorem St.asgC {x : Str} {px : Pos} {v : Value} {c : Addr} {Q : Unit → Shared → Prop} (S : St G O g env cs m cm led s) (k : ∀ s', St G O g env cs m (up cm x v) led s' → Q () s')
    (hc : cs.lookup x = some c := by rfl) (hc' : env.cells.lookup x = some c := by rfl) (hk : env.scope.kind = .function := by rfl) (hl : env.kindOf x = some .cell := by rfl) : wpAny (model prog w) A (assign (.Name x px) env v) Q E s :=
  wpAny_assign_Name (S.storeC k hc hc' hk hl)

/-- an iterator under a for's target -/
structure Itr (prog : Program) (w : World) (A : Around) (target : Expr) (I : Addr) (fp wr : List Addr) (n : Nat) (P : Nat → Value → Heap → Prop) (Sx : Nat → Heap → Prop) : Prop where
  sub : ∀ b ∈ wr, b ∈ fp
  frame : ∀ i h h', Sx i h → (∀ b ∈ fp, ∀ o, h.get? b = some o → h'.get? b = some o) → Sx i h'
  live : ∀ i h, Sx i h → ∀ b ∈ fp, ∃ o, h.get? b = some o
  step : ∀ i (s : Shared) (Q : Value → Shared → Prop) (E : Value → Shared → Prop), i < n → Sx i s.heap →
    (∀ v h' tk, P i v h' → Sx (i + 1) h' → (∀ b o, b ∉ wr → s.heap.get? b = some o → h'.get? b = some o) → Q v { s with heap := h', toks := tk }) →
    wpAny (model prog w) A (pyNext (.ref I)) (fun r s₁ => ∃ v, r = some v ∧ wpAny (model prog w) A (letOwnedTupleGo target (.ref I) v) (fun _ s₂ => Q v s₂) E s₁) E s
  done : ∀ (s : Shared) (Q : Option Value → Shared → Prop) (E : Value → Shared → Prop), Sx n s.heap →
    (∀ h' tk, (∀ b o, b ∉ wr → s.heap.get? b = some o → h'.get? b = some o) → Q none { s with heap := h', toks := tk }) → wpAny (model prog w) A (pyNext (.ref I)) Q E s

theorem Itr.ofWalks {I : Addr} {fp wr : List Addr} {n : Nat} {P : Nat → Value → Prop} {Sx : Nat → Heap → Prop} {x : Str} {px : Pos} (W : Walks prog w A I fp wr n P Sx) (live : ∀ i h, Sx i h → ∀ b ∈ fp, ∃ o, h.get? b = some o) :
    Itr prog w A (.Name x px) I fp wr n (fun i v _ => P i v) Sx where
  sub := W.sub
  frame := W.frame
  live := live
  step := fun i s Q E hi hx k => W.item i s _ E hi hx fun v h' tk p x' kk => ⟨v, rfl, wpAny_pure (k v h' tk p x' kk)⟩
  done := W.done
theorem Itr.ofU {I : Addr} {fp wr : List Addr} {n : Nat} {Pt : Nat → Array Value → Prop} {Sx : Nat → Heap → Prop} {Mid : Nat → Addr → Heap → Prop} {elts : List Expr} {k : Nat} {pos : Pos} (W : WalksU prog w A I fp wr n Pt Sx Mid) (live : ∀ i h, Sx i h → ∀ b ∈ fp, ∃ o, h.get? b = some o) :
    Itr prog w A (.Tuple elts k pos) I fp wr n (fun i v h => ∃ T vals, v = .ref T ∧ Pt i vals ∧ IsTup h T vals) Sx where
  sub := W.sub
  frame := W.frame
  live := live
  step := fun i s Q E hi hx k => W.item i s _ E hi hx fun T vals h' tk p ht md kk => ⟨.ref T, rfl, W.go _ _ _ i T _ _ E md fun h'' x' kk' => k _ h'' tk ⟨T, vals, rfl, p, by
    obtain ⟨o, ho, r⟩ := ht
    exact ⟨o, kk' _ _ (W.apart i T _ md) ho, r⟩⟩ x' fun b o hb e => kk' b o hb (kk b o hb e)⟩
  done := W.done

theorem St.other (S : St G O g env cs m cm led s) (W : List Addr) (hW : ∀ b ∈ W, g.get? b = none ∧ b ∉ owns env cs led) {h' : Heap} {tk : Nat} (k : ∀ b o, b ∉ W → s.heap.get? b = some o → h'.get? b = some o) :
    St G O g env cs m cm led { s with heap := h', toks := tk } where
  gens := S.gens
  os := S.os
  keep := fun b o e => k b o (fun hb => by rw [(hW b hb).1] at e; cases e) (S.keep b o e)
  ns := by
    obtain ⟨o, es, ep, e, r⟩ := S.ns
    exact ⟨o, es, ep, k _ o (fun hb => (hW _ hb).2 (List.mem_cons_self ..)) e, r⟩
  offL := S.offL
  cell := fun n c hc => by
    obtain ⟨o, e, r⟩ := S.cell n c hc
    exact ⟨o, k _ o (fun hb => (hW _ hb).2 (List.mem_cons_of_mem _ (List.mem_append_left _ (List.mem_map_of_mem (f := fun x : Str × Addr => x.2) hc)))) e, r⟩
  offC := S.offC
  apart := S.apart
  luk := S.luk
  own := fun p hp => ⟨k _ _ (fun hb => (hW _ hb).2 (List.mem_cons_of_mem _ (List.mem_append_right _ (List.mem_map_of_mem hp)))) (S.own p hp).1, (S.own p hp).2⟩
  nd := S.nd

/-- a for's loop -/
theorem loopFor {target : Expr} {body : List Stmt} {I : Addr} {fp wr : List Addr} {n : Nat} {P : Nat → Value → Heap → Prop} {Sx : Nat → Heap → Prop} {Q : Flow → Shared → Prop} {R : Result → Shared → Prop}
    (W : Itr prog w A target I fp wr n P Sx) (J : Nat → Array GenState → (Str → Option Value) → (Str → Option Value) → Led → Prop) (S : St G O g env cs m cm led s) (hJ : J 0 G m cm led) (hx : Sx 0 s.heap)
    (hfp : ∀ b ∈ fp, b ∉ owns env cs led) (hwr : ∀ b ∈ wr, g.get? b = none) (hR : ∀ f s', Q f s' → R (.ok f) s')
    (turn : ∀ i v G m cm led g' s, i < n → P i v s.heap → J i G m cm led → Kp g g' → St G O g' env cs m cm led s →
      wpAny (model prog w) A (assign target env v) (fun _ s₂ => wpAny (model prog w) A (execs body env) (fun f s₃ => match f with
        | .next | .cont => ∃ G' m' cm' led', J (i + 1) G' m' cm' led' ∧ St G' O g' env cs m' cm' led' s₃
        | .brk => Q .next s₃
        | .ret v => Q (.ret v) s₃) (fun _ _ => False) s₂) (fun _ _ => False) s)
    (fin : ∀ G m cm led s, J n G m cm led → St G O g env cs m cm led s → Q .next s) :
    codeAny (model prog w) A (.forLoop target (.ref I) body [] env) R s := by
  refine codeAny_forLoop_any (fun k s => ∃ i G m cm led, k = n - i ∧ i ≤ n ∧ J i G m cm led ∧ St G O g env cs m cm led s ∧ Sx i s.heap ∧ ∀ b ∈ fp, b ∉ owns env cs led) ?_ n ⟨0, G, m, cm, led, by omega, Nat.zero_le _, hJ, S, hx, hfp⟩
  rintro k s₀ ⟨i, G₀, m₀, cm₀, led₀, rfl, hi, hJ₀, S₀, hx₀, hf₀⟩
  have hW : ∀ b ∈ wr, g.get? b = none ∧ b ∉ owns env cs led₀ := fun b hb => ⟨hwr b hb, hf₀ b (W.sub b hb)⟩
  by_cases hlt : i < n
  · refine wpAny_mono (W.step i s₀ (fun v s₁ => wpAny (model prog w) A (assign target env v) (fun _ s₂ => wpAny (model prog w) A (execs body env) (fun f s₃ => match f with
            | .next | .cont => ∃ m, m < n - i ∧ ∃ i G m' cm led, m = n - i ∧ i ≤ n ∧ J i G m' cm led ∧ St G O g env cs m' cm led s₃ ∧ Sx i s₃.heap ∧ ∀ b ∈ fp, b ∉ owns env cs led
            | .brk => R (.ok .next) s₃
            | .ret v => R (.ok (.ret v)) s₃) (notedBy (model prog w) A env fun e s' => R (.error e) s') s₂) (notedBy (model prog w) A env fun e s' => R (.error e) s') s₁) _ hlt hx₀ fun v h' tk hp hx' kk => ?_) (fun r s₁ q => ?_) fun _ _ e => e
    · have S₁ := S₀.other (h' := h') (tk := tk) wr hW kk
      have S₂ := S₁.rebase
      refine wpAny_mono (turn i v G₀ m₀ cm₀ led₀ _ _ hlt hp hJ₀ S₁.frzKp S₂) (fun _ s₂ q => wpAny_mono q (fun f s₃ q₃ => ?_) fun _ _ e => e.elim) fun _ _ e => e.elim
      have nxt : (∃ G' m' cm' led', J (i + 1) G' m' cm' led' ∧ St G' O (frz h' env cs led₀) env cs m' cm' led' s₃) →
          ∃ m, m < n - i ∧ ∃ i G m' cm led, m = n - i ∧ i ≤ n ∧ J i G m' cm led ∧ St G O g env cs m' cm led s₃ ∧ Sx i s₃.heap ∧ ∀ b ∈ fp, b ∉ owns env cs led := by
        rintro ⟨G', m', cm', led', hJ', S'⟩
        have ing : ∀ b ∈ fp, ∀ o, h'.get? b = some o → (frz h' env cs led₀).get? b = some o := fun b hb o e => hideAll_get _ e (hf₀ b hb)
        refine ⟨n - (i + 1), by omega, i + 1, G', m', cm', led', rfl, by omega, hJ', S'.low S₁.frzKp, W.frame _ _ _ hx' (fun b hb o e => S'.keep _ _ (ing b hb o e)), fun b hb => ?_⟩
        obtain ⟨o, e⟩ := W.live _ _ hx' b hb
        exact S'.offBase (ing b hb o e)
      cases f with
      | next => exact nxt q₃
      | cont => exact nxt q₃
      | brk => exact hR _ _ q₃
      | ret v => exact hR _ _ q₃
    · obtain ⟨v, rfl, q'⟩ := q
      exact q'
  · have : i = n := by omega
    subst this
    refine W.done s₀ _ _ hx₀ fun h' tk kk => wpAny_execs_nil (hR _ _ (fin G₀ m₀ cm₀ led₀ _ hJ₀ (S₀.other wr hW kk)))

theorem listIter_get {h : Heap} {I l : Addr} {i : Nat} (x : h.IsListIter I l i) : ∃ o, h.get? I = some o := let ⟨o, e, _⟩ := x; ⟨o, e⟩
theorem list_get {h : Heap} {l : Addr} {vs : Array Value} (x : h.IsList l vs) : ∃ o, h.get? l = some o := let ⟨o, e, _⟩ := x; ⟨o, e⟩

end
end Mine
end

section
open PySem PySem.W PyProof.Rows
namespace Mine
section
variable {prog : Program} {w : World} {A : Around} {E : Value → Shared → Prop} {G : Array GenState} {O : OsState × Drawn} {g g' h : Heap} {env : Env} {cs : List (Str × Addr)} {m cm : Str → Option Value} {led : Led} {s : Shared}

theorem Pv.callT {f : Str} {T : String} {pf pos : Pos} {e : Expr} {rest : List Expr} {R₁ : List Value → Heap → Prop} {R : Value → Heap → Prop} (hf : Rd env h f (.type T))
    (a : Pv prog w A h (spliced (backTo pos (starEach (e :: rest) env))) R₁) (z : ∀ vs h', Kp h h' → R₁ vs h' → Pv prog w A h' (call (.type T) vs []) R)
    (he : starEach (e :: rest) env = (false, eval e env) :: starEach rest env := by rfl) (hp : (backTo pos (starEach rest env)).any (·.1) = false := by rfl) (hd : (f == ("__debug__" : Str)) = false := by decide) :
    Pv prog w A h (eval (.Call (.Name f pf) (e :: rest) [] pos) env) R := by
  intro s Q E ks q
  rw [callNameEq]
  refine wpAny_bind (Pv.name hf hd s _ E ks fun v h' tk k r => ?_)
  obtain rfl := r
  refine PyProof.Rows.callWith_type1 ?_ he hp
  refine a _ _ E (ks.trans k) fun vs h₂ tk₂ k₂ r₂ => ?_
  exact z vs h₂ ((ks.trans k).trans k₂) r₂ _ _ E Kp.rfl fun v h₃ tk₃ k₃ r₃ => q v h₃ tk₃ ((k.trans k₂).trans k₃) r₃

theorem rev_pv {l : Addr} {vs : List Value} {n : Nat} (ho : h.get? l = some (lst vs n)) : Pv prog w A h (call (.type "reversed") [.ref l] []) (New h fun o _ => o = revObj l ((vs.length : Int) - 1)) := by
  intro s Q E ks q
  refine call_reversed_list (isList_lst (ks _ _ ho)) ?_
  have := q (.ref s.heap.objs.size) (s.heap.push (revObj l ((vs.length : Int) - 1))) s.toks (Kp.push _ _) ⟨_, _, rfl, fresh_of ks, Heap.get?_push_size _ rfl, rfl⟩
  simpa using this

/-- range objects -/
def Rng (a b : Int) : Value → Heap → Prop := fun v h => ∃ r t u w, v = .ref r ∧ IsRange h r a b 1 t u w
theorem range1_pv {n : Int} {t : Tok} : Pv prog w A h (call (.type "range") [.int n t] []) (Rng 0 n) := by
  intro s Q E ks q
  exact call_range_1 (q _ _ _ (Kp.push _ _) ⟨_, _, _, _, rfl, IsRange.new ..⟩)
theorem range2_pv {a b : Int} {t u : Tok} : Pv prog w A h (call (.type "range") [.int a t, .int b u] []) (Rng a b) := by
  intro s Q E ks q
  exact call_range_2 (q _ _ _ (Kp.push _ _) ⟨_, _, _, _, rfl, IsRange.new ..⟩)
theorem rangeSize_one {a b : Int} : Builtin.Range.rangeSize a b 1 = ((b - a).toNat : Int) := by
  unfold Builtin.Range.rangeSize
  rw [if_pos (by decide)]
  split <;> lia

/-- a for behind its iterator -/
theorem x_forI {target iter : Expr} {pos : Pos} {body : List Stmt} {R₁ : Value → Heap → Prop} {n : Nat} {P : Nat → Value → Heap → Prop} {Q : Flow → Shared → Prop} (J : Nat → Array GenState → (Str → Option Value) → (Str → Option Value) → Led → Prop)
    (S : St G O g env cs m cm led s) (p : Pv prog w A s.heap (eval iter env) R₁)
    (it : ∀ v (s₁ : Shared) (E : Value → Shared → Prop) (Q₁ : Value → Shared → Prop), R₁ v s₁.heap → Kp s.heap s₁.heap → St G O g env cs m cm led s₁ →
      (∀ I fp wr Sx h' tk, Kp s₁.heap h' → Itr prog w A target I fp wr n P Sx → Sx 0 h' → (∀ b ∈ fp, b ∉ owns env cs led) → (∀ b ∈ wr, g.get? b = none) → Q₁ (.ref I) { s₁ with heap := h', toks := tk }) → wpAny (model prog w) A (pyIter v) Q₁ E s₁)
    (hJ : J 0 G m cm led)
    (turn : ∀ i v G m cm led g' s, i < n → P i v s.heap → J i G m cm led → Kp g g' → St G O g' env cs m cm led s →
      wpAny (model prog w) A (assign target env v) (fun _ s₂ => wpAny (model prog w) A (execs body env) (fun f s₃ => match f with
        | .next | .cont => ∃ G' m' cm' led', J (i + 1) G' m' cm' led' ∧ St G' O g' env cs m' cm' led' s₃
        | .brk => Q .next s₃
        | .ret v => Q (.ret v) s₃) (fun _ _ => False) s₂) (fun _ _ => False) s)
    (fin : ∀ G m cm led s, J n G m cm led → St G O g env cs m cm led s → Q .next s)
    (hs : ∀ x, foldedSetIterable iter env x = pure x := by intro _; rfl) :
    wpAny (model prog w) A (exec (.For target iter body [] pos) env) Q E s := by
  refine wpAny_For (S.pv p fun v s₁ r k₁ S₁ => it v s₁ E _ r k₁ S₁ fun I fp wr Sx h' tk k' W hx hf hw => ?_) hs
  exact loopFor (Q := Q) W J (S₁.grow k' tk) hJ hx hf hw (fun f s' q => q) turn fin

theorem St.newOff (S : St G O g env cs m cm led s) {b : Addr} (hn : s.heap.get? b = none) : b ∉ owns env cs led := by
  intro hb
  rcases List.mem_cons.mp hb with rfl | hb
  · obtain ⟨o', es, ep, e', hd, _⟩ := S.ns
    rw [hn] at e'; cases e'
  · rcases List.mem_append.mp hb with hb | hb
    · obtain ⟨⟨n, c⟩, hc, rfl⟩ := List.mem_map.mp hb
      obtain ⟨o', e', hd⟩ := S.cell n c hc
      rw [hn] at e'; cases e'
    · obtain ⟨p, hp, rfl⟩ := List.mem_map.mp hb
      have := (S.own p hp).1
      rw [hn] at this; cases this
theorem St.newG (S : St G O g env cs m cm led s) {b : Addr} (hn : s.heap.get? b = none) : g.get? b = none := by
  cases e : g.get? b with
  | none => rfl
  | some o => rw [S.keep _ _ e] at hn; cases hn

/-- for x in range -/
theorem x_forR {x : Str} {px pos : Pos} {iter : Expr} {body : List Stmt} {a b : Int} {Q : Flow → Shared → Prop} (J : Nat → Array GenState → (Str → Option Value) → (Str → Option Value) → Led → Prop)
    (S : St G O g env cs m cm led s) (hh : A.handled = none) (p : Pv prog w A s.heap (eval iter env) (Rng a b)) (ha : -1000000 ≤ a) (ha' : a ≤ 1000000) (hb : -1000000 ≤ b) (hb' : b ≤ 1000000) (hJ : J 0 G m cm led)
    (turn : ∀ i t G m cm led g' s, i < (b - a).toNat → J i G m cm led → Kp g g' → St G O g' env cs m cm led s →
      wpAny (model prog w) A (assign (.Name x px) env (.int (a + i) t)) (fun _ s₂ => wpAny (model prog w) A (execs body env) (fun f s₃ => match f with
        | .next | .cont => ∃ G' m' cm' led', J (i + 1) G' m' cm' led' ∧ St G' O g' env cs m' cm' led' s₃
        | .brk => Q .next s₃
        | .ret v => Q (.ret v) s₃) (fun _ _ => False) s₂) (fun _ _ => False) s)
    (fin : ∀ G m cm led s, J (b - a).toNat G m cm led → St G O g env cs m cm led s → Q .next s)
    (hs : ∀ x, foldedSetIterable iter env x = pure x := by intro _; rfl) :
    wpAny (model prog w) A (exec (.For (.Name x px) iter body [] pos) env) Q E s := by
  refine x_forI (n := (b - a).toNat) (P := fun i v _ => ∃ t, v = .int (a + i * 1) t) J S p (fun v s₁ E Q₁ r k₁ S₁ q => ?_) hJ (fun i v G m cm led g' s hi hp hj kg S => ?_) fin hs
  · obtain ⟨r, t, u, w', rfl, hr⟩ := r
    refine wpAny_pyIter_range hr (small_one (by lia) (by lia) (by lia) (by lia)) ?_
    refine q s₁.heap.objs.size [s₁.heap.objs.size] [s₁.heap.objs.size] _ _ s₁.toks (Kp.push _ _) (Itr.ofWalks (Walks.range hh s₁.heap.objs.size a 1 (b - a).toNat) fun i h hx b hb => ?_) ?_ (fun b hb => ?_) fun b hb => ?_
    · rcases List.mem_singleton.mp hb with rfl; exact ⟨_, hx⟩
    · rw [rangeSize_one]
      simp only [Int.natCast_zero, Int.zero_mul, Int.add_zero, Int.sub_zero]
      exact Heap.get?_push_size _ rfl
    · rcases List.mem_singleton.mp hb with rfl; exact S₁.newOff none_of_new
    · rcases List.mem_singleton.mp hb with rfl; exact S₁.newG none_of_new
  · obtain ⟨t, rfl⟩ := hp
    rw [Int.mul_one]
    exact turn i t G m cm led g' s hi hj kg S

/-- for x in reversed(l) -/
theorem x_forRev {x : Str} {px pos : Pos} {iter : Expr} {body : List Stmt} {l : Addr} {vs : List Value} {nn : Nat} {Q : Flow → Shared → Prop} (J : Nat → Array GenState → (Str → Option Value) → (Str → Option Value) → Led → Prop)
    (S : St G O g env cs m cm led s) (hh : A.handled = none) (p : Pv prog w A s.heap (eval iter env) (New s.heap fun o _ => o = revObj l ((vs.length : Int) - 1))) (ho : s.heap.get? l = some (lst vs nn)) (hl : l ∉ owns env cs led) (hJ : J 0 G m cm led)
    (turn : ∀ i v G m cm led g' s, i < vs.length → vs[vs.length - 1 - i]? = some v → J i G m cm led → Kp g g' → St G O g' env cs m cm led s →
      wpAny (model prog w) A (assign (.Name x px) env v) (fun _ s₂ => wpAny (model prog w) A (execs body env) (fun f s₃ => match f with
        | .next | .cont => ∃ G' m' cm' led', J (i + 1) G' m' cm' led' ∧ St G' O g' env cs m' cm' led' s₃
        | .brk => Q .next s₃
        | .ret v => Q (.ret v) s₃) (fun _ _ => False) s₂) (fun _ _ => False) s)
    (fin : ∀ G m cm led s, J vs.length G m cm led → St G O g env cs m cm led s → Q .next s)
    (hs : ∀ x, foldedSetIterable iter env x = pure x := by intro _; rfl) :
    wpAny (model prog w) A (exec (.For (.Name x px) iter body [] pos) env) Q E s := by
  refine x_forI (n := vs.length) (P := fun i v _ => vs[vs.length - 1 - i]? = some v) J S p (fun v s₁ E Q₁ r k₁ S₁ q => ?_) hJ (fun i v G m cm led g' s hi hp hj kg S => turn i v G m cm led g' s hi hp hj kg S) fin hs
  obtain ⟨I, o, rfl, hn, hI, rfl⟩ := r
  have hne : l ≠ I := fun e => by rw [e, hn] at ho; cases ho
  have hit : s₁.heap.IsRevIter I l ((vs.toArray.size : Int) - 1 - ((0 : Nat) : Int)) := ⟨_, hI, rfl, by simp [revObj]⟩
  refine wpAny_pyIter_revIter hit ?_
  have W := Walks.listRev (prog := prog) (w := w) hh I l hne vs.toArray
  simp only [List.size_toArray, List.getElem?_toArray] at W
  rw [List.size_toArray] at hit
  refine q I [I, l] [I] _ s₁.heap s₁.toks Kp.rfl (Itr.ofWalks (x := x) (px := px) W fun i h hx b hb => ?_) ⟨Nat.zero_le _, hit, isList_lst (k₁ _ _ ho)⟩ (fun b hb => ?_) fun b hb => ?_
  · rcases List.mem_cons.mp hb with rfl | hb
    · obtain ⟨o, e, _⟩ := hx.2.1; exact ⟨o, e⟩
    · rcases List.mem_singleton.mp hb with rfl; exact list_get hx.2.2
  · rcases List.mem_cons.mp hb with rfl | hb
    · exact S.newOff hn
    · rcases List.mem_singleton.mp hb with rfl; exact hl
  · rcases List.mem_singleton.mp hb with rfl; exact S.newG hn

/-- l.reverse() -/
theorem x_reverse {ln : Str} {pl apos pos spos : Pos} {l : Addr} {vs : List Value} {n i : Nat} {Q : Flow → Shared → Prop} (S : St G O g env cs m cm led s) (hl : Rd env s.heap ln (.ref l)) (hi : led[i]? = some (l, lst vs n)) (hsz : vs.length ≤ 1000000)
    (k : ∀ s' n', St G O g env cs m cm (led.set i (l, lst vs.reverse n')) s' → Q .next s')
    (hline : (apos.endLine == pos.line) = true := by rfl) (hint : interactive env = false := by rfl) (hdb : (ln == ("__debug__" : Str)) = false := by decide) :
    wpAny (model prog w) A (exec (.Expr (.Call (.Attribute (.Name ln pl) "reverse" apos) [] [] pos) spos) env) Q E s := by
  refine wpAny_Expr_any ?_ hint rfl
  refine meth_list (vs := vs) (n := n) (Pv.name hl hdb) (S.mem i hi) F.slot_list_reverse F.type_list_reverse (fun h' tk k' => ?_) rfl rfl hline
  have S₂ := S.grow k' tk
  refine callW0 ?_
  refine call_meets F.slot_list_reverse ⟨_, S₂.mem i hi, rfl⟩ F.entry_list_reverse (F.args_list_reverse_1 _) (AutoSeq1.list_reverse_list_0 l _ n (by rw [List.size_toArray, sizeLine_eq]; lia)) ⟨S₂.mem i hi, ?_⟩
  have q := upd_lst (vs' := vs.reverse) (fun x : Array Value => x.reverse) (S₂.mem i hi) (by simp)
  exact k _ _ (S₂.upd (s' := { s with heap := h'.update l (Obj.mapSeq fun x => x.reverse), toks := _ }) i hi (Heap.SameBut.update ..) q S.gens rfl)
end
end Mine
end

section
open PySem PySem.W PyProof.Rows
namespace Mine
theorem digs_at (B : Nat) : ∀ (K a j : Nat), j < K → (digs B K a)[j]? = some ((a / B ^ j % B : Nat) : Int)
  | 0, _, _, h => absurd h (Nat.not_lt_zero _)
  | K + 1, a, 0, _ => by simp [digs]
  | K + 1, a, j + 1, h => by
    simp only [digs, List.getElem?_cons_succ]
    rw [digs_at B K (a / B) j (by lia), Nat.div_div_eq_div_mul, Nat.pow_succ, Nat.mul_comm]
theorem top_step {B a K i : Nat} (hi : i < K) : a / B ^ (K - (i + 1)) = a / B ^ (K - i) * B + a / B ^ (K - 1 - i) % B := by
  have e : K - i = (K - 1 - i) + 1 := by lia
  have e' : K - (i + 1) = K - 1 - i := by lia
  rw [e', e, Nat.pow_succ, ← Nat.div_div_eq_div_mul]
  have := Nat.div_add_mod (a / B ^ (K - 1 - i)) B
  rw [Nat.mul_comm] at this; lia
theorem div_step {V b B d : Nat} (hb : 0 < b) : (V * B + d) / b = V / b * B + (V % b * B + d) / b ∧ (V * B + d) % b = (V % b * B + d) % b := by
  have e : V * B + d = (V % b * B + d) + b * (V / b * B) := by
    have := Nat.mod_add_div V b
    calc V * B + d = (V % b + b * (V / b)) * B + d := by rw [this]
      _ = _ := by rw [Nat.add_mul, Nat.mul_assoc]; lia
  rw [e, Nat.add_mul_div_left _ _ hb, Nat.add_mul_mod_self_left]
  exact ⟨by lia, rfl⟩
theorem g_div2n1n {w : World} : mgOf w "_div2n1n" = some (.ref 28) := rfl
theorem g_int2digits {w : World} : mgOf w "_int2digits" = some (.ref 42) := rfl
theorem g_digits2int {w : World} : mgOf w "_digits2int" = some (.ref 49) := rfl
theorem g_divmod_pos {w : World} : mgOf w "_divmod_pos" = some (.ref 56) := rfl
theorem g_int_divmod {w : World} : mgOf w "int_divmod" = some (.ref 63) := rfl
theorem g_reversed {w : World} : mgOf w "reversed" = none := rfl
theorem g_divmod {w : World} : mgOf w "divmod" = none := rfl
theorem b_divmod : bootBuiltins "divmod" = some (.builtin "divmod") := boot_divmod
theorem b_reversed : bootBuiltins "reversed" = some (.type "reversed") := boot_reversed
theorem g_lim {w : World} : ∃ t, mgOf w "_DIV_LIMIT" = some (.int 4000 t) := ⟨_, rfl⟩

theorem New.base {h h' h'' : Heap} {P : Obj → Heap → Prop} {v : Value} (x : New h' P v h'') (k : Kp h h') : New h P v h'' := by
  obtain ⟨l, o, rfl, hn, r⟩ := x
  refine ⟨l, o, rfl, ?_, r⟩
  cases e : h.get? l with
  | none => rfl
  | some o => rw [k _ _ e] at hn; cases hn
theorem divmod_pv {w : World} {A : Around} {h : Heap} {a b : Int} {t u : Tok} (hb : b ≠ 0) (hs : b.natAbs.log2 < 9000) : Pv pr w A h (call (.builtin "divmod") [.int a t, .int b u] []) (New h fun o _ => ∃ t u, o = tup [.int (a.fdiv b) t, .int (a.fmod b) u]) :=
  fun s Q E ks q => divmod_int hb (q _ _ _ (Kp.push _ _) ⟨_, _, rfl, fresh_of ks, Heap.get?_push_size _ rfl, _, _, rfl⟩) (Or.inl (PyProof.noPylong_of_log2 hs))

theorem div2_pv {w : World} {A : Around} {h : Heap} {a b n : Int} {ta tb tn : Tok} (T : Tp w h) (hd : A.depth < recursionLimit) (hb : b ≠ 0) (hs : b.natAbs.log2 < 9000) (hn : (Builtin.Int.intBits a : Int) - n ≤ 4000) :
    Pv pr w A h (call (.ref 28) [.int a ta, .int b tb, .int n tn] []) (New h fun o _ => ∃ t u, o = tup [.int (a.fdiv b) t, .int (a.fmod b) u]) := by
  intro s Q E ks q
  have Ts := T.up ks
  obtain ⟨tl, gl⟩ := g_lim (w := w)
  refine def_call Ts hd rfl rfl (code_rec Ts rfl rfl) rfl (BindsTo.of_eq rfl) (nocell rfl) (locs rfl) fun s₁ S₁ T₁ => ?_
  refine x_cons (x_if S₁ (.tle (.subI (.bitlen (.nameI (S₁.loc rfl))) (.nameI (S₁.loc rfl))) (.nameI (.glob T₁ gl))) (fun hb' s₂ k₂ S₂ => ?_) fun hb' => ?_)
  · have T₂ := T₁.up k₂
    refine x_cons (x_ret (R := New s₂.heap fun o _ => ∃ t u, o = tup [.int (a.fdiv b) t, .int (a.fmod b) u]) S₂ (.callB (.boot T₂ g_divmod b_divmod) (.args2 (.name (S₂.loc rfl)) (.name (S₂.loc rfl))) fun vs h' k' r => ?_) fun v s₃ r k₃ S₃ => ?_)
    · obtain ⟨_, _, rfl, rfl, rfl⟩ := r
      exact (divmod_pv hb hs).mono fun v h'' k'' e => e.base k'
    · rw [S₃.back]
      exact q _ _ _ S₃.keep ((r.base S₂.keep).base ks)
  · exfalso
    simp at hb'
    lia
end Mine
end

section
open PySem PySem.W PyProof.Rows
namespace Mine
theorem tri_one {ps : Array Value} (x : TriplesOk ps.toList) {q : Str} {t : Tok} : ps[1]? ≠ some (.str q t) := by
  intro e
  rw [← Array.getElem?_toList] at e
  generalize ps.toList = l at x e
  fun_induction TriplesOk l with
  | case1 => simp at e
  | case2 _ _ _ _ _ _ _ => simp at e
  | case3 => exact x
theorem rec_hide {h : Heap} {cv : Value} {q : Str} (x : h.CodeRec cv q) (as : List Addr) (ha : ∀ a ∈ as, ∃ ps, h.get? a = some (tabObj ps) ∧ TriplesOk ps.toList) : (hideAll h as).CodeRec cv q := by
  obtain ⟨c₁, o₁, vs₁, t₁, e₁, g₁, d₁, r₁⟩ := x
  refine ⟨c₁, o₁, vs₁, t₁, e₁, hideAll_get as g₁ (fun hb => ?_), d₁, r₁⟩
  obtain ⟨ps, e, tr⟩ := ha _ hb
  rw [g₁] at e; cases e; cases d₁
  exact tri_one tr r₁
theorem rec_show {h : Heap} {cv : Value} {q : Str} {as : List Addr} (x : (hideAll h as).CodeRec cv q) : h.CodeRec cv q := x.keeps fun b o e => of_hideAll _ e
theorem TabOk.hide {h : Heap} {pos : Pos} {q : Str} {ps : Array Value} (x : TabOk h pos q ps) (as : List Addr) (ha : ∀ a ∈ as, ∃ ps, h.get? a = some (tabObj ps) ∧ TriplesOk ps.toList) : TabOk (hideAll h as) pos q ps := ⟨x.1, fun cv e => rec_hide (x.2 cv e) as ha⟩
theorem TabOk.show_ {h : Heap} {pos : Pos} {q : Str} {ps : Array Value} {as : List Addr} (x : TabOk (hideAll h as) pos q ps) : TabOk h pos q ps := ⟨x.1, fun cv e => rec_show (x.2 cv e)⟩

/-- the two code tables stand -/
structure Tbs (w : World) (h : Heap) (ps qs : Array Value) : Prop where
  top : Tp w (hideAll h [37, 44])
  c1 : CodeHd (hideAll h [37, 44]) 41 37
  c2 : CodeHd (hideAll h [37, 44]) 48 44
  g1 : h.get? 37 = some (tabObj ps)
  g2 : h.get? 44 = some (tabObj qs)
  o1 : TabOk h pos1 q1 ps
  o2 : TabOk h pos2 q2 qs
section
variable {w : World} {h h' : Heap} {ps qs ps' qs' : Array Value}
theorem hide_less {h : Heap} {as bs : List Addr} (hs : ∀ a ∈ bs, a ∈ as) : Kp (hideAll h as) (hideAll h bs) := fun b o e => hideAll_get bs (of_hideAll _ e) fun hb => by rw [hideAll_none as (hs b hb)] at e; cases e
theorem hide_up {as : List Addr} (k : Kp (hideAll h as) h') : Kp (hideAll h as) (hideAll h' as) := hide_kp k fun a ha => hideAll_none as ha
theorem Tbs.tp (X : Tbs w h ps qs) : Tp w h := X.top.up fun b o e => of_hideAll _ e
theorem Tbs.next (X : Tbs w h ps qs) (k : Kp (hideAll h [37, 44]) h') (g1 : h'.get? 37 = some (tabObj ps')) (g2 : h'.get? 44 = some (tabObj qs')) (o1 : TabOk h' pos1 q1 ps') (o2 : TabOk h' pos2 q2 qs') : Tbs w h' ps' qs' :=
  ⟨X.top.up (hide_up k), X.c1.keeps (hide_up k), X.c2.keeps (hide_up k), g1, g2, o1, o2⟩
theorem Tbs.keep (X : Tbs w h ps qs) (k : Kp (hideAll h [37, 44]) h') (g1 : h'.get? 37 = some (tabObj ps)) (g2 : h'.get? 44 = some (tabObj qs)) : Tbs w h' ps qs := by
  have lt : ∀ b ∈ ([37, 44] : List Addr), ∃ ps, h.get? b = some (tabObj ps) ∧ TriplesOk ps.toList := fun b hb => by
    rcases List.mem_cons.mp hb with rfl | hb
    · exact ⟨_, X.g1, X.o1.1⟩
    · rcases List.mem_singleton.mp hb with rfl; exact ⟨_, X.g2, X.o2.1⟩
  exact X.next k g1 g2 ((X.o1.hide _ lt).up k) ((X.o2.hide _ lt).up k)
theorem Tbs.grow (X : Tbs w h ps qs) (k : Kp h h') : Tbs w h' ps qs := X.next (fun b o e => k _ _ (of_hideAll _ e)) (k _ _ X.g1) (k _ _ X.g2) (X.o1.up k) (X.o2.up k)
end
/-- CodeRec over an update of a table -/
theorem TabOk.past {h h' : Heap} {pos : Pos} {q : Str} {ps ps' : Array Value} {a : Addr} (x : TabOk h pos q ps) (ha : h.get? a = some (tabObj ps')) (tr : TriplesOk ps'.toList) (k : Kp (hideAll h [a]) h') : TabOk h' pos q ps :=
  (x.hide [a] fun b hb => by rcases List.mem_singleton.mp hb with rfl; exact ⟨_, ha, tr⟩).up k

/-- _int2digits under both tables -/
theorem i2d_t {w : World} {A : Around} {s : Shared} {Q : Value → Shared → Prop} {E : Value → Shared → Prop} {a n : Nat} {ta tn : Tok} {ps qs : Array Value} (X : Tbs w s.heap ps qs) (hd : A.depth + 500 < recursionLimit) (hn1 : 1 ≤ n) (hn2 : n ≤ 1000) (hk : (Builtin.Int.intBits (a : Int) + n - 1) / n ≤ 400)
    (k : ∀ s' l vs nn more, s.heap.get? l = none → s'.heap.get? l = some (lst vs nn) → IntsAre vs (digs (2 ^ n) ((Builtin.Int.intBits (a : Int) + n - 1) / n) a) → Tbs w s'.heap (ps ++ more) qs → Kp (hideAll s.heap [37]) s'.heap → s'.gens = s.gens → (s'.os, s'.drawn) = (s.os, s.drawn) → Q (.ref l) s') :
    wpAny (model pr w) A (call (.ref 42) [.int (a : Nat) ta, .int (n : Nat) tn] []) Q E s := by
  have lt : ∀ b ∈ ([37] : List Addr), ∃ ps, s.heap.get? b = some (tabObj ps) ∧ TriplesOk ps.toList := fun b hb => by rcases List.mem_singleton.mp hb with rfl; exact ⟨_, X.g1, X.o1.1⟩
  have k3 : Kp (hideAll s.heap [37, 44]) (hideAll s.heap [37]) := hide_less (by simp)
  refine i2d_call (X.top.up k3) (X.c1.keeps k3) X.g1 (X.o1.hide [37] lt) hd hn1 hn2 hk fun s' l vs nn more hn hl hi hp ht kp hg ho => ?_
  exact k s' l vs nn more hn hl hi (X.next (k3.trans kp) hp (kp _ _ (hideAll_get [37] X.g2 (by simp))) ht.show_ (X.o2.past X.g1 X.o1.1 kp)) kp hg ho
theorem d2i_t {w : World} {A : Around} {s : Shared} {Q : Value → Shared → Prop} {E : Value → Shared → Prop} {l : Addr} {vs : List Value} {ds : List Int} {nn n : Nat} {tn : Tok} {ps qs : Array Value} (X : Tbs w s.heap ps qs)
    (hd : A.depth + 500 < recursionLimit) (hn1 : 1 ≤ n) (hn2 : n ≤ 1000) (hlen : ds.length ≤ 400) (ho : s.heap.get? l = some (lst vs nn)) (hi : IntsAre vs ds) (hds : ∀ d ∈ ds, 0 ≤ d ∧ d < ((2 ^ n : Nat) : Int))
    (k : ∀ s' t more, Tbs w s'.heap ps (qs ++ more) → Kp (hideAll s.heap [44]) s'.heap → s'.gens = s.gens → (s'.os, s'.drawn) = (s.os, s.drawn) → Q (.int (val (2 ^ n) ds) t) s') :
    wpAny (model pr w) A (call (.ref 49) [.ref l, .int (n : Nat) tn] []) Q E s := by
  have lt : ∀ b ∈ ([44] : List Addr), ∃ ps, s.heap.get? b = some (tabObj ps) ∧ TriplesOk ps.toList := fun b hb => by rcases List.mem_singleton.mp hb with rfl; exact ⟨_, X.g2, X.o2.1⟩
  have k3 : Kp (hideAll s.heap [37, 44]) (hideAll s.heap [44]) := hide_less (by simp)
  refine d2i_call (X.top.up k3) (X.c2.keeps k3) X.g2 (X.o2.hide [44] lt) hd hn1 hn2 hlen ho hi hds fun s' t more hp ht kp hg ho => ?_
  exact k s' t more (X.next (k3.trans kp) (kp _ _ (hideAll_get [44] X.g1 (by simp))) hp (X.o1.past X.g2 X.o2.1 kp) ht.show_) kp hg ho
theorem Pv.lst0 {prog : Program} {w : World} {A : Around} {env : Env} {h : Heap} {pos : Pos} : Pv prog w A h (eval (.List [] pos) env) (New h fun o _ => o = lst [] 0) :=
  .lstD (R₁ := fun vs _ => vs = []) (.spl0 fun _ _ => rfl) (fun vs h' h'' l k r h1 h2 k' ho => by subst r; exact ⟨l, _, rfl, h2, ho, rfl⟩) (fun vs h' r => by subst r; exact Nat.zero_le _)
theorem Pv.tup2 {prog : Program} {w : World} {A : Around} {env : Env} {h : Heap} {e₁ e₂ : Expr} {k : Nat} {pos : Pos} {P₁ P₂ : Value → Prop} (x : Pv prog w A h (eval e₁ env) (fun v _ => P₁ v)) (y : Pv prog w A h (eval e₂ env) (fun v _ => P₂ v))
    (he : starEach [e₁, e₂] env = [(false, eval e₁ env), (false, eval e₂ env)] := by rfl) (he₂ : starEach [e₂] env = [(false, eval e₂ env)] := by rfl) :
    Pv prog w A h (eval (.Tuple [e₁, e₂] k pos) env) (New h fun o _ => ∃ v₁ v₂, P₁ v₁ ∧ P₂ v₂ ∧ o = tup [v₁, v₂]) :=
  .tupD (.args2 x y he he₂) (fun vs h' h'' l k r h1 h2 k' ho => by obtain ⟨v₁, v₂, rfl, q₁, q₂⟩ := r; exact ⟨l, _, rfl, h2, ho, v₁, v₂, q₁, q₂, rfl⟩) (fun vs h' r => by obtain ⟨v₁, v₂, rfl, _⟩ := r; exact (by decide : 2 ≤ 1000000))
theorem ints_reverse : ∀ {vs : List Value} {ns : List Int}, IntsAre vs ns → IntsAre vs.reverse ns.reverse
  | _, _, .nil => .nil
  | _, _, .cons i t h => by
    rw [List.reverse_cons, List.reverse_cons]
    exact (ints_reverse h).append (.cons _ _ .nil)
/-- a code record in the base or among the own objects -/
def RecIn (g : Heap) (led : Led) (cv : Value) (q : Str) : Prop := ∃ c o vs t, cv = .ref c ∧ (g.get? c = some o ∨ (c, o) ∈ led) ∧ o.data = .fields vs ∧ vs[1]? = some (.str q t)
def TabIn (g : Heap) (led : Led) (pos : Pos) (q : Str) (ps : Array Value) : Prop := TriplesOk ps.toList ∧ ∀ cv, codeAmong pos ps.toList = some cv → RecIn g led cv q
theorem TabIn.up {g g' : Heap} {led led' : Led} {pos : Pos} {q : Str} {ps : Array Value} (x : TabIn g led pos q ps) (k : Kp g g') (hl : ∀ p ∈ led, p ∈ led' ∨ ∃ qs, p.2 = tabObj qs ∧ TriplesOk qs.toList) : TabIn g' led' pos q ps :=
  ⟨x.1, fun cv e => by
    obtain ⟨c, o, vs, t, e₁, g₁, d₁, r₁⟩ := x.2 cv e
    refine ⟨c, o, vs, t, e₁, ?_, d₁, r₁⟩
    rcases g₁ with g₁ | g₁
    · exact .inl (k _ _ g₁)
    · rcases hl _ g₁ with h | ⟨qs, h, tr⟩
      · exact .inr h
      · have h : o = tabObj qs := h
        subst h; cases d₁; exact absurd r₁ (tri_one tr)⟩
section
variable {w : World} {G : Array GenState} {O : OsState × Drawn} {g : Heap} {env : Env} {cs : List (Str × Addr)} {m cm : Str → Option Value} {led : Led} {s : Shared} {ps qs : Array Value}
theorem TabIn.ok {pos : Pos} {q : Str} (x : TabIn g led pos q ps) (S : St G O g env cs m cm led s) : TabOk s.heap pos q ps := ⟨x.1, fun cv e => by
  obtain ⟨c, o, vs, t, e₁, g₁, d₁, r₁⟩ := x.2 cv e
  exact ⟨c, o, vs, t, e₁, g₁.elim (S.keep _ _) (fun h => (S.own _ h).1), d₁, r₁⟩⟩
theorem Tbs.of (T : Tp w g) (c1 : CodeHd g 41 37) (c2 : CodeHd g 48 44) (i1 : TabIn g led pos1 q1 ps) (i2 : TabIn g led pos2 q2 qs) (S : St G O g env cs m cm led s) (h1 : (37, tabObj ps) ∈ led) (h2 : (44, tabObj qs) ∈ led) : Tbs w s.heap ps qs := by
  have k : Kp g (hideAll s.heap [37, 44]) := hide_kp S.keep fun a ha => by
    rcases List.mem_cons.mp ha with rfl | ha
    · exact (S.own _ h1).2.1
    · rcases List.mem_singleton.mp ha with rfl; exact (S.own _ h2).2.1
  exact ⟨T.up k, c1.keeps k, c2.keeps k, (S.own _ h1).1, (S.own _ h2).1, i1.ok S, i2.ok S⟩
/-- a record is taken among the own objects -/
theorem St.take {pos : Pos} {q : Str} (S : St G O g env cs m cm led s) (x : TabOk s.heap pos q ps) : ∃ ex : Led, St G O g env cs m cm (led ++ ex) s ∧ TabIn g (led ++ ex) pos q ps ∧ ∀ p ∈ ex, ∃ vs, p.2.data = .fields vs := by
  cases hc : codeAmong pos ps.toList with
  | none => exact ⟨[], by rw [List.append_nil]; exact S, ⟨x.1, fun cv e => by rw [hc] at e; cases e⟩, by simp⟩
  | some cv =>
    obtain ⟨c, o, vs, t, e₁, g₁, d₁, r₁⟩ := x.2 cv hc
    by_cases hg : g.get? c = some o
    · exact ⟨[], by rw [List.append_nil]; exact S, ⟨x.1, fun cv' e => by rw [hc] at e; cases e; exact ⟨c, o, vs, t, e₁, .inl hg, d₁, r₁⟩⟩, by simp⟩
    by_cases hl : (c, o) ∈ led
    · exact ⟨[], by rw [List.append_nil]; exact S, ⟨x.1, fun cv' e => by rw [hc] at e; cases e; exact ⟨c, o, vs, t, e₁, .inr (by rw [List.append_nil]; exact hl), d₁, r₁⟩⟩, by simp⟩
    have off : c ∉ owns env cs led := S.off g₁ (fun _ _ q => by rw [d₁] at q; cases q) (fun _ q => by rw [d₁] at q; cases q) fun p hp e q => hl (by rw [← e, ← q]; exact hp)
    have gn : g.get? c = none := by
      cases e : g.get? c with
      | none => rfl
      | some o' => have := S.keep _ _ e; rw [g₁] at this; cases this; exact absurd e hg
    refine ⟨[(c, o)], { S with own := fun p hp => ?_, nd := ?_ }, ⟨x.1, fun cv' e => by rw [hc] at e; cases e; exact ⟨c, o, vs, t, e₁, .inr (by simp), d₁, r₁⟩⟩, by simp; exact ⟨_, d₁⟩⟩
    · rcases List.mem_append.mp hp with hp | hp
      · exact S.own p hp
      · rcases List.mem_singleton.mp hp with rfl
        refine ⟨g₁, gn, fun e => off (by rw [show c = env.locals from e]; exact List.mem_cons_self ..), fun n c' hc' e => off (List.mem_cons_of_mem _ (List.mem_append_left _ ?_))⟩
        rw [show c = c' from e]; exact List.mem_map_of_mem (f := fun x : Str × Addr => x.2) hc'
    · rw [List.map_append, List.nodup_append]
      refine ⟨S.nd, by simp, fun a ha b hb => ?_⟩
      simp at hb
      subst hb
      rintro rfl
      exact off (List.mem_cons_of_mem _ (List.mem_append_right _ ha))
theorem Tbs.rec_ (X : Tbs w s.heap ps qs) (S : St G O g env cs m cm led s) : ∃ ex : Led, St G O g env cs m cm (led ++ ex) s ∧ TabIn g (led ++ ex) pos1 q1 ps ∧ TabIn g (led ++ ex) pos2 q2 qs ∧ ∀ p ∈ ex, ∃ vs, p.2.data = .fields vs := by
  obtain ⟨e1, S1, t1, f1⟩ := S.take X.o1
  obtain ⟨e2, S2, t2, f2⟩ := S1.take X.o2
  refine ⟨e1 ++ e2, by rw [← List.append_assoc]; exact S2, t1.up Kp.rfl (fun p hp => .inl (by rw [← List.append_assoc]; exact List.mem_append_left _ hp)), by rw [← List.append_assoc]; exact t2, fun p hp => ?_⟩
  rcases List.mem_append.mp hp with h | h
  · exact f1 p h
  · exact f2 p h
end
theorem keys_set {led : Led} {i : Nat} {a : Addr} {o o' : Obj} (h : led[i]? = some (a, o)) : (led.set i (a, o')).map (·.1) = led.map (·.1) := by
  rw [List.map_set]
  apply List.ext_getElem?
  intro j
  rw [List.getElem?_set]
  split
  · rename_i hij; subst hij
    split
    · rw [List.getElem?_map, h]; rfl
    · rename_i hlt; rw [List.getElem?_eq_none (by lia)]
  · rfl
theorem mem_set {led : Led} {i : Nat} {a : Addr} {o o' : Obj} {p : Addr × Obj} (nd : (led.map (·.1)).Nodup) (h : led[i]? = some (a, o)) (hp : p ∈ led.set i (a, o')) : p = (a, o') ∨ (p ∈ led ∧ p.1 ≠ a) := by
  by_cases hpa : p.1 = a
  · left
    obtain ⟨j, hj⟩ := List.mem_iff_getElem?.mp hp
    have h1 : ((led.set i (a, o')).map (·.1))[j]? = some a := by rw [List.getElem?_map, hj, ← hpa]; rfl
    have h2 : (led.map (·.1))[i]? = some a := by rw [List.getElem?_map, h]; rfl
    rw [keys_set h] at h1
    have : j = i := nodup_inj nd (List.getElem?_eq_some_iff.mp h1).1 (List.getElem?_eq_some_iff.mp h2).1 ((List.getElem?_eq_some_iff.mp h1).2.trans (List.getElem?_eq_some_iff.mp h2).2.symm)
    subst this
    rw [List.getElem?_set] at hj
    simp [(List.getElem?_eq_some_iff.mp h).1] at hj
    exact hj.symm
  · rcases List.mem_or_eq_of_mem_set hp with hp' | rfl
    · exact .inr ⟨hp', hpa⟩
    · exact absurd rfl hpa
theorem St.upd1 {G G' : Array GenState} {O : OsState × Drawn} {g : Heap} {env : Env} {cs : List (Str × Addr)} {m cm : Str → Option Value} {led : Led} {s s' : Shared} (S : St G O g env cs m cm led s) {a : Addr} {o o' : Obj} (i : Nat) (h : led[i]? = some (a, o))
    (k : Kp (hideAll s.heap [a]) s'.heap) (hn : s'.heap.get? a = some o') (hg : s'.gens = G') (ho : (s'.os, s'.drawn) = (s.os, s.drawn)) : St G' O g env cs m cm (led.set i (a, o')) s' :=
  S.turn [a] (fun b hb => by rcases List.mem_singleton.mp hb with rfl; exact List.mem_map_of_mem (List.mem_of_getElem? h)) (fun b o hb e => k b o (hideAll_get [a] e hb)) (keys_set h) (fun p hp => by
    rcases mem_set S.nd h hp with rfl | ⟨hp, hne⟩
    · exact hn
    · exact k _ _ (hideAll_get [a] (S.own p hp).1 fun q => hne (List.mem_singleton.mp q))) hg ho
theorem St.upd2 {G G' : Array GenState} {O : OsState × Drawn} {g : Heap} {env : Env} {cs : List (Str × Addr)} {m cm : Str → Option Value} {led : Led} {s s' : Shared} (S : St G O g env cs m cm led s) {a b : Addr} {o o' p p' : Obj} (i j : Nat) (h : led[i]? = some (a, o)) (h' : led[j]? = some (b, p)) (hij : i ≠ j)
    (k : Kp (hideAll s.heap [a, b]) s'.heap) (hn : s'.heap.get? a = some o') (hn' : s'.heap.get? b = some p') (hg : s'.gens = G') (ho : (s'.os, s'.drawn) = (s.os, s.drawn)) : St G' O g env cs m cm ((led.set i (a, o')).set j (b, p')) s' := by
  have h2 : (led.set i (a, o'))[j]? = some (b, p) := by rw [List.getElem?_set_ne hij]; exact h'
  refine S.turn [a, b] (fun c hc => ?_) (fun c o hc e => k c o (hideAll_get _ e hc)) ((keys_set h2).trans (keys_set h)) (fun q hq => ?_) hg ho
  · rcases List.mem_cons.mp hc with rfl | hc
    · exact List.mem_map_of_mem (List.mem_of_getElem? h)
    · rcases List.mem_singleton.mp hc with rfl; exact List.mem_map_of_mem (List.mem_of_getElem? h')
  · rcases mem_set (by rw [keys_set h]; exact S.nd) h2 hq with rfl | ⟨hq, hne⟩
    · exact hn'
    · rcases mem_set S.nd h hq with rfl | ⟨hq, hne'⟩
      · exact hn
      · exact k _ _ (hideAll_get _ (S.own q hq).1 fun e => by
          rcases List.mem_cons.mp e with e | e
          · exact hne' e
          · exact hne (List.mem_singleton.mp e))
/-- what stands at the loop of _divmod_pos -/
inductive DmpJ (G₀ : Array GenState) (a b n K : Nat) (t₂ tb : Tok) (qd : Addr) (L : Led) (i : Nat) (G' : Array GenState) (m' : Str → Option Value) (led' : Led) : Prop
  | mk (qvs : List Value) (nq : Nat) (qds : List Int) (tr : Tok) (hG : G' = G₀) (er : m' "r" = some (.int ((a / (2 ^ n) ^ (K - i) % b : Nat) : Int) tr)) (en : m' "n" = some (.int (n : Nat) t₂)) (eb : m' "b" = some (.int (b : Nat) tb))
    (eq : m' "q_digits" = some (.ref qd)) (el : led' = (qd, lst qvs nq) :: L) (hq : IntsAre qvs qds) (hl : qds.length = i) (hv : val (2 ^ n) qds.reverse = ((a / (2 ^ n) ^ (K - i) / b : Nat) : Int)) (hb : ∀ d ∈ qds, 0 ≤ d ∧ d < ((2 ^ n : Nat) : Int)) : DmpJ G₀ a b n K t₂ tb qd L i G' m' led'
theorem dmp_call {w : World} {A : Around} {s : Shared} {Q : Value → Shared → Prop} {E : Value → Shared → Prop} {a b : Nat} {ta tb : Tok} {ps qs : Array Value} (X : Tbs w s.heap ps qs) (hh : A.handled = none) (hd : A.depth + 600 < recursionLimit) (hb : 1 ≤ b)
    (hn : Builtin.Int.intBits (b : Int) ≤ 1000) (hk : Builtin.Int.intBits (a : Int) ≤ 400)
    (k : ∀ s' l t u more more', s.heap.get? l = none → s'.heap.get? l = some (tup [.int ((a / b : Nat) : Int) t, .int ((a % b : Nat) : Int) u]) → Tbs w s'.heap (ps ++ more) (qs ++ more') → Kp (hideAll s.heap [37, 44]) s'.heap → s'.gens = s.gens → (s'.os, s'.drawn) = (s.os, s.drawn) → Q (.ref l) s') :
    wpAny (model pr w) A (call (.ref 56) [.int (a : Nat) ta, .int (b : Nat) tb] []) Q E s := by
  have hb2 : b < 2 ^ Builtin.Int.intBits (b : Int) := intBits_lt
  generalize hN : Builtin.Int.intBits (b : Int) = n at hn hb2
  have hn1 : 1 ≤ n := by
    rcases Nat.eq_zero_or_pos n with e | e
    · rw [e] at hb2; simp at hb2; lia
    · exact e
  have hK : (Builtin.Int.intBits (a : Int) + n - 1) / n ≤ 400 := by
    have : (Builtin.Int.intBits (a : Int) + n - 1) / n ≤ (400 * n + (n - 1)) / n := Nat.div_le_div_right (by have : Builtin.Int.intBits (a : Int) ≤ 400 * n := Nat.le_trans hk (Nat.le_mul_of_pos_right _ (by lia)); lia)
    have e2 : (400 * n + (n - 1)) / n = 400 := by
      rw [Nat.mul_comm, Nat.mul_add_div (by lia), Nat.div_eq_of_lt (by lia)]
    lia
  refine def_callH [(37, tabObj ps), (44, tabObj qs)] (by
    intro p hp
    rcases List.mem_cons.mp hp with rfl | hp
    · exact X.g1
    · rcases List.mem_singleton.mp hp with rfl; exact X.g2) (by simp) X.top (by lia) rfl rfl (code_rec X.tp rfl rfl) rfl (BindsTo.of_eq rfl) (nocell rfl) (locs rfl) fun s₁ S₁ => ?_
  replace S₁ : St s.gens (s.os, s.drawn) (hideAll s.heap [37, 44]) _ _ _ _ _ s₁ := S₁
  refine x_cons (x_setI S₁ (.bitlen (.nameI (S₁.loc rfl))) fun t₂ s₂ S₂ => ?_)
  rw [hN] at S₂
  have T₂ : Tp w s₂.heap := X.top.up S₂.keep
  refine x_cons (wpAny_Assign_Name (callF_of (.glob T₂ g_int2digits) (T₂.k 42 _ rfl) rfl (.args2 (.name (S₂.loc rfl)) (.name (S₂.loc rfl))) fun vs' h' tk k' r => ?_) rfl)
  obtain ⟨_, _, rfl, rfl, rfl⟩ := r
  have S₃ := S₂.grow k' tk
  have X₃ := X.keep S₃.keep (S₃.mem 0 rfl) (S₃.mem 1 rfl)
  refine i2d_t X₃ (by show A.depth + 1 + 500 < _; lia) hn1 hn hK fun s₄ l vs nn more hnl hl hi X₄ k₄ g₄ o₄ => ?_
  generalize hKK : (Builtin.Int.intBits (a : Int) + n - 1) / n = K at hi hK
  have haK : a < (2 ^ n) ^ K := by
    rw [← Nat.pow_mul]
    refine Nat.lt_of_lt_of_le intBits_lt (Nat.pow_le_pow_right (by decide) ?_)
    have h1 := Nat.div_add_mod (Builtin.Int.intBits (a : Int) + n - 1) n
    have h2 := Nat.mod_lt (Builtin.Int.intBits (a : Int) + n - 1) (show 0 < n by lia)
    rw [hKK] at h1
    lia
  have hvl : vs.length = K := hi.length.trans (digs_length ..)
  have S₄ := S₃.turn (s' := s₄) (led' := [(37, tabObj (ps ++ more)), (44, tabObj qs)]) [37] (fun b hb => by rcases List.mem_singleton.mp hb with rfl; exact List.mem_cons_self ..) (fun b o hb e => k₄ b o (hideAll_get [37] e hb)) rfl (fun p hp => by
    rcases List.mem_cons.mp hp with rfl | hp
    · exact X₄.g1
    · rcases List.mem_singleton.mp hp with rfl; exact X₄.g2) (g₄.trans S₃.gens) o₄
  obtain ⟨ex, S₄', i1, i2, fx⟩ := X₄.rec_ S₄
  have lo := S₄'.off hl (fun _ _ q => by cases q) (fun _ q => by cases q) (fun p hp e q => by
    rcases List.mem_append.mp hp with hp | hp
    · rcases List.mem_cons.mp hp with rfl | hp
      · cases q
      · rcases List.mem_singleton.mp hp with rfl; cases q
    · obtain ⟨vs', e'⟩ := fx p hp
      rw [q] at e'; cases e')
  have B₄ := S₄'.frzKp
  have lg := S₄'.frzGet hl lo
  refine S₄'.rebase.store fun s₅ S₅ => ?_
  have hB : 0 < 2 ^ n := Nat.two_pow_pos n
  refine x_cons (x_setI S₅ .cint fun t₆ s₆ S₆ => ?_)
  refine x_cons (x_setN S₆ .lst0 fun qd o s₆' s₇ ho k₇ S₇ => ?_)
  subst ho
  have T₇ : Tp w s₇.heap := X.top.up (B₄.trans S₇.keep)
  have ls₇ := S₇.keep _ _ lg
  refine x_cons (x_forRev (l := l) (vs := vs) (nn := nn) (fun i G' m' cm' led' => DmpJ s.gens a b n K t₂ tb qd ((37, tabObj (ps ++ more)) :: (44, tabObj qs) :: ex) i G' m' led')
    S₇ hh (.callT (.boot T₇ g_reversed b_reversed) (.args1 (.name (S₇.loc rfl))) fun vs' h' k' r => ?_) ls₇ (S₇.offBase lg) ?_ (fun i v G' m' cm' led' g' s' hi' hv hJ kg S => ?_) fun G' m' cm' led' s' hJ S => ?_)
  · obtain ⟨_, rfl, rfl⟩ := r
    exact (rev_pv (k' _ _ ls₇)).mono fun v h'' k'' e => e.base k'
  · refine ⟨[], 0, [], t₆, rfl, ?_, rfl, rfl, rfl, rfl, .nil, rfl, ?_, by simp⟩
    · rw [Nat.sub_zero, Nat.div_eq_of_lt haK, Nat.zero_mod]; rfl
    · rw [Nat.sub_zero, Nat.div_eq_of_lt haK, Nat.zero_div]; rfl
  · obtain ⟨qvs, nq, qds, tr, rfl, er, en, eb, eq, rfl, hq, hql, hqv, hqb⟩ := hJ
    rw [hvl] at hi' hv
    obtain ⟨td, hdv⟩ := IntsAre.at? hi (digs_at (2 ^ n) K a (K - 1 - i) (by lia))
    rw [hdv] at hv; cases hv
    have hstep := top_step (B := 2 ^ n) (a := a) hi'
    generalize hV : a / (2 ^ n) ^ (K - i) = V at *
    generalize hD : a / (2 ^ n) ^ (K - 1 - i) % 2 ^ n = d at *
    have hdB : d < 2 ^ n := by rw [← hD]; exact Nat.mod_lt _ hB
    have hR : V % b < b := Nat.mod_lt _ (by lia)
    obtain ⟨ds1, ds2⟩ := div_step (V := V) (b := b) (B := 2 ^ n) (d := d) (by lia)
    refine S.asg fun s₈ S₈ => hold fun Q₁ q₁ => ?_
    have T₈ : Tp w s₈.heap := X.top.up (B₄.trans (kg.trans S₈.keep))
    have eR : ((V % b : Nat) : Int) * 2 ^ ((n : Nat) : Int).toNat + ((d : Nat) : Int) = ((V % b * 2 ^ n + d : Nat) : Int) := by
      rw [Int.toNat_natCast, Int.natCast_add, Int.natCast_mul, Int.natCast_pow]; rfl
    have hlt : V % b * 2 ^ n + d < b * 2 ^ n := by
      have : (V % b + 1) * 2 ^ n ≤ b * 2 ^ n := Nat.mul_le_mul_right _ hR
      rw [Nat.add_mul, Nat.one_mul] at this; lia
    have hbits : Builtin.Int.intBits ((V % b * 2 ^ n + d : Nat) : Int) ≤ n + n := intBits_le_nat (Nat.lt_of_lt_of_le hlt (by rw [Nat.pow_add]; exact Nat.mul_le_mul_right _ (Nat.le_of_lt hb2)))
    have hbR : Builtin.Int.intBits ((V % b : Nat) : Int) ≤ n := intBits_le_nat (Nat.lt_trans hR hb2)
    have hlog : (b : Int).natAbs.log2 < 9000 := by
      have : (b : Int).natAbs = b := by simp
      rw [this, Nat.log2_lt (by lia)]
      exact Nat.lt_of_lt_of_le hb2 (Nat.pow_le_pow_right (by decide) (by lia))
    have hsh : (Builtin.Int.intBits ((V % b : Nat) : Int) : Int) + ((n : Nat) : Int) ≤ 2 ^ 27 := by
      have h3 : (2000 : Int) ≤ 2 ^ 27 := by decide
      lia
    refine x_cons (Assign_Tuple (S₈.pv (R := New s₈.heap fun o _ => ∃ t u, o = tup [.int (((V % b * 2 ^ n + d) / b : Nat) : Int) t, .int (((V * 2 ^ n + d) % b : Nat) : Int) u]) (.callF (.glob T₈ g_div2n1n) (T₈.k 28 _ rfl) rfl (.args3 (P₁ := fun v => ∃ t, v = .int ((V % b * 2 ^ n + d : Nat) : Int) t)
      (by rw [← eR]; exact .addI (.shlI (.nameI (S₈.loc er)) (.nameI (S₈.loc en)) (Int.natCast_nonneg _) hsh) (.nameI (S₈.loc rfl))) (.name (S₈.loc eb)) (.name (S₈.loc en))) fun vs' h' k' r => ?_) fun v s₉ r k₉ S₉ => ?_) rfl rfl)
    · obtain ⟨_, _, _, rfl, ⟨_, rfl⟩, rfl, rfl⟩ := r
      refine (div2_pv (T₈.up k') (by show A.depth + 1 < _; lia) (by lia) hlog (by lia)).mono fun v h'' k'' e => ?_
      obtain ⟨l', o', rfl, hn', ho', t', u', rfl⟩ := e.base k'
      refine ⟨l', _, rfl, hn', ho', t', u', ?_⟩
      rw [Int.fdiv_eq_ediv_of_nonneg _ (Int.natCast_nonneg _), Int.fmod_eq_emod_of_nonneg _ (Int.natCast_nonneg _), ds2]
      rfl
    obtain ⟨l', o', rfl, hn', ho', t', u', rfl⟩ := r
    refine a_tup2 hh (isTup_tup ho') fun h' k' => ?_
    refine (S₉.growS (s' := { s₉ with heap := h' }) k' S₉.gens rfl).asg fun s₁₀ S₁₀ => S₁₀.asg fun s₁₁ S₁₁ => ?_
    refine x_cons (x_append (i := 0) S₁₁ (S₁₁.loc eq) rfl (.name (S₁₁.loc rfl)) (by have := hq.length; lia) fun v s₁₂ s₁₃ e k₁₂ S₁₃ => ?_)
    subst e
    refine x_nil (q₁ _ _ ⟨_, _, _, (qd, lst (qvs ++ [.int (((V % b * 2 ^ n + d) / b : Nat) : Int) t']) (nq + 1)) :: (37, tabObj (ps ++ more)) :: (44, tabObj qs) :: ex, ⟨qvs ++ [.int (((V % b * 2 ^ n + d) / b : Nat) : Int) t'], nq + 1, qds ++ [(((V % b * 2 ^ n + d) / b : Nat) : Int)], u', rfl, ?_, ?_, ?_, ?_, rfl, hq.append (.cons _ _ .nil), by simp [hql], ?_, ?_⟩, S₁₃⟩)
    · rw [hstep]; rfl
    · exact en
    · exact eb
    · exact eq
    · rw [List.reverse_append, hstep, ds1]
      show _ + _ * val (2 ^ n) qds.reverse = _
      rw [hqv, Int.natCast_add (V / b * 2 ^ n), Int.natCast_mul (V / b), Int.add_comm, Int.mul_comm]
    · intro x hx
      rcases List.mem_append.mp hx with hx | hx
      · exact hqb x hx
      · rcases List.mem_singleton.mp hx with rfl
        refine ⟨Int.natCast_nonneg _, Int.ofNat_lt.mpr ?_⟩
        rw [Nat.div_lt_iff_lt_mul (by lia), Nat.mul_comm (2 ^ n) b]; exact hlt
  · obtain ⟨qvs, nq, qds, tr, rfl, er, en, eb, eq, rfl, hq, hql, hqv, hqb⟩ := hJ
    rw [hvl] at er hqv hql
    rw [Nat.sub_self, Nat.pow_zero, Nat.div_one] at er hqv
    refine x_cons (x_reverse (i := 0) S (S.loc eq) rfl (by have := hq.length; lia) fun s₈ n' S₈ => ?_)
    have T₈ : Tp w s₈.heap := X.top.up (B₄.trans S₈.keep)
    refine x_cons (wpAny_Assign_Name (callF_of (.glob T₈ g_digits2int) (T₈.k 49 _ rfl) rfl (.args2 (.name (S₈.loc eq)) (.name (S₈.loc en))) fun vs' h' tk k' r => ?_) rfl)
    obtain ⟨_, _, rfl, rfl, rfl⟩ := r
    have S₉ := S₈.grow k' tk
    have memx : ∀ {q : Addr × Obj} {x : Obj} {p : Addr × Obj}, p ∈ (37, tabObj (ps ++ more)) :: (44, x) :: ex → p ∈ q :: (37, tabObj (ps ++ more)) :: (44, x) :: ex := fun h => List.mem_cons_of_mem _ h
    have X₉ : Tbs w h' (ps ++ more) qs := Tbs.of (X.top.up B₄) (X.c1.keeps B₄) (X.c2.keeps B₄) (i1.up B₄ fun p hp => .inl (memx hp)) (i2.up B₄ fun p hp => .inl (memx hp)) S₉ (.tail _ (.head _)) (.tail _ (.tail _ (.head _)))
    refine d2i_t (ds := qds.reverse) X₉ (by show A.depth + 1 + 500 < _; lia) hn1 hn (by simp; lia) (S₉.mem 0 rfl) (ints_reverse hq) (fun d hd => hqb d (List.mem_reverse.mp hd)) fun s₁₀ t more' X₁₀ k₁₀ g₁₀ o₁₀ => ?_
    rw [hqv]
    have S₁₀ := S₉.upd1 (s' := s₁₀) 2 rfl k₁₀ X₁₀.g2 (g₁₀.trans S₉.gens) o₁₀
    obtain ⟨ex', S₁₀', j1, j2, _⟩ := X₁₀.rec_ S₁₀
    refine S₁₀'.store fun s₁₁ S₁₁ => x_cons (x_ret S₁₁ (.tup2 (.name (S₁₁.loc rfl)) (.name (S₁₁.loc er))) fun v s₁₂ r k₁₂ S₁₂ => ?_)
    obtain ⟨l', o', rfl, hn', ho', _, _, rfl, rfl, rfl⟩ := r
    have X₁₂ : Tbs w s₁₂.heap (ps ++ more) (qs ++ more') := Tbs.of (X.top.up B₄) (X.c1.keeps B₄) (X.c2.keeps B₄) j1 j2 S₁₂ (.tail _ (.head _)) (.tail _ (.tail _ (.head _)))
    refine k s₁₂ l' _ _ more more' ?_ ho' X₁₂ (B₄.trans S₁₂.keep) S₁₂.gens S₁₂.os
    cases e : s.heap.get? l' with
    | none => rfl
    | some o =>
      by_cases h37 : l' ∈ ([37, 44] : List Addr)
      · rcases List.mem_cons.mp h37 with rfl | h
        · have := S₁₁.mem 1 rfl; rw [hn'] at this; cases this
        · rcases List.mem_singleton.mp h with rfl; have := S₁₁.mem 2 rfl; rw [hn'] at this; cases this
      · have := (B₄.trans S₁₁.keep) _ _ (hideAll_get _ e h37); rw [hn'] at this; cases this
end Mine
end

section
open PySem PySem.W PyProof.Rows
namespace Mine
theorem fresh_base {h h' g : Heap} {as : List Addr} {l : Addr} (k : Kp (hideAll h as) h') (hn : h'.get? l = none) (ha : ∀ a ∈ as, ∃ o, h'.get? a = some o) : h.get? l = none := by
  cases e : h.get? l with
  | none => rfl
  | some o =>
    by_cases hl : l ∈ as
    · obtain ⟨o', e'⟩ := ha l hl; rw [hn] at e'; cases e'
    · have := k _ _ (hideAll_get as e hl); rw [hn] at this; cases this
theorem idm_nn {w : World} {A : Around} {s : Shared} {Q : Value → Shared → Prop} {E : Value → Shared → Prop} {a b : Nat} {ta tb : Tok} {ps qs : Array Value} (X : Tbs w s.heap ps qs) (hh : A.handled = none) (hd : A.depth + 601 < recursionLimit) (hb : 1 ≤ b)
    (hn : Builtin.Int.intBits (b : Int) ≤ 1000) (hk : Builtin.Int.intBits (a : Int) ≤ 400)
    (k : ∀ s' l t u more more', s.heap.get? l = none → s'.heap.get? l = some (tup [.int ((a / b : Nat) : Int) t, .int ((a % b : Nat) : Int) u]) → Tbs w s'.heap (ps ++ more) (qs ++ more') → Kp (hideAll s.heap [37, 44]) s'.heap → s'.gens = s.gens → (s'.os, s'.drawn) = (s.os, s.drawn) → Q (.ref l) s') :
    wpAny (model pr w) A (call (.ref 63) [.int (a : Nat) ta, .int (b : Nat) tb] []) Q E s := by
  refine def_callH [(37, tabObj ps), (44, tabObj qs)] (by
    intro p hp
    rcases List.mem_cons.mp hp with rfl | hp
    · exact X.g1
    · rcases List.mem_singleton.mp hp with rfl; exact X.g2) (by simp) X.top (by lia) rfl rfl (code_rec X.tp rfl rfl) rfl (BindsTo.of_eq rfl) (nocell rfl) (locs rfl) fun s₁ S₁ => ?_
  replace S₁ : St s.gens (s.os, s.drawn) (hideAll s.heap [37, 44]) _ _ _ _ _ s₁ := S₁
  refine x_cons (x_if S₁ (.teq (.nameI (S₁.loc rfl)) .cint) (fun hb' => ?_) fun _ s₂ k₂ S₂ => ?_)
  · exfalso; simp at hb'; lia
  refine x_cons (x_if S₂ (.tlt (.nameI (S₂.loc rfl)) .cint) (fun hb' => ?_) fun _ s₃ k₃ S₃ => ?_)
  · exfalso; simp at hb'; lia
  refine x_cons (x_if S₃ (.tlt (.nameI (S₃.loc rfl)) .cint) (fun hb' => ?_) fun _ s₄ k₄ S₄ => ?_)
  · exfalso; simp at hb'; lia
  have T₄ : Tp w s₄.heap := X.top.up S₄.keep
  refine x_cons (wpAny_Return_some (callF_of (.glob T₄ g_divmod_pos) (T₄.k 56 _ rfl) rfl (.args2 (.name (S₄.loc rfl)) (.name (S₄.loc rfl))) fun vs' h' tk k' r => ?_))
  obtain ⟨_, _, rfl, rfl, rfl⟩ := r
  have S₅ := S₄.grow k' tk
  have X₅ : Tbs w h' ps qs := X.keep S₅.keep (S₅.mem 0 rfl) (S₅.mem 1 rfl)
  refine dmp_call X₅ hh (by show A.depth + 1 + 600 < _; lia) hb hn hk fun s₆ l t u more more' hnl hl X₆ k₆ g₆ o₆ => ?_
  have k5 : Kp (hideAll s.heap [37, 44]) h' := S₅.keep
  exact k s₆ l t u more more' (fresh_base (g := h') k5 hnl (by
    intro c hc
    rcases List.mem_cons.mp hc with rfl | hc
    · exact ⟨_, X₅.g1⟩
    · rcases List.mem_singleton.mp hc with rfl; exact ⟨_, X₅.g2⟩)) hl X₆ ((hide_up k5).trans k₆) (g₆.trans S₅.gens) (o₆.trans S₅.os)

theorem fdm_neg {a : Int} {b : Nat} (hb : 1 ≤ b) (ha : a < 0) {n : Nat} (hn : (n : Int) = -a - 1) : a.fdiv b = -(((n / b : Nat) : Int)) - 1 ∧ a.fmod b = (b : Int) + (-(((n % b : Nat) : Int)) - 1) := by
  have e : a = (b : Int) * (-(((n / b : Nat) : Int)) - 1) + ((b : Int) + (-(((n % b : Nat) : Int)) - 1)) := by
    have h := Nat.div_add_mod n b
    have h' : ((b * (n / b) + n % b : Nat) : Int) = (n : Int) := by rw [h]
    rw [Int.natCast_add, Int.natCast_mul] at h'
    rw [Int.mul_sub, Int.mul_neg, Int.mul_one]
    lia
  have hlt := Nat.mod_lt n hb
  rw [Int.fdiv_eq_ediv_of_nonneg _ (Int.natCast_nonneg _), Int.fmod_eq_emod_of_nonneg _ (Int.natCast_nonneg _)]
  have hd : a / (b : Int) = -(((n / b : Nat) : Int)) - 1 := by
    rw [e, Int.add_comm, Int.add_mul_ediv_left _ _ (by lia), Int.ediv_eq_zero_of_lt (by lia) (by lia)]; lia
  refine ⟨hd, ?_⟩
  have := Int.emod_def a b
  rw [this, hd]
  conv => lhs; lhs; rw [e]
  lia

theorem idm_call {w : World} {A : Around} {s : Shared} {Q : Value → Shared → Prop} {E : Value → Shared → Prop} {a : Int} {b : Nat} {ta tb : Tok} {ps qs : Array Value} (X : Tbs w s.heap ps qs) (hh : A.handled = none) (hd : A.depth + 602 < recursionLimit) (hb : 1 ≤ b)
    (hn : Builtin.Int.intBits (b : Int) ≤ 1000) (hk : Builtin.Int.intBits a ≤ 400)
    (k : ∀ s' l t u more more', s.heap.get? l = none → s'.heap.get? l = some (tup [.int (a.fdiv b) t, .int (a.fmod b) u]) → Tbs w s'.heap (ps ++ more) (qs ++ more') → Kp (hideAll s.heap [37, 44]) s'.heap → s'.gens = s.gens → (s'.os, s'.drawn) = (s.os, s.drawn) → Q (.ref l) s') :
    wpAny (model pr w) A (call (.ref 63) [.int a ta, .int (b : Nat) tb] []) Q E s := by
  by_cases ha : 0 ≤ a
  · obtain ⟨n, rfl⟩ := Int.eq_ofNat_of_zero_le ha
    refine idm_nn X hh (by lia) hb hn hk fun s' l t u more more' h1 h2 h3 h4 h5 h6 => k s' l t u more more' h1 ?_ h3 h4 h5 h6
    rw [h2, Int.fdiv_eq_ediv_of_nonneg _ (Int.natCast_nonneg _), Int.fmod_eq_emod_of_nonneg _ (Int.natCast_nonneg _)]
    rfl
  have ha' : a < 0 := by lia
  obtain ⟨n, hnn⟩ := Int.eq_ofNat_of_zero_le (show 0 ≤ -a - 1 by lia)
  obtain ⟨ed, em⟩ := fdm_neg hb ha' hnn.symm
  have enot : Builtin.bitNot a = (n : Int) := by rw [← hnn]; show -a - 1 = _; rfl
  have hkn : Builtin.Int.intBits (n : Int) ≤ 400 := by
    refine intBits_le_nat ?_
    have := intBits_le_iff.mp hk
    lia
  refine def_callH [(37, tabObj ps), (44, tabObj qs)] (by
    intro p hp
    rcases List.mem_cons.mp hp with rfl | hp
    · exact X.g1
    · rcases List.mem_singleton.mp hp with rfl; exact X.g2) (by simp) X.top (by lia) rfl rfl (code_rec X.tp rfl rfl) rfl (BindsTo.of_eq rfl) (nocell rfl) (locs rfl) fun s₁ S₁ => ?_
  replace S₁ : St s.gens (s.os, s.drawn) (hideAll s.heap [37, 44]) _ _ _ _ _ s₁ := S₁
  refine x_cons (x_if S₁ (.teq (.nameI (S₁.loc rfl)) .cint) (fun hb' => ?_) fun _ s₂ k₂ S₂ => ?_)
  · exfalso; simp at hb'; lia
  refine x_cons (x_if S₂ (.tlt (.nameI (S₂.loc rfl)) .cint) (fun hb' => ?_) fun _ s₃ k₃ S₃ => ?_)
  · exfalso; simp at hb'; lia
  refine x_cons (x_if S₃ (.tlt (.nameI (S₃.loc rfl)) .cint) (fun _ s₄ k₄ S₄ => ?_) fun hb' => ?_)
  case refine_2 => exfalso; simp at hb'; lia
  have T₄ : Tp w s₄.heap := X.top.up S₄.keep
  refine x_cons (Assign_Tuple (callF_of (.glob T₄ g_int_divmod) (T₄.k 63 _ rfl) rfl (.args2 (.notI (.nameI (S₄.loc rfl))) (.name (S₄.loc rfl))) fun vs' h' tk k' r => ?_) rfl rfl)
  obtain ⟨_, _, rfl, ⟨_, rfl⟩, rfl⟩ := r
  rw [enot]
  have S₅ := S₄.grow k' tk
  have X₅ : Tbs w h' ps qs := X.keep S₅.keep (S₅.mem 0 rfl) (S₅.mem 1 rfl)
  refine idm_nn X₅ hh (by show A.depth + 1 + 601 < _; lia) hb hn hkn fun s₆ l t u more more' hnl hl X₆ k₆ g₆ o₆ => ?_
  have S₆ := S₅.upd2 (s' := s₆) 0 1 rfl rfl (by decide) k₆ X₆.g1 X₆.g2 (g₆.trans S₅.gens) o₆
  obtain ⟨ex, S₆', i1, i2, fx⟩ := X₆.rec_ S₆
  refine a_tup2 hh (isTup_tup hl) fun h₇ k₇ => ?_
  refine (S₆'.growS (s' := { s₆ with heap := h₇ }) k₇ S₆'.gens rfl).asg fun s₈ S₈ => S₈.asg fun s₉ S₉ => ?_
  refine x_cons (x_ret S₉ (.tup2 (.notI (.nameI (S₉.loc rfl))) (.addI (.nameI (S₉.loc rfl)) (.notI (.nameI (S₉.loc rfl))))) fun v s₁₀ r k₁₀ S₁₀ => ?_)
  obtain ⟨l', o', rfl, hn', ho', _, _, ⟨t₁, rfl⟩, ⟨t₂, rfl⟩, rfl⟩ := r
  have X₁₀ : Tbs w s₁₀.heap (ps ++ more) (qs ++ more') := Tbs.of X.top X.c1 X.c2 i1 i2 S₁₀ (.head _) (.tail _ (.head _))
  refine k s₁₀ l' t₁ t₂ more more' (fresh_base (g := h') S₉.keep hn' (by
    intro c hc
    rcases List.mem_cons.mp hc with rfl | hc
    · exact ⟨_, S₉.mem 0 rfl⟩
    · rcases List.mem_singleton.mp hc with rfl; exact ⟨_, S₉.mem 1 rfl⟩)) ?_ X₁₀ S₁₀.keep S₁₀.gens S₁₀.os
  rw [ho', ed, em]
  rfl
end Mine
end

section
open PySem PySem.W PyProof.Rows
namespace Mine
open PySem.W.X
section
variable {α β : Type} {prog : Program} {w : World} {A : Around} {c : Code} {fs : List Frame} {s : Shared} {env : Env} {P : End → Shared → Prop}
  {K : α → Sem Fin} {H : Value → Sem Fin} {gd : Bool → Bool} {lv : List Value → List Value}
abbrev SX (prog : Program) (w : World) (A : Around) (c : Code) (t : Sem Fin) (fs : List Frame) (s : Shared) (P : End → Shared → Prop) : Prop := SegX (model prog w) A c t fs s P

theorem sx_wrap {m : Sem α} (h : wpAny (model prog w) (A.over c fs) m (fun a s' => SX prog w A c (K a) fs s' P) (fun x s' => SX prog w A c (H x) fs s' P) s) :
    SX prog w A c (m.wrap K H gd lv) fs s P := by
  rintro Γ p rfl hΓ
  obtain ⟨e, s', hr, hq⟩ := runs_wrap_of_wp (Φ := fun e s' => e.quiet = true ∧ P e s') K H gd lv m (h (Γ.over fs) p (hΓ.over fs)) (fun a p' s' h' => h' Γ p' rfl hΓ) (fun x p' s' h' => h' Γ p' rfl hΓ)
  exact ⟨e, s', hr, hq⟩
theorem wrap_bind (m : Sem β) (f : β → Sem α) : (m >>= f).wrap K H gd lv = m.wrap (fun a => (f a).wrap K H gd lv) H gd lv := by
  rw [Sem.bind_eq_wrap', Sem.wrap_wrap]; rfl
theorem sx_bind {m : Sem β} {f : β → Sem α} (h : wpAny (model prog w) (A.over c fs) m (fun a s' => SX prog w A c ((f a).wrap K H gd lv) fs s' P) (fun x s' => SX prog w A c (H x) fs s' P) s) :
    SX prog w A c ((m >>= f).wrap K H gd lv) fs s P := by
  rw [wrap_bind]; exact sx_wrap h
theorem sx_at {p' : Pos} {k : Unit → Sem Fin} (h : SX prog w A c (k ()) fs s P) : SX prog w A c (.at p' k) fs s P :=
  sx_wrap (m := standAt p') (K := k) (H := .raise) (gd := id) (lv := id) (wpAny_standAt h)
theorem sx_point {l : List Value} {k : Unit → Sem Fin} (h : SX prog w A c (k ()) fs s P) : SX prog w A c (.point l k) fs s P :=
  sx_wrap (m := point) (K := k) (H := .raise) (gd := id) (lv := fun _ => l) (wpAny_point h)
end
section
variable {prog : Program} {w : World} {A : Around} {c : Code} {fs : List Frame} {s : Shared} {env : Env} {P : End → Shared → Prop}
  {K : Flow → Sem Fin} {H : Value → Sem Fin} {gd : Bool → Bool} {lv : List Value → List Value}
theorem sx_nil (h : SX prog w A c (K .next) fs s P) : SX prog w A c ((execs [] env).wrap K H gd lv) fs s P := h
theorem sx_cons {st : Stmt} {rest : List Stmt} (h : SX prog w A c ((exec st env).wrap (fun f => match f with | .next => (execs rest env).wrap K H gd lv | f => K f) H gd lv) fs s P) :
    SX prog w A c ((execs (st :: rest) env).wrap K H gd lv) fs s P := by rw [execs_cons_wrap]; exact h
theorem sx_if {t : Expr} {x y : List Stmt} {pos : Pos} (h : wpAny (model prog w) (A.over c fs) (isTrue t env (eval t env)) (fun b s' => if b then SX prog w A c ((execs x env).wrap K H gd lv) fs s' P else SX prog w A c ((execs y env).wrap K H gd lv) fs s' P)
      (fun x s' => SX prog w A c (H x) fs s' P) s) : SX prog w A c ((exec (.If t x y pos) env).wrap K H gd lv) fs s P := by
  have e : exec (.If t x y pos) env = (standAt pos >>= fun _ => isTrue t env (eval t env) >>= fun b => if b then execs x env else execs y env) := rfl
  rw [e]
  refine sx_bind (wpAny_standAt (sx_bind (wpAny_mono h (fun b s' q => ?_) fun _ _ q => q)))
  cases b with
  | true => exact q
  | false => exact q
theorem sx_yieldG {v : Value} {g : Bool} {l : List Value} {k : Resume → Sem Fin} (hfs : splitAtGen fs = none) (hg : g = false) (hfg : fs.any Frame.guarded = false) (x : ∀ p, P (.susp v g l k c p fs) s) : SX prog w A c (.yield v g l k) fs s P := by
  rintro Γ p rfl _
  exact ⟨_, s, Runs.yield' fs hfs, by simp [End.quiet, hg, hfg], x p⟩
/-- yield e as a statement: what is left behind it -/
theorem sx_yield {e : Expr} {ypos pos : Pos} (hfs : splitAtGen fs = none) (hgd : gd false = false) (hfg : fs.any Frame.guarded = false)
    (h : wpAny (model prog w) (A.over c fs) (eval e env) (fun v s' => ∀ p l k g, (∀ A s'' P', SX prog w A c (K .next) fs s'' P' → SX prog w A c (k (.send .none)) fs s'' P') → P (.susp v g l k c p fs) s')
      (fun x s' => SX prog w A c (H x) fs s' P) s) (hco : env.scope.isCoroutine = false := by rfl) (hi : interactive env = false := by rfl) :
    SX prog w A c ((exec (.Expr (.Yield (some e) ypos) pos) env).wrap K H gd lv) fs s P := by
  rw [exec_Expr env _ pos hi rfl]
  show SX prog w A c (.at pos fun _ => ((eval e env >>= fun v => (standAt ypos >>= fun _ => yieldOut env v)) >>= fun x =>
    dropValue (.Yield (some e) ypos) pos x).wrap K H gd lv) fs s P
  have hy : ∀ v, yieldOut env v = yieldValue v := fun v => by simp only [yieldOut, hco, Bool.false_eq_true, if_false]
  simp only [hy]
  refine sx_at ?_
  rw [Sem.bind_eq_wrap', Sem.bind_eq_wrap', Sem.wrap_wrap, Sem.wrap_wrap]
  refine sx_wrap (wpAny_mono h (fun v s' h' => ?_) fun _ _ x => x)
  refine sx_at ?_
  refine sx_yieldG hfs hgd hfg fun p => h' p _ _ _ fun A s'' P' x => ?_
  exact x
/-- behind an own loop -/
def ownK (env : Env) (K : Flow → Sem Fin) (H : Value → Sem Fin) (gd : Bool → Bool) (lv : List Value → List Value) : Result → Sem Fin := fun r => ((match r with | .ok f => (.pure f : Sem Flow) | .error e => .raise e).onRaise fun (x : Value) => do
        if (← field x 1) == Value.none then unsupported "frame.own-activation:exception-without-traceback"
        setFlight x env.frame).wrap K H gd lv
theorem sx_own {code : Code} (h : ∀ p, SX prog w A code ((model prog w).den code) (.ret (ownK env K H gd lv) none (gd false) (lv []) c p [] :: fs) s P) : SX prog w A c ((runOwn code env).wrap K H gd lv) fs s P :=
  s_call prog w A c fs P s code none (gd false) (lv []) _ h
theorem sx_while {test : Expr} {body orelse : List Stmt} {pos : Pos} (h : ∀ p, SX prog w A (.whileLoop test body orelse env) ((model prog w).den (.whileLoop test body orelse env)) (.ret (ownK env K H gd lv) none (gd false) (lv []) c p [] :: fs) s P) :
    SX prog w A c ((exec (.While test body orelse pos) env).wrap K H gd lv) fs s P := sx_at (sx_own h)
theorem sx_for {target iter : Expr} {body orelse : List Stmt} {pos : Pos} (hs : ∀ x, foldedSetIterable iter env x = pure x)
    (h : wpAny (model prog w) (A.over c fs) (eval iter env) (fun x s₁ => wpAny (model prog w) (A.over c fs) (pyIter x) (fun it s₂ => ∀ p, SX prog w A (.forLoop target it body orelse env) ((model prog w).den (.forLoop target it body orelse env)) (.ret (ownK env K H gd lv) none (gd false) (lv []) c p [] :: fs) s₂ P)
      (fun x s' => SX prog w A c (H x) fs s' P) s₁) (fun x s' => SX prog w A c (H x) fs s' P) s) :
    SX prog w A c ((exec (.For target iter body orelse pos) env).wrap K H gd lv) fs s P := by
  rw [exec_For]
  refine sx_bind (wpAny_standAt (sx_bind (wpAny_mono h (fun x s₁ h₁ => ?_) fun _ _ q => q)))
  refine sx_bind (wpAny_of_eq (hs x) (sx_bind (wpAny_standAt (sx_bind (wpAny_holding (wpAny_mono h₁ (fun it s₂ h₂ => sx_own h₂) fun _ _ q => q))))))
/-- within a loop -/
def loopK (code : Code) : Flow → Sem Fin := fun f => match f with
  | .next | .cont => .pure (.again code)
  | .brk => .pure (.done .next)
  | .ret v => .pure (.done (.ret v))
def loopH (env : Env) : Value → Sem Fin := fun e => (do noteFrame e env; theTreesLotGoes e : Sem Unit).wrap (fun _ => .raise e) .raise id id
theorem sx_forLoop {target : Expr} {it : Value} {body orelse : List Stmt} (ht : ∀ v, letOwnedTupleGo target it v = pure ())
    (h : wpAny (model prog w) (A.over (.forLoop target it body orelse env) fs) (pyNext it) (fun r s₁ => match r with
      | none => SX prog w A (.block orelse env) ((model prog w).den (.block orelse env)) fs s₁ P
      | some v => wpAny (model prog w) (A.over (.forLoop target it body orelse env) fs) (assign target env v) (fun _ s₂ => SX prog w A (.forLoop target it body orelse env) ((execs body env).wrap (loopK (.forLoop target it body orelse env)) (loopH env) id id) fs s₂ P)
        (fun x s' => SX prog w A (.forLoop target it body orelse env) (loopH env x) fs s' P) s₁) (fun x s' => SX prog w A (.forLoop target it body orelse env) (loopH env x) fs s' P) s) :
    SX prog w A (.forLoop target it body orelse env) ((model prog w).den (.forLoop target it body orelse env)) fs s P := by
  show SX prog w A _ ((forTurn target it body orelse env).onRaise (fun x => do noteFrame x env; theTreesLotGoes x)) fs s P
  rw [Sem.onRaise_eq_wrap]
  unfold forTurn
  have eH : (fun e => (do noteFrame e env; theTreesLotGoes e : Sem Unit).bind fun _ => (.raise e : Sem Fin)) = loopH env := by
    funext e; rw [Sem.bind_eq_wrap]; rfl
  refine sx_bind (wpAny_standAt (sx_bind (wpAny_onRaise (wpAny_mono h (fun r s₁ h₁ => ?_) fun x s₁ q => wpAny_standAt ?_))))
  · cases r with
    | none => exact s_again prog w A _ fs P s₁ _ rfl h₁
    | some v =>
      refine sx_bind (wpAny_of_eq (ht v) (sx_bind (wpAny_mono h₁ (fun _ s₂ h₂ => ?_) fun x s' q => ?_)))
      · rw [wrap_bind]
        rw [Sem.wrap_congr (execs body env) _ _ (K' := loopK (.forLoop target it body orelse env)) (H' := loopH env) (fun f => by cases f <;> rfl) (fun e => congrFun eH e)]
        exact h₂
      · exact (congrFun eH x) ▸ q
  · exact (congrFun eH x) ▸ q
theorem sx_whileLoop {test : Expr} {body orelse : List Stmt}
    (h : wpAny (model prog w) (A.over (.whileLoop test body orelse env) fs) (isTrue test env (eval test env)) (fun b s' =>
        if b = true then SX prog w A (.whileLoop test body orelse env) ((execs body env).wrap (loopK (.whileLoop test body orelse env)) (loopH env) id id) fs s' P
        else SX prog w A (.whileLoop test body orelse env) ((execs orelse env).wrap (fun f => .pure (.done f)) (loopH env) id id) fs s' P)
      (fun x s' => SX prog w A (.whileLoop test body orelse env) (loopH env x) fs s' P) s) :
    SX prog w A (.whileLoop test body orelse env) ((model prog w).den (.whileLoop test body orelse env)) fs s P := by
  show SX prog w A _ ((whileTurn test body orelse env).onRaise (fun x => do noteFrame x env; theTreesLotGoes x)) fs s P
  rw [Sem.onRaise_eq_wrap]
  unfold whileTurn
  have eH : (fun e => (do noteFrame e env; theTreesLotGoes e : Sem Unit).bind fun _ => (.raise e : Sem Fin)) = loopH env := by
    funext e; rw [Sem.bind_eq_wrap]; rfl
  refine sx_bind (wpAny_mono h (fun b s' q => ?_) fun x s' q => ?_)
  · cases b with
    | true =>
      rw [if_pos rfl] at q ⊢
      rw [wrap_bind]
      rw [Sem.wrap_congr (execs body env) _ _ (K' := loopK (.whileLoop test body orelse env)) (H' := loopH env) (fun f => by cases f <;> rfl) (fun e => congrFun eH e)]
      exact q
    | false =>
      rw [if_neg Bool.false_ne_true] at q ⊢
      rw [wrap_bind]
      rw [Sem.wrap_congr (execs orelse env) _ _ (K' := fun f => (.pure (.done f) : Sem Fin)) (H' := loopH env) (fun f => by rfl) (fun e => congrFun eH e)]
      exact q
  · exact (congrFun eH x) ▸ q
def funcK : Flow → Sem Fin := fun f => .pure (.done (.ret (match f with | .ret v => v | _ => .none)))
def funcH (env : Env) : Value → Sem Fin := fun e => (leaving env e).wrap (fun _ => .raise e) .raise id id
theorem sx_func {body : List Stmt} (h : SX prog w A (.func body env) ((execs body env).wrap funcK (funcH env) id id) fs s P) : SX prog w A (.func body env) ((model prog w).den (.func body env)) fs s P := by
  show SX prog w A _ (.point [] fun _ => ((execs body env).onRaise (leaving env)) >>= _) fs s P
  refine sx_point ?_
  rw [Sem.onRaise_eq_wrap, Sem.bind_eq_wrap', Sem.wrap_wrap]
  rw [Sem.wrap_congr (execs body env) _ _ (K' := funcK) (H' := funcH env) (fun f => by cases f <;> rfl) (fun e => by rw [Sem.bind_eq_wrap, Sem.wrap_wrap]; rfl)]
  exact h
/-- an own loop is done -/
theorem sx_done {f : Flow} {k : Result → Sem Fin} {hd : Option Value} {g : Bool} {l : List Value} {c₁ : Code} {p₁ : Pos} {kp} (h : SX prog w A c₁ (k (.ok f)) fs s P) : SX prog w A c (.pure (.done f)) (.ret k hd g l c₁ p₁ kp :: fs) s P :=
  s_pop prog w A c fs P s (.ok f) _ rfl k hd g l c₁ p₁ kp h
theorem ownK_ok {f : Flow} : ownK env K H gd lv (.ok f) = K f := rfl
theorem sx_block0 {k : Result → Sem Fin} {hd : Option Value} {g : Bool} {l : List Value} {c₁ : Code} {p₁ : Pos} {kp} (h : SX prog w A c₁ (k (.ok .next)) fs s P) : SX prog w A (.block [] env) ((model prog w).den (.block [] env)) (.ret k hd g l c₁ p₁ kp :: fs) s P :=
  s_pop prog w A _ fs P s (.ok .next) _ rfl k hd g l c₁ p₁ kp h
theorem sx_ret {f : Flow} (h : P (.ret (.ok f)) s) : SX prog w A c (.pure (.done f)) [] s P := s_end prog w A c P s (.ok f) _ rfl h
end
end Mine
end

section
open PySem PySem.W PyProof.Rows
namespace Mine
open PySem.W.X
/-- where a sleeping generator goes on -/
def Wakes (prog : Program) (w : World) (gs : GenState) (c₀ : Code) (t₀ : Sem Fin) (fs₀ : List Frame) : Prop :=
  (gs = .fresh c₀ ∧ t₀ = (model prog w).den c₀ ∧ fs₀ = []) ∨ (∃ k₀ l₀ p₀ cl, gs = .suspended k₀ l₀ c₀ p₀ fs₀ cl ∧ t₀ = k₀ (.send .none))
section
variable {prog : Program} {w : World} {A : Around} {E : Value → Shared → Prop} {s : Shared}
theorem monoQ {M : Model} {A : Around} {c : Code} {t : Sem Fin} {fs : List Frame} {s : Shared} {P P' : End → Shared → Prop} (x : SegX M A c t fs s P) (h : ∀ e s', e.genState.bare = true → P e s' → P' e s') : SegX M A c t fs s P' := fun Γ p hc hΓ => by
  obtain ⟨e, s', hr, hq, hp⟩ := x Γ p hc hΓ
  exact ⟨e, s', hr, hq, h e s' (End.bare_of_quiet hq) hp⟩
theorem resumeX {α : Type} {Q : α → Shared → Prop} {g : Nat} {gs : GenState} {l : List Value} {k : GenResult → Sem α} {c₀ : Code} {t₀ : Sem Fin} {fs₀ : List Frame} (hg : s.gens[g]? = some gs) (hw : Mine.Wakes prog w gs c₀ t₀ fs₀)
    (x : SX prog w A c₀ t₀ fs₀ (s.setGen g .running) (fun e s₁ => e.genState.bare = true → wpAny (model prog w) A (k e.result) Q E (s₁.setGen g e.genState))) : wpAny (model prog w) A (.resume g (.send .none) l k) Q E s := fun Γ p hΓ =>
  wake_any α prog w (r := .send .none) hg (by rcases hw with ⟨a, b, c⟩ | ⟨k₀, l₀, p₀, cl, a, b⟩
                                              · exact .inl ⟨a, rfl, b, c⟩
                                              · exact .inr ⟨k₀, l₀, p₀, cl, a, b⟩) (fun Γ => Γ.In A) (fun _ h => h) (monoQ x fun _ _ hb h Γ p hC => h hb Γ p hC) Γ p hΓ

theorem gen_next {a : Addr} {g : Nat} {gs : GenState} {c₀ : Code} {t₀ : Sem Fin} {fs₀ : List Frame} {Q : Option Value → Shared → Prop} (hh : A.handled = none) (hl : s.heap.NoLimit) (hroom : A.depth < recursionLimit) (hg : s.heap.IsGen a g) (hgs : s.gens[g]? = some gs)
    (hw : Mine.Wakes prog w gs c₀ t₀ fs₀)
    (x : SX prog w A.in1 c₀ t₀ fs₀ (s.setGen g .running) (fun e s₁ => e.genState.bare = true → match e with
      | .ret (.ok f) => (match f with | .ret v => v | _ => .none) = .none ∧ ∀ h', Kp s₁.heap h' → Q none { s₁.setGen g .finished with heap := h' }
      | .ret (.error _) => False
      | .susp v g' l k c p fs => Q (some v) (s₁.setGen g (End.susp v g' l k c p fs).genState))) :
    wpAny (model prog w) A (pyNext (.ref a)) Q E s := by
  unfold pyNext
  refine wpAny_bind (wpAny_attempt (wpAny_callSpecial?_slot (name := Str.ofString "__next__") hg.typeIs slot_gen_next
    (wpAny_call_entry slot_gen_next hg.typeIs entry_gen_next ?_ (args_gen_next _))))
  show wpAny _ _ (Builtin.Generator.genWake (.ref a) (.send .none)) _ _ s
  unfold Builtin.Generator.genWake
  refine wpAny_bind (wpAny_holding (wpAny_genNumber hg (wpAny_bind (wpAny_genState hgs ?_))))
  cases gs with
  | running => rcases hw with ⟨a, _⟩ | ⟨_, _, _, _, a, _⟩ <;> cases a
  | finished => rcases hw with ⟨a, _⟩ | ⟨_, _, _, _, a, _⟩ <;> cases a
  | _ =>
    refine wpAny_bind (wpAny_roomToWake hl hroom ?_)
    show wpAny _ _ (.resume g (.send .none) [] _) _ _ s
    refine resumeX hgs hw (SegX.mono x fun e s₁ he₀ hb => ?_)
    have he := he₀ hb
    cases e with
    | ret r =>
      cases r with
      | error e => exact he.elim
      | ok f =>
        obtain ⟨hv, hq⟩ := he
        have er : (End.ret (.ok f)).result = .returned .none := by cases f <;> first | rfl | exact congrArg GenResult.returned hv
        rw [er]
        show wpAny _ _ (newExc (.type "StopIteration") [] >>= _) _ _ _
        refine wpAny_bind ?_
        simp only [newExc, newTuple]
        refine wpAny_bind (wpAny_newObj_type ?_ (by size_fits))
        refine wpAny_bind (m := firstArgMember _ _) (wpAny_of_eq (a := Value.none) (by first | rfl | (simp only [firstArgMember]; rfl)) ?_)
        refine wpAny_newObj_type ?_ (by size_fits)
        simp only [raiseNew]
        refine wpAny_bind (wpAny_bind (wpAny_handled ?_))
        rw [show A.in1.handled = none from hh]
        refine wpAny_throw ?_
        refine wpAny_bind (wpAny_isInstance (T := "StopIteration") (b := true) ⟨_, Heap.get?_push_size _ rfl, rfl⟩ isSubtype_stop ?_)
        exact wpAny_pure (hq _ fun b o hb => Heap.get?_push_of_some _ (Heap.get?_push_of_some _ hb))
    | susp v g' l k c p fs => exact wpAny_pure ⟨v, rfl, wpAny_pure he⟩
end
end Mine
end

section
open PySem PySem.W PyProof.Rows
namespace Mine
open PySem.W.X
/-- the generator function's data -/
noncomputable def fdG (w : World) : FuncData := match (KF w).lookup 21 with
  | some ⟨_, _, .func fd, _⟩ => fd
  | _ => default
noncomputable def bodyG (w : World) : List Stmt := match (fdG w).body with
  | .stmts b => b
  | _ => []
/-- the call makes a sleeping generator -/
theorem gen_make {w : World} {A : Around} {s : Shared} {Q : Value → Shared → Prop} {E : Value → Shared → Prop} {v : Value} (T : Tp w s.heap) (hd : A.depth < recursionLimit)
    (k : ∀ h' tk a, Kp s.heap h' → s.heap.get? a = none → h'.IsGen a s.gens.size → h'.Ns s.heap.objs.size (fun x => [(("grouping" : Str), v)].lookup x) → a ≠ s.heap.objs.size →
      Q (.ref a) { s with heap := h', toks := tk, gens := s.gens.push (.fresh (.func (bodyG w) (callEnv (fdG w) s.heap.objs.size 21))) }) :
    wpAny (model pr w) A (call (.ref 21) [v] []) Q E s := by
  refine wpAny_call (codeAny_call_generator hd (T.k 21 _ rfl) rfl rfl rfl rfl (code_rec T rfl rfl) ?_)
  refine BindsTo.of_eq (binds := [(("grouping" : Str), v)]) rfl _ _ _ _ ?_
  refine wpAny_newFunctionEnv (nocell rfl) (locs rfl) (fun h₀ hns hsb => ⟨T.nolimit.fresh _ hsb, ?_⟩) rfl
  have k₀ : Kp s.heap h₀ := fun b o e => hsb.extBut b o (Nat.ne_of_lt (Heap.lt_size e)) (Heap.get?_push_of_some _ e)
  refine k _ _ h₀.objs.size (k₀.trans (Kp.push _ _)) (fresh_of k₀) ⟨_, _, _, Heap.get?_push_size _ rfl, rfl, rfl, rfl⟩ (hns.keeps (Kp.push _ _)) ?_
  obtain ⟨o, es, ep, e, _⟩ := hns
  exact Nat.ne_of_gt (Heap.lt_size e)
end Mine
end

section
open PySem PySem.W PyProof.Rows
namespace Mine
open PySem.W.X
inductive Sg where
  | head (j : Nat) (last : Option Int)
  | whl (v : Int)
def nextOut (ns : List Int) : Sg → Option (Int × Sg)
  | .head j last => match ns[j]? with
    | none => none
    | some x => if x = 127 then none else if x = 0 then (match last with | none => none | some v => some (v, .whl v)) else some (x, .head (j + 1) (some x))
  | .whl v => some (v, .whl v)
/-- the generator does not raise from here -/
def Calm (ns : List Int) : Sg → Prop
  | .head j last => ns[j]? = some 0 → last ≠ none
  | .whl _ => True
noncomputable def ge (w : World) (L : Addr) : Env := callEnv (fdG w) L 21
noncomputable def forParts (w : World) : Expr × List Stmt := match bodyG w with
  | [_, .For t _ b _ _] => (t, b)
  | _ => (.Name "x" ⟨0, 0, 0, 0⟩, [])
theorem St.ofNs {s : Shared} {env : Env} {m : Str → Option Value} (hn : s.heap.Ns env.locals m) : St s.gens (s.os, s.drawn) (hideAll s.heap [env.locals]) env [] m (fun _ => none) [] s where
  gens := rfl
  os := rfl
  keep := fun b o e => of_hideAll _ e
  ns := hn
  offL := hideAll_none _ (List.mem_singleton.mpr rfl)
  cell := by intro _ _ h; cases h
  offC := by intro _ _ h; cases h
  apart := .nil
  luk := by intro _ _ h; cases h
  own := fun _ h => nomatch h
  nd := List.nodup_nil
/-- what the sleeping generator's heap holds -/
def HC (L I l : Addr) (vs : List Value) : Sg → Heap → Prop
  | .head j last, h => ∃ m x t, h.Ns L m ∧ m "interval" = some (.int x t) ∧ last = some x ∧ h.IsListIter I l j ∧ h.IsList l vs.toArray
  | .whl v, h => ∃ m t, h.Ns L m ∧ m "last_interval" = some (.int v t) ∧ ∃ o, h.get? I = some o
def But (ow : List Addr) (h h' : Heap) : Prop := ∀ b o, b ∉ ow → h.get? b = some o → h'.get? b = some o
/-- ready for n wakings -/
def Rdy (w : World) (L I l : Addr) (vs : List Value) (ns : List Int) : Nat → Sg → GenState → Prop
  | 0, _, _ => True
  | n + 1, σ, gs => ∃ c₀ t₀ fs₀, Mine.Wakes pr w gs c₀ t₀ fs₀ ∧ ∀ (A : Around) (s : Shared) (P : End → Shared → Prop), A.handled = none → A.depth + 10 < recursionLimit → Tp w (hideAll s.heap [L, I]) → HC L I l vs σ s.heap →
      (∀ e s', But [L, I] s.heap s'.heap → s'.gens = s.gens → (s'.os, s'.drawn) = (s.os, s.drawn) → (match nextOut ns σ with
        | none => e = .ret (.ok (.ret .none))
        | some (v, σ') => (∃ t g l k c p fs, e = .susp (.int v t) g l k c p fs) ∧ HC L I l vs σ' s'.heap ∧ Rdy w L I l vs ns n σ' e.genState) → P e s') → SX pr w A c₀ t₀ fs₀ s P
theorem g_charmax {w : World} : ∃ t, mgOf w "CHAR_MAX" = some (.int 127 t) := ⟨_, rfl⟩
noncomputable abbrev codeF (w : World) (L I : Addr) : Code := .forLoop (forParts w).1 (.ref I) (forParts w).2 [] (ge w L)
noncomputable abbrev bodyK (w : World) (L : Addr) : Flow → Sem Fin := fun f => match f with | .next => (execs [] (ge w L)).wrap funcK (funcH (ge w L)) id id | f => funcK f
noncomputable abbrev frF (w : World) (L : Addr) (p : Pos) : List Frame := [.ret (ownK (ge w L) (bodyK w L) (funcH (ge w L)) id id) none (id false) (id []) (.func (bodyG w) (ge w L)) p []]
def lastV : Option Int → Option Value → Prop
  | none, v => v = some .none
  | some x, v => ∃ t, v = some (.int x t)
theorem whl_go {w : World} {L I l : Addr} {vs : List Value} {ns : List Int} {v : Int} {pt py pv pe : Pos} {k0 : Nat} (hIL : I ≠ L) : ∀ (n : Nat) (A : Around) (s : Shared) (P : End → Shared → Prop) (fs : List Frame) (m : Str → Option Value) (t : Tok),
    splitAtGen fs = none → fs.any Frame.guarded = false → s.heap.Ns L m → m "last_interval" = some (.int v t) → (∃ o, s.heap.get? I = some o) →
    (∀ e s', But [L, I] s.heap s'.heap → s'.gens = s.gens → (s'.os, s'.drawn) = (s.os, s.drawn) → ((∃ t g l k c p fs, e = .susp (.int v t) g l k c p fs) ∧ HC L I l vs (.whl v) s'.heap ∧ Rdy w L I l vs ns n (.whl v) e.genState) → P e s') →
    SX pr w A (.whileLoop (.Constant (.bool true) k0 pt) [.Expr (.Yield (some (.Name "last_interval" pv)) py) pe] [] (ge w L)) ((model pr w).den (.whileLoop (.Constant (.bool true) k0 pt) [.Expr (.Yield (some (.Name "last_interval" pv)) py) pe] [] (ge w L))) fs s P := by
  intro n
  induction n using Nat.strongRecOn with
  | ind n ih =>
    intro A s P fs m t hf hg hns hv hI post
    have S := St.ofNs (env := ge w L) hns
    refine sx_whileLoop (S.pv (R := Eb true) ?_ fun b s₁ r k₁ S₁ => ?_)
    · exact fun s Q E ks q => isTrue_plain (Pv.cbool s _ E ks fun v h' tk k r => by obtain rfl := r; exact wpAny_truthy_bool (q _ h' tk k rfl)) rfl
    obtain rfl := r
    rw [if_pos rfl]
    refine sx_cons (sx_yield hf rfl hg (S₁.pv (.name (S₁.loc hv)) fun v' s₂ r k₂ S₂ => ?_))
    obtain rfl := r
    intro p' l' k' g' wake
    refine post _ _ (fun b o hb e => S₂.keep _ _ (hideAll_get _ e fun q => hb (by simp [show b = L from List.mem_singleton.mp q]))) S₂.gens S₂.os ⟨⟨_, _, _, _, _, _, _, rfl⟩, ⟨_, t, S₂.ns, hv, (let ⟨o, e⟩ := hI; ⟨o, S₂.keep _ _ (hideAll_get _ e fun q => hIL (List.mem_singleton.mp q))⟩)⟩, ?_⟩
    cases n with
    | zero => trivial
    | succ n' =>
      refine ⟨_, k' (.send .none), fs, .inr ⟨_, _, _, _, rfl, rfl⟩, fun A s P hh hd T hcc post => ?_⟩
      obtain ⟨m, t', hns, hv', hI'⟩ := hcc
      exact wake A s P (sx_nil (s_again _ _ _ _ _ _ _ _ rfl (ih n' (by omega) A s P fs m t' hf hg hns hv' hI' fun e s' b g o q => post e s' b g o q)))
theorem head_go {w : World} {L I l : Addr} {vs : List Value} {ns : List Int} (hi : IntsAre vs ns) (hLI : L ≠ I) (hlI : l ≠ I) (hlL : l ≠ L) : ∀ (n j : Nat) (last : Option Int) (A : Around) (s : Shared) (P : End → Shared → Prop) (p : Pos) (m : Str → Option Value),
    Calm ns (.head j last) → A.handled = none → A.depth + 10 < recursionLimit → Tp w (hideAll s.heap [L, I]) → s.heap.Ns L m → lastV last (m "last_interval") → s.heap.IsListIter I l j → s.heap.IsList l vs.toArray →
    (∀ e s', But [L, I] s.heap s'.heap → s'.gens = s.gens → (s'.os, s'.drawn) = (s.os, s.drawn) → (match nextOut ns (.head j last) with
        | none => e = .ret (.ok (.ret .none))
        | some (v, σ') => (∃ t g l k c p fs, e = .susp (.int v t) g l k c p fs) ∧ HC L I l vs σ' s'.heap ∧ Rdy w L I l vs ns n σ' e.genState) → P e s') →
    SX pr w A (codeF w L I) ((model pr w).den (codeF w L I)) (frF w L p) s P := by
  intro n
  induction n using Nat.strongRecOn with
  | ind n ih =>
    intro j last A s P p m hc hh hd T hns hlast hit hl post
    refine sx_forLoop (fun _ => rfl) ?_
    cases hj : ns[j]? with
    | none =>
      have hend : vs.toArray[j]? = none := by
        rw [List.getElem?_toArray]
        have := hi.length
        rw [List.getElem?_eq_none_iff] at hj ⊢; omega
      refine wpAny_pyNext_list_end (by exact hh) hit hl hend fun h₁ he => ?_
      refine sx_block0 (sx_nil (env := ge w L) (K := funcK) (H := funcH (ge w L)) (gd := id) (lv := id) (sx_ret ?_))
      refine post _ _ (fun b o hb e => he b o (fun q => hb (by simp [q])) e) rfl rfl ?_
      simp only [nextOut, hj]
    | some x =>
      obtain ⟨tx, hx⟩ := IntsAre.at? hi hj
      refine wpAny_pyNext_list_item hit hl (x := .int x tx) (by simpa using hx) fun h₁ hit₁ hs₁ => ?_
      have hns₁ : h₁.Ns L m := hns.sameBut hs₁ hLI
      have S₁ := St.ofNs (s := { s with heap := h₁ }) (env := ge w L) hns₁
      have T₁ : Tp w (hideAll h₁ [L]) := T.up fun b o e => by
        have hb : b ∉ [L, I] := fun hb => by rw [hideAll_none [L, I] hb] at e; cases e
        exact hideAll_get [L] ((hs₁.2 b fun q => hb (by simp [q])).trans (of_hideAll _ e)) fun q => hb (by simp [List.mem_singleton.mp q])
      refine S₁.asg fun s₂ S₂ => ?_
      have T₂ : Tp w s₂.heap := T₁.up S₂.keep
      obtain ⟨tc, gc⟩ := g_charmax (w := w)
      refine sx_cons (sx_if (S₂.pv (.teq (.nameI (S₂.loc rfl)) (.nameI (.glob T₂ gc))) fun b s₃ r k₃ S₃ => ?_))
      obtain rfl := r
      have but : ∀ {s' : Shared}, Kp (hideAll h₁ [L]) s'.heap → But [L, I] s.heap s'.heap := fun kk b o hb e => kk b o (hideAll_get [L] ((hs₁.2 b fun q => hb (by simp [q])).trans e) fun q => hb (by simp [List.mem_singleton.mp q]))
      by_cases h127 : x = 127
      · rw [if_pos (by simp [h127])]
        refine sx_cons (sx_wrap (wpAny_Return_none ?_))
        refine sx_done (sx_ret ?_)
        refine post _ _ (but S₃.keep) S₃.gens S₃.os ?_
        simp only [nextOut, hj, h127, if_true]
      rw [if_neg (by simp [h127])]
      refine sx_nil ?_
      refine sx_cons (sx_if (S₃.pv (.teq (.nameI (S₃.loc rfl)) .cint) fun b s₄ r k₄ S₄ => ?_))
      obtain rfl := r
      by_cases h0 : x = 0
      · rw [if_pos (by simp [h0])]
        have hne := hc (by rw [hj, h0])
        cases last with
        | none => exact absurd rfl hne
        | some v =>
          obtain ⟨tv, hv⟩ := hlast
          refine sx_cons (sx_if (S₄.pv (.tisNone (.name (S₄.loc (v := .int v tv) hv))) fun b s₅ r k₅ S₅ => ?_))
          obtain rfl := r
          rw [if_neg (show ¬ ((Value.int v tv == Value.none) = true) from Bool.false_ne_true)]
          have hI₅ : ∃ o, s₅.heap.get? I = some o := by
            obtain ⟨o, e, r⟩ := hit₁
            exact ⟨o, S₅.keep _ _ (hideAll_get [L] e fun q => hLI (List.mem_singleton.mp q).symm)⟩
          refine sx_nil (sx_cons (sx_while fun p' => whl_go (I := I) (l := l) (vs := vs) (ns := ns) (Ne.symm hLI) n A s₅ P _ _ tv rfl rfl S₅.ns hv hI₅ fun e s' b g o q => ?_))
          refine post e s' (fun b' o' hb e' => b b' o' hb (but S₅.keep b' o' hb e')) (g.trans S₅.gens) (o.trans S₅.os) ?_
          have nb : nextOut ns (.head j (some v)) = some (v, .whl v) := by simp [nextOut, hj, h0]
          rw [nb]; exact q
      rw [if_neg (by simp [h0])]
      refine sx_nil ?_
      refine sx_cons (sx_yield rfl rfl rfl (S₄.pv (.name (S₄.loc rfl)) fun v s₅ r k₅ S₅ => ?_))
      obtain rfl := r
      intro p' l' k' g' wake
      have nb : nextOut ns (.head j last) = some (x, .head (j + 1) (some x)) := by simp only [nextOut, hj, h127, h0, if_false]
      have hit₅ : s₅.heap.IsListIter I l (j + 1) := by
        obtain ⟨o, e, r⟩ := hit₁
        exact ⟨o, S₅.keep _ _ (hideAll_get [L] e fun q => hLI (List.mem_singleton.mp q).symm), r⟩
      have hl₅ : s₅.heap.IsList l vs.toArray := by
        obtain ⟨o, e, r⟩ := hl
        exact ⟨o, S₅.keep _ _ (hideAll_get [L] ((hs₁.2 l hlI).trans e) fun q => hlL (List.mem_singleton.mp q)), r⟩
      refine post _ _ (but S₅.keep) S₅.gens S₅.os ?_
      rw [nb]
      refine ⟨⟨_, _, _, _, _, _, _, rfl⟩, ⟨_, x, tx, S₅.ns, rfl, rfl, hit₅, hl₅⟩, ?_⟩
      cases n with
      | zero => trivial
      | succ n' =>
        refine ⟨codeF w L I, k' (.send .none), frF w L p, .inr ⟨_, _, _, _, rfl, rfl⟩, fun A s P hh hd T hcc post => ?_⟩
        obtain ⟨m, x', t', hns, hx', ⟨⟩, hit, hl⟩ := hcc
        have S := St.ofNs (env := ge w L) hns
        refine wake A s P (sx_cons (sx_wrap (x_set S (.name (S.loc hx')) fun v s₁ s₂ r k S₂ => ?_)))
        obtain rfl := r
        refine sx_nil (s_again _ _ _ _ _ _ _ _ rfl (ih n' (by omega) (j + 1) (some x) A s₂ P p _ (fun _ q => by cases q) hh hd ?_ S₂.ns ⟨t', rfl⟩ ?_ ?_ fun e s' b g o q => post e s' ?_ (g.trans S₂.gens) (o.trans S₂.os) q))
        · exact T.up fun b o e => by
            have hb : b ∉ [L, I] := fun hb => by rw [hideAll_none [L, I] hb] at e; cases e
            exact hideAll_get _ (S₂.keep _ _ (hideAll_get _ (of_hideAll _ e) fun q => hb (by simp [show b = L from List.mem_singleton.mp q]))) hb
        · obtain ⟨o, e, r⟩ := hit
          exact ⟨o, S₂.keep _ _ (hideAll_get _ e fun q => hLI (show I = L from List.mem_singleton.mp q).symm), r⟩
        · obtain ⟨o, e, r⟩ := hl
          exact ⟨o, S₂.keep _ _ (hideAll_get _ e fun q => hlL (show l = L from List.mem_singleton.mp q)), r⟩
        · exact fun b' o hb e => b b' o hb (S₂.keep _ _ (hideAll_get _ e fun q => hb (by simp [show b' = L from List.mem_singleton.mp q])))
end Mine
end

section
open PySem PySem.W PyProof.Rows
namespace Mine
section
variable {prog : Program} {w : World} {A : Around} {E : Value → Shared → Prop} {G : Array GenState} {O : OsState × Drawn} {g g' h : Heap} {env cenv : Env} {cs : List (Str × Addr)} {m cm : Str → Option Value} {led : Led} {s : Shared}

/-- the tests of a comprehension -/
abbrev tests (ifs : List Expr) (env : Env) : Sem Bool := forIn ifs true fun c r => if r = true then do let ok ← isTrue c env (eval c env); pure (ForInStep.yield ok) else pure (ForInStep.yield r)

theorem loopComp {elt target iter : Expr} {ifs : List Expr} {scope : Scope} {pos : Pos} {I D : Addr} {fp wr : List Addr} {n : Nat} {P : Nat → Value → Heap → Prop} {Sx : Nat → Heap → Prop} {R : Result → Shared → Prop}
    (W : Itr prog w A target I fp wr n P Sx) (J : Nat → List Value → Led → Prop) (S : St G O g cenv cs m cm [(D, lst [] 0)] s) (hJ : J 0 [] []) (hx : Sx 0 s.heap)
    (hfp : ∀ b ∈ fp, b ∉ owns cenv cs [(D, lst [] 0)]) (hwr : ∀ b ∈ wr, g.get? b = none) (hsz : n ≤ 1000000)
    (turn : ∀ i v ys nn m cm led g' s, i < n → P i v s.heap → J i ys led → Kp g g' → St G O g' cenv cs m cm ((D, lst ys nn) :: led) s →
      wpAny (model prog w) A (assign target cenv v) (fun _ s₂ => wpAny (model prog w) A (tests ifs cenv) (fun ok s₃ =>
        if ok = true then wpAny (model prog w) A (eval elt cenv) (fun y s₄ => ∃ m' cm' led', J (i + 1) (ys ++ [y]) led' ∧ St G O g' cenv cs m' cm' ((D, lst ys nn) :: led') s₄) (fun _ _ => False) s₃
        else ∃ m' cm' led', J (i + 1) ys led' ∧ St G O g' cenv cs m' cm' ((D, lst ys nn) :: led') s₃) (fun _ _ => False) s₂) (fun _ _ => False) s)
    (fin : ∀ ys nn m cm led s, J n ys led → St G O g cenv cs m cm ((D, lst ys nn) :: led) s → R (.ok .next) s) :
    codeAny (model prog w) A (.compLoop (.ListComp elt [⟨target, iter, ifs, 0⟩] scope pos) 0 (.ref I) (.ref D) cenv) R s := by
  refine codeAny_loop rfl (fun k s => ∃ i ys nn m cm led, k = n - i ∧ i ≤ n ∧ ys.length ≤ i ∧ J i ys led ∧ St G O g cenv cs m cm ((D, lst ys nn) :: led) s ∧ Sx i s.heap ∧ ∀ b ∈ fp, b ∉ owns cenv cs ((D, lst ys nn) :: led)) ?_ n ⟨0, [], 0, m, cm, [], by lia, Nat.zero_le _, Nat.le_refl _, hJ, S, hx, hfp⟩
  rintro k s₀ ⟨i, ys, nn, m₀, cm₀, led₀, rfl, hi, hyl, hJ₀, S₀, hx₀, hf₀⟩
  show wpAny _ A ((compTurn (.ListComp elt [⟨target, iter, ifs, 0⟩] scope pos) 0 (.ref I) (.ref D) cenv).onRaise (fun x => do noteFrame x cenv; theTreesLotGoes x)) _ _ s₀
  refine wpAny_noted ?_
  rw [compTurn_list]
  refine wpAny_bind (wpAny_standAt (wpAny_bind ?_))
  have hW : ∀ b ∈ wr, g.get? b = none ∧ b ∉ owns cenv cs ((D, lst ys nn) :: led₀) := fun b hb => ⟨hwr b hb, hf₀ b (W.sub b hb)⟩
  by_cases hlt : i < n
  · refine wpAny_mono (W.step i s₀ (fun v s₁ => wpAny (model prog w) A (assign target cenv v) (fun _ s₂ => wpAny (model prog w) A (tests ifs cenv) (fun ok s₃ =>
        if ok = true then wpAny (model prog w) A (eval elt cenv) (fun y s₄ => wpAny (model prog w) A (call (.builtin "list.append") [.ref D, y]) (fun _ s₅ => ∃ m, m < n - i ∧ ∃ i ys nn m' cm led, m = n - i ∧ i ≤ n ∧ ys.length ≤ i ∧ J i ys led ∧ St G O g cenv cs m' cm ((D, lst ys nn) :: led) s₅ ∧ Sx i s₅.heap ∧ ∀ b ∈ fp, b ∉ owns cenv cs ((D, lst ys nn) :: led)) (fun _ _ => False) s₄) (fun _ _ => False) s₃
        else ∃ m, m < n - i ∧ ∃ i ys nn m' cm led, m = n - i ∧ i ≤ n ∧ ys.length ≤ i ∧ J i ys led ∧ St G O g cenv cs m' cm ((D, lst ys nn) :: led) s₃ ∧ Sx i s₃.heap ∧ ∀ b ∈ fp, b ∉ owns cenv cs ((D, lst ys nn) :: led)) (fun _ _ => False) s₂) (fun _ _ => False) s₁) (fun _ _ => False) hlt hx₀ fun v h' tk hp hx' kk => ?_) (fun r s₁ q => ?_) fun _ _ e => e.elim
    · have S₁ := S₀.other (h' := h') (tk := tk) wr hW kk
      have S₂ := S₁.rebase
      have nxt : ∀ {s₃ : Shared} {ys' nn' m' cm' led'}, ys'.length ≤ i + 1 → J (i + 1) ys' led' → St G O (frz h' cenv cs ((D, lst ys nn) :: led₀)) cenv cs m' cm' ((D, lst ys' nn') :: led') s₃ →
          ∃ m, m < n - i ∧ ∃ i ys nn m' cm led, m = n - i ∧ i ≤ n ∧ ys.length ≤ i ∧ J i ys led ∧ St G O g cenv cs m' cm ((D, lst ys nn) :: led) s₃ ∧ Sx i s₃.heap ∧ ∀ b ∈ fp, b ∉ owns cenv cs ((D, lst ys nn) :: led) := by
        intro s₃ ys' nn' m' cm' led' hl' hJ' S'
        have ing : ∀ b ∈ fp, ∀ o, h'.get? b = some o → (frz h' cenv cs ((D, lst ys nn) :: led₀)).get? b = some o := fun b hb o e => hideAll_get _ e (hf₀ b hb)
        refine ⟨n - (i + 1), by lia, i + 1, ys', nn', m', cm', led', rfl, by lia, hl', hJ', S'.low S₁.frzKp, W.frame _ _ _ hx' (fun b hb o e => S'.keep _ _ (ing b hb o e)), fun b hb => ?_⟩
        obtain ⟨o, e⟩ := W.live _ _ hx' b hb
        exact S'.offBase (ing b hb o e)
      refine wpAny_mono (turn i v ys nn m₀ cm₀ led₀ _ _ hlt hp hJ₀ S₁.frzKp S₂) (fun _ s₂ q => wpAny_mono q (fun ok s₃ q₃ => ?_) fun _ _ e => e.elim) fun _ _ e => e.elim
      cases ok with
      | false =>
        simp only [Bool.false_eq_true, if_false] at q₃ ⊢
        obtain ⟨m', cm', led', hJ', S'⟩ := q₃
        exact nxt (by lia) hJ' S'
      | true =>
        simp only [if_true] at q₃ ⊢
        refine wpAny_mono q₃ (fun y s₄ q₄ => ?_) fun _ _ e => e.elim
        obtain ⟨m', cm', led', hJ', S'⟩ := q₄
        refine append_at (S'.mem 0 rfl) (fun h₅ hs ho => ?_) (by rw [List.size_toArray, sizeLine_eq]; lia)
        rw [List.push_toArray] at ho
        exact nxt (by simp; lia) hJ' (S'.upd (s' := { s₄ with heap := h₅ }) 0 rfl hs ho S'.gens rfl)
    · obtain ⟨v, rfl, q'⟩ := q
      refine wpAny_bind (wpAny_mono q' (fun _ s₂ q₂ => ?_) fun _ _ e => e.elim)
      refine wpAny_bind (wpAny_mono q₂ (fun _ s₃ q₃ => wpAny_bind (wpAny_mono q₃ (fun ok s₄ q₄ => ?_) fun _ _ e => e.elim)) fun _ _ e => e.elim)
      cases ok with
      | false => exact wpAny_pure ⟨rfl, q₄⟩
      | true =>
        exact wpAny_bind (wpAny_bind (wpAny_mono q₄ (fun x s₅ h₅ => wpAny_bind (wpAny_mono h₅ (fun _ s₆ h₆ => wpAny_pure (wpAny_pure ⟨rfl, h₆⟩)) fun _ _ e => e.elim)) fun _ _ e => e.elim))
  · have : i = n := by lia
    subst this
    refine W.done s₀ _ _ hx₀ fun h' tk kk => wpAny_pure (fin _ _ _ _ _ _ hJ₀ (S₀.other wr hW kk))

noncomputable def compE (scope : Scope) (cl : List (Str × Addr)) (C : Addr) (env : Env) : Env :=
  { scope := relabel scope env, locals := C, globals := env.globals, cells := cellsFrom (C + 1) scope.names cl, qual := env.qual, func := none, code := env.code, frame := env.frame, builtins := env.builtins }

theorem newEnvComp {scope : Scope} {cl : List (Str × Addr)} {Q : Env → Shared → Prop} {s : Shared}
    (h : Q (newEnv scope s.heap.objs.size env.globals (cellsFrom (s.heap.objs.size + 1) scope.names cl) env.qual none .none (some env) env.builtins) { s with heap := pushCells (s.heap.push { cls := .type "dict", data := .dict #[] }) scope.names }) :
    wpAny (model prog w) A (newFunctionEnv scope env.globals cl [] env.qual none .none (some env)) Q E s := by
  simp only [newFunctionEnv, Option.isSome_some, if_true]
  refine wpAny_bind (wpAny_alloc (wpAny_bind ?_))
  refine wpAny_layCells _ (fun name kind cells => rfl) scope.names cl _ _ ?_
  refine wpAny_bind (wpAny_pure ?_)
  rw [Heap.size_push]
  exact wpAny_pure h
end
end Mine
end

section
open PySem PySem.W PyProof.Rows
namespace Mine
section
variable {prog : Program} {w : World} {A : Around} {E : Value → Shared → Prop} {G : Array GenState} {O : OsState × Drawn} {g g' h h₁ : Heap} {env cenv : Env} {cs : List (Str × Addr)} {m cm : Str → Option Value} {led : Led} {s : Shared}

/-- a value that a for or a comprehension goes over -/
def Src (prog : Program) (w : World) (A : Around) (target : Expr) (v : Value) (h : Heap) (n : Nat) (P : Nat → Value → Heap → Prop) : Prop :=
  ∀ (s : Shared) (E : Value → Shared → Prop) (Q : Value → Shared → Prop), Kp h s.heap →
    (∀ I fp wr Sx h' tk, Kp s.heap h' → Itr prog w A target I fp wr n P Sx → (∀ (s : Shared) (Q : Value → Shared → Prop) (E : Value → Shared → Prop), Sx 0 s.heap → Q (.ref I) s → wpAny (model prog w) A (pyIter (.ref I)) Q E s) → Sx 0 h' →
      (∀ b ∈ wr, s.heap.get? b = none) → (∀ b ∈ fp, b ∈ wr ∨ ∃ o, h.get? b = some o) → Q (.ref I) { s with heap := h', toks := tk }) → wpAny (model prog w) A (pyIter v) Q E s

theorem Src.range {x : Str} {px : Pos} {v : Value} {a b : Int} (hh : A.handled = none) (r : Rng a b v h) (ha : -1000000 ≤ a) (ha' : a ≤ 1000000) (hb : -1000000 ≤ b) (hb' : b ≤ 1000000) :
    Src prog w A (.Name x px) v h (b - a).toNat (fun i v _ => ∃ t, v = .int (a + i) t) := by
  intro s E Q ks q
  obtain ⟨r, t, u, w', rfl, hr⟩ := r
  have hr : IsRange s.heap r a b 1 t u w' := ks _ _ hr
  refine wpAny_pyIter_range hr (small_one (by omega) (by omega) (by omega) (by omega)) ?_
  have W := Walks.range (prog := prog) (w := w) hh s.heap.objs.size a 1 (b - a).toNat
  simp only [Int.mul_one] at W
  refine q s.heap.objs.size [s.heap.objs.size] [s.heap.objs.size] _ _ s.toks (Kp.push _ _) (Itr.ofWalks W fun i h hx b hb => ?_) (fun s Q E hx k => W.self 0 s Q E hx k) ?_ (fun b hb => ?_) fun b hb => .inl hb
  · rcases List.mem_singleton.mp hb with rfl; exact ⟨_, hx⟩
  · rw [rangeSize_one]
    simp only [Int.natCast_zero, Int.add_zero, Int.sub_zero]
    exact Heap.get?_push_size _ rfl
  · rcases List.mem_singleton.mp hb with rfl; exact none_of_new

theorem Src.list {x : Str} {px : Pos} {l : Addr} {vs : List Value} {n : Nat} (hh : A.handled = none) (ho : h.get? l = some (lst vs n)) : Src prog w A (.Name x px) (.ref l) h vs.length (fun i v _ => vs[i]? = some v) := by
  intro s E Q ks q
  have ho' := ks _ _ ho
  refine wpAny_pyIter_list (isList_lst ho') ?_
  have hI := Heap.get?_push_size s.heap (o := { cls := .type "list_iterator", data := .fields #[.ref l, .int 0 0] }) rfl
  have hne : l ≠ s.heap.objs.size := Nat.ne_of_lt (Heap.lt_size ho')
  have W := Walks.list (prog := prog) (w := w) hh s.heap.objs.size l hne vs.toArray
  simp only [List.size_toArray, List.getElem?_toArray] at W
  refine q _ _ [s.heap.objs.size] _ _ s.toks (Kp.push _ _) (Itr.ofWalks W fun i h hx b hb => ?_) (fun s Q E hx k => W.self 0 s Q E hx k) ⟨⟨_, hI, rfl, rfl⟩, isList_lst (Heap.get?_push_of_some _ ho')⟩ (fun b hb => ?_) fun b hb => ?_
  · rcases List.mem_cons.mp hb with rfl | hb
    · exact listIter_get hx.1
    · rcases List.mem_singleton.mp hb with rfl; exact list_get hx.2
  · rcases List.mem_singleton.mp hb with rfl; exact none_of_new
  · rcases List.mem_cons.mp hb with rfl | hb
    · exact .inl (List.mem_singleton.mpr rfl)
    · rcases List.mem_singleton.mp hb with rfl; exact .inr ⟨_, ho⟩

/-- a list of pairs of ints -/
def Prs (h : Heap) (l : Addr) (cls : List (Int × Int)) : Prop := ∃ (vs : List Value) (n : Nat), h.get? l = some (lst vs n) ∧ vs.length = cls.length ∧ ∀ (i : Nat) (p : Int × Int), cls[i]? = some p → ∃ (a : Addr) (t u : Tok), vs[i]? = some (.ref a) ∧ h.get? a = some (tup [.int p.1 t, .int p.2 u])
theorem Prs.up {l : Addr} {cls : List (Int × Int)} (x : Prs h l cls) (k : Kp h h₁) : Prs h₁ l cls := by
  obtain ⟨vs, n, h1, h2, h3⟩ := x
  exact ⟨vs, n, k _ _ h1, h2, fun i p e => let ⟨a, t, u, e1, e2⟩ := h3 i p e; ⟨a, t, u, e1, k _ _ e2⟩⟩

theorem Src.pairs {elts : List Expr} {k : Nat} {pos : Pos} {l : Addr} {cls : List (Int × Int)} (hh : A.handled = none) (x : Prs h l cls) :
    Src prog w A (.Tuple elts k pos) (.ref l) h cls.length (fun i v h => ∃ T p t u, v = .ref T ∧ cls[i]? = some p ∧ IsTup h T #[.int p.1 t, .int p.2 u]) := by
  intro s E Q ks q
  obtain ⟨vs, n, ho, hl, hp⟩ := x
  have ho' := ks _ _ ho
  have hex : ∀ i, ∃ (Tv : Addr × Array Value), i < vs.length → vs[i]? = some (.ref Tv.1) ∧ ∃ p t u, cls[i]? = some p ∧ h.get? Tv.1 = some (tup [.int p.1 t, .int p.2 u]) ∧ Tv.2 = #[.int p.1 t, .int p.2 u] := fun i => by
    by_cases hi : i < vs.length
    · obtain ⟨a, t, u, e1, e2⟩ := hp i cls[i] (List.getElem?_eq_getElem (by omega))
      exact ⟨(a, #[.int cls[i].1 t, .int cls[i].2 u]), fun _ => ⟨e1, cls[i], t, u, List.getElem?_eq_getElem (by omega), e2, rfl⟩⟩
    · exact ⟨(0, #[]), fun h => absurd h hi⟩
  let Tv := fun i => Classical.choose (hex i)
  have hTv : ∀ i, i < vs.length → vs[i]? = some (.ref (Tv i).1) ∧ ∃ p t u, cls[i]? = some p ∧ h.get? (Tv i).1 = some (tup [.int p.1 t, .int p.2 u]) ∧ (Tv i).2 = #[.int p.1 t, .int p.2 u] := fun i => Classical.choose_spec (hex i)
  refine wpAny_pyIter_list (isList_lst ho') ?_
  have hI := Heap.get?_push_size s.heap (o := { cls := .type "list_iterator", data := .fields #[.ref l, .int 0 0] }) rfl
  have hne : l ≠ s.heap.objs.size := Nat.ne_of_lt (Heap.lt_size ho')
  have hT : ∀ i, i < vs.length → ∃ o, h.get? (Tv i).1 = some o := fun i hi => let ⟨_, p, t, u, _, e, _⟩ := hTv i hi; ⟨_, e⟩
  have W := WalksU.listOfTuples (prog := prog) (w := w) hh s.heap.objs.size l hne vs.toArray (fun i => (Tv i).1) (fun i => (Tv i).2) (fun j hj => by simpa using (hTv j (by simpa using hj)).1)
    (fun j hj => by
      obtain ⟨o, e⟩ := hT j (by simpa using hj)
      exact Nat.ne_of_lt (Heap.lt_size (ks _ _ e)))
  simp only [List.size_toArray] at W
  have tups : ∀ {h' : Heap}, Kp h h' → ∀ k, k < vs.length → h'.IsTuple (Tv k).1 (Tv k).2 := fun kk k hk => by
    obtain ⟨_, p, t, u, _, e, ev⟩ := hTv k hk
    rw [ev]
    exact ⟨_, kk _ _ e, rfl, 0, rfl⟩
  have W' := Itr.ofU (elts := elts) (k := k) (pos := pos) W (fun i h' hx b hb => by
    rcases List.mem_cons.mp hb with rfl | hb
    · exact listIter_get hx.1
    · rcases List.mem_cons.mp hb with rfl | hb
      · exact list_get hx.2.1
      · obtain ⟨j, hj, rfl⟩ := List.mem_map.mp hb
        obtain ⟨o, e, _⟩ := hx.2.2 j (by simpa using hj)
        exact ⟨o, e⟩)
  have W'' : Itr prog w A (.Tuple elts k pos) s.heap.objs.size _ [s.heap.objs.size] cls.length (fun i v h => ∃ T p t u, v = .ref T ∧ cls[i]? = some p ∧ IsTup h T #[.int p.1 t, .int p.2 u]) _ :=
    { sub := W'.sub, frame := W'.frame, live := W'.live, done := fun s Q E => hl ▸ W'.done s Q E,
      step := fun i s Q E hi hx kq => W'.step i s Q E (by omega) hx fun v h' tk pv sx kk => by
        obtain ⟨T, vals, rfl, rfl, ht⟩ := pv
        obtain ⟨_, p, t, u, ep, _, ev⟩ := hTv i (by omega)
        exact kq _ h' tk ⟨T, p, t, u, rfl, ep, ev ▸ ht⟩ sx kk }
  refine q _ _ _ _ _ s.toks (Kp.push _ _) W'' (fun s Q E hx k => W.self 0 s Q E hx k) ⟨⟨_, hI, rfl, rfl⟩, isList_lst (Heap.get?_push_of_some _ ho'), tups (ks.trans (Kp.push _ _))⟩ (fun b hb => ?_) fun b hb => ?_
  · rcases List.mem_singleton.mp hb with rfl; exact none_of_new
  · rcases List.mem_cons.mp hb with rfl | hb
    · exact .inl (List.mem_singleton.mpr rfl)
    · rcases List.mem_cons.mp hb with rfl | hb
      · exact .inr ⟨_, ho⟩
      · obtain ⟨j, hj, rfl⟩ := List.mem_map.mp hb
        exact .inr (hT j (by simpa using hj))

/-- for target in iter, the iterable not the activation's own -/
theorem x_forS {target iter : Expr} {pos : Pos} {body : List Stmt} {R₁ : Value → Heap → Prop} {n : Nat} {P : Nat → Value → Heap → Prop} {Q : Flow → Shared → Prop} (J : Nat → Array GenState → (Str → Option Value) → (Str → Option Value) → Led → Prop)
    (S : St G O g env cs m cm led s) (p : Pv prog w A s.heap (eval iter env) R₁)
    (src : ∀ v h', Kp s.heap h' → R₁ v h' → ∃ hb, Kp hb h' ∧ (∀ b ∈ owns env cs led, hb.get? b = none) ∧ Src prog w A target v hb n P)
    (hJ : J 0 G m cm led)
    (turn : ∀ i v G m cm led g' s, i < n → P i v s.heap → J i G m cm led → Kp g g' → St G O g' env cs m cm led s →
      wpAny (model prog w) A (assign target env v) (fun _ s₂ => wpAny (model prog w) A (execs body env) (fun f s₃ => match f with
        | .next | .cont => ∃ G' m' cm' led', J (i + 1) G' m' cm' led' ∧ St G' O g' env cs m' cm' led' s₃
        | .brk => Q .next s₃
        | .ret v => Q (.ret v) s₃) (fun _ _ => False) s₂) (fun _ _ => False) s)
    (fin : ∀ G m cm led s, J n G m cm led → St G O g env cs m cm led s → Q .next s)
    (hs : ∀ x, foldedSetIterable iter env x = pure x := by intro _; rfl) :
    wpAny (model prog w) A (exec (.For target iter body [] pos) env) Q E s := by
  refine x_forI J S p (fun v s₁ E Q₁ r k₁ S₁ q => ?_) hJ turn fin hs
  obtain ⟨hb, kb, off, src⟩ := src v s₁.heap k₁ r
  refine src s₁ E Q₁ kb fun I fp wr Sx h' tk kk W _ hx hw hf => q I fp wr Sx h' tk kk W hx (fun b hb => ?_) fun b hb => S₁.newG (hw b hb)
  rcases hf b hb with hb | ⟨o, e⟩
  · exact S₁.newOff (hw b hb)
  · exact fun ho => by rw [off b ho] at e; cases e
end
end Mine
end

section
open PySem PySem.W PyProof.Rows
namespace Mine
section
variable {prog : Program} {w : World} {A : Around} {E : Value → Shared → Prop} {G : Array GenState} {O : OsState × Drawn} {g g' h h₁ : Heap} {env cenv : Env} {cs : List (Str × Addr)} {m cm : Str → Option Value} {led : Led} {s : Shared}

theorem comp_core {elt target iter : Expr} {ifs : List Expr} {scope : Scope} {cl : List (Str × Addr)} {pos : Pos} {v : Value} {hb : Heap} {s₁ : Shared} {n : Nat} {P : Nat → Value → Heap → Prop} {RR : Value → Addr → Result → Shared → Prop}
    (src : Src prog w A target v hb n P) (kb : Kp hb s₁.heap) (hsz : n ≤ 1000000) (hnn : ((cellsFrom 0 scope.names []).map (·.1)).Nodup)
    (J : Nat → List Value → Led → Prop) (hJ : J 0 [] [])
    (turn : ∀ C D i v ys nn m cm led g' s, i < n → P i v s.heap → J i ys led → Kp s₁.heap g' → St s₁.gens (s₁.os, s₁.drawn) g' (compE scope cl C env) (cellsFrom (C + 1) scope.names []) m cm ((D, lst ys nn) :: led) s →
      wpAny (model prog w) A (assign target (compE scope cl C env) v) (fun _ s₂ => wpAny (model prog w) A (tests ifs (compE scope cl C env)) (fun ok s₃ =>
        if ok = true then wpAny (model prog w) A (eval elt (compE scope cl C env)) (fun y s₄ => ∃ m' cm' led', J (i + 1) (ys ++ [y]) led' ∧ St s₁.gens (s₁.os, s₁.drawn) g' (compE scope cl C env) (cellsFrom (C + 1) scope.names []) m' cm' ((D, lst ys nn) :: led') s₄) (fun _ _ => False) s₃
        else ∃ m' cm' led', J (i + 1) ys led' ∧ St s₁.gens (s₁.os, s₁.drawn) g' (compE scope cl C env) (cellsFrom (C + 1) scope.names []) m' cm' ((D, lst ys nn) :: led') s₃) (fun _ _ => False) s₂) (fun _ _ => False) s)
    (fin : ∀ C D ys nn m cm led s', J n ys led → St s₁.gens (s₁.os, s₁.drawn) s₁.heap (compE scope cl C env) (cellsFrom (C + 1) scope.names []) m cm ((D, lst ys nn) :: led) s' → RR (.ref D) C (.ok .next) s') :
    wpAny (model prog w) A (pyIter v) (fun it s₂ => wpAny (model prog w) A (newList []) (fun acc s₃ => wpAny (model prog w) A (newFunctionEnv scope env.globals cl [] env.qual none .none (some env)) (fun cenv s₄ =>
      codeAny (model prog w) A (.compStart (.ListComp elt [⟨target, iter, ifs, 0⟩] scope pos) 0 it acc { cenv with scope := relabel scope env }) (RR acc cenv.locals) s₄) E s₃) E s₂) E s₁ := by
  refine src s₁ E _ kb fun I fp wr Sx h' tk kk W self hx hw hf => ?_
  refine wpAny_newObj_type (newEnvComp ?_) (by size_fits)
  dsimp only
  generalize hH2 : h'.push { cls := .type "list", dict := none, data := .seq ([] : List Value).toArray } = H2
  generalize hH3 : H2.push { cls := .type "dict", data := .dict #[] } = H3
  have hC : H2.objs.size = h'.objs.size + 1 := by rw [← hH2, Heap.size_push]
  have hC3 : H3.objs.size = H2.objs.size + 1 := by rw [← hH3, Heap.size_push]
  have k12 : Kp h' H2 := hH2 ▸ Kp.push _ _
  have k23 : Kp H2 H3 := hH3 ▸ Kp.push _ _
  have k34 : Kp H3 (pushCells H3 scope.names) := fun b o e => pushCells_keeps _ _ b o e
  have kAll : Kp h' (pushCells H3 scope.names) := (k12.trans k23).trans k34
  have cok := cellsFrom_ok scope.names H3 H3.objs.size [] ⟨fun n c hm => (by cases hm), List.Pairwise.nil⟩ (Nat.le_refl _)
  have fresh : ∀ a, h'.objs.size ≤ a → h'.get? a = none := fun a ha => by
    cases e : h'.get? a with
    | none => rfl
    | some o' => exact absurd (Heap.lt_size e) (Nat.not_lt.mpr ha)
  have freshS : ∀ {b}, h'.get? b = none → s₁.heap.get? b = none := fun {b} hb => by
    cases e : s₁.heap.get? b with
    | none => rfl
    | some o => rw [kk _ _ e] at hb; cases hb
  have hnd : ((cellsFrom H3.objs.size scope.names []).map (·.1)).Nodup := by rw [Mine.cellsFrom_names _ _ 0 [] [] rfl]; exact hnn
  have hDg : (pushCells H3 scope.names).get? h'.objs.size = some (lst [] 0) := k34 _ _ (k23 _ _ (hH2 ▸ Heap.get?_push_size _ rfl))
  have S₀ : St s₁.gens (s₁.os, s₁.drawn) s₁.heap (compE scope cl H2.objs.size env) (cellsFrom (H2.objs.size + 1) scope.names []) (fun _ => none) (fun _ => none) [(h'.objs.size, lst [] 0)] { s₁ with heap := pushCells H3 scope.names, toks := tk } := by
    rw [← hC3]
    refine ⟨rfl, rfl, kk.trans kAll, ?_, freshS (fresh _ (by show h'.objs.size ≤ H2.objs.size; lia)), fun n c hm => (cok.empty n c hm).1, fun n c hm => ⟨freshS (fresh _ ?_), ?_⟩, cok.apart, lookup_of_nodup hnd, fun p hp => ?_, by simp⟩
    · have : H3.Ns H2.objs.size (fun _ => none) := hH3 ▸ Heap.Ns.new ..
      exact this.keeps k34
    · have := (cok.empty n c hm).2; lia
    · have := (cok.empty n c hm).2
      show c ≠ H2.objs.size
      exact Nat.ne_of_gt (by lia)
    · rcases List.mem_singleton.mp hp with rfl
      refine ⟨hDg, freshS (fresh _ (Nat.le_refl _)), ?_, fun n c hm => ?_⟩
      · show h'.objs.size ≠ H2.objs.size
        exact Nat.ne_of_lt (by lia)
      · have := (cok.empty n c hm).2
        exact Nat.ne_of_lt (by show h'.objs.size < c; lia)
  have hx' : Sx 0 (pushCells H3 scope.names) := W.frame _ _ _ hx fun b _ o e => kAll _ _ e
  have hfp : ∀ b ∈ fp, b ∉ owns (compE scope cl H2.objs.size env) (cellsFrom (H2.objs.size + 1) scope.names []) [(h'.objs.size, lst [] 0)] := fun b hb ho => by
    obtain ⟨o, e⟩ := W.live _ _ hx b hb
    have hlt := Heap.lt_size e
    rcases List.mem_cons.mp ho with rfl | ho
    · have hlt' : H2.objs.size < h'.objs.size := hlt
      lia
    · rcases List.mem_append.mp ho with ho | ho
      · obtain ⟨⟨n, c⟩, hc, rfl⟩ := List.mem_map.mp ho
        rw [← hC3] at hc
        have := (cok.empty n c hc).2
        have hlt' : @LT.lt Nat _ c h'.objs.size := hlt
        have this' : @LE.le Nat _ H3.objs.size c := this
        lia
      · rcases List.mem_singleton.mp ho with rfl
        exact Nat.lt_irrefl _ hlt
  have loop : codeAny (model prog w) A (.compLoop (.ListComp elt [⟨target, iter, ifs, 0⟩] scope pos) 0 (.ref I) (.ref h'.objs.size) (compE scope cl H2.objs.size env)) (RR (.ref h'.objs.size) H2.objs.size) { s₁ with heap := pushCells H3 scope.names, toks := tk } :=
    loopComp W J S₀ hJ hx' hfp hw hsz (fun i v ys nn m cm led g' s hi hp hj kg S => turn H2.objs.size h'.objs.size i v ys nn m cm led g' s hi hp hj kg S) fun ys nn m cm led s hj S => fin H2.objs.size h'.objs.size ys nn m cm led s hj S
  exact codeAny_compStart_list loop (self _ _ _ hx' loop)

/-- [elt for target in iter if ..] as a value -/
theorem Pv.comp {elt target iter : Expr} {ifs : List Expr} {scope : Scope} {cl : List (Str × Addr)} {pos : Pos} {R₁ : Value → Heap → Prop} {n : Nat} {P : Nat → Value → Heap → Prop} (J : Nat → List Value → Led → Prop)
    (p : Pv prog w A h (eval iter env) R₁) (src : ∀ v h', Kp h h' → R₁ v h' → Src prog w A target v h' n P) (hsz : n ≤ 1000000) (hJ : J 0 [] [])
    (turn : ∀ G O C D i v ys nn m cm led g' s, i < n → P i v s.heap → J i ys led → Kp h g' → St G O g' (compE scope cl C env) (cellsFrom (C + 1) scope.names []) m cm ((D, lst ys nn) :: led) s →
      wpAny (model prog w) A (assign target (compE scope cl C env) v) (fun _ s₂ => wpAny (model prog w) A (tests ifs (compE scope cl C env)) (fun ok s₃ =>
        if ok = true then wpAny (model prog w) A (eval elt (compE scope cl C env)) (fun y s₄ => ∃ m' cm' led', J (i + 1) (ys ++ [y]) led' ∧ St G O g' (compE scope cl C env) (cellsFrom (C + 1) scope.names []) m' cm' ((D, lst ys nn) :: led') s₄) (fun _ _ => False) s₃
        else ∃ m' cm' led', J (i + 1) ys led' ∧ St G O g' (compE scope cl C env) (cellsFrom (C + 1) scope.names []) m' cm' ((D, lst ys nn) :: led') s₃) (fun _ _ => False) s₂) (fun _ _ => False) s)
    (hclos : closureFor scope env = pure cl := by rfl) (hkind : scope.kind = .function := by rfl) (hnn : ((cellsFrom 0 scope.names []).map (·.1)).Nodup := by decide)
    (hnames : (scope.names.all fun x => decide (x.2 ≠ .local) || decide (scope.names.lookup x.1 = some .local)) = true := by rfl)
    (hs : ∀ x, foldedSetIterable iter env x = pure x := by intro _; rfl) :
    Pv prog w A h (eval (.ListComp elt [⟨target, iter, ifs, 0⟩] scope pos) env) (fun v h' => ∃ D ys nn led, v = .ref D ∧ J n ys led ∧ h.get? D = none ∧ h'.get? D = some (lst ys nn) ∧ ∀ p ∈ led, h'.get? p.1 = some p.2 ∧ h.get? p.1 = none) := by
  intro s Q E ks q
  rw [eval_ListComp]
  have hnm : ∀ x ∈ scope.names, x.2 = .local → scope.names.lookup x.1 = some .local := fun x hx hl => by
    have := List.all_eq_true.mp hnames x hx
    simpa [hl] using this
  refine wpAny_comprehension_free (use := none) rfl hs hclos hkind hnm (p s _ E ks fun v h' tk k r => ?_)
  refine comp_core (s₁ := { s with heap := h', toks := tk }) (src v h' (ks.trans k) r) Kp.rfl hsz hnn J hJ (fun C D i v ys nn m cm led g' s' hi hp hj kg S => turn _ _ C D i v ys nn m cm led g' s' hi hp hj ((ks.trans k).trans kg) S) fun C D ys nn m cm led s' hj S => ?_
  refine ⟨m, S.ns, fun h'' hs'' => ?_⟩
  have kx : ∀ b o, b ≠ C → s'.heap.get? b = some o → h''.get? b = some o := fun b o hb e => (hs''.2 b hb).trans e
  have hD := S.own (D, lst ys nn) (List.mem_cons_self ..)
  have fresh : ∀ {b}, h'.get? b = none → h.get? b = none := fun {b} hb => by
    cases e : h.get? b with
    | none => rfl
    | some o => rw [(ks.trans k) _ _ e] at hb; cases hb
  have := q (.ref D) h'' s'.toks (fun b o e => kx b o (fun hb => by
    have := S.offL
    have e' := k _ _ e
    rw [show (compE scope cl C env).locals = C from rfl, ← hb] at this
    rw [show h'.get? b = none from this] at e'; cases e') (S.keep _ _ (k _ _ e))) ⟨D, ys, nn, led, rfl, hj, fresh hD.2.1, kx _ _ hD.2.2.1 hD.1, fun p hp => ?_⟩
  · have e₁ := S.gens
    have e₂ := S.os
    obtain ⟨hh, gs, d, t, o⟩ := s'
    simp only [Prod.mk.injEq] at e₁ e₂ ⊢
    obtain ⟨rfl, rfl⟩ := e₂
    subst e₁
    exact this
  · have hp := S.own p (List.mem_cons_of_mem _ hp)
    exact ⟨kx _ _ hp.2.2.1 hp.1, fresh hp.2.1⟩

/-- x = [elt for target in iter if ..], x a local -/
theorem x_setComp {elt target iter : Expr} {ifs : List Expr} {scope : Scope} {cl : List (Str × Addr)} {x : Str} {px pos spos : Pos} {R₁ : Value → Heap → Prop} {n : Nat} {P : Nat → Value → Heap → Prop} {Q : Flow → Shared → Prop} (J : Nat → List Value → Led → Prop)
    (S : St G O g env cs m cm led s) (p : Pv prog w A s.heap (eval iter env) R₁) (src : ∀ v h', Kp s.heap h' → R₁ v h' → Src prog w A target v h' n P) (hsz : n ≤ 1000000) (hJ : J 0 [] [])
    (turn : ∀ G O C D i v ys nn m cm led g' s', i < n → P i v s'.heap → J i ys led → Kp s.heap g' → St G O g' (compE scope cl C env) (cellsFrom (C + 1) scope.names []) m cm ((D, lst ys nn) :: led) s' →
      wpAny (model prog w) A (assign target (compE scope cl C env) v) (fun _ s₂ => wpAny (model prog w) A (tests ifs (compE scope cl C env)) (fun ok s₃ =>
        if ok = true then wpAny (model prog w) A (eval elt (compE scope cl C env)) (fun y s₄ => ∃ m' cm' led', J (i + 1) (ys ++ [y]) led' ∧ St G O g' (compE scope cl C env) (cellsFrom (C + 1) scope.names []) m' cm' ((D, lst ys nn) :: led') s₄) (fun _ _ => False) s₃
        else ∃ m' cm' led', J (i + 1) ys led' ∧ St G O g' (compE scope cl C env) (cellsFrom (C + 1) scope.names []) m' cm' ((D, lst ys nn) :: led') s₃) (fun _ _ => False) s₂) (fun _ _ => False) s')
    (kk : ∀ D ys nn led' s', J n ys led' → St G O g env cs (up m x (.ref D)) cm ((D, lst ys nn) :: led) s' → Q .next s')
    (hsw : swapsWith (.ListComp elt [⟨target, iter, ifs, 0⟩] scope pos) (some (.Name x px)) spos.line env = pure true := by rfl)
    (hclos : closureFor scope env = pure cl := by rfl) (hkind : scope.kind = .function := by rfl) (hnn : ((cellsFrom 0 scope.names []).map (·.1)).Nodup := by decide)
    (hnames : (scope.names.all fun x => decide (x.2 ≠ .local) || decide (scope.names.lookup x.1 = some .local)) = true := by rfl)
    (hs : ∀ x, foldedSetIterable iter env x = pure x := by intro _; rfl) (hk : env.scope.kind = .function := by rfl) (hl : env.kindOf x = some .local := by rfl) :
    wpAny (model prog w) A (exec (.Assign [.Name x px] (.ListComp elt [⟨target, iter, ifs, 0⟩] scope pos) spos) env) Q E s := by
  have hnm : ∀ x ∈ scope.names, x.2 = .local → scope.names.lookup x.1 = some .local := fun x hx hl => by
    have := List.all_eq_true.mp hnames x hx
    simpa [hl] using this
  rw [exec_Assign_Name_used _ _ _ _ hsw]
  refine wpAny_bind (wpAny_standAt (wpAny_bind ?_))
  show wpAny _ A (do let _ ← comprehension (.ListComp elt [⟨target, iter, ifs, 0⟩] scope pos) scope env _ (newList []) false (eval iter env) (some (assign (.Name x px) env))) _ _ s
  refine wpAny_bind (wpAny_mono (wpAny_comprehension_free (use := some (assign (.Name x px) env)) (Q := fun _ s' => Q .next s') rfl hs hclos hkind hnm (p s _ E Kp.rfl fun v h' tk k r => ?_)) (fun _ s' hq => wpAny_pure (wpAny_pure hq)) fun _ _ e => e)
  refine comp_core (s₁ := { s with heap := h', toks := tk }) (src v h' k r) Kp.rfl hsz hnn J hJ (fun C D i v ys nn m cm led g' s' hi hp hj kg S => turn _ _ C D i v ys nn m cm led g' s' hi hp hj (k.trans kg) S) fun C D ys nn m' cm' led' s' hj S' => ?_
  have hD := S'.own (D, lst ys nn) (List.mem_cons_self ..)
  have offC : h'.get? C = none := S'.offL
  have fresh : ∀ {b}, h'.get? b = none → s.heap.get? b = none := fun {b} hb => by
    cases e : s.heap.get? b with
    | none => rfl
    | some o => rw [k _ _ e] at hb; cases hb
  have So : St G O g env cs m cm ((D, lst ys nn) :: led) s' := S.addS (s' := s') (k.trans S'.keep) (S'.gens.trans S.gens) S'.os (fresh hD.2.1) hD.1
  show wpAny _ A (assign (.Name x px) env (.ref D)) _ _ _
  have hLC : C ≠ env.locals := fun e => by
    obtain ⟨o, es, ep, e', _⟩ := S.ns
    have := k _ _ e'
    rw [← e, offC] at this; cases this
  have nsC : s'.heap.Ns C m' := S'.ns
  obtain ⟨_, _, _, hLo, _⟩ := So.ns
  refine wpAny_assign_Name (wpAny_storeName_local hl So.ns (fun h₂ hn₂ hs₂ => ?_) (by rw [hk]; rfl))
  refine ⟨m', nsC.sameBut hs₂ hLC, fun h₃ hs₃ => ?_⟩
  have S₂ := So.set (tk := s'.toks + 1) hn₂ hs₂
  have S₃ := S₂.other (h' := h₃) (tk := s'.toks + 1) [C] (fun b hb => by
    rcases List.mem_singleton.mp hb with rfl
    refine ⟨?_, fun ho => ?_⟩
    · cases e : g.get? b with
      | none => rfl
      | some o => have := k _ _ (S.keep _ _ e); rw [offC] at this; cases this
    · rcases List.mem_cons.mp ho with e | ho
      · exact hLC e
      · rcases List.mem_append.mp ho with ho | ho
        · obtain ⟨⟨n, c⟩, hc, rfl⟩ := List.mem_map.mp ho
          obtain ⟨o, e, _⟩ := S.cell n c hc
          have := k _ _ e; rw [offC] at this; cases this
        · rcases List.mem_cons.mp ho with e | ho
          · exact hD.2.2.1 e.symm
          · obtain ⟨p, hp, rfl⟩ := List.mem_map.mp ho
            have := k _ _ (S.own p hp).1; rw [offC] at this; cases this) (fun b o hb e => (hs₃.2 b fun q => hb (List.mem_singleton.mpr q)).trans e)
  exact kk D ys nn led' _ hj S₃
end
end Mine
end

section
open PySem PySem.W PyProof.Rows
namespace Mine
open PySem.W.X
/-- the first waking -/
theorem start_go {w : World} {L l : Addr} {vs : List Value} {ns : List Int} (hi : IntsAre vs ns) (hlL : l ≠ L) (n : Nat) (A : Around) (s : Shared) (P : End → Shared → Prop) (m : Str → Option Value)
    (hc : Calm ns (.head 0 none)) (hh : A.handled = none) (hd : A.depth + 10 < recursionLimit) (T : Tp w (hideAll s.heap [L])) (hns : s.heap.Ns L m) (hm : m "grouping" = some (.ref l)) (hl : s.heap.IsList l vs.toArray)
    (post : ∀ I e s', s.heap.get? I = none → But [L] s.heap s'.heap → s'.gens = s.gens → (s'.os, s'.drawn) = (s.os, s.drawn) → (match nextOut ns (.head 0 none) with
        | none => e = .ret (.ok (.ret .none))
        | some (v, σ') => (∃ t g l k c p fs, e = .susp (.int v t) g l k c p fs) ∧ HC L I l vs σ' s'.heap ∧ Rdy w L I l vs ns n σ' e.genState) → P e s') :
    SX pr w A (.func (bodyG w) (ge w L)) ((model pr w).den (.func (bodyG w) (ge w L))) [] s P := by
  have S := St.ofNs (env := ge w L) hns
  refine sx_func (sx_cons (sx_wrap (x_set S .cnone fun v s₁ s₂ r k S₂ => ?_)))
  obtain rfl := r
  refine sx_cons (sx_for (fun _ => rfl) (S₂.pv (.name (S₂.loc hm)) fun v s₃ r k₃ S₃ => ?_))
  obtain rfl := r
  have lk : ∀ {h' : Heap}, Kp (hideAll s.heap [L]) h' → h'.IsList l vs.toArray := fun k => by
    obtain ⟨o, e, r⟩ := hl
    exact ⟨o, k _ _ (hideAll_get _ e fun q => hlL (List.mem_singleton.mp q)), r⟩
  have hl₃ := lk S₃.keep
  refine wpAny_pyIter_list hl₃ fun p => ?_
  have S₄ := S₃.grow (Kp.push s₃.heap { cls := .type "list_iterator", data := .fields #[.ref l, .int 0 0] }) s₃.toks
  have hI := Heap.get?_push_size s₃.heap (o := { cls := .type "list_iterator", data := .fields #[.ref l, .int 0 0] }) rfl
  have hIL : L ≠ s₃.heap.objs.size := by
    obtain ⟨o, es, ep, e, _⟩ := S₃.ns
    exact Nat.ne_of_lt (Heap.lt_size e)
  have hlI : l ≠ s₃.heap.objs.size := by
    obtain ⟨o, e, _⟩ := hl₃
    exact Nat.ne_of_lt (Heap.lt_size e)
  have fresh : ∀ b, s.heap.get? b ≠ none → b ≠ s₃.heap.objs.size := fun b hb q => by
    cases e : s.heap.get? b with
    | none => exact hb e
    | some o =>
      by_cases hbL : b = L
      · exact hIL (hbL ▸ q)
      · exact absurd (Heap.lt_size (S₃.keep _ _ (hideAll_get [L] e fun x => hbL (List.mem_singleton.mp x)))) (by rw [q]; exact Nat.lt_irrefl _)
  have but : But [L] s.heap (s₃.heap.push { cls := .type "list_iterator", data := .fields #[.ref l, .int 0 0] }) := fun b o hb e => S₄.keep _ _ (hideAll_get _ e hb)
  refine head_go hi hIL hlI hlL n 0 none A _ P p _ hc hh hd ?_ S₄.ns rfl ⟨_, hI, rfl, rfl⟩ (lk S₄.keep) fun e s' b g o q => ?_
  · refine T.up fun b o e => ?_
    have hb : b ∉ [L] := fun hb => by rw [hideAll_none [L] hb] at e; cases e
    have e' := of_hideAll _ e
    refine hideAll_get _ (but b o hb e') fun hb' => ?_
    rcases List.mem_cons.mp hb' with q | q
    · exact hb (List.mem_singleton.mpr q)
    · exact fresh b (by rw [e']; intro x; cases x) (List.mem_singleton.mp q)
  · refine post s₃.heap.objs.size e s' ?_ (fun b' o' hb e' => b b' o' ?_ (but b' o' hb e')) (g.trans S₃.gens) (o.trans S₃.os) q
    · cases e : s.heap.get? s₃.heap.objs.size with
      | none => rfl
      | some o => exact absurd rfl (fresh _ (by rw [e]; intro x; cases x))
    · intro hb'
      rcases List.mem_cons.mp hb' with q | q
      · exact hb (List.mem_singleton.mpr q)
      · exact fresh b' (by rw [e']; intro x; cases x) (List.mem_singleton.mp q)
end Mine
end

section
open PySem PySem.W PyProof.Rows
namespace Mine
open PySem.W.X
theorem Rdy.less {w : World} {L I l : Addr} {vs : List Value} {ns : List Int} : ∀ (n : Nat) {σ : Sg} {gs : GenState}, Rdy w L I l vs ns (n + 1) σ gs → Rdy w L I l vs ns n σ gs := by
  intro n
  induction n with
  | zero => intro _ _ _; trivial
  | succ n ih =>
    intro σ gs x
    obtain ⟨c₀, t₀, fs₀, hw, go⟩ := x
    refine ⟨c₀, t₀, fs₀, hw, fun A s P hh hd T hc post => go A s P hh hd T hc fun e s' b g o q => post e s' b g o ?_⟩
    cases hq : nextOut ns σ with
    | none => rw [hq] at q; exact q
    | some p => rw [hq] at q; exact ⟨q.1, q.2.1, ih q.2.2⟩
theorem Rdy.mono {w : World} {L I l : Addr} {vs : List Value} {ns : List Int} {σ : Sg} {gs : GenState} {n k : Nat} (h : k ≤ n) (x : Rdy w L I l vs ns n σ gs) : Rdy w L I l vs ns k σ gs := by
  induction n with
  | zero => have : k = 0 := by lia
            subst this; exact x
  | succ n ih =>
    by_cases e : k = n + 1
    · subst e; exact x
    · exact ih (by lia) x.less
inductive Gst where
  | fresh
  | on (σ : Sg)
def Gst.sg : Gst → Sg
  | .fresh => .head 0 none
  | .on σ => σ
/-- the generator in stage st, ready for n wakings; ow: what it alone touches -/
def GV (w : World) (L l : Addr) (vs : List Value) (ns : List Int) (gi : Nat) (n : Nat) : Gst → Array GenState → Heap → List Addr → Prop
  | .fresh, G, h, ow => ow = [L] ∧ G[gi]? = some (.fresh (.func (bodyG w) (ge w L))) ∧ h.IsList l vs.toArray ∧ ∃ m, h.Ns L m ∧ m "grouping" = some (.ref l)
  | .on σ, G, h, ow => ∃ I gs, ow = [L, I] ∧ G[gi]? = some gs ∧ Rdy w L I l vs ns n σ gs ∧ HC L I l vs σ h
theorem GV.less {w : World} {L l : Addr} {vs : List Value} {ns : List Int} {gi n k : Nat} {st : Gst} {G : Array GenState} {h : Heap} {ow : List Addr} (x : GV w L l vs ns gi n st G h ow) (hk : k ≤ n) : GV w L l vs ns gi k st G h ow := by
  cases st with
  | fresh => exact x
  | on σ => obtain ⟨I, gs, a, b, c, d⟩ := x; exact ⟨I, gs, a, b, c.mono hk, d⟩
theorem Ns.at_ {h h' : Heap} {L : Addr} {m : Str → Option Value} (x : h.Ns L m) (k : ∀ o, h.get? L = some o → h'.get? L = some o) : h'.Ns L m := by
  obtain ⟨o, es, ep, e, r⟩ := x
  exact ⟨o, es, ep, k _ e, r⟩
theorem GV.frame {w : World} {L l : Addr} {vs : List Value} {ns : List Int} {gi n : Nat} {st : Gst} {G : Array GenState} {h h' : Heap} {ow : List Addr} (x : GV w L l vs ns gi n st G h ow) (k : ∀ b, b = l ∨ b ∈ ow → ∀ o, h.get? b = some o → h'.get? b = some o) : GV w L l vs ns gi n st G h' ow := by
  cases st with
  | fresh =>
    obtain ⟨rfl, b, ⟨o, e, r⟩, m, d, hm⟩ := x
    exact ⟨rfl, b, ⟨o, k _ (.inl rfl) _ e, r⟩, m, Ns.at_ d (k _ (.inr (.head _))), hm⟩
  | on σ =>
    obtain ⟨I, gs, rfl, b, c, d⟩ := x
    refine ⟨I, gs, rfl, b, c, ?_⟩
    cases σ with
    | head j last =>
      obtain ⟨m, x, t, n, hm, hl, ⟨o, ei, ri⟩, o', el, rl⟩ := d
      exact ⟨m, x, t, Ns.at_ n (k _ (.inr (.head _))), hm, hl, ⟨o, k _ (.inr (.tail _ (.head _))) _ ei, ri⟩, o', k _ (.inl rfl) _ el, rl⟩
    | whl v =>
      obtain ⟨m, t, n, hm, o, e⟩ := d
      exact ⟨m, t, Ns.at_ n (k _ (.inr (.head _))), hm, o, k _ (.inr (.tail _ (.head _))) _ e⟩
theorem GV.live {w : World} {L l : Addr} {vs : List Value} {ns : List Int} {gi n : Nat} {st : Gst} {G : Array GenState} {h : Heap} {ow : List Addr} (x : GV w L l vs ns gi n st G h ow) : ∀ b ∈ ow, ∃ o, h.get? b = some o := by
  intro b hb
  cases st with
  | fresh =>
    obtain ⟨rfl, _, _, m, ⟨o, es, ep, e, _⟩, hm⟩ := x
    rcases List.mem_singleton.mp hb with rfl
    exact ⟨_, e⟩
  | on σ =>
    obtain ⟨I, gs, rfl, _, _, d⟩ := x
    cases σ with
    | head j last =>
      obtain ⟨m, x, t, ⟨o, es, ep, e, _⟩, _, _, ⟨o', e', _⟩, _⟩ := d
      rcases List.mem_cons.mp hb with rfl | hb
      · exact ⟨_, e⟩
      · rcases List.mem_singleton.mp hb with rfl; exact ⟨_, e'⟩
    | whl v =>
      obtain ⟨m, t, ⟨o, es, ep, e, _⟩, _, o', e'⟩ := d
      rcases List.mem_cons.mp hb with rfl | hb
      · exact ⟨_, e⟩
      · rcases List.mem_singleton.mp hb with rfl; exact ⟨_, e'⟩
theorem bare_set {s s₁ : Shared} {g : Nat} {x : GenState} (hb : x.bare = true) (e : s₁.gens = (s.setGen g .running).gens) : AllBare s.gens → AllBare (s₁.setGen g x).gens := fun h y hy => by
  have : (s₁.setGen g x).gens = s.gens.setIfInBounds g x := by
    show s₁.gens.setIfInBounds g x = _
    rw [e]
    show (s.gens.setIfInBounds g .running).setIfInBounds g x = _
    simp
  rw [this] at hy
  rcases Array.mem_or_eq_of_mem_setIfInBounds hy with h' | rfl
  · exact h y h'
  · exact hb
theorem gens_at {s s₁ : Shared} {g : Nat} {x : GenState} (hg : g < s.gens.size) (e : s₁.gens = (s.setGen g .running).gens) : (s₁.setGen g x).gens[g]? = some x := by
  show (s₁.gens.setIfInBounds g x)[g]? = _
  have : g < s₁.gens.size := by
    rw [e]; show g < (s.gens.setIfInBounds g .running).size; rw [Array.size_setIfInBounds]; exact hg
  rw [Array.getElem?_setIfInBounds_self_of_lt this]
/-- one waking -/
theorem gen_step {w : World} {A : Around} {s : Shared} {Q : Option Value → Shared → Prop} {E : Value → Shared → Prop} {a L l : Addr} {vs : List Value} {ns : List Int} {gi n : Nat} {st : Gst} {ow : List Addr} (hi : IntsAre vs ns) (hh : A.handled = none) (hd : A.depth + 20 < recursionLimit)
    (T : Tp w (hideAll s.heap ow)) (hc : Calm ns st.sg) (hl : l ∉ ow) (X : GV w L l vs ns gi (n + 1) st s.gens s.heap ow) (hgen : s.heap.IsGen a gi) (hL : s.heap.IsList l vs.toArray)
    (k : ∀ s' ow', But ow s.heap s'.heap → (AllBare s.gens → AllBare s'.gens) → (s'.os, s'.drawn) = (s.os, s.drawn) → (∀ b ∈ ow', b ∈ ow ∨ s.heap.get? b = none) → l ∉ ow' → (match nextOut ns st.sg with
      | none => Q none s'
      | some (v, σ') => GV w L l vs ns gi n (.on σ') s'.gens s'.heap ow' → ∀ t, Q (some (.int v t)) s')) :
    wpAny (model pr w) A (pyNext (.ref a)) Q E s := by
  have hlim : s.heap.NoLimit := (T.up fun b o e => of_hideAll _ e).nolimit
  have din : A.in1.depth + 10 < recursionLimit := by
    show A.depth + 10 < _
    lia
  cases st with
  | fresh =>
    obtain ⟨rfl, hg, hl', m, hns, hm⟩ := X
    have hgs : gi < s.gens.size := (Array.getElem?_eq_some_iff.mp hg).1
    refine gen_next hh hlim (by lia) hgen hg (.inl ⟨rfl, rfl, rfl⟩) ?_
    refine start_go hi (fun q => hl (List.mem_singleton.mpr q)) n A.in1 _ _ m hc hh din T hns hm hl' fun I e s' hI b g o q hbare => ?_
    have sub : ∀ x ∈ [L, I], x ∈ [L] ∨ s.heap.get? x = none := fun x hx => by
      rcases List.mem_cons.mp hx with rfl | hx
      · exact .inl (.head _)
      · rcases List.mem_singleton.mp hx with rfl; exact .inr hI
    have hlI : l ∉ [L, I] := fun hx => by
      rcases List.mem_cons.mp hx with rfl | hx
      · exact hl (.head _)
      · rcases List.mem_singleton.mp hx with rfl
        obtain ⟨o, e, _⟩ := hL
        have : s.heap.get? l = none := hI
        rw [e] at this; cases this
    have K := k
    cases hq : nextOut ns (Gst.fresh).sg with
    | none =>
      have hq' : nextOut ns (.head 0 none) = none := hq
      rw [hq'] at q
      obtain rfl := q
      refine ⟨rfl, fun h' kp => ?_⟩
      have := K { s'.setGen gi .finished with heap := h' } [L, I] (fun x o' hx e' => kp _ _ (b x o' hx e')) (bare_set rfl g) o sub hlI
      rw [hq] at this; exact this
    | some p =>
      obtain ⟨v, σ'⟩ := p
      have hq' : nextOut ns (.head 0 none) = some (v, σ') := hq
      rw [hq'] at q
      obtain ⟨⟨t, g', l', k', c, p, fs, rfl⟩, hC, hR⟩ := q
      have := K (s'.setGen gi (End.susp (.int v t) g' l' k' c p fs).genState) [L, I] b (bare_set hbare g) o sub hlI
      rw [hq] at this
      exact this ⟨I, _, rfl, gens_at hgs g, hR, hC⟩ t
  | on σ =>
    obtain ⟨I, gs, rfl, hg, hR, hC⟩ := X
    have hgs : gi < s.gens.size := (Array.getElem?_eq_some_iff.mp hg).1
    obtain ⟨c₀, t₀, fs₀, hw, go⟩ := hR
    refine gen_next hh hlim (by lia) hgen hg hw ?_
    refine go A.in1 _ _ hh din T hC fun e s' b g o q hbare => ?_
    have sub : ∀ x ∈ [L, I], x ∈ [L, I] ∨ s.heap.get? x = none := fun x hx => .inl hx
    have K := k
    cases hq : nextOut ns (Gst.on σ).sg with
    | none =>
      have hq' : nextOut ns σ = none := hq
      rw [hq'] at q
      obtain rfl := q
      refine ⟨rfl, fun h' kp => ?_⟩
      have := K { s'.setGen gi .finished with heap := h' } [L, I] (fun x o' hx e' => kp _ _ (b x o' hx e')) (bare_set rfl g) o sub hl
      rw [hq] at this; exact this
    | some p =>
      obtain ⟨v, σ'⟩ := p
      have hq' : nextOut ns σ = some (v, σ') := hq
      rw [hq'] at q
      obtain ⟨⟨t, g', l', k', c, p, fs, rfl⟩, hC', hR'⟩ := q
      have := K (s'.setGen gi (End.susp (.int v t) g' l' k' c p fs).genState) [L, I] b (bare_set hbare g) o sub hl
      rw [hq] at this
      exact this ⟨I, _, rfl, gens_at hgs g, hR', hC'⟩ t
end Mine
end

section
open PySem PySem.W PyProof.Rows
namespace Mine
open PySem.W.X
/-- a for over the generator -/
theorem gen_loop {w : World} {A : Around} {s : Shared} {G : Array GenState} {O : OsState × Drawn} {g : Heap} {env : Env} {cs : List (Str × Addr)} {m cm : Str → Option Value} {led : Led} {Q : Flow → Shared → Prop} {R : Result → Shared → Prop}
    {x : Str} {px : Pos} {body : List Stmt} {a L l : Addr} {vs : List Value} {ns : List Int} {gi k0 : Nat}
    (hi : IntsAre vs ns) (hh : A.handled = none) (hd : A.depth + 20 < recursionLimit) (T : Tp w g) (S : St G O g env cs m cm led s) (hb : AllBare G) (hgen : s.heap.IsGen a gi) (ha : a ∉ owns env cs led) (X : GV w L l vs ns gi (k0 + 1) .fresh G s.heap [L])
    (hL : L ∉ owns env cs led) (gL : g.get? L = none) (hl : l ∉ owns env cs led) (lL : l ≠ L) (aL : a ≠ L) (J : Nat → Gst → (Str → Option Value) → (Str → Option Value) → Led → Prop) (hJ : J k0 .fresh m cm led)
    (calm : ∀ k st m cm led, J k st m cm led → Calm ns st.sg)
    (turn : ∀ k st m cm led G g' s v t σ', J k st m cm led → nextOut ns st.sg = some (v, σ') → Kp g g' → AllBare G → St G O g' env cs m cm led s →
      wpAny (model pr w) A (assign (.Name x px) env (.int v t)) (fun _ s₂ => wpAny (model pr w) A (execs body env) (fun f s₃ => match f with
        | .next | .cont => ∃ k' m' cm' led', k' < k ∧ J k' (.on σ') m' cm' led' ∧ St G O g' env cs m' cm' led' s₃
        | .brk => Q .next s₃
        | .ret v => Q (.ret v) s₃) (fun _ _ => False) s₂) (fun _ _ => False) s)
    (fin : ∀ k st m cm led G s, J k st m cm led → nextOut ns st.sg = none → AllBare G → St G O g env cs m cm led s → Q .next s) (hR : ∀ f s', Q f s' → R (.ok f) s') :
    codeAny (model pr w) A (.forLoop (.Name x px) (.ref a) body [] env) R s := by
  have hll : s.heap.IsList l vs.toArray := X.2.2.1
  refine codeAny_forLoop_any (fun k s => ∃ st m cm led G ow, J k st m cm led ∧ AllBare G ∧ St G O g env cs m cm led s ∧ GV w L l vs ns gi (k + 1) st G s.heap ow ∧ s.heap.IsGen a gi ∧ s.heap.IsList l vs.toArray ∧
    (∀ b ∈ ow, b ∉ owns env cs led ∧ g.get? b = none) ∧ a ∉ owns env cs led ∧ l ∉ owns env cs led ∧ l ∉ ow ∧ a ∉ ow) ?_ k0
    ⟨.fresh, m, cm, led, G, [L], hJ, hb, S, X, hgen, hll, fun b hb => by rcases List.mem_singleton.mp hb with rfl; exact ⟨hL, gL⟩, ha, hl, fun q => lL (List.mem_singleton.mp q), fun q => aL (List.mem_singleton.mp q)⟩
  rintro k s₀ ⟨st, m, cm, led, G, ow, hJ, hb, S, X, hgen, hll, how, ha, hl, hlo, hao⟩
  have T' : Tp w (hideAll s₀.heap ow) := T.up fun b o e => hideAll_get _ (S.keep b o e) fun hb => by rw [(how b hb).2] at e; cases e
  have hW : ∀ b ∈ ow, g.get? b = none ∧ b ∉ owns env cs led := fun b hb => ⟨(how b hb).2, (how b hb).1⟩
  refine gen_step (st := st) (n := k) hi hh hd T' (calm _ _ _ _ _ hJ) hlo (by rw [S.gens]; exact X) hgen hll fun s₁ ow' but bare os sub hlo' => ?_
  have S₁ : St s₁.gens O g env cs m cm led s₁ := (S.other (h' := s₁.heap) (tk := s₁.toks) ow hW but).growS (s' := s₁) Kp.rfl rfl os
  have hb₁ : AllBare s₁.gens := bare (by rw [S.gens]; exact hb)
  have hgen₁ : s₁.heap.IsGen a gi := by
    obtain ⟨o, b, c, e, r⟩ := hgen
    exact ⟨o, b, c, but _ _ hao e, r⟩
  have hll₁ : s₁.heap.IsList l vs.toArray := by
    obtain ⟨o, e, r⟩ := hll
    exact ⟨o, but _ _ hlo e, r⟩
  have hao' : a ∉ ow' := fun q => by
    rcases sub a q with q | q
    · exact hao q
    · obtain ⟨o, b, c, e, r⟩ := hgen
      rw [q] at e; cases e
  have how' : ∀ b ∈ ow', b ∉ owns env cs led ∧ g.get? b = none := fun b hb' => by
    rcases sub b hb' with q | q
    · exact how b q
    · exact ⟨S.newOff q, S.newG q⟩
  cases hq : nextOut ns st.sg with
  | none => exact wpAny_execs_nil (hR _ _ (fin k st m cm led _ s₁ hJ hq hb₁ S₁))
  | some p =>
    obtain ⟨v, σ'⟩ := p
    intro X' t
    refine wpAny_pure ?_
    have S₂ := S₁.rebase
    refine wpAny_mono (turn k st m cm led s₁.gens _ s₁ v t σ' hJ hq S₁.frzKp hb₁ S₂) (fun _ s₂ q => wpAny_mono q (fun f s₃ q₃ => ?_) fun _ _ e => e.elim) fun _ _ e => e.elim
    have nxt : (∃ k' m' cm' led', k' < k ∧ J k' (.on σ') m' cm' led' ∧ St s₁.gens O (frz s₁.heap env cs led) env cs m' cm' led' s₃) → ∃ k', k' < k ∧ ∃ st m cm led G ow, J k' st m cm led ∧ AllBare G ∧ St G O g env cs m cm led s₃ ∧ GV w L l vs ns gi (k' + 1) st G s₃.heap ow ∧ s₃.heap.IsGen a gi ∧ s₃.heap.IsList l vs.toArray ∧
        (∀ b ∈ ow, b ∉ owns env cs led ∧ g.get? b = none) ∧ a ∉ owns env cs led ∧ l ∉ owns env cs led ∧ l ∉ ow ∧ a ∉ ow := by
      rintro ⟨k', m', cm', led', hk, hJ', S'⟩
      have up : ∀ b, b ∉ owns env cs led → ∀ o, s₁.heap.get? b = some o → s₃.heap.get? b = some o := fun b hb o e => S'.keep _ _ (hideAll_get _ e hb)
      have off : ∀ b, b ∉ owns env cs led → (∃ o, s₁.heap.get? b = some o) → b ∉ owns env cs led' := fun b hb ⟨o, e⟩ => S'.offBase (hideAll_get _ e hb)
      refine ⟨k', hk, .on σ', m', cm', led', s₁.gens, ow', hJ', hb₁, S'.low S₁.frzKp, (X'.less (by omega)).frame fun b hb' => ?_, ?_, ?_, fun b hb' => ⟨off b (how' b hb').1 (X'.live b hb'), (how' b hb').2⟩, off a ha ?_, off l hl ?_, hlo', hao'⟩
      · rcases hb' with rfl | hb'
        · exact up _ hl
        · exact up b (how' b hb').1
      · obtain ⟨o, b, c, e, r⟩ := hgen₁
        exact ⟨o, b, c, up _ ha _ e, r⟩
      · obtain ⟨o, e, r⟩ := hll₁
        exact ⟨o, up _ hl _ e, r⟩
      · obtain ⟨o, b, c, e, r⟩ := hgen₁; exact ⟨_, e⟩
      · obtain ⟨o, e, r⟩ := hll₁; exact ⟨_, e⟩
    cases f with
    | next => exact nxt q₃
    | cont => exact nxt q₃
    | brk => exact hR _ _ q₃
    | ret v => exact hR _ _ q₃
end Mine
end

section
open PySem PySem.W PyProof.Rows
namespace Mine
open PySem.W.X
/-- c marks from f on, n apart -/
def mk (f n c : Nat) : List Int := (List.range c).map fun i => ((f + n * i : Nat) : Int)
theorem mk_length {f n c : Nat} : (mk f n c).length = c := by simp [mk]
theorem mk_succ {f n c : Nat} : mk f n (c + 1) = mk f n c ++ [((f + n * c : Nat) : Int)] := by simp [mk, List.range_succ]
theorem g_grouping {w : World} : mgOf w "_grouping_intervals" = some (.ref 21) := rfl
theorem g_marks {w : World} : mgOf w "_law_marks" = some (.ref 105) := rfl
theorem IntsAre.snoc {vs : List Value} {ns : List Int} {x : Int} {t : Tok} (h : IntsAre vs ns) : IntsAre (vs ++ [.int x t]) (ns ++ [x]) := h.append (.cons x t .nil)
def StM (f n c : Nat) : Gst → Prop
  | .fresh => c = 0
  | .on σ => 1 ≤ c ∧ (σ = .head 1 (some (f : Int)) ∨ σ = .head 2 (some (n : Int)) ∨ σ = .whl (n : Int))
/-- _law_marks([f, n, 0, 5], last) -/
theorem marks_call {w : World} {A : Around} {s : Shared} {Q : Value → Shared → Prop} {E : Value → Shared → Prop} {l : Addr} {vs : List Value} {nn f n last : Nat} {t : Tok} (T : Tp w s.heap) (hh : A.handled = none) (hd : A.depth + 30 < recursionLimit)
    (ho : s.heap.get? l = some (lst vs nn)) (hi : IntsAre vs [(f : Int), (n : Int), 0, 5]) (hf1 : 1 ≤ f) (hf : f < 127) (hn1 : 1 ≤ n) (hn : n < 127) (hlast : last ≤ 100000) (hb : AllBare s.gens)
    (k : ∀ s' l' vs' n' c, s.heap.get? l' = none → s'.heap.get? l' = some (lst vs' n') → IntsAre vs' (mk f n c) → last < f + n * c → (∀ i, i < c → f + n * i ≤ last) → Kp s.heap s'.heap → AllBare s'.gens → (s'.os, s'.drawn) = (s.os, s.drawn) → Q (.ref l') s') :
    wpAny (model pr w) A (call (.ref 105) [.ref l, .int (last : Nat) t] []) Q E s := by
  refine def_call T (by lia) rfl rfl (code_rec T rfl rfl) rfl (BindsTo.of_eq rfl) (nocell rfl) (locs rfl) fun s₁ S₁ T₁ => ?_
  refine x_cons (x_setN S₁ .lst0 fun lm o s₂ s₃ ho' k₂ S₃ => ?_)
  subst ho'
  refine x_cons (x_setI S₃ .cint fun t₄ s₄ S₄ => ?_)
  have T₄ : Tp w s₄.heap := T.up S₄.keep
  refine x_cons (wpAny_For (callF_of (.glob T₄ g_grouping) (T₄.k 21 _ rfl) rfl (.args1 (.name (S₄.loc rfl))) fun vs' h' tk k' r => ?_) fun _ => rfl)
  obtain ⟨_, rfl, rfl⟩ := r
  have S₅ := S₄.grow k' tk
  refine gen_make (s := { s₄ with heap := h', toks := tk }) (T₄.up k') (by show A.depth + 1 < _; lia) fun h₆ tk₆ a k₆ hna hgen hns haL => ?_
  have hgL : ∀ {b}, h'.get? b = none → b ∉ owns (callEnv _ s.heap.objs.size 105) [] [(lm, lst [] 0)] := fun hb => S₅.newOff hb
  have e₄ : s₄.gens = s.gens := S₄.gens
  have S₆ : St (s.gens.push (.fresh (.func (bodyG w) (ge w h'.objs.size)))) (s.os, s.drawn) s.heap _ [] _ _ _ { s₄ with heap := h₆, toks := tk₆, gens := s₄.gens.push (.fresh (.func (bodyG w) (callEnv (fdG w) h'.objs.size 21))) } :=
    S₅.growS (s' := { s₄ with heap := h₆, toks := tk₆, gens := s₄.gens.push (.fresh (.func (bodyG w) (callEnv (fdG w) h'.objs.size 21))) }) k₆ (by show s₄.gens.push _ = _; rw [e₄]; rfl) rfl
  refine wpAny_pyIter_gen hgen ?_
  have hol : h₆.get? l = some (lst vs nn) := k₆ _ _ (k' _ _ (S₄.keep _ _ ho))
  have lne : l ≠ h'.objs.size := Nat.ne_of_lt (Heap.lt_size (k' _ _ (S₄.keep _ _ ho)))
  have hoff : ∀ {b o}, s.heap.get? b = some o → b ∉ owns (callEnv _ s.heap.objs.size 105) [] [(lm, lst [] 0)] := fun e => S₅.offBase e
  refine gen_loop (w := w) (L := h'.objs.size) (l := l) (vs := vs) (gi := s₄.gens.size) (k0 := last + 1) hi hh (by show A.depth + 1 + 20 < _; lia) T S₆ (hb.push rfl) hgen (hgL hna) ⟨rfl, ?_, isList_lst hol, _, hns, rfl⟩ (hgL none_of_new) (S₅.newG none_of_new) (hoff ho) lne haL
    (fun kk st m cm led => ∃ c mark t t' ml vs' n', StM f n c st ∧ m "marks" = some (.ref ml) ∧ m "mark" = some (.int (mark : Nat) t) ∧ m "last" = some (.int (last : Nat) t') ∧ led = [(ml, lst vs' n')] ∧ IntsAre vs' (mk f n c) ∧ (c = 0 → mark = 0) ∧ (1 ≤ c → mark + n = f + n * c) ∧ (∀ i, i < c → f + n * i ≤ last) ∧ kk + mark = last + 1 ∧ c ≤ mark)
    ⟨0, 0, _, _, _, _, _, rfl, rfl, rfl, rfl, rfl, .nil, fun _ => rfl, fun h => by lia, fun i h => by lia, by lia, by lia⟩ ?_ ?_ ?_ fun f s' q => q
  · rw [e₄]; simp
  · rintro kk st m cm led ⟨c, mark, t, t', ml, vs', n', hst, -⟩
    cases st with
    | fresh =>
      intro q
      simp at q; lia
    | on σ =>
      obtain ⟨-, rfl | rfl | rfl⟩ := hst
      · intro _ q; cases q
      · intro _ q; cases q
      · trivial
  · rintro kk st m cm led G g' s₇ v tv σ' ⟨c, mark, t, t', ml, vs', n', hst, e1, e2, e3, rfl, hi', h1, h2, h3, h4, h5⟩ hq kg hbG S₇
    -- what comes next
    have nx : ∃ v' : Nat, v = (v' : Int) ∧ 1 ≤ v' ∧ mark + v' = f + n * c ∧ StM f n (c + 1) (.on σ') := by
      cases st with
      | fresh =>
        have hc : c = 0 := hst
        subst hc
        have h1' := h1 rfl
        simp only [Gst.sg, nextOut, List.getElem?_cons_zero] at hq
        rw [if_neg (by lia), if_neg (by lia)] at hq
        cases hq
        exact ⟨f, rfl, hf1, by lia, by lia, .inl rfl⟩
      | on σ =>
        obtain ⟨hc, hσ⟩ := hst
        have h2' := h2 hc
        rcases hσ with rfl | rfl | rfl
        · simp only [Gst.sg, nextOut, List.getElem?_cons_succ, List.getElem?_cons_zero] at hq
          rw [if_neg (by lia), if_neg (by lia)] at hq
          cases hq
          exact ⟨n, rfl, hn1, h2', by lia, .inr (.inl rfl)⟩
        · simp only [Gst.sg, nextOut, List.getElem?_cons_succ, List.getElem?_cons_zero] at hq
          rw [if_neg (by decide), if_pos (by decide)] at hq
          cases hq
          exact ⟨n, rfl, hn1, h2', by lia, .inr (.inr rfl)⟩
        · simp only [Gst.sg, nextOut] at hq
          cases hq
          exact ⟨n, rfl, hn1, h2', by lia, .inr (.inr rfl)⟩
    obtain ⟨v', rfl, hv1, hv, hst'⟩ := nx
    refine S₇.asg fun s₈ S₈ => ?_
    refine x_cons (x_aug (a := (mark : Nat)) (b := (v' : Nat)) (c := ((f + n * c : Nat) : Int)) S₈ e2 (.nameI (S₈.loc rfl)) (fun t u h => by rw [← hv, Int.natCast_add]; exact iadd_I) fun t₉ s₉ S₉ => ?_)
    refine x_cons (x_if S₉ (.tgt (.nameI (S₉.loc rfl)) (.nameI (S₉.loc e3))) (fun hgt s₁₀ k₁₀ S₁₀ => ?_) fun hle s₁₀ k₁₀ S₁₀ => ?_)
    · refine x_cons (wpAny_Break ?_)
      have hgt' : last < f + n * c := Int.ofNat_lt.mp (of_decide_eq_true hgt)
      have S₁₁ := S₁₀.low kg
      refine x_cons (x_ret S₁₁ (.name (S₁₁.loc e1)) fun v s₁₂ r k₁₂ S₁₂ => ?_)
      obtain rfl := r
      refine k s₁₂ ml vs' n' c (S₁₂.own _ (.head _)).2.1 (S₁₂.mem 0 rfl) hi' hgt' h3 S₁₂.keep (by rw [S₁₂.gens]; exact hbG) S₁₂.os
    · have hle' : f + n * c ≤ last := Nat.not_lt.mp fun q => of_decide_eq_false hle (Int.ofNat_lt.mpr q)
      refine x_nil (x_cons (x_append (i := 0) S₁₀ (S₁₀.loc e1) rfl (.name (S₁₀.loc rfl)) (by have := hi'.length; rw [mk_length] at this; show vs'.length ≤ _; lia) fun v s₁₁ s₁₂ r k₁₁ S₁₂ => ?_))
      obtain rfl := r
      refine x_nil ⟨kk - v', _, _, _, ?_, ⟨c + 1, f + n * c, t₉, t', ml, _, _, hst', by exact e1, by rfl, by exact e3, by rfl, ?_, fun h => by lia, fun _ => by rw [Nat.mul_succ]; lia, fun i hi => ?_, ?_, ?_⟩, S₁₂⟩
      · lia
      · rw [mk_succ]; exact IntsAre.snoc hi'
      · rcases Nat.lt_or_eq_of_le (Nat.le_of_lt_succ hi) with h | rfl
        · exact h3 i h
        · exact hle'
      · lia
      · have := Nat.le_mul_of_pos_left c hn1; lia
  · rintro kk st m cm led G s₇ ⟨c, mark, t, t', ml, vs', n', hst, -⟩ hq
    exfalso
    cases st with
    | fresh =>
      simp only [Gst.sg, nextOut, List.getElem?_cons_zero] at hq
      rw [if_neg (by lia), if_neg (by lia)] at hq
      cases hq
    | on σ =>
      obtain ⟨-, rfl | rfl | rfl⟩ := hst
      · simp only [Gst.sg, nextOut, List.getElem?_cons_succ, List.getElem?_cons_zero] at hq
        rw [if_neg (by lia), if_neg (by lia)] at hq
        cases hq
      · simp only [Gst.sg, nextOut, List.getElem?_cons_succ, List.getElem?_cons_zero] at hq
        rw [if_neg (by decide), if_pos (by decide)] at hq
        cases hq
      · simp only [Gst.sg, nextOut] at hq
        cases hq
end Mine
end

section
open PySem PySem.W PyProof.Rows
namespace Mine
section
variable {w : World} {A : Around} {env : Env} {h : Heap}
/-- len(e), e a list -/
theorem Pv.lenE {e : Expr} {pf pos : Pos} {N : Nat} (T : Tp w h) (p : Pv pr w A h (eval e env) (fun v h' => ∃ l vs n, v = .ref l ∧ h'.get? l = some (lst vs n) ∧ vs.length = N)) (hz : N ≤ 1000000)
    (he : starEach [e] env = [(false, eval e env)] := by rfl) (hg : env.globals = mainGlobals := by rfl) (hbi : env.builtins = builtinsNs := by rfl) (hk : env.scope.kind = .function := by rfl) (hx : env.kindOf "len" = some .globalImplicit := by rfl) :
    Pv pr w A h (eval (.Call (.Name "len" pf) [e] [] pos) env) (In (N : Nat)) :=
  .callB (R₁ := fun vs h' => ∃ l ws n, vs = [.ref l] ∧ h'.get? l = some (lst ws n) ∧ ws.length = N) (.boot T g_len b_len (by decide) hg hbi hk hx) (.splC p (fun v h' k r => .spl0 fun h₂ k₂ => by
    obtain ⟨l, vs, n, rfl, ho, hl⟩ := r
    exact ⟨l, vs, n, rfl, k₂ _ _ ho, hl⟩) he) (fun vs h' k r => by
    obtain ⟨l, ws, n, rfl, ho, rfl⟩ := r
    exact len_pv ho (by lia)) (by rw [he]; rfl) (by rw [he]; rfl)
theorem Pv.lenN {ln : Str} {pl pf pos : Pos} {l : Addr} {vs : List Value} {n : Nat} (T : Tp w h) (r : Rd env h ln (.ref l)) (ho : h.get? l = some (lst vs n)) (hz : vs.length ≤ 1000000) (hd : (ln == ("__debug__" : Str)) = false := by decide)
    (hg : env.globals = mainGlobals := by rfl) (hbi : env.builtins = builtinsNs := by rfl) (hk : env.scope.kind = .function := by rfl) (hx : env.kindOf "len" = some .globalImplicit := by rfl) :
    Pv pr w A h (eval (.Call (.Name "len" pf) [.Name ln pl] [] pos) env) (In (vs.length : Nat)) :=
  .lenE T (fun s Q E ks q => Pv.name r hd s Q E ks fun v h' tk k e => q v h' tk k ⟨l, vs, n, e, (ks.trans k) _ _ ho, rfl⟩) hz rfl hg hbi hk hx
end
end Mine
end

section
open PySem PySem.W PyProof.Rows
namespace Mine
open PySem.W.X
theorem g_told {w : World} : mgOf w "_law_told" = some (.ref 98) := rfl
def StT (f n c : Nat) : Gst → Prop
  | .fresh => c = 0
  | .on σ => (c = 1 ∧ σ = .head 1 (some (f : Int))) ∨ (c = 2 ∧ σ = .head 2 (some (n : Int)))
/-- _law_told([f, n] ..), f > 0 -/
theorem told_call {w : World} {A : Around} {s : Shared} {Q : Value → Shared → Prop} {E : Value → Shared → Prop} {l : Addr} {vs : List Value} {nn f n : Nat} {rest : List Int} (T : Tp w s.heap) (hh : A.handled = none) (hd : A.depth + 30 < recursionLimit)
    (ho : s.heap.get? l = some (lst vs nn)) (hi : IntsAre vs ((f : Int) :: (n : Int) :: rest)) (hf1 : 1 ≤ f) (hf : f < 127) (hn1 : 1 ≤ n) (hn : n < 127) (hrest : rest = [] ∨ rest = [127, 5]) (hb : AllBare s.gens)
    (k : ∀ s' l' vs' n', s.heap.get? l' = none → s'.heap.get? l' = some (lst vs' n') → IntsAre vs' [(f : Int), (n : Int)] → Kp s.heap s'.heap → AllBare s'.gens → (s'.os, s'.drawn) = (s.os, s.drawn) → Q (.ref l') s') :
    wpAny (model pr w) A (call (.ref 98) [.ref l] []) Q E s := by
  refine def_call T (by lia) rfl rfl (code_rec T rfl rfl) rfl (BindsTo.of_eq rfl) (nocell rfl) (locs rfl) fun s₁ S₁ T₁ => ?_
  refine x_cons (x_setN S₁ .lst0 fun lm o s₂ s₄ ho' k₂ S₄ => ?_)
  subst ho'
  have T₄ : Tp w s₄.heap := T.up S₄.keep
  refine x_cons (wpAny_Try_except (x_cons (wpAny_For (callF_of (.glob T₄ g_grouping) (T₄.k 21 _ rfl) rfl (.args1 (.name (S₄.loc rfl))) fun vs' h' tk k' r => ?_) fun _ => rfl)))
  obtain ⟨_, rfl, rfl⟩ := r
  have S₅ := S₄.grow k' tk
  refine gen_make (s := { s₄ with heap := h', toks := tk }) (T₄.up k') (by show A.depth + 1 < _; lia) fun h₆ tk₆ a k₆ hna hgen hns haL => ?_
  have hgL : ∀ {b}, h'.get? b = none → b ∉ owns (callEnv _ s.heap.objs.size 98) [] [(lm, lst [] 0)] := fun hb => S₅.newOff hb
  have e₄ : s₄.gens = s.gens := S₄.gens
  have S₆ : St (s.gens.push (.fresh (.func (bodyG w) (ge w h'.objs.size)))) (s.os, s.drawn) s.heap _ [] _ _ _ { s₄ with heap := h₆, toks := tk₆, gens := s₄.gens.push (.fresh (.func (bodyG w) (callEnv (fdG w) h'.objs.size 21))) } :=
    S₅.growS (s' := { s₄ with heap := h₆, toks := tk₆, gens := s₄.gens.push (.fresh (.func (bodyG w) (callEnv (fdG w) h'.objs.size 21))) }) k₆ (by show s₄.gens.push _ = _; rw [e₄]; rfl) rfl
  refine wpAny_pyIter_gen hgen ?_
  have hol : h₆.get? l = some (lst vs nn) := k₆ _ _ (k' _ _ (S₄.keep _ _ ho))
  have lne : l ≠ h'.objs.size := Nat.ne_of_lt (Heap.lt_size (k' _ _ (S₄.keep _ _ ho)))
  have hoff : ∀ {b o}, s.heap.get? b = some o → b ∉ owns (callEnv _ s.heap.objs.size 98) [] [(lm, lst [] 0)] := fun e => S₅.offBase e
  have n0 : ∀ c st, StT f n c st → nextOut ((f : Int) :: (n : Int) :: rest) st.sg = match c with | 0 => some ((f : Int), .head 1 (some (f : Int))) | 1 => some ((n : Int), .head 2 (some (n : Int))) | _ => none := by
    intro c st h
    cases st with
    | fresh =>
      obtain rfl : c = 0 := h
      simp only [Gst.sg, nextOut, List.getElem?_cons_zero]
      rw [if_neg (by lia), if_neg (by lia)]
    | on σ =>
      rcases h with ⟨rfl, rfl⟩ | ⟨rfl, rfl⟩
      · simp only [Gst.sg, nextOut, List.getElem?_cons_succ, List.getElem?_cons_zero]
        rw [if_neg (by lia), if_neg (by lia)]
      · rcases hrest with rfl | rfl
        · simp [Gst.sg, nextOut]
        · simp [Gst.sg, nextOut]
  refine gen_loop (w := w) (L := h'.objs.size) (l := l) (vs := vs) (gi := s₄.gens.size) (k0 := 2) hi hh (by show A.depth + 1 + 20 < _; lia) T S₆ (hb.push rfl) hgen (hgL hna) ⟨rfl, by rw [e₄]; simp, isList_lst hol, _, hns, rfl⟩ (hgL none_of_new) (S₅.newG none_of_new) (hoff ho) lne haL
    (fun kk st m cm led => ∃ c ml vs' n', StT f n c st ∧ m "sizes" = some (.ref ml) ∧ led = [(ml, lst vs' n')] ∧ IntsAre vs' ([(f : Int), (n : Int)].take c) ∧ kk + c = 2)
    ⟨0, _, _, _, rfl, rfl, rfl, .nil, rfl⟩ ?_ ?_ ?_ fun f s' q => q
  · rintro kk st m cm led ⟨c, ml, vs', n', hst, -⟩
    cases st with
    | fresh =>
      intro q
      simp at q; lia
    | on σ => rcases hst with ⟨-, rfl⟩ | ⟨-, rfl⟩ <;> (intro _ q; cases q)
  · rintro kk st m cm led G g' s₇ v tv σ' ⟨c, ml, vs', n', hst, e1, rfl, hi', hkc⟩ hq kg hbG S₇
    rw [n0 c st hst] at hq
    have nx : StT f n (c + 1) (.on σ') ∧ [(f : Int), (n : Int)].take (c + 1) = [(f : Int), (n : Int)].take c ++ [v] ∧ c < 2 := by
      match c, hq with
      | 0, hq => cases hq; exact ⟨.inl ⟨rfl, rfl⟩, rfl, by lia⟩
      | 1, hq => cases hq; exact ⟨.inr ⟨rfl, rfl⟩, rfl, by lia⟩
    obtain ⟨hst', htk, hc⟩ := nx
    have hvl : vs'.length = c := by
      have := hi'.length
      rw [List.length_take] at this
      simp at this; lia
    refine S₇.asg fun s₈ S₈ => ?_
    refine x_cons (x_append (i := 0) S₈ (S₈.loc e1) rfl (.name (S₈.loc rfl)) (by show vs'.length ≤ _; lia) fun v s₉ s₁₀ r k₁₀ S₁₀ => ?_)
    obtain rfl := r
    have T₁₀ : Tp w s₁₀.heap := (T.up kg).up S₁₀.keep
    refine x_cons (x_if S₁₀ (.teq (.lenN T₁₀ (S₁₀.loc e1) (S₁₀.mem 0 rfl) (by simp; lia)) .cint) (fun hb' => ?_) fun _ s₁₁ k₁₁ S₁₁ => ?_)
    · exfalso
      rw [beq_iff_eq] at hb'
      rw [List.length_append] at hb'
      simp at hb'
      lia
    · refine x_nil (x_nil ⟨1 - c, _, _, _, by lia, ⟨c + 1, ml, _, _, hst', by exact e1, by rfl, ?_, by lia⟩, S₁₁⟩)
      rw [htk]; exact IntsAre.snoc hi'
  · rintro kk st m cm led G s₇ ⟨c, ml, vs', n', hst, e1, rfl, hi', hkc⟩ hq hbG S₇
    rw [n0 c st hst] at hq
    have hc : c = 2 := by
      match c, hq with
      | 0, hq => cases hq
      | 1, hq => cases hq
      | c + 2, _ => lia
    subst hc
    refine x_nil (x_nil (x_cons (x_ret S₇ (.name (S₇.loc e1)) fun v s₁₂ r k₁₂ S₁₂ => ?_)))
    obtain rfl := r
    exact k s₁₂ ml vs' n' (S₁₂.own _ (.head _)).2.1 (S₁₂.mem 0 rfl) hi' S₁₂.keep (by rw [S₁₂.gens]; exact hbG) S₁₂.os
end Mine
end

section
open PySem PySem.W PyProof.Rows
namespace Mine
section
variable {M : Model} {A : Around} {E : Value → Shared → Prop} {s : Shared}
open PySem (Heap.StaysIn Heap.FunFrames)
theorem FunFrames.move {h h' base : Heap} : ∀ {l : List Env}, h.FunFrames base l → (∀ b ∈ l.filterMap (·.frame), ∀ o, h.get? b = some o → ∃ o', h'.get? b = some o' ∧ o'.data = o.data) → h'.FunFrames base l
  | [], _, _ => trivial
  | env :: rest, ⟨hk, ⟨L, o, hf, hn, ho, hd⟩, hr⟩, k => by
    obtain ⟨o', e', d'⟩ := k L (by rw [List.filterMap_cons, hf]; exact .head _) o ho
    refine ⟨hk, ⟨L, o', hf, hn, e', fun vs => d' ▸ hd vs⟩, FunFrames.move hr fun b hb => k b ?_⟩
    rw [List.filterMap_cons, hf]; exact .tail _ hb
/-- the first note of a new exception -/
theorem noteFrame_first {base : Heap} {env : Env} {outer : List Env} {L e : Addr} {oe : Obj} {vs : Array Value} {a0 : Value} {Q : Unit → Shared → Prop}
    (hfr : A.frames = some (env :: outer)) (hl : s.heap.FunFrames base (env :: outer)) (hf : env.frame = some L)
    (he : s.heap.get? e = some oe) (hkb : base.StaysIn s.heap) (hen : base.get? e = none) (hd : oe.data = .fields vs) (h1 : vs[1]? = some .none) (h0 : vs[0]? = some a0)
    (h : ∀ h', Heap.NotedW base (env :: outer) e oe.cls a0 (rawInt L) s.heap h' → Q () { s with heap := h' }) : wpAny M A (noteFrame (.ref e) env) Q E s := by
  unfold noteFrame
  simp only [hf]
  refine wpAny_bind (wpAny_field he hd h1 ?_)
  rw [if_neg (by decide)]
  exact wpAny_entryW hfr hl hf he hkb hen hd (Array.getElem?_eq_some_iff.mp h1).1 h0 h
/-- the flight is laid anew -/
theorem setFlight_any {base : Heap} {l : List Env} {e L : Addr} {cls a0 fl : Value} {Q : Unit → Shared → Prop} (hkb : base.StaysIn s.heap) (hen : base.get? e = none) (hl : s.heap.FunFrames base l) (ht : s.heap.TracedAtW base e cls a0 fl)
    (h : ∀ h', Heap.HeldW base l e cls a0 L h' → s.heap.UpToSlots h' → Q () { s with heap := h' }) : wpAny M A (setFlight (.ref e) (some L)) Q E s := by
  obtain ⟨oe, vs, T, oT, ts, he, hcls, hd, h1, hnT, hTe, hT, hdT, h3⟩ := ht
  have hsz3 : 3 < ts.size := (Array.getElem?_eq_some_iff.mp h3).1
  have other : ∀ b, b ≠ T → (s.heap.update T (Obj.mapFields (·.setIfInBounds 3 ((some L).elim Value.none fun f => rawInt f)))).get? b = s.heap.get? b :=
    fun b hb => Heap.get?_update_other _ _ (Ne.symm hb)
  have noRecord : ∀ b o, s.heap.get? b = some o → (∀ vs, o.data ≠ .fields vs) → b ≠ T := fun b o hb hnf q => by
    rw [q, hT] at hb; injection hb with hb; subst hb; exact hnf ts hdT
  unfold setFlight
  refine wpAny_bind (wpAny_field he hd h1 ?_)
  rw [if_pos (show (Value.ref T != Value.none) = true from by simp)]
  refine wpAny_setField hT hdT hsz3 (h _ ⟨fun b o hbo => (other b fun q => by rw [q, hnT] at hbo; cases hbo).trans (hkb b o hbo), hen,
    hl.of_keeps fun b o hb hnf => ⟨o, (other b (noRecord b o hb hnf)).trans hb, rfl⟩, ?_⟩ fun b o hb hnf => ⟨o.slots, (other b (noRecord b o hb hnf)).trans hb⟩)
  exact ⟨oe, vs, T, _, _, (other e (Ne.symm hTe)).trans he, hcls, hd, h1, hnT, hTe, Heap.get?_update_self _ hT (Obj.isFreed_of_fields (Obj.data_mapFields hdT _)), Obj.data_mapFields hdT _, by simp [hsz3]⟩
/-- back from an own activation, the exception held by the frame -/
theorem back_held {base : Heap} {l : List Env} {env : Env} {e L : Addr} {cls a0 : Value} {Q : Unit → Shared → Prop} (hf : env.frame = some L) (x : Heap.HeldW base l e cls a0 L s.heap)
    (h : ∀ h', Heap.HeldW base l e cls a0 L h' → s.heap.UpToSlots h' → Q () { s with heap := h' }) : wpAny M A (do
    if (← field (.ref e) 1) == .none then unsupported "frame.own-activation:exception-without-traceback"
    setFlight (.ref e) env.frame) Q E s := by
  obtain ⟨f1, f2, f3, f4⟩ := x
  obtain ⟨oe, vs, T, oT, ts, he, hcls, hd, h1, hr⟩ := id f4
  refine wpAny_bind (wpAny_field he hd h1 ?_)
  rw [if_neg (show ¬ ((Value.ref T == Value.none) = true) from by simp), hf]
  exact setFlight_any f1 f2 f3 f4 h
theorem cameBack_held {base : Heap} {l : List Env} {env : Env} {e L : Addr} {cls a0 : Value} (hf : env.frame = some L) (x : Heap.HeldW base l e cls a0 L s.heap)
    (h : ∀ h', Heap.HeldW base l e cls a0 L h' → s.heap.UpToSlots h' → E (.ref e) { s with heap := h' }) : cameBackBy M A env E (.ref e) s := by
  unfold cameBackBy
  exact back_held hf x h
/-- an activation whose own objects alone have turned, its names the same -/
theorem St.moved {G G' : Array GenState} {O : OsState × Drawn} {g : Heap} {env : Env} {cs : List (Str × Addr)} {m cm : Str → Option Value} {led : Led} {s s' : Shared} (S : St G O g env cs m cm led s) (W : List Addr) (hW : ∀ b ∈ W, g.get? b = none ∧ (b = env.locals ∨ b ∉ owns env cs led))
    (k : ∀ b o, b ∉ W → s.heap.get? b = some o → s'.heap.get? b = some o) (hn : s'.heap.Ns env.locals m) (hg : s'.gens = G') (ho : (s'.os, s'.drawn) = (s.os, s.drawn)) : St G' O g env cs m cm led s' where
  gens := hg
  os := ho.trans S.os
  keep := fun b o e => k b o (fun hb => by rw [(hW b hb).1] at e; cases e) (S.keep b o e)
  ns := hn
  offL := S.offL
  cell := fun n c hc => by
    obtain ⟨o, e, r⟩ := S.cell n c hc
    refine ⟨o, k _ o (fun hb => ?_) e, r⟩
    rcases (hW _ hb).2 with q | q
    · exact (S.offC n c hc).2 q
    · exact q (List.mem_cons_of_mem _ (List.mem_append_left _ (List.mem_map_of_mem (f := fun x : Str × Addr => x.2) hc)))
  offC := S.offC
  apart := S.apart
  luk := S.luk
  own := fun p hp => ⟨k _ _ (fun hb => by
    rcases (hW _ hb).2 with q | q
    · exact (S.own p hp).2.2.1 q
    · exact q (List.mem_cons_of_mem _ (List.mem_append_right _ (List.mem_map_of_mem hp)))) (S.own p hp).1, (S.own p hp).2⟩
  nd := S.nd
end
end Mine
end

section
open PySem PySem.W PyProof.Rows
namespace Mine
open PySem.W.X
theorem g_valueError {w : World} : mgOf w "ValueError" = none := rfl
theorem b_valueError : bootBuiltins "ValueError" = some (.type "ValueError") := by decide +kernel
theorem Pv.cstr {prog : Program} {w : World} {A : Around} {env : Env} {h : Heap} {x : Str} {k : Nat} {pos : Pos} : Pv prog w A h (eval (.Constant (.str x) k pos) env) (fun _ _ => True) :=
  fun s _ _ _ q => Calls.Constant_str (q _ s.heap _ Kp.rfl trivial)
theorem over_frames {A : Around} {c : Code} {fs : List Frame} : (A.over c fs).frames = pushEnvs c.envs (pushEnvs (envsOf (fs.map Frame.where_)) A.frames) := rfl
/-- what stands once the generator has raised -/
def Raised (h : Heap) (L : Addr) (W : List Addr) (outer : List Env) (e : Addr) (h' : Heap) : Prop :=
  (∃ a0, Heap.FlyingW (hideAll h (L :: W)) outer e (.type "ValueError") a0 h') ∧ ∀ b ∈ W, ∀ o, h.get? b = some o → ∃ sl, h'.get? b = some { o with slots := sl }
theorem start_raise {w : World} {L l : Addr} {vs : List Value} {ns : List Int} {W : List Addr} {outer : List Env} (hi : IntsAre vs ns) (h0 : ns[0]? = some 0) (hlL : l ≠ L) (A : Around) (s : Shared) (P : End → Shared → Prop) (m : Str → Option Value)
    (hh : A.handled = none) (hd : A.depth + 10 < recursionLimit) (T : Tp w (hideAll s.heap [L])) (hns : s.heap.Ns L m) (hm : m "grouping" = some (.ref l)) (hl : s.heap.IsList l vs.toArray)
    (hfr : A.frames = some outer) (hF : s.heap.FunFrames (hideAll s.heap (L :: W)) outer) (hW : outer.filterMap (·.frame) = W) (hLW : L ∉ W)
    (post : ∀ e s', Raised s.heap L W outer e s'.heap → s'.gens = s.gens → (s'.os, s'.drawn) = (s.os, s.drawn) → P (.ret (.error (.ref e))) s') :
    SX pr w A (.func (bodyG w) (ge w L)) ((model pr w).den (.func (bodyG w) (ge w L))) [] s P := by
  have S := St.ofNs (env := ge w L) hns
  refine sx_func (sx_cons (sx_wrap (x_set S .cnone fun v s₁ s₂ r k S₂ => ?_)))
  obtain rfl := r
  refine sx_cons (sx_for (fun _ => rfl) (S₂.pv (.name (S₂.loc hm)) fun v s₃ r k₃ S₃ => ?_))
  obtain rfl := r
  have lk : ∀ {h' : Heap}, Kp (hideAll s.heap [L]) h' → h'.IsList l vs.toArray := fun k => by
    obtain ⟨o, e, r⟩ := hl
    exact ⟨o, k _ _ (hideAll_get _ e fun q => hlL (List.mem_singleton.mp q)), r⟩
  have hl₃ := lk S₃.keep
  refine wpAny_pyIter_list hl₃ fun p => ?_
  have S₄ := S₃.grow (Kp.push s₃.heap { cls := .type "list_iterator", data := .fields #[.ref l, .int 0 0] }) s₃.toks
  have hI := Heap.get?_push_size s₃.heap (o := { cls := .type "list_iterator", data := .fields #[.ref l, .int 0 0] }) rfl
  have hnI : s₃.heap.get? s₃.heap.objs.size = none := none_of_new
  generalize hIe : s₃.heap.objs.size = I at *
  have hIL : L ≠ I := by
    obtain ⟨o, es, ep, e, _⟩ := S₃.ns
    exact hIe ▸ Nat.ne_of_lt (Heap.lt_size e)
  refine sx_forLoop (fun _ => rfl) ?_
  obtain ⟨tx, hx⟩ := IntsAre.at? hi h0
  refine wpAny_pyNext_list_item ⟨_, hI, rfl, rfl⟩ (lk S₄.keep) (x := .int 0 tx) (by simpa using hx) fun h₅ hit₅ hs₅ => ?_
  have S₅ := S₄.other (h' := h₅) (tk := s₃.toks) [I] (fun b hb => by
    rcases List.mem_singleton.mp hb with rfl
    refine ⟨S₃.newG hnI, S₃.newOff hnI⟩) (fun b o hb e => (hs₅.2 b fun q => hb (List.mem_singleton.mpr q)).trans e)
  refine S₅.asg fun s₆ S₆ => ?_
  have T₆ : Tp w s₆.heap := T.up S₆.keep
  obtain ⟨tc, gc⟩ := g_charmax (w := w)
  refine sx_cons (sx_if (S₆.pv (.teq (.nameI (S₆.loc rfl)) (.nameI (.glob T₆ gc))) fun b s₇ r k₇ S₇ => ?_))
  obtain rfl := r
  rw [if_neg (by decide)]
  refine sx_nil ?_
  refine sx_cons (sx_if (S₇.pv (.teq (.nameI (S₇.loc rfl)) .cint) fun b s₈ r k₈ S₈ => ?_))
  obtain rfl := r
  rw [if_pos (by decide)]
  refine sx_cons (sx_if (S₈.pv (.tisNone (.name (S₈.loc (v := .none) rfl))) fun b s₉ r k₉ S₉ => ?_))
  obtain rfl := r
  rw [if_pos (by decide)]
  refine sx_cons (sx_wrap (wpAny_Raise_call F.excCall_ValueError F.excRaise_ValueError (by exact hh) rfl ?_))
  have T₉ : Tp w s₉.heap := T.up S₉.keep
  refine S₉.pv (.name (.boot T₉ g_valueError b_valueError)) fun v s₁₀ r k₁₀ S₁₀ => ?_
  obtain rfl := r
  refine ⟨rfl, evalArgs_of rfl ?_⟩
  refine Pv.args1 (P := fun _ => True) Pv.cstr rfl s₁₀ _ _ Kp.rfl fun vs h' tk k r => ?_
  obtain ⟨v, rfl, -⟩ := r
  have S₁₀ := S₁₀.grow k tk
  refine ⟨rfl, (by show 1 ≤ sizeLine; rw [sizeLine_eq]; lia), fun h₁₁ e hx => ?_⟩
  -- the heap when the exception is new
  obtain ⟨te, hte, htn, htt⟩ := hx.there
  have k₁₁ : Kp (hideAll s.heap [L]) h₁₁ := fun b o e' => hx.keeps _ _ (S₁₀.keep _ _ e')
  have kB : Kp (hideAll s.heap (L :: W)) h₁₁ := fun b o e' => k₁₁ b o (hideAll_get [L] (of_hideAll _ e') fun q => by
    rw [hideAll_none (L :: W) (show b ∈ L :: W by rw [List.mem_singleton.mp q]; exact .head _)] at e'; cases e')
  have hen : (hideAll s.heap (L :: W)).get? e = none := by
    cases q : (hideAll s.heap (L :: W)).get? e with
    | none => rfl
    | some o =>
      have : h'.get? e = some o := S₁₀.keep _ _ (hideAll_get [L] (of_hideAll _ q) fun q' => by
        rw [hideAll_none (L :: W) (show e ∈ L :: W by rw [List.mem_singleton.mp q']; exact .head _)] at q; cases q)
      rw [hx.new] at this; cases this
  have hn₁₁ : h₁₁.Ns L _ := S₁₀.ns.keeps hx.keeps
  have kW : ∀ b ∈ W, ∀ o, s.heap.get? b = some o → h₁₁.get? b = some o := fun b hb o e' => k₁₁ _ _ (hideAll_get [L] e' fun q => hLW (List.mem_singleton.mp q ▸ hb))
  have hF₁₁ : h₁₁.FunFrames (hideAll s.heap (L :: W)) (ge w L :: outer) :=
    Heap.FunFrames.cons (by rw [show (ge w L).scope.kind = .function from rfl]; decide) rfl hn₁₁ (hideAll_none _ (.head _)) (FunFrames.move hF fun b hb o e' => ⟨o, kW b (hW ▸ hb) o e', rfl⟩)
  have hWf : ∀ b ∈ W, ∀ o, s.heap.get? b = some o → ∀ vs, o.data ≠ .fields vs := fun b hb o e' => by
    obtain ⟨_, o', e₂, hd⟩ := hF.mem (hW ▸ hb)
    rw [e'] at e₂; cases e₂; exact hd
  -- noted in the loop
  show SX pr w A _ (loopH (ge w L) (.ref e)) _ _ P
  unfold loopH
  refine sx_wrap (wpAny_bind (noteFrame_first (base := hideAll s.heap (L :: W)) (outer := outer) (L := L) (by rw [over_frames, hfr]; rfl) hF₁₁ rfl hte kB hen rfl rfl rfl fun h₁₂ hN => wpAny_theTreesLotGoes ?_))
  obtain ⟨n1, n2, n3, n4⟩ := hN
  refine s_pop pr w A _ _ _ _ (.error (.ref e)) _ rfl _ _ _ _ _ _ _ ?_
  unfold ownK
  refine sx_wrap (wpAny_onRaise (wpAny_throw ?_))
  refine back_held (base := hideAll s.heap (L :: W)) (l := ge w L :: outer) (L := L) (cls := .type "ValueError") (a0 := .ref te) (env := ge w L) rfl ⟨by exact n1, hen, by exact n2, by exact n3⟩ fun h₁₃ hH up₁₃ => ?_
  show SX pr w A _ (funcH (ge w L) (.ref e)) _ _ P
  unfold funcH leaving
  refine sx_wrap (wpAny_bind (wpAny_noteFrame_againW (base := hideAll s.heap (L :: W)) (L := L) rfl hH.2.2.2 (wpAny_landsW hH fun h₁₄ hFl up₁₄ => ?_)))
  refine s_end pr w A _ _ _ (.error (.ref e)) _ rfl (post e _ ⟨⟨.ref te, hFl.1, hFl.2.1, hFl.2.2.1.2.2, hFl.2.2.2⟩, fun b hb o e' => ?_⟩ S₁₀.gens S₁₀.os)
  obtain ⟨sl₁, q₁⟩ := n4 b o (kW b hb o e') (hWf b hb o e')
  obtain ⟨sl₂, q₂⟩ := up₁₃ b _ q₁ (hWf b hb o e')
  exact up₁₄ b { o with slots := sl₂ } q₂ (hWf b hb o e')
end Mine
end

section
open PySem PySem.W PyProof.Rows
namespace Mine
open PySem.W.X
theorem notStop_ValueError : isSubtype (.type "ValueError") (.type "StopIteration") = pure false := by rw [isSubtype_type]; kernel_rfl
theorem gen_next_raise {w : World} {A : Around} {s : Shared} {Q : Option Value → Shared → Prop} {E : Value → Shared → Prop} {a L l : Addr} {vs : List Value} {ns : List Int} {gi : Nat} {W : List Addr} {outer : List Env} {m : Str → Option Value}
    (hi : IntsAre vs ns) (h0 : ns[0]? = some 0) (hlL : l ≠ L) (hh : A.handled = none) (hd : A.depth + 20 < recursionLimit) (T : Tp w (hideAll s.heap [L])) (hns : s.heap.Ns L m) (hm : m "grouping" = some (.ref l)) (hl : s.heap.IsList l vs.toArray)
    (hgen : s.heap.IsGen a gi) (hg : s.gens[gi]? = some (.fresh (.func (bodyG w) (ge w L)))) (ha : a ∉ L :: W)
    (hfr : A.frames = some outer) (hF : s.heap.FunFrames (hideAll s.heap (L :: W)) outer) (hW : outer.filterMap (·.frame) = W) (hLW : L ∉ W)
    (k : ∀ e s', Raised s.heap L W outer e s'.heap → (AllBare s.gens → AllBare s'.gens) → (s'.os, s'.drawn) = (s.os, s.drawn) → E (.ref e) s') :
    wpAny (model pr w) A (pyNext (.ref a)) Q E s := by
  have hlim : s.heap.NoLimit := (T.up fun b o e => of_hideAll _ e).nolimit
  unfold pyNext
  have key : wpAny (model pr w) A.in1 (Builtin.Generator.genWake (.ref a) (.send .none)) (fun _ _ => False) (fun x s' => ∃ e, x = .ref e ∧ Raised s.heap L W outer e s'.heap ∧ (AllBare s.gens → AllBare s'.gens) ∧ (s'.os, s'.drawn) = (s.os, s.drawn)) s := by
    unfold Builtin.Generator.genWake
    refine wpAny_bind (wpAny_holding (wpAny_genNumber hgen (wpAny_bind (wpAny_genState hg ?_))))
    refine wpAny_bind (wpAny_roomToWake hlim (by show A.depth < _; lia) ?_)
    show wpAny _ _ (.resume gi (.send .none) [] _) _ _ s
    refine resumeX hg (.inl ⟨rfl, rfl, rfl⟩) (start_raise hi h0 hlL A.in1 _ _ m hh (by show A.depth + 10 < _; lia) T hns hm hl hfr hF hW hLW fun e s' R g o hbare => ?_)
    show wpAny _ _ (Builtin.Generator.genLeft (.ref a) (.ref e)) _ _ _
    unfold Builtin.Generator.genLeft Builtin.Generator.madeByALambda
    obtain ⟨oa, b, c, ea, ra⟩ := id hgen
    have ea' : s'.heap.get? a = some oa := by
      obtain ⟨⟨a0, hst, _⟩, _⟩ := R
      exact hst _ _ (hideAll_get _ ea ha)
    obtain ⟨ob, he, hc⟩ := R.1.elim fun a0 x => x.there
    refine wpAny_bind (wpAny_bind (wpAny_load ea' (wpAny_pure ?_)))
    refine wpAny_bind (wpAny_isInstance (T := "ValueError") (b := false) ⟨_, he, hc⟩ notStop_ValueError ?_)
    rw [Bool.and_false, if_neg (by decide)]
    unfold Builtin.Generator.genEscaped
    have ht : (s'.setGen gi (End.ret (Except.error (Value.ref e))).genState).TypeIs (.ref e) "ValueError" := ⟨_, he, hc⟩
    refine wpAny_bind (wpAny_isInstance (T := "ValueError") (b := false) ht notStop_ValueError ?_)
    rw [if_pos (by decide)]
    refine wpAny_throw ⟨e, rfl, R, bare_set rfl g, o⟩
  refine wpAny_bind (wpAny_attempt (wpAny_callSpecial?_slot (name := Str.ofString "__next__") hgen.typeIs slot_gen_next
    (wpAny_call_entry slot_gen_next hgen.typeIs entry_gen_next ?_ (args_gen_next _))))
  show wpAny _ _ (Builtin.Generator.genWake (.ref a) (.send .none)) _ _ s
  refine wpAny_mono key (fun _ _ q => q.elim) fun x s' q => ?_
  obtain ⟨e, rfl, R, hb, ho⟩ := q
  obtain ⟨ob, he, hc⟩ := R.1.elim fun a0 x => x.there
  have ht : s'.TypeIs (.ref e) "ValueError" := ⟨_, he, hc⟩
  refine wpAny_bind (wpAny_isInstance (T := "ValueError") (b := false) ht notStop_ValueError ?_)
  rw [if_neg (by decide)]
  exact wpAny_throw (k e s' R hb ho)
end Mine
end

section
open PySem PySem.W PyProof.Rows
namespace Mine
open PySem.W.X
theorem FunFrames.re {h h' base base' : Heap} : ∀ {l : List Env}, h.FunFrames base l → (∀ b ∈ l.filterMap (·.frame), base'.get? b = none ∧ ∀ o, h.get? b = some o → ∃ o', h'.get? b = some o' ∧ o'.data = o.data) → h'.FunFrames base' l
  | [], _, _ => trivial
  | env :: rest, ⟨hk, ⟨L, o, hf, hn, ho, hd⟩, hr⟩, k => by
    obtain ⟨hn', k'⟩ := k L (by rw [List.filterMap_cons, hf]; exact .head _)
    obtain ⟨o', e', d'⟩ := k' o ho
    refine ⟨hk, ⟨L, o', hf, hn', e', fun vs => d' ▸ hd vs⟩, FunFrames.re hr fun b hb => k b ?_⟩
    rw [List.filterMap_cons, hf]; exact .tail _ hb
theorem Ns.slots {h h' : Heap} {L : Addr} {m : Str → Option Value} (hn : h.Ns L m) (k : ∀ o, h.get? L = some o → ∃ sl, h'.get? L = some { o with slots := sl }) : h'.Ns L m := by
  obtain ⟨o, es, ep, e, hd, r⟩ := hn
  obtain ⟨sl, e'⟩ := k _ e
  exact ⟨_, es, ep, e', hd, r⟩
theorem isSub_ValueError : isSubtype (.type "ValueError") (.type "ValueError") = pure true := by rw [isSubtype_type]; kernel_rfl
theorem isExc_ValueError : isSubtype (.type "ValueError") (.type "BaseException") = pure true := by rw [isSubtype_type]; kernel_rfl
theorem notTup_ValueError : isSubtype (.type ((Manifest.find? "ValueError").elim "type" fun x => x.metatype)) (.type "tuple") = pure false := by
  rw [isSubtype_type]; kernel_rfl
/-- _law_told([0, n] ..) -/
theorem told0_call {w : World} {A : Around} {s : Shared} {Q : Value → Shared → Prop} {E : Value → Shared → Prop} {l : Addr} {vs : List Value} {nn : Nat} {ns : List Int} {W : List Addr} {outer : List Env} (T : Tp w (hideAll s.heap W)) (hh : A.handled = none) (hd : A.depth + 30 < recursionLimit)
    (ho : s.heap.get? l = some (lst vs nn)) (hlW : l ∉ W) (hi : IntsAre vs ns) (h0 : ns[0]? = some 0) (hb : AllBare s.gens) (hfr : A.frames = some outer) (hF : s.heap.FunFrames (hideAll s.heap W) outer) (hW : outer.filterMap (·.frame) = W)
    (k : ∀ s' l' vs' n', s.heap.get? l' = none → s'.heap.get? l' = some (lst vs' n') → IntsAre vs' [-1] → Kp (hideAll s.heap W) s'.heap → (∀ b ∈ W, ∀ o, s.heap.get? b = some o → ∃ sl, s'.heap.get? b = some { o with slots := sl }) → AllBare s'.gens → (s'.os, s'.drawn) = (s.os, s.drawn) → Q (.ref l') s') :
    wpAny (model pr w) A (call (.ref 98) [.ref l] []) Q E s := by
  have Ts : Tp w s.heap := T.up fun b o e => of_hideAll _ e
  refine def_call Ts (by lia) rfl rfl (code_rec Ts rfl rfl) rfl (BindsTo.of_eq rfl) (nocell rfl) (locs rfl) fun s₁ S₁ T₁ => ?_
  refine x_cons (x_setN S₁ .lst0 fun lm o s₂ s₄ ho' k₂ S₄ => ?_)
  subst ho'
  have T₄ : Tp w s₄.heap := Ts.up S₄.keep
  refine x_cons (wpAny_Try_except (x_cons (wpAny_For (callF_of (.glob T₄ g_grouping) (T₄.k 21 _ rfl) rfl (.args1 (.name (S₄.loc rfl))) fun vs' h' tk k' r => ?_) fun _ => rfl)))
  obtain ⟨_, rfl, rfl⟩ := r
  have S₅ := S₄.grow k' tk
  refine gen_make (s := { s₄ with heap := h', toks := tk }) (T₄.up k') (by show A.depth + 1 < _; lia) fun h₆ tk₆ a k₆ hna hgen hns haL => ?_
  refine wpAny_pyIter_gen hgen ?_
  have S₆ := S₅.growS (s' := { s₄ with heap := h₆, toks := tk₆, gens := s₄.gens.push (.fresh (.func (bodyG w) (callEnv (fdG w) h'.objs.size 21))) }) k₆ rfl rfl
  have S₆' := S₆.low (g := hideAll s.heap W) fun b o e => of_hideAll _ e
  have hnL : h'.get? h'.objs.size = none := none_of_new
  have hb₆ : AllBare (s₄.gens.push (.fresh (.func (bodyG w) (callEnv (fdG w) h'.objs.size 21)))) := AllBare.push (by rw [S₄.gens]; exact hb) rfl
  have hLg : ∀ {b o}, h'.get? b = some o → b ≠ h'.objs.size := fun e => Nat.ne_of_lt (Heap.lt_size e)
  have hLt : ∃ o, h'.get? s.heap.objs.size = some o := by
    obtain ⟨o, es, ep, e, _⟩ := S₅.ns
    exact ⟨o, e⟩
  obtain ⟨oT, eT⟩ := hLt
  have new0 : s.heap.get? s.heap.objs.size = none := none_of_new
  have hWs : ∀ b ∈ W, ∃ o, s.heap.get? b = some o ∧ ∀ vs, o.data ≠ .fields vs := fun b hb => (hF.mem (hW ▸ hb)).2
  have kh : ∀ {b o}, s.heap.get? b = some o → h₆.get? b = some o := fun e => S₆.keep _ _ e
  have kh' : ∀ {b o}, s.heap.get? b = some o → h'.get? b = some o := fun e => S₅.keep _ _ e
  have LgW : h'.objs.size ∉ s.heap.objs.size :: W := fun q => by
    rcases List.mem_cons.mp q with q | q
    · exact hLg eT q.symm
    · obtain ⟨o, e, _⟩ := hWs _ q
      exact hLg (kh' e) rfl
  have LtW : s.heap.objs.size ∉ W := fun q => by
    obtain ⟨o, e, _⟩ := hWs _ q
    rw [new0] at e; cases e
  have aW : a ∉ h'.objs.size :: s.heap.objs.size :: W := fun q => by
    rcases List.mem_cons.mp q with q | q
    · exact haL q
    · rcases List.mem_cons.mp q with q | q
      · have : h'.get? a = none := hna
        rw [q, eT] at this; cases this
      · obtain ⟨o, e, _⟩ := hWs _ q
        have : h'.get? a = none := hna
        rw [kh' e] at this; cases this
  generalize henv : (callEnv _ s.heap.objs.size 98 : Env) = env at *
  have hef : env.frame = some s.heap.objs.size := by rw [← henv]; rfl
  have hel : env.locals = s.heap.objs.size := by rw [← henv]; rfl
  have hek : env.scope.kind ≠ .module := by rw [← henv]; show ScopeKind.function ≠ ScopeKind.module; decide
  have hns₆ : h₆.Ns s.heap.objs.size _ := hel ▸ S₆.ns
  have hfr₁ : (A.deeper env).frames = some (env :: outer) := Around.frames_deeper hfr
  have hF₆ : h₆.FunFrames (hideAll h₆ (h'.objs.size :: s.heap.objs.size :: W)) (env :: outer) :=
    Heap.FunFrames.cons hek hef hns₆ (hideAll_none _ (.tail _ (.head _))) (FunFrames.re hF fun b hb => ⟨hideAll_none _ (.tail _ (.tail _ (hW ▸ hb))), fun o e => ⟨o, kh e, rfl⟩⟩)
  have hW₆ : (env :: outer).filterMap (·.frame) = s.heap.objs.size :: W := by rw [List.filterMap_cons, hef, hW]
  have T₆ : Tp w (hideAll h₆ [h'.objs.size]) := Ts.up fun b o e => hideAll_get _ (kh e) fun q => hLg (kh' e) (List.mem_singleton.mp q)
  have hol : h₆.get? l = some (lst vs nn) := kh ho
  refine codeAny_forLoop_any (fun _ s' => s' = { s₄ with heap := h₆, toks := tk₆, gens := s₄.gens.push (.fresh (.func (bodyG w) (callEnv (fdG w) h'.objs.size 21))) }) ?_ 0 rfl
  rintro _ _ rfl
  refine gen_next_raise (L := h'.objs.size) (l := l) (vs := vs) (ns := ns) (gi := s₄.gens.size) (W := s.heap.objs.size :: W) (outer := env :: outer) hi h0 (hLg (kh' ho)) hh (by show A.depth + 1 + 20 < _; lia) T₆ hns rfl (isList_lst hol) hgen (by simp [ge]) aW hfr₁ hF₆ hW₆ LgW fun e s₇ R bare os₇ => ?_
  obtain ⟨⟨a0, hfl⟩, hsl⟩ := R
  have os₇' : (s₇.os, s₇.drawn) = (s.os, s.drawn) := os₇.trans S₆.os
  -- noted by the loop
  unfold notedBy
  refine wpAny_looks_onW hfr₁ hef hfl fun h₈ hH₈ u₈ => ?_
  -- back in the frame
  refine cameBack_held hef hH₈ fun h₉ hH₉ u₉ => ?_
  refine wpAny_noteFrame_againW (base := hideAll h₆ (h'.objs.size :: s.heap.objs.size :: W)) hef hH₉.2.2.2 (wpAny_landsW hH₉ fun h₁₀ hf₁₀ u₁₀ => ?_)
  have hch : s₇.heap.UpToSlots h₁₀ := (u₈.trans u₉).trans u₁₀
  have slo : ∀ b ∈ s.heap.objs.size :: W, ∀ o, h₆.get? b = some o → ∃ sl, h₁₀.get? b = some { o with slots := sl } := fun b hb o e => by
    obtain ⟨sl₁, q₁⟩ := hsl b hb o e
    obtain ⟨_, o', e', hd⟩ := hF₆.mem (hW₆ ▸ hb)
    rw [e] at e'; cases e'
    exact hch b { o with slots := sl₁ } q₁ hd
  have keepH : ∀ hx : Heap, (hideAll h₆ (h'.objs.size :: s.heap.objs.size :: W)).StaysIn hx → Kp (hideAll s.heap W) hx := fun hx st b o e => by
    have e' := of_hideAll _ e
    refine st _ _ (hideAll_get _ (kh e') fun q => ?_)
    rcases List.mem_cons.mp q with q | q
    · exact hLg (kh' e') q
    · rcases List.mem_cons.mp q with q | q
      · rw [q, new0] at e'; cases e'
      · rw [hideAll_none _ q] at e; cases e
  have Tx : Tp w h₁₀ := T.up (keepH _ hf₁₀.1)
  obtain ⟨ob, heo, hec⟩ := hf₁₀.there
  have hbx : AllBare s₇.gens := bare hb₆
  subst henv
  refine wpAny_handleBy_builtin (X := "ValueError") (T := "ValueError") (b := true) isExc_ValueError notTup_ValueError isSub_ValueError ?_
  refine wpAny_Name ((Rd.boot Tx g_valueError b_valueError : Rd _ _ _ _) _ _ _ _ _ Kp.rfl ⟨rfl, ⟨ob, heo, hec⟩, ?_⟩) (by decide)
  rw [if_pos rfl]
  refine wpAny_setFlight_noneW hf₁₀.1 hf₁₀.2.2.1 hf₁₀.2.2.2.at fun h₁₁ k1 k2 k3 k4 => ?_
  have slo₁ : ∀ b ∈ s.heap.objs.size :: W, ∀ o, h₆.get? b = some o → ∃ sl, h₁₁.get? b = some { o with slots := sl } := fun b hb o e => by
    obtain ⟨sl₁, q₁⟩ := slo b hb o e
    obtain ⟨_, o', e', hd⟩ := hF₆.mem (hW₆ ▸ hb)
    rw [e] at e'; cases e'
    exact ⟨sl₁, k4 b { o with slots := sl₁ } q₁ hd⟩
  have nsx := Ns.slots hns₆ (slo₁ _ (.head _))
  have Sx := S₆'.moved (s' := { s₇ with heap := h₁₁ }) (h'.objs.size :: s.heap.objs.size :: W) (fun b hb' => by
    rcases List.mem_cons.mp hb' with rfl | hb'
    · exact ⟨(S₅.low (g := hideAll s.heap W) fun b o e => of_hideAll _ e).newG hnL, .inr (S₅.newOff hnL)⟩
    · rcases List.mem_cons.mp hb' with rfl | hb'
      · refine ⟨?_, .inl hel.symm⟩
        cases q : (hideAll s.heap W).get? s.heap.objs.size with
        | none => rfl
        | some o => have := of_hideAll _ q; rw [new0] at this; cases this
      · obtain ⟨o, e, _⟩ := hWs b hb'
        exact ⟨hideAll_none _ hb', .inr (S₅.offBase e)⟩) (fun b o hb' e => k1 _ _ (hideAll_get _ e hb')) nsx rfl os₇
  have Sy := Sx.rebase
  have woff : ∀ b ∈ W, b ∉ owns (callEnv _ s.heap.objs.size 98) [] [(lm, lst [] 0)] := fun b hb' => by
    obtain ⟨o, e, _⟩ := hWs b hb'
    exact S₅.offBase e
  refine x_cons (x_append (i := 0) Sy (Sy.loc rfl) rfl (.negI .cint) (by show 0 ≤ _; lia) fun v s₁₂ s₁₃ r k₁₃ S₁₃ => ?_)
  obtain ⟨tv, rfl⟩ := r
  refine x_nil (x_cons (x_ret S₁₃ (.name (S₁₃.loc rfl)) fun v s₁₄ r k₁₄ S₁₄ => ?_))
  obtain rfl := r
  have hlm := S₁₄.own _ (.head _)
  refine k s₁₄ lm _ _ ?_ hlm.1 (.cons (-1) tv .nil) (Sx.frzKp.trans S₁₄.keep) (fun b hb' o e => ?_) (by rw [S₁₄.gens]; exact hbx) S₁₄.os
  · exact (S₅.own _ (.head _)).2.1
  · obtain ⟨sl, q⟩ := slo₁ b (.tail _ hb') o (kh e)
    exact ⟨sl, S₁₄.keep _ _ (hideAll_get _ q (woff b hb'))⟩
end Mine
end

section
open PySem PySem.W PyProof.Rows
namespace Mine
section
variable {prog : Program} {w : World} {A : Around} {E : Value → Shared → Prop} {G : Array GenState} {O : OsState × Drawn} {g g' h h₁ : Heap} {env cenv : Env} {cs : List (Str × Addr)} {m cm : Str → Option Value} {led : Led} {s : Shared}

theorem Pv.tests0 : Pv prog w A h (tests [] env) (Eb true) := .ofPure fun _ _ => rfl
theorem Pv.tests1 {c : Expr} {b : Bool} (p : Pv prog w A h (isTrue c env (eval c env)) (Eb b)) : Pv prog w A h (tests [c] env) (Eb b) := by
  intro s Q E ks q
  show wpAny _ A (forIn [c] true _) Q E s
  simp only [List.forIn_cons, if_true]
  refine wpAny_bind (wpAny_bind (p s _ E ks fun v h' tk k r => ?_))
  obtain rfl := r
  refine wpAny_pure ?_
  show wpAny _ A (forIn [] v _) Q E _
  simp only [List.forIn_nil]
  exact wpAny_pure (q v h' tk k rfl)

/-- what a comprehension of plain values gives -/
abbrev NewL (h : Heap) (F : List Value → Prop) : Value → Heap → Prop := New h fun o _ => ∃ ys nn, o = lst ys nn ∧ F ys

theorem Pv.compN {elt iter : Expr} {x : Str} {px : Pos} {ifs : List Expr} {scope : Scope} {cl : List (Str × Addr)} {pos : Pos} {R₁ : Value → Heap → Prop} {n : Nat} {P : Nat → Value → Prop} (b : Nat → Bool) (R : Nat → Value → Prop) (F : Nat → List Value → Prop)
    (p : Pv prog w A h (eval iter env) R₁) (src : ∀ v h', Kp h h' → R₁ v h' → Src prog w A (.Name x px) v h' n (fun i v _ => P i v)) (hsz : n ≤ 1000000)
    (tb : ∀ i v C h₁, i < n → P i v → Kp h h₁ → Rd (compE scope cl C env) h₁ x v → Pv prog w A h₁ (tests ifs (compE scope cl C env)) (Eb (b i)))
    (te : ∀ i v C h₁, i < n → P i v → b i = true → Kp h h₁ → Rd (compE scope cl C env) h₁ x v → Pv prog w A h₁ (eval elt (compE scope cl C env)) (fun y _ => R i y))
    (f0 : F 0 []) (ft : ∀ i ys y, i < n → b i = true → R i y → F i ys → F (i + 1) (ys ++ [y])) (ff : ∀ i ys, i < n → b i = false → F i ys → F (i + 1) ys)
    (hl : ∀ C, (compE scope cl C env).kindOf x = some .local := by intro _; rfl) (hk' : ∀ C, (compE scope cl C env).scope.kind = .function := by intro _; rfl)
    (hclos : closureFor scope env = pure cl := by rfl) (hkind : scope.kind = .function := by rfl) (hnn : ((cellsFrom 0 scope.names []).map (·.1)).Nodup := by decide)
    (hnames : (scope.names.all fun x => decide (x.2 ≠ .local) || decide (scope.names.lookup x.1 = some .local)) = true := by rfl)
    (hs : ∀ x, foldedSetIterable iter env x = pure x := by intro _; rfl) :
    Pv prog w A h (eval (.ListComp elt [⟨.Name x px, iter, ifs, 0⟩] scope pos) env) (NewL h (F n)) := by
  refine (Pv.comp (cl := cl) (fun i ys led => led = [] ∧ F i ys) p src hsz ⟨rfl, f0⟩ ?_ hclos hkind hnn hnames hs).mono fun v h' k r => ?_
  · rintro G O C D i v ys nn m cm led g' s hi hp ⟨rfl, hf⟩ kg S
    refine S.asg (fun s₂ S₂ => ?_) (hk' C) (hl C)
    have k₂ : Kp h s₂.heap := kg.trans S₂.keep
    refine S₂.pv (tb i v C s₂.heap hi hp k₂ (S₂.loc (up_self) (hk' C) (hl C))) fun ok s₃ r k₃ S₃ => ?_
    obtain rfl := r
    cases hb : b i with
    | false => exact ⟨_, _, [], ⟨rfl, ff i ys hi hb hf⟩, S₃⟩
    | true =>
      rw [if_pos rfl]
      refine S₃.pv (te i v C s₃.heap hi hp hb (k₂.trans k₃) (S₃.loc (up_self) (hk' C) (hl C))) fun y s₄ r k₄ S₄ => ?_
      exact ⟨_, _, [], ⟨rfl, ft i ys y hi hb r hf⟩, S₄⟩
  · obtain ⟨D, ys, nn, led, rfl, ⟨rfl, hf⟩, hn, ho, _⟩ := r
    exact ⟨D, _, rfl, hn, ho, ys, nn, rfl, hf⟩

/-- the same, the target a cell -/
theorem Pv.compK {elt iter : Expr} {x : Str} {px : Pos} {ifs : List Expr} {scope : Scope} {cl : List (Str × Addr)} {pos : Pos} {R₁ : Value → Heap → Prop} {n : Nat} {P : Nat → Value → Prop} (b : Nat → Bool) (R : Nat → Value → Prop) (F : Nat → List Value → Prop)
    (p : Pv prog w A h (eval iter env) R₁) (src : ∀ v h', Kp h h' → R₁ v h' → Src prog w A (.Name x px) v h' n (fun i v _ => P i v)) (hsz : n ≤ 1000000)
    (tb : ∀ i v C h₁, i < n → P i v → Kp h h₁ → Rd (compE scope cl C env) h₁ x v → (∀ c, (compE scope cl C env).cells.lookup x = some c → h₁.IsCell c (some v)) → Pv prog w A h₁ (tests ifs (compE scope cl C env)) (Eb (b i)))
    (te : ∀ i v C h₁, i < n → P i v → b i = true → Kp h h₁ → Rd (compE scope cl C env) h₁ x v → (∀ c, (compE scope cl C env).cells.lookup x = some c → h₁.IsCell c (some v)) → Pv prog w A h₁ (eval elt (compE scope cl C env)) (fun y _ => R i y))
    (f0 : F 0 []) (ft : ∀ i ys y, i < n → b i = true → R i y → F i ys → F (i + 1) (ys ++ [y])) (ff : ∀ i ys, i < n → b i = false → F i ys → F (i + 1) ys)
    (hl : ∀ C, (compE scope cl C env).kindOf x = some .cell := by intro _; rfl) (hk' : ∀ C, (compE scope cl C env).scope.kind = .function := by intro _; rfl)
    (hc : ∀ C : Nat, (cellsFrom (C + 1) scope.names []).lookup x = some (C + 1) := by intro _; rfl) (hc' : ∀ C : Nat, (compE scope cl C env).cells.lookup x = some (C + 1) := by intro _; rfl)
    (hclos : closureFor scope env = pure cl := by rfl) (hkind : scope.kind = .function := by rfl) (hnn : ((cellsFrom 0 scope.names []).map (·.1)).Nodup := by decide)
    (hnames : (scope.names.all fun x => decide (x.2 ≠ .local) || decide (scope.names.lookup x.1 = some .local)) = true := by rfl)
    (hs : ∀ x, foldedSetIterable iter env x = pure x := by intro _; rfl) :
    Pv prog w A h (eval (.ListComp elt [⟨.Name x px, iter, ifs, 0⟩] scope pos) env) (NewL h (F n)) := by
  refine (Pv.comp (cl := cl) (fun i ys led => led = [] ∧ F i ys) p src hsz ⟨rfl, f0⟩ ?_ hclos hkind hnn hnames hs).mono fun v h' k r => ?_
  · rintro G O C D i v ys nn m cm led g' s hi hp ⟨rfl, hf⟩ kg S
    refine S.asgC (c := C + 1) (fun s₂ S₂ => ?_) (hc C) (hc' C) (hk' C) (hl C)
    have k₂ : Kp h s₂.heap := kg.trans S₂.keep
    have cell : ∀ {s' : Shared} {m' : Str → Option Value} {G O g' led'}, St G O g' (compE scope cl C env) (cellsFrom (C + 1) scope.names []) m' (Mine.up cm x v) led' s' → ∀ c, (compE scope cl C env).cells.lookup x = some c → s'.heap.IsCell c (some v) := fun S' c e => by
      rw [hc' C] at e; cases e
      have := S'.cell x (C + 1) (PySem.mem_of_lookup (hc C))
      rw [up_self] at this; exact this
    refine S₂.pv (tb i v C s₂.heap hi hp k₂ (S₂.cel up_self (hc C) (hc' C) (hk' C) (hl C)) (cell S₂)) fun ok s₃ r k₃ S₃ => ?_
    obtain rfl := r
    cases hb : b i with
    | false => exact ⟨_, _, [], ⟨rfl, ff i ys hi hb hf⟩, S₃⟩
    | true =>
      rw [if_pos rfl]
      refine S₃.pv (te i v C s₃.heap hi hp hb (k₂.trans k₃) (S₃.cel up_self (hc C) (hc' C) (hk' C) (hl C)) (cell S₃)) fun y s₄ r k₄ S₄ => ?_
      exact ⟨_, _, [], ⟨rfl, ft i ys y hi hb r hf⟩, S₄⟩
  · obtain ⟨D, ys, nn, led, rfl, ⟨rfl, hf⟩, hn, ho, _⟩ := r
    exact ⟨D, _, rfl, hn, ho, ys, nn, rfl, hf⟩

/-- the same, the target a pair of names -/
theorem Pv.comp2 {elt iter : Expr} {x y : Str} {px py pt : Pos} {kt : Nat} {ifs : List Expr} {scope : Scope} {cl : List (Str × Addr)} {pos : Pos} {R₁ : Value → Heap → Prop} {ps : List (Int × Int)} (b : Nat → Bool) (R : Nat → Value → Prop) (F : Nat → List Value → Prop) (hh : A.handled = none)
    (p : Pv prog w A h (eval iter env) R₁) (src : ∀ v h', Kp h h' → R₁ v h' → ∃ l, v = .ref l ∧ Prs h' l ps) (hsz : ps.length ≤ 1000000) (hxy : x ≠ y)
    (tb : ∀ i q t u C h₁, ps[i]? = some q → Kp h h₁ → Rd (compE scope cl C env) h₁ x (.int q.1 t) → Rd (compE scope cl C env) h₁ y (.int q.2 u) → Pv prog w A h₁ (tests ifs (compE scope cl C env)) (Eb (b i)))
    (te : ∀ i q t u C h₁, ps[i]? = some q → b i = true → Kp h h₁ → Rd (compE scope cl C env) h₁ x (.int q.1 t) → Rd (compE scope cl C env) h₁ y (.int q.2 u) → Pv prog w A h₁ (eval elt (compE scope cl C env)) (fun y _ => R i y))
    (f0 : F 0 []) (ft : ∀ i ys y, i < ps.length → b i = true → R i y → F i ys → F (i + 1) (ys ++ [y])) (ff : ∀ i ys, i < ps.length → b i = false → F i ys → F (i + 1) ys)
    (hlx : ∀ C, (compE scope cl C env).kindOf x = some .local := by intro _; rfl) (hly : ∀ C, (compE scope cl C env).kindOf y = some .local := by intro _; rfl) (hk' : ∀ C, (compE scope cl C env).scope.kind = .function := by intro _; rfl)
    (hclos : closureFor scope env = pure cl := by rfl) (hkind : scope.kind = .function := by rfl) (hnn : ((cellsFrom 0 scope.names []).map (·.1)).Nodup := by decide)
    (hnames : (scope.names.all fun x => decide (x.2 ≠ .local) || decide (scope.names.lookup x.1 = some .local)) = true := by rfl)
    (hs : ∀ x, foldedSetIterable iter env x = pure x := by intro _; rfl) :
    Pv prog w A h (eval (.ListComp elt [⟨.Tuple [.Name x px, .Name y py] kt pt, iter, ifs, 0⟩] scope pos) env) (NewL h (F ps.length)) := by
  refine (Pv.comp (cl := cl) (P := fun i v h => ∃ T p t u, v = .ref T ∧ ps[i]? = some p ∧ IsTup h T #[.int p.1 t, .int p.2 u]) (n := ps.length) (fun i ys led => led = [] ∧ F i ys) p (fun v h' k r => by obtain ⟨l, rfl, hp⟩ := src v h' k r; exact Src.pairs hh hp) hsz ⟨rfl, f0⟩ ?_ hclos hkind hnn hnames hs).mono fun v h' k r => ?_
  · rintro G O C D i v ys nn m cm led g' s hi ⟨T, q, t, u, rfl, hq, ht⟩ ⟨rfl, hf⟩ kg S
    refine a_tup2 hh ht (fun h₁ k₁ => ?_)
    refine (S.grow k₁ s.toks).asg (fun s₂ S₂ => ?_) (hk' C) (hlx C)
    refine S₂.asg (fun s₂ S₂ => ?_) (hk' C) (hly C)
    have k₂ : Kp h s₂.heap := kg.trans S₂.keep
    have ex : Mine.up (Mine.up m x (.int q.1 t)) y (.int q.2 u) x = some (.int q.1 t) := by rw [up_ne hxy, up_self]
    refine S₂.pv (tb i q t u C s₂.heap hq k₂ (S₂.loc ex (hk' C) (hlx C)) (S₂.loc (up_self) (hk' C) (hly C))) fun ok s₃ r k₃ S₃ => ?_
    obtain rfl := r
    cases hb : b i with
    | false => exact ⟨_, _, [], ⟨rfl, ff i ys hi hb hf⟩, S₃⟩
    | true =>
      rw [if_pos rfl]
      refine S₃.pv (te i q t u C s₃.heap hq hb (k₂.trans k₃) (S₃.loc ex (hk' C) (hlx C)) (S₃.loc (up_self) (hk' C) (hly C))) fun y s₄ r k₄ S₄ => ?_
      exact ⟨_, _, [], ⟨rfl, ft i ys y hi hb r hf⟩, S₄⟩
  · obtain ⟨D, ys, nn, led, rfl, ⟨rfl, hf⟩, hn, ho, _⟩ := r
    exact ⟨D, _, rfl, hn, ho, ys, nn, rfl, hf⟩

/-- x or y, truths -/
theorem Pv.orB {x y : Expr} {pos : Pos} {a b : Bool} (p : Pv prog w A h (eval x env) (Bo a)) (q : Pv prog w A h (eval y env) (Bo b)) : Pv prog w A h (eval (.BoolOp .Or [x, y] pos) env) (Bo (a || b)) :=
  fun s Q E ks k => BoolOp_or (p s _ E ks fun v h' tk k₁ r => by
    obtain rfl := r
    refine wpAny_truthy_bool ?_
    cases a with
    | true => exact k _ h' tk k₁ rfl
    | false =>
      rw [if_neg Bool.false_ne_true]
      exact BoolOp_one (q _ Q E (ks.trans k₁) fun v₂ h₂ tk₂ k₂ r₂ => k v₂ h₂ tk₂ (k₁.trans k₂) r₂))
theorem Pv.truthB {e : Expr} {whole : Sem Value} {a : Bool} (p : Pv prog w A h whole (Bo a)) (he : isTrue e env whole = (do let v ← whole; standAt e.pos; holding [v] (truthy v)) := by rfl) : Pv prog w A h (isTrue e env whole) (Eb a) :=
  fun s Q E ks q => isTrue_plain (p s _ E ks fun v h' tk k r => by obtain rfl := r; exact wpAny_truthy_bool (q _ h' tk k rfl)) he
/-- i in l -/
theorem Pv.tinI {l r : Expr} {pos : Pos} {whole : Sem Value} {i : Int} {ns : List Int} (x : Pv prog w A h (eval l env) (In i)) (y : ∀ h', Kp h h' → Pv prog w A h' (eval r env) (NewL h' fun ys => IntsAre ys ns)) (hm : behindInMarks .In r = false := by with_unfolding_all rfl) :
    Pv prog w A h (isTrue (.Compare l [.In] [r] pos) env whole) (Eb (ns.any (· == i))) :=
  Pv.tcmp (R₂ := fun v₁ v₂ h' => (∃ t, v₁ = .int i t) ∧ ∃ D ys nn, v₂ = .ref D ∧ h'.get? D = some (lst ys nn) ∧ IntsAre ys ns) x (fun v h' k e => (y h' k).mono fun v₂ h₂ k₂ e₂ => by
    obtain ⟨D, o, rfl, _, ho, ys, nn, rfl, hi⟩ := e₂
    exact ⟨e, D, ys, nn, rfl, ho, hi⟩) (fun v₁ v₂ h' k e s Q E ks q => by
    obtain ⟨⟨t, rfl⟩, D, ys, nn, rfl, ho, hi⟩ := e
    exact in_list_ints (isList_lst (ks _ _ ho)) hi (q _ s.heap s.toks Kp.rfl rfl)) hm

theorem Rd.cellK {x : Str} {v : Value} {c : Addr} (n : h.IsCell c (some v)) (k : Kp h h₁) : h₁.IsCell c (some v) := n.keeps k

/-- x op= e, ints, x a cell -/
theorem x_augC {x : Str} {px pos : Pos} {op : Operator} {e : Expr} {a b c : Int} {t : Tok} {ca : Addr} {Q : Flow → Shared → Prop} (S : St G O g env cs m cm led s) (hv : cm x = some (.int a t)) (p : Pv prog w A s.heap (eval e env) (In b))
    (z : ∀ t u h', Pv prog w A h' (inplaceOp op (.int a t) (.int b u)) (In c))
    (k : ∀ t s', St G O g env cs m (up cm x (.int c t)) led s' → Q .next s') (hc : cs.lookup x = some ca := by rfl) (hc' : env.cells.lookup x = some ca := by rfl) (hk : env.scope.kind = .function := by rfl) (hl : env.kindOf x = some .cell := by rfl) :
    wpAny (model prog w) A (exec (.AugAssign (.Name x px) op e pos) env) Q E s :=
  wpAny_AugAssign_Name (S.cel hv hc hc' hk hl _ _ _ _ _ Kp.rfl (S.pv p fun v s₁ r kp S₁ => by
    obtain ⟨u, rfl⟩ := r
    exact S₁.pv (z t u s₁.heap) fun v₂ s₂ r₂ kp₂ S₂ => by
      obtain ⟨u₂, rfl⟩ := r₂
      exact S₂.storeC (fun s' S' => k u₂ s' S') hc hc' hk hl))
end
end Mine
end

section
namespace Mine
/-! what _law_counts_to_look_at reckons, in plain words -/
def ringOf (ms : List Nat) : Nat := ms.foldl Nat.lcm 1
def sumStep (ring : Nat) (f : Nat → Bool) (m k : Nat) : Bool := f k || f ((k + (ring - ring / m)) % ring)
def sumsOf (ring : Nat) (ms : List Nat) : Nat → Bool := ms.foldl (sumStep ring) (fun k => k == 0)
def evenAt (ring : Nat) (ms : List Nat) (k : Nat) : Bool := ms.any fun m => k * m % ring == 0
def wideOf (ring : Nat) (ms : List Nat) : Nat := ((List.range ring).filter (sumsOf ring ms)).length
def evenOf (ring : Nat) (ms : List Nat) : Nat := ((List.range ring).filter (evenAt ring ms)).length

theorem lcm_of_least {step md j : Nat} (hs : 0 < step) (hm : 0 < md) (hj : 1 ≤ j) (h : step * j % md = 0) (hl : ∀ i, 1 ≤ i → i < j → step * i % md ≠ 0) : step * j = Nat.lcm step md := by
  have h1 : Nat.lcm step md ∣ step * j := Nat.lcm_dvd (Nat.dvd_mul_right ..) (Nat.dvd_of_mod_eq_zero h)
  obtain ⟨q, hq⟩ := Nat.dvd_lcm_left step md
  have hpos : 0 < Nat.lcm step md := Nat.lcm_pos hs hm
  have hq0 : 1 ≤ q := by
    rcases Nat.eq_zero_or_pos q with e | e
    · rw [e] at hq; lia
    · exact e
  have hle : Nat.lcm step md ≤ step * j := Nat.le_of_dvd (Nat.mul_pos hs hj) h1
  have hqj : q ≤ j := by
    rw [hq] at hle
    exact Nat.le_of_mul_le_mul_left hle hs
  rcases Nat.lt_or_ge q j with hlt | hge
  · exact absurd (Nat.mod_eq_zero_of_dvd (hq ▸ Nat.dvd_lcm_right step md)) (hl q hq0 hlt)
  · have : q = j := by lia
    rw [hq, this]
theorem ringOf_snoc (ms : List Nat) (m : Nat) : ringOf (ms ++ [m]) = Nat.lcm (ringOf ms) m := by simp [ringOf]
theorem foldl_lcm_dvd {R : Nat} : ∀ (ms : List Nat) (a : Nat), a ∣ R → (∀ m ∈ ms, m ∣ R) → ms.foldl Nat.lcm a ∣ R
  | [], a, ha, _ => ha
  | m :: ms, a, ha, h => foldl_lcm_dvd ms _ (Nat.lcm_dvd ha (h m (.head _))) fun x hx => h x (.tail _ hx)
theorem ringOf_dvd {R : Nat} {ms : List Nat} (h : ∀ m ∈ ms, m ∣ R) : ringOf ms ∣ R := foldl_lcm_dvd ms 1 (Nat.one_dvd _) h
theorem dvd_foldl : ∀ (ms : List Nat) (a : Nat), a ∣ ms.foldl Nat.lcm a
  | [], a => Nat.dvd_refl _
  | m :: ms, a => Nat.dvd_trans (Nat.dvd_lcm_left a m) (dvd_foldl ms _)
theorem foldl_dvd : ∀ (ms : List Nat) (a m : Nat), m ∈ ms → m ∣ ms.foldl Nat.lcm a
  | x :: ms, a, m, h => by
    rcases List.mem_cons.mp h with rfl | h
    · exact Nat.dvd_trans (Nat.dvd_lcm_right a m) (dvd_foldl ms _)
    · exact foldl_dvd ms _ m h
theorem dvd_ringOf {ms : List Nat} {m : Nat} (h : m ∈ ms) : m ∣ ringOf ms := foldl_dvd ms 1 m h
theorem ringOf_pos {ms : List Nat} (h : ∀ m ∈ ms, 1 ≤ m) : 0 < ringOf ms := by
  have : ∀ (ms : List Nat) (a : Nat), 0 < a → (∀ m ∈ ms, 1 ≤ m) → 0 < ms.foldl Nat.lcm a := by
    intro ms
    induction ms with
    | nil => intro a ha _; exact ha
    | cons m ms ih => intro a ha h; exact ih _ (Nat.lcm_pos ha (h m (.head _))) fun x hx => h x (.tail _ hx)
  exact this ms 1 (by decide) h
theorem sumsOf_snoc (ring : Nat) (ms : List Nat) (m : Nat) : sumsOf ring (ms ++ [m]) = sumStep ring (sumsOf ring ms) m := by simp [sumsOf]
theorem take_snoc {α : Type} {l : List α} {i : Nat} {x : α} (h : l[i]? = some x) : l.take (i + 1) = l.take i ++ [x] := by
  rw [List.take_succ, h]; rfl
theorem shift_mod {k ring q : Nat} (hq : q ≤ ring) (hr : 0 < ring) : ((k : Int) - (q : Int)).fmod (ring : Int) = (((k + (ring - q)) % ring : Nat) : Int) := by
  rw [Int.fmod_eq_emod_of_nonneg _ (by lia)]
  have : ((k : Int) - (q : Int)) = ((k + (ring - q) : Nat) : Int) - (ring : Int) := by lia
  rw [this, Int.sub_emod_right]
  rfl
theorem fmodN (a b : Nat) : Int.fmod (a : Int) (b : Int) = ((a % b : Nat) : Int) := by
  rw [Int.fmod_eq_emod_of_nonneg _ (Int.natCast_nonneg _)]; rfl
theorem fdivN (a b : Nat) : Int.fdiv (a : Int) (b : Int) = ((a / b : Nat) : Int) := by
  rw [Int.fdiv_eq_ediv_of_nonneg _ (Int.natCast_nonneg _)]; rfl
end Mine
end

section
open PySem PySem.W PyProof.Rows
namespace Mine
section
variable {prog : Program} {w : World} {A : Around} {env : Env} {h : Heap}
theorem Src.range0 {x : Str} {px : Pos} {v : Value} {n : Nat} (hh : A.handled = none) (r : Rng 0 (n : Nat) v h) (hn : n ≤ 1000000) : Src prog w A (.Name x px) v h n (fun i v _ => ∃ t, v = .int (i : Nat) t) := by
  have := Src.range (prog := prog) (w := w) (x := x) (px := px) hh r (by lia) (by lia) (by lia) (by lia)
  simpa using this
theorem add_lst {l b : Addr} {vs ws : List Value} {n n2 : Nat} (ho : h.get? l = some (lst vs n)) (ho2 : h.get? b = some (lst ws n2)) (hsz : vs.length + ws.length ≤ 1000000) :
    Pv prog w A h (binaryOp .Add (.ref l) (.ref b)) (New h fun o _ => o = lst (vs ++ ws) 0) := by
  intro s Q E ks q
  have e : vs.toArray ++ ws.toArray = (vs ++ ws).toArray := by simp
  refine concat_meets ⟨_, ks _ _ ho, rfl⟩ ⟨_, ks _ _ ho2, rfl⟩ noFill_list_add seq_list_add PySem.F.slot_list_add PySem.F.entry_list_add (PySem.F.args_list_add_2 _ _) (list_addW l b vs.toArray ws.toArray n n2 none none #[] #[] (by simp [sizeLine]; lia)) ⟨ks _ _ ho, ks _ _ ho2, ?_⟩
  rw [e]
  exact q _ _ _ (Kp.push _ _) ⟨_, _, rfl, fresh_of ks, Heap.get?_push_size _ rfl, rfl⟩
end
section
variable {w : World} {A : Around} {env : Env} {h : Heap}
theorem b_range : bootBuiltins "range" = some (.type "range") := by decide +kernel
theorem g_range {w : World} : mgOf w "range" = none := rfl
/-- range(e) -/
theorem Pv.range1 {e : Expr} {pf pos : Pos} {n : Int} (T : Tp w h) (p : Pv pr w A h (eval e env) (In n)) (he : starEach [e] env = [(false, eval e env)] := by rfl)
    (hg : env.globals = mainGlobals := by rfl) (hbi : env.builtins = builtinsNs := by rfl) (hk : env.scope.kind = .function := by rfl) (hx : env.kindOf "range" = some .globalImplicit := by rfl) :
    Pv pr w A h (eval (.Call (.Name "range" pf) [e] [] pos) env) (Rng 0 n) :=
  .callT (.boot T g_range b_range (by decide) hg hbi hk hx) (.args1 (P := fun v => ∃ t, v = .int n t) p he) (fun vs h' k r => by obtain ⟨_, rfl, t, rfl⟩ := r; exact range1_pv) (by rw [he]; rfl) rfl
theorem Pv.range2 {e₁ e₂ : Expr} {pf pos : Pos} {a b : Int} (T : Tp w h) (p : Pv pr w A h (eval e₁ env) (In a)) (q : Pv pr w A h (eval e₂ env) (In b)) (he : starEach [e₁, e₂] env = [(false, eval e₁ env), (false, eval e₂ env)] := by rfl) (he₂ : starEach [e₂] env = [(false, eval e₂ env)] := by rfl)
    (hg : env.globals = mainGlobals := by rfl) (hbi : env.builtins = builtinsNs := by rfl) (hk : env.scope.kind = .function := by rfl) (hx : env.kindOf "range" = some .globalImplicit := by rfl) :
    Pv pr w A h (eval (.Call (.Name "range" pf) [e₁, e₂] [] pos) env) (Rng a b) :=
  .callT (.boot T g_range b_range (by decide) hg hbi hk hx) (.args2 (P₁ := fun v => ∃ t, v = .int a t) (P₂ := fun v => ∃ t, v = .int b t) p q he he₂) (fun vs h' k r => by obtain ⟨_, _, rfl, ⟨t, rfl⟩, u, rfl⟩ := r; exact range2_pv) (by rw [he, he₂]) (by rw [he₂]; rfl)
end
end Mine
namespace Mine
section
variable {prog : Program} {w : World} {A : Around} {env : Env} {h h₁ h₂ : Heap}
theorem Pv.castI {t : Sem Value} {a b : Int} (p : Pv prog w A h t (In a)) (e : a = b) : Pv prog w A h t (In b) := e ▸ p
theorem New.low {P : Obj → Heap → Prop} {v : Value} (x : New h₁ P v h₂) (k : Kp h h₁) : New h P v h₂ := by
  obtain ⟨l, o, rfl, hn, r⟩ := x
  refine ⟨l, o, rfl, ?_, r⟩
  cases e : h.get? l with
  | none => rfl
  | some o => rw [k _ _ e] at hn; cases hn
theorem Pv.tup3 {e₁ e₂ e₃ : Expr} {k : Nat} {pos : Pos} {P₁ P₂ P₃ : Value → Prop} (x : Pv prog w A h (eval e₁ env) (fun v _ => P₁ v)) (y : Pv prog w A h (eval e₂ env) (fun v _ => P₂ v)) (z : Pv prog w A h (eval e₃ env) (fun v _ => P₃ v))
    (he : starEach [e₁, e₂, e₃] env = [(false, eval e₁ env), (false, eval e₂ env), (false, eval e₃ env)] := by rfl) (he₂ : starEach [e₂, e₃] env = [(false, eval e₂ env), (false, eval e₃ env)] := by rfl) (he₃ : starEach [e₃] env = [(false, eval e₃ env)] := by rfl) :
    Pv prog w A h (eval (.Tuple [e₁, e₂, e₃] k pos) env) (New h fun o _ => ∃ v₁ v₂ v₃, P₁ v₁ ∧ P₂ v₂ ∧ P₃ v₃ ∧ o = tup [v₁, v₂, v₃]) :=
  .tupD (.args3 x y z he he₂ he₃) (fun vs h' h'' l k r h1 h2 k' ho => by obtain ⟨v₁, v₂, v₃, rfl, q₁, q₂, q₃⟩ := r; exact ⟨l, _, rfl, h2, ho, v₁, v₂, v₃, q₁, q₂, q₃, rfl⟩) (fun vs h' r => by obtain ⟨v₁, v₂, v₃, rfl, _⟩ := r; exact (by decide : 3 ≤ 1000000))
/-- [e] + [f] * k -/
theorem Pv.oneRep {e f r : Expr} {pe pf pr' pos : Pos} {P P' : Value → Prop} {k : Nat} (x : Pv prog w A h (eval e env) (fun v _ => P v)) (y : Pv prog w A h (eval f env) (fun v _ => P' v)) (z : Pv prog w A h (eval r env) (In (k : Nat))) (hk : k ≤ 100000)
    (he : starEach [e] env = [(false, eval e env)] := by rfl) (hf : starEach [f] env = [(false, eval f env)] := by rfl) :
    Pv prog w A h (eval (.BinOp (.List [e] pe) .Add (.BinOp (.List [f] pf) .Mult r pr') pos) env) (New h fun o _ => ∃ v v', P v ∧ P' v' ∧ o = lst (v :: List.replicate k v') 0) :=
  .bin (R₂ := fun v₁ v₂ h' => (∃ l v, v₁ = .ref l ∧ P v ∧ h'.get? l = some (lst [v] 0)) ∧ ∃ l v, v₂ = .ref l ∧ P' v ∧ h'.get? l = some (lst (List.replicate k v) 0)) (Pv.lst1 x he)
    (fun v h' kk q => (Pv.rep (y.up kk) (z.up kk) (by lia) (by lia) hf).mono fun v₂ h₂ k₂ q₂ => by
      obtain ⟨l, o, rfl, _, ho, v, hv, rfl⟩ := q
      obtain ⟨l₂, o₂, rfl, _, ho₂, v₂, hv₂, rfl⟩ := q₂
      exact ⟨⟨l, v, rfl, hv, k₂ _ _ ho⟩, l₂, v₂, rfl, hv₂, by rw [Int.toNat_natCast] at ho₂; exact ho₂⟩)
    (fun v₁ v₂ h' kk q => by
      obtain ⟨⟨l, v, rfl, hv, ho⟩, l₂, v', rfl, hv', ho₂⟩ := q
      refine (add_lst ho ho₂ (by simp; lia)).mono fun v₃ h₃ k₃ q₃ => ?_
      refine New.low (h₁ := h') ?_ kk
      obtain ⟨l₃, o₃, rfl, hn, ho₃, rfl⟩ := q₃
      exact ⟨l₃, _, rfl, hn, ho₃, v, v', hv, hv', rfl⟩)
end
end Mine
end

section
open PySem PySem.W PyProof.Rows
namespace Mine
theorem g_counts {w : World} : mgOf w "_law_counts_to_look_at" = some (.ref 91) := rfl
theorem counts_binds {w : World} {o : Obj} {fd : FuncData} (ho : (KF w).lookup 91 = some o) (hd : o.data = .func fd) {a : Value} : bindArgs fd ⟨[a], []⟩ = pure [(("moduli" : Str), a)] := by
  cases ho
  cases hd
  rfl
theorem St.cellV {G : Array GenState} {O : OsState × Drawn} {g : Heap} {env : Env} {cs : List (Str × Addr)} {m cm : Str → Option Value} {led : Led} {s : Shared} (S : St G O g env cs m cm led s) {x : Str} {v : Value} {c : Addr} (hv : cm x = some v) (hc : cs.lookup x = some c := by rfl) : s.heap.IsCell c (some v) :=
  hv ▸ S.cell x c (PySem.mem_of_lookup hc)
theorem natZero (a : Nat) : (a == 0) = ((a : Int) == 0) := by cases a <;> rfl
/-- a list of truths -/
def bl (n : Nat) (f : Nat → Bool) : List Value := (List.range n).map fun k => .bool (f k)
theorem bl_at {n : Nat} {f : Nat → Bool} {k : Nat} (h : k < n) : (bl n f)[k]? = some (.bool (f k)) := by
  unfold bl
  rw [List.getElem?_map, List.getElem?_range h]; rfl
theorem bl_length {n : Nat} {f : Nat → Bool} : (bl n f).length = n := by simp [bl]
theorem bl_succ {n : Nat} {f : Nat → Bool} : bl (n + 1) f = bl n f ++ [.bool (f n)] := by simp [bl, List.range_succ]
theorem bl_start (k : Nat) : Value.bool true :: List.replicate k (.bool false) = bl (k + 1) fun k => k == 0 := by
  unfold bl
  rw [List.range_succ_eq_map, List.map_cons, List.map_map]
  congr 1
  apply List.ext_getElem?
  intro i
  rw [List.getElem?_map]
  by_cases h : i < k
  · rw [List.getElem?_replicate, if_pos h, List.getElem?_range h]; rfl
  · rw [List.getElem?_eq_none (by simp; lia), List.getElem?_eq_none (by simp; lia)]; rfl
/-- _law_counts_to_look_at(moduli) -/
theorem counts_call {w : World} {A : Around} {s : Shared} {Q : Value → Shared → Prop} {E : Value → Shared → Prop} {l : Addr} {vs : List Value} {nn : Nat} {ms : List Nat} (T : Tp w s.heap) (hh : A.handled = none) (hd : A.depth + 30 < recursionLimit)
    (ho : s.heap.get? l = some (lst vs nn)) (hi : IntsAre vs (ms.map Int.ofNat)) (hm1 : ∀ m ∈ ms, 1 ≤ m) (hmR : ∀ m ∈ ms, m ∣ 432) (hlen : ms.length ≤ 1000)
    (k : ∀ s' l' t u v, s.heap.get? l' = none → s'.heap.get? l' = some (tup [.int (ringOf ms : Nat) t, .int (wideOf (ringOf ms) ms : Nat) u, .int (evenOf (ringOf ms) ms : Nat) v]) → Kp s.heap s'.heap → s'.gens = s.gens → (s'.os, s'.drawn) = (s.os, s.drawn) → Q (.ref l') s') :
    wpAny (model pr w) A (call (.ref 91) [.ref l] []) Q E s := by
  have T0 : Tp w (hideAll s.heap (([] : Led).map (·.1))) := T.up fun b o e => hideAll_get [] e (by simp)
  have kp0 : Kp s.heap (hideAll s.heap (([] : Led).map (·.1))) := fun b o e => hideAll_get [] e (by simp)
  refine def_callC [] (by simp) (by simp) T0 (by lia) rfl rfl (code_rec T rfl rfl) rfl (counts_binds (w := w) rfl rfl) rfl ?_ (by decide) fun s₁ S₁ => ?_
  · intro x hx
    rcases List.mem_singleton.mp hx with rfl
    exact .inr ⟨rfl, rfl⟩
  have hol : (hideAll s.heap (([] : Led).map (·.1))).get? l = some (lst vs nn) := kp0 _ _ ho
  refine x_cons (x_setCI S₁ .cint fun t₂ s₂ S₂ => ?_)
  have hvl : vs.length = ms.length := by rw [hi.length, List.length_map]
  have at_ : ∀ (i : Nat) (v : Value), vs[i]? = some v → ∃ (m : Nat) (t : Tok), ms[i]? = some m ∧ v = Value.int (m : Nat) t ∧ 1 ≤ m ∧ m ∣ 432 := fun i v e => by
    have hlt : i < ms.length := by rw [← hvl]; exact (List.getElem?_eq_some_iff.mp e).1
    obtain ⟨t, ht⟩ := IntsAre.at? (y := (ms[i] : Int)) hi (by rw [List.getElem?_map, List.getElem?_eq_getElem hlt]; rfl)
    rw [ht] at e; cases e
    exact ⟨ms[i], t, List.getElem?_eq_getElem hlt, rfl, hm1 _ (List.getElem_mem hlt), hmR _ (List.getElem_mem hlt)⟩
  -- the ring
  refine x_cons (x_forS (R₁ := Is (.ref l)) (n := vs.length) (P := fun i v _ => vs[i]? = some v) (fun i G m cm led => G = s.gens ∧ led = [] ∧ cm "moduli" = some (.ref l) ∧ ∃ t, cm "ring" = some (.int (ringOf (ms.take i) : Nat) t)) S₂ (.name (S₂.cel rfl))
    (fun v h' k e => ⟨_, S₂.keep.trans k, fun b hb => ?_, e ▸ Src.list hh hol⟩) ⟨rfl, rfl, rfl, t₂, rfl⟩ ?_ ?_)
  · cases q : (hideAll s.heap (([] : Led).map (·.1))).get? b with
    | none => rfl
    | some o => exact absurd hb (S₂.offBase q)
  · rintro i v G m cm led g' s₃ hi' hv ⟨rfl, rfl, e1, t, e2⟩ kg S₃
    obtain ⟨md, tm, hmd, rfl, hmd1, hmdR⟩ := at_ i v hv
    refine S₃.asgC fun s₄ S₄ => hold fun Q₁ q₁ => ?_
    refine x_cons (x_setI S₄ (.nameI (S₄.cel e2)) fun t₅ s₅ S₅ => ?_)
    have hst : 0 < ringOf (ms.take i) := ringOf_pos fun m hm => hm1 m (List.mem_of_mem_take hm)
    generalize hstep : ringOf (ms.take i) = step at *
    refine x_cons (x_while (fun n s' => ∃ j m cm t ts tm, St s.gens (s.os, s.drawn) g' _ _ m cm [] s' ∧ cm "moduli" = some (.ref l) ∧ m "step" = some (.int (step : Nat) ts) ∧ cm "modulus" = some (.int (md : Nat) tm) ∧ cm "ring" = some (.int ((step * j : Nat) : Int) t) ∧ n + j = md ∧ 1 ≤ j ∧ ∀ i, 1 ≤ i → i < j → step * i % md ≠ 0) (md - 1)
      ⟨1, _, _, _, _, _, S₅, e1, rfl, rfl, (by rw [Nat.mul_one]; exact e2), by lia, Nat.le_refl _, fun i h1 h2 => by lia⟩ ?_)
    rintro n s₆ ⟨j, m₆, cm₆, t₆, ts₆, tm₆, S₆, f1, f2, f3, f4, hnj, hj1, hjl⟩
    refine ⟨_, .tne (.modI (.nameI (S₆.cel f4)) (.nameI (S₆.cel f3)) (by lia)) .cint, fun h' tk kk => ?_⟩
    have S₇ := S₆.grow kk tk
    rw [fmodN]
    by_cases hz : step * j % md = 0
    · rw [if_neg (by simp [hz])]
      refine x_nil (q₁ _ _ ⟨_, _, _, _, ⟨rfl, rfl, f1, t₆, ?_⟩, S₇⟩)
      rw [take_snoc hmd, ringOf_snoc, hstep, ← lcm_of_least hst hmd1 hj1 hz hjl]
      exact f4
    · rw [if_pos (by rw [bne_iff_ne]; exact fun q => hz (Int.ofNat_eq_zero.mp q))]
      refine hold fun Q₂ q₂ => ?_
      refine x_cons (x_augC (b := (step : Nat)) (c := ((step * (j + 1) : Nat) : Int)) S₇ f4 (.nameI (S₇.loc f2)) (fun t u h => by rw [Nat.mul_succ, Int.natCast_add]; exact iadd_I) fun t₈ s₈ S₈ => ?_)
      have hjm : j < md := by
        rcases Nat.lt_or_ge j md with h | h
        · exact h
        · have : j = md := by lia
          subst this
          exact absurd (Nat.mul_mod_left step j) hz
      refine x_nil (q₂ _ _ ⟨n - 1, by lia, j + 1, _, _, t₈, ts₆, tm₆, S₈, by exact f1, by exact f2, by exact f3, by rfl, by lia, by lia, fun i h1 h2 => ?_⟩)
      rcases Nat.lt_or_eq_of_le (Nat.le_of_lt_succ h2) with h | rfl
      · exact hjl i h1 h
      · exact hz
  rintro G m cm led s₉ ⟨rfl, rfl, e1, t₉, e2⟩ S₉
  rw [hvl, List.take_length] at e2
  have hrp : 0 < ringOf ms := ringOf_pos hm1
  have hr432 : ringOf ms ≤ 432 := Nat.le_of_dvd (by decide) (ringOf_dvd hmR)
  generalize hring : ringOf ms = ring at *
  have T₉ : ∀ {s' : Shared} {G O env cs m cm led}, St G O (hideAll s.heap (([] : Led).map (·.1))) env cs m cm led s' → Tp w s'.heap := fun S => T0.up S.keep
  have e2' := e2
  refine x_cons (x_setCN S₉ (.oneRep (P := fun v => v = .bool true) (P' := fun v => v = .bool false) (k := ring - 1) .cbool .cbool (.castI (.subI (.nameI (S₉.cel e2)) .cint) (by lia)) (by lia)) fun D o s₁₀ s₁₁ ho' k₁₁ S₁₁ => ?_)
  obtain ⟨_, _, rfl, rfl, rfl⟩ := ho'
  rw [bl_start, Nat.sub_add_cancel hrp] at S₁₁
  -- the sums
  refine x_cons (x_forS (R₁ := Is (.ref l)) (n := vs.length) (P := fun i v _ => vs[i]? = some v) (fun i G m cm led => G = s.gens ∧ cm "moduli" = some (.ref l) ∧ (∃ t, cm "ring" = some (.int (ring : Nat) t)) ∧ ∃ D n2, cm "sums" = some (.ref D) ∧ led = [(D, lst (bl ring (sumsOf ring (ms.take i))) n2)]) S₁₁ (.name (S₁₁.cel e1))
    (fun v h' k e => ⟨_, S₁₁.keep.trans k, fun b hb => ?_, e ▸ Src.list hh hol⟩) ⟨rfl, e1, ⟨t₉, e2⟩, D, 0, rfl, rfl⟩ ?_ ?_)
  · cases q : (hideAll s.heap (([] : Led).map (·.1))).get? b with
    | none => rfl
    | some o => exact absurd hb (S₁₁.offBase q)
  · rintro i v G m cm led g' s₃ hi' hv ⟨rfl, f1, ⟨t, f2⟩, D, nn, f3, rfl⟩ kg S₃
    obtain ⟨md, tm, hmd, rfl, hmd1, hmdR⟩ := at_ i v hv
    have hdR : md ∣ ring := hring ▸ dvd_ringOf (List.mem_of_getElem? hmd)
    have hmd432 : md ≤ 432 := Nat.le_of_dvd (by decide) hmdR
    generalize hf : sumsOf ring (ms.take i) = f at *
    refine S₃.asgC fun s₄ S₄ => hold fun Q₁ q₁ => ?_
    have T₄ : Tp w s₄.heap := (T0.up kg).up S₄.keep
    have cD := S₄.cellV (x := "sums") f3
    have cR := S₄.cellV (x := "ring") f2
    have cM := S₄.cellV (x := "modulus") (v := .int (md : Nat) tm) rfl
    have oD := S₄.mem 0 rfl
    refine x_cons (x_setCN S₄ (Pv.compN (n := ring) (P := fun i v => ∃ t, v = .int (i : Nat) t) (fun _ => true) (fun i y => y = .bool (sumStep ring f md i)) (fun i ys => ys = bl i (sumStep ring f md))
      (.range1 T₄ (.nameI (S₄.cel f2))) (fun v h' k r => Src.range0 (by exact hh) r (by lia)) (by lia) (fun i v C h₁ hi hp k₁ rd => .tests0) ?_ rfl ?_ ?_) fun D' o s₅ s₆ ho' k₆ S₆ => ?_)
    · rintro i v C h₁ hik ⟨t, rfl⟩ - k₁ rd
      have cD' := cD.keeps k₁
      have cR' := cR.keeps k₁
      have cM' := cM.keeps k₁
      refine .orB (.item (.name (.cel cD' rfl)) (.nameI rd) (k₁ _ _ oD) (by lia) (by lia) ?_) (.item (k := ((i + (ring - ring / md)) % ring : Nat)) (.name (.cel cD' rfl)) (.castI (.modI (.subI (.nameI rd) (.divI (.nameI (.cel cR' rfl)) (.nameI (.cel cM' rfl)) ?_ ?_)) (.nameI (.cel cR' rfl)) ?_) ?_) (k₁ _ _ oD) (by lia) ?_ ?_)
      · rw [Int.toNat_natCast]; exact bl_at hik
      · lia
      · rw [Int.natAbs_natCast]; lia
      · lia
      · rw [fdivN]; exact shift_mod (Nat.div_le_self ..) hrp
      · have := Nat.mod_lt (i + (ring - ring / md)) hrp; lia
      · rw [Int.toNat_natCast]; exact bl_at (Nat.mod_lt _ hrp)
    · rintro i ys y hik - rfl rfl
      rw [bl_succ]
    · rintro i ys hik h
      cases h
    · obtain ⟨ys, nn', rfl, rfl⟩ := ho'
      refine x_nil (q₁ _ _ ⟨_, _, _, _, ⟨rfl, by exact f1, ⟨t, by exact f2⟩, D', nn', by rfl, ?_⟩, S₆.sub (led' := [(D', lst (bl ring (sumStep ring f md)) nn')]) (.cons_cons _ (List.nil_sublist _))⟩)
      rw [take_snoc hmd, sumsOf_snoc, hf]
  rintro G m cm led s₁₂ ⟨rfl, f1, ⟨t₁₂, f2⟩, D, n2, f3, rfl⟩ S₁₂
  rw [hvl, List.take_length] at S₁₂
  generalize hf : sumsOf ring ms = f at *
  have cD := S₁₂.cellV (x := "sums") f3
  have oD := S₁₂.mem 0 rfl
  refine x_cons (x_setI S₁₂ (.lenE (N := wideOf ring ms) (T₉ S₁₂) ((Pv.compN (n := ring) (P := fun i v => ∃ t, v = .int (i : Nat) t) f (fun _ _ => True) (fun i ys => ys.length = ((List.range i).filter f).length)
      (.range1 (T₉ S₁₂) (.nameI (S₁₂.cel f2))) (fun v h' k r => Src.range0 (by exact hh) r (by lia)) (by lia) ?_ (fun i v C h₁ hi hp _ k₁ rd => (Pv.name rd).mono fun _ _ _ _ => trivial) rfl ?_ ?_).mono fun v h' k r => ?_) ?_) fun t₁₃ s₁₃ S₁₃ => ?_)
  · rintro i v C h₁ hik ⟨t, rfl⟩ k₁ rd
    exact .tests1 (.truthB (.item (.name (.cel (cD.keeps k₁) rfl)) (.nameI rd) (k₁ _ _ oD) (by lia) (by lia) (by rw [Int.toNat_natCast]; exact bl_at hik)))
  · intro i ys y hik hb _ h
    rw [List.range_succ, List.filter_append, List.length_append, List.length_append, h]
    simp [hb]
  · intro i ys hik hb h
    rw [List.range_succ, List.filter_append, List.length_append, h]
    simp [hb]
  · obtain ⟨l, o, rfl, _, ho, ys, n', rfl, hy⟩ := r
    exact ⟨l, ys, n', rfl, ho, by rw [hy, ← hf]; rfl⟩
  · have : ((List.range ring).filter (sumsOf ring ms)).length ≤ (List.range ring).length := List.length_filter_le ..
    rw [List.length_range] at this
    show ((List.range ring).filter (sumsOf ring ms)).length ≤ _
    lia
  have f1' := f1
  have f2' := f2
  have cR := S₁₃.cellV (x := "ring") f2
  have cM := S₁₃.cellV (x := "moduli") f1
  refine x_cons (x_setI S₁₃ (.lenE (N := evenOf ring ms) (T₉ S₁₃) ((Pv.compK (n := ring) (P := fun i v => ∃ t, v = .int (i : Nat) t) (evenAt ring ms) (fun _ _ => True) (fun i ys => ys.length = ((List.range i).filter (evenAt ring ms)).length)
      (.range1 (T₉ S₁₃) (.nameI (S₁₃.cel f2))) (fun v h' k r => Src.range0 (by exact hh) r (by lia)) (by lia) ?_ (fun i v C h₁ hi hp _ k₁ rd _ => (Pv.name rd).mono fun _ _ _ _ => trivial) rfl ?_ ?_).mono fun v h' k r => ?_) ?_) fun t₁₄ s₁₄ S₁₄ => ?_)
  · rintro i v C h₁ hik ⟨t, rfl⟩ k₁ rd ck
    have ck' := ck _ rfl
    have eev : evenAt ring ms i = (ms.map fun m => ((i * m % ring : Nat) : Int)).any (· == 0) := by
      unfold evenAt
      rw [List.any_map]
      congr 1
      funext m
      exact natZero _
    rw [eev]
    refine .tests1 (.tinI .cint fun h₂ k₂ => ?_)
    have ol₂ : h₂.get? l = some (lst vs nn) := k₂ _ _ (k₁ _ _ (S₁₃.keep _ _ hol))
    refine Pv.compN (n := vs.length) (P := fun j v => vs[j]? = some v) (fun _ => true) (fun j y => ∃ m t, ms[j]? = some m ∧ y = .int ((i * m % ring : Nat) : Int) t) (fun j ys => IntsAre ys ((ms.take j).map fun m => ((i * m % ring : Nat) : Int)))
      (R₁ := Is (.ref l)) (.name (.cel ((cM.keeps k₁).keeps k₂) rfl)) (fun v h' k e => e ▸ Src.list (by exact hh) (k _ _ ol₂)) (by lia) (fun _ _ _ _ _ _ _ _ => .tests0) ?_ .nil ?_ ?_ |>.mono fun v h' k r => ?_
    · rintro j v C' h₃ hj hv - k₃ rd'
      obtain ⟨m, tm, hm, rfl, hm1', hmR'⟩ := at_ j v hv
      have hm432 : m ≤ 432 := Nat.le_of_dvd (by decide) hmR'
      refine (Pv.castI (.modI (.mulI (.nameI (.cel ((ck'.keeps k₂).keeps k₃) rfl)) (.nameI rd') (IntMulOk.of_left (intBits_le_nat (Nat.lt_of_lt_of_le (show i < 2 ^ 9 by lia) (by decide))))) (.nameI (.cel (((cR.keeps k₁).keeps k₂).keeps k₃) rfl)) (by lia)) (by rw [← Int.natCast_mul, fmodN])).mono fun y _ _ e => ?_
      obtain ⟨t, rfl⟩ := e
      exact ⟨m, t, hm, rfl⟩
    · rintro j ys y hj - ⟨m, t, hm, rfl⟩ hys
      rw [take_snoc hm, List.map_append]
      exact IntsAre.snoc hys
    · intro j ys hj h
      cases h
    · obtain ⟨D, o, rfl, hn, ho, ys, n', rfl, hy⟩ := r
      rw [hvl, List.take_length] at hy
      exact ⟨D, _, rfl, hn, ho, ys, n', rfl, hy⟩
  · intro i ys y hik hb _ h
    rw [List.range_succ, List.filter_append, List.length_append, List.length_append, h]
    simp [hb]
  · intro i ys hik hb h
    rw [List.range_succ, List.filter_append, List.length_append, h]
    simp [hb]
  · obtain ⟨l, o, rfl, _, ho, ys, n', rfl, hy⟩ := r
    exact ⟨l, ys, n', rfl, ho, by rw [hy]; rfl⟩
  · have : ((List.range ring).filter (evenAt ring ms)).length ≤ (List.range ring).length := List.length_filter_le ..
    rw [List.length_range] at this
    show ((List.range ring).filter (evenAt ring ms)).length ≤ _
    lia
  have f2'' := f2
  refine x_cons (x_ret S₁₄ (.tup3 (P₁ := fun v => v = .int (ring : Nat) t₁₂) (P₂ := fun v => v = .int (wideOf ring ms : Nat) t₁₃) (P₃ := fun v => v = .int (evenOf ring ms : Nat) t₁₄) (.name (S₁₄.cel f2)) (.name (S₁₄.loc rfl)) (.name (S₁₄.loc rfl))) fun v s₁₅ r k₁₅ S₁₅ => ?_)
  obtain ⟨l', o, rfl, hn, hol', _, _, _, rfl, rfl, rfl, rfl⟩ := r
  refine k s₁₅ l' _ _ _ ?_ hol' (kp0.trans S₁₅.keep) S₁₅.gens S₁₅.os
  cases e : s.heap.get? l' with
  | none => rfl
  | some o => rw [S₁₄.keep _ _ (kp0 _ _ e)] at hn; cases hn
end Mine
end

section
open PySem PySem.W PyProof.Rows
namespace Mine
section
variable {prog : Program} {w : World} {A : Around} {E : Value → Shared → Prop} {G : Array GenState} {O : OsState × Drawn} {g g' h h₁ : Heap} {env cenv : Env} {cs : List (Str × Addr)} {m cm : Str → Option Value} {led : Led} {s : Shared}
theorem seqIdx {k : Int} {n : Nat} (h0 : 0 ≤ k) (h1 : k.toNat < n) : seqIndex? k n = some k.toNat := by
  unfold seqIndex?
  have : ¬ k < 0 := by lia
  simp [this]
  lia
abbrev Part (k : Option Int) : Value → Heap → Prop := fun v _ => IsPart v k
theorem Pv.part0 : Pv prog w A h (evalPart none env) (Part none) := .ofPure fun _ _ => .none
theorem Pv.partI {e : Expr} {k : Int} (p : Pv prog w A h (eval e env) (In k)) : Pv prog w A h (evalPart (some e) env) (Part (some k)) :=
  Pv.mono (t := eval e env) p fun v _ _ r => by obtain ⟨t, rfl⟩ := r; exact .int k t
/-- l[a:b] -/
theorem Pv.sliceI {value : Expr} {lower upper : Option Expr} {p pos : Pos} {l : Addr} {vs : List Value} {lo hi : Option Int} (pv : Pv prog w A h (eval value env) (Is (.ref l))) (ho : h.IsList l vs.toArray) (pl : Pv prog w A h (evalPart lower env) (Part lo)) (pu : Pv prog w A h (evalPart upper env) (Part hi)) (hz : vs.length ≤ 1000000)
    (ht : ∀ o r, letTemporaryGo value o r = pure () := by intro _ _; rfl) :
    Pv prog w A h (eval (.Subscript value (.Slice lower upper none p) pos) env) (New h fun o _ => o = lst (slicePick vs.toArray lo hi none).toList 0) := by
  intro s Q E ks q
  refine wpAny_Subscript_Slice list_getitem_lookup (pv s _ E ks fun v h₁ tk₁ k₁ r₁ => ?_) ht
  obtain rfl := r₁
  refine wpAny_Slice (pl _ _ E (ks.trans k₁) fun v₂ h₂ tk₂ k₂ r₂ => pu _ _ E ((ks.trans k₁).trans k₂) fun v₃ h₃ tk₃ k₃ r₃ => wpAny_pure (M := model prog w) (A := A) ?_)
  have kk : Kp h h₃ := ((ks.trans k₁).trans k₂).trans k₃
  have hl : h₃.IsList l vs.toArray := let ⟨o, e, r⟩ := ho; ⟨o, kk _ _ e, r⟩
  refine ⟨Heap.IsList.typeIs (s := { s with heap := h₃.push { cls := .type "slice", data := .fields #[v₂, v₃, .none] }, toks := tk₃ }) (hl.push _), ?_⟩
  refine wpAny_getItem_list_slice (hl.push _) (Heap.IsSliceOf.new ..) r₂ r₃ .none (by simp) ?_ (by rw [List.size_toArray, sizeLine_eq]; lia)
  refine q _ _ _ (((k₁.trans k₂).trans k₃).trans ((Kp.push _ _).trans (Kp.push _ _))) ⟨_, _, rfl, fresh_of (kk.trans (Kp.push _ _)), Heap.get?_push_size _ rfl, rfl⟩
theorem Pv.sliceL {value : Expr} {lower upper : Option Expr} {p pos : Pos} {l : Addr} {vs : List Value} {n : Nat} {lo hi : Option Int} (pv : Pv prog w A h (eval value env) (Is (.ref l))) (ho : h.get? l = some (lst vs n)) (pl : Pv prog w A h (evalPart lower env) (Part lo)) (pu : Pv prog w A h (evalPart upper env) (Part hi)) (hz : vs.length ≤ 1000000)
    (ht : ∀ o r, letTemporaryGo value o r = pure () := by intro _ _; rfl) :
    Pv prog w A h (eval (.Subscript value (.Slice lower upper none p) pos) env) (New h fun o _ => o = lst (slicePick vs.toArray lo hi none).toList 0) :=
  .sliceI pv (isList_lst ho) pl pu hz ht
/-- a written tuple's item -/
theorem Pv.tupItem {elts : List Expr} {k0 : Nat} {p pos : Pos} {slice : Expr} {R₁ : List Value → Heap → Prop} {R : Value → Prop} {k : Int} (a : Pv prog w A h (spliced (backTo p (starEach elts env))) R₁) (b : Pv prog w A h (eval slice env) (In k)) (h0 : 0 ≤ k) (h1 : k < 1000000)
    (hx : ∀ vs h', R₁ vs h' → vs.length ≤ 1000000 ∧ ∃ x, vs[k.toNat]? = some x ∧ R x)
    (hs : ∀ t u, subscripted slice false (.ref t) (.int k u) = operate [.ref t, .int k u] (getItem (.ref t) (.int k u)) := by intro _ _; with_unfolding_all rfl) :
    Pv prog w A h (eval (.Subscript (.Tuple elts k0 p) slice pos) env) (fun v _ => R v) := by
  have pt : Pv prog w A h (eval (.Tuple elts k0 p) env) (fun v h' => ∃ l vs x, v = .ref l ∧ h'.get? l = some (tup vs) ∧ vs[k.toNat]? = some x ∧ R x) :=
    .tupD a (fun vs h' h'' l _ r _ _ _ ho => by obtain ⟨_, x, e, hr⟩ := hx vs h' r; exact ⟨l, vs, x, rfl, ho, e, hr⟩) fun vs h' r => (hx vs h' r).1
  intro s Q E ks q
  refine Subscript_ (pt s _ E ks fun v h' tk kk r => b _ _ E (ks.trans kk) fun v₂ h₂ tk₂ k₂ r₂ => ?_)
  obtain ⟨l, vs, x, rfl, ho, e, hr⟩ := r
  obtain ⟨u, rfl⟩ := r₂
  have hlt : k.toNat < vs.length := (List.getElem?_eq_some_iff.mp e).1
  refine item_tupleT (j := k.toNat) (isTup_tup (k₂ _ _ ho)) (by lia) (by lia) (seqIdx h0 hlt) e (q _ h₂ tk₂ (kk.trans k₂) hr) (hs l u)
/-- a for over what is not the activation's own -/
theorem x_forQ {target iter : Expr} {pos : Pos} {body : List Stmt} {R₁ : Value → Heap → Prop} {n : Nat} {P : Nat → Value → Heap → Prop} {Q : Flow → Shared → Prop} (J : Nat → Array GenState → (Str → Option Value) → (Str → Option Value) → Led → Prop)
    (S : St G O g env cs m cm led s) (p : Pv prog w A s.heap (eval iter env) R₁)
    (src : ∀ v (s' : Shared), Kp s.heap s'.heap → St G O g env cs m cm led s' → R₁ v s'.heap → Src prog w A target v (frz s'.heap env cs led) n P)
    (hJ : J 0 G m cm led)
    (turn : ∀ i v G m cm led g' s, i < n → P i v s.heap → J i G m cm led → Kp g g' → St G O g' env cs m cm led s →
      wpAny (model prog w) A (assign target env v) (fun _ s₂ => wpAny (model prog w) A (execs body env) (fun f s₃ => match f with
        | .next | .cont => ∃ G' m' cm' led', J (i + 1) G' m' cm' led' ∧ St G' O g' env cs m' cm' led' s₃
        | .brk => Q .next s₃
        | .ret v => Q (.ret v) s₃) (fun _ _ => False) s₂) (fun _ _ => False) s)
    (fin : ∀ G m cm led s, J n G m cm led → St G O g env cs m cm led s → Q .next s)
    (hs : ∀ x, foldedSetIterable iter env x = pure x := by intro _; rfl) :
    wpAny (model prog w) A (exec (.For target iter body [] pos) env) Q E s := by
  refine x_forI J S p (fun v s₁ E Q₁ r k₁ S₁ q => ?_) hJ turn fin hs
  refine src v s₁ k₁ S₁ r s₁ E Q₁ frz_kp fun I fp wr Sx h' tk kk W _ hx hw hf => q I fp wr Sx h' tk kk W hx (fun b hb => ?_) fun b hb => S₁.newG (hw b hb)
  rcases hf b hb with hb | ⟨o, e⟩
  · exact S₁.newOff (hw b hb)
  · exact fun ho => by
      have : (frz s₁.heap env cs led).get? b = none := hideAll_none _ ho
      rw [this] at e; cases e
theorem frz_get {h : Heap} {b : Addr} {o : Obj} (e : h.get? b = some o) (hb : b ∉ owns env cs led) : (frz h env cs led).get? b = some o := hideAll_get _ e hb

theorem erase_lst {h : Heap} {l : Addr} {vs : List Value} {n k : Nat} (ho : h.get? l = some (lst vs n)) : ∃ n', (h.update l (Obj.mapSeq fun xs => xs.eraseIdxIfInBounds k)).get? l = some (lst (vs.eraseIdx k) n') := by
  refine ⟨_, upd_lst (vs' := vs.eraseIdx k) (fun xs : Array Value => xs.eraseIdxIfInBounds k) ho ?_⟩
  apply Array.toList_inj.mp
  simp
/-- a, b = l.pop(e) -/
theorem x_pop2 {ln x y : Str} {px py pl tpos apos pos spos : Pos} {kt : Nat} {e : Expr} {l a : Addr} {vs : List Value} {n : Nat} {k : Int} {v₁ v₂ : Value} {tl : Led} {Q : Flow → Shared → Prop} (S : St G O g env cs m cm ((l, lst vs n) :: tl) s) (hh : A.handled = none) (hl : Rd env s.heap ln (.ref l))
    (p : Pv prog w A s.heap (eval e env) (In k)) (h0 : 0 ≤ k) (hv : vs[k.toNat]? = some (.ref a)) (ha : (a, tup [v₁, v₂]) ∈ tl) (hz : vs.length ≤ 1000000)
    (kk : ∀ s' n', St G O g env cs (up (up m x v₁) y v₂) cm ((l, lst (vs.eraseIdx k.toNat) n') :: tl) s' → Q .next s')
    (he : starEach [e] env = [(false, eval e env)] := by rfl) (hline : (apos.endLine == pos.line) = true := by rfl) (hdb : (ln == ("__debug__" : Str)) = false := by decide)
    (hk : env.scope.kind = .function := by rfl) (hlx : env.kindOf x = some .local := by rfl) (hly : env.kindOf y = some .local := by rfl) :
    wpAny (model prog w) A (exec (.Assign [.Tuple [.Name x px, .Name y py] kt tpos] (.Call (.Attribute (.Name ln pl) "pop" apos) [e] [] pos) spos) env) Q E s := by
  have hlt : k.toNat < vs.length := (List.getElem?_eq_some_iff.mp hv).1
  refine Assign_Tuple (meth_list (vs := vs) (n := n) (Pv.name hl hdb) (S.mem 0 rfl) F.slot_list_pop F.type_list_pop (fun h' tk k' => ?_) rfl (by rw [he]; rfl) hline) rfl rfl
  refine callW1 (s := { s with heap := h', toks := tk }) (p.up k') (fun v h₂ tk₂ k₂ r => ?_) he
  obtain ⟨u, rfl⟩ := r
  have S₂ := S.grow (k'.trans k₂) tk₂
  have ho := S₂.mem 0 rfl
  refine call_meets F.slot_list_pop ⟨_, ho, rfl⟩ F.entry_list_pop (F.args_list_pop_2 _ _) (MeetsSeq.list_pop_at l vs.toArray n k u k.toNat (.ref a) (fitsIndex_of (by lia) (by lia)) (seqIdx h0 (by rw [List.size_toArray]; exact hlt)) (by rw [List.getElem?_toArray]; exact hv) (by rw [List.size_toArray, sizeLine_eq]; lia)) ⟨ho, ?_⟩
  obtain ⟨n', q'⟩ := erase_lst (k := k.toNat) ho
  have S₃ := S₂.upd (s' := { s with heap := h₂.update l (Obj.mapSeq fun xs => xs.eraseIdxIfInBounds k.toNat), toks := tk₂ }) 0 rfl (Heap.SameBut.update ..) q' S.gens rfl
  refine a_tup2 hh (isTup_tup (S₃.own _ (.tail _ ha)).1) fun h₄ k₄ => ?_
  refine (S₃.growS (s' := { s with heap := h₄, toks := tk₂ }) k₄ S₃.gens rfl).asg (fun s₅ S₅ => S₅.asg (fun s₆ S₆ => kk s₆ n' S₆) hk hly) hk hlx
/-- a, b = l.pop() -/
theorem x_popL {ln x y : Str} {px py pl tpos apos pos spos : Pos} {kt : Nat} {l a : Addr} {vs : List Value} {n : Nat} {v₁ v₂ : Value} {tl : Led} {Q : Flow → Shared → Prop} (S : St G O g env cs m cm ((l, lst vs n) :: tl) s) (hh : A.handled = none) (hl : Rd env s.heap ln (.ref l))
    (hv : vs[vs.length - 1]? = some (.ref a)) (ha : (a, tup [v₁, v₂]) ∈ tl) (hz : vs.length ≤ 1000000)
    (kk : ∀ s' n', St G O g env cs (up (up m x v₁) y v₂) cm ((l, lst (vs.eraseIdx (vs.length - 1)) n') :: tl) s' → Q .next s')
    (hline : (apos.endLine == pos.line) = true := by rfl) (hdb : (ln == ("__debug__" : Str)) = false := by decide)
    (hk : env.scope.kind = .function := by rfl) (hlx : env.kindOf x = some .local := by rfl) (hly : env.kindOf y = some .local := by rfl) :
    wpAny (model prog w) A (exec (.Assign [.Tuple [.Name x px, .Name y py] kt tpos] (.Call (.Attribute (.Name ln pl) "pop" apos) [] [] pos) spos) env) Q E s := by
  refine Assign_Tuple (meth_list (vs := vs) (n := n) (Pv.name hl hdb) (S.mem 0 rfl) F.slot_list_pop F.type_list_pop (fun h' tk k' => ?_) rfl rfl hline) rfl rfl
  have S₂ := S.grow k' tk
  have ho := S₂.mem 0 rfl
  refine callW0 ?_
  refine call_meets F.slot_list_pop ⟨_, ho, rfl⟩ F.entry_list_pop (F.args_list_pop_1 _) (MeetsSeq.list_pop_last l vs.toArray n (.ref a) (by rw [List.getElem?_toArray]; exact hv) (by rw [List.size_toArray, sizeLine_eq]; lia)) ⟨ho, ?_⟩
  obtain ⟨n', q'⟩ := erase_lst (k := vs.length - 1) ho
  have S₃ := S₂.upd (s' := { s with heap := h'.update l (Obj.mapSeq fun xs => xs.eraseIdxIfInBounds (vs.length - 1)), toks := tk }) 0 rfl (Heap.SameBut.update ..) q' S.gens rfl
  refine a_tup2 hh (isTup_tup (S₃.own _ (.tail _ ha)).1) fun h₄ k₄ => ?_
  refine (S₃.growS (s' := { s with heap := h₄, toks := tk }) k₄ S₃.gens rfl).asg (fun s₅ S₅ => S₅.asg (fun s₆ S₆ => kk s₆ n' S₆) hk hly) hk hlx
end
end Mine
end

section
namespace Mine
/-- what the law needs of its classes -/
structure Good (cls : List (Nat × Nat)) : Prop where
  len : cls.length ≤ 8
  mods : ∃ R, R ≤ 72 ∧ R ∣ 432 ∧ ∀ p ∈ cls, 1 ≤ p.2 ∧ p.2 ∣ R
  start : ∀ p ∈ cls, p.1 ≤ 1000
  small : ∀ p ∈ cls, p.2 ≤ 27
/-- after j turns of the odd case -/
def Odd (j : Nat) (cls : List (Nat × Nat)) : Prop := 2 ≤ cls.length ∧ cls.length ≤ 2 + 2 * j ∧ ∃ a b, a + b = j ∧ ∀ p ∈ cls, 1 ≤ p.2 ∧ p.2 ∣ 2 ^ a * 3 ^ b ∧ p.1 ≤ 81 * j
theorem pow23 {a b : Nat} (h : a + b ≤ 3) : 2 ^ a * 3 ^ b ≤ 27 ∧ 2 ^ a * 3 ^ b ∣ 432 :=
  (by decide : ∀ a, a < 4 → ∀ b, b < 4 → a + b ≤ 3 → 2 ^ a * 3 ^ b ≤ 27 ∧ 2 ^ a * 3 ^ b ∣ 432) a (Nat.lt_succ_of_le (Nat.le_trans (Nat.le_add_right ..) h)) b (Nat.lt_succ_of_le (Nat.le_trans (Nat.le_add_left ..) h)) h
theorem Odd.mod_le {j : Nat} {cls : List (Nat × Nat)} (h : Odd j cls) (hj : j ≤ 3) {p : Nat × Nat} (hp : p ∈ cls) : p.2 ≤ 27 := by
  obtain ⟨_, _, a, b, hab, hm⟩ := h
  obtain ⟨h1, hd, _⟩ := hm p hp
  exact Nat.le_trans (Nat.le_of_dvd (Nat.mul_pos (Nat.pow_pos (by decide)) (Nat.pow_pos (by decide))) hd) (pow23 (by lia)).1
theorem Odd.start0 : Odd 0 [(0, 1), (0, 1)] := ⟨by decide, by decide, 0, 0, rfl, fun p hp => by
  have : p = (0, 1) := by simpa using hp
  subst this
  exact ⟨by decide, by decide, by decide⟩⟩
/-- the parts of a split class -/
def partsOf (start md parts k : Nat) : List (Nat × Nat) := (List.range k).map fun i => (start + i * md, parts * md)
theorem partsOf_succ {start md parts k : Nat} : partsOf start md parts (k + 1) = partsOf start md parts k ++ [(start + k * md, parts * md)] := by simp [partsOf, List.range_succ]
theorem partsOf_length {start md parts k : Nat} : (partsOf start md parts k).length = k := by simp [partsOf]
theorem Odd.split {j i : Nat} {cls : List (Nat × Nat)} {start md parts : Nat} (h : Odd j cls) (hj : j < 3) (hi : cls[i]? = some (start, md)) (hp : parts = 2 ∨ parts = 3) : Odd (j + 1) (cls.eraseIdx i ++ partsOf start md parts parts) := by
  have hmem : (start, md) ∈ cls := List.mem_of_getElem? hi
  have hlt := (List.getElem?_eq_some_iff.mp hi).1
  have hmd := h.mod_le (by lia) hmem
  obtain ⟨h2, hl, a, b, hab, hm⟩ := h
  have hlen : (cls.eraseIdx i).length = cls.length - 1 := List.length_eraseIdx_of_lt hlt
  obtain ⟨s1, s2, s3⟩ := hm _ hmem
  refine ⟨?_, ?_, ?_⟩
  · rw [List.length_append, hlen, partsOf_length]; lia
  · rw [List.length_append, hlen, partsOf_length]; lia
  · refine ⟨if parts = 2 then a + 1 else a, if parts = 2 then b else b + 1, by split <;> lia, fun p hp' => ?_⟩
    have hdv : 2 ^ a * 3 ^ b * parts = 2 ^ (if parts = 2 then a + 1 else a) * 3 ^ (if parts = 2 then b else b + 1) := by
      rcases hp with rfl | rfl
      · simp [Nat.pow_succ]; exact Nat.mul_right_comm ..
      · simp [Nat.pow_succ]; exact Nat.mul_assoc ..
    rw [← hdv]
    rcases List.mem_append.mp hp' with q | q
    · obtain ⟨t1, t2, t3⟩ := hm p (List.mem_of_mem_eraseIdx q)
      exact ⟨t1, Nat.dvd_trans t2 (Nat.dvd_mul_right ..), by lia⟩
    · obtain ⟨k, hk, rfl⟩ := List.mem_map.mp q
      rw [List.mem_range] at hk
      refine ⟨Nat.mul_pos (by lia) s1, ?_, ?_⟩
      · show parts * md ∣ _
        rw [Nat.mul_comm]
        exact Nat.mul_dvd_mul s2 (Nat.dvd_refl _)
      · show start + k * md ≤ _
        have h27 : md ≤ 27 := hmd
        have : k * md ≤ 2 * 27 := Nat.mul_le_mul (by lia) h27
        have : start ≤ 81 * j := s3
        lia
theorem Odd.good {cls : List (Nat × Nat)} (h : Odd 3 cls) : Good cls := by
  obtain ⟨h2, hl, a, b, hab, hm⟩ := h
  have := pow23 (a := a) (b := b) (by lia)
  have g : Odd 3 cls := ⟨h2, hl, a, b, hab, hm⟩
  exact ⟨hl, ⟨_, by lia, this.2, fun p hp => ⟨(hm p hp).1, (hm p hp).2.1⟩⟩, fun p hp => by have := (hm p hp).2.2; lia, fun p hp => g.mod_le (by lia) hp⟩
theorem Odd.less {cls : List (Nat × Nat)} (h : Odd 3 cls) : Good (cls.eraseIdx (cls.length - 1)) := by
  have g := h.good
  refine ⟨Nat.le_trans (by rw [List.length_eraseIdx]; split <;> lia) g.len, ?_, fun p hp => g.start p (List.mem_of_mem_eraseIdx hp), fun p hp => g.small p (List.mem_of_mem_eraseIdx hp)⟩
  obtain ⟨R, h1, h2, h3⟩ := g.mods
  exact ⟨R, h1, h2, fun p hp => h3 p (List.mem_of_mem_eraseIdx hp)⟩
theorem Odd.moved {cls : List (Nat × Nat)} {start md : Nat} (h : Odd 3 cls) (hi : cls[cls.length - 1]? = some (start, md)) : Good (cls.eraseIdx (cls.length - 1) ++ [(start + 1, md)]) := by
  have hmem := List.mem_of_getElem? hi
  have hlt := (List.getElem?_eq_some_iff.mp hi).1
  have hsm := h.good.small
  obtain ⟨h2, hl, a, b, hab, hm⟩ := h
  have := pow23 (a := a) (b := b) (by lia)
  refine ⟨?_, ⟨_, by lia, this.2, fun p hp => ?_⟩, fun p hp => ?_, fun p hp => ?_⟩
  · rw [List.length_append, List.length_eraseIdx_of_lt hlt]; simp; lia
  · rcases List.mem_append.mp hp with q | q
    · exact ⟨(hm p (List.mem_of_mem_eraseIdx q)).1, (hm p (List.mem_of_mem_eraseIdx q)).2.1⟩
    · rcases List.mem_singleton.mp q with rfl; exact ⟨(hm _ hmem).1, (hm _ hmem).2.1⟩
  · rcases List.mem_append.mp hp with q | q
    · have := (hm p (List.mem_of_mem_eraseIdx q)).2.2; lia
    · rcases List.mem_singleton.mp q with rfl
      have : start ≤ 81 * 3 := (hm _ hmem).2.2
      show start + 1 ≤ _; lia
  · rcases List.mem_append.mp hp with q | q
    · exact hsm p (List.mem_of_mem_eraseIdx q)
    · rcases List.mem_singleton.mp q with rfl; exact hsm (start, md) hmem
/-- the even case -/
def evenMods : List Nat := [2, 4, 8, 3, 6, 9, 12]
theorem good_even {cls : List (Nat × Nat)} (hl : cls.length ≤ 5) (h : ∀ p ∈ cls, p.1 < 12 ∧ p.2 ∈ evenMods) : Good cls :=
  ⟨by lia, ⟨72, by decide, by decide, fun p hp => (by decide : ∀ m ∈ evenMods, 1 ≤ m ∧ m ∣ 72) _ (h p hp).2⟩, fun p hp => by have := (h p hp).1; lia, fun p hp => (by decide : ∀ m ∈ evenMods, m ≤ 27) _ (h p hp).2⟩
end Mine
end

section
open PySem PySem.W PyProof.Rows
namespace Mine
section
variable {prog : Program} {w : World} {A : Around} {E : Value → Shared → Prop} {G G' : Array GenState} {O : OsState × Drawn} {g g' h h₁ : Heap} {env cenv : Env} {cs : List (Str × Addr)} {m cm : Str → Option Value} {led led' : Led} {s s' : Shared}
theorem St.perm (S : St G O g env cs m cm led s) (h : led.Perm led') : St G O g env cs m cm led' s :=
  { S with own := fun p hp => S.own p (h.mem_iff.mpr hp), nd := (h.map _).nodup_iff.mp S.nd }
/-- new objects join the own ones -/
theorem St.addL (S : St G O g env cs m cm led s) (k : Kp s.heap s'.heap) (hg : s'.gens = G') (ho : (s'.os, s'.drawn) = (s.os, s.drawn)) (news : Led) (hn : ∀ p ∈ news, s.heap.get? p.1 = none ∧ s'.heap.get? p.1 = some p.2) (nd : (news.map (·.1)).Nodup) :
    St G' O g env cs m cm (news ++ led) s' := by
  have S' := S.growS k hg ho
  refine { S' with own := ?_, nd := ?_ }
  · intro p hp
    rcases List.mem_append.mp hp with hp | hp
    · obtain ⟨h1, h2⟩ := hn p hp
      have off := S.newOff h1
      exact ⟨h2, S.newG h1, fun e => off (e ▸ List.mem_cons_self ..), fun n c hc e => off (e ▸ List.mem_cons_of_mem _ (List.mem_append_left _ (List.mem_map_of_mem (f := fun x : Str × Addr => x.2) hc)))⟩
    · exact S'.own p hp
  · rw [List.map_append, List.nodup_append]
    refine ⟨nd, S.nd, fun a ha b hb e => ?_⟩
    obtain ⟨p, hp, rfl⟩ := List.mem_map.mp ha
    obtain ⟨q, hq, rfl⟩ := List.mem_map.mp hb
    have h1 := (hn p hp).1
    have h2 := (S.own q hq).1
    rw [e, h2] at h1; cases h1
theorem Pv.splI {e : Expr} {rest : List Expr} {pos : Pos} {i : Int} {ns : List Int} (x : Pv prog w A h (eval e env) (In i)) (y : Pv prog w A h (spliced (backTo pos (starEach rest env))) (fun vs _ => IntsAre vs ns))
    (he : starEach (e :: rest) env = (false, eval e env) :: starEach rest env := by rfl) : Pv prog w A h (spliced (backTo pos (starEach (e :: rest) env))) (fun vs _ => IntsAre vs (i :: ns)) :=
  .splC (R := fun vs _ => IntsAre vs (i :: ns)) x (fun v h' k r => (y.up k).mono fun vs _ _ hv => by obtain ⟨t, rfl⟩ := r; exact .cons i t hv) he
end
abbrev cvt (p : Nat × Nat) : Int × Int := ((p.1 : Int), (p.2 : Int))
/-- the items of vs are the tuples of cls, among the objects tl -/
def PrsL (tl : Led) (vs : List Value) (cls : List (Nat × Nat)) : Prop := vs.length = cls.length ∧ ∀ (i : Nat) (p : Nat × Nat), cls[i]? = some p → ∃ (a : Addr) (t u : Tok), vs[i]? = some (.ref a) ∧ (a, tup [.int (p.1 : Int) t, .int (p.2 : Int) u]) ∈ tl
theorem PrsL.nil {tl : Led} : PrsL tl [] [] := ⟨rfl, fun i p h => by cases h⟩
theorem PrsL.mono {tl tl' : Led} {vs : List Value} {cls : List (Nat × Nat)} (x : PrsL tl vs cls) (h : ∀ p ∈ tl, p ∈ tl') : PrsL tl' vs cls :=
  ⟨x.1, fun i p e => let ⟨a, t, u, h1, h2⟩ := x.2 i p e; ⟨a, t, u, h1, h _ h2⟩⟩
theorem PrsL.snoc {tl : Led} {vs : List Value} {cls : List (Nat × Nat)} {a : Addr} {p : Nat × Nat} {t u : Tok} (x : PrsL tl vs cls) (h : (a, tup [.int (p.1 : Int) t, .int (p.2 : Int) u]) ∈ tl) : PrsL tl (vs ++ [.ref a]) (cls ++ [p]) := by
  refine ⟨by simp [x.1], fun i q e => ?_⟩
  rcases Nat.lt_or_ge i cls.length with hl | hl
  · rw [List.getElem?_append_left hl] at e
    obtain ⟨b, t', u', h1, h2⟩ := x.2 i q e
    exact ⟨b, t', u', by rw [List.getElem?_append_left (by rw [x.1]; exact hl)]; exact h1, h2⟩
  · rw [List.getElem?_append_right hl] at e
    have hi : i - cls.length = 0 := by
      have := (List.getElem?_eq_some_iff.mp e).1
      simp at this; omega
    rw [hi] at e
    cases e
    exact ⟨a, t, u, by rw [List.getElem?_append_right (by rw [x.1]; exact hl), x.1, hi]; rfl, h⟩
theorem PrsL.erase {tl : Led} {vs : List Value} {cls : List (Nat × Nat)} (x : PrsL tl vs cls) (k : Nat) : PrsL tl (vs.eraseIdx k) (cls.eraseIdx k) := by
  refine ⟨by rw [List.length_eraseIdx, List.length_eraseIdx, x.1], fun i q e => ?_⟩
  rw [List.getElem?_eraseIdx] at e ⊢
  split at e <;> rename_i hlt
  · rw [if_pos hlt]; exact x.2 i q e
  · rw [if_neg hlt]; exact x.2 (i + 1) q e
theorem PrsL.prs {tl : Led} {vs : List Value} {cls : List (Nat × Nat)} {h : Heap} {l : Addr} {n : Nat} (x : PrsL tl vs cls) (hl : h.get? l = some (lst vs n)) (ht : ∀ p ∈ tl, h.get? p.1 = some p.2) : Prs h l (cls.map cvt) := by
  refine ⟨vs, n, hl, by rw [x.1, List.length_map], fun i p e => ?_⟩
  rw [List.getElem?_map] at e
  cases hc : cls[i]? with
  | none => rw [hc] at e; cases e
  | some q =>
    rw [hc] at e
    cases e
    obtain ⟨a, t, u, h1, h2⟩ := x.2 i q hc
    exact ⟨a, t, u, h1, ht _ h2⟩
theorem pick_mem {ns : List Int} {lo hi st : Option Int} {x : Int} (h : x ∈ pickNums ns lo hi st) : x ∈ ns := by
  unfold pickNums at h
  obtain ⟨j, _, e⟩ := List.mem_filterMap.mp h
  exact List.mem_of_getElem? e
end Mine
namespace Mine
section
variable {prog : Program} {w : World} {A : Around} {h : Heap}
theorem Itr.mono {target : Expr} {I : Addr} {fp wr : List Addr} {n : Nat} {P P' : Nat → Value → Heap → Prop} {Sx : Nat → Heap → Prop} (W : Itr prog w A target I fp wr n P Sx) (f : ∀ i v h, i < n → P i v h → P' i v h) : Itr prog w A target I fp wr n P' Sx :=
  { W with step := fun i s Q E hi hx k => W.step i s Q E hi hx fun v h' tk p => k v h' tk (f i v h' hi p) }
theorem Src.mono {target : Expr} {v : Value} {n : Nat} {P P' : Nat → Value → Heap → Prop} (x : Src prog w A target v h n P) (f : ∀ i v h, i < n → P i v h → P' i v h) : Src prog w A target v h n P' :=
  fun s E Q ks q => x s E Q ks fun I fp wr Sx h' tk k W => q I fp wr Sx h' tk k (W.mono f)
theorem Src.ints {x : Str} {px : Pos} {l : Addr} {vs : List Value} {ns : List Int} {n : Nat} (hh : A.handled = none) (ho : h.get? l = some (lst vs n)) (hi : IntsAre vs ns) : Src prog w A (.Name x px) (.ref l) h ns.length (fun i v _ => ∃ y t, ns[i]? = some y ∧ v = .int y t) := by
  have := Src.list (prog := prog) (w := w) (x := x) (px := px) hh ho
  rw [hi.length] at this
  refine this.mono fun i v h' hlt e => ?_
  obtain ⟨t, ht⟩ := IntsAre.at? (y := ns[i]) hi (List.getElem?_eq_getElem hlt)
  rw [ht] at e; cases e
  exact ⟨ns[i], t, List.getElem?_eq_getElem hlt, rfl⟩
end
end Mine
namespace Mine
section
variable {prog : Program} {w : World} {A : Around} {E : Value → Shared → Prop} {G G' : Array GenState} {O : OsState × Drawn} {g g' h h₁ : Heap} {env cenv : Env} {cs : List (Str × Addr)} {m cm : Str → Option Value} {led led' : Led} {s s' : Shared}
/-- for x in range(n) -/
theorem x_forN {x : Str} {px pos : Pos} {iter : Expr} {body : List Stmt} {n : Nat} {Q : Flow → Shared → Prop} (J : Nat → Array GenState → (Str → Option Value) → (Str → Option Value) → Led → Prop)
    (S : St G O g env cs m cm led s) (hh : A.handled = none) (p : Pv prog w A s.heap (eval iter env) (Rng 0 (n : Nat))) (hn : n ≤ 1000000) (hJ : J 0 G m cm led)
    (turn : ∀ i t G m cm led g' s, i < n → J i G m cm led → Kp g g' → St G O g' env cs m cm led s →
      wpAny (model prog w) A (assign (.Name x px) env (.int (i : Nat) t)) (fun _ s₂ => wpAny (model prog w) A (execs body env) (fun f s₃ => match f with
        | .next | .cont => ∃ G' m' cm' led', J (i + 1) G' m' cm' led' ∧ St G' O g' env cs m' cm' led' s₃
        | .brk => Q .next s₃
        | .ret v => Q (.ret v) s₃) (fun _ _ => False) s₂) (fun _ _ => False) s)
    (fin : ∀ G m cm led s, J n G m cm led → St G O g env cs m cm led s → Q .next s)
    (hs : ∀ x, foldedSetIterable iter env x = pure x := by intro _; rfl) :
    wpAny (model prog w) A (exec (.For (.Name x px) iter body [] pos) env) Q E s := by
  have e : ((n : Int) - 0).toNat = n := by omega
  refine x_forR (a := 0) (b := (n : Int)) J S hh p (by omega) (by omega) (by omega) (by omega) hJ (fun i t G m cm led g' s hi hj kg S => ?_) (by rw [e]; exact fin) hs
  rw [Int.zero_add]
  exact turn i t G m cm led g' s (by omega) hj kg S
end
end Mine
end

section
open PySem PySem.W PyProof.Rows
namespace Mine
theorem g_classes {w : World} : mgOf w "_law_classes" = some (.ref 86) := rfl
theorem castMod (c d : Nat) : Int.fmod (c : Int) (d : Int) = ((c % d : Nat) : Int) := fmodN c d
inductive TwoT (h₀ : Heap) (us : List Value) (h' : Heap) : Prop
  | mk (a b : Addr) (t u t' u' : Tok) (e : us = [.ref a, .ref b]) (hab : a ≠ b) (na : h₀.get? a = none) (nb : h₀.get? b = none) (oa : h'.get? a = some (tup [.int 0 t, .int 1 u])) (ob : h'.get? b = some (tup [.int 0 t', .int 1 u'])) : TwoT h₀ us h'
inductive TwoL (h₀ : Heap) (v : Value) (h' : Heap) : Prop
  | mk (lc a b : Addr) (t u t' u' : Tok) (e : v = .ref lc) (hla : lc ≠ a) (hlb : lc ≠ b) (hab : a ≠ b) (nl : h₀.get? lc = none) (na : h₀.get? a = none) (nb : h₀.get? b = none) (ol : h'.get? lc = some (lst [.ref a, .ref b] 0)) (oa : h'.get? a = some (tup [.int 0 t, .int 1 u])) (ob : h'.get? b = some (tup [.int 0 t', .int 1 u'])) : TwoL h₀ v h'
inductive ClsJ (G₀ : Array GenState) (l : Addr) (j : Nat) (G : Array GenState) (m : Str → Option Value) (led : Led) : Prop
  | mk (lc : Addr) (ws : List Value) (n2 : Nat) (cls : List (Nat × Nat)) (tl : Led) (hG : G = G₀) (e1 : m "cells" = some (.ref l)) (e2 : m "classes" = some (.ref lc)) (el : led = (lc, lst ws n2) :: tl) (hp : PrsL tl ws cls) (ho : Odd j cls) : ClsJ G₀ l j G m led
inductive ClsI (G₀ : Array GenState) (l lc : Addr) (start md parts : Nat) (cls' : List (Nat × Nat)) (i : Nat) (G : Array GenState) (m : Str → Option Value) (led : Led) : Prop
  | mk (ws : List Value) (n2 : Nat) (tl : Led) (t1 t2 t3 : Tok) (hG : G = G₀) (f1 : m "cells" = some (.ref l)) (f2 : m "classes" = some (.ref lc)) (f3 : m "start" = some (.int (start : Int) t1)) (f4 : m "modulus" = some (.int (md : Int) t2)) (f5 : m "parts" = some (.int (parts : Int) t3)) (el : led = (lc, lst ws n2) :: tl) (hp : PrsL tl ws (cls' ++ partsOf start md parts i)) : ClsI G₀ l lc start md parts cls' i G m led
/-- _law_classes(cells) -/
theorem classes_call {w : World} {A : Around} {s : Shared} {Q : Value → Shared → Prop} {E : Value → Shared → Prop} {l : Addr} {vs : List Value} {nn : Nat} {cells : List Nat} (T : Tp w s.heap) (hh : A.handled = none) (hd : A.depth + 30 < recursionLimit)
    (ho : s.heap.get? l = some (lst vs nn)) (hi : IntsAre vs (cells.map Int.ofNat)) (h5 : cells.length = 5)
    (k : ∀ s' l' cls, s.heap.get? l' = none → Prs s'.heap l' (cls.map cvt) → Good cls → Kp s.heap s'.heap → s'.gens = s.gens → (s'.os, s'.drawn) = (s.os, s.drawn) → Q (.ref l') s') :
    wpAny (model pr w) A (call (.ref 86) [.ref l] []) Q E s := by
  obtain ⟨c0, c1, c2, c3, c4, rfl⟩ : ∃ c0 c1 c2 c3 c4, cells = [c0, c1, c2, c3, c4] := by
    match cells, h5 with
    | [a, b, c, d, e], _ => exact ⟨a, b, c, d, e, rfl⟩
  have hvl : vs.length = 5 := hi.length
  refine def_call T (by lia) rfl rfl (code_rec T rfl rfl) rfl (BindsTo.of_eq rfl) (nocell rfl) (locs rfl) fun s₁ S₁ T₁ => ?_
  have hol : ∀ {h'}, Kp s.heap h' → h'.get? l = some (lst vs nn) := fun k => k _ _ ho
  refine x_cons (x_if S₁ (.teq (.modI (.itemI (y := (c0 : Int)) (.name (S₁.loc rfl)) .cint (hol S₁.keep) hi (by decide) (by decide) rfl) .cint (by decide)) .cint) (fun _ s₂ k₂ S₂ => ?_) fun _ s₂ k₂ S₂ => ?_)
  · -- the even case
    refine x_cons (x_setN S₂ (.sliceL (.name (S₂.loc rfl)) (hol S₂.keep) (.partI .cint) (.partI (.addI .cint (.modI (.divI (.itemI (y := (c0 : Int)) (.name (S₂.loc rfl)) .cint (hol S₂.keep) hi (by decide) (by decide) rfl) .cint (by decide) (by decide)) .cint (by decide)))) (by lia)) fun ls o s₃ s₄ ho' k₃ S₄ => ?_)
    subst ho'
    generalize hpq : (some ((3 : Int) + Int.fmod (Int.fdiv (c0 : Int) 2) 3)) = q at *
    have hpi : IntsAre (slicePick vs.toArray (some 1) q none).toList (pickNums ([c0, c1, c2, c3, c4].map Int.ofNat) (some 1) q none) := hi.pick _ _ _
    have hpl := length_pickNums_le hi (some 1) q none
    rw [List.length_map] at hpl
    have hpm : ∀ x ∈ pickNums ([c0, c1, c2, c3, c4].map Int.ofNat) (some 1) q none, ∃ c : Nat, x = c := fun x hx => by
      obtain ⟨c, _, rfl⟩ := List.mem_map.mp (pick_mem hx)
      exact ⟨c, rfl⟩
    generalize (slicePick vs.toArray (some 1) q none).toList = ws at *
    generalize pickNums ([c0, c1, c2, c3, c4].map Int.ofNat) (some 1) q none = ds at *
    have hwl : ws.length = ds.length := hpi.length
    have hw5 : ws.length ≤ 5 := by rw [hwl]; exact hpl
    have T₄ := T.up S₄.keep
    refine x_cons (x_ret S₄ (Pv.comp (P := fun i v _ => ws[i]? = some v) (n := ws.length) (R₁ := Is (.ref ls)) (fun i ys led => ∃ cls, PrsL led ys cls ∧ cls.length = i ∧ ∀ p ∈ cls, p.1 < 12 ∧ p.2 ∈ evenMods) (.name (S₄.loc rfl)) (fun v h' k e => e ▸ Src.list (by exact hh) (k _ _ (S₄.mem 0 rfl))) (by lia) ⟨[], .nil, rfl, fun p hp => by cases hp⟩ ?_) fun v s₅ r k₅ S₅ => ?_)
    · rintro G O C D i v ys n2 m cm led g' s₆ hi6 hv ⟨cls, hp, hcl, hg⟩ kg S₆
      obtain ⟨c, t, rfl⟩ : ∃ (c : Nat) (t : Tok), v = .int (c : Int) t := by
        have hlt : i < ds.length := by lia
        obtain ⟨t, ht⟩ := IntsAre.at? (y := ds[i]) hpi (List.getElem?_eq_getElem hlt)
        rw [ht] at hv; cases hv
        obtain ⟨c, hc⟩ := hpm _ (List.getElem_mem hlt)
        exact ⟨c, t, by rw [hc]⟩
      refine S₆.asg fun s₇ S₇ => S₇.pv .tests0 fun ok s₈ r k₈ S₈ => ?_
      obtain rfl := r
      rw [if_pos rfl]
      have hm7 : c % 7 < 7 := Nat.mod_lt _ (by decide)
      refine S₈.pv (.tup2 (P₁ := fun v => ∃ t, v = .int ((c / 7 % 12 : Nat) : Int) t) (P₂ := fun v => ∃ (md : Nat) (t : Tok), md ∈ evenMods ∧ v = .int (md : Int) t) (.castI (.modI (.divI (.nameI (S₈.loc rfl)) .cint (by decide) (by decide)) .cint (by decide)) (by rw [show (7 : Int) = ((7 : Nat) : Int) from rfl, fdivN, show (12 : Int) = ((12 : Nat) : Int) from rfl, fmodN])) ?_) fun v s₉ r k₉ S₉ => ?_
      · refine .tupItem (k := ((c % 7 : Nat) : Int)) (R₁ := fun vs _ => IntsAre vs [2, 4, 8, 3, 6, 9, 12]) (.splI .cint (.splI .cint (.splI .cint (.splI .cint (.splI .cint (.splI .cint (.splI .cint (.spl0 fun _ _ => .nil)))))))) (.castI (.modI (.nameI (S₈.loc rfl)) .cint (by decide)) (by rw [show (7 : Int) = ((7 : Nat) : Int) from rfl, fmodN])) (by lia) (by lia) fun us h' hu => ?_
        refine ⟨by rw [hu.length]; decide, ?_⟩
        rw [Int.toNat_natCast]
        have : ∀ j, j < 7 → ∃ y : Nat, ([2, 4, 8, 3, 6, 9, 12] : List Int)[j]? = some (y : Int) ∧ y ∈ evenMods := by
          intro j hj
          rcases (by lia : j = 0 ∨ j = 1 ∨ j = 2 ∨ j = 3 ∨ j = 4 ∨ j = 5 ∨ j = 6) with rfl | rfl | rfl | rfl | rfl | rfl | rfl
          · exact ⟨2, rfl, by decide⟩
          · exact ⟨4, rfl, by decide⟩
          · exact ⟨8, rfl, by decide⟩
          · exact ⟨3, rfl, by decide⟩
          · exact ⟨6, rfl, by decide⟩
          · exact ⟨9, rfl, by decide⟩
          · exact ⟨12, rfl, by decide⟩
        obtain ⟨y, hy, hym⟩ := this _ hm7
        obtain ⟨t', ht'⟩ := IntsAre.at? hu hy
        exact ⟨_, ht', y, t', hym, rfl⟩
      · obtain ⟨a, o, rfl, hn, hoa, v₁, v₂, ⟨t₁, rfl⟩, ⟨md, t₂, hmd, rfl⟩, rfl⟩ := r
        have S₁₀ := S₈.addS k₉ S₉.gens (S₉.os.trans S₈.os.symm) hn hoa
        refine ⟨_, _, (a, _) :: led, ⟨cls ++ [(c / 7 % 12, md)], PrsL.snoc (hp.mono fun p hp => .tail _ hp) (t := t₁) (u := t₂) (.head _), by simp [hcl], fun p hp' => ?_⟩, S₁₀.perm (.swap _ _ _)⟩
        rcases List.mem_append.mp hp' with q | q
        · exact hg p q
        · rcases List.mem_singleton.mp q with rfl
          exact ⟨Nat.mod_lt _ (by decide), hmd⟩
    · obtain ⟨D, ys, n2, led, rfl, ⟨cls, hp, hcl, hg⟩, hn, hoD, htl⟩ := r
      refine k s₅ D cls ?_ (hp.prs hoD fun p hp => (htl p hp).1) (good_even (by lia) hg) S₅.keep S₅.gens S₅.os
      cases e : s.heap.get? D with
      | none => rfl
      | some o => rw [S₄.keep _ _ e] at hn; cases hn
  · -- the odd case
    have pair : ∀ {A : Around} {env : Env} {h : Heap} {k0 k1 k2 : Nat} {p0 p1 p2 : Pos}, Pv pr w A h (eval (.Tuple [.Constant (.int 0) k1 p1, .Constant (.int 1) k2 p2] k0 p0) env) (New h fun o _ => ∃ t u, o = tup [.int 0 t, .int 1 u]) := fun {A env h k0 k1 k2 p0 p1 p2} =>
      (Pv.tup2 (P₁ := fun v => ∃ t, v = .int 0 t) (P₂ := fun v => ∃ t, v = .int 1 t) .cint .cint).mono fun v h' k r => by
        obtain ⟨a, o, rfl, hn, hoa, v₁, v₂, ⟨t, rfl⟩, ⟨u, rfl⟩, rfl⟩ := r
        exact ⟨a, _, rfl, hn, hoa, t, u, rfl⟩
    refine x_nil (x_cons (wpAny_Assign_Name (S₂.pv (.lstD (R₁ := TwoT s₂.heap)
      (R := TwoL s₂.heap)
      (.splC (R := TwoT s₂.heap) pair fun v h' kk r => .splC (R := fun us h' => TwoT s₂.heap (v :: us) h') pair fun v₂ h₂ kk₂ r₂ => .spl0 fun h₃ kk₃ => ?_) (fun us h' h'' l kk r h1 h2 k' ho => ?_) (fun us h' r => ?_)) fun v s₃ r k₃ S₃ => ?_) rfl))
    · obtain ⟨a, o, rfl, hna, hoa, t, u, rfl⟩ := r
      obtain ⟨b, o, rfl, hnb, hob, t', u', rfl⟩ := r₂
      refine ⟨a, b, t, u, t', u', rfl, fun e => ?_, hna, ?_, (kk₂.trans kk₃) _ _ hoa, kk₃ _ _ hob⟩
      · rw [← e, hoa] at hnb; cases hnb
      · cases e : s₂.heap.get? b with
        | none => rfl
        | some o => rw [kk _ _ e] at hnb; cases hnb
    · obtain ⟨a, b, t, u, t', u', rfl, hab, ha, hb, hoa, hob⟩ := r
      refine ⟨l, a, b, t, u, t', u', rfl, fun e => ?_, fun e => ?_, hab, h2, ha, hb, ho, k' _ _ hoa, k' _ _ hob⟩
      · rw [e, hoa] at h1; cases h1
      · rw [e, hob] at h1; cases h1
    · obtain ⟨a, b, _, _, _, _, rfl, _⟩ := r
      exact (by decide : 2 ≤ 1000000)
    obtain ⟨lc, a, b, t, u, t', u', rfl, hla, hlb, hab, n1, n2, n3, o1, o2, o3⟩ := r
    have S₃' := S₂.addL (s' := s₃) k₃ S₃.gens (S₃.os.trans S₂.os.symm) [(lc, lst [.ref a, .ref b] 0), (a, tup [.int 0 t, .int 1 u]), (b, tup [.int 0 t', .int 1 u'])]
      (fun p hp => by
        simp only [List.mem_cons, List.not_mem_nil, or_false] at hp
        rcases hp with rfl | rfl | rfl
        · exact ⟨n1, o1⟩
        · exact ⟨n2, o2⟩
        · exact ⟨n3, o3⟩) (by simp [hla, hlb, hab])
    refine S₃'.store fun s₄ S₄ => ?_
    -- the three splits
    refine x_cons (x_forQ (R₁ := fun v h' => ∃ ls ws n2, v = .ref ls ∧ s₄.heap.get? ls = none ∧ h'.get? ls = some (lst ws n2) ∧ IntsAre ws [(c1 : Int), c2, c3]) (n := 3) (P := fun i v _ => ∃ y t, ([(c1 : Int), c2, c3] : List Int)[i]? = some y ∧ v = .int y t)
      (fun j G m cm led => ClsJ s.gens l j G m led) S₄
      ((Pv.sliceL (.name (S₄.loc rfl)) (hol S₄.keep) (.partI .cint) (.partI .cint) (by lia)).mono fun v h' kk r => ?_) ?_ ?_ ?_ ?_)
    · obtain ⟨ls, o, rfl, hn, hos, rfl⟩ := r
      exact ⟨ls, _, _, rfl, hn, hos, hi.pick (some 1) (some 4) none⟩
    · rintro v s' kk S' ⟨ls, ws, n2, rfl, hn, hos, hws⟩
      have hoff := S₄.newOff hn
      exact Src.ints (by exact hh) (frz_get hos hoff) hws
    · exact ⟨lc, _, 0, [(0, 1), (0, 1)], _, rfl, rfl, rfl, rfl, ⟨rfl, fun i p e => by
        match i, e with
        | 0, e => cases e; exact ⟨a, t, u, rfl, .head _⟩
        | 1, e => cases e; exact ⟨b, t', u', rfl, .tail _ (.head _)⟩⟩, Odd.start0⟩
    · rintro j v G m cm led g' s₅ hj ⟨y, tc, hy, rfl⟩ ⟨lc, ws, n2, cls, tl, rfl, e1, e2, rfl, hp, hodd⟩ kg S₅
      obtain ⟨c, rfl⟩ : ∃ c : Nat, y = (c : Int) := by
        match j, hj, hy with
        | 0, _, hy => cases hy; exact ⟨c1, rfl⟩
        | 1, _, hy => cases hy; exact ⟨c2, rfl⟩
        | 2, _, hy => cases hy; exact ⟨c3, rfl⟩
      have hwl := hp.1
      obtain ⟨h2, h8, _⟩ := id hodd
      refine S₅.asg fun s₆ S₆ => hold fun Q₁ q₁ => ?_
      have T₆ := (T.up kg).up S₆.keep
      have hidx : c % cls.length < cls.length := Nat.mod_lt _ (by lia)
      obtain ⟨a, t₁, t₂, hva, hta⟩ := hp.2 (c % cls.length) cls[c % cls.length] (List.getElem?_eq_getElem hidx)
      have hgc : cls[c % cls.length]? = some (cls[c % cls.length].1, cls[c % cls.length].2) := List.getElem?_eq_getElem hidx
      generalize cls[c % cls.length].1 = start at *
      generalize cls[c % cls.length].2 = md at *
      have hmem := List.mem_of_getElem? hgc
      have hm27 : md ≤ 27 := hodd.mod_le (by lia) hmem
      have hst : start ≤ 81 * 3 := by obtain ⟨_, _, a, b, _, hq⟩ := hodd; have := (hq _ hmem).2.2; simp at this; lia
      refine x_cons (x_pop2 (k := ((c % cls.length : Nat) : Int)) S₆ hh (S₆.loc e2) (.castI (.modI (.nameI (S₆.loc rfl)) (.lenN T₆ (S₆.loc e2) (S₆.mem 0 rfl) (by lia)) (by lia)) (by rw [hwl]; exact fmodN ..)) (by lia) (by rw [Int.toNat_natCast]; exact hva) hta (by lia) fun s₇ n3 S₇ => ?_)
      rw [Int.toNat_natCast] at S₇
      have hp₇ := hp.erase (c % cls.length)
      obtain ⟨parts, hparts, hpc⟩ : ∃ parts : Nat, (parts = 2 ∨ parts = 3) ∧ 2 + c / 8 % 2 = parts := ⟨_, by lia, rfl⟩
      refine x_cons (x_setI (i := (parts : Int)) S₇ (.castI (.addI .cint (.modI (.divI (.nameI (S₇.loc rfl)) .cint (by decide) (by decide)) .cint (by decide))) (by rw [show (8 : Int) = ((8 : Nat) : Int) from rfl, fdivN, show Int.fmod ((c / 8 : Nat) : Int) 2 = ((c / 8 % 2 : Nat) : Int) from fmodN ..]; lia)) fun t₈ s₈ S₈ => ?_)
      have T₈ := (T.up kg).up S₈.keep
      have hodd' := hodd.split hj hgc hparts
      have hp8 : parts ≤ 3 := by lia
      have hlen₇ : (cls.eraseIdx (c % cls.length)).length ≤ 8 := Nat.le_trans (by rw [List.length_eraseIdx]; split <;> lia) (show cls.length ≤ 8 by lia)
      generalize cls.eraseIdx (c % cls.length) = cls' at *
      generalize ws.eraseIdx (c % cls.length) = ws' at *
      refine x_cons (x_forN (n := parts)
        (fun i G m cm led => ClsI s.gens l lc start md parts cls' i G m led) S₈ hh
        (.range1 T₈ (.nameI (S₈.loc rfl))) (by lia) ⟨_, _, _, _, _, _, rfl, e1, e2, rfl, rfl, rfl, rfl, by simpa [partsOf] using hp₇⟩ ?_ ?_)
      · rintro i t G m cm led g'' s₉ hi9 ⟨ws, n2, tl, t1, t2, t3, rfl, f1, f2, f3, f4, f5, rfl, hp₉⟩ kg' S₉
        have hwl₉ := hp₉.1
        rw [List.length_append, partsOf_length] at hwl₉
        refine S₉.asg fun s₁₀ S₁₀ => hold fun Q₂ q₂ => ?_
        refine x_cons (x_appendN (i := 0) S₁₀ (S₁₀.loc f2) rfl (.tup2 (P₁ := fun v => ∃ t, v = .int ((start + i * md : Nat) : Int) t) (P₂ := fun v => ∃ t, v = .int ((parts * md : Nat) : Int) t)
          (.castI (.addI (.nameI (S₁₀.loc f3)) (.mulI (.nameI (S₁₀.loc rfl)) (.nameI (S₁₀.loc f4)) (IntMulOk.of_left (intBits_le_nat (Nat.lt_of_lt_of_le (show i < 2 ^ 9 by lia) (by decide)))))) (by rw [Int.natCast_add, Int.natCast_mul]))
          (.castI (.mulI (.nameI (S₁₀.loc f5)) (.nameI (S₁₀.loc f4)) (IntMulOk.of_left (intBits_le_nat (Nat.lt_of_lt_of_le (show parts < 2 ^ 9 by lia) (by decide))))) (by rw [Int.natCast_mul]))) (by show ws.length ≤ _; lia) fun a o s₁₁ s₁₂ r k₁₁ S₁₂ => ?_)
        obtain ⟨_, _, ⟨u1, rfl⟩, ⟨u2, rfl⟩, rfl⟩ := r
        refine x_nil (q₂ _ _ ⟨_, _, _, _, ⟨_, _, (a, _) :: tl, t1, t2, t3, rfl, by exact f1, by exact f2, by exact f3, by exact f4, by exact f5, rfl, ?_⟩, S₁₂.perm (.swap _ _ _)⟩)
        rw [partsOf_succ, ← List.append_assoc]
        exact PrsL.snoc (hp₉.mono fun p hp => .tail _ hp) (t := u1) (u := u2) (.head _)
      · rintro G m cm led s₁₃ ⟨ws, n2, tl, t1, t2, t3, rfl, f1, f2, f3, f4, f5, rfl, hp₁₃⟩ S₁₃
        exact x_nil (q₁ _ _ ⟨_, _, _, _, ⟨lc, ws, n2, _, tl, rfl, f1, f2, rfl, hp₁₃, hodd'⟩, S₁₃⟩)
    · rintro G m cm led s₁₄ ⟨lc, ws, n2, cls, tl, rfl, e1, e2, rfl, hp, hodd⟩ S₁₄
      have hwl := hp.1
      obtain ⟨h2, h8, _⟩ := id hodd
      have fin : ∀ {env : Env} {A : Around} {s' : Shared} {m cm : Str → Option Value} {ws : List Value} {n2 : Nat} {cls : List (Nat × Nat)} {tl : Led}, St s.gens (s.os, s.drawn) s.heap env [] m cm ((lc, lst ws n2) :: tl) s' → PrsL tl ws cls → Good cls → Q (.ref lc) s' := fun S hp hg =>
        k _ lc _ (S.own _ (.head _)).2.1 (hp.prs (S.own _ (.head _)).1 fun p hp => (S.own p (.tail _ hp)).1) hg S.keep S.gens S.os
      refine x_cons (x_if S₁₄ (.tgt (.modI (.itemI (y := (c4 : Int)) (.name (S₁₄.loc e1)) .cint (hol S₁₄.keep) hi (by decide) (by decide) rfl) .cint (by decide)) .cint) (fun _ s₁₅ k₁₅ S₁₅ => ?_) fun _ s₁₅ k₁₅ S₁₅ => ?_)
      · have hidx : cls.length - 1 < cls.length := by lia
        obtain ⟨a, t₁, t₂, hva, hta⟩ := hp.2 (cls.length - 1) cls[cls.length - 1] (List.getElem?_eq_getElem hidx)
        have hgc : cls[cls.length - 1]? = some (cls[cls.length - 1].1, cls[cls.length - 1].2) := List.getElem?_eq_getElem hidx
        generalize cls[cls.length - 1].1 = start at *
        generalize cls[cls.length - 1].2 = md at *
        refine x_cons (x_popL S₁₅ hh (S₁₅.loc e2) (by rw [hwl]; exact hva) hta (by lia) fun s₁₆ n3 S₁₆ => ?_)
        have hp₁₆ := hp.erase (cls.length - 1)
        rw [hwl] at S₁₆
        refine x_cons (x_if S₁₆ (.teq (.modI (.itemI (y := (c4 : Int)) (.name (S₁₆.loc e1)) .cint (hol S₁₆.keep) hi (by decide) (by decide) rfl) .cint (by decide)) .cint) (fun _ s₁₇ k₁₇ S₁₇ => ?_) fun _ s₁₇ k₁₇ S₁₇ => ?_)
        · refine x_cons (x_appendN (i := 0) S₁₇ (S₁₇.loc e2) rfl (.tup2 (P₁ := fun v => ∃ t, v = .int ((start + 1 : Nat) : Int) t) (P₂ := fun v => ∃ t, v = .int (md : Int) t) (.castI (.addI (.nameI (S₁₇.loc rfl)) .cint) (by lia)) (.nameI (S₁₇.loc rfl))) (by rw [List.length_eraseIdx]; split <;> lia) fun a o s₁₈ s₁₉ r k₁₈ S₁₉ => ?_)
          obtain ⟨_, _, ⟨u1, rfl⟩, ⟨u2, rfl⟩, rfl⟩ := r
          refine x_nil (x_nil (x_cons (x_ret S₁₉ (.name (S₁₉.loc e2)) fun v s₂₀ r k₂₀ S₂₀ => ?_)))
          obtain rfl := r
          exact fin (A := A) (S₂₀.perm (.swap _ _ _)) (PrsL.snoc (hp₁₆.mono fun p hp => .tail _ hp) (t := u1) (u := u2) (p := (start + 1, md)) (.head _)) (hodd.moved hgc)
        · refine x_nil (x_nil (x_cons (x_ret S₁₇ (.name (S₁₇.loc e2)) fun v s₂₀ r k₂₀ S₂₀ => ?_)))
          obtain rfl := r
          exact fin (A := A) S₂₀ hp₁₆ hodd.less
      · refine x_nil (x_cons (x_ret S₁₅ (.name (S₁₅.loc e2)) fun v s₂₀ r k₂₀ S₂₀ => ?_))
        obtain rfl := r
        exact fin (A := A) S₂₀ hp hodd.good
end Mine
end

section
open PySem PySem.W PyProof.Rows
namespace Mine
theorem bisect_pv3 {w : World} {A : Around} {h : Heap} {l : Addr} {vs : List Value} {n : Nat} {ns : List Int} {x : Int} {lo : Nat} {tx tl : Tok} (T : Tp w h) (hd : A.depth < recursionLimit) (ho : h.get? l = some (lst vs n)) (hi : IntsAre vs ns)
    (hs : ns.Pairwise (· ≤ ·)) (hlen : ns.length ≤ 1000000) (hlo : lo ≤ ns.length) :
    Pv pr w A h (call (.ref 81) [.ref l, .int x tx, .int (lo : Nat) tl] []) (fun v _ => ∃ (k : Nat) (t : Tok), v = .int k t ∧ BisOk ns x lo k) := by
  intro s Q E ks q
  have Ts := T.up ks
  have hvl : vs.length = ns.length := hi.length
  refine def_call Ts hd rfl rfl (code_rec Ts rfl rfl) rfl (bisect_binds3 Ts rfl rfl) (by decide) (locs rfl) fun s₁ S₁ T₁ => ?_
  refine x_cons (x_if S₁ (.tlt (.nameI (S₁.loc rfl)) .cint) (fun hb => ?_) fun _ s₂ k₂ S₂ => ?_)
  · exfalso; simp at hb; lia
  refine x_nil (x_cons (x_if S₂ (.tisNone (.name (S₂.loc rfl))) (fun _ s₃ k₃ S₃ => ?_) fun hb => ?_))
  case refine_2 => exact absurd hb (by decide)
  have T₃ := T₁.up (k₂.trans k₃)
  have hl : ∀ {s' : Shared}, Kp s.heap s'.heap → s'.heap.get? l = some (lst vs n) := fun k => k _ _ (ks _ _ ho)
  refine x_cons (x_setI (i := vs.length) S₃ (.callB (.boot T₃ g_len b_len) (.args1 (.name (S₃.loc rfl))) fun vs' h' k r => ?_) fun t₄ s₄ S₄ => ?_)
  · obtain ⟨_, rfl, rfl⟩ := r
    exact len_pv (k _ _ (hl S₃.keep)) (by lia)
  refine x_nil (x_cons (x_if S₄ (.tisNone (.name (S₄.loc rfl))) (fun _ s₅ k₅ S₅ => ?_) fun hb => ?_))
  case refine_2 => exact absurd hb (by decide)
  -- the loop
  refine x_cons (x_while (fun m s' => ∃ (mm : Str → Option Value) (a b : Nat) (ta tb : Tok), St s.gens (s.os, s.drawn) s.heap (callEnv _ s.heap.objs.size 81) [] mm (fun _ => none) [] s' ∧ mm "a" = some (.ref l) ∧ mm "x" = some (.int x tx) ∧ mm "lo" = some (.int a ta) ∧ mm "hi" = some (.int b tb) ∧
    m = b - a ∧ lo ≤ a ∧ a ≤ b ∧ b ≤ ns.length ∧ (∀ i, lo ≤ i → i < a → ∀ y, ns[i]? = some y → y ≤ x) ∧ (∀ i, b ≤ i → ∀ y, ns[i]? = some y → x < y)) (ns.length - lo)
    ⟨_, lo, ns.length, tl, t₄, S₅, rfl, rfl, rfl, by rw [← hvl]; rfl, rfl, Nat.le_refl _, hlo, Nat.le_refl _, fun i h1 h2 => by lia, fun i h1 y hy => by rw [List.getElem?_eq_none h1] at hy; cases hy⟩ ?_)
  rintro m s₆ ⟨mm, a, b, ta, tb, S₆, ea, ex, elo, ehi, rfl, h1, h2, h3, h4, h5⟩
  refine ⟨_, .tlt (.nameI (S₆.loc elo)) (.nameI (S₆.loc ehi)), fun h' tk k => ?_⟩
  have S₇ := S₆.grow k tk
  by_cases hab : a < b
  · rw [if_pos (by simpa using hab)]
    refine x_cons (x_setI S₇ (.divI (.addI (.nameI (S₇.loc elo)) (.nameI (S₇.loc ehi))) .cint (by decide) (by decide)) fun t₈ s₈ S₈ => ?_)
    have hmid : Int.fdiv ((a : Int) + b) 2 = ((a + b) / 2 : Nat) := by rw [Int.fdiv_eq_ediv_of_nonneg _ (by decide)]; lia
    rw [hmid] at S₈
    obtain ⟨y, hy⟩ : ∃ y, ns[(a + b) / 2]? = some y := ⟨_, List.getElem?_eq_getElem (by lia)⟩
    refine x_cons (x_if S₈ (.tlt (.nameI (S₈.loc ex)) (.itemI (.name (S₈.loc ea)) (.nameI (S₈.loc rfl)) (hl S₈.keep) hi (by lia) (by lia) (by rw [Int.toNat_natCast]; exact hy))) (fun hb s₉ k₉ S₉ => ?_) fun hb s₉ k₉ S₉ => ?_)
    · refine x_cons (x_setI S₉ (.nameI (S₉.loc rfl)) fun t₁₀ s₁₀ S₁₀ => x_nil (x_nil ?_))
      have hb' : x < y := by simpa using hb
      refine ⟨(a + b) / 2 - a, by lia, _, a, (a + b) / 2, ta, t₁₀, S₁₀, ea, ex, elo, rfl, rfl, h1, by lia, by lia, h4, fun i hi1 z hz => ?_⟩
      have hil := (List.getElem?_eq_some_iff.mp hz).1
      have hie := (List.getElem?_eq_some_iff.mp hz).2
      have hye := (List.getElem?_eq_some_iff.mp hy).2
      rcases Nat.lt_or_ge ((a + b) / 2) i with hlt | hge
      · have := List.pairwise_iff_getElem.mp hs _ _ (by lia) hil hlt
        rw [hie, hye] at this; lia
      · have : i = (a + b) / 2 := by lia
        subst this; rw [hy] at hz; cases hz; exact hb'
    · refine x_cons (x_setI S₉ (.addI (.nameI (S₉.loc rfl)) .cint) fun t₁₀ s₁₀ S₁₀ => x_nil (x_nil ?_))
      have hb' : y ≤ x := by simpa using hb
      have e1 : (((a + b) / 2 : Nat) : Int) + 1 = (((a + b) / 2 + 1 : Nat) : Int) := by lia
      rw [e1] at S₁₀
      refine ⟨b - ((a + b) / 2 + 1), by lia, _, (a + b) / 2 + 1, b, t₁₀, tb, S₁₀, ea, ex, rfl, ehi, rfl, by lia, by lia, h3, fun i hi1 hi2 z hz => ?_, h5⟩
      have hil := (List.getElem?_eq_some_iff.mp hz).1
      have hie := (List.getElem?_eq_some_iff.mp hz).2
      have hye := (List.getElem?_eq_some_iff.mp hy).2
      rcases Nat.lt_or_ge i ((a + b) / 2) with hlt | hge
      · have := List.pairwise_iff_getElem.mp hs _ _ hil (by lia) hlt
        rw [hie, hye] at this; lia
      · have : i = (a + b) / 2 := by lia
        subst this; rw [hy] at hz; cases hz; exact hb'
  · rw [if_neg (by simpa using hab)]
    have : a = b := by lia
    subst this
    refine x_nil (x_cons (x_ret S₇ (.name (S₇.loc elo)) fun v s₈ r k₈ S₈ => ?_))
    obtain rfl := r
    rw [S₈.back]
    exact q _ _ _ S₈.keep ⟨a, ta, rfl, h1, h3, h4, h5⟩
end Mine
end

section
open PySem PySem.W PyProof.Rows
namespace Mine
open PySem.SeqAt
theorem all_eq_iff : ∀ {ns ms : List Int}, ns.length = ms.length → (List.range ns.length).all (fun j => ns.getD j 0 == ms.getD j 0) = decide (ns = ms)
  | ns, ms, hl => by
    rw [Bool.eq_iff_iff, List.all_eq_true, decide_eq_true_iff]
    constructor
    · intro h
      apply List.ext_getElem hl
      intro i h1 h2
      have := h i (List.mem_range.mpr h1)
      simpa [h1, h2] using this
    · rintro rfl j _
      simp
section
variable {prog : Program} {w : World} {A : Around} {E : Value → Shared → Prop} {G G' : Array GenState} {O : OsState × Drawn} {g g' h h₁ : Heap} {env cenv : Env} {cs : List (Str × Addr)} {m cm : Str → Option Value} {led led' : Led} {s s' : Shared}
theorem items_eq {vs ws : List Value} {ns ms : List Int} (hi : IntsAre vs ns) (hj : IntsAre ws ms) (hl : ns.length = ms.length) (s : Shared) : ∀ j (h1 : j < vs.toArray.size) (h2 : j < ws.toArray.size), EqAt A.in1 s vs.toArray[j] ws.toArray[j] (ns.getD j 0 == ms.getD j 0) := fun j h1 h2 => by
  have l1 : j < ns.length := by have := hi.length; simp at h1; lia
  have l2 : j < ms.length := by lia
  obtain ⟨t, ht⟩ := IntsAre.at? (y := ns[j]) hi (List.getElem?_eq_getElem l1)
  obtain ⟨u, hu⟩ := IntsAre.at? (y := ms[j]) hj (List.getElem?_eq_getElem l2)
  have e1 : vs.toArray[j] = .int ns[j] t := by have := (List.getElem?_eq_some_iff.mp ht).2; simpa using this
  have e2 : ws.toArray[j] = .int ms[j] u := by have := (List.getElem?_eq_some_iff.mp hu).2; simpa using this
  rw [e1, e2]
  have := EqAt.int_int (A := A.in1) (s := s) ns[j] t ms[j] u
  simpa [l1, l2] using this
/-- two lists of ints compared -/
theorem eqL_pv {l b : Addr} {vs ws : List Value} {n n2 : Nat} {ns ms : List Int} (hu : A.units < cLine) (ho : h.get? l = some (lst vs n)) (ho2 : h.get? b = some (lst ws n2)) (hi : IntsAre vs ns) (hj : IntsAre ws ms) : Pv prog w A h (compareOp .Eq (.ref l) (.ref b)) (Bo (decide (ns = ms))) := by
  intro s Q E ks q
  have a := isList_lst (ks _ _ ho)
  have c := isList_lst (ks _ _ ho2)
  by_cases hl : ns.length = ms.length
  · refine eq_listAt a c (by have := hi.length; have := hj.length; simp; lia) hu (items_eq hi hj hl s) ?_
    have e : vs.toArray.size = ns.length := by simp [hi.length]
    rw [e, all_eq_iff hl]
    exact q _ s.heap s.toks Kp.rfl rfl
  · refine eq_list_lengthsAt a c (by have := hi.length; have := hj.length; simp; lia) hu ?_
    rw [decide_eq_false (fun e => hl (by rw [e]))] at q
    exact q _ s.heap s.toks Kp.rfl rfl
theorem neL_pv {l b : Addr} {vs ws : List Value} {n n2 : Nat} {ns ms : List Int} (hu : A.units < cLine) (ho : h.get? l = some (lst vs n)) (ho2 : h.get? b = some (lst ws n2)) (hi : IntsAre vs ns) (hj : IntsAre ws ms) : Pv prog w A h (compareOp .NotEq (.ref l) (.ref b)) (Bo (decide (ns ≠ ms))) := by
  intro s Q E ks q
  have a := ks _ _ ho
  have c := ks _ _ ho2
  by_cases hl : ns.length = ms.length
  · have e : vs.toArray.size = ns.length := by simp [hi.length]
    refine richCompare_meets_room (op := .NotEq) ⟨_, a, rfl⟩ ⟨_, c, rfl⟩ F.slot_list_ne F.entry_list_ne (F.args_list_ne_2 _ _) (list_neAt l b vs.toArray ws.toArray n n2 none none #[] #[] (by have := hi.length; have := hj.length; simp; lia) _)
      ⟨a, c, items_eq hi hj hl s, (fun x => nomatch x), ?_⟩ hu
    rw [e, all_eq_iff hl]
    have := q (.bool (decide (ns ≠ ms))) s.heap s.toks Kp.rfl rfl
    simpa using this
  · refine richCompare_meets_room (op := .NotEq) ⟨_, a, rfl⟩ ⟨_, c, rfl⟩ F.slot_list_ne F.entry_list_ne (F.args_list_ne_2 _ _) (list_ne_lengthsAt l b vs.toArray ws.toArray n n2 none none #[] #[] (by have := hi.length; have := hj.length; simp; lia))
      ⟨a, c, (fun x => nomatch x), ?_⟩ hu
    have hne : ns ≠ ms := fun e => hl (by rw [e])
    rw [decide_eq_true hne] at q
    exact q _ s.heap s.toks Kp.rfl rfl
theorem preSum_get : ∀ (ns : List Int), preSum (fun i => ns.getD i 0) ns.length = ns.sum := by
  intro ns
  have key : ∀ (ns : List Int) (f : Nat → Int) (n : Nat), n ≤ ns.length → (∀ i, i < n → f i = ns.getD i 0) → preSum f n = (ns.take n).sum := by
    intro ns f n
    induction n with
    | zero => intro _ _; simp [preSum]
    | succ n ih =>
      intro hn hf
      rw [preSum, ih (by lia) fun i hi => hf i (by lia), hf n (by lia)]
      have hlt : n < ns.length := by lia
      rw [take_snoc (List.getElem?_eq_getElem hlt), List.sum_append]
      simp [hlt]
  rw [key ns _ ns.length (Nat.le_refl _) fun _ _ => rfl, List.take_length]
/-- sum(l) -/
theorem sum_pv {l : Addr} {vs : List Value} {n : Nat} {ns : List Int} (hh : A.handled = none) (ho : h.get? l = some (lst vs n)) (hi : IntsAre vs ns) : Pv prog w A h (call (.builtin "sum") [.ref l] []) (In ns.sum) := by
  intro s Q E ks q
  have hl := isList_lst (ks _ _ ho)
  have hlt : l < s.heap.objs.size := Heap.lt_size (ks _ _ ho)
  refine call_sum_walkG (wpAny_pyIter_list hl ?_)
  have e : vs.toArray.size = ns.length := by simp [hi.length]
  refine ⟨s.heap.objs.size, [s.heap.objs.size, l], [s.heap.objs.size], vs.toArray.size, _, _, (fun i => ns.getD i 0), rfl, Walks.list (A := A.in1) hh _ l (Nat.ne_of_lt hlt) vs.toArray, ⟨⟨_, Heap.get?_push_size _ rfl, rfl, rfl⟩, hl.push _⟩, fun b hb => ?_, fun i v hv => ?_, fun h' tk t' hk => ?_⟩
  · show b < (s.heap.push _).objs.size
    rw [Heap.size_push]
    rcases List.mem_cons.mp hb with rfl | hb
    · exact Nat.lt_succ_self _
    · rcases List.mem_singleton.mp hb with rfl; exact Nat.lt_succ_of_lt hlt
  · rw [List.getElem?_toArray] at hv
    have hlt : i < ns.length := by rw [← hi.length]; exact (List.getElem?_eq_some_iff.mp hv).1
    obtain ⟨t, ht⟩ := IntsAre.at? (y := ns[i]) hi (List.getElem?_eq_getElem hlt)
    rw [ht] at hv; cases hv
    exact ⟨t, by simp [hlt]⟩
  · rw [e, preSum_get]
    exact q _ _ tk (fun b o eb => hk b o (fun hb => by
      rcases List.mem_singleton.mp hb with rfl
      exact absurd (Heap.lt_size eb) (Nat.lt_irrefl _)) (Heap.get?_push_of_some _ eb)) ⟨t', rfl⟩
/-- max(a, b) -/
theorem max_pv {a b : Int} {t u : Tok} (hh : A.handled = none) : Pv prog w A h (call (.builtin "max") [.int a t, .int b u] []) (In (max a b)) := by
  intro s Q E ks q
  refine max_two_ints hh fun h' tk k => ?_
  refine q _ h' tk k ?_
  by_cases hba : b > a
  · rw [if_pos hba]; exact ⟨u, by rw [Int.max_eq_right (by lia)]⟩
  · rw [if_neg hba]; exact ⟨t, by rw [Int.max_eq_left (by lia)]⟩
/-- enumerate(l) under a for -/
def Enu (l : Addr) : Value → Heap → Prop := fun v h => ∃ I, v = .ref (I + 1) ∧ IsEnum h (I + 1) I 0 .none ∧ h.IsListIter I l 0 ∧ l < I
theorem enum_pv {l : Addr} {vs : List Value} {n : Nat} (ho : h.get? l = some (lst vs n)) : Pv prog w A h (call (.type "enumerate") [.ref l] []) (fun v h' => Enu l v h' ∧ ∃ I, v = .ref (I + 1) ∧ h.get? I = none ∧ h.get? (I + 1) = none) := by
  intro s Q E ks q
  refine call_enumerate_list (isList_lst (ks _ _ ho)) fun h' he hit hsz hk => ?_
  have none_ : ∀ b, s.heap.objs.size ≤ b → h.get? b = none := fun b hb => by
    cases e : h.get? b with
    | none => rfl
    | some o => exact absurd (Heap.lt_size (ks _ _ e)) (Nat.not_lt.mpr hb)
  exact q _ _ s.toks hk ⟨⟨_, rfl, he, hit, Heap.lt_size (ks _ _ ho)⟩, _, rfl, none_ _ (Nat.le_refl _), none_ _ (Nat.le_succ _)⟩
/-- for a, b in enumerate(l), l not the activation's own -/
theorem x_forEnum {elts : List Expr} {k : Nat} {tp : Pos} {iter : Expr} {pos : Pos} {body : List Stmt} {ns : List Int} {Q : Flow → Shared → Prop} (J : Nat → Array GenState → (Str → Option Value) → (Str → Option Value) → Led → Prop)
    (S : St G O g env cs m cm led s) (hh : A.handled = none)
    (p : Pv prog w A s.heap (eval iter env) (fun v h' => ∃ l vs n, Enu l v h' ∧ h'.get? l = some (lst vs n) ∧ s.heap.get? l = none ∧ IntsAre vs ns ∧ ∃ I, v = .ref (I + 1) ∧ s.heap.get? I = none ∧ s.heap.get? (I + 1) = none)) (hJ : J 0 G m cm led)
    (turn : ∀ i T y t u G m cm led g' s, i < ns.length → ns[i]? = some y → IsTup s.heap T #[.int (i : Nat) t, .int y u] → J i G m cm led → Kp g g' → St G O g' env cs m cm led s →
      wpAny (model prog w) A (assign (.Tuple elts k tp) env (.ref T)) (fun _ s₂ => wpAny (model prog w) A (execs body env) (fun f s₃ => match f with
        | .next | .cont => ∃ G' m' cm' led', J (i + 1) G' m' cm' led' ∧ St G' O g' env cs m' cm' led' s₃
        | .brk => Q .next s₃
        | .ret v => Q (.ret v) s₃) (fun _ _ => False) s₂) (fun _ _ => False) s)
    (fin : ∀ G m cm led s, J ns.length G m cm led → St G O g env cs m cm led s → Q .next s)
    (hs : ∀ x, foldedSetIterable iter env x = pure x := by intro _; rfl) :
    wpAny (model prog w) A (exec (.For (.Tuple elts k tp) iter body [] pos) env) Q E s := by
  refine x_forI (n := ns.length) (P := fun i v h => ∃ T y t u, v = .ref T ∧ ns[i]? = some y ∧ IsTup h T #[.int (i : Nat) t, .int y u]) J S p (fun v s₁ E Q₁ r k₁ S₁ q => ?_) hJ
    (fun i v G m cm led g' s hi hp hj kg S => by obtain ⟨T, y, t, u, rfl, hy, ht⟩ := hp; exact turn i T y t u G m cm led g' s hi hy ht hj kg S) fin hs
  obtain ⟨l, vs, n, ⟨I, rfl, he, hit, hlI⟩, ho, hnl, hi, I', eI, n1, n2⟩ := r
  obtain rfl : I = I' := by injection eI with e; exact Nat.succ.inj e
  have e : vs.toArray.size = ns.length := by simp [hi.length]
  have hl := isList_lst ho
  have W := (WalksT.enumerate (prog := prog) (w := w) hh (I + 1) I l (Nat.succ_ne_self _) (Nat.ne_of_lt (Nat.lt_succ_of_lt hlI)) (Nat.ne_of_lt hlI) vs.toArray).toU
  rw [e] at W
  have W' := Itr.ofU (elts := elts) (k := k) (pos := tp) W fun i h hx b hb => by
    rcases List.mem_cons.mp hb with rfl | hb
    · obtain ⟨old, e⟩ := hx.1; exact ⟨_, e⟩
    · rcases List.mem_cons.mp hb with rfl | hb
      · exact listIter_get hx.2.1
      · rcases List.mem_singleton.mp hb with rfl; exact list_get hx.2.2
  have W'' := W'.mono (P' := fun i v h => ∃ T y t u, v = .ref T ∧ ns[i]? = some y ∧ IsTup h T #[.int (i : Nat) t, .int y u]) fun i v h hlt hp => by
    obtain ⟨T, vals, rfl, ⟨t, x, hx, rfl⟩, ht⟩ := hp
    rw [List.getElem?_toArray] at hx
    obtain ⟨u, hu⟩ := IntsAre.at? (y := ns[i]) hi (List.getElem?_eq_getElem hlt)
    rw [hu] at hx; cases hx
    exact ⟨T, ns[i], t, u, rfl, List.getElem?_eq_getElem hlt, ht⟩
  refine wpAny_pyIter_enum he (q (I + 1) _ _ _ s₁.heap s₁.toks Kp.rfl W'' ⟨⟨_, he⟩, hit, hl⟩ (fun b hb => ?_) fun b hb => ?_)
  · rcases List.mem_cons.mp hb with rfl | hb
    · exact S.newOff n2
    · rcases List.mem_cons.mp hb with rfl | hb
      · exact S.newOff n1
      · rcases List.mem_singleton.mp hb with rfl; exact S.newOff hnl
  · rcases List.mem_cons.mp hb with rfl | hb
    · exact S.newG n2
    · rcases List.mem_singleton.mp hb with rfl; exact S.newG n1
theorem St.own1 {l : Addr} {o : Obj} (S : St G O g env cs m cm led s) (hl : s.heap.get? l = some o) (hg : g.get? l = none) (off : l ∉ owns env cs led) : St G O g env cs m cm ((l, o) :: led) s := by
  refine { S with own := ?_, nd := ?_ }
  · intro p hp
    rcases List.mem_cons.mp hp with rfl | hp
    · exact ⟨hl, hg, fun e => off (by rw [show l = env.locals from e]; exact List.mem_cons_self ..), fun n c hc e => off (by rw [show l = c from e]; exact List.mem_cons_of_mem _ (List.mem_append_left _ (List.mem_map_of_mem (f := fun x : Str × Addr => x.2) hc)))⟩
    · exact S.own p hp
  · rw [List.map_cons, List.nodup_cons]
    exact ⟨fun hm => off (List.mem_cons_of_mem _ (List.mem_append_right _ hm)), S.nd⟩
/-- l[i] += e -/
theorem x_augAt {o i e : Expr} {op : Operator} {pos pos' : Pos} {l : Addr} {vs : List Value} {n k j : Nat} {a b c : Int} {t : Tok} {Q : Flow → Shared → Prop} (S : St G O g env cs m cm led s) (po : Pv prog w A s.heap (eval o env) (Is (.ref l))) (pi : Pv prog w A s.heap (eval i env) (In (k : Nat)))
    (pe : Pv prog w A s.heap (eval e env) (In b)) (hj : led[j]? = some (l, lst vs n)) (hk : vs[k]? = some (.int a t)) (hz : vs.length ≤ 1000000) (z : ∀ t u h', Pv prog w A h' (inplaceOp op (.int a t) (.int b u)) (In c))
    (kk : ∀ u n' s', St G O g env cs m cm (led.set j (l, lst (vs.set k (.int c u)) n')) s' → Q .next s')
    (ha : ∀ ov iv new, augStore i ov iv new = (do holding [new, ov, iv] (setItem ov iv new); release [new, ov, iv] []; pure .next) := by intro _ _ _; rfl) :
    wpAny (model prog w) A (exec (.AugAssign (.Subscript o i pos') op e pos) env) Q E s := by
  have hlt : k < vs.length := (List.getElem?_eq_some_iff.mp hk).1
  refine wpAny_AugAssign_Subscript_any (S.pv po fun v s₁ r k₁ S₁ => S₁.pv (pi.up k₁) fun v₂ s₂ r₂ k₂ S₂ => ?_) ha
  obtain rfl := r
  obtain ⟨u, rfl⟩ := r₂
  refine getItem_listL (isList_lst (S₂.mem j hj)) (by lia) (by lia) (by rw [Int.toNat_natCast]; exact hk) ?_
  refine S₂.pv (pe.up (k₁.trans k₂)) fun v₃ s₃ r₃ k₃ S₃ => ?_
  obtain ⟨u₃, rfl⟩ := r₃
  refine S₃.pv (z t u₃ s₃.heap) fun v₄ s₄ r₄ k₄ S₄ => ?_
  obtain ⟨u₄, rfl⟩ := r₄
  exact setAt_lst (S₄.mem j hj) hlt hz fun h' n' hs' ho' => kk u₄ n' _ (S₄.upd (s' := { s₄ with heap := h' }) j hj hs' ho' S₄.gens rfl)
end
end Mine
end

section
open PySem PySem.W PyProof.Rows
namespace Mine
def NotRec (o : Obj) : Prop := ∀ vs, o.data = .fields vs → ∀ (q : Str) (t : Tok), vs[1]? ≠ some (.str q t)
theorem TabOk.but {h h' : Heap} {pos : Pos} {q : Str} {ps : Array Value} {I : Addr} (x : TabOk h pos q ps) (hI : ∀ o, h.get? I = some o → NotRec o) (k : ∀ b o, b ≠ I → h.get? b = some o → h'.get? b = some o) : TabOk h' pos q ps := ⟨x.1, fun cv e => by
  obtain ⟨c, o, vs, t, e₁, g₁, d₁, r₁⟩ := x.2 cv e
  exact ⟨c, o, vs, t, e₁, k _ _ (fun hc => hI o (hc ▸ g₁) vs d₁ q t r₁) g₁, d₁, r₁⟩⟩
section
variable {prog : Program} {w : World} {A : Around} {E : Value → Shared → Prop} {G G' : Array GenState} {O : OsState × Drawn} {g g' h h₁ : Heap} {env cenv : Env} {cs : List (Str × Addr)} {m cm : Str → Option Value} {led led' : Led} {s s' : Shared}
theorem TabOk.innS {pos : Pos} {q : Str} {ps : Array Value} (x : TabOk s.heap pos q ps) (S : St G O g env cs m cm led s) (hf : ∀ b o, s.heap.get? b = some o → b ∉ owns env cs led → g.get? b = some o) : TabIn g led pos q ps := ⟨x.1, fun cv e => by
  obtain ⟨c, o, vs, t, e₁, g₁, d₁, r₁⟩ := x.2 cv e
  refine ⟨c, o, vs, t, e₁, ?_, d₁, r₁⟩
  by_cases hl : (c, o) ∈ led
  · exact .inr hl
  · exact .inl (hf _ _ g₁ (S.off g₁ (fun _ _ q => by rw [d₁] at q; cases q) (fun _ q => by rw [d₁] at q; cases q) fun p hp e q => hl (by rw [← e, ← q]; exact hp)))⟩
/-- for x, y in l, a list of pairs of ints in the base; what holds between the turns may speak of the heap -/
theorem x_forPairs {x y : Str} {px py pt pos : Pos} {kt : Nat} {iter : Expr} {body : List Stmt} {l : Addr} {ps : List (Int × Int)} {Q : Flow → Shared → Prop} (J : Nat → Array GenState → (Str → Option Value) → (Str → Option Value) → Led → Heap → Prop)
    (S : St G O g env cs m cm led s) (hh : A.handled = none) (p : Pv prog w A s.heap (eval iter env) (Is (.ref l))) (hp : Prs g l ps) (hJ : J 0 G m cm led s.heap)
    (hst : ∀ i G m cm led h h' I, J i G m cm led h → (∀ o, h.get? I = some o → NotRec o) → (∀ b o, b ≠ I → h.get? b = some o → h'.get? b = some o) → J i G m cm led h')
    (turn : ∀ i T q t u G m cm led g' s, i < ps.length → ps[i]? = some q → IsTup s.heap T #[.int q.1 t, .int q.2 u] → J i G m cm led s.heap → Kp g g' → St G O g' env cs m cm led s → (∀ b o, s.heap.get? b = some o → b ∉ owns env cs led → g'.get? b = some o) →
      wpAny (model prog w) A (assign (.Tuple [.Name x px, .Name y py] kt pt) env (.ref T)) (fun _ s₂ => wpAny (model prog w) A (execs body env) (fun f s₃ => match f with
        | .next | .cont => ∃ G' m' cm' led', J (i + 1) G' m' cm' led' s₃.heap ∧ St G' O g' env cs m' cm' led' s₃
        | .brk => Q .next s₃
        | .ret v => Q (.ret v) s₃) (fun _ _ => False) s₂) (fun _ _ => False) s)
    (fin : ∀ G m cm led s, J ps.length G m cm led s.heap → St G O g env cs m cm led s → Q .next s)
    (hs : ∀ x, foldedSetIterable iter env x = pure x := by intro _; rfl) :
    wpAny (model prog w) A (exec (.For (.Tuple [.Name x px, .Name y py] kt pt) iter body [] pos) env) Q E s := by
  refine wpAny_For (S.pv p fun v s₁ r k₁ S₁ => ?_) hs
  obtain rfl := r
  have hJ₁ : J 0 G m cm led s₁.heap := hst _ _ _ _ _ _ _ s.heap.objs.size hJ (fun o e => by rw [none_of_new] at e; cases e) fun b o _ e => k₁ _ _ e
  obtain ⟨vs, n, ho, hl, hp⟩ := hp.up S₁.keep
  have hoff : ∀ {b o}, g.get? b = some o → b ∉ owns env cs led := fun e => S₁.offBase e
  obtain ⟨gvs, gn, gho, ghl, ghp⟩ := ‹Prs g l ps›
  have e1 := S₁.keep _ _ gho
  rw [ho] at e1
  have e2 : vs = gvs ∧ n = gn := by
    cases e1; exact ⟨rfl, rfl⟩
  obtain ⟨rfl, rfl⟩ := e2
  refine wpAny_pyIter_list (isList_lst ho) ?_
  have S₂ := S₁.grow (Kp.push s₁.heap { cls := .type "list_iterator", data := .fields #[.ref l, .int 0 0] }) s₁.toks
  have hI := Heap.get?_push_size s₁.heap (o := { cls := .type "list_iterator", data := .fields #[.ref l, .int 0 0] }) rfl
  have hnI : s₁.heap.get? s₁.heap.objs.size = none := none_of_new
  have hJ₂ : J 0 G m cm led (s₁.heap.push { cls := .type "list_iterator", data := .fields #[.ref l, .int 0 0] }) := hst _ _ _ _ _ _ _ s₁.heap.objs.size hJ₁ (fun o e => by rw [hnI] at e; cases e) fun b o _ e => Kp.push _ _ b o e
  have hneT : ∀ {b o}, s₁.heap.get? b = some o → b ≠ s₁.heap.objs.size := fun e => Nat.ne_of_lt (Heap.lt_size e)
  generalize hIe : s₁.heap.objs.size = I at *
  generalize hHe : s₁.heap.push { cls := .type "list_iterator", data := .fields #[.ref l, .int 0 0] } = H at *
  have hIoff : I ∉ owns env cs led := S₁.newOff hnI
  have hIg : g.get? I = none := S₁.newG hnI
  have hlI : l ≠ I := hneT ho
  have hit0 : H.IsListIter I l 0 := ⟨_, hI, rfl, rfl⟩
  refine codeAny_forLoop_any (fun k s => ∃ i G m cm led, k = ps.length - i ∧ i ≤ ps.length ∧ J i G m cm led s.heap ∧ St G O g env cs m cm led s ∧ s.heap.IsListIter I l i ∧ I ∉ owns env cs led) ?_ ps.length
    ⟨0, G, m, cm, led, by omega, Nat.zero_le _, hJ₂, S₂, hit0, hIoff⟩
  rintro k s₀ ⟨i, G₀, m₀, cm₀, led₀, rfl, hi, hJ₀, S₀, hit, hIo⟩
  have hl₀ : s₀.heap.IsList l vs.toArray := isList_lst (S₀.keep _ _ gho)
  have hnr : ∀ o, s₀.heap.get? I = some o → NotRec o := fun o e => by
    obtain ⟨o', e', hc, hd⟩ := hit
    rw [e] at e'; cases e'
    intro vs hv q t
    rw [hd] at hv; cases hv
    simp
  by_cases hlt : i < ps.length
  · obtain ⟨T, t, u, hvT, hT⟩ := ghp i ps[i] (List.getElem?_eq_getElem hlt)
    refine wpAny_pyNext_list_item hit hl₀ (x := .ref T) (by rw [List.getElem?_toArray]; exact hvT) fun h₁ hit₁ hs₁ => ?_
    have S₁' := S₀.other (h' := h₁) (tk := s₀.toks) [I] (fun b hb => by rcases List.mem_singleton.mp hb with rfl; exact ⟨hIg, hIo⟩) (fun b o hb e => (hs₁.2 b fun q => hb (List.mem_singleton.mpr q)).trans e)
    have hJ₁' : J i G₀ m₀ cm₀ led₀ h₁ := hst _ _ _ _ _ _ _ I hJ₀ hnr fun b o hb e => (hs₁.2 b hb).trans e
    have S₂' := S₁'.rebase
    have hTT : IsTup h₁ T #[.int ps[i].1 t, .int ps[i].2 u] := isTup_tup (S₁'.keep _ _ hT)
    refine wpAny_letOwnedTupleGo_listiter hit₁ ?_
    refine wpAny_mono (turn i T ps[i] t u G₀ m₀ cm₀ led₀ _ _ hlt (List.getElem?_eq_getElem hlt) hTT hJ₁' S₁'.frzKp S₂' (fun b o e hb => hideAll_get _ e hb)) (fun _ s₂ q => wpAny_mono q (fun f s₃ q₃ => ?_) fun _ _ e => e.elim) fun _ _ e => e.elim
    have nxt : (∃ G' m' cm' led', J (i + 1) G' m' cm' led' s₃.heap ∧ St G' O (frz h₁ env cs led₀) env cs m' cm' led' s₃) →
        ∃ m, m < ps.length - i ∧ ∃ i G m' cm led, m = ps.length - i ∧ i ≤ ps.length ∧ J i G m' cm led s₃.heap ∧ St G O g env cs m' cm led s₃ ∧ s₃.heap.IsListIter I l i ∧ I ∉ owns env cs led := by
      rintro ⟨G', m', cm', led', hJ', S'⟩
      obtain ⟨oI, eI, rI⟩ := hit₁
      have ing := hideAll_get (owns env cs led₀) eI hIo
      exact ⟨ps.length - (i + 1), by omega, i + 1, G', m', cm', led', rfl, by omega, hJ', S'.low S₁'.frzKp, ⟨oI, S'.keep _ _ ing, rI⟩, S'.offBase ing⟩
    cases f with
    | next => exact nxt q₃
    | cont => exact nxt q₃
    | brk => exact q₃
    | ret v => exact q₃
  · have : i = ps.length := by omega
    subst this
    refine wpAny_pyNext_list_end hh hit hl₀ (by rw [List.getElem?_toArray, List.getElem?_eq_none_iff]; omega) fun h₁ he => ?_
    have S₁' := S₀.other (h' := h₁) (tk := s₀.toks) [I] (fun b hb => by rcases List.mem_singleton.mp hb with rfl; exact ⟨hIg, hIo⟩) (fun b o hb e => he b o (fun q => hb (List.mem_singleton.mpr q)) e)
    exact wpAny_execs_nil (fin G₀ m₀ cm₀ led₀ _ (hst _ _ _ _ _ _ _ I hJ₀ hnr fun b o hb e => he b o hb e) S₁')
end
end Mine
end

section
open PySem PySem.W PyProof.Rows
namespace Mine
noncomputable def fdL (w : World) : FuncData := match (KF w).lookup 110 with
  | some ⟨_, _, .func fd, _⟩ => fd
  | _ => default
noncomputable def bodyL (w : World) : List Stmt := match (fdL w).body with
  | .stmts b => b
  | _ => []
noncomputable abbrev le (w : World) (L : Addr) : Env := callEnvC (fdL w) L 110
noncomputable abbrev csL (w : World) (L : Addr) : List (Str × Addr) := cellsFrom (L + 1) (fdL w).scope.names []
theorem g_enumerate {w : World} : mgOf w "enumerate" = none := rfl
theorem b_enumerate : bootBuiltins "enumerate" = some (.type "enumerate") := by decide +kernel
theorem g_sum {w : World} : mgOf w "sum" = none := rfl
theorem b_sum : bootBuiltins "sum" = some (.builtin "sum") := by decide +kernel
theorem g_max {w : World} : mgOf w "max" = none := rfl
theorem b_max : bootBuiltins "max" = some (.builtin "max") := by decide +kernel
theorem IntsAre.setAt : ∀ {vs : List Value} {ns : List Int}, IntsAre vs ns → ∀ (k : Nat) (x : Int) (t : Tok), IntsAre (vs.set k (.int x t)) (ns.set k x)
  | _, _, .nil, _, _, _ => .nil
  | _, _, .cons n t h, 0, x, u => .cons x u h
  | _, _, .cons n t h, k + 1, x, u => .cons n t (IntsAre.setAt h k x u)
section
variable {w : World} {A : Around} {env : Env} {h : Heap}
/-- sum(e), e a list of ints -/
theorem Pv.sumE {e : Expr} {pf pos : Pos} {ns : List Int} (T : Tp w h) (hh : A.handled = none) (p : Pv pr w A h (eval e env) (fun v h' => ∃ l vs n, v = .ref l ∧ h'.get? l = some (lst vs n) ∧ IntsAre vs ns))
    (he : starEach [e] env = [(false, eval e env)] := by rfl) (hg : env.globals = mainGlobals := by rfl) (hbi : env.builtins = builtinsNs := by rfl) (hk : env.scope.kind = .function := by rfl) (hx : env.kindOf "sum" = some .globalImplicit := by rfl) :
    Pv pr w A h (eval (.Call (.Name "sum" pf) [e] [] pos) env) (In ns.sum) :=
  .callB (R₁ := fun vs h' => ∃ l ws n, vs = [.ref l] ∧ h'.get? l = some (lst ws n) ∧ IntsAre ws ns) (.boot T g_sum b_sum (by decide) hg hbi hk hx) (.splC p (fun v h' k r => .spl0 fun h₂ k₂ => by
    obtain ⟨l, vs, n, rfl, ho, hl⟩ := r
    exact ⟨l, vs, n, rfl, k₂ _ _ ho, hl⟩) he) (fun vs h' k r => by
    obtain ⟨l, ws, n, rfl, ho, hi⟩ := r
    exact sum_pv hh ho hi) (by rw [he]; rfl) (by rw [he]; rfl)
end
/-- the law's first two statements -/
theorem law_1 {w : World} {A : Around} {s : Shared} {Q : Flow → Shared → Prop} {E : Value → Shared → Prop} {G : Array GenState} {O : OsState × Drawn} {g : Heap} {L ls : Addr} {m cm : Str → Option Value} {led : Led} {svs : List Value} {script : List Int} (T : Tp w g) (hh : A.handled = none)
    (ho : g.IsList ls svs.toArray) (hi : IntsAre svs script) (hlen : script.length ≤ 63) (S : St G O g (le w L) (csL w L) m cm led s) (hm : m "script" = some (.ref ls))
    (k : ∀ m' lc vs n (cells : List Nat) s', St G O g (le w L) (csL w L) m' cm ((lc, lst vs n) :: led) s' → m' "cells" = some (.ref lc) → IntsAre vs (cells.map Int.ofNat) → cells.length = 5 → wpAny (model pr w) A (execs ((bodyL w).drop 2) (le w L)) Q E s') :
    wpAny (model pr w) A (execs (bodyL w) (le w L)) Q E s := by
  refine x_cons (x_setN S (P := fun o _ => ∃ vs, IntsAre vs [4, 0, 8, 23, 10] ∧ o = lst vs 0) (.lstD (.splI .cint (.splI .cint (.splI .cint (.splI .cint (.splI .cint (.spl0 fun _ _ => .nil)))))) (fun vs h' h'' l k r h1 h2 k' ho => ⟨l, _, rfl, h2, ho, vs, r, rfl⟩) (fun vs h' r => by rw [r.length]; decide)) fun lc o s₁ s₂ ho' k₂ S₂ => ?_)
  obtain ⟨vs, hvs, rfl⟩ := ho'
  have T₂ := T.up S₂.keep
  refine x_cons (x_forEnum (ns := pickNums script none (some 20) none) (fun i G' m cm' led' => G' = G ∧ cm' = cm ∧ m "cells" = some (.ref lc) ∧ ∃ vs n, ∃ cells : List Nat, led' = (lc, lst vs n) :: led ∧ IntsAre vs (cells.map Int.ofNat) ∧ cells.length = 5) S₂ hh
    (.callT (R₁ := fun us h' => ∃ l vs n, us = [.ref l] ∧ h'.get? l = some (lst vs n) ∧ s₂.heap.get? l = none ∧ IntsAre vs (pickNums script none (some 20) none)) (.boot T₂ g_enumerate b_enumerate) (.splC ((Pv.sliceI (.name (S₂.loc hm)) (let ⟨o, e, r⟩ := ho; ⟨o, S₂.keep _ _ e, r⟩) .part0 (.partI .cint) (by have := hi.length; lia))) fun v h' kk r => .spl0 fun h'' kk' => ?_) fun us h' kk r => ?_)
    ⟨rfl, rfl, rfl, vs, 0, [4, 0, 8, 23, 10], rfl, hvs, rfl⟩ ?_ ?_)
  · obtain ⟨l, o, rfl, hn, hol, rfl⟩ := r
    exact ⟨l, _, _, rfl, kk' _ _ hol, hn, hi.pick _ _ _⟩
  · obtain ⟨l, vs, n, rfl, hol, hn, hvs⟩ := r
    refine (enum_pv hol).mono fun v h'' kk' r => ⟨l, vs, n, r.1, kk' _ _ hol, hn, hvs, ?_⟩
    obtain ⟨I, rfl, n1, n2⟩ := r.2
    refine ⟨I, rfl, ?_, ?_⟩
    · cases e : s₂.heap.get? I with
      | none => rfl
      | some o => rw [kk _ _ e] at n1; cases n1
    · cases e : s₂.heap.get? (I + 1) with
      | none => rfl
      | some o => rw [kk _ _ e] at n2; cases n2
  · rintro i Tt y t u G' m cm' led' g' s₃ hi' hy ht ⟨rfl, rfl, e1, vs, n, cells, rfl, hv, h5⟩ kg S₃
    refine a_tup2 hh ht fun h₄ k₄ => ?_
    refine (S₃.grow k₄ s₃.toks).asg fun s₅ S₅ => S₅.asg fun s₆ S₆ => ?_
    have hm5 : i % 5 < cells.length := by rw [h5]; exact Nat.mod_lt _ (by decide)
    obtain ⟨t₀, ht₀⟩ := IntsAre.at? (y := (cells[i % 5] : Int)) hv (i := i % 5) (by rw [List.getElem?_map, List.getElem?_eq_getElem hm5]; rfl)
    obtain ⟨r, hr⟩ : ∃ r : Nat, y.fmod 1000000 = (r : Int) := Int.eq_ofNat_of_zero_le (Int.fmod_nonneg_of_pos _ (by decide))
    refine x_cons (x_augAt (j := 0) (k := i % 5) (b := (r : Int)) (c := ((cells[i % 5] + r : Nat) : Int)) S₆ (.name (S₆.loc e1)) (.castI (.modI (.nameI (S₆.loc rfl)) .cint (by decide)) (fmodN i 5)) (.castI (.modI (.nameI (S₆.loc rfl)) (.powI .cint .cint (by decide) (by decide)) (by decide)) hr) rfl ht₀ (by have := hv.length; rw [List.length_map] at this; lia)
      (fun t u h => by rw [Int.natCast_add]; exact iadd_I) fun u' n' s₇ S₇ => ?_)
    refine x_nil ⟨_, _, _, _, ⟨rfl, rfl, by exact e1, _, n', cells.set (i % 5) (cells[i % 5] + r), by rfl, ?_, by rw [List.length_set]; exact h5⟩, S₇⟩
    · have := IntsAre.setAt hv (i % 5) ((cells[i % 5] + r : Nat) : Int) u'
      rw [List.map_set]
      exact this
  · rintro G' m cm' led' s₈ ⟨rfl, rfl, e1, vs, n, cells, rfl, hv, h5⟩ S₈
    exact k m lc vs n cells s₈ S₈ e1 hv h5
end Mine
end

section
open PySem PySem.W PyProof.Rows
namespace Mine
/-- what the law knows of its counts -/
structure Kn (ms : List Nat) (ring wide even last : Nat) : Prop where
  hr : ring = ringOf ms
  hw : wide = wideOf ring ms
  he : even = evenOf ring ms
  hl : last = max wide even
/-- the names once the classes stand -/
structure Nms (m cm : Str → Option Value) (lcl tb : Addr) (wh : Int) (ring wide even last : Nat) : Prop where
  ring : ∃ t, m "ring" = some (.int (ring : Nat) t)
  wide : ∃ t, m "wide" = some (.int (wide : Nat) t)
  even : ∃ t, m "even" = some (.int (even : Nat) t)
  table : m "table" = some (.ref tb)
  last : ∃ t, cm "last" = some (.int (last : Nat) t)
  where_ : ∃ t, cm "where" = some (.int wh t)
  classes : cm "classes" = some (.ref lcl)
theorem Prs.off {G : Array GenState} {O : OsState × Drawn} {g : Heap} {env : Env} {cs : List (Str × Addr)} {m cm : Str → Option Value} {led : Led} {s : Shared} {l : Addr} {ps : List (Int × Int)} (x : Prs s.heap l ps) (S : St G O g env cs m cm led s) (hl : l ∉ owns env cs led) (ht : ∀ p ∈ led, p.2.cls ≠ .type "tuple") : Prs (frz s.heap env cs led) l ps := by
  obtain ⟨vs, n, ho, hlen, hp⟩ := x
  refine ⟨vs, n, hideAll_get _ ho hl, hlen, fun i p e => ?_⟩
  obtain ⟨a, t, u, e1, e2⟩ := hp i p e
  exact ⟨a, t, u, e1, hideAll_get _ e2 (S.off e2 (fun _ _ q => by cases q) (fun _ q => by cases q) fun p hp _ q => ht p hp (by rw [q]))⟩
theorem law_2 {w : World} {A : Around} {s : Shared} {Q : Flow → Shared → Prop} {E : Value → Shared → Prop} {G : Array GenState} {O : OsState × Drawn} {g : Heap} {L lc : Addr} {m cm : Str → Option Value} {vs : List Value} {n : Nat} {cells : List Nat} (T : Tp w g) (hh : A.handled = none) (hd : A.depth + 40 < recursionLimit)
    (S : St G O g (le w L) (csL w L) m cm ((lc, lst vs n) :: [(37, tabObj #[]), (44, tabObj #[])]) s) (hm : m "cells" = some (.ref lc)) (hi : IntsAre vs (cells.map Int.ofNat)) (h5 : cells.length = 5)
    (k : ∀ g' m' cm' tb lcl (wh : Int) (cls : List (Nat × Nat)) (ring wide even last : Nat) s', Kp g g' → St G O g' (le w L) (csL w L) m' cm' [(tb, lst [] 0), (37, tabObj #[]), (44, tabObj #[])] s' → Prs g' lcl (cls.map cvt) → Good cls → -45 ≤ wh → wh ≤ 35 → Kn (cls.map (·.2)) ring wide even last → Nms m' cm' lcl tb wh ring wide even last →
      wpAny (model pr w) A (execs ((bodyL w).drop 7) (le w L)) Q E s') :
    wpAny (model pr w) A (execs ((bodyL w).drop 2) (le w L)) Q E s := by
  have T₀ := T.up S.keep
  -- where
  have hwh : ∃ wh : Int, (cells.map Int.ofNat).sum.fmod 81 - 45 = wh ∧ -45 ≤ wh ∧ wh ≤ 35 := by
    have h1 := Int.fmod_nonneg_of_pos (cells.map Int.ofNat).sum (show (0 : Int) < 81 by decide)
    have h2 := Int.fmod_lt_of_pos (cells.map Int.ofNat).sum (show (0 : Int) < 81 by decide)
    exact ⟨_, rfl, by omega, by omega⟩
  obtain ⟨wh, hwe, hw1, hw2⟩ := hwh
  refine x_cons (x_setCI (i := wh) S (.castI (.subI (.modI (.sumE T₀ hh fun s' Q E ks q => Pv.name (S.loc hm) (by decide) s' Q E ks fun v h' tk kk e => q v h' tk kk ⟨lc, vs, n, e, (ks.trans kk) _ _ (S.mem 0 rfl), hi⟩) .cint (by decide)) .cint) hwe) fun t₁ s₁ S₁ => ?_)
  -- classes
  have T₁ := T.up S₁.keep
  refine x_cons (wpAny_Assign_Name (callF_of (.glob T₁ g_classes) (T₁.k 86 _ rfl) rfl (.args1 (.name (S₁.loc hm))) fun vs' h' tk k' r => ?_) rfl)
  obtain ⟨_, rfl, rfl⟩ := r
  have S₂ := S₁.grow k' tk
  refine classes_call (T₁.up k') hh (by omega) (S₂.mem 0 rfl) hi h5 fun s₃ lcl cls hnl hprs hgood k₃ g₃ o₃ => ?_
  have S₃ := S₂.growS (s' := s₃) k₃ (g₃.trans S₂.gens) o₃
  have hoff := S₂.newOff hnl
  have hoff₃ : lcl ∉ owns (le w L) (csL w L) ((lc, lst vs n) :: [(37, tabObj #[]), (44, tabObj #[])]) := hoff
  have P₃ := hprs.off S₃ hoff₃ (by
    intro p hp
    simp only [List.mem_cons, List.not_mem_nil, or_false] at hp
    rcases hp with rfl | rfl | rfl
    · intro q; injection q with q; exact absurd q (by decide)
    · intro q; cases q
    · intro q; cases q)
  have kg := S₃.frzKp
  have S₃' := S₃.rebase
  refine S₃'.storeC fun s₄ S₄ => ?_
  -- ring, wide, even
  have T₄ := (T.up kg).up S₄.keep
  have P₄ := P₃.up S₄.keep
  obtain ⟨hlen, ⟨R, hR72, hR432, hmods⟩, hst, _⟩ := id hgood
  refine x_cons (Assign_Tuple (callF_of (R₁ := fun us h' => ∃ l ws n, us = [.ref l] ∧ h'.get? l = some (lst ws n) ∧ IntsAre ws ((cls.map (·.2)).map Int.ofNat)) (.glob T₄ g_counts) (T₄.k 91 _ rfl) rfl
    (.splC (Pv.comp2 (ps := cls.map cvt) (fun _ => true) (fun i y => ∃ p t, cls[i]? = some p ∧ y = .int (p.2 : Nat) t) (fun i ys => IntsAre ys ((cls.take i).map fun p => (p.2 : Int))) hh (.name (S₄.cel (v := .ref lcl) rfl)) (fun v h' kk e => ⟨lcl, e, P₄.up kk⟩) (by rw [List.length_map]; omega) (by decide) (fun _ _ _ _ _ _ _ _ _ _ => .tests0)
      (fun i q t u C h₁ hq _ kk rx ry => (Pv.nameI ry).mono fun y _ _ e => ?_) .nil ?_ ?_) fun v h' kk r => .spl0 fun h'' kk' => ?_) fun us h' tk kk r => ?_) rfl rfl)
  · obtain ⟨t', rfl⟩ := e
    rw [List.getElem?_map] at hq
    cases hc : cls[i]? with
    | none => rw [hc] at hq; cases hq
    | some p =>
      rw [hc] at hq; cases hq
      exact ⟨p, t', rfl, rfl⟩
  · rintro i ys y hlt - ⟨p, t, hp, rfl⟩ hys
    rw [take_snoc hp, List.map_append]
    exact IntsAre.snoc hys
  · intro i ys _ h; cases h
  · obtain ⟨l, o, rfl, _, hol, ys, nn, rfl, hys⟩ := r
    refine ⟨l, ys, nn, rfl, kk' _ _ hol, ?_⟩
    rw [List.length_map, List.take_length] at hys
    rw [List.map_map]
    exact hys
  obtain ⟨lm, ws, nm, rfl, hom, hms⟩ := r
  have S₅ := S₄.grow kk tk
  refine counts_call (T₄.up kk) hh (by omega) hom hms (fun m' hm' => by
    obtain ⟨p, hp, rfl⟩ := List.mem_map.mp hm'
    exact (hmods p hp).1) (fun m' hm' => by
    obtain ⟨p, hp, rfl⟩ := List.mem_map.mp hm'
    exact Nat.dvd_trans (hmods p hp).2 hR432) (by rw [List.length_map]; omega) fun s₆ l' t u v _ hl' k₆ g₆ o₆ => ?_
  have S₆ := S₅.growS (s' := s₆) k₆ (g₆.trans S₅.gens) o₆
  refine a_tup3 hh (isTup_tup hl') fun h₇ k₇ => ?_
  refine (S₆.growS (s' := { s₆ with heap := h₇ }) k₇ S₆.gens rfl).asg fun s₈ S₈ => S₈.asg fun s₉ S₉ => S₉.asg fun s₁₀ S₁₀ => ?_
  generalize hring : ringOf (cls.map (·.2)) = ring at *
  generalize hwide : wideOf ring (cls.map (·.2)) = wide at *
  generalize heven : evenOf ring (cls.map (·.2)) = even at *
  -- last
  have T₁₀ := (T.up kg).up S₁₀.keep
  refine x_cons (x_setCI (i := ((max wide even : Nat) : Int)) S₁₀ (.callB (R₁ := fun us _ => ∃ a b, us = [.int (wide : Nat) a, .int (even : Nat) b]) (.boot T₁₀ g_max b_max) ((Pv.args2 (P₁ := fun v => ∃ t, v = .int (wide : Nat) t) (P₂ := fun v => ∃ t, v = .int (even : Nat) t) (.nameI (S₁₀.loc rfl)) (.nameI (S₁₀.loc rfl))).mono fun us _ _ r => ?_) fun us h' kk r => ?_) fun t₁₁ s₁₁ S₁₁ => ?_)
  · obtain ⟨_, _, rfl, ⟨a, rfl⟩, b, rfl⟩ := r
    exact ⟨a, b, rfl⟩
  · obtain ⟨a, b, rfl⟩ := r
    exact (max_pv hh).castI (by omega)
  -- table
  refine x_cons (x_setN S₁₁ .lst0 fun tb o s₁₂ s₁₃ ho' k₁₂ S₁₃ => ?_)
  subst ho'
  have S₁₄ := S₁₃.sub (led' := [(tb, lst [] 0), (37, tabObj #[]), (44, tabObj #[])]) (.cons_cons _ (.cons _ (List.Sublist.refl _)))
  exact k _ _ _ tb lcl wh cls ring wide even (max wide even) s₁₃ kg S₁₄ P₃ hgood hw1 hw2 ⟨hring.symm, hwide.symm, heven.symm, rfl⟩ ⟨⟨_, rfl⟩, ⟨_, rfl⟩, ⟨_, rfl⟩, rfl, ⟨_, rfl⟩, ⟨_, rfl⟩, rfl⟩
end Mine
end

section
open PySem PySem.W PyProof.Rows
namespace Mine
def dueOf (f n : Nat) : List Int := if 0 < f then [(f : Int), (n : Int)] else [-1]
/-- _law_told(row), called by the law -/
theorem told_St {w : World} {A : Around} {s : Shared} {Q : Value → Shared → Prop} {E : Value → Shared → Prop} {G : Array GenState} {O : OsState × Drawn} {g : Heap} {L lr : Addr} {m cm : Str → Option Value} {led : Led} {rvs : List Value} {rn f n : Nat} {rest : List Int} (T : Tp w g) (hh : A.handled = none) (hd : A.depth + 40 < recursionLimit)
    (hfr : A.frames = some [le w L]) (S : St G O g (le w L) (csL w L) m cm led s) (hb : AllBare G) (ho : s.heap.get? lr = some (lst rvs rn)) (hro : lr ≠ L) (hi : IntsAre rvs ((f : Int) :: (n : Int) :: rest)) (hf : f < 127) (hn1 : 1 ≤ n) (hn : n < 127) (hrest : rest = [] ∨ rest = [127, 5])
    (k : ∀ G' s' l' vs' n', AllBare G' → St G' O g (le w L) (csL w L) m cm ((l', lst vs' n') :: led) s' → IntsAre vs' (dueOf f n) → Q (.ref l') s') :
    wpAny (model pr w) A (call (.ref 98) [.ref lr] []) Q E s := by
  have hbs : AllBare s.gens := by rw [S.gens]; exact hb
  rcases Nat.eq_zero_or_pos f with rfl | hf1
  · have hL : (le w L).locals = L := rfl
    have offL : g.get? L = none := S.offL
    have T' : Tp w (hideAll s.heap [L]) := T.up fun b o e => hideAll_get _ (S.keep _ _ e) fun q => by
      rw [List.mem_singleton.mp q, offL] at e; cases e
    have nsL : s.heap.Ns L m := S.ns
    have hF : s.heap.FunFrames (hideAll s.heap [L]) [le w L] := Heap.FunFrames.cons (by show ScopeKind.function ≠ ScopeKind.module; decide) rfl nsL (hideAll_none _ (.head _)) trivial
    refine told0_call (W := [L]) (outer := [le w L]) T' hh (by lia) ho (fun q => hro (List.mem_singleton.mp q)) hi rfl hbs hfr hF rfl fun s' l' vs' n' hnl hl' hv k' sl hb' o' => ?_
    have S' := S.moved (s' := s') [L] (fun b hb => by rcases List.mem_singleton.mp hb with rfl; exact ⟨offL, .inl rfl⟩) (fun b o hb e => k' _ _ (hideAll_get _ e hb)) (Ns.slots nsL (sl L (.head _))) rfl o'
    exact k _ s' l' vs' n' hb' (S'.own1 hl' (S.newG hnl) (S.newOff hnl)) hv
  · refine told_call (T.up S.keep) hh (by lia) ho hi hf1 hf hn1 hn hrest hbs fun s' l' vs' n' hnl hl' hv k' hb' o' => ?_
    refine k _ s' l' vs' n' hb' (S.addS k' rfl o' hnl hl') ?_
    unfold dueOf
    rw [if_pos hf1]; exact hv
/-- the test _law_told([..]) != due -/
theorem told_test {w : World} {A : Around} {s : Shared} {Q : Bool → Shared → Prop} {E : Value → Shared → Prop} {G : Array GenState} {O : OsState × Drawn} {g : Heap} {L dl : Addr} {m cm : Str → Option Value} {led : Led} {dvs : List Value} {dn f n : Nat} {rest : List Int} {elts : List Expr} {lp pf cpos dp pos : Pos} {whole : Sem Value} (T : Tp w g) (hh : A.handled = none) (hd : A.depth + 40 < recursionLimit) (hu : A.units < cLine)
    (hfr : A.frames = some [le w L]) (S : St G O g (le w L) (csL w L) m cm led s) (hb : AllBare G) (pl : Pv pr w A s.heap (eval (.List elts lp) (le w L)) (NewL s.heap fun ys => IntsAre ys ((f : Int) :: (n : Int) :: rest))) (hf : f < 127) (hn1 : 1 ≤ n) (hn : n < 127) (hrest : rest = [] ∨ rest = [127, 5])
    (hdue : m "due" = some (.ref dl)) (hdl : (dl, lst dvs dn) ∈ led) (hdi : IntsAre dvs (dueOf f n))
    (k : ∀ G' s' l' vs' n', AllBare G' → St G' O g (le w L) (csL w L) m cm ((l', lst vs' n') :: led) s' → Q false s') :
    wpAny (model pr w) A (isTrue (.Compare (.Call (.Name "_law_told" pf) [.List elts lp] [] cpos) [.NotEq] [.Name "due" dp] pos) (le w L) whole) Q E s := by
  have T₀ := T.up S.keep
  refine wpAny_isTrue_Compare1 (callF_of (R₁ := fun us h' => ∃ lr rvs rn, us = [.ref lr] ∧ h'.get? lr = some (lst rvs rn) ∧ s.heap.get? lr = none ∧ IntsAre rvs ((f : Int) :: (n : Int) :: rest)) (.glob T₀ g_told) (T₀.k 98 _ rfl) rfl (.splC pl fun v h' kk r => .spl0 fun h'' kk' => ?_) fun us h' tk kk r => ?_) rfl
  · obtain ⟨lr, o, rfl, hn, hol, ys, nn, rfl, hy⟩ := r
    exact ⟨lr, ys, nn, rfl, kk' _ _ hol, hn, hy⟩
  obtain ⟨lr, rvs, rn, rfl, hor, hnr, hri⟩ := r
  have S₁ := S.grow kk tk
  have hrL : lr ≠ L := fun q => by
    obtain ⟨o, es, ep, e, _⟩ := S.ns
    have e : s.heap.get? L = some o := e
    rw [q, e] at hnr; cases hnr
  refine told_St T hh hd hfr S₁ hb hor hrL hri hf hn1 hn hrest fun G' s₂ l' vs' n' hb' S₂ hv => ?_
  refine S₂.pv (.name (S₂.loc hdue)) fun v s₃ r k₃ S₃ => ?_
  obtain rfl := r
  have hdo := (S₃.own _ (.tail _ hdl)).1
  refine S₃.pv (neL_pv hu (S₃.mem 0 rfl) hdo hv hdi) fun v s₄ r k₄ S₄ => ?_
  obtain rfl := r
  refine wpAny_truthy_bool ?_
  rw [decide_eq_false (by simp)]
  exact k G' s₄ l' vs' n' hb' S₄
end Mine
end

section
namespace Mine
/-- place wh + k is held by the class p -/
def hit (wh : Int) (k : Nat) (p : Nat × Nat) : Bool := (wh + (k : Int) - (p.1 : Int)) % (p.2 : Int) == 0
structure Tab (wh : Int) (last : Nat) (cls : List (Nat × Nat)) (tns : List Int) : Prop where
  sorted : tns.Pairwise (· ≤ ·)
  rng : ∀ y ∈ tns, 1 ≤ y ∧ y ≤ (last : Int)
  cnt : ∀ x : Nat, 1 ≤ x → x ≤ last → tns.count (x : Int) = (cls.filter (hit wh (x - 1))).length
  len : tns.length ≤ cls.length * last
theorem mem_mk {f n c : Nat} {x : Int} : x ∈ mk f n c ↔ ∃ i, i < c ∧ x = ((f + n * i : Nat) : Int) := by
  unfold mk
  rw [List.mem_map]
  constructor
  · rintro ⟨i, hi, rfl⟩; exact ⟨i, List.mem_range.mp hi, rfl⟩
  · rintro ⟨i, hi, rfl⟩; exact ⟨i, List.mem_range.mpr hi, rfl⟩
theorem mk_nodup {f n c : Nat} (hn : 1 ≤ n) : (mk f n c).Nodup := by
  unfold mk
  refine List.Pairwise.map _ (R := (· ≠ ·)) (fun a b h e => h ?_) List.nodup_range
  have e : f + n * a = f + n * b := Int.ofNat_inj.mp e
  exact Nat.eq_of_mul_eq_mul_left hn (Nat.add_left_cancel e)
theorem count_nodup {l : List Int} (h : l.Nodup) (x : Int) : l.count x = if x ∈ l then 1 else 0 := by
  by_cases hx : x ∈ l
  · rw [if_pos hx]
    induction l with
    | nil => cases hx
    | cons y l ih =>
      rw [List.nodup_cons] at h
      rw [List.count_cons]
      rcases List.mem_cons.mp hx with rfl | hx'
      · rw [List.count_eq_zero_of_not_mem h.1]; simp
      · have : (y == x) = false := beq_eq_false_iff_ne.mpr fun e => h.1 (e ▸ hx')
        rw [ih h.2 hx', this]; rfl
  · rw [if_neg hx, List.count_eq_zero_of_not_mem hx]
theorem mk_hit {wh : Int} {start md f c last x : Nat} (hmd : 1 ≤ md) (hf : ((start : Int) - wh).fmod md = (f : Int)) (hfm : f < md) (hc : last < f + 1 + md * c) (hx1 : 1 ≤ x) (hx : x ≤ last) : ((x : Int) ∈ mk (f + 1) md c) ↔ hit wh (x - 1) (start, md) = true := by
  rw [Int.fmod_eq_emod_of_nonneg _ (Int.natCast_nonneg _)] at hf
  have hq := Int.emod_add_mul_ediv ((start : Int) - wh) (md : Int)
  rw [hf] at hq
  generalize hQ : ((start : Int) - wh) / (md : Int) = q at hq
  unfold hit
  rw [beq_iff_eq, mem_mk]
  have e : wh + ((x - 1 : Nat) : Int) - (start : Int) = ((x : Int) - 1 - f) + (md : Int) * (-q) := by
    rw [Int.mul_neg]; lia
  show _ ↔ (wh + ((x - 1 : Nat) : Int) - (start : Int)) % (md : Int) = 0
  rw [e, Int.add_mul_emod_self_left]
  constructor
  · rintro ⟨i, hi, hxi⟩
    have : (x : Int) - 1 - f = (md : Int) * (i : Int) := by
      rw [hxi]; simp only [Int.natCast_add, Int.natCast_mul]; lia
    rw [this, Int.mul_emod_right]
  · intro h
    obtain ⟨i, hi⟩ := Int.dvd_of_emod_eq_zero h
    have hi0 : 0 ≤ i := by
      by_cases hn : i < 0
      · have : (md : Int) * i ≤ (md : Int) * (-1) := Int.mul_le_mul_of_nonneg_left (by lia) (by lia)
        lia
      · lia
    obtain ⟨j, rfl⟩ := Int.eq_ofNat_of_zero_le hi0
    have hxj : x = f + 1 + md * j := by
      have : ((md * j : Nat) : Int) = (md : Int) * (j : Int) := Int.natCast_mul ..
      lia
    refine ⟨j, ?_, by rw [← hxj]⟩
    rcases Nat.lt_or_ge j c with h | h
    · exact h
    · have := Nat.mul_le_mul_left md h
      lia
theorem Tab.nil {wh : Int} {last : Nat} : Tab wh last [] [] := ⟨.nil, (fun _ h => by cases h), (fun x _ _ => rfl), Nat.zero_le _⟩
theorem Tab.snoc {wh : Int} {last : Nat} {cls : List (Nat × Nat)} {tns tns' : List Int} {start md f c : Nat} (T : Tab wh last cls tns) (hmd : 1 ≤ md) (hf : ((start : Int) - wh).fmod md = (f : Int)) (hfm : f < md) (hc : last < f + 1 + md * c) (hc' : ∀ i, i < c → f + 1 + md * i ≤ last)
    (hs : tns'.Pairwise (· ≤ ·)) (hp : tns'.Perm (Mine.mk (f + 1) md c ++ tns)) : Tab wh last (cls ++ [(start, md)]) tns' := by
  refine ⟨hs, fun y hy => ?_, fun x hx1 hx => ?_, ?_⟩
  · rcases List.mem_append.mp (hp.mem_iff.mp hy) with h | h
    · obtain ⟨i, hi, rfl⟩ := mem_mk.mp h
      have := hc' i hi
      lia
    · exact T.rng y h
  · rw [hp.count_eq, List.count_append, T.cnt x hx1 hx, count_nodup (mk_nodup hmd), List.filter_append, List.length_append]
    have hh := mk_hit hmd hf hfm hc hx1 hx
    by_cases h : hit wh (x - 1) (start, md) = true
    · rw [if_pos (hh.mpr h)]
      simp [h]; lia
    · rw [if_neg (fun q => h (hh.mp q))]
      simp [h]
  · rw [hp.length_eq, List.length_append, mk_length, List.length_append, List.length_singleton, Nat.add_mul, Nat.one_mul]
    have hcl : c ≤ last := by
      rcases Nat.eq_zero_or_pos c with e | e
      · lia
      · have h1 := hc' (c - 1) (by lia)
        have h2 : c - 1 ≤ md * (c - 1) := Nat.le_mul_of_pos_left _ hmd
        lia
    have := T.len
    lia
/-- the sum of the powers -/
theorem tele {high md : Nat} : ∀ (c : Nat), md * c ≤ high → ((List.range c).map fun i => 16 ^ (high - md * (i + 1))).sum * 16 ^ md + 16 ^ (high - md * c) = ((List.range c).map fun i => 16 ^ (high - md * (i + 1))).sum + 16 ^ high
  | 0, _ => by simp
  | c + 1, h => by
    have h' : md * c + md ≤ high := by rw [← Nat.mul_succ]; exact h
    have ih := tele (high := high) (md := md) c (by lia)
    rw [List.range_succ, List.map_append, List.sum_append, List.map_singleton, List.sum_singleton]
    generalize ((List.range c).map fun i => 16 ^ (high - md * (i + 1))).sum = S at *
    have e : 16 ^ (high - md * (c + 1)) * 16 ^ md = 16 ^ (high - md * c) := by
      rw [← Nat.pow_add]; congr 1; rw [Nat.mul_succ]; lia
    rw [Nat.add_mul, e]
    generalize 16 ^ (high - md * c) = a at *
    generalize 16 ^ (high - md * (c + 1)) = b at *
    generalize S * 16 ^ md = d at *
    lia
theorem powers {high md f c last : Nat} (hmd : 1 ≤ md) (hfm : f < md) (hl : 1 ≤ last) (hh : high + f = last - 1 + md) (hc : last < f + 1 + md * c) (hc' : ∀ i, i < c → f + 1 + md * i ≤ last) :
    16 ^ high / (16 ^ md - 1) = ((List.range c).map fun i => 16 ^ (last - (f + 1 + md * i))).sum ∧ 16 ^ high % (16 ^ md - 1) = 16 ^ (high % md) := by
  have hcb : md * c ≤ high := by
    rcases Nat.eq_zero_or_pos c with e | e
    · rw [e]; lia
    · have h1 := hc' (c - 1) (by lia)
      have : md * c = md * (c - 1) + md := by
        rw [← Nat.mul_succ]; congr 1; lia
      lia
  have hr : high % md = high - md * c := by
    have h1 : high - md * c < md := by lia
    have h2 : high = md * c + (high - md * c) := by lia
    conv => lhs; rw [h2]
    rw [Nat.mul_add_mod]
    exact Nat.mod_eq_of_lt h1
  have hmap : ((List.range c).map fun i => 16 ^ (last - (f + 1 + md * i))) = (List.range c).map fun i => 16 ^ (high - md * (i + 1)) := by
    apply List.map_congr_left
    intro i hi
    rw [List.mem_range] at hi
    have h1 := hc' i hi
    congr 1
    rw [Nat.mul_succ]
    lia
  have ht := tele c hcb
  rw [← hmap, ← hr] at ht
  generalize ((List.range c).map fun i => 16 ^ (last - (f + 1 + md * i))).sum = S at *
  have hlt : 16 ^ (high % md) < 16 ^ md - 1 := by
    have h1 : high % md < md := Nat.mod_lt _ hmd
    have h2 : 16 ^ (high % md) ≤ 16 ^ (md - 1) := Nat.pow_le_pow_right (by decide) (by lia)
    have h3 : 16 ^ md = 16 ^ (md - 1) * 16 := by rw [← Nat.pow_succ]; congr 1; lia
    have h4 : 1 ≤ 16 ^ (md - 1) := Nat.pow_pos (by decide)
    lia
  have hB : 1 ≤ 16 ^ md := Nat.pow_pos (by decide)
  have e : 16 ^ high = (16 ^ md - 1) * S + 16 ^ (high % md) := by
    have hmul : (16 ^ md - 1) * S + S = S * 16 ^ md := by
      have h1 : (16 ^ md - 1) * S + S = ((16 ^ md - 1) + 1) * S := by rw [Nat.add_mul, Nat.one_mul]
      rw [h1, Nat.sub_add_cancel hB, Nat.mul_comm]
    generalize (16 ^ md - 1) * S = z at *
    generalize S * 16 ^ md = y at *
    generalize 16 ^ high = v at *
    generalize 16 ^ (high % md) = u at *
    lia
  have hB1 : 0 < 16 ^ md - 1 := Nat.lt_of_le_of_lt (Nat.zero_le _) hlt
  rw [e]
  constructor
  · rw [Nat.mul_add_div hB1, Nat.div_eq_of_lt hlt]; lia
  · rw [Nat.mul_add_mod, Nat.mod_eq_of_lt hlt]
end Mine
end

section
open PySem PySem.W PyProof.Rows
namespace Mine
noncomputable def turnL (w : World) : List Stmt := match (bodyL w).drop 7 with
  | (.For _ _ b _ _) :: _ => b
  | _ => []
/-- within a turn of the law's loop -/
structure Mid (w : World) (L : Addr) (g : Heap) (G : Array GenState) (O : OsState × Drawn) (m cm : Str → Option Value) (tb : Addr) (tvs : List Value) (tn : Nat) (ps qs : Array Value) (ex : Led) (s : Shared) : Prop where
  st : St G O g (le w L) (csL w L) m cm ((tb, lst tvs tn) :: (37, tabObj ps) :: (44, tabObj qs) :: ex) s
  i1 : TabIn g ((tb, lst tvs tn) :: (37, tabObj ps) :: (44, tabObj qs) :: ex) pos1 q1 ps
  i2 : TabIn g ((tb, lst tvs tn) :: (37, tabObj ps) :: (44, tabObj qs) :: ex) pos2 q2 qs
theorem perm3 {α : Type} {a b c x : α} {ex : List α} : (x :: a :: b :: c :: ex).Perm (a :: b :: c :: x :: ex) := (List.perm_middle (l₁ := [a, b, c])).symm
section
variable {w : World} {A : Around} {s s' : Shared} {Q : Flow → Shared → Prop} {E : Value → Shared → Prop} {G G' : Array GenState} {O : OsState × Drawn} {g : Heap} {L tb lcl : Addr} {m cm m' cm' : Str → Option Value} {tvs : List Value} {tn : Nat} {ps qs : Array Value} {ex ex' : Led} {wh : Int} {ring wide even last start md f : Nat}
theorem Mid.tbs (M : Mid w L g G O m cm tb tvs tn ps qs ex s) (T : Tp w g) (c1 : CodeHd g 41 37) (c2 : CodeHd g 48 44) : Tbs w s.heap ps qs := Tbs.of T c1 c2 M.i1 M.i2 M.st (.tail _ (.head _)) (.tail _ (.tail _ (.head _)))
theorem Mid.grow (M : Mid w L g G O m cm tb tvs tn ps qs ex s) (S : St G' O g (le w L) (csL w L) m' cm' ((tb, lst tvs tn) :: (37, tabObj ps) :: (44, tabObj qs) :: ex) s') : Mid w L g G' O m' cm' tb tvs tn ps qs ex s' := ⟨S, M.i1, M.i2⟩
/-- another own object -/
theorem Mid.more {x : Addr × Obj} (M : Mid w L g G O m cm tb tvs tn ps qs ex s) (S : St G' O g (le w L) (csL w L) m' cm' (x :: (tb, lst tvs tn) :: (37, tabObj ps) :: (44, tabObj qs) :: ex) s') : Mid w L g G' O m' cm' tb tvs tn ps qs (x :: ex) s' :=
  have sub : ∀ p ∈ ((tb, lst tvs tn) :: (37, tabObj ps) :: (44, tabObj qs) :: ex), p ∈ ((tb, lst tvs tn) :: (37, tabObj ps) :: (44, tabObj qs) :: x :: ex) := fun p hp => perm3.mem_iff.mp (.tail _ hp)
  ⟨S.perm perm3, M.i1.up Kp.rfl fun p hp => .inl (sub p hp), M.i2.up Kp.rfl fun p hp => .inl (sub p hp)⟩
/-- behind a call of int_divmod -/
theorem Mid.divmod {more more' : Array Value} (M : Mid w L g G O m cm tb tvs tn ps qs ex s) (X : Tbs w s'.heap (ps ++ more) (qs ++ more')) (k : Kp (hideAll s.heap [37, 44]) s'.heap) (hg : s'.gens = s.gens) (ho : (s'.os, s'.drawn) = (s.os, s.drawn)) :
    ∃ ex₂ : Led, Mid w L g G O m cm tb tvs tn (ps ++ more) (qs ++ more') (ex ++ ex₂) s' := by
  have S' := M.st.upd2 (s' := s') 1 2 rfl rfl (by decide) k X.g1 X.g2 (hg.trans M.st.gens) ho
  obtain ⟨ex₂, S'', i1, i2, _⟩ := X.rec_ S'
  exact ⟨ex₂, S'', i1, i2⟩
theorem Nms.keep (n : Nms m cm lcl tb wh ring wide even last) (h : ∀ x : Str, x = "ring" ∨ x = "wide" ∨ x = "even" ∨ x = "table" → m' x = m x) : Nms m' cm lcl tb wh ring wide even last :=
  ⟨(h _ (.inl rfl)) ▸ n.ring, (h _ (.inr (.inl rfl))) ▸ n.wide, (h _ (.inr (.inr (.inl rfl)))) ▸ n.even, (h _ (.inr (.inr (.inr rfl)))) ▸ n.table, n.last, n.where_, n.classes⟩
theorem Nms.up (n : Nms m cm lcl tb wh ring wide even last) {x : Str} {v : Value} (h1 : x ≠ "ring") (h2 : x ≠ "wide") (h3 : x ≠ "even") (h4 : x ≠ "table") : Nms (Mine.up m x v) cm lcl tb wh ring wide even last :=
  n.keep fun y hy => up_ne (by rcases hy with rfl | rfl | rfl | rfl <;> exact Ne.symm (by assumption))
theorem turn_1 (T : Tp w g) (c1 : CodeHd g 41 37) (c2 : CodeHd g 48 44) (hh : A.handled = none) (hd : A.depth + 690 < recursionLimit) (M : Mid w L g G O m cm tb tvs tn ps qs ex s) (N : Nms m cm lcl tb wh ring wide even last)
    (hs : ∃ t, m "start" = some (.int (start : Nat) t)) (hm : ∃ t, m "modulus" = some (.int (md : Nat) t)) (hmd1 : 1 ≤ md) (hmd : md ≤ 72) (hst : start ≤ 1000) (hw1 : -45 ≤ wh) (hw2 : wh ≤ 35)
    (k : ∀ m' ps' qs' ex' s' f, Mid w L g G O m' cm tb tvs tn ps' qs' ex' s' → Nms m' cm lcl tb wh ring wide even last → (∃ t, m' "modulus" = some (.int (md : Nat) t)) → (∃ t, m' "first" = some (.int (f : Nat) t)) → ((start : Int) - wh).fmod md = (f : Int) → f < md → wpAny (model pr w) A (execs ((turnL w).drop 2) (le w L)) Q E s') :
    wpAny (model pr w) A (execs (turnL w) (le w L)) Q E s := by
  obtain ⟨t₁, hs⟩ := hs
  obtain ⟨t₂, hm⟩ := hm
  obtain ⟨t₃, hwc⟩ := N.where_
  have S := M.st
  have T₀ := T.up S.keep
  refine x_cons (Assign_Tuple (callF_of (.glob T₀ g_int_divmod) (T₀.k 63 _ rfl) rfl (.args2 (P₁ := fun v => ∃ t, v = .int ((start : Int) - wh) t) (P₂ := fun v => v = .int (md : Nat) t₂) (.subI (.nameI (S.loc hs)) (.nameI (S.cel hwc))) (.name (S.loc hm))) fun us h' tk kk r => ?_) rfl rfl)
  obtain ⟨_, _, rfl, ⟨t₄, rfl⟩, rfl⟩ := r
  have M₁ := M.grow (S.grow kk tk)
  have X₁ := M₁.tbs T c1 c2
  have hbits : Builtin.Int.intBits ((start : Int) - wh) ≤ 400 := by
    refine intBits_le_iff.mpr ?_
    have : ((start : Int) - wh).natAbs < 2 ^ 20 := by
      have : (2 : Nat) ^ 20 = 1048576 := by decide
      lia
    exact Nat.lt_of_lt_of_le this (Nat.pow_le_pow_right (by decide) (by decide))
  refine idm_call X₁ hh (by lia) hmd1 (intBits_le_nat (Nat.lt_of_lt_of_le (show md < 2 ^ 10 by lia) (Nat.pow_le_pow_right (by decide) (by decide)))) hbits fun s₂ l t u more more' hnl hl' X₂ k₂ g₂ o₂ => ?_
  obtain ⟨ex₂, M₂⟩ := M₁.divmod X₂ k₂ g₂ o₂
  generalize ps ++ more = ps₂ at *
  generalize qs ++ more' = qs₂ at *
  have hfe : ∃ f : Nat, ((start : Int) - wh).fmod md = (f : Int) ∧ f < md := by
    obtain ⟨f, hf⟩ := Int.eq_ofNat_of_zero_le (Int.fmod_nonneg_of_pos ((start : Int) - wh) (show (0 : Int) < md by lia))
    have := Int.fmod_lt_of_pos ((start : Int) - wh) (show (0 : Int) < md by lia)
    exact ⟨f, hf, by lia⟩
  obtain ⟨f, hf, hfm⟩ := hfe
  have hdm : ((start : Int) - wh).fdiv md * (md : Int) + (f : Int) = (start : Int) - wh := by
    rw [← hf, Int.mul_comm]; exact Int.mul_fdiv_add_fmod ..
  generalize hQ : ((start : Int) - wh).fdiv md = qq at *
  rw [hf] at hl'
  refine a_tup2 hh (isTup_tup hl') fun h₃ k₃ => ?_
  refine (M₂.st.growS (s' := { s₂ with heap := h₃ }) k₃ M₂.st.gens rfl).asg fun s₄ S₄ => S₄.asg fun s₅ S₅ => ?_
  refine x_cons (x_if S₅ (.tor (.tne (.nameI (S₅.loc rfl)) (.modI (.subI (.nameI (S₅.loc hs)) (.nameI (S₅.cel hwc))) (.nameI (S₅.loc hm)) (by lia))) fun _ => .tne (.addI (.mulI (.nameI (S₅.loc rfl)) (.nameI (S₅.loc hm)) (IntMulOk.of_right (intBits_le_nat (Nat.lt_of_lt_of_le (show md < 2 ^ 10 by lia) (by decide))))) (.nameI (S₅.loc rfl))) (.subI (.nameI (S₅.loc hs)) (.nameI (S₅.cel hwc)))) (fun hb _ _ _ => ?_) fun _ s₆ k₆ S₆ => ?_)
  · exfalso
    rw [hf, hdm] at hb
    simp at hb
  · exact x_nil (k _ ps₂ qs₂ _ s₆ f (M₂.grow S₆) ((N.up (by decide) (by decide) (by decide) (by decide)).up (by decide) (by decide) (by decide) (by decide)) ⟨t₂, hm⟩ ⟨_, rfl⟩ hf hfm)
end
end Mine
end

section
open PySem PySem.W PyProof.Rows
namespace Mine
section
variable {w : World} {A : Around} {s s' : Shared} {Q : Flow → Shared → Prop} {E : Value → Shared → Prop} {G G' : Array GenState} {O : OsState × Drawn} {g : Heap} {L tb lcl : Addr} {m cm m' cm' : Str → Option Value} {tvs : List Value} {tn : Nat} {ps qs : Array Value} {ex ex' : Led} {wh : Int} {ring wide even last start md f : Nat}
/-- a list display of ints -/
theorem Pv.intsD {prog : Program} {w : World} {A : Around} {env : Env} {h : Heap} {elts : List Expr} {pos : Pos} {ns : List Int} (p : Pv prog w A h (spliced (backTo pos (starEach elts env))) (fun vs _ => IntsAre vs ns)) (hl : ns.length ≤ 1000000) : Pv prog w A h (eval (.List elts pos) env) (NewL h fun ys => IntsAre ys ns) :=
  .lstD p (fun vs h' h'' l k r h1 h2 k' ho => ⟨l, _, rfl, h2, ho, vs, 0, rfl, r⟩) fun vs h' r => by rw [r.length]; exact hl
theorem turn_2 (T : Tp w g) (hh : A.handled = none) (hd : A.depth + 690 < recursionLimit) (hu : A.units < cLine) (hfr : A.frames = some [le w L]) (hb : AllBare G) (M : Mid w L g G O m cm tb tvs tn ps qs ex s) (N : Nms m cm lcl tb wh ring wide even last)
    (hm : ∃ t, m "modulus" = some (.int (md : Nat) t)) (hf : ∃ t, m "first" = some (.int (f : Nat) t)) (hmd1 : 1 ≤ md) (hmd : md ≤ 72) (hfm : f < md)
    (k : ∀ G' m' ex' s', AllBare G' → Mid w L g G' O m' cm tb tvs tn ps qs ex' s' → Nms m' cm lcl tb wh ring wide even last → (∃ t, m' "modulus" = some (.int (md : Nat) t)) → (∃ t, m' "first" = some (.int (f : Nat) t)) → wpAny (model pr w) A (execs ((turnL w).drop 4) (le w L)) Q E s') :
    wpAny (model pr w) A (execs ((turnL w).drop 2) (le w L)) Q E s := by
  obtain ⟨t₁, hm⟩ := hm
  obtain ⟨t₂, hf⟩ := hf
  have S := M.st
  refine x_cons (x_setN S (P := fun o _ => ∃ ys nn, o = lst ys nn ∧ IntsAre ys (dueOf f md)) (.ifexp (.tgt (.nameI (S.loc hf)) .cint) (fun hb' => (Pv.intsD (ns := [(f : Int), (md : Int)]) (.splI (.nameI (S.loc hf)) (.splI (.nameI (S.loc hm)) (.spl0 fun _ _ => .nil))) (by simp)).mono fun v h' kk r => ?_) fun hb' => (Pv.intsD (ns := [-1]) (.splI (.negI .cint) (.spl0 fun _ _ => .nil)) (by decide)).mono fun v h' kk r => ?_) fun dl o s₁ s₂ ho' k₂ S₂ => ?_)
  · obtain ⟨l, o, rfl, hn, ho, ys, nn, rfl, hy⟩ := r
    refine ⟨l, _, rfl, hn, ho, ys, nn, rfl, ?_⟩
    unfold dueOf
    have := of_decide_eq_true hb'
    rw [if_pos (by lia)]; exact hy
  · obtain ⟨l, o, rfl, hn, ho, ys, nn, rfl, hy⟩ := r
    refine ⟨l, _, rfl, hn, ho, ys, nn, rfl, ?_⟩
    unfold dueOf
    have := of_decide_eq_false hb'
    rw [if_neg (by lia)]; exact hy
  obtain ⟨dvs, dn, rfl, hdv⟩ := ho'
  refine x_cons (wpAny_If (isTrue_or (told_test (f := f) (n := md) (rest := []) T hh (by lia) hu hfr S₂ hb (.intsD (.splI (.nameI (S₂.loc hf)) (.splI (.nameI (S₂.loc hm)) (.spl0 fun _ _ => .nil))) (by simp)) (by lia) hmd1 (by lia) (.inl rfl) rfl (.head _) hdv fun G₃ s₃ l₃ vs₃ n₃ hb₃ S₃ => ?_)))
  rw [if_neg Bool.false_ne_true]
  refine isTrue_or (told_test (f := f) (n := md) (rest := [127, 5]) T hh (by lia) hu hfr S₃ hb₃ (.intsD (.splI (.nameI (S₃.loc hf)) (.splI (.nameI (S₃.loc hm)) (.splI .cint (.splI .cint (.spl0 fun _ _ => .nil))))) (by simp)) (by lia) hmd1 (by lia) (.inr rfl) rfl (.tail _ (.head _)) hdv fun G₄ s₄ l₄ vs₄ n₄ hb₄ S₄ => ?_)
  rw [if_neg Bool.false_ne_true]
  refine isTrue_or_nil ?_
  rw [if_neg Bool.false_ne_true]
  have M₂ := M.more S₂
  have S₅ := S₄.sub (led' := (dl, lst dvs dn) :: (tb, lst tvs tn) :: (37, tabObj ps) :: (44, tabObj qs) :: ex) (.cons _ (.cons _ (List.Sublist.refl _)))
  exact x_nil (k G₄ _ _ s₄ hb₄ (M.more S₅) (N.up (by decide) (by decide) (by decide) (by decide)) ⟨t₁, hm⟩ ⟨t₂, hf⟩)
end
end Mine
end

section
open PySem PySem.W PyProof.Rows
namespace Mine
theorem sumN : ∀ l : List Nat, (l.map Int.ofNat).sum = ((l.sum : Nat) : Int)
  | [] => rfl
  | a :: l => by rw [List.map_cons, List.sum_cons, List.sum_cons, sumN l]; rfl
theorem powN (a n : Nat) : (a : Int) ^ ((n : Nat) : Int).toNat = ((a ^ n : Nat) : Int) := by
  rw [Int.toNat_natCast, Int.natCast_pow]
theorem mk_get {f n c i : Nat} {y : Int} (h : (mk f n c)[i]? = some y) : i < c ∧ y = ((f + n * i : Nat) : Int) := by
  have hlt := (List.getElem?_eq_some_iff.mp h).1
  rw [mk_length] at hlt
  refine ⟨hlt, ?_⟩
  unfold mk at h
  rw [List.getElem?_map, List.getElem?_range hlt] at h
  cases h; rfl
theorem mk_le {f md c last : Nat} (hmd : 1 ≤ md) (hc' : ∀ i, i < c → f + 1 + md * i ≤ last) : c ≤ last := by
  rcases Nat.eq_zero_or_pos c with e | e
  · lia
  · have h1 := hc' (c - 1) (by lia)
    have h2 : c - 1 ≤ md * (c - 1) := Nat.le_mul_of_pos_left _ hmd
    lia
theorem bits16 : Builtin.Int.intBits 16 = 5 := by decide
theorem pow16_bits {n : Nat} (h : n ≤ 1000) : (Builtin.Int.intBits 16 : Int) * ((n : Nat) : Int) ≤ 2 ^ 27 := by
  rw [bits16]
  have : (2 : Int) ^ 27 = 134217728 := by decide
  lia
section
variable {w : World} {A : Around} {s s' : Shared} {Q : Flow → Shared → Prop} {E : Value → Shared → Prop} {G G' : Array GenState} {O : OsState × Drawn} {g : Heap} {L tb lcl : Addr} {m cm m' cm' : Str → Option Value} {tvs : List Value} {tn : Nat} {ps qs : Array Value} {ex ex' : Led} {wh : Int} {ring wide even last start md f : Nat}
theorem turn_3 (T : Tp w g) (c1 : CodeHd g 41 37) (c2 : CodeHd g 48 44) (hh : A.handled = none) (hd : A.depth + 690 < recursionLimit) (hb : AllBare G) (M : Mid w L g G O m cm tb tvs tn ps qs ex s) (N : Nms m cm lcl tb wh ring wide even last)
    (hm : ∃ t, m "modulus" = some (.int (md : Nat) t)) (hf : ∃ t, m "first" = some (.int (f : Nat) t)) (hmd1 : 1 ≤ md) (hmd27 : md ≤ 27) (hfm : f < md) (hl1 : 1 ≤ last) (hl : last ≤ 72)
    (k : ∀ G' m' ps' qs' ex' s' lm mvs mn c, AllBare G' → Mid w L g G' O m' cm tb tvs tn ps' qs' ((lm, lst mvs mn) :: ex') s' → Nms m' cm lcl tb wh ring wide even last → m' "marks" = some (.ref lm) → IntsAre mvs (mk (f + 1) md c) → last < f + 1 + md * c → (∀ i, i < c → f + 1 + md * i ≤ last) → wpAny (model pr w) A (execs ((turnL w).drop 8) (le w L)) Q E s') :
    wpAny (model pr w) A (execs ((turnL w).drop 4) (le w L)) Q E s := by
  obtain ⟨t₁, hm⟩ := hm
  obtain ⟨t₂, hf⟩ := hf
  obtain ⟨t₃, hlc⟩ := N.last
  have S := M.st
  have T₀ := T.up S.keep
  -- marks
  refine x_cons (wpAny_Assign_Name (callF_of (R₁ := fun us h' => ∃ lr rvs rn t, us = [.ref lr, .int (last : Nat) t] ∧ h'.get? lr = some (lst rvs rn) ∧ IntsAre rvs [((f + 1 : Nat) : Int), (md : Int), 0, 5]) (.glob T₀ g_marks) (T₀.k 105 _ rfl) rfl
    (.splC (Pv.intsD (ns := [((f + 1 : Nat) : Int), (md : Int), 0, 5]) (.splI (.castI (.addI (.nameI (S.loc hf)) .cint) (by lia)) (.splI (.nameI (S.loc hm)) (.splI .cint (.splI .cint (.spl0 fun _ _ => .nil))))) (by simp)) fun v h' kk r => .splC (R := fun us h' => ∃ lr rvs rn t, v :: us = [.ref lr, .int (last : Nat) t] ∧ h'.get? lr = some (lst rvs rn) ∧ IntsAre rvs [((f + 1 : Nat) : Int), (md : Int), 0, 5]) (.name ((S.cel hlc).up kk)) fun v₂ h₂ kk₂ r₂ => .spl0 fun h₃ kk₃ => ?_) fun us h' tk kk r => ?_) rfl)
  · obtain ⟨lr, o, rfl, _, hol, ys, nn, rfl, hy⟩ := r
    obtain rfl := r₂
    exact ⟨lr, ys, nn, t₃, rfl, (kk₂.trans kk₃) _ _ hol, hy⟩
  obtain ⟨lr, rvs, rn, t₄, rfl, hor, hri⟩ := r
  have S₁ := S.grow kk tk
  refine marks_call (f := f + 1) (n := md) (T.up S₁.keep) hh (by lia) hor hri (by lia) (by lia) hmd1 (by lia) (by lia) (by rw [S₁.gens]; exact hb) fun s₂ lm mvs mn c hnl hlm hmv hc hc' k₂ hb₂ o₂ => ?_
  have S₂ := S₁.addS k₂ rfl o₂ hnl hlm
  refine S₂.store fun s₃ S₃ => ?_
  have M₃ := M.more S₃
  have S₃ := M₃.st
  -- high
  obtain ⟨high, hhe⟩ : ∃ high : Nat, high + f = last - 1 + md := ⟨last - 1 + md - f, by lia⟩
  refine x_cons (x_setI (i := (high : Int)) S₃ (.castI (.addI (.subI (.subI (.nameI (S₃.cel hlc)) .cint) (.nameI (S₃.loc hf))) (.nameI (S₃.loc hm))) (by lia)) fun t₅ s₄ S₄ => ?_)
  have hh98 : high ≤ 98 := by lia
  obtain ⟨hdiv, hmod⟩ := powers (high := high) hmd1 hfm hl1 hhe hc hc'
  have hB : 15 ≤ 16 ^ md - 1 := by
    have : 16 ^ 1 ≤ 16 ^ md := Nat.pow_le_pow_right (by decide) hmd1
    lia
  -- copies, rest
  have T₄ := T.up S₄.keep
  refine x_cons (Assign_Tuple (callF_of (.glob T₄ g_int_divmod) (T₄.k 63 _ rfl) rfl (.args2 (P₁ := fun v => ∃ t, v = .int ((16 ^ high : Nat) : Int) t) (P₂ := fun v => ∃ t, v = .int ((16 ^ md - 1 : Nat) : Int) t) (.castI (.powI .cint (.nameI (S₄.loc rfl)) (by lia) (pow16_bits (by lia))) (powN 16 high))
    (.castI (.subI (.castI (.powI .cint (.nameI (S₄.loc hm)) (by lia) (pow16_bits (by lia))) (powN 16 md)) .cint) (by lia))) fun us h' tk kk r => ?_) rfl rfl)
  obtain ⟨_, _, rfl, ⟨t₆, rfl⟩, t₇, rfl⟩ := r
  have M₅ := (M₃.grow S₄).grow (S₄.grow kk tk)
  have X₅ := M₅.tbs T c1 c2
  refine idm_call X₅ hh (by lia) (by lia) (intBits_le_nat (Nat.lt_of_le_of_lt (Nat.sub_le ..) ?_)) (intBits_le_nat ?_) fun s₆ l t u more more' _ hl' X₆ k₆ g₆ o₆ => ?_
  · have : 16 ^ md = 2 ^ (4 * md) := by rw [Nat.pow_mul]
    rw [this]
    exact Nat.pow_lt_pow_right (by decide) (by lia)
  · have : 16 ^ high = 2 ^ (4 * high) := by rw [Nat.pow_mul]
    rw [this]
    exact Nat.pow_lt_pow_right (by decide) (by lia)
  obtain ⟨ex₆, M₆⟩ := M₅.divmod X₆ k₆ g₆ o₆
  generalize ps ++ more = ps₂ at *
  generalize qs ++ more' = qs₂ at *
  rw [fdivN, fmodN, hdiv, hmod] at hl'
  generalize hSum : ((List.range c).map fun i => 16 ^ (last - (f + 1 + md * i))).sum = SS at *
  refine a_tup2 hh (isTup_tup hl') fun h₇ k₇ => ?_
  refine (M₆.st.growS (s' := { s₆ with heap := h₇ }) k₇ M₆.st.gens rfl).asg fun s₈ S₈ => S₈.asg fun s₉ S₉ => ?_
  have T₉ := T.up S₉.keep
  have mem₃ : (lm, lst mvs mn) ∈ ((lm, lst mvs mn) :: ex) ++ ex₆ := .head _
  have hom : s₉.heap.get? lm = some (lst mvs mn) := (S₉.own _ (.tail _ (.tail _ (.tail _ mem₃)))).1
  have cL := S₉.cellV (x := "last") hlc
  have hml : mvs.length = c := by rw [hmv.length, mk_length]
  refine x_cons (x_if S₉ (.tor (.tne (b := ((16 ^ (high % md) : Nat) : Int)) (.nameI (S₉.loc rfl)) (.castI (.powI .cint (.castI (.modI (.nameI (S₉.loc rfl)) (.nameI (S₉.loc hm)) (by lia)) (fmodN high md)) (by lia) (pow16_bits (Nat.le_trans (Nat.mod_le ..) (by lia)))) (powN 16 _))) fun _ => .tne (b := (SS : Int)) (.nameI (S₉.loc rfl)) (.castI (.sumE (ns := ((List.range c).map fun i => 16 ^ (last - (f + 1 + md * i))).map Int.ofNat) T₉ hh ((Pv.compN (n := (mk (f + 1) md c).length) (P := fun i v => ∃ y t, (mk (f + 1) md c)[i]? = some y ∧ v = .int y t) (R₁ := Is (.ref lm)) (fun _ => true) (fun i y => ∃ t, y = .int ((16 ^ (last - (f + 1 + md * i)) : Nat) : Int) t) (fun i ys => IntsAre ys (((List.range i).map fun i => 16 ^ (last - (f + 1 + md * i))).map Int.ofNat))
      (.name (S₉.loc rfl)) (fun v h' kk e => e ▸ Src.ints (by exact hh) (kk _ _ hom) hmv) (by rw [mk_length]; have := mk_le hmd1 hc'; lia) (fun _ _ _ _ _ _ _ _ => .tests0) ?_ .nil ?_ ?_).mono fun v h' kk r => ?_)) (by rw [sumN, hSum]))) (fun hb' _ _ _ => ?_) fun _ s₁₀ k₁₀ S₁₀ => ?_)
  · rintro i v C h₁ hi ⟨y, t, hy, rfl⟩ - kk rd
    obtain ⟨hic, rfl⟩ := mk_get hy
    have hle := hc' i hic
    refine (Pv.castI (.powI .cint (.castI (.subI (.nameI (.cel (cL.keeps kk) rfl)) (.nameI rd)) (show ((last : Nat) : Int) - ((f + 1 + md * i : Nat) : Int) = ((last - (f + 1 + md * i) : Nat) : Int) by lia)) (by lia) (pow16_bits (by lia))) (powN 16 _))
  · rintro i ys y hi - ⟨t, rfl⟩ hys
    rw [List.range_succ, List.map_append, List.map_append]
    exact IntsAre.snoc hys
  · intro i ys _ h; cases h
  · obtain ⟨D, o, rfl, _, ho, ys, nn, rfl, hy⟩ := r
    rw [mk_length] at hy
    exact ⟨D, ys, nn, rfl, ho, hy⟩
  · exfalso
    simp at hb'
  · exact x_nil (k s₂.gens _ ps₂ qs₂ _ s₁₀ lm mvs mn c hb₂ (M₆.grow S₁₀) ((((N.up (by decide) (by decide) (by decide) (by decide)).up (by decide) (by decide) (by decide) (by decide)).up (by decide) (by decide) (by decide) (by decide)).up (by decide) (by decide) (by decide) (by decide)) rfl hmv hc hc')
end
end Mine
end

section
open PySem PySem.W PyProof.Rows
namespace Mine
theorem TabIn.noL {g g' : Heap} {led led' : Led} {pos : Pos} {q : Str} {ps : Array Value} (x : TabIn g led pos q ps) (k : Kp g g') (hl : ∀ p ∈ led, p ∈ led' ∨ ∃ vs n, p.2 = lst vs n) : TabIn g' led' pos q ps :=
  ⟨x.1, fun cv e => by
    obtain ⟨c, o, vs, t, e₁, g₁, d₁, r₁⟩ := x.2 cv e
    refine ⟨c, o, vs, t, e₁, ?_, d₁, r₁⟩
    rcases g₁ with g₁ | g₁
    · exact .inl (k _ _ g₁)
    · rcases hl _ g₁ with h | ⟨vs', n, h⟩
      · exact .inr h
      · have h : o = lst vs' n := h
        subst h; cases d₁⟩
section
variable {w : World} {A : Around} {s s' : Shared} {Q : Flow → Shared → Prop} {E : Value → Shared → Prop} {G G' : Array GenState} {O : OsState × Drawn} {g : Heap} {L tb lcl lm : Addr} {m cm m' cm' : Str → Option Value} {tvs mvs : List Value} {tn mn : Nat} {tns mks : List Int} {ps qs : Array Value} {ex ex' : Led} {wh : Int} {ring wide even last start md f : Nat}
theorem turn_4 (T : Tp w g) (hh : A.handled = none) (hd : A.depth + 690 < recursionLimit) (M : Mid w L g G O m cm tb tvs tn ps qs ((lm, lst mvs mn) :: ex) s) (N : Nms m cm lcl tb wh ring wide even last)
    (hlm : m "marks" = some (.ref lm)) (hmv : IntsAre mvs mks) (htv : IntsAre tvs tns) (hts : tns.Pairwise (· ≤ ·)) (hlen : tns.length + mks.length ≤ 10000)
    (k : ∀ m' tvs' tn' tns' s', St G O g (le w L) (csL w L) m' cm [(tb, lst tvs' tn'), (37, tabObj ps), (44, tabObj qs)] s' → TabOk s'.heap pos1 q1 ps → TabOk s'.heap pos2 q2 qs → Nms m' cm lcl tb wh ring wide even last → IntsAre tvs' tns' → tns'.Pairwise (· ≤ ·) → tns'.Perm (mks ++ tns) → Q .next s') :
    wpAny (model pr w) A (execs ((turnL w).drop 8) (le w L)) Q E s := by
  have S := M.st
  have S₁ := S.sub (led' := (tb, lst tvs tn) :: (37, tabObj ps) :: (44, tabObj qs) :: ex) (.cons_cons _ (.cons_cons _ (.cons_cons _ (.cons _ (List.Sublist.refl _)))))
  have hme : (lm, lst mvs mn) ∈ ((tb, lst tvs tn) :: (37, tabObj ps) :: (44, tabObj qs) :: (lm, lst mvs mn) :: ex) := .tail _ (.tail _ (.tail _ (.head _)))
  have hml := S.own _ hme
  have off : lm ∉ owns (le w L) (csL w L) ((tb, lst tvs tn) :: (37, tabObj ps) :: (44, tabObj qs) :: ex) := fun hb => by
    rcases List.mem_cons.mp hb with q | hb
    · exact hml.2.2.1 q
    · rcases List.mem_append.mp hb with hb | hb
      · obtain ⟨⟨n, c⟩, hc, q⟩ := List.mem_map.mp hb
        exact hml.2.2.2 n c hc q.symm
      · have nd := (perm3 (x := (lm, lst mvs mn)) (a := (tb, lst tvs tn)) (b := (37, tabObj ps)) (c := (44, tabObj qs)) (ex := ex)).symm.map (·.1)
        have := nd.nodup_iff.mp S.nd
        rw [List.map_cons, List.nodup_cons] at this
        exact this.1 hb
  have kg := S₁.frzKp
  have S₂ := S₁.rebase
  have hom := frz_get (led := (tb, lst tvs tn) :: (37, tabObj ps) :: (44, tabObj qs) :: ex) (env := le w L) (cs := csL w L) hml.1 off
  have i1 := M.i1.noL (led' := (37, tabObj ps) :: (44, tabObj qs) :: ex) kg fun p hp => by
    rcases List.mem_cons.mp hp with rfl | hp
    · exact .inr ⟨_, _, rfl⟩
    · rcases List.mem_cons.mp hp with rfl | hp
      · exact .inl (.head _)
      · rcases List.mem_cons.mp hp with rfl | hp
        · exact .inl (.tail _ (.head _))
        · rcases List.mem_cons.mp hp with rfl | hp
          · exact .inr ⟨_, _, rfl⟩
          · exact .inl (.tail _ (.tail _ hp))
  have i2 := M.i2.noL (led' := (37, tabObj ps) :: (44, tabObj qs) :: ex) kg fun p hp => by
    rcases List.mem_cons.mp hp with rfl | hp
    · exact .inr ⟨_, _, rfl⟩
    · rcases List.mem_cons.mp hp with rfl | hp
      · exact .inl (.head _)
      · rcases List.mem_cons.mp hp with rfl | hp
        · exact .inl (.tail _ (.head _))
        · rcases List.mem_cons.mp hp with rfl | hp
          · exact .inr ⟨_, _, rfl⟩
          · exact .inl (.tail _ (.tail _ hp))
  have T₂ := T.up kg
  generalize frz s.heap (le w L) (csL w L) ((tb, lst tvs tn) :: (37, tabObj ps) :: (44, tabObj qs) :: ex) = g₂ at *
  refine x_cons (x_forS (R₁ := Is (.ref lm)) (n := mks.length) (P := fun i v _ => ∃ y t, mks[i]? = some y ∧ v = .int y t) (fun j G' m' cm' led' => G' = G ∧ cm' = cm ∧ Nms m' cm lcl tb wh ring wide even last ∧ ∃ tvs' tn' tns', led' = (tb, lst tvs' tn') :: (37, tabObj ps) :: (44, tabObj qs) :: ex ∧ IntsAre tvs' tns' ∧ tns'.Pairwise (· ≤ ·) ∧ tns'.Perm (mks.take j ++ tns)) S₂ (.name (S₂.loc hlm))
    (fun v h' kk e => ⟨g₂, S₂.keep.trans kk, fun b hb => ?_, e ▸ Src.ints hh hom hmv⟩) ⟨rfl, rfl, N, tvs, tn, tns, rfl, htv, hts, List.Perm.refl _⟩ ?_ ?_)
  · cases q : g₂.get? b with
    | none => rfl
    | some o => exact absurd hb (S₂.offBase q)
  · rintro j v G' m' cm' led' g' s₃ hj ⟨y, t, hy, rfl⟩ ⟨rfl, rfl, N', tvs', tn', tns', rfl, hv', hs', hp'⟩ kg' S₃
    refine S₃.asg fun s₄ S₄ => hold fun Q₁ q₁ => ?_
    have T₄ := (T₂.up kg').up S₄.keep
    have hlen' : tns'.length ≤ 100000 := by
      rw [hp'.length_eq, List.length_append, List.length_take]; lia
    refine x_cons (wpAny_Expr_any (callF_of (.glob T₄ g_insort) (T₄.k 72 _ rfl) rfl (.args2 (P₁ := fun v => v = .ref tb) (P₂ := fun v => v = .int y t) (.name (S₄.loc N'.table)) (.name (S₄.loc rfl))) fun us h' tk kk r => ?_))
    obtain ⟨_, _, rfl, rfl, rfl⟩ := r
    have S₅ := S₄.grow kk tk
    have gtb : g'.get? tb = none := (S₅.own _ (.head _)).2.1
    refine insort_call ((T₂.up kg').up fun b o e => hideAll_get _ (S₅.keep _ _ e) fun q => by rw [List.mem_singleton.mp q, gtb] at e; cases e) (by lia) (S₅.mem 0 rfl) hv' hs' hlen' fun s₆ vs₆ n₆ ns₆ h₆ hv₆ hs₆ hp₆ k₆ g₆ o₆ => ?_
    have S₆ := S₅.upd1 0 rfl k₆ h₆ (g₆.trans S₅.gens) o₆
    refine x_nil (q₁ _ _ ⟨_, _, _, _, ⟨rfl, rfl, N'.up (by decide) (by decide) (by decide) (by decide), vs₆, n₆, ns₆, rfl, hv₆, hs₆, ?_⟩, S₆⟩)
    rw [take_snoc hy]
    refine hp₆.trans ((hp'.cons y).trans ?_)
    rw [List.append_assoc]
    exact List.perm_middle.symm
  · rintro G' m' cm' led' s₇ ⟨rfl, rfl, N', tvs', tn', tns', rfl, hv', hs', hp'⟩ S₇
    rw [List.take_length] at hp'
    have j1 := (i1.up (led' := (tb, lst tvs' tn') :: (37, tabObj ps) :: (44, tabObj qs) :: ex) Kp.rfl fun p hp => .inl (.tail _ hp)).ok S₇
    have j2 := (i2.up (led' := (tb, lst tvs' tn') :: (37, tabObj ps) :: (44, tabObj qs) :: ex) Kp.rfl fun p hp => .inl (.tail _ hp)).ok S₇
    exact x_nil (k m' tvs' tn' tns' s₇ ((S₇.low kg).sub (.cons_cons _ (.cons_cons _ (.cons_cons _ (List.nil_sublist _))))) j1 j2 N' hv' hs' hp')
end
end Mine
end

section
open PySem PySem.W PyProof.Rows
namespace Mine
section
variable {w : World} {A : Around} {s s' : Shared} {Q : Flow → Shared → Prop} {E : Value → Shared → Prop} {G G' : Array GenState} {O : OsState × Drawn} {g : Heap} {L tb lcl lm : Addr} {m cm m' cm' : Str → Option Value} {tvs mvs : List Value} {tn mn : Nat} {tns mks : List Int} {ps qs : Array Value} {ex ex' : Led} {wh : Int} {ring wide even last start md f : Nat} {cls : List (Nat × Nat)}
theorem tabEmpty {h : Heap} {pos : Pos} {q : Str} : TabOk h pos q #[] := ⟨trivial, fun cv e => by cases e⟩
theorem law_3 (T : Tp w g) (c1 : CodeHd g 41 37) (c2 : CodeHd g 48 44) (hh : A.handled = none) (hd : A.depth + 690 < recursionLimit) (hu : A.units < cLine) (hfr : A.frames = some [le w L]) (hb : AllBare G)
    (S : St G O g (le w L) (csL w L) m cm [(tb, lst [] 0), (37, tabObj #[]), (44, tabObj #[])] s) (P : Prs g lcl (cls.map cvt)) (good : Good cls) (hw1 : -45 ≤ wh) (hw2 : wh ≤ 35) (N : Nms m cm lcl tb wh ring wide even last) (hl1 : 1 ≤ last) (hl : last ≤ 72)
    (k : ∀ G' m' tvs tn tns ps qs s', AllBare G' → St G' O g (le w L) (csL w L) m' cm [(tb, lst tvs tn), (37, tabObj ps), (44, tabObj qs)] s' → Nms m' cm lcl tb wh ring wide even last → IntsAre tvs tns → Tab wh last cls tns → wpAny (model pr w) A (execs ((bodyL w).drop 8) (le w L)) Q E s') :
    wpAny (model pr w) A (execs ((bodyL w).drop 7) (le w L)) Q E s := by
  refine x_cons (x_forPairs (fun i G m cm' led h => AllBare G ∧ cm' = cm ∧ Nms m cm lcl tb wh ring wide even last ∧ ∃ tvs tn tns ps qs, led = [(tb, lst tvs tn), (37, tabObj ps), (44, tabObj qs)] ∧ TabOk h pos1 q1 ps ∧ TabOk h pos2 q2 qs ∧ IntsAre tvs tns ∧ Tab wh last (cls.take i) tns) S hh (.name (S.cel N.classes)) P
    ⟨hb, rfl, N, [], 0, [], #[], #[], rfl, tabEmpty, tabEmpty, .nil, Tab.nil⟩ ?_ ?_ ?_)
  · rintro i G m cm' led h h' I ⟨hb, rfl, N, tvs, tn, tns, ps, qs, rfl, o1, o2, hv, ht⟩ hI kk
    exact ⟨hb, rfl, N, tvs, tn, tns, ps, qs, rfl, o1.but hI kk, o2.but hI kk, hv, ht⟩
  · rintro i Tt q t u G₁ m₁ cm₁ led₁ g' s₁ hi hq ht ⟨hb₁, rfl, N₁, tvs, tn, tns, ps, qs, rfl, o1, o2, hv, htab⟩ kg S₁ hf
    rw [List.length_map] at hi
    rw [List.getElem?_map, List.getElem?_eq_getElem hi] at hq
    cases hq
    have hci : cls[i]? = some (cls[i].1, cls[i].2) := List.getElem?_eq_getElem hi
    have hmem : (cls[i].1, cls[i].2) ∈ cls := List.mem_of_getElem? hci
    generalize hs₀ : cls[i].1 = start at *
    generalize hm₀ : cls[i].2 = md at *
    obtain ⟨hlen, ⟨R, hR72, hR432, hmods⟩, hst, hsm⟩ := id good
    have hmd1 : 1 ≤ md := (hmods _ hmem).1
    have hmd : md ≤ 27 := hsm _ hmem
    have hst' : start ≤ 1000 := hst _ hmem
    have T₁ := T.up kg
    have d1 := c1.keeps kg
    have d2 := c2.keeps kg
    have j1 := o1.innS S₁ hf
    have j2 := o2.innS S₁ hf
    refine a_tup2 hh ht fun h₂ k₂ => ?_
    refine (S₁.grow k₂ s₁.toks).asg fun s₃ S₃ => S₃.asg fun s₄ S₄ => ?_
    have M₄ : Mid w L g' G₁ O _ cm₁ tb tvs tn ps qs [] s₄ := ⟨S₄, j1, j2⟩
    refine turn_1 (start := start) (md := md) T₁ d1 d2 hh hd M₄ ((N₁.up (by decide) (by decide) (by decide) (by decide)).up (by decide) (by decide) (by decide) (by decide)) ⟨t, by show some (Value.int ((cls[i].1 : Nat) : Int) t) = _; rw [hs₀]⟩ ⟨u, by show some (Value.int ((cls[i].2 : Nat) : Int) u) = _; rw [hm₀]⟩ hmd1 (by lia) hst' hw1 hw2 fun m₅ ps₅ qs₅ ex₅ s₅ f M₅ N₅ hm₅ hf₅ hfe hfm => ?_
    refine turn_2 T₁ hh hd hu hfr hb₁ M₅ N₅ hm₅ hf₅ hmd1 (by lia) hfm fun G₆ m₆ ex₆ s₆ hb₆ M₆ N₆ hm₆ hf₆ => ?_
    refine turn_3 T₁ d1 d2 hh hd hb₆ M₆ N₆ hm₆ hf₆ hmd1 hmd hfm hl1 hl fun G₇ m₇ ps₇ qs₇ ex₇ s₇ lm mvs mn c hb₇ M₇ N₇ hlm hmv hc hc' => ?_
    have hlens : tns.length + (mk (f + 1) md c).length ≤ 10000 := by
      have h1 := htab.len
      rw [List.length_take] at h1
      have h2 : min i cls.length * last ≤ 8 * 72 := Nat.mul_le_mul (by lia) hl
      have h3 := mk_le hmd1 hc'
      rw [mk_length]; lia
    refine turn_4 T₁ hh hd M₇ N₇ hlm hmv hv htab.sorted hlens fun m₈ tvs₈ tn₈ tns₈ s₈ S₈ p1 p2 N₈ hv₈ hs₈ hp₈ => ?_
    refine ⟨G₇, m₈, cm₁, _, ⟨hb₇, rfl, N₈, tvs₈, tn₈, tns₈, ps₇, qs₇, rfl, p1, p2, hv₈, ?_⟩, S₈⟩
    rw [take_snoc hci]
    exact htab.snoc hmd1 hfe hfm hc hc' hs₈ hp₈
  · rintro G₁ m₁ cm₁ led₁ s₁ ⟨hb₁, rfl, N₁, tvs, tn, tns, ps, qs, rfl, o1, o2, hv, htab⟩ S₁
    rw [List.length_map, List.take_length] at htab
    exact k G₁ m₁ tvs tn tns ps qs s₁ hb₁ S₁ N₁ hv htab
end
end Mine
end

section
open PySem PySem.W PyProof.Rows
namespace Mine
def fc (wh : Int) (cls : List (Nat × Nat)) (k : Nat) : Nat := (cls.filter (hit wh k)).length
structure Beh (tns : List Int) (i b : Nat) : Prop where
  le : b ≤ tns.length
  lo : ∀ j y, j < b → tns[j]? = some y → y ≤ (i : Int)
  hi : ∀ j y, b ≤ j → tns[j]? = some y → (i : Int) < y
theorem Beh.step {tns : List Int} {i b k : Nat} {x : Int} (B : Beh tns i b) (hx : x = (i : Int) + 1) (h : BisOk tns x b k) : tns.count ((i + 1 : Nat) : Int) = k - b ∧ Beh tns (i + 1) k := by
  obtain ⟨h1, h2, h3, h4⟩ := h
  refine ⟨?_, h2, fun j y hj hy => ?_, fun j y hj hy => ?_⟩
  · have e : tns = tns.take b ++ ((tns.drop b).take (k - b) ++ tns.drop k) := by
      conv => lhs; rw [← List.take_append_drop b tns]
      congr 1
      conv => lhs; rw [← List.take_append_drop (k - b) (tns.drop b)]
      congr 1
      rw [List.drop_drop]; congr 1; lia
    rw [e, List.count_append, List.count_append]
    have c1 : (tns.take b).count ((i + 1 : Nat) : Int) = 0 := List.count_eq_zero_of_not_mem fun hm => by
      obtain ⟨j, hj⟩ := List.mem_iff_getElem?.mp hm
      rw [List.getElem?_take] at hj
      split at hj
      · have := B.lo j _ (by assumption) hj; lia
      · cases hj
    have c3 : (tns.drop k).count ((i + 1 : Nat) : Int) = 0 := List.count_eq_zero_of_not_mem fun hm => by
      obtain ⟨j, hj⟩ := List.mem_iff_getElem?.mp hm
      rw [List.getElem?_drop] at hj
      have := h4 (k + j) (by lia) _ hj
      lia
    have c2 : ((tns.drop b).take (k - b)).count ((i + 1 : Nat) : Int) = k - b := by
      have hl : ((tns.drop b).take (k - b)).length = k - b := by rw [List.length_take, List.length_drop]; lia
      conv => rhs; rw [← hl]
      refine List.count_eq_length.mpr fun y hm => ?_
      obtain ⟨j, hj⟩ := List.mem_iff_getElem?.mp hm
      rw [List.getElem?_take] at hj
      split at hj
      · rw [List.getElem?_drop] at hj
        have a1 := h3 (b + j) (by lia) (by lia) y hj
        have a2 := B.hi (b + j) y (by lia) hj
        lia
      · cases hj
    rw [c1, c2, c3]; lia
  · by_cases hb : j < b
    · have := B.lo j y hb hy; lia
    · have := h3 j (by lia) hj y hy; lia
  · have := h4 j hj y hy; lia
section
variable {w : World} {A : Around} {s s' : Shared} {Q : Flow → Shared → Prop} {E : Value → Shared → Prop} {G G' : Array GenState} {O : OsState × Drawn} {g : Heap} {L tb lcl lm : Addr} {m cm m' cm' : Str → Option Value} {tvs mvs : List Value} {tn mn : Nat} {tns mks : List Int} {ps qs : Array Value} {ex ex' : Led} {wh : Int} {ring wide even last start md f : Nat} {cls : List (Nat × Nat)}
theorem law_4 (T : Tp w g) (hh : A.handled = none) (hd : A.depth + 690 < recursionLimit) (S : St G O g (le w L) (csL w L) m cm [(tb, lst tvs tn), (37, tabObj ps), (44, tabObj qs)] s) (N : Nms m cm lcl tb wh ring wide even last) (hv : IntsAre tvs tns) (ht : Tab wh last cls tns) (hc8 : cls.length ≤ 8) (hl : last ≤ 72)
    (k : ∀ m' cm' cl cvs cn s', St G O g (le w L) (csL w L) m' cm' [(cl, lst cvs cn), (tb, lst tvs tn), (37, tabObj ps), (44, tabObj qs)] s' → Nms m' cm' lcl tb wh ring wide even last → cm' "counts" = some (.ref cl) → IntsAre cvs (((List.range last).map (fc wh cls)).map Int.ofNat) → wpAny (model pr w) A (execs ((bodyL w).drop 11) (le w L)) Q E s') :
    wpAny (model pr w) A (execs ((bodyL w).drop 8) (le w L)) Q E s := by
  obtain ⟨t₀, hlast⟩ := N.last
  refine x_cons (x_setCN S .lst0 fun cl o s₁ s₂ ho' k₂ S₂ => ?_)
  subst ho'
  refine x_cons (x_setI S₂ .cint fun t₃ s₃ S₃ => ?_)
  have T₃ := T.up S₃.keep
  have e : ((last : Int) + 1 - 1).toNat = last := by lia
  have hlen : tns.length ≤ 1000000 := by
    have := ht.len
    have h2 : cls.length * last ≤ 8 * 72 := Nat.mul_le_mul hc8 hl
    lia
  refine x_cons (x_forR (a := 1) (b := (last : Int) + 1) (fun i G' m' cm' led' => G' = G ∧ Nms m' cm' lcl tb wh ring wide even last ∧ cm' "counts" = some (.ref cl) ∧ ∃ (bh : Nat) (t : Tok) (cvs : List Value) (cn : Nat), m' "behind" = some (.int (bh : Int) t) ∧ led' = [(cl, lst cvs cn), (tb, lst tvs tn), (37, tabObj ps), (44, tabObj qs)] ∧ IntsAre cvs (((List.range i).map (fc wh cls)).map Int.ofNat) ∧ Beh tns i bh) S₃ hh
    (.range2 T₃ .cint (.addI (.nameI (S₃.cel hlast)) .cint)) (by decide) (by decide) (by lia) (by lia)
    ⟨rfl, ⟨N.ring, N.wide, N.even, N.table, N.last, N.where_, N.classes⟩, rfl, 0, t₃, [], 0, rfl, rfl, .nil, ⟨Nat.zero_le _, fun j y hj => by lia, fun j y _ hy => by have := (ht.rng y (List.mem_of_getElem? hy)).1; show ((0 : Nat) : Int) < y; lia⟩⟩ ?_ ?_)
  · rintro i t G' m' cm' led' g' s₄ hi ⟨rfl, N', hcc, bh, tb', cvs, cn, hbh, rfl, hcv, hB⟩ kg S₄
    rw [e] at hi
    refine S₄.asg fun s₅ S₅ => hold fun Q₁ q₁ => ?_
    have T₅ := (T.up kg).up S₅.keep
    refine x_cons (x_set (R := fun v _ => ∃ (k : Nat) (t : Tok), v = .int k t ∧ BisOk tns (1 + (i : Int)) bh k) S₅ (.callF (.glob T₅ g_bisect) (T₅.k 81 _ rfl) rfl (.args3 (P₁ := fun v => v = .ref tb) (P₂ := fun v => v = .int (1 + (i : Int)) t) (P₃ := fun v => v = .int (bh : Int) tb') (.name (S₅.loc N'.table)) (.name (S₅.loc rfl)) (.name (S₅.loc hbh))) fun us h' kk r => ?_) fun v s₆ s₇ r k₆ S₇ => ?_)
    · obtain ⟨_, _, _, rfl, rfl, rfl, rfl⟩ := r
      exact bisect_pv3 (T₅.up kk) (by lia) (kk _ _ (S₅.mem 1 rfl)) hv ht.sorted hlen hB.le
    obtain ⟨kx, tk, rfl, hbis⟩ := r
    obtain ⟨hcnt, hB'⟩ := hB.step (by lia) hbis
    have hbk := hbis.1
    rw [ht.cnt (i + 1) (by lia) (by lia)] at hcnt
    refine x_cons (x_append (i := 0) S₇ (S₇.cel hcc) rfl (.castI (b := ((fc wh cls i : Nat) : Int)) (.subI (.nameI (S₇.loc rfl)) (.nameI (S₇.loc hbh))) (by
      have : fc wh cls i = kx - bh := hcnt
      lia)) (by have := hcv.length; simp at this; show cvs.length ≤ _; lia) fun v s₈ s₉ r k₉ S₉ => ?_)
    obtain ⟨tv, rfl⟩ := r
    refine x_cons (x_set S₉ (.name (S₉.loc rfl)) fun v s₁₀ s₁₁ r k₁₁ S₁₁ => ?_)
    obtain rfl := r
    refine x_nil (q₁ _ _ ⟨_, _, _, _, ⟨rfl, ((N'.up (by decide) (by decide) (by decide) (by decide)).up (by decide) (by decide) (by decide) (by decide)).up (by decide) (by decide) (by decide) (by decide), hcc, kx, tk, _, _, rfl, rfl, ?_, hB'⟩, S₁₁⟩)
    rw [List.range_succ, List.map_append, List.map_append]
    exact IntsAre.snoc hcv
  · rintro G' m' cm' led' s₁₂ ⟨rfl, N', hcc, bh, tb', cvs, cn, hbh, rfl, hcv, hB⟩ S₁₂
    rw [e] at hcv
    exact k m' cm' cl cvs cn s₁₂ S₁₂ N' hcc hcv
end
end Mine
end

section
open PySem PySem.W PyProof.Rows
namespace Mine
section
variable {prog : Program} {w : World} {A : Around} {E : Value → Shared → Prop} {G G' : Array GenState} {O : OsState × Drawn} {g g' h h₁ : Heap} {env cenv : Env} {cs : List (Str × Addr)} {m cm : Str → Option Value} {led led' : Led} {s s' : Shared}
/-- e[a:b], e a list of ints -/
theorem Pv.sliceE {value : Expr} {lower upper : Option Expr} {p pos : Pos} {ns : List Int} {lo hi : Option Int} (pv : Pv prog w A h (eval value env) (fun v h' => ∃ l vs n, v = .ref l ∧ h'.get? l = some (lst vs n) ∧ IntsAre vs ns)) (pl : ∀ h', Kp h h' → Pv prog w A h' (evalPart lower env) (Part lo)) (pu : ∀ h', Kp h h' → Pv prog w A h' (evalPart upper env) (Part hi)) (hz : ns.length ≤ 1000000)
    (hs : ∀ l i, subscripted (.Slice lower upper none p) false (.ref l) (.ref i) = operate [.ref i, .ref l] (getItem (.ref l) (.ref i)) := by intro _ _; with_unfolding_all rfl) :
    Pv prog w A h (eval (.Subscript value (.Slice lower upper none p) pos) env) (NewL h fun ys => IntsAre ys (pickNums ns lo hi none)) := by
  intro s Q E ks q
  refine Subscript_ (pv s _ E ks fun v h₁ tk₁ k₁ r₁ => ?_)
  obtain ⟨l, vs, n, rfl, ho, hv⟩ := r₁
  refine wpAny_Slice (pl _ (ks.trans k₁) _ _ E Kp.rfl fun v₂ h₂ tk₂ k₂ r₂ => pu _ ((ks.trans k₁).trans k₂) _ _ E Kp.rfl fun v₃ h₃ tk₃ k₃ r₃ => wpAny_pure (M := model prog w) (A := A) ?_)
  have hl := isList_lst ((k₂.trans k₃) _ _ ho)
  refine tail_any (Heap.IsList.typeIs (s := { s with heap := h₃.push { cls := .type "slice", data := .fields #[v₂, v₃, .none] }, toks := tk₃ }) (hl.push _)) list_getitem_lookup ?_ (hs _ _)
  refine wpAny_getItem_list_slice (hl.push _) (Heap.IsSliceOf.new ..) r₂ r₃ .none (by simp) ?_ (by rw [List.size_toArray, sizeLine_eq, hv.length]; lia)
  refine q _ _ _ (((k₁.trans k₂).trans k₃).trans ((Kp.push _ _).trans (Kp.push _ _))) ⟨_, _, rfl, fresh_of (((ks.trans k₁).trans (k₂.trans k₃)).trans (Kp.push _ _)), Heap.get?_push_size _ rfl, _, 0, rfl, hv.pick lo hi none⟩
theorem ints_inj {vs : List Value} {ns ms : List Int} (h : IntsAre vs ns) (h' : IntsAre vs ms) : ns = ms := by
  induction h generalizing ms with
  | nil => cases h'; rfl
  | cons n t h ih =>
    cases h' with
    | cons _ _ h' => rw [ih h']
theorem pick_upto {vs : List Value} {ns : List Int} {y : Int} (hv : IntsAre vs ns) (h0 : 0 ≤ y) (h1 : y ≤ ns.length) : pickNums ns none (some y) none = ns.take y.toNat :=
  ints_inj (hv.pick none (some y) none) (slice_ints_upto hv h0 h1)
theorem pick_one {vs : List Value} {ns : List Int} (hv : IntsAre vs ns) : pickNums ns none (some 1) none = ns.take 1 := by
  cases ns with
  | nil =>
    have := length_pickNums_le hv none (some 1) none
    rw [List.length_nil] at this
    rw [List.length_eq_zero_iff.mp (Nat.le_zero.mp this)]; rfl
  | cons x xs => exact pick_upto hv (by decide) (by simp; lia)
end
end Mine
end

section
open PySem PySem.W PyProof.Rows
namespace Mine
section
variable {w : World} {A : Around} {s s' : Shared} {Q : Flow → Shared → Prop} {E : Value → Shared → Prop} {G G' : Array GenState} {O : OsState × Drawn} {g : Heap} {L tb lcl lm cl : Addr} {m cm m' cm' : Str → Option Value} {led : Led} {wh : Int} {ring wide even last start md f : Nat} {cls : List (Nat × Nat)}
theorem law_5 (T : Tp w g) (hh : A.handled = none) (S : St G O g (le w L) (csL w L) m cm led s) (P : Prs g lcl (cls.map cvt)) (good : Good cls) (N : Nms m cm lcl tb wh ring wide even last) (hr : ring ≤ 1000)
    (k : ∀ cm' wl wvs wn s', St G O g (le w L) (csL w L) m cm' ((wl, lst wvs wn) :: led) s' → (∀ x : Str, x ≠ "whole" → cm' x = cm x) → cm' "whole" = some (.ref wl) → IntsAre wvs (((List.range ring).map (fc wh cls)).map Int.ofNat) → wpAny (model pr w) A (execs ((bodyL w).drop 12) (le w L)) Q E s') :
    wpAny (model pr w) A (execs ((bodyL w).drop 11) (le w L)) Q E s := by
  obtain ⟨t₁, hring⟩ := N.ring
  obtain ⟨t₂, hwh⟩ := N.where_
  have T₀ := T.up S.keep
  have P₀ := P.up S.keep
  have cC := S.cellV (x := "classes") N.classes
  have cW := S.cellV (x := "where") hwh
  obtain ⟨hlen, ⟨R, hR72, hR432, hmods⟩, hst, hsm⟩ := id good
  refine x_cons (x_setCN S (Pv.compK (n := ring) (P := fun i v => ∃ t, v = .int (i : Nat) t) (fun _ => true) (fun i y => ∃ t, y = .int ((fc wh cls i : Nat) : Int) t) (fun i ys => IntsAre ys (((List.range i).map (fc wh cls)).map Int.ofNat))
    (.range1 T₀ (.nameI (S.loc hring))) (fun v h' kk r => Src.range0 (by exact hh) r (by lia)) (by lia) (fun _ _ _ _ _ _ _ _ _ => .tests0) ?_ .nil ?_ ?_) fun wl o s₁ s₂ ho' k₂ S₂ => ?_)
  · rintro i v C h₁ hi ⟨t, rfl⟩ - k₁ rd ck
    have ck' := ck _ rfl
    have T₁ := T₀.up k₁
    refine .lenE (N := fc wh cls i) T₁ ((Pv.comp2 (ps := cls.map cvt) (fun j => match cls[j]? with | some p => hit wh i p | none => false) (fun _ _ => True) (fun j ys => ys.length = ((cls.take j).filter (hit wh i)).length) hh (R₁ := Is (.ref lcl)) (.name (.cel (cC.keeps k₁) rfl)) (fun v h' kk e => ⟨lcl, e, (P₀.up k₁).up kk⟩) (by rw [List.length_map]; lia) (by decide) ?_
      (fun _ _ _ _ _ _ _ _ _ _ _ => Pv.cint.mono fun _ _ _ _ => trivial) rfl ?_ ?_).mono fun v h' kk r => ?_) (Nat.le_trans (List.length_filter_le ..) (by lia))
    · rintro j q t₃ t₄ C' h₂ hq k₂ rx ry
      rw [List.getElem?_map] at hq
      cases hc : cls[j]? with
      | none => rw [hc] at hq; cases hq
      | some p =>
        rw [hc] at hq
        cases hq
        have hmd := (hmods p (List.mem_of_getElem? hc)).1
        have e : hit wh i p = (((wh + (i : Int)) - (p.1 : Int)).fmod (p.2 : Int) == 0) := by
          unfold hit
          rw [Int.fmod_eq_emod_of_nonneg _ (Int.natCast_nonneg _)]
        refine Pv.mono ?_ (fun b _ _ (hb : b = _) => hb.trans e.symm)
        exact .tests1 (.teq (.modI (.subI (.addI (.nameI (.cel ((cW.keeps k₁).keeps k₂) rfl)) (.nameI (.cel (ck'.keeps k₂) rfl))) (.nameI rx)) (.nameI ry) (by show ((p.2 : Nat) : Int) ≠ 0; lia)) .cint)
    · intro j ys y hj hb _ hys
      rw [List.length_map] at hj
      have hc : cls[j]? = some cls[j] := List.getElem?_eq_getElem hj
      rw [hc] at hb
      rw [take_snoc hc, List.filter_append, List.length_append, List.length_append, hys]
      simp [hb]
    · intro j ys hj hb hys
      rw [List.length_map] at hj
      have hc : cls[j]? = some cls[j] := List.getElem?_eq_getElem hj
      rw [hc] at hb
      rw [take_snoc hc, List.filter_append, List.length_append, hys]
      simp [hb]
    · obtain ⟨l, o, rfl, _, ho, ys, n', rfl, hy⟩ := r
      rw [List.length_map, List.take_length] at hy
      exact ⟨l, ys, n', rfl, ho, hy⟩
  · rintro i ys y hi - ⟨t, rfl⟩ hys
    rw [List.range_succ, List.map_append, List.map_append]
    exact IntsAre.snoc hys
  · intro i ys _ h; cases h
  · obtain ⟨wvs, wn, rfl, hw⟩ := ho'
    exact k _ wl wvs wn s₂ S₂ (fun x hx => up_ne hx) (up_self) hw
end
end Mine
end

section
open PySem PySem.W PyProof.Rows
namespace Mine
abbrev nl (F : Nat → Nat) (n : Nat) : List Int := ((List.range n).map F).map Int.ofNat
abbrev zl (F : Nat → Nat) (n : Nat) : List Int := ((List.range n).filter fun k => F k == 0).map Int.ofNat
theorem ints_of : ∀ ns : List Int, IntsAre (ns.map fun x => .int x 0) ns
  | [] => .nil
  | x :: xs => .cons x 0 (ints_of xs)
theorem nl_at {F : Nat → Nat} {n k : Nat} (h : k < n) : (nl F n)[k]? = some (F k : Int) := by
  rw [List.getElem?_map, List.getElem?_map, List.getElem?_range h]; rfl
theorem nl_take {F : Nat → Nat} {n k : Nat} (h : k ≤ n) : (nl F n).take k = nl F k := by
  rw [← List.map_take, ← List.map_take, List.take_range, Nat.min_eq_left h]
theorem nl_rep {F : Nat → Nat} {n : Nat} : nl F n = List.replicate n (F 0 : Int) ↔ ∀ k, k < n → F k = F 0 := by
  constructor
  · intro h k hk
    have h1 := nl_at (F := F) hk
    rw [h, List.getElem?_replicate, if_pos hk] at h1
    exact Int.ofNat_inj.mp (Option.some.inj h1).symm
  · intro h
    apply List.ext_getElem?
    intro k
    by_cases hk : k < n
    · rw [nl_at hk, List.getElem?_replicate, if_pos hk, h k hk]
    · rw [List.getElem?_eq_none (by simp; lia), List.getElem?_eq_none (by simp; lia)]
theorem zl_succ {F : Nat → Nat} {n : Nat} : zl F (n + 1) = if F n == 0 then zl F n ++ [(n : Int)] else zl F n := by
  unfold zl
  rw [List.range_succ, List.filter_append, List.map_append]
  by_cases h : F n == 0
  · rw [if_pos h]; simp [h]
  · rw [if_neg h]; simp [h]
section
variable {w : World} {A : Around} {s s' : Shared} {Q : Flow → Shared → Prop} {E : Value → Shared → Prop} {G G' : Array GenState} {O : OsState × Drawn} {g : Heap} {L tb lcl lm cl wl : Addr} {m cm m' cm' : Str → Option Value} {led : Led} {wh : Int} {ring wide even last start md f : Nat} {cls : List (Nat × Nat)} {cvs wvs : List Value} {cn wn : Nat} {F : Nat → Nat}
theorem law_6 (T : Tp w g) (hh : A.handled = none) (hu : A.units < cLine) (S : St G O g (le w L) (csL w L) m cm led s) (N : Nms m cm lcl tb wh ring wide even last) (hcc : cm "counts" = some (.ref cl)) (hwc : cm "whole" = some (.ref wl)) (hcl : (cl, lst cvs cn) ∈ led) (hwl : (wl, lst wvs wn) ∈ led)
    (hcv : IntsAre cvs (nl F last)) (hwv : IntsAre wvs (nl F ring)) (h1 : 1 ≤ last) (hl : last ≤ 1000) (hwl' : wide ≤ last) (hel : even ≤ last) (hr1 : 1 ≤ ring) (hr : ring ≤ 1000)
    (pb : ((List.range wide).filter fun k => F k == 0).take 1 = ((List.range ring).filter fun k => F k == 0).take 1) (pe : (∀ k, k < even → F k = F 0) ↔ ∀ k, k < ring → F k = F 0)
    (k : ∀ m' led' s', St G O g (le w L) (csL w L) m' cm led' s' → (∀ p ∈ led, p ∈ led') → Q (.ret (.bool true)) s') :
    wpAny (model pr w) A (execs ((bodyL w).drop 12) (le w L)) Q E s := by
  obtain ⟨t₁, hring⟩ := N.ring
  obtain ⟨t₂, hwide⟩ := N.wide
  obtain ⟨t₃, heven⟩ := N.even
  have T₀ := T.up S.keep
  have oC := (S.own _ hcl).1
  have cC := S.cellV (x := "counts") hcc
  refine x_cons (x_setComp (n := wide) (P := fun i v _ => ∃ t, v = .int (i : Nat) t) (fun i ys led => led = [] ∧ IntsAre ys (zl F i)) S (.range1 T₀ (.nameI (S.loc hwide))) (fun v h' kk r => Src.range0 hh r (by lia)) (by lia) ⟨rfl, .nil⟩ ?_ fun D ys nn led' s₁ hJ S₁ => ?_)
  · rintro G O C D i v ys nn m cm led g' s₁ hi ⟨t, rfl⟩ ⟨rfl, hy⟩ kg S₁
    refine S₁.asg fun s₂ S₂ => ?_
    have k₂ := kg.trans S₂.keep
    refine S₂.pv (.tests1 (.teq (.itemI (y := (F i : Int)) (.name (.cel (cC.keeps k₂) rfl)) (.nameI (S₂.loc rfl)) (k₂ _ _ oC) hcv (by lia) (by lia) (by rw [Int.toNat_natCast]; exact nl_at (by lia))) .cint)) fun ok s₃ r k₃ S₃ => ?_
    obtain rfl := r
    have e : ((F i : Int) == 0) = (F i == 0) := (natZero _).symm
    rw [e]
    cases hb : (F i == 0) with
    | false => exact ⟨_, _, [], ⟨rfl, by rw [zl_succ, hb]; exact hy⟩, S₃⟩
    | true =>
      rw [if_pos rfl]
      refine S₃.pv (.nameI (S₃.loc rfl)) fun y s₄ r k₄ S₄ => ?_
      obtain ⟨t', rfl⟩ := r
      exact ⟨_, _, [], ⟨rfl, by rw [zl_succ, hb]; exact IntsAre.snoc hy⟩, S₄⟩
  obtain ⟨rfl, hy⟩ := hJ
  have T₁ := T.up S₁.keep
  have oB := S₁.mem 0 rfl
  have oW := (S₁.own _ (.tail _ hwl)).1
  have oC₁ := (S₁.own _ (.tail _ hcl)).1
  have cW := S₁.cellV (x := "whole") hwc
  have zlen : ∀ n, (zl F n).length ≤ n := fun n => by
    rw [List.length_map]
    exact Nat.le_trans (List.length_filter_le ..) (by rw [List.length_range]; exact Nat.le_refl _)
  refine x_cons (x_if (b := decide ((zl F wide).take 1 ≠ (zl F ring).take 1)) S₁ (Pv.tcmp (R₁ := fun v h' => ∃ l ws n, v = .ref l ∧ h'.get? l = some (lst ws n) ∧ IntsAre ws ((zl F wide).take 1)) (R₂ := fun v₁ v₂ h' => (∃ l ws n, v₁ = .ref l ∧ h'.get? l = some (lst ws n) ∧ IntsAre ws ((zl F wide).take 1)) ∧ ∃ l ws n, v₂ = .ref l ∧ h'.get? l = some (lst ws n) ∧ IntsAre ws ((zl F ring).take 1))
    ((Pv.sliceE (ns := zl F wide) (fun s Q E ks q => Pv.name (S₁.loc rfl) (by decide) s Q E ks fun v h' tk kk e => q v h' tk kk ⟨D, ys, nn, e, (ks.trans kk) _ _ oB, hy⟩) (fun _ _ => .part0) (fun _ _ => .partI .cint) (Nat.le_trans (zlen _) (by lia))).mono fun v h' kk r => ?_) (fun v h' kk r => ?_) (fun v₁ v₂ h' kk r => ?_)) (fun hb _ _ _ => ?_) fun _ s₂ k₂ S₂ => ?_)
  · obtain ⟨l, o, rfl, _, ho, ws, n, rfl, hw⟩ := r
    rw [pick_one hy] at hw
    exact ⟨l, ws, n, rfl, ho, hw⟩
  · have cW' := cW.keeps kk
    have oW' := kk _ _ oW
    refine (Pv.sliceE (ns := zl F ring) ((Pv.compN (n := ring) (P := fun i v => ∃ t, v = .int (i : Nat) t) (fun i => F i == 0) (fun i y => ∃ t, y = .int (i : Nat) t) (fun i ys => IntsAre ys (zl F i)) (.range1 (T₁.up kk) (.nameI ((S₁.loc (x := "ring") hring).up kk))) (fun v h' kk r => Src.range0 (by exact hh) r (by lia)) (by lia) ?_ ?_ .nil ?_ ?_).mono fun v₂ h₂ kk₂ r₂ => ?_) (fun _ _ => .part0) (fun _ _ => .partI .cint) (Nat.le_trans (zlen _) (by lia))).mono fun v₂ h₂ kk₂ r₂ => ?_
    · rintro i v C h₁ hi ⟨t, rfl⟩ k₁ rd
      have e : (F i == 0) = ((F i : Int) == 0) := natZero _
      rw [e]
      exact .tests1 (.teq (.itemI (y := (F i : Int)) (.name (.cel (cW'.keeps k₁) rfl)) (.nameI rd) (k₁ _ _ oW') hwv (by lia) (by lia) (by rw [Int.toNat_natCast]; exact nl_at hi)) .cint)
    · rintro i v C h₁ hi ⟨t, rfl⟩ _ k₁ rd
      exact .nameI rd
    · rintro i ys y hi hb ⟨t, rfl⟩ hys
      rw [zl_succ, if_pos hb]
      exact IntsAre.snoc hys
    · intro i ys hi hb hys
      have hb : (F i == 0) = false := hb
      rw [zl_succ, hb]
      exact hys
    · obtain ⟨l, o, rfl, _, ho, ws, n, rfl, hw⟩ := r₂
      exact ⟨l, ws, n, rfl, ho, hw⟩
    · obtain ⟨l, o, rfl, _, ho, ws, n, rfl, hw⟩ := r₂
      obtain ⟨l₁, ws₁, n₁, rfl, ho₁, hw₁⟩ := r
      rw [pick_one (ints_of _)] at hw
      exact ⟨⟨l₁, ws₁, n₁, rfl, kk₂ _ _ ho₁, hw₁⟩, l, ws, n, rfl, ho, hw⟩
  · obtain ⟨⟨l, ws, n, rfl, ho, hw⟩, l₂, ws₂, n₂, rfl, ho₂, hw₂⟩ := r
    exact neL_pv hu ho ho₂ hw hw₂
  · exfalso
    have := of_decide_eq_true hb
    refine this ?_
    rw [← List.map_take, ← List.map_take, pb]
  -- the answer
  have T₂ := T.up S₂.keep
  have oC₂ := (S₂.own _ (.tail _ hcl)).1
  have oW₂ := (S₂.own _ (.tail _ hwl)).1
  have rdC := S₂.cel (x := "counts") hcc
  have rdW := S₂.cel (x := "whole") hwc
  have rdE := S₂.loc (x := "even") heven
  have rdR := S₂.loc (x := "ring") hring
  have eab : (decide (nl F even = List.replicate even (F 0 : Int)) == decide (nl F ring = List.replicate ring (F 0 : Int))) = true := by
    rw [beq_iff_eq]
    exact decide_eq_decide.mpr (nl_rep.trans (pe.trans nl_rep.symm))
  refine x_nil (x_cons (x_ret (R := Bo true) S₂ (Pv.cmp (R₁ := Bo (decide (nl F even = List.replicate even (F 0 : Int)))) (R₂ := fun v₁ v₂ _ => v₁ = .bool (decide (nl F even = List.replicate even (F 0 : Int))) ∧ v₂ = .bool (decide (nl F ring = List.replicate ring (F 0 : Int))))
    (Pv.cmp (R₁ := fun v h' => ∃ l ws n, v = .ref l ∧ h'.get? l = some (lst ws n) ∧ IntsAre ws (nl F even)) (R₂ := fun v₁ v₂ h' => (∃ l ws n, v₁ = .ref l ∧ h'.get? l = some (lst ws n) ∧ IntsAre ws (nl F even)) ∧ ∃ l ws n, v₂ = .ref l ∧ h'.get? l = some (lst ws n) ∧ IntsAre ws (List.replicate even (F 0 : Int)))
      ((Pv.sliceE (ns := nl F last) (hi := some (even : Int)) (fun s Q E ks q => Pv.name rdC (by decide) s Q E ks fun v h' tk kk e => q v h' tk kk ⟨cl, cvs, cn, e, (ks.trans kk) _ _ oC₂, hcv⟩) (fun _ _ => .part0) (fun h' kk => .partI (.nameI (rdE.up kk))) (by simp; lia)).mono fun v h' kk r => ?_) (fun v h' kk r => (Pv.rep (P := fun v => ∃ t, v = .int (F 0 : Int) t) (k := (even : Int)) (.itemI (y := (F 0 : Int)) (.name (rdC.up kk)) .cint (kk _ _ oC₂) hcv (by decide) (by decide) (nl_at h1)) (.nameI (rdE.up kk)) (by lia) (by lia)).mono fun v₂ h₂ kk₂ r₂ => ?_) (fun v₁ v₂ h' kk r => ?_))
    (fun v h' kk r => (Pv.cmp (R₁ := fun v h' => ∃ l ws n, v = .ref l ∧ h'.get? l = some (lst ws n) ∧ IntsAre ws (nl F ring)) (R₂ := fun v₁ v₂ h' => (∃ l ws n, v₁ = .ref l ∧ h'.get? l = some (lst ws n) ∧ IntsAre ws (nl F ring)) ∧ ∃ l ws n, v₂ = .ref l ∧ h'.get? l = some (lst ws n) ∧ IntsAre ws (List.replicate ring (F 0 : Int)))
      ((Pv.name (rdW.up kk)).mono fun v h' kk' r => ?_) (fun v h'' kk' r => (Pv.rep (P := fun v => ∃ t, v = .int (F 0 : Int) t) (k := (ring : Int)) (.itemI (y := (F 0 : Int)) (.name (rdW.up (kk.trans kk'))) .cint ((kk.trans kk') _ _ oW₂) hwv (by decide) (by decide) (nl_at hr1)) (.nameI (rdR.up (kk.trans kk'))) (by lia) (by lia)).mono fun v₂ h₂ kk₂ r₂ => ?_) (fun v₁ v₂ h'' kk' r => ?_)).mono fun v₂ h₂ kk₂ r₂ => ⟨r, r₂⟩) (fun v₁ v₂ h' kk r => ?_)) fun v s₃ r k₃ S₃ => ?_))
  · obtain ⟨l, o, rfl, _, ho, ws, n, rfl, hw⟩ := r
    rw [pick_upto (ints_of _) (by lia) (by simp; lia), Int.toNat_natCast, nl_take hel] at hw
    exact ⟨l, ws, n, rfl, ho, hw⟩
  · obtain ⟨l, o, rfl, _, ho, v, ⟨t, rfl⟩, rfl⟩ := r₂
    obtain ⟨l₁, ws₁, n₁, rfl, ho₁, hw₁⟩ := r
    rw [Int.toNat_natCast] at ho
    exact ⟨⟨l₁, ws₁, n₁, rfl, kk₂ _ _ ho₁, hw₁⟩, l, _, 0, rfl, ho, ints_rep _⟩
  · obtain ⟨⟨l, ws, n, rfl, ho, hw⟩, l₂, ws₂, n₂, rfl, ho₂, hw₂⟩ := r
    exact eqL_pv hu ho ho₂ hw hw₂
  · obtain rfl := r
    exact ⟨wl, wvs, wn, rfl, (kk.trans kk') _ _ oW₂, hwv⟩
  · obtain ⟨l, o, rfl, _, ho, v, ⟨t, rfl⟩, rfl⟩ := r₂
    obtain ⟨l₁, ws₁, n₁, rfl, ho₁, hw₁⟩ := r
    rw [Int.toNat_natCast] at ho
    exact ⟨⟨l₁, ws₁, n₁, rfl, kk₂ _ _ ho₁, hw₁⟩, l, _, 0, rfl, ho, ints_rep _⟩
  · obtain ⟨⟨l, ws, n, rfl, ho, hw⟩, l₂, ws₂, n₂, rfl, ho₂, hw₂⟩ := r
    exact eqL_pv hu ho ho₂ hw hw₂
  · obtain ⟨rfl, rfl⟩ := r
    exact fun s Q E ks q => eq_bool (q _ s.heap s.toks Kp.rfl (by show Value.bool _ = .bool true; rw [eab]))
  · obtain rfl := r
    exact k _ _ s₃ S₃ fun p hp => .tail _ hp
end
end Mine
end

section
namespace Mine
/-! whole numbers by 433 -/
abbrev D (x : Int) : Prop := (433 : Int) ∣ x
theorem D.add {a b : Int} (x : D a) (y : D b) : D (a + b) := Int.dvd_add x y
theorem D.sub {a b : Int} (x : D a) (y : D b) : D (a - b) := Int.dvd_sub x y
theorem D.mulL {a b : Int} (x : D a) : D (b * a) := Int.dvd_mul_of_dvd_right x
theorem D.mulR {a b : Int} (x : D a) : D (a * b) := Int.dvd_mul_of_dvd_left x
theorem D.zero : D 0 := Int.dvd_zero _
theorem D.eq {a b : Int} (x : D a) (e : a = b) : D b := e ▸ x
theorem prime433 : ∀ d : Nat, d < 434 → d ∣ 433 → d = 1 ∨ d = 433 := by decide +kernel
theorem D.prime {a b : Int} (h : D (a * b)) : D a ∨ D b := by
  by_cases ha : D a
  · exact .inl ha
  refine .inr ?_
  have h' : 433 ∣ a.natAbs * b.natAbs := by
    rw [← Int.natAbs_mul]; exact Int.natAbs_dvd_natAbs.mpr h
  have ha' : ¬ 433 ∣ a.natAbs := fun q => ha (Int.natAbs_dvd_natAbs.mp q)
  have hc : Nat.Coprime 433 a.natAbs := by
    have hd := Nat.gcd_dvd_left 433 a.natAbs
    rcases prime433 _ (Nat.lt_succ_of_le (Nat.le_of_dvd (by decide) hd)) hd with e | e
    · exact e
    · exact absurd (e ▸ Nat.gcd_dvd_right 433 a.natAbs) ha'
  exact Int.natAbs_dvd_natAbs.mp (hc.dvd_of_dvd_mul_left h')
theorem ord_small : ∀ e : Nat, e < 432 → 5 ^ e % 433 = 1 → e = 0 := by decide +kernel
theorem ord_full : 5 ^ 432 % 433 = 1 := by decide +kernel
theorem pow_mod (e : Nat) : 5 ^ e % 433 = 5 ^ (e % 432) % 433 := by
  conv => lhs; rw [← Nat.div_add_mod e 432, Nat.pow_add, Nat.pow_mul]
  rw [Nat.mul_mod, Nat.pow_mod, ord_full]
  simp
theorem ord (e : Nat) : D ((5 : Int) ^ e - 1) ↔ 432 ∣ e := by
  have key : D ((5 : Int) ^ e - 1) ↔ 5 ^ e % 433 = 1 := by
    have e1 : ((5 : Int) ^ e) = ((5 ^ e : Nat) : Int) := by rw [Int.natCast_pow]; rfl
    rw [e1]
    have h1 : 1 ≤ 5 ^ e := Nat.pow_pos (by decide)
    generalize 5 ^ e = z at *
    unfold D
    omega
  rw [key, pow_mod]
  constructor
  · intro h
    exact Nat.dvd_of_mod_eq_zero (ord_small _ (Nat.mod_lt _ (by decide)) h)
  · intro h
    rw [Nat.mod_eq_zero_of_dvd h]
/-- equal exponents by 432 -/
theorem pow_same {a b : Nat} (h : a % 432 = b % 432) : D ((5 : Int) ^ a - (5 : Int) ^ b) := by
  have e : ∀ e : Nat, ((5 : Int) ^ e) = ((5 ^ e : Nat) : Int) := fun e => by rw [Int.natCast_pow]; rfl
  rw [e, e]
  have h1 := pow_mod a
  have h2 := pow_mod b
  rw [h] at h1
  generalize 5 ^ a = x at *
  generalize 5 ^ b = y at *
  unfold D
  lia
/-- the operators (next - z) for all z turn h into what 433 divides -/
def Kill : List Int → (Nat → Int) → Prop
  | [], h => ∀ k, D (h k)
  | z :: zs, h => Kill zs fun k => h (k + 1) - z * h k
theorem Kill.eq {zs : List Int} {h h' : Nat → Int} (x : Kill zs h) (e : ∀ k, h k = h' k) : Kill zs h' := (funext e : h = h') ▸ x
theorem onward : ∀ (zs : List Int) (h : Nat → Int), Kill zs h → (∀ i, i < zs.length → D (h i)) → ∀ k, D (h k)
  | [], h, x, _ => x
  | z :: zs, h, x, h0 => by
    have g := onward zs _ x fun i hi => (h0 (i + 1) (by simp; omega)).sub ((h0 i (by simp; omega)).mulL)
    intro k
    induction k with
    | zero => exact h0 0 (by simp)
    | succ k ih => exact ((g k).add (ih.mulL (b := z))).eq (by lia)
theorem Kill.zero : ∀ (zs : List Int) {h : Nat → Int}, (∀ k, D (h k)) → Kill zs h
  | [], _, x => x
  | z :: zs, h, x => Kill.zero zs fun k => (x (k + 1)).sub (x k).mulL
theorem Kill.add : ∀ (zs : List Int) {h h' : Nat → Int}, Kill zs h → Kill zs h' → Kill zs fun k => h k + h' k
  | [], _, _, x, y => fun k => (x k).add (y k)
  | z :: zs, h, h', x, y => by
    have := Kill.add zs (h := fun k => h (k + 1) - z * h k) (h' := fun k => h' (k + 1) - z * h' k) x y
    show Kill zs fun k => (h (k + 1) + h' (k + 1)) - z * (h k + h' k)
    exact this.eq fun k => by rw [Int.mul_add]; lia
theorem Kill.exp : ∀ (zs : List Int) {y : Int}, (∃ z ∈ zs, D (y - z)) → ∀ c, Kill zs fun k => c * y ^ k
  | [], _, ⟨_, hz, _⟩, _ => by cases hz
  | z :: zs, y, ⟨z', hz', hd⟩, c => by
    have e : ∀ k : Nat, c * y ^ (k + 1) - z * (c * y ^ k) = (c * (y - z)) * y ^ k := fun k => by
      rw [Int.pow_succ, Int.mul_sub, Int.sub_mul, Int.mul_assoc c y (y ^ k), Int.mul_comm y (y ^ k), Int.mul_assoc c z (y ^ k), Int.mul_left_comm z c]
    show Kill zs fun k => c * y ^ (k + 1) - z * (c * y ^ k)
    by_cases h : D (y - z)
    · exact Kill.eq (Kill.zero zs fun k => ((h.mulL (b := c)).mulR (b := y ^ k))) fun k => (e k).symm
    · rcases List.mem_cons.mp hz' with rfl | hz''
      · exact absurd hd h
      · exact Kill.eq (Kill.exp zs ⟨z', hz'', hd⟩ _) fun k => (e k).symm
/-- a sum of exponentials -/
def ev (E : List (Int × Nat)) (k : Nat) : Int := (E.map fun p => p.1 * ((5 : Int) ^ p.2) ^ k).sum
theorem ev_nil (k : Nat) : ev [] k = 0 := rfl
theorem ev_cons (p : Int × Nat) (E : List (Int × Nat)) (k : Nat) : ev (p :: E) k = p.1 * ((5 : Int) ^ p.2) ^ k + ev E k := by simp [ev]
theorem ev_append (E E' : List (Int × Nat)) (k : Nat) : ev (E ++ E') k = ev E k + ev E' k := by simp [ev]
theorem Kill.ev {zs : List Int} : ∀ (E : List (Int × Nat)), (∀ p ∈ E, ∃ z ∈ zs, D ((5 : Int) ^ p.2 - z)) → Kill zs (Mine.ev E)
  | [], _ => Kill.zero zs fun k => D.zero
  | p :: E, h => Kill.eq (Kill.add zs (Kill.exp zs (h p (.head _)) p.1) (Kill.ev E fun q hq => h q (.tail _ hq))) fun k => (ev_cons p E k).symm
theorem Kill.mod {zs : List Int} {h h' : Nat → Int} (x : Kill zs h') (e : ∀ k, D (h k - h' k)) : Kill zs h :=
  Kill.eq (Kill.add zs x (Kill.zero zs e)) fun k => by lia
/-- times (1 - e 5^(u (k + b))) -/
theorem ev_mul (E : List (Int × Nat)) (u b k : Nat) : ev (E ++ E.map fun p => (-(p.1 * (5 : Int) ^ (u * b)), p.2 + u)) k = ev E k * (1 - (5 : Int) ^ (u * (k + b))) := by
  have key : ev (E.map fun p => (-(p.1 * (5 : Int) ^ (u * b)), p.2 + u)) k = -(ev E k * (5 : Int) ^ (u * (k + b))) := by
    induction E with
    | nil => simp [ev]
    | cons p E ih =>
      rw [List.map_cons, ev_cons, ev_cons, ih, Int.add_mul, Int.neg_add]
      congr 1
      show -(p.1 * (5 : Int) ^ (u * b)) * ((5 : Int) ^ (p.2 + u)) ^ k = _
      rw [Int.neg_mul]
      congr 1
      rw [← Int.pow_mul, ← Int.pow_mul, Int.mul_assoc, Int.mul_assoc, ← Int.pow_add, ← Int.pow_add]
      congr 2
      rw [Nat.add_mul, Nat.mul_add]; lia
  rw [ev_append, key, Int.mul_sub, Int.mul_one]; lia
end Mine
end

section
namespace Mine
def off (wh : Int) (p : Nat × Nat) : Nat := ((wh - (p.1 : Int)) % (p.2 : Int)).toNat
theorem hit_iff {wh : Int} {p : Nat × Nat} (hp : 1 ≤ p.2) (k : Nat) : hit wh k p = true ↔ p.2 ∣ k + off wh p := by
  unfold hit off
  rw [beq_iff_eq]
  have h0 : 0 ≤ (wh - (p.1 : Int)) % (p.2 : Int) := Int.emod_nonneg _ (by lia)
  have e : (wh + (k : Int) - (p.1 : Int)) % (p.2 : Int) = ((wh - (p.1 : Int)) % (p.2 : Int) + (k : Int)) % (p.2 : Int) := by
    rw [Int.emod_add_emod]; congr 1; lia
  rw [e]
  obtain ⟨b, hb⟩ := Int.eq_ofNat_of_zero_le h0
  rw [hb, Int.toNat_natCast, ← Int.natCast_add, Nat.dvd_iff_mod_eq_zero, Nat.add_comm]
  exact_mod_cast Iff.rfl
theorem div_chain {n ring : Nat} (hn : 1 ≤ n) (hr : n ∣ ring) (hr0 : 0 < ring) (hR : ring ∣ 432) : 432 / n = (432 / ring) * (ring / n) := by
  obtain ⟨a, rfl⟩ := hr
  obtain ⟨v, hv⟩ := hR
  rw [hv, Nat.mul_div_cancel_left _ hr0, Nat.mul_div_cancel_left _ hn, Nat.mul_assoc, Nat.mul_div_cancel_left _ hn, Nat.mul_comm]
def prodf (wh : Int) : List (Nat × Nat) → Nat → Int
  | [], _ => 1
  | p :: ps, k => (1 - (5 : Int) ^ ((432 / p.2) * (k + off wh p))) * prodf wh ps k
theorem prodf_iff {wh : Int} {k : Nat} : ∀ {ps : List (Nat × Nat)}, (∀ p ∈ ps, 1 ≤ p.2 ∧ p.2 ∣ 432) → (D (prodf wh ps k) ↔ ∃ p ∈ ps, hit wh k p = true)
  | [], _ => ⟨fun h => absurd h (by show ¬ D 1; decide), fun ⟨_, h, _⟩ => by cases h⟩
  | p :: ps, h => by
    obtain ⟨h1, h2⟩ := h p (.head _)
    have ih := prodf_iff (wh := wh) (k := k) (ps := ps) fun q hq => h q (.tail _ hq)
    have hp : D (1 - (5 : Int) ^ ((432 / p.2) * (k + off wh p))) ↔ hit wh k p = true := by
      have e1 : D (1 - (5 : Int) ^ ((432 / p.2) * (k + off wh p))) ↔ D ((5 : Int) ^ ((432 / p.2) * (k + off wh p)) - 1) :=
        ⟨fun x => (D.zero.sub x).eq (by lia), fun x => (D.zero.sub x).eq (by lia)⟩
      rw [e1, ord, hit_iff h1]
      obtain ⟨u, hu⟩ := h2
      have hu0 : 0 < u := by
        rcases Nat.eq_zero_or_pos u with e | e
        · rw [e] at hu; simp at hu
        · exact e
      rw [hu, Nat.mul_div_cancel_left _ h1, Nat.mul_comm p.2 u]
      exact ⟨fun x => Nat.dvd_of_mul_dvd_mul_left hu0 x, fun x => Nat.mul_dvd_mul_left u x⟩
    show D ((1 - (5 : Int) ^ ((432 / p.2) * (k + off wh p))) * prodf wh ps k) ↔ _
    constructor
    · intro x
      rcases x.prime with x | x
      · exact ⟨p, .head _, hp.mp x⟩
      · obtain ⟨q, hq, hh⟩ := ih.mp x
        exact ⟨q, .tail _ hq, hh⟩
    · rintro ⟨q, hq, hh⟩
      rcases List.mem_cons.mp hq with rfl | hq
      · exact (hp.mpr hh).mulR
      · exact (ih.mpr ⟨q, hq, hh⟩).mulL
theorem cov_inv {ring : Nat} {wh : Int} (hr : 0 < ring) (hR : ring ∣ 432) : ∀ (ps : List (Nat × Nat)), (∀ p ∈ ps, 1 ≤ p.2 ∧ p.2 ∣ ring) → ∀ (f : Nat → Bool) (E : List (Int × Nat)), (∀ q ∈ E, ∃ τ, q.2 = (432 / ring) * τ ∧ f (τ % ring) = true) →
    ∃ E', (∀ q ∈ E', ∃ τ, q.2 = (432 / ring) * τ ∧ ((ps.map (·.2)).foldl (sumStep ring) f) (τ % ring) = true) ∧ ∀ k, ev E' k = ev E k * prodf wh ps k
  | [], _, f, E, h => ⟨E, h, fun k => by simp [prodf]⟩
  | p :: ps, hps, f, E, h => by
    obtain ⟨h1, h2⟩ := hps p (.head _)
    have hle : ring / p.2 ≤ ring := Nat.div_le_self ..
    obtain ⟨E', hE, hv⟩ := cov_inv hr hR ps (fun q hq => hps q (.tail _ hq)) (sumStep ring f p.2) (E ++ E.map fun q => (-(q.1 * (5 : Int) ^ ((432 / p.2) * off wh p)), q.2 + 432 / p.2)) (fun q hq => by
      rcases List.mem_append.mp hq with hq | hq
      · obtain ⟨τ, e, hf⟩ := h q hq
        exact ⟨τ, e, by unfold sumStep; rw [hf]; rfl⟩
      · obtain ⟨q', hq', rfl⟩ := List.mem_map.mp hq
        obtain ⟨τ, e, hf⟩ := h q' hq'
        refine ⟨τ + ring / p.2, ?_, ?_⟩
        · show q'.2 + 432 / p.2 = _
          rw [e, div_chain h1 h2 hr hR, Nat.mul_add]
        · unfold sumStep
          have : ((τ + ring / p.2) % ring + (ring - ring / p.2)) % ring = τ % ring := by
            rw [Nat.mod_add_mod]
            have : τ + ring / p.2 + (ring - ring / p.2) = τ + ring := by lia
            rw [this, Nat.add_mod_right]
          rw [this, hf, Bool.or_true])
    refine ⟨E', hE, fun k => ?_⟩
    rw [hv k, ev_mul, Int.mul_assoc]; rfl
/-- the stretch tells all (Crittenden and Vanden Eynden, Sun) -/
theorem cover {cls : List (Nat × Nat)} {ring : Nat} {wh : Int} (hr : 0 < ring) (hR : ring ∣ 432) (hps : ∀ p ∈ cls, 1 ≤ p.2 ∧ p.2 ∣ ring) (h : ∀ k, k < wideOf ring (cls.map (·.2)) → ∃ p ∈ cls, hit wh k p = true) (k : Nat) : ∃ p ∈ cls, hit wh k p = true := by
  have hps' : ∀ p ∈ cls, 1 ≤ p.2 ∧ p.2 ∣ 432 := fun p hp => ⟨(hps p hp).1, Nat.dvd_trans (hps p hp).2 hR⟩
  obtain ⟨E, hE, hv⟩ := cov_inv (wh := wh) hr hR cls hps (fun k => k == 0) [(1, 0)] (fun q hq => by
    rcases List.mem_singleton.mp hq with rfl
    exact ⟨0, by simp, by simp⟩)
  have hv1 : ∀ k, ev [(1, 0)] k = 1 := fun k => by simp only [ev, List.map_cons, List.map_nil, List.sum_cons, List.sum_nil, Int.pow_zero, Int.one_pow]; rfl
  let zs : List Int := ((List.range ring).filter (sumsOf ring (cls.map (·.2)))).map fun s => (5 : Int) ^ ((432 / ring) * s)
  have hz : zs.length = wideOf ring (cls.map (·.2)) := by simp [zs, wideOf]
  have kill : Kill zs (ev E) := Kill.ev E fun q hq => by
    obtain ⟨τ, e, hf⟩ := hE q hq
    refine ⟨(5 : Int) ^ ((432 / ring) * (τ % ring)), List.mem_map.mpr ⟨τ % ring, List.mem_filter.mpr ⟨List.mem_range.mpr (Nat.mod_lt _ hr), hf⟩, rfl⟩, ?_⟩
    rw [e]
    refine pow_same ?_
    obtain ⟨v, hv⟩ := hR
    rw [show 432 / ring = v by rw [hv, Nat.mul_div_cancel_left _ hr]]
    have : (432 : Nat) = v * ring := by rw [Nat.mul_comm]; exact hv
    rw [this, Nat.mul_mod_mul_left, Nat.mul_mod_mul_left, Nat.mod_mod]
  have all := onward zs (ev E) kill fun i hi => by
    rw [hz] at hi
    rw [hv i, hv1, Int.one_mul]
    exact (prodf_iff hps').mpr (h i hi)
  have := all k
  rw [hv k, hv1, Int.one_mul] at this
  exact (prodf_iff hps').mp this
end Mine
end

section
namespace Mine
theorem geo (z : Int) : ∀ n : Nat, ((List.range n).map fun r => z ^ r).sum * (z - 1) = z ^ n - 1
  | 0 => by simp
  | n + 1 => by
    rw [List.range_succ, List.map_append, List.sum_append, List.map_singleton, List.sum_singleton, Int.add_mul, geo z n, Int.pow_succ, Int.mul_sub, Int.mul_one]; lia
theorem D.pow1 {z : Int} (h : D (z - 1)) : ∀ n : Nat, D (z ^ n - 1)
  | 0 => D.zero.eq (by simp)
  | n + 1 => (((D.pow1 h n).mulR (b := z)).add h).eq (by rw [Int.pow_succ, Int.sub_mul, Int.one_mul]; lia)
theorem geo_one {z : Int} (h : D (z - 1)) : ∀ n : Nat, D (((List.range n).map fun r => z ^ r).sum - (n : Int))
  | 0 => D.zero.eq (by simp)
  | n + 1 => ((geo_one h n).add (h.pow1 n)).eq (by rw [List.range_succ, List.map_append, List.sum_append, List.map_singleton, List.sum_singleton]; lia)
def one (wh : Int) (p : Nat × Nat) : List (Int × Nat) := (List.range p.2).map fun r => (((432 / p.2 : Nat) : Int) * (5 : Int) ^ ((432 / p.2) * r * off wh p), (432 / p.2) * r)
theorem ev_one {wh : Int} {p : Nat × Nat} (k : Nat) : ev (one wh p) k = ((432 / p.2 : Nat) : Int) * ((List.range p.2).map fun r => ((5 : Int) ^ ((432 / p.2) * (k + off wh p))) ^ r).sum := by
  unfold one
  generalize 432 / p.2 = u
  generalize off wh p = b
  generalize List.range p.2 = l
  induction l with
  | nil => simp [ev]
  | cons r l ih =>
    rw [List.map_cons, List.map_cons, List.sum_cons, ev_cons, ih, Int.mul_add]
    congr 1
    show ((u : Nat) : Int) * (5 : Int) ^ (u * r * b) * ((5 : Int) ^ (u * r)) ^ k = _
    rw [Int.mul_assoc, ← Int.pow_mul, ← Int.pow_mul, ← Int.pow_add]
    congr 2
    rw [Nat.mul_assoc, Nat.mul_assoc, ← Nat.mul_add, ← Nat.mul_add, Nat.mul_assoc, Nat.add_comm b k, Nat.mul_comm r]
theorem hit_sum {wh : Int} {p : Nat × Nat} (h1 : 1 ≤ p.2) (h2 : p.2 ∣ 432) (k : Nat) : D (432 * (if hit wh k p = true then 1 else 0) - ev (one wh p) k) := by
  rw [ev_one]
  obtain ⟨u, hu⟩ := h2
  have hu0 : 0 < u := by
    rcases Nat.eq_zero_or_pos u with e | e
    · rw [e] at hu; simp at hu
    · exact e
  have hdiv : 432 / p.2 = u := by rw [hu, Nat.mul_div_cancel_left _ h1]
  rw [hdiv]
  have hz : D ((5 : Int) ^ (u * (k + off wh p)) - 1) ↔ hit wh k p = true := by
    rw [ord, hit_iff h1]
    constructor
    · intro x; rw [hu, Nat.mul_comm p.2 u] at x; exact Nat.dvd_of_mul_dvd_mul_left hu0 x
    · intro x; rw [hu, Nat.mul_comm p.2 u]; exact Nat.mul_dvd_mul_left u x
  by_cases hh : hit wh k p = true
  · rw [if_pos hh]
    have hg := geo_one (hz.mpr hh) p.2
    generalize ((List.range p.2).map fun r => ((5 : Int) ^ (u * (k + off wh p))) ^ r).sum = S at *
    have e : (432 : Int) = (u : Int) * (p.2 : Int) := by
      have : ((432 : Nat) : Int) = ((p.2 * u : Nat) : Int) := congrArg _ hu
      rw [Int.natCast_mul, Int.mul_comm] at this
      exact this
    refine (D.zero.sub (hg.mulL (b := (u : Int)))).eq ?_
    rw [Int.mul_sub, ← e]; lia
  · rw [if_neg hh]
    have hg := geo ((5 : Int) ^ (u * (k + off wh p))) p.2
    have hp : D (((5 : Int) ^ (u * (k + off wh p))) ^ p.2 - 1) := by
      rw [← Int.pow_mul, ord]
      refine ⟨k + off wh p, ?_⟩
      conv => rhs; rw [hu]
      rw [Nat.mul_comm p.2 u, Nat.mul_assoc, Nat.mul_assoc, Nat.mul_comm p.2]
    rw [← hg] at hp
    rcases hp.prime with x | x
    · exact (D.zero.sub (x.mulL (b := (u : Int)))).eq (by lia)
    · exact absurd (hz.mp x) hh
def evens (wh : Int) : List (Nat × Nat) → List (Int × Nat)
  | [] => []
  | p :: ps => one wh p ++ evens wh ps
theorem evens_ok {wh : Int} (k : Nat) : ∀ {ps : List (Nat × Nat)}, (∀ p ∈ ps, 1 ≤ p.2 ∧ p.2 ∣ 432) → D (432 * (((ps.filter (hit wh k)).length : Nat) : Int) - ev (evens wh ps) k)
  | [], _ => D.zero.eq (by simp [evens, ev])
  | p :: ps, h => by
    have x := hit_sum (wh := wh) (h p (.head _)).1 (h p (.head _)).2 k
    have y := evens_ok (wh := wh) k fun q hq => h q (.tail _ hq)
    show D (432 * _ - ev (one wh p ++ evens wh ps) k)
    rw [ev_append]
    refine (x.add y).eq ?_
    rw [List.filter_cons]
    split
    · rw [List.length_cons]; lia
    · lia
theorem evens_nodes {wh : Int} {ring : Nat} (hr : 0 < ring) (hR : ring ∣ 432) : ∀ {ps : List (Nat × Nat)}, (∀ p ∈ ps, 1 ≤ p.2 ∧ p.2 ∣ ring) → ∀ q ∈ evens wh ps, ∃ s, s < ring ∧ q.2 = (432 / ring) * s ∧ ∃ p ∈ ps, s * p.2 % ring = 0
  | [], _, q, hq => by cases hq
  | p :: ps, h, q, hq => by
    obtain ⟨h1, h2⟩ := h p (.head _)
    rcases List.mem_append.mp hq with hq | hq
    · obtain ⟨r, hr', rfl⟩ := List.mem_map.mp hq
      rw [List.mem_range] at hr'
      have hm : ring / p.2 * p.2 = ring := Nat.div_mul_cancel h2
      have hq0 : 0 < ring / p.2 := Nat.div_pos (Nat.le_of_dvd hr h2) h1
      refine ⟨(ring / p.2) * r, ?_, ?_, p, .head _, ?_⟩
      · conv => rhs; rw [← hm]
        exact Nat.mul_lt_mul_of_pos_left hr' hq0
      · show 432 / p.2 * r = _
        rw [div_chain h1 h2 hr hR, Nat.mul_assoc]
      · rw [Nat.mul_right_comm, hm, Nat.mul_mod_right]
    · obtain ⟨s, a, b, p', hp', c⟩ := evens_nodes hr hR (fun q hq => h q (.tail _ hq)) q hq
      exact ⟨s, a, b, p', .tail _ hp', c⟩
/-- a stretch of equal counts tells all -/
theorem same {cls : List (Nat × Nat)} {ring : Nat} {wh : Int} (hr : 0 < ring) (hR : ring ∣ 432) (hps : ∀ p ∈ cls, 1 ≤ p.2 ∧ p.2 ∣ ring) (h8 : cls.length ≤ 8)
    (h : ∀ k, k < evenOf ring (cls.map (·.2)) → (cls.filter (hit wh k)).length = (cls.filter (hit wh 0)).length) (k : Nat) : (cls.filter (hit wh k)).length = (cls.filter (hit wh 0)).length := by
  have hps' : ∀ p ∈ cls, 1 ≤ p.2 ∧ p.2 ∣ 432 := fun p hp => ⟨(hps p hp).1, Nat.dvd_trans (hps p hp).2 hR⟩
  rcases Nat.eq_zero_or_pos cls.length with h0 | h0
  · rw [List.length_eq_zero_iff.mp h0]; rfl
  let zs : List Int := ((List.range ring).filter (evenAt ring (cls.map (·.2)))).map fun s => (5 : Int) ^ ((432 / ring) * s)
  have hz : zs.length = evenOf ring (cls.map (·.2)) := by simp [zs, evenOf]
  have mem : ∀ s, s < ring → (∃ p ∈ cls, s * p.2 % ring = 0) → (5 : Int) ^ ((432 / ring) * s) ∈ zs := fun s hs ⟨p, hp, e⟩ =>
    List.mem_map.mpr ⟨s, List.mem_filter.mpr ⟨List.mem_range.mpr hs, List.any_eq_true.mpr ⟨p.2, List.mem_map_of_mem hp, beq_iff_eq.mpr e⟩⟩, rfl⟩
  have kill : Kill zs (ev (evens wh cls ++ [(-(432 * (((cls.filter (hit wh 0)).length : Nat) : Int)), 0)])) := Kill.ev _ fun q hq => by
    rcases List.mem_append.mp hq with hq | hq
    · obtain ⟨s, a, b, c⟩ := evens_nodes hr hR hps q hq
      exact ⟨_, mem s a c, by rw [b]; exact D.zero.eq (by lia)⟩
    · rcases List.mem_singleton.mp hq with rfl
      exact ⟨_, mem 0 hr ⟨cls[0], List.getElem_mem h0, by simp⟩, D.zero.eq (by simp)⟩
  have kill' : Kill zs fun k => 432 * (((cls.filter (hit wh k)).length : Nat) : Int) - 432 * (((cls.filter (hit wh 0)).length : Nat) : Int) := kill.mod fun k => by
    refine (evens_ok (wh := wh) k hps').eq ?_
    rw [ev_append]
    have : ev [(-(432 * (((cls.filter (hit wh 0)).length : Nat) : Int)), 0)] k = -(432 * (((cls.filter (hit wh 0)).length : Nat) : Int)) := by
      simp only [ev, List.map_cons, List.map_nil, List.sum_cons, List.sum_nil, Int.pow_zero, Int.one_pow]; lia
    rw [this]; lia
  have all := onward zs _ kill' (fun i hi => by
    rw [hz] at hi
    show D (432 * (((cls.filter (hit wh i)).length : Nat) : Int) - 432 * (((cls.filter (hit wh 0)).length : Nat) : Int))
    rw [h i hi]
    exact D.zero.eq (by lia)) k
  have a1 := List.length_filter_le (hit wh k) cls
  have a2 := List.length_filter_le (hit wh 0) cls
  have all' : D (432 * (((cls.filter (hit wh k)).length : Nat) : Int) - 432 * (((cls.filter (hit wh 0)).length : Nat) : Int)) := all
  generalize (cls.filter (hit wh k)).length = x at *
  generalize (cls.filter (hit wh 0)).length = y at *
  unfold D at all'
  omega
end Mine
end

section
open PySem PySem.W PyProof.Rows
namespace Mine
theorem sumsOf_zero (ring : Nat) (ms : List Nat) : sumsOf ring ms 0 = true := by
  have : ∀ (ms : List Nat) (f : Nat → Bool), f 0 = true → ms.foldl (sumStep ring) f 0 = true := by
    intro ms
    induction ms with
    | nil => intro f h; exact h
    | cons m ms ih => intro f h; exact ih _ (by unfold sumStep; rw [h]; rfl)
  exact this ms _ rfl
theorem wide_pos {ring : Nat} {ms : List Nat} (hr : 0 < ring) : 1 ≤ wideOf ring ms := by
  unfold wideOf
  exact List.length_pos_of_mem (List.mem_filter.mpr ⟨List.mem_range.mpr hr, sumsOf_zero ring ms⟩)
theorem wide_le {ring : Nat} {ms : List Nat} : wideOf ring ms ≤ ring := by
  unfold wideOf
  exact Nat.le_trans (List.length_filter_le ..) (by rw [List.length_range]; exact Nat.le_refl _)
theorem even_le {ring : Nat} {ms : List Nat} : evenOf ring ms ≤ ring := by
  unfold evenOf
  exact Nat.le_trans (List.length_filter_le ..) (by rw [List.length_range]; exact Nat.le_refl _)
theorem fc_pos {wh : Int} {cls : List (Nat × Nat)} {k : Nat} : (fc wh cls k == 0) = false ↔ ∃ p ∈ cls, hit wh k p = true := by
  rw [beq_eq_false_iff_ne]
  unfold fc
  constructor
  · intro h
    obtain ⟨p, hp⟩ := List.exists_mem_of_length_pos (Nat.pos_of_ne_zero h)
    exact ⟨p, List.mem_filter.mp hp⟩
  · rintro ⟨p, hp⟩
    exact Nat.ne_of_gt (List.length_pos_of_mem (List.mem_filter.mpr hp))
theorem take1 {P : Nat → Bool} {a b : Nat} (hab : a ≤ b) (h : (∀ k, k < a → P k = false) → ∀ k, P k = false) : ((List.range a).filter P).take 1 = ((List.range b).filter P).take 1 := by
  by_cases hall : ∀ k, k < a → P k = false
  · have e : ∀ n, (List.range n).filter P = [] := fun n => List.filter_eq_nil_iff.mpr fun k _ => by rw [h hall k]; simp
    rw [e, e]
  · obtain ⟨c, rfl⟩ := Nat.exists_eq_add_of_le hab
    rw [List.range_add, List.filter_append]
    cases hf : (List.range a).filter P with
    | nil =>
      exfalso
      refine hall fun k hk => ?_
      have := List.filter_eq_nil_iff.mp hf k (List.mem_range.mpr hk)
      simpa using this
    | cons x xs => simp
structure Pl (wh : Int) (cls : List (Nat × Nat)) (ring wide even last : Nat) : Prop where
  r1 : 1 ≤ ring
  r2 : ring ≤ 72
  l1 : 1 ≤ last
  l2 : last ≤ 72
  wl : wide ≤ last
  el : even ≤ last
  pb : ((List.range wide).filter fun k => fc wh cls k == 0).take 1 = ((List.range ring).filter fun k => fc wh cls k == 0).take 1
  pe : (∀ k, k < even → fc wh cls k = fc wh cls 0) ↔ ∀ k, k < ring → fc wh cls k = fc wh cls 0
theorem plain {wh : Int} {cls : List (Nat × Nat)} {ring wide even last : Nat} (good : Good cls) (K : Kn (cls.map (·.2)) ring wide even last) : Pl wh cls ring wide even last := by
  obtain ⟨hr, hw, he, hl⟩ := K
  obtain ⟨hlen, ⟨R, hR72, hR432, hmods⟩, hst, hsm⟩ := good
  have m1 : ∀ m ∈ cls.map (·.2), 1 ≤ m := fun m hm => by
    obtain ⟨p, hp, rfl⟩ := List.mem_map.mp hm
    exact (hmods p hp).1
  have m2 : ∀ m ∈ cls.map (·.2), m ∣ R := fun m hm => by
    obtain ⟨p, hp, rfl⟩ := List.mem_map.mp hm
    exact (hmods p hp).2
  have r1 : 0 < ring := hr ▸ ringOf_pos m1
  have rR : ring ∣ R := hr ▸ ringOf_dvd m2
  have R0 : 0 < R := Nat.pos_of_ne_zero fun e => by rw [e] at hR432; exact absurd hR432 (by decide)
  have r2 : ring ≤ 72 := Nat.le_trans (Nat.le_of_dvd R0 rR) hR72
  have r432 : ring ∣ 432 := Nat.dvd_trans rR hR432
  have hps : ∀ p ∈ cls, 1 ≤ p.2 ∧ p.2 ∣ ring := fun p hp => ⟨(hmods p hp).1, hr ▸ dvd_ringOf (List.mem_map_of_mem hp)⟩
  have w1 : 1 ≤ wide := hw ▸ wide_pos r1
  have w2 : wide ≤ ring := hw ▸ wide_le
  have e2 : even ≤ ring := he ▸ even_le
  refine ⟨r1, r2, by lia, by lia, by lia, by lia, take1 w2 fun h k => ?_, fun h k _ => ?_, fun h k hk => h k (by lia)⟩
  · exact fc_pos.mpr (cover (wh := wh) r1 r432 hps (fun j hj => fc_pos.mp (h j (by rw [hw]; exact hj))) k)
  · exact same (wh := wh) r1 r432 hps hlen (fun j hj => h j (by rw [he]; exact hj)) k
end Mine
end

section
open PySem PySem.W PyProof.Rows
namespace Mine
theorem law_binds {w : World} {o : Obj} {fd : FuncData} (ho : (KF w).lookup 110 = some o) (hd : o.data = .func fd) {a : Value} : bindArgs fd ⟨[a], []⟩ = pure [(("script" : Str), a)] := by
  cases ho
  cases hd
  rfl
theorem tp_hide {w : World} {h : Heap} (T : Tp w h) : Tp w (hideAll h [37, 44]) := by
  refine ⟨fun a o e => hideAll_get _ (T.k a o e) fun hm => ?_, ?_, ?_⟩
  · simp only [List.mem_cons, List.not_mem_nil, or_false] at hm
    rcases hm with rfl | rfl
    · have : (KF w).lookup 37 = none := rfl
      rw [this] at e; cases e
    · have : (KF w).lookup 44 = none := rfl
      rw [this] at e; cases e
  · obtain ⟨mb, ⟨o, es, ep, ho, r⟩, e⟩ := T.b
    exact ⟨mb, ⟨o, es, ep, hideAll_get _ ho (by decide), r⟩, e⟩
  · obtain ⟨o, a, r⟩ := T.m
    exact ⟨o, hideAll_get _ a (by decide), r⟩
theorem dl (e : Env) : (callerA.deeper e).depth + 690 < recursionLimit := by show callerA.depth + 1 + 690 < recursionLimit; decide
theorem dl40 (e : Env) : (callerA.deeper e).depth + 40 < recursionLimit := Nat.lt_of_le_of_lt (Nat.add_le_add_left (by decide) _) (dl e)
theorem ul (e : Env) : (callerA.deeper e).units < cLine := by show callerA.units + 3 < cLine; decide
theorem law_run {w : World} {s : Shared} {l : Addr} {svs : List Value} {script : List Int} (T : Tp w s.heap) (e37 : s.heap.get? 37 = some (tabObj #[])) (e44 : s.heap.get? 44 = some (tabObj #[])) (hg : s.gens = #[]) (ho : s.heap.IsList l svs.toArray) (hi : IntsAre svs script) (hlen : script.length ≤ 63) :
    wpAny (model pr w) callerA (call (.ref 110) [.ref l] []) (fun v s' => v = .bool true ∧ s'.os = s.os ∧ AllBare s'.gens ∧ (∀ b o, s.heap.get? b = some o → b ∉ [37, 44] → s'.heap.get? b = some o) ∧ ∃ ps qs, s'.heap.get? 37 = some (tabObj ps) ∧ s'.heap.get? 44 = some (tabObj qs)) (fun _ _ => False) s := by
  have TB := tp_hide T
  have c1 : CodeHd (hideAll s.heap [37, 44]) 41 37 := codeHd_of_K TB.k (by kernel_rfl)
  have c2 : CodeHd (hideAll s.heap [37, 44]) 48 44 := codeHd_of_K TB.k (by kernel_rfl)
  refine def_callC [(37, tabObj #[]), (44, tabObj #[])] (by
    intro p hp
    simp only [List.mem_cons, List.not_mem_nil, or_false] at hp
    rcases hp with rfl | rfl
    · exact e37
    · exact e44) (by simp) TB (by decide) rfl rfl (code_rec T rfl rfl) (body := bodyL w) rfl (law_binds (w := w) rfl rfl) rfl ?_ (by decide) fun s₁ S₁ => ?_
  · intro x hx
    rcases List.mem_singleton.mp hx with rfl
    exact .inl rfl
  have hol : (hideAll s.heap [37, 44]).IsList l svs.toArray := by
    obtain ⟨o, e, hc, r⟩ := ho
    refine ⟨o, hideAll_get _ e fun hm => ?_, hc, r⟩
    simp only [List.mem_cons, List.not_mem_nil, or_false] at hm
    rcases hm with rfl | rfl
    · rw [e37] at e; cases e; cases hc
    · rw [e44] at e; cases e; cases hc
  refine law_1 TB rfl hol hi hlen S₁ rfl fun m₂ lc vs n cells s₂ S₂ hm₂ hv₂ h5 => ?_
  refine law_2 TB rfl (dl40 _) S₂ hm₂ hv₂ h5 fun g' m₃ cm₃ tb lcl wh cls ring wide even last s₃ kg S₃ P₃ good hw1 hw2 K N₃ => ?_
  have X := plain (wh := wh) good K
  have T₃ := TB.up kg
  refine law_3 T₃ (c1.keeps kg) (c2.keeps kg) rfl (dl _) (ul _) (Around.frames_deeper rfl) (hg ▸ AllBare.empty) S₃ P₃ good hw1 hw2 N₃ X.l1 X.l2 fun G₄ m₄ tvs tn tns ps qs s₄ hb₄ S₄ N₄ hv₄ ht₄ => ?_
  refine law_4 T₃ rfl (dl _) S₄ N₄ hv₄ ht₄ good.len X.l2 fun m₅ cm₅ cl cvs cn s₅ S₅ N₅ hcc hcv => ?_
  refine law_5 T₃ rfl S₅ P₃ good N₅ (by have := X.r2; lia) fun cm₆ wl wvs wn s₆ S₆ hne hwc hwv => ?_
  refine law_6 (F := fc wh cls) T₃ rfl (ul _) S₆ ⟨N₅.ring, N₅.wide, N₅.even, N₅.table, (by rw [hne _ (by decide)]; exact N₅.last), (by rw [hne _ (by decide)]; exact N₅.where_), (by rw [hne _ (by decide)]; exact N₅.classes)⟩ (by rw [hne _ (by decide)]; exact hcc) hwc (.tail _ (.head _)) (.head _) hcv hwv X.l1 (by have := X.l2; lia) X.wl X.el X.r1 (by have := X.r2; lia) X.pb X.pe fun m₇ led₇ s₇ S₇ hsub => ?_
  refine ⟨rfl, (Prod.mk.inj S₇.os).1, S₇.gens ▸ hb₄, fun b o e hb => S₇.keep _ _ (kg _ _ (hideAll_get _ e hb)), ps, qs, ?_, ?_⟩
  · exact (S₇.own (37, tabObj ps) (hsub _ (by simp))).1
  · exact (S₇.own (44, tabObj qs) (hsub _ (by simp))).1
end Mine
end

section
open PySem PySem.W PyProof.Rows
namespace Mine
theorem ns_eq {h : Heap} {a : Addr} {m m' : Str → Option Value} (x : h.Ns a m) (y : h.Ns a m') (n : Str) : m n = m' n := by
  obtain ⟨o, es, ep, h1, h2, _, h3⟩ := x
  obtain ⟨o', es', ep', g1, g2, _, g3⟩ := y
  rw [h1] at g1; cases g1
  rw [h2] at g2; cases g2
  rw [← h3, ← g3]
theorem tp_of {p : Program} {loose : List Str} {mean : ExcName → Option Value} {mg mb : Str → Option Value} {w : World} {h : Heap} (K : (KF w).In h) (T : Top p loose mean mg mb h) : Tp w h := by
  have hns := mg_ns (w := w) K
  refine ⟨K, ⟨mb, T.b, T.builtins⟩, ?_⟩
  obtain ⟨bm, ob, h1, h2, h3, h4, h5, h6⟩ := T.bmain
  rw [ns_eq T.g hns] at h1
  have : mgOf w "__builtins__" = some (.ref 4) := rfl
  rw [this] at h1; cases h1
  exact ⟨ob, h3, h4, h5, h6⟩
theorem law_end {w : World} {s₁ : Shared} {c : ClaimW} {cl : Str → Option Addr} {mean mean' : ExcName → Option Value} {args : List WData} {p : Program} {loose : List Str} {mg mb : Str → Option Value} {l fa : Addr} {svs : List Value} {script : List Int}
    (K : (KF w).In s₁.heap) (T : Top p loose mean' mg mb s₁.heap) (hT : ∀ P ∈ [44, 37], s₁.heap.get? P = some (tabObj #[])) (hmg : mg "law" = some (.ref fa)) (hg : s₁.gens = #[]) (L : s₁.heap.IsList l svs.toArray) (hi : IntsAre svs script) (hlen : script.length ≤ 63)
    (hr : ∀ x, c.raises args x = false) (hp : c.post args (.bool true) args = true) :
    wpAny (model pr w) callerA (call (.ref fa) [.ref l] []) (fun v s' => GoodWG c cl mean args s₁ (.ok (.ret v)) s') (fun e s' => GoodWG c cl mean args s₁ (.error e) s') s₁ := by
  have Tp₁ := tp_of K T
  have hfa : fa = 110 := by
    rw [ns_eq T.g Tp₁.ns] at hmg
    have : mgOf w "law" = some (.ref 110) := rfl
    rw [this] at hmg; cases hmg; rfl
  subst hfa
  have e37 := hT 37 (by decide)
  have e44 := hT 44 (by decide)
  have d1 : CodeHd s₁.heap 41 37 := codeHd_of_K K (by kernel_rfl)
  have d2 : CodeHd s₁.heap 48 44 := codeHd_of_K K (by kernel_rfl)
  have t37 : isCodeTable s₁.heap 37 := (d1.tab e37).isCodeTable
  have t44 : isCodeTable s₁.heap 44 := (d2.tab e44).isCodeTable
  refine wpAny_mono (law_run Tp₁ e37 e44 hg L hi hlen) (fun v s' q => ?_) fun _ _ f => f.elim
  obtain ⟨rfl, hos, hb, keep, ps, qs, g37, g44⟩ := q
  refine ⟨.inl ⟨_, _, [], rfl, hr, ReadsW.bool true, hp, fun _ => ⟨List.nodup_nil, fun _ hm => nomatch hm⟩⟩, ⟨fun b o e => ?_, fun b o e => ?_⟩, hos, hb⟩
  · by_cases hb : b ∈ [37, 44]
    · simp only [List.mem_cons, List.not_mem_nil, or_false] at hb
      rcases hb with rfl | rfl
      · rw [e37] at e; cases e
        exact .inr (.inl ⟨t37, rfl, #[], ps, rfl, by rw [Array.empty_append]; exact g37⟩)
      · rw [e44] at e; cases e
        exact .inr (.inl ⟨t44, rfl, #[], qs, rfl, by rw [Array.empty_append]; exact g44⟩)
    · exact .inl (keep b o e hb)
  · by_cases hb : b ∈ [37, 44]
    · simp only [List.mem_cons, List.not_mem_nil, or_false] at hb
      rcases hb with rfl | rfl
      · exact ⟨_, g37⟩
      · exact ⟨_, g44⟩
    · exact ⟨o, keep b o e hb⟩
end Mine
end

open PySem PySem.W PyProof.Rows
theorem PySem.Challenge.cw_rs0117_01_holds : PySem.Challenge.rw_rs0117_01.Holds := by
  refine Mine.hd ?_
  k_fill
  intro w s₀ s₁ mg mb G Y fa o pm cd doc dV kV ho hd hcd hD hmg hg args vals as hpre hlay hrd hwl hlo
  have KX := km_in_of Y
  km_tabs Y
  refine Ground.open G ?_
  intro T B D TE TW
  wrow_args hpre hlay hrd hwl hlo
  refine Mine.law_end KX T hT8 hmg hg (by assumption) (by assumption) (by omega) (fun _ => rfl) ?_
  first
  | rfl
  | wrow_post
