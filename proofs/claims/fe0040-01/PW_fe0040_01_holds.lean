import PyProof.Rows.All
import Wide.All
import OpenK.AllK
import Wide.FinOn
import PySem.Challenge.RW_fe0040_01
set_option Elab.async false
section
open PySem PySem.W PyProof.Rows
namespace Mine
set_option maxRecDepth 100000 in
set_option maxHeartbeats 8000000 in
open_top hd for PySem.Challenge.rw_fe0040_01
end Mine
end
section
open PySem PySem.W PySem.Calls PyProof.Rows
set_option linter.unusedVariables false
namespace Mine

def Sub (h h' : Heap) : Prop := ∀ b o, h.get? b = some o → h'.get? b = some o
theorem Sub.refl (h : Heap) : Sub h h := fun _ _ e => e
theorem Sub.trans {h h' h'' : Heap} (x : Sub h h') (y : Sub h' h'') : Sub h h'' := fun b o e => y b o (x b o e)
theorem Sub.push (h : Heap) (o : Obj) : Sub h (h.push o) := fun _ _ e => Heap.get?_push_of_some o e

theorem Kp.refl (s : Shared) : Keeps s s := ⟨s.heap, s.toks, rfl, fun _ _ e => e⟩
theorem Kp.trans {s s' s'' : Shared} (x : Keeps s s') (y : Keeps s' s'') : Keeps s s'' := by
  obtain ⟨h', tk, rfl, a⟩ := x
  obtain ⟨h'', tk', rfl, b⟩ := y
  exact ⟨h'', tk', rfl, fun c o e => b c o (a c o e)⟩
theorem Kp.tok (s : Shared) (k : Nat) : Keeps s { s with toks := k } := ⟨s.heap, k, rfl, fun _ _ e => e⟩
theorem Kp.heap {s : Shared} {h' : Heap} {k : Nat} (hk : Sub s.heap h') : Keeps s { s with heap := h', toks := k } := ⟨h', k, rfl, hk⟩
theorem Kp.heap1 {s : Shared} {h' : Heap} (hk : Sub s.heap h') : Keeps s { s with heap := h' } := ⟨h', s.toks, rfl, hk⟩
theorem Kp.sub {s s' : Shared} (x : Keeps s s') : Sub s.heap s'.heap := by
  obtain ⟨h', tk, rfl, a⟩ := x; exact a

/-- what a value is, at a heap -/
abbrev VP := Value → Heap → Prop
def Mono (F : VP) : Prop := ∀ v h h', Sub h h' → F v h → F v h'
def IsV (x : Value) : VP := fun v _ => v = x
def IsI (i : Int) : VP := fun v _ => ∃ t, v = .int i t
def IsB (b : Array UInt8) : VP := fun v _ => ∃ t, v = .bytes b t
theorem mV (x : Value) : Mono (IsV x) := fun _ _ _ _ e => e
theorem mI (x : Int) : Mono (IsI x) := fun _ _ _ _ e => e
theorem mB (x : Array UInt8) : Mono (IsB x) := fun _ _ _ _ e => e

def Ev (prog : Program) (w : World) (A : Around) (env : Env) (h : Heap) (e : PySem.Expr) (F : VP) : Prop :=
  ∀ (s : Shared) (E : Value → Shared → Prop), Sub h s.heap → wpAny (model prog w) A (eval e env) (fun v s' => F v s'.heap ∧ Keeps s s') E s
/-- a test's outcome -/
def Te (prog : Program) (w : World) (A : Around) (env : Env) (h : Heap) (e : PySem.Expr) (b : Bool) : Prop :=
  ∀ (s : Shared) (E : Value → Shared → Prop), Sub h s.heap → wpAny (model prog w) A (isTrue e env (eval e env)) (fun v s' => v = b ∧ Keeps s s') E s
/-- a tree that only grows the heap -/
def Gr {α : Type} (prog : Program) (w : World) (A : Around) (h : Heap) (t : Sem α) (F : α → Heap → Prop) : Prop :=
  ∀ (s : Shared) (E : Value → Shared → Prop), Sub h s.heap → wpAny (model prog w) A t (fun v s' => F v s'.heap ∧ Keeps s s') E s

section
variable {prog : Program} {w : World} {A : Around} {env : Env} {h : Heap}

theorem Gr.bind {α β : Type} {t : Sem α} {f : α → Sem β} {F : α → Heap → Prop} {G : β → Heap → Prop} (a : Gr prog w A h t F)
    (b : ∀ v h', Sub h h' → F v h' → Gr prog w A h' (f v) G) : Gr prog w A h (t >>= f) G := fun s E hs =>
  wpAny_bind (wpAny_mono (a s E hs) (fun v s' ⟨hv, k⟩ => wpAny_mono (b v s'.heap (hs.trans (Kp.sub k)) hv s' E (Sub.refl _)) (fun u s'' ⟨hu, k'⟩ => ⟨hu, Kp.trans k k'⟩) fun _ _ e => e) fun _ _ e => e)
theorem Gr.imp {α : Type} {t : Sem α} {F G : α → Heap → Prop} (a : Gr prog w A h t F) (i : ∀ v h', F v h' → G v h') : Gr prog w A h t G := fun s E hs =>
  wpAny_mono (a s E hs) (fun v s' ⟨hv, k⟩ => ⟨i v _ hv, k⟩) fun _ _ e => e
theorem Gr.sub {α : Type} {t : Sem α} {F : α → Heap → Prop} {h' : Heap} (a : Gr prog w A h t F) (k : Sub h h') : Gr prog w A h' t F := fun s E hs => a s E (k.trans hs)
/-- in the middle of a walk -/
theorem Gr.use {α : Type} {t : Sem α} {F : α → Heap → Prop} {Q : α → Shared → Prop} {E : Value → Shared → Prop} {s : Shared} (a : Gr prog w A s.heap t F)
    (k : ∀ v h' tk, Sub s.heap h' → F v h' → Q v { s with heap := h', toks := tk }) : wpAny (model prog w) A t Q E s :=
  wpAny_mono (a s E (Sub.refl _)) (fun v s' ⟨hv, kk⟩ => by obtain ⟨h', tk, rfl, x⟩ := kk; exact k v h' tk x hv) fun _ _ e => e

theorem Ev.gr {e : PySem.Expr} {F : VP} (a : Ev prog w A env h e F) : Gr prog w A h (eval e env) F := a
theorem Ev.imp {e : PySem.Expr} {F G : VP} (a : Ev prog w A env h e F) (i : ∀ v h', F v h' → G v h') : Ev prog w A env h e G := Gr.imp a i
theorem Ev.sub {e : PySem.Expr} {F : VP} {h' : Heap} (a : Ev prog w A env h e F) (k : Sub h h') : Ev prog w A env h' e F := Gr.sub a k
theorem Ev.int {e : PySem.Expr} {i : Int} {t : Tok} (a : Ev prog w A env h e (IsV (.int i t))) : Ev prog w A env h e (IsI i) := a.imp fun _ _ x => ⟨t, x⟩
theorem Ev.byt {e : PySem.Expr} {i : Array UInt8} {t : Tok} (a : Ev prog w A env h e (IsV (.bytes i t))) : Ev prog w A env h e (IsB i) := a.imp fun _ _ x => ⟨t, x⟩

theorem Ev.cint {i : Int} {k : Nat} {pos : Pos} : Ev prog w A env h (.Constant (.int i) k pos) (IsI i) := fun s _ _ => wpAny_Constant_int ⟨⟨_, rfl⟩, Kp.tok s _⟩
theorem Ev.cbytes {l : List UInt8} {k : Nat} {pos : Pos} : Ev prog w A env h (.Constant (.bytes l) k pos) (IsB l.toArray) := fun s _ _ _ _ _ => ⟨⟨_, rfl⟩, Kp.tok s _⟩
theorem Ev.cbool {b : Bool} {k : Nat} {pos : Pos} : Ev prog w A env h (.Constant (.bool b) k pos) (IsV (.bool b)) := fun s _ _ _ _ _ => ⟨rfl, Kp.refl s⟩
theorem Ev.cstr {x : Str} {k : Nat} {pos : Pos} : Ev prog w A env h (.Constant (.str x) k pos) (fun v _ => ∃ t, v = .str x t) := fun s _ _ => Calls.Constant_str ⟨⟨_, rfl⟩, Kp.tok s _⟩

theorem Ev.bin {l r : PySem.Expr} {op : Operator} {pos : Pos} {F G H : VP} (hl : Ev prog w A env h l F) (hr : Ev prog w A env h r G) (mF : Mono F)
    (ho : ∀ a b h', Sub h h' → F a h' → G b h' → Gr prog w A h' (binaryOp op a b) H) : Ev prog w A env h (.BinOp l op r pos) H := fun s E hs =>
  wpAny_BinOp (wpAny_mono (hl s E hs) (fun a s₁ ⟨ha, k₁⟩ => wpAny_mono (hr s₁ E (hs.trans (Kp.sub k₁))) (fun b s₂ ⟨hb, k₂⟩ =>
    wpAny_mono (ho a b s₂.heap (hs.trans ((Kp.sub k₁).trans (Kp.sub k₂))) (mF _ _ _ (Kp.sub k₂) ha) hb s₂ E (Sub.refl _)) (fun v s₃ ⟨hv, k₃⟩ => ⟨hv, Kp.trans k₁ (Kp.trans k₂ k₃)⟩) fun _ _ e => e) fun _ _ e => e) fun _ _ e => e)
theorem Ev.cmp {l r : PySem.Expr} {op : CmpOp} {pos : Pos} {F G H : VP} (hl : Ev prog w A env h l F) (hr : Ev prog w A env h r G) (mF : Mono F)
    (ho : ∀ a b h', Sub h h' → F a h' → G b h' → Gr prog w A h' (compareOp op a b) H) (hm : behindInMarks op r = false := by with_unfolding_all rfl) : Ev prog w A env h (.Compare l [op] [r] pos) H := fun s E hs =>
  wpAny_Compare1 (wpAny_mono (hl s E hs) (fun a s₁ ⟨ha, k₁⟩ => wpAny_mono (hr s₁ E (hs.trans (Kp.sub k₁))) (fun b s₂ ⟨hb, k₂⟩ =>
    wpAny_mono (ho a b s₂.heap (hs.trans ((Kp.sub k₁).trans (Kp.sub k₂))) (mF _ _ _ (Kp.sub k₂) ha) hb s₂ E (Sub.refl _)) (fun v s₃ ⟨hv, k₃⟩ => ⟨hv, Kp.trans k₁ (Kp.trans k₂ k₃)⟩) fun _ _ e => e) fun _ _ e => e) fun _ _ e => e) hm
theorem Te.cmp {l r : PySem.Expr} {op : CmpOp} {pos : Pos} {F G : VP} {c : Bool} (hl : Ev prog w A env h l F) (hr : Ev prog w A env h r G) (mF : Mono F)
    (ho : ∀ a b h', Sub h h' → F a h' → G b h' → Gr prog w A h' (compareOp op a b) (IsV (.bool c))) (hm : behindInMarks op r = false := by with_unfolding_all rfl) : Te prog w A env h (.Compare l [op] [r] pos) c := fun s E hs =>
  wpAny_isTrue_Compare1 (wpAny_mono (hl s E hs) (fun a s₁ ⟨ha, k₁⟩ => wpAny_mono (hr s₁ E (hs.trans (Kp.sub k₁))) (fun b s₂ ⟨hb, k₂⟩ =>
    wpAny_mono (ho a b s₂.heap (hs.trans ((Kp.sub k₁).trans (Kp.sub k₂))) (mF _ _ _ (Kp.sub k₂) ha) hb s₂ E (Sub.refl _)) (fun v s₃ ⟨hv, k₃⟩ => by cases hv; exact wpAny_truthy_bool ⟨rfl, Kp.trans k₁ (Kp.trans k₂ k₃)⟩) fun _ _ e => e) fun _ _ e => e) fun _ _ e => e) hm

theorem Ev.un {x : PySem.Expr} {op : UnaryOp} {pos : Pos} {F H : VP} (hx : Ev prog w A env h x F) (ho : ∀ a h', Sub h h' → F a h' → Gr prog w A h' (unaryOp op a) H) : Ev prog w A env h (.UnaryOp op x pos) H := fun s E hs =>
  wpAny_UnaryOp (wpAny_mono (hx s E hs) (fun a s₁ ⟨ha, k₁⟩ => wpAny_mono (ho a s₁.heap (hs.trans (Kp.sub k₁)) ha s₁ E (Sub.refl _)) (fun v s₃ ⟨hv, k₃⟩ => ⟨hv, Kp.trans k₁ k₃⟩) fun _ _ e => e) fun _ _ e => e)

theorem Ev.ifT {c a b : PySem.Expr} {pos : Pos} {F : VP} (hc : Te prog w A env h c true) (ha : Ev prog w A env h a F) : Ev prog w A env h (.IfExp c a b pos) F := fun s E hs =>
  wpAny_IfExp (wpAny_mono (hc s E hs) (fun t s₁ ⟨ht, k₁⟩ => by subst ht; exact wpAny_mono (ha s₁ E (hs.trans (Kp.sub k₁))) (fun v s₃ ⟨hv, k₃⟩ => ⟨hv, Kp.trans k₁ k₃⟩) fun _ _ e => e) fun _ _ e => e)
theorem Ev.ifF {c a b : PySem.Expr} {pos : Pos} {F : VP} (hc : Te prog w A env h c false) (hb : Ev prog w A env h b F) : Ev prog w A env h (.IfExp c a b pos) F := fun s E hs =>
  wpAny_IfExp (wpAny_mono (hc s E hs) (fun t s₁ ⟨ht, k₁⟩ => by subst ht; exact wpAny_mono (hb s₁ E (hs.trans (Kp.sub k₁))) (fun v s₃ ⟨hv, k₃⟩ => ⟨hv, Kp.trans k₁ k₃⟩) fun _ _ e => e) fun _ _ e => e)
theorem Ev.ite {c a b : PySem.Expr} {pos : Pos} {F : VP} {t : Bool} (hc : Te prog w A env h c t) (ha : t = true → Ev prog w A env h a F) (hb : t = false → Ev prog w A env h b F) : Ev prog w A env h (.IfExp c a b pos) F := by
  cases t
  · exact Ev.ifF hc (hb rfl)
  · exact Ev.ifT hc (ha rfl)

theorem Te.not {x : PySem.Expr} {pos : Pos} {b : Bool} (hx : Te prog w A env h x b) : Te prog w A env h (.UnaryOp .Not x pos) (!b) := fun s E hs =>
  wpAny_isTrue_Not (wpAny_mono (hx s E hs) (fun t s₁ ⟨ht, k₁⟩ => ⟨by rw [ht], k₁⟩) fun _ _ e => e)

/-- the plain test: a value's truth -/
theorem Te.val {x : PySem.Expr} {F : VP} {b : Bool} (hx : Ev prog w A env h x F) (ht : ∀ a h', Sub h h' → F a h' → Gr prog w A h' (truthy a) (fun v _ => v = b))
    (hp : isTrue x env (eval x env) = (do let v ← eval x env; standAt x.pos; holding [v] (truthy v)) := by rfl) : Te prog w A env h x b := fun s E hs => by
  rw [hp]
  exact wpAny_bind (wpAny_mono (hx s E hs) (fun a s₁ ⟨ha, k₁⟩ => wpAny_bind (wpAny_standAt (wpAny_holding (wpAny_mono (ht a s₁.heap (hs.trans (Kp.sub k₁)) ha s₁ E (Sub.refl _)) (fun v s₃ ⟨hv, k₃⟩ => ⟨hv, Kp.trans k₁ k₃⟩) fun _ _ e => e)))) fun _ _ e => e)

theorem Te.or {xs : List PySem.Expr} {pos : Pos} {b : Bool} (hx : Gr prog w A h (allTrue .Or xs env) (fun v _ => v = b)) : Te prog w A env h (.BoolOp .Or xs pos) b := fun s E hs => hx s E hs
theorem Te.and {xs : List PySem.Expr} {pos : Pos} {b : Bool} (hx : Gr prog w A h (allTrue .And xs env) (fun v _ => v = b)) : Te prog w A env h (.BoolOp .And xs pos) b := fun s E hs => hx s E hs
theorem At.nil {op : BoolOp} : Gr prog w A h (allTrue op [] env) (fun v _ => v = (op == .And)) := fun s E hs => by rw [arm_allTrue_nil]; exact wpAny_pure ⟨rfl, Kp.refl s⟩
theorem At.orF {x : PySem.Expr} {xs : List PySem.Expr} {b : Bool} (hx : Te prog w A env h x false) (hr : Gr prog w A h (allTrue .Or xs env) (fun v _ => v = b)) : Gr prog w A h (allTrue .Or (x :: xs) env) (fun v _ => v = b) := fun s E hs => by
  rw [arm_allTrue_cons]
  refine wpAny_bind (wpAny_mono (hx s E hs) (fun t s₁ ⟨ht, k₁⟩ => ?_) fun _ _ e => e)
  subst ht
  exact wpAny_mono (hr s₁ E (hs.trans (Kp.sub k₁))) (fun v s₃ ⟨hv, k₃⟩ => ⟨hv, Kp.trans k₁ k₃⟩) fun _ _ e => e
theorem At.orT {x : PySem.Expr} {xs : List PySem.Expr} (hx : Te prog w A env h x true) : Gr prog w A h (allTrue .Or (x :: xs) env) (fun v _ => v = true) := fun s E hs => by
  rw [arm_allTrue_cons]
  refine wpAny_bind (wpAny_mono (hx s E hs) (fun t s₁ ⟨ht, k₁⟩ => ?_) fun _ _ e => e)
  subst ht
  exact wpAny_pure ⟨rfl, k₁⟩
theorem At.andT {x : PySem.Expr} {xs : List PySem.Expr} {b : Bool} (hx : Te prog w A env h x true) (hr : Gr prog w A h (allTrue .And xs env) (fun v _ => v = b)) : Gr prog w A h (allTrue .And (x :: xs) env) (fun v _ => v = b) := fun s E hs => by
  rw [arm_allTrue_cons]
  refine wpAny_bind (wpAny_mono (hx s E hs) (fun t s₁ ⟨ht, k₁⟩ => ?_) fun _ _ e => e)
  subst ht
  exact wpAny_mono (hr s₁ E (hs.trans (Kp.sub k₁))) (fun v s₃ ⟨hv, k₃⟩ => ⟨hv, Kp.trans k₁ k₃⟩) fun _ _ e => e
theorem At.andF {x : PySem.Expr} {xs : List PySem.Expr} (hx : Te prog w A env h x false) : Gr prog w A h (allTrue .And (x :: xs) env) (fun v _ => v = false) := fun s E hs => by
  rw [arm_allTrue_cons]
  refine wpAny_bind (wpAny_mono (hx s E hs) (fun t s₁ ⟨ht, k₁⟩ => ?_) fun _ _ e => e)
  subst ht
  exact wpAny_pure ⟨rfl, k₁⟩

/-! ints -/
theorem Ev.add {l r : PySem.Expr} {pos : Pos} {a b : Int} (hl : Ev prog w A env h l (IsI a)) (hr : Ev prog w A env h r (IsI b)) : Ev prog w A env h (.BinOp l .Add r pos) (IsI (a + b)) :=
  Ev.bin hl hr (mI a) fun _ _ _ _ ⟨_, ha⟩ ⟨_, hb⟩ s _ _ => by subst ha hb; exact add_int ⟨⟨_, rfl⟩, Kp.tok s _⟩
theorem Ev.subI {l r : PySem.Expr} {pos : Pos} {a b : Int} (hl : Ev prog w A env h l (IsI a)) (hr : Ev prog w A env h r (IsI b)) : Ev prog w A env h (.BinOp l .Sub r pos) (IsI (a - b)) :=
  Ev.bin hl hr (mI a) fun _ _ _ _ ⟨_, ha⟩ ⟨_, hb⟩ s _ _ => by subst ha hb; exact sub_int ⟨⟨_, rfl⟩, Kp.tok s _⟩
theorem Ev.mul {l r : PySem.Expr} {pos : Pos} {a b : Int} (hl : Ev prog w A env h l (IsI a)) (hr : Ev prog w A env h r (IsI b)) (hz : IntMulOk a b) : Ev prog w A env h (.BinOp l .Mult r pos) (IsI (a * b)) :=
  Ev.bin hl hr (mI a) fun _ _ _ _ ⟨_, ha⟩ ⟨_, hb⟩ s _ _ => by subst ha hb; exact mul_int ⟨⟨_, rfl⟩, Kp.tok s _⟩ hz
theorem Ev.fmod {l r : PySem.Expr} {pos : Pos} {a b : Int} (hl : Ev prog w A env h l (IsI a)) (hr : Ev prog w A env h r (IsI b)) (hb : b ≠ 0) : Ev prog w A env h (.BinOp l .Mod r pos) (IsI (a.fmod b)) :=
  Ev.bin hl hr (mI a) fun _ _ _ _ ⟨_, ha⟩ ⟨_, hb'⟩ s _ _ => by subst ha hb'; exact mod_int hb ⟨⟨_, rfl⟩, Kp.tok s _⟩
theorem Ev.fdiv {l r : PySem.Expr} {pos : Pos} {a b : Int} (hl : Ev prog w A env h l (IsI a)) (hr : Ev prog w A env h r (IsI b)) (hb : b ≠ 0) (hz : b.natAbs < 1073741824) : Ev prog w A env h (.BinOp l .FloorDiv r pos) (IsI (a.fdiv b)) :=
  Ev.bin hl hr (mI a) fun _ _ _ _ ⟨_, ha⟩ ⟨_, hb'⟩ s _ _ => by subst ha hb'; exact floordiv_int hb ⟨⟨_, rfl⟩, Kp.tok s _⟩ (Or.inl (PyProof.noPylong_small hz))
theorem Ev.pow {l r : PySem.Expr} {pos : Pos} {a b : Int} (hl : Ev prog w A env h l (IsI a)) (hr : Ev prog w A env h r (IsI b)) (hb : 0 ≤ b) (hb2 : b ≤ 1000000) (ha : a.natAbs < 2 ^ 64) : Ev prog w A env h (.BinOp l .Pow r pos) (IsI (a ^ b.toNat)) :=
  Ev.bin hl hr (mI a) fun _ _ _ _ ⟨_, ha'⟩ ⟨_, hb'⟩ s _ _ => by subst ha' hb'; exact pow_int_small hb hb2 ha ⟨⟨_, rfl⟩, Kp.tok s _⟩
theorem Ev.neg {x : PySem.Expr} {pos : Pos} {a : Int} (hx : Ev prog w A env h x (IsI a)) : Ev prog w A env h (.UnaryOp .USub x pos) (IsI (-a)) :=
  Ev.un hx fun _ _ _ ⟨_, ha⟩ s _ _ => by subst ha; exact neg_int ⟨⟨_, rfl⟩, Kp.tok s _⟩

theorem g_lt {a b : Int} {t u : Tok} : Gr prog w A h (compareOp .Lt (.int a t) (.int b u)) (IsV (.bool (decide (a < b)))) := fun s _ _ => lt_int ⟨rfl, Kp.refl s⟩
theorem g_gt {a b : Int} {t u : Tok} : Gr prog w A h (compareOp .Gt (.int a t) (.int b u)) (IsV (.bool (decide (b < a)))) := fun s _ _ => gt_int ⟨rfl, Kp.refl s⟩
theorem g_eq {a b : Int} {t u : Tok} : Gr prog w A h (compareOp .Eq (.int a t) (.int b u)) (IsV (.bool (a == b))) := fun s _ _ => eq_int ⟨rfl, Kp.refl s⟩
theorem g_ne {a b : Int} {t u : Tok} : Gr prog w A h (compareOp .NotEq (.int a t) (.int b u)) (IsV (.bool (a != b))) := fun s _ _ => ne_int ⟨rfl, Kp.refl s⟩
theorem Te.lt {l r : PySem.Expr} {pos : Pos} {a b : Int} (hl : Ev prog w A env h l (IsI a)) (hr : Ev prog w A env h r (IsI b)) (hm : behindInMarks .Lt r = false := by with_unfolding_all rfl) : Te prog w A env h (.Compare l [.Lt] [r] pos) (decide (a < b)) :=
  Te.cmp hl hr (mI a) (fun _ _ _ _ ⟨_, ha⟩ ⟨_, hb⟩ => by subst ha hb; exact g_lt) hm
theorem Te.gt {l r : PySem.Expr} {pos : Pos} {a b : Int} (hl : Ev prog w A env h l (IsI a)) (hr : Ev prog w A env h r (IsI b)) (hm : behindInMarks .Gt r = false := by with_unfolding_all rfl) : Te prog w A env h (.Compare l [.Gt] [r] pos) (decide (b < a)) :=
  Te.cmp hl hr (mI a) (fun _ _ _ _ ⟨_, ha⟩ ⟨_, hb⟩ => by subst ha hb; exact g_gt) hm
theorem Te.eqI {l r : PySem.Expr} {pos : Pos} {a b : Int} (hl : Ev prog w A env h l (IsI a)) (hr : Ev prog w A env h r (IsI b)) (hm : behindInMarks .Eq r = false := by with_unfolding_all rfl) : Te prog w A env h (.Compare l [.Eq] [r] pos) (a == b) :=
  Te.cmp hl hr (mI a) (fun _ _ _ _ ⟨_, ha⟩ ⟨_, hb⟩ => by subst ha hb; exact g_eq) hm
theorem Te.neI {l r : PySem.Expr} {pos : Pos} {a b : Int} (hl : Ev prog w A env h l (IsI a)) (hr : Ev prog w A env h r (IsI b)) (hm : behindInMarks .NotEq r = false := by with_unfolding_all rfl) : Te prog w A env h (.Compare l [.NotEq] [r] pos) (a != b) :=
  Te.cmp hl hr (mI a) (fun _ _ _ _ ⟨_, ha⟩ ⟨_, hb⟩ => by subst ha hb; exact g_ne) hm
theorem Te.int {x : PySem.Expr} {a : Int} (hx : Ev prog w A env h x (IsI a)) (hp : isTrue x env (eval x env) = (do let v ← eval x env; standAt x.pos; holding [v] (truthy v)) := by rfl) : Te prog w A env h x (a != 0) :=
  Te.val hx (fun _ _ _ ⟨_, ha⟩ s _ _ => by subst ha; exact truthy_int ⟨rfl, Kp.refl s⟩) hp
theorem Te.bool {x : PySem.Expr} {a : Bool} (hx : Ev prog w A env h x (IsV (.bool a))) (hp : isTrue x env (eval x env) = (do let v ← eval x env; standAt x.pos; holding [v] (truthy v)) := by rfl) : Te prog w A env h x a :=
  Te.val hx (fun _ _ _ ha s _ _ => by cases ha; exact wpAny_truthy_bool ⟨rfl, Kp.refl s⟩) hp
end
end Mine
end
section
open PySem PySem.W PySem.Calls PyProof.Rows
set_option linter.unusedVariables false
namespace Mine

/-- the name stands for the value, in this activation, at this heap -/
def Holds (h : Heap) (env : Env) (x : Str) (v : Value) : Prop :=
  (env.kindOf x = some .local ∧ ∃ m, h.Ns env.locals m ∧ m x = some v) ∨
  ((env.kindOf x = some .cell ∨ (env.kindOf x = some .free ∧ (x == ("__classdict__" : Str)) = false)) ∧ ∃ c, env.cells.lookup x = some c ∧ h.IsCell c (some v))
theorem Holds.sub {h h' : Heap} {env : Env} {x : Str} {v : Value} (a : Holds h env x v) (k : Sub h h') : Holds h' env x v := by
  rcases a with ⟨a, m, n, e⟩ | ⟨a, c, e, d⟩
  · exact .inl ⟨a, m, n.keeps k, e⟩
  · exact .inr ⟨a, c, e, d.keeps k⟩

structure St (hb : Heap) (env : Env) (vars : List (Str × Value)) (news : List (Addr × Obj)) (h : Heap) : Prop where
  kind : env.scope.kind = .function
  base : Sub hb h
  ns : ∃ m, h.Ns env.locals m
  lnew : hb.get? env.locals = none
  cells : ∀ n c, (n, c) ∈ env.cells → (∃ v, h.IsCell c v) ∧ hb.get? c = none ∧ c ≠ env.locals
  capart : env.cells.Pairwise fun x y => x.2 ≠ y.2
  fv : ∀ p ∈ vars, Holds h env p.1 p.2
  fn : ∀ p ∈ news, h.get? p.1 = some p.2 ∧ hb.get? p.1 = none ∧ p.1 ≠ env.locals ∧ ∀ n c, (n, c) ∈ env.cells → p.1 ≠ c
  ndup : (news.map (·.1)).Nodup

inductive Del (x : Str) : List (Str × Value) → List (Str × Value) → Prop
  | nil : Del x [] []
  | hit {v r r'} : Del x r r' → Del x ((x, v) :: r) r'
  | miss {y v r r'} : y ≠ x → Del x r r' → Del x ((y, v) :: r) ((y, v) :: r')
theorem Del.mem {x : Str} {l l' : List (Str × Value)} (d : Del x l l') : ∀ p ∈ l', p ∈ l ∧ p.1 ≠ x := by
  induction d with
  | nil => exact fun _ hp => nomatch hp
  | hit _ ih => exact fun p hp => ⟨.tail _ (ih p hp).1, (ih p hp).2⟩
  | miss hn _ ih =>
    intro p hp
    rcases List.mem_cons.mp hp with rfl | hp
    · exact ⟨.head _, hn⟩
    · exact ⟨.tail _ (ih p hp).1, (ih p hp).2⟩

namespace St
variable {hb h h' : Heap} {env : Env} {vars vars' : List (Str × Value)} {news news' : List (Addr × Obj)}

theorem grow (S : St hb env vars news h) (k : Sub h h') : St hb env vars news h' :=
  ⟨S.kind, S.base.trans k, let ⟨m, n⟩ := S.ns; ⟨m, n.keeps k⟩, S.lnew, fun n c hc => let ⟨⟨v, a⟩, r⟩ := S.cells n c hc; ⟨⟨v, a.keeps k⟩, r⟩, S.capart,
    fun p hp => (S.fv p hp).sub k, fun p hp => ⟨k _ _ (S.fn p hp).1, (S.fn p hp).2⟩, S.ndup⟩

/-- an object of no concern turns -/
theorem off (S : St hb env vars news h) (I : Addr) (hI : hb.get? I = none) (hL : I ≠ env.locals) (hc : ∀ n c, (n, c) ∈ env.cells → I ≠ c) (hn : ∀ p ∈ news, p.1 ≠ I)
    (k : ∀ b o, b ≠ I → h.get? b = some o → h'.get? b = some o) : St hb env vars news h' := by
  have kc : ∀ n c, (n, c) ∈ env.cells → ∀ v, h.IsCell c v → h'.IsCell c v := fun n c hc' v ⟨o, ho, hd⟩ => ⟨o, k c o (Ne.symm (hc n c hc')) ho, hd⟩
  have kn : ∀ m, h.Ns env.locals m → h'.Ns env.locals m := fun m ⟨o, es, ep, ho, r⟩ => ⟨o, es, ep, k _ _ (Ne.symm hL) ho, r⟩
  refine ⟨S.kind, fun b o e => k b o (fun q => by rw [q, hI] at e; cases e) (S.base b o e), let ⟨m, n⟩ := S.ns; ⟨m, kn m n⟩, S.lnew, fun n c hc' => let ⟨⟨v, a⟩, r⟩ := S.cells n c hc'; ⟨⟨v, kc n c hc' v a⟩, r⟩, S.capart, fun p hp => ?_,
    fun p hp => ⟨k _ _ (hn p hp) (S.fn p hp).1, (S.fn p hp).2⟩, S.ndup⟩
  rcases S.fv p hp with ⟨a, m, n, e⟩ | ⟨a, c, e, d⟩
  · exact .inl ⟨a, m, kn m n, e⟩
  · exact .inr ⟨a, c, e, kc _ c (mem_of_lookup e) _ d⟩

theorem weak (S : St hb env vars news h) (a : ∀ p ∈ vars', p ∈ vars) (b : news'.Sublist news) : St hb env vars' news' h :=
  ⟨S.kind, S.base, S.ns, S.lnew, S.cells, S.capart, fun p hp => S.fv p (a p hp), fun p hp => S.fn p (b.subset hp), (b.map _).nodup S.ndup⟩
theorem weakV (S : St hb env vars news h) (a : ∀ p ∈ vars', p ∈ vars) : St hb env vars' news h := S.weak a (List.Sublist.refl _)
theorem weakN (S : St hb env vars news h) (b : news'.Sublist news) : St hb env vars news' h := S.weak (fun _ h => h) b
theorem perm (S : St hb env vars news h) (p : news.Perm news') : St hb env vars news' h :=
  ⟨S.kind, S.base, S.ns, S.lnew, S.cells, S.capart, S.fv, fun q hq => S.fn q (p.mem_iff.mpr hq), (p.map _).nodup_iff.mp S.ndup⟩

/-- new objects come onto the ledger -/
theorem add (S : St hb env vars news h) (k : Sub h h') (ns : List (Addr × Obj)) (hn : ∀ p ∈ ns, h.get? p.1 = none ∧ h'.get? p.1 = some p.2) (hd : (ns.map (·.1)).Nodup) : St hb env vars (ns ++ news) h' := by
  have S' := S.grow k
  obtain ⟨m, n⟩ := S.ns
  obtain ⟨oL, _, _, hoL, _⟩ := n
  refine ⟨S'.kind, S'.base, S'.ns, S'.lnew, S'.cells, S'.capart, S'.fv, fun p hp => ?_, ?_⟩
  · rcases List.mem_append.mp hp with hp | hp
    · obtain ⟨e1, e2⟩ := hn p hp
      refine ⟨e2, ?_, fun q => (by rw [q, hoL] at e1; cases e1), fun nm c hc q => ?_⟩
      · cases e : hb.get? p.1 with
        | none => rfl
        | some o => rw [S.base _ _ e] at e1; cases e1
      · obtain ⟨⟨v, o, ho, _⟩, _⟩ := S.cells nm c hc
        rw [q, ho] at e1; cases e1
    · exact S'.fn p hp
  · rw [List.map_append]
    refine List.nodup_append.mpr ⟨hd, S.ndup, fun a ha b hb' q => ?_⟩
    obtain ⟨p, hp, rfl⟩ := List.mem_map.mp ha
    obtain ⟨p', hp', rfl⟩ := List.mem_map.mp hb'
    have e1 := (hn p hp).1
    rw [q, (S.fn p' hp').1] at e1; cases e1

/-- one object of the ledger turns -/
theorem upd {pre post : List (Addr × Obj)} {d : Addr} {o o' : Obj} (S : St hb env vars (pre ++ (d, o) :: post) h) (k : ∀ b x, b ≠ d → h.get? b = some x → h'.get? b = some x) (e : h'.get? d = some o') :
    St hb env vars (pre ++ (d, o') :: post) h' := by
  have D := S.fn (d, o) (by simp)
  have nd := S.ndup
  have S1 : St hb env vars (pre ++ post) h := S.weakN (by simp)
  have ne : ∀ p ∈ pre ++ post, p.1 ≠ d := by
    intro p hp q
    simp only [List.map_append, List.map_cons] at nd
    have := (List.perm_middle.nodup_iff).mp nd
    rw [List.nodup_cons] at this
    refine this.1 ?_
    rw [← List.map_append]
    exact List.mem_map.mpr ⟨p, hp, q⟩
  have S2 := S1.off d D.2.1 D.2.2.1 (fun n c hc => D.2.2.2 n c hc) ne k
  refine ⟨S2.kind, S2.base, S2.ns, S2.lnew, S2.cells, S2.capart, S2.fv, fun p hp => ?_, by simpa using nd⟩
  rcases List.mem_append.mp hp with hp | hp
  · exact S2.fn p (List.mem_append_left _ hp)
  · rcases List.mem_cons.mp hp with rfl | hp
    · exact ⟨e, D.2⟩
    · exact S2.fn p (List.mem_append_right _ hp)
end St

section
variable {prog : Program} {w : World} {A : Around} {env : Env} {hb h : Heap} {vars vars' : List (Str × Value)} {news : List (Addr × Obj)}

theorem Ev.holds {x : Str} {v : Value} {pos : Pos} (hk : env.scope.kind = .function) (a : Holds h env x v) (hd : (x == ("__debug__" : Str)) = false := by decide) : Ev prog w A env h (.Name x pos) (IsV v) := fun s E hs => by
  rcases a.sub hs with ⟨a, m, n, e⟩ | ⟨a | ⟨a, a2⟩, c, e, d⟩
  · exact wpAny_Name (wpAny_loadName_local hk a n e ⟨rfl, Kp.refl s⟩) hd
  · exact wpAny_Name (wpAny_loadName_cell hk a e d ⟨rfl, Kp.refl s⟩) hd
  · exact wpAny_Name (wpAny_loadName_free hk a e d ⟨rfl, Kp.refl s⟩ a2) hd
theorem St.ev (S : St hb env vars news h) {x : Str} {v : Value} {pos : Pos} (hm : (x, v) ∈ vars) (hd : (x == ("__debug__" : Str)) = false := by decide) : Ev prog w A env h (.Name x pos) (IsV v) := Ev.holds S.kind (S.fv _ hm) hd
theorem St.evI (S : St hb env vars news h) {x : Str} {i : Int} {t : Tok} {pos : Pos} (hm : (x, .int i t) ∈ vars) (hd : (x == ("__debug__" : Str)) = false := by decide) : Ev prog w A env h (.Name x pos) (IsI i) := (S.ev hm hd).int
theorem St.evB (S : St hb env vars news h) {x : Str} {i : Array UInt8} {t : Tok} {pos : Pos} (hm : (x, .bytes i t) ∈ vars) (hd : (x == ("__debug__" : Str)) = false := by decide) : Ev prog w A env h (.Name x pos) (IsB i) := (S.ev hm hd).byt

/-- the module's names and the built-in ones -/
structure Gl (hb : Heap) (mg mb : Str → Option Value) : Prop where
  g : hb.Ns mainGlobals mg
  b : hb.Ns builtinsNs mb
  lim : hb.NoLimit
theorem Gl.sub {h h' : Heap} {mg mb : Str → Option Value} (a : Gl h mg mb) (k : Sub h h') : Gl h' mg mb := ⟨a.g.keeps k, a.b.keeps k, a.lim.keeps k⟩
structure GEnv (env : Env) : Prop where
  kind : env.scope.kind = .function
  gl : env.globals = mainGlobals
  bu : env.builtins = builtinsNs
theorem Ev.glob {mg mb : Str → Option Value} {x : Str} {v : Value} {pos : Pos} (G : Gl h mg mb) (K : GEnv env) (hv : mg x = some v) (hx : env.kindOf x = some .globalImplicit := by rfl) (hd : (x == ("__debug__" : Str)) = false := by decide) :
    Ev prog w A env h (.Name x pos) (IsV v) := fun s E hs =>
  Calls.Name_function_global K.kind hx (Calls.loadGlobal_global (by rw [K.gl]; exact G.g.keeps hs) hv ⟨rfl, Kp.refl s⟩) hd
theorem Ev.built {mg mb : Str → Option Value} {x : Str} {v : Value} {pos : Pos} (G : Gl h mg mb) (K : GEnv env) (hn : mg x = none) (hv : mb x = some v) (hx : env.kindOf x = some .globalImplicit := by rfl) (hd : (x == ("__debug__" : Str)) = false := by decide) :
    Ev prog w A env h (.Name x pos) (IsV v) := fun s E hs =>
  Calls.Name_function_global K.kind hx (Calls.loadGlobal_builtin (by rw [K.gl]; exact G.g.keeps hs) hn (by rw [K.bu]; exact G.b.keeps hs) hv ⟨rfl, Kp.refl s⟩) hd

/-! arguments -/
theorem Sp.nil : Gr prog w A h (spliced []) (fun vs _ => vs = []) := fun s E hs => Calls.spliced_nil ⟨rfl, Kp.refl s⟩
theorem Sp.cons {x : Sem Value} {rest : List (Bool × Sem Value)} {F : VP} {G : List Value → Heap → Prop} (hx : Gr prog w A h x F) (mF : Mono F) (hr : Gr prog w A h (spliced rest) G) :
    Gr prog w A h (spliced ((false, x) :: rest)) (fun vs h' => ∃ v r, vs = v :: r ∧ F v h' ∧ G r h') := fun s E hs =>
  Calls.spliced_cons (wpAny_mono (hx s E hs) (fun v s₁ ⟨hv, k₁⟩ => wpAny_mono (hr s₁ E (hs.trans (Kp.sub k₁))) (fun vs s₂ ⟨hvs, k₂⟩ => ⟨⟨v, vs, rfl, mF _ _ _ (Kp.sub k₂) hv, hvs⟩, Kp.trans k₁ k₂⟩) fun _ _ e => e) fun _ _ e => e)
def Ag (prog : Program) (w : World) (A : Around) (env : Env) (h : Heap) (pos : Pos) (es : List PySem.Expr) (G : List Value → Heap → Prop) : Prop := Gr prog w A h (spliced (backTo pos (starEach es env))) G
theorem Ag.nil {pos : Pos} : Ag prog w A env h pos [] (fun vs _ => vs = []) := Sp.nil
theorem Ag.cons {pos : Pos} {e : PySem.Expr} {es : List PySem.Expr} {F : VP} {G : List Value → Heap → Prop} (hx : Ev prog w A env h e F) (hr : Ag prog w A env h pos es G) (mF : Mono F) (he : backTo pos (starEach (e :: es) env) = (false, eval e env) :: backTo pos (starEach es env) := by rfl) :
    Ag prog w A env h pos (e :: es) (fun vs h' => ∃ v r, vs = v :: r ∧ F v h' ∧ G r h') := by
  unfold Ag; rw [he]; exact Sp.cons hx mF hr
theorem Ag.one {pos : Pos} {e : PySem.Expr} {F : VP} (hx : Ev prog w A env h e F) (mF : Mono F) (he : backTo pos (starEach [e] env) = (false, eval e env) :: backTo pos (starEach [] env) := by rfl) :
    Ag prog w A env h pos [e] (fun vs h' => ∃ v, vs = [v] ∧ F v h') :=
  Gr.imp (Ag.cons hx Ag.nil mF he) fun vs h' ⟨v, r, e1, e2, e3⟩ => ⟨v, by rw [e1, e3], e2⟩
theorem Ag.two {pos : Pos} {e e' : PySem.Expr} {F F' : VP} (hx : Ev prog w A env h e F) (hx' : Ev prog w A env h e' F') (mF : Mono F) (mF' : Mono F') (he : backTo pos (starEach [e, e'] env) = (false, eval e env) :: backTo pos (starEach [e'] env) := by rfl) (he' : backTo pos (starEach [e'] env) = (false, eval e' env) :: backTo pos (starEach [] env) := by rfl) :
    Ag prog w A env h pos [e, e'] (fun vs h' => ∃ v v', vs = [v, v'] ∧ F v h' ∧ F' v' h') :=
  Gr.imp (Ag.cons hx (Ag.one hx' mF' he') mF he) fun vs h' ⟨v, r, e1, e2, v', e3, e4⟩ => ⟨v, v', by rw [e1, e3], e2, e4⟩
theorem Ag.three {pos : Pos} {e e' e'' : PySem.Expr} {F F' F'' : VP} (hx : Ev prog w A env h e F) (hx' : Ev prog w A env h e' F') (hx'' : Ev prog w A env h e'' F'') (mF : Mono F) (mF' : Mono F') (mF'' : Mono F'') (he : backTo pos (starEach [e, e', e''] env) = (false, eval e env) :: backTo pos (starEach [e', e''] env) := by rfl) (he' : backTo pos (starEach [e', e''] env) = (false, eval e' env) :: backTo pos (starEach [e''] env) := by rfl) (he'' : backTo pos (starEach [e''] env) = (false, eval e'' env) :: backTo pos (starEach [] env) := by rfl) :
    Ag prog w A env h pos [e, e', e''] (fun vs h' => ∃ v v' v'', vs = [v, v', v''] ∧ F v h' ∧ F' v' h' ∧ F'' v'' h') :=
  Gr.imp (Ag.cons hx (Ag.two hx' hx'' mF' mF'' he' he'') mF he) fun vs h' ⟨v, r, e1, e2, v', v'', e3, e4⟩ => ⟨v, v', v'', by rw [e1, e3], e2, e4⟩

theorem evalArgs_nil' {M : Model} {E : Value → Shared → Prop} {s : Shared} {f : Value} {Q : Args → Shared → Prop} (hq : Q ⟨[], []⟩ s) : wpAny M A (evalArgs f true [] []) Q E s := by
  unfold evalArgs
  show wpAny M A (spliced [] >>= _) Q E s
  refine wpAny_bind (Calls.spliced_nil ?_)
  refine wpAny_bind (wpAny_pure (wpAny_holding ?_))
  exact wpAny_bind (wpAny_pure (wpAny_bind (wpAny_pure (wpAny_pure hq))))

/-- a call of a built-in function or type -/
theorem cw_machine {M : Model} {E : Value → Shared → Prop} {s : Shared} {pos : Pos} {f : Value} {first : List Value} {args : List (Bool × Sem Value)} {Q : Value → Shared → Prop} (hm : keeperOf f = pure .machine) (hplain : args.any (·.1) = false)
    (hq : wpAny M A (evalArgs f true args []) (fun a s₁ => wpAny M A (call f (first ++ a.pos) a.kw) Q E s₁) E s) : wpAny M A (callWith pos f first args []) Q E s := by
  unfold callWith
  refine wpAny_bind (wpAny_holding (wpAny_mono hq (fun a s₁ h₁ => wpAny_bind (wpAny_standAt ?_)) fun _ _ x => x))
  simp only [hplain, List.any_nil, Bool.or_false, hm]
  refine wpAny_bind (wpAny_pure ?_)
  exact wpAny_bind (wpAny_mono h₁ (fun r s₂ hr => wpAny_bind (wpAny_holding (wpAny_point (wpAny_pure hr)))) fun _ _ x => x)

theorem args_run {M : Model} {E : Value → Shared → Prop} {s : Shared} {f : Value} {ts : List (Bool × Sem Value)} {Q : PySem.Args → Shared → Prop} (hp : ts.any (·.1) = false) (hq : wpAny M A (spliced ts) (fun vs s' => Q ⟨vs, []⟩ s') E s) : wpAny M A (evalArgs f true ts []) Q E s := by
  cases ts with
  | nil =>
    unfold evalArgs
    show wpAny M A (spliced [] >>= _) Q E s
    refine wpAny_bind (wpAny_mono hq (fun vs s' h' => ?_) fun _ _ x => x)
    refine wpAny_bind (wpAny_pure (wpAny_holding ?_))
    exact wpAny_bind (wpAny_pure (wpAny_bind (wpAny_pure (wpAny_pure h'))))
  | cons t r =>
    obtain ⟨b, x⟩ := t
    cases b with
    | true => simp at hp
    | false => exact Calls.evalArgs_plain hq
end
end Mine
end
section
open PySem PySem.W PySem.Calls PyProof.Rows
set_option linter.unusedVariables false
namespace Mine
section
variable {prog : Program} {w : World} {A : Around} {env : Env} {hb h : Heap} {vars vars' : List (Str × Value)} {news : List (Addr × Obj)}

/-- room for frames and for C's own stack -/
structure Ok (A : Around) (n : Nat) : Prop where
  handled : A.handled = none
  depth : A.depth + n < recursionLimit
  units : A.units + 20 * n < cLine
theorem Ok.deeper {A : Around} {n : Nat} {env : Env} (a : Ok A (n + 1)) : Ok (A.deeper env) n :=
  ⟨a.handled, by have := a.depth; show A.depth + 1 + n < _; omega, by have := a.units; show A.units + 3 + 20 * n < _; omega⟩
theorem Ok.mono {A : Around} {n m : Nat} (a : Ok A n) (h : m ≤ n) : Ok A m := ⟨a.handled, by have := a.depth; omega, by have := a.units; omega⟩
theorem Ok.in1 {A : Around} {n : Nat} (a : Ok A (n + 1)) : Ok A.in1 n :=
  ⟨a.handled, by have := a.depth; show A.depth + n < _; omega, by have := a.units; show A.units + 1 + 20 * n < _; omega⟩

theorem Ev.callM {x : Str} {p pos : Pos} {es : List PySem.Expr} {f : Value} {G : List Value → Heap → Prop} {H : VP} (hf : Ev prog w A env h (.Name x p) (IsV f)) (ha : Ag prog w A env h pos es G)
    (hc : ∀ vs h', Sub h h' → G vs h' → Gr prog w A h' (call f vs) H) (hm : keeperOf f = pure .machine := by rfl) (hpl : (backTo pos (starEach es env)).any (·.1) = false := by rfl) : Ev prog w A env h (.Call (.Name x p) es [] pos) H := fun s E hs => by
  refine wpAny_Call_NameR (wpAny_mono (hf s E hs) (fun f' s₁ ⟨hv, k₁⟩ => ?_) fun _ _ e => e)
  cases hv
  refine cw_machine hm hpl (args_run hpl (wpAny_mono (ha s₁ E (hs.trans (Kp.sub k₁))) (fun vs s₂ ⟨hvs, k₂⟩ => ?_) fun _ _ e => e))
  exact wpAny_mono (hc vs s₂.heap (hs.trans ((Kp.sub k₁).trans (Kp.sub k₂))) hvs s₂ E (Sub.refl _)) (fun v s₃ ⟨hv, k₃⟩ => ⟨hv, Kp.trans k₁ (Kp.trans k₂ k₃)⟩) fun _ _ e => e
theorem Ev.callF {x : Str} {p pos : Pos} {es : List PySem.Expr} {a : Addr} {o : Obj} {fd : FuncData} {G : List Value → Heap → Prop} {H : VP} (hf : Ev prog w A env h (.Name x p) (IsV (.ref a))) (ho : h.get? a = some o) (hd : o.data = .func fd) (ha : Ag prog w A env h pos es G)
    (hc : ∀ vs h', Sub h h' → G vs h' → Gr prog w A h' (call (.ref a) vs) H) (hpl : (backTo pos (starEach es env)).any (·.1) = false := by rfl) : Ev prog w A env h (.Call (.Name x p) es [] pos) H := fun s E hs => by
  refine wpAny_Call_NameR (wpAny_mono (hf s E hs) (fun f' s₁ ⟨hv, k₁⟩ => ?_) fun _ _ e => e)
  cases hv
  refine Calls.callWith_function (o := o) (fd := fd) (args_run hpl (wpAny_mono (ha s₁ E (hs.trans (Kp.sub k₁))) (fun vs s₂ ⟨hvs, k₂⟩ => ⟨⟨Kp.sub k₂ _ _ (Kp.sub k₁ _ _ (hs _ _ ho)), hd⟩, ?_⟩) fun _ _ e => e))
  exact wpAny_mono (hc vs s₂.heap (hs.trans ((Kp.sub k₁).trans (Kp.sub k₂))) hvs s₂ E (Sub.refl _)) (fun v s₃ ⟨hv, k₃⟩ => ⟨hv, Kp.trans k₁ (Kp.trans k₂ k₃)⟩) fun _ _ e => e

theorem lookup_nodup {α : Type} : ∀ {cs : List (Str × α)} {n : Str} {c : α}, (cs.map (·.1)).Nodup → (n, c) ∈ cs → cs.lookup n = some c
  | (n', c') :: cs, n, c, hnd, hm => by
    rw [List.map_cons, List.nodup_cons] at hnd
    rcases List.mem_cons.mp hm with e | hm
    · cases e; simp
    · have hne : n ≠ n' := fun e => hnd.1 (e ▸ List.mem_map.mpr ⟨(n, c), hm, rfl⟩)
      rw [List.lookup_cons, beq_eq_false_iff_ne.mpr hne]
      exact lookup_nodup hnd.2 hm
structure GE (env : Env) (names : List (Str × NameKind)) : Prop where
  g : GEnv env
  k : ∀ x k, names.lookup x = some k → env.kindOf x = some k
/-- a def is entered -/
theorem fn_call {f : Addr} {o : Obj} {fd : FuncData} {body : List Stmt} {args : PySem.Args} {binds : List (Str × Value)} {H : VP} {n : Nat}
    (ho : h.get? f = some o) (hd : o.data = .func fd) (hlim : h.NoLimit) (hcd : h.CodeRec fd.code fd.qualname) (hbody : fd.body = .stmts body) (hcl : fd.closure = [])
    (hok : Ok A (n + 1)) (hbind : ∀ s, Sub h s.heap → BindsTo s fd args binds) (hcell : ∀ x ∈ fd.scope.names, x.2 ≠ .cell) (hloc : ∀ x ∈ binds, fd.scope.names.lookup x.1 = some .local) (hnd : (binds.map (·.1)).Nodup)
    (hbd : ∀ (s : Shared) (env : Env) (A' : Around) (h₁ : Heap) (tk : Nat), Sub h s.heap → St s.heap env binds [] h₁ → GE env fd.scope.names → Ok A' n →
      wpAny (model prog w) A' (execs body env) (fun fl s'' => ∃ v, fl = .ret v ∧ H v s''.heap ∧ ∃ h' tk', s'' = { s with heap := h', toks := tk' } ∧ Sub s.heap h') (fun _ _ => False) { s with heap := h₁, toks := tk })
    (hco : fd.scope.isCoroutine = false := by rfl) (hgen : fd.scope.isGenerator = false := by rfl) (hk : fd.scope.kind = .function := by rfl) (hg : fd.globals = mainGlobals := by rfl) (hbu : fd.builtins = builtinsNs := by rfl) :
    Gr prog w A h (call (.ref f) args.pos args.kw) H := fun s E hs => by
  refine wpAny_call (codeAny_call_def (fd := fd) (body := body) (binds := binds) (by have := hok.depth; omega) (hs _ _ ho) hd (hlim.keeps hs) ?_ hbody (hbind s hs) hcell hloc (fun h₁ hns hk₁ => ?_) hco hgen hk)
  · obtain ⟨c, oc, vs, tq, e1, e2, e3, e4⟩ := hcd
    exact ⟨c, oc, vs, tq, e1, hs _ _ e2, e3, e4⟩
  · have cells : (callEnv fd s.heap.objs.size f).cells = [] := hcl
    have S : St s.heap (callEnv fd s.heap.objs.size f) binds [] h₁ := by
      refine ⟨hk, hk₁, ⟨_, hns⟩, Heap.get?_none_of_le (Nat.le_refl _), fun n c hc => ?_, ?_, fun p hp => ?_, (fun p hp => nomatch hp), List.nodup_nil⟩
      · rw [cells] at hc; cases hc
      · rw [cells]; exact List.Pairwise.nil
      · refine .inl ⟨hloc p hp, _, hns, ?_⟩
        have hr : (binds.reverse.map (·.1)).Nodup := by rw [List.map_reverse]; exact (List.reverse_perm _).nodup_iff.mpr hnd
        exact lookup_nodup hr (List.mem_reverse.mpr hp)
    refine wpAny_mono (hbd s _ _ h₁ _ hs S ⟨⟨hk, hg, hbu⟩, fun x k e => e⟩ hok.deeper) (fun fl s'' hq => ?_) fun _ _ e => e.elim
    obtain ⟨v, rfl, hv, h', tk', rfl, hk'⟩ := hq
    exact ⟨hv, h', tk', rfl, hk'⟩

/-! statements -/
def CanSt (env : Env) (x : Str) : Prop := env.kindOf x = some .local ∨ (env.kindOf x = some .cell ∧ (env.cells.lookup x).isSome = true)

theorem St.store {x : Str} {v : Value} {s : Shared} {M : Model} {E : Value → Shared → Prop} {Q : Unit → Shared → Prop} (S : St hb env vars news s.heap) (hx : CanSt env x) (hd : Del x vars vars')
    (k : ∀ h' tk, St hb env ((x, v) :: vars') news h' → (∀ b o, b ≠ env.locals → (∀ n c, (n, c) ∈ env.cells → b ≠ c) → s.heap.get? b = some o → h'.get? b = some o) → Q () { s with heap := h', toks := tk }) :
    wpAny M A (storeName env x v) Q E s := by
  obtain ⟨m, hn⟩ := S.ns
  have hLc : ∀ n c, (n, c) ∈ env.cells → c ≠ env.locals := fun n c hc => (S.cells n c hc).2.2
  rcases hx with hx | ⟨hx, hc⟩
  · refine wpAny_storeName_local hx hn (fun h' hn' hs => ?_) (by rw [S.kind]; rfl)
    refine k h' (s.toks + 1) ⟨S.kind, fun b o e => hs.extBut b o (fun q => by rw [q, S.lnew] at e; cases e) (S.base b o e), ⟨_, hn'⟩, S.lnew,
      fun n c hc => let ⟨⟨v, a⟩, r⟩ := S.cells n c hc; ⟨⟨v, a.sameBut hs r.2⟩, r⟩, S.capart, fun p hp => ?_, fun p hp => ⟨(hs.2 _ (S.fn p hp).2.2.1).trans (S.fn p hp).1, (S.fn p hp).2⟩, S.ndup⟩ (fun b o hb _ e => hs.extBut b o hb e)
    rcases List.mem_cons.mp hp with rfl | hp
    · exact .inl ⟨hx, _, hn', by simp⟩
    · obtain ⟨hp1, hp2⟩ := hd.mem p hp
      rcases S.fv p hp1 with ⟨a, m', n', e⟩ | ⟨a, c, e, d⟩
      · refine .inl ⟨a, _, hn', ?_⟩
        have : m = m' := hn.eq_nsMap.trans n'.eq_nsMap.symm
        subst this
        simpa [hp2] using e
      · exact .inr ⟨a, c, e, d.sameBut hs (hLc _ c (mem_of_lookup e))⟩
  · obtain ⟨c, hc⟩ := Option.isSome_iff_exists.mp hc
    obtain ⟨⟨v₀, hv₀⟩, hcn, hcL⟩ := S.cells x c (mem_of_lookup hc)
    refine wpAny_storeName_cell S.kind hx hc hv₀ (fun h' hv' hs => ?_)
    refine k h' s.toks ⟨S.kind, fun b o e => hs.extBut b o (fun q => by rw [q, hcn] at e; cases e) (S.base b o e), ⟨m, hn.sameBut hs (Ne.symm hcL)⟩, S.lnew,
      fun n c' hc' => ?_, S.capart, fun p hp => ?_, fun p hp => ⟨(hs.2 _ ((S.fn p hp).2.2.2 x c (mem_of_lookup hc))).trans (S.fn p hp).1, (S.fn p hp).2⟩, S.ndup⟩ (fun b o _ hb e => hs.extBut b o (hb x c (mem_of_lookup hc)) e)
    · obtain ⟨⟨v, a⟩, r⟩ := S.cells n c' hc'
      by_cases q : c' = c
      · exact ⟨⟨_, q ▸ hv'⟩, r⟩
      · exact ⟨⟨v, a.sameBut hs q⟩, r⟩
    · rcases List.mem_cons.mp hp with rfl | hp
      · exact .inr ⟨.inl hx, c, hc, hv'⟩
      · obtain ⟨hp1, hp2⟩ := hd.mem p hp
        rcases S.fv p hp1 with ⟨a, m', n', e⟩ | ⟨a, c', e, d⟩
        · exact .inl ⟨a, m', n'.sameBut hs (Ne.symm hcL), e⟩
        · refine .inr ⟨a, c', e, d.sameBut hs fun q => hp2 ?_⟩
          exact name_of_addr S.capart (mem_of_lookup e) (q ▸ mem_of_lookup hc)

/-- new objects that a value brings -/
def Nw (h : Heap) (P : Value → List (Addr × Obj) → Prop) : VP := fun v h' => ∃ ns, P v ns ∧ (∀ p ∈ ns, h.get? p.1 = none ∧ h'.get? p.1 = some p.2) ∧ (ns.map (·.1)).Nodup
theorem Ev.nw {e : PySem.Expr} {P : Value → Prop} (a : Ev prog w A env h e (fun v _ => P v)) : Ev prog w A env h e (Nw h fun v ns => P v ∧ ns = []) :=
  a.imp fun v h' hv => ⟨[], ⟨hv, rfl⟩, (fun _ hp => nomatch hp), List.nodup_nil⟩

theorem St.assign {x : Str} {p : Pos} {e : PySem.Expr} {pos : Pos} {rest : List Stmt} {P : Value → List (Addr × Obj) → Prop} {s : Shared} {E : Value → Shared → Prop} {Q : Flow → Shared → Prop}
    (S : St hb env vars news s.heap) (hev : Ev prog w A env s.heap e (Nw s.heap P)) (hx : CanSt env x) (hd : Del x vars vars')
    (k : ∀ v ns h' tk, P v ns → St hb env ((x, v) :: vars') (ns ++ news) h' → wpAny (model prog w) A (execs rest env) Q E { s with heap := h', toks := tk })
    (hs : swapsWith e (some (.Name x p)) pos.line env = pure false := by rfl) :
    wpAny (model prog w) A (execs (.Assign [.Name x p] e pos :: rest) env) Q E s := by
  refine wpAny_execs_cons (wpAny_Assign_Name (wpAny_mono (hev s E (Sub.refl _)) (fun v s₁ ⟨hv, kk⟩ => ?_) fun _ _ e => e) hs)
  obtain ⟨ns, hP, hns, hnd⟩ := hv
  obtain ⟨h', tk, rfl, hk⟩ := kk
  exact (St.store (s := { s with heap := h', toks := tk }) (S.add hk ns hns hnd) hx hd fun h'' tk' S'' _ => k v ns h'' tk' hP S'')
/-- a plain value is stored -/
theorem St.assignV {x : Str} {p : Pos} {e : PySem.Expr} {pos : Pos} {rest : List Stmt} {P : Value → Prop} {s : Shared} {E : Value → Shared → Prop} {Q : Flow → Shared → Prop}
    (S : St hb env vars news s.heap) (hev : Ev prog w A env s.heap e (fun v _ => P v)) (hx : CanSt env x) (hd : Del x vars vars')
    (k : ∀ v h' tk, P v → St hb env ((x, v) :: vars') news h' → wpAny (model prog w) A (execs rest env) Q E { s with heap := h', toks := tk })
    (hs : swapsWith e (some (.Name x p)) pos.line env = pure false := by rfl) :
    wpAny (model prog w) A (execs (.Assign [.Name x p] e pos :: rest) env) Q E s :=
  St.assign S hev.nw hx hd (fun v ns h' tk ⟨hP, e⟩ S' => k v h' tk hP (by subst e; exact S')) hs
theorem St.assignI {x : Str} {p : Pos} {e : PySem.Expr} {pos : Pos} {rest : List Stmt} {i : Int} {s : Shared} {E : Value → Shared → Prop} {Q : Flow → Shared → Prop}
    (S : St hb env vars news s.heap) (hev : Ev prog w A env s.heap e (IsI i)) (hx : CanSt env x) (hd : Del x vars vars')
    (k : ∀ t h' tk, St hb env ((x, .int i t) :: vars') news h' → wpAny (model prog w) A (execs rest env) Q E { s with heap := h', toks := tk })
    (hs : swapsWith e (some (.Name x p)) pos.line env = pure false := by rfl) :
    wpAny (model prog w) A (execs (.Assign [.Name x p] e pos :: rest) env) Q E s :=
  St.assignV (P := fun v => ∃ t, v = .int i t) S hev hx hd (fun v h' tk ⟨t, e⟩ S' => k t h' tk (by subst e; exact S')) hs
theorem St.assignB {x : Str} {p : Pos} {e : PySem.Expr} {pos : Pos} {rest : List Stmt} {i : Array UInt8} {s : Shared} {E : Value → Shared → Prop} {Q : Flow → Shared → Prop}
    (S : St hb env vars news s.heap) (hev : Ev prog w A env s.heap e (IsB i)) (hx : CanSt env x) (hd : Del x vars vars')
    (k : ∀ t h' tk, St hb env ((x, .bytes i t) :: vars') news h' → wpAny (model prog w) A (execs rest env) Q E { s with heap := h', toks := tk })
    (hs : swapsWith e (some (.Name x p)) pos.line env = pure false := by rfl) :
    wpAny (model prog w) A (execs (.Assign [.Name x p] e pos :: rest) env) Q E s :=
  St.assignV (P := fun v => ∃ t, v = .bytes i t) S hev hx hd (fun v h' tk ⟨t, e⟩ S' => k t h' tk (by subst e; exact S')) hs

theorem St.ret {e : PySem.Expr} {pos : Pos} {rest : List Stmt} {F : VP} {s : Shared} {E : Value → Shared → Prop} {Q : Flow → Shared → Prop}
    (hev : Ev prog w A env s.heap e F) (k : ∀ v h' tk, Sub s.heap h' → F v h' → Q (.ret v) { s with heap := h', toks := tk }) : wpAny (model prog w) A (execs (.Return (some e) pos :: rest) env) Q E s :=
  wpAny_execs_cons (wpAny_Return_some (Gr.use hev k))
theorem St.ifs {c : PySem.Expr} {body orelse : List Stmt} {pos : Pos} {rest : List Stmt} {b : Bool} {s : Shared} {E : Value → Shared → Prop} {Q : Flow → Shared → Prop}
    (hc : Te prog w A env s.heap c b)
    (kT : b = true → ∀ h' tk, Sub s.heap h' → wpAny (model prog w) A (execs body env) (fun f s' => match f with | .next => wpAny (model prog w) A (execs rest env) Q E s' | f => Q f s') E { s with heap := h', toks := tk })
    (kF : b = false → ∀ h' tk, Sub s.heap h' → wpAny (model prog w) A (execs orelse env) (fun f s' => match f with | .next => wpAny (model prog w) A (execs rest env) Q E s' | f => Q f s') E { s with heap := h', toks := tk }) :
    wpAny (model prog w) A (execs (.If c body orelse pos :: rest) env) Q E s := by
  refine wpAny_execs_cons (wpAny_If (Gr.use (F := fun v _ => v = b) (show Gr prog w A s.heap _ _ from hc) fun v h' tk hk hv => ?_))
  subst hv
  cases v
  · exact kF rfl h' tk hk
  · exact kT rfl h' tk hk
theorem X.nil {M : Model} {s : Shared} {E : Value → Shared → Prop} {Q : Flow → Shared → Prop} (k : Q .next s) : wpAny M A (execs [] env) Q E s := wpAny_execs_nil k
end
end Mine
end
section
open PySem PySem.W PySem.Calls PyProof.Rows
set_option linter.unusedVariables false
set_option maxRecDepth 100000
namespace Mine
def IsL (items : List Value) : VP := fun v h => ∃ a, v = .ref a ∧ h.IsList a items.toArray
theorem IsL.sub {items : List Value} : Mono (IsL items) := fun _ _ _ k ⟨a, e, x⟩ => ⟨a, e, x.at fun o e => k a o e⟩
/-- a list at a known address -/
def IsLA (a : Addr) (items : List Value) : VP := fun v h => v = .ref a ∧ h.IsList a items.toArray
theorem IsLA.sub {a : Addr} {items : List Value} : Mono (IsLA a items) := fun _ _ _ k ⟨e, x⟩ => ⟨e, x.at fun o e => k a o e⟩
theorem IsLA.l {a : Addr} {items : List Value} {v : Value} {h : Heap} (x : IsLA a items v h) : IsL items v h := ⟨a, x⟩
/-- a list's object -/
def lstO (items : List Value) (n : Nat) : Obj := { cls := .type "list", data := .seq items.toArray n }
theorem lstO.at {h : Heap} {a : Addr} {items : List Value} {n : Nat} (e : h.get? a = some (lstO items n)) : h.IsList a items.toArray := ⟨_, e, rfl, n, rfl⟩
def IsT (items : List Value) : VP := fun v h => ∃ a, v = .ref a ∧ ∃ n, h.get? a = some { cls := .type "tuple", data := .seq items.toArray n }
theorem IsT.sub {items : List Value} : Mono (IsT items) := fun _ _ _ k ⟨a, e, n, x⟩ => ⟨a, e, n, k _ _ x⟩

section
variable {prog : Program} {w : World} {A : Around} {env : Env} {hb h : Heap} {vars vars' : List (Str × Value)} {news : List (Addr × Obj)}

theorem Gr.imp' {α : Type} {t : Sem α} {F G : α → Heap → Prop} (a : Gr prog w A h t F) (i : ∀ v h', Sub h h' → F v h' → G v h') : Gr prog w A h t G := fun s E hs =>
  wpAny_mono (a s E hs) (fun v s' ⟨hv, k⟩ => ⟨i v _ (hs.trans (Kp.sub k)) hv, k⟩) fun _ _ e => e
theorem Ev.imp' {e : PySem.Expr} {F G : VP} (a : Ev prog w A env h e F) (i : ∀ v h', Sub h h' → F v h' → G v h') : Ev prog w A env h e G := Gr.imp' a i
theorem Ev.lst {e : PySem.Expr} {l : Addr} {items : List Value} (a : Ev prog w A env h e (IsV (.ref l))) (hl : h.IsList l items.toArray) : Ev prog w A env h e (IsL items) := a.imp' fun v h' k hv => ⟨l, hv, hl.at fun o e => k l o e⟩
theorem St.evL (S : St hb env vars news h) {x : Str} {l : Addr} {items : List Value} {pos : Pos} (hm : (x, .ref l) ∈ vars) (hl : h.IsList l items.toArray) (hd : (x == ("__debug__" : Str)) = false := by decide) : Ev prog w A env h (.Name x pos) (IsL items) := (S.ev hm hd).lst hl
theorem g_truth_list {a : Addr} {items : List Value} (hl : h.IsList a items.toArray) (hz : items.length < 2 ^ 62) : Gr prog w A h (truthy (.ref a)) (fun v _ => v = !items.isEmpty) := fun s _ hs =>
  wpAny_truthy_list (hl.at fun o e => hs a o e) (by simp; omega) ⟨by cases items <;> rfl, Kp.tok s _⟩
theorem Te.list {x : PySem.Expr} {items : List Value} (hx : Ev prog w A env h x (IsL items)) (hz : items.length < 2 ^ 62) (hp : isTrue x env (eval x env) = (do let v ← eval x env; standAt x.pos; holding [v] (truthy v)) := by rfl) : Te prog w A env h x (!items.isEmpty) :=
  Te.val hx (fun _ _ _ ⟨a, ha, hl⟩ => by subst ha; exact g_truth_list hl hz) hp
theorem g_len_list {a : Addr} {items : List Value} (hl : h.IsList a items.toArray) (hz : items.length < 2 ^ 62) : Gr prog w A h (call (.builtin "len") [.ref a]) (IsI items.length) := fun s _ hs =>
  call_len_list (hl.at fun o e => hs a o e) (by simp; omega) ⟨⟨_, by simp; rfl⟩, Kp.tok s _⟩
theorem g_len_bytes {b : Array UInt8} {t : Tok} (hz : b.size ≤ 1099511627776) : Gr prog w A h (call (.builtin "len") [.bytes b t]) (IsI b.size) := fun s _ _ => len_bytes hz ⟨⟨_, rfl⟩, Kp.tok s _⟩

theorem Ev.len1 {x : Str} {p pos : Pos} {e : PySem.Expr} {F : VP} {n : Int} (hf : Ev prog w A env h (.Name x p) (IsV (.builtin "len"))) (he : Ev prog w A env h e F) (mF : Mono F) (hc : ∀ v h', Sub h h' → F v h' → Gr prog w A h' (call (.builtin "len") [v]) (IsI n))
    (hq : backTo pos (starEach [e] env) = (false, eval e env) :: backTo pos (starEach [] env) := by rfl) : Ev prog w A env h (.Call (.Name x p) [e] [] pos) (IsI n) :=
  Ev.callM hf (Ag.one he mF hq) (fun vs h' k ⟨v, e1, e2⟩ => by subst e1; exact hc v h' k e2) rfl (by rw [hq]; rfl)

theorem Ev.subs {value slice : PySem.Expr} {pos : Pos} {F G H : VP} (hv : Ev prog w A env h value F) (hi : Ev prog w A env h slice G) (mF : Mono F)
    (ho : ∀ o i (s : Shared), Sub h s.heap → F o s.heap → G i s.heap → ∃ T id, s.TypeIs o T ∧ typeLookup (.type T) "__getitem__" = pure (some (.builtin id)) ∧ Gr prog w A s.heap (getItem o i) H)
    (hs : ∀ o i, ∃ ops, subscripted slice false o i = operate ops (getItem o i) := by intro o i; exact ⟨_, by with_unfolding_all rfl⟩) : Ev prog w A env h (.Subscript value slice pos) H := fun s E hsub =>
  Subscript_ (wpAny_mono (hv s E hsub) (fun o s₁ ⟨ho', k₁⟩ => wpAny_mono (hi s₁ E (hsub.trans (Kp.sub k₁))) (fun i s₂ ⟨hi', k₂⟩ => by
    obtain ⟨T, id, hT, hl, hg⟩ := ho o i s₂ (hsub.trans ((Kp.sub k₁).trans (Kp.sub k₂))) (mF _ _ _ (Kp.sub k₂) ho') hi'
    obtain ⟨ops, hops⟩ := hs o i
    exact tail_any hT hl (wpAny_mono (hg s₂ E (Sub.refl _)) (fun v s₃ ⟨hv, k₃⟩ => ⟨hv, Kp.trans k₁ (Kp.trans k₂ k₃)⟩) fun _ _ e => e) hops) fun _ _ e => e) fun _ _ e => e)

theorem Ev.itemL {value slice : PySem.Expr} {pos : Pos} {items : List Value} {k : Int} {x : Value} (hv : Ev prog w A env h value (IsL items)) (hi : Ev prog w A env h slice (IsI k)) (h0 : 0 ≤ k) (h1 : k < 2 ^ 63) (hx : items[k.toNat]? = some x)
    (hs : ∀ o i, ∃ ops, subscripted slice false o i = operate ops (getItem o i) := by intro o i; exact ⟨_, by with_unfolding_all rfl⟩) : Ev prog w A env h (.Subscript value slice pos) (IsV x) :=
  Ev.subs hv hi IsL.sub (fun o i s hsub ⟨a, e, hl⟩ ⟨t, ei⟩ => by
    subst e ei
    exact ⟨"list", _, hl.typeIs, slot_list_getitem.lookup, fun s' E' hs' => wpAny_getItem_list (hl.at fun o e => hs' a o e) h0 h1 (by simpa using hx) ⟨rfl, Kp.refl s'⟩⟩) hs
theorem Ev.itemLN {value slice : PySem.Expr} {pos : Pos} {items : List Value} {k : Int} {x : Value} (hv : Ev prog w A env h value (IsL items)) (hi : Ev prog w A env h slice (IsI k)) (h0 : k < 0) (h1 : -(items.length : Int) ≤ k) (hz : -(2 ^ 63) ≤ k) (hx : items[(k + items.length).toNat]? = some x)
    (hs : ∀ o i, ∃ ops, subscripted slice false o i = operate ops (getItem o i) := by intro o i; exact ⟨_, by with_unfolding_all rfl⟩) : Ev prog w A env h (.Subscript value slice pos) (IsV x) :=
  Ev.subs hv hi IsL.sub (fun o i s hsub ⟨a, e, hl⟩ ⟨t, ei⟩ => by
    subst e ei
    exact ⟨"list", _, hl.typeIs, slot_list_getitem.lookup, fun s' E' hs' => wpAny_getItem_list_neg (hl.at fun o e => hs' a o e) h0 (by simpa using h1) hz (by simpa using hx) ⟨rfl, Kp.refl s'⟩⟩) hs
theorem Ev.itemB {value slice : PySem.Expr} {pos : Pos} {l : List UInt8} {k : Int} (hv : Ev prog w A env h value (IsB l.toArray)) (hi : Ev prog w A env h slice (IsI k)) (hz : l.length ≤ 1099511627776) (h0 : 0 ≤ k) (h1 : k < l.length)
    (hs : ∀ o i, ∃ ops, subscripted slice false o i = operate ops (getItem o i) := by intro o i; exact ⟨_, by with_unfolding_all rfl⟩) : Ev prog w A env h (.Subscript value slice pos) (IsI (l.getD k.toNat 0).toNat) :=
  Ev.subs hv hi (mB _) (fun o i s hsub ⟨a, e⟩ ⟨t, ei⟩ => by
    subst e ei
    exact ⟨"bytes", _, typeIs_bytes _ _ _, FB.slot_bytes_getitem.lookup, fun s' E' hs' => getItem_bytes hz h0 h1 ⟨⟨_, rfl⟩, Kp.tok s' _⟩⟩) hs
/-- an int's slice part -/
inductive Part (prog : Program) (w : World) (A : Around) (env : Env) (h : Heap) : Option PySem.Expr → Option Int → Prop
  | none : Part prog w A env h none none
  | some {e i} : Ev prog w A env h e (IsI i) → Part prog w A env h (some e) (some i)
theorem Part.run {e : Option PySem.Expr} {i : Option Int} (x : Part prog w A env h e i) : Gr prog w A h (valueOrNone (evalOpt e env)) (fun v _ => IsPart v i) := by
  cases x with
  | none => exact fun s E hs => wpAny_pure ⟨.none, Kp.refl s⟩
  | some he => exact Gr.imp he.gr fun v h' ⟨t, e⟩ => e ▸ IsPart.int _ _
theorem Ev.slice2 {lo up : Option PySem.Expr} {i j : Option Int} {pos : Pos} (hl : Part prog w A env h lo i) (hu : Part prog w A env h up j) :
    Ev prog w A env h (.Slice lo up none pos) (fun v h' => ∃ a l u, v = .ref a ∧ IsPart l i ∧ IsPart u j ∧ h'.IsSliceOf a l u .none) := fun s E hs => by
  rw [arm_eval_Slice]
  refine wpAny_bind (wpAny_mono (hl.run s E hs) (fun l s₁ ⟨hl', k₁⟩ => wpAny_bind (wpAny_holding (wpAny_mono (hu.run s₁ E (hs.trans (Kp.sub k₁))) (fun u s₂ ⟨hu', k₂⟩ => ?_) fun _ _ e => e))) fun _ _ e => e)
  refine wpAny_bind (wpAny_holding (wpAny_pure ?_))
  exact wpAny_newObj_type ⟨⟨_, l, u, rfl, hl', hu', Heap.IsSliceOf.new _ _ _ _⟩, Kp.trans k₁ (Kp.trans k₂ (Kp.heap1 (Sub.push _ _)))⟩
theorem Heap.IsSliceOf.at' {h h' : Heap} {a : Addr} {l u s : Value} (x : h.IsSliceOf a l u s) (k : Sub h h') : h'.IsSliceOf a l u s := let ⟨o, ho, r⟩ := x; ⟨o, k _ _ ho, r⟩
theorem Ev.cutB {value : PySem.Expr} {lo up : Option PySem.Expr} {i j : Option Int} {p pos : Pos} {b : Array UInt8} (hv : Ev prog w A env h value (IsB b)) (hl : Part prog w A env h lo i) (hu : Part prog w A env h up j) (hz : b.size ≤ sizeLine) :
    Ev prog w A env h (.Subscript value (.Slice lo up none p) pos) (IsB (KBy.picked b i j)) :=
  Ev.subs hv (Ev.slice2 hl hu) (mB _) (fun o q s hsub ⟨a, e⟩ ⟨sa, l, u, ei, pl, pu, sl⟩ => by
    subst e ei
    exact ⟨"bytes", _, typeIs_bytes _ _ _, FB.slot_bytes_getitem.lookup, fun s' E' hs' => getItem_meets (typeIs_bytes _ _ _) (by decide) FB.slot_bytes_getitem FB.entry_bytes_getitem (FB.args_bytes_getitem_2 _ _) (KBc.meets_slice2 b a _ pl pu)
      ⟨Heap.IsSliceOf.at' sl hs', Nat.le_trans (KBc.size_picked_le b i j) hz, fun t' k => ⟨⟨t', rfl⟩, Kp.tok s' k⟩⟩⟩)

theorem Ev.addB {l r : PySem.Expr} {pos : Pos} {a b : Array UInt8} (hl : Ev prog w A env h l (IsB a)) (hr : Ev prog w A env h r (IsB b)) (hz : a.size + b.size ≤ 16777216) : Ev prog w A env h (.BinOp l .Add r pos) (IsB (a ++ b)) :=
  Ev.bin hl hr (mB a) fun _ _ _ _ ⟨_, ha⟩ ⟨_, hb⟩ s _ _ => by subst ha hb; exact KBy.add_bytes hz fun t k => ⟨⟨t, rfl⟩, Kp.tok s k⟩
theorem Ev.mulB {l r : PySem.Expr} {pos : Pos} {b : List UInt8} {n : Int} (hl : Ev prog w A env h l (IsB b.toArray)) (hr : Ev prog w A env h r (IsI n)) (hb : b ≠ []) (hlo : -1048576 ≤ n) (hn : n ≤ 1048576) (hs : b.length ≤ 16) :
    Ev prog w A env h (.BinOp l .Mult r pos) (IsB ((List.replicate n.toNat b).flatten).toArray) :=
  Ev.bin hl hr (mB _) fun _ _ _ _ ⟨_, ha⟩ ⟨_, hb'⟩ s _ _ => by subst ha hb'; exact bytes_mul_any hb hlo hn hs fun t k => ⟨⟨t, rfl⟩, Kp.tok s k⟩
theorem g_eqB {a b : Array UInt8} {t u : Tok} : Gr prog w A h (compareOp .Eq (.bytes a t) (.bytes b u)) (IsV (.bool (a.toList == b.toList))) := fun s _ _ => PySem.W.eq_bytes ⟨rfl, Kp.refl s⟩
theorem g_neB {a b : Array UInt8} {t u : Tok} : Gr prog w A h (compareOp .NotEq (.bytes a t) (.bytes b u)) (IsV (.bool (a.toList != b.toList))) := fun s _ _ => PySem.W.ne_bytes ⟨rfl, Kp.refl s⟩
theorem Te.neB {l r : PySem.Expr} {pos : Pos} {a b : Array UInt8} (hl : Ev prog w A env h l (IsB a)) (hr : Ev prog w A env h r (IsB b)) (hm : behindInMarks .NotEq r = false := by with_unfolding_all rfl) : Te prog w A env h (.Compare l [.NotEq] [r] pos) (a.toList != b.toList) :=
  Te.cmp hl hr (mB a) (fun _ _ _ _ ⟨_, ha⟩ ⟨_, hb⟩ => by subst ha hb; exact g_neB) hm
end
end Mine
end
section
open PySem PySem.W PySem.Calls PyProof.Rows
set_option linter.unusedVariables false
set_option maxRecDepth 100000
namespace Mine
section
variable {prog : Program} {w : World} {A : Around} {env : Env} {hb h : Heap} {vars vars' : List (Str × Value)} {news : List (Addr × Obj)}

theorem mark_none (A : Around) : A.mark none = A := by cases A; rfl

/-- a while: an invariant over the names and the ledger, a measure -/
theorem St.while_ {test : PySem.Expr} {body rest : List Stmt} {pos : Pos} {s : Shared} {E : Value → Shared → Prop} {Q : Flow → Shared → Prop} {n : Nat}
    (J : Nat → List (Str × Value) → List (Addr × Obj) → Prop) (JD : List (Str × Value) → List (Addr × Obj) → Prop)
    (S : St hb env vars news s.heap) (h0 : J n vars news)
    (turn : ∀ n vars news h, J n vars news → St hb env vars news h → ∃ b, Te prog w A env h test b ∧ (b = false → JD vars news) ∧
      (b = true → ∀ h₁ tk E', St hb env vars news h₁ → wpAny (model prog w) A (execs body env)
        (fun f s' => f = .next ∧ ∃ m vars' news' h' tk', m < n ∧ J m vars' news' ∧ St hb env vars' news' h' ∧ s' = { s with heap := h', toks := tk' }) E' { s with heap := h₁, toks := tk }))
    (done : ∀ vars news h tk, JD vars news → St hb env vars news h → wpAny (model prog w) A (execs rest env) Q E { s with heap := h, toks := tk }) :
    wpAny (model prog w) A (execs (.While test body [] pos :: rest) env) Q E s := by
  refine wpAny_execs_cons (wpAny_While (codeAny_whileLoop (fun n s' => ∃ vars news h tk, J n vars news ∧ St hb env vars news h ∧ s' = { s with heap := h, toks := tk }) ?_ n ⟨vars, news, s.heap, s.toks, h0, S, rfl⟩))
  rintro n s' ⟨vars, news, h, tk, hJ, S, rfl⟩
  obtain ⟨b, hT, hF, hB⟩ := turn n vars news h hJ S
  refine Gr.use (F := fun v _ => v = b) (s := { s with heap := h, toks := tk }) (show Gr prog w A h _ _ from hT) fun v h' tk' k hv => ?_
  subst hv
  cases v with
  | false =>
    simp only [Bool.false_eq_true, if_false]
    exact wpAny_execs_nil (done vars news h' tk' (hF rfl) (S.grow k))
  | true =>
    simp only [if_true]
    refine wpAny_mono (hB rfl h' tk' _ (S.grow k)) (fun f s' hq => ?_) fun _ _ e => e
    obtain ⟨rfl, m, vars', news', h'', tk'', hm, hJ', S', rfl⟩ := hq
    exact ⟨m, hm, vars', news', h'', tk'', hJ', S', rfl⟩

/-- an iterator stands at I -/
structure Itr (prog : Program) (w : World) (A : Around) (I : Addr) (fp : List Addr) (n : Nat) (P : Nat → Value → Prop) (T : Nat → Heap → Prop) : Prop where
  W : Walks prog w A I (I :: fp) [I] n P T
  live : ∀ i h, T i h → ∃ o, h.get? I = some o

theorem Itr.range (hh : A.handled = none) (I : Addr) (a c : Int) (n : Nat) : Itr prog w A I [] n (fun i v => ∃ t, v = .int (a + i * c) t) (fun i h => IsRangeIter h I (a + (i : Nat) * c) ((n : Int) - (i : Nat)) c) :=
  ⟨Walks.range hh I a c n, fun i h x => ⟨_, x⟩⟩
theorem Itr.list (hh : A.handled = none) (I ax : Addr) (hne : ax ≠ I) (items : Array Value) : Itr prog w A I [ax] items.size (fun i v => items[i]? = some v) (fun i h => h.IsListIter I ax i ∧ h.IsList ax items) :=
  ⟨Walks.list hh I ax hne items, fun i h ⟨⟨o, ho, _⟩, _⟩ => ⟨o, ho⟩⟩
theorem Itr.bytes (hh : A.handled = none) (I : Addr) (b : Array UInt8) (t : Tok) : Itr prog w A I [] b.size (fun i v => ∃ c u, b[i]? = some c ∧ v = .int (c.toNat : Int) u) (fun i h => KBw.IsBytesIter h I b t i) :=
  ⟨KBw.walks hh I b t, fun i h ⟨o, ho, _⟩ => ⟨o, ho⟩⟩

/-- what a value gives when it is walked -/
def Src (prog : Program) (w : World) (A : Around) (h : Heap) (v : Value) (fp : List Addr) (n : Nat) (P : Nat → Value → Prop) : Prop :=
  ∀ (s : Shared) (E : Value → Shared → Prop), Sub h s.heap → wpAny (model prog w) A (pyIter v) (fun it s' => ∃ I T, it = .ref I ∧ s.heap.get? I = none ∧ Itr prog w A I fp n P T ∧ T 0 s'.heap ∧ Keeps s s') E s
theorem push_new (h : Heap) : h.get? h.objs.size = none := Heap.get?_none_of_le (Nat.le_refl _)
theorem Itr.imp {I : Addr} {fp : List Addr} {n : Nat} {P P' : Nat → Value → Prop} {T : Nat → Heap → Prop} (R : Itr prog w A I fp n P T) (i : ∀ k v, P k v → P' k v) : Itr prog w A I fp n P' T :=
  ⟨⟨R.W.sub, R.W.frame, fun k s Q E hk st hQ => R.W.item k s Q E hk st fun v h' tk hP => hQ v h' tk (i k v hP), R.W.done, R.W.self⟩, R.live⟩
theorem Src.range {r : Addr} {t u v : Tok} {n : Nat} (hh : A.handled = none) (hr : IsRange h r 0 (n : Int) 1 t u v) (hn : n < 2 ^ 31) : Src prog w A h (.ref r) [] n (fun i v => ∃ t, v = .int (i : Nat) t) := fun s E hs => by
  refine wpAny_pyIter_range (hs _ _ hr) (small_one (by omega) (by omega) (by omega) (by omega)) ?_
  have e : Builtin.Range.rangeSize 0 (n : Int) 1 = (n : Int) := by rw [rangeSize_nat]; simp
  rw [e]
  refine ⟨_, _, rfl, push_new _, (Itr.range hh s.heap.objs.size 0 1 n).imp fun k v ⟨t, e⟩ => ⟨t, ?_⟩, ?_, Kp.heap1 (Sub.push _ _)⟩
  · rw [e, Int.mul_one, Int.zero_add]
  · have g := Heap.get?_push_size s.heap (o := { cls := .type "range_iterator", data := .fields #[rawInt 0, rawInt (n : Int), rawInt 1] }) rfl
    have e1 : (0 : Int) + ((0 : Nat) : Int) * 1 = 0 := by decide
    have e2 : (n : Int) - ((0 : Nat) : Int) = n := by omega
    show IsRangeIter _ _ _ _ _
    rw [e1, e2]
    exact g
theorem Src.list {l : Addr} {items : List Value} (hh : A.handled = none) (hl : h.IsList l items.toArray) : Src prog w A h (.ref l) [l] items.length (fun i v => items[i]? = some v) := fun s E hs => by
  have hl' : s.heap.IsList l items.toArray := hl.at fun o e => hs _ _ e
  have hne : l ≠ s.heap.objs.size := by obtain ⟨o, ho, _⟩ := hl'; exact Nat.ne_of_lt (Heap.lt_size ho)
  have R := Itr.list (prog := prog) (w := w) hh s.heap.objs.size l hne items.toArray
  rw [show items.toArray.size = items.length from by simp] at R
  refine wpAny_pyIter_list hl' ?_
  refine ⟨_, _, rfl, push_new _, R.imp fun k v e => ?_, ⟨⟨_, Heap.get?_push_size _ rfl, rfl, rfl⟩, hl'.push _⟩, Kp.heap1 (Sub.push _ _)⟩
  rw [List.getElem?_toArray] at e
  exact e
theorem Src.bytes {b : Array UInt8} {t : Tok} (hh : A.handled = none) : Src prog w A h (.bytes b t) [] b.size (fun i v => ∃ c u, b[i]? = some c ∧ v = .int (c.toNat : Int) u) := fun s E hs =>
  KBw.pyIter_bytes ⟨_, _, rfl, push_new _, Itr.bytes hh _ b t, ⟨_, Heap.get?_push_size _ rfl, rfl, rfl⟩, Kp.heap1 (Sub.push _ _)⟩

/-- a for: an invariant over the names and the ledger at each turn's head -/
theorem St.for_ {target iter : PySem.Expr} {body rest : List Stmt} {pos : Pos} {s : Shared} {E : Value → Shared → Prop} {Q : Flow → Shared → Prop} {F : VP} {fp : List Addr} {n : Nat} {P : Nat → Value → Prop}
    (J : Nat → List (Str × Value) → List (Addr × Obj) → Prop)
    (S : St hb env vars news s.heap) (hev : Ev prog w A env s.heap iter F) (hsrc : ∀ v h', Sub s.heap h' → F v h' → Src prog w A h' v fp n P)
    (hfp : ∀ b ∈ fp, (∃ o, hb.get? b = some o) ∨ ∃ o, ∀ i vars news, J i vars news → (b, o) ∈ news)
    (h0 : J 0 vars news)
    (turn : ∀ i v vars news h tk I oI E', i < n → P i v → J i vars news → St hb env vars ((I, oI) :: news) h →
      wpAny (model prog w) A (PySem.assign target env v) (fun _ s₁ => wpAny (model prog w) A (execs body env)
        (fun f s' => match f with
          | .next | .cont => ∃ vars' news' h' tk', J (i + 1) vars' news' ∧ St hb env vars' ((I, oI) :: news') h' ∧ s' = { s with heap := h', toks := tk' }
          | .brk => False
          | .ret v => Q (.ret v) s') E' s₁) E' { s with heap := h, toks := tk })
    (done : ∀ vars news h tk, J n vars news → St hb env vars news h → wpAny (model prog w) A (execs rest env) Q E { s with heap := h, toks := tk })
    (hs : ∀ x, foldedSetIterable iter env x = pure x := by intro _; rfl) (ht : ∀ it v, letOwnedTupleGo target it v = pure () := by intro _ _; rfl) :
    wpAny (model prog w) A (execs (.For target iter body [] pos :: rest) env) Q E s := by
  refine wpAny_execs_cons (wpAny_For (Gr.use hev.gr fun x h₁ tk₁ k₁ hx => ?_) hs)
  refine wpAny_mono (hsrc x h₁ k₁ hx { s with heap := h₁, toks := tk₁ } _ (Sub.refl _)) (fun it s₂ hit => ?_) fun _ _ e => e
  obtain ⟨⟨I, T, rfl, hI, R, hT, kk⟩, hk⟩ := And.intro hit trivial
  obtain ⟨h₂, tk₂, rfl, k₂⟩ := kk
  obtain ⟨o₀, ho₀⟩ := R.live 0 _ hT
  have S₁ := S.grow k₁
  have S₂ : St hb env vars ((I, o₀) :: news) h₂ := S₁.add k₂ [(I, o₀)] (fun p hp => by rw [List.mem_singleton.mp hp]; exact ⟨hI, ho₀⟩) (by simp)
  refine codeAny_forLoop (fun k s' => ∃ i vars news h tk oI, i ≤ n ∧ k = n + 1 - i ∧ J i vars news ∧ St hb env vars ((I, oI) :: news) h ∧ T i h ∧ s' = { s with heap := h, toks := tk }) ?_ (n + 1)
    ⟨0, vars, news, h₂, tk₂, o₀, Nat.zero_le _, rfl, h0, S₂, hT, rfl⟩ (ht _)
  rintro k s' ⟨i, vars, news, h, tk, oI, hi, rfl, hJ, SI, hTi, rfl⟩
  by_cases hlt : i < n
  · refine R.W.item i { s with heap := h, toks := tk } _ _ hlt hTi fun v h' tk' hP hT' hk' => ?_
    obtain ⟨oI', hoI'⟩ := R.live _ _ hT'
    have S' : St hb env vars ((I, oI') :: news) h' := St.upd (pre := []) SI (fun b x hb e => hk' b x (by simpa using hb) e) hoI'
    refine wpAny_mono (turn i v vars news h' tk' I oI' _ hlt hP hJ S') (fun _ s₁ hq => wpAny_mono hq (fun f s₃ h₃ => ?_) fun _ _ e => e) fun _ _ e => e
    have fin : (∃ vars' news' h' tk', J (i + 1) vars' news' ∧ St hb env vars' ((I, oI') :: news') h' ∧ s₃ = { s with heap := h', toks := tk' }) →
        ∃ m, m < n + 1 - i ∧ ∃ i vars news h tk oI, i ≤ n ∧ m = n + 1 - i ∧ J i vars news ∧ St hb env vars ((I, oI) :: news) h ∧ T i h ∧ s₃ = { s with heap := h, toks := tk } := by
      rintro ⟨vars', news', h'', tk'', hJ', S'', rfl⟩
      refine ⟨n + 1 - (i + 1), by omega, i + 1, vars', news', h'', tk'', oI', hlt, rfl, hJ', S'', ?_, rfl⟩
      refine R.W.frame _ _ _ hT' fun b hbf o e => ?_
      rcases List.mem_cons.mp hbf with rfl | hbf
      · rw [hoI'] at e; cases e
        exact (S''.fn _ (.head _)).1
      · rcases hfp b hbf with ⟨o', ho'⟩ | ⟨o', ho'⟩
        · have e1 := S'.base _ _ ho'
          rw [e] at e1; cases e1
          exact S''.base _ _ ho'
        · have e1 := (S'.fn _ (.tail _ (ho' _ _ _ hJ))).1
          rw [e] at e1; cases e1
          exact (S''.fn _ (.tail _ (ho' _ _ _ hJ'))).1
    cases f with
    | next => exact fin h₃
    | cont => exact fin h₃
    | brk => exact h₃.elim
    | ret v => exact h₃
  · have hin : i = n := by omega
    subst hin
    refine R.W.done { s with heap := h, toks := tk } _ _ hTi fun h' tk' hk' => wpAny_execs_nil ?_
    have D := SI.fn (I, oI) (.head _)
    have nd := SI.ndup
    rw [List.map_cons, List.nodup_cons] at nd
    exact done vars news h' tk' hJ ((SI.weakN (List.sublist_cons_self _ _)).off I D.2.1 D.2.2.1 (fun n c hc => D.2.2.2 n c hc) (fun p hp q => nd.1 (List.mem_map.mpr ⟨p, hp, q⟩)) fun b o hb e => hk' b o (by simpa using hb) e)

theorem St.assignTo {x : Str} {p : Pos} {v : Value} {s : Shared} {M : Model} {E : Value → Shared → Prop} {Q : Unit → Shared → Prop} (S : St hb env vars news s.heap) (hx : CanSt env x) (hd : Del x vars vars')
    (k : ∀ h' tk, St hb env ((x, v) :: vars') news h' → Q () { s with heap := h', toks := tk }) : wpAny M A (PySem.assign (.Name x p) env v) Q E s :=
  wpAny_assign_Name (St.store S hx hd fun h' tk S' _ => k h' tk S')

/-- a list of the ledger's takes one more -/
theorem appendTo {x : Str} {e : PySem.Expr} {p apos cpos pos : Pos} {rest : List Stmt} {P : Value → List (Addr × Obj) → Prop} {pre post : List (Addr × Obj)} {d : Addr} {items : List Value} {n : Nat} {s : Shared} {E : Value → Shared → Prop} {Q : Flow → Shared → Prop}
    (S : St hb env vars (pre ++ (d, lstO items n) :: post) s.heap) (hm : (x, .ref d) ∈ vars) (hev : Ev prog w A env s.heap e (Nw s.heap P)) (hz : items.length ≤ sizeLine)
    (k : ∀ v ns n' h' tk, P v ns → St hb env vars (ns ++ (pre ++ (d, lstO (items ++ [v]) n') :: post)) h' → wpAny (model prog w) A (execs rest env) Q E { s with heap := h', toks := tk })
    (hd : (x == ("__debug__" : Str)) = false := by decide)
    (hbase : attributeBase (.Name x p) "append" env (eval (.Name x p) env) = eval (.Name x p) env := by rfl)
    (hfew : ((backTo cpos (starEach [e] env)).all (fun x => !x.1) && (backToKw cpos (keywordEach [] env)).all (fun x => x.1.isSome)
      && decide (([e] : List PySem.Expr).length + ([] : List Keyword).length + (if ([] : List Keyword).isEmpty then 0 else 1) < 30)) = true := by rfl)
    (hline : (apos.endLine == cpos.line) = true := by rfl)
    (htrees : backTo cpos (starEach [e] env) = [(false, eval e env)] := by rfl) 
    (hsw : swapsWith (.Call (.Attribute (.Name x p) "append" apos) [e] [] cpos) none pos.line env = pure false := by rfl) :
    wpAny (model prog w) A (execs (.Expr (.Call (.Attribute (.Name x p) "append" apos) [e] [] cpos) pos :: rest) env) Q E s := by
  have hi : interactive env = false := by unfold interactive; rw [S.kind]; rfl
  refine wpAny_execs_cons (wpAny_Expr (wpAny_Call_append hbase hfew hline htrees ?_) hi hsw)
  refine Gr.use (S.ev (prog := prog) (w := w) (A := A) hm hd).gr fun v h₁ tk₁ k₁ hv => ?_
  cases hv
  have S₁ := S.grow k₁
  have D : h₁.get? d = some (lstO items n) := (S₁.fn (d, lstO items n) (by simp)).1
  refine ⟨d, items.toArray, rfl, ⟨_, n, D, rfl, rfl, rfl⟩, ?_⟩
  refine wpAny_mono (hev { s with heap := h₁, toks := tk₁ } E k₁) (fun v s₂ ⟨hv, kk⟩ => ?_) fun _ _ e => e
  obtain ⟨ns, hP, hns, hnd⟩ := hv
  obtain ⟨h₂, tk₂, rfl, k₂⟩ := kk
  have S₂ := S.add (k₁.trans k₂) ns hns hnd
  refine wpAny_list_append_plain (l := d) (items := items.toArray) ⟨n, k₂ _ _ D⟩ (fun h₃ hl₃ hs₃ => ?_) (by simpa using hz)
  obtain ⟨n', hn'⟩ := hl₃
  refine k v ns n' h₃ tk₂ hP ?_
  rw [← List.append_assoc] at S₂ ⊢
  refine St.upd S₂ (fun b x hb e => (hs₃.2 b hb).trans e) ?_
  rw [hn']
  simp [lstO]
end
end Mine
end
section
open PySem PySem.W PySem.Calls PyProof.Rows
set_option linter.unusedVariables false
set_option maxRecDepth 100000
namespace Mine
open Builtin
theorem slot_lstrip : Slot "bytes" "lstrip" "bytes.lstrip" :=
  .of (owner := "bytes") (n := "lstrip") (by rw [typeLookup_type, builtinLookup_eq_fast]; kernel_rfl) (by decide +kernel) (by decide +kernel) (by decide +kernel)
    (by first | exact .inl (by decide +kernel) | exact .inr (by decide +kernel)) (by rw [isSubtype_type]; kernel_rfl)
theorem type_lstrip : typeOf (.builtin "bytes.lstrip") = pure (.type "method_descriptor") := by show builtinType _ = _; rw [builtinType_eq_fast]; kernel_rfl
theorem entry_lstrip : entryFor table "bytes.lstrip" = some Builtin.«bytes.lstrip» := entryFor_of_tree (by kernel_rfl)
theorem args_lstrip (a b : Value) : argsOk "bytes.lstrip" ⟨[a, b], []⟩ := by
  unfold argsOk; rw [signature?_of (id := "bytes.lstrip") (n := ['p', 'i', 'r', 't', 's', 'l']) (o := ['s', 'e', 't', 'y', 'b']) (by kernel_rfl) FB.owner_bytes]; kernel_rfl
theorem slot_rstrip : Slot "bytes" "rstrip" "bytes.rstrip" :=
  .of (owner := "bytes") (n := "rstrip") (by rw [typeLookup_type, builtinLookup_eq_fast]; kernel_rfl) (by decide +kernel) (by decide +kernel) (by decide +kernel)
    (by first | exact .inl (by decide +kernel) | exact .inr (by decide +kernel)) (by rw [isSubtype_type]; kernel_rfl)
theorem type_rstrip : typeOf (.builtin "bytes.rstrip") = pure (.type "method_descriptor") := by show builtinType _ = _; rw [builtinType_eq_fast]; kernel_rfl
theorem entry_rstrip : entryFor table "bytes.rstrip" = some Builtin.«bytes.rstrip» := entryFor_of_tree (by kernel_rfl)
theorem args_rstrip (a : Value) : argsOk "bytes.rstrip" ⟨[a], []⟩ := by
  unfold argsOk; rw [signature?_of (id := "bytes.rstrip") (n := ['p', 'i', 'r', 't', 's', 'r']) (o := ['s', 'e', 't', 'y', 'b']) (by kernel_rfl) FB.owner_bytes]; kernel_rfl

theorem dropWhile_len {α : Type} (p : α → Bool) (l : List α) (e : (l.dropWhile p).length = l.length) : l.dropWhile p = l :=
  (List.dropWhile_suffix p).eq_of_length e

section
variable {prog : Program} {w : World} {A : Around} {h : Heap} {M : Model} {E : Value → Shared → Prop} {s : Shared}
theorem strip_end {b : Array UInt8} {t : Tok} {kept : List UInt8} {id : String} {P : Fin → Shared → Prop} (hz : b.size ≤ sizeLine) (hle : kept.length ≤ b.size) (hk : kept.length = b.size → kept = b.toList) (hP : ∀ t k, P (.done (.ret (.bytes kept.toArray t))) { s with toks := k }) :
    wpAny M A (if (kept.length == b.size) = true then (do rule id; let r ← Bytes.Kind.bytes.same (.bytes b t); ret r) else (do let r ← Bytes.Kind.bytes.new kept.toArray; ret r)) P E s := by
  by_cases h : kept.length = b.size
  · rw [if_pos (by simpa using h)]
    have e := hk h
    subst e
    refine wpAny_bind (wpAny_rule (wpAny_bind (wpAny_of_eq (a := Value.bytes b t) (by rfl) (wpAny_pure ?_))))
    have := hP t s.toks
    simpa using this
  · rw [if_neg (by simpa using h)]
    exact wpAny_bind (wpAny_mkBytes (wpAny_pure (hP _ _)) (by simp; omega))
theorem lstrip_tree {b c : Array UInt8} {t u : Tok} {P : Fin → Shared → Prop} (hz : b.size ≤ sizeLine) (hP : ∀ t k, P (.done (.ret (.bytes (b.toList.dropWhile c.contains).toArray t))) { s with toks := k }) :
    wpAny M A (Builtin.«bytes.lstrip» ⟨[.bytes b t, .bytes c u], []⟩) P E s := by
  show wpAny M A (Bytes.stripM .bytes "lstrip" true false ⟨[.bytes b t, .bytes c u], []⟩) P E s
  unfold Bytes.stripM
  refine wpAny_bind (wpAny_of_eq (a := (Value.bytes b t, [Value.bytes c u])) rfl ?_)
  refine wpAny_bind (wpAny_bind ?_)
  refine wpAny_of_eq (a := some c) KBy.buffer_eq ?_
  refine wpAny_pure ?_
  refine wpAny_bind (wpAny_pure ?_)
  refine wpAny_bind (wpAny_of_eq (a := b) rfl ?_)
  have hle : (b.toList.dropWhile c.contains).length ≤ b.size := by
    have := (List.dropWhile_suffix (l := b.toList) c.contains).length_le
    simpa using this
  exact strip_end hz hle (fun e => dropWhile_len _ _ (by simpa using e)) hP
theorem rstrip_tree {b : Array UInt8} {t : Tok} {P : Fin → Shared → Prop} (hz : b.size ≤ sizeLine) (hP : ∀ t k, P (.done (.ret (.bytes (b.toList.reverse.dropWhile Bytes.isSpace).reverse.toArray t))) { s with toks := k }) :
    wpAny M A (Builtin.«bytes.rstrip» ⟨[.bytes b t], []⟩) P E s := by
  show wpAny M A (Bytes.stripM .bytes "rstrip" false true ⟨[.bytes b t], []⟩) P E s
  unfold Bytes.stripM
  refine wpAny_bind (wpAny_of_eq (a := (Value.bytes b t, [])) rfl ?_)
  refine wpAny_bind (wpAny_pure ?_)
  refine wpAny_bind (wpAny_of_eq (a := b) rfl ?_)
  have hle : (b.toList.reverse.dropWhile Bytes.isSpace).reverse.length ≤ b.size := by
    have := (List.dropWhile_suffix (l := b.toList.reverse) Bytes.isSpace).length_le
    simpa using this
  exact strip_end (kept := (b.toList.reverse.dropWhile Bytes.isSpace).reverse) hz hle (fun e => by
    have := dropWhile_len Bytes.isSpace b.toList.reverse (by simpa using e)
    rw [this, List.reverse_reverse]) hP
end
section
variable {prog : Program} {w : World} {A : Around} {env : Env} {h : Heap}
theorem g_lstrip {b c : Array UInt8} {t u : Tok} (hz : b.size ≤ sizeLine) : Gr prog w A h (call (.builtin "bytes.lstrip") [.bytes b t, .bytes c u]) (IsB (b.toList.dropWhile c.contains).toArray) := fun s E _ =>
  wpAny_call_entry slot_lstrip (typeIs_bytes s b t) entry_lstrip (lstrip_tree hz fun t k => ⟨_, rfl, ⟨t, rfl⟩, Kp.tok s k⟩) (args_lstrip _ _)
theorem g_rstrip {b : Array UInt8} {t : Tok} (hz : b.size ≤ sizeLine) : Gr prog w A h (call (.builtin "bytes.rstrip") [.bytes b t]) (IsB (b.toList.reverse.dropWhile Bytes.isSpace).reverse.toArray) := fun s E _ =>
  wpAny_call_entry slot_rstrip (typeIs_bytes s b t) entry_rstrip (rstrip_tree hz fun t k => ⟨_, rfl, ⟨t, rfl⟩, Kp.tok s k⟩) (args_rstrip _)

/-- a method of bytes is called -/
theorem Ev.methB {o : PySem.Expr} {name : Str} {id : String} {apos pos : Pos} {es : List PySem.Expr} {b : Array UInt8} {G : List Value → Heap → Prop} {H : VP} (hv : Ev prog w A env h o (IsB b)) (ha : Ag prog w A env h pos es G) (slot : Slot "bytes" name id) (hty : typeOf (.builtin id) = pure (.type "method_descriptor"))
    (hc : ∀ t vs h', Sub h h' → G vs h' → Gr prog w A h' (call (.builtin id) (.bytes b t :: vs)) H)
    (hbase : attributeBase o name env (eval o env) = eval o env := by rfl)
    (hfew : ((backTo pos (starEach es env)).all (fun x => !x.1) && (backToKw pos (keywordEach [] env)).all (fun x => x.1.isSome)
      && decide (es.length + ([] : List Keyword).length + (if ([] : List Keyword).isEmpty then 0 else 1) < 30)) = true := by rfl)
    (hline : (apos.endLine == pos.line) = true := by rfl) (hpl : (backTo pos (starEach es env)).any (·.1) = false := by rfl) (hm : keeperOf (.builtin id) = pure .machine := by rfl) :
    Ev prog w A env h (.Call (.Attribute o name apos) es [] pos) H := fun s E hs => by
  refine wpAny_Call_method hbase hfew hline FB.plainAttrs_bytes slot hty (wpAny_mono (hv s E hs) (fun v s₁ ⟨hv, k₁⟩ => ?_) fun _ _ e => e)
  obtain ⟨t, rfl⟩ := hv
  refine ⟨typeIs_bytes _ _ _, fun a e => (nomatch e), ?_⟩
  refine cw_machine hm hpl (args_run hpl (wpAny_mono (ha s₁ E (hs.trans (Kp.sub k₁))) (fun vs s₂ ⟨hvs, k₂⟩ => ?_) fun _ _ e => e))
  exact wpAny_mono (hc t vs s₂.heap (hs.trans ((Kp.sub k₁).trans (Kp.sub k₂))) hvs s₂ E (Sub.refl _)) (fun v s₃ ⟨hv, k₃⟩ => ⟨hv, Kp.trans k₁ (Kp.trans k₂ k₃)⟩) fun _ _ e => e

theorem g_isi_bytes_str {b : Array UInt8} {t : Tok} : Gr prog w A h (call (.builtin "isinstance") [.bytes b t, .type "str"]) (IsV (.bool false)) := fun s E _ =>
  call_isinstance (S := fun _ R s => R (.ok (.ret (.bool false))) { s with toks := s.toks + 1 }) (fun _ _ _ _ s hs => by
    obtain ⟨h, g, d, t, os⟩ := s
    exact isinstance_outer (isinstance_nested_false_bytes (by decide) (by kernel_rfl) F.sub_bytes_str hs)) ⟨rfl, Kp.tok s _⟩
theorem g_isi_bytes {b : Array UInt8} {t : Tok} : Gr prog w A h (call (.builtin "isinstance") [.bytes b t, .type "bytes"]) (IsV (.bool true)) := fun s E _ =>
  call_isinstance (isinstance_true (Tx := "bytes") (by kernel_rfl) F.sub_bytes_bytes) ⟨typeIs_bytes _ _ _, rfl, Kp.refl s⟩
end
end Mine
end
section
open PySem PySem.W PySem.Calls PyProof.Rows
set_option linter.unusedVariables false
set_option maxRecDepth 100000
namespace Mine
open Builtin
section
variable {prog : Program} {w : World} {A : Around} {env : Env} {hb h : Heap} {vars vars' vars'' : List (Str × Value)} {news : List (Addr × Obj)}

/-- a pair is unpacked into two names -/
theorem unpack2 {x y : Str} {px py tpos pos : Pos} {k : Nat} {e : PySem.Expr} {rest : List Stmt} {P : Value → Value → Prop} {s : Shared} {E : Value → Shared → Prop} {Q : Flow → Shared → Prop}
    (S : St hb env vars news s.heap) (hh : A.handled = none) (hev : Ev prog w A env s.heap e (fun v h' => ∃ a b, P a b ∧ IsT [a, b] v h')) (hx : CanSt env x) (hy : CanSt env y) (hd : Del x vars vars') (hd' : ∀ a, Del y ((x, a) :: vars') ((x, a) :: vars''))
    (kk : ∀ a b h' tk, P a b → St hb env ((y, b) :: (x, a) :: vars'') news h' → wpAny (model prog w) A (execs rest env) Q E { s with heap := h', toks := tk })
    (hs : swapsWithSole [.Tuple [.Name x px, .Name y py] k tpos] e pos.line env = pure false := by rfl)
    (hw : swappedStores [.Tuple [.Name x px, .Name y py] k tpos] e env = pure none := by rfl) :
    wpAny (model prog w) A (execs (.Assign [.Tuple [.Name x px, .Name y py] k tpos] e pos :: rest) env) Q E s := by
  refine wpAny_execs_cons (Assign_Tuple (Gr.use hev.gr fun v h₁ tk₁ k₁ hv => ?_) hs hw)
  obtain ⟨a, b, hP, T, rfl, n, hT⟩ := hv
  refine wpAny_assign_Tuple (s := { s with heap := h₁, toks := tk₁ }) (items := #[a, b]) hh ⟨_, hT, rfl, n, rfl⟩ rfl rfl fun h₂ hx₂ => ?_
  have k₂ : Sub h₁ h₂ := fun c o e => hx₂ c o (Nat.ne_of_lt (Heap.lt_size e)) e
  have S₂ := (S.grow k₁).grow k₂
  show wpAny _ A (do holding [b] (PySem.assign (.Name x px) env a); assignInOrder [PySem.assign (.Name y py) env] [b]) _ _ _
  refine wpAny_bind (wpAny_holding (St.assignTo S₂ hx hd fun h₃ tk₃ S₃ => ?_))
  show wpAny _ A (do holding [] (PySem.assign (.Name y py) env b); assignInOrder [] []) _ _ _
  refine wpAny_bind (wpAny_holding (St.assignTo S₃ hy (hd' a) fun h₄ tk₄ S₄ => ?_))
  exact wpAny_pure (kk a b h₄ tk₄ hP S₄)

theorem g_divmod {a b : Int} {t u : Tok} (hb : b ≠ 0) (hz : b.natAbs < 1073741824) : Gr prog w A h (call (.builtin "divmod") [.int a t, .int b u]) (fun v h' => ∃ x y, ((∃ t, x = .int (a.fdiv b) t) ∧ ∃ t, y = .int (a.fmod b) t) ∧ IsT [x, y] v h') := fun s E _ =>
  divmod_int hb ⟨⟨_, _, ⟨⟨_, rfl⟩, ⟨_, rfl⟩⟩, _, rfl, _, Heap.get?_push_size _ rfl⟩, Kp.heap (s := s) (Sub.push _ _)⟩ (Or.inl (PyProof.noPylong_small hz))
theorem g_range {n : Nat} {t : Tok} : Gr prog w A h (call (.type "range") [.int (n : Int) t]) (fun v h' => ∃ r t u x, v = .ref r ∧ IsRange h' r 0 (n : Int) 1 t u x) := fun s E _ =>
  call_range_1 ⟨⟨_, _, _, _, rfl, IsRange.new _ _ _ _ _ _ _⟩, Kp.heap (s := s) (Sub.push _ _)⟩
end
end Mine
end
section
set_option linter.unusedVariables false
namespace Mine
/-! plain numbers: the digits of a number -/
def digs (b n : Nat) : List Nat := if h : n = 0 ∨ b < 2 then [] else digs b (n / b) ++ [n % b]
termination_by n
decreasing_by exact Nat.div_lt_self (by omega) (by omega)
theorem digs_zero (b : Nat) : digs b 0 = [] := by rw [digs]; simp
theorem digs_pos {b n : Nat} (hb : 2 ≤ b) (hn : n ≠ 0) : digs b n = digs b (n / b) ++ [n % b] := by
  rw [digs, dif_neg (by omega)]
theorem digs_lt {b : Nat} (hb : 2 ≤ b) (n : Nat) : ∀ d ∈ digs b n, d < b := by
  induction n using Nat.strongRecOn with
  | ind n ih =>
    by_cases hn : n = 0
    · subst hn; rw [digs_zero]; simp
    · rw [digs_pos hb hn]
      intro d hd
      rcases List.mem_append.mp hd with hd | hd
      · exact ih _ (Nat.div_lt_self (by omega) (by omega)) d hd
      · rw [List.mem_singleton.mp hd]; exact Nat.mod_lt _ (by omega)
theorem digs_len {b : Nat} (hb : 2 ≤ b) (k : Nat) : ∀ n, n < 2 ^ k → (digs b n).length ≤ k := by
  induction k with
  | zero => intro n hn; have : n = 0 := by simpa using hn
            subst this; rw [digs_zero]; simp
  | succ k ih =>
    intro n hn
    by_cases h0 : n = 0
    · subst h0; rw [digs_zero]; simp
    · rw [digs_pos hb h0, List.length_append, List.length_singleton]
      have h1 : n / b ≤ n / 2 := Nat.div_le_div_left hb (by omega)
      have h2 : n / 2 < 2 ^ k := by rw [Nat.pow_succ] at hn; omega
      have := ih (n / b) (by omega)
      omega
def enc (al : List UInt8) (n : Nat) : List UInt8 := (digs al.length n).map fun d => al.getD d 0
end Mine
end
section
open PySem PySem.W PySem.Calls PyProof.Rows
set_option linter.unusedVariables false
set_option maxRecDepth 100000
namespace Mine
/-- what the law's top left, at a heap -/
structure Bs (w : World) (mg mb : Str → Option Value) (h : Heap) : Prop where
  X : (hd.heap_39 w.params).In h
  G : Gl h mg mb
  bu : ∀ x v, bootBuiltins x = some v → x ≠ "__name__" → mb x = some v
theorem Bs.sub {w : World} {mg mb : Str → Option Value} {h h' : Heap} (a : Bs w mg mb h) (k : Sub h h') : Bs w mg mb h' := ⟨fun b o e => k _ _ (a.X b o e), a.G.sub k, a.bu⟩

section
variable {prog : Program} {w : World} {A : Around} {env : Env} {mg mb : Str → Option Value} {h : Heap}
theorem Bs.glob (B : Bs w mg mb h) {x : Str} {v : Value} {pos : Pos} (K : GEnv env) (e : nsIn (hd.heap_39 w.params) mainGlobals x = some (some v)) (hx : env.kindOf x = some .globalImplicit := by rfl) (hd : (x == ("__debug__" : Str)) = false := by decide) :
    Ev prog w A env h (.Name x pos) (IsV v) := Ev.glob B.G K (mg_of B.X B.G.g e) hx hd
theorem Bs.built (B : Bs w mg mb h) {x : Str} {v : Value} {pos : Pos} (K : GEnv env) (e : nsIn (hd.heap_39 w.params) mainGlobals x = some none) (hv : bootBuiltins x = some v) (hn : x ≠ "__name__") (hx : env.kindOf x = some .globalImplicit := by rfl) (hd : (x == ("__debug__" : Str)) = false := by decide) :
    Ev prog w A env h (.Name x pos) (IsV v) := Ev.built B.G K (mg_none_of B.X B.G.g e) (B.bu _ _ hv hn) hx hd
theorem Bs.len (B : Bs w mg mb h) {pos : Pos} (K : GEnv env) (hx : env.kindOf "len" = some .globalImplicit := by rfl) : Ev prog w A env h (.Name "len" pos) (IsV (.builtin "len")) := B.built K (by kernel_rfl) (by kernel_rfl) (by decide) hx

def drawZ (ns : List Int) (k : Int) : Int := if ns = [] then 5 * k + 2 else ns.getD (k.fmod ns.length).toNat 0 + 37 * (k.fdiv ns.length)

theorem fn_draw (B : Bs w mg mb h) (hok : Ok A 1) {l : Addr} {vs : List Value} {ns : List Int} {k : Int} {t : Tok} (hl : h.IsList l vs.toArray) (hi : IntsAre vs ns) (hn : ns.length ≤ 63) (hk : 0 ≤ k) (hk2 : k < 10000) :
    Gr prog w A h (call (.ref 58) [.ref l, .int k t]) (IsI (drawZ ns k)) := by
  have hlen : vs.length = ns.length := hi.length
  refine fn_call (args := ⟨[.ref l, .int k t], []⟩) (binds := [("script", .ref l), ("k", .int k t)]) (B.X 58 _ rfl) rfl B.G.lim (codeRec_of B.X (by kernel_rfl)) rfl rfl hok (fun s _ => BindsTo.of_eq rfl) (by decide) (locs rfl) (by dsimp only [List.map]; decide) fun s env A' h₁ tk hs S K hok' => ?_
  have B₁ := (B.sub hs).sub S.base
  have hl₁ : h₁.IsList l vs.toArray := hl.at fun o e => S.base _ _ (hs _ _ e)
  refine St.ifs (Te.not (Te.list (S.evL (.head _) hl₁) (by omega))) (fun hb h' tk' k' => ?_) (fun hb h' tk' k' => ?_)
  · have S := S.grow k'
    have e0 : ns = [] := by
      cases vs with
      | nil => cases hi; rfl
      | cons a r => simp at hb
    refine St.ret (Ev.add (Ev.mul Ev.cint (S.evI (.tail _ (.head _))) (IntMulOk.of_left (by decide))) Ev.cint) fun v h'' tk'' k'' hv => ⟨v, rfl, ?_, h'', tk'', rfl, S.base.trans k''⟩
    unfold drawZ; rw [if_pos e0]; exact hv
  · have S := S.grow k'
    have hl₁ : h'.IsList l vs.toArray := hl₁.at fun o e => k' _ _ e
    have B₁ := B₁.sub k'
    have e0 : ns ≠ [] := by
      rintro rfl
      cases hi
      simp at hb
    have hpos : 0 < ns.length := List.length_pos_iff.mpr e0
    refine X.nil ?_
    have lenE : ∀ pos p q, Ev prog w A' env h' (.Call (.Name "len" p) [.Name "script" pos] [] q) (IsI ns.length) := fun pos p q =>
      Ev.len1 (B₁.len K.g (K.k _ _ rfl)) (S.evL (.head _) hl₁) IsL.sub fun v h'' k'' ⟨a, e, hx⟩ => by subst e; rw [← hlen]; exact g_len_list hx (by omega)
    have hne : (ns.length : Int) ≠ 0 := by omega
    have m0 : 0 ≤ k.fmod ns.length := by rw [Int.fmod_eq_emod_of_nonneg _ (by omega)]; exact Int.emod_nonneg _ hne
    have m1 : k.fmod ns.length < ns.length := by rw [Int.fmod_eq_emod_of_nonneg _ (by omega)]; exact Int.emod_lt_of_pos _ (by omega)
    have hlt : (k.fmod ns.length).toNat < ns.length := by omega
    obtain ⟨t', hx⟩ := hi.get (k.fmod ns.length).toNat (ns[(k.fmod ns.length).toNat]) (by simp [hlt])
    refine St.ret (Ev.add (Ev.itemL (S.evL (.head _) hl₁) (Ev.fmod (S.evI (.tail _ (.head _))) (lenE _ _ _) hne) m0 (by omega) hx).int (Ev.mul Ev.cint (Ev.fdiv (S.evI (.tail _ (.head _))) (lenE _ _ _) hne (by omega)) (IntMulOk.of_left (by decide)))) fun v h'' tk'' k'' hv => ⟨v, rfl, ?_, h'', tk'', rfl, S.base.trans k''⟩
    unfold drawZ
    rw [if_neg e0, show ns.getD (k.fmod ns.length).toNat 0 = ns[(k.fmod ns.length).toNat] from by simp [List.getD, hlt]]
    exact hv
end
end Mine
end
section
open PySem PySem.W PySem.Calls PyProof.Rows
set_option linter.unusedVariables false
set_option maxRecDepth 100000
namespace Mine
local macro_rules | `(tactic| walk_at "mem") => `(tactic| first | with_reducible exact List.mem_cons_self | (with_reducible refine List.mem_cons_of_mem _ ?_; walk_at "mem"))
local macro_rules | `(tactic| walk_at "del") => `(tactic| first | with_reducible exact Del.nil | (with_reducible refine' Del.hit ?hr; (case hr => walk_at "del")) | (refine' Del.miss ?hne ?hr; (case hne => decide); (case hr => walk_at "del")))
open Builtin
noncomputable def fdAt (w : World) (a : Addr) : FuncData := match (hd.heap_39 w.params).lookup a with
  | some o => (match o.data with | .func fd => fd | _ => default)
  | none => default
section
variable {prog : Program} {w : World} {A : Around} {env : Env} {mg mb : Str → Option Value} {h : Heap}

theorem fn_scrub (B : Bs w mg mb h) (hok : Ok A 1) {b : Array UInt8} {t : Tok} : Gr prog w A h (call (.ref 21) [.bytes b t]) (IsB b) := by
  refine fn_call (args := ⟨[.bytes b t], []⟩) (binds := [("v", .bytes b t)]) (B.X 21 _ rfl) rfl B.G.lim (codeRec_of B.X (by kernel_rfl)) rfl rfl hok (fun s _ => BindsTo.of_eq rfl) (by decide) (locs rfl) (by dsimp only [List.map]; decide) fun s env A' h₁ tk hs S K hok' => ?_
  have B₁ := (B.sub hs).sub S.base
  refine St.ifs (b := false) (Te.bool (Ev.callM (f := .builtin "isinstance") (B₁.built K.g (by kernel_rfl) (by kernel_rfl) (by decide) (K.k _ _ rfl)) (Ag.two (S.ev (by walk_at "mem")) (B₁.built (v := .type "str") K.g (by kernel_rfl) (by kernel_rfl) (by decide) (K.k _ _ rfl)) (mV _) (mV _)) ?_)) (fun e => nomatch e) fun _ h' tk' k' => ?_
  · rintro vs h' k ⟨v, v', rfl, rfl, rfl⟩
    exact g_isi_bytes_str
  · refine X.nil (St.ret ((S.grow k').evB (by walk_at "mem")) fun v h'' tk'' k'' hv => ⟨v, rfl, hv, h'', tk'', rfl, S.base.trans (k'.trans k'')⟩)

theorem Te.cast {env : Env} {e : PySem.Expr} {b c : Bool} (a : Te prog w A env h e b) (q : b = c) : Te prog w A env h e c := q ▸ a

theorem picked_one (al : List UInt8) (i : Nat) (hi : i < al.length) : KBy.picked al.toArray (some (i : Int)) (some ((i : Int) + 1)) = [al.getD i 0].toArray := by
  rw [KBc.picked_eq]
  have e1 : (some (i : Int)).elim 0 (clipAt al.toArray.size) = i := by
    show clipAt _ _ = _
    rw [clipAt_nat]; simp; omega
  have e2 : (some ((i : Int) + 1)).elim al.toArray.size (clipAt al.toArray.size) = i + 1 := by
    show clipAt _ ((i : Int) + 1) = _
    rw [show ((i : Int) + 1) = ((i + 1 : Nat) : Int) by simp, clipAt_nat]; simp; omega
  rw [e1, e2, Nat.add_sub_cancel_left]
  congr 1
  rw [List.take_one]
  simp [List.head?_drop, hi, List.getD]

theorem fn_enc (B : Bs w mg mb h) (hok : Ok A 1) {args : PySem.Args} {n : Nat} {ti tu : Tok} {d : Bool} {al : List UInt8}
    (hbind : ∀ s, Sub h s.heap → BindsTo s (fdAt w 29) args [("i", .int (n : Int) ti), ("default_one", .bool d), ("alphabet", .bytes al.toArray tu)]) (hal : 2 ≤ al.length) (hal2 : al.length ≤ 256) (hn : (digs al.length n).length ≤ 1000) :
    Gr prog w A h (call (.ref 29) args.pos args.kw) (IsB (if n = 0 ∧ d = true then al.take 1 else enc al n).toArray) := by
  refine fn_call (args := args) (binds := [("i", .int (n : Int) ti), ("default_one", .bool d), ("alphabet", .bytes al.toArray tu)]) (B.X 29 _ rfl) rfl B.G.lim (codeRec_of B.X (by kernel_rfl)) rfl rfl hok (fun s hs => hbind s hs) (by decide) (locs rfl) (by dsimp only [List.map]; decide) fun s env A' h₁ tk hs S K hok' => ?_
  have B₁ := (B.sub hs).sub S.base
  refine St.ifs (b := decide (n = 0 ∧ d = true)) (Te.and ?_) (fun hb h' tk' k' => ?_) (fun hb h' tk' k' => ?_)
  · by_cases h0 : n = 0
    · subst h0
      refine At.andT (Te.cast (Te.not (Te.int (S.evI (by walk_at "mem")))) (by simp)) ?_
      cases d
      · exact At.andF (Te.bool (S.ev (by walk_at "mem")))
      · exact At.andT (Te.bool (S.ev (by walk_at "mem"))) At.nil
    · have e : decide (n = 0 ∧ d = true) = false := by simp [h0]
      rw [e]
      exact At.andF (Te.cast (Te.not (Te.int (S.evI (by walk_at "mem")))) (by simp; omega))
  · have S := S.grow k'
    have e : n = 0 ∧ d = true := of_decide_eq_true hb
    refine St.ret (Ev.cutB (S.evB (by walk_at "mem")) (Part.some Ev.cint) (Part.some Ev.cint) (by simp [sizeLine_eq]; omega)) fun v h'' tk'' k'' hv => ⟨v, rfl, ?_, h'', tk'', rfl, S.base.trans k''⟩
    rw [if_pos e]
    have e2 := picked_one al 0 (by omega)
    have e3 : [al.getD 0 0] = al.take 1 := by cases al with | nil => simp at hal | cons a r => rfl
    rw [e3] at e2
    rw [← e2]
    exact hv
  · have S := S.grow k'
    have B₁ := B₁.sub k'
    have e : ¬ (n = 0 ∧ d = true) := of_decide_eq_false hb
    refine X.nil ?_
    rw [if_neg e]
    refine St.assignB S Ev.cbytes (.inl (K.k _ _ rfl)) (by walk_at "del") fun t₁ h₁ tk₁ S => ?_
    have B₁ := B.sub (hs.trans S.base)
    refine St.assignI S (i := (al.length : Int)) (Ev.len1 (B₁.len K.g (K.k _ _ rfl)) (S.evB (by walk_at "mem")) (mB _) fun v h' k hv => by
      obtain ⟨t, rfl⟩ := hv
      have := g_len_bytes (prog := prog) (w := w) (A := A') (h := h') (b := al.toArray) (t := t) (by simp; omega)
      simpa using this) (.inl (K.k _ _ rfl)) (by walk_at "del") fun t₂ h₂ tk₂ S => ?_
    refine St.while_ (n := n) (fun k vars news => news = [] ∧ ∃ (acc : List UInt8) (ts ti tb : Tok), enc al n = enc al k ++ acc ∧
        vars = ([("string", .bytes acc.toArray ts), ("i", .int (k : Int) ti), ("alphabet", .bytes al.toArray tu), ("base", .int (al.length : Int) tb)] : List (Str × Value)))
      (fun vars news => ∃ (ts : Tok), ((("string" : Str), Value.bytes (enc al n).toArray ts) : Str × Value) ∈ vars)
      (S.weakV (vars' := [("string", .bytes #[] t₁), ("i", .int (n : Int) ti), ("alphabet", .bytes al.toArray tu), ("base", .int (al.length : Int) t₂)]) (by
        intro p hp
        simp only [List.mem_cons, List.not_mem_nil, or_false] at hp ⊢
        rcases hp with rfl | rfl | rfl | rfl <;> simp)) ⟨rfl, [], t₁, ti, t₂, by simp, rfl⟩ ?_ ?_
    · rintro k vars news h₃ ⟨rfl, acc, ts, ti, tb, hacc, rfl⟩ S
      refine ⟨_, Te.int (S.evI (by walk_at "mem")), fun hb => ?_, fun hb h₄ tk₄ E' S => ?_⟩
      · have hk : k = 0 := by simpa using hb
        subst hk
        have e : enc al n = acc := by rw [hacc, enc, digs_zero]; rfl
        rw [e]
        exact ⟨ts, List.mem_cons_self⟩
      · have hk : k ≠ 0 := by simpa using hb
        have B₁ := B.sub (hs.trans S.base)
        have hne : (al.length : Int) ≠ 0 := by omega
        refine unpack2 (P := fun a b => (∃ t, a = .int ((k / al.length : Nat) : Int) t) ∧ ∃ t, b = .int ((k % al.length : Nat) : Int) t) S hok'.handled
          ((Ev.callM (f := .builtin "divmod") (B₁.built K.g (by kernel_rfl) (by kernel_rfl) (by decide) (K.k _ _ rfl)) (Ag.two (S.evI (by walk_at "mem")) (S.evI (by walk_at "mem")) (mI _) (mI _)) (H := fun v h' => ∃ x y, ((∃ t, x = .int (Int.fdiv (k : Int) al.length) t) ∧ ∃ t, y = .int (Int.fmod (k : Int) al.length) t) ∧ IsT [x, y] v h') ?_).imp fun v h' ⟨x, y, ⟨⟨t, e1⟩, ⟨t', e2⟩⟩, e3⟩ => ⟨x, y, ⟨⟨t, ?_⟩, ⟨t', ?_⟩⟩, e3⟩)
          (.inl (K.k _ _ rfl)) (.inl (K.k _ _ rfl)) (by walk_at "del") (fun _ => by walk_at "del") ?_
        · rintro vs h' kk ⟨v, v', rfl, ⟨t, rfl⟩, ⟨t', rfl⟩⟩
          exact g_divmod hne (by omega)
        · rw [e1, Int.fdiv_eq_ediv_of_nonneg _ (by omega)]; rfl
        · rw [e2, Int.fmod_eq_emod_of_nonneg _ (by omega)]; rfl
        · rintro a b h₅ tk₅ ⟨⟨t, rfl⟩, ⟨t', rfl⟩⟩ S
          have hlt : k % al.length < al.length := Nat.mod_lt _ (by omega)
          have henc : enc al k = enc al (k / al.length) ++ [al.getD (k % al.length) 0] := by
            unfold enc; rw [digs_pos hal hk]; simp
          have hlen : acc.length ≤ 1000 := by
            have : (enc al n).length = (digs al.length n).length := by simp [enc]
            rw [hacc, List.length_append] at this
            omega
          refine St.assignB S (i := ([al.getD (k % al.length) 0] ++ acc).toArray) (by
            have e2 := picked_one al (k % al.length) hlt
            rw [← List.append_toArray, ← e2]
            refine Ev.addB (Ev.cutB (S.evB (by walk_at "mem")) (Part.some (S.evI (by walk_at "mem"))) (Part.some (Ev.add (S.evI (by walk_at "mem")) Ev.cint)) (by simp [sizeLine_eq]; omega)) (S.evB (by walk_at "mem")) ?_
            rw [e2]; simp; omega) (.inl (K.k _ _ rfl)) (by walk_at "del") fun t₆ h₆ tk₆ S => ?_
          refine X.nil ⟨rfl, k / al.length, _, _, h₆, tk₆, Nat.div_lt_self (by omega) (by omega), ⟨rfl, [al.getD (k % al.length) 0] ++ acc, t₆, t, tb, ?_, rfl⟩, S.weakV ?_, rfl⟩
          · rw [hacc, henc]; simp
          · intro p hp
            simp only [List.mem_cons, List.not_mem_nil, or_false] at hp ⊢
            rcases hp with rfl | rfl | rfl | rfl <;> simp
    · rintro vars news h₃ tk₃ ⟨ts, hm⟩ S
      exact St.ret (S.evB hm) fun v h'' tk'' k'' hv => ⟨v, rfl, hv, h'', tk'', rfl, S.base.trans k''⟩
end
end Mine
end
section
open PySem PySem.W PySem.Calls PyProof.Rows
set_option linter.unusedVariables false
set_option maxRecDepth 100000
namespace Mine
open Builtin
def num (l : List UInt8) : Nat := l.foldl (fun a c => a * 256 + c.toNat) 0
section
variable {prog : Program} {w : World} {M : Model} {A : Around} {env : Env} {E : Value → Shared → Prop} {s : Shared} {K : Frag} {h : Heap}
theorem num_lt (l : List UInt8) : num l < 256 ^ l.length := by
  have := KFB.fold_lt l 0
  simpa [num] using this
theorem grown_small {n : Nat} {Q : Value → Shared → Prop} (hn : n < 256 ^ 20) (hq : Q (.int (n : Int) s.toks) { s with toks := s.toks + 1 }) : wpAny M A (mkIntGrown (n : Int)) Q E s := by
  unfold mkIntGrown
  have hl : ¬ ((n : Int).natAbs.log2 ≥ bitsLine) := by
    rw [Int.natAbs_natCast]
    have hb : bitsLine = 134217728 := by first | rfl | decide
    by_cases hz : n = 0
    · subst hz; rw [hb]; decide
    · have h1 := (Nat.log2_lt hz (k := 160)).mpr (by rw [show (2 : Nat) ^ 160 = 256 ^ 20 by decide]; exact hn)
      omega
  rw [if_neg hl]
  exact wpAny_mkInt hq
theorem tree_big {b : Array UInt8} {t u : Tok} {P : Fin → Shared → Prop} (hl : b.size ≤ 20) (hP : P (.done (.ret (.int (num b.toList : Int) s.toks))) { s with toks := s.toks + 1 }) :
    wpAny M A (Builtin.«int.from_bytes» ⟨[.type "int", .bytes b t], [("byteorder", .str (PySem.Str.ofString "big") u)]⟩) P E s := by
  have hn : b.toList.foldl (fun (acc : Nat) (b : UInt8) => acc * 256 + b.toNat) 0 < 256 ^ 20 := by
    have h1 := num_lt b.toList
    have h2 : 256 ^ b.toList.length ≤ 256 ^ 20 := Nat.pow_le_pow_right (by decide) (by simpa using hl)
    unfold num at h1
    omega
  unfold Builtin.«int.from_bytes»
  refine wpAny_bind (wpAny_of_eq (a := true) KFB.type_int ?_)
  refine KFB.if_not rfl ?_
  refine wpAny_bind (wpAny_of_eq (a := true) F.conv_sub_int ?_)
  refine KFB.if_not rfl ?_
  refine wpAny_bind (wpAny_of_eq (a := [some (.bytes b t), some (.str (PySem.Str.ofString "big") u), none]) (by kernel_rfl) ?_)
  refine wpAny_bind (wpAny_of_eq (a := PySem.Str.ofString "big") (by kernel_rfl) ?_)
  refine wpAny_bind (wpAny_of_eq (a := false) rfl ?_)
  refine wpAny_bind (wpAny_of_eq (a := false) (by kernel_rfl) ?_)
  refine wpAny_bind (wpAny_of_eq (a := b) rfl ?_)
  show wpAny _ _ (mkIntGrown (b.toList.foldl (fun (acc : Int) (b : UInt8) => acc * 256 + (b.toNat : Int)) ((0 : Nat) : Int)) >>= fun v => _) _ _ _
  rw [KFB.foldI_eq]
  refine wpAny_bind (grown_small hn ?_)
  refine KFB.if_so (by decide +kernel) ?_
  exact wpAny_bind (wpAny_pure (wpAny_pure hP))
theorem check_kw {b : Array UInt8} {t u : Tok} : checkBoundCall "int.from_bytes" ⟨[.type "int", .bytes b t], [("byteorder", .str (PySem.Str.ofString "big") u)]⟩ = pure () := by first | kernel_rfl | rfl
theorem call_fb {x : Addr} {b : Array UInt8} {t u : Tok} {Q : Value → Shared → Prop} (ho : s.heap.get? x = some KFB.bound) (hl : b.size ≤ 20)
    (hq : Q (.int (num b.toList : Int) s.toks) { s with toks := s.toks + 1 }) : wpAny (model prog w) A (call (.ref x) [.bytes b t] [("byteorder", .str (PySem.Str.ofString "big") u)]) Q E s := by
  refine wpAny_call (codeAny_of_tree ?_)
  show wpAny _ A.in1 (callAny (.ref x) ⟨[.bytes b t], [("byteorder", .str (PySem.Str.ofString "big") u)]⟩) _ _ s
  simp only [callAny]
  refine wpAny_bind (wpAny_load ho ?_)
  simp only [KFB.bound, show (Value.type "builtin_function_or_method" == Value.type "method" || Value.type "builtin_function_or_method" == Value.type "builtin_function_or_method" || Value.type "builtin_function_or_method" == Value.type "method-wrapper") = true by decide, if_true]
  refine KFB.if_so (by decide) ?_
  refine wpAny_bind (wpAny_of_eq (a := ()) check_kw ?_)
  refine wpAny_bind (wpAny_pure (wpAny_pure ?_))
  exact ⟨KFB.quiet_fb, codeAny_builtin KFB.entry_fb (tree_big hl hq)⟩
theorem getm {pl : Sem Bool} {Q : Value × List Value → Shared → Prop} (X : K.In s.heap)
    (e : findCls K (.type "int") (.type "type") (PySem.Str.ofString "from_bytes") = some (.get (.builtin "classmethod_descriptor.__get__") (.builtin "int.from_bytes") .none (.type "int")))
    (hq : Q (.ref s.heap.objs.size, []) { s with heap := s.heap.push KFB.bound, toks := s.toks + 1 }) :
    wpAny (model prog w) A (getMethod (.type "int") (PySem.Str.ofString "from_bytes") pl) Q E s := by
  have hstub : opaqueClassAbove (.type "int") = pure none := by unfold opaqueClassAbove; dsimp only; rw [show Manifest.isStub "int" = false by decide +kernel]; rfl
  have ht : typeOf (.type "int") = pure (.type "type") := by first | rfl | kernel_rfl
  have L0 : Looks (model prog w) s.heap (typeOf (.type "int")) (.type "type") := Looks.of_pure ht
  have hg : findIn K (.type "type") "__getattribute__" = some (some (.builtin "type.__getattribute__")) := type_tga
  unfold getMethod specialOf
  refine wpAny_bind (wpAny_bind (L0.here ((looks_findIn X hg).here ?_)))
  dsimp only
  rw [if_pos canon_tga]
  refine wpAny_bind (wpAny_mono (Q := fun v => Q (v, [])) (E := E) ?_ (fun _ _ z => wpAny_pure z) fun _ _ z => z)
  have LO : Looks (model prog w) s.heap (opaqueClassAbove (.type "int")) none := Looks.of_pure hstub
  refine cls_open X LO L0 hg (looks_hook X (r := none) (by rfl)) (by show subIn K _ _ = _; rfl) e ?_
  show wpAny _ _ (holding [.builtin "int.from_bytes"] (call (.builtin "classmethod_descriptor.__get__") [.builtin "int.from_bytes", .none, .type "int"]) >>= fun v => ret v) _ _ _
  refine wpAny_bind (wpAny_holding (wpAny_call_entry KFB.slot_get KFB.type_fb KFB.entry_get (KFB.run_get ⟨_, rfl, wpAny_pure (wpAny_pure hq)⟩) (KFB.args_get _ _ _)))
end
section
variable {prog : Program} {w : World} {A : Around} {env : Env} {h : Heap}
def Kg (prog : Program) (w : World) (A : Around) (env : Env) (h : Heap) (pos : Pos) (ks : List Keyword) (G : List Value → Heap → Prop) : Prop := Gr prog w A h (evalAll ((backToKw pos (keywordEach ks env)).map (·.2))) G
theorem Kg.nil {pos : Pos} : Kg prog w A env h pos [] (fun vs _ => vs = []) := fun s E _ => wpAny_evalAll_nil ⟨rfl, Kp.refl s⟩
theorem Kg.cons {pos kp : Pos} {n : Option Str} {e : PySem.Expr} {r : List Keyword} {F : VP} {G : List Value → Heap → Prop} (hx : Ev prog w A env h e F) (mF : Mono F) (hr : Kg prog w A env h pos r G) :
    Kg prog w A env h pos (⟨n, e, kp⟩ :: r) (fun vs h' => ∃ v q, vs = v :: q ∧ F v h' ∧ G q h') := fun s E hs => by
  show wpAny _ A (evalAll ((do let v ← eval e env; standAt pos; pure v) :: (backToKw pos (keywordEach r env)).map (·.2))) _ E s
  refine wpAny_evalAll_cons (wpAny_bind (wpAny_mono (hx s E hs) (fun v s₁ ⟨hv, k₁⟩ => wpAny_bind (wpAny_standAt (wpAny_pure ?_))) fun _ _ e => e))
  exact wpAny_mono (hr s₁ E (hs.trans (Kp.sub k₁))) (fun vs s₂ ⟨hvs, k₂⟩ => ⟨⟨v, vs, rfl, mF _ _ _ (Kp.sub k₂) hv, hvs⟩, Kp.trans k₁ k₂⟩) fun _ _ e => e

theorem args_kw {M : Model} {E : Value → Shared → Prop} {s : Shared} {f : Value} {ts : List (Bool × Sem Value)} {ks : List (Option Str × Sem Value)} {Q : PySem.Args → Shared → Prop} (hp : ts.any (·.1) = false) (hk : ks.all (·.1.isSome) = true)
    (hq : wpAny M A (spliced ts) (fun vs s₁ => wpAny M A (evalAll (ks.map (·.2))) (fun us s₂ => Q ⟨vs, (ks.filterMap (·.1)).zip us⟩ s₂) E s₁) E s) : wpAny M A (evalArgs f true ts ks) Q E s := by
  cases ts with
  | nil => exact evalArgs_kw_nil hk (by
      have : wpAny M A (spliced []) _ E s := hq
      intro Γ p hΓ
      have := this Γ p hΓ
      exact this Γ p hΓ)
  | cons t r =>
    obtain ⟨b, x⟩ := t
    cases b with
    | true => simp at hp
    | false => exact evalArgs_kw hk hq

theorem Ev.callFK {x : Str} {p pos : Pos} {es : List PySem.Expr} {ks : List Keyword} {a : Addr} {o : Obj} {fd : FuncData} {G G' : List Value → Heap → Prop} {H : VP} (hf : Ev prog w A env h (.Name x p) (IsV (.ref a))) (ho : h.get? a = some o) (hd : o.data = .func fd) (ha : Ag prog w A env h pos es G) (hka : Kg prog w A env h pos ks G')
    (mG : ∀ vs h h', Sub h h' → G vs h → G vs h')
    (hc : ∀ vs us h', Sub h h' → G vs h' → G' us h' → Gr prog w A h' (call (.ref a) vs (((backToKw pos (keywordEach ks env)).filterMap (·.1)).zip us)) H) (hpl : (backTo pos (starEach es env)).any (·.1) = false := by rfl) (hall : (backToKw pos (keywordEach ks env)).all (·.1.isSome) = true := by rfl) : Ev prog w A env h (.Call (.Name x p) es ks pos) H := fun s E hs => by
  refine wpAny_Call_Name_kw (wpAny_mono (hf s E hs) (fun f' s₁ ⟨hv, k₁⟩ => ?_) fun _ _ e => e)
  cases hv
  refine callWith_function_kw (o := o) (fd := fd) (args_kw hpl hall (wpAny_mono (ha s₁ E (hs.trans (Kp.sub k₁))) (fun vs s₂ ⟨hvs, k₂⟩ => wpAny_mono (hka s₂ E (hs.trans ((Kp.sub k₁).trans (Kp.sub k₂)))) (fun us s₃ ⟨hus, k₃⟩ => ⟨⟨Kp.sub k₃ _ _ (Kp.sub k₂ _ _ (Kp.sub k₁ _ _ (hs _ _ ho))), hd⟩, ?_⟩) fun _ _ e => e) fun _ _ e => e))
  exact wpAny_mono (hc vs us s₃.heap (hs.trans ((Kp.sub k₁).trans ((Kp.sub k₂).trans (Kp.sub k₃)))) (mG _ _ _ (Kp.sub k₃) hvs) hus s₃ E (Sub.refl _)) (fun v s₄ ⟨hv, k₄⟩ => ⟨hv, Kp.trans k₁ (Kp.trans k₂ (Kp.trans k₃ k₄))⟩) fun _ _ e => e

theorem Ev.fromBytes {K : Frag} {np apos pos kp cp : Pos} {k : Nat} {e : PySem.Expr} {b : Array UInt8} (X : K.In h) (hi : Ev prog w A env h (.Name "int" np) (IsV (.type "int"))) (he : Ev prog w A env h e (IsB b)) (hl : b.size ≤ 20)
    (ef : findCls K (.type "int") (.type "type") (PySem.Str.ofString "from_bytes") = some (.get (.builtin "classmethod_descriptor.__get__") (.builtin "int.from_bytes") .none (.type "int")))
    (hline : (apos.endLine == pos.line) = true) (hq : backTo pos (starEach [e] env) = (false, eval e env) :: backTo pos (starEach [] env) := by rfl) (hpl : (backTo pos (starEach [e] env)).any (·.1) = false := by rfl)
    (hform : methodCallForm ([e].length + 1) (backTo pos (starEach [e] env)) (backToKw pos (keywordEach [⟨some "byteorder", .Constant (.str "big") k cp, kp⟩] env)) = true := by rfl) :
    Ev prog w A env h (.Call (.Attribute (.Name "int" np) "from_bytes" apos) [e] [⟨some "byteorder", .Constant (.str "big") k cp, kp⟩] pos) (IsI (num b.toList : Int)) := fun s E hs => by
  rw [arm_eval_Call]
  refine wpAny_bind (wpAny_mono (hi s E hs) (fun ov s₁ ⟨hv, k₁⟩ => ?_) fun _ _ e => e)
  cases hv
  refine wpAny_bind (wpAny_standAt ?_)
  have hpos : methodCallPos true (.Name "int" np) env apos pos = pure pos := by unfold methodCallPos; simp [hline]
  unfold methodCall
  show wpAny _ A (do let r ← holding [.type "int"] (calleeOf (methodCallForm ([e].length + 1) (backTo pos (starEach [e] env)) (backToKw pos (keywordEach [⟨some "byteorder", .Constant (.str "big") k cp, kp⟩] env))) (.Name "int" np) env (.type "int") "from_bytes"); let cp' ← methodCallPos (methodCallForm ([e].length + 1) (backTo pos (starEach [e] env)) (backToKw pos (keywordEach [⟨some "byteorder", .Constant (.str "big") k cp, kp⟩] env))) (.Name "int" np) env apos pos; callWith cp' r.1 r.2 (backTo pos (starEach [e] env)) (backToKw pos (keywordEach [⟨some "byteorder", .Constant (.str "big") k cp, kp⟩] env))) _ E s₁
  rw [hform]
  have X₁ : K.In s₁.heap := fun a o ho => Kp.sub k₁ _ _ (hs _ _ (X a o ho))
  refine wpAny_bind (wpAny_holding (getm X₁ ef ?_))
  refine wpAny_bind (wpAny_of_eq hpos ?_)
  have kb : Sub s₁.heap (s₁.heap.push KFB.bound) := Sub.push _ _
  have hb : (s₁.heap.push KFB.bound).get? s₁.heap.objs.size = some KFB.bound := Heap.get?_push_size _ rfl
  unfold callWith
  refine wpAny_bind (wpAny_holding (args_kw hpl rfl (wpAny_mono ((Ag.one he (mB b) hq) { s₁ with heap := s₁.heap.push KFB.bound, toks := s₁.toks + 1 } E (hs.trans ((Kp.sub k₁).trans kb))) (fun vs s₂ ⟨hvs, k₂⟩ =>
    wpAny_mono ((Kg.cons Ev.cstr (fun _ _ _ _ e => e) Kg.nil) s₂ E (Sub.refl _)) (fun us s₃ ⟨hus, k₃⟩ => ?_) fun _ _ e => e) fun _ _ e => e)))
  obtain ⟨v, rfl, t, rfl⟩ := hvs
  obtain ⟨v', q, rfl, ⟨t', rfl⟩, rfl⟩ := hus
  refine wpAny_bind (wpAny_standAt ?_)
  have hb3 : s₃.heap.get? s₁.heap.objs.size = some KFB.bound := Kp.sub k₃ _ _ (Kp.sub k₂ _ _ hb)
  refine wpAny_bind (m := keeperOf (.ref s₁.heap.objs.size)) ?_
  unfold keeperOf
  refine wpAny_bind (wpAny_load hb3 ?_)
  simp only [KFB.bound, show (Value.type "builtin_function_or_method" != Value.type "method") = true by decide, show (Value.type "builtin_function_or_method" == Value.type "builtin_function_or_method" || Value.type "builtin_function_or_method" == Value.type "method-wrapper") = true by decide, if_true]
  refine wpAny_pure ?_
  have hst : ((backTo pos (starEach [e] env)).any (·.1) || (backToKw pos (keywordEach [⟨some "byteorder", .Constant (.str "big") k cp, kp⟩] env)).any (·.1.isNone)) = false := by rw [hpl]; rfl
  rw [hst]
  have kk : Keeps s { s₃ with toks := s₃.toks + 1 } := Kp.trans k₁ (Kp.trans (Kp.heap (s := s₁) kb) (Kp.trans k₂ (Kp.trans k₃ (Kp.tok s₃ _))))
  exact wpAny_bind (wpAny_mono (call_fb (Q := fun v s' => v = .int (num b.toList : Int) s₃.toks ∧ s' = { s₃ with toks := s₃.toks + 1 }) hb3 hl ⟨rfl, rfl⟩) (fun r s₄ hr => wpAny_bind (wpAny_holding (wpAny_point (wpAny_pure (by obtain ⟨rfl, rfl⟩ := hr; exact ⟨⟨_, rfl⟩, kk⟩))))) fun _ _ x => x)
end
end Mine
end
section
open PySem PySem.W PySem.Calls PyProof.Rows
set_option linter.unusedVariables false
set_option maxRecDepth 100000
namespace Mine
open Builtin
open AutoSeq1 (wpAny_loadPart')
open MeetsSeq MeetsSeq2 MeetsSeq3 SeqRoads2 SeqAt

def ltI : List Int → List Int → Bool
  | [], [] => false
  | [], _ :: _ => true
  | _ :: _, [] => false
  | a :: r, b :: q => if a = b then ltI r q else decide (a < b)

theorem ints_at {vs : List Value} {ns : List Int} (x : IntsAre vs ns) (i : Nat) : (ns[i]? = none ∧ vs[i]? = none) ∨ ∃ n t, ns[i]? = some n ∧ vs[i]? = some (.int n t) := by
  by_cases h : i < ns.length
  · obtain ⟨t, e⟩ := x.get i ns[i] (by simp [h])
    exact .inr ⟨ns[i], t, by simp [h], e⟩
  · refine .inl ⟨by simp; omega, ?_⟩
    have := x.length
    simp; omega

theorem drop_some {α : Type} {l : List α} {i : Nat} {a : α} (h : l[i]? = some a) : l.drop i = a :: l.drop (i + 1) := by
  obtain ⟨h1, h2⟩ := List.getElem?_eq_some_iff.mp h
  rw [List.drop_eq_getElem_cons h1, h2]
theorem drop_none {α : Type} {l : List α} {i : Nat} (h : l[i]? = none) : l.drop i = [] := by simp at h; simp [h]

theorem lt_loop (l b : Addr) (vs ws : List Value) (ns ms : List Int) (x : IntsAre vs ns) (y : IntsAre ws ms) (n n2 : Nat) (dd dd2 : Option Addr) (sl sl2 : Array (Option Value)) (k : Nat) :
    ∀ i : Nat, i ≤ ns.length → i ≤ ms.length → ns.length - i = k → Meets (Builtin.«list.__eq__.loop» ⟨[.ref l, .ref b, rawInt i, rawInt 0], []⟩)
      (fun A R s => s.heap.get? l = some { cls := .type "list", dict := dd, data := .seq vs.toArray n, slots := sl } ∧ s.heap.get? b = some { cls := .type "list", dict := dd2, data := .seq ws.toArray n2, slots := sl2 } ∧
        R (.ok (.ret (.bool (ltI (ns.drop i) (ms.drop i))))) s) := by
  have lx := x.length
  have ly := y.length
  induction k with
  | zero =>
    intro i hi1 hi2 hk prog w A R s h
    obtain ⟨hp, g, d, tk, os⟩ := s; obtain ⟨hl, hb, h⟩ := h
    wp_walk using wpAny_loadPart' hl, wpAny_loadPart' hb
    have e1 : (vs.toArray)[((i : Nat) : Int).toNat]? = none := by simp; omega
    rw [e1]
    wp_walk using wpAny_loadPart' hl, wpAny_loadPart' hb
    show R (.ok (.ret (.bool (decide (vs.toArray.size < ws.toArray.size))))) _
    have e2 : ltI (ns.drop i) (ms.drop i) = decide (vs.toArray.size < ws.toArray.size) := by
      rw [show ns.drop i = [] by simp; omega]
      by_cases h : i < ms.length
      · rw [List.drop_eq_getElem_cons h]
        simp [ltI]; omega
      · rw [show ms.drop i = [] by simp; omega]
        simp [ltI]; omega
    rw [e2] at h
    exact h
  | succ k ih =>
    intro i hi1 hi2 hk prog w A R s h
    obtain ⟨hp, g, d, tk, os⟩ := s; obtain ⟨hl, hb, h⟩ := h
    wp_walk using wpAny_loadPart' hl, wpAny_loadPart' hb
    rcases ints_at x i with ⟨h1, h2⟩ | ⟨a, t, h1, h2⟩
    · have : ns.length ≤ i := by simpa using h1
      omega
    have e1 : (vs.toArray)[((i : Nat) : Int).toNat]? = some (.int a t) := by simpa using h2
    rcases ints_at y i with ⟨h3, h4⟩ | ⟨c, u, h3, h4⟩
    · have e2 : (ws.toArray)[((i : Nat) : Int).toNat]? = none := by simpa using h4
      rw [e1, e2]
      wp_walk using wpAny_loadPart' hl, wpAny_loadPart' hb
      show R (.ok (.ret (.bool (decide (vs.toArray.size < ws.toArray.size))))) _
      have hm : ms.length ≤ i := by simpa using h3
      have e3 : ltI (ns.drop i) (ms.drop i) = decide (vs.toArray.size < ws.toArray.size) := by
        rw [drop_some h1, drop_none h3]
        simp [ltI]; omega
      rw [e3] at h
      exact h
    · have e2 : (ws.toArray)[((i : Nat) : Int).toNat]? = some (.int c u) := by simpa using h4
      have hi3 : i < ms.length := (List.getElem?_eq_some_iff.mp h3).1
      have hi4 : i < ns.length := (List.getElem?_eq_some_iff.mp h1).1
      have hc : ((i : Int) + 1) = ((i + 1 : Nat) : Int) := by push_cast; rfl
      rw [drop_some h1, drop_some h3] at h
      rw [e1, e2]
      refine wpAny_bind (wpAny_eqBool_int ?_)
      cases hb' : (a == c) with
      | true =>
        have hac : a = c := by simpa using hb'
        subst hac
        simp only [ltI, if_true] at h
        wp_walk
        rw [hc]
        exact ⟨plainId_quiet plain_eq_loop _, codeAny_builtin entry_eq_loop (by
          rw [Around.under_plainId plain_eq_loop _]
          exact ih (i + 1) hi4 hi3 (by omega) prog w A R _ ⟨hl, hb, h⟩)⟩
      | false =>
        have hac : a ≠ c := by simpa using hb'
        simp only [ltI, if_neg hac] at h
        wp_walk using wpAny_loadPart' hl, wpAny_loadPart' hb
        rw [e1, e2]
        refine wpAny_bind ?_
        show wpAny _ _ (compareOp .Lt (.int a t) (.int c u)) _ _ _
        refine lt_int ?_
        wp_walk
        exact h

theorem list_lt (l b : Addr) (vs ws : List Value) (ns ms : List Int) (x : IntsAre vs ns) (y : IntsAre ws ms) (n n2 : Nat) (dd dd2 : Option Addr) (sl sl2 : Array (Option Value)) :
    Meets (Builtin.«list.__lt__» ⟨[.ref l, .ref b], []⟩)
      (fun A R s => s.heap.get? l = some { cls := .type "list", dict := dd, data := .seq vs.toArray n, slots := sl } ∧ s.heap.get? b = some { cls := .type "list", dict := dd2, data := .seq ws.toArray n2, slots := sl2 } ∧
        R (.ok (.ret (.bool (ltI ns ms)))) s) := by
  intro prog w A R s h
  obtain ⟨hp, g, d, tk, os⟩ := s; obtain ⟨hl, hb, h⟩ := h
  have f3 := AutoSeq1.sub_list_list
  wp_walk using wpAny_loadPart' hl, wpAny_loadPart' hb
  exact ⟨plainId_quiet plain_eq_loop _, codeAny_builtin entry_eq_loop (by
    rw [Around.under_plainId plain_eq_loop _]
    exact lt_loop l b vs ws ns ms x y n n2 dd dd2 sl sl2 _ 0 (Nat.zero_le _) (Nat.zero_le _) rfl prog w A R _ ⟨hl, hb, by simpa using h⟩)⟩
section
variable {prog : Program} {w : World} {A : Around} {env : Env} {h : Heap}
theorem g_ltL {a b : Addr} {vs ws : List Value} {ns ms : List Int} (hl : h.IsList a vs.toArray) (hb : h.IsList b ws.toArray) (x : IntsAre vs ns) (y : IntsAre ws ms) (hu : A.units < cLine) :
    Gr prog w A h (compareOp .Lt (.ref a) (.ref b)) (IsV (.bool (ltI ns ms))) := fun s E hs => by
  have hl := hl.at fun o e => hs a o e
  have hb := hb.at fun o e => hs b o e
  obtain ⟨⟨cls, dd, data, sl⟩, ho, hc, n, hd⟩ := id hl
  obtain ⟨⟨cls2, dd2, data2, sl2⟩, ho2, hc2, n2, hd2⟩ := id hb
  simp only at hc hd hc2 hd2
  subst hc hd hc2 hd2
  show wpAny _ _ (richCompare .Lt (.ref a) (.ref b)) _ _ _
  exact richCompare_meets_room (op := .Lt) ⟨_, ho, rfl⟩ ⟨_, ho2, rfl⟩ F.slot_list_lt F.entry_list_lt (F.args_list_lt_2 _ _) (list_lt a b vs ws ns ms x y n n2 dd dd2 sl sl2)
    ⟨ho, ho2, show Value.bool (ltI ns ms) ≠ Value.notImplemented ∧ _ from ⟨(fun x => nomatch x), rfl, Kp.refl s⟩⟩ hu
theorem ints_all : ∀ {vs ws : List Value} {ns ms : List Int}, IntsAre vs ns → IntsAre ws ms → vs.length = ws.length → (List.range vs.length).all (fun i => ns.getD i 0 == ms.getD i 0) = (ns == ms) := by
  intro vs ws ns ms x y hl
  have lx := x.length
  have ly := y.length
  rw [Bool.eq_iff_iff, List.all_eq_true]
  simp only [List.mem_range, beq_iff_eq]
  constructor
  · intro hh
    apply List.ext_getElem (by omega)
    intro i h1 h2
    have := hh i (by omega)
    simpa [h1, h2] using this
  · rintro rfl i _; rfl
theorem g_eqL {a b : Addr} {vs ws : List Value} {ns ms : List Int} (hl : h.IsList a vs.toArray) (hb : h.IsList b ws.toArray) (x : IntsAre vs ns) (y : IntsAre ws ms) (hu : A.units < cLine) :
    Gr prog w A h (compareOp .Eq (.ref a) (.ref b)) (IsV (.bool (ns == ms))) := fun s E hs => by
  have hl := hl.at fun o e => hs a o e
  have hb := hb.at fun o e => hs b o e
  have lx := x.length
  have ly := y.length
  by_cases hz : vs.length = ws.length
  · refine eq_listAt hl hb (by simpa using hz) hu (e := fun i => ns.getD i 0 == ms.getD i 0) (fun j h1 h2 => ?_) ?_
    · have h1' : j < vs.length := by simpa using h1
      have h2' : j < ws.length := by simpa using h2
      obtain ⟨t, e1⟩ := x.get j (ns[j]'(by omega)) (by simp)
      obtain ⟨u, e2⟩ := y.get j (ms[j]'(by omega)) (by simp)
      have g1 : vs.toArray[j] = .int (ns[j]'(by omega)) t := by simpa [h1'] using e1
      have g2 : ws.toArray[j] = .int (ms[j]'(by omega)) u := by simpa [h2'] using e2
      rw [g1, g2]
      intro prog w E Q hq
      refine wpAny_eqBool_int ?_
      have k1 : j < ns.length := by omega
      have k2 : j < ms.length := by omega
      simpa [k1, k2] using hq
    · have := ints_all x y hz
      have e : vs.toArray.size = vs.length := by simp
      rw [e, this]
      exact ⟨rfl, Kp.refl s⟩
  · refine eq_list_lengthsAt hl hb (by simpa using hz) hu ?_
    have e : (ns == ms) = false := by
      apply beq_false_of_ne
      rintro rfl
      omega
    rw [e]
    exact ⟨rfl, Kp.refl s⟩
theorem g_neBool {a b : Bool} : Gr prog w A h (compareOp .NotEq (.bool a) (.bool b)) (IsV (.bool (a != b))) := fun s E hs => ne_bool ⟨rfl, Kp.refl s⟩
theorem Te.neBool {l r : PySem.Expr} {pos : Pos} {a b : Bool} (hl : Ev prog w A env h l (IsV (.bool a))) (hr : Ev prog w A env h r (IsV (.bool b))) (hm : behindInMarks .NotEq r = false := by with_unfolding_all rfl) : Te prog w A env h (.Compare l [.NotEq] [r] pos) (a != b) :=
  Te.cmp hl hr (mV _) (fun _ _ _ _ ha hb => by cases ha; cases hb; exact g_neBool) hm
/-- a list of ints -/
def IsLI (ns : List Int) : VP := fun v h => ∃ vs, IsL vs v h ∧ IntsAre vs ns
theorem mLI (ns : List Int) : Mono (IsLI ns) := fun v h h' k ⟨vs, a, b⟩ => ⟨vs, IsL.sub v h h' k a, b⟩
theorem Ev.ltLI {l r : PySem.Expr} {pos : Pos} {ns ms : List Int} (hl : Ev prog w A env h l (IsLI ns)) (hr : Ev prog w A env h r (IsLI ms)) (hu : A.units < cLine) (hm : behindInMarks .Lt r = false := by with_unfolding_all rfl) : Ev prog w A env h (.Compare l [.Lt] [r] pos) (IsV (.bool (ltI ns ms))) :=
  Ev.cmp hl hr (mLI ns) (fun _ _ _ _ ⟨_, ⟨_, e1, h1⟩, x⟩ ⟨_, ⟨_, e2, h2⟩, y⟩ => by subst e1 e2; exact g_ltL h1 h2 x y hu) hm
theorem Ev.eqLI {l r : PySem.Expr} {pos : Pos} {ns ms : List Int} (hl : Ev prog w A env h l (IsLI ns)) (hr : Ev prog w A env h r (IsLI ms)) (hu : A.units < cLine) (hm : behindInMarks .Eq r = false := by with_unfolding_all rfl) : Ev prog w A env h (.Compare l [.Eq] [r] pos) (IsV (.bool (ns == ms))) :=
  Ev.cmp hl hr (mLI ns) (fun _ _ _ _ ⟨_, ⟨_, e1, h1⟩, x⟩ ⟨_, ⟨_, e2, h2⟩, y⟩ => by subst e1 e2; exact g_eqL h1 h2 x y hu) hm
theorem Te.eqLI {l r : PySem.Expr} {pos : Pos} {ns ms : List Int} (hl : Ev prog w A env h l (IsLI ns)) (hr : Ev prog w A env h r (IsLI ms)) (hu : A.units < cLine) (hm : behindInMarks .Eq r = false := by with_unfolding_all rfl) : Te prog w A env h (.Compare l [.Eq] [r] pos) (ns == ms) :=
  Te.cmp hl hr (mLI ns) (fun _ _ _ _ ⟨_, ⟨_, e1, h1⟩, x⟩ ⟨_, ⟨_, e2, h2⟩, y⟩ => by subst e1 e2; exact g_eqL h1 h2 x y hu) hm
end
end Mine
end
section
open PySem PySem.W PySem.Calls PyProof.Rows
set_option linter.unusedVariables false
set_option maxRecDepth 100000
namespace Mine
open Builtin
/-- a new list -/
def NL (h : Heap) (vs : List Value) : VP := fun v h' => ∃ a, v = .ref a ∧ h.get? a = none ∧ h'.get? a = some (lstO vs 0)
theorem NL.l {h h' : Heap} {vs : List Value} {v : Value} (x : NL h vs v h') : IsL vs v h' := let ⟨a, e, _, y⟩ := x; ⟨a, e, lstO.at y⟩
theorem mNL (h₀ : Heap) (vs : List Value) : Mono (NL h₀ vs) := fun v h h' k ⟨a, e, x, y⟩ => ⟨a, e, x, k _ _ y⟩
theorem none_of_sub {h h' : Heap} {a : Addr} (k : Sub h h') (e : h'.get? a = none) : h.get? a = none := by
  cases q : h.get? a with
  | none => rfl
  | some o => rw [k _ _ q] at e; cases e
section
variable {prog : Program} {w : World} {A : Around} {env : Env} {h : Heap}

theorem g_newList {vs : List Value} (hz : vs.length ≤ sizeLine) : Gr prog w A h (newList vs) (NL h vs) := fun s E hs =>
  wpAny_newObj_type ⟨⟨_, rfl, none_of_sub hs (push_new _), Heap.get?_push_size _ rfl⟩, Kp.heap1 (Sub.push _ _)⟩ (by show vs.toArray.size ≤ sizeLine; rw [List.size_toArray]; exact hz)
theorem Ev.display {es : List PySem.Expr} {pos : Pos} {G : List Value → Heap → Prop} (ha : Ag prog w A env h pos es G) (mG : ∀ vs h h', Sub h h' → G vs h → G vs h') (hz : ∀ vs h, G vs h → vs.length ≤ 1000) :
    Ev prog w A env h (.List es pos) (fun v h' => ∃ vs, G vs h' ∧ NL h vs v h') := fun s E hs =>
  List_ (wpAny_mono (ha s E hs) (fun vs s₁ ⟨hv, k₁⟩ => wpAny_mono (g_newList (h := h) (by have := hz _ _ hv; rw [sizeLine_eq]; omega) s₁ E (hs.trans (Kp.sub k₁))) (fun v s₂ ⟨hn, k₂⟩ => ⟨⟨vs, mG _ _ _ (Kp.sub k₂) hv, hn⟩, Kp.trans k₁ k₂⟩) fun _ _ e => e) fun _ _ e => e)
theorem Ev.nil {pos : Pos} : Ev prog w A env h (.List [] pos) (NL h []) :=
  (Ev.display Ag.nil (fun _ _ _ _ e => e) (fun _ _ e => by subst e; simp)).imp fun v h' ⟨vs, e, x⟩ => by subst e; exact x
theorem Ev.one {e : PySem.Expr} {pos : Pos} {P : Value → Prop} (he : Ev prog w A env h e (fun v _ => P v)) (hq : backTo pos (starEach [e] env) = (false, eval e env) :: backTo pos (starEach [] env) := by rfl) :
    Ev prog w A env h (.List [e] pos) (fun v h' => ∃ x, P x ∧ NL h [x] v h') :=
  (Ev.display (Ag.one he (fun _ _ _ _ e => e) hq) (fun vs h h' k x => x) (fun _ _ ⟨v, e, _⟩ => by subst e; simp)).imp fun v h' ⟨vs, ⟨x, e, hx⟩, y⟩ => by subst e; exact ⟨x, hx, y⟩
theorem Ev.oneI {e : PySem.Expr} {pos : Pos} {i : Int} (he : Ev prog w A env h e (IsI i)) (hq : backTo pos (starEach [e] env) = (false, eval e env) :: backTo pos (starEach [] env) := by rfl) :
    Ev prog w A env h (.List [e] pos) (fun v h' => ∃ t, NL h [.int i t] v h') :=
  (Ev.one (P := fun v => ∃ t, v = .int i t) he hq).imp fun v h' ⟨x, ⟨t, e⟩, y⟩ => ⟨t, by subst e; exact y⟩

theorem g_mulL {a : Addr} {vs : List Value} {n : Int} {u : Tok} (hl : h.IsList a vs.toArray) (h0 : 0 ≤ n) (hz : vs.length * n.toNat ≤ 256) (hn : n ≤ 256) : Gr prog w A h (binaryOp .Mult (.ref a) (.int n u)) (NL h (List.replicate n.toNat vs).flatten) := fun s E hs => by
  have hl' := hl.at fun o e => hs a o e
  obtain ⟨⟨cls, d, data, sl⟩, ho, hcl, k, hd⟩ := id hl'
  simp only at hcl hd
  subst hcl hd
  have hsz' : vs.toArray.size * n.toNat ≤ 256 := by simpa using hz
  refine wpAny_binaryOp_repeat_ref (T := "list") (U := "int") (by decide) ⟨_, ho, rfl⟩ (fun s' => typeIs_int s' n u) noFill_list_mul F.fills_int_mul F.slot_int_rmul repeat_list F.slot_int_index.lookup
    (call_meets F.slot_int_rmul (typeIs_int s n u) F.entry_int_rmul (F.args_int_rmul_2 _ _) (lm_int_rmul_list_any n u a vs.toArray k d sl)
      ⟨ho, rfl, ⟨_, ho, rfl⟩, call_meets F.slot_list_mul ⟨_, ho, rfl⟩ F.entry_list_mul (F.args_list_mul_2 _ _)
        (lm_list_mul_any a vs.toArray k d sl n u (by simp [Builtin.List.listFitsIndex]; omega) (by omega) (by simp [Builtin.List.listTooLong, sizeLine]; omega))
        ⟨ho, ?_⟩⟩)
  refine ⟨⟨_, rfl, none_of_sub hs (push_new _), ?_⟩, Kp.heap1 (Sub.push _ _)⟩
  rw [listMul_foldl_if]
  exact Heap.get?_push_size _ rfl
theorem g_addL {l b : Addr} {vs ws : List Value} (hl : h.IsList l vs.toArray) (hb : h.IsList b ws.toArray) (hsz : vs.length + ws.length ≤ sizeLine) : Gr prog w A h (binaryOp .Add (.ref l) (.ref b)) (NL h (vs ++ ws)) := fun s E hs => by
  have hl := hl.at fun o e => hs l o e
  have hb := hb.at fun o e => hs b o e
  obtain ⟨⟨cls, dd, data, sl⟩, ho, hc, n, hd⟩ := id hl
  obtain ⟨⟨cls2, dd2, data2, sl2⟩, ho2, hc2, n2, hd2⟩ := id hb
  simp only at hc hd hc2 hd2
  subst hc hd hc2 hd2
  have e : vs.toArray ++ ws.toArray = (vs ++ ws).toArray := by simp
  refine concat_meets ⟨_, ho, rfl⟩ ⟨_, ho2, rfl⟩ noFill_list_add seq_list_add PySem.F.slot_list_add PySem.F.entry_list_add (PySem.F.args_list_add_2 _ _) (list_addW l b vs.toArray ws.toArray n n2 dd dd2 sl sl2 (by simpa using hsz)) ⟨ho, ho2, ?_⟩
  rw [e]
  exact ⟨⟨_, rfl, none_of_sub hs (push_new _), Heap.get?_push_size _ rfl⟩, Kp.heap1 (Sub.push _ _)⟩
theorem Ev.mulL {l r : PySem.Expr} {pos : Pos} {vs : List Value} {n : Int} (hl : Ev prog w A env h l (IsL vs)) (hr : Ev prog w A env h r (IsI n)) (h0 : 0 ≤ n) (hz : vs.length * n.toNat ≤ 256) (hn : n ≤ 256) : Ev prog w A env h (.BinOp l .Mult r pos) (NL h (List.replicate n.toNat vs).flatten) :=
  Ev.bin hl hr IsL.sub fun _ _ h' k ⟨_, ha, hh⟩ ⟨_, hb⟩ => by subst ha hb; exact (g_mulL hh h0 hz hn).imp fun v h'' ⟨a, e, x, y⟩ => ⟨a, e, none_of_sub k x, y⟩
theorem Ev.addL {l r : PySem.Expr} {pos : Pos} {vs ws : List Value} (hl : Ev prog w A env h l (IsL vs)) (hr : Ev prog w A env h r (IsL ws)) (hz : vs.length + ws.length ≤ sizeLine) : Ev prog w A env h (.BinOp l .Add r pos) (NL h (vs ++ ws)) :=
  Ev.bin hl hr IsL.sub fun _ _ h' k ⟨_, ha, hh⟩ ⟨_, hb, hh'⟩ => by subst ha hb; exact (g_addL hh hh' hz).imp fun v h'' ⟨a, e, x, y⟩ => ⟨a, e, none_of_sub k x, y⟩

theorem Ev.slice3 {lo up st : Option PySem.Expr} {i j q : Option Int} {pos : Pos} (hl : Part prog w A env h lo i) (hu : Part prog w A env h up j) (hq : Part prog w A env h st q) :
    Ev prog w A env h (.Slice lo up st pos) (fun v h' => ∃ a l u x, v = .ref a ∧ IsPart l i ∧ IsPart u j ∧ IsPart x q ∧ h'.IsSliceOf a l u x) := fun s E hs => by
  rw [arm_eval_Slice]
  refine wpAny_bind (wpAny_mono (hl.run s E hs) (fun l s₁ ⟨hl', k₁⟩ => wpAny_bind (wpAny_holding (wpAny_mono (hu.run s₁ E (hs.trans (Kp.sub k₁))) (fun u s₂ ⟨hu', k₂⟩ => ?_) fun _ _ e => e))) fun _ _ e => e)
  refine wpAny_bind (wpAny_holding (wpAny_mono (hq.run s₂ E (hs.trans ((Kp.sub k₁).trans (Kp.sub k₂)))) (fun x s₃ ⟨hx', k₃⟩ => ?_) fun _ _ e => e))
  exact wpAny_newObj_type ⟨⟨_, l, u, x, rfl, hl', hu', hx', Heap.IsSliceOf.new _ _ _ _⟩, Kp.trans k₁ (Kp.trans k₂ (Kp.trans k₃ (Kp.heap1 (Sub.push _ _))))⟩
theorem Ev.cutL {value : PySem.Expr} {lo up st : Option PySem.Expr} {i j q : Option Int} {p pos : Pos} {vs us : List Value} (hv : Ev prog w A env h value (IsL vs)) (hl : Part prog w A env h lo i) (hu : Part prog w A env h up j) (hq : Part prog w A env h st q) (h0 : q ≠ some 0) (hz : vs.length ≤ sizeLine)
    (he : slicePick vs.toArray i j q = us.toArray)
    (hs : ∀ o i, ∃ ops, subscripted (.Slice lo up st p) false o i = operate ops (getItem o i) := by intro o i; exact ⟨_, by with_unfolding_all rfl⟩) :
    Ev prog w A env h (.Subscript value (.Slice lo up st p) pos) (NL h us) :=
  Ev.subs hv (Ev.slice3 hl hu hq) IsL.sub (fun o q s hsub ⟨a, e, hh⟩ ⟨sa, l, u, x, ei, pl, pu, px, sl⟩ => by
    subst e ei
    exact ⟨"list", _, hh.typeIs, slot_list_getitem.lookup, fun s' E' hs' => wpAny_getItem_list_slice (hh.at fun o e => hs' a o e) (Heap.IsSliceOf.at' sl hs') pl pu px h0
      (by rw [he]; exact ⟨⟨_, rfl, none_of_sub (hsub.trans hs') (push_new _), Heap.get?_push_size _ rfl⟩, Kp.heap1 (Sub.push _ _)⟩) (by simpa using hz)⟩) hs

/-- bytes of a list of ints -/
theorem g_bytes {a : Addr} {vs : List Value} {ns : List Int} (hl : h.IsList a vs.toArray) (hi : IntsAre vs ns) (hr : ∀ n ∈ ns, 0 ≤ n ∧ n < 256) (hz : vs.length ≤ sizeLine) (hh : A.handled = none) :
    Gr prog w A h (call (.type "bytes") [.ref a]) (IsB (byteArr ns)) := fun s E hs =>
  call_bytes_ints (hl.at fun o e => hs a o e) hi hr hz hh fun h' t k hk => ⟨⟨t, rfl⟩, Kp.heap hk⟩
end
end Mine
end
section
open PySem PySem.W PySem.Calls PyProof.Rows
set_option linter.unusedVariables false
set_option maxRecDepth 100000
namespace Mine
/-! cells -/
theorem cellsFrom_names : ∀ (names : List (Str × NameKind)) (n : Nat) (acc : List (Str × Addr)), (cellsFrom n names acc).map (·.1) = ((names.filter (·.2 == .cell)).map (·.1)).reverse ++ acc.map (·.1)
  | [], n, acc => by simp [cellsFrom]
  | (name, kind) :: r, n, acc => by
    unfold cellsFrom
    by_cases h : (kind == NameKind.cell) = true
    · rw [if_pos h, cellsFrom_names r]
      simp [List.filter_cons, h]
    · rw [if_neg h, cellsFrom_names r]
      simp [List.filter_cons, h]
theorem cells_nodup {names : List (Str × NameKind)} (hn : (names.map (·.1)).Nodup) (n : Nat) : ((cellsFrom n names []).map (·.1)).Nodup := by
  rw [cellsFrom_names]
  simp only [List.map_nil, List.append_nil]
  exact (List.reverse_perm _).nodup_iff.mpr ((List.filter_sublist.map _).nodup hn)
theorem lookup_isSome {α : Type} : ∀ {l : List (Str × α)} {x : Str}, x ∈ l.map (·.1) → (l.lookup x).isSome = true
  | (k, v) :: r, x, h => by
    rw [List.lookup_cons]
    cases hb : x == k with
    | true => rfl
    | false =>
      rcases List.mem_cons.mp h with e | h
      · exact absurd e (beq_eq_false_iff_ne.mp hb)
      · exact lookup_isSome h
theorem cells_some {names : List (Str × NameKind)} {x : Str} (h : names.lookup x = some .cell) (n : Nat) : ((cellsFrom n names []).lookup x).isSome = true := by
  refine lookup_isSome ?_
  rw [cellsFrom_names]
  refine List.mem_append_left _ (List.mem_reverse.mpr (List.mem_map.mpr ⟨(x, .cell), List.mem_filter.mpr ⟨mem_of_lookup h, by rfl⟩, rfl⟩))
theorem bindL_other (k : Str → Option NameKind) : ∀ (l : List (Str × Value)) (m : Str → Option Value) (x : Str), x ∉ l.map (·.1) → bindL k l m x = m x
  | [], _, _, _ => rfl
  | (n, v) :: r, m, x, h => by
    unfold bindL
    rw [bindL_other k r _ x (fun hm => h (List.mem_cons_of_mem _ hm))]
    have : x ≠ n := fun e => h (by rw [e]; exact List.mem_cons_self)
    by_cases hk : k n = some .local
    · rw [if_pos hk, if_neg this]
    · rw [if_neg hk]
theorem bindC_other (k : Str → Option NameKind) : ∀ (l : List (Str × Value)) (m : Str → Option Value) (x : Str), x ∉ l.map (·.1) → bindC k l m x = m x
  | [], _, _, _ => rfl
  | (n, v) :: r, m, x, h => by
    unfold bindC
    rw [bindC_other k r _ x (fun hm => h (List.mem_cons_of_mem _ hm))]
    have : x ≠ n := fun e => h (by rw [e]; exact List.mem_cons_self)
    by_cases hk : k n = some .local
    · rw [if_pos hk]
    · rw [if_neg hk, if_neg this]
theorem bindL_at (k : Str → Option NameKind) : ∀ (l : List (Str × Value)) (m : Str → Option Value) (x : Str) (v : Value), (l.map (·.1)).Nodup → (x, v) ∈ l → k x = some .local → bindL k l m x = some v
  | (n, u) :: r, m, x, v, hn, h, hk => by
    rw [List.map_cons, List.nodup_cons] at hn
    unfold bindL
    rcases List.mem_cons.mp h with e | h
    · cases e
      rw [bindL_other k r _ _ hn.1, if_pos hk, if_pos rfl]
    · exact bindL_at k r _ x v hn.2 h hk
theorem bindC_at (k : Str → Option NameKind) : ∀ (l : List (Str × Value)) (m : Str → Option Value) (x : Str) (v : Value), (l.map (·.1)).Nodup → (x, v) ∈ l → k x ≠ some .local → bindC k l m x = some v
  | (n, u) :: r, m, x, v, hn, h, hk => by
    rw [List.map_cons, List.nodup_cons] at hn
    unfold bindC
    rcases List.mem_cons.mp h with e | h
    · cases e
      rw [bindC_other k r _ _ hn.1, if_neg hk, if_pos rfl]
    · exact bindC_at k r _ x v hn.2 h hk

/-- the names' kinds, and their cells -/
structure GC (env : Env) (names : List (Str × NameKind)) : Prop where
  g : GEnv env
  k : ∀ x k, names.lookup x = some k → env.kindOf x = some k
  c : ∀ x, names.lookup x = some .cell → (env.cells.lookup x).isSome = true
theorem GC.can {env : Env} {names : List (Str × NameKind)} (K : GC env names) {x : Str} (h : names.lookup x = some .cell) : CanSt env x := .inr ⟨K.k _ _ h, K.c _ h⟩
theorem GC.loc {env : Env} {names : List (Str × NameKind)} (K : GC env names) {x : Str} (h : names.lookup x = some .local) : CanSt env x := .inl (K.k _ _ h)

theorem St.ofCells {s s₁ : Shared} {env : Env} {binds : List (Str × Value)} {names : List (Str × NameKind)} (hk : env.scope.kind = .function) (hl : s.heap.objs.size ≤ env.locals)
    (hce : ∃ n, env.cells = cellsFrom n names []) (hnn : (names.map (·.1)).Nodup) (hnd : (binds.map (·.1)).Nodup)
    (hkind : ∀ x ∈ binds, env.kindOf x.1 = some .local ∨ (env.kindOf x.1 = some .cell ∧ (env.cells.lookup x.1).isSome = true))
    (X : InCallC s env.locals (bindL env.kindOf binds fun _ => none) env.cells (bindC env.kindOf binds fun _ => none) s₁) : St s.heap env binds [] s₁.heap := by
  obtain ⟨n0, hce⟩ := hce
  have hcn : (env.cells.map (·.1)).Nodup := by rw [hce]; exact cells_nodup hnn _
  refine ⟨hk, X.toInCall.keep, ⟨_, X.toInCall.ns⟩, Heap.get?_none_of_le hl, fun n c hc => ⟨⟨_, X.cell n c (lookup_nodup hcn hc)⟩, Heap.get?_none_of_le (Nat.le_trans hl (Nat.le_of_lt (X.above n c hc))), Nat.ne_of_gt (X.above n c hc)⟩, X.apart, fun p hp => ?_, (fun p hp => nomatch hp), List.nodup_nil⟩
  rcases hkind p hp with h | ⟨h, hc⟩
  · exact .inl ⟨h, _, X.toInCall.ns, bindL_at _ _ _ _ _ hnd hp h⟩
  · obtain ⟨c, hc⟩ := Option.isSome_iff_exists.mp hc
    refine .inr ⟨.inl h, c, hc, ?_⟩
    have := X.cell p.1 c hc
    rwa [bindC_at env.kindOf binds _ p.1 p.2 hnd hp (by rw [h]; decide)] at this

section
variable {prog : Program} {w : World} {A : Around} {env : Env} {h : Heap}
/-- a def with cells is entered -/
theorem fn_callC {f : Addr} {o : Obj} {fd : FuncData} {body : List Stmt} {args : PySem.Args} {binds : List (Str × Value)} {H : VP} {n : Nat}
    (ho : h.get? f = some o) (hd : o.data = .func fd) (hlim : h.NoLimit) (hcd : h.CodeRec fd.code fd.qualname) (hbody : fd.body = .stmts body) (hcl : fd.closure = [])
    (hok : Ok A (n + 1)) (hbind : ∀ s, Sub h s.heap → BindsTo s fd args binds) (hnn : (fd.scope.names.map (·.1)).Nodup) (hloc : (binds.all fun x => fd.scope.names.lookup x.1 == some .local || fd.scope.names.lookup x.1 == some .cell) = true) (hnd : (binds.map (·.1)).Nodup)
    (hbd : ∀ (s : Shared) (env : Env) (A' : Around) (h₁ : Heap) (tk : Nat), Sub h s.heap → St s.heap env binds [] h₁ → GC env fd.scope.names → Ok A' n →
      wpAny (model prog w) A' (execs body env) (fun fl s'' => ∃ v, fl = .ret v ∧ H v s''.heap ∧ ∃ h' tk', s'' = { s with heap := h', toks := tk' } ∧ Sub s.heap h') (fun _ _ => False) { s with heap := h₁, toks := tk })
    (hco : fd.scope.isCoroutine = false := by rfl) (hgen : fd.scope.isGenerator = false := by rfl) (hk : fd.scope.kind = .function := by rfl) (hg : fd.globals = mainGlobals := by rfl) (hbu : fd.builtins = builtinsNs := by rfl) :
    Gr prog w A h (call (.ref f) args.pos args.kw) H := fun s E hs => by
  have hkind : ∀ x ∈ binds, fd.scope.names.lookup x.1 = some .local ∨ (fd.scope.names.lookup x.1 = some .cell ∧ ((cellsFrom (s.heap.objs.size + 1) fd.scope.names []).lookup x.1).isSome = true) := fun x hx => by
    have := List.all_eq_true.mp hloc x hx
    rcases Bool.or_eq_true_iff.mp this with a | a
    · exact .inl (by simpa using a)
    · have a : fd.scope.names.lookup x.1 = some .cell := by simpa using a
      exact .inr ⟨a, cells_some a _⟩
  refine wpAny_call ?_
  refine codeAny_call_function (by have := hok.depth; omega) (hs _ _ ho) hd hco hgen hbody ?_ (hbind s hs _ _ _ _ ?_)
  · obtain ⟨c, oc, vs, tq, e1, e2, e3, e4⟩ := hcd
    exact ⟨c, oc, vs, tq, e1, hs _ _ e2, e3, e4⟩
  rw [hcl]
  refine wpAny_newFunctionEnv_cells hk hkind fun env he s' x => ?_
  have hkind' : ∀ x ∈ binds, env.kindOf x.1 = some .local ∨ (env.kindOf x.1 = some .cell ∧ (env.cells.lookup x.1).isSome = true) := by subst he; exact hkind
  have S := St.ofCells (env := env) (names := fd.scope.names) (by subst he; exact hk) (by subst he; exact Nat.le_refl _) ⟨_, by subst he; rfl⟩ hnn hnd hkind' x
  subst he
  refine ⟨(hlim.keeps hs).keeps x.toInCall.keep, codeAny_func ?_⟩
  obtain ⟨h₁, tk, rfl, _⟩ := x.done
  refine wpAny_mono (hbd s _ _ h₁ _ hs S ⟨⟨hk, hg, hbu⟩, fun x k e => e, fun x e => cells_some e _⟩ hok.deeper) (fun fl s'' hq => ?_) fun _ _ e => e.elim
  obtain ⟨v, rfl, hv, h', tk', rfl, hk'⟩ := hq
  exact ⟨hv, h', tk', rfl, hk'⟩
end

/-! closures of comprehensions -/
def clOf (names : List (Str × NameKind)) (cells : List (Str × Addr)) (acc : List (Str × Addr)) : List (Str × Addr) :=
  match names with
  | [] => acc
  | (n, k) :: r => clOf r cells (if k == .free then (n, (cells.lookup n).getD 0) :: acc else acc)
theorem closure_eq {scope : Scope} {env : Env} (hc : ∀ n, (n, NameKind.free) ∈ scope.names → (env.cells.lookup n).isSome = true) : closureFor scope env = pure (clOf scope.names env.cells []) := by
  unfold closureFor
  have key : ∀ (names : List (Str × NameKind)) (acc : List (Str × Addr)), (∀ n, (n, NameKind.free) ∈ names → (env.cells.lookup n).isSome = true) →
      (forIn names acc fun x (cs : List (Str × Addr)) => (match x with | (name, kind) => if kind == NameKind.free then (do let a ← cellOf env name; pure (ForInStep.yield ((name, a) :: cs))) else pure (ForInStep.yield cs) : Sem (ForInStep (List (Str × Addr))))) = pure (clOf names env.cells acc) := by
    intro names
    induction names with
    | nil => intro acc _; rw [List.forIn_nil]; rfl
    | cons x r ih =>
      obtain ⟨n, k⟩ := x
      intro acc hx
      rw [List.forIn_cons]
      by_cases hk : (k == NameKind.free) = true
      · have hk' : k = .free := by simpa using hk
        subst hk'
        obtain ⟨c, hc'⟩ := Option.isSome_iff_exists.mp (hx n List.mem_cons_self)
        have e : cellOf env n = pure c := by unfold cellOf; rw [hc']
        have := ih ((n, c) :: acc) (fun n' hn' => hx n' (List.mem_cons_of_mem _ hn'))
        have e2 : clOf ((n, NameKind.free) :: r) env.cells acc = clOf r env.cells ((n, c) :: acc) := by rw [clOf, if_pos hk, hc']; rfl
        rw [e2, ← this]
        dsimp only
        rw [if_pos hk, e]
        rfl
      · have := ih acc (fun n' hn' => hx n' (List.mem_cons_of_mem _ hn'))
        have e2 : clOf ((n, k) :: r) env.cells acc = clOf r env.cells acc := by rw [clOf, if_neg hk]
        rw [e2, ← this]
        dsimp only
        rw [if_neg hk]
        rfl
  have := key scope.names [] hc
  simpa using this
theorem clOf_lookup {cells : List (Str × Addr)} {x : Str} {c : Addr} (hc : cells.lookup x = some c) : ∀ (names : List (Str × NameKind)) (acc : List (Str × Addr)),
    (acc.lookup x = some c ∨ (acc.lookup x = none ∧ (x, NameKind.free) ∈ names)) → (∀ d, acc.lookup x = some d → d = c) → (clOf names cells acc).lookup x = some c
  | [], acc, h, _ => by
    rcases h with h | ⟨_, h⟩
    · exact h
    · cases h
  | (n, k) :: r, acc, h, h2 => by
    unfold clOf
    by_cases hk : (k == NameKind.free) = true
    · rw [if_pos hk]
      by_cases hx : x = n
      · subst hx
        exact clOf_lookup hc r _ (.inl (by simp [List.lookup_cons, hc])) (fun d hd => by simp [List.lookup_cons, hc] at hd; exact hd.symm)
      · have e : (x == n) = false := beq_eq_false_iff_ne.mpr hx
        refine clOf_lookup hc r _ ?_ (fun d hd => h2 d (by simpa [List.lookup_cons, e] using hd))
        rcases h with h | ⟨h, hm⟩
        · exact .inl (by simpa [List.lookup_cons, e] using h)
        · refine .inr ⟨by simpa [List.lookup_cons, e] using h, ?_⟩
          rcases List.mem_cons.mp hm with q | q
          · exact absurd (Prod.mk.inj q).1 hx
          · exact q
    · rw [if_neg hk]
      refine clOf_lookup hc r _ ?_ h2
      rcases h with h | ⟨h, hm⟩
      · exact .inl h
      · refine .inr ⟨h, ?_⟩
        rcases List.mem_cons.mp hm with q | q
        · cases q; exact absurd rfl hk
        · exact q
theorem relabel_lookup {env : Env} : ∀ (names : List (Str × NameKind)) (x : Str), (names.map fun (n, k) => if (k == NameKind.free && env.scope.kind == .function && env.kindOf n == some .cell) then (n, NameKind.cell) else (n, k)).lookup x =
    (names.lookup x).map fun k => if (k == NameKind.free && env.scope.kind == .function && env.kindOf x == some .cell) then NameKind.cell else k
  | [], x => rfl
  | (n, k) :: r, x => by
    show List.lookup x ((if (k == NameKind.free && env.scope.kind == .function && env.kindOf n == some .cell) = true then (n, NameKind.cell) else (n, k)) :: _) = _
    by_cases hx : x = n
    · subst hx
      by_cases hc : (k == NameKind.free && env.scope.kind == .function && env.kindOf x == some .cell) = true
      · rw [if_pos hc]; simp only [List.lookup_cons, beq_self_eq_true, Option.map_some]; rw [if_pos hc]
      · rw [if_neg hc]; simp only [List.lookup_cons, beq_self_eq_true, Option.map_some]; rw [if_neg hc]
    · have e : (x == n) = false := beq_eq_false_iff_ne.mpr hx
      have ih := relabel_lookup (env := env) r x
      by_cases hc : (k == NameKind.free && env.scope.kind == .function && env.kindOf n == some .cell) = true
      · rw [if_pos hc]; simp only [List.lookup_cons, e]; exact ih
      · rw [if_neg hc]; simp only [List.lookup_cons, e]; exact ih
/-- the comprehension's own names -/
def cenv (scope : Scope) (env : Env) (C : Addr) : Env := compEnvC scope (clOf scope.names env.cells []) C env
theorem cenv_kind {scope : Scope} {env : Env} {C : Addr} {x : Str} {k : NameKind} (h : scope.names.lookup x = some k) (hk : k ≠ .free) : (cenv scope env C).kindOf x = some k := by
  show List.lookup x (scope.names.map _) = _
  rw [relabel_lookup, h]
  have : (k == NameKind.free) = false := beq_eq_false_iff_ne.mpr hk
  rw [Option.map_some, this, Bool.false_and, Bool.false_and]
  rfl
theorem cenv_g {scope : Scope} {env : Env} {C : Addr} (G : GEnv env) (hk : scope.kind = .function) : GEnv (cenv scope env C) := ⟨hk, G.gl, G.bu⟩
theorem Holds.inC {scope : Scope} {env : Env} {C : Addr} {h : Heap} {x : Str} {v : Value} (G : GEnv env) (hx : scope.names.lookup x = some .free) (a : Holds h env x v) (hn : env.kindOf x ≠ some .local) : Holds h (cenv scope env C) x v := by
  rcases a with ⟨a, _⟩ | ⟨a, c, e, d⟩
  · exact absurd a hn
  · have hl : (cenv scope env C).cells.lookup x = some c := clOf_lookup e scope.names [] (.inr ⟨rfl, mem_of_lookup hx⟩) (fun d hd => nomatch hd)
    have hk : (cenv scope env C).kindOf x = if env.kindOf x == some .cell then some .cell else some .free := by
      show List.lookup x (scope.names.map _) = _
      rw [relabel_lookup, hx, G.kind]
      by_cases q : env.kindOf x = some .cell
      · simp [q]
      · simp [q]
    refine .inr ⟨?_, c, hl, d⟩
    rcases a with a | ⟨a, b⟩
    · rw [a] at hk; exact .inl hk
    · rw [a] at hk; exact .inr ⟨hk, b⟩
end Mine
end
section
open PySem PySem.W PySem.Calls PyProof.Rows
set_option linter.unusedVariables false
set_option maxRecDepth 100000
namespace Mine
inductive All2 {α β : Type} (D : α → β → Prop) : List α → List β → Prop
  | nil : All2 D [] []
  | cons {a b r q} : D a b → All2 D r q → All2 D (a :: r) (b :: q)
theorem all2_of {α β : Type} {D : α → β → Prop} : ∀ {xs : List α} {vs : List β}, vs.length = xs.length → (∀ (j : Nat) (v : β), vs[j]? = some v → ∃ a, xs[j]? = some a ∧ D a v) → All2 D xs vs
  | [], [], _, _ => .nil
  | a :: r, v :: q, hl, h => by
    refine .cons ?_ (all2_of (by simpa using hl) fun j v hv => by simpa using h (j + 1) v (by simpa using hv))
    obtain ⟨a', e, d⟩ := h 0 v (by simp)
    simp at e; subst e; exact d
theorem All2.filter {α β : Type} {D : α → β → Prop} {p : α → Bool} {q : β → Bool} : ∀ {xs : List α} {vs : List β}, All2 D xs vs → (∀ a ∈ xs, ∀ v, D a v → q v = p a) → All2 D (xs.filter p) (vs.filter q)
  | _, _, .nil, _ => .nil
  | a :: r, v :: u, .cons d t, h => by
    have e := h a List.mem_cons_self v d
    have ih := t.filter (p := p) (q := q) fun a ha => h a (List.mem_cons_of_mem _ ha)
    rw [List.filter_cons, List.filter_cons, e]
    cases p a
    · exact ih
    · exact .cons d ih
theorem All2.are {α : Type} {D : α → Value → Prop} {F : Value → Value → Prop} {g : α → Int} : ∀ {xs : List α} {vs ys : List Value}, All2 D xs vs → Paired F vs ys → (∀ a ∈ xs, ∀ v y, D a v → F v y → ∃ t, y = .int (g a) t) → IntsAre ys (xs.map g)
  | _, _, _, .nil, .nil, _ => .nil
  | a :: r, v :: u, y :: z, .cons d t, .cons f q, h => by
    obtain ⟨t', e⟩ := h a List.mem_cons_self v y d f
    subst e
    exact .cons _ _ (t.are q fun a ha => h a (List.mem_cons_of_mem _ ha))
/-- a new list of ints -/
def NI (h : Heap) (ns : List Int) : VP := fun v h' => ∃ a vs n, v = .ref a ∧ h.get? a = none ∧ h'.get? a = some (lstO vs n) ∧ IntsAre vs ns
theorem NI.li {h h' : Heap} {ns : List Int} {v : Value} (x : NI h ns v h') : IsLI ns v h' := let ⟨a, vs, n, e, _, y, z⟩ := x; ⟨vs, ⟨a, e, lstO.at y⟩, z⟩
theorem NI.nw {h h' : Heap} {ns : List Int} {v : Value} (x : NI h ns v h') : Nw h (fun v l => ∃ a vs n, v = .ref a ∧ l = [(a, lstO vs n)] ∧ IntsAre vs ns) v h' := by
  obtain ⟨a, vs, n, e, e0, y, z⟩ := x
  exact ⟨[(a, lstO vs n)], ⟨a, vs, n, e, rfl, z⟩, fun p hp => by rw [List.mem_singleton.mp hp]; exact ⟨e0, y⟩, by simp⟩
theorem NL.ni {h h' : Heap} {vs : List Value} {ns : List Int} {v : Value} (x : NL h vs v h') (i : IntsAre vs ns) : NI h ns v h' := let ⟨a, e, e0, y⟩ := x; ⟨a, vs, 0, e, e0, y, i⟩
def DI (n : Int) (v : Value) : Prop := ∃ t, v = .int n t
def DB (b : Array UInt8) (v : Value) : Prop := ∃ t, v = .bytes b t
theorem DI.inj {a b : Int} {v : Value} (x : DI a v) (y : DI b v) : a = b := by obtain ⟨t, rfl⟩ := x; obtain ⟨u, e⟩ := y; cases e; rfl
theorem DB.inj {a b : Array UInt8} {v : Value} (x : DB a v) (y : DB b v) : a = b := by obtain ⟨t, rfl⟩ := x; obtain ⟨u, e⟩ := y; cases e; rfl

/-- the tests of a comprehension -/
def tests (ifs : List PySem.Expr) (env : Env) : Sem Bool := forIn ifs true fun c r => if r = true then do let ok ← isTrue c env (eval c env); pure (ForInStep.yield ok) else pure (ForInStep.yield r)
section
variable {prog : Program} {w : World} {A : Around} {env : Env} {hb h : Heap} {vars vars' : List (Str × Value)} {news : List (Addr × Obj)}
theorem tests_nil : Gr prog w A h (tests [] env) (fun ok _ => ok = true) := fun s E hs => by
  unfold tests; rw [List.forIn_nil]; exact wpAny_pure ⟨rfl, Kp.refl s⟩
theorem tests_one {c : PySem.Expr} {b : Bool} (hc : Te prog w A env h c b) : Gr prog w A h (tests [c] env) (fun ok _ => ok = b) := fun s E hs => by
  unfold tests; rw [List.forIn_cons]
  refine wpAny_bind ?_
  rw [if_pos rfl]
  refine wpAny_bind (wpAny_mono (hc s E hs) (fun v s₁ ⟨hv, k⟩ => wpAny_pure ?_) fun _ _ e => e)
  show wpAny _ _ (forIn [] v _) _ _ _
  rw [List.forIn_nil]
  exact wpAny_pure ⟨hv, k⟩

open Classical in
theorem quietC {α : Type} {D : α → Value → Prop} {xs : List α} {p : α → Bool} {g : α → Int} {scope : Scope} {x : Str} {ifs : List PySem.Expr} {elt : PySem.Expr} {h : Heap} {s₂ : Shared} {I : Addr} (inj : ∀ a b v, D a v → D b v → a = b)
    (hx : scope.names.lookup x = some .local) (hsub : Sub h s₂.heap) (hI : h.get? I = none)
    (htest : ∀ C a v h', a ∈ xs → D a v → Sub h h' → Holds h' (cenv scope env C) x v → Gr prog w A h' (tests ifs (cenv scope env C)) (fun ok _ => ok = p a))
    (helt : ∀ C a v h', a ∈ xs → p a = true → D a v → Sub h h' → Holds h' (cenv scope env C) x v → Ev prog w A (cenv scope env C) h' elt (IsI (g a))) :
    QuietOnC prog w A env scope (clOf scope.names env.cells []) x ifs elt [I] (fun i v => ∃ a, xs[i]? = some a ∧ D a v) (fun v => decide (∃ a, a ∈ xs ∧ D a v ∧ p a = true)) (fun v y => ∀ a, a ∈ xs → D a v → ∃ t, y = .int (g a) t) s₂ := by
  have hp : ∀ a v, a ∈ xs → D a v → decide (∃ a, a ∈ xs ∧ D a v ∧ p a = true) = p a := fun a v ha d => by
    cases q : p a with
    | true => exact decide_eq_true ⟨a, ha, d, q⟩
    | false =>
      refine decide_eq_false fun ⟨b, _, d', q'⟩ => ?_
      rw [inj _ _ _ d d', q'] at q; cases q
  have sub : ∀ (s₃ : Shared), (∀ b o, b ∉ [I] → s₂.heap.get? b = some o → s₃.heap.get? b = some o) → Sub h s₃.heap := fun s₃ hk b o e => hk b o (fun hm => by rw [List.mem_singleton.mp hm, hI] at e; cases e) (hsub _ _ e)
  refine ⟨fun C i v s₃ m₃ E' _ hP hn hm hk _ => ?_, fun C i v s₃ m₃ E' _ hP hpv hn hm hk _ => ?_⟩
  · obtain ⟨a, ha, d⟩ := hP
    have ha' : a ∈ xs := List.mem_of_getElem? ha
    exact wpAny_mono (htest C a v s₃.heap ha' d (sub s₃ hk) (.inl ⟨cenv_kind hx (by decide), m₃, hn, hm⟩) s₃ E' (Sub.refl _)) (fun ok s₄ ⟨e, k⟩ => ⟨by rw [e, hp a v ha' d], k⟩) fun _ _ e => e
  · obtain ⟨a, ha, d⟩ := hP
    have ha' : a ∈ xs := List.mem_of_getElem? ha
    rw [hp a v ha' d] at hpv
    exact wpAny_mono (helt C a v s₃.heap ha' hpv d (sub s₃ hk) (.inl ⟨cenv_kind hx (by decide), m₃, hn, hm⟩) s₃ E' (Sub.refl _)) (fun y s₄ ⟨e, k⟩ => ⟨fun b hb d' => by rw [inj _ _ _ d' d]; exact e, k⟩) fun _ _ e => e

open Classical in
theorem Ev.comp {α : Type} {D : α → Value → Prop} {xs : List α} {p : α → Bool} {g : α → Int} {scope : Scope} {x : Str} {px : Pos} {ifs : List PySem.Expr} {elt iter : PySem.Expr} {pos : Pos} {F : VP} {fp : List Addr} (inj : ∀ a b v, D a v → D b v → a = b)
    (hev : Ev prog w A env h iter F) (hsrc : ∀ v h', Sub h h' → F v h' → Src prog w A h' v fp xs.length (fun i v => ∃ a, xs[i]? = some a ∧ D a v))
    (hfp : ∀ b ∈ fp, ∃ o, h.get? b = some o) (hz : xs.length ≤ sizeLine) (hcells : ∀ n, (n, NameKind.free) ∈ scope.names → (env.cells.lookup n).isSome = true)
    (htest : ∀ C a v h', a ∈ xs → D a v → Sub h h' → Holds h' (cenv scope env C) x v → Gr prog w A h' (tests ifs (cenv scope env C)) (fun ok _ => ok = p a))
    (helt : ∀ C a v h', a ∈ xs → p a = true → D a v → Sub h h' → Holds h' (cenv scope env C) x v → Ev prog w A (cenv scope env C) h' elt (IsI (g a)))
    (hcell : ∀ y ∈ scope.names, y.2 ≠ .cell := by decide) (hkind : scope.kind = .function := by rfl)
    (hnames : ∀ y ∈ scope.names, y.2 = .local → scope.names.lookup y.1 = some .local := by decide) (hx : scope.names.lookup x = some .local := by rfl)
    (hs : ∀ x, foldedSetIterable iter env x = pure x := by intro _; rfl) :
    Ev prog w A env h (.ListComp elt [⟨.Name x px, iter, ifs, 0⟩] scope pos) (NI h ((xs.filter p).map g)) := fun s E hsub => by
  refine wpAny_ListComp_free (fun v => decide (∃ a, a ∈ xs ∧ D a v ∧ p a = true)) (fun v y => ∀ a, a ∈ xs → D a v → ∃ t, y = .int (g a) t) (closure_eq hcells) hcell hkind hnames hx ?_ hs
  refine wpAny_mono (hev s E hsub) (fun xv s₁ ⟨hxv, k₁⟩ => ?_) fun _ _ e => e
  refine wpAny_mono (hsrc xv s₁.heap (hsub.trans (Kp.sub k₁)) hxv s₁ E (Sub.refl _)) (fun it s₂ hit => ?_) fun _ _ e => e
  obtain ⟨I, T, rfl, hI, R, hT, k₂⟩ := hit
  have h1 : Sub h s₁.heap := hsub.trans (Kp.sub k₁)
  have h2 : Sub h s₂.heap := h1.trans (Kp.sub k₂)
  refine ⟨I, I :: fp, [I], xs.length, _, T, rfl, R.W, hz, hT, fun b hb => ?_, quietC inj hx h2 (none_of_sub h1 hI) htest helt, fun D' h' tk ys vs hD hl hpl hlen hP hF hk => ?_⟩
  · rcases List.mem_cons.mp hb with rfl | hb
    · obtain ⟨o, ho⟩ := R.live 0 _ hT
      exact Heap.lt_size ho
    · obtain ⟨o, ho⟩ := hfp b hb
      exact Heap.lt_size (h2 _ _ ho)
  · have A2 := all2_of (D := D) hlen fun j v hv => hP j v hv
    have hp : ∀ a ∈ xs, ∀ v, D a v → decide (∃ a, a ∈ xs ∧ D a v ∧ p a = true) = p a := fun a ha v d => by
      cases q : p a with
      | true => exact decide_eq_true ⟨a, ha, d, q⟩
      | false =>
        refine decide_eq_false fun ⟨b, _, d', q'⟩ => ?_
        rw [inj _ _ _ d d', q'] at q; cases q
    have are := (A2.filter hp).are (g := g) hF fun a ha v y d f => f a (List.mem_filter.mp ha).1 d
    obtain ⟨n, hn⟩ := hpl
    obtain ⟨h₃, tk₃, e₃, hk₃⟩ := k₂
    refine ⟨⟨D', ys.toList, n, rfl, none_of_sub h2 hD, by rw [hn]; simp [lstO], are⟩, Kp.trans k₁ ⟨h', tk, by rw [e₃], fun b o e => hk b o (fun hm => by rw [List.mem_singleton.mp hm, hI] at e; cases e) (by rw [e₃]; exact hk₃ b o e)⟩⟩
end
end Mine
end
section
open PySem PySem.W PySem.Calls PyProof.Rows
set_option linter.unusedVariables false
set_option maxRecDepth 100000
namespace Mine
open Builtin Builtin.Str
section
variable {prog : Program} {w : World} {A : Around} {E : Value → Shared → Prop} {s : Shared} {b : Array UInt8} {t : Tok}
theorem nextOf_item {it : Addr} {i : Nat} {c : UInt8} {Q : Value → Shared → Prop} (hit : KBw.IsBytesIter s.heap it b t i) (hx : b[i]? = some c)
    (hQ : ∀ h', KBw.IsBytesIter h' it b t (i + 1) → Heap.SameBut it s.heap h' → Q (.int (c.toNat : Int) s.toks) { s with heap := h', toks := s.toks + 1 }) : wpAny (model prog w) A (Builtin.SmallTypes.nextOf (.ref it)) Q E s := by
  obtain ⟨o, ho, hc, hd⟩ := id hit
  unfold Builtin.SmallTypes.nextOf
  refine wpAny_bind (wpAny_callSpecial?_slot (name := PySem.Str.ofString "__next__") (KBw.iter_typeIs hit) KBw.slot_next
    (wpAny_call_entry KBw.slot_next (KBw.iter_typeIs hit) KBw.entry_next ?_ (KBw.args_next _)))
  show wpAny _ _ (field (.ref it) 0 >>= _) _ _ s
  refine wpAny_bind (wpAny_field ho hd (x := .bytes b t) rfl ?_)
  show wpAny _ _ (if (Value.bytes b t == Value.none) = true then _ else _) _ _ s
  rw [if_neg (show ¬ ((Value.bytes b t == Value.none) = true) from Bool.false_ne_true)]
  show wpAny _ _ (field (.ref it) 1 >>= _) _ _ s
  refine wpAny_bind (wpAny_field ho hd (x := .int i 0) rfl ?_)
  refine wpAny_bind (wpAny_of_eq (a := b) rfl ?_)
  simp only [Int.toNat_natCast, hx]
  refine wpAny_bind (wpAny_setField ho hd (by simp) (wpAny_bind (wpAny_mkInt (wpAny_pure ⟨_, rfl, wpAny_pure (hQ _ ?_ (Heap.SameBut.update ..))⟩))))
  exact ⟨_, Heap.get?_update_self _ ho (Obj.isFreed_of_fields (Obj.data_mapFields hd _)), (Obj.cls_mapFields ..).trans hc, by
    rw [Obj.data_mapFields hd]; simp [rawInt]⟩
theorem nextOf_end {it : Addr} {i : Nat} {Q : Value → Shared → Prop} (hh : A.handled = none) (hit : KBw.IsBytesIter s.heap it b t i) (hx : b[i]? = none)
    (hE : ∀ h' e, Heap.ExtBut it s.heap h' → (∃ o, h'.get? e = some o ∧ o.cls = .type "StopIteration") → E (.ref e) { s with heap := h' }) : wpAny (model prog w) A (Builtin.SmallTypes.nextOf (.ref it)) Q E s := by
  obtain ⟨o, ho, hc, hd⟩ := id hit
  unfold Builtin.SmallTypes.nextOf
  refine wpAny_bind (wpAny_callSpecial?_slot (name := PySem.Str.ofString "__next__") (KBw.iter_typeIs hit) KBw.slot_next
    (wpAny_call_entry KBw.slot_next (KBw.iter_typeIs hit) KBw.entry_next ?_ (KBw.args_next _)))
  show wpAny _ _ (field (.ref it) 0 >>= _) _ _ s
  refine wpAny_bind (wpAny_field ho hd (x := .bytes b t) rfl ?_)
  show wpAny _ _ (if (Value.bytes b t == Value.none) = true then _ else _) _ _ s
  rw [if_neg (show ¬ ((Value.bytes b t == Value.none) = true) from Bool.false_ne_true)]
  show wpAny _ _ (field (.ref it) 1 >>= _) _ _ s
  refine wpAny_bind (wpAny_field ho hd (x := .int i 0) rfl ?_)
  refine wpAny_bind (wpAny_of_eq (a := b) rfl ?_)
  simp only [Int.toNat_natCast, hx]
  refine wpAny_bind (wpAny_rule (wpAny_bind (wpAny_setField ho hd (by simp) ?_)))
  show wpAny _ _ (newExc (.type "StopIteration") [] >>= _) _ _ _
  refine wpAny_bind ?_
  simp only [newExc, newTuple]
  refine wpAny_bind (wpAny_newObj_type ?_ (by size_fits))
  refine wpAny_bind (m := firstArgMember _ _) (wpAny_of_eq (a := Value.none) (by first | rfl | (simp only [firstArgMember]; rfl)) ?_)
  refine wpAny_newObj_type ?_ (by size_fits)
  simp only [raiseNew]
  refine wpAny_bind (wpAny_handled ?_)
  first | rw [show A.in1.handled = none from hh] | rw [hh]
  refine wpAny_bind (wpAny_pure (wpAny_throw ?_))
  exact hE _ _ (((Heap.SameBut.update ..).extBut.push _).push _) ⟨_, Heap.get?_push_size _ rfl, rfl⟩
end
theorem draws_bytes {prog : Program} {w : World} {A : Around} (hh : A.handled = none) (it : Addr) (b : Array UInt8) (t : Tok) :
    Draws prog w A it [it] b.size (fun i v => ∃ c u, b[i]? = some c ∧ v = .int (c.toNat : Int) u) (fun i h => KBw.IsBytesIter h it b t i) where
  live := fun _ _ st => let ⟨o, ho, _⟩ := st; ⟨o, ho⟩
  frame := fun _ _ _ st hk => let ⟨o, ho, r⟩ := st; ⟨o, hk it (by simp) o ho, r⟩
  item := fun i s Q E hi st hQ => by
    refine nextOf_item st (c := b[i]) (by simp [hi]) fun h' hit' hs' => ?_
    exact hQ _ h' (s.toks + 1) ⟨_, _, by simp [hi], rfl⟩ hit' hs'
  done := fun s Q E st hE => nextOf_end hh st (by simp) hE

set_option maxHeartbeats 1000000 in
theorem meets_enumerate_newB (b : Array UInt8) (t : Tok) :
    Meets (Builtin.«enumerate.__new__» ⟨[.type "enumerate", .bytes b t], []⟩) (fun _ R s =>
      R (.ok (.ret (.ref (s.heap.push { cls := .type "bytes_iterator", data := .fields #[.bytes b t, .int 0 0] }).objs.size)))
        { s with heap := (s.heap.push { cls := .type "bytes_iterator", data := .fields #[.bytes b t, .int 0 0] }).push { cls := .type "enumerate", data := .fields #[.none, .bool false, .ref s.heap.objs.size, rawInt 0, .none, .none] } }) :=
  .of_wp fun prog w A R s h => by
    obtain ⟨hp, g, d, tk, os⟩ := s
    have hsub := sub_enumerate
    wp_walk
    refine wpAny_stack_any fun st => wpAny_pure ?_
    split
    · rename_i c _ _ _ _ _
      cases (c == Value.type "enumerate")
      · wp_walk using KBw.pyIter_bytes
        exact ⟨_, rfl, h⟩
      · wp_walk using KBw.pyIter_bytes
        exact ⟨_, rfl, h⟩
    · wp_walk using KBw.pyIter_bytes
      exact ⟨_, rfl, h⟩
section
variable {prog : Program} {w : World} {A : Around} {E : Value → Shared → Prop} {s : Shared}
theorem call_enumerate_bytes {b : Array UInt8} {t : Tok} {Q : Value → Shared → Prop}
    (h : ∀ h', IsEnum h' (s.heap.objs.size + 1) s.heap.objs.size 0 .none → KBw.IsBytesIter h' s.heap.objs.size b t 0 → 
      (∀ b o, s.heap.get? b = some o → h'.get? b = some o) → Q (.ref (s.heap.objs.size + 1)) { s with heap := h' }) :
    wpAny (model prog w) A (call (.type "enumerate") [.bytes b t]) Q E s := by
  refine callType_new F.called_enumerate (by decide) (F.typeCall_enumerate_1 _) (F.newCall_enumerate_1 _) (fun obj => F.args_object_init_2 obj _) F.entry_enumerate_new
    (meets_enumerate_newB b t) ?_
  have hz : (s.heap.push { cls := .type "bytes_iterator", data := .fields #[.bytes b t, .int 0 0] }).objs.size = s.heap.objs.size + 1 := Heap.size_push ..
  show _ ∧ _
  rw [hz]
  have he : IsEnum ((s.heap.push { cls := .type "bytes_iterator", data := .fields #[.bytes b t, .int 0 0] }).push
      { cls := .type "enumerate", data := .fields #[.none, .bool false, .ref s.heap.objs.size, rawInt 0, .none, .none] }) (s.heap.objs.size + 1) s.heap.objs.size 0 .none := by
    have := Heap.get?_push_size (s.heap.push { cls := .type "bytes_iterator", data := .fields #[.bytes b t, .int 0 0] })
      (o := { cls := .type "enumerate", data := .fields #[.none, .bool false, .ref s.heap.objs.size, rawInt 0, .none, .none] }) rfl
    rw [hz] at this; exact this
  refine ⟨⟨_, he, rfl⟩, h _ he ⟨_, Heap.get?_push_of_some _ (Heap.get?_push_size _ rfl), rfl, rfl⟩ fun b o y => Heap.get?_push_of_some _ (Heap.get?_push_of_some _ y)⟩
end
end Mine
end
section
open PySem PySem.W PySem.Calls PyProof.Rows
set_option linter.unusedVariables false
set_option maxRecDepth 100000
namespace Mine
theorem valueAt_stored (kvs : List (Int × Value)) (k k' : Int) (v : Value) : valueAt (stored kvs k v) k' = if k' = k then some v else valueAt kvs k' := by
  unfold stored valueAt
  by_cases h : (kvs.any fun kv => kv.1 = k) = true
  · rw [if_pos h, List.find?_map]
    have e : ((fun kv : Int × Value => decide (kv.1 = k')) ∘ fun kv => if kv.1 = k then (kv.1, v) else kv) = fun kv => decide (kv.1 = k') := by
      funext kv
      have q : (if kv.1 = k then (kv.1, v) else kv).1 = kv.1 := by split <;> rfl
      simp only [Function.comp, q]
    rw [e]
    by_cases hk : k' = k
    · subst hk
      rw [if_pos rfl]
      cases hf : kvs.find? (fun kv => decide (kv.1 = k')) with
      | none =>
        rw [List.find?_eq_none] at hf
        rw [List.any_eq_true] at h
        obtain ⟨x, hx, hx'⟩ := h
        exact absurd hx' (hf x hx)
      | some x =>
        have := List.find?_some hf
        have hx : x.1 = k' := by simpa using this
        simp [hx]
    · rw [if_neg hk]
      cases hf : kvs.find? (fun kv => decide (kv.1 = k')) with
      | none => rfl
      | some x =>
        have := List.find?_some hf
        have hx : x.1 = k' := by simpa using this
        have : x.1 ≠ k := by rw [hx]; exact hk
        simp [this]
  · rw [if_neg h, List.find?_append]
    by_cases hk : k' = k
    · subst hk
      rw [if_pos rfl]
      have hf : kvs.find? (fun kv => decide (kv.1 = k')) = none := by
        rw [List.find?_eq_none]
        intro x hx hx'
        exact h (List.any_eq_true.mpr ⟨x, hx, hx'⟩)
      rw [hf]; simp
    · rw [if_neg hk]
      have : ¬ k = k' := fun e => hk e.symm
      simp [List.find?_cons, this]
/-- a dict of ints, the last pair wins -/
def mapOf (ps : List (Int × Int)) : Int → Option Int := ps.foldl (fun m p k => if k = p.1 then some p.2 else m k) (fun _ => none)
theorem mapOf_snoc (ps : List (Int × Int)) (p : Int × Int) (k : Int) : mapOf (ps ++ [p]) k = if k = p.1 then some p.2 else mapOf ps k := by
  simp [mapOf, List.foldl_append]
def DRel (F : Int → Option Value) (f : Int → Option Int) : Prop := ∀ k, (f k = none → F k = none) ∧ ∀ n, f k = some n → ∃ t, F k = some (.int n t)
theorem DRel.snoc {kvs : List (Int × Value)} {ps : List (Int × Int)} {k n : Int} {t : Tok} (x : DRel (valueAt kvs) (mapOf ps)) : DRel (valueAt (stored kvs k (.int n t))) (mapOf (ps ++ [(k, n)])) := fun k' => by
  rw [valueAt_stored, mapOf_snoc]
  by_cases h : k' = k
  · rw [if_pos h, if_pos h]; exact ⟨(fun e => nomatch e), (fun m e => by cases e; exact ⟨t, rfl⟩)⟩
  · rw [if_neg h, if_neg h]; exact x k'
def IsDI (f : Int → Option Int) : VP := fun v h => ∃ a F, v = .ref a ∧ h.IntMap a F ∧ DRel F f
theorem IntMap.at' {h h' : Heap} {a : Addr} {F : Int → Option Value} (k : Sub h h') (x : h.IntMap a F) : h'.IntMap a F := let ⟨o, es, ep, ho, r⟩ := x; ⟨o, es, ep, k _ _ ho, r⟩
theorem mDI (f : Int → Option Int) : Mono (IsDI f) := fun v h h' k ⟨a, F, e, m, r⟩ => ⟨a, F, e, IntMap.at' k m, r⟩
/-- a new dict of ints, and its object -/
def ND (h : Heap) (f : Int → Option Int) : VP := fun v h' => ∃ a o, v = .ref a ∧ h.get? a = none ∧ h'.get? a = some o ∧ ∀ h'' : Heap, h''.get? a = some o → IsDI f (.ref a) h''
theorem ND.nw {h h' : Heap} {f : Int → Option Int} {v : Value} (x : ND h f v h') : Nw h (fun v l => ∃ a o, v = .ref a ∧ l = [(a, o)] ∧ ∀ h'' : Heap, h''.get? a = some o → IsDI f (.ref a) h'') v h' := by
  obtain ⟨a, o, e, e0, y, z⟩ := x
  exact ⟨[(a, o)], ⟨a, o, e, rfl, z⟩, fun p hp => by rw [List.mem_singleton.mp hp]; exact ⟨e0, y⟩, by simp⟩
theorem nd_of {prog : Program} {w : World} {h h' : Heap} {a : Addr} {kvs : List (Int × Value)} {f : Int → Option Int} (e0 : h.get? a = none) (x : h'.DictOf (intKind prog w) a kvs) (r : DRel (valueAt kvs) f) : ND h f (.ref a) h' := by
  obtain ⟨o, es, ep, ho, q⟩ := x
  exact ⟨a, o, rfl, e0, ho, fun h'' ho'' => ⟨a, _, rfl, (Heap.DictOf.mapOf (prog := prog) (w := w) ⟨o, es, ep, ho'', q⟩).intMap, r⟩⟩
section
variable {prog : Program} {w : World} {A : Around} {env : Env} {h : Heap}
theorem Te.inD {l r : PySem.Expr} {pos : Pos} {k : Int} {f : Int → Option Int} (hl : Ev prog w A env h l (IsI k)) (hr : Ev prog w A env h r (IsDI f)) (hm : behindInMarks .In r = false := by with_unfolding_all rfl) : Te prog w A env h (.Compare l [.In] [r] pos) (f k).isSome :=
  Te.cmp hl hr (mI k) (fun _ _ h' _ ⟨_, ha⟩ ⟨a, F, hb, m, r⟩ => by
    subst ha hb
    exact fun s E hs => wpAny_in_intMap (IntMap.at' hs m) (by
      have : (F k).isSome = (f k).isSome := by
        cases q : f k with
        | none => rw [(r k).1 q]; rfl
        | some n => obtain ⟨t, e⟩ := (r k).2 n q; rw [e]; rfl
      rw [this]; exact ⟨rfl, Kp.tok s _⟩)) hm
theorem Ev.itemD {value slice : PySem.Expr} {pos : Pos} {f : Int → Option Int} {k n : Int} (hv : Ev prog w A env h value (IsDI f)) (hi : Ev prog w A env h slice (IsI k)) (hx : f k = some n)
    (hs : ∀ o i, ∃ ops, subscripted slice false o i = operate ops (getItem o i) := by intro o i; exact ⟨_, by with_unfolding_all rfl⟩) : Ev prog w A env h (.Subscript value slice pos) (IsI n) :=
  Ev.subs hv hi (mDI f) (fun o i s hsub ⟨a, F, e, m, r⟩ ⟨t, ei⟩ => by
    subst e ei
    obtain ⟨u, e⟩ := (r k).2 n hx
    exact ⟨"dict", _, m.typeIs, slot_dict_getitem.lookup, fun s' E' hs' => wpAny_getItem_intMap (IntMap.at' hs' m) e ⟨⟨u, rfl⟩, Kp.tok s' _⟩⟩) hs

theorem all2_snoc {α β : Type} {D : α → β → Prop} : ∀ {xs : List α} {l : List β} {v : β}, All2 D xs (l ++ [v]) → ∃ ys a, xs = ys ++ [a] ∧ All2 D ys l ∧ D a v
  | [], [], v, h => by cases h
  | [], u :: l, v, h => by cases h
  | [a], [], v, .cons d .nil => ⟨[], a, rfl, .nil, d⟩
  | a :: r, u :: l, v, .cons d t => by
    obtain ⟨ys, b, e, t', d'⟩ := all2_snoc t
    exact ⟨a :: ys, b, by rw [e]; rfl, .cons d t', d'⟩
theorem stored_rel {α : Type} {D : α → Value → Prop} {FK : Value → Int → Prop} {FV : Value → Value → Prop} {kf g : α → Int} (hk : ∀ a v k, D a v → FK v k → k = kf a) (hg : ∀ a v y, D a v → FV v y → ∃ t, y = .int (g a) t) :
    ∀ {l : List Value} {kvs : List (Int × Value)}, StoredAll FK FV l kvs → ∀ xs, All2 D xs l → DRel (valueAt kvs) (mapOf (xs.map fun a => (kf a, g a))) := by
  intro l kvs x
  induction x with
  | nil => intro xs h; cases h; exact fun k => ⟨(fun _ => rfl), (fun n e => nomatch e)⟩
  | @snoc l kvs v k y _ fk fv ih =>
    intro xs h
    obtain ⟨ys, a, rfl, t, d⟩ := all2_snoc h
    obtain ⟨t', rfl⟩ := hg a v y d fv
    rw [hk a v k d fk, List.map_append]
    exact (ih ys t).snoc

/-- a dict made over ints -/
theorem Ev.dcomp {xs : List Int} {kf g : Int → Int} {scope : Scope} {x : Str} {px : Pos} {kx vx iter : PySem.Expr} {pos : Pos} {F : VP} {fp : List Addr}
    (hev : Ev prog w A env h iter F) (hsrc : ∀ v h', Sub h h' → F v h' → Src prog w A h' v fp xs.length (fun i v => ∃ a, xs[i]? = some a ∧ DI a v))
    (hfp : ∀ b ∈ fp, ∃ o, h.get? b = some o) (hz : xs.length ≤ sizeLine) (hcells : ∀ n, (n, NameKind.free) ∈ scope.names → (env.cells.lookup n).isSome = true)
    (hkey : ∀ C a v h', a ∈ xs → DI a v → Sub h h' → Holds h' (cenv scope env C) x v → Ev prog w A (cenv scope env C) h' kx (IsI (kf a)))
    (hval : ∀ C a v h', a ∈ xs → DI a v → Sub h h' → Holds h' (cenv scope env C) x v → Ev prog w A (cenv scope env C) h' vx (IsI (g a)))
    (hcell : ∀ y ∈ scope.names, y.2 ≠ .cell := by decide) (hkind : scope.kind = .function := by rfl)
    (hnames : ∀ y ∈ scope.names, y.2 = .local → scope.names.lookup y.1 = some .local := by decide) (hx : scope.names.lookup x = some .local := by rfl)
    (hs : ∀ x, foldedSetIterable iter env x = pure x := by intro _; rfl) :
    Ev prog w A env h (.DictComp kx vx [⟨.Name x px, iter, [], 0⟩] scope pos) (ND h (mapOf (xs.map fun a => (kf a, g a)))) := fun s E hsub => by
  refine wpAny_DictComp_free (intKind prog w) (fun v => true) (fun v k => ∀ a, a ∈ xs → DI a v → k = kf a) (fun v y => ∀ a, a ∈ xs → DI a v → ∃ t, y = .int (g a) t) (closure_eq hcells) hcell hkind hnames hx ?_ hs
  refine wpAny_mono (hev s E hsub) (fun xv s₁ ⟨hxv, k₁⟩ => ?_) fun _ _ e => e
  refine wpAny_mono (hsrc xv s₁.heap (hsub.trans (Kp.sub k₁)) hxv s₁ E (Sub.refl _)) (fun it s₂ hit => ?_) fun _ _ e => e
  obtain ⟨I, T, rfl, hI, R, hT, k₂⟩ := hit
  have h1 : Sub h s₁.heap := hsub.trans (Kp.sub k₁)
  have h2 : Sub h s₂.heap := h1.trans (Kp.sub k₂)
  have hI' := none_of_sub h1 hI
  have sub : ∀ (s₃ : Shared), (∀ b o, b ∉ [I] → s₂.heap.get? b = some o → s₃.heap.get? b = some o) → Sub h s₃.heap := fun s₃ hk b o e => hk b o (fun hm => by rw [List.mem_singleton.mp hm, hI'] at e; cases e) (h2 _ _ e)
  refine ⟨I, I :: fp, [I], xs.length, _, T, rfl, R.W, hz, hT, fun b hb => ?_, ⟨fun C i v s₃ m₃ E' hP hn hm hk => ?_, fun C i v s₃ m₃ E' hP _ hn hm hk => ?_, fun C i v s₃ m₃ E' hP _ hn hm hk => ?_⟩, fun D' h' tk kvs vs hD hl hlen hP hF hk => ?_⟩
  · rcases List.mem_cons.mp hb with rfl | hb
    · obtain ⟨o, ho⟩ := R.live 0 _ hT
      exact Heap.lt_size ho
    · obtain ⟨o, ho⟩ := hfp b hb
      exact Heap.lt_size (h2 _ _ ho)
  · exact tests_nil (h := s₃.heap) s₃ E' (Sub.refl _)
  · obtain ⟨a, ha, d⟩ := hP
    have ha' : a ∈ xs := List.mem_of_getElem? ha
    exact wpAny_mono (hkey C a v s₃.heap ha' d (sub s₃ hk) (.inl ⟨cenv_kind hx (by decide), m₃, hn, hm⟩) s₃ E' (Sub.refl _)) (fun y s₄ ⟨⟨t, e⟩, k⟩ => ⟨⟨kf a, by rw [e]; exact intKind_is _ _ _ _, fun b hb d' => by rw [d'.inj d]⟩, k⟩) fun _ _ e => e
  · obtain ⟨a, ha, d⟩ := hP
    have ha' : a ∈ xs := List.mem_of_getElem? ha
    exact wpAny_mono (hval C a v s₃.heap ha' d (sub s₃ hk) (.inl ⟨cenv_kind hx (by decide), m₃, hn, hm⟩) s₃ E' (Sub.refl _)) (fun y s₄ ⟨e, k⟩ => ⟨fun b hb d' => by rw [d'.inj d]; exact e, k⟩) fun _ _ e => e
  · have A2 := all2_of (D := fun a v => a ∈ xs ∧ DI a v) hlen fun j v hv => let ⟨a, e, d⟩ := hP j v hv; ⟨a, e, List.mem_of_getElem? e, d⟩
    rw [show vs.filter (fun v => true) = vs by simp] at hF
    have rel := stored_rel (kf := kf) (g := g) (fun a v k d f => f a d.1 d.2) (fun a v y d f => f a d.1 d.2) hF xs A2
    obtain ⟨h₃, tk₃, e₃, hk₃⟩ := k₂
    exact ⟨nd_of (none_of_sub h2 hD) hl rel, Kp.trans k₁ ⟨h', tk, by rw [e₃], fun b o e => hk b o (fun hm => by rw [List.mem_singleton.mp hm, hI] at e; cases e) (by rw [e₃]; exact hk₃ b o e)⟩⟩
end
end Mine
end
section
open PySem PySem.W PySem.Calls PyProof.Rows
set_option linter.unusedVariables false
set_option maxRecDepth 100000
namespace Mine
section
variable {prog : Program} {w : World} {A : Around} {env : Env} {hb h : Heap} {R : Result → Shared → Prop} {s : Shared} {vars vars' : List (Str × Value)} {news : List (Addr × Obj)}

theorem compLoop_goD {kx vx target iter : PySem.Expr} {scope : Scope} {pos : Pos} {it : Value} {D : Addr} {env : Env} (I : Nat → Shared → Prop)
    (turn : ∀ n s, I n s → wpAny (model prog w) A (pyNext it) (fun r s₁ => match r with
      | none => R (.ok .next) s₁
      | some v => wpAny (model prog w) A (letOwnedTupleGo target it v) (fun _ s₁ => wpAny (model prog w) A (PySem.assign target env v) (fun _ s₂ =>
              wpAny (model prog w) A (eval kx env) (fun kv s₄ => wpAny (model prog w) A (eval vx env) (fun vv s₅ =>
              wpAny (model prog w) A (dictSet D kv vv) (fun _ s₆ => ∃ m, m < n ∧ I m s₆) (notedBy (model prog w) A env fun e s' => R (.error e) s') s₅) (notedBy (model prog w) A env fun e s' => R (.error e) s') s₄) (notedBy (model prog w) A env fun e s' => R (.error e) s') s₂)
            (notedBy (model prog w) A env fun e s' => R (.error e) s') s₁) (notedBy (model prog w) A env fun e s' => R (.error e) s') s₁) (notedBy (model prog w) A env fun e s' => R (.error e) s') s)
    (n : Nat) (h : I n s) :
    codeAny (model prog w) A (.compLoop (.DictComp kx vx [⟨target, iter, [], 0⟩] scope pos) 0 it (.ref D) env) R s := by
  refine codeAny_loop rfl I (fun n s hI => ?_) n h
  show wpAny _ A ((compTurn (.DictComp kx vx [⟨target, iter, [], 0⟩] scope pos) 0 it (.ref D) env).onRaise (fun x => do noteFrame x env; theTreesLotGoes x)) _ _ s
  refine wpAny_noted ?_
  rw [compTurn_dict]
  refine wpAny_bind (wpAny_standAt (wpAny_bind (wpAny_mono (turn n s hI) (fun r s₁ h₁ => ?_) fun _ _ h' => h')))
  cases r with
  | none => exact wpAny_pure h₁
  | some v =>
    refine wpAny_bind (wpAny_mono h₁ (fun _ s₁' h₁' => wpAny_bind (wpAny_mono h₁' (fun _ s₂ h₂ => ?_) fun _ _ h' => h')) fun _ _ h' => h')
    refine wpAny_bind (m := forIn [] true _) ?_
    rw [List.forIn_nil]
    refine wpAny_pure ?_
    exact wpAny_bind (wpAny_bind (wpAny_mono h₂ (fun kv s₄ h₄ => wpAny_bind (wpAny_holding (wpAny_mono h₄ (fun vv s₅ h₅ => wpAny_bind (wpAny_standAt (wpAny_holding (wpAny_mono h₅ (fun _ s₆ h₆ => wpAny_pure ⟨rfl, h₆⟩) fun _ _ h' => h')))) fun _ _ h' => h'))) fun _ _ h' => h'))

/-- the places of the bytes -/
def placesOf (l : List UInt8) : List (Int × Int) := l.zipIdx.map fun p => ((p.1.toNat : Int), (p.2 : Int))
theorem places_snoc (l : List UInt8) (c : UInt8) : placesOf (l ++ [c]) = placesOf l ++ [((c.toNat : Int), (l.length : Int))] := by
  simp [placesOf, List.zipIdx_append]

/-- the dict of an enumeration of bytes -/
theorem Ev.denum {al : List UInt8} {scope : Scope} {x y : Str} {px py pt p1 p2 : Pos} {kk : Nat} {iter : PySem.Expr} {pos : Pos} {F : VP}
    (hh : A.handled = none)
    (hev : ∀ (s : Shared) (E : Value → Shared → Prop) (Q : Value → Shared → Prop), Sub h s.heap → (∀ e it t h' tk, e ≠ it → s.heap.get? e = none → s.heap.get? it = none → IsEnum h' e it 0 .none → KBw.IsBytesIter h' it al.toArray t 0 → Sub s.heap h' → Q (.ref e) { s with heap := h', toks := tk }) → wpAny (model prog w) A (eval iter env) Q E s)
    (hz : al.length ≤ sizeLine) (hcells : ∀ n, (n, NameKind.free) ∈ scope.names → (env.cells.lookup n).isSome = true) (hxy : x ≠ y)
    (hcell : ∀ y ∈ scope.names, y.2 ≠ .cell := by decide) (hkind : scope.kind = .function := by rfl)
    (hnames : ∀ y ∈ scope.names, y.2 = .local → scope.names.lookup y.1 = some .local := by decide) (hx : scope.names.lookup x = some .local := by rfl) (hy : scope.names.lookup y = some .local := by rfl)
    (hdx : (x == ("__debug__" : Str)) = false := by decide) (hdy : (y == ("__debug__" : Str)) = false := by decide)
    (hs : ∀ x, foldedSetIterable iter env x = pure x := by intro _; rfl) :
    Ev prog w A env h (.DictComp (.Name y p1) (.Name x p2) [⟨.Tuple [.Name x px, .Name y py] kk pt, iter, [], 0⟩] scope pos) (ND h (mapOf (placesOf al))) := fun s E hsub => by
  rw [arm_eval_DictComp]
  refine wpAny_comprehension_free (use := none) rfl hs (closure_eq hcells) hkind hnames ?_
  refine hev s E _ hsub fun e it t h₁ tk₁ hne he0 hi0 he hit hk₁ => ?_
  refine wpAny_pyIter_enum he ?_
  have W := WalksT.enumerateD (prog := prog) (w := w) (A := A) (draws_bytes (prog := prog) (w := w) (A := A.in1) hh it al.toArray t) e hne (by simp; exact hne) (by simp)
  have hn : al.toArray.size = al.length := by simp
  rw [hn] at W
  refine wpAny_newObj_type (wpAny_newFunctionEnv hcell (by intro y hy; simp at hy) (fun h₂ hns₂ hsb₂ => ?_) hkind)
  dsimp only at hns₂ hsb₂ ⊢
  have hnew : (h₁.push { cls := .type "dict", dict := none, data := .dict #[] }).DictOf (intKind prog w) h₁.objs.size [] := Heap.DictOf.new h₁
  generalize hH2 : h₁.push { cls := .type "dict", dict := none, data := .dict #[] } = H2 at hns₂ hsb₂ hnew ⊢
  have hC : H2.objs.size = h₁.objs.size + 1 := by rw [← hH2, Heap.size_push]
  generalize hCC : H2.objs.size = C at hns₂ hsb₂ hC ⊢
  generalize hDD : h₁.objs.size = D at hnew hC ⊢
  have hDC : D ≠ C := by omega
  have heD : e < D := by rw [← hDD]; exact Heap.lt_size he
  have hiD : it < D := by rw [← hDD]; obtain ⟨o, ho, _⟩ := hit; exact Heap.lt_size ho
  have fD : h₁.get? D = none := Heap.get?_none_of_le (by omega)
  have fC : h₁.get? C = none := Heap.get?_none_of_le (by omega)
  have ne : ∀ b, D ≤ b → b ∉ [e, it] := fun b hb hm => by
    simp only [List.mem_cons, List.not_mem_nil, or_false] at hm
    rcases hm with rfl | rfl
    · exact Nat.lt_irrefl _ (Nat.lt_of_lt_of_le heD hb)
    · exact Nat.lt_irrefl _ (Nat.lt_of_lt_of_le hiD hb)
  have ne3 : ∀ b, D ≤ b → b ∉ e :: [it] := ne
  have old : ∀ b o, h₁.get? b = some o → h₂.get? b = some o := fun b o q => hsb₂.extBut b o (Nat.ne_of_lt (Nat.lt_of_lt_of_le (Heap.lt_size q) (by rw [hDD, hC]; exact Nat.le_succ _))) (Heap.get?_push_of_some _ (hH2 ▸ Heap.get?_push_of_some _ q))
  have hacc : h₂.DictOf (intKind prog w) D [] := hnew.at fun o q => hsb₂.extBut _ _ hDC (Heap.get?_push_of_some _ q)
  have hCl : (cenv scope env C).locals = C := rfl
  have hCk : ((cenv scope env C).scope.kind == .class || ((cenv scope env C).scope.kind == .module && (cenv scope env C).locals != (cenv scope env C).globals)) = false := by
    show (scope.kind == .class || (scope.kind == .module && _)) = false
    rw [hkind]; rfl
  have loop : ∀ s₃ : Shared, (∃ tk, s₃ = { s with heap := h₂, toks := tk }) → codeAny (model prog w) A (.compLoop (.DictComp (.Name y p1) (.Name x p2) [⟨.Tuple [.Name x px, .Name y py] kk pt, iter, [], 0⟩] scope pos) 0 (.ref e) (.ref D) (cenv scope env C))
      (compPost (model prog w) A E none (fun v s' => ND h (mapOf (placesOf al)) v s'.heap ∧ Keeps s s') (.ref D) C) s₃ := by
    rintro s₃ ⟨tk, rfl⟩
    refine compLoop_goD (fun k s' => ∃ h' tk m' kvs, ∃ i : Nat, s' = { s with heap := h', toks := tk } ∧ ((∃ old, IsEnum h' e it i old) ∧ KBw.IsBytesIter h' it al.toArray t i) ∧ h'.DictOf (intKind prog w) D kvs ∧ h'.Ns C m' ∧ DRel (valueAt kvs) (mapOf (placesOf (al.take i))) ∧
      kvs.length ≤ i ∧ i ≤ al.length ∧ k = al.length + 1 - i ∧ ∀ b o, b ≠ C → b ∉ [e, it] → b ≠ D → h₁.get? b = some o → h'.get? b = some o) ?_ (al.length + 1)
      ⟨h₂, tk, _, [], 0, rfl, ⟨⟨.none, old _ _ he⟩, let ⟨o, ho, r⟩ := hit; ⟨o, old _ _ ho, r⟩⟩, hacc, hns₂, (by rw [List.take_zero]; exact fun k => ⟨(fun _ => rfl), (fun n q => nomatch q)⟩), by simp, by omega, rfl, fun b o _ _ _ q => old b o q⟩
    rintro k s' ⟨H, tk, m', kvs, i, rfl, hst, hacc', hn', hrel, hle, hi, rfl, hk⟩
    by_cases hlt : i < al.length
    · refine W.item i _ _ _ hlt hst fun T vals h₃ tk₃ hPv hTs hT hmid hk₃ => ?_
      obtain ⟨ti, xv, ⟨c, u, hc, rfl⟩, rfl⟩ := hPv
      refine W.go _ _ _ i T _ _ _ hmid fun h₄ hst₄ hk₄ => ?_
      have hTw := W.apart _ _ _ hmid
      have hT₄ : h₄.IsTuple T #[.int i ti, .int (c.toNat : Int) u] := hT.at fun o q => hk₄ _ o hTw q
      refine wpAny_assign_Tuple (items := #[.int i ti, .int (c.toNat : Int) u]) hh hT₄ rfl rfl fun h₅ hx₅ => ?_
      have k₅ : Sub h₄ h₅ := fun c o e => hx₅ c o (Nat.ne_of_lt (Heap.lt_size e)) e
      have kept : ∀ b o, b ∉ [e, it] → H.get? b = some o → h₅.get? b = some o := fun b o hb q => k₅ _ _ (hk₄ b o hb (hk₃ b o hb q))
      have hn₅ : h₅.Ns (cenv scope env C).locals m' := hn'.at' fun o q => kept _ o (ne _ (by show D ≤ C; omega)) q
      have hst₅ := W.frame _ _ h₅ hst₄ fun b _ o q => k₅ b o q
      show wpAny _ A (do holding [.int (c.toNat : Int) u] (PySem.assign (.Name x px) (cenv scope env C) (.int i ti)); assignInOrder [PySem.assign (.Name y py) (cenv scope env C)] [.int (c.toNat : Int) u]) _ _ _
      refine wpAny_bind (wpAny_holding (wpAny_assign_Name (wpAny_storeName_local (cenv_kind hx (by decide)) hn₅ (fun h₆ hn₆ hs₆ => ?_) hCk)))
      show wpAny _ A (do holding [] (PySem.assign (.Name y py) (cenv scope env C) (.int (c.toNat : Int) u)); assignInOrder [] []) _ _ _
      refine wpAny_bind (wpAny_holding (wpAny_assign_Name (wpAny_storeName_local (cenv_kind hy (by decide)) hn₆ (fun h₇ hn₇ hs₇ => ?_) hCk)))
      refine wpAny_pure ?_
      have hn₇' := hn₇
      have kept7 : ∀ b o, b ≠ C → b ∉ [e, it] → H.get? b = some o → h₇.get? b = some o := fun b o hbC hb q => hs₇.extBut b o hbC (hs₆.extBut b o hbC (kept b o hb q))
      have hst₇ := W.frame _ _ h₇ hst₅ fun b hb o q => hs₇.extBut b o (fun z => ne3 C (by omega) ((show b = C from z) ▸ hb)) (hs₆.extBut b o (fun z => ne3 C (by omega) ((show b = C from z) ▸ hb)) q)
      have hyx : (y = x) = False := by simp; exact fun q => hxy q.symm
      have ex : Holds h₇ (cenv scope env C) y (.int (c.toNat : Int) u) := .inl ⟨cenv_kind hy (by decide), _, hn₇, by simp⟩
      have ey : Holds h₇ (cenv scope env C) x (.int i ti) := .inl ⟨cenv_kind hx (by decide), _, hn₇, by simp [hxy]⟩
      refine Gr.use (Ev.holds hkind ex hdy).gr fun v h₈ tk₈ hk₈ hv => ?_
      cases hv
      refine Gr.use (Ev.holds (h := h₈) hkind (ey.sub hk₈) hdx).gr fun v h₉ tk₉ hk₉ hv => ?_
      cases hv
      have kept9 : ∀ b o, b ≠ C → b ∉ [e, it] → H.get? b = some o → h₉.get? b = some o := fun b o hbC hb q => hk₉ _ _ (hk₈ _ _ (kept7 b o hbC hb q))
      refine wpAny_dictSet_pairs (hsz := by omega) (intKind_is prog w _ _) (hacc'.at fun o q => kept9 D o hDC (ne D (Nat.le_refl _)) q) fun h' hl' hs' => ?_
      refine ⟨al.length + 1 - (i + 1), by omega, h', _, _, _, i + 1, rfl, ?_, hl', ((hn₇.keeps hk₈).keeps hk₉).sameBut hs' (Ne.symm hDC), ?_, ?_, hlt, rfl, fun b o hbC hbf hbD q => hs'.extBut b o hbD (kept9 b o hbC hbf (hk b o hbC hbf hbD q))⟩
      · exact W.frame _ _ h' hst₇ fun b hb o q => hs'.extBut b o (fun z => ne3 D (Nat.le_refl _) (z ▸ hb)) (hk₉ _ _ (hk₈ _ _ q))
      · have e1 : al.take (i + 1) = al.take i ++ [c] := by
          have hc' : al[i]? = some c := by simpa using hc
          rw [List.take_add_one, hc']; rfl
        rw [e1, places_snoc]
        have e2 : (al.take i).length = i := by simp; omega
        rw [e2]
        exact hrel.snoc
      · have := stored_length_le kvs (c.toNat : Int) (.int i ti)
        omega
    · have hin : i = al.length := by omega
      subst hin
      refine W.done _ _ _ hst fun h' tk' hk' => ?_
      rw [List.take_of_length_le (Nat.le_refl _)] at hrel
      refine ⟨m', hn'.at' fun o q => hk' _ o (ne C (by omega)) q, fun h'' hs'' => ⟨nd_of (none_of_sub (hsub.trans hk₁) fD) ((hacc'.at fun o q => hk' _ o (ne D (Nat.le_refl _)) q).extBut hs''.extBut hDC) hrel, ⟨h'', _, rfl, fun b o q => ?_⟩⟩⟩
      have q1 := hk₁ b o q
      have hbe : b ∉ [e, it] := fun hm => by
        simp only [List.mem_cons, List.not_mem_nil, or_false] at hm
        rcases hm with rfl | rfl
        · rw [he0] at q; cases q
        · rw [hi0] at q; cases q
      have hbC : b ≠ C := fun z => by rw [z, fC] at q1; cases q1
      have hbD : b ≠ D := fun z => by rw [z, fD] at q1; cases q1
      exact hs''.extBut b o hbC (hk' b o hbe (hk b o hbC hbe hbD q1))
  exact codeAny_compStart_dict (loop _ ⟨_, rfl⟩) (wpAny_pyIter_enum (old _ _ he) (loop _ ⟨_, rfl⟩))
end
end Mine
end
section
open PySem PySem.W PySem.Calls PyProof.Rows
set_option linter.unusedVariables false
set_option maxRecDepth 100000
namespace Mine
open Builtin SeqRoads2
section
variable {prog : Program} {w : World} {A : Around} {env : Env} {hb h : Heap} {vars vars' : List (Str × Value)} {news : List (Addr × Obj)}
theorem Itr.lt {I : Addr} {fp : List Addr} {n : Nat} {P P' : Nat → Value → Prop} {T : Nat → Heap → Prop} (R : Itr prog w A I fp n P T) (i : ∀ k v, k < n → P k v → P' k v) : Itr prog w A I fp n P' T :=
  ⟨⟨R.W.sub, R.W.frame, fun k s Q E hk st hQ => R.W.item k s Q E hk st fun v h' tk hP => hQ v h' tk (i k v hk hP), R.W.done, R.W.self⟩, R.live⟩
theorem Src.lt {v : Value} {fp : List Addr} {n : Nat} {P P' : Nat → Value → Prop} (R : Src prog w A h v fp n P) (i : ∀ k v, k < n → P k v → P' k v) : Src prog w A h v fp n P' := fun s E hs =>
  wpAny_mono (R s E hs) (fun it s' ⟨I, T, e, e0, r, t, k⟩ => ⟨I, T, e, e0, r.lt i, t, k⟩) fun _ _ e => e
def IsRng (n : Nat) : VP := fun v h' => ∃ r t u x, v = .ref r ∧ IsRange h' r 0 (n : Int) 1 t u x
/-- the numbers below n -/
def upto (n : Nat) : List Int := (List.range n).map fun (i : Nat) => (i : Int)
theorem upto_len (n : Nat) : (upto n).length = n := by simp [upto]
theorem upto_get {n i : Nat} (h : i < n) : (upto n)[i]? = some (i : Int) := by simp [upto, h]
theorem src_rng {v : Value} {n : Nat} (hh : A.handled = none) (x : IsRng n v h) (hn : n < 2 ^ 31) : Src prog w A h v [] (upto n).length (fun i v => ∃ a, (upto n)[i]? = some a ∧ DI a v) := by
  obtain ⟨r, t, u, x, rfl, hr⟩ := x
  rw [upto_len]
  exact (Src.range hh hr hn).lt fun k v hk ⟨t, e⟩ => ⟨(k : Int), upto_get hk, t, e⟩
theorem src_ints {l : Addr} {vs : List Value} {ns : List Int} (hh : A.handled = none) (hl : h.IsList l vs.toArray) (hi : IntsAre vs ns) : Src prog w A h (.ref l) [l] ns.length (fun i v => ∃ a, ns[i]? = some a ∧ DI a v) := by
  rw [← hi.length]
  refine (Src.list hh hl).lt fun k v hk e => ?_
  rcases ints_at hi k with ⟨h1, h2⟩ | ⟨n, t, h1, h2⟩
  · rw [h2] at e; cases e
  · rw [h2] at e; cases e; exact ⟨n, h1, t, rfl⟩
def codes (l : List UInt8) : List Int := l.map fun c => (c.toNat : Int)
theorem src_bytes {b : List UInt8} {t : Tok} (hh : A.handled = none) : Src prog w A h (.bytes b.toArray t) [] (codes b).length (fun i v => ∃ a, (codes b)[i]? = some a ∧ DI a v) := by
  have e : (codes b).length = b.toArray.size := by simp [codes]
  rw [e]
  refine (Src.bytes hh).lt fun k v hk ⟨c, u, e, e'⟩ => ⟨(c.toNat : Int), ?_, u, e'⟩
  have : b[k]? = some c := by simpa using e
  simp [codes, this]
theorem Ev.rng {x : Str} {p pos : Pos} {e : PySem.Expr} {n : Nat} (hf : Ev prog w A env h (.Name x p) (IsV (.type "range"))) (he : Ev prog w A env h e (IsI (n : Int))) (hq : backTo pos (starEach [e] env) = (false, eval e env) :: backTo pos (starEach [] env) := by rfl) :
    Ev prog w A env h (.Call (.Name x p) [e] [] pos) (IsRng n) :=
  Ev.callM (f := .type "range") hf (Ag.one he (mI _) hq) (fun vs h' k ⟨v, e1, ⟨t, e2⟩⟩ => by subst e1 e2; exact g_range) rfl (by rw [hq]; rfl)

/-! the space is no sign -/
theorem find_none {b : Array UInt8} (h : (32 : UInt8) ∉ b.toList) : Bytes.find? b #[32] 0 b.size = none := by
  unfold Bytes.find?
  rw [List.find?_eq_none]
  intro i _ hx
  have e : b.extract i (i + (#[(32 : UInt8)]).size) = #[32] := by simpa using hx
  have e2 := congrArg Array.toList e
  rw [Array.toList_extract] at e2
  have : (32 : UInt8) ∈ b.toList.extract i (i + (#[(32 : UInt8)]).size) := by rw [e2]; simp
  exact h (List.mem_of_mem_drop (List.mem_of_mem_take this))
theorem typeName_bytes {M : Model} {n : Nat} {b : Array UInt8} {t : Tok} {E : Value → Shared → Prop} {s : Shared} {Q : String → Shared → Prop} (h : Q "bytes" s) : wpAny M A (typeNameOfCut n (.bytes b t)) Q E s := by
  unfold typeNameOfCut shownTypeOf
  refine wpAny_bind (wpAny_bind (wpAny_typeOf (typeIs_bytes _ b t) ?_))
  simp only [show (Value.type "bytes" == Value.type "builtin_function_or_method") = false by decide, Bool.false_eq_true, if_false]
  refine wpAny_pure ?_
  rw [show typeNameCut n (.type "bytes") = typeName (.type "bytes") from rfl]
  exact wpAny_of_eq (a := "bytes") (by first | rfl | kernel_rfl) h
theorem bytes_no_index : typeLookup (.type "bytes") "__index__" = pure none := by rw [typeLookup_type, builtinLookup_eq_fast]; kernel_rfl
theorem asIndex_bytes {M : Model} {b : Array UInt8} {t : Tok} {E : Value → Shared → Prop} {s : Shared} {Q : Int → Shared → Prop} (hh : A.handled = none) (hE : ∀ h' tk e, Sub s.heap h' → E (.ref e) { s with heap := h', toks := tk }) : wpAny M A (asIndex (.bytes b t)) Q E s := by
  unfold asIndex
  refine wpAny_bind (wpAny_of_eq (a := (none : Option Int)) (by first | rfl | kernel_rfl) ?_)
  refine wpAny_bind (wpAny_callSpecial?_none (typeIs_bytes _ b t) bytes_no_index ?_)
  refine wpAny_bind (typeName_bytes ?_)
  exact wpAny_raiseErrorMade plainExc_TypeError hh (fun h' tk e x => hE h' tk e x.1) (by decide +kernel)
theorem g_notin {al : List UInt8} {t u : Tok} (hn : (32 : UInt8) ∉ al) (hh : A.handled = none) : Gr prog w A h (compareOp .NotIn (.bytes #[32] t) (.bytes al.toArray u)) (IsV (.bool true)) := fun s E hs => by
  show wpAny _ A (do return Value.bool (!(← PySem.contains (.bytes al.toArray u) (.bytes #[32] t)))) _ E s
  refine wpAny_bind (wpAny_contains_slot (typeIs_bytes _ _ _) FB.slot_bytes_contains (wpAny_call_entry FB.slot_bytes_contains (typeIs_bytes _ _ _) FB.entry_bytes_contains ?_ (FB.args_bytes_contains_2 _ _)))
  unfold Builtin.«bytes.__contains__»
  refine wpAny_bind (wpAny_of_eq (a := (Value.bytes al.toArray u, [Value.bytes #[32] t])) rfl ?_)
  dsimp only
  refine wpAny_bind ?_
  unfold Bytes.containsIn
  refine wpAny_bind (wpAny_attempt (asIndex_bytes hh fun h' tk e k => ?_))
  refine wpAny_bind (wpAny_of_eq (a := some al.toArray) KBy.buffer_eq ?_)
  dsimp only
  refine wpAny_bind (wpAny_of_eq (a := some #[32]) KBy.buffer_eq ?_)
  dsimp only
  refine wpAny_bind (wpAny_rule (wpAny_pure ?_))
  rw [find_none (by simpa using hn)]
  refine wpAny_pure ⟨_, rfl, ?_⟩
  exact wpAny_truthy_bool (wpAny_pure ⟨rfl, Kp.heap k⟩)

/-! a comprehension stored in a local name: the names' store comes before the comprehension's own names go -/
theorem St.putLocal {x : Str} {v : Value} {h' : Heap} {m : Str → Option Value} {ns : List (Addr × Obj)} (S : St hb env vars news h) (hx : env.kindOf x = some .local) (hd : Del x vars vars') (hm : h.Ns env.locals m)
    (hn : h'.Ns env.locals (fun z => if z = x then some v else m z)) (hk : ∀ b o, b ≠ env.locals → h.get? b = some o → h'.get? b = some o)
    (hns : ∀ p ∈ ns, h.get? p.1 = none ∧ h'.get? p.1 = some p.2) (hnd : (ns.map (·.1)).Nodup) : St hb env ((x, v) :: vars') (ns ++ news) h' := by
  obtain ⟨oL, _, _, hoL, _⟩ := id hm
  refine ⟨S.kind, fun b o e => hk b o (fun q => by rw [q, S.lnew] at e; cases e) (S.base b o e), ⟨_, hn⟩, S.lnew, fun n c hc => let ⟨⟨v, o, ho, d⟩, r⟩ := S.cells n c hc; ⟨⟨v, o, hk c o r.2 ho, d⟩, r⟩, S.capart, fun p hp => ?_, fun p hp => ?_, ?_⟩
  · rcases List.mem_cons.mp hp with rfl | hp
    · exact .inl ⟨hx, _, hn, by simp⟩
    · obtain ⟨hp1, hp2⟩ := hd.mem p hp
      rcases S.fv p hp1 with ⟨a, m', n', e⟩ | ⟨a, c, e, o, ho, d⟩
      · refine .inl ⟨a, _, hn, ?_⟩
        have : m = m' := hm.eq_nsMap.trans n'.eq_nsMap.symm
        subst this
        simpa [hp2] using e
      · exact .inr ⟨a, c, e, o, hk c o (S.cells p.1 c (mem_of_lookup e)).2.2 ho, d⟩
  · rcases List.mem_append.mp hp with hp | hp
    · obtain ⟨e1, e2⟩ := hns p hp
      refine ⟨e2, ?_, fun q => (by rw [q, hoL] at e1; cases e1), fun nm c hc q => ?_⟩
      · cases e : hb.get? p.1 with
        | none => rfl
        | some o => rw [S.base _ _ e] at e1; cases e1
      · obtain ⟨⟨v, o, ho, _⟩, _⟩ := S.cells nm c hc
        rw [q, ho] at e1; cases e1
    · exact ⟨hk _ _ (S.fn p hp).2.2.1 (S.fn p hp).1, (S.fn p hp).2⟩
  · rw [List.map_append]
    refine List.nodup_append.mpr ⟨hnd, S.ndup, fun a ha b hb' q => ?_⟩
    obtain ⟨p, hp, rfl⟩ := List.mem_map.mp ha
    obtain ⟨p', hp', rfl⟩ := List.mem_map.mp hb'
    have e1 := (hns p hp).1
    rw [q, (S.fn p' hp').1] at e1; cases e1

open Classical in
theorem St.assignComp {α : Type} {D : α → Value → Prop} {xs : List α} {p : α → Bool} {g : α → Int} {scope : Scope} {x y : Str} {px py : Pos} {ifs : List PySem.Expr} {elt iter : PySem.Expr} {pos spos : Pos} {F : VP} {fp : List Addr} {rest : List Stmt} {s : Shared} {E : Value → Shared → Prop} {Q : Flow → Shared → Prop}
    (S : St hb env vars news s.heap) (inj : ∀ a b v, D a v → D b v → a = b)
    (hev : Ev prog w A env s.heap iter F) (hsrc : ∀ v h', Sub s.heap h' → F v h' → Src prog w A h' v fp xs.length (fun i v => ∃ a, xs[i]? = some a ∧ D a v))
    (hfp : ∀ b ∈ fp, ∃ o, s.heap.get? b = some o) (hz : xs.length ≤ sizeLine) (hcells : ∀ n, (n, NameKind.free) ∈ scope.names → (env.cells.lookup n).isSome = true)
    (htest : ∀ C a v h', a ∈ xs → D a v → Sub s.heap h' → Holds h' (cenv scope env C) x v → Gr prog w A h' (tests ifs (cenv scope env C)) (fun ok _ => ok = p a))
    (helt : ∀ C a v h', a ∈ xs → p a = true → D a v → Sub s.heap h' → Holds h' (cenv scope env C) x v → Ev prog w A (cenv scope env C) h' elt (IsI (g a)))
    (hy : env.kindOf y = some .local) (hd : Del y vars vars')
    (k : ∀ a vs n h' tk, IntsAre vs ((xs.filter p).map g) → St hb env ((y, .ref a) :: vars') ((a, lstO vs n) :: news) h' → wpAny (model prog w) A (execs rest env) Q E { s with heap := h', toks := tk })
    (hln : (py.line == pos.line) = true := by rfl) (hno : (scope.names.any fun (n, k) => n == y && (k == .local || k == .cell)) = false := by decide)
    (hcell : ∀ y ∈ scope.names, y.2 ≠ .cell := by decide) (hkind : scope.kind = .function := by rfl)
    (hnames : ∀ y ∈ scope.names, y.2 = .local → scope.names.lookup y.1 = some .local := by decide) (hx : scope.names.lookup x = some .local := by rfl)
    (hs : ∀ x, foldedSetIterable iter env x = pure x := by intro _; rfl) :
    wpAny (model prog w) A (execs (.Assign [.Name y py] (.ListComp elt [⟨.Name x px, iter, ifs, 0⟩] scope pos) spos :: rest) env) Q E s := by
  refine wpAny_execs_cons ?_
  have hsw : swapsWith (.ListComp elt [⟨.Name x px, iter, ifs, 0⟩] scope pos) (some (.Name y py)) spos.line env = pure true := by
    unfold swapsWith
    show pure (env.blockKind == .function && env.kindOf y == some .local && py.line == pos.line && !(scope.names.any fun (n, k) => n == y && (k == .local || k == .cell))) = _
    rw [hno, hln, hy, show env.blockKind = ScopeKind.function by unfold Env.blockKind; rw [S.kind]; rfl]
    rfl
  refine wpAny_Assign_ListComp_free (fun v => decide (∃ a, a ∈ xs ∧ D a v ∧ p a = true)) (fun v y => ∀ a, a ∈ xs → D a v → ∃ t, y = .int (g a) t) hsw (closure_eq hcells) hcell hkind hnames hx hy (by rw [S.kind]; rfl) ?_ hs
  refine wpAny_mono (hev s E (Sub.refl _)) (fun xv s₁ ⟨hxv, k₁⟩ => ?_) fun _ _ e => e
  refine wpAny_mono (hsrc xv s₁.heap (Kp.sub k₁) hxv s₁ E (Sub.refl _)) (fun it s₂ hit => ?_) fun _ _ e => e
  obtain ⟨I, T, rfl, hI, R, hT, k₂⟩ := hit
  have h1 : Sub s.heap s₁.heap := Kp.sub k₁
  have h2 : Sub s.heap s₂.heap := h1.trans (Kp.sub k₂)
  obtain ⟨m, hm⟩ := S.ns
  have hIL : env.locals ∉ [I] := fun hmem => by
    obtain ⟨oL, _, _, hoL, _⟩ := id hm
    rw [← List.mem_singleton.mp hmem, h1 _ _ hoL] at hI; cases hI
  refine ⟨I, I :: fp, [I], xs.length, _, T, m, rfl, R.W, hz, hT, fun b hb => ?_, hIL, hm.keeps h2, quietC inj hx h2 (none_of_sub h1 hI) htest helt, fun D' h' tk ys vs hD hl hpl hlen hP hF hnL hk => ?_⟩
  · rcases List.mem_cons.mp hb with rfl | hb
    · obtain ⟨o, ho⟩ := R.live 0 _ hT
      exact Heap.lt_size ho
    · obtain ⟨o, ho⟩ := hfp b hb
      exact Heap.lt_size (h2 _ _ ho)
  · have A2 := all2_of (D := D) hlen fun j v hv => hP j v hv
    have hp : ∀ a ∈ xs, ∀ v, D a v → decide (∃ a, a ∈ xs ∧ D a v ∧ p a = true) = p a := fun a ha v d => by
      cases q : p a with
      | true => exact decide_eq_true ⟨a, ha, d, q⟩
      | false =>
        refine decide_eq_false fun ⟨b, _, d', q'⟩ => ?_
        rw [inj _ _ _ d d', q'] at q; cases q
    have are := (A2.filter hp).are (g := g) hF fun a ha v y d f => f a (List.mem_filter.mp ha).1 d
    obtain ⟨n, hn⟩ := hpl
    obtain ⟨h₃, tk₃, e₃, hk₃⟩ := k₁
    obtain ⟨h₄, tk₄, e₄, hk₄⟩ := k₂
    have hsub : ∀ b o, b ≠ env.locals → s.heap.get? b = some o → h'.get? b = some o := fun b o hbL e =>
      hk b o hbL (fun hmem => by rw [List.mem_singleton.mp hmem] at e; rw [h1 _ _ e] at hI; cases hI) (h2 _ _ e)
    have S' := St.putLocal (v := .ref D') (ns := [(D', lstO ys.toList n)]) S hy hd hm hnL hsub (fun p hp => by rw [List.mem_singleton.mp hp]; exact ⟨none_of_sub h2 hD, by rw [hn]; simp [lstO]⟩) (by simp)
    have := k D' ys.toList n h' tk are S'
    rw [e₄, e₃]
    exact this

/-- a try whose body raises nothing -/
theorem St.try_ {body orelse rest : List Stmt} {h₀ : ExceptHandler} {hs : List ExceptHandler} {pos : Pos} {s : Shared} {E : Value → Shared → Prop} {Q : Flow → Shared → Prop}
    (hb : ∀ E', wpAny (model prog w) A (execs body env) (fun f s₁ => match f with | .next => wpAny (model prog w) A (execs orelse env) (fun f s' => match f with | .next => wpAny (model prog w) A (execs rest env) Q E s' | f => Q f s') E s₁ | f => Q f s₁) E' s) :
    wpAny (model prog w) A (execs (.Try body (h₀ :: hs) orelse [] pos :: rest) env) Q E s := by
  refine wpAny_execs_cons (wpAny_Try_except (wpAny_mono (hb _) (fun f s₁ h => ?_) fun _ _ e => e))
  cases f <;> exact h
end
end Mine
end
section
open PySem PySem.W PySem.Calls PyProof.Rows
set_option linter.unusedVariables false
set_option maxRecDepth 100000
namespace Mine
def bytesOf (ns : List Int) : List UInt8 := ns.map fun n => n.toNat.toUInt8
section
variable {prog : Program} {w : World} {A : Around} {env : Env} {hb h : Heap} {vars vars' : List (Str × Value)} {news : List (Addr × Obj)} {names : List (Str × NameKind)}
theorem Ev.loopv {a : Int} {x : Str} {v : Value} {pos : Pos} (hk : env.scope.kind = .function) (hv : Holds h env x v) (d : DI a v) (hd : (x == ("__debug__" : Str)) = false := by decide) : Ev prog w A env h (.Name x pos) (IsI a) := by
  obtain ⟨t, rfl⟩ := d
  exact (Ev.holds hk hv hd).int
theorem GC.cs (K : GC env names) {scope : Scope} (h : ∀ p ∈ scope.names, p.2 = .free → names.lookup p.1 = some .cell) : ∀ n, (n, NameKind.free) ∈ scope.names → (env.cells.lookup n).isSome = true := fun n hn => K.c n (h _ hn rfl)
/-- a cell's name, inside a comprehension -/
theorem St.capt (S : St hb env vars news h) (K : GC env names) {scope : Scope} {C : Addr} {x : Str} {v : Value} {pos : Pos} {h' : Heap} (hm : (x, v) ∈ vars) (k : Sub h h') (hsc : scope.kind = .function) (h1 : names.lookup x = some .cell) (h2 : scope.names.lookup x = some .free)
    (hd : (x == ("__debug__" : Str)) = false := by decide) : Ev prog w A (cenv scope env C) h' (.Name x pos) (IsV v) :=
  Ev.holds hsc (Holds.inC K.g h2 ((S.fv _ hm).sub k) (by rw [K.k _ _ h1]; decide)) hd
theorem Ev.bytesL {x : Str} {p pos : Pos} {e : PySem.Expr} {ns : List Int} (hf : Ev prog w A env h (.Name x p) (IsV (.type "bytes"))) (he : Ev prog w A env h e (IsLI ns)) (hr : ∀ n ∈ ns, 0 ≤ n ∧ n < 256) (hz : ns.length ≤ 1000) (hh : A.handled = none)
    (hq : backTo pos (starEach [e] env) = (false, eval e env) :: backTo pos (starEach [] env) := by rfl) : Ev prog w A env h (.Call (.Name x p) [e] [] pos) (IsB (bytesOf ns).toArray) :=
  Ev.callM (f := .type "bytes") hf (Ag.one he (mLI _) hq) (fun vs h' k ⟨v, e1, us, ⟨a, e2, hl⟩, hi⟩ => by subst e1 e2; exact g_bytes hl hi hr (by have := hi.length; rw [sizeLine_eq]; omega) hh) rfl (by rw [hq]; rfl)
end
end Mine
end
section
open PySem PySem.W PySem.Calls PyProof.Rows
set_option linter.unusedVariables false
set_option maxRecDepth 100000
namespace Mine
section
variable {prog : Program} {w : World} {A : Around} {env : Env} {h : Heap}
theorem are_flat {vs : List Value} {ns : List Int} (x : IntsAre vs ns) : ∀ k, IntsAre (List.replicate k vs).flatten (List.replicate k ns).flatten
  | 0 => .nil
  | k + 1 => by rw [List.replicate_succ, List.replicate_succ, List.flatten_cons, List.flatten_cons]; exact x.append (are_flat x k)
theorem NI.sub {h h' h'' : Heap} {ns : List Int} {v : Value} (k : Sub h h') (x : NI h' ns v h'') : NI h ns v h'' := let ⟨a, vs, n, e, e0, r⟩ := x; ⟨a, vs, n, e, none_of_sub k e0, r⟩
theorem Ev.nilI {pos : Pos} : Ev prog w A env h (.List [] pos) (NI h []) := Ev.nil.imp fun v h' x => x.ni .nil
theorem Ev.oneLI {e : PySem.Expr} {pos : Pos} {i : Int} (he : Ev prog w A env h e (IsI i)) (hq : backTo pos (starEach [e] env) = (false, eval e env) :: backTo pos (starEach [] env) := by rfl) : Ev prog w A env h (.List [e] pos) (NI h [i]) :=
  (Ev.oneI he hq).imp fun v h' ⟨t, x⟩ => x.ni (.cons i t .nil)
theorem Ev.mulI {l r : PySem.Expr} {pos : Pos} {ns : List Int} {n : Int} (hl : Ev prog w A env h l (IsLI ns)) (hr : Ev prog w A env h r (IsI n)) (h0 : 0 ≤ n) (hz : ns.length * n.toNat ≤ 256) (hn : n ≤ 256) : Ev prog w A env h (.BinOp l .Mult r pos) (NI h (List.replicate n.toNat ns).flatten) :=
  Ev.bin hl hr (mLI ns) fun _ _ h' k ⟨vs, ⟨_, ha, hh⟩, x⟩ ⟨_, hb⟩ => by subst ha hb; exact (g_mulL hh h0 (by rw [x.length]; exact hz) hn).imp fun v h'' y => NI.sub k (y.ni (are_flat x _))
theorem Ev.addI {l r : PySem.Expr} {pos : Pos} {ns ms : List Int} (hl : Ev prog w A env h l (IsLI ns)) (hr : Ev prog w A env h r (IsLI ms)) (hz : ns.length + ms.length ≤ 100000) : Ev prog w A env h (.BinOp l .Add r pos) (NI h (ns ++ ms)) :=
  Ev.bin hl hr (mLI ns) fun _ _ h' k ⟨vs, ⟨_, ha, hh⟩, x⟩ ⟨ws, ⟨_, hb, hh'⟩, y⟩ => by
    subst ha hb
    exact (g_addL hh hh' (by rw [x.length, y.length, sizeLine_eq]; omega)).imp fun v h'' z => NI.sub k (z.ni (x.append y))
theorem Ev.disp2 {e1 e2 : PySem.Expr} {pos : Pos} {P1 P2 : Value → List (Addr × Obj) → Prop} (h1 : ∀ h', Sub h h' → Ev prog w A env h' e1 (Nw h' P1)) (h2 : ∀ h', Sub h h' → Ev prog w A env h' e2 (Nw h' P2))
    (hq : backTo pos (starEach [e1, e2] env) = (false, eval e1 env) :: (false, eval e2 env) :: [] := by rfl) :
    Ev prog w A env h (.List [e1, e2] pos) (Nw h fun v ns => ∃ v1 v2 n1 n2 a, P1 v1 n1 ∧ P2 v2 n2 ∧ v = .ref a ∧ ns = (a, lstO [v1, v2] 0) :: (n2 ++ n1)) := fun s E hs => by
  refine List_ ?_
  rw [hq]
  refine Calls.spliced_cons (wpAny_mono (h1 s.heap hs s E (Sub.refl _)) (fun v1 s₁ ⟨⟨n1, p1, f1, d1⟩, k₁⟩ => ?_) fun _ _ e => e)
  refine Calls.spliced_cons (wpAny_mono (h2 s₁.heap (hs.trans (Kp.sub k₁)) s₁ E (Sub.refl _)) (fun v2 s₂ ⟨⟨n2, p2, f2, d2⟩, k₂⟩ => ?_) fun _ _ e => e)
  refine Calls.spliced_nil ?_
  refine wpAny_mono (g_newList (h := s₂.heap) (by simp [sizeLine_eq]) s₂ E (Sub.refl _)) (fun v s₃ ⟨⟨a, e, e0, y⟩, k₃⟩ => ?_) fun _ _ e => e
  have g1 := Kp.sub k₁
  have g2 := Kp.sub k₂
  have g3 := Kp.sub k₃
  refine ⟨⟨(a, lstO [v1, v2] 0) :: (n2 ++ n1), ⟨v1, v2, n1, n2, a, p1, p2, e, rfl⟩, fun p hp => ?_, ?_⟩, Kp.trans k₁ (Kp.trans k₂ k₃)⟩
  · rcases List.mem_cons.mp hp with rfl | hp
    · exact ⟨none_of_sub (hs.trans (g1.trans g2)) e0, y⟩
    · rcases List.mem_append.mp hp with hp | hp
      · exact ⟨none_of_sub (hs.trans g1) (f2 p hp).1, g3 _ _ (f2 p hp).2⟩
      · exact ⟨none_of_sub hs (f1 p hp).1, g3 _ _ (g2 _ _ (f1 p hp).2)⟩
  · rw [List.map_cons, List.map_append, List.nodup_cons]
    refine ⟨fun hm => ?_, List.nodup_append.mpr ⟨d2, d1, fun x hx y hy q => ?_⟩⟩
    · rcases List.mem_append.mp hm with hm | hm
      · obtain ⟨p, hp, e⟩ := List.mem_map.mp hm
        have := (f2 p hp).2
        rw [e, e0] at this; cases this
      · obtain ⟨p, hp, e⟩ := List.mem_map.mp hm
        have := g2 _ _ (f1 p hp).2
        rw [e, e0] at this; cases this
    · obtain ⟨p, hp, rfl⟩ := List.mem_map.mp hx
      obtain ⟨p', hp', rfl⟩ := List.mem_map.mp hy
      have e1 := (f2 p hp).1
      have e2 := (f1 p' hp').2
      rw [q, e2] at e1; cases e1
end
end Mine
end
section
open PySem PySem.W PySem.Calls PyProof.Rows
set_option linter.unusedVariables false
set_option maxRecDepth 100000
namespace Mine
local macro_rules | `(tactic| walk_at "mem") => `(tactic| first | with_reducible exact List.mem_cons_self | (with_reducible refine List.mem_cons_of_mem _ ?_; walk_at "mem"))
local macro_rules | `(tactic| walk_at "del") => `(tactic| first | with_reducible exact Del.nil | (with_reducible refine' Del.hit ?hr; (case hr => walk_at "del")) | (refine' Del.miss ?hne ?hr; (case hne => decide); (case hr => walk_at "del")))
open Builtin
def zs (l : List UInt8) : List UInt8 := l.dropWhile (#[(0 : UInt8)].contains)
def b58 (al l : List UInt8) : List UInt8 := List.replicate (l.length - (zs l).length) (al.getD 0 0) ++ enc al (num l)
theorem num_cons0 (l : List UInt8) : num (0 :: l) = num l := rfl
theorem num_zs (l : List UInt8) : num (zs l) = num l := by
  induction l with
  | nil => rfl
  | cons a r ih =>
    unfold zs at ih ⊢
    rw [List.dropWhile_cons]
    by_cases h : a = 0
    · subst h; rw [if_pos (by simp), ih, num_cons0]
    · rw [if_neg (by simp; exact h)]
theorem zs_len (l : List UInt8) : (zs l).length ≤ l.length := (List.dropWhile_suffix (l := l) _).length_le
theorem take1 {al : List UInt8} (h : 1 ≤ al.length) : al.take 1 = [al.getD 0 0] := by cases al with | nil => simp at h | cons a r => rfl
section
variable {prog : Program} {w : World} {A : Around} {env : Env} {mg mb : Str → Option Value} {h : Heap}
theorem bind29 (B : Bs w mg mb h) {s : Shared} (hs : Sub h s.heap) {args : PySem.Args} {binds : List (Str × Value)} {k : Option (Array Value) → Sem (List (Str × Value))} (h₁ : bindArgs (fdAt w 29) args = seqItems? (fdAt w 29).defaults >>= k)
    (h₂ : k (some #[.bool true, .bytes #[49, 50, 51, 52, 53, 54, 55, 56, 57, 65, 66, 67, 68, 69, 70, 71, 72, 74, 75, 76, 77, 78, 80, 81, 82, 83, 84, 85, 86, 87, 88, 89, 90, 97, 98, 99, 100, 101, 102, 103, 104, 105, 106, 107, 109, 110, 111, 112, 113, 114, 115, 116, 117, 118, 119, 120, 121, 122] 189]) = pure binds) : BindsTo s (fdAt w 29) args binds :=
  BindsTo.of_defaults (T := 22) rfl (hs _ _ (B.X 22 _ rfl)) rfl h₁ h₂
theorem fn_b58 (B : Bs w mg mb h) (hok : Ok A 2) {args : PySem.Args} {l al : List UInt8} {tu tv : Tok}
    (hbind : ∀ s, Sub h s.heap → BindsTo s (fdAt w 37) args [("v", .bytes l.toArray tv), ("alphabet", .bytes al.toArray tu)]) (hal : 2 ≤ al.length) (hal2 : al.length ≤ 256) (hn : l.length ≤ 20) :
    Gr prog w A h (call (.ref 37) args.pos args.kw) (IsB (b58 al l).toArray) := by
  refine fn_call (args := args) (binds := [("v", .bytes l.toArray tv), ("alphabet", .bytes al.toArray tu)]) (B.X 37 _ rfl) rfl B.G.lim (codeRec_of B.X (by kernel_rfl)) rfl rfl hok (fun s hs => hbind s hs) (by decide) (locs rfl) (by dsimp only [List.map]; decide) fun s env A' h₁ tk hs S K hok' => ?_
  have B₁ := (B.sub hs).sub S.base
  have hz := zs_len l
  have hdig : (digs al.length (num l)).length ≤ 1000 := by
    have h1 := num_lt l
    have h2 : num l < 2 ^ 160 := Nat.lt_of_lt_of_le h1 (by
      rw [show (2 : Nat) ^ 160 = 256 ^ 20 by decide]; exact Nat.pow_le_pow_right (by decide) hn)
    have := digs_len hal 160 _ h2
    omega
  refine St.assignB S (i := l.toArray) (Ev.callF (B₁.glob K.g (by kernel_rfl) (K.k _ _ rfl)) (B₁.X 21 _ rfl) rfl (Ag.one (S.evB (by walk_at "mem")) (mB _)) ?_) (.inl (K.k _ _ rfl)) (by walk_at "del") fun t₁ h₁ tk₁ S => ?_
  · rintro vs h' k ⟨v, rfl, t, rfl⟩
    exact fn_scrub (B₁.sub k) hok'
  have B₁ := B.sub (hs.trans S.base)
  refine St.assignI S (i := (l.length : Int)) (Ev.len1 (B₁.len K.g (K.k _ _ rfl)) (S.evB (by walk_at "mem")) (mB _) fun v h' k hv => by
      obtain ⟨t, rfl⟩ := hv
      have := g_len_bytes (prog := prog) (w := w) (A := A') (h := h') (b := l.toArray) (t := t) (by simp; omega)
      simpa using this) (.inl (K.k _ _ rfl)) (by walk_at "del") fun t₂ h₂ tk₂ S => ?_
  refine St.assignB S (i := (zs l).toArray) (Ev.methB (S.evB (by walk_at "mem")) (Ag.one Ev.cbytes (mB _)) slot_lstrip type_lstrip ?_) (.inl (K.k _ _ rfl)) (by walk_at "del") fun t₃ h₃ tk₃ S => ?_
  · rintro t vs h' k ⟨v, rfl, u, rfl⟩
    exact g_lstrip (by simp [sizeLine_eq]; omega)
  have B₁ := B.sub (hs.trans S.base)
  refine St.assignI S (i := ((zs l).length : Int)) (Ev.len1 (B₁.len K.g (K.k _ _ rfl)) (S.evB (by walk_at "mem")) (mB _) fun v h' k hv => by
      obtain ⟨t, rfl⟩ := hv
      have := g_len_bytes (prog := prog) (w := w) (A := A') (h := h') (b := (zs l).toArray) (t := t) (by simp; omega)
      simpa using this) (.inl (K.k _ _ rfl)) (by walk_at "del") fun t₄ h₄ tk₄ S => ?_
  have B₁ := B.sub (hs.trans S.base)
  refine St.assignI S (i := ((num l : Nat) : Int)) (by
    rw [← num_zs l]
    exact Ev.fromBytes B₁.X (B₁.built (v := .type "int") K.g (by kernel_rfl) (by kernel_rfl) (by decide) (K.k _ _ rfl)) (S.evB (i := (zs l).toArray) (by walk_at "mem")) (by rw [List.size_toArray]; exact Nat.le_trans (zs_len l) hn) (by kernel_rfl) rfl) (.inl (K.k _ _ rfl)) (by walk_at "del") fun t₅ h₅ tk₅ S => ?_
  have B₁ := B.sub (hs.trans S.base)
  refine St.assignB S (i := (enc al (num l)).toArray) (Ev.callFK (B₁.glob K.g (by kernel_rfl) (K.k _ _ rfl)) (B₁.X 29 _ rfl) rfl (Ag.one (S.evI (by walk_at "mem")) (mI _)) (Kg.cons Ev.cbool (mV _) (Kg.cons (S.evB (by walk_at "mem")) (mB _) Kg.nil)) (fun vs h h' _ x => x) ?_) (.inl (K.k _ _ rfl)) (by walk_at "del") fun t₆ h₆ tk₆ S => ?_
  · rintro vs us h' k ⟨v, rfl, t, rfl⟩ ⟨_, _, rfl, rfl, _, _, rfl, ⟨u, rfl⟩, rfl⟩
    have := fn_enc (prog := prog) (args := ⟨[.int (num l : Int) t], [("default_one", .bool false), ("alphabet", .bytes al.toArray u)]⟩) (B₁.sub k) hok' (ti := t) (tu := u) (d := false) (al := al) (n := num l) (fun s hs => bind29 (B₁.sub k) hs rfl rfl) hal hal2 hdig
    rw [if_neg (by simp)] at this
    exact this
  · refine St.ret (Ev.addB (Ev.mulB (b := [al.getD 0 0]) (n := (l.length : Int) - (zs l).length) (by
        have e2 := picked_one al 0 (by omega)
        rw [← e2]
        exact Ev.cutB (S.evB (by walk_at "mem")) (Part.some Ev.cint) (Part.some Ev.cint) (by simp [sizeLine_eq]; omega)) (Ev.subI (S.evI (by walk_at "mem")) (S.evI (by walk_at "mem"))) (by simp) (by omega) (by omega) (by simp)) (S.evB (by walk_at "mem")) ?_) fun v h'' tk'' k'' hv => ⟨v, rfl, ?_, h'', tk'', rfl, S.base.trans k''⟩
    · simp [enc]; omega
    · rw [show (enc al (num l)).toArray = (enc al (num l)).toArray from rfl, List.append_toArray, List.flatten_replicate_singleton] at hv
      rw [show (((l.length : Int) - ((zs l).length : Int)).toNat) = l.length - (zs l).length by omega] at hv
      exact hv
end
end Mine
end
section
open PySem PySem.W PySem.Calls PyProof.Rows
set_option linter.unusedVariables false
set_option maxRecDepth 100000
namespace Mine
local macro_rules | `(tactic| walk_at "mem") => `(tactic| first | with_reducible exact List.mem_cons_self | (with_reducible refine List.mem_cons_of_mem _ ?_; walk_at "mem"))
local macro_rules | `(tactic| walk_at "del") => `(tactic| first | with_reducible exact Del.nil | (with_reducible refine' Del.hit ?hr; (case hr => walk_at "del")) | (refine' Del.miss ?hne ?hr; (case hne => decide); (case hr => walk_at "del")))
def bitcoin : List UInt8 := [49, 50, 51, 52, 53, 54, 55, 56, 57, 65, 66, 67, 68, 69, 70, 71, 72, 74, 75, 76, 77, 78, 80, 81, 82, 83, 84, 85, 86, 87, 88, 89, 90, 97, 98, 99, 100, 101, 102, 103, 104, 105, 106, 107, 109, 110, 111, 112, 113, 114, 115, 116, 117, 118, 119, 120, 121, 122]
def ripple : List UInt8 := [114, 112, 115, 104, 110, 97, 102, 51, 57, 119, 66, 85, 68, 78, 69, 71, 72, 74, 75, 76, 77, 52, 80, 81, 82, 83, 84, 55, 86, 87, 88, 89, 90, 50, 98, 99, 100, 101, 67, 103, 54, 53, 106, 107, 109, 56, 111, 70, 113, 105, 49, 116, 117, 118, 65, 120, 121, 122]
def walkZ (p q a b : Int) (n : Nat) : List Int := (upto n).map fun k => (a.fmod p + (1 + b.fmod q) * k).fmod p
def signs2 (a b c : Int) : List UInt8 := bytesOf ((walkZ 181 180 a b (2 + (c.fmod 100).toNat)).map fun x => if x < 94 then 33 + x else 67 + x)
def signs3 (a b c : Int) : List UInt8 := bytesOf ((upto (2 + (c.fmod 88).toNat)).map fun k => 38 + (a.fmod 89 + (1 + b.fmod 88) * k).fmod 89)
def signsOf (kd : Nat) (a b c : Int) : List UInt8 := if kd = 0 then bitcoin else if kd = 1 then ripple else if kd = 2 then signs2 a b c else signs3 a b c
theorem fmod_lo (a : Int) {n : Int} (h : 0 < n) : 0 ≤ a.fmod n := by rw [Int.fmod_eq_emod_of_nonneg _ (by omega)]; exact Int.emod_nonneg _ (by omega)
theorem fmod_hi (a : Int) {n : Int} (h : 0 < n) : a.fmod n < n := by rw [Int.fmod_eq_emod_of_nonneg _ (by omega)]; exact Int.emod_lt_of_pos _ h
theorem mulOk {a b : Int} (h : a.natAbs < 2 ^ 63) : IntMulOk a b := IntMulOk.of_left (by
  unfold Builtin.Int.intBits
  have := (Nat.log2_lt (n := a.natAbs) (k := 63))
  by_cases h0 : a.natAbs = 0
  · have : a = 0 := by omega
    subst this; decide
  · have := (this h0).mpr h
    split <;> omega)
theorem mem_upto {n : Nat} {a : Int} (h : a ∈ upto n) : 0 ≤ a ∧ a < n := by
  obtain ⟨i, hi, rfl⟩ := List.mem_map.mp h
  have := List.mem_range.mp hi
  exact ⟨by omega, by omega⟩
section
variable {prog : Program} {w : World} {A : Around} {env : Env} {mg mb : Str → Option Value} {h : Heap}
theorem fn_signs (B : Bs w mg mb h) (hok : Ok A 1) {kd : Nat} {a b c : Int} {tk ta tb tc : Tok} :
    Gr prog w A h (call (.ref 63) [.int (kd : Int) tk, .int a ta, .int b tb, .int c tc]) (IsB (signsOf kd a b c).toArray) := by
  refine fn_callC (args := ⟨[.int (kd : Int) tk, .int a ta, .int b tb, .int c tc], []⟩) (binds := [("kind", .int (kd : Int) tk), ("start", .int a ta), ("step", .int b tb), ("size", .int c tc)]) (B.X 63 _ rfl) rfl B.G.lim (codeRec_of B.X (by kernel_rfl)) rfl rfl hok (fun s hs => BindsTo.of_eq rfl) (by decide) rfl (by dsimp only [List.map]; decide) fun s env A' h₁ tk hs S K hok' => ?_
  have B₁ := (B.sub hs).sub S.base
  refine St.ifs (Te.eqI (S.evI (by walk_at "mem")) Ev.cint) (fun hb h' tk' k' => ?_) (fun hb h' tk' k' => ?_)
  · have e0 : kd = 0 := by simpa using hb
    refine St.ret (F := IsB bitcoin.toArray) (Ev.byt (t := 247) ((B₁.sub k').glob K.g (by kernel_rfl) (K.k _ _ rfl))) fun v h'' tk'' k'' hv => ⟨v, rfl, ?_, h'', tk'', rfl, S.base.trans (k'.trans k'')⟩
    unfold signsOf; rw [if_pos e0]; exact hv
  have n0 : kd ≠ 0 := by simpa using hb
  have S := S.grow k'
  have B₁ := B₁.sub k'
  refine X.nil (St.ifs (Te.eqI (S.evI (by walk_at "mem")) Ev.cint) (fun hb h' tk' k' => ?_) (fun hb h' tk' k' => ?_))
  · have e0 : kd = 1 := by simp at hb; omega
    refine St.ret (F := IsB ripple.toArray) (Ev.byt (t := 249) ((B₁.sub k').glob K.g (by kernel_rfl) (K.k _ _ rfl))) fun v h'' tk'' k'' hv => ⟨v, rfl, ?_, h'', tk'', rfl, S.base.trans (k'.trans k'')⟩
    unfold signsOf; rw [if_neg n0, if_pos e0]; exact hv
  have n1 : kd ≠ 1 := by simp at hb; omega
  have S := S.grow k'
  have B₁ := B₁.sub k'
  refine X.nil (St.ifs (Te.eqI (S.evI (by walk_at "mem")) Ev.cint) (fun hb h' tk' k' => ?_) (fun hb h' tk' k' => ?_))
  · have e0 : kd = 2 := by simp at hb; omega
    have S := S.grow k'
    refine St.assignI S (Ev.fmod (S.evI (by walk_at "mem")) Ev.cint (by decide)) (K.can rfl) (by walk_at "del") fun t₁ h₁ tk₁ S => ?_
    refine St.assignI S (Ev.add Ev.cint (Ev.fmod (S.evI (by walk_at "mem")) Ev.cint (by decide))) (K.can rfl) (by walk_at "del") fun t₂ h₂ tk₂ S => ?_
    have B₁ := B.sub (hs.trans S.base)
    have c0 := fmod_lo c (n := 100) (by decide)
    have c1 := fmod_hi c (n := 100) (by decide)
    have a0 := fmod_lo a (n := 181) (by decide)
    have a1 := fmod_hi a (n := 181) (by decide)
    have b0 := fmod_lo b (n := 180) (by decide)
    have b1 := fmod_hi b (n := 180) (by decide)
    refine St.assignComp (D := DI) (xs := upto (2 + (c.fmod 100).toNat)) (p := fun _ => true) (g := fun k => (a.fmod 181 + (1 + b.fmod 180) * k).fmod 181) S (fun _ _ _ x y => x.inj y)
      (Ev.rng (n := 2 + (c.fmod 100).toNat) (B₁.built (v := .type "range") K.g (by kernel_rfl) (by kernel_rfl) (by decide) (K.k _ _ rfl)) (by
        have e : ((2 + (c.fmod 100).toNat : Nat) : Int) = 2 + c.fmod 100 := by omega
        rw [e]; exact Ev.add Ev.cint (Ev.fmod (S.evI (by walk_at "mem")) Ev.cint (by decide))))
      (fun v h' k x => src_rng hok'.handled x (by omega)) (fun b hb => nomatch hb) (by rw [upto_len, sizeLine_eq]; omega) (K.cs (by decide))
      (fun C a v h' _ _ _ _ => tests_nil) (fun C k v h' _ _ d kk hv => Ev.fmod (Ev.add (S.capt K (by walk_at "mem") kk rfl rfl rfl).int (Ev.mul (S.capt K (by walk_at "mem") kk rfl rfl rfl).int (Ev.loopv rfl hv d) (mulOk (by omega)))) Ev.cint (by decide))
      (K.k _ _ rfl) (by walk_at "del") fun l vs n h₃ tk₃ are S => ?_
    have B₁ := B.sub (hs.trans S.base)
    have hf : ((upto (2 + (c.fmod 100).toNat)).filter fun _ => true) = upto (2 + (c.fmod 100).toNat) := by simp
    rw [hf] at are
    have hW : h₃.IsList l vs.toArray := lstO.at (S.fn _ (by walk_at "mem")).1
    have hlen : (walkZ 181 180 a b (2 + (c.fmod 100).toNat)).length = 2 + (c.fmod 100).toNat := by simp [walkZ, upto_len]
    have hmem : ∀ x ∈ walkZ 181 180 a b (2 + (c.fmod 100).toNat), 0 ≤ x ∧ x < 181 := fun x hx => by
      obtain ⟨k, _, rfl⟩ := List.mem_map.mp hx
      exact ⟨fmod_lo _ (by decide), fmod_hi _ (by decide)⟩
    refine St.ret (Ev.bytesL (B₁.built (v := .type "bytes") K.g (by kernel_rfl) (by kernel_rfl) (by decide) (K.k _ _ rfl))
      ((Ev.comp (D := DI) (xs := walkZ 181 180 a b (2 + (c.fmod 100).toNat)) (p := fun _ => true) (g := fun x => if x < 94 then 33 + x else 67 + x) (F := IsV (.ref l)) (fp := [l]) (fun _ _ _ x y => x.inj y)
        (S.ev (by walk_at "mem")) (fun v h' k x => by cases x; exact src_ints hok'.handled (hW.at fun o e => k _ _ e) are) (fun b hb => by rw [List.mem_singleton.mp hb]; exact ⟨_, (S.fn (l, _) (by walk_at "mem")).1⟩) (by rw [hlen, sizeLine_eq]; omega) (K.cs (by decide))
        (fun C a v h' _ _ _ _ => tests_nil) (fun C k v h' _ _ d kk hv => Ev.ite (Te.lt (Ev.loopv rfl hv d) Ev.cint) (fun q => by
            have q : k < 94 := of_decide_eq_true q
            rw [if_pos q]; exact Ev.add Ev.cint (Ev.loopv rfl hv d)) (fun q => by
            have q : ¬ k < 94 := of_decide_eq_false q
            rw [if_neg q]; exact Ev.add Ev.cint (Ev.loopv rfl hv d)))).imp fun v h' x => x.li) ?_ ?_ hok'.handled) fun v h'' tk'' k'' hv => ⟨v, rfl, ?_, h'', tk'', rfl, S.base.trans k''⟩
    · intro n hn
      obtain ⟨x, hx, rfl⟩ := List.mem_map.mp hn
      have := hmem x (List.mem_filter.mp hx).1
      split <;> omega
    · have := List.length_filter_le (fun _ => true) (walkZ 181 180 a b (2 + (c.fmod 100).toNat))
      rw [List.length_map]; omega
    · have hf : ((walkZ 181 180 a b (2 + (c.fmod 100).toNat)).filter fun _ => true) = walkZ 181 180 a b (2 + (c.fmod 100).toNat) := by simp
      rw [hf] at hv
      unfold signsOf; rw [if_neg n0, if_neg n1, if_pos e0]; exact hv
  · have n2 : kd ≠ 2 := by simp at hb; omega
    have S := S.grow k'
    refine X.nil ?_
    refine St.assignI S (Ev.fmod (S.evI (by walk_at "mem")) Ev.cint (by decide)) (K.can rfl) (by walk_at "del") fun t₁ h₁ tk₁ S => ?_
    refine St.assignI S (Ev.add Ev.cint (Ev.fmod (S.evI (by walk_at "mem")) Ev.cint (by decide))) (K.can rfl) (by walk_at "del") fun t₂ h₂ tk₂ S => ?_
    have B₁ := B.sub (hs.trans S.base)
    have c0 := fmod_lo c (n := 88) (by decide)
    have c1 := fmod_hi c (n := 88) (by decide)
    have b0 := fmod_lo b (n := 88) (by decide)
    have b1 := fmod_hi b (n := 88) (by decide)
    refine St.ret (Ev.bytesL (B₁.built (v := .type "bytes") K.g (by kernel_rfl) (by kernel_rfl) (by decide) (K.k _ _ rfl))
      ((Ev.comp (D := DI) (xs := upto (2 + (c.fmod 88).toNat)) (p := fun _ => true) (g := fun k => 38 + (a.fmod 89 + (1 + b.fmod 88) * k).fmod 89) (fun _ _ _ x y => x.inj y)
        (Ev.rng (n := 2 + (c.fmod 88).toNat) (B₁.built (v := .type "range") K.g (by kernel_rfl) (by kernel_rfl) (by decide) (K.k _ _ rfl)) (by
        have e : ((2 + (c.fmod 88).toNat : Nat) : Int) = 2 + c.fmod 88 := by omega
        rw [e]; exact Ev.add Ev.cint (Ev.fmod (S.evI (by walk_at "mem")) Ev.cint (by decide))))
        (fun v h' k x => src_rng hok'.handled x (by omega)) (fun b hb => nomatch hb) (by rw [upto_len, sizeLine_eq]; omega) (K.cs (by decide))
        (fun C a v h' _ _ _ _ => tests_nil) (fun C k v h' _ _ d kk hv => Ev.add Ev.cint (Ev.fmod (Ev.add (S.capt K (by walk_at "mem") kk rfl rfl rfl).int (Ev.mul (S.capt K (by walk_at "mem") kk rfl rfl rfl).int (Ev.loopv rfl hv d) (mulOk (by omega)))) Ev.cint (by decide)))).imp fun v h' x => x.li) ?_ ?_ hok'.handled) fun v h'' tk'' k'' hv => ⟨v, rfl, ?_, h'', tk'', rfl, S.base.trans k''⟩
    · intro n hn
      obtain ⟨x, hx, rfl⟩ := List.mem_map.mp hn
      have e1 := fmod_lo (a.fmod 89 + (1 + b.fmod 88) * x) (n := 89) (by decide)
      have e2 := fmod_hi (a.fmod 89 + (1 + b.fmod 88) * x) (n := 89) (by decide)
      omega
    · have := List.length_filter_le (fun _ => true) (upto (2 + (c.fmod 88).toNat))
      rw [upto_len] at this
      rw [List.length_map]; omega
    · have hf : ((upto (2 + (c.fmod 88).toNat)).filter fun _ => true) = upto (2 + (c.fmod 88).toNat) := by simp
      rw [hf] at hv
      unfold signsOf; rw [if_neg n0, if_neg n1, if_neg n2]; exact hv
end
end Mine
end
section
open PySem PySem.W PySem.Calls PyProof.Rows
set_option linter.unusedVariables false
set_option maxRecDepth 100000
namespace Mine
local macro_rules | `(tactic| walk_at "mem") => `(tactic| first | with_reducible exact List.mem_cons_self | (with_reducible refine List.mem_cons_of_mem _ ?_; walk_at "mem"))
local macro_rules | `(tactic| walk_at "del") => `(tactic| first | with_reducible exact Del.nil | (with_reducible refine' Del.hit ?hr; (case hr => walk_at "del")) | (refine' Del.miss ?hne ?hr; (case hne => decide); (case hr => walk_at "del")))
def stepZ (base : Int) (p : List Int × Int) (r : Int) : List Int × Int := (p.1 ++ [if r + p.2 = base then 0 else r + p.2], if r + p.2 = base then 1 else 0)
def runZ (base : Int) (l : List Int) : List Int × Int := l.foldl (stepZ base) ([], 1)
def nextZ (ns : List Int) (base : Int) : List Int := (if (runZ base ns.reverse).2 = 1 then (runZ base ns.reverse).1 ++ [1] else (runZ base ns.reverse).1).reverse
theorem runZ_snoc (base : Int) (l : List Int) (r : Int) : runZ base (l ++ [r]) = stepZ base (runZ base l) r := by simp [runZ, List.foldl_append]
theorem runZ_len (base : Int) (l : List Int) : (runZ base l).1.length = l.length := by
  have : ∀ (l : List Int) (p : List Int × Int), (l.foldl (stepZ base) p).1.length = p.1.length + l.length := by
    intro l
    induction l with
    | nil => intro p; simp
    | cons a r ih => intro p; rw [List.foldl_cons, ih]; simp [stepZ]; omega
  simpa [runZ] using this l ([], 1)
theorem IntsAre.rev {vs : List Value} {ns : List Int} (x : IntsAre vs ns) : IntsAre vs.reverse ns.reverse := by
  induction x with
  | nil => exact .nil
  | cons n t _ ih =>
    rw [List.reverse_cons, List.reverse_cons]
    exact ih.append (.cons n t .nil)
section
variable {prog : Program} {w : World} {A : Around} {env : Env} {mg mb : Str → Option Value} {h : Heap}
theorem fn_next (B : Bs w mg mb h) (hok : Ok A 1) {l : Addr} {vs : List Value} {ns : List Int} {base : Int} {tb : Tok} (hl : h.IsList l vs.toArray) (hi : IntsAre vs ns) (hn : ns.length ≤ 100) :
    Gr prog w A h (call (.ref 70) [.ref l, .int base tb]) (NI h (nextZ ns base)) := by
  have hlen := hi.length
  refine fn_call (args := ⟨[.ref l, .int base tb], []⟩) (binds := [("ranks", .ref l), ("base", .int base tb)]) (B.X 70 _ rfl) rfl B.G.lim (codeRec_of B.X (by kernel_rfl)) rfl rfl hok (fun s _ => BindsTo.of_eq rfl) (by decide) (locs rfl) (by dsimp only [List.map]; decide) fun s env A' h₁ tk hs S K hok' => ?_
  have hlb : ∀ {h'}, Sub s.heap h' → h'.IsList l vs.toArray := fun k => hl.at fun o e => k _ _ (hs _ _ e)
  refine St.assign S (Ev.nil.imp fun v h' x => (x.ni (ns := []) .nil).nw) (.inl (K.k _ _ rfl)) (by walk_at "del") ?_
  rintro v nn h₂ tk₂ ⟨d, us, n, rfl, rfl, hus⟩ S
  refine St.assignI S Ev.cint (.inl (K.k _ _ rfl)) (by walk_at "del") fun t₁ h₁ tk₁ S => ?_
  have B₁ := B.sub (hs.trans S.base)
  refine St.for_ (F := IsRng ns.length) (fp := []) (n := (upto ns.length).length) (P := fun i v => ∃ a, (upto ns.length)[i]? = some a ∧ DI a v)
    (fun i vars news => ∃ (us : List Value) (n : Nat) (t : Tok), IntsAre us (runZ base (ns.reverse.take i)).1 ∧ vars = ([("carry", .int (runZ base (ns.reverse.take i)).2 t), ("out", .ref d), ("ranks", .ref l), ("base", .int base tb)] : List (Str × Value)) ∧ news = [(d, lstO us n)])
    (S.weakV (vars' := ([("carry", .int 1 t₁), ("out", .ref d), ("ranks", .ref l), ("base", .int base tb)] : List (Str × Value))) (by
      intro p hp
      simp only [List.mem_cons, List.not_mem_nil, or_false] at hp ⊢
      rcases hp with rfl | rfl | rfl | rfl <;> simp))
    (Ev.rng (n := ns.length) (B₁.built (v := .type "range") K.g (by kernel_rfl) (by kernel_rfl) (by decide) (K.k _ _ rfl)) (Ev.len1 (B₁.len K.g (K.k _ _ rfl)) (S.evL (by walk_at "mem") (hlb S.base)) IsL.sub fun v h'' k'' ⟨a, e, hx⟩ => by subst e; rw [← hlen]; exact g_len_list hx (by omega)))
    (fun v h' k x => src_rng hok'.handled x (by omega)) (fun b hb => nomatch hb) ⟨us, n, t₁, hus, rfl, rfl⟩ ?_ ?_
  · rintro i v vars news h₃ tk₃ I oI E' hin ⟨a, ha, t, rfl⟩ ⟨us, n, tc, hus, rfl, rfl⟩ S
    rw [upto_len] at hin
    rw [upto_get hin] at ha
    cases ha
    refine St.assignTo S (.inl (K.k _ _ rfl)) (by walk_at "del") fun h₄ tk₄ S => ?_
    rcases ints_at hi (ns.length - 1 - i) with ⟨h1, h2⟩ | ⟨r, t', h1, h2⟩
    · have : ns.length ≤ ns.length - 1 - i := by simpa using h1
      omega
    have hrev : ns.reverse[i]? = some r := by rw [List.getElem?_reverse hin]; exact h1
    have htake : ns.reverse.take (i + 1) = ns.reverse.take i ++ [r] := by rw [List.take_add_one, hrev]; rfl
    refine St.assignI S (i := r + (runZ base (ns.reverse.take i)).2) (Ev.add (Ev.int (Ev.itemLN (k := -1 - (i : Int)) (S.evL (by walk_at "mem") (hlb S.base)) (Ev.subI (Ev.neg Ev.cint) (S.evI (by walk_at "mem"))) (by omega) (by omega) (by omega) (by
        rw [← h2]; congr 1; omega))) (S.evI (by walk_at "mem"))) (.inl (K.k _ _ rfl)) (by walk_at "del") fun t₅ h₅ tk₅ S => ?_
    refine St.assignI S (i := if r + (runZ base (ns.reverse.take i)).2 = base then 1 else 0) (Ev.ite (Te.eqI (S.evI (by walk_at "mem")) (S.evI (by walk_at "mem"))) (fun q => by
        have q := eq_of_beq q
        rw [if_pos q]; exact Ev.cint) (fun q => by
        have q := ne_of_beq_false q
        rw [if_neg q]; exact Ev.cint)) (.inl (K.k _ _ rfl)) (by walk_at "del") fun t₆ h₆ tk₆ S => ?_
    refine appendTo (pre := [(I, oI)]) (post := []) (P := fun v nn => (∃ t, v = .int (if r + (runZ base (ns.reverse.take i)).2 = base then 0 else r + (runZ base (ns.reverse.take i)).2) t) ∧ nn = []) S (by walk_at "mem") (Ev.nw (P := fun v => ∃ t, v = .int (if r + (runZ base (ns.reverse.take i)).2 = base then 0 else r + (runZ base (ns.reverse.take i)).2) t) (Ev.ite (Te.eqI (S.evI (by walk_at "mem")) (S.evI (by walk_at "mem"))) (fun q => by
        have q := eq_of_beq q
        rw [if_pos q]; exact Ev.cint) (fun q => by
        have q := ne_of_beq_false q
        rw [if_neg q]; exact S.evI (by walk_at "mem")))) ?_ ?_
    · have e1 := hus.length
      have e2 := runZ_len base (ns.reverse.take i)
      have e3 : (ns.reverse.take i).length ≤ ns.length := by rw [List.length_take, List.length_reverse]; omega
      rw [sizeLine_eq]; omega
    · rintro v nn n' h₇ tk₇ ⟨⟨t₇, rfl⟩, rfl⟩ S
      refine X.nil ⟨_, [(d, _)], h₇, tk₇, ⟨us ++ [.int (if r + (runZ base (ns.reverse.take i)).2 = base then 0 else r + (runZ base (ns.reverse.take i)).2) t₇], n', t₆, ?_, rfl, rfl⟩, S.weakV ?_, rfl⟩
      · rw [htake, runZ_snoc]
        exact hus.append (.cons _ _ .nil)
      · rw [htake, runZ_snoc]
        intro p hp
        simp only [List.mem_cons, List.not_mem_nil, or_false, stepZ] at hp ⊢
        rcases hp with rfl | rfl | rfl | rfl <;> simp
  · rintro vars news h₃ tk₃ ⟨us, n, tc, hus, rfl, rfl⟩ S
    have htake : ns.reverse.take (upto ns.length).length = ns.reverse := by rw [upto_len]; exact List.take_of_length_le (by simp)
    rw [htake] at S hus
    have e2 := runZ_len base ns.reverse
    rw [List.length_reverse] at e2
    have fin : ∀ {p1 p2 p3 p4 p5 p6 : Pos} {k1 : Nat} (us : List Value) (os : List Int) (n : Nat) (vars : List (Str × Value)) h₃ tk₃, IntsAre us os → os.length ≤ 101 → nextZ ns base = os.reverse → (("out" : Str), Value.ref d) ∈ vars → St s.heap env vars [(d, lstO us n)] h₃ →
        wpAny (model prog w) A' (execs [.Return (some (.Subscript (.Name "out" p1) (.Slice none none (some (.UnaryOp .USub (.Constant (.int 1) k1 p2) p3)) p4) p5)) p6] env)
          (fun fl s'' => ∃ v, fl = .ret v ∧ NI h (nextZ ns base) v s''.heap ∧ ∃ h' tk', s'' = { s with heap := h', toks := tk' } ∧ Sub s.heap h') (fun _ _ => False) { s with heap := h₃, toks := tk₃ } := by
      intro p1 p2 p3 p4 p5 p6 k1 us os n vars h₃ tk₃ hus hos hne hmem S
      have hl3 : h₃.IsList d us.toArray := lstO.at (S.fn _ (by walk_at "mem")).1
      have hul := hus.length
      refine St.ret (Ev.cutL (us := us.reverse) (S.evL hmem hl3) Part.none Part.none (Part.some (Ev.neg Ev.cint)) (by decide) (by rw [sizeLine_eq]; omega) (by rw [show (-(1:Int)) = -1 from rfl, krv_pick])) fun v h'' tk'' k'' hv => ⟨v, rfl, ?_, h'', tk'', rfl, S.base.trans k''⟩
      rw [hne]
      obtain ⟨a, e, e0, y⟩ := hv
      exact ⟨a, us.reverse, 0, e, none_of_sub (hs.trans S.base) e0, y, IntsAre.rev hus⟩
    refine St.ifs (Te.eqI (S.evI (by walk_at "mem")) Ev.cint) (fun hb h' tk' k' => ?_) (fun hb h' tk' k' => ?_)
    · have S := S.grow k'
      have hb : (runZ base ns.reverse).2 = 1 := eq_of_beq hb
      refine appendTo (pre := []) (post := []) (P := fun v nn => (∃ t, v = .int 1 t) ∧ nn = []) S (by walk_at "mem") (Ev.nw (P := fun v => ∃ t, v = .int 1 t) Ev.cint) ?_ ?_
      · have := hus.length; rw [sizeLine_eq]; omega
      · rintro v nn n' h₇ tk₇ ⟨⟨t₇, rfl⟩, rfl⟩ S
        refine X.nil (fin _ ((runZ base ns.reverse).1 ++ [1]) n' _ h₇ tk₇ (hus.append (.cons _ _ .nil)) (by rw [List.length_append, e2]; simp; omega) (by unfold nextZ; rw [if_pos hb]) (by walk_at "mem") S)
    · have S := S.grow k'
      have hb : ¬ (runZ base ns.reverse).2 = 1 := ne_of_beq_false hb
      exact X.nil (fin us (runZ base ns.reverse).1 n _ h' tk' hus (by omega) (by unfold nextZ; rw [if_neg hb]) (by walk_at "mem") S)
end
end Mine
end
section
open PySem PySem.W PySem.Calls PyProof.Rows
set_option linter.unusedVariables false
set_option maxRecDepth 100000
namespace Mine
local macro_rules | `(tactic| walk_at "mem") => `(tactic| first | with_reducible exact List.mem_cons_self | (with_reducible refine List.mem_cons_of_mem _ ?_; walk_at "mem"))
local macro_rules | `(tactic| walk_at "del") => `(tactic| first | with_reducible exact Del.nil | (with_reducible refine' Del.hit ?hr; (case hr => walk_at "del")) | (refine' Del.miss ?hne ?hr; (case hne => decide); (case hr => walk_at "del")))
section
variable {prog : Program} {w : World} {A : Around} {env : Env} {mg mb : Str → Option Value} {h : Heap}
theorem swap_cell {t : Str} {p : Pos} {e : PySem.Expr} {n : Nat} (h : env.kindOf t ≠ some .local) : swapsWith e (some (.Name t p)) n env = pure false := by
  have q : (env.kindOf t == some .local) = false := beq_eq_false_iff_ne.mpr h
  unfold swapsWith
  cases e <;> first | rfl | (show pure (env.blockKind == .function && env.kindOf t == some .local && _ && _) = _; rw [q]; simp)
theorem g_enum {al : List UInt8} {t : Tok} : Gr prog w A h (call (.type "enumerate") [.bytes al.toArray t]) (fun v h' => ∃ e it u, v = .ref e ∧ e ≠ it ∧ h.get? e = none ∧ h.get? it = none ∧ IsEnum h' e it 0 .none ∧ KBw.IsBytesIter h' it al.toArray u 0) := fun s E hs =>
  call_enumerate_bytes fun h' he hi hk => ⟨⟨_, _, t, rfl, Nat.succ_ne_self _, none_of_sub hs (Heap.get?_none_of_le (Nat.le_succ _)), none_of_sub hs (push_new _), he, hi⟩, Kp.heap1 hk⟩

theorem fn_map (B : Bs w mg mb h) (hok : Ok A 1) {al : List UInt8} {tu : Tok} (hal : al.length ≤ 256) :
    Gr prog w A h (call (.ref 42) [.bytes al.toArray tu] [("autofix", .bool false)]) (ND h (mapOf (placesOf al))) := by
  refine fn_callC (args := ⟨[.bytes al.toArray tu], [("autofix", .bool false)]⟩) (binds := [("alphabet", .bytes al.toArray tu), ("autofix", .bool false)]) (B.X 42 _ rfl) rfl B.G.lim (codeRec_of B.X (by kernel_rfl)) rfl rfl hok (fun s hs => BindsTo.of_eq rfl) (by decide) rfl (by dsimp only [List.map]; decide) fun s env A' h₁ tk hs S K hok' => ?_
  have B₁ := (B.sub hs).sub S.base
  refine St.assign S (Ev.imp (Ev.denum (al := al) (F := IsV .none) hok'.handled (fun s' E' Q hs' k => ?_) (by rw [sizeLine_eq]; omega) (K.cs (by decide)) (by decide)) fun v h' x => x.nw) (K.can rfl) (by walk_at "del") ?_ (swap_cell (by rw [K.k _ _ rfl]; decide))
  · have S' := S.grow hs'
    have B' := B₁.sub hs'
    refine Gr.use (Ev.callM (f := .type "enumerate") (B'.built K.g (by kernel_rfl) (by kernel_rfl) (by decide) (K.k _ _ rfl)) (Ag.one (S'.evB (by walk_at "mem")) (mB _)) (H := fun v h' => ∃ e it u, v = .ref e ∧ e ≠ it ∧ s'.heap.get? e = none ∧ s'.heap.get? it = none ∧ IsEnum h' e it 0 .none ∧ KBw.IsBytesIter h' it al.toArray u 0) ?_).gr ?_
    · rintro vs h' kk ⟨v, rfl, t, rfl⟩
      exact g_enum.imp fun v h' ⟨e, it, u, a, b, c, d, x⟩ => ⟨e, it, u, a, b, none_of_sub kk c, none_of_sub kk d, x⟩
    · rintro v h' tk kk ⟨e, it, u, rfl, b, c, d, x, y⟩
      exact k e it u h' tk b c d x y kk
  · rintro v nn h₂ tk₂ ⟨d, o, rfl, rfl, hdo⟩ S
    refine St.ifs (b := false) (Te.bool (S.ev (by walk_at "mem"))) (fun e => nomatch e) fun _ h' tk' k' => ?_
    have S := S.grow k'
    refine X.nil (St.ret (S.ev (by walk_at "mem")) fun v h'' tk'' k'' hv => ⟨v, rfl, ?_, h'', tk'', rfl, S.base.trans k''⟩)
    cases hv
    have D := S.fn (d, o) (by simp)
    exact ⟨d, o, rfl, none_of_sub hs D.2.1, k'' _ _ D.1, hdo⟩

theorem bind51 (B : Bs w mg mb h) {s : Shared} (hs : Sub h s.heap) {args : PySem.Args} {binds : List (Str × Value)} {k : Option (Array Value) → Sem (List (Str × Value))} {k2 : Option Value → Sem (List (Str × Value))} (h₁ : bindArgs (fdAt w 51) args = seqItems? (fdAt w 51).defaults >>= k)
    (h₂ : k (some #[.bytes bitcoin.toArray 189]) = nsGet 44 "autofix" >>= k2) (h₃ : k2 (some (.bool false)) = pure binds) : BindsTo s (fdAt w 51) args binds := fun M A E Q hq => by
  rw [h₁]
  have hd : (fdAt w 51).defaults = .ref 43 := rfl
  rw [hd]
  refine wpAny_bind (wpAny_seqItems (hs _ _ (B.X 43 _ rfl)) rfl ?_)
  show wpAny M A (k (some #[.bytes bitcoin.toArray 189])) _ _ _
  rw [h₂]
  have hn : s.heap.Ns 44 (nsFind #[{ hash := PyData.keyHash w.params "autofix", key := .str "autofix" 230, val := .bool false }]) :=
    ⟨_, _, _, hs _ _ (B.X 44 _ rfl), rfl, (fun e he => by simp at he; subst he; exact ⟨_, _, rfl⟩), fun _ => rfl⟩
  refine wpAny_bind (wpAny_nsGet hn ?_)
  rw [show nsFind #[{ hash := PyData.keyHash w.params "autofix", key := .str "autofix" 230, val := .bool false }] "autofix" = some (.bool false) by kernel_rfl, h₃]
  exact wpAny_pure hq
end
end Mine
end
section
open PySem PySem.W PySem.Calls PyProof.Rows
set_option linter.unusedVariables false
set_option maxRecDepth 100000
namespace Mine
local macro_rules | `(tactic| walk_at "mem") => `(tactic| first | with_reducible exact List.mem_cons_self | (with_reducible refine List.mem_cons_of_mem _ ?_; walk_at "mem"))
local macro_rules | `(tactic| walk_at "del") => `(tactic| first | with_reducible exact Del.nil | (with_reducible refine' Del.hit ?hr; (case hr => walk_at "del")) | (refine' Del.miss ?hne ?hr; (case hne => decide); (case hr => walk_at "del")))
open Builtin
def placeZ (al : List UInt8) (c : Int) : Int := (mapOf (placesOf al) c).getD 0
def decZ (al : List UInt8) (cs : List Int) : Int := cs.foldl (fun a c => a * al.length + placeZ al c) 0
theorem decZ_snoc (al : List UInt8) (cs : List Int) (c : Int) : decZ al (cs ++ [c]) = decZ al cs * al.length + placeZ al c := by simp [decZ, List.foldl_append]
theorem mulOkR {a b : Int} (h : b.natAbs < 2 ^ 63) : IntMulOk a b := IntMulOk.of_right (by
  unfold Builtin.Int.intBits
  have := (Nat.log2_lt (n := b.natAbs) (k := 63))
  by_cases h0 : b.natAbs = 0
  · have : b = 0 := by omega
    subst this; decide
  · have := (this h0).mpr h
    split <;> omega)
theorem rstrip_id {l : List UInt8} (h : ∀ c ∈ l, Bytes.isSpace c = false) : (l.reverse.dropWhile Bytes.isSpace).reverse = l := by
  have : l.reverse.dropWhile Bytes.isSpace = l.reverse := by
    cases q : l.reverse with
    | nil => rfl
    | cons a r =>
      have ha : a ∈ l := List.mem_reverse.mp (by rw [q]; exact List.mem_cons_self)
      rw [List.dropWhile_cons, h a ha]; rfl
  rw [this, List.reverse_reverse]
section
variable {prog : Program} {w : World} {A : Around} {env : Env} {mg mb : Str → Option Value} {h : Heap}
theorem fn_dec (B : Bs w mg mb h) (hok : Ok A 2) {args : PySem.Args} {l al : List UInt8} {tu tv : Tok}
    (hbind : ∀ s, Sub h s.heap → BindsTo s (fdAt w 51) args [("v", .bytes l.toArray tv), ("alphabet", .bytes al.toArray tu), ("autofix", .bool false)]) (hal : al.length ≤ 256) (hl : l.length ≤ 1000)
    (hin : ∀ c ∈ codes l, (mapOf (placesOf al) c).isSome = true) (hsp : (32 : UInt8) ∉ al) (hws : ∀ c ∈ l, Bytes.isSpace c = false) :
    Gr prog w A h (call (.ref 51) args.pos args.kw) (IsI (decZ al (codes l))) := by
  refine fn_call (args := args) (binds := [("v", .bytes l.toArray tv), ("alphabet", .bytes al.toArray tu), ("autofix", .bool false)]) (B.X 51 _ rfl) rfl B.G.lim (codeRec_of B.X (by kernel_rfl)) rfl rfl hok (fun s hs => hbind s hs) (by decide) (locs rfl) (by dsimp only [List.map]; decide) fun s env A' h₁ tk hs S K hok' => ?_
  refine St.ifs (b := true) (Te.cmp Ev.cbytes (S.evB (by walk_at "mem")) (mB _) (by rintro _ _ _ _ ⟨_, ha⟩ ⟨_, hb⟩; subst ha hb; exact g_notin hsp hok'.handled)) (fun _ h' tk' k' => ?_) (fun e => nomatch e)
  have S := S.grow k'
  refine St.assignB S (i := l.toArray) (Ev.imp (Ev.methB (S.evB (by walk_at "mem")) Ag.nil slot_rstrip type_rstrip (H := IsB ((l.toArray.toList.reverse.dropWhile Bytes.isSpace).reverse.toArray)) ?_) ?_) (.inl (K.k _ _ rfl)) (by walk_at "del") fun t₁ h₁ tk₁ S => ?_
  · rintro t vs h' k rfl
    exact g_rstrip (by simp [sizeLine_eq]; omega)
  · intro v h' hv
    have e := rstrip_id hws
    rw [List.toList_toArray, e] at hv
    exact hv
  refine X.nil ?_
  have B₁ := B.sub (hs.trans S.base)
  refine St.assignB S (i := l.toArray) (Ev.callF (B₁.glob K.g (by kernel_rfl) (K.k _ _ rfl)) (B₁.X 21 _ rfl) rfl (Ag.one (S.evB (by walk_at "mem")) (mB _)) ?_) (.inl (K.k _ _ rfl)) (by walk_at "del") fun t₂ h₂ tk₂ S => ?_
  · rintro vs h' k ⟨v, rfl, t, rfl⟩
    exact fn_scrub (B₁.sub k) hok'
  have B₁ := B.sub (hs.trans S.base)
  refine St.assign S (Ev.imp (Ev.callFK (B₁.glob K.g (by kernel_rfl) (K.k _ _ rfl)) (B₁.X 42 _ rfl) rfl (Ag.one (S.evB (by walk_at "mem")) (mB _)) (Kg.cons (S.ev (by walk_at "mem")) (mV _) Kg.nil) (fun vs h h' _ x => x) (H := ND h₂ (mapOf (placesOf al))) ?_) fun v h' x => x.nw) (.inl (K.k _ _ rfl)) (by walk_at "del") ?_
  · rintro vs us h' k ⟨v, rfl, t, rfl⟩ ⟨_, _, rfl, rfl, rfl⟩
    exact (fn_map (B₁.sub k) hok' hal).imp fun v h'' ⟨a, o, e, e0, r⟩ => ⟨a, o, e, none_of_sub k e0, r⟩
  rintro v nn h₃ tk₃ ⟨d, o, rfl, rfl, hdo⟩ S
  refine St.assignI S Ev.cint (.inl (K.k _ _ rfl)) (by walk_at "del") fun t₄ h₄ tk₄ S => ?_
  have B₁ := B.sub (hs.trans S.base)
  refine St.assignI S (i := (al.length : Int)) (Ev.len1 (B₁.len K.g (K.k _ _ rfl)) (S.evB (by walk_at "mem")) (mB _) fun v h' k hv => by
      obtain ⟨t, rfl⟩ := hv
      have := g_len_bytes (prog := prog) (w := w) (A := A') (h := h') (b := al.toArray) (t := t) (by simp; omega)
      simpa using this) (.inl (K.k _ _ rfl)) (by walk_at "del") fun t₅ h₅ tk₅ S => ?_
  refine St.try_ fun E' => ?_
  refine St.for_ (F := IsB l.toArray) (fp := []) (n := (codes l).length) (P := fun i v => ∃ a, (codes l)[i]? = some a ∧ DI a v)
    (fun i vars news => ∃ (t : Tok), vars = ([("decimal", .int (decZ al ((codes l).take i)) t), ("base", .int al.length t₅), ("map", .ref d)] : List (Str × Value)) ∧ news = [(d, o)])
    ((S.weakV (vars' := ([("decimal", .int 0 t₄), ("base", .int al.length t₅), ("map", .ref d)] : List (Str × Value))) (by
      intro p hp
      simp only [List.mem_cons, List.not_mem_nil, or_false] at hp ⊢
      rcases hp with rfl | rfl | rfl <;> simp)))
    (S.evB (by walk_at "mem")) (fun v h' k ⟨t, e⟩ => by subst e; exact src_bytes hok'.handled) (fun b hb => nomatch hb) ⟨t₄, rfl, rfl⟩ ?_ ?_
  · rintro i v vars news h₃ tk₃ I oI E' hi ⟨a, ha, t, rfl⟩ ⟨td, rfl, rfl⟩ S
    refine St.assignTo S (.inl (K.k _ _ rfl)) (by walk_at "del") fun h₄ tk₄ S => ?_
    have hsome := hin a (List.mem_of_getElem? ha)
    obtain ⟨n, hn⟩ := Option.isSome_iff_exists.mp hsome
    have hpl : placeZ al a = n := by unfold placeZ; rw [hn]; rfl
    have htake : (codes l).take (i + 1) = (codes l).take i ++ [a] := by rw [List.take_add_one, ha]; rfl
    have hD : IsDI (mapOf (placesOf al)) (.ref d) h₄ := hdo h₄ (S.fn (d, o) (by simp)).1
    refine St.assignI S (i := decZ al ((codes l).take i) * al.length + n) (Ev.add (Ev.mul (S.evI (by walk_at "mem")) (S.evI (by walk_at "mem")) (mulOkR (by omega))) (Ev.itemD ((S.ev (by walk_at "mem")).imp' fun v h' k e => by cases e; exact mDI _ _ _ _ k hD) (S.evI (by walk_at "mem")) hn)) (.inl (K.k _ _ rfl)) (by walk_at "del") fun t₆ h₆ tk₆ S => ?_
    refine X.nil ⟨_, [(d, o)], h₆, tk₆, ⟨t₆, rfl, rfl⟩, S.weakV ?_, rfl⟩
    rw [htake, decZ_snoc, hpl]
    intro p hp
    simp only [List.mem_cons, List.not_mem_nil, or_false] at hp ⊢
    rcases hp with rfl | rfl | rfl <;> simp
  · rintro vars news h₃ tk₃ ⟨td, rfl, rfl⟩ S
    rw [List.take_of_length_le (Nat.le_refl _)] at S
    exact X.nil (X.nil (St.ret (S.evI (by walk_at "mem")) fun v h'' tk'' k'' hv => ⟨v, rfl, hv, h'', tk'', rfl, S.base.trans k''⟩))
end
end Mine
end
section
open PySem PySem.W PySem.Calls PyProof.Rows
set_option maxRecDepth 100000
namespace Mine
section
variable {prog : Program} {w : World} {A : Around} {env : Env} {mg mb : Str → Option Value} {h : Heap}
theorem bind51' (B : Bs w mg mb h) {s : Shared} (hs : Sub h s.heap) {args : PySem.Args} {binds : List (Str × Value)} {α β : Type} {k : Option (Array Value) → Sem (List (Str × Value))} {f : Option Value → Sem α} {g : α → Sem β} {k3 : β → Sem (List (Str × Value))} {a : α} {c : β} (h₁ : bindArgs (fdAt w 51) args = seqItems? (fdAt w 51).defaults >>= k)
    (h₂ : k (some #[.bytes bitcoin.toArray 189]) = ((nsGet 44 "autofix" >>= f) >>= g) >>= k3) (h₃ : f (some (.bool false)) = pure a) (h₄ : g a = pure c) (h₅ : k3 c = pure binds) : BindsTo s (fdAt w 51) args binds := fun M A E Q hq => by
  rw [h₁]
  have hd : (fdAt w 51).defaults = .ref 43 := rfl
  rw [hd]
  refine wpAny_bind (wpAny_seqItems (hs _ _ (B.X 43 _ rfl)) rfl ?_)
  show wpAny M A (k (some #[.bytes bitcoin.toArray 189])) _ _ _
  rw [h₂]
  have hn : s.heap.Ns 44 (nsFind #[{ hash := PyData.keyHash w.params "autofix", key := .str "autofix" 230, val := .bool false }]) :=
    ⟨_, _, _, hs _ _ (B.X 44 _ rfl), rfl, (fun e he => by simp at he; subst he; exact ⟨_, _, rfl⟩), fun _ => rfl⟩
  refine wpAny_bind (wpAny_bind (wpAny_bind (wpAny_nsGet hn ?_)))
  rw [show nsFind #[{ hash := PyData.keyHash w.params "autofix", key := .str "autofix" 230, val := .bool false }] "autofix" = some (.bool false) by kernel_rfl]
  exact wpAny_of_eq h₃ (wpAny_of_eq h₄ (wpAny_of_eq h₅ hq))
theorem bind51_1 (B : Bs w mg mb h) {s : Shared} (hs : Sub h s.heap) {b : Array UInt8} {t : Tok} : BindsTo s (fdAt w 51) ⟨[.bytes b t], []⟩ [("v", .bytes b t), ("alphabet", .bytes bitcoin.toArray 189), ("autofix", .bool false)] := by
  refine' bind51' B hs rfl ?h2 ?h3 ?h4 ?h5
  case h2 => rfl
  case h3 => rfl
  case h4 => rfl
  case h5 => rfl
theorem bind51_2 (B : Bs w mg mb h) {s : Shared} (hs : Sub h s.heap) {b b' : Array UInt8} {t t' : Tok} : BindsTo s (fdAt w 51) ⟨[.bytes b t, .bytes b' t'], []⟩ [("v", .bytes b t), ("alphabet", .bytes b' t'), ("autofix", .bool false)] := by
  refine' bind51' B hs rfl ?h2 ?h3 ?h4 ?h5
  case h2 => rfl
  case h3 => rfl
  case h4 => rfl
  case h5 => rfl
end
end Mine
end
section
open PySem PySem.W PySem.Calls PyProof.Rows
set_option linter.unusedVariables false
set_option maxRecDepth 100000
namespace Mine
/-- what the law's call leaves -/
def LawPost (s : Shared) (g : Heap) (r : Result) (s' : Shared) : Prop := r = .ok (.ret (.bool true)) ∧ Sub g s'.heap ∧ s'.os = s.os ∧ s'.gens = s.gens ∧ GrownAt 72 s'.heap
structure LawIn (w : World) (mg mb : Str → Option Value) (g : Heap) (s : Shared) (l : Addr) (vs : List Value) (ns : List Int) : Prop where
  B : Bs w mg mb g
  k : Sub g s.heap
  size : g.objs.size = s.heap.objs.size
  tab : s.heap.get? 72 = some (tabObj #[])
  no : g.get? 72 = none
  C : CodeHd g 74 72
  bm : g.BuiltinsAt mg 72
  hl : g.IsList l vs.toArray
  hi : IntsAre vs ns
  hn : ns.length ≤ 63
end Mine
end
section
open PySem PySem.W PySem.Calls PyProof.Rows
set_option linter.unusedVariables false
set_option maxRecDepth 100000
namespace Mine
local macro_rules | `(tactic| walk_at "mem") => `(tactic| first | with_reducible exact List.mem_cons_self | (with_reducible refine List.mem_cons_of_mem _ ?_; walk_at "mem"))
local macro_rules | `(tactic| walk_at "del") => `(tactic| first | with_reducible exact Del.nil | (with_reducible refine' Del.hit ?hr; (case hr => walk_at "del")) | (refine' Del.miss ?hne ?hr; (case hne => decide); (case hr => walk_at "del")))
noncomputable def lawStmts (w : World) : List Stmt := match (fdAt w 75).body with
  | .stmts b => b
  | _ => []
/-- the ledger's base is a smaller heap, that lacks the code's table -/
theorem St.rebase {hb g h : Heap} {env : Env} {vars : List (Str × Value)} {news : List (Addr × Obj)} {P : Addr} {o : Obj} (S : St hb env vars news h) (k : Sub g hb) (hP : hb.get? P = some o) (no : g.get? P = none) : St g env vars (news ++ [(P, o)]) h := by
  refine ⟨S.kind, k.trans S.base, S.ns, none_of_sub k S.lnew, fun n c hc => let ⟨a, b, d⟩ := S.cells n c hc; ⟨a, none_of_sub k b, d⟩, S.capart, S.fv, fun p hp => ?_, ?_⟩
  · rcases List.mem_append.mp hp with hp | hp
    · exact ⟨(S.fn p hp).1, none_of_sub k (S.fn p hp).2.1, (S.fn p hp).2.2⟩
    · rw [List.mem_singleton.mp hp]
      exact ⟨S.base _ _ hP, no, (fun q => by have q : P = env.locals := q; rw [q, S.lnew] at hP; cases hP), fun n c hc q => by have q : P = c := q; rw [q, (S.cells n c hc).2.1] at hP; cases hP⟩
  · rw [List.map_append]
    refine List.nodup_append.mpr ⟨S.ndup, by simp, fun a ha b hb' q => ?_⟩
    obtain ⟨p, hp, rfl⟩ := List.mem_map.mp ha
    have e1 : b = P := by simpa using hb'
    have := (S.fn p hp).2.1
    have e : p.1 = P := q.trans e1
    rw [e, hP] at this; cases this

theorem GC.cs' {env : Env} {names : List (Str × NameKind)} (K : GC env names) {scope : Scope} (h : (scope.names.all fun p => p.2 != .free || names.lookup p.1 == some .cell) = true) : ∀ n, (n, NameKind.free) ∈ scope.names → (env.cells.lookup n).isSome = true := fun n hn => K.c n (by
  have := List.all_eq_true.mp h _ hn
  simpa using this)
/-- what stays through the law's body -/
structure Lw (w : World) (mg mb : Str → Option Value) (g : Heap) (env : Env) (A : Around) : Prop where
  B : Bs w mg mb g
  C : CodeHd g 74 72
  bm : g.BuiltinsAt mg 72
  no : g.get? 72 = none
  K : GC env (fdAt w 75).scope.names
  code : env.code = .ref 74
  qual : env.qual = "law.<locals>."
  ok : Ok A 4
/-- the end that the body must reach -/
def Fin75 (s : Shared) (g : Heap) (fl : Flow) (s'' : Shared) : Prop := fl = .ret (.bool true) ∧ ∃ h' tk', s'' = { s with heap := h', toks := tk' } ∧ Sub g h' ∧ GrownAt 72 h'

theorem law_enter {prog : Program} {w : World} {mg mb : Str → Option Value} {g : Heap} {s : Shared} {l : Addr} {vs : List Value} {ns : List Int} (I : LawIn w mg mb g s l vs ns)
    (hbd : ∀ env A h₁ tk, Lw w mg mb g env A → St g env [("script", .ref l)] [(72, tabObj #[])] h₁ →
      wpAny (model prog w) A (execs (lawStmts w) env) (Fin75 s g) (fun _ _ => False) { s with heap := h₁, toks := tk }) :
    codeAny (model prog w) callerA (.call (.ref 75) ⟨[.ref l], []⟩) (LawPost s g) s := by
  have ho : s.heap.get? 75 = some _ := I.k _ _ (I.B.X 75 _ rfl)
  have hcd : s.heap.CodeRec (fdAt w 75).code (fdAt w 75).qualname := by
    obtain ⟨c, oc, vs, tq, e1, e2, e3, e4⟩ : g.CodeRec (fdAt w 75).code (fdAt w 75).qualname := codeRec_of I.B.X (by kernel_rfl)
    exact ⟨c, oc, vs, tq, e1, I.k _ _ e2, e3, e4⟩
  have hkind : ∀ x ∈ [(("script" : Str), Value.ref l)], (fdAt w 75).scope.names.lookup x.1 = some .local ∨ ((fdAt w 75).scope.names.lookup x.1 = some .cell ∧ ((cellsFrom (s.heap.objs.size + 1) (fdAt w 75).scope.names []).lookup x.1).isSome = true) := fun x hx => by
    rw [List.mem_singleton.mp hx]
    exact .inr ⟨by kernel_rfl, cells_some (by kernel_rfl) _⟩
  have hok : Ok callerA 5 := ⟨rfl, by decide, by decide⟩
  refine codeAny_call_function (fd := fdAt w 75) (by have := hok.depth; omega) ho (by kernel_rfl) (by kernel_rfl) (by kernel_rfl) (show (fdAt w 75).body = .stmts (lawStmts w) from by kernel_rfl) hcd ?_
  refine wpAny_of_eq (a := [(("script" : Str), Value.ref l)]) (by kernel_rfl) ?_
  rw [show (fdAt w 75).closure = [] from by kernel_rfl]
  refine wpAny_newFunctionEnv_cells (by kernel_rfl) hkind fun env he s' x => ?_
  have hkind' : ∀ x ∈ [(("script" : Str), Value.ref l)], env.kindOf x.1 = some .local ∨ (env.kindOf x.1 = some .cell ∧ (env.cells.lookup x.1).isSome = true) := by subst he; exact hkind
  have S := St.ofCells (env := env) (names := (fdAt w 75).scope.names) (by subst he; kernel_rfl) (by subst he; exact Nat.le_refl _) ⟨s.heap.objs.size + 1, by subst he; kernel_rfl⟩ (of_decide_eq_true (by kernel_rfl)) (by simp) hkind' x
  refine ⟨(I.B.G.lim.keeps I.k).keeps x.toInCall.keep, codeAny_func ?_⟩
  obtain ⟨h₁, tk, rfl, _⟩ := x.done
  have S' := St.rebase S I.k I.tab I.no
  refine wpAny_mono (hbd env (callerA.deeper env) h₁ _ ⟨I.B, I.C, I.bm, I.no, ⟨⟨by subst he; kernel_rfl, by subst he; kernel_rfl, by subst he; kernel_rfl⟩, fun x k e => by subst he; exact e, fun x e => by subst he; exact cells_some e _⟩, by subst he; kernel_rfl, by subst he; kernel_rfl, hok.deeper⟩ S') (fun fl s'' hq => ?_) fun _ _ e => e.elim
  obtain ⟨rfl, h', tk', rfl, hk, hg⟩ := hq
  exact ⟨rfl, hk, rfl, rfl, hg⟩
end Mine
end
section
open PySem PySem.W PySem.Calls PyProof.Rows
set_option linter.unusedVariables false
set_option maxRecDepth 100000
namespace Mine
local macro_rules | `(tactic| walk_at "mem") => `(tactic| first | with_reducible exact List.mem_cons_self | (with_reducible refine List.mem_cons_of_mem _ ?_; walk_at "mem"))
local macro_rules | `(tactic| walk_at "del") => `(tactic| first | with_reducible exact Del.nil | (with_reducible refine' Del.hit ?hr; (case hr => walk_at "del")) | (refine' Del.miss ?hne ?hr; (case hne => decide); (case hr => walk_at "del")))
def kdN (ns : List Int) : Nat := ((drawZ ns 0).fmod 4).toNat
def alS (ns : List Int) : List UInt8 := signsOf (kdN ns) (drawZ ns 1) (drawZ ns 2) (drawZ ns 3)
def limZ (b : Nat) : Int := if b > 57 then 18 else if b > 7 then 11 else 3
def lenN (ns : List Int) : Nat := ((drawZ ns 4).fmod (limZ (alS ns).length)).toNat
def plcZ (al : List UInt8) : Int → Option Int := mapOf ((upto al.length).map fun k => (((al.getD k.toNat 0).toNat : Int), k))
theorem kdN_lt (ns : List Int) : kdN ns < 4 := by
  have := fmod_hi (drawZ ns 0) (n := 4) (by decide)
  have := fmod_lo (drawZ ns 0) (n := 4) (by decide)
  unfold kdN; omega
theorem kdN_eq (ns : List Int) : (drawZ ns 0).fmod 4 = (kdN ns : Int) := by
  have := fmod_lo (drawZ ns 0) (n := 4) (by decide)
  unfold kdN; omega
theorem limZ_lo (b : Nat) : 3 ≤ limZ b ∧ limZ b ≤ 18 := by unfold limZ; split <;> (try split) <;> omega
theorem lenN_eq (ns : List Int) : (drawZ ns 4).fmod (limZ (alS ns).length) = (lenN ns : Int) := by
  have := limZ_lo (alS ns).length
  have := fmod_lo (drawZ ns 4) (n := limZ (alS ns).length) (by omega)
  unfold lenN; omega
theorem lenN_lt (ns : List Int) : (lenN ns : Int) < limZ (alS ns).length := by
  have := limZ_lo (alS ns).length
  rw [← lenN_eq]; exact fmod_hi _ (by omega)
section
variable {prog : Program} {w : World} {A : Around} {env : Env} {mg mb : Str → Option Value} {h : Heap}
theorem ev_draw (B : Bs w mg mb h) (K : GEnv env) (hx : env.kindOf "_law_draw" = some .globalImplicit) (hok : Ok A 1) {l : Addr} {vs : List Value} {ns : List Int} {k : Int} {e1 e2 : PySem.Expr} {p pos : Pos} (h1 : Ev prog w A env h e1 (IsV (.ref l))) (h2 : Ev prog w A env h e2 (IsI k))
    (hl : h.IsList l vs.toArray) (hi : IntsAre vs ns) (hn : ns.length ≤ 63) (hk : 0 ≤ k) (hk2 : k < 10000) (hq : backTo pos (starEach [e1, e2] env) = (false, eval e1 env) :: backTo pos (starEach [e2] env) := by rfl) (hq2 : backTo pos (starEach [e2] env) = (false, eval e2 env) :: backTo pos (starEach [] env) := by rfl) :
    Ev prog w A env h (.Call (.Name "_law_draw" p) [e1, e2] [] pos) (IsI (drawZ ns k)) :=
  Ev.callF (a := 58) (B.glob K (by kernel_rfl) hx) (B.X 58 _ rfl) rfl (Ag.two h1 h2 (mV _) (mI _) hq hq2) (by
    rintro us h' kk ⟨v, v', rfl, rfl, t, rfl⟩
    exact fn_draw (B.sub kk) hok (hl.at fun o e => kk _ _ e) hi hn hk hk2) (by rw [hq, hq2]; rfl)

theorem law_p1 {s : Shared} {g : Heap} {l : Addr} {vs : List Value} {ns : List Int} {E : Value → Shared → Prop} {tk : Nat} {Q : Flow → Shared → Prop} (L : Lw w mg mb g env A) (hl : g.IsList l vs.toArray) (hi : IntsAre vs ns) (hn : ns.length ≤ 63) (hal : 2 ≤ (alS ns).length) (hal2 : (alS ns).length ≤ 256)
    (S : St g env [("script", .ref l)] [(72, tabObj #[])] h)
    (k : ∀ pd od t1 t2 t3 t4 t5 h tk, (∀ h'' : Heap, h''.get? pd = some od → IsDI (plcZ (alS ns)) (.ref pd) h'') →
      St g env [("script", .ref l), ("kind", .int (kdN ns) t1), ("signs", .bytes (alS ns).toArray t2), ("given", .bytes (alS ns).toArray t3), ("base", .int (alS ns).length t4), ("places", .ref pd), ("length", .int (lenN ns) t5)] [(pd, od), (72, tabObj #[])] h →
      wpAny (model prog w) A (execs ((lawStmts w).drop 6) env) Q E { s with heap := h, toks := tk }) :
    wpAny (model prog w) A (execs (lawStmts w) env) Q E { s with heap := h, toks := tk } := by
  have K := L.K
  have hlb : ∀ {h'}, Sub g h' → h'.IsList l vs.toArray := fun k => hl.at fun o e => k _ _ e
  have ok1 : Ok A 1 := L.ok.mono (by decide)
  have hh := L.ok.handled
  have B₁ := L.B.sub S.base
  refine St.assignI S (i := (kdN ns : Int)) (by
    rw [← kdN_eq]
    exact Ev.fmod (ev_draw B₁ K.g (K.k _ _ (by kernel_rfl)) ok1 (S.ev (by walk_at "mem")) Ev.cint (hlb S.base) hi hn (by decide) (by decide)) Ev.cint (by decide)) (K.can (by kernel_rfl)) (by walk_at "del") fun t1 h₁ tk₁ S => ?_
  have B₁ := L.B.sub S.base
  refine St.assignB S (i := (alS ns).toArray) (Ev.callF (a := 63) (B₁.glob K.g (by kernel_rfl) (K.k _ _ (by kernel_rfl))) (B₁.X 63 _ rfl) rfl
    (Ag.cons (S.evI (by walk_at "mem")) (Ag.cons (ev_draw B₁ K.g (K.k _ _ (by kernel_rfl)) ok1 (S.ev (by walk_at "mem")) Ev.cint (hlb S.base) hi hn (by decide) (by decide))
      (Ag.two (ev_draw B₁ K.g (K.k _ _ (by kernel_rfl)) ok1 (S.ev (by walk_at "mem")) Ev.cint (hlb S.base) hi hn (by decide) (by decide)) (ev_draw B₁ K.g (K.k _ _ (by kernel_rfl)) ok1 (S.ev (by walk_at "mem")) Ev.cint (hlb S.base) hi hn (by decide) (by decide)) (mI _) (mI _)) (mI _)) (mI _)) ?_) (K.can (by kernel_rfl)) (by walk_at "del") fun t2 h₂ tk₂ S => ?_
  · rintro us h' kk ⟨_, _, rfl, ⟨ta, rfl⟩, _, _, rfl, ⟨tb, rfl⟩, _, _, rfl, ⟨tc, rfl⟩, ⟨td, rfl⟩⟩
    exact fn_signs (B₁.sub kk) ok1
  have B₁ := L.B.sub S.base
  refine St.assignB S (i := (alS ns).toArray) (Ev.ite (Te.eqI (S.evI (by walk_at "mem")) Ev.cint) (fun q => ?_) fun _ => S.evB (by walk_at "mem")) (K.can (by kernel_rfl)) (by walk_at "del") fun t3 h₃ tk₃ S => ?_
  · have e0 : kdN ns = 1 := by have := eq_of_beq q; omega
    have e : alS ns = ripple := by unfold alS signsOf; rw [if_neg (by omega), if_pos e0]
    rw [e]
    exact Ev.byt (t := 191) (B₁.glob K.g (by kernel_rfl) (K.k _ _ (by kernel_rfl)))
  have B₁ := L.B.sub S.base
  refine St.assignI S (i := ((alS ns).length : Int)) (Ev.len1 (B₁.len K.g (K.k _ _ (by kernel_rfl))) (S.evB (by walk_at "mem")) (mB _) fun v h' k hv => by
      obtain ⟨t, rfl⟩ := hv
      have := g_len_bytes (prog := prog) (w := w) (A := A) (h := h') (b := (alS ns).toArray) (t := t) (by simp; omega)
      simpa using this) (K.loc (by kernel_rfl)) (by walk_at "del") fun t4 h₄ tk₄ S => ?_
  have B₁ := L.B.sub S.base
  refine St.assign S (Ev.imp (Ev.dcomp (xs := upto (alS ns).length) (kf := fun k => (((alS ns).getD k.toNat 0).toNat : Int)) (g := fun k => k) (fp := [])
      (Ev.rng (n := (alS ns).length) (B₁.built (v := .type "range") K.g (by kernel_rfl) (by kernel_rfl) (by decide) (K.k _ _ (by kernel_rfl))) (S.evI (by walk_at "mem")))
      (fun v h' k x => src_rng hh x (by omega)) (fun b hb => nomatch hb) (by rw [upto_len, sizeLine_eq]; omega) (K.cs' (by kernel_rfl))
      (fun C k v h' hk d kk hv => Ev.itemB (l := alS ns) ((S.capt K (by walk_at "mem") kk rfl (by kernel_rfl) rfl).byt) (Ev.loopv rfl hv d) (by omega) (mem_upto hk).1 (mem_upto hk).2)
      (fun C k v h' hk d kk hv => Ev.loopv rfl hv d)) fun v h' x => x.nw) (K.can (by kernel_rfl)) (by walk_at "del") ?_ (swap_cell (by rw [K.k _ _ (show (fdAt w 75).scope.names.lookup ("places" : Str) = some .cell by kernel_rfl)]; decide))
  rintro v nn h₅ tk₅ ⟨pd, od, rfl, rfl, hod⟩ S
  have B₁ := L.B.sub S.base
  have lm := limZ_lo (alS ns).length
  refine St.assignI S (i := (lenN ns : Int)) (by
    rw [← lenN_eq]
    refine Ev.fmod (ev_draw B₁ K.g (K.k _ _ (by kernel_rfl)) ok1 (S.ev (by walk_at "mem")) Ev.cint (hlb S.base) hi hn (by decide) (by decide)) (Ev.ite (Te.gt (S.evI (by walk_at "mem")) Ev.cint) (fun q => ?_) fun q => Ev.ite (Te.gt (S.evI (by walk_at "mem")) Ev.cint) (fun q' => ?_) fun q' => ?_) (by omega)
    · have q : (57 : Int) < (alS ns).length := of_decide_eq_true q
      have e : limZ (alS ns).length = 18 := by unfold limZ; rw [if_pos (by omega)]
      rw [e]; exact Ev.cint
    · have q : ¬ (57 : Int) < (alS ns).length := of_decide_eq_false q
      have q' : (7 : Int) < (alS ns).length := of_decide_eq_true q'
      have e : limZ (alS ns).length = 11 := by unfold limZ; rw [if_neg (by omega), if_pos (by omega)]
      rw [e]; exact Ev.cint
    · have q : ¬ (57 : Int) < (alS ns).length := of_decide_eq_false q
      have q' : ¬ (7 : Int) < (alS ns).length := of_decide_eq_false q'
      have e : limZ (alS ns).length = 3 := by unfold limZ; rw [if_neg (by omega), if_neg (by omega)]
      rw [e]; exact Ev.cint) (K.can (by kernel_rfl)) (by walk_at "del") fun t5 h₆ tk₆ S => ?_
  exact k pd od t1 t2 t3 t4 t5 h₆ tk₆ hod (S.weakV (by
    intro p hp
    simp only [List.mem_cons, List.not_mem_nil, or_false] at hp ⊢
    rcases hp with rfl | rfl | rfl | rfl | rfl | rfl | rfl <;> simp))
end
end Mine
end
section
open PySem PySem.W PySem.Calls PyProof.Rows
set_option linter.unusedVariables false
set_option maxRecDepth 100000
namespace Mine
local macro_rules | `(tactic| walk_at "mem") => `(tactic| first | with_reducible exact List.mem_cons_self | (with_reducible refine List.mem_cons_of_mem _ ?_; walk_at "mem"))
local macro_rules | `(tactic| walk_at "del") => `(tactic| first | with_reducible exact Del.nil | (with_reducible refine' Del.hit ?hr; (case hr => walk_at "del")) | (refine' Del.miss ?hne ?hr; (case hne => decide); (case hr => walk_at "del")))
def rowD (ns : List Int) (j : Nat) : List Int := (upto (lenN ns)).map fun k => (drawZ ns (8 + (j : Int) * lenN ns + k)).fmod 256
def rowsUpTo (ns : List Int) (i : Nat) : List (List Int) := [List.replicate (lenN ns) 0, List.replicate (lenN ns) 255] ++ (List.range i).map (rowD ns)
/-- a list of ints of the ledger's -/
def Rin (L : List (Addr × Obj)) (z : List Int) (v : Value) : Prop := ∃ a vs n, v = .ref a ∧ (a, lstO vs n) ∈ L ∧ IntsAre vs z
theorem Rin.sub {L L' : List (Addr × Obj)} {z : List Int} {v : Value} (k : ∀ p ∈ L, p ∈ L') (x : Rin L z v) : Rin L' z v := let ⟨a, vs, n, e, m, i⟩ := x; ⟨a, vs, n, e, k _ m, i⟩
theorem All2.imp {α β : Type} {D D' : α → β → Prop} (k : ∀ a b, D a b → D' a b) : ∀ {xs : List α} {vs : List β}, All2 D xs vs → All2 D' xs vs
  | _, _, .nil => .nil
  | _, _, .cons d t => .cons (k _ _ d) (t.imp k)
theorem All2.snoc {α β : Type} {D : α → β → Prop} {a : α} {b : β} (d : D a b) : ∀ {xs : List α} {vs : List β}, All2 D xs vs → All2 D (xs ++ [a]) (vs ++ [b])
  | _, _, .nil => .cons d .nil
  | _, _, .cons d' t => .cons d' (t.snoc d)
theorem All2.len {α β : Type} {D : α → β → Prop} : ∀ {xs : List α} {vs : List β}, All2 D xs vs → vs.length = xs.length
  | _, _, .nil => rfl
  | _, _, .cons _ t => by rw [List.length_cons, List.length_cons, t.len]
theorem All2.get {α β : Type} {D : α → β → Prop} : ∀ {xs : List α} {vs : List β}, All2 D xs vs → ∀ (i : Nat) (a : α), xs[i]? = some a → ∃ b, vs[i]? = some b ∧ D a b
  | _, _, .cons d _, 0, a, e => by simp at e; subst e; exact ⟨_, rfl, d⟩
  | _, _, .cons _ t, i + 1, a, e => by simpa using t.get i a (by simpa using e)
theorem All2.get' {α β : Type} {D : α → β → Prop} : ∀ {xs : List α} {vs : List β}, All2 D xs vs → ∀ (i : Nat) (b : β), vs[i]? = some b → ∃ a, xs[i]? = some a ∧ D a b
  | _, _, .cons d _, 0, a, e => by simp at e; subst e; exact ⟨_, rfl, d⟩
  | _, _, .cons _ t, i + 1, a, e => by simpa using t.get' i a (by simpa using e)
section
variable {prog : Program} {w : World} {A : Around} {env : Env} {mg mb : Str → Option Value} {h : Heap}
theorem lenN_le (ns : List Int) : lenN ns ≤ 17 := by have := lenN_lt ns; have := limZ_lo (alS ns).length; omega
theorem law_p2 {s : Shared} {g : Heap} {l : Addr} {vs : List Value} {ns : List Int} {E : Value → Shared → Prop} {tk : Nat} {Q : Flow → Shared → Prop} (L : Lw w mg mb g env A) (hl : g.IsList l vs.toArray) (hi : IntsAre vs ns) (hn : ns.length ≤ 63)
    {pd : Addr} {od : Obj} {t1 t2 t3 t4 t5 : Tok}
    (S : St g env [("script", .ref l), ("kind", .int (kdN ns) t1), ("signs", .bytes (alS ns).toArray t2), ("given", .bytes (alS ns).toArray t3), ("base", .int (alS ns).length t4), ("places", .ref pd), ("length", .int (lenN ns) t5)] [(pd, od), (72, tabObj #[])] h)
    (k : ∀ rw rs n M h tk, All2 (Rin M) (rowsUpTo ns 4) rs → (pd, od) ∈ M → (72, tabObj #[]) ∈ M →
      St g env [("rows", .ref rw), ("script", .ref l), ("kind", .int (kdN ns) t1), ("signs", .bytes (alS ns).toArray t2), ("given", .bytes (alS ns).toArray t3), ("base", .int (alS ns).length t4), ("places", .ref pd), ("length", .int (lenN ns) t5)] ((rw, lstO rs n) :: M) h →
      wpAny (model prog w) A (execs ((lawStmts w).drop 8) env) Q E { s with heap := h, toks := tk }) :
    wpAny (model prog w) A (execs ((lawStmts w).drop 6) env) Q E { s with heap := h, toks := tk } := by
  have K := L.K
  have hlb : ∀ {h'}, Sub g h' → h'.IsList l vs.toArray := fun k => hl.at fun o e => k _ _ e
  have ok1 : Ok A 1 := L.ok.mono (by decide)
  have hh := L.ok.handled
  have ln := lenN_le ns
  have B₁ := L.B.sub S.base
  refine St.assign S (Ev.disp2 (P1 := fun v l => ∃ a vs n, v = .ref a ∧ l = [(a, lstO vs n)] ∧ IntsAre vs (List.replicate (lenN ns) 0)) (P2 := fun v l => ∃ a vs n, v = .ref a ∧ l = [(a, lstO vs n)] ∧ IntsAre vs (List.replicate (lenN ns) 255)) (fun h' kk => ?_) (fun h' kk => ?_)) (K.loc (by kernel_rfl)) (by walk_at "del") ?_
  · refine Ev.imp (Ev.mulI (ns := [0]) (n := (lenN ns : Int)) ((Ev.oneLI Ev.cint).imp fun v h' x => x.li) ((S.grow kk).evI (by walk_at "mem")) (by omega) (by simp; omega) (by omega)) fun v h' x => ?_
    rw [Int.toNat_natCast, List.flatten_replicate_singleton] at x
    exact x.nw
  · refine Ev.imp (Ev.mulI (ns := [255]) (n := (lenN ns : Int)) ((Ev.oneLI Ev.cint).imp fun v h' x => x.li) ((S.grow kk).evI (by walk_at "mem")) (by omega) (by simp; omega) (by omega)) fun v h' x => ?_
    rw [Int.toNat_natCast, List.flatten_replicate_singleton] at x
    exact x.nw
  rintro v nn h₁ tk₁ ⟨v1, v2, n1, n2, rw', ⟨a1, vs1, m1, rfl, rfl, i1⟩, ⟨a2, vs2, m2, rfl, rfl, i2⟩, rfl, rfl⟩ S
  have B₁ := L.B.sub S.base
  refine St.for_ (F := IsRng 4) (fp := []) (n := (upto 4).length) (P := fun i v => ∃ a, (upto 4)[i]? = some a ∧ DI a v)
    (fun i vars news => ∃ (rs : List Value) (n : Nat) (M : List (Addr × Obj)), All2 (Rin M) (rowsUpTo ns i) rs ∧ (pd, od) ∈ M ∧ (72, tabObj #[]) ∈ M ∧
      vars = ([("rows", .ref rw'), ("script", .ref l), ("kind", .int (kdN ns) t1), ("signs", .bytes (alS ns).toArray t2), ("given", .bytes (alS ns).toArray t3), ("base", .int (alS ns).length t4), ("places", .ref pd), ("length", .int (lenN ns) t5)] : List (Str × Value)) ∧ news = (rw', lstO rs n) :: M)
    S (Ev.rng (n := 4) (B₁.built (v := .type "range") K.g (by kernel_rfl) (by kernel_rfl) (by decide) (K.k _ _ (by kernel_rfl))) Ev.cint)
    (fun v h' k x => src_rng hh x (by omega)) (fun b hb => nomatch hb)
    ⟨[.ref a1, .ref a2], 0, [(a2, lstO vs2 m2), (a1, lstO vs1 m1), (pd, od), (72, tabObj #[])], .cons ⟨a1, vs1, m1, rfl, by simp, i1⟩ (.cons ⟨a2, vs2, m2, rfl, by simp, i2⟩ .nil), by simp, by simp, rfl, rfl⟩ ?_ ?_
  · rintro i v vars news h₃ tk₃ I oI E' hin ⟨a, ha, t, rfl⟩ ⟨rs, n, M, hR, hM1, hM2, rfl, rfl⟩ S
    rw [upto_len] at hin
    rw [upto_get hin] at ha
    cases ha
    refine St.assignTo S (K.can (by kernel_rfl)) (by walk_at "del") fun h₄ tk₄ S => ?_
    have B₁ := L.B.sub S.base
    have hrl := hR.len
    refine appendTo (pre := [(I, oI)]) (post := M) (P := fun v l => ∃ a vs n, v = .ref a ∧ l = [(a, lstO vs n)] ∧ IntsAre vs (rowD ns i)) S (by walk_at "mem")
      (Ev.imp (Ev.comp (D := DI) (xs := upto (lenN ns)) (p := fun _ => true) (g := fun k => (drawZ ns (8 + (i : Int) * lenN ns + k)).fmod 256) (fp := []) (fun _ _ _ x y => x.inj y)
        (Ev.rng (n := lenN ns) (B₁.built (v := .type "range") K.g (by kernel_rfl) (by kernel_rfl) (by decide) (K.k _ _ (by kernel_rfl))) (S.evI (by walk_at "mem")))
        (fun v h' k x => src_rng hh x (by omega)) (fun b hb => nomatch hb) (by rw [upto_len, sizeLine_eq]; omega) (K.cs' (by kernel_rfl))
        (fun C a v h' _ _ _ _ => tests_nil) (fun C k v h' hk _ d kk hv => by
          have hk0 := mem_upto hk
          have hmul : (i : Int) * lenN ns ≤ 3 * 17 := Int.mul_le_mul (by omega) (by omega) (by omega) (by omega)
          have hmul0 : 0 ≤ (i : Int) * lenN ns := Int.mul_nonneg (by omega) (by omega)
          exact Ev.fmod (ev_draw (B₁.sub kk) (cenv_g K.g rfl) (cenv_kind (by rfl) (by decide)) ok1 (S.capt K (by walk_at "mem") kk rfl (by kernel_rfl) rfl)
            (Ev.add (Ev.add Ev.cint (Ev.mul (S.capt K (by walk_at "mem") kk rfl (by kernel_rfl) rfl).int (S.capt K (by walk_at "mem") kk rfl (by kernel_rfl) rfl).int (mulOkR (by omega)))) (Ev.loopv rfl hv d)) (hlb (S.base.trans kk)) hi hn (by omega) (by omega)) Ev.cint (by decide))) fun v h' x => ?_) ?_ ?_
    · have hf : ((upto (lenN ns)).filter fun _ => true) = upto (lenN ns) := by simp
      rw [hf] at x
      exact x.nw
    · have e : (rowsUpTo ns i).length = 2 + i := by simp [rowsUpTo]; omega
      rw [hrl, e, sizeLine_eq]; omega
    · rintro v nn n' h₇ tk₇ ⟨a, us, m, rfl, rfl, hus⟩ S
      refine X.nil ⟨_, (rw', lstO (rs ++ [.ref a]) n') :: (a, lstO us m) :: M, h₇, tk₇, ⟨rs ++ [.ref a], n', (a, lstO us m) :: M, ?_, List.mem_cons_of_mem _ hM1, List.mem_cons_of_mem _ hM2, rfl, rfl⟩, (S.weakV ?_).perm ?_, rfl⟩
      · have e : rowsUpTo ns (i + 1) = rowsUpTo ns i ++ [rowD ns i] := by simp [rowsUpTo, List.range_succ]
        rw [e]
        exact (hR.imp fun a b => Rin.sub fun p hp => List.mem_cons_of_mem _ hp).snoc ⟨a, us, m, rfl, List.mem_cons_self, hus⟩
      · exact fun p hp => List.mem_cons_of_mem _ hp
      · show List.Perm ((a, lstO us m) :: (I, oI) :: (rw', _) :: M) ((I, oI) :: (rw', _) :: (a, lstO us m) :: M)
        exact (List.Perm.swap _ _ _).trans (List.Perm.cons _ (List.Perm.swap _ _ _))
  · rintro vars news h₃ tk₃ ⟨rs, n, M, hR, hM1, hM2, rfl, rfl⟩ S
    rw [upto_len] at hR
    exact k rw' rs n M h₃ tk₃ hR hM1 hM2 S
end
end Mine
end
section
set_option linter.unusedVariables false
namespace Mine
theorem digs_le_iff {b : Nat} (hb : 2 ≤ b) : ∀ (w n : Nat), (digs b n).length ≤ w ↔ n < b ^ w
  | 0, n => by
    by_cases h : n = 0
    · subst h; rw [digs_zero]; simp
    · rw [digs_pos hb h, List.length_append, List.length_singleton, Nat.pow_zero]; omega
  | w + 1, n => by
    by_cases h : n = 0
    · subst h; rw [digs_zero]
      have : 0 < b ^ (w + 1) := Nat.pow_pos (by omega)
      simp; omega
    · rw [digs_pos hb h, List.length_append, List.length_singleton, Nat.pow_succ, ← Nat.div_lt_iff_lt_mul (by omega), ← digs_le_iff hb w (n / b)]
      omega
/-- the number of base-b digits that hold n bytes -/
def widN (b n : Nat) : Nat := (digs b (256 ^ n - 1)).length
theorem widN_iff {b : Nat} (hb : 2 ≤ b) (n w : Nat) : b ^ w < 256 ^ n ↔ w < widN b n := by
  have h := digs_le_iff hb w (256 ^ n - 1)
  have p : 0 < 256 ^ n := Nat.pow_pos (by decide)
  unfold widN
  omega
theorem widN_le {b : Nat} (hb : 2 ≤ b) (n : Nat) : widN b n ≤ 8 * n := by
  unfold widN
  rw [digs_le_iff hb]
  have h1 : 256 ^ n = 2 ^ (8 * n) := by rw [Nat.pow_mul]
  have h2 : 2 ^ (8 * n) ≤ b ^ (8 * n) := Nat.pow_le_pow_left hb _
  have p : 0 < 256 ^ n := Nat.pow_pos (by decide)
  omega
end Mine
end
section
open PySem PySem.W PySem.Calls PyProof.Rows
set_option linter.unusedVariables false
set_option maxRecDepth 100000
namespace Mine
local macro_rules | `(tactic| walk_at "mem") => `(tactic| first | with_reducible exact List.mem_cons_self | (with_reducible refine List.mem_cons_of_mem _ ?_; walk_at "mem"))
local macro_rules | `(tactic| walk_at "del") => `(tactic| first | with_reducible exact Del.nil | (with_reducible refine' Del.hit ?hr; (case hr => walk_at "del")) | (refine' Del.miss ?hne ?hr; (case hne => decide); (case hr => walk_at "del")))
section
variable {prog : Program} {w : World} {A : Around} {env : Env} {mg mb : Str → Option Value} {h : Heap}
theorem law_p3 {s : Shared} {g : Heap} {E : Value → Shared → Prop} {tk : Nat} {Q : Flow → Shared → Prop} (L : Lw w mg mb g env A) {V : List (Str × Value)} {N : List (Addr × Obj)} {b n : Nat} {t4 t5 : Tok} (hb : 2 ≤ b) (hb2 : b ≤ 256) (hn : n ≤ 17) (hm1 : (("base" : Str), Value.int b t4) ∈ V) (hm2 : (("length" : Str), Value.int n t5) ∈ V)
    (hd1 : ∀ p ∈ V, p.1 ≠ "width" ∧ p.1 ≠ "filled") 
    (S : St g env V N h)
    (k : ∀ fi t h tk, St g env (("filled", .ref fi) :: ("width", .int (widN b n) t) :: V) ((fi, lstO [] 0) :: N) h →
      wpAny (model prog w) A (execs ((lawStmts w).drop 11) env) Q E { s with heap := h, toks := tk }) :
    wpAny (model prog w) A (execs ((lawStmts w).drop 8) env) Q E { s with heap := h, toks := tk } := by
  have K := L.K
  have dl : ∀ (x : Str) (V : List (Str × Value)), (∀ p ∈ V, p.1 ≠ x) → Del x V V := by
    intro x V
    induction V with
    | nil => intro _; exact .nil
    | cons p r ih => intro hp; obtain ⟨y, v⟩ := p; exact .miss (hp _ List.mem_cons_self) (ih fun q hq => hp q (List.mem_cons_of_mem _ hq))
  refine St.assignI S (i := 0) Ev.cint (K.loc (by kernel_rfl)) (dl _ _ fun p hp => (hd1 p hp).1) fun t₁ h₁ tk₁ S => ?_
  refine St.while_ (n := widN b n) (fun m vars news => ∃ (x : Nat) (t : Tok), m = widN b n - x ∧ x ≤ widN b n ∧ vars = (("width" : Str), Value.int (x : Int) t) :: V ∧ news = N)
    (fun vars news => ∃ (t : Tok), vars = (("width" : Str), Value.int (widN b n : Int) t) :: V ∧ news = N) S ⟨0, t₁, rfl, Nat.zero_le _, rfl, rfl⟩ ?_ ?_
  · rintro m vars news h₂ ⟨x, t, rfl, hx, rfl, rfl⟩ S
    have hw := widN_le hb n
    have hiff := widN_iff hb n x
    have e1 : ((b : Int) ^ x < 256 ^ n) ↔ b ^ x < 256 ^ n := by
      have : ((256 : Int) ^ n) = ((256 ^ n : Nat) : Int) := by rw [Int.natCast_pow]; rfl
      rw [this, ← Int.natCast_pow]; omega
    refine ⟨_, Te.lt (Ev.pow (S.evI (List.mem_cons_of_mem _ hm1)) (S.evI (by walk_at "mem")) (by omega) (by omega) (by omega)) (Ev.pow Ev.cint (S.evI (List.mem_cons_of_mem _ hm2)) (by omega) (by omega) (by decide)), fun q => ?_, fun q h₃ tk₃ E' S => ?_⟩
    · have q := of_decide_eq_false q
      rw [Int.toNat_natCast, Int.toNat_natCast, e1, hiff] at q
      have : x = widN b n := by omega
      subst this
      exact ⟨t, rfl, rfl⟩
    · have q := of_decide_eq_true q
      rw [Int.toNat_natCast, Int.toNat_natCast, e1, hiff] at q
      refine St.assignI S (i := ((x + 1 : Nat) : Int)) (by
        have e : ((x + 1 : Nat) : Int) = (x : Int) + 1 := by omega
        rw [e]; exact Ev.add (S.evI (by walk_at "mem")) Ev.cint) (K.loc (by kernel_rfl)) (.hit (dl _ _ fun p hp => (hd1 p hp).1)) fun t₄ h₄ tk₄ S => ?_
      exact X.nil ⟨rfl, widN b n - (x + 1), _, _, h₄, tk₄, by omega, ⟨x + 1, t₄, rfl, q, rfl, rfl⟩, S, rfl⟩
  · rintro vars news h₂ tk₂ ⟨t, rfl, rfl⟩ S
    refine St.assign S (P := fun v l => ∃ a, v = .ref a ∧ l = [(a, lstO [] 0)]) (Ev.nil.imp fun v h' ⟨a, e, e0, y⟩ => ⟨[(a, lstO [] 0)], ⟨a, e, rfl⟩, fun p hp => by rw [List.mem_singleton.mp hp]; exact ⟨e0, y⟩, by simp⟩) (K.loc (by kernel_rfl)) (.miss (by decide) (dl _ _ fun p hp => (hd1 p hp).2)) ?_
    rintro v nn h₃ tk₃ ⟨fi, rfl, rfl⟩ S
    exact k fi t h₃ tk₃ S
end
end Mine
end
section
open PySem PySem.W PySem.Calls PyProof.Rows
set_option linter.unusedVariables false
namespace Mine
/-! a row's plain facts -/
def numZ (z : List Int) : Int := z.foldl (fun a c => a * 256 + c) 0
def fz (z : List Int) : Nat := (z.takeWhile (· == 0)).length
def txt (al : List UInt8) (z : List Int) : List UInt8 := b58 al (bytesOf z)
def rnk (al : List UInt8) (t : List UInt8) : List Int := (codes t).map fun c => (plcZ al c).getD 0
def fil (al : List UInt8) (n : Nat) (z : List Int) : List Int := List.replicate (widN al.length n - (txt al z).length) 0 ++ rnk al (txt al z)
/-- what the law needs of a row -/
structure RowOk (al : List UInt8) (n : Nat) (z : List Int) : Prop where
  len : z.length = n
  byte : ∀ x ∈ z, 0 ≤ x ∧ x < 256
  lo : n ≤ (txt al z).length
  hi : (txt al z).length ≤ widN al.length n
  inn : ∀ c ∈ codes (txt al z), (plcZ al c).isSome = true
  num : ∃ m : Nat, numZ z = (m : Int) ∧ m < 2 ^ 160 ∧ txt al z = List.replicate (fz z) (al.getD 0 0) ++ enc al m
  zero : z = List.replicate n 0 → txt al z = List.replicate n (al.getD 0 0)
  full : z = List.replicate n 255 → (txt al z).length = widN al.length n
theorem fz_le (z : List Int) : fz z ≤ z.length := (List.takeWhile_prefix _).length_le
theorem fz_step : ∀ (z : List Int) (x : Nat) (a : Int), x ≤ fz z → z[x]? = some a → ((a == 0) = true ↔ x < fz z)
  | [], x, a, _, h => by simp at h
  | c :: r, x, a, hx, h => by
    unfold fz at *
    rw [List.takeWhile_cons] at *
    by_cases hc : (c == 0) = true
    · rw [if_pos hc] at *
      cases x with
      | zero => simp at h; subst h; simp [hc]
      | succ x =>
        have ih := fz_step r x a (by unfold fz; simpa using hx) (by simpa using h)
        unfold fz at ih
        rw [ih]; simp
    · rw [if_neg hc] at *
      have : x = 0 := by simpa using hx
      subst this
      simp at h; subst h; simp; simpa using hc
theorem numZ_snoc (z : List Int) (a : Int) : numZ (z ++ [a]) = numZ z * 256 + a := by simp [numZ, List.foldl_append]
/-- the law's names -/
structure VO (V : List (Str × Value)) (l pd rw : Addr) (kd b n : Nat) (al : List UInt8) (tk ts tg tb tn : Tok) : Prop where
  script : ((("script" : Str), Value.ref l) : Str × Value) ∈ V
  kind : ((("kind" : Str), Value.int kd tk) : Str × Value) ∈ V
  signs : ((("signs" : Str), Value.bytes al.toArray ts) : Str × Value) ∈ V
  given : ((("given" : Str), Value.bytes al.toArray tg) : Str × Value) ∈ V
  base : ((("base" : Str), Value.int b tb) : Str × Value) ∈ V
  places : ((("places" : Str), Value.ref pd) : Str × Value) ∈ V
  length : ((("length" : Str), Value.int n tn) : Str × Value) ∈ V
  rows : ((("rows" : Str), Value.ref rw) : Str × Value) ∈ V
  names : ∀ p ∈ V, p.1 ∈ (["script", "kind", "signs", "given", "base", "places", "length", "rows"] : List Str)
theorem VO.del {V : List (Str × Value)} {l pd rw : Addr} {kd b n : Nat} {al : List UInt8} {tk ts tg tb tn : Tok} (v : VO V l pd rw kd b n al tk ts tg tb tn) {x : Str} (hx : (["script", "kind", "signs", "given", "base", "places", "length", "rows"] : List Str).contains x = false) : Del x V V := by
  have h : ∀ p ∈ V, p.1 ≠ x := fun p hp q => by
    have := v.names p hp
    rw [q] at this
    rw [List.contains_iff_mem.mpr this] at hx
    cases hx
  clear v
  induction V with
  | nil => exact .nil
  | cons p r ih => obtain ⟨y, v⟩ := p; exact .miss (h _ List.mem_cons_self) (ih fun q hq => h q (List.mem_cons_of_mem _ hq))
end Mine
end
section
open PySem PySem.W PySem.Calls PyProof.Rows
set_option linter.unusedVariables false
set_option maxRecDepth 100000
namespace Mine
noncomputable def rowBody (w : World) : List Stmt := match (lawStmts w)[11]? with
  | some (Stmt.For _ _ b _ _) => b
  | _ => []
/-- the names at a row's turn -/
abbrev RV (v : Value) (T : List UInt8) (tx : Tok) (fi : Addr) (W : Nat) (tw : Tok) (V : List (Str × Value)) : List (Str × Value) := ("text", .bytes T.toArray tx) :: ("row", v) :: ("filled", .ref fi) :: ("width", .int (W : Int) tw) :: V
section
variable {prog : Program} {w : World} {A : Around} {env : Env} {mg mb : Str → Option Value} {hb h : Heap} {vars : List (Str × Value)} {news : List (Addr × Obj)}
theorem St.rin (S : St hb env vars news h) {M : List (Addr × Obj)} {z : List Int} {v : Value} {e : PySem.Expr} (hM : ∀ p ∈ M, p ∈ news) (x : Rin M z v) (he : Ev prog w A env h e (IsV v)) : Ev prog w A env h e (IsLI z) := by
  obtain ⟨a, vs, n, rfl, m, i⟩ := x
  have D := (S.fn _ (hM _ m)).1
  exact he.imp' fun v h' k e => by cases e; exact ⟨vs, ⟨a, rfl, lstO.at (k _ _ D)⟩, i⟩
theorem bind37 (B : Bs w mg mb h) {s : Shared} (hs : Sub h s.heap) {args : PySem.Args} {binds : List (Str × Value)} {k : Option (Array Value) → Sem (List (Str × Value))} (h₁ : bindArgs (fdAt w 37) args = seqItems? (fdAt w 37).defaults >>= k)
    (h₂ : k (some #[.bytes bitcoin.toArray 189]) = pure binds) : BindsTo s (fdAt w 37) args binds :=
  BindsTo.of_defaults (T := 30) rfl (hs _ _ (B.X 30 _ rfl)) rfl h₁ h₂
theorem ev_lenB (B : Bs w mg mb h) (K : GEnv env) (hx : env.kindOf "len" = some .globalImplicit) {e : PySem.Expr} {p pos : Pos} {T : List UInt8} (he : Ev prog w A env h e (IsB T.toArray)) (hT : T.length ≤ 1000) (hq : backTo pos (starEach [e] env) = (false, eval e env) :: backTo pos (starEach [] env) := by rfl) :
    Ev prog w A env h (.Call (.Name "len" p) [e] [] pos) (IsI (T.length : Int)) :=
  Ev.len1 (B.len K hx) he (mB _) (fun v h' k hv => by
    obtain ⟨t, rfl⟩ := hv
    have := g_len_bytes (prog := prog) (w := w) (A := A) (h := h') (b := T.toArray) (t := t) (by simp; omega)
    simpa using this) hq
theorem ev_lenL (B : Bs w mg mb h) (K : GEnv env) (hx : env.kindOf "len" = some .globalImplicit) {e : PySem.Expr} {p pos : Pos} {ns : List Int} (he : Ev prog w A env h e (IsLI ns)) (hT : ns.length ≤ 100000) (hq : backTo pos (starEach [e] env) = (false, eval e env) :: backTo pos (starEach [] env) := by rfl) :
    Ev prog w A env h (.Call (.Name "len" p) [e] [] pos) (IsI (ns.length : Int)) :=
  Ev.len1 (B.len K hx) he (mLI _) (fun v h' k hv => by
    obtain ⟨vs, ⟨a, rfl, hl⟩, hi⟩ := hv
    rw [← hi.length]
    exact g_len_list hl (by have := hi.length; omega)) hq
theorem ev_isB (B : Bs w mg mb h) (K : GEnv env) (hx : env.kindOf "isinstance" = some .globalImplicit) (hy : env.kindOf "bytes" = some .globalImplicit) {e : PySem.Expr} {p q pos : Pos} {T : Array UInt8} (he : Ev prog w A env h e (IsB T))
    (hq : backTo pos (starEach [e, .Name "bytes" q] env) = (false, eval e env) :: (false, eval (.Name "bytes" q) env) :: [] := by rfl) (hq2 : backTo pos (starEach [.Name "bytes" q] env) = (false, eval (.Name "bytes" q) env) :: backTo pos (starEach [] env) := by rfl) : Ev prog w A env h (.Call (.Name "isinstance" p) [e, .Name "bytes" q] [] pos) (IsV (.bool true)) :=
  Ev.callM (f := .builtin "isinstance") (B.built K (by kernel_rfl) (by kernel_rfl) (by decide) hx) (Ag.two he (B.built (v := .type "bytes") K (by kernel_rfl) (by kernel_rfl) (by decide) hy) (mB _) (mV _) hq hq2) (by
    rintro vs h' k ⟨v, v', rfl, ⟨t, rfl⟩, rfl⟩
    exact g_isi_bytes) rfl (by rw [hq]; rfl)
theorem At.andT' {x : PySem.Expr} {b : Bool} (hx : Te prog w A env h x b) : Gr prog w A h (allTrue .And [x] env) (fun v _ => v = b) := by
  cases b
  · exact At.andF hx
  · exact At.andT hx At.nil
theorem Ev.itemLI {value slice : PySem.Expr} {pos : Pos} {ns : List Int} {k a : Int} (hv : Ev prog w A env h value (IsLI ns)) (hi : Ev prog w A env h slice (IsI k)) (h0 : 0 ≤ k) (h1 : k < 2 ^ 63) (hx : ns[k.toNat]? = some a)
    (hs : ∀ o i, ∃ ops, subscripted slice false o i = operate ops (getItem o i) := by intro o i; exact ⟨_, by with_unfolding_all rfl⟩) : Ev prog w A env h (.Subscript value slice pos) (IsI a) :=
  Ev.subs hv hi (mLI ns) (fun o i s hsub ⟨vs, ⟨b, e, hl⟩, j⟩ ⟨t, ei⟩ => by
    subst e ei
    obtain ⟨u, hu⟩ := j.get k.toNat a hx
    exact ⟨"list", _, hl.typeIs, slot_list_getitem.lookup, fun s' E' hs' => wpAny_getItem_list (hl.at fun o e => hs' b o e) h0 h1 (by simpa using hu) ⟨⟨u, rfl⟩, Kp.refl s'⟩⟩) hs
theorem Ev.itemLIN {value slice : PySem.Expr} {pos : Pos} {ns : List Int} {k a : Int} (hv : Ev prog w A env h value (IsLI ns)) (hi : Ev prog w A env h slice (IsI k)) (h0 : k < 0) (h1 : -(ns.length : Int) ≤ k) (hz : -(2 ^ 63) ≤ k) (hx : ns[(k + ns.length).toNat]? = some a)
    (hs : ∀ o i, ∃ ops, subscripted slice false o i = operate ops (getItem o i) := by intro o i; exact ⟨_, by with_unfolding_all rfl⟩) : Ev prog w A env h (.Subscript value slice pos) (IsI a) :=
  Ev.subs hv hi (mLI ns) (fun o i s hsub ⟨vs, ⟨b, e, hl⟩, j⟩ ⟨t, ei⟩ => by
    subst e ei
    have hlen := j.length
    obtain ⟨u, hu⟩ := j.get _ a hx
    exact ⟨"list", _, hl.typeIs, slot_list_getitem.lookup, fun s' E' hs' => wpAny_getItem_list_neg (hl.at fun o e => hs' b o e) h0 (by simp only [List.size_toArray]; rw [hlen]; exact h1) hz (by simp only [List.size_toArray]; rw [hlen]; simpa using hu) ⟨⟨u, rfl⟩, Kp.refl s'⟩⟩) hs
theorem St.plc (S : St hb env vars news h) {env' : Env} {al : List UInt8} {pd : Addr} {od : Obj} {e : PySem.Expr} {h' : Heap} (hpd : ∀ h'' : Heap, h''.get? pd = some od → IsDI (plcZ al) (.ref pd) h'') (hm : (pd, od) ∈ news) (k : Sub h h') (he : Ev prog w A env' h' e (IsV (.ref pd))) : Ev prog w A env' h' e (IsDI (plcZ al)) :=
  he.imp' fun v h'' kk e => by cases e; exact hpd h'' (kk _ _ (k _ _ (S.fn _ hm).1))
end
end Mine
end
section
open PySem PySem.W PySem.Calls PyProof.Rows
set_option linter.unusedVariables false
set_option maxRecDepth 100000
namespace Mine
local macro_rules | `(tactic| walk_at "mem") => `(tactic| first | with_reducible exact List.mem_cons_self | with_reducible assumption | (with_reducible refine List.mem_cons_of_mem _ ?_; walk_at "mem"))
local macro_rules | `(tactic| walk_at "del") => `(tactic| first | with_reducible exact Del.nil | (with_reducible refine VO.del (by assumption) ?_; decide) | (with_reducible refine' Del.hit ?hr; (case hr => walk_at "del")) | (refine' Del.miss ?hne ?hr; (case hne => decide); (case hr => walk_at "del")))
section
variable {prog : Program} {w : World} {A : Around} {env : Env} {mg mb : Str → Option Value} {h : Heap}
set_option maxHeartbeats 4000000 in
theorem row_r1 {s : Shared} {g : Heap} {E : Value → Shared → Prop} {Q : Flow → Shared → Prop} {tk : Nat} (L : Lw w mg mb g env A) {V : List (Str × Value)} {l pd rw' fi : Addr} {kd b n : Nat} {al : List UInt8} {tt ts tg tb tn tw tx : Tok} {od : Obj} {N : List (Addr × Obj)} {z : List Int} {v : Value}
    (vo : VO V l pd rw' kd b n al tt ts tg tb tn) (hbl : b = al.length) (hb : 2 ≤ b) (hb2 : b ≤ 256) (hn : n ≤ 17)
    (hpd : ∀ h'' : Heap, h''.get? pd = some od → IsDI (plcZ al) (.ref pd) h'') (hM1 : (pd, od) ∈ N) (ro : RowOk al n z)
    (S : St g env (RV v (txt al z) tx fi (widN b n) tw V) N h)
    (k : ∀ ra us m h tk, IntsAre us (rnk al (txt al z)) → St g env (("ranks", .ref ra) :: RV v (txt al z) tx fi (widN b n) tw V) ((ra, lstO us m) :: N) h →
      wpAny (model prog w) A (execs ((rowBody w).drop 4) env) Q E { s with heap := h, toks := tk }) :
    wpAny (model prog w) A (execs ((rowBody w).drop 1) env) Q E { s with heap := h, toks := tk } := by
  have K := L.K
  have hh := L.ok.handled
  have mlength := vo.length
  have mplaces := vo.places
  have hw := widN_le hb n
  have hTl : (txt al z).length ≤ 136 := by have := ro.hi; rw [← hbl] at this; omega
  have B₁ := L.B.sub S.base
  refine St.ifs (b := false) (Te.or (At.orF (Te.cast (Te.not (Te.bool (ev_isB B₁ K.g (K.k _ _ (by kernel_rfl)) (K.k _ _ (by kernel_rfl)) (S.evB (by walk_at "mem"))))) rfl)
    (At.orF (Te.cast (Te.lt (ev_lenB B₁ K.g (K.k _ _ (by kernel_rfl)) (S.evB (by walk_at "mem")) (by omega)) (S.evI (by walk_at "mem"))) (decide_eq_false (by have := ro.lo; omega)))
      (At.orF (Te.cast (Te.gt (ev_lenB B₁ K.g (K.k _ _ (by kernel_rfl)) (S.evB (by walk_at "mem")) (by omega)) (S.evI (by walk_at "mem"))) (decide_eq_false (by have := ro.hi; rw [← hbl] at this; omega))) At.nil)))) (fun e => nomatch e) fun _ h' tk' k' => ?_
  have S := S.grow k'
  refine X.nil ?_
  refine St.assignComp (D := DI) (xs := codes (txt al z)) (p := fun c => (plcZ al c).isSome) (g := fun c => (plcZ al c).getD 0) (F := IsB (txt al z).toArray) (fp := []) S (fun _ _ _ x y => x.inj y)
    (S.evB (by walk_at "mem")) (fun v h' kk ⟨t, e⟩ => by subst e; exact src_bytes hh) (fun b hb => nomatch hb) (by rw [codes, List.length_map, sizeLine_eq]; omega) (K.cs' (by kernel_rfl))
    (fun C a v h' hk d kk hv => tests_one (Te.inD (Ev.loopv rfl hv d) (S.plc hpd hM1 kk (S.capt K (by walk_at "mem") kk rfl (by kernel_rfl) rfl))))
    (fun C a v h' hk hp d kk hv => by
      obtain ⟨m, hm⟩ := Option.isSome_iff_exists.mp hp
      rw [hm, Option.getD_some]
      exact Ev.itemD (S.plc hpd hM1 kk (S.capt K (by walk_at "mem") kk rfl (by kernel_rfl) rfl)) (Ev.loopv rfl hv d) hm)
    (K.k _ _ (by kernel_rfl)) (by walk_at "del") fun ra us m h₁ tk₁ are S => ?_
  have hf : ((codes (txt al z)).filter fun c => (plcZ al c).isSome) = codes (txt al z) := List.filter_eq_self.mpr ro.inn
  rw [hf] at are
  have B₁ := L.B.sub S.base
  have hlen : (rnk al (txt al z)).length = (txt al z).length := by simp [rnk, codes]
  refine St.ifs (b := false) (Te.cast (Te.lt (ev_lenL (ns := rnk al (txt al z)) B₁ K.g (K.k _ _ (by kernel_rfl)) ((S.ev (by walk_at "mem")).imp' fun v h' kk e => by cases e; exact ⟨us, ⟨ra, rfl, lstO.at (kk _ _ (S.fn (ra, lstO us m) (by simp)).1)⟩, are⟩) (by omega)) (ev_lenB B₁ K.g (K.k _ _ (by kernel_rfl)) (S.evB (by walk_at "mem")) (by omega))) (decide_eq_false (by omega))) (fun e => nomatch e) fun _ h' tk' k' => ?_
  exact X.nil (k ra us m h' tk' are (S.grow k'))
end
end Mine
end
section
open PySem PySem.W PySem.Calls PyProof.Rows
set_option linter.unusedVariables false
set_option maxRecDepth 100000
namespace Mine
local macro_rules | `(tactic| walk_at "mem") => `(tactic| first | with_reducible exact List.mem_cons_self | with_reducible assumption | (with_reducible refine List.mem_cons_of_mem _ ?_; walk_at "mem"))
local macro_rules | `(tactic| walk_at "del") => `(tactic| first | with_reducible exact Del.nil | (with_reducible refine VO.del (by assumption) ?_; decide) | (with_reducible refine' Del.hit ?hr; (case hr => walk_at "del")) | (refine' Del.miss ?hne ?hr; (case hne => decide); (case hr => walk_at "del")))
section
variable {prog : Program} {w : World} {A : Around} {env : Env} {mg mb : Str → Option Value} {h : Heap}
set_option maxHeartbeats 4000000 in
theorem row_r2 {s : Shared} {g : Heap} {E : Value → Shared → Prop} {Q : Flow → Shared → Prop} {tk : Nat} (L : Lw w mg mb g env A) {V : List (Str × Value)} {l pd rw' fi ra : Addr} {kd b n : Nat} {al : List UInt8} {tt ts tg tb tn tw tx : Tok} {N M : List (Addr × Obj)} {z : List Int} {v : Value} {T : List UInt8} {W : Nat}
    (vo : VO V l pd rw' kd b n al tt ts tg tb tn) (hn : n ≤ 17) (hzn : z.length = n) (hzr : Rin M z v) (hM : ∀ p ∈ M, p ∈ N)
    (S : St g env (("ranks", .ref ra) :: RV v T tx fi W tw V) N h)
    (k : ∀ tf tm h tk, St g env (("number", .int (numZ z) tm) :: ("front", .int (fz z) tf) :: ("ranks", .ref ra) :: RV v T tx fi W tw V) N h →
      wpAny (model prog w) A (execs ((rowBody w).drop 8) env) Q E { s with heap := h, toks := tk }) :
    wpAny (model prog w) A (execs ((rowBody w).drop 4) env) Q E { s with heap := h, toks := tk } := by
  have K := L.K
  have hh := L.ok.handled
  have mlength := vo.length
  have hfz := fz_le z
  refine St.assignI S (i := 0) Ev.cint (K.can (by kernel_rfl)) (by walk_at "del") fun t₁ h₁ tk₁ S => ?_
  refine St.while_ (n := n) (fun m vars news => ∃ (x : Nat) (t : Tok), m = n - x ∧ x ≤ fz z ∧ vars = (("front" : Str), Value.int (x : Int) t) :: ("ranks", .ref ra) :: RV v T tx fi W tw V ∧ news = N)
    (fun vars news => ∃ (t : Tok), vars = (("front" : Str), Value.int (fz z : Int) t) :: ("ranks", .ref ra) :: RV v T tx fi W tw V ∧ news = N) S ⟨0, t₁, rfl, Nat.zero_le _, rfl, rfl⟩ ?_ ?_
  · rintro m vars news h₂ ⟨x, t, rfl, hx, rfl, rfl⟩ S
    have rowE : ∀ {pos : Pos}, Ev prog w A env h₂ (.Name "row" pos) (IsLI z) := S.rin hM hzr (S.ev (by walk_at "mem"))
    refine ⟨decide (x < fz z), Te.and ?_, fun q => ?_, fun q h₃ tk₃ E' S => ?_⟩
    · by_cases hxn : x < n
      · obtain ⟨a, ha⟩ : ∃ a, z[x]? = some a := ⟨z[x]'(by omega), by simp⟩
        have hs := fz_step z x a hx ha
        refine At.andT (Te.cast (Te.lt (S.evI (by walk_at "mem")) (S.evI (by walk_at "mem"))) (decide_eq_true (by omega))) ?_
        have e : (a == 0) = decide (x < fz z) := by rw [Bool.eq_iff_iff, hs]; simp
        rw [← e]
        exact At.andT' (Te.eqI (Ev.itemLI rowE (S.evI (by walk_at "mem")) (by omega) (by omega) (by simpa using ha)) Ev.cint)
      · have e : decide (x < fz z) = false := decide_eq_false (by omega)
        rw [e]
        exact At.andF (Te.cast (Te.lt (S.evI (by walk_at "mem")) (S.evI (by walk_at "mem"))) (decide_eq_false (by omega)))
    · have q := of_decide_eq_false q
      have : x = fz z := by omega
      subst this
      exact ⟨t, rfl, rfl⟩
    · have q := of_decide_eq_true q
      refine St.assignI S (i := ((x + 1 : Nat) : Int)) (by
        have e : ((x + 1 : Nat) : Int) = (x : Int) + 1 := by omega
        rw [e]; exact Ev.add (S.evI (by walk_at "mem")) Ev.cint) (K.can (by kernel_rfl)) (by walk_at "del") fun t₄ h₄ tk₄ S => ?_
      exact X.nil ⟨rfl, n - (x + 1), _, _, h₄, tk₄, by omega, ⟨x + 1, t₄, rfl, q, rfl, rfl⟩, S, rfl⟩
  · rintro vars news h₂ tk₂ ⟨tf, rfl, rfl⟩ S
    refine St.assignI S (i := 0) Ev.cint (K.can (by kernel_rfl)) (by walk_at "del") fun t₃ h₃ tk₃ S => ?_
    have rowE : ∀ {pos : Pos}, Ev prog w A env h₃ (.Name "row" pos) (IsV v) := S.ev (by walk_at "mem")
    obtain ⟨ar, vr, mr, rfl, hmr, hir⟩ := hzr
    have hlr := hir.length
    refine St.for_ (F := IsV (.ref ar)) (fp := [ar]) (n := z.length) (P := fun i v => ∃ a, z[i]? = some a ∧ DI a v)
      (fun i vars nw => ∃ (t : Tok), vars = (("number" : Str), Value.int (numZ (z.take i)) t) :: ("front", .int (fz z : Int) tf) :: ("ranks", .ref ra) :: RV (.ref ar) T tx fi W tw V ∧ nw = news)
      S rowE (fun v h' kk e => by cases e; exact src_ints hh (lstO.at (kk _ _ (S.fn (ar, lstO vr mr) (hM _ hmr)).1)) hir)
      (fun b hb => .inr ⟨lstO vr mr, by rintro i vars news ⟨t, rfl, rfl⟩; rw [List.mem_singleton.mp hb]; exact hM _ hmr⟩) ⟨t₃, rfl, rfl⟩ ?_ ?_
    · rintro i v vars news h₄ tk₄ I oI E' hi ⟨a, ha, d⟩ ⟨t, rfl, rfl⟩ S
      refine St.assignTo S (K.loc (by kernel_rfl)) (by walk_at "del") fun h₅ tk₅ S => ?_
      have htake : z.take (i + 1) = z.take i ++ [a] := by rw [List.take_add_one, ha]; rfl
      obtain ⟨tt, rfl⟩ := d
      refine St.assignI S (i := numZ (z.take (i + 1))) (by
        rw [htake, numZ_snoc]
        exact Ev.add (Ev.mul (S.evI (by walk_at "mem")) Ev.cint (mulOkR (by decide))) (S.evI (by walk_at "mem"))) (K.can (by kernel_rfl)) (by walk_at "del") fun t₆ h₆ tk₆ S => ?_
      exact X.nil ⟨_, _, h₆, tk₆, ⟨t₆, rfl, rfl⟩, S.weakV (by
        intro p hp
        rcases List.mem_cons.mp hp with rfl | hp
        · exact List.mem_cons_self
        · exact List.mem_cons_of_mem _ (List.mem_cons_of_mem _ hp)), rfl⟩
    · rintro vars news h₄ tk₄ ⟨t, rfl, rfl⟩ S
      rw [List.take_of_length_le (Nat.le_refl _)] at S
      exact k tf t h₄ tk₄ S
end
end Mine
end
section
open PySem PySem.W PySem.Calls PyProof.Rows
set_option linter.unusedVariables false
set_option maxRecDepth 100000
namespace Mine
local macro_rules | `(tactic| walk_at "mem") => `(tactic| first | with_reducible exact List.mem_cons_self | with_reducible assumption | (with_reducible refine List.mem_cons_of_mem _ ?_; walk_at "mem"))
local macro_rules | `(tactic| walk_at "del") => `(tactic| first | with_reducible exact Del.nil | (with_reducible refine VO.del (by assumption) ?_; decide) | (with_reducible refine' Del.hit ?hr; (case hr => walk_at "del")) | (refine' Del.miss ?hne ?hr; (case hne => decide); (case hr => walk_at "del")))
theorem u8_back (c : UInt8) : ((c.toNat : Int)).toNat.toUInt8 = c := by simp
theorem bytes_rep (c : UInt8) (k : Nat) : bytesOf (List.replicate k ((c.toNat : Int))) = List.replicate k c := by
  unfold bytesOf; rw [List.map_replicate, u8_back]
section
variable {prog : Program} {w : World} {A : Around} {env : Env} {mg mb : Str → Option Value} {h : Heap}
/-- some first signs -/
theorem ev_signs (B : Bs w mg mb h) (K : GEnv env) (hx : env.kindOf "bytes" = some .globalImplicit) (hh : A.handled = none) {p p0 q r u pos : Pos} {kk : Nat} {e1 e2 : PySem.Expr} {al : List UInt8} {n : Nat} (h1 : Ev prog w A env h e1 (IsB al.toArray)) (h2 : Ev prog w A env h e2 (IsI (n : Int))) (hal : 1 ≤ al.length) (hal2 : al.length ≤ 256) (hn : n ≤ 200) 
    (hq : backTo pos (starEach [.BinOp (.List [.Subscript e1 (.Constant (.int 0) kk p) q] r) .Mult e2 u] env) = (false, eval (.BinOp (.List [.Subscript e1 (.Constant (.int 0) kk p) q] r) .Mult e2 u) env) :: backTo pos (starEach [] env) := by rfl) :
    Ev prog w A env h (.Call (.Name "bytes" p0) [.BinOp (.List [.Subscript e1 (.Constant (.int 0) kk p) q] r) .Mult e2 u] [] pos) (IsB (List.replicate n (al.getD 0 0)).toArray) := by
  have e : (List.replicate (n : Int).toNat [(((al.getD 0 0).toNat : Nat) : Int)]).flatten = List.replicate n (((al.getD 0 0).toNat : Nat) : Int) := by rw [Int.toNat_natCast, List.flatten_replicate_singleton]
  rw [← bytes_rep]
  refine Ev.bytesL (B.built (v := .type "bytes") K (by kernel_rfl) (by kernel_rfl) (by decide) hx) ((Ev.mulI (ns := [(((al.getD 0 0).toNat : Nat) : Int)]) (n := (n : Int)) ((Ev.oneLI (Ev.itemB (k := 0) h1 Ev.cint (by omega) (by decide) (by omega))).imp fun v h' x => x.li) h2 (by omega) (by simp; omega) (by omega)).imp fun v h' x => by rw [e] at x; exact x.li) (fun x hx => ?_) (by simp; omega) hh hq
  rw [(List.mem_replicate.mp hx).2]
  have := (al.getD 0 0).toNat_lt
  omega
end
section
variable {prog : Program} {w : World} {A : Around} {env : Env} {mg mb : Str → Option Value} {h : Heap}
set_option maxHeartbeats 4000000 in
theorem row_r3 {s : Shared} {g : Heap} {E : Value → Shared → Prop} {Q : Flow → Shared → Prop} {tk : Nat} (L : Lw w mg mb g env A) {V : List (Str × Value)} {l pd rw' fi ra : Addr} {kd b n : Nat} {al : List UInt8} {tt ts tg tb tn tw tx tf tm : Tok} {N : List (Addr × Obj)} {z : List Int} {v : Value}
    (vo : VO V l pd rw' kd b n al tt ts tg tb tn) (hbl : b = al.length) (hb : 2 ≤ b) (hb2 : b ≤ 256) (hn : n ≤ 17) (ro : RowOk al n z)
    (S : St g env (("number", .int (numZ z) tm) :: ("front", .int (fz z) tf) :: ("ranks", .ref ra) :: RV v (txt al z) tx fi (widN b n) tw V) N h)
    (k : ∀ h tk, St g env (("ranks", .ref ra) :: RV v (txt al z) tx fi (widN b n) tw V) N h →
      wpAny (model prog w) A (execs ((rowBody w).drop 9) env) Q E { s with heap := h, toks := tk }) :
    wpAny (model prog w) A (execs ((rowBody w).drop 8) env) Q E { s with heap := h, toks := tk } := by
  have K := L.K
  have hh := L.ok.handled
  have ok1 : Ok A 1 := L.ok.mono (by decide)
  have msigns := vo.signs
  have mgiven := vo.given
  have hfz := fz_le z
  have hzn := ro.len
  obtain ⟨m, hm, hm2, hT⟩ := ro.num
  rw [hm] at S
  have B₁ := L.B.sub S.base
  have hdig : (digs al.length m).length ≤ 160 := digs_len (by omega) 160 m hm2
  refine St.ifs (b := false) (Te.cast (Te.neB (S.evB (by walk_at "mem")) (Ev.addB (b := (enc al m).toArray) (ev_signs (n := fz z) B₁ K.g (K.k _ _ (by kernel_rfl)) hh (S.evB (by walk_at "mem")) (S.evI (by walk_at "mem")) (by omega) (by omega) (by omega))
    (Ev.callF (a := 29) (B₁.glob K.g (by kernel_rfl) (K.k _ _ (by kernel_rfl))) (B₁.X 29 _ rfl) rfl (Ag.three (S.evI (by walk_at "mem")) Ev.cbool (S.evB (by walk_at "mem")) (mI _) (mV _) (mB _)) ?_) ?_)) ?_) (fun e => nomatch e) fun _ h' tk' k' => ?_
  · rintro vs h' kk ⟨_, _, _, rfl, ⟨t, rfl⟩, rfl, t', rfl⟩
    have := fn_enc (prog := prog) (B₁.sub kk) ok1 (args := ⟨[.int (m : Int) t, .bool false, .bytes al.toArray t'], []⟩) (ti := t) (tu := t') (d := false) (al := al) (n := m) (fun s hs => bind29 (B₁.sub kk) hs rfl rfl) (by omega) (by omega) (by omega)
    rw [if_neg (by simp)] at this
    exact this
  · simp [enc]; omega
  · rw [hT]; simp
  · exact X.nil (k h' tk' ((S.grow k').weakV fun p hp => List.mem_cons_of_mem _ (List.mem_cons_of_mem _ hp)))
end
end Mine
end
section
open PySem PySem.W PySem.Calls PyProof.Rows
set_option linter.unusedVariables false
set_option maxRecDepth 100000
namespace Mine
local macro_rules | `(tactic| walk_at "mem") => `(tactic| first | with_reducible exact List.mem_cons_self | with_reducible assumption | (with_reducible refine List.mem_cons_of_mem _ ?_; walk_at "mem"))
local macro_rules | `(tactic| walk_at "del") => `(tactic| first | with_reducible exact Del.nil | (with_reducible refine VO.del (by assumption) ?_; decide) | (with_reducible refine' Del.hit ?hr; (case hr => walk_at "del")) | (refine' Del.miss ?hne ?hr; (case hne => decide); (case hr => walk_at "del")))
section
variable {prog : Program} {w : World} {A : Around} {env : Env} {mg mb : Str → Option Value} {h : Heap}
set_option maxHeartbeats 4000000 in
theorem row_r4 {s : Shared} {g : Heap} {E : Value → Shared → Prop} {Q : Flow → Shared → Prop} {tk : Nat} (L : Lw w mg mb g env A) {V : List (Str × Value)} {l pd rw' fi ra : Addr} {kd b n : Nat} {al : List UInt8} {tt ts tg tb tn tw tx : Tok} {pre post M : List (Addr × Obj)} {z : List Int} {v : Value} {us fs rs : List Value} {mr mf nr : Nat} {zs : List (List Int)}
    (vo : VO V l pd rw' kd b n al tt ts tg tb tn) (hbl : b = al.length) (hb : 2 ≤ b) (hb2 : b ≤ 256) (hn : n ≤ 17) (ro : RowOk al n z)
    (hra : (ra, lstO us mr) ∈ pre) (hus : IntsAre us (rnk al (txt al z))) (hrw : (rw', lstO rs nr) ∈ post) (hM : ∀ p ∈ M, p ∈ post) (hzr : Rin M z v) (hR : All2 (Rin M) zs rs) (hz0 : zs[0]? = some (List.replicate n 0)) (hz1 : zs[1]? = some (List.replicate n 255)) (hfs : fs.length ≤ 100)
    (S : St g env (("ranks", .ref ra) :: RV v (txt al z) tx fi (widN b n) tw V) (pre ++ (fi, lstO fs mf) :: post) h)
    (k : ∀ a vs m mf' h tk, IntsAre vs (fil al n z) → St g env (RV v (txt al z) tx fi (widN b n) tw V) ((a, lstO vs m) :: (pre ++ (fi, lstO (fs ++ [.ref a]) mf') :: post)) h →
      Q .next { s with heap := h, toks := tk }) :
    wpAny (model prog w) A (execs ((rowBody w).drop 9) env) Q E { s with heap := h, toks := tk } := by
  have K := L.K
  have hh := L.ok.handled
  have hu : A.units < cLine := by have := L.ok.units; omega
  have msigns := vo.signs
  have mlength := vo.length
  have mrows := vo.rows
  have hw := widN_le hb n
  have hlo := ro.lo
  have hhi := ro.hi
  have hTl : (txt al z).length ≤ 136 := by rw [← hbl] at hhi; omega
  have hlen : (rnk al (txt al z)).length = (txt al z).length := by simp [rnk, codes]
  have B₁ := L.B.sub S.base
  refine appendTo (P := fun v l => ∃ a vs n', v = .ref a ∧ l = [(a, lstO vs n')] ∧ IntsAre vs (fil al n z)) S (by walk_at "mem")
    (Ev.imp (Ev.addI (ns := List.replicate (widN al.length n - (txt al z).length) 0) (ms := rnk al (txt al z)) ((Ev.mulI (ns := [0]) (n := (widN b n : Int) - ((txt al z).length : Int)) ((Ev.oneLI Ev.cint).imp fun v h' x => x.li) (Ev.subI (S.evI (by walk_at "mem")) (ev_lenB B₁ K.g (K.k _ _ (by kernel_rfl)) (S.evB (by walk_at "mem")) (by omega))) (by rw [← hbl] at hhi; omega) (by simp; omega) (by omega)).imp fun v h' x => ?_)
      ((S.ev (by walk_at "mem")).imp' fun v h' kk e => by cases e; exact ⟨us, ⟨ra, rfl, lstO.at (kk _ _ (S.fn (ra, lstO us mr) (List.mem_append_left _ hra)).1)⟩, hus⟩) (by rw [hlen, List.length_replicate, ← hbl]; omega)) fun v h' x => x.nw) (by rw [sizeLine_eq]; omega) ?_
  · have e : (List.replicate ((widN b n : Int) - ((txt al z).length : Int)).toNat [(0 : Int)]).flatten = List.replicate (widN al.length n - (txt al z).length) 0 := by
      rw [List.flatten_replicate_singleton, ← hbl]
      congr 1
      omega
    rw [e] at x
    exact x.li
  rintro v' nn mf' h₁ tk₁ ⟨a, vs, m, rfl, rfl, hvs⟩ S
  have hMN : ∀ p ∈ M, p ∈ [(a, lstO vs m)] ++ (pre ++ (fi, lstO (fs ++ [.ref a]) mf') :: post) := fun p hp => List.mem_append_right _ (List.mem_append_right _ (List.mem_cons_of_mem _ (hM p hp)))
  have hrw' : (rw', lstO rs nr) ∈ [(a, lstO vs m)] ++ (pre ++ (fi, lstO (fs ++ [.ref a]) mf') :: post) := List.mem_append_right _ (List.mem_append_right _ (List.mem_cons_of_mem _ hrw))
  obtain ⟨v0, e0, r0⟩ := hR.get 0 _ hz0
  obtain ⟨v1, e1, r1⟩ := hR.get 1 _ hz1
  have step : ∀ {h₁} (S : St g env (("ranks", .ref ra) :: RV v (txt al z) tx fi (widN b n) tw V) ([(a, lstO vs m)] ++ (pre ++ (fi, lstO (fs ++ [.ref a]) mf') :: post)) h₁) {pos : Pos}, Ev prog w A env h₁ (.Name "row" pos) (IsLI z) := fun S => S.rin hMN hzr (S.ev (by walk_at "mem"))
  refine St.ifs (b := false) (Te.and ?_) (fun e => nomatch e) fun _ h' tk' k' => ?_
  · have B₁ := L.B.sub S.base
    by_cases hz : z = List.replicate n 0
    · refine At.andT (Te.cast (Te.eqLI (step S) (S.rin hMN r0 (Ev.itemL (k := 0) (S.evL (by walk_at "mem") (lstO.at (S.fn _ hrw').1)) Ev.cint (by decide) (by decide) e0)) hu) (by rw [hz]; simp)) (At.andT' (Te.cast (Te.neB (S.evB (by walk_at "mem")) (ev_signs (n := n) B₁ K.g (K.k _ _ (by kernel_rfl)) hh (S.evB (by walk_at "mem")) (S.evI (by walk_at "mem")) (by omega) (by omega) (by omega))) ?_))
      rw [ro.zero hz]; simp
    · exact At.andF (Te.cast (Te.eqLI (step S) (S.rin hMN r0 (Ev.itemL (k := 0) (S.evL (by walk_at "mem") (lstO.at (S.fn _ hrw').1)) Ev.cint (by decide) (by decide) e0)) hu) (beq_false_of_ne hz))
  have S := S.grow k'
  refine X.nil (St.ifs (b := false) (Te.and ?_) (fun e => nomatch e) fun _ h' tk' k' => ?_)
  · have B₁ := L.B.sub S.base
    by_cases hz : z = List.replicate n 255
    · refine At.andT (Te.cast (Te.eqLI (step S) (S.rin hMN r1 (Ev.itemL (k := 1) (S.evL (by walk_at "mem") (lstO.at (S.fn _ hrw').1)) Ev.cint (by decide) (by decide) e1)) hu) (by rw [hz]; simp)) (At.andT' (Te.cast (Te.neI (ev_lenB B₁ K.g (K.k _ _ (by kernel_rfl)) (S.evB (by walk_at "mem")) (by omega)) (S.evI (by walk_at "mem"))) ?_))
      rw [ro.full hz, hbl]; simp
    · exact At.andF (Te.cast (Te.eqLI (step S) (S.rin hMN r1 (Ev.itemL (k := 1) (S.evL (by walk_at "mem") (lstO.at (S.fn _ hrw').1)) Ev.cint (by decide) (by decide) e1)) hu) (beq_false_of_ne hz))
  exact X.nil (X.nil (k a vs m mf' h' tk' hvs ((S.grow k').weakV fun p hp => List.mem_cons_of_mem _ hp)))
end
end Mine
end
section
open PySem PySem.W PySem.Calls PyProof.Rows
set_option linter.unusedVariables false
set_option maxRecDepth 100000
namespace Mine
local macro_rules | `(tactic| walk_at "mem") => `(tactic| first | with_reducible exact List.mem_cons_self | with_reducible assumption | (with_reducible refine List.mem_cons_of_mem _ ?_; walk_at "mem"))
local macro_rules | `(tactic| walk_at "del") => `(tactic| first | with_reducible exact Del.nil | (with_reducible refine VO.del (by assumption) ?_; decide) | (with_reducible refine' Del.hit ?hr; (case hr => walk_at "del")) | (refine' Del.miss ?hne ?hr; (case hne => decide); (case hr => walk_at "del")))
section
variable {prog : Program} {w : World} {A : Around} {env : Env} {mg mb : Str → Option Value} {hb h : Heap} {vars : List (Str × Value)} {news : List (Addr × Obj)}
set_option maxHeartbeats 4000000 in
theorem law_p4 {s : Shared} {g : Heap} {E : Value → Shared → Prop} {tk : Nat} (L : Lw w mg mb g env A) {V : List (Str × Value)} {l pd rw' fi : Addr} {kd b n : Nat} {al : List UInt8} {tt ts tg tb tn tw : Tok} {od : Obj} {M : List (Addr × Obj)} {rs : List Value} {nr : Nat} {zs : List (List Int)}
    (vo : VO V l pd rw' kd b n al tt ts tg tb tn) (hbl : b = al.length) (hb : 2 ≤ b) (hb2 : b ≤ 256) (hn : n ≤ 17) (hkd : kd = 0 → al = bitcoin)
    (hpd : ∀ h'' : Heap, h''.get? pd = some od → IsDI (plcZ al) (.ref pd) h'') (hM1 : (pd, od) ∈ M) (hR : All2 (Rin M) zs rs) (hz : ∀ z ∈ zs, RowOk al n z) (hz6 : zs.length = 6) (hz0 : zs[0]? = some (List.replicate n 0)) (hz1 : zs[1]? = some (List.replicate n 255))
    (S : St g env (("filled", .ref fi) :: ("width", .int (widN b n) tw) :: V) ((fi, lstO [] 0) :: (rw', lstO rs nr) :: M) h)
    (k : ∀ fs nf M' h tk, All2 (Rin M') (zs.map (fil al n)) fs → (∀ p ∈ M, p ∈ M') → 
      St g env (("filled", .ref fi) :: V) ((fi, lstO fs nf) :: (rw', lstO rs nr) :: M') h →
      wpAny (model prog w) A (execs ((lawStmts w).drop 12) env) (Fin75 s g) E { s with heap := h, toks := tk }) :
    wpAny (model prog w) A (execs ((lawStmts w).drop 11) env) (Fin75 s g) E { s with heap := h, toks := tk } := by
  have K := L.K
  have hh := L.ok.handled
  have ok2 : Ok A 2 := L.ok.mono (by decide)
  have ok1 : Ok A 1 := L.ok.mono (by decide)
  have hu : A.units < cLine := by have := L.ok.units; omega
  have mkind := vo.kind
  have msigns := vo.signs
  have mgiven := vo.given
  have mplaces := vo.places
  have mlength := vo.length
  have mrows := vo.rows
  have hzl := hR.len
  refine St.for_ (F := IsV (.ref rw')) (fp := [rw']) (n := rs.length) (P := fun i v => rs[i]? = some v)
    (fun i vars news => ∃ (fs : List Value) (m : Nat) (M' : List (Addr × Obj)), All2 (Rin M') ((zs.take i).map (fil al n)) fs ∧ (∀ p ∈ M, p ∈ M') ∧ vars = (("filled" : Str), Value.ref fi) :: (("width" : Str), Value.int (widN b n) tw) :: V ∧ news = (fi, lstO fs m) :: (rw', lstO rs nr) :: M')
    S (S.ev (by walk_at "mem")) (fun v h' kk e => by cases e; exact Src.list hh (lstO.at (kk _ _ (S.fn (rw', lstO rs nr) (by simp)).1)))
    (fun b hb => .inr ⟨lstO rs nr, by rintro i vars news ⟨fs, m, M', _, _, _, rfl⟩; rw [List.mem_singleton.mp hb]; simp⟩) ⟨[], 0, M, by simpa using All2.nil, fun p hp => hp, rfl, rfl⟩ ?_ ?_
  · rintro i v vars news h₃ tk₃ I oI E' hin hv ⟨fs, m, M', hF, hMM, rfl, rfl⟩ S
    obtain ⟨z, hzi, hzr⟩ := hR.get' i v hv
    have hzr' : Rin M' z v := hzr.sub hMM
    have ro := hz z (List.mem_of_getElem? hzi)
    refine St.assignTo S (K.loc (by kernel_rfl)) (by walk_at "del") fun h₄ tk₄ S => ?_
    have B₁ := L.B.sub S.base
    -- the text
    have rowE : ∀ {pos : Pos} {h' vars' news'}, (("row" : Str), v) ∈ vars' → (∀ p ∈ M', p ∈ news') → St g env vars' news' h' → Ev prog w A env h' (.Name "row" pos) (IsLI z) := fun hm hM S => S.rin hM hzr' (S.ev hm)
    have hbl0 : (bytesOf z).length = n := by rw [bytesOf, List.length_map, ro.len]
    refine St.assignB S (i := (txt al z).toArray) (Ev.ite (Te.eqI (S.evI (by walk_at "mem")) Ev.cint) (fun q => ?_) (fun q => ?_)) (K.loc (by kernel_rfl)) (by walk_at "del") fun t_t h₅ tk₅ S => ?_
    · have e0 : kd = 0 := by have := eq_of_beq q; omega
      refine Ev.callF (a := 37) (B₁.glob K.g (by kernel_rfl) (K.k _ _ (by kernel_rfl))) (B₁.X 37 _ rfl) rfl (Ag.one (Ev.bytesL (B₁.built (v := .type "bytes") K.g (by kernel_rfl) (by kernel_rfl) (by decide) (K.k _ _ (by kernel_rfl))) (rowE (by walk_at "mem") (fun p hp => List.mem_cons_of_mem _ (List.mem_cons_of_mem _ (List.mem_cons_of_mem _ hp))) S) ro.byte (by rw [ro.len]; omega) hh) (mB _)) ?_
      rintro vs h' kk ⟨v, rfl, t, rfl⟩
      have := fn_b58 (prog := prog) (B₁.sub kk) ok2 (args := ⟨[.bytes (bytesOf z).toArray t], []⟩) (l := bytesOf z) (al := bitcoin) (tu := 189) (tv := t) (fun s hs => bind37 (B₁.sub kk) hs rfl rfl) (by decide) (by decide) (by omega)
      unfold txt
      rw [hkd e0]
      exact this
    · refine Ev.callF (a := 37) (B₁.glob K.g (by kernel_rfl) (K.k _ _ (by kernel_rfl))) (B₁.X 37 _ rfl) rfl (Ag.two (Ev.bytesL (B₁.built (v := .type "bytes") K.g (by kernel_rfl) (by kernel_rfl) (by decide) (K.k _ _ (by kernel_rfl))) (rowE (by walk_at "mem") (fun p hp => List.mem_cons_of_mem _ (List.mem_cons_of_mem _ (List.mem_cons_of_mem _ hp))) S) ro.byte (by rw [ro.len]; omega) hh) (S.evB (i := al.toArray) (by walk_at "mem")) (mB _) (mB _)) ?_
      rintro vs h' kk ⟨v, v', rfl, ⟨t, rfl⟩, t', rfl⟩
      have := fn_b58 (prog := prog) (B₁.sub kk) ok2 (args := ⟨[.bytes (bytesOf z).toArray t, .bytes al.toArray t'], []⟩) (l := bytesOf z) (al := al) (tu := t') (tv := t) (fun s hs => bind37 (B₁.sub kk) hs rfl rfl) (by omega) (by omega) (by omega)
      exact this
    have hw := widN_le hb n
    have hTl : (txt al z).length ≤ 136 := by have := ro.hi; rw [← hbl] at this; omega
    have hfl := hF.len
    have hil : i < 6 := by rw [hzl] at hin; omega
    have hfs : fs.length ≤ 100 := by rw [hfl, List.length_map, List.length_take]; omega
    refine row_r1 L vo hbl hb hb2 hn hpd (List.mem_cons_of_mem _ (List.mem_cons_of_mem _ (List.mem_cons_of_mem _ (hMM _ hM1)))) ro S fun ra us mr h₆ tk₆ hus S => ?_
    refine row_r2 L vo hn ro.len hzr' (fun p hp => List.mem_cons_of_mem _ (List.mem_cons_of_mem _ (List.mem_cons_of_mem _ (List.mem_cons_of_mem _ hp)))) S fun tf tm h₇ tk₇ S => ?_
    refine row_r3 L vo hbl hb hb2 hn ro S fun h₈ tk₈ S => ?_
    refine row_r4 (pre := [(ra, lstO us mr), (I, oI)]) (post := (rw', lstO rs nr) :: M') (M := M') L vo hbl hb hb2 hn ro List.mem_cons_self hus List.mem_cons_self (fun p hp => List.mem_cons_of_mem _ hp) hzr' (hR.imp fun a b => Rin.sub hMM) hz0 hz1 hfs S fun a vs m' mf' h₉ tk₉ hvs S => ?_
    refine ⟨_, (fi, lstO (fs ++ [.ref a]) mf') :: (rw', lstO rs nr) :: ((a, lstO vs m') :: (ra, lstO us mr) :: M'), h₉, tk₉, ⟨fs ++ [.ref a], mf', (a, lstO vs m') :: (ra, lstO us mr) :: M', ?_, fun p hp => List.mem_cons_of_mem _ (List.mem_cons_of_mem _ (hMM p hp)), rfl, rfl⟩, (S.weakV fun p hp => List.mem_cons_of_mem _ (List.mem_cons_of_mem _ hp)).perm ?_, rfl⟩
    · have e : zs.take (i + 1) = zs.take i ++ [z] := by rw [List.take_add_one, hzi]; rfl
      rw [e, List.map_append]
      exact (hF.imp fun a b => Rin.sub fun p hp => List.mem_cons_of_mem _ (List.mem_cons_of_mem _ hp)).snoc ⟨a, vs, m', rfl, List.mem_cons_self, hvs⟩
    · show List.Perm ((a, lstO vs m') :: (ra, lstO us mr) :: (I, oI) :: (fi, _) :: (rw', lstO rs nr) :: M') ((I, oI) :: (fi, _) :: (rw', lstO rs nr) :: (a, lstO vs m') :: (ra, lstO us mr) :: M')
      refine (List.perm_append_comm_assoc [(a, lstO vs m'), (ra, lstO us mr)] [(I, oI), (fi, lstO (fs ++ [.ref a]) mf'), (rw', lstO rs nr)] M')
  · rintro vars news h₃ tk₃ ⟨fs, m, M', hF, hMM, rfl, rfl⟩ S
    rw [hzl, List.take_of_length_le (Nat.le_refl _)] at hF
    refine k fs m M' h₃ tk₃ hF hMM (S.weakV fun p hp => ?_)
    rcases List.mem_cons.mp hp with rfl | hp
    · exact List.mem_cons_self
    · exact List.mem_cons_of_mem _ (List.mem_cons_of_mem _ hp)
end
end Mine
end
section
open PySem PySem.W PySem.Calls PyProof.Rows
set_option linter.unusedVariables false
set_option maxRecDepth 100000
namespace Mine
local macro_rules | `(tactic| walk_at "mem") => `(tactic| first | with_reducible exact List.mem_cons_self | with_reducible assumption | (with_reducible refine List.mem_cons_of_mem _ ?_; walk_at "mem"))
local macro_rules | `(tactic| walk_at "del") => `(tactic| first | with_reducible exact Del.nil | (with_reducible refine VO.del (by assumption) ?_; decide) | (with_reducible refine' Del.hit ?hr; (case hr => walk_at "del")) | (refine' Del.miss ?hne ?hr; (case hne => decide); (case hr => walk_at "del")))
section
variable {prog : Program} {w : World} {A : Around} {env : Env} {mg mb : Str → Option Value} {h : Heap}
set_option maxHeartbeats 4000000 in
theorem law_p5 {s : Shared} {g : Heap} {E : Value → Shared → Prop} {Q : Flow → Shared → Prop} {tk : Nat} (L : Lw w mg mb g env A) {V : List (Str × Value)} {l pd rw' fi : Addr} {kd b n : Nat} {al : List UInt8} {tt ts tg tb tn : Tok} {M : List (Addr × Obj)} {rs fs : List Value} {nr nf : Nat} {zs : List (List Int)}
    (vo : VO V l pd rw' kd b n al tt ts tg tb tn) (hR : All2 (Rin M) zs rs) (hF : All2 (Rin M) (zs.map (fil al n)) fs) (hz6 : zs.length = 6)
    (hc : ∀ a ∈ zs, ∀ b ∈ zs, ltI a b = ltI (fil al n a) (fil al n b) ∧ (a == b) = (fil al n a == fil al n b))
    (S : St g env (("filled", .ref fi) :: V) ((fi, lstO fs nf) :: (rw', lstO rs nr) :: M) h)
    (k : ∀ h tk, St g env V M h → wpAny (model prog w) A (execs ((lawStmts w).drop 13) env) Q E { s with heap := h, toks := tk }) :
    wpAny (model prog w) A (execs ((lawStmts w).drop 12) env) Q E { s with heap := h, toks := tk } := by
  have K := L.K
  have hh := L.ok.handled
  have hu : A.units < cLine := by have := L.ok.units; omega
  have mrows := vo.rows
  have hRl := hR.len
  have hFl := hF.len
  rw [List.length_map] at hFl
  have B₁ := L.B.sub S.base
  refine St.for_ (F := IsRng 6) (fp := []) (n := (upto 6).length) (P := fun i v => ∃ a, (upto 6)[i]? = some a ∧ DI a v)
    (fun i vars nw => vars = (("filled" : Str), Value.ref fi) :: V ∧ nw = (fi, lstO fs nf) :: (rw', lstO rs nr) :: M)
    S (Ev.rng (n := 6) (B₁.built (v := .type "range") K.g (by kernel_rfl) (by kernel_rfl) (by decide) (K.k _ _ (by kernel_rfl))) Ev.cint)
    (fun v h' k x => src_rng hh x (by omega)) (fun b hb => nomatch hb) ⟨rfl, rfl⟩ ?_ ?_
  · rintro i v vars nw h₃ tk₃ I oI E' hin ⟨a, ha, t, rfl⟩ ⟨rfl, rfl⟩ S
    rw [upto_len] at hin
    rw [upto_get hin] at ha
    cases ha
    refine St.assignTo S (K.loc (by kernel_rfl)) (by walk_at "del") fun h₄ tk₄ S => ?_
    have B₁ := L.B.sub S.base
    refine St.for_ (F := IsRng i) (fp := []) (n := (upto i).length) (P := fun i' v => ∃ a, (upto i)[i']? = some a ∧ DI a v)
      (fun i' vars nw => vars = (("i" : Str), Value.int (i : Int) t) :: ("filled", .ref fi) :: V ∧ nw = (I, oI) :: (fi, lstO fs nf) :: (rw', lstO rs nr) :: M)
      S (Ev.rng (n := i) (B₁.built (v := .type "range") K.g (by kernel_rfl) (by kernel_rfl) (by decide) (K.k _ _ (by kernel_rfl))) (S.evI (by walk_at "mem")))
      (fun v h' k x => src_rng hh x (by omega)) (fun b hb => nomatch hb) ⟨rfl, rfl⟩ ?_ ?_
    · rintro j v vars nw h₅ tk₅ I2 oI2 E2 hjn ⟨a, ha, t', rfl⟩ ⟨rfl, rfl⟩ S
      rw [upto_len] at hjn
      rw [upto_get hjn] at ha
      cases ha
      refine St.assignTo S (K.can (by kernel_rfl)) (by walk_at "del") fun h₆ tk₆ S => ?_
      obtain ⟨zi, hzi⟩ : ∃ z, zs[i]? = some z := ⟨zs[i]'(by omega), by simp⟩
      obtain ⟨zj, hzj⟩ : ∃ z, zs[j]? = some z := ⟨zs[j]'(by omega), by simp⟩
      obtain ⟨ri, eri, rri⟩ := hR.get i zi hzi
      obtain ⟨rj, erj, rrj⟩ := hR.get j zj hzj
      obtain ⟨gi, egi, rgi⟩ := hF.get i (fil al n zi) (by simp [hzi])
      obtain ⟨gj, egj, rgj⟩ := hF.get j (fil al n zj) (by simp [hzj])
      have hcc := hc zi (List.mem_of_getElem? hzi) zj (List.mem_of_getElem? hzj)
      have hM : ∀ p ∈ M, p ∈ (I2, oI2) :: (I, oI) :: (fi, lstO fs nf) :: (rw', lstO rs nr) :: M := fun p hp => List.mem_cons_of_mem _ (List.mem_cons_of_mem _ (List.mem_cons_of_mem _ (List.mem_cons_of_mem _ hp)))
      have hLr := lstO.at (S.fn (rw', lstO rs nr) (by walk_at "mem")).1
      have hLf := lstO.at (S.fn (fi, lstO fs nf) (by walk_at "mem")).1
      refine St.ifs (b := false) (Te.or (At.orF (Te.cast (Te.neBool
          (Ev.ltLI (S.rin hM rri (Ev.itemL (k := (i : Int)) (S.evL (by walk_at "mem") hLr) (S.evI (by walk_at "mem")) (by omega) (by omega) eri)) (S.rin hM rrj (Ev.itemL (k := (j : Int)) (S.evL (by walk_at "mem") hLr) (S.evI (by walk_at "mem")) (by omega) (by omega) erj)) hu)
          (Ev.ltLI (S.rin hM rgi (Ev.itemL (k := (i : Int)) (S.evL (by walk_at "mem") hLf) (S.evI (by walk_at "mem")) (by omega) (by omega) egi)) (S.rin hM rgj (Ev.itemL (k := (j : Int)) (S.evL (by walk_at "mem") hLf) (S.evI (by walk_at "mem")) (by omega) (by omega) egj)) hu)) (by rw [hcc.1]; simp))
        (At.orF (Te.cast (Te.neBool
          (Ev.eqLI (S.rin hM rri (Ev.itemL (k := (i : Int)) (S.evL (by walk_at "mem") hLr) (S.evI (by walk_at "mem")) (by omega) (by omega) eri)) (S.rin hM rrj (Ev.itemL (k := (j : Int)) (S.evL (by walk_at "mem") hLr) (S.evI (by walk_at "mem")) (by omega) (by omega) erj)) hu)
          (Ev.eqLI (S.rin hM rgi (Ev.itemL (k := (i : Int)) (S.evL (by walk_at "mem") hLf) (S.evI (by walk_at "mem")) (by omega) (by omega) egi)) (S.rin hM rgj (Ev.itemL (k := (j : Int)) (S.evL (by walk_at "mem") hLf) (S.evI (by walk_at "mem")) (by omega) (by omega) egj)) hu)) (by rw [hcc.2]; simp)) At.nil))) (fun e => nomatch e) fun _ h' tk' k' => ?_
      exact X.nil (X.nil ⟨_, _, h', tk', ⟨rfl, rfl⟩, (S.grow k').weakV fun p hp => List.mem_cons_of_mem _ hp, rfl⟩)
    · rintro vars nw h₅ tk₅ ⟨rfl, rfl⟩ S
      exact X.nil ⟨_, _, h₅, tk₅, ⟨rfl, rfl⟩, S.weakV fun p hp => List.mem_cons_of_mem _ hp, rfl⟩
  · rintro vars nw h₃ tk₃ ⟨rfl, rfl⟩ S
    exact k h₃ tk₃ (S.weak (fun p hp => List.mem_cons_of_mem _ hp) ((List.sublist_cons_self _ _).trans (List.sublist_cons_self _ _)))
end
end Mine
end
section
open PySem PySem.W PySem.Calls PyProof.Rows
set_option linter.unusedVariables false
set_option maxRecDepth 100000
namespace Mine
local macro_rules | `(tactic| walk_at "mem") => `(tactic| first | with_reducible exact List.mem_cons_self | with_reducible assumption | (with_reducible refine List.mem_cons_of_mem _ ?_; walk_at "mem"))
local macro_rules | `(tactic| walk_at "del") => `(tactic| first | with_reducible exact Del.nil | (with_reducible refine VO.del (by assumption) ?_; decide) | (with_reducible refine' Del.hit ?hr; (case hr => walk_at "del")) | (refine' Del.miss ?hne ?hr; (case hne => decide); (case hr => walk_at "del")))
def rk0 (ns : List Int) : Int := (drawZ ns 5).fmod (alS ns).length
def rkX (ns : List Int) (k : Nat) : Int := if (drawZ ns (80 + k)).fmod 2 = 0 then ((alS ns).length : Int) - 1 else (drawZ ns (80 + k)).fmod (alS ns).length
def cntN (ns : List Int) : Nat := if rk0 ns > 0 then ((drawZ ns 6).fmod 15).toNat else 0
def rkZ (ns : List Int) (i : Nat) : List Int := [rk0 ns] ++ (List.range i).map (rkX ns)
def RK (ns : List Int) : List Int := rkZ ns (cntN ns)
def sumZ (b : Int) (l : List Int) : Nat → Int
  | 0 => 0
  | i + 1 => sumZ b l i + l.reverse.getD i 0 * b ^ i
def numR (ns : List Int) : Int := sumZ (alS ns).length (RK ns) (RK ns).length
theorem RK_bd (ns : List Int) (hb : 2 ≤ (alS ns).length) : ∀ r ∈ RK ns, 0 ≤ r ∧ r < (alS ns).length := by
  intro r hr
  rcases List.mem_append.mp hr with hr | hr
  · rw [List.mem_singleton.mp hr]
    exact ⟨fmod_lo _ (by omega), fmod_hi _ (by omega)⟩
  · obtain ⟨k, _, rfl⟩ := List.mem_map.mp hr
    unfold rkX
    split
    · omega
    · exact ⟨fmod_lo _ (by omega), fmod_hi _ (by omega)⟩
section
variable {prog : Program} {w : World} {A : Around} {env : Env} {mg mb : Str → Option Value} {h : Heap}
theorem cntN_le (ns : List Int) : cntN ns ≤ 14 := by
  unfold cntN
  have := fmod_lo (drawZ ns 6) (n := 15) (by decide)
  have := fmod_hi (drawZ ns 6) (n := 15) (by decide)
  split <;> omega
set_option maxHeartbeats 4000000 in
theorem law_p6 {s : Shared} {g : Heap} {E : Value → Shared → Prop} {Q : Flow → Shared → Prop} {tk : Nat} (L : Lw w mg mb g env A) {V : List (Str × Value)} {l pd rw' : Addr} {kd b n : Nat} {al : List UInt8} {tt ts tg tb tn : Tok} {M : List (Addr × Obj)} {ns : List Int} {vs : List Value}
    (vo : VO V l pd rw' kd b n al tt ts tg tb tn) (hal : al = alS ns) (hbl : b = al.length) (hb : 2 ≤ b) (hb2 : b ≤ 256) (hl : g.IsList l vs.toArray) (hi : IntsAre vs ns) (hn : ns.length ≤ 63)
    (S : St g env V M h)
    (k : ∀ ra us m t h tk, IntsAre us (RK ns) → St g env (("number", .int (numR ns) t) :: ("ranks", .ref ra) :: V) ((ra, lstO us m) :: M) h → wpAny (model prog w) A (execs ((lawStmts w).drop 17) env) Q E { s with heap := h, toks := tk }) :
    wpAny (model prog w) A (execs ((lawStmts w).drop 13) env) Q E { s with heap := h, toks := tk } := by
  have K := L.K
  have hh := L.ok.handled
  have ok1 : Ok A 1 := L.ok.mono (by decide)
  have hlb : ∀ {h'}, Sub g h' → h'.IsList l vs.toArray := fun k => hl.at fun o e => k _ _ e
  have mscript := vo.script
  have mbase := vo.base
  have hbz : (b : Int) = (alS ns).length := by rw [hbl, hal]
  have B₁ := L.B.sub S.base
  refine St.assign S (Ev.imp (Ev.oneLI (i := rk0 ns) (by
      unfold rk0
      rw [← hbz]
      exact Ev.fmod (ev_draw B₁ K.g (K.k _ _ (by kernel_rfl)) ok1 (S.ev (by walk_at "mem")) Ev.cint (hlb S.base) hi hn (by decide) (by decide)) (S.evI (by walk_at "mem")) (by omega))) fun v h' x => x.nw) (K.loc (by kernel_rfl)) (by walk_at "del") ?_
  rintro v nn h₁ tk₁ ⟨ra, us, m, rfl, rfl, hus⟩ S
  have B₁ := L.B.sub S.base
  have hcn := cntN_le ns
  have rE : ∀ {h' vars nw us m z} {pos : Pos}, (("ranks" : Str), Value.ref ra) ∈ vars → (ra, lstO us m) ∈ nw → IntsAre us z → St g env vars nw h' → Ev prog w A env h' (.Name "ranks" pos) (IsLI z) := fun hm hm2 hu S =>
    (S.ev hm).imp' fun v h'' kk e => by cases e; exact ⟨_, ⟨ra, rfl, lstO.at (kk _ _ (S.fn _ hm2).1)⟩, hu⟩
  refine St.for_ (F := IsRng (cntN ns)) (fp := []) (n := (upto (cntN ns)).length) (P := fun i v => ∃ a, (upto (cntN ns))[i]? = some a ∧ DI a v)
    (fun i vars nw => ∃ (us : List Value) (m : Nat), IntsAre us (rkZ ns i) ∧ vars = (("ranks" : Str), Value.ref ra) :: V ∧ nw = (ra, lstO us m) :: M)
    S (Ev.rng (n := cntN ns) (B₁.built (v := .type "range") K.g (by kernel_rfl) (by kernel_rfl) (by decide) (K.k _ _ (by kernel_rfl))) (Ev.ite (Te.gt (Ev.itemLI (k := 0) (a := rk0 ns) (rE (by walk_at "mem") List.mem_cons_self hus S) Ev.cint (by decide) (by decide) rfl) Ev.cint) (fun q => ?_) (fun q => ?_)))
    (fun v h' k x => src_rng hh x (by omega)) (fun b hb => nomatch hb) ⟨us, m, hus, rfl, rfl⟩ ?_ ?_
  · have q := of_decide_eq_true q
    have e : ((cntN ns : Nat) : Int) = (drawZ ns 6).fmod 15 := by
      unfold cntN; rw [if_pos q]
      have := fmod_lo (drawZ ns 6) (n := 15) (by decide)
      omega
    rw [e]
    exact Ev.fmod (ev_draw B₁ K.g (K.k _ _ (by kernel_rfl)) ok1 (S.ev (by walk_at "mem")) Ev.cint (hlb S.base) hi hn (by decide) (by decide)) Ev.cint (by decide)
  · have q := of_decide_eq_false q
    have e : ((cntN ns : Nat) : Int) = 0 := by unfold cntN; rw [if_neg q]; rfl
    rw [e]
    exact Ev.cint
  · rintro i v vars nw h₃ tk₃ I oI E' hin ⟨a, ha, t, rfl⟩ ⟨us, m, hus, rfl, rfl⟩ S
    rw [upto_len] at hin
    rw [upto_get hin] at ha
    cases ha
    refine St.assignTo S (K.loc (by kernel_rfl)) (by walk_at "del") fun h₄ tk₄ S => ?_
    have B₁ := L.B.sub S.base
    refine St.assignI S (i := drawZ ns (80 + i)) (ev_draw B₁ K.g (K.k _ _ (by kernel_rfl)) ok1 (S.ev (by walk_at "mem")) (Ev.add Ev.cint (S.evI (by walk_at "mem"))) (hlb S.base) hi hn (by omega) (by omega)) (K.loc (by kernel_rfl)) (by walk_at "del") fun t₅ h₅ tk₅ S => ?_
    refine appendTo (pre := [(I, oI)]) (post := M) (P := fun v nn => (∃ t, v = .int (rkX ns i) t) ∧ nn = []) S (by walk_at "mem") (Ev.nw (P := fun v => ∃ t, v = .int (rkX ns i) t) (Ev.ite (Te.eqI (Ev.fmod (S.evI (by walk_at "mem")) Ev.cint (by decide)) Ev.cint) (fun q => by
        have q := eq_of_beq q
        unfold rkX; rw [if_pos q, ← hbz]; exact Ev.subI (S.evI (by walk_at "mem")) Ev.cint) (fun q => by
        have q := ne_of_beq_false q
        unfold rkX; rw [if_neg q, ← hbz]; exact Ev.fmod (S.evI (by walk_at "mem")) (S.evI (by walk_at "mem")) (by omega)))) ?_ ?_
    · have e1 := hus.length
      have e2 : (rkZ ns i).length = 1 + i := by simp [rkZ]; omega
      rw [sizeLine_eq]; omega
    · rintro v nn n' h₇ tk₇ ⟨⟨t₇, rfl⟩, rfl⟩ S
      refine X.nil ⟨_, (ra, lstO (us ++ [Value.int (rkX ns i) t₇]) n') :: M, h₇, tk₇, ⟨us ++ [Value.int (rkX ns i) t₇], n', ?_, rfl, rfl⟩, S.weakV fun p hp => List.mem_cons_of_mem _ (List.mem_cons_of_mem _ hp), rfl⟩
      have e : rkZ ns (i + 1) = rkZ ns i ++ [rkX ns i] := by simp [rkZ, List.range_succ]
      rw [e]
      exact hus.append (.cons _ _ .nil)
  · rintro vars nw h₃ tk₃ ⟨us, m, hus, rfl, rfl⟩ S
    rw [upto_len] at hus
    have hus : IntsAre us (RK ns) := hus
    have hrl : (RK ns).length = 1 + cntN ns := by simp [RK, rkZ]; omega
    refine St.assignI S (i := 0) Ev.cint (K.can (by kernel_rfl)) (by walk_at "del") fun t₁ h₁ tk₁ S => ?_
    have B₁ := L.B.sub S.base
    refine St.for_ (F := IsRng (RK ns).length) (fp := []) (n := (upto (RK ns).length).length) (P := fun i v => ∃ a, (upto (RK ns).length)[i]? = some a ∧ DI a v)
      (fun i vars nw => ∃ (t : Tok), vars = (("number" : Str), Value.int (sumZ (alS ns).length (RK ns) i) t) :: ("ranks", .ref ra) :: V ∧ nw = (ra, lstO us m) :: M)
      S (Ev.rng (n := (RK ns).length) (B₁.built (v := .type "range") K.g (by kernel_rfl) (by kernel_rfl) (by decide) (K.k _ _ (by kernel_rfl))) (ev_lenL B₁ K.g (K.k _ _ (by kernel_rfl)) (rE (by walk_at "mem") (by walk_at "mem") hus S) (by omega)))
      (fun v h' k x => src_rng hh x (by omega)) (fun b hb => nomatch hb) ⟨t₁, rfl, rfl⟩ ?_ ?_
    · rintro i v vars nw h₄ tk₄ I oI E' hin ⟨a, ha, t, rfl⟩ ⟨tq, rfl, rfl⟩ S
      rw [upto_len] at hin
      rw [upto_get hin] at ha
      cases ha
      refine St.assignTo S (K.loc (by kernel_rfl)) (by walk_at "del") fun h₅ tk₅ S => ?_
      have hrev : ∃ r, (RK ns)[(-1 - (i : Int) + (RK ns).length).toNat]? = some r ∧ (RK ns).reverse.getD i 0 = r := by
        have e : (-1 - (i : Int) + (RK ns).length).toNat = (RK ns).length - 1 - i := by omega
        refine ⟨(RK ns)[(RK ns).length - 1 - i]'(by omega), by rw [e]; simp, ?_⟩
        rw [List.getD_eq_getElem?_getD, List.getElem?_reverse hin, List.getElem?_eq_getElem (by omega)]
        rfl
      obtain ⟨r, hr1, hr2⟩ := hrev
      have hrb : r.natAbs < 2 ^ 63 := by
        have := RK_bd ns (by omega) r (List.mem_of_getElem? hr1)
        omega
      refine St.assignI S (i := sumZ (alS ns).length (RK ns) (i + 1)) (by
        unfold sumZ
        rw [hr2, ← hbz]
        rw [← hbz] at S
        exact Ev.add (S.evI (by walk_at "mem")) (Ev.mul (Ev.itemLIN (k := -1 - (i : Int)) (rE (by walk_at "mem") (by walk_at "mem") hus S) (Ev.subI (Ev.neg Ev.cint) (S.evI (by walk_at "mem"))) (by omega) (by omega) (by omega) hr1) (by
          have e : (b : Int) ^ i = (b : Int) ^ ((i : Int)).toNat := by rw [Int.toNat_natCast]
          rw [e]
          exact Ev.pow (S.evI (by walk_at "mem")) (S.evI (by walk_at "mem")) (by omega) (by omega) (by omega)) (mulOk hrb))) (K.can (by kernel_rfl)) (by walk_at "del") fun t₆ h₆ tk₆ S => ?_
      exact X.nil ⟨_, _, h₆, tk₆, ⟨t₆, rfl, rfl⟩, S.weakV fun p hp => by
          rcases List.mem_cons.mp hp with rfl | hp
          · exact List.mem_cons_self
          · exact List.mem_cons_of_mem _ (List.mem_cons_of_mem _ hp), rfl⟩
    · rintro vars nw h₄ tk₄ ⟨tq, rfl, rfl⟩ S
      rw [upto_len] at S
      exact k ra us m tq h₄ tk₄ hus S
end
end Mine
end
section
open PySem PySem.W PySem.Calls PyProof.Rows
set_option linter.unusedVariables false
set_option maxRecDepth 100000
namespace Mine
local macro_rules | `(tactic| walk_at "mem") => `(tactic| first | with_reducible exact List.mem_cons_self | with_reducible assumption | (with_reducible refine List.mem_cons_of_mem _ ?_; walk_at "mem"))
local macro_rules | `(tactic| walk_at "del") => `(tactic| first | with_reducible exact Del.nil | (with_reducible refine VO.del (by assumption) ?_; decide) | (with_reducible refine' Del.hit ?hr; (case hr => walk_at "del")) | (refine' Del.miss ?hne ?hr; (case hne => decide); (case hr => walk_at "del")))
def rkAt (b : Int) (l : List Int) : Nat → List Int
  | 0 => l
  | i + 1 => nextZ (rkAt b l i) b
def encT (al : List UInt8) (n : Nat) : List UInt8 := if n = 0 then al.take 1 else enc al n
/-- what the law needs of the counted texts -/
structure CntOk (al : List UInt8) (l : List Int) (m : Nat) : Prop where
  len : ∀ i, i < 8 → (rkAt al.length l i).length ≤ 50
  dig : ∀ i, i < 8 → (digs al.length (m + i)).length ≤ 1000
  bd : ∀ i, i < 8 → ∀ r ∈ rkAt al.length l i, 0 ≤ r ∧ r < al.length
  txt : ∀ i, i < 8 → encT al (m + i) = (rkAt al.length l i).map fun r => al.getD r.toNat 0
def textsN (al : List UInt8) (m i : Nat) : List (List UInt8) := (List.range i).map fun k => encT al (m + k)
def DBL (t : List UInt8) (v : Value) : Prop := ∃ u, v = .bytes t.toArray u
section
variable {prog : Program} {w : World} {A : Around} {env : Env} {mg mb : Str → Option Value} {h : Heap}
set_option maxHeartbeats 4000000 in
theorem law_p7 {s : Shared} {g : Heap} {E : Value → Shared → Prop} {tk : Nat} {Q : Flow → Shared → Prop} (L : Lw w mg mb g env A) {V : List (Str × Value)} {l pd rw' ra : Addr} {kd b n m : Nat} {al : List UInt8} {tt ts tg tb tn t : Tok} {M : List (Addr × Obj)} {us : List Value} {mr : Nat} {rk : List Int}
    (vo : VO V l pd rw' kd b n al tt ts tg tb tn) (hbl : b = al.length) (hb : 2 ≤ b) (hb2 : b ≤ 256) (hkd : kd = 0 → al = bitcoin) (hus : IntsAre us rk) (co : CntOk al rk m)
    (S : St g env (("number", .int (m : Int) t) :: ("ranks", .ref ra) :: V) ((ra, lstO us mr) :: M) h)
    (k : ∀ tx vt nt M' h tk, All2 DBL (textsN al m 7) vt → (∀ p ∈ M, p ∈ M') → St g env (("texts", .ref tx) :: ("number", .int (m : Int) t) :: V) ((tx, lstO vt nt) :: M') h → wpAny (model prog w) A (execs ((lawStmts w).drop 19) env) Q E { s with heap := h, toks := tk }) :
    wpAny (model prog w) A (execs ((lawStmts w).drop 17) env) Q E { s with heap := h, toks := tk } := by
  have K := L.K
  have hh := L.ok.handled
  have ok1 : Ok A 1 := L.ok.mono (by decide)
  have mkind := vo.kind
  have msigns := vo.signs
  have mgiven := vo.given
  have mbase := vo.base
  subst hbl
  refine St.assign S (P := fun v l => ∃ a, v = .ref a ∧ l = [(a, lstO [] 0)]) (Ev.nil.imp fun v h' ⟨a, e, e0, y⟩ => ⟨[(a, lstO [] 0)], ⟨a, e, rfl⟩, fun p hp => by rw [List.mem_singleton.mp hp]; exact ⟨e0, y⟩, by simp⟩) (K.loc (by kernel_rfl)) (by walk_at "del") ?_
  rintro v nn h₁ tk₁ ⟨tx, rfl, rfl⟩ S
  have B₁ := L.B.sub S.base
  refine St.for_ (F := IsRng 7) (fp := []) (n := (upto 7).length) (P := fun i v => ∃ a, (upto 7)[i]? = some a ∧ DI a v)
    (fun i vars nw => ∃ (ra : Addr) (us : List Value) (mr : Nat) (vt : List Value) (nt : Nat) (M' : List (Addr × Obj)), IntsAre us (rkAt al.length rk i) ∧ All2 DBL (textsN al m i) vt ∧ (∀ p ∈ M, p ∈ M') ∧
      vars = (("texts" : Str), Value.ref tx) :: ("number", .int (m : Int) t) :: ("ranks", .ref ra) :: V ∧ nw = (tx, lstO vt nt) :: (ra, lstO us mr) :: M')
    S (Ev.rng (n := 7) (B₁.built (v := .type "range") K.g (by kernel_rfl) (by kernel_rfl) (by decide) (K.k _ _ (by kernel_rfl))) Ev.cint)
    (fun v h' k x => src_rng hh x (by omega)) (fun b hb => nomatch hb) ⟨ra, us, mr, [], 0, M, hus, by simpa [textsN] using All2.nil, fun p hp => hp, rfl, rfl⟩ ?_ ?_
  · rintro i v vars nw h₃ tk₃ I oI E' hin ⟨a, ha, t', rfl⟩ ⟨ra, us, mr, vt, nt, M', hus, hT, hMM, rfl, rfl⟩ S
    rw [upto_len] at hin
    rw [upto_get hin] at ha
    cases ha
    refine St.assignTo S (K.loc (by kernel_rfl)) (by walk_at "del") fun h₄ tk₄ S => ?_
    have B₁ := L.B.sub S.base
    have hdig := co.dig i (by omega)
    have hlen := co.len i (by omega)
    have hbd := co.bd i (by omega)
    have htxt := co.txt i (by omega)
    have numE : ∀ {p q r : Pos}, Ev prog w A env h₄ (.BinOp (.Name "number" p) .Add (.Name "k" q) r) (IsI ((m + i : Nat) : Int)) := by
      intro p q r
      rw [Int.natCast_add]
      exact Ev.add (S.evI (by walk_at "mem")) (S.evI (by walk_at "mem"))
    refine St.assignB S (i := (encT al (m + i)).toArray) (Ev.ite (Te.eqI (S.evI (by walk_at "mem")) Ev.cint) (fun q => ?_) (fun q => ?_)) (K.loc (by kernel_rfl)) (by walk_at "del") fun t₅ h₅ tk₅ S => ?_
    · have e0 : kd = 0 := by have := eq_of_beq q; omega
      refine Ev.callF (a := 29) (B₁.glob K.g (by kernel_rfl) (K.k _ _ (by kernel_rfl))) (B₁.X 29 _ rfl) rfl (Ag.one numE (mI _)) ?_
      rintro vs h' kk ⟨v, rfl, u, rfl⟩
      have := fn_enc (prog := prog) (B₁.sub kk) ok1 (args := ⟨[.int ((m + i : Nat) : Int) u], []⟩) (ti := u) (tu := 189) (d := true) (al := bitcoin) (n := m + i) (fun s hs => bind29 (B₁.sub kk) hs rfl rfl) (by decide) (by decide) (by rw [← hkd e0]; exact hdig)
      rw [hkd e0]
      unfold encT
      simpa using this
    · refine Ev.callF (a := 29) (B₁.glob K.g (by kernel_rfl) (K.k _ _ (by kernel_rfl))) (B₁.X 29 _ rfl) rfl (Ag.three numE Ev.cbool (S.evB (i := al.toArray) (by walk_at "mem")) (mI _) (mV _) (mB _)) ?_
      rintro vs h' kk ⟨_, _, _, rfl, ⟨u, rfl⟩, rfl, u', rfl⟩
      have := fn_enc (prog := prog) (B₁.sub kk) ok1 (args := ⟨[.int ((m + i : Nat) : Int) u, .bool true, .bytes al.toArray u'], []⟩) (ti := u) (tu := u') (d := true) (al := al) (n := m + i) (fun s hs => bind29 (B₁.sub kk) hs rfl rfl) (by omega) (by omega) hdig
      unfold encT
      simpa using this
    have B₁ := L.B.sub S.base
    have ranksE : ∀ {pos : Pos}, Ev prog w A env h₅ (.Name "ranks" pos) (IsV (.ref ra)) := S.ev (by walk_at "mem")
    have hLr := lstO.at (S.fn (ra, lstO us mr) (by walk_at "mem")).1
    refine St.ifs (b := false) (Te.or (At.orF (Te.cast (Te.not (Te.bool (ev_isB B₁ K.g (K.k _ _ (by kernel_rfl)) (K.k _ _ (by kernel_rfl)) (S.evB (by walk_at "mem"))))) rfl)
      (At.orF (Te.cast (Te.neB (S.evB (by walk_at "mem")) (Ev.bytesL (B₁.built (v := .type "bytes") K.g (by kernel_rfl) (by kernel_rfl) (by decide) (K.k _ _ (by kernel_rfl)))
        ((Ev.comp (D := DI) (xs := rkAt al.length rk i) (p := fun _ => true) (g := fun y => (((al.getD y.toNat 0).toNat : Nat) : Int)) (F := IsV (.ref ra)) (fp := [ra]) (fun _ _ _ x y => x.inj y)
          ranksE (fun v h' kk x => by cases x; exact src_ints hh (hLr.at fun o e => kk _ _ e) hus) (fun b hb => by rw [List.mem_singleton.mp hb]; exact ⟨_, (S.fn (ra, lstO us mr) (by walk_at "mem")).1⟩) (by rw [sizeLine_eq]; omega) (K.cs' (by kernel_rfl))
          (fun C a v h' _ _ _ _ => tests_nil) (fun C y v h' hy _ d kk hv => Ev.itemB (l := al) ((S.capt K (by walk_at "mem") kk rfl (by kernel_rfl) rfl).byt) (Ev.loopv rfl hv d) (by omega) (hbd y hy).1 (hbd y hy).2)).imp fun v h' x => x.li) ?_ ?_ hh)) ?_) At.nil))) (fun e => nomatch e) fun _ h' tk' k' => ?_
    · intro x hx
      obtain ⟨y, _, rfl⟩ := List.mem_map.mp hx
      have := (al.getD y.toNat 0).toNat_lt
      omega
    · rw [List.length_map]
      have := List.length_filter_le (fun _ => true) (rkAt al.length rk i)
      omega
    · have hf : ((rkAt al.length rk i).filter fun _ => true) = rkAt al.length rk i := by simp
      rw [hf, htxt]
      have e : bytesOf ((rkAt al.length rk i).map fun y => (((al.getD y.toNat 0).toNat : Nat) : Int)) = (rkAt al.length rk i).map fun r => al.getD r.toNat 0 := by
        unfold bytesOf
        rw [List.map_map]
        apply List.map_congr_left
        intro y _
        exact u8_back _
      rw [e]; simp
    have S := S.grow k'
    refine X.nil ?_
    have hTl := hT.len
    refine appendTo (pre := [(I, oI)]) (post := (ra, lstO us mr) :: M') (P := fun v nn => v = .bytes (encT al (m + i)).toArray t₅ ∧ nn = []) S (by walk_at "mem") (Ev.nw (P := fun v => v = .bytes (encT al (m + i)).toArray t₅) (S.ev (by walk_at "mem"))) ?_ ?_
    · have e : (textsN al m i).length = i := by simp [textsN]
      rw [hTl, e, sizeLine_eq]; omega
    · rintro v nn n' h₇ tk₇ ⟨rfl, rfl⟩ S
      have B₁ := L.B.sub S.base
      have hLr := lstO.at (S.fn (ra, lstO us mr) (by simp)).1
      refine St.assign S (Ev.imp (Ev.callF (a := 70) (B₁.glob K.g (by kernel_rfl) (K.k _ _ (by kernel_rfl))) (B₁.X 70 _ rfl) rfl (Ag.two (S.ev (v := .ref ra) (by walk_at "mem")) (S.evI (i := (al.length : Int)) (by walk_at "mem")) (mV _) (mI _)) (H := NI h₇ (rkAt al.length rk (i + 1))) ?_) fun v h' x => x.nw) (K.loc (by kernel_rfl)) (by walk_at "del") ?_
      · rintro vs h' kk ⟨_, _, rfl, rfl, u, rfl⟩
        exact (fn_next (B₁.sub kk) ok1 (hLr.at fun o e => kk _ _ e) hus (by omega)).imp fun v h'' x => NI.sub kk x
      · rintro v nn h₈ tk₈ ⟨ra', us', mr', rfl, rfl, hus'⟩ S
        refine X.nil ⟨_, (tx, lstO (vt ++ [Value.bytes (encT al (m + i)).toArray t₅]) n') :: (ra', lstO us' mr') :: (ra, lstO us mr) :: M', h₈, tk₈, ⟨ra', us', mr', vt ++ [Value.bytes (encT al (m + i)).toArray t₅], n', (ra, lstO us mr) :: M', hus', ?_, fun p hp => List.mem_cons_of_mem _ (hMM p hp), rfl, rfl⟩, (S.weakV ?_).perm ?_, rfl⟩
        · have e : textsN al m (i + 1) = textsN al m i ++ [encT al (m + i)] := by simp [textsN, List.range_succ]
          rw [e]
          exact hT.snoc ⟨t₅, rfl⟩
        · intro p hp
          simp only [List.mem_cons] at hp ⊢
          rcases hp with rfl | rfl | rfl | hp
          · simp
          · simp
          · simp
          · exact .inr (.inr (.inr (.inr (.inr hp))))
        · show List.Perm ((ra', lstO us' mr') :: (I, oI) :: (tx, _) :: (ra, lstO us mr) :: M') ((I, oI) :: (tx, _) :: (ra', lstO us' mr') :: (ra, lstO us mr) :: M')
          exact List.perm_append_comm_assoc [(ra', lstO us' mr')] [(I, oI), (tx, _)] _
  · rintro vars nw h₃ tk₃ ⟨ra, us, mr, vt, nt, M', hus, hT, hMM, rfl, rfl⟩ S
    rw [upto_len] at hT
    refine k tx vt nt ((ra, lstO us mr) :: M') h₃ tk₃ hT (fun p hp => List.mem_cons_of_mem _ (hMM p hp)) (S.weakV fun p hp => ?_)
    simp only [List.mem_cons] at hp ⊢
    rcases hp with rfl | rfl | hp
    · simp
    · simp
    · exact .inr (.inr (.inr hp))
end
end Mine
end
section
open PySem PySem.W PySem.Calls PyProof.Rows
set_option linter.unusedVariables false
set_option maxRecDepth 100000
namespace Mine
def kRun {α : Type} (lt : Nat → Nat → Bool) : KasT α → α
  | .ret a => a
  | .ask i j k => kRun lt (k (lt i j))
def kGood {α : Type} (n : Nat) (lt : Nat → Nat → Bool) : KasT α → Bool
  | .ret _ => true
  | .ask i j k => decide (i < n) && decide (j < n) && kGood n lt (k (lt i j))
theorem kRun_wp {α : Type} {n : Nat} {lt : Nat → Nat → Bool} {cmp : Nat → Nat → (Bool → Shared → Prop) → Shared → Prop} {Q : α → Shared → Prop} {s : Shared} (hc : ∀ i j C, i < n → j < n → C (lt i j) s → cmp i j C s) :
    ∀ t : KasT α, kGood n lt t = true → Q (kRun lt t) s → t.kasWp cmp Q s
  | .ret a, _, h => h
  | .ask i j k, g, h => by
    simp only [kGood, Bool.and_eq_true, decide_eq_true_eq] at g
    exact hc i j _ g.1.1 g.1.2 (kRun_wp hc (k (lt i j)) g.2 h)
/-- how seven keys lie that come as 3, 4, 5, 6, 0, 1, 2 -/
def lt7 (i j : Nat) : Bool := decide ((i + 3) % 7 < (j + 3) % 7)
theorem run7 : kRun lt7 (kas_sort 7) = #[4, 5, 6, 0, 1, 2, 3] := by decide +kernel
theorem good7 : kGood 7 lt7 (kas_sort 7) = true := by decide +kernel
section
variable {prog : Program} {w : World} {A : Around} {E : Value → Shared → Prop} {s : Shared}
theorem lt_keys {a b : Addr} {vs ws : List Value} {ns ms : List Int} {C : Bool → Shared → Prop} (hl : s.heap.IsList a vs.toArray) (hb : s.heap.IsList b ws.toArray) (x : IntsAre vs ns) (y : IntsAre ws ms) (hu : A.units < cLine) (h : C (ltI ns ms) s) :
    wpAny (model prog w) A (keyLt' oneType' (.ref a) (.ref b)) C E s := by
  obtain ⟨⟨cls, dd, data, sl⟩, ho, hc, n, hd⟩ := id hl
  obtain ⟨⟨cls2, dd2, data2, sl2⟩, ho2, hc2, n2, hd2⟩ := id hb
  simp only at hc hd hc2 hd2
  subst hc hd hc2 hd2
  rw [keyLt'_oneType, oneLt'_eq]
  simp only [if_true]
  refine wpAny_bind (wpAny_cRoomFor hu ?_)
  refine wpAny_bind (wpAny_callSpecialIfBound?_slot hl.typeIs F.slot_list_lt (call_meets F.slot_list_lt hl.typeIs F.entry_list_lt (F.args_list_lt_2 _ _) (list_lt a b vs ws ns ms x y n n2 dd dd2 sl sl2) ⟨ho, ho2, ?_⟩))
  exact wpAny_truthy_bool h

theorem UpdF.mid {d : Addr} {o : Obj} {post : List (Addr × Obj)} (h2 : ∀ p ∈ post, p.1 ≠ d) : ∀ {pre : List (Addr × Obj)}, (∀ p ∈ pre, p.1 ≠ d) → UpdF d o (pre ++ (d, o) :: post) (fun o' => pre ++ (d, o') :: post)
  | [], _ => .head h2
  | p :: r, h => .tail (h p List.mem_cons_self) (UpdF.mid h2 (pre := r) fun q hq => h q (List.mem_cons_of_mem _ hq))
end
end Mine
end
section
open PySem PySem.W PySem.Calls PyProof.Rows
set_option linter.unusedVariables false
set_option maxRecDepth 100000
namespace Mine
/-- all that lies in a heap but one -/
def allBut (h : Heap) (L : Addr) : List (Addr × Obj) := (List.range h.objs.size).filterMap fun a => if a = L then none else (h.get? a).map fun o => (a, o)
theorem mem_allBut {h : Heap} {L : Addr} {p : Addr × Obj} : p ∈ allBut h L ↔ p.1 ≠ L ∧ h.get? p.1 = some p.2 := by
  unfold allBut
  rw [List.mem_filterMap]
  constructor
  · rintro ⟨a, ha, e⟩
    by_cases q : a = L
    · rw [if_pos q] at e; cases e
    · rw [if_neg q] at e
      obtain ⟨o, ho, e⟩ := Option.map_eq_some_iff.mp e
      subst e
      exact ⟨q, ho⟩
  · rintro ⟨h1, h2⟩
    exact ⟨p.1, List.mem_range.mpr (Heap.lt_size h2), by rw [if_neg h1, h2]; rfl⟩
def nilHeap : Heap := { (default : Heap) with objs := #[] }
theorem nil_get (a : Addr) : nilHeap.get? a = none := Heap.get?_none_of_le (Nat.zero_le _)
/-- a list of ints of the ledger's, as the sort's own objects are written -/
def Kin (N : List (Addr × Obj)) (z : List Int) (v : Value) : Prop := ∃ a vs n, v = .ref a ∧ (a, lstO vs n) ∈ N ∧ IntsAre vs z
section
variable {prog : Program} {w : World} {A : Around} {E : Value → Shared → Prop}
structure KInv (s : Shared) (L : Addr) (m : Str → Option Value) (kS D : Addr) (e1 : Nat) (AB : List (Addr × Obj)) (zs : List (List Int)) (ks : List Value) (e : Nat) (s' : Shared) : Prop where
  st : ∃ hh tk, s' = { s with heap := hh, toks := tk }
  F : Fr nilHeap L s'.heap m
  N : ∃ X, News nilHeap L s'.heap ((kS, seqObj "list" (List.toArray ks) e) :: (X ++ (D, seqObj "list" #[] e1) :: AB)) ∧ All2 (Kin X) zs ks ∧ (∀ p ∈ X, p.1 ≠ kS ∧ p.1 ≠ D)
theorem keys_loop {s : Shared} {L : Addr} {m : Str → Option Value} {kS D : Addr} {e1 : Nat} {AB : List (Addr × Obj)} {f : Value} {Fin : List Value → Nat → Shared → Prop} (hD : D ≠ kS) (hab : ∀ p ∈ AB, p.1 ≠ kS ∧ p.1 ≠ D) :
    ∀ (r : List Value) (rz : List (List Int)) (zs : List (List Int)) (ks : List Value) (e : Nat) (s' : Shared), 
      All2 (fun z v => ∀ hh, (∀ p ∈ AB, hh.get? p.1 = some p.2) → hh.Ns L m → Gr prog w A hh (call f [v]) (NI hh z)) rz r → KInv s L m kS D e1 AB zs ks e s' →
      (∀ ks e s', KInv s L m kS D e1 AB (zs ++ rz) ks e s' → Fin ks e s') → KatKeys prog w A nilHeap L m kS f Fin r ks e s'
  | [], rz, zs, ks, e, s', hr, I, hF => by
    cases hr
    rw [List.append_nil] at hF
    exact hF ks e s' I
  | v :: r, rz, zs, ks, e, s', hr, I, hF => by
    obtain ⟨z, q, rfl⟩ : ∃ z q, rz = z :: q := by cases hr; exact ⟨_, _, rfl⟩
    obtain ⟨hz, hq⟩ : (∀ hh, (∀ p ∈ AB, hh.get? p.1 = some p.2) → hh.Ns L m → Gr prog w A hh (call f [v]) (NI hh z)) ∧ All2 (fun z v => ∀ hh, (∀ p ∈ AB, hh.get? p.1 = some p.2) → hh.Ns L m → Gr prog w A hh (call f [v]) (NI hh z)) q r := by cases hr; exact ⟨‹_›, ‹_›⟩
    obtain ⟨⟨hh, tk, rfl⟩, F, X, N, hK, hX⟩ := I
    refine KatKeys.cons ?_
    have hz' := hz hh (fun p hp => (N p (List.mem_cons_of_mem _ (List.mem_append_right _ (List.mem_cons_of_mem _ hp)))).1) F.ns
    refine wpAny_mono (hz' { s with heap := hh, toks := tk } _ (Sub.refl _)) (fun v' s'' ⟨⟨a, us, n, e0, e2, e3, e4⟩, kk⟩ => ?_) fun _ _ x => x
    subst e0
    obtain ⟨h₂, tk₂, rfl, k₂⟩ := kk
    have aL : a ≠ L := fun q => by
      obtain ⟨oL, _, _, hoL, _⟩ := F.ns
      rw [q, hoL] at e2; cases e2
    have aN : ∀ p ∈ (kS, seqObj "list" (List.toArray ks) e) :: (X ++ (D, seqObj "list" #[] e1) :: AB), p.1 ≠ a := fun p hp q => by
      have := (N p hp).1
      rw [q, e2] at this; cases this
    have aK : a ≠ kS := fun q => aN _ List.mem_cons_self q.symm
    have aD : a ≠ D := fun q => aN (D, seqObj "list" #[] e1) (by simp) q.symm
    have F₂ : Fr nilHeap L h₂ m := ⟨F.ns.keeps k₂, (fun b o x => by rw [nil_get] at x; cases x), Nat.zero_le _⟩
    have N₂ : News nilHeap L h₂ ((kS, seqObj "list" (List.toArray ks) e) :: ((a, lstO us n) :: X ++ (D, seqObj "list" #[] e1) :: AB)) := fun p hp => by
      rcases List.mem_cons.mp hp with rfl | hp
      · exact ⟨k₂ _ _ (N _ List.mem_cons_self).1, (N _ List.mem_cons_self).2⟩
      · rcases List.mem_cons.mp hp with rfl | hp
        · exact ⟨e3, aL, nil_get _⟩
        · exact ⟨k₂ _ _ (N _ (List.mem_cons_of_mem _ hp)).1, (N _ (List.mem_cons_of_mem _ hp)).2⟩
    have hX' : ∀ p ∈ (a, lstO us n) :: X, p.1 ≠ kS ∧ p.1 ≠ D := fun p hp => by
      rcases List.mem_cons.mp hp with rfl | hp
      · exact ⟨aK, aD⟩
      · exact hX p hp
    refine KatBack.intro (s := { s with heap := h₂, toks := tk₂ }) F₂ N₂ (UpdF.head fun p hp => ?_) fun h' c F' N' => ?_
    · rcases List.mem_append.mp hp with hp | hp
      · exact (hX' p hp).1
      · rcases List.mem_cons.mp hp with rfl | hp
        · exact hD
        · exact (hab p hp).1
    · refine keys_loop hD hab r q (zs ++ [z]) (ks ++ [.ref a]) c _ hq ⟨⟨h', tk₂, rfl⟩, F', (a, lstO us n) :: X, N', ?_, hX'⟩ fun ks e s' I => hF ks e s' (by rw [List.append_assoc] at I; exact I)
      exact (hK.imp fun z v ⟨a, vs, n, e, hm, i⟩ => ⟨a, vs, n, e, List.mem_cons_of_mem _ hm, i⟩).snoc ⟨a, us, n, rfl, List.mem_cons_self, e4⟩

theorem sorted7 {s : Shared} {L : Addr} {m : Str → Option Value} {l7 f : Addr} {vs : List Value} {kz : List (List Int)} {Q : Value → Shared → Prop} (hn : s.heap.Ns L m) (hl : s.heap.IsList l7 vs.toArray) (hv : vs.length = 7) (hu : A.in1.in1.units < cLine)
    (hf : All2 (fun z v => ∀ hh, (∀ b o, b ≠ L → s.heap.get? b = some o → hh.get? b = some o) → hh.Ns L m → Gr prog w A.in1.in1 hh (call (.ref f) [v]) (NI hh z)) kz vs)
    (hlt : ∀ i j, i < 7 → j < 7 → ltI (kz.getD i []) (kz.getD j []) = lt7 i j)
    (hQ : ∀ D n h' tk, s.heap.get? D = none → D ≠ L → h'.get? D = some (lstO ([4, 5, 6, 0, 1, 2, 3].map fun i => vs.getD i Value.none) n) → (∀ b o, b ≠ L → s.heap.get? b = some o → h'.get? b = some o) → h'.Ns L m → Q (.ref D) { s with heap := h', toks := tk }) :
    wpAny (model prog w) A (call (.builtin "sorted") [.ref l7] [("key", .ref f)]) Q E s := by
  have F0 : Fr nilHeap L s.heap m := ⟨hn, (fun b o x => by rw [nil_get] at x; cases x), Nat.zero_le _⟩
  have N0 : News nilHeap L s.heap (allBut s.heap L) := fun p hp => ⟨(mem_allBut.mp hp).2, (mem_allBut.mp hp).1, nil_get _⟩
  refine kat_sortedK (b := false) F0 N0 hl (by omega) (by omega) (ksk_s1 _ _) (fun x => ksk_l1 _ _) (fun x => ksk_t1 _ _) fun D kS e1 h' F N hDk hab => ?_
  have hDn : s.heap.get? D = none := by
    cases q : s.heap.get? D with
    | none => rfl
    | some o =>
      have hDL := (N (D, seqObj "list" #[] e1) (by simp)).2.1
      exact absurd (hab (D, o) (mem_allBut.mpr ⟨hDL, q⟩)) (Nat.lt_irrefl _)
  refine keys_loop (s := s) (D := D) (e1 := e1) (AB := allBut s.heap L) (Nat.ne_of_lt hDk) (fun p hp => ⟨Nat.ne_of_lt (Nat.lt_trans (hab p hp) hDk), Nat.ne_of_lt (hab p hp)⟩) vs kz [] [] 0 _
    (hf.imp fun z v hz hh ha hns => hz hh (fun b o hb e => ha (b, o) (mem_allBut.mpr ⟨hb, e⟩)) hns) ⟨⟨h', s.toks, rfl⟩, F, [], N, .nil, fun p hp => nomatch hp⟩ fun ks e s' I => ?_
  rw [List.nil_append] at I
  obtain ⟨⟨hh, tk, rfl⟩, F', X, N', hK, hX⟩ := I
  have hkl : ks.length = 7 := by rw [hK.len, ← hf.len, hv]
  have key : ∀ i, i < 7 → ∃ a us n, ks.getD i Value.none = .ref a ∧ hh.IsList a us.toArray ∧ IntsAre us (kz.getD i []) := fun i hi => by
    obtain ⟨z, hz, a, us, n, e, hm, ia⟩ := hK.get' i (ks[i]'(by omega)) (by simp)
    refine ⟨a, us, n, ?_, lstO.at (N' (a, lstO us n) (List.mem_cons_of_mem _ (List.mem_append_left _ hm))).1, ?_⟩
    · rw [List.getD_eq_getElem?_getD, List.getElem?_eq_getElem (by omega)]; exact e
    · rw [List.getD_eq_getElem?_getD, hz]; exact ia
  refine kas_kind (T := .type "list") (by omega) (fun v hv' => ?_) (by decide) (by decide) ?_
  · obtain ⟨i, hi, rfl⟩ := List.mem_iff_getElem.mp hv'
    obtain ⟨a, us, n, e, hla, _⟩ := key i (by omega)
    have e' : ks[i] = .ref a := by
      rw [List.getD_eq_getElem?_getD, List.getElem?_eq_getElem hi] at e; exact e
    rw [e']
    intro A' Q' E' s2 hk hq
    exact wpAny_typeOf (hla.at fun o e => hk _ _ e).typeIs hq
  · rw [hv]
    refine kRun_wp (n := 7) (lt := lt7) (fun i j C hi hj hC => ?_) _ good7 ?_
    · obtain ⟨a, us, n, e, hla, ia⟩ := key i hi
      obtain ⟨b, ws, n', e', hlb, ib⟩ := key j hj
      show wpAny _ _ (keyLt' oneType' (ks.getD i Value.none) (ks.getD j Value.none)) _ _ _
      rw [e, e']
      refine lt_keys hla hlb ia ib hu ?_
      rw [hlt i j hi hj]
      exact hC
    · rw [run7]
      refine KatFin.intro (s := { s with heap := hh, toks := tk }) F' N' (UpdF.head fun p hp => ?_) fun h2 c F2 N2 => ?_
      · rcases List.mem_append.mp hp with hp | hp
        · exact (hX p hp).1
        · rcases List.mem_cons.mp hp with rfl | hp
          · exact Nat.ne_of_lt hDk
          · exact Nat.ne_of_lt (Nat.lt_trans (hab p hp) hDk)
      · refine KasFin.intro (s := { s with heap := h2, toks := tk }) F2 N2 (UpdF.mid (pre := (kS, seqObj "list" #[] c) :: X) (fun p hp => Nat.ne_of_lt (hab p hp)) fun p hp => ?_) fun h3 c3 F3 N3 => ?_
        · rcases List.mem_cons.mp hp with rfl | hp
          · exact Nat.ne_of_gt hDk
          · exact (hX p hp).2
        · have hD3 := N3 (D, _) (List.mem_append_right _ List.mem_cons_self)
          exact hQ D c3 h3 tk hDn hD3.2.1 hD3.1 (fun b o hb e => (N3 (b, o) (List.mem_append_right _ (List.mem_cons_of_mem _ (mem_allBut.mpr ⟨hb, e⟩)))).1) F3.ns
end
end Mine
end
section
open PySem PySem.W PySem.Calls PyProof.Rows
set_option linter.unusedVariables false
set_option maxRecDepth 100000
namespace Mine
section
variable {prog : Program} {w : World} {A : Around} {env : Env} {h : Heap}
/-- a lambda is called -/
theorem fn_lamE {f c' : Addr} {name qual : Str} {params : Arguments} {body : PySem.Expr} {scope : Scope} {cl : List (Str × Addr)} {pm ctv : Value} {vs : List Value} {binds : List (Str × Value)} {F : VP} {n : Nat}
    (ho : h.get? f = some (kla_obj name qual params body scope cl pm c' ctv)) (hcd : h.CodeRec (.ref c') qual) (hlim : h.NoLimit) (hok : Ok A (n + 1))
    (hbind : bindArgs (kla_fn name qual params body scope cl pm (.ref c') ctv) ⟨vs, []⟩ = pure binds) (hcell : ∀ x ∈ scope.names, x.2 ≠ .cell) (hloc : ∀ x ∈ binds, scope.names.lookup x.1 = some .local) (hnd : (binds.map (·.1)).Nodup)
    (hbd : ∀ (s : Shared) (env : Env) (A' : Around) (h₁ : Heap), Sub h s.heap → Sub s.heap h₁ → GEnv env → env.scope = scope → env.cells = cl → (∀ p ∈ binds, Holds h₁ env p.1 p.2) → Ok A' n → Ev prog w A' env h₁ body F)
    (hco : scope.isCoroutine = false := by rfl) (hgen : scope.isGenerator = false := by rfl) (hk : scope.kind = .function := by rfl) :
    Gr prog w A h (call (.ref f) vs) F := fun s E hs => by
  have hcd' : s.heap.CodeRec (.ref c') qual := let ⟨c, oc, vs, tq, e1, e2, e3, e4⟩ := hcd; ⟨c, oc, vs, tq, e1, hs _ _ e2, e3, e4⟩
  refine wpAny_call (kla_callFunE (fd := kla_fn name qual params body scope cl pm (.ref c') ctv) (by have := hok.depth; omega) (hs _ _ ho) rfl hco hgen rfl hcd' ?_)
  refine wpAny_of_eq hbind (wpAny_newFunctionEnv hcell hloc (fun h₀ hns hsb => ⟨(hlim.keeps hs).fresh _ hsb, kla_codeExpr ?_⟩) hk)
  have k0 : Sub s.heap h₀ := fun b o e => hsb.extBut b o (Nat.ne_of_lt (Heap.lt_size e)) (Heap.get?_push_of_some _ e)
  have hb := hbd s (newEnv scope s.heap.objs.size mainGlobals cl (qual ++ ".<locals>.") (some f) (.ref c') none builtinsNs) (A.deeper (newEnv scope s.heap.objs.size mainGlobals cl (qual ++ ".<locals>.") (some f) (.ref c') none builtinsNs)) h₀ hs k0 ⟨hk, rfl, rfl⟩ rfl rfl (fun p hp => ?_) hok.deeper
  · exact wpAny_mono (hb { s with heap := h₀, toks := s.toks + binds.length } _ (Sub.refl _)) (fun v s' ⟨hv, k⟩ => ⟨hv, Kp.trans (Kp.heap k0) k⟩) fun _ _ e => e
  · have hr : (binds.reverse.map (·.1)).Nodup := by rw [List.map_reverse]; exact (List.reverse_perm _).nodup_iff.mpr hnd
    exact .inl ⟨hloc p hp, _, hns, lookup_nodup hr (List.mem_reverse.mpr hp)⟩
theorem cw_machineK {M : Model} {E : Value → Shared → Prop} {s : Shared} {pos : Pos} {f : Value} {first : List Value} {args : List (Bool × Sem Value)} {ks : List (Option Str × Sem Value)} {Q : Value → Shared → Prop} (hm : keeperOf f = pure .machine) (hplain : args.any (·.1) = false) (hks : ks.any (·.1.isNone) = false)
    (hq : wpAny M A (evalArgs f true args ks) (fun a s₁ => wpAny M A (call f (first ++ a.pos) a.kw) Q E s₁) E s) : wpAny M A (callWith pos f first args ks) Q E s := by
  unfold callWith
  refine wpAny_bind (wpAny_holding (wpAny_mono hq (fun a s₁ h₁ => wpAny_bind (wpAny_standAt ?_)) fun _ _ x => x))
  simp only [hplain, hks, Bool.or_false, hm]
  refine wpAny_bind (wpAny_pure ?_)
  exact wpAny_bind (wpAny_mono h₁ (fun r s₂ hr => wpAny_bind (wpAny_holding (wpAny_point (wpAny_pure hr)))) fun _ _ x => x)
end
end Mine
end
section
open PySem PySem.W PySem.Calls PyProof.Rows
set_option linter.unusedVariables false
set_option maxRecDepth 100000
namespace Mine
local macro_rules | `(tactic| walk_at "mem") => `(tactic| first | with_reducible exact List.mem_cons_self | with_reducible assumption | (with_reducible refine List.mem_cons_of_mem _ ?_; walk_at "mem"))
local macro_rules | `(tactic| walk_at "del") => `(tactic| first | with_reducible exact Del.nil | (with_reducible refine VO.del (by assumption) ?_; decide) | (with_reducible refine' Del.hit ?hr; (case hr => walk_at "del")) | (refine' Del.miss ?hne ?hr; (case hne => decide); (case hr => walk_at "del")))
def keyZ (al t : List UInt8) : List Int := [(t.length : Int)] ++ rnk al t
/-- what the law needs of the order -/
structure OrdOk (al : List UInt8) (m : Nat) : Prop where
  len : ∀ t ∈ textsN al m 7, t.length ≤ 60
  inn : ∀ t ∈ textsN al m 7, ∀ c ∈ codes t, (plcZ al c).isSome = true
  lt : ∀ i j, i < 7 → j < 7 → ltI (keyZ al (encT al (m + i))) (keyZ al (encT al (m + j))) = decide (i < j)
section
variable {prog : Program} {w : World} {A : Around} {env : Env} {mg mb : Str → Option Value} {h : Heap}
theorem St.offL {hb h h' : Heap} {vars : List (Str × Value)} {news : List (Addr × Obj)} {m : Str → Option Value} (S : St hb env vars news h) (hm : h.Ns env.locals m) (hn : h'.Ns env.locals m) (hk : ∀ b o, b ≠ env.locals → h.get? b = some o → h'.get? b = some o) : St hb env vars news h' := by
  refine ⟨S.kind, fun b o e => hk b o (fun q => by rw [q, S.lnew] at e; cases e) (S.base b o e), ⟨_, hn⟩, S.lnew, fun n c hc => let ⟨⟨v, o, ho, d⟩, r⟩ := S.cells n c hc; ⟨⟨v, o, hk c o r.2 ho, d⟩, r⟩, S.capart, fun p hp => ?_, fun p hp => ⟨hk _ _ (S.fn p hp).2.2.1 (S.fn p hp).1, (S.fn p hp).2⟩, S.ndup⟩
  rcases S.fv p hp with ⟨a, m', n', e⟩ | ⟨a, c, e, o, ho, d⟩
  · refine .inl ⟨a, _, hn, ?_⟩
    have : m = m' := hm.eq_nsMap.trans n'.eq_nsMap.symm
    subst this
    exact e
  · exact .inr ⟨a, c, e, o, hk c o (S.cells p.1 c (mem_of_lookup e)).2.2 ho, d⟩
theorem St.newL {hb h h' : Heap} {vars : List (Str × Value)} {news : List (Addr × Obj)} {a : Addr} {o : Obj} (S : St hb env vars news h) (S' : St hb env vars news h') (e0 : h.get? a = none) (e1 : h'.get? a = some o) : St hb env vars ((a, o) :: news) h' := by
  obtain ⟨m, hm⟩ := S.ns
  obtain ⟨oL, _, _, hoL, _⟩ := hm
  refine ⟨S'.kind, S'.base, S'.ns, S'.lnew, S'.cells, S'.capart, S'.fv, fun p hp => ?_, ?_⟩
  · rcases List.mem_cons.mp hp with rfl | hp
    · refine ⟨e1, ?_, (fun q => by have q : a = env.locals := q; rw [q, hoL] at e0; cases e0), fun n c hc q => ?_⟩
      · cases e : hb.get? a with
        | none => rfl
        | some o => rw [S.base _ _ e] at e0; cases e0
      · have q : a = c := q
        obtain ⟨⟨v, o, ho, _⟩, _⟩ := S.cells n c hc
        rw [q, ho] at e0; cases e0
    · exact S'.fn p hp
  · rw [List.map_cons, List.nodup_cons]
    refine ⟨fun hm => ?_, S'.ndup⟩
    obtain ⟨p, hp, e⟩ := List.mem_map.mp hm
    have := (S.fn p hp).1
    have e : p.1 = a := e
    rw [e, e0] at this; cases this
theorem All2.drop {α β : Type} {D : α → β → Prop} : ∀ {xs : List α} {vs : List β} (n : Nat), All2 D xs vs → All2 D (xs.drop n) (vs.drop n)
  | _, _, 0, h => h
  | _, _, _ + 1, .nil => .nil
  | _, _, n + 1, .cons _ t => t.drop n
theorem All2.take {α β : Type} {D : α → β → Prop} : ∀ {xs : List α} {vs : List β} (n : Nat), All2 D xs vs → All2 D (xs.take n) (vs.take n)
  | _, _, 0, _ => .nil
  | _, _, _ + 1, .nil => .nil
  | _, _, n + 1, .cons d t => .cons d (t.take n)
theorem All2.app {α β : Type} {D : α → β → Prop} {ys : List α} {us : List β} (h : All2 D ys us) : ∀ {xs : List α} {vs : List β}, All2 D xs vs → All2 D (xs ++ ys) (vs ++ us)
  | _, _, .nil => h
  | _, _, .cons d t => .cons d (All2.app h t)
theorem All2.map {α γ β : Type} {D : γ → β → Prop} {f : α → γ} : ∀ {xs : List α} {vs : List β}, All2 (fun a b => D (f a) b) xs vs → All2 D (xs.map f) vs
  | _, _, .nil => .nil
  | _, _, .cons d t => .cons d t.map
theorem All2.mem {α β : Type} {D : α → β → Prop} : ∀ {xs : List α} {vs : List β}, All2 D xs vs → All2 (fun a b => a ∈ xs ∧ D a b) xs vs
  | _, _, .nil => .nil
  | _, _, .cons d t => .cons ⟨List.mem_cons_self, d⟩ (t.mem.imp fun a b h => ⟨List.mem_cons_of_mem _ h.1, h.2⟩)
theorem seven : ∀ (vt : List Value), vt.length = 7 → ([4, 5, 6, 0, 1, 2, 3].map fun i => (vt.drop 3 ++ vt.take 3).getD i Value.none) = vt
  | [a, b, c, d, e, f, g], _ => rfl
theorem key_at (al : List UInt8) (m i : Nat) (hi : i < 7) : ((((textsN al m 7).drop 3 ++ (textsN al m 7).take 3).map (keyZ al)).getD i []) = keyZ al (encT al (m + (i + 3) % 7)) := by
  have : i = 0 ∨ i = 1 ∨ i = 2 ∨ i = 3 ∨ i = 4 ∨ i = 5 ∨ i = 6 := by omega
  rcases this with rfl | rfl | rfl | rfl | rfl | rfl | rfl <;> rfl
theorem only_x {names : List (Str × NameKind)} {cells : List (Str × Addr)} {x : Str} (h : (names.all fun p => p.2 != .free || p.1 == x) = true) (e : (cells.lookup x).isSome = true) : ∀ n, (n, NameKind.free) ∈ names → (cells.lookup n).isSome = true := fun n hn => by
  have := List.all_eq_true.mp h _ hn
  have : n = x := by simpa using this
  rw [this]; exact e
set_option maxHeartbeats 4000000 in
theorem law_p8 {s : Shared} {g : Heap} {E : Value → Shared → Prop} {tk : Nat} {Q : Flow → Shared → Prop} (L : Lw w mg mb g env A) {V : List (Str × Value)} {l pd rw' tx : Addr} {kd b n m : Nat} {al : List UInt8} {tt ts tg tb tn t : Tok} {od : Obj} {M : List (Addr × Obj)} {vt : List Value} {nt : Nat}
    (vo : VO V l pd rw' kd b n al tt ts tg tb tn) (hpd : ∀ h'' : Heap, h''.get? pd = some od → IsDI (plcZ al) (.ref pd) h'') (hM1 : (pd, od) ∈ M) (hpd72 : (72, tabObj #[]) ≠ (pd, od)) (hM2 : (72, tabObj #[]) ∈ M) (hT : All2 DBL (textsN al m 7) vt) (oo : OrdOk al m)
    (S : St g env (("texts", .ref tx) :: ("number", .int (m : Int) t) :: V) ((tx, lstO vt nt) :: M) h)
    (k : ∀ tu vt' nt' M' ps h tk, All2 DBL (textsN al m 7) vt' → (72, tabObj ps) ∈ M' → St g env (("turned", .ref tu) :: ("number", .int (m : Int) t) :: V) ((tu, lstO vt' nt') :: M') h → wpAny (model prog w) A (execs ((lawStmts w).drop 20) env) Q E { s with heap := h, toks := tk }) :
    wpAny (model prog w) A (execs ((lawStmts w).drop 19) env) Q E { s with heap := h, toks := tk } := by
  have K := L.K
  have hh := L.ok.handled
  have mplaces := vo.places
  have hvl : vt.length = 7 := by rw [hT.len]; simp [textsN]
  refine wpAny_execs_cons (wpAny_Assign_Name (wpAny_Call_Name_kw ?_) (by rfl))
  have B₁ := L.B.sub S.base
  refine Gr.use (Ev.gr (B₁.built (v := .builtin "sorted") K.g (by kernel_rfl) (by kernel_rfl) (by decide) (K.k _ _ (by kernel_rfl)))) fun fv h₁ tk₁ k₁ hf => ?_
  cases hf
  have S := S.grow k₁
  have hLt := lstO.at (S.fn (tx, lstO vt nt) (by walk_at "mem")).1
  refine cw_machineK rfl rfl rfl (args_kw rfl rfl ?_)
  have e3 : slicePick vt.toArray (some 3) none none = (vt.drop 3).toArray := slicePick_from vt.toArray 3 (by simp; omega)
  have e3' : slicePick vt.toArray none (some 3) none = (vt.take 3).toArray := slicePick_upto vt.toArray 3 (by simp; omega)
  refine Gr.use (Ag.one (Ev.addL (vs := vt.drop 3) (ws := vt.take 3) ((Ev.cutL (us := vt.drop 3) (S.evL (by walk_at "mem") hLt) (Part.some Ev.cint) Part.none Part.none (by decide) (by rw [sizeLine_eq]; omega) e3).imp fun v h' x => x.l) ((Ev.cutL (us := vt.take 3) (S.evL (by walk_at "mem") hLt) Part.none (Part.some Ev.cint) Part.none (by decide) (by rw [sizeLine_eq]; omega) e3').imp fun v h' x => x.l) (by rw [sizeLine_eq]; simp; omega)) (mNL _ _)) fun vs h₂ tk₂ k₂ hvs => ?_
  obtain ⟨v, rfl, l7, rfl, el0, el1⟩ := hvs
  have S1 : St g env (("texts", .ref tx) :: ("number", .int (m : Int) t) :: V) ((l7, lstO (vt.drop 3 ++ vt.take 3) 0) :: (tx, lstO vt nt) :: M) h₂ := S.add k₂ [(l7, lstO (vt.drop 3 ++ vt.take 3) 0)] (fun p hp => by rw [List.mem_singleton.mp hp]; exact ⟨el0, el1⟩) (by simp)
  obtain ⟨M1, M2, rfl⟩ := List.append_of_mem hM2
  refine wpAny_evalAll_cons (wpAny_bind (kla_eval rfl (kla_makeFunction (mg := mg) (closure_eq (K.cs' (by kernel_rfl))) K.g.gl (L.B.G.g.keeps S1.base) L.code (L.C.keeps S1.base) (S1.fn (72, tabObj #[]) (by simp)).1 ?_ rfl (by decide) ?_ fun c' ctv h₃ tk₃ hx hge hlt hrec htb => ?_)))
  · simp [TriplesOk]
  · obtain ⟨bm, o, b1, b2, b3, b4, b5, b6⟩ := L.bm
    exact ⟨bm, o, b1, b2, b3, b4, S1.base _ _ b5, b6⟩
  refine wpAny_bind (wpAny_standAt (wpAny_pure (wpAny_evalAll_nil ?_)))
  have S2 := St.upd (pre := (l7, lstO (vt.drop 3 ++ vt.take 3) 0) :: (tx, lstO vt nt) :: M1) (post := M2) S1 (fun b x hb e => hx b x hb e) htb
  have S3 : ∀ o, St g env _ _ (h₃.push o) := fun o => S2.grow (Sub.push h₃ o)
  obtain ⟨c2, oc, cvs, tq, ec, e2, e3, e4⟩ := hrec
  cases ec
  obtain ⟨mL, hm3⟩ := S2.ns
  have hLlt : env.locals < h₂.objs.size := by obtain ⟨m', hm'⟩ := S1.ns; exact hm'.lt
  have hge' : h₂.objs.size ≤ c' := hge
  have cL : c' ≠ env.locals := Nat.ne_of_gt (Nat.lt_of_lt_of_le hLlt hge')
  have fL : h₃.objs.size ≠ env.locals := Nat.ne_of_gt (Nat.lt_trans (Nat.lt_of_lt_of_le hLlt hge') hlt)
  refine sorted7 (kz := ((textsN al m 7).drop 3 ++ (textsN al m 7).take 3).map (keyZ al)) (vs := vt.drop 3 ++ vt.take 3) (hm3.push _) (lstO.at ((S3 _).fn (l7, lstO (vt.drop 3 ++ vt.take 3) 0) (by simp)).1) (by simp; omega) (by have := L.ok.units; show A.units + 1 + 1 < cLine; omega) ?_ (fun i j hi hj => ?_) fun D nD h' tk' hD hDL hD1 hk5 hn5 => ?_
  · have hT2 := hT.mem
    have hT3 := All2.app (hT2.take 3) (hT2.drop 3)
    refine All2.map (hT3.imp fun tz v ⟨hmem, hd⟩ hh2 hk hns => ?_)
    obtain ⟨tv, rfl⟩ := hd
    have kg : Sub g hh2 := fun b o e => hk b o (fun q => by rw [q, S2.lnew] at e; cases e) ((S3 _).base _ _ e)
    have B₂ := L.B.sub kg
    have hlen := oo.len tz hmem
    have hinn := oo.inn tz hmem
    have hpd2 : hh2.get? pd = some od := by
      have D := S2.fn (pd, od) (by
        simp only [List.mem_append, List.mem_cons] at hM1 ⊢
        rcases hM1 with h | h | h
        · exact .inl (.inr (.inr h))
        · exact absurd h.symm hpd72
        · exact .inr (.inr h))
      exact hk _ _ D.2.2.1 (Heap.get?_push_of_some _ D.1)
    rcases S2.fv _ (List.mem_cons_of_mem _ (List.mem_cons_of_mem _ mplaces)) with ⟨a, _⟩ | ⟨_, cc, ecc, occ, hocc, dcc⟩
    · rw [K.k _ _ (show (fdAt w 75).scope.names.lookup ("places" : Str) = some .cell by kernel_rfl)] at a; cases a
    have hcell2 : hh2.IsCell cc (some (.ref pd)) := ⟨occ, hk cc occ (S2.cells _ cc (mem_of_lookup ecc)).2.2 (Heap.get?_push_of_some _ hocc), dcc⟩
    refine fn_lamE (n := 1) (hk _ _ fL (Heap.get?_push_size _ rfl)) ⟨c', oc, cvs, tq, rfl, hk _ _ cL (Heap.get?_push_of_some _ e2), e3, e4⟩ B₂.G.lim (L.ok.in1.in1) (binds := [("t", .bytes tz.toArray tv)]) rfl (by decide) (fun x hx => by rw [List.mem_singleton.mp hx]; rfl) (by simp) fun s' env' A' h₁ hs' hs1 GE hsc hcl hb hok' => ?_
    have B₃ := B₂.sub (hs'.trans hs1)
    have kd : ∀ x, env'.kindOf x = env'.scope.names.lookup x := fun _ => rfl
    have ht : Holds h₁ env' "t" (.bytes tz.toArray tv) := hb ("t", .bytes tz.toArray tv) (List.mem_singleton.mpr rfl)
    have hlk : env'.cells.lookup ("places" : Str) = some cc := by rw [hcl]; exact clOf_lookup ecc _ [] (.inr ⟨rfl, mem_of_lookup (by rfl)⟩) (fun d hd => nomatch hd)
    have hpl : Holds h₁ env' "places" (.ref pd) := .inr ⟨.inr ⟨by rw [kd, hsc]; rfl, by decide⟩, cc, hlk, hcell2.keeps fun b o e => hs1 _ _ (hs' _ _ e)⟩
    have hod : h₁.get? pd = some od := hs1 _ _ (hs' _ _ hpd2)
    have hf : ((codes tz).filter fun _ => true) = codes tz := by simp
    refine Ev.imp (Ev.addI (ns := [(tz.length : Int)]) (ms := rnk al tz) ((Ev.oneLI (ev_lenB B₃ GE (by rw [kd, hsc]; rfl) (Ev.holds GE.kind ht).byt (by omega))).imp fun v h' x => x.li)
      ((Ev.comp (D := DI) (xs := codes tz) (p := fun _ => true) (g := fun c => (plcZ al c).getD 0) (F := IsB tz.toArray) (fp := []) (fun _ _ _ x y => x.inj y) (Ev.holds GE.kind ht).byt (fun v h' kk ⟨t, e⟩ => by subst e; exact src_bytes hok'.handled) (fun b hb => nomatch hb) (by rw [codes, List.length_map, sizeLine_eq]; omega)
        (only_x (x := "places") (by rfl) (by rw [hlk]; rfl)) (fun C a v h' _ _ _ _ => tests_nil) (fun C c v h' hc _ d kk hv => by
          obtain ⟨q, hq⟩ := Option.isSome_iff_exists.mp (hinn c hc)
          rw [hq, Option.getD_some]
          exact Ev.itemD ((Ev.holds rfl (Holds.inC GE (by rfl) (hpl.sub kk) (by rw [kd, hsc]; decide))).imp' fun v h'' k2 e => by cases e; exact hpd h'' (k2 _ _ (kk _ _ hod))) (Ev.loopv rfl hv d) hq)).imp fun v h' x => by rw [hf] at x; exact x.li) (by simp [rnk, codes]; omega)) fun v h' x => NI.sub (hs'.trans hs1) x
  · rw [key_at al m i hi, key_at al m j hj, oo.lt _ _ (Nat.mod_lt _ (by decide)) (Nat.mod_lt _ (by decide))]
    rfl
  · have S5 := St.offL (S3 _) (hm3.push _) hn5 hk5
    have S6 := St.newL (S3 _) S5 hD hD1
    refine St.store (s := { s with heap := h', toks := tk' }) S6 (K.loc (by kernel_rfl)) (by walk_at "del") fun h'' tk'' S7 _ => ?_
    rw [seven vt hvl] at S7
    refine k D vt nD _ _ h'' tk'' hT (List.mem_append_right ((l7, lstO (vt.drop 3 ++ vt.take 3) 0) :: (tx, lstO vt nt) :: M1) (List.mem_cons_self (l := M2))) (S7.weakV ?_)
    intro p hp
    rcases List.mem_cons.mp hp with rfl | hp
    · exact List.mem_cons_self
    · exact List.mem_cons_of_mem _ (List.mem_cons_of_mem _ hp)
end
end Mine
end
section
open PySem PySem.W PySem.Calls PyProof.Rows
set_option linter.unusedVariables false
set_option maxRecDepth 100000
namespace Mine
local macro_rules | `(tactic| walk_at "mem") => `(tactic| first | with_reducible exact List.mem_cons_self | with_reducible assumption | (with_reducible refine List.mem_cons_of_mem _ ?_; walk_at "mem"))
local macro_rules | `(tactic| walk_at "del") => `(tactic| first | with_reducible exact Del.nil | (with_reducible refine VO.del (by assumption) ?_; decide) | (with_reducible refine' Del.hit ?hr; (case hr => walk_at "del")) | (refine' Del.miss ?hne ?hr; (case hne => decide); (case hr => walk_at "del")))
section
variable {prog : Program} {w : World} {A : Around} {env : Env} {mg mb : Str → Option Value} {h : Heap}
theorem DBL.inj {a b : List UInt8} {v : Value} (x : DBL a v) (y : DBL b v) : a = b := by
  obtain ⟨t, rfl⟩ := x
  obtain ⟨u, e⟩ := y
  injection e with e1 e2
  simpa using e1
theorem src_texts {l : Addr} {vs : List Value} {ts : List (List UInt8)} (hh : A.handled = none) (hl : h.IsList l vs.toArray) (hi : All2 DBL ts vs) : Src prog w A h (.ref l) [l] ts.length (fun i v => ∃ a, ts[i]? = some a ∧ DBL a v) := by
  rw [← hi.len]
  exact (Src.list hh hl).lt fun k v hk e => hi.get' k v e
/-- what the law needs of the decoding -/
structure DecOk (al : List UInt8) (n m : Nat) : Prop where
  len : ∀ t ∈ textsN al m 7, t.length ≤ 60
  inn : ∀ t ∈ textsN al m 7, ∀ c ∈ codes (List.replicate (n % 3) (al.getD 0 0) ++ t), (mapOf (placesOf al) c).isSome = true
  ws : ∀ t ∈ textsN al m 7, ∀ c ∈ List.replicate (n % 3) (al.getD 0 0) ++ t, Builtin.Bytes.isSpace c = false
  sp : (32 : UInt8) ∉ al
  dec : (textsN al m 7).map (fun t => decZ al (codes (List.replicate (n % 3) (al.getD 0 0) ++ t))) = (upto 7).map fun k => (m : Int) + k
set_option maxHeartbeats 4000000 in
theorem law_p9 {s : Shared} {g : Heap} {tk : Nat} (L : Lw w mg mb g env A) {V : List (Str × Value)} {l pd rw' tu : Addr} {kd b n m : Nat} {al : List UInt8} {tt ts tg tb tn t : Tok} {M : List (Addr × Obj)} {vt : List Value} {nt : Nat} {ps : Array Value}
    (vo : VO V l pd rw' kd b n al tt ts tg tb tn) (hbl : b = al.length) (hb : 2 ≤ b) (hb2 : b ≤ 256) (hkd : kd = 0 → al = bitcoin) (hn : n ≤ 17) (hT : All2 DBL (textsN al m 7) vt) (dk : DecOk al n m) (hM : (72, tabObj ps) ∈ M)
    (S : St g env (("turned", .ref tu) :: ("number", .int (m : Int) t) :: V) ((tu, lstO vt nt) :: M) h) :
    wpAny (model prog w) A (execs ((lawStmts w).drop 20) env) (Fin75 s g) (fun _ _ => False) { s with heap := h, toks := tk } := by
  have K := L.K
  have hh := L.ok.handled
  have hu : A.units < cLine := by have := L.ok.units; omega
  have ok2 : Ok A 2 := L.ok.mono (by decide)
  have mkind := vo.kind
  have msigns := vo.signs
  have mgiven := vo.given
  have mlength := vo.length
  subst hbl
  have B₁ := L.B.sub S.base
  refine St.assignB S (i := (List.replicate (n % 3) (al.getD 0 0)).toArray) (ev_signs (n := n % 3) B₁ K.g (K.k _ _ (by kernel_rfl)) hh (S.evB (by walk_at "mem")) (by
      have e : ((n % 3 : Nat) : Int) = (n : Int).fmod 3 := by rw [Int.fmod_eq_emod_of_nonneg _ (by decide)]; rfl
      rw [e]
      exact Ev.fmod (S.evI (by walk_at "mem")) Ev.cint (by decide)) (by omega) (by omega) (by omega)) (K.can (by kernel_rfl)) (by walk_at "del") fun t₁ h₁ tk₁ S => ?_
  have B₁ := L.B.sub S.base
  have hLt := lstO.at (S.fn (tu, lstO vt nt) (by walk_at "mem")).1
  have htl : (textsN al m 7).length = 7 := by simp [textsN]
  refine St.assignComp (D := DBL) (xs := textsN al m 7) (p := fun _ => true) (g := fun t => decZ al (codes (List.replicate (n % 3) (al.getD 0 0) ++ t))) (F := IsV (.ref tu)) (fp := [tu]) S (fun _ _ _ x y => x.inj y)
    (S.ev (by walk_at "mem")) (fun v h' kk x => by cases x; exact src_texts hh (hLt.at fun o e => kk _ _ e) hT) (fun b hb => by rw [List.mem_singleton.mp hb]; exact ⟨_, (S.fn (tu, lstO vt nt) (by walk_at "mem")).1⟩) (by rw [htl, sizeLine_eq]; omega) (K.cs' (by kernel_rfl))
    (fun C a v h' _ _ _ _ => tests_nil) (fun C tx v h' hk _ d kk hv => ?_) (K.k _ _ (by kernel_rfl)) (by walk_at "del") fun ra us mr h₂ tk₂ are S => ?_
  · have B₂ := B₁.sub kk
    obtain ⟨tv, rfl⟩ := d
    have hlen := dk.len tx hk
    have hinn := dk.inn tx hk
    have hws := dk.ws tx hk
    have catE : ∀ {scope : Scope} {p q r : Pos}, scope.kind = .function → scope.names.lookup ("front" : Str) = some .free → Holds h' (cenv scope env C) "t" (.bytes tx.toArray tv) → Ev prog w A (cenv scope env C) h' (.BinOp (.Name "front" p) .Add (.Name "t" q) r) (IsB (List.replicate (n % 3) (al.getD 0 0) ++ tx).toArray) := by
      intro scope p q r hsk hsf hv
      rw [← List.append_toArray]
      exact Ev.addB ((S.capt K (by walk_at "mem") kk hsk (by kernel_rfl) hsf).byt) (Ev.holds hsk hv).byt (by simp; omega)
    have hcat : (List.replicate (n % 3) (al.getD 0 0) ++ tx).length ≤ 1000 := by simp; omega
    refine Ev.ite (Te.eqI (S.capt K (by walk_at "mem") kk rfl (by kernel_rfl) rfl).int Ev.cint) (fun q => ?_) (fun q => ?_)
    · have e0 : kd = 0 := by have := eq_of_beq q; omega
      refine Ev.callF (a := 51) (B₂.glob (cenv_g K.g rfl) (by kernel_rfl) (cenv_kind (by rfl) (by decide))) (B₂.X 51 _ rfl) rfl (Ag.one (catE rfl rfl hv) (mB _)) ?_
      rintro vs h'' k2 ⟨v, rfl, u, rfl⟩
      have := fn_dec (prog := prog) (B₂.sub k2) ok2 (args := ⟨[.bytes (List.replicate (n % 3) (al.getD 0 0) ++ tx).toArray u], []⟩) (tu := 189) (tv := u) (al := bitcoin) (fun s hs => bind51_1 (B₂.sub k2) hs) (by decide) hcat (by rw [← hkd e0]; exact hinn) (by decide) hws
      rw [hkd e0] at this ⊢
      exact this
    · refine Ev.callF (a := 51) (B₂.glob (cenv_g K.g rfl) (by kernel_rfl) (cenv_kind (by rfl) (by decide))) (B₂.X 51 _ rfl) rfl (Ag.two (catE rfl rfl hv) ((S.capt K (by walk_at "mem") kk rfl (by kernel_rfl) rfl).byt) (mB _) (mB _)) ?_
      rintro vs h'' k2 ⟨v, v', rfl, ⟨u, rfl⟩, u', rfl⟩
      exact fn_dec (prog := prog) (B₂.sub k2) ok2 (args := ⟨[.bytes (List.replicate (n % 3) (al.getD 0 0) ++ tx).toArray u, .bytes al.toArray u'], []⟩) (tu := u') (tv := u) (al := al) (fun s hs => bind51_2 (B₂.sub k2) hs) (by omega) hcat hinn dk.sp hws
  · have hf : ((textsN al m 7).filter fun _ => true) = textsN al m 7 := by simp
    rw [hf, dk.dec] at are
    have B₁ := L.B.sub S.base
    have hf7 : ((upto 7).filter fun _ => true) = upto 7 := by simp
    refine St.ret (Ev.eqLI (ns := (upto 7).map fun k => (m : Int) + k) (ms := (upto 7).map fun k => (m : Int) + k) ((S.ev (by walk_at "mem")).imp' fun v h' kk e => by cases e; exact ⟨us, ⟨ra, rfl, lstO.at (kk _ _ (S.fn (ra, lstO us mr) (by walk_at "mem")).1)⟩, are⟩)
      ((Ev.comp (D := DI) (xs := upto 7) (p := fun _ => true) (g := fun k => (m : Int) + k) (fp := []) (fun _ _ _ x y => x.inj y)
        (Ev.rng (n := 7) (B₁.built (v := .type "range") K.g (by kernel_rfl) (by kernel_rfl) (by decide) (K.k _ _ (by kernel_rfl))) Ev.cint)
        (fun v h' k x => src_rng hh x (by omega)) (fun b hb => nomatch hb) (by rw [upto_len, sizeLine_eq]; omega) (K.cs' (by kernel_rfl))
        (fun C a v h' _ _ _ _ => tests_nil) (fun C k v h' hk _ d kk hv => Ev.add (S.capt K (by walk_at "mem") kk rfl (by kernel_rfl) rfl).int (Ev.loopv rfl hv d))).imp fun v h' x => by rw [hf7] at x; exact x.li) hu) fun v h' tk' kk hv => ?_
    cases hv
    refine ⟨by simp, h', tk', rfl, S.base.trans kk, ps, kk _ _ (S.fn (72, tabObj ps) ?_).1⟩
    exact List.mem_cons_of_mem _ (List.mem_cons_of_mem _ hM)
end
end Mine
end
section
open PySem PySem.W PySem.Calls PyProof.Rows
set_option linter.unusedVariables false
set_option maxRecDepth 100000
namespace Mine
/-- the plain law, as the walk needs it -/
structure PlainOk (ns : List Int) : Prop where
  al2 : 2 ≤ (alS ns).length
  al256 : (alS ns).length ≤ 256
  rows : ∀ z ∈ rowsUpTo ns 4, RowOk (alS ns) (lenN ns) z
  cmp : ∀ a ∈ rowsUpTo ns 4, ∀ b ∈ rowsUpTo ns 4, ltI a b = ltI (fil (alS ns) (lenN ns) a) (fil (alS ns) (lenN ns) b) ∧ (a == b) = (fil (alS ns) (lenN ns) a == fil (alS ns) (lenN ns) b)
  num : ∃ m : Nat, numR ns = (m : Int) ∧ CntOk (alS ns) (RK ns) m ∧ OrdOk (alS ns) m ∧ DecOk (alS ns) (lenN ns) m
theorem law_ok (plain : ∀ ns, ns.length ≤ 63 → PlainOk ns) {prog : Program} {w : World} {mg mb : Str → Option Value} {g : Heap} {s : Shared} {l : Addr} {vs : List Value} {ns : List Int} (I : LawIn w mg mb g s l vs ns) :
    codeAny (model prog w) callerA (.call (.ref 75) ⟨[.ref l], []⟩) (LawPost s g) s := by
  have P := plain ns I.hn
  have hkd : kdN ns = 0 → alS ns = bitcoin := fun h => by unfold alS signsOf; rw [if_pos h]
  have ln := lenN_le ns
  refine law_enter I fun env A h tk L S => ?_
  refine law_p1 L I.hl I.hi I.hn P.al2 P.al256 S fun pd od t1 t2 t3 t4 t5 h tk hpd S => ?_
  have hpd72 : ((72 : Addr), tabObj #[]) ≠ (pd, od) := fun e => by
    have := S.ndup
    cases e
    simp at this
  refine law_p2 L I.hl I.hi I.hn S fun rw' rs nr M h tk hR hM1 hM2 S => ?_
  refine law_p3 (b := (alS ns).length) (n := lenN ns) L P.al2 P.al256 ln (t4 := t4) (t5 := t5) (by simp) (by simp) ?_ S fun fi tw h tk S => ?_
  · intro p hp
    simp only [List.mem_cons, List.not_mem_nil, or_false] at hp
    rcases hp with rfl | rfl | rfl | rfl | rfl | rfl | rfl | rfl <;> exact ⟨by dsimp only; decide, by dsimp only; decide⟩
  have vo : VO [("rows", .ref rw'), ("script", .ref l), ("kind", .int (kdN ns) t1), ("signs", .bytes (alS ns).toArray t2), ("given", .bytes (alS ns).toArray t3), ("base", .int (alS ns).length t4), ("places", .ref pd), ("length", .int (lenN ns) t5)] l pd rw' (kdN ns) (alS ns).length (lenN ns) (alS ns) t1 t2 t3 t4 t5 :=
    ⟨by simp, by simp, by simp, by simp, by simp, by simp, by simp, by simp, fun p hp => by
      simp only [List.mem_cons, List.not_mem_nil, or_false] at hp
      rcases hp with rfl | rfl | rfl | rfl | rfl | rfl | rfl | rfl <;> (dsimp only; decide)⟩
  refine law_p4 L vo rfl P.al2 P.al256 ln hkd hpd hM1 hR P.rows (by simp [rowsUpTo]) rfl rfl S fun fs nf M' h tk hF hMM S => ?_
  refine law_p5 L vo (hR.imp fun a b => Rin.sub hMM) hF (by simp [rowsUpTo]) P.cmp S fun h tk S => ?_
  refine law_p6 L vo rfl rfl P.al2 P.al256 I.hl I.hi I.hn S fun ra us mr t h tk hus S => ?_
  obtain ⟨m, hm, co, oo, dk⟩ := P.num
  rw [hm] at S
  refine law_p7 L vo rfl P.al2 P.al256 hkd hus co S fun tx vt nt M'' h tk hT hMM2 S => ?_
  refine law_p8 L vo hpd (hMM2 _ (hMM _ hM1)) hpd72 (hMM2 _ (hMM _ hM2)) hT oo S fun tu vt' nt' M3 ps h tk hT' hM3 S => ?_
  exact law_p9 L vo rfl P.al2 P.al256 hkd ln hT' dk hM3 S
end Mine
end
section
open PySem PySem.W PySem.Calls PyProof.Rows
set_option linter.unusedVariables false
set_option maxRecDepth 100000
namespace Mine
/-! the signs -/
theorem nodup_range {α : Type} {n : Nat} {F : Nat → α} (h : ∀ i j, i < j → j < n → F i ≠ F j) : ((List.range n).map F).Nodup := by
  unfold List.Nodup
  rw [List.pairwise_map]
  have : (List.range n).Pairwise (fun i j => i < j ∧ j < n) := by
    have h1 : (List.range n).Pairwise (· < ·) := List.pairwise_lt_range
    exact h1.imp_of_mem fun {a b} ha hb hab => ⟨hab, List.mem_range.mp hb⟩
  exact this.imp fun {a b} h' => h a b h'.1 h'.2
theorem tab_of {p : Nat} (hp : 2 ≤ p) (f : Nat → Nat) (inv : ∀ s, s < p - 1 → ((1 + s) * f s) % p = 1) : ∀ s, s < p - 1 → ∀ d, d < p - 1 → ((1 + s) * (1 + d)) % p ≠ 0 := fun s hs d hd e => by
  have h1 : ((1 + s) * f s * (1 + d)) % p = (1 + d) % p := by
    rw [Nat.mul_mod, inv s hs, Nat.one_mul, Nat.mod_mod]
  have h2 : ((1 + s) * f s * (1 + d)) % p = 0 := by
    rw [Nat.mul_comm (1 + s) (f s), Nat.mul_assoc, Nat.mul_mod, e, Nat.mul_zero, Nat.zero_mod]
  rw [h1, Nat.mod_eq_of_lt (by omega)] at h2
  omega
theorem inv181 : ∀ s, s < 181 - 1 → ((1 + s) * ((1 + s) ^ 179 % 181)) % 181 = 1 := by decide +kernel
theorem inv89 : ∀ s, s < 89 - 1 → ((1 + s) * ((1 + s) ^ 87 % 89)) % 89 = 1 := by decide +kernel
theorem tab181 : ∀ s, s < 181 - 1 → ∀ d, d < 181 - 1 → ((1 + s) * (1 + d)) % 181 ≠ 0 := tab_of (p := 181) (by decide) (fun s => (1 + s) ^ 179 % 181) inv181
theorem tab89 : ∀ s, s < 89 - 1 → ∀ d, d < 89 - 1 → ((1 + s) * (1 + d)) % 89 ≠ 0 := tab_of (p := 89) (by decide) (fun s => (1 + s) ^ 87 % 89) inv89
theorem walk_ne {p : Nat} (hp : 2 ≤ p) (tab : ∀ s, s < p - 1 → ∀ d, d < p - 1 → ((1 + s) * (1 + d)) % p ≠ 0) (a s : Int) (hs : 0 ≤ s) (hs2 : s < (p : Int) - 1) (i j : Nat) (hij : i < j) (hj : j < p) : (a + (1 + s) * i).fmod p ≠ (a + (1 + s) * j).fmod p := fun e => by
  rw [Int.fmod_eq_emod_of_nonneg _ (by omega), Int.fmod_eq_emod_of_nonneg _ (by omega)] at e
  have e2 := Int.emod_emod_of_dvd
  have h1 : ((a + (1 + s) * j) - (a + (1 + s) * i)) % (p : Int) = 0 := by
    rw [Int.sub_emod, ← e, Int.sub_self]; simp
  have h2 : (a + (1 + s) * j) - (a + (1 + s) * i) = (1 + s) * ((j : Int) - i) := by rw [Int.mul_sub]; omega
  rw [h2] at h1
  have h3 := tab s.toNat (by omega) (j - i - 1) (by omega)
  have h4 : (((1 + s.toNat) * (1 + (j - i - 1)) : Nat) : Int) = (1 + s) * ((j : Int) - i) := by
    rw [Int.natCast_mul]
    congr 1 <;> omega
  apply h3
  have h5 : ((((1 + s.toNat) * (1 + (j - i - 1))) % p : Nat) : Int) = 0 := by rw [Int.natCast_emod, h4, h1]
  omega
/-- what holds of the signs -/
structure SignOk (al : List UInt8) : Prop where
  lo : 2 ≤ al.length
  hi : al.length ≤ 256
  nd : al.Nodup
  vis : ∀ c ∈ al, 33 ≤ c.toNat
theorem toU8 {n : Int} (h0 : 0 ≤ n) (h1 : n < 256) : (n.toNat.toUInt8).toNat = n.toNat := by
  simp; omega
theorem signs_gen {n : Nat} {F : Nat → Int} (hn : 2 ≤ n) (hn2 : n ≤ 256) (hF : ∀ i, i < n → 33 ≤ F i ∧ F i < 256) (hne : ∀ i j, i < j → j < n → F i ≠ F j) : SignOk (((List.range n).map F).map fun x => x.toNat.toUInt8) := by
  refine ⟨by simpa using hn, by simpa using hn2, ?_, fun c hc => ?_⟩
  · rw [List.map_map]
    refine nodup_range fun i j hij hj e => hne i j hij hj ?_
    have h1 := hF i (by omega)
    have h2 := hF j hj
    have e' := congrArg UInt8.toNat e
    simp only [Function.comp] at e'
    rw [toU8 (by omega) h1.2, toU8 (by omega) h2.2] at e'
    omega
  · obtain ⟨x, hx, rfl⟩ := List.mem_map.mp hc
    obtain ⟨i, hi, rfl⟩ := List.mem_map.mp hx
    have h1 := hF i (List.mem_range.mp hi)
    rw [toU8 (by omega) h1.2]; omega
theorem sign_ok (ns : List Int) : SignOk (alS ns) := by
  unfold alS signsOf
  generalize drawZ ns 1 = a
  generalize drawZ ns 2 = b
  generalize drawZ ns 3 = c
  split
  · exact ⟨by decide, by decide, by decide, by decide⟩
  split
  · exact ⟨by decide, by decide, by decide, by decide⟩
  split
  · have c0 := fmod_lo c (n := 100) (by decide)
    have c1 := fmod_hi c (n := 100) (by decide)
    have b0 := fmod_lo b (n := 180) (by decide)
    have b1 := fmod_hi b (n := 180) (by decide)
    have e : signs2 a b c = ((List.range (2 + (c.fmod 100).toNat)).map fun (k : Nat) => (fun x : Int => if x < 94 then 33 + x else 67 + x) ((a.fmod 181 + (1 + b.fmod 180) * (k : Int)).fmod 181)).map fun x => x.toNat.toUInt8 := by
      unfold signs2 bytesOf walkZ upto
      simp only [List.map_map]
      rfl
    rw [e]
    refine signs_gen (by omega) (by omega) (fun i hi => ?_) fun i j hij hj q => ?_
    · have l1 := fmod_lo (a.fmod 181 + (1 + b.fmod 180) * (i : Int)) (n := 181) (by decide)
      have l2 := fmod_hi (a.fmod 181 + (1 + b.fmod 180) * (i : Int)) (n := 181) (by decide)
      dsimp only
      split <;> omega
    · have := walk_ne (p := 181) (by decide) tab181 (a.fmod 181) (b.fmod 180) b0 (by omega) i j hij (by omega)
      apply this
      dsimp only at q
      have l1 := fmod_lo (a.fmod 181 + (1 + b.fmod 180) * (i : Int)) (n := 181) (by decide)
      have l2 := fmod_lo (a.fmod 181 + (1 + b.fmod 180) * (j : Int)) (n := 181) (by decide)
      show (a.fmod 181 + (1 + b.fmod 180) * (i : Int)).fmod 181 = (a.fmod 181 + (1 + b.fmod 180) * (j : Int)).fmod 181
      split at q <;> split at q <;> omega
  · have c0 := fmod_lo c (n := 88) (by decide)
    have c1 := fmod_hi c (n := 88) (by decide)
    have b0 := fmod_lo b (n := 88) (by decide)
    have b1 := fmod_hi b (n := 88) (by decide)
    have e : signs3 a b c = ((List.range (2 + (c.fmod 88).toNat)).map fun (k : Nat) => 38 + (a.fmod 89 + (1 + b.fmod 88) * (k : Int)).fmod 89).map fun x => x.toNat.toUInt8 := by
      unfold signs3 bytesOf upto
      simp only [List.map_map]
      rfl
    rw [e]
    refine signs_gen (by omega) (by omega) (fun i hi => ?_) fun i j hij hj q => ?_
    · have l1 := fmod_lo (a.fmod 89 + (1 + b.fmod 88) * (i : Int)) (n := 89) (by decide)
      have l2 := fmod_hi (a.fmod 89 + (1 + b.fmod 88) * (i : Int)) (n := 89) (by decide)
      omega
    · have := walk_ne (p := 89) (by decide) tab89 (a.fmod 89) (b.fmod 88) b0 (by omega) i j hij (by omega)
      apply this
      show (a.fmod 89 + (1 + b.fmod 88) * (i : Int)).fmod 89 = (a.fmod 89 + (1 + b.fmod 88) * (j : Int)).fmod 89
      omega
end Mine
end
section
open PySem PySem.W PySem.Calls PyProof.Rows
set_option linter.unusedVariables false
set_option maxRecDepth 100000
namespace Mine
/-! places -/
theorem mapOf_rev {k v : Int} : ∀ (qs : List (Int × Int)), (qs.map (·.1)).Nodup → (k, v) ∈ qs → mapOf qs.reverse k = some v
  | p :: r, hn, hm => by
    rw [List.map_cons, List.nodup_cons] at hn
    rw [List.reverse_cons, mapOf_snoc]
    rcases List.mem_cons.mp hm with e | hm
    · subst e; simp
    · rw [if_neg (fun e => hn.1 (by rw [← e]; exact List.mem_map.mpr ⟨(k, v), hm, rfl⟩))]
      exact mapOf_rev r hn.2 hm
theorem mapOf_get {ps : List (Int × Int)} {k v : Int} (hn : (ps.map (·.1)).Nodup) (hm : (k, v) ∈ ps) : mapOf ps k = some v := by
  have := mapOf_rev (k := k) (v := v) ps.reverse (by rw [List.map_reverse]; exact (List.reverse_perm _).nodup_iff.mpr hn) (List.mem_reverse.mpr hm)
  rwa [List.reverse_reverse] at this
theorem getD_mem {al : List UInt8} {d : Nat} (h : d < al.length) : al.getD d 0 ∈ al := by
  rw [List.getD_eq_getElem?_getD, List.getElem?_eq_getElem h]; exact List.getElem_mem h
theorem getD_inj {al : List UInt8} (hn : al.Nodup) {i j : Nat} (hi : i < al.length) (hj : j < al.length) (e : al.getD i 0 = al.getD j 0) : i = j := by
  rw [List.getD_eq_getElem?_getD, List.getD_eq_getElem?_getD, List.getElem?_eq_getElem hi, List.getElem?_eq_getElem hj] at e
  exact (List.getElem_inj hn).mp e
theorem plc_pairs (al : List UInt8) : placesOf al = (upto al.length).map fun k => (((al.getD k.toNat 0).toNat : Int), k) := by
  unfold placesOf upto
  apply List.ext_getElem (by simp)
  intro i h1 h2
  have hi : i < al.length := by simpa using h1
  simp [List.getElem?_eq_getElem hi]
theorem plc_eq (al : List UInt8) : mapOf (placesOf al) = plcZ al := by rw [plc_pairs]; rfl
theorem plc_at {al : List UInt8} (S : SignOk al) {d : Nat} (h : d < al.length) : plcZ al ((al.getD d 0).toNat : Int) = some (d : Int) := by
  unfold plcZ
  refine mapOf_get ?_ (List.mem_map.mpr ⟨(d : Int), ?_, by simp⟩)
  · rw [List.map_map]
    unfold upto
    rw [List.map_map]
    refine nodup_range fun i j hij hj e => ?_
    simp only [Function.comp, Int.toNat_natCast] at e
    have e : (al.getD i 0).toNat = (al.getD j 0).toNat := by omega
    have := getD_inj S.nd (by omega) hj (UInt8.toNat_inj.mp e)
    omega
  · unfold upto
    exact List.mem_map.mpr ⟨d, List.mem_range.mpr h, rfl⟩
/-- a text of signs, by the signs' places -/
def sgn (al : List UInt8) (ds : List Nat) : List UInt8 := ds.map fun d => al.getD d 0
theorem codes_sgn {al : List UInt8} (S : SignOk al) : ∀ {ds : List Nat}, (∀ d ∈ ds, d < al.length) → rnk al (sgn al ds) = ds.map fun (d : Nat) => (d : Int)
  | [], _ => rfl
  | d :: r, h => by
    have ih := codes_sgn S (ds := r) fun x hx => h x (List.mem_cons_of_mem _ hx)
    unfold rnk sgn codes at *
    rw [List.map_cons, List.map_cons, List.map_cons, ih, plc_at S (h d List.mem_cons_self)]
    rfl
theorem inn_sgn {al : List UInt8} (S : SignOk al) {ds : List Nat} (h : ∀ d ∈ ds, d < al.length) : ∀ c ∈ codes (sgn al ds), (plcZ al c).isSome = true := by
  intro c hc
  obtain ⟨x, hx, rfl⟩ := List.mem_map.mp hc
  obtain ⟨d, hd, rfl⟩ := List.mem_map.mp hx
  rw [plc_at S (h d hd)]; rfl
/-! numbers -/
def valN (b : Nat) (ds : List Nat) : Nat := ds.foldl (fun a d => a * b + d) 0
def valI (b : Int) (ds : List Int) : Int := ds.foldl (fun a d => a * b + d) 0
theorem valN_snoc (b : Nat) (ds : List Nat) (d : Nat) : valN b (ds ++ [d]) = valN b ds * b + d := by simp [valN, List.foldl_append]
theorem valI_snoc (b : Int) (ds : List Int) (d : Int) : valI b (ds ++ [d]) = valI b ds * b + d := by simp [valI, List.foldl_append]
theorem valI_from (b : Int) : ∀ (ds : List Int) (a : Int), ds.foldl (fun a d => a * b + d) a = a * b ^ ds.length + valI b ds
  | [], a => by simp [valI]
  | d :: r, a => by
    have h0 : valI b (d :: r) = (0 * b + d) * b ^ r.length + valI b r := by
      show r.foldl (fun a d => a * b + d) (0 * b + d) = _
      rw [valI_from b r]
    rw [List.foldl_cons, valI_from b r, h0, List.length_cons, Int.pow_succ]
    simp only [Int.zero_mul, Int.zero_add, Int.add_mul]
    rw [Int.mul_assoc, Int.mul_comm b, Int.add_assoc]
theorem valI_cons (b d : Int) (r : List Int) : valI b (d :: r) = d * b ^ r.length + valI b r := by
  show r.foldl (fun a d => a * b + d) (0 * b + d) = _
  rw [valI_from]; simp
theorem valI_bd {b : Int} (hb : 0 < b) : ∀ {l : List Int}, (∀ x ∈ l, 0 ≤ x ∧ x < b) → 0 ≤ valI b l ∧ valI b l < b ^ l.length
  | [], _ => by simp [valI]
  | d :: r, h => by
    have ih := valI_bd hb (l := r) fun x hx => h x (List.mem_cons_of_mem _ hx)
    have hd := h d List.mem_cons_self
    rw [valI_cons, List.length_cons, Int.pow_succ]
    have hp : 0 < b ^ r.length := Int.pow_pos hb
    have h1 : 0 ≤ d * b ^ r.length := Int.mul_nonneg hd.1 (Int.le_of_lt hp)
    have h2 : (d + 1) * b ^ r.length ≤ b * b ^ r.length := Int.mul_le_mul_of_nonneg_right (by omega) (Int.le_of_lt hp)
    rw [Int.add_mul] at h2
    rw [Int.mul_comm (b ^ r.length) b]
    constructor <;> omega
theorem valI_zeros (b : Int) (k : Nat) (l : List Int) : valI b (List.replicate k 0 ++ l) = valI b l := by
  induction k with
  | zero => rfl
  | succ k ih => rw [List.replicate_succ, List.cons_append, valI_cons, ih]; simp
theorem digs_val {b : Nat} (hb : 2 ≤ b) (n : Nat) : valI b ((digs b n).map fun (d : Nat) => (d : Int)) = n := by
  induction n using Nat.strongRecOn with
  | ind n ih =>
    by_cases h : n = 0
    · subst h; rw [digs_zero]; rfl
    · rw [digs_pos hb h, List.map_append, List.map_singleton, valI_snoc, ih _ (Nat.div_lt_self (by omega) (by omega))]
      have := Nat.div_add_mod n b
      rw [← Int.natCast_mul, ← Int.natCast_add, Nat.mul_comm]
      exact congrArg _ this
/-- lists of one length: as their numbers -/
theorem ltI_val {b : Int} (hb : 0 < b) : ∀ {l m : List Int}, l.length = m.length → (∀ x ∈ l, 0 ≤ x ∧ x < b) → (∀ x ∈ m, 0 ≤ x ∧ x < b) → ltI l m = decide (valI b l < valI b m)
  | [], [], _, _, _ => by simp [ltI]
  | a :: r, c :: q, hl, h1, h2 => by
    have hl' : r.length = q.length := by simpa using hl
    have h1' := fun x hx => h1 x (List.mem_cons_of_mem a hx)
    have h2' := fun x hx => h2 x (List.mem_cons_of_mem c hx)
    have ih := ltI_val hb hl' h1' h2'
    have b1 := valI_bd hb h1'
    have b2 := valI_bd hb h2'
    rw [valI_cons, valI_cons]
    rw [hl'] at b1 ⊢
    unfold ltI
    have hp : 0 < b ^ q.length := Int.pow_pos hb
    by_cases e : a = c
    · rw [if_pos e, ih, e]
      by_cases h : valI b r < valI b q
      · rw [decide_eq_true h, decide_eq_true (by omega)]
      · rw [decide_eq_false h, decide_eq_false (by omega)]
    · rw [if_neg e]
      by_cases h : a < c
      · have h3 : (a + 1) * b ^ q.length ≤ c * b ^ q.length := Int.mul_le_mul_of_nonneg_right (by omega) (Int.le_of_lt hp)
        rw [Int.add_mul] at h3
        rw [decide_eq_true h, decide_eq_true (by omega)]
      · have h3 : (c + 1) * b ^ q.length ≤ a * b ^ q.length := Int.mul_le_mul_of_nonneg_right (by omega) (Int.le_of_lt hp)
        rw [Int.add_mul] at h3
        rw [decide_eq_false h, decide_eq_false (by omega)]
theorem val_inj {b : Int} (hb : 0 < b) : ∀ {l m : List Int}, l.length = m.length → (∀ x ∈ l, 0 ≤ x ∧ x < b) → (∀ x ∈ m, 0 ≤ x ∧ x < b) → valI b l = valI b m → l = m
  | [], [], _, _, _, _ => rfl
  | a :: r, c :: q, hl, h1, h2, e => by
    have hl' : r.length = q.length := by simpa using hl
    have h1' := fun x hx => h1 x (List.mem_cons_of_mem a hx)
    have h2' := fun x hx => h2 x (List.mem_cons_of_mem c hx)
    have b1 := valI_bd hb h1'
    have b2 := valI_bd hb h2'
    rw [valI_cons, valI_cons] at e
    rw [hl'] at b1 e
    have hp : 0 < b ^ q.length := Int.pow_pos hb
    have hac : a = c := by
      rcases Int.lt_trichotomy a c with h | h | h
      · have h3 : (a + 1) * b ^ q.length ≤ c * b ^ q.length := Int.mul_le_mul_of_nonneg_right (by omega) (Int.le_of_lt hp)
        rw [Int.add_mul] at h3
        omega
      · exact h
      · have h3 : (c + 1) * b ^ q.length ≤ a * b ^ q.length := Int.mul_le_mul_of_nonneg_right (by omega) (Int.le_of_lt hp)
        rw [Int.add_mul] at h3
        omega
    subst hac
    rw [val_inj hb hl' h1' h2' (by omega)]
theorem eq_val {b : Int} (hb : 0 < b) {l m : List Int} (hl : l.length = m.length) (h1 : ∀ x ∈ l, 0 ≤ x ∧ x < b) (h2 : ∀ x ∈ m, 0 ≤ x ∧ x < b) : (l == m) = decide (valI b l = valI b m) := by
  by_cases h : valI b l = valI b m
  · rw [decide_eq_true h, val_inj hb hl h1 h2 h]; simp
  · rw [decide_eq_false h]
    exact beq_false_of_ne fun e => h (by rw [e])
end Mine
end
section
open PySem PySem.W PySem.Calls PyProof.Rows
set_option linter.unusedVariables false
set_option maxRecDepth 100000
namespace Mine
theorem num_fold : ∀ (z : List Int) (acc : Nat), (∀ x ∈ z, 0 ≤ x ∧ x < 256) → (((bytesOf z).foldl (fun a c => a * 256 + c.toNat) acc : Nat) : Int) = z.foldl (fun a c => a * 256 + c) (acc : Int)
  | [], acc, _ => rfl
  | a :: r, acc, h => by
    have ha := h a List.mem_cons_self
    have ih := num_fold r (acc * 256 + (a.toNat.toUInt8).toNat) fun x hx => h x (List.mem_cons_of_mem _ hx)
    show (((bytesOf r).foldl (fun a c => a * 256 + c.toNat) (acc * 256 + (a.toNat.toUInt8).toNat) : Nat) : Int) = r.foldl (fun a c => a * 256 + c) ((acc : Int) * 256 + a)
    rw [ih]
    congr 1
    rw [toU8 ha.1 ha.2]
    omega
theorem num_bytes {z : List Int} (h : ∀ x ∈ z, 0 ≤ x ∧ x < 256) : ((num (bytesOf z) : Nat) : Int) = numZ z := num_fold z 0 h
theorem fz_bytes : ∀ {z : List Int}, (∀ x ∈ z, 0 ≤ x ∧ x < 256) → (bytesOf z).length - (zs (bytesOf z)).length = fz z
  | [], _ => rfl
  | a :: r, h => by
    have ha := h a List.mem_cons_self
    have ih := fz_bytes (z := r) fun x hx => h x (List.mem_cons_of_mem _ hx)
    have hz := zs_len (bytesOf r)
    show (a.toNat.toUInt8 :: bytesOf r).length - (zs (a.toNat.toUInt8 :: bytesOf r)).length = fz (a :: r)
    unfold fz
    rw [List.takeWhile_cons]
    by_cases e : a = 0
    · subst e
      have e2 : zs ((0 : Int).toNat.toUInt8 :: bytesOf r) = zs (bytesOf r) := by
        unfold zs
        rw [List.dropWhile_cons, if_pos (by simp)]
      rw [e2, if_pos (by decide), List.length_cons, List.length_cons]
      unfold fz at ih
      omega
    · have h0 : ¬ (a.toNat.toUInt8 = 0) := fun q => by
        have := congrArg UInt8.toNat q
        rw [toU8 ha.1 ha.2] at this
        have : a.toNat = 0 := this
        omega
      have e2 : zs (a.toNat.toUInt8 :: bytesOf r) = a.toNat.toUInt8 :: bytesOf r := by
        unfold zs
        rw [List.dropWhile_cons, if_neg (by simp; exact h0)]
      rw [e2, if_neg (by simpa using e)]
      simp
theorem txt_sgn (al : List UInt8) {z : List Int} (h : ∀ x ∈ z, 0 ≤ x ∧ x < 256) : txt al z = sgn al (List.replicate (fz z) 0 ++ digs al.length (num (bytesOf z))) := by
  unfold txt b58 enc sgn
  rw [fz_bytes h, List.map_append, List.map_replicate]
theorem fz_split (z : List Int) : ∃ r, z = List.replicate (fz z) 0 ++ r ∧ (r = [] ∨ ∃ a q, r = a :: q ∧ a ≠ 0) := by
  refine ⟨z.dropWhile (· == 0), ?_, ?_⟩
  · have h1 : z.takeWhile (· == 0) = List.replicate (fz z) 0 := by
      refine List.eq_replicate_iff.mpr ⟨rfl, fun b hb => ?_⟩
      have := List.all_eq_true.mp (List.all_takeWhile (p := (· == 0)) (l := z)) b hb
      simpa using this
    rw [← h1]
    exact (List.takeWhile_append_dropWhile).symm
  · cases h : z.dropWhile (· == 0) with
    | nil => exact .inl rfl
    | cons a q =>
      refine .inr ⟨a, q, rfl, ?_⟩
      have := List.head?_dropWhile_not (· == 0) z
      rw [h] at this
      simpa using this
/-- a row's number against its zeros -/
theorem row_num {z : List Int} (h : ∀ x ∈ z, 0 ≤ x ∧ x < 256) : num (bytesOf z) < 256 ^ (z.length - fz z) ∧ (fz z < z.length → 256 ^ (z.length - fz z - 1) ≤ num (bytesOf z)) ∧ (fz z = z.length → num (bytesOf z) = 0) := by
  obtain ⟨r, e, hr⟩ := fz_split z
  have hl : z.length = fz z + r.length := by conv => lhs; rw [e]
                                             simp
  have hv : ((num (bytesOf z) : Nat) : Int) = valI 256 r := by
    rw [num_bytes h]
    show valI 256 z = _
    conv => lhs; rw [e]
    exact valI_zeros _ _ _
  have hb : ∀ x ∈ r, 0 ≤ x ∧ x < 256 := fun x hx => h x (by rw [e]; exact List.mem_append_right _ hx)
  have bd := valI_bd (b := 256) (by decide) hb
  have hlr : z.length - fz z = r.length := by omega
  have cast : ∀ k : Nat, ((256 ^ k : Nat) : Int) = (256 : Int) ^ k := fun k => by rw [Int.natCast_pow]; rfl
  rw [hlr]
  refine ⟨by have := cast r.length; omega, fun hlt => ?_, fun heq => ?_⟩
  · rcases hr with rfl | ⟨a, q, rfl, ha⟩
    · simp at hl; omega
    · have ha' := hb a List.mem_cons_self
      have bq := valI_bd (b := 256) (by decide) (l := q) fun x hx => hb x (List.mem_cons_of_mem _ hx)
      rw [valI_cons] at hv
      have h1 : 1 * (256 : Int) ^ q.length ≤ a * 256 ^ q.length := Int.mul_le_mul_of_nonneg_right (by omega) (Int.le_of_lt (Int.pow_pos (by decide)))
      rw [List.length_cons, Nat.add_sub_cancel]
      have := cast q.length
      omega
  · have : r = [] := List.length_eq_zero_iff.mp (by omega)
    subst this
    have : valI 256 [] = 0 := rfl
    omega
theorem full_num : ∀ n : Nat, valI 256 (List.replicate n 255) = 256 ^ n - 1
  | 0 => rfl
  | n + 1 => by rw [List.replicate_succ, valI_cons, full_num n, List.length_replicate, Int.pow_succ]; omega
theorem row_ok {al : List UInt8} (S : SignOk al) {n : Nat} (hn : n ≤ 17) {z : List Int} (hl : z.length = n) (h : ∀ x ∈ z, 0 ≤ x ∧ x < 256) : RowOk al n z := by
  have hb := S.lo
  have hb2 := S.hi
  obtain ⟨r1, r2, r3⟩ := row_num h
  rw [hl] at r1 r2 r3
  have hfz := fz_le z
  rw [hl] at hfz
  have ht := txt_sgn al h
  have htl : (txt al z).length = fz z + (digs al.length (num (bytesOf z))).length := by rw [ht]; simp [sgn]
  have D := digs_le_iff hb
  have hlt : ∀ d ∈ List.replicate (fz z) 0 ++ digs al.length (num (bytesOf z)), d < al.length := fun d hd => by
    rcases List.mem_append.mp hd with hd | hd
    · rw [(List.mem_replicate.mp hd).2]; omega
    · exact digs_lt hb _ d hd
  refine ⟨hl, h, ?_, ?_, ?_, ⟨num (bytesOf z), (num_bytes h).symm, ?_, ?_⟩, fun e => ?_, fun e => ?_⟩
  · rw [htl]
    by_cases hf : fz z = n
    · omega
    · have h1 := r2 (by omega)
      have h2 : al.length ^ (n - fz z - 1) ≤ 256 ^ (n - fz z - 1) := Nat.pow_le_pow_left hb2 _
      have h3 := D (n - fz z - 1) (num (bytesOf z))
      omega
  · rw [htl]
    have hW := widN_iff hb n (fz z + (digs al.length (num (bytesOf z))).length - 1)
    by_cases hd : (digs al.length (num (bytesOf z))).length = 0
    · by_cases hf : fz z = n
      · rw [hd]
        by_cases h0 : n = 0
        · omega
        · have h1 : al.length ^ (n - 1) ≤ 256 ^ (n - 1) := Nat.pow_le_pow_left hb2 _
          have h2 : 256 ^ (n - 1) < 256 ^ n := Nat.pow_lt_pow_right (by decide) (by omega)
          rw [hd, hf, Nat.add_zero] at hW
          have := hW.mp (by omega)
          omega
      · have h1 := r2 (by omega)
        have h2 := (D 0 (num (bytesOf z))).mp (by omega)
        have h3 : 0 < 256 ^ (n - fz z - 1) := Nat.pow_pos (by decide)
        rw [Nat.pow_zero] at h2
        omega
    · have h1 := D ((digs al.length (num (bytesOf z))).length - 1) (num (bytesOf z))
      have h2 : al.length ^ ((digs al.length (num (bytesOf z))).length - 1) ≤ num (bytesOf z) := by omega
      have h3 : al.length ^ fz z ≤ 256 ^ fz z := Nat.pow_le_pow_left hb2 _
      have h4 : al.length ^ (fz z + (digs al.length (num (bytesOf z))).length - 1) < 256 ^ n := by
        have e1 : fz z + (digs al.length (num (bytesOf z))).length - 1 = fz z + ((digs al.length (num (bytesOf z))).length - 1) := by omega
        have e2 : 256 ^ n = 256 ^ fz z * 256 ^ (n - fz z) := by rw [← Nat.pow_add]; congr 1; omega
        rw [e1, Nat.pow_add, e2]
        have p : 0 < 256 ^ fz z := Nat.pow_pos (by decide)
        exact Nat.lt_of_le_of_lt (Nat.mul_le_mul h3 h2) ((Nat.mul_lt_mul_left p).mpr r1)
      have := hW.mp h4
      omega
  · rw [ht]; exact inn_sgn S hlt
  · have h1 : 256 ^ (n - fz z) ≤ 256 ^ 17 := Nat.pow_le_pow_right (by decide) (by omega)
    have h2 : (256 : Nat) ^ 17 < 2 ^ 160 := by decide
    omega
  · rw [ht]; unfold sgn enc; rw [List.map_append, List.map_replicate]
  · have hfn : fz z = n := by
      rw [e]; unfold fz
      rw [List.takeWhile_replicate_eq_filter]
      simp
    rw [ht, r3 hfn, digs_zero, hfn, List.append_nil]
    unfold sgn; rw [List.map_replicate]
  · have h1 : ((num (bytesOf z) : Nat) : Int) = 256 ^ n - 1 := by rw [num_bytes h, e]; exact full_num n
    have h2 : num (bytesOf z) = 256 ^ n - 1 := by
      have : ((256 ^ n : Nat) : Int) = (256 : Int) ^ n := by rw [Int.natCast_pow]; rfl
      have : 0 < 256 ^ n := Nat.pow_pos (by decide)
      omega
    have h3 : fz z = 0 := by
      rw [e]; unfold fz
      cases n with
      | zero => rfl
      | succ n => rw [List.replicate_succ, List.takeWhile_cons, if_neg (by decide)]; rfl
    rw [htl, h2, h3, Nat.zero_add]
    rfl
theorem fil_val {al : List UInt8} (S : SignOk al) {n : Nat} (hn : n ≤ 17) {z : List Int} (hl : z.length = n) (h : ∀ x ∈ z, 0 ≤ x ∧ x < 256) :
    (fil al n z).length = widN al.length n ∧ (∀ x ∈ fil al n z, 0 ≤ x ∧ x < (al.length : Int)) ∧ valI al.length (fil al n z) = numZ z := by
  have hb := S.lo
  have R := row_ok S hn hl h
  have ht := txt_sgn al h
  have hlt : ∀ d ∈ List.replicate (fz z) 0 ++ digs al.length (num (bytesOf z)), d < al.length := fun d hd => by
    rcases List.mem_append.mp hd with hd | hd
    · rw [(List.mem_replicate.mp hd).2]; omega
    · exact digs_lt hb _ d hd
  have hr : rnk al (txt al z) = (List.replicate (fz z) 0 ++ digs al.length (num (bytesOf z))).map fun (d : Nat) => (d : Int) := by rw [ht]; exact codes_sgn S hlt
  have hhi := R.hi
  refine ⟨?_, fun x hx => ?_, ?_⟩
  · unfold fil
    rw [List.length_append, List.length_replicate]
    have : (rnk al (txt al z)).length = (txt al z).length := by simp [rnk, codes]
    omega
  · unfold fil at hx
    rcases List.mem_append.mp hx with hx | hx
    · rw [(List.mem_replicate.mp hx).2]; omega
    · rw [hr] at hx
      obtain ⟨d, hd, rfl⟩ := List.mem_map.mp hx
      have := hlt d hd
      omega
  · unfold fil
    rw [valI_zeros, hr, List.map_append, List.map_replicate]
    rw [show ((0 : Nat) : Int) = 0 from rfl, valI_zeros, digs_val hb, num_bytes h]
theorem rows_in {ns : List Int} {z : List Int} (hz : z ∈ rowsUpTo ns 4) : z.length = lenN ns ∧ ∀ x ∈ z, 0 ≤ x ∧ x < 256 := by
  rcases List.mem_append.mp hz with hz | hz
  · simp only [List.mem_cons, List.not_mem_nil, or_false] at hz
    rcases hz with rfl | rfl
    · exact ⟨by simp, fun x hx => by rw [(List.mem_replicate.mp hx).2]; decide⟩
    · exact ⟨by simp, fun x hx => by rw [(List.mem_replicate.mp hx).2]; decide⟩
  · obtain ⟨j, _, rfl⟩ := List.mem_map.mp hz
    refine ⟨by simp [rowD, upto_len], fun x hx => ?_⟩
    obtain ⟨k, _, rfl⟩ := List.mem_map.mp hx
    exact ⟨fmod_lo _ (by decide), fmod_hi _ (by decide)⟩
theorem rows_cmp {al : List UInt8} (S : SignOk al) {n : Nat} (hn : n ≤ 17) {y z : List Int} (hy : y.length = n) (h1 : ∀ x ∈ y, 0 ≤ x ∧ x < 256) (hl : z.length = n) (h : ∀ x ∈ z, 0 ≤ x ∧ x < 256) : ltI y z = ltI (fil al n y) (fil al n z) ∧ (y == z) = (fil al n y == fil al n z) := by
  have hb := S.lo
  obtain ⟨a1, a2, a3⟩ := fil_val S hn hy h1
  obtain ⟨b1, b2, b3⟩ := fil_val S hn hl h
  have hbz : (0 : Int) < al.length := by omega
  have hlen : (fil al n y).length = (fil al n z).length := by rw [a1, b1]
  have hlen2 : y.length = z.length := by rw [hy, hl]
  rw [ltI_val (b := 256) (by decide) hlen2 h1 h, ltI_val hbz hlen a2 b2, eq_val (b := 256) (by decide) hlen2 h1 h, eq_val hbz hlen a2 b2, a3, b3]
  exact ⟨rfl, rfl⟩
end Mine
end
section
open PySem PySem.W PySem.Calls PyProof.Rows
set_option linter.unusedVariables false
set_option maxRecDepth 100000
namespace Mine
def toI (ds : List Nat) : List Int := ds.map fun (d : Nat) => (d : Int)
theorem toI_app (a b : List Nat) : toI (a ++ b) = toI a ++ toI b := by simp [toI]
/-- a number's text, by places -/
def cz (b n : Nat) : List Nat := if n = 0 then [0] else digs b n
theorem cz_lt {b : Nat} (hb : 2 ≤ b) (n : Nat) : ∀ d ∈ cz b n, d < b := by
  unfold cz
  split
  · intro d hd; rw [List.mem_singleton.mp hd]; omega
  · exact digs_lt hb n
theorem encT_sgn {al : List UInt8} (h : 1 ≤ al.length) (n : Nat) : encT al n = sgn al (cz al.length n) := by
  unfold encT cz
  split
  · rw [take1 h]; rfl
  · rfl
theorem cz_val {b : Nat} (hb : 2 ≤ b) (n : Nat) : valI b (toI (cz b n)) = n := by
  unfold cz
  split
  · rename_i h; subst h; simp [valI, toI]
  · exact digs_val hb n
/-! counting -/
theorem steps_app (b : Int) : ∀ (l : List Int) (p : List Int) (c : Int), l.foldl (stepZ b) (p, c) = (p ++ (l.foldl (stepZ b) ([], c)).1, (l.foldl (stepZ b) ([], c)).2)
  | [], p, c => by simp
  | r :: q, p, c => by
    rw [List.foldl_cons, List.foldl_cons]
    have h1 := steps_app b q (stepZ b (p, c) r).1 (stepZ b (p, c) r).2
    have h2 := steps_app b q (stepZ b ([], c) r).1 (stepZ b ([], c) r).2
    rw [show ((stepZ b (p, c) r).1, (stepZ b (p, c) r).2) = stepZ b (p, c) r from rfl] at h1
    rw [show ((stepZ b ([], c) r).1, (stepZ b ([], c) r).2) = stepZ b ([], c) r from rfl] at h2
    rw [h1, h2]
    simp [stepZ]
theorem steps_copy (b : Int) : ∀ (l : List Int), (∀ r ∈ l, r ≠ b) → l.foldl (stepZ b) ([], 0) = (l, 0)
  | [], _ => rfl
  | r :: q, h => by
    have hr := h r List.mem_cons_self
    have e : stepZ b ([], 0) r = ([r], 0) := by simp [stepZ, hr]
    rw [List.foldl_cons, e, steps_app, steps_copy b q fun x hx => h x (List.mem_cons_of_mem _ hx)]
    rfl
theorem next_snoc {b : Int} {l : List Int} (h : ∀ r ∈ l, r ≠ b) (d : Int) : nextZ (l ++ [d]) b = if d + 1 = b then nextZ l b ++ [0] else l ++ [d + 1] := by
  unfold nextZ runZ
  rw [List.reverse_append, List.reverse_singleton, List.singleton_append, List.foldl_cons]
  by_cases e : d + 1 = b
  · have e1 : stepZ b ([], 1) d = ([0], 1) := by simp [stepZ, e]
    rw [e1, steps_app, if_pos e]
    generalize List.foldl (stepZ b) ([], 1) l.reverse = w
    obtain ⟨o, c⟩ := w
    dsimp only
    by_cases hc : c = 1
    · rw [if_pos hc, if_pos hc]; simp
    · rw [if_neg hc, if_neg hc]; simp
  · have e1 : stepZ b ([], 1) d = ([d + 1], 0) := by simp [stepZ, e]
    rw [e1, steps_app, if_neg e, steps_copy b l.reverse fun r hr => h r (List.mem_reverse.mp hr)]
    simp
theorem next_digs {b : Nat} (hb : 2 ≤ b) (n : Nat) : nextZ (toI (digs b n)) b = toI (digs b (n + 1)) := by
  induction n using Nat.strongRecOn with
  | ind n ih =>
    by_cases h : n = 0
    · subst h
      have e : digs b (0 + 1) = [1] := by
        rw [digs_pos hb (by omega), show (0 + 1) / b = 0 from Nat.div_eq_of_lt (by omega), digs_zero, show (0 + 1) % b = 1 from Nat.mod_eq_of_lt (by omega)]; rfl
      rw [e, digs_zero]; rfl
    · have hm : n % b < b := Nat.mod_lt _ (by omega)
      have hd := Nat.div_add_mod n b
      have hne : ∀ r ∈ toI (digs b (n / b)), r ≠ (b : Int) := fun r hr => by
        obtain ⟨d, hd, rfl⟩ := List.mem_map.mp hr
        have := digs_lt hb _ d hd
        omega
      rw [digs_pos hb h, toI_app, show toI [n % b] = [((n % b : Nat) : Int)] from rfl, next_snoc hne, digs_pos hb (n := n + 1) (by omega), toI_app]
      by_cases e : n % b + 1 = b
      · have e1 : n + 1 = b * (n / b + 1) := by rw [Nat.mul_add]; omega
        have e2 : (n + 1) / b = n / b + 1 := by rw [e1, Nat.mul_div_cancel_left _ (by omega)]
        have e3 : (n + 1) % b = 0 := by rw [e1]; exact Nat.mul_mod_right _ _
        rw [if_pos (by omega), ih (n / b) (Nat.div_lt_self (by omega) (by omega)), e2, e3]; rfl
      · have e1 : n + 1 = b * (n / b) + (n % b + 1) := by omega
        have h5 : n % b + 1 < b := by omega
        have e2 : (n + 1) / b = n / b := by rw [e1, Nat.mul_add_div (by omega), Nat.div_eq_of_lt h5, Nat.add_zero]
        have e3 : (n + 1) % b = n % b + 1 := by rw [e1, Nat.mul_add_mod, Nat.mod_eq_of_lt h5]
        rw [if_neg (by omega), e2, e3]; rfl
theorem next_cz {b : Nat} (hb : 2 ≤ b) (n : Nat) : nextZ (toI (cz b n)) b = toI (cz b (n + 1)) := by
  unfold cz
  by_cases h : n = 0
  · subst h
    rw [if_pos rfl, if_neg (by omega)]
    have := next_snoc (b := (b : Int)) (l := []) (fun r hr => nomatch hr) 0
    rw [if_neg (by omega)] at this
    have e : digs b (0 + 1) = [1] := by
      rw [digs_pos hb (by omega), show (0 + 1) / b = 0 from Nat.div_eq_of_lt (by omega), digs_zero, show (0 + 1) % b = 1 from Nat.mod_eq_of_lt (by omega)]; rfl
    rw [e]
    exact this
  · rw [if_neg h, if_neg (by omega)]; exact next_digs hb n
theorem rkAt_cz {b : Nat} (hb : 2 ≤ b) (m : Nat) : ∀ i, rkAt b (toI (cz b m)) i = toI (cz b (m + i))
  | 0 => rfl
  | i + 1 => by unfold rkAt; rw [rkAt_cz hb m i, next_cz hb]; rfl
/-! a list of digits is its number's own -/
theorem canon {b : Nat} (hb : 2 ≤ b) : ∀ (k : Nat) (ds : List Nat), ds.length = k → (∀ d ∈ ds, d < b) → ds.head? ≠ some 0 → digs b (valN b ds) = ds
  | 0, ds, hl, _, _ => by rw [List.length_eq_zero_iff.mp hl]; exact digs_zero b
  | k + 1, ds, hl, h, h0 => by
    have hne : ds ≠ [] := by rintro rfl; simp at hl
    obtain ⟨q, d, rfl⟩ : ∃ q d, ds = q ++ [d] := ⟨ds.dropLast, ds.getLast hne, (List.dropLast_concat_getLast hne).symm⟩
    have hd : d < b := h d (by simp)
    rw [valN_snoc]
    by_cases hq : q = []
    · subst hq
      have : d ≠ 0 := by intro e; subst e; exact h0 rfl
      have e : valN b [] * b + d = d := by simp [valN]
      rw [e, digs_pos hb this, Nat.div_eq_of_lt hd, digs_zero, Nat.mod_eq_of_lt hd]
    · have hq0 : q.head? ≠ some 0 := by
        cases q with
        | nil => exact absurd rfl hq
        | cons a r => simpa using h0
      have ih := canon hb k q (by simpa using hl) (fun x hx => h x (List.mem_append_left _ hx)) hq0
      have hv : valN b q ≠ 0 := by intro e; rw [e, digs_zero] at ih; exact hq ih.symm
      have hp : 0 < valN b q * b := Nat.mul_pos (by omega) (by omega)
      rw [digs_pos hb (by omega)]
      have e1 : (valN b q * b + d) / b = valN b q := by rw [Nat.mul_comm, Nat.mul_add_div (by omega), Nat.div_eq_of_lt hd, Nat.add_zero]
      have e2 : (valN b q * b + d) % b = d := by rw [Nat.mul_comm, Nat.mul_add_mod, Nat.mod_eq_of_lt hd]
      rw [e1, e2, ih]
theorem valI_toI (b : Nat) (ds : List Nat) : valI b (toI ds) = (valN b ds : Int) := by
  have : ∀ (ds : List Nat) (a : Nat), (toI ds).foldl (fun a d => a * (b : Int) + d) (a : Int) = ((ds.foldl (fun a d => a * b + d) a : Nat) : Int) := by
    intro ds
    induction ds with
    | nil => intro a; rfl
    | cons d r ih =>
      intro a
      show (toI r).foldl _ ((a : Int) * b + d) = _
      rw [← Int.natCast_mul, ← Int.natCast_add, ih]
      rfl
  exact this ds 0
theorem sumZ_val (b : Int) (l : List Int) : ∀ i, i ≤ l.length → sumZ b l i = valI b (l.reverse.take i).reverse
  | 0, _ => rfl
  | i + 1, h => by
    have hi : i < l.reverse.length := by rw [List.length_reverse]; omega
    unfold sumZ
    rw [sumZ_val b l i (by omega), List.take_add_one, List.getElem?_eq_getElem hi]
    simp only [Option.toList_some, List.reverse_append, List.reverse_singleton, List.singleton_append]
    rw [valI_cons, List.length_reverse, List.length_take, List.getD_eq_getElem?_getD, List.getElem?_eq_getElem hi]
    rw [Nat.min_eq_left (by omega)]
    simp only [Option.getD_some]
    omega
theorem numR_val (ns : List Int) : numR ns = valI (alS ns).length (RK ns) := by
  unfold numR
  rw [sumZ_val _ _ _ (Nat.le_refl _), List.take_of_length_le (by simp), List.reverse_reverse]
theorem RK_cz (ns : List Int) (hb : 2 ≤ (alS ns).length) : ∃ m : Nat, numR ns = (m : Int) ∧ RK ns = toI (cz (alS ns).length m) ∧ m < (alS ns).length ^ 15 := by
  have bd := RK_bd ns hb
  have hlen : (RK ns).length = 1 + cntN ns := by simp [RK, rkZ]; omega
  have hc := cntN_le ns
  obtain ⟨ds, hds⟩ : ∃ ds : List Nat, RK ns = toI ds := by
    refine ⟨(RK ns).map Int.toNat, ?_⟩
    unfold toI
    rw [List.map_map]
    conv => lhs; rw [← List.map_id (RK ns)]
    apply List.map_congr_left
    intro x hx
    have := bd x hx
    show x = ((x.toNat : Nat) : Int)
    omega
  have hdl : ds.length = 1 + cntN ns := by rw [← hlen, hds]; simp [toI]
  have hd : ∀ d ∈ ds, d < (alS ns).length := fun d hd => by
    have := bd (d : Int) (by rw [hds]; exact List.mem_map.mpr ⟨d, hd, rfl⟩)
    omega
  have hv : numR ns = (valN (alS ns).length ds : Int) := by rw [numR_val, hds, valI_toI]
  have hbz : (0 : Int) < (alS ns).length := by omega
  have b2 := valI_bd (b := ((alS ns).length : Int)) hbz bd
  have hm : valN (alS ns).length ds < (alS ns).length ^ 15 := by
    have e1 : valI (alS ns).length (RK ns) = (valN (alS ns).length ds : Int) := by rw [hds, valI_toI]
    rw [e1, ← Int.natCast_pow] at b2
    have h1 : (alS ns).length ^ (RK ns).length ≤ (alS ns).length ^ 15 := Nat.pow_le_pow_right (by omega) (by omega)
    omega
  refine ⟨_, hv, ?_, hm⟩
  rw [hds]
  congr 1
  by_cases h0 : rk0 ns > 0
  · have hhead : ds.head? ≠ some 0 := by
      cases ds with
      | nil => simp
      | cons a r =>
        have : (a : Int) = rk0 ns := by
          have e := hds
          unfold RK rkZ toI at e
          simp at e
          exact e.1.symm
        simp
        omega
    have hc := canon hb _ ds rfl hd hhead
    have hne : valN (alS ns).length ds ≠ 0 := by
      intro e
      rw [e, digs_zero] at hc
      rw [← hc] at hdl
      simp at hdl
      omega
    unfold cz
    rw [if_neg hne, hc]
  · have hcn : cntN ns = 0 := by unfold cntN; rw [if_neg h0]
    have hr0 : rk0 ns = 0 := by
      have := bd (rk0 ns) (by unfold RK rkZ; simp)
      omega
    have e : RK ns = [0] := by unfold RK rkZ; rw [hcn, hr0]; rfl
    have e2 : ds = [0] := by
      rw [e] at hds
      cases ds with
      | nil => simp [toI] at hds
      | cons a r =>
        simp [toI] at hds
        rw [hds.2]
        congr 1
        omega
    subst e2
    simp [cz, valN]
end Mine
end
section
open PySem PySem.W PySem.Calls PyProof.Rows
set_option linter.unusedVariables false
set_option maxRecDepth 100000
namespace Mine
theorem digs_mono {b : Nat} (hb : 2 ≤ b) {n m : Nat} (h : n ≤ m) : (digs b n).length ≤ (digs b m).length := by
  rw [digs_le_iff hb]
  have := (digs_le_iff hb (digs b m).length m).mp (Nat.le_refl _)
  omega
theorem cz_mono {b : Nat} (hb : 2 ≤ b) {n m : Nat} (h : n ≤ m) : (cz b n).length ≤ (cz b m).length := by
  unfold cz
  by_cases h1 : n = 0
  · rw [if_pos h1]
    by_cases h2 : m = 0
    · rw [if_pos h2]; exact Nat.le_refl _
    · rw [if_neg h2, digs_pos hb h2]; simp
  · rw [if_neg h1, if_neg (by omega)]; exact digs_mono hb h
theorem cz_len {b : Nat} (hb : 2 ≤ b) {n : Nat} (h : n < b ^ 16) : (cz b n).length ≤ 16 := by
  unfold cz
  split
  · simp
  · exact (digs_le_iff hb 16 n).mpr h
theorem toI_len (ds : List Nat) : (toI ds).length = ds.length := by simp [toI]
theorem toI_bd {b : Nat} {ds : List Nat} (h : ∀ d ∈ ds, d < b) : ∀ x ∈ toI ds, 0 ≤ x ∧ x < (b : Int) := fun x hx => by
  obtain ⟨d, hd, rfl⟩ := List.mem_map.mp hx
  have := h d hd
  omega
section
variable {al : List UInt8} {m : Nat}
theorem small_sum (S : SignOk al) (hm : m < al.length ^ 15) {i : Nat} (hi : i < 8) : m + i < al.length ^ 16 := by
  have hb := S.lo
  have h1 : 2 ^ 15 ≤ al.length ^ 15 := Nat.pow_le_pow_left hb 15
  have h2 : al.length ^ 15 * 2 ≤ al.length ^ 16 := by rw [Nat.pow_succ]; exact Nat.mul_le_mul_left _ hb
  have h3 : (2 : Nat) ^ 15 = 32768 := by decide
  omega
theorem cnt_ok (S : SignOk al) (hm : m < al.length ^ 15) : CntOk al (toI (cz al.length m)) m := by
  have hb := S.lo
  refine ⟨fun i hi => ?_, fun i hi => ?_, fun i hi r hr => ?_, fun i hi => ?_⟩
  · rw [rkAt_cz hb, toI_len]
    have := cz_len hb (small_sum S hm hi)
    omega
  · have := (digs_le_iff hb 16 (m + i)).mpr (small_sum S hm hi)
    omega
  · rw [rkAt_cz hb] at hr
    exact toI_bd (cz_lt hb _) r hr
  · rw [rkAt_cz hb, encT_sgn (by omega)]
    unfold sgn toI
    rw [List.map_map]
    apply List.map_congr_left
    intro d _
    simp
theorem texts_in {t : List UInt8} (S : SignOk al) (h : t ∈ textsN al m 7) : ∃ i, i < 7 ∧ t = sgn al (cz al.length (m + i)) := by
  obtain ⟨i, hi, rfl⟩ := List.mem_map.mp h
  have := S.lo
  exact ⟨i, List.mem_range.mp hi, encT_sgn (by omega) _⟩
theorem ord_ok (S : SignOk al) (hm : m < al.length ^ 15) : OrdOk al m := by
  have hb := S.lo
  refine ⟨fun t ht => ?_, fun t ht => ?_, fun i j hi hj => ?_⟩
  · obtain ⟨i, hi, rfl⟩ := texts_in S ht
    have := cz_len hb (small_sum S hm (i := i) (by omega))
    unfold sgn
    rw [List.length_map]; omega
  · obtain ⟨i, hi, rfl⟩ := texts_in S ht
    exact inn_sgn S (cz_lt hb _)
  · have k : ∀ n, keyZ al (encT al n) = ((cz al.length n).length : Int) :: toI (cz al.length n) := fun n => by
      unfold keyZ
      rw [encT_sgn (by omega), codes_sgn S (cz_lt hb n)]
      unfold sgn
      rw [List.length_map]; rfl
    rw [k, k]
    unfold ltI
    have hbz : (0 : Int) < al.length := by omega
    by_cases e : ((cz al.length (m + i)).length : Int) = (cz al.length (m + j)).length
    · rw [if_pos e, ltI_val hbz (by rw [toI_len, toI_len]; omega) (toI_bd (cz_lt hb _)) (toI_bd (cz_lt hb _)), cz_val hb, cz_val hb]
      by_cases h : i < j
      · rw [decide_eq_true h, decide_eq_true (by omega)]
      · rw [decide_eq_false h, decide_eq_false (by omega)]
    · rw [if_neg e]
      by_cases h : i < j
      · have := cz_mono hb (n := m + i) (m := m + j) (by omega)
        rw [decide_eq_true h, decide_eq_true (by omega)]
      · have := cz_mono hb (n := m + j) (m := m + i) (by omega)
        rw [decide_eq_false h, decide_eq_false (by omega)]
theorem decZ_rnk (al l : List UInt8) : decZ al (codes l) = valI al.length (rnk al l) := by
  unfold decZ valI rnk placeZ
  rw [plc_eq, List.foldl_map]
theorem not_space {c : UInt8} (h : 33 ≤ c.toNat) : Builtin.Bytes.isSpace c = false := by
  unfold Builtin.Bytes.isSpace
  have h1 : c ≠ 32 := fun e => by rw [e] at h; exact absurd h (by decide)
  have h2 : ¬ c ≤ 13 := fun e => by
    have : c.toNat ≤ 13 := UInt8.le_iff_toNat_le.mp e
    omega
  simp [h1, h2]
theorem dec_ok (S : SignOk al) (hm : m < al.length ^ 15) (n : Nat) : DecOk al n m := by
  have hb := S.lo
  have cat : ∀ i, List.replicate (n % 3) (al.getD 0 0) ++ sgn al (cz al.length (m + i)) = sgn al (List.replicate (n % 3) 0 ++ cz al.length (m + i)) := fun i => by
    unfold sgn; rw [List.map_append, List.map_replicate]
  have lt : ∀ i, ∀ d ∈ List.replicate (n % 3) 0 ++ cz al.length (m + i), d < al.length := fun i d hd => by
    rcases List.mem_append.mp hd with hd | hd
    · rw [(List.mem_replicate.mp hd).2]; omega
    · exact cz_lt hb _ d hd
  refine ⟨fun t ht => ?_, fun t ht => ?_, fun t ht c hc => ?_, fun hs => ?_, ?_⟩
  · exact (ord_ok S hm).len t ht
  · obtain ⟨i, hi, rfl⟩ := texts_in S ht
    rw [cat, plc_eq]
    exact inn_sgn S (lt i)
  · obtain ⟨i, hi, rfl⟩ := texts_in S ht
    rw [cat] at hc
    obtain ⟨d, hd, rfl⟩ := List.mem_map.mp hc
    exact not_space (S.vis _ (getD_mem (lt i d hd)))
  · have := S.vis _ hs
    exact absurd this (by decide)
  · unfold textsN upto
    rw [List.map_map, List.map_map]
    apply List.map_congr_left
    intro i _
    simp only [Function.comp]
    rw [encT_sgn (by omega), cat, decZ_rnk, codes_sgn S (lt i)]
    show valI al.length (toI (List.replicate (n % 3) 0 ++ cz al.length (m + i))) = _
    rw [toI_app, show toI (List.replicate (n % 3) 0) = List.replicate (n % 3) (0 : Int) by simp [toI], valI_zeros, cz_val hb]
    simp
end
theorem plain_ok (ns : List Int) : PlainOk ns := by
  have S := sign_ok ns
  obtain ⟨m, h1, h2, h3⟩ := RK_cz ns S.lo
  refine ⟨S.lo, S.hi, fun z hz => row_ok S (lenN_le ns) (rows_in hz).1 (rows_in hz).2, fun a ha b hb => rows_cmp S (lenN_le ns) (rows_in ha).1 (rows_in ha).2 (rows_in hb).1 (rows_in hb).2, m, h1, ?_, ord_ok S h3, dec_ok S h3 _⟩
  rw [h2]
  exact cnt_ok S h3
end Mine
end
section
open PySem PySem.W PyProof.Rows
namespace Mine
set_option maxRecDepth 100000 in
set_option maxHeartbeats 8000000 in
theorem whole_of (lok : ∀ (w : World) (mg mb : Str → Option Value) (g : Heap) (s : Shared) (l : Addr) (vs : List Value) (ns : List Int), LawIn w mg mb g s l vs ns → codeAny (model PySem.Challenge.rw_fe0040_01.prog w) callerA (.call (.ref 75) ⟨[.ref l], []⟩) (LawPost s g) s) : PySem.Challenge.rw_fe0040_01.Holds := by
  refine hd ?_
  k_fill
  intro w s₀ s₁ mg mb G Y fa o pm cd doc dV kV ho hd hcd hD hmg hg args vals as hpre hlay hrd hwl hlo
  have KX := km_in_of Y
  km_tabs Y
  have X := (Ground.X G).1
  have V := (Ground.X G).2
  refine Ground.open G ?_
  intro T B D TE TW
  try (refine guard_noD D (by decide +kernel) ?_; clear D)
  km_lay T hmg ho hd cd
  have hfa : fa = 75 := by
    have e := mg_of KX T.g (n := "law") (v := .ref 75) (by kernel_rfl)
    have e2 := hmg.symm.trans e
    cases e2; rfl
  subst hfa
  clear hmg
  wrow_args hpre hlay hrd hwl hlo
  all_goals (
    first | refine callC_kw (enter_call ?_) | refine enter_call ?_)
  all_goals w_top on
  all_goals kn_posts
  clear hD hd hcd
  have X' := ghost_K hT9 KX (by kernel_rfl)
  have T' := ghost_top hT9 T
  have C' := ghost_code hT9
  rename IntsAre _ _ => hI
  rename Heap.IsList _ _ _ => hL
  rename ¬ (_ : Int) < _ => hc
  obtain ⟨bm, ob, b1, b2, b3, b4, b5, b6⟩ := T'.bmain
  have hbG : bm ≠ mainGlobals := fun q => by
    obtain ⟨o, es, ep, e, hd, _⟩ := T'.g
    rw [q, e] at b3; cases b3; rw [hd] at b6; cases b6
  have no : (ghostOf s₁.heap [(74, 72)]).get? 72 = none := hideAll_none _ (by simp)
  have hb72 : bm ≠ 72 := fun q => by rw [q, no] at b3; cases b3
  refine codeAny_mono (lok w mg mb (ghostOf s₁.heap [(74, 72)]) s₁ _ _ _ ⟨⟨X', ⟨T'.g, T'.b, T'.nolimit⟩, fun x v e n => by rw [T'.builtins x n]; exact e⟩, fun b o e => of_hideAll _ e, hideAll_size _ _, (hT9 _ (.head _)).2, no, C'.1, ⟨bm, ob, b1, b2, hbG, hb72, b3, b4, b5, b6⟩, ghost_list hT9 hL, hI, by omega⟩) fun r s' ⟨e, k, os, gens, gr⟩ => ?_
  subst e
  exact ⟨⟨.inl ⟨.bool true, .bool true, [], rfl, fun _ => rfl, .bool true, by first | wrow_post | kc_post | (simp [ClaimW.post]), unshared_nil⟩, k, os, gens.trans hg⟩, gr, trivial⟩
theorem whole : PySem.Challenge.rw_fe0040_01.Holds := whole_of fun w mg mb g s l vs ns I => law_ok (fun ns _ => plain_ok ns) I
end Mine
end
theorem PySem.Challenge.cw_fe0040_01_holds : PySem.Challenge.rw_fe0040_01.Holds :=
  Mine.whole
