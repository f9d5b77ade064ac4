import PyProof.Rows.All
import Wide.All
import OpenK.AllK
import Wide.FinOn
import Lean
import PyProof.StrLawsTight
import PySem.Challenge.RW_wn0030_02
section
open PySem PySem.W PyProof.Rows PySem.Calls PySem.Spec
set_option Elab.async false
set_option maxRecDepth 100000
namespace Mine

/-- plain data -/
inductive PV where
  | none
  | bool (b : Bool)
  | int (i : Int)
  | str (s : List Nat)
  | tup (l : List PV)
  | list (l : List PV)

abbrev vstr (s : List Nat) (t : Tok) : Value := .str ⟨s.toArray⟩ t

mutual
/-- the heap bears the datum at the value; x: an address that must not be touched -/
def Rep (x : Option Addr) (h : Heap) : PV → Value → Prop
  | .none, v => v = .none
  | .bool b, v => v = .bool b
  | .int i, v => ∃ t, v = .int i t
  | .str s, v => ∃ t, v = vstr s t
  | .tup l, v => ∃ a vs, v = .ref a ∧ x ≠ some a ∧ IsTup h a vs.toArray ∧ RepL x h l vs
  | .list l, v => ∃ a vs, v = .ref a ∧ x ≠ some a ∧ h.IsList a vs.toArray ∧ RepL x h l vs
def RepL (x : Option Addr) (h : Heap) : List PV → List Value → Prop
  | [], vs => vs = []
  | p :: l, vs => ∃ v r, vs = v :: r ∧ Rep x h p v ∧ RepL x h l r
end

def SeqKept (x : Option Addr) (h h' : Heap) : Prop := ∀ b o vs n, x ≠ some b → o.data = .seq vs n → h.get? b = some o → h'.get? b = some o
def Kept (h h' : Heap) : Prop := ∀ b o, h.get? b = some o → h'.get? b = some o
def KeptBut (L : Addr) (x : Option Addr) (h h' : Heap) : Prop := ∀ b o, b ≠ L → x ≠ some b → h.get? b = some o → h'.get? b = some o

theorem Kept.refl (h : Heap) : Kept h h := fun _ _ e => e
theorem Kept.trans {h h' h'' : Heap} (a : Kept h h') (b : Kept h' h'') : Kept h h'' := fun c o e => b c o (a c o e)
theorem Kept.push (h : Heap) (o : Obj) : Kept h (h.push o) := fun _ _ e => Heap.get?_push_of_some _ e
theorem Kept.seq {x : Option Addr} {h h' : Heap} (a : Kept h h') : SeqKept x h h' := fun b o _ _ _ _ e => a b o e
theorem Kept.but {L : Addr} {x : Option Addr} {h h' : Heap} (a : Kept h h') : KeptBut L x h h' := fun b o _ _ e => a b o e
theorem KeptBut.refl {L : Addr} {x : Option Addr} (h : Heap) : KeptBut L x h h := fun _ _ _ _ e => e
theorem KeptBut.trans {L : Addr} {x : Option Addr} {h h' h'' : Heap} (a : KeptBut L x h h') (b : KeptBut L x h' h'') : KeptBut L x h h'' := fun c o n m e => b c o n m (a c o n m e)

mutual
theorem Rep.mono {x : Option Addr} {h h' : Heap} (k : SeqKept x h h') : ∀ {p : PV} {v : Value}, Rep x h p v → Rep x h' p v
  | .none, _, r => r
  | .bool _, _, r => r
  | .int _, _, r => r
  | .str _, _, r => r
  | .tup _, _, r => by
    unfold Rep at r ⊢
    obtain ⟨a, vs, e, n, ⟨o, ho, hc, c, hd⟩, rl⟩ := r
    exact ⟨a, vs, e, n, ⟨o, k a o _ _ n hd ho, hc, c, hd⟩, RepL.mono k rl⟩
  | .list _, _, r => by
    unfold Rep at r ⊢
    obtain ⟨a, vs, e, n, ⟨o, ho, hc, c, hd⟩, rl⟩ := r
    exact ⟨a, vs, e, n, ⟨o, k a o _ _ n hd ho, hc, c, hd⟩, RepL.mono k rl⟩
theorem RepL.mono {x : Option Addr} {h h' : Heap} (k : SeqKept x h h') : ∀ {l : List PV} {vs : List Value}, RepL x h l vs → RepL x h' l vs
  | [], _, r => r
  | p :: l, _, r => by
    unfold RepL at r ⊢
    obtain ⟨v, q, e, r1, r2⟩ := r
    exact ⟨v, q, e, Rep.mono k r1, RepL.mono k r2⟩
end

mutual
theorem Rep.weak {x : Option Addr} {h : Heap} : ∀ {p : PV} {v : Value}, Rep x h p v → Rep none h p v
  | .none, _, r => r
  | .bool _, _, r => r
  | .int _, _, r => r
  | .str _, _, r => r
  | .tup _, _, r => by
    unfold Rep at r ⊢
    obtain ⟨a, vs, e, n, t, rl⟩ := r
    exact ⟨a, vs, e, by simp, t, RepL.weak rl⟩
  | .list _, _, r => by
    unfold Rep at r ⊢
    obtain ⟨a, vs, e, n, t, rl⟩ := r
    exact ⟨a, vs, e, by simp, t, RepL.weak rl⟩
theorem RepL.weak {x : Option Addr} {h : Heap} : ∀ {l : List PV} {vs : List Value}, RepL x h l vs → RepL none h l vs
  | [], _, r => r
  | p :: l, _, r => by
    unfold RepL at r ⊢
    obtain ⟨v, q, e, r1, r2⟩ := r
    exact ⟨v, q, e, Rep.weak r1, RepL.weak r2⟩
end

mutual
/-- no list within -/
def PV.flat : PV → Bool
  | .list _ => false
  | .tup l => PV.flatL l
  | _ => true
def PV.flatL : List PV → Bool
  | [] => true
  | p :: l => p.flat && PV.flatL l
end

mutual
theorem Rep.away {a : Addr} {h : Heap} {items : Array Value} (hl : h.IsList a items) : ∀ {p : PV} {v : Value}, p.flat = true → Rep none h p v → Rep (some a) h p v
  | .none, _, _, r => r
  | .bool _, _, _, r => r
  | .int _, _, _, r => r
  | .str _, _, _, r => r
  | .tup _, _, f, r => by
    unfold Rep at r ⊢
    unfold PV.flat at f
    obtain ⟨b, vs, e, n, t, rl⟩ := r
    refine ⟨b, vs, e, ?_, t, RepL.away hl f rl⟩
    intro hab
    cases hab
    obtain ⟨o, ho, hc, _⟩ := t
    obtain ⟨o', ho', hc', _⟩ := hl
    rw [ho] at ho'
    cases ho'
    rw [hc] at hc'
    revert hc'
    decide
  | .list _, _, f, _ => by simp [PV.flat] at f
theorem RepL.away {a : Addr} {h : Heap} {items : Array Value} (hl : h.IsList a items) : ∀ {l : List PV} {vs : List Value}, PV.flatL l = true → RepL none h l vs → RepL (some a) h l vs
  | [], _, _, r => r
  | p :: l, _, f, r => by
    unfold RepL at r ⊢
    unfold PV.flatL at f
    obtain ⟨v, q, e, r1, r2⟩ := r
    obtain ⟨f1, f2⟩ := Bool.and_eq_true_iff.mp f
    exact ⟨v, q, e, Rep.away hl f1 r1, RepL.away hl f2 r2⟩
end

theorem RepL.length {x : Option Addr} {h : Heap} : ∀ {l : List PV} {vs : List Value}, RepL x h l vs → vs.length = l.length
  | [], _, r => by unfold RepL at r; rw [r]; rfl
  | p :: l, _, r => by
    unfold RepL at r
    obtain ⟨v, q, e, _, r2⟩ := r
    rw [e, List.length_cons, RepL.length r2, List.length_cons]
theorem RepL.get {x : Option Addr} {h : Heap} : ∀ {l : List PV} {vs : List Value} {i : Nat} {p : PV}, RepL x h l vs → l[i]? = some p → ∃ v, vs[i]? = some v ∧ Rep x h p v
  | [], _, _, _, _, e => by simp at e
  | q :: l, _, 0, p, r, e => by
    unfold RepL at r
    obtain ⟨v, r', e', r1, _⟩ := r
    simp at e
    subst e e'
    exact ⟨v, by simp, r1⟩
  | q :: l, _, i + 1, p, r, e => by
    unfold RepL at r
    obtain ⟨v, r', e', _, r2⟩ := r
    subst e'
    simpa using RepL.get r2 (by simpa using e)
theorem RepL.append {x : Option Addr} {h : Heap} : ∀ {l l' : List PV} {vs vs' : List Value}, RepL x h l vs → RepL x h l' vs' → RepL x h (l ++ l') (vs ++ vs')
  | [], _, _, _, r, r' => by unfold RepL at r; subst r; simpa using r'
  | p :: l, _, _, _, r, r' => by
    unfold RepL at r
    obtain ⟨v, q, e, r1, r2⟩ := r
    subst e
    simp only [List.cons_append]
    unfold RepL
    exact ⟨v, _, rfl, r1, RepL.append r2 r'⟩
theorem RepL.take {x : Option Addr} {h : Heap} : ∀ {l : List PV} {vs : List Value} (n : Nat), RepL x h l vs → RepL x h (l.take n) (vs.take n)
  | _, _, 0, _ => by simp [RepL]
  | [], _, n + 1, r => by unfold RepL at r; subst r; simp [RepL]
  | p :: l, _, n + 1, r => by
    unfold RepL at r
    obtain ⟨v, q, e, r1, r2⟩ := r
    subst e
    simp only [List.take_succ_cons]
    unfold RepL
    exact ⟨v, _, rfl, r1, RepL.take n r2⟩
theorem RepL.drop {x : Option Addr} {h : Heap} : ∀ {l : List PV} {vs : List Value} (n : Nat), RepL x h l vs → RepL x h (l.drop n) (vs.drop n)
  | _, _, 0, r => by simpa using r
  | [], _, n + 1, r => by unfold RepL at r; subst r; simp [RepL]
  | p :: l, _, n + 1, r => by
    unfold RepL at r
    obtain ⟨v, q, e, r1, r2⟩ := r
    subst e
    simpa using RepL.drop n r2

/-- a frame at work -/
structure FC where
  prog : Program
  w : World
  K : Frag
  p : Program
  loose : List Str
  mean : ExcName → Option Value
  mg : Str → Option Value
  mb : Str → Option Value
  dp : Nat
  un : Nat
  gd : Option (List Code)
  cn : Str
  cs : Scope
  a : Addr
  ccd : Value
  outer : List Env
  A₀ : Around
  base : Heap
  h₀ : Heap
  L : Addr

abbrev FC.A (c : FC) : Around := ktrTop c.dp c.un c.gd c.cn c.cs c.L c.a c.ccd [] c.outer
abbrev FC.env (c : FC) : Env := envX c.cn c.cs c.L c.a c.ccd []
abbrev FC.M (c : FC) : Model := model c.prog c.w
def FC.loc (c : FC) (x : Str) : Prop := c.cs.names.lookup x = some .local
def FC.glo (c : FC) (x : Str) : Prop := c.cs.names.lookup x = some .globalImplicit

/-- what stands still; d: the calls that may lie below it -/
structure Stat (c : FC) (d : Nat) : Prop where
  below : Below c.A₀ c.base c.outer c.h₀
  kin : c.K.In c.h₀
  top : Top c.p c.loose c.mean c.mg c.mb c.h₀
  kind : c.cs.kind = .function
  room : c.dp + d < recursionLimit
  units : c.un + 8 * d + 8 < cLine

theorem Stat.topRead {c : FC} {d : Nat} (S : Stat c d) : TopRead c.p c.loose c.mg c.mb c.h₀ := topRead_of S.top

abbrev Sig := List (Str × PV)
def EnvR (x : Option Addr) (h : Heap) (σ : Sig) (m : Str → Option Value) : Prop := ∀ y p, σ.lookup y = some p → ∃ v, m y = some v ∧ Rep x h p v

theorem EnvR.mono {x : Option Addr} {h h' : Heap} {σ : Sig} {m : Str → Option Value} (k : SeqKept x h h') (e : EnvR x h σ m) : EnvR x h' σ m := fun y p hp =>
  let ⟨v, a, b⟩ := e y p hp
  ⟨v, a, b.mono k⟩
theorem EnvR.set {x : Option Addr} {h : Heap} {σ : Sig} {m : Str → Option Value} {y : Str} {v : Value} {p : PV} (e : EnvR x h σ m) (r : Rep x h p v) : EnvR x h ((y, p) :: σ) (fun z => if z = y then some v else m z) := by
  intro z q hz
  rw [List.lookup_cons] at hz
  by_cases hzy : z = y
  · subst hzy
    simp at hz
    subst hz
    exact ⟨v, by simp, r⟩
  · have : (z == y) = false := by simpa using hzy
    rw [this] at hz
    obtain ⟨u, a, b⟩ := e z q hz
    exact ⟨u, by simp [hzy, a], b⟩

/-- σ' says no more than σ -/
def Sub : Sig → Sig → Prop
  | [], _ => True
  | (y, p) :: r, σ => σ.lookup y = some p ∧ Sub r σ
theorem Sub.lookup : ∀ {σ' σ : Sig} {y : Str} {p : PV}, Sub σ' σ → σ'.lookup y = some p → σ.lookup y = some p
  | [], _, _, _, _, h => by simp at h
  | (z, q) :: r, σ, y, p, s, h => by
    rw [List.lookup_cons] at h
    by_cases e : (y == z) = true
    · have e' : y = z := by simpa using e
      rw [e] at h
      simp at h
      subst e' h
      exact s.1
    · have e' : (y == z) = false := by simpa using e
      rw [e'] at h
      exact Sub.lookup s.2 h
theorem EnvR.sub {x : Option Addr} {h : Heap} {σ σ' : Sig} {m : Str → Option Value} (e : EnvR x h σ m) (s : Sub σ' σ) : EnvR x h σ' m := fun y p hp => e y p (s.lookup hp)
theorem EnvR.weak {x : Option Addr} {h : Heap} {σ : Sig} {m : Str → Option Value} (e : EnvR x h σ m) : EnvR none h σ m := fun y p hp => let ⟨v, a, b⟩ := e y p hp; ⟨v, a, b.weak⟩

/-- an expression's value -/
def EvT (c : FC) (σ : Sig) (t : Sem Value) (p : PV) : Prop :=
  ∀ (m : Str → Option Value) (s : Shared) (Q E : Value → Shared → Prop), Fr c.h₀ c.L s.heap m → EnvR none s.heap σ m →
    (∀ v h' tk, Kept s.heap h' → Rep none h' p v → Q v { s with heap := h', toks := tk }) → wpAny c.M c.A t Q E s
abbrev Ev (c : FC) (σ : Sig) (e : Expr) (p : PV) : Prop := EvT c σ (eval e c.env) p
def EvL (c : FC) (σ : Sig) (es : List Expr) (pos : Pos) (ps : List PV) : Prop :=
  ∀ (m : Str → Option Value) (s : Shared) (Q : List Value → Shared → Prop) (E : Value → Shared → Prop), Fr c.h₀ c.L s.heap m → EnvR none s.heap σ m →
    (∀ vs h' tk, Kept s.heap h' → RepL none h' ps vs → Q vs { s with heap := h', toks := tk }) → wpAny c.M c.A (spliced (backTo pos (starEach es c.env))) Q E s
/-- a test's truth -/
def EvB (c : FC) (σ : Sig) (e : Expr) (b : Bool) : Prop :=
  ∀ (m : Str → Option Value) (s : Shared) (Q : Bool → Shared → Prop) (E : Value → Shared → Prop), Fr c.h₀ c.L s.heap m → EnvR none s.heap σ m →
    (∀ h' tk, Kept s.heap h' → Q b { s with heap := h', toks := tk }) → wpAny c.M c.A (isTrue e c.env (eval e c.env)) Q E s

/-- an operation on values -/
def Op1 (c : FC) (f : Value → Sem Value) (p q : PV) : Prop :=
  ∀ (m : Str → Option Value) (s : Shared) (Q E : Value → Shared → Prop) (v : Value), Fr c.h₀ c.L s.heap m → Rep none s.heap p v →
    (∀ v h' tk, Kept s.heap h' → Rep none h' q v → Q v { s with heap := h', toks := tk }) → wpAny c.M c.A (f v) Q E s
def Op2 (c : FC) (f : Value → Value → Sem Value) (p₁ p₂ q : PV) : Prop :=
  ∀ (m : Str → Option Value) (s : Shared) (Q E : Value → Shared → Prop) (v₁ v₂ : Value), Fr c.h₀ c.L s.heap m → Rep none s.heap p₁ v₁ → Rep none s.heap p₂ v₂ →
    (∀ v h' tk, Kept s.heap h' → Rep none h' q v → Q v { s with heap := h', toks := tk }) → wpAny c.M c.A (f v₁ v₂) Q E s
def OpN (c : FC) (f : List Value → Sem Value) (ps : List PV) (q : PV) : Prop :=
  ∀ (m : Str → Option Value) (s : Shared) (Q E : Value → Shared → Prop) (vs : List Value), Fr c.h₀ c.L s.heap m → RepL none s.heap ps vs →
    (∀ v h' tk, Kept s.heap h' → Rep none h' q v → Q v { s with heap := h', toks := tk }) → wpAny c.M c.A (f vs) Q E s
def Tru (c : FC) (p : PV) (b : Bool) : Prop :=
  ∀ (m : Str → Option Value) (s : Shared) (Q : Bool → Shared → Prop) (E : Value → Shared → Prop) (v : Value), Fr c.h₀ c.L s.heap m → Rep none s.heap p v →
    (∀ h' tk, Kept s.heap h' → Q b { s with heap := h', toks := tk }) → wpAny c.M c.A (truthy v) Q E s

theorem Fr.kept' {h₀ h h' : Heap} {L : Addr} {m : Str → Option Value} (F : Fr h₀ L h m) (k : Kept h h') : Fr h₀ L h' m := Fr.keeps F k

section
variable {c : FC} {σ : Sig} {d : Nat}

theorem Ev.name {x : Str} {pos : Pos} {p : PV} (S : Stat c d) (hl : c.loc x) (h : σ.lookup x = some p) (hd : (x == ("__debug__" : Str)) = false) : Ev c σ (.Name x pos) p := by
  intro m s Q E F R k
  obtain ⟨v, hv, hr⟩ := R x p h
  exact nameX_L F hv (k v s.heap s.toks (Kept.refl _) hr) S.kind hl hd
theorem Ev.int {i : Int} {n : Nat} {pos : Pos} : Ev c σ (.Constant (.int i) n pos) (.int i) := by
  intro m s Q E F R k
  exact wpAny_Constant_int (k _ s.heap _ (Kept.refl _) ⟨_, rfl⟩)
theorem Ev.str {x : Str} {n : Nat} {pos : Pos} {l : List Nat} (hl : x = ⟨l.toArray⟩) : Ev c σ (.Constant (.str x) n pos) (.str l) := by
  intro m s Q E F R k
  subst hl
  exact Calls.Constant_str (k _ s.heap _ (Kept.refl _) ⟨_, rfl⟩)
theorem Ev.bool {b : Bool} {n : Nat} {pos : Pos} : Ev c σ (.Constant (.bool b) n pos) (.bool b) := by
  intro m s Q E F R k
  exact Constant_bool (k _ s.heap s.toks (Kept.refl _) rfl)
theorem Ev.binop {l r : Expr} {op : Operator} {pos : Pos} {p₁ p₂ p : PV} (h₁ : Ev c σ l p₁) (h₂ : Ev c σ r p₂) (ho : Op2 c (binaryOp op) p₁ p₂ p) : Ev c σ (.BinOp l op r pos) p := by
  intro m s Q E F R k
  refine wpAny_BinOp (h₁ m s _ E F R fun v₁ h' tk k₁ r₁ => ?_)
  refine h₂ m _ _ E (Fr.kept' F k₁) (R.mono k₁.seq) fun v₂ h'' tk' k₂ r₂ => ?_
  exact ho m _ _ E v₁ v₂ (Fr.kept' (Fr.kept' F k₁) k₂) (r₁.mono k₂.seq) r₂ fun v h₃ tk₃ k₃ r₃ => k v h₃ tk₃ ((k₁.trans k₂).trans k₃) r₃
theorem Ev.unop {x : Expr} {op : UnaryOp} {pos : Pos} {p₁ p : PV} (h₁ : Ev c σ x p₁) (ho : Op1 c (unaryOp op) p₁ p) : Ev c σ (.UnaryOp op x pos) p := by
  intro m s Q E F R k
  refine UnaryOp_ (h₁ m s _ E F R fun v₁ h' tk k₁ r₁ => ?_)
  exact ho m _ _ E v₁ (Fr.kept' F k₁) r₁ fun v h₃ tk₃ k₃ r₃ => k v h₃ tk₃ (k₁.trans k₃) r₃
theorem Ev.compare {l r : Expr} {op : CmpOp} {pos : Pos} {p₁ p₂ p : PV} (h₁ : Ev c σ l p₁) (h₂ : Ev c σ r p₂) (ho : Op2 c (compareOp op) p₁ p₂ p) (hb : behindInMarks op r = false := by rfl) : Ev c σ (.Compare l [op] [r] pos) p := by
  intro m s Q E F R k
  refine wpAny_Compare1 (h₁ m s _ E F R fun v₁ h' tk k₁ r₁ => ?_) hb
  refine h₂ m _ _ E (Fr.kept' F k₁) (R.mono k₁.seq) fun v₂ h'' tk' k₂ r₂ => ?_
  exact ho m _ _ E v₁ v₂ (Fr.kept' (Fr.kept' F k₁) k₂) (r₁.mono k₂.seq) r₂ fun v h₃ tk₃ k₃ r₃ => k v h₃ tk₃ ((k₁.trans k₂).trans k₃) r₃
theorem EvB.compare {l r : Expr} {op : CmpOp} {pos : Pos} {p₁ p₂ : PV} {b : Bool} (h₁ : Ev c σ l p₁) (h₂ : Ev c σ r p₂) (ho : Op2 c (compareOp op) p₁ p₂ (.bool b)) (hb : behindInMarks op r = false := by rfl) : EvB c σ (.Compare l [op] [r] pos) b := by
  intro m s Q E F R k
  refine wpAny_isTrue_Compare1 (h₁ m s _ E F R fun v₁ h' tk k₁ r₁ => ?_) hb
  refine h₂ m _ _ E (Fr.kept' F k₁) (R.mono k₁.seq) fun v₂ h'' tk' k₂ r₂ => ?_
  refine ho m _ _ E v₁ v₂ (Fr.kept' (Fr.kept' F k₁) k₂) (r₁.mono k₂.seq) r₂ fun v h₃ tk₃ k₃ r₃ => ?_
  unfold Rep at r₃
  subst r₃
  exact wpAny_truthy_bool (k h₃ tk₃ ((k₁.trans k₂).trans k₃))
theorem EvB.plain {e : Expr} {p : PV} {b : Bool} (h : Ev c σ e p) (ht : Tru c p b)
    (he : PySem.isTrue e c.env (eval e c.env) = (do
      let v ← eval e c.env
      standAt e.pos
      holding [v] (truthy v)) := by rfl) : EvB c σ e b := by
  intro m s Q E F R k
  refine isTrue_plain (h m s _ E F R fun v h' tk k₁ r₁ => ?_) he
  exact ht m _ _ E v (Fr.kept' F k₁) r₁ fun h'' tk' k₂ => k h'' tk' (k₁.trans k₂)
theorem EvB.not {e : Expr} {pos : Pos} {b : Bool} (h : EvB c σ e b) : EvB c σ (.UnaryOp .Not e pos) (!b) := by
  intro m s Q E F R k
  exact isTrue_not (h m s _ E F R fun h' tk k₁ => k h' tk k₁)
theorem EvB.and_nil {pos : Pos} : EvB c σ (.BoolOp .And [] pos) true := by
  intro m s Q E F R k
  exact isTrue_and_nil (k s.heap s.toks (Kept.refl _))
theorem EvB.or_nil {pos : Pos} : EvB c σ (.BoolOp .Or [] pos) false := by
  intro m s Q E F R k
  exact isTrue_or_nil (k s.heap s.toks (Kept.refl _))
theorem EvB.and {e : Expr} {r : List Expr} {pos : Pos} {a b : Bool} (h₁ : EvB c σ e a) (h₂ : a = true → EvB c σ (.BoolOp .And r pos) b) : EvB c σ (.BoolOp .And (e :: r) pos) (a && b) := by
  intro m s Q E F R k
  refine isTrue_and (h₁ m s _ E F R fun h' tk k₁ => ?_)
  cases a with
  | true =>
    rw [if_pos rfl]
    exact h₂ rfl m _ _ E (Fr.kept' F k₁) (R.mono k₁.seq) fun h'' tk' k₂ => k h'' tk' (k₁.trans k₂)
  | false =>
    rw [if_neg (by decide)]
    exact k h' tk k₁
theorem EvB.or {e : Expr} {r : List Expr} {pos : Pos} {a b : Bool} (h₁ : EvB c σ e a) (h₂ : a = false → EvB c σ (.BoolOp .Or r pos) b) : EvB c σ (.BoolOp .Or (e :: r) pos) (a || b) := by
  intro m s Q E F R k
  refine isTrue_or (h₁ m s _ E F R fun h' tk k₁ => ?_)
  cases a with
  | true =>
    rw [if_pos rfl]
    exact k h' tk k₁
  | false =>
    rw [if_neg (by decide)]
    exact h₂ rfl m _ _ E (Fr.kept' F k₁) (R.mono k₁.seq) fun h'' tk' k₂ => k h'' tk' (k₁.trans k₂)
theorem Ev.ifexp {t b o : Expr} {pos : Pos} {v : Bool} {p : PV} (ht : EvB c σ t v) (h₁ : v = true → Ev c σ b p) (h₂ : v = false → Ev c σ o p) : Ev c σ (.IfExp t b o pos) p := by
  intro m s Q E F R k
  refine IfExp_ (ht m s _ E F R fun h' tk k₁ => ?_)
  cases v with
  | true =>
    rw [if_pos rfl]
    exact h₁ rfl m _ _ E (Fr.kept' F k₁) (R.mono k₁.seq) fun v h'' tk' k₂ => k v h'' tk' (k₁.trans k₂)
  | false =>
    rw [if_neg (by decide)]
    exact h₂ rfl m _ _ E (Fr.kept' F k₁) (R.mono k₁.seq) fun v h'' tk' k₂ => k v h'' tk' (k₁.trans k₂)
theorem EvL.nil {pos : Pos} : EvL c σ [] pos [] := by
  intro m s Q E F R k
  exact spliced_none (k [] s.heap s.toks (Kept.refl _) (by simp [RepL]))
theorem EvL.cons {e : Expr} {r : List Expr} {pos : Pos} {p : PV} {ps : List PV} (h₁ : Ev c σ e p) (h₂ : EvL c σ r pos ps) (hs : starEach (e :: r) c.env = (false, eval e c.env) :: starEach r c.env := by rfl) : EvL c σ (e :: r) pos (p :: ps) := by
  intro m s Q E F R k
  refine spliced_more (h₁ m s _ E F R fun v h' tk k₁ r₁ => ?_) hs
  refine h₂ m _ _ E (Fr.kept' F k₁) (R.mono k₁.seq) fun vs h'' tk' k₂ r₂ => ?_
  refine k (v :: vs) h'' tk' (k₁.trans k₂) ?_
  unfold RepL
  exact ⟨v, vs, rfl, r₁.mono k₂.seq, r₂⟩
theorem Ev.list {es : List Expr} {pos : Pos} {ps : List PV} (h : EvL c σ es pos ps) (hz : ps.length ≤ sizeLine := by decide) : Ev c σ (.List es pos) (.list ps) := by
  intro m s Q E F R k
  refine List_ (h m s _ E F R fun vs h' tk k₁ r₁ => ?_)
  refine wpAny_newObj_type (k _ _ tk (k₁.trans (Kept.push _ _)) ?_) (by show vs.toArray.size ≤ sizeLine; rw [List.size_toArray, r₁.length]; exact hz)
  unfold Rep
  exact ⟨_, vs, rfl, by simp, ⟨_, Heap.get?_push_size _ rfl, rfl, _, rfl⟩, r₁.mono (Kept.push _ _).seq⟩
theorem Ev.tuple {es : List Expr} {n : Nat} {pos : Pos} {ps : List PV} (h : EvL c σ es pos ps) (hz : ps.length ≤ sizeLine := by decide) : Ev c σ (.Tuple es n pos) (.tup ps) := by
  intro m s Q E F R k
  refine Tuple_ (h m s _ E F R fun vs h' tk k₁ r₁ => ?_)
  refine wpAny_newObj_type (k _ _ tk (k₁.trans (Kept.push _ _)) ?_) (by show vs.toArray.size ≤ sizeLine; rw [List.size_toArray, r₁.length]; exact hz)
  unfold Rep
  exact ⟨_, vs, rfl, by simp, ⟨_, Heap.get?_push_size _ rfl, rfl, _, rfl⟩, r₁.mono (Kept.push _ _).seq⟩
theorem Ev.sub' {σ' : Sig} {t : Sem Value} {p : PV} (h : EvT c σ' t p) (hs : Sub σ' σ) : EvT c σ t p := fun m s Q E F R k => h m s Q E F (R.sub hs) k
end
end Mine
end

section
open PySem PySem.W PyProof.Rows PySem.Calls PySem.Spec
set_option Elab.async false
set_option maxRecDepth 100000
namespace Mine

/-- the one list that may be turned: its name, its items -/
abbrev Mu := Option (Str × List PV)
abbrev St := Sig × Mu

def St.full (S : St) : Sig := match S.2 with
  | none => S.1
  | some (y, ps) => (y, .list ps) :: S.1

def StR (c : FC) (S : St) (x : Option Addr) (h : Heap) (m : Str → Option Value) : Prop := match S.2 with
  | none => x = none ∧ EnvR none h S.1 m
  | some (y, ps) => ∃ a vs n, x = some a ∧ m y = some (.ref a) ∧ h.get? a = some (W.listOf vs.toArray n) ∧ c.h₀.get? a = none ∧ a ≠ c.L ∧ RepL (some a) h ps vs ∧ EnvR (some a) h S.1 m

theorem seqKept_of {L : Addr} {x : Option Addr} {h h' : Heap} {m : Str → Option Value} (hn : h.Ns L m) (k : KeptBut L x h h') : SeqKept x h h' := by
  intro b o vs n hx hd ho
  refine k b o ?_ hx ho
  rintro rfl
  obtain ⟨o', es, ep, ho', hd', _⟩ := hn
  rw [ho] at ho'
  cases ho'
  rw [hd] at hd'
  cases hd'

theorem StR.full {c : FC} {S : St} {x : Option Addr} {h : Heap} {m : Str → Option Value} (r : StR c S x h m) : EnvR none h S.full m := by
  obtain ⟨σ, μ⟩ := S
  cases μ with
  | none => exact r.2
  | some yp =>
    obtain ⟨y, ps⟩ := yp
    obtain ⟨a, vs, n, rfl, hm, ha, _, _, rl, re⟩ := r
    intro z p hz
    simp only [St.full, List.lookup_cons] at hz
    by_cases hzy : (z == y) = true
    · rw [hzy] at hz
      have e : z = y := by simpa using hzy
      simp at hz
      subst hz e
      refine ⟨.ref a, hm, ?_⟩
      unfold Rep
      exact ⟨a, vs, rfl, by simp, ⟨_, ha, rfl, n, rfl⟩, rl.weak⟩
    · have e : (z == y) = false := by simpa using hzy
      rw [e] at hz
      exact re.weak z p hz

theorem StR.kept {c : FC} {S : St} {x : Option Addr} {h h' : Heap} {m m' : Str → Option Value} (hn : h.Ns c.L m') (k : KeptBut c.L none h h') (r : StR c S x h m) : StR c S x h' m := by
  obtain ⟨σ, μ⟩ := S
  have k' : SeqKept none h h' := seqKept_of hn k
  have kx : ∀ y, SeqKept y h h' := fun y b o vs n _ hd ho => k' b o vs n (by simp) hd ho
  cases μ with
  | none => exact ⟨r.1, r.2.mono k'⟩
  | some yp =>
    obtain ⟨y, ps⟩ := yp
    obtain ⟨a, vs, n, hx, hm, ha, h0, hL, rl, re⟩ := r
    exact ⟨a, vs, n, hx, hm, k _ _ hL (by simp) ha, h0, hL, rl.mono (kx _), re.mono (kx _)⟩

def XOk (x x' : Option Addr) (h : Heap) : Prop := ∀ a, x' = some a → x = some a ∨ h.get? a = none
theorem XOk.refl {x : Option Addr} {h : Heap} : XOk x x h := fun _ e => .inl e
theorem XOk.none {x : Option Addr} {h : Heap} : XOk x none h := fun _ e => nomatch e

theorem KeptBut.trans' {L : Addr} {x x' : Option Addr} {h h' h'' : Heap} (o : XOk x x' h) (a : KeptBut L x h h') (b : KeptBut L x' h' h'') : KeptBut L x h h'' := by
  intro d ob hL hx e
  refine b d ob hL ?_ (a d ob hL hx e)
  intro hx'
  rcases o d hx' with h1 | h1
  · exact hx h1
  · rw [e] at h1; cases h1
theorem XOk.trans {L : Addr} {x x' x'' : Option Addr} {h h' : Heap} {m m' : Str → Option Value} (hn : h.Ns L m) (hn' : h'.Ns L m') (k : KeptBut L x h h') (o : XOk x x' h) (o' : XOk x' x'' h') : XOk x x'' h := by
  intro a e
  rcases o' a e with h1 | h1
  · exact o a h1
  · by_cases hx : x = some a
    · exact .inl hx
    · refine .inr ?_
      cases ha : h.get? a with
      | none => rfl
      | some ob =>
        by_cases hL : a = L
        · subst hL
          obtain ⟨ob', _, _, ho', _⟩ := hn'
          rw [h1] at ho'
          cases ho'
        · have := k a ob hL hx ha
          rw [h1] at this
          cases this

inductive Out where
  | next (S : St)
  | ret (p : PV)
  | brk (S : St)
  | cont (S : St)

def OutR (c : FC) (o : Out) (fl : Flow) (x : Option Addr) (h : Heap) (m : Str → Option Value) : Prop := match o with
  | .next S => fl = .next ∧ StR c S x h m
  | .brk S => fl = .brk ∧ StR c S x h m
  | .cont S => fl = .cont ∧ StR c S x h m
  | .ret p => ∃ v, fl = .ret v ∧ Rep none h p v

def Ex (c : FC) (S : St) (t : Sem Flow) (o : Out) : Prop :=
  ∀ (m : Str → Option Value) (x : Option Addr) (s : Shared) (Q : Flow → Shared → Prop) (E : Value → Shared → Prop), Fr c.h₀ c.L s.heap m → StR c S x s.heap m →
    (∀ fl m' x' h' tk, Fr c.h₀ c.L h' m' → KeptBut c.L x s.heap h' → XOk x x' s.heap → OutR c o fl x' h' m' → Q fl { s with heap := h', toks := tk }) → wpAny c.M c.A t Q E s
abbrev Ex1 (c : FC) (S : St) (st : Stmt) (o : Out) : Prop := Ex c S (exec st c.env) o
abbrev Exs (c : FC) (S : St) (b : List Stmt) (o : Out) : Prop := Ex c S (execs b c.env) o

/-- weaker knowledge -/
def SubS (S' S : St) : Prop := S'.2 = S.2 ∧ Sub S'.1 S.1
theorem StR.sub {c : FC} {S S' : St} {x : Option Addr} {h : Heap} {m : Str → Option Value} (r : StR c S x h m) (s : SubS S' S) : StR c S' x h m := by
  obtain ⟨σ, μ⟩ := S
  obtain ⟨σ', μ'⟩ := S'
  obtain ⟨e, s⟩ := s
  dsimp only at e s
  subst e
  cases μ' with
  | none => exact ⟨r.1, r.2.sub s⟩
  | some yp =>
    obtain ⟨a, vs, n, hx, hm, ha, h0, hL, rl, re⟩ := r
    exact ⟨a, vs, n, hx, hm, ha, h0, hL, rl, re.sub s⟩
def SubO : Out → Out → Prop
  | .next S', .next S => SubS S' S
  | .brk S', .brk S => SubS S' S
  | .cont S', .cont S => SubS S' S
  | .ret p, .ret q => p = q
  | _, _ => False
theorem OutR.sub {c : FC} {o o' : Out} {fl : Flow} {x : Option Addr} {h : Heap} {m : Str → Option Value} (r : OutR c o fl x h m) (s : SubO o' o) : OutR c o' fl x h m := by
  cases o <;> cases o' <;> simp only [SubO] at s <;> first | exact ⟨r.1, r.2.sub s⟩ | (subst s; exact r)

section
variable {c : FC} {S S₁ : St} {d : Nat}

theorem Ex.sub {t : Sem Flow} {o o' : Out} (h : Ex c S₁ t o) (hs : SubS S₁ S) (ho : SubO o' o) : Ex c S t o' := fun m x s Q E F R k =>
  h m x s Q E F (R.sub hs) fun fl m' x' h' tk F' K O r => k fl m' x' h' tk F' K O (r.sub ho)
theorem Ex.post {t : Sem Flow} {o o' : Out} (h : Ex c S t o) (ho : SubO o' o) : Ex c S t o' := fun m x s Q E F R k =>
  h m x s Q E F R fun fl m' x' h' tk F' K O r => k fl m' x' h' tk F' K O (r.sub ho)
theorem Ex.pre {t : Sem Flow} {o : Out} (h : Ex c S₁ t o) (hs : SubS S₁ S) : Ex c S t o := fun m x s Q E F R k =>
  h m x s Q E F (R.sub hs) k

theorem Exs.nil : Exs c S [] (.next S) := by
  intro m x s Q E F R k
  exact wpAny_execs_nil (k .next m x s.heap s.toks F (KeptBut.refl _) XOk.refl ⟨rfl, R⟩)
theorem Exs.cons {st : Stmt} {r : List Stmt} {o : Out} (h₁ : Ex1 c S st (.next S₁)) (h₂ : Exs c S₁ r o) : Exs c S (st :: r) o := by
  intro m x s Q E F R k
  refine wpAny_execs_cons (h₁ m x s _ E F R fun fl m' x' h' tk F' K O r => ?_)
  obtain ⟨rfl, r⟩ := r
  dsimp only
  refine h₂ m' x' _ Q E F' r fun fl m'' x'' h'' tk' F'' K' O' r' => ?_
  exact k fl m'' x'' h'' tk' F'' (KeptBut.trans' O K K') (XOk.trans F.ns F'.ns K O O') r'
def Out.stops : Out → Prop
  | .next _ => False
  | _ => True
theorem Exs.stop {st : Stmt} {r : List Stmt} {o : Out} (h₁ : Ex1 c S st o) (hs : o.stops) : Exs c S (st :: r) o := by
  intro m x s Q E F R k
  refine wpAny_execs_cons (h₁ m x s _ E F R fun fl m' x' h' tk F' K O r => ?_)
  have := k fl m' x' h' tk F' K O r
  cases o with
  | next _ => exact hs.elim
  | ret p => obtain ⟨v, rfl, _⟩ := r; exact this
  | brk _ => obtain ⟨rfl, _⟩ := r; exact this
  | cont _ => obtain ⟨rfl, _⟩ := r; exact this

def Mu.not (μ : Mu) (y : Str) : Prop := match μ with
  | none => True
  | some (z, _) => z ≠ y
def Mu.takes (μ : Mu) (p : PV) : Prop := match μ with
  | none => True
  | some _ => p.flat = true

theorem StR.set {x : Option Addr} {h : Heap} {m : Str → Option Value} {y : Str} {v : Value} {p : PV} (r : StR c S x h m) (hn : Mu.not S.2 y) (hf : Mu.takes S.2 p) (hp : Rep none h p v) :
    StR c ((y, p) :: S.1, S.2) x h (fun z => if z = y then some v else m z) := by
  obtain ⟨σ, μ⟩ := S
  cases μ with
  | none => exact ⟨r.1, r.2.set hp⟩
  | some yp =>
    obtain ⟨z, ps⟩ := yp
    obtain ⟨a, vs, n, hx, hm, ha, h0, hL, rl, re⟩ := r
    refine ⟨a, vs, n, hx, ?_, ha, h0, hL, rl, re.set (hp.away ⟨_, ha, rfl, n, rfl⟩ hf)⟩
    have : z ≠ y := hn
    simp [this, hm]

/-- storing a name -/
theorem store {x : Option Addr} {s : Shared} {m : Str → Option Value} {y : Str} {v : Value} {p : PV} {Q : Unit → Shared → Prop} {E : Value → Shared → Prop} (T : Stat c d) (hl : c.loc y) (F : Fr c.h₀ c.L s.heap m) (R : StR c S x s.heap m)
    (hn : Mu.not S.2 y) (hf : Mu.takes S.2 p) (hp : Rep none s.heap p v)
    (k : ∀ m' h' tk, Fr c.h₀ c.L h' m' → KeptBut c.L none s.heap h' → StR c ((y, p) :: S.1, S.2) x h' m' → Q () { s with heap := h', toks := tk }) : wpAny c.M c.A (storeName c.env y v) Q E s := by
  refine wpAny_storeName_local hl F.ns (fun h' hn' hs => ?_) (by show (c.cs.kind == .class || (c.cs.kind == .module && c.L != mainGlobals)) = false; rw [T.kind]; rfl)
  have kb : KeptBut c.L none s.heap h' := fun b o hb _ e => (hs.2 b hb).trans e
  refine k _ h' _ (F.set hn' hs) kb ?_
  exact StR.kept F.ns kb (R.set hn hf hp)

theorem Ex1.assign {y : Str} {e : Expr} {pos pos' : Pos} {p : PV} (T : Stat c d) (hl : c.loc y) (h : Ev c S.full e p) (hn : Mu.not S.2 y) (hf : Mu.takes S.2 p)
    (hsw : swapsWith e (some (.Name y pos')) pos.line c.env = pure false := by rfl) : Ex1 c S (.Assign [.Name y pos'] e pos) (.next ((y, p) :: S.1, S.2)) := by
  intro m x s Q E F R k
  refine wpAny_Assign_Name (h m s _ E F R.full fun v h' tk K r => ?_) hsw
  refine store (S := S) (x := x) (p := p) T hl (Fr.kept' F K) (R.kept F.ns K.but) hn hf r fun m' h'' tk' F' K' R' => ?_
  exact k .next m' x h'' tk' F' (fun b o hb _ e => K' b o hb (by simp) (K b o e)) XOk.refl ⟨rfl, R'⟩

theorem Ex1.aug {y : Str} {op : Operator} {e : Expr} {pos pos' : Pos} {p q r : PV} (T : Stat c d) (hl : c.loc y) (h₀ : S.1.lookup y = some p) (h : Ev c S.full e q) (ho : Op2 c (inplaceOp op) p q r) (hn : Mu.not S.2 y) (hf : Mu.takes S.2 r) :
    Ex1 c S (.AugAssign (.Name y pos') op e pos) (.next ((y, r) :: S.1, S.2)) := by
  intro m x s Q E F R k
  refine wpAny_AugAssign_Name ?_
  have hy : S.full.lookup y = some p := by
    obtain ⟨σ, μ⟩ := S
    cases μ with
    | none => exact h₀
    | some yp =>
      obtain ⟨z, ps⟩ := yp
      have : (y == z) = false := by
        have : z ≠ y := hn
        simpa using fun e => this e.symm
      simp only [St.full, List.lookup_cons, this]
      exact h₀
  obtain ⟨v, hv, hr⟩ := R.full y p hy
  refine wpAny_loadName_local T.kind hl F.ns hv ?_
  refine h m s _ E F R.full fun v₂ h' tk K r₂ => ?_
  refine ho m _ _ E v v₂ (Fr.kept' F K) (hr.mono K.seq) r₂ fun v₃ h₂ tk₂ K₂ r₃ => ?_
  have KK := K.trans K₂
  refine store (S := S) (x := x) (p := r) T hl (Fr.kept' F KK) (R.kept F.ns KK.but) hn hf r₃ fun m' h'' tk' F' K' R' => ?_
  exact k .next m' x h'' tk' F' (fun b o hb _ e => K' b o hb (by simp) (KK b o e)) XOk.refl ⟨rfl, R'⟩

theorem Ex1.ret {e : Expr} {pos : Pos} {p : PV} (h : Ev c S.full e p) : Ex1 c S (.Return (some e) pos) (.ret p) := by
  intro m x s Q E F R k
  refine wpAny_Return_some (h m s _ E F R.full fun v h' tk K r => ?_)
  exact k (.ret v) m none h' tk (Fr.kept' F K) K.but XOk.none ⟨v, rfl, r⟩
theorem Ex1.brk {pos : Pos} : Ex1 c S (.Break pos) (.brk S) := by
  intro m x s Q E F R k
  exact wpAny_Break (k .brk m x s.heap s.toks F (KeptBut.refl _) XOk.refl ⟨rfl, R⟩)
theorem Ex1.cont {pos : Pos} : Ex1 c S (.Continue pos) (.cont S) := by
  intro m x s Q E F R k
  exact wpAny_Continue (k .cont m x s.heap s.toks F (KeptBut.refl _) XOk.refl ⟨rfl, R⟩)
theorem Ex1.ite {t : Expr} {b o : List Stmt} {pos : Pos} {v : Bool} {r : Out} (ht : EvB c S.full t v) (h₁ : v = true → Exs c S b r) (h₂ : v = false → Exs c S o r) : Ex1 c S (.If t b o pos) r := by
  intro m x s Q E F R k
  refine wpAny_If (ht m s _ E F R.full fun h' tk K => ?_)
  have R' : StR c S x h' m := R.kept F.ns K.but
  have kk : ∀ fl m' x' h'' tk, Fr c.h₀ c.L h'' m' → KeptBut c.L x h' h'' → XOk x x' h' → OutR c r fl x' h'' m' → Q fl { s with heap := h'', toks := tk } := fun fl m' x' h'' tk F' K' O r => by
    refine k fl m' x' h'' tk F' (fun b o hb hx e => K' b o hb hx (K b o e)) ?_ r
    intro a ha
    rcases O a ha with h1 | h1
    · exact .inl h1
    · refine .inr ?_
      cases hq : s.heap.get? a with
      | none => rfl
      | some ob => rw [K a ob hq] at h1; cases h1
  cases v with
  | true => rw [if_pos rfl]; exact h₁ rfl m x _ Q E (Fr.kept' F K) R' kk
  | false => rw [if_neg (by decide)]; exact h₂ rfl m x _ Q E (Fr.kept' F K) R' kk

/-- while: so many turns -/
inductive Wh (c : FC) (t : Expr) (b : List Stmt) : Nat → St → Out → Prop where
  | exit {S : St} : EvB c S.full t false → Wh c t b 0 S (.next S)
  | step {n : Nat} {S S₁ : St} {o : Out} : EvB c S.full t true → Exs c S b (.next S₁) → Wh c t b n S₁ o → Wh c t b (n + 1) S o
  | cont {n : Nat} {S S₁ : St} {o : Out} : EvB c S.full t true → Exs c S b (.cont S₁) → Wh c t b n S₁ o → Wh c t b (n + 1) S o
  | brk {S S₁ : St} : EvB c S.full t true → Exs c S b (.brk S₁) → Wh c t b 0 S (.next S₁)
  | ret {S : St} {p : PV} : EvB c S.full t true → Exs c S b (.ret p) → Wh c t b 0 S (.ret p)
  | pre {n : Nat} {S S₁ : St} {o : Out} : Wh c t b n S₁ o → SubS S₁ S → Wh c t b n S o
  | post {n : Nat} {S : St} {o o' : Out} : Wh c t b n S o → SubO o' o → Wh c t b n S o'

theorem Wh.run {t : Expr} {b : List Stmt} {n : Nat} {o : Out} (h : Wh c t b n S o) : ∀ (m : Str → Option Value) (x : Option Addr) (s : Shared) (Q : Flow → Shared → Prop) (R : Result → Shared → Prop), Fr c.h₀ c.L s.heap m → StR c S x s.heap m →
    (∀ fl m' x' h' tk, Fr c.h₀ c.L h' m' → KeptBut c.L x s.heap h' → XOk x x' s.heap → OutR c o fl x' h' m' → R (.ok fl) { s with heap := h', toks := tk }) → codeAny c.M c.A (.whileLoop t b [] c.env) R s := by
  intro m x s Q R F RS k
  refine codeAny_whileLoop (fun n s' => ∃ S' o' m' x' h' tk, s' = { s with heap := h', toks := tk } ∧ Wh c t b n S' o' ∧ (∀ fl x h m, OutR c o' fl x h m → OutR c o fl x h m) ∧ Fr c.h₀ c.L h' m' ∧ StR c S' x' h' m' ∧ KeptBut c.L x s.heap h' ∧ XOk x x' s.heap) ?_ n ⟨S, o, m, x, s.heap, s.toks, rfl, h, fun _ _ _ _ r => r, F, RS, KeptBut.refl _, XOk.refl⟩
  clear h
  rintro n s' ⟨S', o', m', x', h', tk, rfl, hw, himp, F', R', K', O'⟩
  -- close a body's end
  have glue : ∀ {fl : Flow} {m'' : Str → Option Value} {x'' : Option Addr} {h₁ h'' : Heap} {tk' : Nat} {r : Out}, Kept h' h₁ → Fr c.h₀ c.L h'' m'' → KeptBut c.L x' h₁ h'' → XOk x' x'' h₁ →
      KeptBut c.L x s.heap h'' ∧ XOk x x'' s.heap := by
    intro fl m'' x'' h₁ h'' tk' r K1 F2 K2 O2
    have K3 : KeptBut c.L x' h' h'' := fun b o hb hx e => K2 b o hb hx (K1 b o e)
    have O3 : XOk x' x'' h' := by
      intro a ha
      rcases O2 a ha with h1 | h1
      · exact .inl h1
      · refine .inr ?_
        cases hq : h'.get? a with
        | none => rfl
        | some ob => rw [K1 a ob hq] at h1; cases h1
    exact ⟨KeptBut.trans' O' K' K3, XOk.trans F.ns F'.ns K' O' O3⟩
  induction hw generalizing m' with
  | pre hw hs ih => exact ih m' himp F' (R'.sub hs)
  | post hw hs ih => exact ih m' (fun fl x h m r => himp fl x h m (r.sub hs)) F' R'
  | @exit S' ht =>
    refine ht m' _ _ _ F' R'.full fun h₁ tk₁ K1 => ?_
    rw [if_neg (by decide)]
    refine wpAny_execs_nil ?_
    obtain ⟨a1, a2⟩ := glue (fl := .next) (tk' := tk) (r := .next S') K1 (Fr.kept' F' K1) (KeptBut.refl _) XOk.refl
    exact k .next m' x' h₁ tk₁ (Fr.kept' F' K1) a1 a2 (himp _ _ _ _ ⟨rfl, R'.kept F'.ns K1.but⟩)
  | @step n S' S₁ o ht hb hw ih =>
    refine ht m' _ _ _ F' R'.full fun h₁ tk₁ K1 => ?_
    rw [if_pos rfl]
    refine hb m' x' _ _ _ (Fr.kept' F' K1) (R'.kept F'.ns K1.but) fun fl m'' x'' h'' tk'' F2 K2 O2 r => ?_
    obtain ⟨rfl, r⟩ := r
    obtain ⟨a1, a2⟩ := glue (fl := .next) (tk' := tk) (r := .next S₁) K1 F2 K2 O2
    exact ⟨n, Nat.lt_succ_self _, S₁, _, m'', x'', h'', tk'', rfl, hw, himp, F2, r, a1, a2⟩
  | @cont n S' S₁ o ht hb hw ih =>
    refine ht m' _ _ _ F' R'.full fun h₁ tk₁ K1 => ?_
    rw [if_pos rfl]
    refine hb m' x' _ _ _ (Fr.kept' F' K1) (R'.kept F'.ns K1.but) fun fl m'' x'' h'' tk'' F2 K2 O2 r => ?_
    obtain ⟨rfl, r⟩ := r
    obtain ⟨a1, a2⟩ := glue (fl := .next) (tk' := tk) (r := .next S₁) K1 F2 K2 O2
    exact ⟨n, Nat.lt_succ_self _, S₁, _, m'', x'', h'', tk'', rfl, hw, himp, F2, r, a1, a2⟩
  | @brk S' S₁ ht hb =>
    refine ht m' _ _ _ F' R'.full fun h₁ tk₁ K1 => ?_
    rw [if_pos rfl]
    refine hb m' x' _ _ _ (Fr.kept' F' K1) (R'.kept F'.ns K1.but) fun fl m'' x'' h'' tk'' F2 K2 O2 r => ?_
    obtain ⟨rfl, r⟩ := r
    obtain ⟨a1, a2⟩ := glue (fl := .next) (tk' := tk) (r := .next S₁) K1 F2 K2 O2
    exact k .next m'' x'' h'' tk'' F2 a1 a2 (himp _ _ _ _ ⟨rfl, r⟩)
  | @ret S' p ht hb =>
    refine ht m' _ _ _ F' R'.full fun h₁ tk₁ K1 => ?_
    rw [if_pos rfl]
    refine hb m' x' _ _ _ (Fr.kept' F' K1) (R'.kept F'.ns K1.but) fun fl m'' x'' h'' tk'' F2 K2 O2 r => ?_
    obtain ⟨v, rfl, r⟩ := r
    obtain ⟨a1, a2⟩ := glue (fl := .next) (tk' := tk) (r := .ret p) K1 F2 K2 O2
    exact k (.ret v) m'' x'' h'' tk'' F2 a1 a2 (himp _ _ _ _ ⟨v, rfl, r⟩)

theorem Ex1.while {t : Expr} {b : List Stmt} {pos : Pos} {n : Nat} {o : Out} (h : Wh c t b n S o) : Ex1 c S (.While t b [] pos) o := by
  intro m x s Q E F R k
  refine wpAny_While ?_
  exact h.run m x s Q _ F R k
end
end Mine
end

section
open PySem PySem.W PyProof.Rows PySem.Calls PySem.Spec
set_option Elab.async false
set_option maxRecDepth 100000
namespace Mine

mutual
theorem Rep.move {x x' : Option Addr} {h h' : Heap} (k : SeqKept x h h') (O : XOk x x' h) : ∀ {p : PV} {v : Value}, Rep x h p v → Rep x' h' p v
  | .none, _, r => r
  | .bool _, _, r => r
  | .int _, _, r => r
  | .str _, _, r => r
  | .tup _, _, r => by
    unfold Rep at r ⊢
    obtain ⟨a, vs, e, n, ⟨o, ho, hc, c, hd⟩, rl⟩ := r
    refine ⟨a, vs, e, ?_, ⟨o, k a o _ _ n hd ho, hc, c, hd⟩, RepL.move k O rl⟩
    intro hx
    rcases O a hx with h1 | h1
    · exact n h1
    · rw [ho] at h1; cases h1
  | .list _, _, r => by
    unfold Rep at r ⊢
    obtain ⟨a, vs, e, n, ⟨o, ho, hc, c, hd⟩, rl⟩ := r
    refine ⟨a, vs, e, ?_, ⟨o, k a o _ _ n hd ho, hc, c, hd⟩, RepL.move k O rl⟩
    intro hx
    rcases O a hx with h1 | h1
    · exact n h1
    · rw [ho] at h1; cases h1
theorem RepL.move {x x' : Option Addr} {h h' : Heap} (k : SeqKept x h h') (O : XOk x x' h) : ∀ {l : List PV} {vs : List Value}, RepL x h l vs → RepL x' h' l vs
  | [], _, r => r
  | p :: l, _, r => by
    unfold RepL at r ⊢
    obtain ⟨v, q, e, r1, r2⟩ := r
    exact ⟨v, q, e, Rep.move k O r1, RepL.move k O r2⟩
end

/-- what a target takes -/
def AsgT (c : FC) (S : St) (t : Expr) (p : PV) (S' : St) : Prop :=
  ∀ (m : Str → Option Value) (x : Option Addr) (s : Shared) (Q : Unit → Shared → Prop) (E : Value → Shared → Prop) (v : Value), Fr c.h₀ c.L s.heap m → StR c S x s.heap m → Rep none s.heap p v →
    (∀ m' h' tk, Fr c.h₀ c.L h' m' → KeptBut c.L none s.heap h' → StR c S' x h' m' → Q () { s with heap := h', toks := tk }) → wpAny c.M c.A (assign t c.env v) Q E s

/-- for: over these items -/
inductive Fo (c : FC) (t : Expr) (b : List Stmt) : List PV → St → Out → Prop where
  | done {S : St} : Fo c t b [] S (.next S)
  | step {p : PV} {r : List PV} {S S₁ S₂ : St} {o : Out} : AsgT c S t p S₁ → Exs c S₁ b (.next S₂) → Fo c t b r S₂ o → Fo c t b (p :: r) S o
  | cont {p : PV} {r : List PV} {S S₁ S₂ : St} {o : Out} : AsgT c S t p S₁ → Exs c S₁ b (.cont S₂) → Fo c t b r S₂ o → Fo c t b (p :: r) S o
  | brk {p : PV} {r : List PV} {S S₁ S₂ : St} : AsgT c S t p S₁ → Exs c S₁ b (.brk S₂) → Fo c t b (p :: r) S (.next S₂)
  | ret {p q : PV} {r : List PV} {S S₁ : St} : AsgT c S t p S₁ → Exs c S₁ b (.ret q) → Fo c t b (p :: r) S (.ret q)
  | pre {l : List PV} {S S₁ : St} {o : Out} : Fo c t b l S₁ o → SubS S₁ S → Fo c t b l S o
  | post {l : List PV} {S : St} {o o' : Out} : Fo c t b l S o → SubO o' o → Fo c t b l S o'

section
variable {c : FC} {S S₁ : St} {d : Nat}

theorem XOk.of_kept {x x' : Option Addr} {h h₁ : Heap} (K : Kept h h₁) (O : XOk x x' h₁) : XOk x x' h := by
  intro a ha
  rcases O a ha with h1 | h1
  · exact .inl h1
  · refine .inr ?_
    cases hq : h.get? a with
    | none => rfl
    | some ob => rw [K a ob hq] at h1; cases h1

theorem StR.seq {x : Option Addr} {h h' : Heap} {m : Str → Option Value} (k' : SeqKept none h h') (r : StR c S x h m) : StR c S x h' m := by
  obtain ⟨σ, μ⟩ := S
  have kx : ∀ y, SeqKept y h h' := fun y b o vs n _ hd ho => k' b o vs n (by simp) hd ho
  cases μ with
  | none => exact ⟨r.1, r.2.mono k'⟩
  | some yp =>
    obtain ⟨y, ps⟩ := yp
    obtain ⟨a, vs, n, hx, hm, ha, h0, hL, rl, re⟩ := r
    exact ⟨a, vs, n, hx, hm, k' _ _ _ _ (by simp) rfl ha, h0, hL, rl.mono (kx _), re.mono (kx _)⟩

/-- the turns of a for, over any iterator -/
theorem Fo.run {t : Expr} {b : List Stmt} {l : List PV} {o : Out} {I : Addr} {fp wr : List Addr} {P : Nat → Value → Prop} {W : Nat → Heap → Prop}
    (hw : Walks c.prog c.w c.A I fp wr l.length P W) (h : Fo c t b l S o)
    {m₀ mH : Str → Option Value} {x₀ : Option Addr} {s₀ : Shared} {R : Result → Shared → Prop} {H : Heap}
    (F : Fr c.h₀ c.L s₀.heap m₀) (RS : StR c S x₀ s₀.heap m₀) (FH : Fr c.h₀ c.L H mH)
    (hH : ∀ b o, b ≠ c.L → x₀ ≠ some b → H.get? b = some o → s₀.heap.get? b = some o) (hHw : ∀ b ∈ wr, H.get? b = none)
    (hP : ∀ i v, P i v → ∀ h', (∀ b o, b ≠ c.L → x₀ ≠ some b → H.get? b = some o → h'.get? b = some o) → ∀ p, l[i]? = some p → Rep none h' p v)
    (hfp : ∀ i h' m' x' S', W i h' → Fr c.h₀ c.L h' m' → StR c S' x' h' m' → XOk x₀ x' H → ∀ b ∈ fp, b ≠ c.L ∧ x' ≠ some b)
    (hseq : ∀ i h', W i h' → ∀ b ∈ wr, ∀ o, h'.get? b = some o → ∀ vs n, o.data ≠ .seq vs n)
    (h0 : W 0 s₀.heap)
    (hgo : ∀ i p v s Q E, l[i]? = some p → W (i + 1) s.heap → Rep none s.heap p v → Q () s → wpAny c.M c.A (letOwnedTupleGo t (.ref I) v) Q E s)
    (k : ∀ fl m' x' h' tk, Fr c.h₀ c.L h' m' → (∀ b o, b ≠ c.L → x₀ ≠ some b → H.get? b = some o → h'.get? b = some o) → XOk x₀ x' H → OutR c o fl x' h' m' → R (.ok fl) { s₀ with heap := h', toks := tk }) :
    codeAny c.M c.A (.forLoop t (.ref I) b [] c.env) R s₀ := by
  refine codeAny_forLoop_any (fun n s' => ∃ S' o' m' x' h' tk i, s' = { s₀ with heap := h', toks := tk } ∧ Fo c t b (l.drop i) S' o' ∧ (∀ fl x h m, OutR c o' fl x h m → OutR c o fl x h m) ∧ Fr c.h₀ c.L h' m' ∧ StR c S' x' h' m' ∧ W i h' ∧
      (∀ b o, b ≠ c.L → x₀ ≠ some b → H.get? b = some o → h'.get? b = some o) ∧ XOk x₀ x' H ∧ i ≤ l.length ∧ n = l.length - i) ?_ l.length
    ⟨S, o, m₀, x₀, s₀.heap, s₀.toks, 0, rfl, by simpa using h, fun _ _ _ _ r => r, F, RS, h0, hH, XOk.refl, Nat.zero_le _, by simp⟩
  clear h
  rintro n s' ⟨S', o', m', x', h', tk, i, rfl, hf, himp, F', R', hW, K', O', hi, rfl⟩
  have hLfp : c.L ∉ fp := fun hm => (hfp i h' m' x' S' hW F' R' O' _ hm).1 rfl
  have hLw : ∀ b ∈ wr, b ≠ c.L := fun b hb e => hLfp (e ▸ hw.sub b hb)
  have hwr : ∀ b ∈ wr, c.h₀.get? b = none := fun b hb => by
    cases hq : c.h₀.get? b with
    | none => rfl
    | some ob => have := FH.keep b ob hq; rw [hHw b hb] at this; cases this
  -- behind a draw
  have draw : ∀ h₁ : Heap, (∀ b o, b ∉ wr → h'.get? b = some o → h₁.get? b = some o) →
      Fr c.h₀ c.L h₁ m' ∧ StR c S' x' h₁ m' ∧ (∀ b o, b ≠ c.L → x₀ ≠ some b → H.get? b = some o → h₁.get? b = some o) := by
    intro h₁ hk₁
    refine ⟨⟨F'.ns.at' fun o e => hk₁ _ o (fun hm => hLw _ hm rfl) e, fun b o e => hk₁ b o (fun hm => by rw [hwr b hm] at e; cases e) (F'.keep b o e), F'.above⟩, ?_, ?_⟩
    · refine R'.seq fun b o vs n _ hd ho => hk₁ b o (fun hm => hseq i h' hW b hm o ho vs n hd) ho
    · intro b o hb hx e
      exact hk₁ b o (fun hm => by rw [hHw b hm] at e; cases e) (K' b o hb hx e)
  by_cases hlt : i < l.length
  · refine hw.item i _ _ _ hlt hW fun v h₁ tk₁ hPv hW₁ hk₁ => ?_
    obtain ⟨F₁, R₁, K₁⟩ := draw h₁ hk₁
    have hp : l[i]? = some l[i] := by simp [hlt]
    have r₁ : Rep none h₁ l[i] v := hP i v hPv h₁ K₁ _ hp
    dsimp only
    refine hgo i _ v _ _ _ hp hW₁ r₁ ?_
    have hd : l.drop i = l[i] :: l.drop (i + 1) := List.drop_eq_getElem_cons hlt
    rw [hd] at hf
    have glue : ∀ {S₁ : St} {m₂ : Str → Option Value} {h₂ : Heap}, Fr c.h₀ c.L h₂ m₂ → KeptBut c.L none h₁ h₂ → ∀ {m₃ : Str → Option Value} {x₃ : Option Addr} {h₃ : Heap}, Fr c.h₀ c.L h₃ m₃ → KeptBut c.L x' h₂ h₃ → XOk x' x₃ h₂ →
        W (i + 1) h₃ ∧ (∀ b o, b ≠ c.L → x₀ ≠ some b → H.get? b = some o → h₃.get? b = some o) ∧ XOk x₀ x₃ H := by
      intro S₁ m₂ h₂ F₂ K₂ m₃ x₃ h₃ F₃ K₃ O₃
      refine ⟨hw.frame _ _ _ hW₁ fun b hb o e => ?_, fun b o hb hx e => ?_, fun a ha => ?_⟩
      · obtain ⟨n1, n2⟩ := hfp (i + 1) h₁ m' x' S' hW₁ F₁ R₁ O' b hb
        exact K₃ b o n1 n2 (K₂ b o n1 (by simp) e)
      · refine K₃ b o hb ?_ (K₂ b o hb (by simp) (K₁ b o hb hx e))
        intro hx'
        rcases O' b hx' with h1 | h1
        · exact hx h1
        · rw [e] at h1; cases h1
      · rcases O₃ a ha with h1 | h1
        · exact O' a h1
        · by_cases hx : x₀ = some a
          · exact .inl hx
          · refine .inr ?_
            cases hq : H.get? a with
            | none => rfl
            | some ob =>
              by_cases hL : a = c.L
              · subst hL
                obtain ⟨ob', _, _, ho', _⟩ := F₂.ns
                rw [h1] at ho'; cases ho'
              · have := K₂ a ob hL (by simp) (K₁ a ob hL hx hq)
                rw [h1] at this; cases this
    generalize hlst : l[i] :: l.drop (i + 1) = lst at hf
    clear draw
    induction hf generalizing m' with
    | done => cases hlst
    | pre hf hs ih => exact ih m' himp F' (R'.sub hs) F₁ (R₁.sub hs) hlst
    | post hf hs ih => exact ih m' (fun fl x h m r => himp fl x h m (r.sub hs)) F' R' F₁ R₁ hlst
    | @step p r S' S₁ S₂ o ha hb hf ih =>
      cases hlst
      refine ha m' x' _ _ _ v F₁ R₁ r₁ fun m₂ h₂ tk₂ F₂ K₂ R₂ => ?_
      refine hb m₂ x' _ _ _ F₂ R₂ fun fl m₃ x₃ h₃ tk₃ F₃ K₃ O₃ r => ?_
      obtain ⟨rfl, r⟩ := r
      obtain ⟨a1, a2, a3⟩ := glue (S₁ := S₁) F₂ K₂ F₃ K₃ O₃
      exact ⟨l.length - (i + 1), by omega, S₂, _, m₃, x₃, h₃, tk₃, i + 1, rfl, hf, himp, F₃, r, a1, a2, a3, hlt, rfl⟩
    | @cont p r S' S₁ S₂ o ha hb hf ih =>
      cases hlst
      refine ha m' x' _ _ _ v F₁ R₁ r₁ fun m₂ h₂ tk₂ F₂ K₂ R₂ => ?_
      refine hb m₂ x' _ _ _ F₂ R₂ fun fl m₃ x₃ h₃ tk₃ F₃ K₃ O₃ r => ?_
      obtain ⟨rfl, r⟩ := r
      obtain ⟨a1, a2, a3⟩ := glue (S₁ := S₁) F₂ K₂ F₃ K₃ O₃
      exact ⟨l.length - (i + 1), by omega, S₂, _, m₃, x₃, h₃, tk₃, i + 1, rfl, hf, himp, F₃, r, a1, a2, a3, hlt, rfl⟩
    | @brk p r S' S₁ S₂ ha hb =>
      cases hlst
      refine ha m' x' _ _ _ v F₁ R₁ r₁ fun m₂ h₂ tk₂ F₂ K₂ R₂ => ?_
      refine hb m₂ x' _ _ _ F₂ R₂ fun fl m₃ x₃ h₃ tk₃ F₃ K₃ O₃ r => ?_
      obtain ⟨rfl, r⟩ := r
      obtain ⟨a1, a2, a3⟩ := glue (S₁ := S₁) F₂ K₂ F₃ K₃ O₃
      exact k .next m₃ x₃ h₃ tk₃ F₃ a2 a3 (himp _ _ _ _ ⟨rfl, r⟩)
    | @ret p q r S' S₁ ha hb =>
      cases hlst
      refine ha m' x' _ _ _ v F₁ R₁ r₁ fun m₂ h₂ tk₂ F₂ K₂ R₂ => ?_
      refine hb m₂ x' _ _ _ F₂ R₂ fun fl m₃ x₃ h₃ tk₃ F₃ K₃ O₃ r => ?_
      obtain ⟨v', rfl, r⟩ := r
      obtain ⟨a1, a2, a3⟩ := glue (S₁ := S₁) F₂ K₂ F₃ K₃ O₃
      exact k (.ret v') m₃ x₃ h₃ tk₃ F₃ a2 a3 (himp _ _ _ _ ⟨v', rfl, r⟩)
  · have hi' : i = l.length := by omega
    subst hi'
    refine hw.done _ _ _ hW fun h₁ tk₁ hk₁ => ?_
    obtain ⟨F₁, R₁, K₁⟩ := draw h₁ hk₁
    dsimp only
    refine wpAny_execs_nil ?_
    rw [List.drop_length] at hf
    generalize hlst : ([] : List PV) = lst at hf
    clear draw
    induction hf generalizing m' with
    | done => exact k .next m' x' h₁ tk₁ F₁ K₁ O' (himp _ _ _ _ ⟨rfl, R₁⟩)
    | pre hf hs ih => exact ih m' himp F' (R'.sub hs) F₁ (R₁.sub hs) hlst
    | post hf hs ih => exact ih m' (fun fl x h m r => himp fl x h m (r.sub hs)) F' R' F₁ R₁ hlst
    | step => cases hlst
    | cont => cases hlst
    | brk => cases hlst
    | ret => cases hlst
end
end Mine
end

section
open PySem PySem.W PyProof.Rows PySem.Calls PySem.Spec
set_option Elab.async false
set_option maxRecDepth 100000
namespace Mine

section
variable {c : FC} {S S₁ : St} {σ : Sig} {d : Nat}

theorem str_app (l r : List Nat) : (⟨l.toArray⟩ : Str) ++ (⟨r.toArray⟩ : Str) = ⟨(l ++ r).toArray⟩ := by
  show Str.mk _ = Str.mk _
  simp
theorem str_beq (l r : List Nat) : ((⟨l.toArray⟩ : Str) == (⟨r.toArray⟩ : Str)) = (l == r) := by
  rw [Bool.eq_iff_iff]
  simp
theorem str_len (l : List Nat) : (⟨l.toArray⟩ : Str).length = l.length := by simp [Str.length]

/-! operations -/
theorem Op2.addI {a b : Int} : Op2 c (binaryOp .Add) (.int a) (.int b) (.int (a + b)) := by
  rintro m s Q E v₁ v₂ F ⟨t, rfl⟩ ⟨u, rfl⟩ k
  exact add_int (k _ s.heap _ (Kept.refl _) ⟨_, rfl⟩)
theorem Op2.subI {a b : Int} : Op2 c (binaryOp .Sub) (.int a) (.int b) (.int (a - b)) := by
  rintro m s Q E v₁ v₂ F ⟨t, rfl⟩ ⟨u, rfl⟩ k
  exact sub_int (k _ s.heap _ (Kept.refl _) ⟨_, rfl⟩)
theorem Op2.mulI {a b : Int} (hm : IntMulOk a b) : Op2 c (binaryOp .Mult) (.int a) (.int b) (.int (a * b)) := by
  rintro m s Q E v₁ v₂ F ⟨t, rfl⟩ ⟨u, rfl⟩ k
  exact mul_int (k _ s.heap _ (Kept.refl _) ⟨_, rfl⟩) hm
theorem Op2.fdivI {a b : Int} (h0 : b ≠ 0) (hp : b.natAbs.log2 < 9000) : Op2 c (binaryOp .FloorDiv) (.int a) (.int b) (.int (a.fdiv b)) := by
  rintro m s Q E v₁ v₂ F ⟨t, rfl⟩ ⟨u, rfl⟩ k
  exact floordiv_int h0 (k _ s.heap _ (Kept.refl _) ⟨_, rfl⟩) (.inl (PyProof.noPylong_of_log2 hp))
theorem Op2.fmodI {a b : Int} (h0 : b ≠ 0) : Op2 c (binaryOp .Mod) (.int a) (.int b) (.int (a.fmod b)) := by
  rintro m s Q E v₁ v₂ F ⟨t, rfl⟩ ⟨u, rfl⟩ k
  exact mod_int' h0 (k _ s.heap _ (Kept.refl _) ⟨_, rfl⟩)
theorem Op2.powI {a n : Int} (h0 : 0 ≤ n) (h1 : n ≤ 1000000) (h2 : a.natAbs < 2 ^ 64) : Op2 c (binaryOp .Pow) (.int a) (.int n) (.int (a ^ n.toNat)) := by
  rintro m s Q E v₁ v₂ F ⟨t, rfl⟩ ⟨u, rfl⟩ k
  exact pow_int_small h0 h1 h2 (k _ s.heap _ (Kept.refl _) ⟨_, rfl⟩)
theorem Op2.iaddI {a b : Int} : Op2 c (inplaceOp .Add) (.int a) (.int b) (.int (a + b)) := by
  rintro m s Q E v₁ v₂ F ⟨t, rfl⟩ ⟨u, rfl⟩ k
  exact iadd_int (k _ s.heap _ (Kept.refl _) ⟨_, rfl⟩)
theorem Op2.addS {a b : List Nat} (h : a.length + b.length ≤ sizeLine) : Op2 c (binaryOp .Add) (.str a) (.str b) (.str (a ++ b)) := by
  rintro m s Q E v₁ v₂ F ⟨t, rfl⟩ ⟨u, rfl⟩ k
  refine SBL.add (fun t' kk _ => ?_) (by rw [str_len, str_len]; exact h)
  rw [str_app]
  exact k _ s.heap _ (Kept.refl _) ⟨_, rfl⟩
theorem Op2.iaddS {a b : List Nat} (h : a.length + b.length ≤ sizeLine) : Op2 c (inplaceOp .Add) (.str a) (.str b) (.str (a ++ b)) := by
  rintro m s Q E v₁ v₂ F ⟨t, rfl⟩ ⟨u, rfl⟩ k
  refine SBL.iadd (fun t' kk _ => ?_) (by rw [str_len, str_len]; exact h)
  rw [str_app]
  exact k _ s.heap _ (Kept.refl _) ⟨_, rfl⟩

theorem mul_fold (l : List Nat) : ∀ n : Nat, ∀ acc : Array Nat, (List.replicate n l.toArray).foldl (· ++ ·) acc = acc ++ (List.replicate n l).flatten.toArray
  | 0, acc => by simp
  | n + 1, acc => by
    rw [List.replicate_succ, List.foldl_cons, mul_fold l n, List.replicate_succ, List.flatten_cons]
    simp [Array.append_assoc]
theorem txt_mul (l : List Nat) (n : Int) : Txt.mul ⟨l.toArray⟩ n = ⟨((List.replicate n.toNat l).flatten).toArray⟩ := by
  unfold Txt.mul
  by_cases h : n < 1
  · rw [if_pos h]
    have : n.toNat = 0 := by omega
    rw [this]
    rfl
  · rw [if_neg h]
    by_cases h2 : (n == 1 || (⟨l.toArray⟩ : Str).length == 0) = true
    · rw [if_pos h2]
      rcases Bool.or_eq_true_iff.mp h2 with h3 | h3
      · have : n = 1 := by simpa using h3
        subst this
        simp
      · rw [str_len] at h3
        have : l = [] := by simpa using h3
        subst this
        simp
    · rw [if_neg h2, mul_fold]
      simp
theorem Op2.mulS {a : List Nat} {n : Int} (h : a.length ≤ 4096) (h1 : n ≤ 4096) (h2 : -4096 ≤ n) : Op2 c (binaryOp .Mult) (.str a) (.int n) (.str ((List.replicate n.toNat a).flatten)) := by
  rintro m s Q E v₁ v₂ F ⟨t, rfl⟩ ⟨u, rfl⟩ k
  refine SB.mul (mulOk_of 4096 4096 (by rw [str_len]; exact h) h1 (by omega) (by omega) (by omega)) fun t' kk => ?_
  rw [txt_mul]
  exact k _ s.heap _ (Kept.refl _) ⟨_, rfl⟩

theorem Op2.eqI {a b : Int} : Op2 c (compareOp .Eq) (.int a) (.int b) (.bool (a == b)) := by
  rintro m s Q E v₁ v₂ F ⟨t, rfl⟩ ⟨u, rfl⟩ k
  exact eq_int (k _ s.heap s.toks (Kept.refl _) rfl)
theorem Op2.neI {a b : Int} : Op2 c (compareOp .NotEq) (.int a) (.int b) (.bool (a != b)) := by
  rintro m s Q E v₁ v₂ F ⟨t, rfl⟩ ⟨u, rfl⟩ k
  exact ne_int (k _ s.heap s.toks (Kept.refl _) rfl)
theorem Op2.ltI {a b : Int} : Op2 c (compareOp .Lt) (.int a) (.int b) (.bool (decide (a < b))) := by
  rintro m s Q E v₁ v₂ F ⟨t, rfl⟩ ⟨u, rfl⟩ k
  exact lt_int (k _ s.heap s.toks (Kept.refl _) rfl)
theorem Op2.leI {a b : Int} : Op2 c (compareOp .LtE) (.int a) (.int b) (.bool (decide (a ≤ b))) := by
  rintro m s Q E v₁ v₂ F ⟨t, rfl⟩ ⟨u, rfl⟩ k
  exact le_int (k _ s.heap s.toks (Kept.refl _) rfl)
theorem Op2.gtI {a b : Int} : Op2 c (compareOp .Gt) (.int a) (.int b) (.bool (decide (b < a))) := by
  rintro m s Q E v₁ v₂ F ⟨t, rfl⟩ ⟨u, rfl⟩ k
  exact gt_int (k _ s.heap s.toks (Kept.refl _) rfl)
theorem Op2.geI {a b : Int} : Op2 c (compareOp .GtE) (.int a) (.int b) (.bool (decide (b ≤ a))) := by
  rintro m s Q E v₁ v₂ F ⟨t, rfl⟩ ⟨u, rfl⟩ k
  exact ge_int (k _ s.heap s.toks (Kept.refl _) rfl)
theorem Op2.eqS {a b : List Nat} : Op2 c (compareOp .Eq) (.str a) (.str b) (.bool (a == b)) := by
  rintro m s Q E v₁ v₂ F ⟨t, rfl⟩ ⟨u, rfl⟩ k
  exact eq_str (k _ s.heap s.toks (Kept.refl _) (by rw [str_beq]; rfl))
theorem Op2.neS {a b : List Nat} : Op2 c (compareOp .NotEq) (.str a) (.str b) (.bool (a != b)) := by
  rintro m s Q E v₁ v₂ F ⟨t, rfl⟩ ⟨u, rfl⟩ k
  exact ne_str (k _ s.heap s.toks (Kept.refl _) (by show _ = Value.bool (!_); rw [← str_beq]; rfl))

theorem Tru.int {a : Int} : Tru c (.int a) (a != 0) := by
  rintro m s Q E v F ⟨t, rfl⟩ k
  exact truthy_int (k s.heap s.toks (Kept.refl _))
theorem Tru.bool {b : Bool} : Tru c (.bool b) b := by
  intro m s Q E v F r k
  unfold Rep at r
  subst r
  exact wpAny_truthy_bool (k s.heap s.toks (Kept.refl _))
theorem Tru.str {l : List Nat} (h : l.length < 2 ^ 62) : Tru c (.str l) (l.length != 0) := by
  rintro m s Q E v F ⟨t, rfl⟩ k
  refine SBL.truthy (by rw [str_len]; omega) ?_
  rw [str_len]
  have e : (((l.length : Nat) : Int) != 0) = (l.length != 0) := by
    rw [Bool.eq_iff_iff]; simp
  rw [e]
  exact k s.heap _ (Kept.refl _)
theorem Op1.neg {a : Int} : Op1 c (unaryOp .USub) (.int a) (.int (-a)) := by
  rintro m s Q E v F ⟨t, rfl⟩ k
  exact neg_int (k _ s.heap _ (Kept.refl _) ⟨_, rfl⟩)

/-! calls of built-ins -/
theorem OpN.lenS {l : List Nat} (h : l.length < 2 ^ 62) : OpN c (fun vs => call (.builtin "len") vs) [.str l] (.int l.length) := by
  intro m s Q E vs F r k
  simp only [RepL] at r
  obtain ⟨v, _, rfl, ⟨t, rfl⟩, rfl⟩ := r
  refine SBL.len (by rw [str_len]; omega) ?_
  rw [str_len]
  exact k _ s.heap _ (Kept.refl _) ⟨_, rfl⟩
theorem OpN.lenL {l : List PV} (h : l.length < 2 ^ 62) : OpN c (fun vs => call (.builtin "len") vs) [.list l] (.int l.length) := by
  intro m s Q E vs F r k
  simp only [RepL] at r
  obtain ⟨v, _, rfl, r, rfl⟩ := r
  unfold Rep at r
  obtain ⟨a, vs, rfl, _, hl, rl⟩ := r
  refine len_list hl (by rw [List.size_toArray, rl.length]; omega) ?_
  rw [List.size_toArray, rl.length]
  exact k _ s.heap _ (Kept.refl _) ⟨_, rfl⟩
theorem OpN.ord {n : Nat} : OpN c (fun vs => call (.builtin "ord") vs) [.str [n]] (.int n) := by
  intro m s Q E vs F r k
  simp only [RepL] at r
  obtain ⟨v, _, rfl, ⟨t, rfl⟩, rfl⟩ := r
  exact P.ord_of_char (k _ s.heap _ (Kept.refl _) ⟨_, rfl⟩)
theorem OpN.chr {i : Int} (h0 : 0 ≤ i) (h1 : i ≤ 1114111) : OpN c (fun vs => call (.builtin "chr") vs) [.int i] (.str [i.toNat]) := by
  intro m s Q E vs F r k
  simp only [RepL] at r
  obtain ⟨v, _, rfl, ⟨t, rfl⟩, rfl⟩ := r
  exact chr_of_range h0 h1 (k _ s.heap _ (Kept.refl _) ⟨_, rfl⟩)

/-- a name that stands for a built-in -/
structure IsB (c : FC) (x : Str) (v : Value) : Prop where
  glo : c.glo x
  no : nsIn c.K mainGlobals x = some none
  boot : bootBuiltins x = some v
  n1 : x ≠ "__name__"
  n2 : (x == ("__debug__" : Str)) = false
theorem Ev.call_b {x : Str} {id : String} {e : Expr} {es : List Expr} {pos pos' : Pos} {ps : List PV} {q : PV} (T : Stat c d) (hb : IsB c x (.builtin id)) (ha : EvL c σ (e :: es) pos ps) (ho : OpN c (fun vs => call (.builtin id) vs) ps q)
    (h1 : starEach (e :: es) c.env = (false, eval e c.env) :: starEach es c.env := by rfl) (h2 : ((backTo pos (starEach es c.env)).any fun x => x.fst) = false := by rfl) : Ev c σ (.Call (.Name x pos') (e :: es) [] pos) q := by
  intro m s Q E F R k
  refine Call_ ?_
  refine nameX_B F T.kin T.topRead hb.no hb.boot hb.n1 ?_ T.kind hb.glo hb.n2
  refine PyProof.Rows.callWith_builtin1 ?_ h1 h2
  refine ha m s _ E F R fun vs h' tk K r => ?_
  exact ho m _ _ E vs (Fr.kept' F K) r fun v h₂ tk₂ K₂ r₂ => k v h₂ tk₂ (K.trans K₂) r₂
theorem Ev.call_t {x : Str} {id : String} {e : Expr} {es : List Expr} {pos pos' : Pos} {ps : List PV} {q : PV} (T : Stat c d) (hb : IsB c x (.type id)) (ha : EvL c σ (e :: es) pos ps) (ho : OpN c (fun vs => call (.type id) vs) ps q)
    (h1 : starEach (e :: es) c.env = (false, eval e c.env) :: starEach es c.env := by rfl) (h2 : ((backTo pos (starEach es c.env)).any fun x => x.fst) = false := by rfl) : Ev c σ (.Call (.Name x pos') (e :: es) [] pos) q := by
  intro m s Q E F R k
  refine Call_ ?_
  refine nameX_B F T.kin T.topRead hb.no hb.boot hb.n1 ?_ T.kind hb.glo hb.n2
  refine Pv.callWith_type1 ?_ h1 h2
  refine ha m s _ E F R fun vs h' tk K r => ?_
  exact ho m _ _ E vs (Fr.kept' F K) r fun v h₂ tk₂ K₂ r₂ => k v h₂ tk₂ (K.trans K₂) r₂

/-! calls of the text's defs -/
structure IsD (c : FC) (x : Str) (f : Addr) : Prop where
  glo : c.glo x
  is : nsIn c.K mainGlobals x = some (some (.ref f))
  keep : keepIn c.K (.ref f) = true
  n2 : (x == ("__debug__" : Str)) = false
def FnOk (c : FC) (f : Addr) (ps : List PV) (q : PV) : Prop := OpN c (fun vs => call (.ref f) vs) ps q
theorem Ev.call_d {x : Str} {f : Addr} {e : Expr} {es : List Expr} {pos pos' : Pos} {ps : List PV} {q : PV} (T : Stat c d) (hb : IsD c x f) (ha : EvL c σ (e :: es) pos ps) (ho : FnOk c f ps q)
    (h1 : starEach (e :: es) c.env = (false, eval e c.env) :: starEach es c.env := by rfl) (h2 : ((backTo pos (starEach es c.env)).any fun x => x.fst) = false := by rfl) : Ev c σ (.Call (.Name x pos') (e :: es) [] pos) q := by
  intro m s Q E F R k
  refine Call_ ?_
  refine nameX_K F T.kin T.topRead hb.is ?_ T.kind hb.glo hb.n2
  refine callWith_K T.kin hb.keep ?_ h1 h2
  refine ha m s _ E F R fun vs h' tk K r => ⟨T.kin.keeps (Fr.kept' F K).keep, ?_⟩
  exact ho m _ _ E vs (Fr.kept' F K) r fun v h₂ tk₂ K₂ r₂ => k v h₂ tk₂ (K.trans K₂) r₂

/-- the frame of a called def -/
def FC.into (c : FC) (f : Addr) (qual : Str) (scope : Scope) (cdv : Value) (g : Heap) (L' : Addr) : FC :=
  { c with dp := c.dp + 1, un := c.un + 3, cn := qual, cs := scope, a := f, ccd := cdv, outer := c.env :: c.outer, A₀ := c.A, h₀ := g, L := L' }

theorem lookup_rev_mem {binds : List (Str × Value)} {y : Str} {v : Value} (h : binds.reverse.lookup y = some v) : (y, v) ∈ binds := by
  have : ∀ l : List (Str × Value), l.lookup y = some v → (y, v) ∈ l := by
    intro l
    induction l with
    | nil => intro h; cases h
    | cons p r ih =>
      obtain ⟨z, u⟩ := p
      intro h
      rw [List.lookup_cons] at h
      by_cases e : (y == z) = true
      · rw [e] at h
        have : y = z := by simpa using e
        simp at h
        subst this h
        exact List.mem_cons_self
      · have e' : (y == z) = false := by simpa using e
        rw [e'] at h
        exact List.mem_cons_of_mem _ (ih h)
  exact List.mem_reverse.mp (this _ h)

theorem FnOk.of_body {f : Addr} {name qual : Str} {params : Arguments} {body : List Stmt} {scope : Scope} {dV kV doc pm cdv ct oc : Value} {an od : Option Addr} {osl : Array (Option Value)} {ps : List PV} {q : PV} {σ₀ : Sig} {d : Nat}
    (T : Stat c (d + 1))
    (ho : c.K.lookup f = some { cls := oc, dict := od, data := .func (fnOf name qual params body scope dV kV doc pm an cdv ct), slots := osl }) (hcd : codeIn c.K cdv qual = true)
    (hbind : ∀ s vs, c.K.In s.heap → RepL none s.heap ps vs → ∃ binds, BindsTo s (fnOf name qual params body scope dV kV doc pm an cdv ct) ⟨vs, []⟩ binds ∧ (∀ y ∈ binds, scope.names.lookup y.1 = some .local) ∧ EnvR none s.heap σ₀ (fun y => binds.reverse.lookup y))
    (hco : scope.isCoroutine = false) (hgen : scope.isGenerator = false) (hk : scope.kind = .function) (hcell : ∀ x ∈ scope.names, x.2 ≠ .cell)
    (hb : ∀ g L', Stat (c.into f qual scope cdv g L') d → ∃ o, Exs (c.into f qual scope cdv g L') (σ₀, none) body o ∧ (o = .ret q ∨ ∃ S, o = .next S ∧ q = .none)) : FnOk c f ps q := by
  intro m s Q E vs F r k
  obtain ⟨binds, hB, hloc, hE⟩ := hbind s vs (T.kin.keeps F.keep) r
  refine wpAny_call ?_
  refine code_defG (news := []) T.below F T.kin News.nil T.top rfl rfl T.kind ho hcd (Nat.lt_of_le_of_lt (Nat.le_add_right _ _) T.room) hB hloc ?_ hco hgen hk hcell
  intro g L' h₁ FG F' _ B' X' T' G
  have T₂ : Stat (c.into f qual scope cdv g L') d :=
    ⟨B', X', T', hk, by have := T.room; show c.dp + 1 + d < _; omega, by have := T.units; show c.un + 3 + 8 * d + 8 < _; omega⟩
  have hg : Kept s.heap g := fun b o e => G b o e (by simp)
  obtain ⟨o, hx, hq⟩ := hb g L' T₂
  have hE' : StR (c.into f qual scope cdv g L') (σ₀, none) none h₁ (fun y => binds.reverse.lookup y) := ⟨rfl, hE.mono (Kept.seq (hg.trans F'.keep))⟩
  refine hx _ none _ _ _ F' hE' ?_
  intro fl m' x' h' tk F₂ K₂ O₂ r₂
  refine leaveK_ (news' := []) F₂ News.nil ?_
  intro FL _
  have KK : Kept s.heap h' := hg.trans F₂.keep
  rcases hq with rfl | ⟨S, rfl, rfl⟩
  · obtain ⟨v, rfl, r₃⟩ := r₂
    exact k v h' tk KK r₃
  · obtain ⟨rfl, _⟩ := r₂
    exact k .none h' tk KK rfl
end
end Mine
end

section
open PySem PySem.W PyProof.Rows PySem.Calls PySem.Spec
set_option Elab.async false
set_option maxRecDepth 100000
namespace Mine

/-! Python's slices and places over plain lists -/
def bnd (i : Option Int) (dflt n : Nat) : Nat := match i with
  | none => dflt
  | some i => if i < 0 then (i + n).toNat else min i.toNat n
def pySlice {α : Type} (l : List α) (a b : Option Int) : List α := (l.drop (bnd a 0 l.length)).take (bnd b l.length l.length - bnd a 0 l.length)
def pyIdx (i : Int) (n : Nat) : Option Nat := seqIndex? i n

theorem sliceBounds_bnd (a b : Option Int) (n : Nat) : sliceBounds a b none n = (((bnd a 0 n : Nat) : Int), ((bnd b n n : Nat) : Int), 1) := by
  unfold sliceBounds bnd
  simp only [Option.getD_none, show (1 : Int) > 0 by decide, if_true]
  congr 1
  · cases a with
    | none => rfl
    | some i => dsimp only; split <;> omega
  · congr 1
    cases b with
    | none => rfl
    | some i => dsimp only; split <;> omega
theorem slicePick_py (l : List Value) (a b : Option Int) : slicePick l.toArray a b none = (pySlice l a b).toArray := by
  rw [W.kmk_pick_nat _ (a := bnd a 0 l.length) (b := bnd b l.length l.length) (by rw [List.size_toArray]; exact sliceBounds_bnd a b _)]
  rfl
theorem strSliceIndices_bnd (a b : Option Int) (n : Nat) : Builtin.Str.strSliceIndices a b 1 n = sliceRange ((bnd a 0 n : Nat) : Int) ((bnd b n n : Nat) : Int) 1 := by
  have := sliceBounds_bnd a b n
  unfold sliceBounds at this
  unfold Builtin.Str.strSliceIndices
  simp only [Option.getD_none, show (1 : Int) > 0 by decide, if_true, Prod.mk.injEq] at this ⊢
  rw [← this.1, ← this.2.1]
  cases a <;> cases b <;> rfl
theorem pySlice_length {α : Type} (l : List α) (a b : Option Int) : (pySlice l a b).length ≤ l.length := by
  unfold pySlice
  rw [List.length_take, List.length_drop]
  omega
theorem bnd_le (i : Option Int) (n : Nat) : bnd i 0 n ≤ n ∧ bnd i n n ≤ n := by
  unfold bnd
  cases i with
  | none => simp
  | some i => dsimp only; split <;> omega
theorem txt_slice (l : List Nat) (a b : Option Int) : Txt.slice ⟨l.toArray⟩ a b = ⟨(pySlice l a b).toArray⟩ := by
  unfold Txt.slice
  rw [str_len, strSliceIndices_bnd, sliceRange_one]
  have e : ((List.range (bnd b l.length l.length - bnd a 0 l.length)).map (bnd a 0 l.length + ·)).filterMap ((⟨l.toArray⟩ : Str).cps[·]?) = pySlice l a b := by
    rw [pick_run]
    rfl
  split
  · rename_i h
    have h2 : bnd b l.length l.length - bnd a 0 l.length = l.length := by simpa using h
    have := bnd_le a l.length
    have := bnd_le b l.length
    have h3 : bnd a 0 l.length = 0 ∨ l.length = 0 := by omega
    unfold pySlice
    rw [h2]
    rcases h3 with h3 | h3
    · rw [h3]; simp
    · have : l = [] := List.length_eq_zero_iff.mp h3
      subst this
      simp
  · rw [e]

section
variable {c : FC} {S S₁ : St} {σ : Sig} {d : Nat}

def Plain (slice : Expr) : Prop := ∀ o i, subscripted slice false o i = operate [o, i] (getItem o i)
theorem tailOn {value slice : Expr} {o i : Value} {ops : List Value} {prog : Program} {w : World} {A : Around} {s : Shared} {Q E : Value → Shared → Prop} (h : ItemOn (model prog w) A E o i Q s) (hs : subscripted slice false o i = operate ops (getItem o i)) :
    wpAny (model prog w) A (subscriptTail value slice o i) Q E s := by
  obtain ⟨T, id, hl, hT, hg⟩ := h
  exact tail_any hT hl hg hs

theorem Ev.item_str {value slice : Expr} {pos : Pos} {l : List Nat} {i : Int} {n : Nat} (h₁ : Ev c σ value (.str l)) (h₂ : Ev c σ slice (.int i)) (hb : (pyIdx i l.length).bind (l[·]?) = some n) (hl : l.length < 2 ^ 62)
    (hs : Plain slice := by intro _ _; rfl) : Ev c σ (.Subscript value slice pos) (.str [n]) := by
  intro m s Q E F R k
  refine Subscript_ (h₁ m s _ E F R fun v₁ h' tk K r₁ => ?_)
  refine h₂ m _ _ E (Fr.kept' F K) (R.mono K.seq) fun v₂ h₂ tk₂ K₂ r₂ => ?_
  obtain ⟨t, rfl⟩ := r₁
  obtain ⟨u, rfl⟩ := r₂
  have hc : Txt.charAt ⟨l.toArray⟩ i = some n := by
    unfold Txt.charAt
    rw [str_len, ← hb]
    unfold pyIdx
    congr 1
    funext j
    simp
  have hfit : fitsSsize i = true := by
    unfold pyIdx seqIndex? at hb
    unfold fitsSsize
    by_cases h : i < 0
    · rw [if_pos h] at hb
      by_cases hh : (decide (0 ≤ i + (l.length : Int)) && decide (i + (l.length : Int) < l.length)) = true
      · simp only [Bool.and_eq_true, decide_eq_true_eq] at hh
        simp; omega
      · rw [if_neg hh] at hb; cases hb
    · rw [if_neg h] at hb
      by_cases hh : (decide (0 ≤ i) && decide (i < l.length)) = true
      · simp only [Bool.and_eq_true, decide_eq_true_eq] at hh
        simp; omega
      · rw [if_neg hh] at hb; cases hb
  refine tailOn (SB.item hfit (by rw [hc]; rfl) ?_) (hs _ _)
  unfold Txt.item
  rw [hc]
  exact k _ h₂ _ (K.trans K₂) ⟨_, rfl⟩

theorem Ev.item_list {value slice : Expr} {pos : Pos} {l : List PV} {i : Int} {j : Nat} {p : PV} (h₁ : Ev c σ value (.list l)) (h₂ : Ev c σ slice (.int i)) (hj : pyIdx i l.length = some j) (hp : l[j]? = some p) (hl : l.length < 2 ^ 62)
    (hs : Plain slice := by intro _ _; rfl) : Ev c σ (.Subscript value slice pos) p := by
  intro m s Q E F R k
  refine Subscript_ (h₁ m s _ E F R fun v₁ h' tk K r₁ => ?_)
  refine h₂ m _ _ E (Fr.kept' F K) (R.mono K.seq) fun v₂ h₂ tk₂ K₂ r₂ => ?_
  have r₁' := Rep.mono (x := none) (p := .list l) K₂.seq r₁
  unfold Rep at r₁'
  obtain ⟨a, vs, rfl, _, hl', rl⟩ := r₁'
  obtain ⟨u, rfl⟩ := r₂
  obtain ⟨v, hv, rv⟩ := rl.get hp
  have fin := k v h₂ tk₂ (K.trans K₂) rv
  have hlen := rl.length
  by_cases h : i < 0
  · have hlo : -(2 ^ 63) ≤ i := by
      unfold pyIdx seqIndex? at hj
      rw [if_pos h] at hj
      by_cases hh : (decide (0 ≤ i + (l.length : Int)) && decide (i + (l.length : Int) < l.length)) = true
      · simp only [Bool.and_eq_true, decide_eq_true_eq] at hh
        omega
      · rw [if_neg hh] at hj; cases hj
    exact kde_neg hl' h hlo (by rw [hlen]; exact hj) hv fin (hs _ _)
  · unfold pyIdx seqIndex? at hj
    rw [if_neg h] at hj
    by_cases hh : (decide (0 ≤ i) && decide (i < l.length)) = true
    · rw [if_pos hh] at hj
      simp only [Bool.and_eq_true, decide_eq_true_eq] at hh
      have : j = i.toNat := by cases hj; rfl
      subst this
      exact tail_any hl'.typeIs slot_list_getitem.lookup (wpAny_getItem_list hl' hh.1 (by omega) (by simpa using hv) fin) (hs _ _)
    · rw [if_neg hh] at hj; cases hj

theorem Ev.item_tup {value slice : Expr} {pos : Pos} {l : List PV} {i : Int} {j : Nat} {p : PV} (h₁ : Ev c σ value (.tup l)) (h₂ : Ev c σ slice (.int i)) (hj : pyIdx i l.length = some j) (hp : l[j]? = some p) (hlo : -(2 ^ 63) ≤ i) (hhi : i < 2 ^ 63)
    (hs : Plain slice := by intro _ _; rfl) : Ev c σ (.Subscript value slice pos) p := by
  intro m s Q E F R k
  refine Subscript_ (h₁ m s _ E F R fun v₁ h' tk K r₁ => ?_)
  refine h₂ m _ _ E (Fr.kept' F K) (R.mono K.seq) fun v₂ h₂ tk₂ K₂ r₂ => ?_
  have r₁' := Rep.mono (x := none) (p := .tup l) K₂.seq r₁
  unfold Rep at r₁'
  obtain ⟨a, vs, rfl, _, hl', rl⟩ := r₁'
  obtain ⟨u, rfl⟩ := r₂
  obtain ⟨v, hv, rv⟩ := rl.get hp
  exact item_tupleT hl' hlo hhi (by rw [rl.length]; exact hj) hv (k v h₂ tk₂ (K.trans K₂) rv) (hs _ _)

/-- a slice's end -/
def EvO (c : FC) (σ : Sig) (e : Option Expr) (i : Option Int) : Prop := match e, i with
  | none, none => True
  | some e, some i => Ev c σ e (.int i)
  | _, _ => False
theorem EvO.run {e : Option Expr} {i : Option Int} (h : EvO c σ e i) (m : Str → Option Value) (s : Shared) (Q E : Value → Shared → Prop) (F : Fr c.h₀ c.L s.heap m) (R : EnvR none s.heap σ m)
    (k : ∀ v h' tk, Kept s.heap h' → IsPart v i → Q v { s with heap := h', toks := tk }) : wpAny c.M c.A (evalPart e c.env) Q E s := by
  cases e with
  | none =>
    cases i with
    | none => exact evalPart_none_step (k .none s.heap s.toks (Kept.refl _) .none)
    | some i => exact h.elim
  | some e =>
    cases i with
    | none => exact h.elim
    | some i =>
      refine evalPart_some_step (h m s _ E F R fun v h' tk K r => ?_)
      obtain ⟨t, rfl⟩ := r
      exact k _ h' tk K (.int i t)

theorem IsPart.cases {v : Value} {i : Option Int} (h : IsPart v i) : (v = .none ∧ i = none) ∨ ∃ j t, v = .int j t ∧ i = some j := by
  cases h with
  | none => exact .inl ⟨rfl, rfl⟩
  | int j t => exact .inr ⟨j, t, rfl, rfl⟩

theorem Ev.slice_str {value : Expr} {lo hi : Option Expr} {p pos : Pos} {l : List Nat} {a b : Option Int} (h₁ : Ev c σ value (.str l)) (ha : EvO c σ lo a) (hb : EvO c σ hi b) (hl : l.length ≤ sizeLine) :
    Ev c σ (.Subscript value (.Slice lo hi none p) pos) (.str (pySlice l a b)) := by
  intro m s Q E F R k
  refine Subscript_ (h₁ m s _ E F R fun v₁ h' tk K r₁ => ?_)
  have F1 := Fr.kept' F K
  have R1 := R.mono K.seq
  refine wpAny_Slice (ha.run m _ _ E F1 R1 fun vl h₂ tk₂ K₂ pl => ?_)
  refine hb.run m _ _ E (Fr.kept' F1 K₂) (R1.mono K₂.seq) fun vu h₃ tk₃ K₃ pu => ?_
  refine evalPart_none_step ?_
  obtain ⟨t, rfl⟩ := r₁
  have KK : Kept s.heap h₃ := (K.trans K₂).trans K₃
  have kp : KeptH (Kept s.heap) := fun h ob e => e.trans (Kept.push _ _)
  have fin : ∀ h' t' k', Kept s.heap h' → Q (.str (Txt.slice ⟨l.toArray⟩ a b) t') { s with heap := h', toks := k' } := fun h' t' k' e => by
    rw [txt_slice]
    exact k _ h' k' e ⟨_, rfl⟩
  have hz : (⟨l.toArray⟩ : Str).length ≤ sizeLine := by rw [str_len]; exact hl
  rcases IsPart.cases pl with ⟨rfl, rfl⟩ | ⟨i, ti, rfl, rfl⟩ <;> rcases IsPart.cases pu with ⟨rfl, rfl⟩ | ⟨j, tj, rfl, rfl⟩
  · exact tailOn (SBH.sliceItem_nn (s := { s with heap := h₃, toks := tk₃ }) kp KK fin hz) rfl
  · exact tailOn (SBH.sliceItem_ns (s := { s with heap := h₃, toks := tk₃ }) kp KK fin hz) rfl
  · exact tailOn (SBH.sliceItem_sn (s := { s with heap := h₃, toks := tk₃ }) kp KK fin hz) rfl
  · exact tailOn (SBH.sliceItem_ss (s := { s with heap := h₃, toks := tk₃ }) kp KK fin hz) rfl

theorem RepL.slice {x : Option Addr} {h : Heap} {l : List PV} {vs : List Value} (r : RepL x h l vs) (a b : Option Int) : RepL x h (pySlice l a b) (pySlice vs a b) := by
  unfold pySlice
  rw [r.length]
  exact (r.drop _).take _

theorem Ev.slice_list {value : Expr} {lo hi : Option Expr} {p pos : Pos} {l : List PV} {a b : Option Int} (h₁ : Ev c σ value (.list l)) (ha : EvO c σ lo a) (hb : EvO c σ hi b) (hl : l.length ≤ sizeLine) :
    Ev c σ (.Subscript value (.Slice lo hi none p) pos) (.list (pySlice l a b)) := by
  intro m s Q E F R k
  refine Subscript_ (h₁ m s _ E F R fun v₁ h' tk K r₁ => ?_)
  have F1 := Fr.kept' F K
  have R1 := R.mono K.seq
  refine wpAny_Slice (ha.run m _ _ E F1 R1 fun vl h₂ tk₂ K₂ pl => ?_)
  refine hb.run m _ _ E (Fr.kept' F1 K₂) (R1.mono K₂.seq) fun vu h₃ tk₃ K₃ pu => ?_
  refine evalPart_none_step ?_
  have r₁' := Rep.mono (x := none) (p := .list l) (K₂.trans K₃).seq r₁
  unfold Rep at r₁'
  obtain ⟨ad, vs, rfl, _, hl', rl⟩ := r₁'
  have KK : Kept s.heap h₃ := (K.trans K₂).trans K₃
  refine tail_any (Heap.IsList.typeIs (s := { s with heap := h₃.push _, toks := tk₃ }) (hl'.push _)) list_getitem_lookup
    (wpAny_getItem_list_slice (hl'.push _) (Heap.IsSliceOf.new ..) pl pu .none (by simp) ?_ (by rw [List.size_toArray, rl.length]; exact hl)) rfl
  rw [slicePick_py]
  refine k _ _ tk₃ ((KK.trans (Kept.push _ _)).trans (Kept.push _ _)) ?_
  unfold Rep
  exact ⟨_, _, rfl, by simp, ⟨_, Heap.get?_push_size _ rfl, rfl, _, rfl⟩, (rl.slice a b).mono ((Kept.push _ _).trans (Kept.push _ _)).seq⟩

/-! targets -/
theorem AsgT.name {y : Str} {pos : Pos} {p : PV} (T : Stat c d) (hl : c.loc y) (hn : Mu.not S.2 y) (hf : Mu.takes S.2 p) : AsgT c S (.Name y pos) p ((y, p) :: S.1, S.2) := by
  intro m x s Q E v F R r k
  exact wpAny_assign_Name (store T hl F R hn hf r fun m' h' tk F' K R' => k m' h' tk F' K R')

theorem kept_of_ext {h h' : Heap} (e : Heap.ExtBut h.objs.size h h') : Kept h h' := fun b o q => e b o (Nat.ne_of_lt (Heap.lt_size q)) q

/-- names in order -/
def namesOf : List Expr → Option (List Str)
  | [] => some []
  | .Name y _ :: r => (namesOf r).map (y :: ·)
  | _ => none
theorem asgEach {es : List Expr} {ys : List Str} : namesOf es = some ys → (assignEach es c.env).length = ys.length ∧ (assignEach es c.env).findIdx? (·.1) = none := by
  induction es generalizing ys with
  | nil => intro h; cases h; exact ⟨rfl, rfl⟩
  | cons e r ih =>
    intro h
    cases e with
    | Name y pos =>
      simp only [namesOf] at h
      cases hr : namesOf r with
      | none => rw [hr] at h; cases h
      | some zs =>
        rw [hr] at h
        cases h
        obtain ⟨a, b⟩ := ih hr
        refine ⟨by show _ + 1 = _ + 1; rw [a], ?_⟩
        show ((false, assign (.Name y pos) c.env) :: assignEach r c.env).findIdx? (·.1) = none
        rw [List.findIdx?_cons, b]
        rfl
    | _ => cases h
def putAll : List Str → List PV → Sig → Sig
  | y :: ys, p :: ps, σ => putAll ys ps ((y, p) :: σ)
  | _, _, σ => σ
theorem asgRun (T : Stat c d) : ∀ {es : List Expr} {ys : List Str} {ps : List PV} {vs : List Value} {S : St}, namesOf es = some ys → (∀ y ∈ ys, c.loc y ∧ Mu.not S.2 y) → (∀ p ∈ ps, Mu.takes S.2 p) → ys.length = ps.length →
    ∀ (m : Str → Option Value) (x : Option Addr) (s : Shared) (Q : Unit → Shared → Prop) (E : Value → Shared → Prop), Fr c.h₀ c.L s.heap m → StR c S x s.heap m → RepL none s.heap ps vs →
    (∀ m' h' tk, Fr c.h₀ c.L h' m' → KeptBut c.L none s.heap h' → StR c (putAll ys ps S.1, S.2) x h' m' → Q () { s with heap := h', toks := tk }) →
    wpAny c.M c.A (assignInOrder ((assignEach es c.env).map (·.2)) vs) Q E s := by
  intro es
  induction es with
  | nil =>
    intro ys ps vs S hn _ _ hlen m x s Q E F R r k
    cases hn
    cases ps with
    | cons => cases hlen
    | nil => exact assignInOrder_nil (k m s.heap s.toks F (KeptBut.refl _) R)
  | cons e rest ih =>
    intro ys ps vs S hn hl hf hlen m x s Q E F R r k
    cases e with
    | Name y pos =>
      simp only [namesOf] at hn
      cases hr : namesOf rest with
      | none => rw [hr] at hn; cases hn
      | some zs =>
        rw [hr] at hn
        cases hn
        cases ps with
        | nil => cases hlen
        | cons p ps =>
          unfold RepL at r
          obtain ⟨v, vr, rfl, r1, r2⟩ := r
          show wpAny _ _ (assignInOrder (assign (.Name y pos) c.env :: (assignEach rest c.env).map (·.2)) (v :: vr)) Q E s
          refine assignInOrder_cons ?_
          refine AsgT.name (S := S) T (hl y (.head _)).1 (hl y (.head _)).2 (hf p (.head _)) m x s _ E v F R r1 fun m' h' tk F' K R' => ?_
          refine ih (S := ((y, p) :: S.1, S.2)) hr (fun z hz => hl z (.tail _ hz)) (fun q hq => hf q (.tail _ hq)) (by simpa using hlen) m' x _ Q E F' R' (r2.mono (seqKept_of F.ns K)) fun m'' h'' tk' F'' K' R'' => ?_
          exact k m'' h'' tk' F'' (K.trans K') R''
    | _ => cases hn

theorem AsgT.tup {es : List Expr} {n : Nat} {pos : Pos} {ys : List Str} {ps : List PV} (T : Stat c d) (hn : namesOf es = some ys) (hl : ∀ y ∈ ys, c.loc y ∧ Mu.not S.2 y) (hf : ∀ p ∈ ps, Mu.takes S.2 p) (hlen : ys.length = ps.length) :
    AsgT c S (.Tuple es n pos) (.tup ps) (putAll ys ps S.1, S.2) := by
  intro m x s Q E v F R r k
  unfold Rep at r
  obtain ⟨a, vs, rfl, _, ht, rl⟩ := r
  obtain ⟨h1, h2⟩ := asgEach (c := c) hn
  refine assign_Tuple_tuple rfl ht (by rw [h1, hlen, List.size_toArray, rl.length]) h2 fun h' he => ?_
  have K := kept_of_ext he
  refine asgRun T hn hl hf hlen m x _ Q E (Fr.kept' F K) (R.kept F.ns K.but) (rl.mono K.seq) fun m' h'' tk F' K' R' => ?_
  exact k m' h'' tk F' (fun b o hb _ e => K' b o hb (by simp) (K b o e)) R'

theorem Ex1.unpack {es : List Expr} {n : Nat} {e : Expr} {pos tpos : Pos} {ys : List Str} {ps : List PV} (T : Stat c d) (h : Ev c S.full e (.tup ps)) (hn : namesOf es = some ys) (hl : ∀ y ∈ ys, c.loc y ∧ Mu.not S.2 y) (hf : ∀ p ∈ ps, Mu.takes S.2 p) (hlen : ys.length = ps.length)
    (h1 : swapsWithSole [.Tuple es n tpos] e pos.line c.env = pure false := by rfl) (h2 : swappedStores [.Tuple es n tpos] e c.env = pure none := by rfl) :
    Ex1 c S (.Assign [.Tuple es n tpos] e pos) (.next (putAll ys ps S.1, S.2)) := by
  intro m x s Q E F R k
  refine Assign_Tuple (h m s _ E F R.full fun v h' tk K r => ?_) h1 h2
  refine AsgT.tup (S := S) T hn hl hf hlen m x _ _ E v (Fr.kept' F K) (R.kept F.ns K.but) r fun m' h'' tk' F' K' R' => ?_
  exact k .next m' x h'' tk' F' (fun b o hb _ e => K' b o hb (by simp) (K b o e)) XOk.refl ⟨rfl, R'⟩

/-! for over a list, over a range -/
def GoName (t : Expr) : Prop := ∀ it v, letOwnedTupleGo t it v = pure ()

theorem noSeqIter {h' : Heap} {I ax : Addr} {i : Nat} (hi : h'.IsListIter I ax i) : ∀ o, h'.get? I = some o → ∀ vs n, o.data ≠ .seq vs n := by
  intro o ho vs n hd
  obtain ⟨o', ho', _, hd'⟩ := hi
  rw [ho] at ho'
  cases ho'
  rw [hd] at hd'
  cases hd'

theorem Ex1.for_list {t it : Expr} {b : List Stmt} {pos : Pos} {l : List PV} {o : Out} (hμ : S.2 = none) (hi : Ev c S.full it (.list l)) (hb : Fo c t b l S o) (hgo : GoName t ∨ ∀ p ∈ l, ∃ ps, p = .tup ps ∧ ∃ es n q, t = .Tuple es n q)
    (hs : ∀ x, foldedSetIterable it c.env x = pure x := by intro _; rfl) : Ex1 c S (.For t it b [] pos) o := by
  intro m x s Q E F R k
  refine wpAny_For (hi m s _ E F R.full fun v h' tk K r => ?_) hs
  have hx : x = none := by
    obtain ⟨σ, μ⟩ := S
    dsimp only at hμ
    subst hμ
    exact R.1
  subst hx
  have r' := r
  unfold Rep at r'
  obtain ⟨ax, vs, rfl, _, hl, rl⟩ := r'
  refine wpAny_pyIter_list hl ?_
  have Kp : Kept h' (h'.push { cls := .type "list_iterator", data := .fields #[.ref ax, .int 0 0] }) := Kept.push _ _
  have hax : ax < h'.objs.size := by obtain ⟨o, ho, _⟩ := hl; exact Heap.lt_size ho
  have hne : ax ≠ h'.objs.size := Nat.ne_of_lt hax
  have W := Walks.list (prog := c.prog) (w := c.w) (A := c.A) rfl h'.objs.size ax hne vs.toArray
  have hsz : vs.toArray.size = l.length := by rw [List.size_toArray, rl.length]
  rw [hsz] at W
  have F1 := Fr.kept' F K
  refine Fo.run (H := h') W hb (Fr.kept' F1 Kp) ((R.kept F.ns K.but).kept F1.ns Kp.but) F1 (fun b o _ _ e => Kp b o e) ?_ ?_ ?_ ?_ ?_ ?_ ?_
  · intro b hb'
    rw [List.mem_singleton.mp hb']
    cases hq : h'.get? h'.objs.size with
    | none => rfl
    | some o => exact absurd (Heap.lt_size hq) (Nat.lt_irrefl _)
  · intro i v hv h'' hk p hp
    obtain ⟨u, hu, ru⟩ := rl.get hp
    have : v = u := by
      have : vs[i]? = some v := by simpa using hv
      rw [hu] at this
      cases this
      rfl
    subst this
    refine ru.mono ?_
    intro b o vs' n _ hd ho
    refine hk b o ?_ (by simp) ho
    rintro rfl
    obtain ⟨o', es, ep, ho', hd', _⟩ := F1.ns
    rw [ho] at ho'
    cases ho'
    rw [hd] at hd'
    cases hd'
  · rintro i h'' m' x' S' ⟨hit, hli⟩ F' R' O' b hb'
    have hbs : b = h'.objs.size ∨ b = ax := by simpa using hb'
    constructor
    · rintro rfl
      obtain ⟨o', es, ep, ho', hd', _⟩ := F'.ns
      rcases hbs with h1 | h1
      · obtain ⟨o2, ho2, _, hd2⟩ := hit
        rw [← h1, ho'] at ho2
        cases ho2
        rw [hd'] at hd2
        cases hd2
      · obtain ⟨o2, ho2, _, n, hd2⟩ := hli
        rw [← h1, ho'] at ho2
        cases ho2
        rw [hd'] at hd2
        cases hd2
    · rintro rfl
      rcases hbs with h1 | h1
      · subst h1
        obtain ⟨σ', μ'⟩ := S'
        cases μ' with
        | none => obtain ⟨e, _⟩ := R'; cases e
        | some yp =>
          obtain ⟨a, ws, n, e, _, ha, _⟩ := R'
          cases e
          obtain ⟨o2, ho2, hc2, hd2⟩ := hit
          rw [ha] at ho2
          cases ho2
          cases hd2
      · subst h1
        rcases O' _ rfl with h2 | h2
        · cases h2
        · obtain ⟨o2, ho2, _⟩ := hl
          rw [ho2] at h2
          cases h2
  · rintro i h'' ⟨hit, _⟩ b hb' o ho vs n
    rw [List.mem_singleton.mp hb'] at ho
    exact noSeqIter hit o ho vs n
  · exact ⟨⟨_, Heap.get?_push_size _ rfl, rfl, rfl⟩, hl.at fun o e => Kp _ o e⟩
  · intro i p v s' Q' E' hp hW hr hQ
    rcases hgo with h1 | h1
    · rw [h1]
      exact wpAny_pure hQ
    · obtain ⟨ps, rfl, es, n, q, rfl⟩ := h1 p (List.mem_of_getElem? hp)
      unfold Rep at hr
      obtain ⟨a, ws, rfl, _⟩ := hr
      exact wpAny_letOwnedTupleGo_listiter hW.1 hQ
  · intro fl m' x' h'' tk' F' K' O' r2
    refine k fl m' x' h'' tk' F' (fun b o hb hx e => K' b o hb hx (K b o e)) (XOk.of_kept K O') r2

/-- the values of range(n) -/
def rangePV (n : Nat) : List PV := (List.range n).map fun i : Nat => .int (i : Int)
theorem Ex1.for_range {t e : Expr} {b : List Stmt} {pos cpos npos : Pos} {n : Int} {o : Out} (T : Stat c d) (hr : IsB c "range" (.type "range")) (he : Ev c S.full e (.int n)) (hn : n < 2 ^ 62) (hn' : -(2 ^ 62) ≤ n) (hb : Fo c t b (rangePV n.toNat) S o) (hgo : GoName t)
    (h1 : starEach [e] c.env = (false, eval e c.env) :: starEach [] c.env := by rfl)
    (hs : ∀ x, foldedSetIterable (.Call (.Name "range" npos) [e] [] cpos) c.env x = pure x := by intro _; rfl) : Ex1 c S (.For t (.Call (.Name "range" npos) [e] [] cpos) b [] pos) o := by
  intro m x s Q E F R k
  refine wpAny_For ?_ hs
  refine Call_ ?_
  refine nameX_B F T.kin T.topRead hr.no hr.boot hr.n1 ?_ T.kind hr.glo hr.n2
  refine Pv.callWith_type1 ?_ h1 rfl
  refine EvL.cons he EvL.nil h1 m s _ E F R.full fun vs h' tk K r => ?_
  simp only [RepL] at r
  obtain ⟨v, _, rfl, ⟨t', rfl⟩, rfl⟩ := r
  refine call_range_1 ?_
  generalize hh2 : h'.push { cls := .type "range", data := .fields #[.int 0 tk, .int n t', .int 1 (tk + 1)] } = h2
  have Kr : Kept h' h2 := hh2 ▸ Kept.push _ _
  have hR : IsRange h2 h'.objs.size 0 n 1 tk t' (tk + 1) := hh2 ▸ IsRange.new _ _ _ _ _ _ _
  refine wpAny_pyIter_range hR (small_one (by decide) (by decide) hn' hn) ?_
  have K2 := K.trans Kr
  have F2 := Fr.kept' F K2
  have Kp : Kept h2 (h2.push { cls := .type "range_iterator", data := .fields #[rawInt 0, rawInt (Builtin.Range.rangeSize 0 n 1), rawInt 1] }) := Kept.push _ _
  have W := Walks.range (prog := c.prog) (w := c.w) (A := c.A) rfl h2.objs.size 0 1 n.toNat
  have hlen : (rangePV n.toNat).length = n.toNat := by simp [rangePV]
  rw [← hlen] at W
  refine Fo.run (H := h2) W hb (Fr.kept' F2 Kp) ((R.kept F.ns K2.but).kept F2.ns Kp.but) F2 (fun b o _ _ e => Kp b o e) ?_ ?_ ?_ ?_ ?_ ?_ ?_
  · intro b hb'
    rw [List.mem_singleton.mp hb']
    cases hq : h2.get? h2.objs.size with
    | none => rfl
    | some o => exact absurd (Heap.lt_size hq) (Nat.lt_irrefl _)
  · rintro i v ⟨t2, rfl⟩ h'' hk p hp
    have : p = .int i := by
      unfold rangePV at hp
      rw [List.getElem?_map] at hp
      by_cases hlt : i < n.toNat
      · simp [hlt] at hp
        exact hp.symm
      · simp [hlt] at hp
    subst this
    exact ⟨t2, by congr 1; omega⟩
  · rintro i h'' m' x' S' hit F' R' O' b hb'
    have hbs : b = h2.objs.size := by simpa using hb'
    subst hbs
    constructor
    · intro hL
      obtain ⟨o', es, ep, ho', hd', _⟩ := F'.ns
      rw [← hL, hit] at ho'
      cases ho'
      cases hd'
    · rintro rfl
      obtain ⟨σ', μ'⟩ := S'
      cases μ' with
      | none => obtain ⟨e, _⟩ := R'; cases e
      | some yp =>
        obtain ⟨a, ws, n, e, _, ha, _⟩ := R'
        cases e
        rw [hit] at ha
        have hd := congrArg (fun o => o.map Obj.data) ha
        simp at hd
  · rintro i h'' hit b hb' o ho vs n
    rw [List.mem_singleton.mp hb', hit] at ho
    cases ho
    intro hd
    cases hd
  · show IsRangeIter _ _ _ _ _
    rw [hlen]
    have e1 : Builtin.Range.rangeSize 0 n 1 = ((n.toNat : Nat) : Int) := by
      rw [rangeSize_one]
      split <;> omega
    rw [e1]
    simpa using Heap.get?_push_size h2 rfl
  · intro i p v s' Q' E' hp hW hr hQ
    rw [hgo]
    exact wpAny_pure hQ
  · intro fl m' x' h'' tk' F' K' O' r2
    refine k fl m' x' h'' tk' F' (fun b o hb hx e => K' b o hb hx (K2 b o e)) (XOk.of_kept K2 O') r2
end
end Mine
end

section
open PySem PySem.W PyProof.Rows PySem.Calls PySem.Spec
set_option Elab.async false
set_option maxRecDepth 100000
namespace Mine
open Builtin Builtin.Str StrLaws

/-- the lines of a text: skip: the feed behind a return -/
def segs : Bool → List Nat → List Nat → List (List Nat)
  | _, acc, [] => if acc = [] then [] else [acc]
  | true, acc, _ :: r => segs false acc r
  | false, acc, c :: r => if Unicode.isLineBreak c = true then acc :: segs (c == 13 && r.head? == some 10) [] r else segs false (acc ++ [c]) r

def seg (l : List Nat) (p : Nat × Nat × Nat) : List Nat := (l.drop p.1).take (p.2.1 - p.1)

theorem segs_run (l : List Nat) : ∀ (m cur : Nat) (st : LsSt), cur + m = l.length → st.2 ≤ cur + 1 → (lsEnd ⟨l.toArray⟩ (Id.run (forIn (m := Id) (List.range' cur m) st (lsBody ⟨l.toArray⟩)))).map (seg l) =
    st.1.toList.map (seg l) ++ segs (decide (cur < st.2)) ((l.drop st.2).take (cur - st.2)) (l.drop cur) := by
  intro m
  induction m with
  | zero =>
    intro cur st hm hs
    have hc : cur = l.length := by omega
    subst hc
    obtain ⟨lines, start⟩ := st
    simp only [List.range'_zero, List.forIn_nil, List.drop_length]
    show (lsEnd ⟨l.toArray⟩ (lines, start)).map (seg l) = _
    unfold lsEnd
    rw [str_len]
    dsimp only at hs ⊢
    by_cases h : start < l.length
    · rw [if_pos h, Array.toList_push, List.map_append]
      congr 1
      have : (l.drop start).take (l.length - start) ≠ [] := by
        intro e
        have := congrArg List.length e
        simp at this
        omega
      cases hb : decide (l.length < start) <;> simp only [segs, if_neg this] <;> rfl
    · rw [if_neg h]
      have : (l.drop start).take (l.length - start) = [] := by
        have : l.length - start = 0 := by omega
        rw [this]; rfl
      rw [this]
      cases hb : decide (l.length < start) <;> simp [segs]
  | succ m ih =>
    intro cur st hm hs
    obtain ⟨lines, start⟩ := st
    dsimp only at hs ⊢
    rw [List.range'_succ, List.forIn_cons]
    have hlt : cur < l.length := by omega
    have hd : l.drop cur = l[cur] :: l.drop (cur + 1) := List.drop_eq_getElem_cons hlt
    have hg : (⟨l.toArray⟩ : PySem.Str).cps.getD cur 0 = l[cur] := by simp [hlt]
    unfold lsBody
    rw [hg]
    by_cases hsk : cur < start
    · have e1 : start = cur + 1 := by omega
      have hc : (decide (start ≤ cur) && Unicode.isLineBreak l[cur]) = false := by
        rw [decide_eq_false (by omega)]; rfl
      simp only [hc, Bool.false_eq_true, if_false]
      have := ih (cur + 1) (lines, start) (by omega) (by dsimp only; omega)
      unfold lsBody at this
      refine this.trans ?_
      dsimp only
      rw [hd, decide_eq_true hsk, decide_eq_false (by omega)]
      subst e1
      simp [segs]
    · by_cases hb : Unicode.isLineBreak l[cur] = true
      · have hc : (decide (start ≤ cur) && Unicode.isLineBreak l[cur]) = true := by
          rw [decide_eq_true (by omega), hb]; rfl
        simp only [hc, if_true]
        have hn := lsNext_bounds ⟨l.toArray⟩ cur
        have := ih (cur + 1) (lines.push (start, cur, lsNext ⟨l.toArray⟩ cur), lsNext ⟨l.toArray⟩ cur) (by omega) (by dsimp only; omega)
        unfold lsBody at this
        refine this.trans ?_
        dsimp only
        rw [hd, decide_eq_false hsk]
        simp only [segs, if_pos hb, Array.toList_push, List.map_append, List.append_assoc]
        congr 1
        show [seg l _] ++ _ = _ :: _
        simp only [List.singleton_append]
        congr 1
        have e2 : (l.drop (lsNext ⟨l.toArray⟩ cur)).take (cur + 1 - lsNext ⟨l.toArray⟩ cur) = [] := by
          have : cur + 1 - lsNext ⟨l.toArray⟩ cur = 0 := by omega
          rw [this]; rfl
        rw [e2]
        congr 1
        have e3 : (l.drop (cur + 1)).head? = l[cur + 1]? := by simp
        rw [e3]
        unfold lsNext
        rw [hg]
        have e4 : (⟨l.toArray⟩ : PySem.Str).cps[cur + 1]? = l[cur + 1]? := by simp
        rw [e4]
        by_cases h5 : (l[cur] == 13 && l[cur + 1]? == some 10) = true
        · rw [if_pos h5, h5]; simp
        · rw [if_neg h5]
          have : (l[cur] == 13 && l[cur + 1]? == some 10) = false := by simpa using h5
          rw [this]; simp
      · have hb' : Unicode.isLineBreak l[cur] = false := by simpa using hb
        have hc : (decide (start ≤ cur) && Unicode.isLineBreak l[cur]) = false := by
          rw [hb', Bool.and_false]
        simp only [hc, Bool.false_eq_true, if_false]
        have := ih (cur + 1) (lines, start) (by omega) (by dsimp only; omega)
        unfold lsBody at this
        refine this.trans ?_
        dsimp only
        rw [hd, decide_eq_false hsk, decide_eq_false (by omega)]
        simp only [segs, hb', Bool.false_eq_true, if_false]
        congr 2
        have e1 : cur + 1 - start = (cur - start) + 1 := by omega
        rw [e1, List.take_add_one]
        congr 1
        have : (l.drop start)[cur - start]? = some l[cur] := by
          rw [List.getElem?_drop]
          have : start + (cur - start) = cur := by omega
          rw [this]
          simp [hlt]
        rw [this]
        rfl

def linesL (l : List Nat) : List (List Nat) := segs false [] l
theorem linesOf_segs (l : List Nat) : linesOf ⟨l.toArray⟩ = (linesL l).map fun x => (⟨x.toArray⟩ : PySem.Str) := by
  have h := segs_run l l.length 0 (#[], 0) (by omega) (by simp)
  have h2 := ls_eq ⟨l.toArray⟩
  rw [str_len] at h2
  rw [← h2] at h
  simp at h
  unfold linesOf lineCuts linesL
  rw [← h, List.map_map, List.map_map]
  apply List.map_congr_left
  intro p _
  obtain ⟨i, j, k⟩ := p
  show strSub _ i j = Str.mk (seg l (i, j, k)).toArray
  apply congrArg Str.mk
  apply Array.toList_inj.mp
  simp [seg]
theorem segs_len : ∀ (b : Bool) (acc l : List Nat), (segs b acc l).length ≤ l.length + 1 := by
  intro b acc l
  induction l generalizing b acc with
  | nil =>
    unfold segs
    split <;> simp
  | cons c r ih =>
    cases b with
    | true => unfold segs; have := ih false acc; simp; omega
    | false =>
      unfold segs
      split
      · have := ih (c == 13 && r.head? == some 10) []
        simp
        omega
      · have := ih false (acc ++ [c])
        simp
        omega
theorem lineCuts_len (l : List Nat) : (lineCuts ⟨l.toArray⟩).length = (linesL l).length := by
  have := congrArg List.length (linesOf_segs l)
  unfold linesOf at this
  simpa using this
theorem lines_self {l : List Nat} (h : (lineCuts ⟨l.toArray⟩ == [(0, (⟨l.toArray⟩ : PySem.Str).length)]) = true) : linesL l = [l] := by
  have e : lineCuts ⟨l.toArray⟩ = [(0, l.length)] := by
    rw [str_len] at h
    simpa using h
  have := linesOf_segs l
  unfold linesOf at this
  rw [e] at this
  have h2 : (linesL l).map (fun x => (⟨x.toArray⟩ : PySem.Str)) = [⟨l.toArray⟩] := by
    rw [← this]
    show [strSub _ 0 _] = _
    congr 1
    apply congrArg Str.mk
    apply Array.toList_inj.mp
    simp
  cases hl : linesL l with
  | nil => rw [hl] at h2; cases h2
  | cons a r =>
    rw [hl] at h2
    cases r with
    | nil =>
      simp at h2
      rw [h2]
    | cons => simp at h2

section
variable {c : FC} {σ : Sig}
theorem repL_strs {x : Option Addr} {h : Heap} : ∀ (ls : List (List Nat)) (t : Nat), RepL x h (ls.map PV.str) (strsFrom t (ls.map fun x => (⟨x.toArray⟩ : PySem.Str)))
  | [], t => by simp [RepL, strsFrom]
  | a :: r, t => by
    simp only [List.map_cons]
    unfold RepL strsFrom
    exact ⟨_, _, rfl, ⟨t, rfl⟩, repL_strs r (t + 1)⟩

theorem OpN.splitlines {l : List Nat} (hl : l.length + 2 ≤ sizeLine) : OpN c (fun vs => call (.builtin "str.splitlines") vs) [.str l] (.list ((linesL l).map .str)) := by
  intro m s Q E vs Fr' r k
  simp only [RepL] at r
  obtain ⟨v, _, rfl, ⟨t, rfl⟩, rfl⟩ := r
  have hz : (lineCuts ⟨l.toArray⟩).length ≤ sizeLine := by
    rw [lineCuts_len]
    have := segs_len false [] l
    unfold linesL
    omega
  refine call_meets F.slot_str_splitlines (typeIs_str _ _ _) F.entry_str_splitlines (F.args_str_splitlines_1 _) (meets_str_splitlines ⟨l.toArray⟩ t (by rw [str_len]; omega) hz) ?_
  cases hw : lineCuts ⟨l.toArray⟩ == [(0, (⟨l.toArray⟩ : PySem.Str).length)]
  · simp only [Bool.false_eq_true, if_false]
    refine k _ _ _ (Kept.push _ _) ?_
    unfold Rep
    refine ⟨_, strsFrom s.toks (linesOf ⟨l.toArray⟩), rfl, by simp, ⟨_, Heap.get?_push_size _ rfl, rfl, _, rfl⟩, ?_⟩
    rw [linesOf_segs]
    exact repL_strs _ _
  · simp only [if_true]
    rw [lines_self hw] at k
    refine k _ _ s.toks (Kept.push _ _) ?_
    unfold Rep
    refine ⟨_, [.str ⟨l.toArray⟩ t], rfl, by simp, ⟨_, Heap.get?_push_size _ rfl, rfl, _, rfl⟩, ?_⟩
    simp [RepL, Rep]

/-! rstrip: no blank at the end -/
theorem txt_rstrip {l : List Nat} (h : ∀ c, l.getLast? = some c → Unicode.isSpace c = false) : Txt.rstrip ⟨l.toArray⟩ = ⟨l.toArray⟩ := by
  obtain ⟨h1, h2, h3, h4⟩ := hi_facts Unicode.isSpace ⟨l.toArray⟩ 0 (Nat.zero_le _)
  have he : stripHi Unicode.isSpace true ⟨l.toArray⟩ 0 = l.length := by
    rw [str_len] at h2 h3
    by_cases hl : stripHi Unicode.isSpace true ⟨l.toArray⟩ 0 = l.length
    · exact hl
    · exfalso
      have hlt : stripHi Unicode.isSpace true ⟨l.toArray⟩ 0 ≤ l.length - 1 := by omega
      have := h3 (l.length - 1) hlt (by omega)
      have hg : l.getLast? = some (l.getD (l.length - 1) 0) := by
        rw [List.getLast?_eq_getElem?]
        have : l.length - 1 < l.length := by omega
        simp [this]
      have h5 := h _ hg
      have h6 : (⟨l.toArray⟩ : PySem.Str).cps.getD (l.length - 1) 0 = l.getD (l.length - 1) 0 := by simp
      rw [h6, h5] at this
      cases this
  unfold Txt.rstrip Txt.stripBy
  split
  · rfl
  · rename_i hn
    exfalso
    apply hn
    show (stripLo Unicode.isSpace false ⟨l.toArray⟩ == 0 && stripHi Unicode.isSpace true ⟨l.toArray⟩ (stripLo Unicode.isSpace false ⟨l.toArray⟩) == (⟨l.toArray⟩ : PySem.Str).length) = true
    have e0 : stripLo Unicode.isSpace false ⟨l.toArray⟩ = 0 := rfl
    rw [e0, he, str_len]
    simp
theorem OpN.rstrip {l : List Nat} (hl : l.length ≤ sizeLine) (h : ∀ c, l.getLast? = some c → Unicode.isSpace c = false) : OpN c (fun vs => call (.builtin "str.rstrip") vs) [.str l] (.str l) := by
  intro m s Q E vs Fr' r k
  simp only [RepL] at r
  obtain ⟨v, _, rfl, ⟨t, rfl⟩, rfl⟩ := r
  refine SCL.rstrip (fun t' kk _ => ?_) (by rw [str_len]; exact hl)
  rw [txt_rstrip h]
  exact k _ s.heap _ (Kept.refl _) ⟨_, rfl⟩

theorem txt_endswith (x y : List Nat) : Txt.endswith ⟨x.toArray⟩ ⟨y.toArray⟩ = (decide (y.length ≤ x.length) && (x.drop (x.length - y.length) == y)) := by
  unfold Txt.endswith
  rw [subAt_eq, str_len, str_len, Nat.zero_add]
  by_cases h : y.length ≤ x.length
  · rw [decide_eq_true h, Bool.true_and, Bool.true_and]
    congr 1
    show ((x.toArray.toList.drop _).take y.length) = _
    rw [List.toList_toArray, List.take_of_length_le (by rw [List.length_drop]; omega)]
  · rw [decide_eq_false h]; rfl
theorem OpN.endswith {x y : List Nat} {b : Bool} (hb : (decide (y.length ≤ x.length) && (x.drop (x.length - y.length) == y)) = b) : OpN c (fun vs => call (.builtin "str.endswith") vs) [.str x, .str y] (.bool b) := by
  intro m s Q E vs Fr' r k
  simp only [RepL] at r
  obtain ⟨v, _, rfl, ⟨t, rfl⟩, v', _, rfl, ⟨t', rfl⟩, rfl⟩ := r
  refine SC.endswith ?_
  rw [txt_endswith, hb]
  exact k _ s.heap s.toks (Kept.refl _) rfl
theorem Op2.inS {n : Nat} {l : List Nat} : Op2 c (compareOp .In) (.str [n]) (.str l) (.bool (decide (n ∈ l))) := by
  rintro m s Q E v₁ v₂ F ⟨t, rfl⟩ ⟨u, rfl⟩ k
  refine in_str ?_
  have := found_one ⟨l.toArray⟩ n
  refine k _ s.heap s.toks (Kept.refl _) ?_
  show Value.bool (!(occurrences ⟨l.toArray⟩ ⟨#[n]⟩ 0 (⟨l.toArray⟩ : PySem.Str).length 1).isEmpty) = _
  rw [this]
theorem Op2.notinS {n : Nat} {l : List Nat} : Op2 c (compareOp .NotIn) (.str [n]) (.str l) (.bool (!decide (n ∈ l))) := by
  rintro m s Q E v₁ v₂ F ⟨t, rfl⟩ ⟨u, rfl⟩ k
  refine notIn_str ?_
  have := found_one ⟨l.toArray⟩ n
  refine k _ s.heap s.toks (Kept.refl _) ?_
  show Value.bool (!!(occurrences ⟨l.toArray⟩ ⟨#[n]⟩ 0 (⟨l.toArray⟩ : PySem.Str).length 1).isEmpty) = _
  rw [this]

/-! methods -/
def MethOf (c : FC) (p : PV) (name : Str) (id : String) : Prop :=
  ∀ (pl : Sem Bool) (s : Shared) (Q : Value × List Value → Shared → Prop) (E : Value → Shared → Prop) (v : Value), Rep none s.heap p v → Q (.builtin id, [v]) s → wpAny c.M c.A (getMethod v name pl) Q E s
theorem MethOf.splitlines {l : List Nat} : MethOf c (.str l) "splitlines" "str.splitlines" := by
  rintro pl s Q E v ⟨t, rfl⟩ h; exact GM.splitlines h
theorem MethOf.rstrip {l : List Nat} : MethOf c (.str l) "rstrip" "str.rstrip" := by
  rintro pl s Q E v ⟨t, rfl⟩ h; exact GM.rstrip h
theorem MethOf.endswith {l : List Nat} : MethOf c (.str l) "endswith" "str.endswith" := by
  rintro pl s Q E v ⟨t, rfl⟩ h; exact GM.endswith h
theorem MethOf.find {l : List Nat} : MethOf c (.str l) "find" "str.find" := by
  rintro pl s Q E v ⟨t, rfl⟩ h; exact GM.find h
theorem MethOf.replace {l : List Nat} : MethOf c (.str l) "replace" "str.replace" := by
  rintro pl s Q E v ⟨t, rfl⟩ h; exact GM.replace h
theorem MethOf.join {l : List Nat} : MethOf c (.str l) "join" "str.join" := by
  rintro pl s Q E v ⟨t, rfl⟩ h; exact GM.join h

def MethShape (c : FC) (o : Expr) (name : Str) (apos : Pos) (args : List Expr) (pos : Pos) : Prop :=
  ∃ pl : Sem Bool, eval (.Call (.Attribute o name apos) args [] pos) c.env = (do
      let ov ← eval o c.env
      standAt apos.atName
      let (f, first) ← holding [ov] (getMethod ov name pl)
      callWith pos f first (backTo pos (starEach args c.env)) [])
theorem Ev.meth0 {o : Expr} {name : Str} {id : String} {apos pos : Pos} {p q : PV} (h : Ev c σ o p) (hm : MethOf c p name id) (ho : OpN c (fun vs => call (.builtin id) vs) [p] q) (hs : MethShape c o name apos [] pos) :
    Ev c σ (.Call (.Attribute o name apos) [] [] pos) q := by
  obtain ⟨pl, he⟩ := hs
  intro m s Q E F R k
  refine MethodCall_ (h m s _ E F R fun v h' tk K r => ?_) he
  refine hm pl _ _ E v r ?_
  refine PyProof.Rows.callWith_method0 ?_
  refine ho m _ _ E [v] (Fr.kept' F K) (by simp [RepL]; exact r) fun v₂ h₂ tk₂ K₂ r₂ => k v₂ h₂ tk₂ (K.trans K₂) r₂
theorem Ev.meth1 {o e : Expr} {es : List Expr} {name : Str} {id : String} {apos pos : Pos} {p q : PV} {ps : List PV} (h : Ev c σ o p) (hm : MethOf c p name id) (ha : EvL c σ (e :: es) pos ps) (ho : OpN c (fun vs => call (.builtin id) vs) (p :: ps) q) (hs : MethShape c o name apos (e :: es) pos)
    (h1 : starEach (e :: es) c.env = (false, eval e c.env) :: starEach es c.env := by rfl) (h2 : ((backTo pos (starEach es c.env)).any fun x => x.fst) = false := by rfl) :
    Ev c σ (.Call (.Attribute o name apos) (e :: es) [] pos) q := by
  obtain ⟨pl, he⟩ := hs
  intro m s Q E F R k
  refine MethodCall_ (h m s _ E F R fun v h' tk K r => ?_) he
  refine hm pl _ _ E v r ?_
  refine PyProof.Rows.callWith_method1 ?_ h1 h2
  refine ha m _ _ E (Fr.kept' F K) (R.mono K.seq) fun vs h₂ tk₂ K₂ r₂ => ?_
  refine ho m _ _ E ([v] ++ vs) (Fr.kept' (Fr.kept' F K) K₂) ?_ fun v₃ h₃ tk₃ K₃ r₃ => k v₃ h₃ tk₃ ((K.trans K₂).trans K₃) r₃
  show RepL none _ (p :: ps) (v :: vs)
  unfold RepL
  exact ⟨v, vs, rfl, r.mono K₂.seq, r₂⟩
end
end Mine
end

section
open PySem PySem.W PyProof.Rows PySem.Calls PySem.Spec
set_option Elab.async false
set_option maxRecDepth 100000
namespace Mine
open PySem.NumText

/-- a hex figure's worth -/
def hexv (c : Nat) : Option Nat :=
  if 48 ≤ c && c ≤ 57 then some (c - 48)
  else if 97 ≤ c && c ≤ 102 then some (c - 87)
  else if 65 ≤ c && c ≤ 70 then some (c - 55)
  else none

theorem hexv_digit {c i : Nat} (h : hexv c = some i) : digit? c = some i ∧ i < 16 ∧ blank c = false ∧ c ≠ 95 ∧ c ≠ 45 ∧ c ≠ 43 ∧ c ≠ 0 ∧ c ≠ 120 ∧ c ≠ 88 ∧ c < 128 := by
  unfold hexv at h
  unfold digit? blank
  split at h
  · rename_i q
    cases h
    simp only [Bool.and_eq_true, decide_eq_true_eq] at q
    refine ⟨by simp [q], by omega, ?_, by omega, by omega, by omega, by omega, by omega, by omega, by omega⟩
    simp; omega
  · rename_i q1
    split at h
    · rename_i q
      cases h
      simp only [Bool.and_eq_true, decide_eq_true_eq] at q q1
      refine ⟨?_, by omega, ?_, by omega, by omega, by omega, by omega, by omega, by omega, by omega⟩
      · rw [if_neg (by simpa using q1), if_pos (by simp; omega)]
      · simp; omega
    · rename_i q2
      split at h
      · rename_i q
        cases h
        simp only [Bool.and_eq_true, decide_eq_true_eq] at q q1 q2
        refine ⟨?_, by omega, ?_, by omega, by omega, by omega, by omega, by omega, by omega, by omega⟩
        · rw [if_neg (by simpa using q1), if_neg (by simp; omega), if_pos (by simp; omega)]
        · simp; omega
      · cases h

theorem read_hex {a b i j : Nat} (ha : hexv a = some i) (hb : hexv b = some j) : (int_private% "readNumeral") 0 16 [a, b] = (int_private% "Numeral.value") ((16 * i + j : Nat) : Int) := by
  obtain ⟨a1, a2, a3, a4, a5, a6, a7, a8, a9, _⟩ := hexv_digit ha
  obtain ⟨b1, b2, b3, b4, b5, b6, b7, b8, b9, _⟩ := hexv_digit hb
  rw [readNumeral_eq]
  have e1 : [a, b].dropWhile blank = [a, b] := by rw [List.dropWhile_cons, a3]; rfl
  have e2 : sign [a, b] = (false, [a, b]) := by
    unfold sign
    split
    · rename_i h; cases h; exact absurd rfl a5
    · rename_i h; cases h; exact absurd rfl a6
    · rfl
  rw [e1, e2]
  have e3 : based 16 [a, b] = (16, false, [a, b]) := by
    unfold based
    have : prefix? [a, b] = none ∨ prefix? [a, b] = some 8 ∨ prefix? [a, b] = some 2 := by
      unfold prefix?
      split
      · rename_i h
        cases h
        rw [if_neg (by simp; omega)]
        split
        · exact .inr (.inl rfl)
        · split
          · exact .inr (.inr rfl)
          · exact .inl rfl
      · exact .inl rfl
    rcases this with h | h | h <;> rw [h] <;> rfl
  rw [e3]
  have e4 : ([a, b].reverse.dropWhile blank).reverse = [a, b] := by
    show ([b, a].dropWhile blank).reverse = _
    rw [List.dropWhile_cons, b3]; rfl
  rw [e4]
  have e5 : digits? 16 [a, b] = some #[i, j] := by
    unfold digits?
    simp only [List.foldlM_cons, List.foldlM_nil]
    have s1 : NumText.step 16 (#[], false) a = some (#[i], true) := by
      unfold NumText.step
      rw [if_neg (by simpa using a4), a1]
      simp [a2]
    have s2 : NumText.step 16 (#[i], true) b = some (#[i, j], true) := by
      unfold NumText.step
      rw [if_neg (by simpa using b4), b1]
      simp [b2]
    rw [s1]
    show ((NumText.step 16 (#[i], true) b).bind _ ).bind _ = _
    rw [s2]
    rfl
  rw [e5]
  unfold judge
  have e6 : (#[i, j] : Array Nat).foldl (fun acc d => acc * 16 + d) 0 = 16 * i + j := by
    show (0 * 16 + i) * 16 + j = _
    omega
  show (if (![2, 4, 8, 16, 32].contains 16 && (0 : Nat) != 0 && decide ((#[i, j] : Array Nat).size > 0)) = true then _ else if ((16 : Nat) == 10 && decide ((#[i, j] : Array Nat).size > 6000)) = true then _ else _) = _
  rw [if_neg (by simp), if_neg (by simp)]
  rw [e6]
  rfl

/-- the text's value, where it is read whole -/
theorem text16 {M : Model} {A : Around} {E : Value → Shared → Prop} {s : Shared} {Q : Value → Shared → Prop} {v : Value} {text : List Nat} {n : Int} (short : (text.takeWhile (· != 0)).length ≤ 640)
    (value : (int_private% "readNumeral") 0 16 (text.takeWhile (· != 0)) = (int_private% "Numeral.value") n) (whole : ((text.takeWhile (· != 0)).length == text.length) = true)
    (k : Q (.int n s.toks) { s with toks := s.toks + 1 }) : wpAny M A ((int_private% "intFromText") v text 16) Q E s := by
  rcases s with ⟨_, _, _, _, _⟩
  have c₁ := decide_eq_true short
  have c₂ := decide_eq_true whole
  iterate 30 (all_goals first
    | exact k
    | (with_reducible refine wpAny_ite_true c₁ ?_)
    | (with_reducible refine wpAny_ite_true c₂ ?_)
    | (rw [value]; dsimp only)
    | wp_step
    | skip)

structure Hide (p : Prop) : Prop where
  out : p

theorem typeCall_int_2 (a b : Value) : checkTypeCall "int" ⟨[a, b], []⟩ = pure () := by kernel_rfl
theorem newCall_int_2 (a b : Value) : checkBuiltinCall "int.__new__" ⟨[.type "int", a, b], []⟩ = pure () := by kernel_rfl
set_option maxHeartbeats 4000000 in
theorem gives_hex {a b i j : Nat} {u u' : Tok} (ha : hexv a = some i) (hb : hexv b = some j) : Gives (Builtin.«int.__new__» ⟨[.type "int", .str ⟨#[a, b]⟩ u, .int 16 u'], []⟩) (.int ((16 * i + j : Nat) : Int)) :=
  .of_wp fun M A E s Q h => by
    obtain ⟨hp, g, d, tk, os⟩ := s
    have f1 := F.conv_sub_int
    have f2 := F.madeHere_int
    have f6 : typeOf (.str ⟨#[a, b]⟩ u) = pure (.type "str") := rfl
    have t1 : numTextOf ⟨#[a, b]⟩ = [a, b] := by
      unfold numTextOf
      have ha' := (hexv_digit ha).2.2.2.2.2.2.2.2.2
      have hb' := (hexv_digit hb).2.2.2.2.2.2.2.2.2
      rw [if_pos (by simp [ha', hb'])]
    have t2 : numSeenOf ⟨#[a, b]⟩ = [a, b] := by
      unfold numSeenOf
      rw [t1]
      have ha' := (hexv_digit ha).2.2.2.2.2.2.1
      have hb' := (hexv_digit hb).2.2.2.2.2.2.1
      have ha2 : (a != 0) = true := by simpa using ha'
      have hb2 : (b != 0) = true := by simpa using hb'
      simp only [List.takeWhile, ha2, hb2]
    have hs : (numSeenOf ⟨#[a, b]⟩).length ≤ 640 := by rw [t2]; show 2 ≤ 640; decide
    have hr : (int_private% "readNumeral") 0 16 (numSeenOf ⟨#[a, b]⟩) = (int_private% "Numeral.value") ((16 * i + j : Nat) : Int) := by rw [t2]; exact read_hex ha hb
    have hx : ((numSeenOf ⟨#[a, b]⟩).length == (numTextOf ⟨#[a, b]⟩).length) = true := by rw [t1, t2]; rfl
    have facts := Hide.mk (show _ ∧ _ ∧ _ from ⟨hs, hr, hx⟩)
    clear hs hr hx t1 t2 ha hb
    iterate 200 (all_goals first
      | assumption
      | ((with_reducible show wpAny _ _ ((int_private% "intFromText") _ _ _) _ _ _); refine text16 facts.out.1 facts.out.2.1 facts.out.2.2 ?_)
      | wp_step
      | exact ⟨_, rfl, h⟩
      | skip)

theorem OpN.int16 {c : FC} {a b i j : Nat} (ha : hexv a = some i) (hb : hexv b = some j) : OpN c (fun vs => call (.type "int") vs) [.str [a, b], .int 16] (.int ((16 * i + j : Nat) : Int)) := by
  intro m s Q E vs F' r k
  simp only [RepL] at r
  obtain ⟨v, _, rfl, ⟨t, rfl⟩, v', _, rfl, ⟨t', rfl⟩, rfl⟩ := r
  exact callType_new F.called_int F.newNe_int (typeCall_int_2 _ _) (newCall_int_2 _ _) (fun obj => F.initArgs_range_2 obj _ _) F.entry_int_new (gives_hex ha hb).meets
    (show (Made.int _).post _ s from ⟨rfl, k _ s.heap _ (Kept.refl _) ⟨_, rfl⟩⟩)
end Mine
end

section
open PySem PySem.W PyProof.Rows PySem.Calls PySem.Spec
set_option Elab.async false
set_option maxRecDepth 100000
namespace Mine

section
variable {c : FC} {S S₁ : St} {σ : Sig} {d : Nat}

theorem Ev.global_str {x : Str} {pos : Pos} {l : List Nat} {t : Tok} (T : Stat c d) (hg : c.glo x) (h : nsIn c.K mainGlobals x = some (some (.str ⟨l.toArray⟩ t))) (hd : (x == ("__debug__" : Str)) = false := by rfl) : Ev c σ (.Name x pos) (.str l) := by
  intro m s Q E F R k
  exact nameX_K F T.kin T.topRead h (k _ s.heap s.toks (Kept.refl _) ⟨t, rfl⟩) T.kind hg hd

/-- arguments bound -/
def BindsRep (h : Heap) : Sig → List (Str × Value) → Prop
  | [], [] => True
  | (y, p) :: r, (z, v) :: q => y = z ∧ Rep none h p v ∧ BindsRep h r q
  | _, _ => False
theorem EnvR.of_binds {h : Heap} : ∀ {σ : Sig} {b : List (Str × Value)}, BindsRep h σ b → EnvR none h σ (fun y => b.lookup y)
  | [], [], _ => by intro y p hp; cases hp
  | [], _ :: _, e => e.elim
  | _ :: _, [], e => e.elim
  | (y, p) :: r, (z, v) :: q, e => by
    obtain ⟨rfl, h1, h2⟩ := e
    intro w p' hw
    rw [List.lookup_cons] at hw
    by_cases hc : (w == y) = true
    · rw [hc] at hw
      simp at hw
      subst hw
      exact ⟨v, by simp [List.lookup_cons, hc], h1⟩
    · have : (w == y) = false := by simpa using hc
      rw [this] at hw
      obtain ⟨u, a, b⟩ := EnvR.of_binds h2 w p' hw
      exact ⟨u, by simp only [List.lookup_cons, this]; exact a, b⟩

theorem Exs.one {st : Stmt} {o : Out} (h : Ex1 c S st o) : Exs c S [st] o := by
  cases o with
  | next S₁ => exact Exs.cons h Exs.nil
  | ret p => exact Exs.stop h trivial
  | brk S₁ => exact Exs.stop h trivial
  | cont S₁ => exact Exs.stop h trivial
theorem Sub.refl' {σ : Sig} (h : ∀ y p, (y, p) ∈ σ → σ.lookup y = some p) : Sub σ σ := by
  have : ∀ r : Sig, (∀ y p, (y, p) ∈ r → σ.lookup y = some p) → Sub r σ := by
    intro r
    induction r with
    | nil => intro _; trivial
    | cons a r ih =>
      obtain ⟨y, p⟩ := a
      intro h
      exact ⟨h y p (.head _), ih fun z q hq => h z q (.tail _ hq)⟩
  exact this σ h
theorem Ev.cast {e : Expr} {p q : PV} (h : Ev c σ e p) (hpq : p = q) : Ev c σ e q := hpq ▸ h
theorem EvB.cast {e : Expr} {a b : Bool} (h : EvB c σ e a) (hab : a = b) : EvB c σ e b := hab ▸ h
theorem FnOk.into {f : Addr} {ps : List PV} {q : PV} (h : FnOk c f ps q) : FnOk c f ps q := h
end
end Mine
end

section
open PySem PySem.W PyProof.Rows PySem.Calls PySem.Spec
set_option Elab.async false
set_option maxRecDepth 100000
namespace Mine

/-! what the functions reckon, over lists of codes -/
def isHex (n : Nat) : Bool := (hexv n).isSome
def hexD : List Nat := [48, 49, 50, 51, 52, 53, 54, 55, 56, 57, 97, 98, 99, 100, 101, 102, 65, 66, 67, 68, 69, 70]
theorem isHex_mem (n : Nat) : decide (n ∈ hexD) = isHex n := by
  unfold isHex hexv hexD
  rw [Bool.eq_iff_iff]
  simp only [decide_eq_true_eq, List.mem_cons, List.not_mem_nil, or_false]
  constructor
  · intro h
    split
    · rfl
    · split
      · rfl
      · split
        · rfl
        · rename_i h1 h2 h3
          simp only [Bool.and_eq_true, decide_eq_true_eq] at h1 h2 h3
          omega
  · intro h
    split at h
    · rename_i h1; simp only [Bool.and_eq_true, decide_eq_true_eq] at h1; omega
    · split at h
      · rename_i h1; simp only [Bool.and_eq_true, decide_eq_true_eq] at h1; omega
      · split at h
        · rename_i h1; simp only [Bool.and_eq_true, decide_eq_true_eq] at h1; omega
        · cases h
def unhex (a b : Nat) : Nat := 16 * (hexv a).getD 0 + (hexv b).getD 0

/-- one line, from a place on: what is appended -/
def scanL (eol : List Nat) : List Nat → List Nat
  | [] => []
  | [c] => if c = 61 then [] else c :: eol
  | [c, a] => c :: scanL eol [a]
  | c :: a :: b :: r =>
    if c = 61 then (if isHex a && isHex b then unhex a b :: (if r = [] then eol else scanL eol r) else c :: scanL eol (a :: b :: r))
    else c :: scanL eol (a :: b :: r)
def lineD (eol l : List Nat) : List Nat := if l = [] then eol else scanL eol l
def rawD (eol enc : List Nat) : List Nat := (linesL enc).flatMap (lineD eol)
def decD (eol enc : List Nat) : List Nat :=
  if enc = [] then [] else
  if (match enc.getLast? with | some n => !decide (n ∈ [13, 10]) | none => false) && (decide (eol.length ≤ (rawD eol enc).length) && ((rawD eol enc).drop ((rawD eol enc).length - eol.length) == eol))
  then pySlice (rawD eol enc) none (some (-(eol.length : Int))) else rawD eol enc

theorem scanL_len (eol : List Nat) : ∀ l : List Nat, (scanL eol l).length ≤ l.length + eol.length
  | [] => by simp [scanL]
  | [c] => by unfold scanL; split <;> simp; omega
  | [c, a] => by
    have := scanL_len eol [a]
    unfold scanL
    simp at this ⊢
    omega
  | c :: a :: b :: r => by
    have h1 := scanL_len eol r
    have h2 := scanL_len eol (a :: b :: r)
    unfold scanL
    split
    · split
      · split
        · simp; omega
        · simp; omega
      · simp at h2 ⊢; omega
    · simp at h2 ⊢; omega
theorem lineD_len (eol l : List Nat) : (lineD eol l).length ≤ l.length + eol.length := by
  unfold lineD
  split
  · omega
  · exact scanL_len eol l
def sumL (ls : List (List Nat)) : Nat := (ls.map List.length).sum
theorem segs_sum : ∀ (b : Bool) (acc l : List Nat), sumL (segs b acc l) ≤ acc.length + l.length := by
  intro b acc l
  induction l generalizing b acc with
  | nil => unfold segs; split <;> simp [sumL]
  | cons c r ih =>
    cases b with
    | true => unfold segs; have := ih false acc; simp; omega
    | false =>
      unfold segs
      split
      · have := ih (c == 13 && r.head? == some 10) []
        simp [sumL] at this ⊢
        omega
      · have := ih false (acc ++ [c])
        simp at this ⊢
        omega
theorem flatD_len (eol : List Nat) : ∀ ls : List (List Nat), (ls.flatMap (lineD eol)).length ≤ sumL ls + ls.length * eol.length
  | [] => by simp [sumL]
  | a :: r => by
    have h1 := lineD_len eol a
    have h2 := flatD_len eol r
    simp only [List.flatMap_cons, List.length_append, sumL, List.map_cons, List.sum_cons, List.length_cons] at *
    rw [Nat.add_mul]
    omega
theorem lines_sum (l : List Nat) : sumL (linesL l) ≤ l.length := by
  have := segs_sum false [] l
  simpa [linesL] using this
theorem lines_len (l : List Nat) : (linesL l).length ≤ l.length + 1 := segs_len false [] l
theorem sum_mem {a : List Nat} : ∀ {ls : List (List Nat)}, a ∈ ls → a.length ≤ sumL ls
  | b :: r, h => by
    simp only [sumL, List.map_cons, List.sum_cons]
    rcases List.mem_cons.mp h with rfl | h
    · omega
    · have := sum_mem h
      simp only [sumL] at this
      omega

/-- parse257 behind its head -/
def parP : List Nat → List Nat
  | [] => []
  | 34 :: 34 :: r => 34 :: parP r
  | 34 :: _ => []
  | c :: r => c :: parP r
theorem parP_len : ∀ l : List Nat, (parP l).length ≤ l.length
  | [] => by simp [parP]
  | [c] => by
    by_cases h : c = 34
    · subst h; simp [parP]
    · unfold parP
      split
      · rename_i h'; cases h'
      · rename_i h'; cases h'
      · rename_i h'; cases h'; exact absurd rfl h
      · rename_i h'; cases h'; simp [parP]
  | c :: a :: r => by
    have h1 := parP_len r
    have h2 := parP_len (a :: r)
    unfold parP
    split
    · rename_i h'; cases h'
    · rename_i h'; cases h'; simp; omega
    · simp
    · rename_i h'; cases h'; simp at h2 ⊢; omega
/-- _fix_eols -/
def fixF : List Nat → List Nat
  | [] => []
  | 13 :: 10 :: r => 13 :: 10 :: fixF r
  | 13 :: r => 13 :: 10 :: fixF r
  | 10 :: r => 13 :: 10 :: fixF r
  | c :: r => c :: fixF r
end Mine
end

section
open PySem PySem.W PyProof.Rows PySem.Calls PySem.Spec
set_option Elab.async false
set_option maxRecDepth 100000
namespace Mine

theorem pyIdx_nat {k n : Nat} (h : k < n) : pyIdx ((k : Nat) : Int) n = some k := by
  unfold pyIdx seqIndex?
  have h1 : ¬ ((k : Int) < 0) := by omega
  have h2 : (decide (0 ≤ (k : Int)) && decide ((k : Int) < (n : Int))) = true := by simp; omega
  simp only [if_neg h1, if_pos h2]
  rfl
theorem pyIdx_last {n : Nat} (h : 0 < n) : pyIdx (-1) n = some (n - 1) := by
  unfold pyIdx seqIndex?
  have h1 : ((-1 : Int) < 0) := by decide
  have h2 : (decide (0 ≤ -1 + (n : Int)) && decide (-1 + (n : Int) < (n : Int))) = true := by simp; omega
  simp only [if_pos h1, if_pos h2]
  congr 1
  omega

theorem pySlice_nat {α : Type} (l : List α) {i j : Nat} (hij : i ≤ j) (hj : j ≤ l.length) : pySlice l (some (i : Int)) (some (j : Int)) = (l.drop i).take (j - i) := by
  unfold pySlice bnd
  have h1 : ¬ ((i : Int) < 0) := by omega
  have h2 : ¬ ((j : Int) < 0) := by omega
  simp only [if_neg h1, if_neg h2]
  have e1 : min (i : Int).toNat l.length = i := by omega
  have e2 : min (j : Int).toNat l.length = j := by omega
  rw [e1, e2]
theorem pySlice_to {α : Type} (l : List α) (j : Nat) : pySlice l none (some (j : Int)) = l.take j := by
  unfold pySlice bnd
  have h2 : ¬ ((j : Int) < 0) := by omega
  simp only [if_neg h2, List.drop_zero, Nat.sub_zero]
  have e2 : min (j : Int).toNat l.length = min j l.length := by omega
  rw [e2]
  exact W.kmk_take_min l j
theorem pySlice_from {α : Type} (l : List α) (j : Nat) : pySlice l (some (j : Int)) none = l.drop j := by
  unfold pySlice bnd
  have h2 : ¬ ((j : Int) < 0) := by omega
  simp only [if_neg h2]
  have e2 : min (j : Int).toNat l.length = min j l.length := by omega
  rw [e2, W.kmk_drop_min l j]
  rw [List.take_of_length_le]
  rw [List.length_drop]
  omega
theorem parP_cons {c : Nat} {r : List Nat} (h : c ≠ 34) : parP (c :: r) = c :: parP r := by
  cases r with
  | nil =>
    unfold parP
    split
    · rename_i h'; cases h'
    · rename_i h'; cases h'
    · rename_i h'; cases h'; exact absurd rfl h
    · rename_i h'; cases h'; rfl
  | cons a r =>
    rw [parP]
    · intro r' e1; cases e1; exact absurd rfl h
    · intro e; exact h e
theorem parP_two {r : List Nat} : parP (34 :: 34 :: r) = 34 :: parP r := by rw [parP]
theorem parP_one {r : List Nat} (h : r.head? ≠ some 34) : parP (34 :: r) = [] := by
  cases r with
  | nil => rfl
  | cons a r =>
    rw [parP]
    intro r' e
    cases e
    exact h rfl
theorem pySlice_three {α : Type} (l : List α) {i : Nat} (h : i + 2 < l.length) : pySlice l (some (i : Int)) (some ((i : Int) + 3)) = [l[i], l[i + 1], l[i + 2]] := by
  have e : ((i : Int) + 3) = ((i + 3 : Nat) : Int) := by omega
  rw [e, pySlice_nat l (by omega) (by omega), List.drop_eq_getElem_cons (by omega : i < l.length), List.drop_eq_getElem_cons (by omega : i + 1 < l.length), List.drop_eq_getElem_cons (by omega : i + 1 + 1 < l.length)]
  have : i + 3 - i = 3 := by omega
  rw [this]
  rfl

section
variable {c : FC} {S S₁ : St} {σ : Sig} {d : Nat}

/-- a while over a family of states -/
inductive WhStep {ι : Type} (c : FC) (t : Expr) (b : List Stmt) (F : ι → St) (I : ι → Prop) (μ : ι → Nat) (o : ι → Out) (x : ι) : Prop where
  | exit (h : EvB c (F x).full t false) (e : SubO (o x) (.next (F x)))
  | next (y : ι) (hI : I y) (hm : μ y < μ x) (he : o y = o x) (h : EvB c (F x).full t true) (hb : Exs c (F x) b (.next (F y)))
  | cont (y : ι) (hI : I y) (hm : μ y < μ x) (he : o y = o x) (h : EvB c (F x).full t true) (hb : Exs c (F x) b (.cont (F y)))
  | brk (S₁ : St) (h : EvB c (F x).full t true) (hb : Exs c (F x) b (.brk S₁)) (e : SubO (o x) (.next S₁))
  | ret (p : PV) (h : EvB c (F x).full t true) (hb : Exs c (F x) b (.ret p)) (e : o x = .ret p)
theorem Wh.fam {ι : Type} {t : Expr} {b : List Stmt} (F : ι → St) (I : ι → Prop) (μ : ι → Nat) (o : ι → Out) (step : ∀ x, I x → WhStep c t b F I μ o x) : ∀ x, I x → ∃ n, Wh c t b n (F x) (o x) := by
  have all : ∀ k x, μ x < k → I x → ∃ n, Wh c t b n (F x) (o x) := by
    intro k
    induction k with
    | zero => intro x h; exact absurd h (Nat.not_lt_zero _)
    | succ k ih =>
      intro x h hI
      cases step x hI with
      | exit h e => exact ⟨0, Wh.post (Wh.exit h) e⟩
      | next y hI hm he h hb =>
        obtain ⟨n, hn⟩ := ih y (by omega) hI
        exact ⟨n + 1, he ▸ Wh.step h hb hn⟩
      | cont y hI hm he h hb =>
        obtain ⟨n, hn⟩ := ih y (by omega) hI
        exact ⟨n + 1, he ▸ Wh.cont h hb hn⟩
      | brk S₁ h hb e => exact ⟨0, Wh.post (Wh.brk h hb) e⟩
      | ret p h hb e => exact ⟨0, e ▸ Wh.ret h hb⟩
  exact fun x hI => all _ x (Nat.lt_succ_self _) hI
theorem Ex1.while_fam {ι : Type} {t : Expr} {b : List Stmt} {pos : Pos} (F : ι → St) (I : ι → Prop) (μ : ι → Nat) (o : ι → Out) (x : ι) (hI : I x) (hS : SubS (F x) S) (step : ∀ x, I x → WhStep c t b F I μ o x) : Ex1 c S (.While t b [] pos) (o x) := by
  obtain ⟨n, h⟩ := Wh.fam F I μ o step x hI
  exact Ex1.while (Wh.pre h hS)

/-- a for over a family of states -/
inductive FoStep (c : FC) (t : Expr) (b : List Stmt) (F : Nat → St) (I : Nat → Prop) (o : Nat → Out) (i : Nat) (p : PV) : Prop where
  | next (S₁ : St) (ha : AsgT c (F i) t p S₁) (hb : Exs c S₁ b (.next (F (i + 1)))) (hI : I (i + 1)) (e : o (i + 1) = o i)
  | cont (S₁ : St) (ha : AsgT c (F i) t p S₁) (hb : Exs c S₁ b (.cont (F (i + 1)))) (hI : I (i + 1)) (e : o (i + 1) = o i)
  | brk (S₁ S₂ : St) (ha : AsgT c (F i) t p S₁) (hb : Exs c S₁ b (.brk S₂)) (e : SubO (o i) (.next S₂))
  | ret (S₁ : St) (q : PV) (ha : AsgT c (F i) t p S₁) (hb : Exs c S₁ b (.ret q)) (e : o i = .ret q)
theorem Fo.fam {l : List PV} {t : Expr} {b : List Stmt} (F : Nat → St) (I : Nat → Prop) (o : Nat → Out) (hend : I l.length → SubO (o l.length) (.next (F l.length))) (step : ∀ i p, l[i]? = some p → I i → FoStep c t b F I o i p) (h0 : I 0) : Fo c t b l (F 0) (o 0) := by
  have all : ∀ k i, l.length - i = k → i ≤ l.length → I i → Fo c t b (l.drop i) (F i) (o i) := by
    intro k
    induction k with
    | zero =>
      intro i h hi hI
      have : i = l.length := by omega
      subst this
      rw [List.drop_length]
      exact Fo.post Fo.done (hend hI)
    | succ k ih =>
      intro i h hi hI
      have hlt : i < l.length := by omega
      rw [List.drop_eq_getElem_cons hlt]
      cases step i l[i] (by simp [hlt]) hI with
      | next S₁ ha hb hI' e => exact Fo.step ha hb (e ▸ ih (i + 1) (by omega) hlt hI')
      | cont S₁ ha hb hI' e => exact Fo.cont ha hb (e ▸ ih (i + 1) (by omega) hlt hI')
      | brk S₁ S₂ ha hb e => exact Fo.post (Fo.brk ha hb) e
      | ret S₁ q ha hb e => rw [e]; exact Fo.ret ha hb
  simpa using all _ 0 rfl (Nat.zero_le _) h0

theorem Ex1.ite_true {t : Expr} {b o : List Stmt} {pos : Pos} {r : Out} (ht : EvB c S.full t true) (h₁ : Exs c S b r) : Ex1 c S (.If t b o pos) r := Ex1.ite ht (fun _ => h₁) (fun h => nomatch h)
theorem Ex1.ite_false {t : Expr} {b o : List Stmt} {pos : Pos} {r : Out} (ht : EvB c S.full t false) (h₁ : Exs c S o r) : Ex1 c S (.If t b o pos) r := Ex1.ite ht (fun h => nomatch h) (fun _ => h₁)
end
end Mine
end

section
open PySem
set_option maxRecDepth 100000
namespace Mine
namespace Rx
open Sre Sre.M

def code : Array Nat := #[14, 9, 4, 1, 2, 16, 10, 16, 13, 0, 7, 7, 16, 13, 16, 10, 15, 18, 5, 16, 10, 15, 13, 11, 16, 13, 5, 5, 0, 16, 10, 1, 15, 2, 0, 1]

theorem inSet_if (c : Nat) (seen : Seen) : inSet code c code.size 5 true seen =
    if (c == 10) = true then .ok (true, seen.add 16) else if (c == 13) = true then .ok (true, (seen.add 16).add 16) else .ok (!true, ((seen.add 16).add 16).add 0) := rfl
theorem inSet_eq (c : Nat) (seen : Seen) : ∃ seen', inSet code c code.size 5 true seen = .ok (c == 10 || c == 13, seen') := by
  rw [inSet_if]
  cases c == 10 <;> cases c == 13 <;> exact ⟨_, rfl⟩

/-- the first place of an end at or behind s -/
def firstEnd (t : Array Nat) (lim : Nat) : (fuel s : Nat) → Option Nat
  | 0, _ => none
  | f + 1, s => if s ≥ lim then none else if (t.getD s 0 == 10 || t.getD s 0 == 13) = true then some s else firstEnd t lim f (s + 1)
theorem admitted_eq (m : M) (hc : m.code = code) : ∀ (fuel s : Nat) (seen : Seen), ∃ seen', admitted m fuel s seen = .ok (firstEnd m.text m.lim fuel s, seen')
  | 0, s, seen => ⟨seen, rfl⟩
  | f + 1, s, seen => by
    unfold admitted firstEnd
    by_cases h : s ≥ m.lim
    · rw [if_pos h, if_pos h]; exact ⟨_, rfl⟩
    · rw [if_neg h, if_neg h, hc]
      obtain ⟨s1, e1⟩ := inSet_eq (m.text.getD s 0) seen
      rw [e1]
      cases hb : (m.text.getD s 0 == 10 || m.text.getD s 0 == 13) with
      | true => exact ⟨s1, rfl⟩
      | false =>
        simp only [Bool.false_eq_true, if_false]
        exact admitted_eq m hc f (s + 1) s1

/-- a machine at work: what the search keeps still -/
def mk (text : Array Nat) (start : Nat) (pc pos handed : Nat) (outermost : Bool) (frames : List Sre.Frame) (weight : Nat) (answer : Option Bool) (seen : Seen) : M :=
  { code := code, text := text, lim := text.size, start := start, lastStart := text.size, wholeText := false, mustAdvance := false, pc := pc, pos := pos, handed := handed, outermost := outermost, marks := #[], lastmark := -1, lastindex := -1, loops := #[], inner := none, frames := frames, weight := weight, answer := answer, seen := seen, outcome := none }

def f0 (s : Nat) : Sre.Frame := { wait := .nextStart, pc := 10, pos := s, outermost := true }
def fb (s pc : Nat) : Sre.Frame := { wait := .nextBranch, pc := pc, pos := s, outermost := true, kept := { lastmark := -1, lastindex := -1, whole := false, marks := #[] } }
def fl (p : Nat) : Sre.Frame := { wait := .lookNot, pc := 26, pos := p, outermost := true, kept := { lastmark := -1, lastindex := -1, whole := false, marks := #[] } }

section
variable (t : Array Nat) (s p h : Nat) (o : Bool) (fr : List Sre.Frame) (w : Nat) (seen : Seen)
theorem branch : ∃ seen', M.step (mk t s 10 p p true [f0 s] 1 none seen) = mk t s 12 p p true [fb p 11, f0 s] 2 none seen' := ⟨_, rfl⟩

theorem lit12_no (hp : p ≥ t.size ∨ t.getD p 0 ≠ 13) : ∃ seen', M.step (mk t s 12 p h o fr w none seen) = mk t s 12 p h o fr w (some false) seen' := by
  refine ⟨seen.add 16, ?_⟩
  by_cases hq : p ≥ t.size
  · exact if_pos hq
  · have hb : (t.getD p 0 == 13) = false := by simpa using hp.resolve_left hq
    refine (if_neg hq).trans ?_
    show (match (Except.ok (t.getD p 0 == 13, seen.add 16) : Except String (Bool × Seen)) with | .error why => _ | .ok (false, sn) => _ | .ok (true, sn) => _) = _
    rw [hb]
    rfl
theorem lit12_yes (hp : p < t.size) (hc : t.getD p 0 = 13) : ∃ seen', M.step (mk t s 12 p h o fr w none seen) = mk t s 14 (p + 1) h o fr w none seen' := by
  refine ⟨seen.add 16, ?_⟩
  have hb : (t.getD p 0 == 13) = true := by simpa using hc
  refine (if_neg (Nat.not_le.mpr hp)).trans ?_
  show (match (Except.ok (t.getD p 0 == 13, seen.add 16) : Except String (Bool × Seen)) with | .error why => _ | .ok (false, sn) => _ | .ok (true, sn) => _) = _
  rw [hb]
  rfl
theorem lit14_no (hp : p ≥ t.size ∨ t.getD p 0 ≠ 10) : ∃ seen', M.step (mk t s 14 p h o fr w none seen) = mk t s 14 p h o fr w (some false) seen' := by
  refine ⟨seen.add 16, ?_⟩
  by_cases hq : p ≥ t.size
  · exact if_pos hq
  · have hb : (t.getD p 0 == 10) = false := by simpa using hp.resolve_left hq
    refine (if_neg hq).trans ?_
    show (match (Except.ok (t.getD p 0 == 10, seen.add 16) : Except String (Bool × Seen)) with | .error why => _ | .ok (false, sn) => _ | .ok (true, sn) => _) = _
    rw [hb]
    rfl
theorem lit14_yes (hp : p < t.size) (hc : t.getD p 0 = 10) : ∃ seen', M.step (mk t s 14 p h o fr w none seen) = mk t s 16 (p + 1) h o fr w none seen' := by
  refine ⟨seen.add 16, ?_⟩
  have hb : (t.getD p 0 == 10) = true := by simpa using hc
  refine (if_neg (Nat.not_le.mpr hp)).trans ?_
  show (match (Except.ok (t.getD p 0 == 10, seen.add 16) : Except String (Bool × Seen)) with | .error why => _ | .ok (false, sn) => _ | .ok (true, sn) => _) = _
  rw [hb]
  rfl
theorem lit19_no (hp : p ≥ t.size ∨ t.getD p 0 ≠ 10) : ∃ seen', M.step (mk t s 19 p h o fr w none seen) = mk t s 19 p h o fr w (some false) seen' := by
  refine ⟨seen.add 16, ?_⟩
  by_cases hq : p ≥ t.size
  · exact if_pos hq
  · have hb : (t.getD p 0 == 10) = false := by simpa using hp.resolve_left hq
    refine (if_neg hq).trans ?_
    show (match (Except.ok (t.getD p 0 == 10, seen.add 16) : Except String (Bool × Seen)) with | .error why => _ | .ok (false, sn) => _ | .ok (true, sn) => _) = _
    rw [hb]
    rfl
theorem lit19_yes (hp : p < t.size) (hc : t.getD p 0 = 10) : ∃ seen', M.step (mk t s 19 p h o fr w none seen) = mk t s 21 (p + 1) h o fr w none seen' := by
  refine ⟨seen.add 16, ?_⟩
  have hb : (t.getD p 0 == 10) = true := by simpa using hc
  refine (if_neg (Nat.not_le.mpr hp)).trans ?_
  show (match (Except.ok (t.getD p 0 == 10, seen.add 16) : Except String (Bool × Seen)) with | .error why => _ | .ok (false, sn) => _ | .ok (true, sn) => _) = _
  rw [hb]
  rfl
theorem lit24_no (hp : p ≥ t.size ∨ t.getD p 0 ≠ 13) : ∃ seen', M.step (mk t s 24 p h o fr w none seen) = mk t s 24 p h o fr w (some false) seen' := by
  refine ⟨seen.add 16, ?_⟩
  by_cases hq : p ≥ t.size
  · exact if_pos hq
  · have hb : (t.getD p 0 == 13) = false := by simpa using hp.resolve_left hq
    refine (if_neg hq).trans ?_
    show (match (Except.ok (t.getD p 0 == 13, seen.add 16) : Except String (Bool × Seen)) with | .error why => _ | .ok (false, sn) => _ | .ok (true, sn) => _) = _
    rw [hb]
    rfl
theorem lit24_yes (hp : p < t.size) (hc : t.getD p 0 = 13) : ∃ seen', M.step (mk t s 24 p h o fr w none seen) = mk t s 26 (p + 1) h o fr w none seen' := by
  refine ⟨seen.add 16, ?_⟩
  have hb : (t.getD p 0 == 13) = true := by simpa using hc
  refine (if_neg (Nat.not_le.mpr hp)).trans ?_
  show (match (Except.ok (t.getD p 0 == 13, seen.add 16) : Except String (Bool × Seen)) with | .error why => _ | .ok (false, sn) => _ | .ok (true, sn) => _) = _
  rw [hb]
  rfl
theorem lit29_no (hp : p ≥ t.size ∨ t.getD p 0 ≠ 10) : ∃ seen', M.step (mk t s 29 p h o fr w none seen) = mk t s 29 p h o fr w (some false) seen' := by
  refine ⟨seen.add 16, ?_⟩
  by_cases hq : p ≥ t.size
  · exact if_pos hq
  · have hb : (t.getD p 0 == 10) = false := by simpa using hp.resolve_left hq
    refine (if_neg hq).trans ?_
    show (match (Except.ok (t.getD p 0 == 10, seen.add 16) : Except String (Bool × Seen)) with | .error why => _ | .ok (false, sn) => _ | .ok (true, sn) => _) = _
    rw [hb]
    rfl
theorem lit29_yes (hp : p < t.size) (hc : t.getD p 0 = 10) : ∃ seen', M.step (mk t s 29 p h o fr w none seen) = mk t s 31 (p + 1) h o fr w none seen' := by
  refine ⟨seen.add 16, ?_⟩
  have hb : (t.getD p 0 == 10) = true := by simpa using hc
  refine (if_neg (Nat.not_le.mpr hp)).trans ?_
  show (match (Except.ok (t.getD p 0 == 10, seen.add 16) : Except String (Bool × Seen)) with | .error why => _ | .ok (false, sn) => _ | .ok (true, sn) => _) = _
  rw [hb]
  rfl
theorem jump16 : ∃ seen', M.step (mk t s 16 p h o fr w none seen) = mk t s 35 p h o fr w none seen' := ⟨_, rfl⟩
theorem jump21 : ∃ seen', M.step (mk t s 21 p h o fr w none seen) = mk t s 35 p h o fr w none seen' := ⟨_, rfl⟩
theorem jump32 : ∃ seen', M.step (mk t s 32 p h o fr w none seen) = mk t s 35 p h o fr w none seen' := ⟨_, rfl⟩
theorem succ35 : ∃ seen', M.step (mk t s 35 p h true fr w none seen) = mk t s 35 p p true fr w (some true) seen' := ⟨_, rfl⟩
theorem assert26 : ∃ seen', M.step (mk t s 26 p p true [fb s 23, f0 s] 2 none seen) = mk t s 29 p p false [fl p, fb s 23, f0 s] 3 none seen' := ⟨_, rfl⟩
theorem assert26' : ∃ seen', M.step (mk t s 26 p h true [fb s 23, f0 s] 2 none seen) = mk t s 29 p p false [fl p, fb s 23, f0 s] 3 none seen' := ⟨_, rfl⟩
/-- the first alternative has failed -/
theorem back11 (pc : Nat) : ∃ seen', M.step (mk t s pc p h o [fb s 11, f0 s] 2 (some false) seen) = mk t s 19 s s true [fb s 18, f0 s] 2 none seen' := ⟨_, rfl⟩
theorem back18 (pc : Nat) : ∃ seen', M.step (mk t s pc p h o [fb s 18, f0 s] 2 (some false) seen) = mk t s 24 s s true [fb s 23, f0 s] 2 none seen' := ⟨_, rfl⟩
theorem look (q pc : Nat) : ∃ seen', M.step (mk t s pc q h o [fl p, fb s 23, f0 s] 3 (some false) seen) = mk t s 32 p h true [fb s 23, f0 s] 2 none seen' := ⟨_, rfl⟩
theorem won (pc k : Nat) : ∃ seen', M.step (mk t s pc p h o [fb s k, f0 s] 2 (some true) seen) = mk t s k s h true [f0 s] 1 (some true) seen' := ⟨_, rfl⟩
theorem won0 (pc : Nat) : ∃ seen', M.step (mk t s pc p h o [f0 s] 1 (some true) seen) = mk t s 10 s h true [] 0 (some true) seen' := ⟨_, rfl⟩
theorem over (pc : Nat) : M.step (mk t s pc p h o [] 0 (some true) seen) = { mk t s pc p h o [] 0 (some true) seen with outcome := some .matched } := rfl
end

theorem runFor_step {m : M} (k : Nat) (h : m.outcome = none) : m.runFor (k + 1) = (M.step m).runFor k := by
  show (if m.outcome.isSome = true then m else (M.step m).runFor k) = _
  rw [h]
  rfl
theorem runFor_over {m : M} (k : Nat) (h : m.outcome.isSome = true) : m.runFor k = m := by
  cases k with
  | zero => rfl
  | succ k => exact if_pos h

/-- what a search has found -/
structure Found (m : M) (s e : Nat) : Prop where
  out : m.outcome = some .matched
  start : m.start = s
  handed : m.handed = e

/-- where a match from s ends -/
def endOf (t : Array Nat) (s : Nat) : Nat := if t.getD s 0 = 13 ∧ s + 1 < t.size ∧ t.getD (s + 1) 0 = 10 then s + 2 else s + 1

theorem found (t : Array Nat) (s : Nat) (seen : Seen) (hs : s < t.size) (hc : t.getD s 0 = 10 ∨ t.getD s 0 = 13) : ∃ k m', k ≤ 40 ∧ (mk t s 10 s s true [f0 s] 1 none seen).runFor k = m' ∧ Found m' s (endOf t s) := by
  unfold endOf
  by_cases h1 : t.getD s 0 = 13 ∧ s + 1 < t.size ∧ t.getD (s + 1) 0 = 10
  · rw [if_pos h1]
    obtain ⟨a1, a2, a3⟩ := h1
    refine ⟨8, _, by decide, rfl, ?_⟩
    obtain ⟨x1, e1⟩ := branch t s s seen
    rw [runFor_step 7 rfl, e1]
    obtain ⟨x2, e2⟩ := lit12_yes t s s s true [fb s 11, f0 s] 2 x1 hs a1
    rw [runFor_step 6 rfl, e2]
    obtain ⟨x3, e3⟩ := lit14_yes t s (s + 1) s true [fb s 11, f0 s] 2 x2 a2 a3
    rw [runFor_step 5 rfl, e3]
    obtain ⟨x4, e4⟩ := jump16 t s (s + 1 + 1) s true [fb s 11, f0 s] 2 x3
    rw [runFor_step 4 rfl, e4]
    obtain ⟨x5, e5⟩ := succ35 t s (s + 1 + 1) s [fb s 11, f0 s] 2 x4
    rw [runFor_step 3 rfl, e5]
    obtain ⟨x6, e6⟩ := won t s (s + 1 + 1) (s + 1 + 1) true x5 35 11
    rw [runFor_step 2 rfl, e6]
    obtain ⟨x7, e7⟩ := won0 t s s (s + 1 + 1) true x6 11
    rw [runFor_step 1 rfl, e7]
    rw [runFor_step 0 rfl, over]
    exact ⟨rfl, rfl, rfl⟩
  · rw [if_neg h1]
    -- the first alternative fails
    have first : ∃ j pc p o sn, j ≤ 3 ∧ (∀ k, (mk t s 10 s s true [f0 s] 1 none seen).runFor (k + j) = (mk t s pc p s o [fb s 11, f0 s] 2 (some false) sn).runFor k) := by
      obtain ⟨x1, e1⟩ := branch t s s seen
      by_cases a1 : t.getD s 0 = 13
      · obtain ⟨x2, e2⟩ := lit12_yes t s s s true [fb s 11, f0 s] 2 x1 hs a1
        have a2 : s + 1 ≥ t.size ∨ t.getD (s + 1) 0 ≠ 10 := by
          by_cases hq : s + 1 < t.size
          · exact .inr fun h => h1 ⟨a1, hq, h⟩
          · exact .inl (by omega)
        obtain ⟨x3, e3⟩ := lit14_no t s (s + 1) s true [fb s 11, f0 s] 2 x2 a2
        refine ⟨3, 14, s + 1, true, x3, Nat.le_refl _, fun k => ?_⟩
        rw [runFor_step (k + 2) rfl, e1, runFor_step (k + 1) rfl, e2, runFor_step k rfl, e3]
      · obtain ⟨x2, e2⟩ := lit12_no t s s s true [fb s 11, f0 s] 2 x1 (.inr a1)
        refine ⟨2, 12, s, true, x2, by decide, fun k => ?_⟩
        rw [runFor_step (k + 1) rfl, e1, runFor_step k rfl, e2]
    obtain ⟨j, pc, p, o, sn, hj, hrun⟩ := first
    obtain ⟨x1, e1⟩ := back11 t s p s o sn pc
    by_cases a1 : t.getD s 0 = 10
    · refine ⟨7 + j, _, by omega, rfl, ?_⟩
      rw [hrun, runFor_step 6 rfl, e1]
      obtain ⟨x2, e2⟩ := lit19_yes t s s s true [fb s 18, f0 s] 2 x1 hs a1
      rw [runFor_step 5 rfl, e2]
      obtain ⟨x4, e4⟩ := jump21 t s (s + 1) s true [fb s 18, f0 s] 2 x2
      rw [runFor_step 4 rfl, e4]
      obtain ⟨x5, e5⟩ := succ35 t s (s + 1) s [fb s 18, f0 s] 2 x4
      rw [runFor_step 3 rfl, e5]
      obtain ⟨x6, e6⟩ := won t s (s + 1) (s + 1) true x5 35 18
      rw [runFor_step 2 rfl, e6]
      obtain ⟨x7, e7⟩ := won0 t s s (s + 1) true x6 18
      rw [runFor_step 1 rfl, e7]
      rw [runFor_step 0 rfl, over]
      exact ⟨rfl, rfl, rfl⟩
    · have a2 : t.getD s 0 = 13 := hc.resolve_left a1
      have a3 : s + 1 ≥ t.size ∨ t.getD (s + 1) 0 ≠ 10 := by
        by_cases hq : s + 1 < t.size
        · exact .inr fun h => h1 ⟨a2, hq, h⟩
        · exact .inl (by omega)
      refine ⟨12 + j, _, by omega, rfl, ?_⟩
      rw [hrun, runFor_step 11 rfl, e1]
      obtain ⟨x2, e2⟩ := lit19_no t s s s true [fb s 18, f0 s] 2 x1 (.inr a1)
      rw [runFor_step 10 rfl, e2]
      obtain ⟨x3, e3⟩ := back18 t s s s true x2 19
      rw [runFor_step 9 rfl, e3]
      obtain ⟨x4, e4⟩ := lit24_yes t s s s true [fb s 23, f0 s] 2 x3 hs a2
      rw [runFor_step 8 rfl, e4]
      obtain ⟨x5, e5⟩ := assert26' t s (s + 1) s x4
      rw [runFor_step 7 rfl, e5]
      obtain ⟨x6, e6⟩ := lit29_no t s (s + 1) (s + 1) false [fl (s + 1), fb s 23, f0 s] 3 x5 a3
      rw [runFor_step 6 rfl, e6]
      obtain ⟨x7, e7⟩ := look t s (s + 1) (s + 1) false x6 (s + 1) 29
      rw [runFor_step 5 rfl, e7]
      obtain ⟨x8, e8⟩ := jump32 t s (s + 1) (s + 1) true [fb s 23, f0 s] 2 x7
      rw [runFor_step 4 rfl, e8]
      obtain ⟨x9, e9⟩ := succ35 t s (s + 1) (s + 1) [fb s 23, f0 s] 2 x8
      rw [runFor_step 3 rfl, e9]
      obtain ⟨y6, e10⟩ := won t s (s + 1) (s + 1) true x9 35 23
      rw [runFor_step 2 rfl, e10]
      obtain ⟨y7, e11⟩ := won0 t s s (s + 1) true y6 23
      rw [runFor_step 1 rfl, e11]
      rw [runFor_step 0 rfl, over]
      exact ⟨rfl, rfl, rfl⟩

/-- the machine ahead of its first try -/
def pre (t : Array Nat) (p : Nat) (seen : Seen) : M :=
  { code := code, text := t, lim := t.size, start := p, lastStart := t.size, wholeText := false, mustAdvance := false, pc := 10, pos := p, handed := p, outermost := true, marks := #[], seen := seen }
theorem forSearch_lt (t : Array Nat) (p : Nat) (hp : p < t.size) : ∃ seen, Sre.forSearch code t 0 p t.size false = (pre t p seen).attemptFrom p true := by
  refine ⟨({} : Seen).add 14, ?_⟩
  have h : (decide (p > t.size) || decide (t.size - p < 1)) = false := by
    rw [decide_eq_false (by omega), decide_eq_false (by omega)]; rfl
  exact if_neg (by rw [show (decide (p > t.size) || decide (t.size - p < (header code).1)) = false from h]; exact Bool.false_ne_true)
theorem forSearch_end (t : Array Nat) : ∃ m, Sre.forSearch code t 0 t.size t.size false = M.say m false ∧ m.outcome = none ∧ m.frames = [] := by
  have h : (decide (t.size > t.size) || decide (t.size - t.size < 1)) = true := by
    rw [decide_eq_true (show t.size - t.size < 1 by omega), Bool.or_true]
  exact ⟨_, if_pos (show (decide (t.size > t.size) || decide (t.size - t.size < (header code).1)) = true from h), rfl, rfl⟩
theorem attemptFrom_eq (t : Array Nat) (p : Nat) (seen : Seen) : (pre t p seen).attemptFrom p true =
    match admitted (pre t p seen) (t.size + 1 - p) p seen with
    | .ok (some s, seen) => { (pre t p seen) with mustAdvance := false, seen }.attemptAt s true
    | .ok (none, seen) => { (pre t p seen) with seen }.say false
    | .error why => (pre t p seen).stick why := rfl

theorem fail_end (m : M) (h : m.outcome = none) (hf : m.frames = []) : ((M.say m false).runFor 1).outcome = some .failed := by
  rw [runFor_step 0 (show (M.say m false).outcome = none from h)]
  show ((M.say m false).step).outcome = some .failed
  have h1 : (M.say m false).outcome = none := h
  have h2 : (M.say m false).frames = [] := hf
  have h3 : (M.say m false).answer = some false := rfl
  unfold M.step
  rw [h1, h2, h3]
  rfl

/-- the search from a place on -/
theorem search (t : Array Nat) (p : Nat) (hp : p ≤ t.size) : ∃ k m', k ≤ 40 ∧ (Sre.forSearch code t 0 p t.size false).runFor k = m' ∧ match firstEnd t t.size (t.size + 1 - p) p with
    | some s => Found m' s (endOf t s)
    | none => m'.outcome = some .failed := by
  by_cases he : p = t.size
  · subst he
    obtain ⟨m, e, h1, h2⟩ := forSearch_end t
    refine ⟨1, _, by decide, rfl, ?_⟩
    rw [e]
    have : firstEnd t t.size (t.size + 1 - t.size) t.size = none := by
      rw [show t.size + 1 - t.size = 1 by omega]
      unfold firstEnd
      rw [if_pos (Nat.le_refl _)]
    rw [this]
    exact fail_end m h1 h2
  · obtain ⟨seen, e⟩ := forSearch_lt t p (by omega)
    obtain ⟨sn, ea⟩ := admitted_eq (pre t p seen) rfl (t.size + 1 - p) p seen
    rw [e, attemptFrom_eq, ea]
    show ∃ k m', k ≤ 40 ∧ _ = m' ∧ match firstEnd t t.size (t.size + 1 - p) p with
      | some s => Found m' s (endOf t s)
      | none => m'.outcome = some .failed
    have hfirst : ∀ f q s, firstEnd t t.size f q = some s → s < t.size ∧ (t.getD s 0 = 10 ∨ t.getD s 0 = 13) := by
      intro f
      induction f with
      | zero => intro q s h; cases h
      | succ f ih =>
        intro q s h
        unfold firstEnd at h
        split at h
        · cases h
        · rename_i hq
          split at h
          · rename_i hb
            cases h
            refine ⟨by omega, ?_⟩
            simpa using hb
          · exact ih _ _ h
    show ∃ k m', k ≤ 40 ∧ runFor k (match (Except.ok (firstEnd t t.size (t.size + 1 - p) p, sn) : Except String (Option Nat × Seen)) with
      | .ok (some s, seen') => { (pre t p seen) with mustAdvance := false, seen := seen' }.attemptAt s true
      | .ok (none, seen') => { (pre t p seen) with seen := seen' }.say false
      | .error why => (pre t p seen).stick why) = m' ∧ _
    cases hr : firstEnd t t.size (t.size + 1 - p) p with
    | none =>
      exact ⟨1, _, by decide, rfl, fail_end _ rfl rfl⟩
    | some s =>
      obtain ⟨h1, h2⟩ := hfirst _ _ _ hr
      exact found t s sn h1 h2
end Rx
end Mine
end

section
open PySem PySem.W PyProof.Rows PySem.Calls PySem.Spec
set_option Elab.async false
set_option maxRecDepth 100000
namespace Mine
namespace Rx
theorem plain_sub : plainId "re.Pattern.sub" = true := by decide +kernel
theorem plain_loop : plainId "re.Pattern.sub.loop" = true := by decide +kernel
theorem entry_sub : entryFor table "re.Pattern.sub" = some Builtin.«re.Pattern.sub» := entryFor_of_fast (by kernel_rfl)
theorem entry_loop : entryFor table "re.Pattern.sub.loop" = some Builtin.«re.Pattern.sub.loop» := entryFor_of_fast (by kernel_rfl)
theorem slot_sub : Slot "re.Pattern" "sub" "re.Pattern.sub" :=
  .of (owner := "re.Pattern") (n := "sub") (by rw [typeLookup_type, builtinLookup_eq_fast]; kernel_rfl) (by decide +kernel) (by decide +kernel) (by decide +kernel)
    (by first | exact .inl (by decide +kernel) | exact .inr (by decide +kernel)) (by rw [isSubtype_type]; kernel_rfl)
theorem args_sub (a b c : Value) : argsOk "re.Pattern.sub" ⟨[a, b, c], []⟩ := by
  unfold argsOk
  kernel_rfl

theorem plainAttrs_pat : PlainAttrs "re.Pattern" :=
  ⟨⟨"object.__getattribute__", by rw [typeLookup_type, builtinLookup_eq_fast]; kernel_rfl, by decide +kernel⟩, by rw [typeLookup_type, builtinLookup_eq_fast]; kernel_rfl⟩
theorem type_sub : typeOf (.builtin "re.Pattern.sub") = pure (.type "method_descriptor") := by show builtinType _ = _; rw [builtinType_eq_fast]; kernel_rfl
theorem no_call_str : typeLookup (.type "str") "__call__" = pure none := by rw [typeLookup_type, builtinLookup_eq_fast]; kernel_rfl

open Builtin.Re Builtin
theorem runFor_add : ∀ (a b : Nat) (m : Sre.M), m.runFor (a + b) = (m.runFor a).runFor b := by
  intro a
  induction a with
  | zero => intro b m; rw [Nat.zero_add]; rfl
  | succ a ih =>
    intro b m
    cases h : m.outcome.isSome with
    | true => rw [runFor_over _ h, runFor_over _ h, runFor_over _ h]
    | false =>
      have h' : m.outcome = none := by simpa using h
      rw [show a + 1 + b = (a + b) + 1 by omega, runFor_step _ h', runFor_step _ h', ih]

section
variable {M : Model} {A : Around} {E : Value → Shared → Prop} {s : Shared}
theorem drive : ∀ (j turns k : Nat) (m : Sre.M) (Q : Sre.M → Shared → Prop), j ≤ turns → k ≤ 4 * j → 0 < j → (m.runFor k).outcome.isSome = true → Q (m.runFor k) s → wpAny M A (reDrive turns m) Q E s := by
  intro j
  induction j with
  | zero => intro turns k m Q _ _ h; exact absurd h (by decide)
  | succ j ih =>
    intro turns k m Q hj hk _ ho hq
    obtain ⟨turns, rfl⟩ : ∃ u, turns = u + 1 := ⟨turns - 1, by omega⟩
    show wpAny M A (if (m.runFor 4).outcome.isSome = true then pure (m.runFor 4) else (do rule "sre.turn"; reDrive turns (m.runFor 4))) Q E s
    cases h4 : (m.runFor 4).outcome.isSome with
    | true =>
      rw [if_pos rfl]
      have : m.runFor k = m.runFor 4 := by
        rcases Nat.le_total k 4 with h | h
        · rw [show 4 = k + (4 - k) by omega, runFor_add, runFor_over _ ho]
        · obtain ⟨i, rfl⟩ : ∃ i, k = 4 + i := ⟨k - 4, by omega⟩
          rw [runFor_add, runFor_over _ h4]
      rw [this] at hq
      exact wpAny_pure hq
    | false =>
      rw [if_neg (by decide)]
      refine wpAny_bind (wpAny_rule ?_)
      have hk4 : 4 < k := by
        rcases Nat.lt_or_ge 4 k with h | h
        · exact h
        · exfalso
          have e : m.runFor 4 = m.runFor k := by
            rw [show 4 = k + (4 - k) by omega, runFor_add, runFor_over _ ho]
          rw [e, ho] at h4
          cases h4
      have e : m.runFor k = (m.runFor 4).runFor (k - 4) := by rw [← runFor_add]; congr 1; omega
      rw [e] at ho hq
      exact ih turns (k - 4) _ Q (by omega) (by omega) (by omega) ho hq

theorem rules_for (m : Sre.M) {Q : PUnit → Shared → Prop} (h : Q ⟨⟩ s) (l : List Nat) :
    wpAny M A (forIn l PUnit.unit fun i (_ : PUnit) => do
      if m.seen.has i = true then do
        rule (Sre.names.getD i "")
        pure (ForInStep.yield PUnit.unit)
      else pure (ForInStep.yield PUnit.unit)) Q E s := by
  refine wpAny_forIn_list _ (fun _ _ s' => s' = s) _ ?_ ?_ l _ rfl
  · rintro i r b s' rfl
    split
    · exact wpAny_bind (wpAny_rule (wpAny_pure rfl))
    · exact wpAny_pure rfl
  · rintro b s' rfl; exact h

theorem run_found {m : Sre.M} {k : Nat} {x y : Nat} {Q : Option Sre.M → Shared → Prop} (hk : k ≤ 40) (hf : Found (m.runFor k) x y) (h : Q (some (m.runFor k)) s) : wpAny M A (reRunToEnd m) Q E s := by
  unfold reRunToEnd
  refine wpAny_bind (drive 10 (2 ^ 64) k m _ (by decide) (by omega) (by decide) (by rw [hf.out]; rfl) ?_)
  refine wpAny_bind (rules_for _ ?_ _)
  simp only [hf.out]
  exact wpAny_pure h
theorem run_failed {m : Sre.M} {k : Nat} {Q : Option Sre.M → Shared → Prop} (hk : k ≤ 40) (hf : (m.runFor k).outcome = some .failed) (h : Q none s) : wpAny M A (reRunToEnd m) Q E s := by
  unfold reRunToEnd
  refine wpAny_bind (drive 10 (2 ^ 64) k m _ (by decide) (by omega) (by decide) (by rw [hf]; rfl) ?_)
  refine wpAny_bind (rules_for _ ?_ _)
  simp only [hf]
  exact wpAny_pure h

/-- the pattern lies at P -/
structure Pat (h : Heap) (P : Addr) : Prop where
  obj : ∃ o pv C t1 t2 t3 cs, h.get? P = some o ∧ o.cls = .type "re.Pattern" ∧ o.dict = none ∧ o.data = .fields #[pv, .int 32 t1, .int 0 t2, .none, .none, .ref C, .int 0 t3] ∧
    (∃ oc n, h.get? C = some oc ∧ oc.data = .seq cs n) ∧ (cs.map reRawOf).map (·.toNat) = code
theorem Pat.kept {h h' : Heap} {P : Addr} (p : Pat h P) (k : Kept h h') : Pat h' P := by
  obtain ⟨o, pv, C, t1, t2, t3, cs, h1, h2, h3, h4, ⟨oc, n, h5, h6⟩, h7⟩ := p.obj
  exact ⟨o, pv, C, t1, t2, t3, cs, k _ _ h1, h2, h3, h4, ⟨oc, n, k _ _ h5, h6⟩, h7⟩

theorem whole {P : Addr} {l : Array Nat} {t : Tok} (p : Pat s.heap P) {Q : ReTarget → Shared → Prop}
    (h : Q { pattern := .ref P, string := .str ⟨l⟩ t, code := code, text := l, kind := 0, groups := 0, pos := 0, lim := l.size } s) :
    wpAny M A (reWholeTarget (.ref P) (.str ⟨l⟩ t)) Q E s := by
  obtain ⟨o, pv, C, t1, t2, t3, cs, h1, h2, h3, h4, ⟨oc, n, h5, h6⟩, h7⟩ := p.obj
  unfold reWholeTarget
  refine wpAny_bind (wpAny_fieldsOf h1 h4 ?_)
  show wpAny M A (reRawItems (.ref C) >>= fun it => pure { pattern := .ref P, string := .str ⟨l⟩ t, code := it.map (·.toNat), text := l, kind := 0, groups := 0, pos := 0, lim := l.size }) Q E s
  refine wpAny_bind ?_
  unfold reRawItems
  refine wpAny_bind (wpAny_seqItems h5 h6 (wpAny_pure (wpAny_pure ?_)))
  show Q { pattern := .ref P, string := .str ⟨l⟩ t, code := (cs.map reRawOf).map (·.toNat), text := l, kind := 0, groups := 0, pos := 0, lim := l.size } s
  rw [h7]
  exact h
end

def subT (l : Array Nat) : Nat → Nat → List Nat
  | 0, _ => []
  | f + 1, p => match firstEnd l l.size (l.size + 1 - p) p with
    | none => (l.extract p l.size).toList
    | some q => (l.extract p q).toList ++ 13 :: 10 :: subT l f (endOf l q)

def joined (pl : List (PySem.Str × Tok)) : List Nat := pl.flatMap (·.1.cps.toList)
theorem joined_app (a b : List (PySem.Str × Tok)) : joined (a ++ b) = joined a ++ joined b := List.flatMap_append
theorem glued_nil (pl : List (PySem.Str × Tok)) : Builtin.Str.glued ⟨#[]⟩ (pl.map (·.1)) = ⟨(joined pl).toArray⟩ := by
  have key : ∀ (r : List PySem.Str) (acc : Array Nat), r.foldl (fun acc p => acc ++ (⟨#[]⟩ : PySem.Str).cps ++ p.cps) acc = acc ++ (r.flatMap (·.cps.toList)).toArray := by
    intro r
    induction r with
    | nil => intro acc; simp
    | cons x r ih =>
      intro acc
      rw [List.foldl_cons, ih]
      apply Array.toList_inj.mp
      simp
  unfold Builtin.Str.glued
  rw [key]
  congr 1
  unfold joined
  cases pl with
  | nil => rfl
  | cons x r =>
    apply Array.toList_inj.mp
    simp [List.flatMap_map]

theorem firstEnd_lt (l : Array Nat) : ∀ f p q, firstEnd l l.size f p = some q → p ≤ q ∧ q < l.size := by
  intro f
  induction f with
  | zero => intro q s h; cases h
  | succ f ih =>
    intro q s h
    unfold firstEnd at h
    split at h
    · cases h
    · rename_i hq
      split at h
      · cases h; omega
      · have := ih _ _ h; omega
theorem endOf_le (l : Array Nat) (q : Nat) (h : q < l.size) : q < endOf l q ∧ endOf l q ≤ l.size := by
  unfold endOf
  by_cases hc : l.getD q 0 = 13 ∧ q + 1 < l.size ∧ l.getD (q + 1) 0 = 10
  · rw [if_pos hc]; omega
  · rw [if_neg hc]; omega

theorem sumLen (pl : List (PySem.Str × Tok)) : ((pl.map (·.1)).map (·.length)).sum = (joined pl).length := by
  induction pl with
  | nil => rfl
  | cons x r ih => simp only [List.map_cons, List.sum_cons, ih, joined, List.flatMap_cons, List.length_append]; rfl

section
variable {prog : Program} {w : World} {A : Around} {R : Result → Shared → Prop}

/-- the end of the work: the pieces joined -/
theorem tail {L : Addr} {l : Array Nat} {s : Shared} {pl : List (PySem.Str × Tok)} {c : Nat} {Q : Fin → Shared → Prop} {E : Value → Shared → Prop} (K : Value → Sem Fin)
    (ho : s.heap.get? L = some { cls := .type "list", dict := none, data := .seq (strValues pl).toArray c, slots := #[] })
    (hw : (joined pl).length + pl.length ≤ 1000000)
    (hR : ∀ tk t', wpAny (model prog w) A (K (.str ⟨(joined pl).toArray⟩ t')) Q E { s with toks := tk }) :
    wpAny (model prog w) A (reSlice l 0 0 0 >>= fun j => seqItems? (.ref L) >>= fun x => if (x.getD #[]).isEmpty = true then pure j >>= K else call (.builtin "str.join") [j, .ref L] >>= K) Q E s := by
  refine wpAny_bind ?_
  show wpAny _ _ (mkStr ⟨l.extract 0 0⟩) _ _ _
  have e0 : l.extract 0 0 = #[] := by simp
  rw [e0]
  refine wpAny_mkStr ?_ (by simp [PySem.Str.length, sizeLine_eq])
  refine wpAny_bind (wpAny_seqItems ho rfl ?_)
  show wpAny _ _ (if ((strValues pl).toArray).isEmpty = true then _ else _) _ _ _
  split
  · rename_i he
    have : pl = [] := by
      cases pl with
      | nil => rfl
      | cons x r => simp [strValues] at he
    subst this
    exact wpAny_bind (wpAny_pure (hR _ _))
  · refine wpAny_bind (SC.join (l := pl) (texts := pl.map (·.1)) ⟨_, ho, rfl, c, rfl⟩ rfl (joinOk_of_weight ?_ (by decide)) fun t' k => ?_)
    · rw [sumLen, List.length_map]; omega
    · have : Txt.join ⟨#[]⟩ (pl.map (·.1)) = ⟨(joined pl).toArray⟩ := glued_nil pl
      rw [this]
      exact hR _ _

theorem exLen (l : Array Nat) (a b : Nat) : ((l.extract a b).toList).length = min b l.size - a := by rw [Array.length_toList, Array.size_extract]
theorem joined_one (x : PySem.Str) (t : Tok) : joined [(x, t)] = x.cps.toList := by simp [joined]
theorem loop {P L : Addr} {hB : Heap} {l : Array Nat} {t u : Tok} (pat : Pat hB P) (hL : hB.get? L = none) (hz : l.size ≤ 100000) :
    ∀ (f start : Nat) (n : Int) (s : Shared) (pl : List (PySem.Str × Tok)) (c : Nat), l.size - start < f → start ≤ l.size → Kept hB s.heap →
      s.heap.get? L = some { cls := .type "list", dict := none, data := .seq (strValues pl).toArray c, slots := #[] } →
      (joined pl).length + pl.length ≤ 4 * start →
      (∀ h' tk t', Kept hB h' → R (.ok (.ret (.str ⟨(joined pl ++ subT l f start).toArray⟩ t'))) { s with heap := h', toks := tk }) →
      codeAny (model prog w) A (.builtin "re.Pattern.sub.loop" ⟨[.ref P, .str ⟨l⟩ t, .str ⟨#[13, 10]⟩ u, rawInt 0, rawInt 0, rawInt n, rawInt start, rawInt start, .bool false, .ref L, .bool false], []⟩) R s := by
  intro f
  induction f with
  | zero => intro start n s pl c h; exact absurd h (Nat.not_lt_zero _)
  | succ f ih =>
    intro start n s pl c hf hs hk ho hw hR
    refine codeAny_builtin entry_loop ?_
    rw [Around.under_plainId plain_loop _]
    show wpAny _ A.in1 (reWholeTarget (.ref P) (.str ⟨l⟩ t) >>= _) _ _ s
    refine wpAny_bind (whole (pat.kept hk) ?_)
    show wpAny _ A.in1 (reRunToEnd (Sre.forSearch code l 0 start l.size false) >>= _) _ _ s
    obtain ⟨k, m', hk40, hm, hfound⟩ := search l start hs
    subst hm
    have hps : (strValues pl).toArray.size = pl.length := by simp [strValues]
    have ho₂ := fun v => Heap.get?_update_self (Obj.mapSeq (·.push v)) ho rfl
    have hk₂ : ∀ {h : Heap} (g : Obj → Obj), Kept hB h → Kept hB (h.update L g) := fun {h} g kk b o e =>
      (Heap.get?_update_other _ _ (fun h : L = b => by rw [h] at hL; rw [hL] at e; cases e)).trans (kk b o e)
    unfold subT at hR
    cases hfe : firstEnd l l.size (l.size + 1 - start) start with
    | none =>
      rw [hfe] at hfound hR
      refine wpAny_bind (run_failed hk40 hfound ?_)
      show wpAny _ A.in1 (if start < l.size then _ else _) _ _ s
      split
      · show wpAny _ A.in1 (mkStr ⟨l.extract start l.size⟩ >>= _) _ _ s
        refine wpAny_bind (wpAny_mkStr ?_ (by show (l.extract start l.size).size ≤ _; rw [Array.size_extract, sizeLine_eq]; omega))
        refine wpAny_bind (wpAny_updateSeq ho rfl ?_ (by rw [hps, sizeLine_eq]; omega) (by rw [Array.size_push, hps, sizeLine_eq]; omega))
        have e1 : (strValues pl).toArray.push (.str ⟨l.extract start l.size⟩ s.toks) = (strValues (pl ++ [(⟨l.extract start l.size⟩, s.toks)])).toArray := by simp [strValues]
        have ho₃ := ho₂ (.str ⟨l.extract start l.size⟩ s.toks)
        refine tail (pl := pl ++ [(⟨l.extract start l.size⟩, s.toks)]) (fun v => ret v) (by rw [← e1]; exact ho₃) ?_ fun tk t' => wpAny_pure ?_
        · have h1 := exLen l start l.size
          rw [joined_app, joined_one, List.length_append, List.length_append, List.length_singleton]
          dsimp only
          omega
        · have := hR (s.heap.update L (Obj.mapSeq (·.push (.str ⟨l.extract start l.size⟩ s.toks)))) tk t' (hk₂ _ hk)
          rw [joined_app, joined_one]
          exact this
      · rename_i hlt
        have hse : start = l.size := by omega
        refine tail (fun v => ret v) ho (by omega) fun tk t' => wpAny_pure ?_
        have := hR s.heap tk t' hk
        rw [hse] at this
        simpa using this
    | some q =>
      rw [hfe] at hfound hR
      obtain ⟨hq1, hq2⟩ := firstEnd_lt l _ _ _ hfe
      obtain ⟨he1, he2⟩ := endOf_le l q hq2
      refine wpAny_bind (run_found hk40 hfound ?_)
      have hst := hfound.start
      have hhd := hfound.handed
      -- the rest of the turn: the sign pair is pushed
      have rest : ∀ (pl' : List (PySem.Str × Tok)) (c' : Nat) (s' : Shared), Kept hB s'.heap →
          s'.heap.get? L = some { cls := .type "list", dict := none, data := .seq (strValues pl').toArray c', slots := #[] } →
          pl'.length ≤ 400001 → (joined pl').length + pl'.length + 3 ≤ 4 * endOf l q → joined pl' = joined pl ++ (l.extract start q).toList →
          s'.gens = s.gens → s'.drawn = s.drawn → s'.os = s.os →
          wpAny (model prog w) A.in1 (updateSeq L (·.push (.str ⟨#[13, 10]⟩ u)) >>= fun _ =>
            again (.builtin "re.Pattern.sub.loop" ⟨[.ref P, .str ⟨l⟩ t, .str ⟨#[13, 10]⟩ u, rawInt 0, rawInt 0, rawInt (n + 1), rawInt (endOf l q), rawInt (endOf l q), .bool false, .ref L, .bool false], []⟩))
            (fun fin s' => match fin with | .done f => R (.ok f) s' | .again c' => c'.quiet = true ∧ codeAny (model prog w) A c' R s') (fun e s' => R (.error e) s') s' := by
        intro pl' c' s' hk' ho' hn' hw' hj' g1 g2 g3
        refine wpAny_bind (wpAny_updateSeq ho' rfl ?_ (by simp only [strValues, List.size_toArray, List.length_map]; rw [sizeLine_eq]; omega) (by simp only [strValues, Array.size_push, List.size_toArray, List.length_map]; rw [sizeLine_eq]; omega))
        refine wpAny_pure ⟨plainId_quiet plain_loop _, ?_⟩
        have e1 : (strValues pl').toArray.push (.str ⟨#[13, 10]⟩ u) = (strValues (pl' ++ [(⟨#[13, 10]⟩, u)])).toArray := by simp [strValues]
        have ho₃ := Heap.get?_update_self (Obj.mapSeq (·.push (.str ⟨#[13, 10]⟩ u))) ho' rfl
        refine ih (endOf l q) (n + 1) _ (pl' ++ [(⟨#[13, 10]⟩, u)]) _ (by omega) he2 (hk₂ _ hk') (by rw [← e1]; exact ho₃) ?_ fun h' tk t' kk => ?_
        · rw [joined_app, joined_one, List.length_append, List.length_append]
          simp only [Array.length_toList, List.length_singleton]
          show (joined pl').length + 2 + (pl'.length + 1) ≤ _
          omega
        · have := hR h' tk t' kk
          rw [joined_app, joined_one, hj', ← g1, ← g2, ← g3] at *
          simpa using this
      have hbf : (endOf l q == q) = false := by simpa using (by omega : endOf l q ≠ q)
      generalize Sre.M.runFor k (Sre.forSearch code l 0 start l.size false) = mm at hst hhd ⊢
      show wpAny _ A.in1 (if start < mm.start then (reSlice l 0 start mm.start >>= fun v => updateSeq L (·.push v) >>= fun _ => pure (Value.str ⟨#[13, 10]⟩ u) >>= fun it => (if (it != Value.none) = true then updateSeq L (·.push it) >>= fun _ => again (.builtin "re.Pattern.sub.loop" ⟨[.ref P, .str ⟨l⟩ t, .str ⟨#[13, 10]⟩ u, rawInt 0, rawInt 0, rawInt (n + 1), rawInt mm.handed, rawInt mm.handed, .bool (mm.handed == mm.start), .ref L, .bool false], []⟩) else again (.builtin "re.Pattern.sub.loop" ⟨[.ref P, .str ⟨l⟩ t, .str ⟨#[13, 10]⟩ u, rawInt 0, rawInt 0, rawInt (n + 1), rawInt mm.handed, rawInt mm.handed, .bool (mm.handed == mm.start), .ref L, .bool false], []⟩)))
        else (pure (Value.str ⟨#[13, 10]⟩ u) >>= fun it => (if (it != Value.none) = true then updateSeq L (·.push it) >>= fun _ => again (.builtin "re.Pattern.sub.loop" ⟨[.ref P, .str ⟨l⟩ t, .str ⟨#[13, 10]⟩ u, rawInt 0, rawInt 0, rawInt (n + 1), rawInt mm.handed, rawInt mm.handed, .bool (mm.handed == mm.start), .ref L, .bool false], []⟩) else again (.builtin "re.Pattern.sub.loop" ⟨[.ref P, .str ⟨l⟩ t, .str ⟨#[13, 10]⟩ u, rawInt 0, rawInt 0, rawInt (n + 1), rawInt mm.handed, rawInt mm.handed, .bool (mm.handed == mm.start), .ref L, .bool false], []⟩)))) _ _ s
      rw [hst, hhd, hbf]
      have hex := exLen l start q
      have hpl : pl.length ≤ 400000 := by omega
      split
      · refine wpAny_bind ?_
        show wpAny _ A.in1 (mkStr ⟨l.extract start q⟩) _ _ s
        refine wpAny_mkStr ?_ (by show (l.extract start q).size ≤ _; rw [Array.size_extract, sizeLine_eq]; omega)
        refine wpAny_bind (wpAny_updateSeq ho rfl ?_ (by rw [hps, sizeLine_eq]; omega) (by rw [Array.size_push, hps, sizeLine_eq]; omega))
        have e1 : (strValues pl).toArray.push (.str ⟨l.extract start q⟩ s.toks) = (strValues (pl ++ [(⟨l.extract start q⟩, s.toks)])).toArray := by simp [strValues]
        have ho₃ := ho₂ (.str ⟨l.extract start q⟩ s.toks)
        refine rest (pl ++ [(⟨l.extract start q⟩, s.toks)]) _ _ (hk₂ _ hk) (by rw [← e1]; exact ho₃) ?_ ?_ ?_ rfl rfl rfl
        · rw [List.length_append, List.length_singleton]; omega
        · rw [joined_app, joined_one, List.length_append, List.length_append, List.length_singleton]; dsimp only; omega
        · rw [joined_app, joined_one]
      · rename_i hge
        have hqs : q = start := by omega
        refine rest pl _ _ hk ho (by omega) (by omega) ?_ rfl rfl rfl
        rw [hqs]; simp
end
end Rx
end Mine
end

section
open PySem PySem.W PyProof.Rows PySem.Calls PySem.Spec
set_option Elab.async false
set_option maxRecDepth 100000
namespace Mine
namespace Rx
open Builtin.Re Builtin
theorem fix_other {c : Nat} (r : List Nat) (h10 : c ≠ 10) (h13 : c ≠ 13) : fixF (c :: r) = c :: fixF r := by
  rw [fixF]
  · rintro r' rfl; exact absurd rfl h13
  · exact h13
  · exact h10
theorem fix_13 {r : List Nat} (h : ∀ q, r ≠ 10 :: q) : fixF (13 :: r) = 13 :: 10 :: fixF r := by
  rw [fixF]
  exact h
/-- the text up to the first end -/
theorem fix_firstEnd (l : List Nat) : ∀ (f p : Nat), l.length + 1 - p ≤ f → p ≤ l.length →
    match firstEnd l.toArray l.toArray.size f p with
    | none => fixF (l.drop p) = l.drop p
    | some q => fixF (l.drop p) = (l.drop p).take (q - p) ++ 13 :: 10 :: fixF (l.drop (endOf l.toArray q)) := by
  intro f
  induction f with
  | zero => intro p h hp; omega
  | succ f ih =>
    intro p h hp
    unfold firstEnd
    by_cases hge : p ≥ l.toArray.size
    · rw [if_pos hge]
      have : l.drop p = [] := List.drop_eq_nil_of_le (by simpa using hge)
      rw [this]
      rfl
    · rw [if_neg hge]
      have hlt : p < l.length := by simpa using hge
      have hd : l.drop p = l[p] :: l.drop (p + 1) := List.drop_eq_getElem_cons hlt
      have hg : l.toArray.getD p 0 = l[p] := by simp [Array.getD, hlt]
      by_cases hb : (l.toArray.getD p 0 == 10 || l.toArray.getD p 0 == 13) = true
      · rw [if_pos hb]
        show fixF (l.drop p) = (l.drop p).take (p - p) ++ 13 :: 10 :: fixF (l.drop (endOf l.toArray p))
        rw [Nat.sub_self, List.take_zero, List.nil_append, hd]
        unfold endOf
        rw [hg] at hb ⊢
        rcases (by simpa using hb : l[p] = 10 ∨ l[p] = 13) with e | e
        · rw [e, if_neg (by simp)]
          rfl
        · rw [e]
          by_cases h2 : p + 1 < l.length ∧ l.toArray.getD (p + 1) 0 = 10
          · rw [if_pos ⟨rfl, by simpa using h2.1, h2.2⟩]
            have hd2 : l.drop (p + 1) = l[p + 1] :: l.drop (p + 2) := List.drop_eq_getElem_cons h2.1
            have hg2 : l.toArray.getD (p + 1) 0 = l[p + 1] := by simp [Array.getD, h2.1]
            rw [hd2, ← hg2, h2.2]
            rfl
          · rw [if_neg (fun x => h2 ⟨by simpa using x.2.1, x.2.2⟩)]
            refine fix_13 fun q hq => h2 ?_
            have h3 : p + 1 < l.length := by
              rcases Nat.lt_or_ge (p + 1) l.length with h | h
              · exact h
              · rw [List.drop_eq_nil_of_le h] at hq; cases hq
            have hd2 : l.drop (p + 1) = l[p + 1] :: l.drop (p + 2) := List.drop_eq_getElem_cons h3
            have hg2 : l.toArray.getD (p + 1) 0 = l[p + 1] := by simp [Array.getD, h3]
            rw [hd2] at hq
            exact ⟨h3, by rw [hg2]; exact (List.cons.inj hq).1⟩
      · rw [if_neg hb]
        have hne : l[p] ≠ 10 ∧ l[p] ≠ 13 := by rw [hg] at hb; simpa using hb
        have := ih (p + 1) (by omega) (by omega)
        have hf : fixF (l.drop p) = l[p] :: fixF (l.drop (p + 1)) := by rw [hd, fix_other _ hne.1 hne.2]
        cases hfe : firstEnd l.toArray l.toArray.size f (p + 1) with
        | none => rw [hfe] at this; dsimp only at this ⊢; rw [hf, this, hd]
        | some q =>
          rw [hfe] at this
          obtain ⟨hq1, _⟩ := firstEnd_lt _ _ _ _ hfe
          dsimp only at this ⊢
          rw [hf, this, hd, show q - p = (q - (p + 1)) + 1 by omega, List.take_succ_cons, List.cons_append]
theorem listEnd (l : List Nat) : ∀ (f p : Nat), l.length + 1 - p ≤ f → p ≤ l.length →
    subT l.toArray f p = fixF (l.drop p) := by
  intro f
  induction f with
  | zero => intro p h hp; omega
  | succ f ih =>
    intro p h hp
    have key := fix_firstEnd l (l.toArray.size + 1 - p) p (by simp) hp
    unfold subT
    cases hfe : firstEnd l.toArray l.toArray.size (l.toArray.size + 1 - p) p with
    | none =>
      rw [hfe] at key
      dsimp only at key ⊢
      rw [key]
      simp [List.take_of_length_le]
    | some q =>
      rw [hfe] at key
      obtain ⟨hq1, hq2⟩ := firstEnd_lt _ _ _ _ hfe
      obtain ⟨he1, he2⟩ := endOf_le _ q hq2
      dsimp only at key ⊢
      have hs : l.toArray.size = l.length := by simp
      rw [key, ih (endOf l.toArray q) (by omega) (by omega)]
      congr 1
      simp [List.extract_eq_drop_take]

section
variable {prog : Program} {w : World} {A : Around} {E : Value → Shared → Prop} {s : Shared} {Q : Value → Shared → Prop}

theorem sub_call {P : Addr} {l : List Nat} {t u : Tok} (pat : Pat s.heap P) (hz : l.length ≤ 100000)
    (hQ : ∀ h' tk t', Kept s.heap h' → Q (.str ⟨(fixF l).toArray⟩ t') { s with heap := h', toks := tk }) :
    wpAny (model prog w) A (call (.builtin "re.Pattern.sub") [.ref P, .str ⟨#[13, 10]⟩ u, .str ⟨l.toArray⟩ t]) Q E s := by
  have hT : s.TypeIs (.ref P) "re.Pattern" := by
    obtain ⟨o, pv, C, t1, t2, t3, cs, h1, h2, h3, h4, _⟩ := pat.obj
    exact ⟨o, h1, h2⟩
  refine wpAny_call (codeAny_call_builtin plain_sub entry_sub (slot_sub.check _ _ _ _ _ _ _ _ hT (args_sub _ _ _) ?_))
  have e1 : reNamed "re.Pattern.sub" "sub" ["repl", "string", "count"] 2 [.str ⟨#[13, 10]⟩ u, .str ⟨l.toArray⟩ t] [] = pure [some (.str ⟨#[13, 10]⟩ u), some (.str ⟨l.toArray⟩ t), none] := rfl
  show wpAny _ _ (reNamed "re.Pattern.sub" "sub" ["repl", "string", "count"] 2 [.str ⟨#[13, 10]⟩ u, .str ⟨l.toArray⟩ t] [] >>= _) _ _ s
  rw [e1]
  refine wpAny_bind (wpAny_pure ?_)
  show wpAny _ _ (pure 0 >>= _) _ _ s
  refine wpAny_bind (wpAny_pure ?_)
  show wpAny _ _ (specialOf (.str ⟨#[13, 10]⟩ u) "__call__" >>= _) _ _ s
  refine wpAny_bind (wpAny_specialOf (typeIs_str _ _ _) no_call_str ?_)
  show wpAny _ _ (asStr? (.str ⟨#[13, 10]⟩ u) >>= _) _ _ s
  refine wpAny_bind ?_
  show wpAny _ _ (pure (some (⟨#[13, 10]⟩ : PySem.Str))) _ _ s
  refine wpAny_pure ?_
  show wpAny _ _ (pure (!(#[13, 10] : Array Nat).contains 92) >>= _) _ _ s
  rw [show (!(#[13, 10] : Array Nat).contains 92) = true by simp]
  refine wpAny_bind (wpAny_pure ?_)
  show wpAny _ _ (pure (Value.str ⟨#[13, 10]⟩ u, (0 : Int)) >>= _) _ _ s
  refine wpAny_bind (wpAny_pure ?_)
  show wpAny _ _ (holding [.str ⟨#[13, 10]⟩ u] (reWholeTarget (.ref P) (.str ⟨l.toArray⟩ t)) >>= _) _ _ s
  refine wpAny_bind (wpAny_holding (whole pat ?_))
  show wpAny _ _ (newList [] >>= fun z => again (.builtin "re.Pattern.sub.loop" ⟨[.ref P, .str ⟨l.toArray⟩ t, .str ⟨#[13, 10]⟩ u, rawInt 0, rawInt 0, rawInt 0, rawInt 0, rawInt 0, .bool false, z, .bool false], []⟩)) _ _ s
  refine wpAny_bind (wpAny_newList ?_ (by decide))
  refine wpAny_pure ⟨plainId_quiet plain_loop _, ?_⟩
  refine loop (hB := s.heap) pat (Heap.get?_none_of_le (Nat.le_refl _)) (by simpa using hz) (l.length + 1) 0 0 _ [] 0 (by simp) (Nat.zero_le _) (Kept.push _ _) (Heap.get?_push_size _ rfl) (by simp [joined]) fun h' tk t' kk => ?_
  rw [listEnd l (l.length + 1) 0 (by omega) (by omega)]
  exact hQ h' tk t' kk
end
end Rx

section
variable {c : FC} {σ : Sig} {d : Nat}
theorem Ev.sub_pat {x : Str} {P : Addr} {e₁ e₂ : Expr} {apos pos pos' : Pos} {l : List Nat} (T : Stat c d) (hg : c.glo x) (h : nsIn c.K mainGlobals x = some (some (.ref P)))
    (hp : ∀ h, c.K.In h → Rx.Pat h P) (h₁ : Ev c σ e₁ (.str [13, 10])) (h₂ : Ev c σ e₂ (.str l)) (hz : l.length ≤ 100000)
    (hs : MethShape c (.Name x pos') "sub" apos [e₁, e₂] pos) (hd : (x == ("__debug__" : Str)) = false := by rfl)
    (q1 : starEach [e₁, e₂] c.env = (false, eval e₁ c.env) :: starEach [e₂] c.env := by rfl) (q2 : ((backTo pos (starEach [e₂] c.env)).any fun x => x.fst) = false := by rfl)
    (q3 : starEach [e₂] c.env = (false, eval e₂ c.env) :: starEach [] c.env := by rfl) :
    Ev c σ (.Call (.Attribute (.Name x pos') "sub" apos) [e₁, e₂] [] pos) (.str (fixF l)) := by
  obtain ⟨pl, he⟩ := hs
  intro m s Q E F R k
  refine MethodCall_ (nameX_K F T.kin T.topRead h ?_ T.kind hg hd) he
  have pat : Rx.Pat s.heap P := hp _ (T.kin.keeps F.keep)
  obtain ⟨o, pv, C, t1, t2, t3, cs, p1, p2, p3, p4, p5⟩ := pat.obj
  refine getMethod_builtin ⟨o, p1, p2⟩ Rx.plainAttrs_pat Rx.slot_sub Rx.type_sub (fun a ha => by cases ha; exact ⟨o, p1, p3⟩) ?_
  refine PyProof.Rows.callWith_method1 ?_ q1 q2
  refine EvL.cons h₁ (EvL.cons h₂ EvL.nil q3) q1 m _ _ E F R fun vs h₃ tk₂ K₂ r₂ => ?_
  simp only [RepL] at r₂
  obtain ⟨v₁, _, rfl, ⟨t₁, rfl⟩, v₂, _, rfl, ⟨t₂, rfl⟩, rfl⟩ := r₂
  refine Rx.sub_call (pat.kept K₂) hz fun h' tk t' kk => k _ h' tk (K₂.trans kk) ⟨t', rfl⟩
end
end Mine
end

section
open PySem PySem.W PyProof.Rows PySem.Calls PySem.Spec
set_option Elab.async false
set_option maxRecDepth 100000
namespace Mine

section
variable {c : FC} {S S₁ : St} {σ : Sig} {d : Nat}

/-- a new list taken as the one that may be turned -/
theorem Ex1.fresh {y : Str} {es : List Expr} {pos pos' pos'' : Pos} {ps : List PV} {σ : Sig} (T : Stat c d) (hl : c.loc y) (h : EvL c σ es pos'' ps) (hy : σ.lookup y = none) (hz : ps.length ≤ sizeLine := by decide)
    (hsw : swapsWith (.List es pos'') (some (.Name y pos')) pos.line c.env = pure false := by rfl) : Ex1 c (σ, none) (.Assign [.Name y pos'] (.List es pos'') pos) (.next (σ, some (y, ps))) := by
  intro m x s Q E F R k
  obtain ⟨rfl, R⟩ := R
  refine wpAny_Assign_Name ?_ hsw
  refine List_ (h m s _ E F R fun vs h' tk k₁ r₁ => ?_)
  refine wpAny_newObj_type ?_ (by show vs.toArray.size ≤ sizeLine; rw [List.size_toArray, r₁.length]; exact hz)
  have F' : Fr c.h₀ c.L (h'.push { cls := .type "list", data := .seq vs.toArray }) m := Fr.kept' (Fr.kept' F k₁) (Kept.push _ _)
  have ho : (h'.push { cls := .type "list", data := .seq vs.toArray }).get? h'.objs.size = some (W.listOf vs.toArray 0) := Heap.get?_push_size _ rfl
  have hLlt : c.L < h'.objs.size := by
    obtain ⟨o, _, _, hoL, _⟩ := (Fr.kept' F k₁).ns
    exact Heap.lt_size hoL
  have hL : h'.objs.size ≠ c.L := fun e => Nat.lt_irrefl _ (e ▸ hLlt)
  have h0 : c.h₀.get? h'.objs.size = none := by
    cases e : c.h₀.get? h'.objs.size with
    | none => rfl
    | some o => exact absurd (Heap.lt_size ((Fr.kept' F k₁).keep _ _ e)) (Nat.lt_irrefl _)
  have hs0 : s.heap.get? h'.objs.size = none := by
    cases e : s.heap.get? h'.objs.size with
    | none => rfl
    | some o => exact absurd (Heap.lt_size (k₁ _ _ e)) (Nat.lt_irrefl _)
  refine wpAny_storeName_local hl F'.ns (fun h₂ hn' hs => ?_) (by show (c.cs.kind == .class || (c.cs.kind == .module && c.L != mainGlobals)) = false; rw [T.kind]; rfl)
  have kb : KeptBut c.L none s.heap h₂ := fun b o hb _ e => (hs.2 b hb).trans (Heap.get?_push_of_some _ (k₁ b o e))
  have kb' : KeptBut c.L none h' h₂ := fun b o hb _ e => (hs.2 b hb).trans (Heap.get?_push_of_some _ e)
  have sk' : SeqKept none h' h₂ := seqKept_of (Fr.kept' F k₁).ns kb'
  have O : XOk none (some h'.objs.size) h' := fun a e => by
    cases e
    exact .inr (Heap.get?_none_of_le (Nat.le_refl _))
  refine k .next _ (some h'.objs.size) h₂ _ (F'.set hn' hs) kb ?_ ⟨rfl, h'.objs.size, vs, 0, rfl, by simp, (hs.2 _ hL).trans ho, h0, hL, r₁.move sk' O, ?_⟩
  · intro a e
    cases e
    exact .inr hs0
  · intro z p hz
    obtain ⟨v, hv, hr⟩ := R z p hz
    refine ⟨v, ?_, (hr.mono k₁.seq).move sk' O⟩
    have : z ≠ y := by
      rintro rfl
      rw [hy] at hz
      cases hz
    simp [this, hv]

/-- an item put behind -/
theorem Ex1.append {y : Str} {e : Expr} {apos npos pos pos' : Pos} {ps : List PV} {p : PV} (T : Stat c d) (hl : c.loc y) (h : Ev c (St.full (σ, some (y, ps))) e p) (hf : p.flat = true)
    (hs : MethShape c (.Name y npos) "append" apos [e] pos') (hlen : ps.length ≤ sizeLine) (hd : (y == ("__debug__" : Str)) = false := by rfl)
    (hi : interactive c.env = false := by rfl) (hsw : swapsWith (.Call (.Attribute (.Name y npos) "append" apos) [e] [] pos') none pos.line c.env = pure false := by rfl)
    (q1 : starEach [e] c.env = (false, eval e c.env) :: starEach [] c.env := by rfl) (q2 : ((backTo pos' (starEach [] c.env)).any fun x => x.fst) = false := by rfl) :
    Ex1 c (σ, some (y, ps)) (.Expr (.Call (.Attribute (.Name y npos) "append" apos) [e] [] pos') pos) (.next (σ, some (y, ps ++ [p]))) := by
  obtain ⟨pl, he⟩ := hs
  intro m x s Q E F R k
  have Rf := R.full
  obtain ⟨a, vs, n, rfl, hm, ha, h0, hL, rl, re⟩ := R
  refine wpAny_Expr ?_ hi hsw
  refine MethodCall_ (nameX_L F hm ?_ T.kind hl hd) he
  refine Calls.getMethod_list_append ha rfl rfl ?_
  refine PyProof.Rows.callWith_method1 ?_ q1 q2
  refine EvL.cons h EvL.nil q1 m _ _ E F Rf fun ws h' tk k₁ r₁ => ?_
  simp only [RepL] at r₁
  obtain ⟨v, _, rfl, r, rfl⟩ := r₁
  refine PyProof.Rows.append_at (k₁ _ _ ha) (fun h₂ hs ho => ?_) (by rw [List.size_toArray, rl.length]; exact hlen)
  have kb : KeptBut c.L (some a) s.heap h₂ := fun b o _ hb e => (hs.2 b (fun q => hb (by rw [q]))).trans (k₁ b o e)
  have sk : SeqKept (some a) s.heap h₂ := fun b o _ _ hb _ e => (hs.2 b (fun q => hb (by rw [q]))).trans (k₁ b o e)
  have sk' : SeqKept (some a) h' h₂ := fun b o _ _ hb _ e => (hs.2 b (fun q => hb (by rw [q]))).trans e
  have e1 : vs.toArray.push v = (vs ++ [v]).toArray := by simp
  refine k .next m (some a) h₂ tk (Fr.change (Fr.kept' F k₁) hs hL h0) kb XOk.refl ⟨rfl, a, vs ++ [v], n + 1, rfl, hm, by rw [← e1]; exact ho, h0, hL, ?_, re.mono sk⟩
  refine RepL.append (rl.mono sk) ?_
  unfold RepL
  exact ⟨v, [], rfl, (r.away ⟨_, k₁ _ _ ha, rfl, n, rfl⟩ hf).mono sk', rfl⟩
end
end Mine
end

section
open PySem PySem.W PyProof.Rows PySem.Calls PySem.Spec
set_option Elab.async false
set_option maxRecDepth 100000
namespace Mine

section
variable {c : FC} {S S₁ : St} {σ : Sig} {d : Nat}

/-- a value within a comprehension's block -/
def EvC (c : FC) (scope : Scope) (cl : List (Str × Addr)) (σ : Sig) (x : Str) (p : PV) (e : Expr) (q : PV) : Prop :=
  ∀ (C : Addr) (m m₂ : Str → Option Value) (v : Value) (s : Shared) (Q E : Value → Shared → Prop), Fr c.h₀ c.L s.heap m → EnvR none s.heap σ m → s.heap.Ns C m₂ → m₂ x = some v → Rep none s.heap p v →
    (∀ v' h' tk, Kept s.heap h' → Rep none h' q v' → Q v' { s with heap := h', toks := tk }) → wpAny c.M c.A (eval e (compEnvC scope cl C c.env)) Q E s

variable {scope : Scope} {cl : List (Str × Addr)} {x : Str} {p q : PV}
theorem EvC.var {pos : Pos} (hk : scope.kind = .function) (hx : (relabel scope c.env).names.lookup x = some .local) (hd : (x == ("__debug__" : Str)) = false := by rfl) : EvC c scope cl σ x p (.Name x pos) p := by
  intro C m m₂ v s Q E F R N hm r k
  refine wpAny_Name (wpAny_loadName_local (env := compEnvC scope cl C c.env) (by exact hk) hx N hm (k v s.heap s.toks (Kept.refl _) r)) hd
theorem EvC.int {i : Int} {n : Nat} {pos : Pos} : EvC c scope cl σ x p (.Constant (.int i) n pos) (.int i) := by
  intro C m m₂ v s Q E F R N hm r k
  exact wpAny_Constant_int (k _ s.heap _ (Kept.refl _) ⟨_, rfl⟩)
theorem EvC.binop {l r : Expr} {op : Operator} {pos : Pos} {p₁ p₂ q : PV} (h₁ : EvC c scope cl σ x p l p₁) (h₂ : EvC c scope cl σ x p r p₂) (ho : Op2 c (binaryOp op) p₁ p₂ q) : EvC c scope cl σ x p (.BinOp l op r pos) q := by
  intro C m m₂ v s Q E F R N hm r k
  refine wpAny_BinOp (h₁ C m m₂ v s _ E F R N hm r fun v₁ h' tk k₁ r₁ => ?_)
  refine h₂ C m m₂ v _ _ E (Fr.kept' F k₁) (R.mono k₁.seq) (N.keeps k₁) hm (r.mono k₁.seq) fun v₂ h'' tk' k₂ r₂ => ?_
  exact ho m _ _ E v₁ v₂ (Fr.kept' (Fr.kept' F k₁) k₂) (r₁.mono k₂.seq) r₂ fun v h₃ tk₃ k₃ r₃ => k v h₃ tk₃ ((k₁.trans k₂).trans k₃) r₃
/-- one argument given to a function of the program -/
theorem EvC.call_d {f : Str} {a : Addr} {e : Expr} {pos pos' : Pos} {p₁ q : PV} (T : Stat c d) (hb : IsD c f a) (hk : scope.kind = .function) (hf : (relabel scope c.env).names.lookup f = some .globalImplicit)
    (h₁ : EvC c scope cl σ x p e p₁) (ho : FnOk c a [p₁] q)
    (q1 : ∀ C, starEach [e] (compEnvC scope cl C c.env) = (false, eval e (compEnvC scope cl C c.env)) :: starEach [] (compEnvC scope cl C c.env) := by intro _; rfl)
    (q2 : ∀ C, ((backTo pos (starEach [] (compEnvC scope cl C c.env))).any fun x => x.fst) = false := by intro _; rfl) : EvC c scope cl σ x p (.Call (.Name f pos') [e] [] pos) q := by
  intro C m m₂ v s Q E F R N hm r k
  refine Call_ ?_
  refine Name_function_global (env := compEnvC scope cl C c.env) (by exact hk) hf (loadGlobal_global (env := compEnvC scope cl C c.env) (T.topRead.g.keeps F.keep) (mg_of T.kin T.topRead.g hb.is) ?_) hb.n2
  refine callWith_K T.kin hb.keep ?_ (q1 C) (q2 C)
  refine spliced_more (h₁ C m m₂ v s _ E F R N hm r fun v₁ h' tk k₁ r₁ => ?_) (q1 C)
  refine spliced_none ?_
  refine ⟨T.kin.keeps (Fr.kept' F k₁).keep, ?_⟩
  refine ho m _ _ E [v₁] (Fr.kept' F k₁) (by unfold RepL; exact ⟨v₁, [], rfl, r₁, rfl⟩) fun v₃ h₃ tk₃ K₃ r₃ => k v₃ h₃ tk₃ (k₁.trans K₃) r₃

theorem EvC.cast {e : Expr} {q q' : PV} (h : EvC c scope cl σ x p e q) (e' : q = q') : EvC c scope cl σ x p e q' := e' ▸ h

theorem flat_get : ∀ {l : List PV} {i : Nat} {q : PV}, PV.flatL l = true → l[i]? = some q → q.flat = true
  | [], _, _, _, e => by simp at e
  | p :: l, 0, q, h, e => by
    unfold PV.flatL at h
    simp at e
    subst e
    exact (Bool.and_eq_true_iff.mp h).1
  | p :: l, i + 1, q, h, e => by
    unfold PV.flatL at h
    exact flat_get (Bool.and_eq_true_iff.mp h).2 (by simpa using e)

/-- the loop -/
theorem compLoop_pv {elt iter : Expr} {px : Pos} {pos : Pos} {s₀ : Shared} {I D C : Addr} {fp wr : List Addr} {n : Nat} {P : Nat → Value → Prop} {Sw : Nat → Heap → Prop} {qs : List PV} {hB : Heap} {m : Str → Option Value} {R : Result → Shared → Prop}
    (W : Walks c.prog c.w c.A I fp wr n P Sw) (hn : qs.length = n) (hsz : n ≤ sizeLine) (hf : PV.flatL qs = true)
    (hx : (relabel scope c.env).names.lookup x = some .local) (hk : scope.kind = .function)
    (hwr : ∀ i h, Sw i h → ∀ b ∈ wr, ∀ o, h.get? b = some o → ∀ vs n, o.data ≠ .seq vs n)
    (hDC : D ≠ C) (hDf : D ∉ fp) (hCf : C ∉ fp) (hB0 : ∀ b o, hB.get? b = some o → b ≠ C ∧ b ≠ D ∧ b ∉ wr)
    (helt : ∀ i v q s Q E m₂, P i v → qs[i]? = some q → s.heap.Ns C m₂ → m₂ x = some v → Kept hB s.heap →
      (∀ v' h' tk, Kept s.heap h' → Rep none h' q v' → Q v' { s with heap := h', toks := tk }) → wpAny c.M c.A (eval elt (compEnvC scope cl C c.env)) Q E s)
    (h0 : Sw 0 s₀.heap) (hacc : s₀.heap.PlainList D #[]) (hns : s₀.heap.Ns C m) (hKB : Kept hB s₀.heap)
    (hR : ∀ h' tk m' ys, h'.Ns C m' → h'.PlainList D ys.toArray → RepL (some D) h' qs ys → (∀ b o, b ≠ C → b ≠ D → b ∉ wr → s₀.heap.get? b = some o → h'.get? b = some o) → R (.ok .next) { s₀ with heap := h', toks := tk }) :
    codeAny c.M c.A (.compLoop (.ListComp elt [⟨.Name x px, iter, [], 0⟩] scope pos) 0 (.ref I) (.ref D) (compEnvC scope cl C c.env)) R s₀ := by
  have hCw : C ∉ wr := fun h => hCf (W.sub _ h)
  have hDw : D ∉ wr := mt (W.sub D) hDf
  refine codeAny_compLoop_tests
    (fun k s' => ∃ h' tk m' ys i, s' = { s₀ with heap := h', toks := tk } ∧ Sw i h' ∧ h'.PlainList D ys.toArray ∧ h'.Ns C m' ∧ RepL (some D) h' (qs.take i) ys ∧ i ≤ n ∧ k = n + 1 - i ∧
      ∀ b o, b ≠ C → b ≠ D → b ∉ wr → s₀.heap.get? b = some o → h'.get? b = some o) ?_ (n + 1)
    ⟨s₀.heap, s₀.toks, m, [], 0, rfl, h0, hacc, hns, by simp [RepL], Nat.zero_le _, rfl, fun _ _ _ _ _ e => e⟩
  rintro k s' ⟨H, tk, m', ys, i, rfl, hst, hacc', hn', hRep, hi, rfl, hkp⟩
  by_cases hlt : i < n
  · refine W.item i _ _ _ hlt hst fun v h₁ tk₁ hP hst₁ hk₁ => ?_
    refine wpAny_assign_Name (wpAny_storeName_local (env := compEnvC scope cl C c.env) hx (hn'.at' fun o e => hk₁ _ o hCw e) (fun h₂ hn₂ hs₂ => ?_) (by show ((relabel scope c.env).kind == .class || ((relabel scope c.env).kind == .module && _)) = false; show (scope.kind == .class || (scope.kind == .module && _)) = false; rw [hk]; rfl))
    refine wpAny_tests_nil ?_
    rw [if_pos rfl]
    obtain ⟨q, hq⟩ : ∃ q, qs[i]? = some q := ⟨qs[i]'(by omega), by simp⟩
    have up₂ : ∀ b o, b ≠ C → b ∉ wr → H.get? b = some o → h₂.get? b = some o := fun b o hbC hbf e => hs₂.extBut b o hbC (hk₁ b o hbf e)
    have kB : Kept hB h₂ := fun b o e => by
      obtain ⟨b1, b2, b3⟩ := hB0 b o e
      exact up₂ b o b1 b3 (hkp b o b1 b2 b3 (hKB b o e))
    refine helt i v q _ _ _ _ hP hq hn₂ (by simp) kB fun y h₃ tk₃ k₃ r₃ => ?_
    have hacc₃ : h₃.PlainList D ys.toArray := hacc'.at fun o e => k₃ _ o (up₂ D o hDC hDw e)
    have hyl : ys.length ≤ sizeLine := by rw [hRep.length, List.length_take]; omega
    refine wpAny_list_append_plain (hsz := by simpa using hyl) hacc₃ fun h₅ hl₅ hs₅ => ?_
    have hst₂ : Sw (i + 1) h₂ := W.frame _ _ _ hst₁ fun b hb o e => hs₂.extBut b o (fun h : b = C => hCf (by rw [← h]; exact hb)) e
    have hst₅ : Sw (i + 1) h₅ := W.frame _ _ h₅ hst₂ fun b hb o e => hs₅.extBut b o (fun h : b = D => hDf (by rw [← h]; exact hb)) (k₃ b o e)
    have up₅ : ∀ b o, b ≠ C → b ≠ D → b ∉ wr → H.get? b = some o → h₅.get? b = some o := fun b o h1 h2 h3 e => hs₅.extBut b o h2 (k₃ b o (up₂ b o h1 h3 e))
    have sk : SeqKept (some D) H h₅ := by
      intro b o vs' n' hbD hd ho
      refine up₅ b o ?_ (fun e => hbD (by rw [e])) ?_ ho
      · rintro rfl
        obtain ⟨o', es, ep, ho', hd', _⟩ := hn'
        rw [ho] at ho'
        cases ho'
        rw [hd] at hd'
        cases hd'
      · intro hbw
        exact hwr i H hst b hbw o ho vs' n' hd
    refine ⟨n + 1 - (i + 1), by omega, h₅, tk₃, _, ys ++ [y], i + 1, rfl, hst₅, by simpa using hl₅, (hn₂.keeps k₃).sameBut hs₅ (Ne.symm hDC), ?_, hlt, rfl, fun b o h1 h2 h3 e => up₅ b o h1 h2 h3 (hkp b o h1 h2 h3 e)⟩
    rw [List.take_add_one, hq]
    refine RepL.append (hRep.mono sk) ?_
    unfold RepL
    refine ⟨y, [], rfl, ?_, rfl⟩
    have hfq : q.flat = true := flat_get hf hq
    refine (r₃.away hacc₃.isList hfq).mono fun b o _ _ hbD _ e => hs₅.extBut b o (fun e => hbD (by rw [e])) e
  · have hin : i = n := by omega
    subst hin
    refine W.done _ _ _ hst fun h₁ tk₁ hk₁ => ?_
    have sk : SeqKept (some D) H h₁ := by
      intro b o vs' n' hbD hd ho
      exact hk₁ b o (fun hbw => hwr i H hst b hbw o ho vs' n' hd) ho
    rw [List.take_of_length_le (by omega)] at hRep
    exact hR h₁ tk₁ m' ys (hn'.at' fun o e => hk₁ _ o hCw e) (hacc'.at fun o e => hk₁ _ o hDw e) (hRep.mono sk) fun b o h1 h2 h3 e => hk₁ b o h3 (hkp b o h1 h2 h3 e)

/-- the block with its names and its list -/
theorem comp_block_pv {elt iter : Expr} {px : Pos} {pos : Pos} {s₂ : Shared} {I : Addr} {fp wr : List Addr} {n : Nat} {P : Nat → Value → Prop} {Sw : Nat → Heap → Prop} {qs : List PV} {hB : Heap} {RR : Value → Addr → Result → Shared → Prop} {E : Value → Shared → Prop}
    (W : Walks c.prog c.w c.A I fp wr n P Sw) (hn : qs.length = n) (hsz : n ≤ sizeLine) (hf : PV.flatL qs = true) (hcell : ∀ y ∈ scope.names, y.2 ≠ .cell)
    (hx : (relabel scope c.env).names.lookup x = some .local) (hk : scope.kind = .function)
    (hwr : ∀ i h, Sw i h → ∀ b ∈ wr, ∀ o, h.get? b = some o → ∀ vs n, o.data ≠ .seq vs n)
    (hB0 : ∀ b o, hB.get? b = some o → b ∉ wr) (hKB : Kept hB s₂.heap) (hfp : ∀ b ∈ fp, b < s₂.heap.objs.size)
    (helt : ∀ C i v q s Q E m₂, P i v → qs[i]? = some q → s.heap.Ns C m₂ → m₂ x = some v → Kept hB s.heap →
      (∀ v' h' tk, Kept s.heap h' → Rep none h' q v' → Q v' { s with heap := h', toks := tk }) → wpAny c.M c.A (eval elt (compEnvC scope cl C c.env)) Q E s)
    (h0 : Sw 0 s₂.heap)
    (hR : ∀ D C h' tk m' ys, s₂.heap.get? D = none → s₂.heap.get? C = none → D ≠ C → h'.Ns C m' → h'.PlainList D ys.toArray → RepL (some D) h' qs ys → (∀ b o, b ∉ wr → s₂.heap.get? b = some o → h'.get? b = some o) → RR (.ref D) C (.ok .next) { s₂ with heap := h', toks := tk }) :
    wpAny c.M c.A (newList []) (fun acc s₃ => wpAny c.M c.A (newFunctionEnv scope c.env.globals cl [] c.env.qual none .none (some c.env)) (fun cenv s₄ =>
      codeAny c.M c.A (.compStart (.ListComp elt [⟨.Name x px, iter, [], 0⟩] scope pos) 0 (.ref I) acc { cenv with scope := relabel scope c.env }) (RR acc cenv.locals) s₄) E s₃) E s₂ := by
  have lt_of : ∀ {b : Addr} {o : Obj}, s₂.heap.get? b = some o → b < s₂.heap.objs.size := fun e => Heap.lt_size e
  have gone : ∀ {b : Addr}, s₂.heap.objs.size ≤ b → s₂.heap.get? b = none := fun hb => Heap.get?_none_of_le hb
  refine wpAny_newObj_type (wpAny_newFunctionEnv hcell (by intro _ h; simp at h) ?_ hk)
  intro h₁ table same
  -- the list lies at the old heap's end, the block's table behind it
  obtain ⟨G, hG⟩ : ∃ G : Heap, G = s₂.heap.push { cls := .type "list", dict := none, data := .seq ([] : List Value).toArray } := ⟨_, rfl⟩
  dsimp only at table same ⊢
  rw [← hG] at table same ⊢
  have size : G.objs.size = s₂.heap.objs.size + 1 := by rw [hG, Heap.size_push]
  have apart : s₂.heap.objs.size ≠ G.objs.size := by omega
  have newer : ∀ {b : Nat}, b < s₂.heap.objs.size → b ≠ G.objs.size ∧ b ≠ s₂.heap.objs.size := by omega
  have grow : Kept s₂.heap h₁ := by
    intro b o e
    refine same.extBut b o (newer (lt_of e)).1 (Heap.get?_push_of_some _ ?_)
    rw [hG]
    exact Kept.push _ _ b o e
  have list₁ : h₁.PlainList s₂.heap.objs.size #[] := by
    refine ⟨0, same.extBut _ _ apart (Heap.get?_push_of_some _ ?_)⟩
    rw [hG]
    exact Heap.get?_push_size _ rfl
  have notD : s₂.heap.objs.size ∉ fp := fun hm => (newer (hfp _ hm)).2 rfl
  have notC : G.objs.size ∉ fp := fun hm => (newer (hfp _ hm)).1 rfl
  have away : ∀ {b : Addr} {o : Obj}, s₂.heap.get? b = some o → b ≠ G.objs.size ∧ b ≠ s₂.heap.objs.size := fun e => newer (lt_of e)
  have start : Sw 0 h₁ := W.frame 0 _ _ h0 fun b _ o e => grow b o e
  have body : codeAny c.M c.A (.compLoop (.ListComp elt [⟨.Name x px, iter, [], 0⟩] scope pos) 0 (.ref I) (.ref s₂.heap.objs.size) (compEnvC scope cl G.objs.size c.env))
      (RR (.ref s₂.heap.objs.size) G.objs.size) { s₂ with heap := h₁, toks := s₂.toks + ([] : List (Str × Value)).length } := by
    refine compLoop_pv (hB := hB) W hn hsz hf hx hk hwr apart notD notC (fun b o e => ?_) (fun i v q s Q E m₂ => helt _ i v q s Q E m₂) start list₁ table (hKB.trans grow) ?_
    · obtain ⟨n1, n2⟩ := away (hKB b o e)
      exact ⟨n1, n2, hB0 b o e⟩
    · intro h' tk m' ys t1 t2 t3 t4
      refine hR _ _ h' tk m' ys (gone (Nat.le_refl _)) (gone (by omega)) apart t1 t2 t3 fun b o hbw e => ?_
      obtain ⟨n1, n2⟩ := away e
      exact t4 b o n1 n2 hbw (grow b o e)
  exact codeAny_compStart_list body (W.self 0 _ _ _ start body)

theorem list_fp {h : Heap} {ax : Addr} (hax : ax < h.objs.size) {o : Obj} : ∀ b ∈ [h.objs.size, ax], b < (h.push o).objs.size := by
  intro b hb
  rw [Heap.size_push]
  rcases List.mem_cons.mp hb with rfl | hb
  · exact Nat.lt_succ_self _
  · rcases List.mem_cons.mp hb with rfl | hb
    · exact Nat.lt_succ_of_lt hax
    · cases hb

theorem listIter_wr {I ax : Addr} {items : Array Value} : ∀ i (h : Heap), (h.IsListIter I ax i ∧ h.IsList ax items) → ∀ b ∈ [I], ∀ o, h.get? b = some o → ∀ vs n, o.data ≠ .seq vs n := by
  rintro i h ⟨hi, _⟩ b hb
  rw [List.mem_singleton] at hb
  subst hb
  exact noSeqIter hi

/-- a list display by a comprehension over a list -/
theorem Ev.comp {elt iter : Expr} {px pos : Pos} {ps qs : List PV} (hi : Ev c σ iter (.list ps)) (he : ∀ (i : Nat) p q, ps[i]? = some p → qs[i]? = some q → EvC c scope cl σ x p elt q)
    (hlen : qs.length = ps.length) (hf : PV.flatL qs = true) (hz : ps.length ≤ sizeLine) (hh : c.A.handled = none := by rfl)
    (hclos : closureFor scope c.env = pure cl := by rfl) (hcell : ∀ y ∈ scope.names, y.2 ≠ .cell := by decide) (hk : scope.kind = .function := by rfl)
    (hnames : ∀ y ∈ scope.names, y.2 = .local → scope.names.lookup y.1 = some .local := by decide) (hx : (relabel scope c.env).names.lookup x = some .local := by rfl)
    (hs : ∀ v, foldedSetIterable iter c.env v = pure v := by intro _; rfl) :
    Ev c σ (.ListComp elt [⟨.Name x px, iter, [], 0⟩] scope pos) (.list qs) := by
  intro m s Q E F R k

  rw [eval_ListComp]
  refine wpAny_comprehension_free (use := none) rfl hs hclos hk hnames (hi m s _ E F R fun v h₁ tk K r => ?_)
  unfold Rep at r
  obtain ⟨ax, vs, rfl, _, hl, rl⟩ := r
  have hax : ax < h₁.objs.size := by obtain ⟨_, e, _⟩ := hl; exact Heap.lt_size e
  refine wpAny_pyIter_list hl ?_
  have hvl := rl.length
  refine comp_block_pv (hB := h₁) (RR := fun acc C => compPost c.M c.A E none Q acc C) (Walks.list hh _ _ (Nat.ne_of_lt hax) vs.toArray) (by simp; omega) (by simp; omega) hf hcell hx hk listIter_wr
    (fun b o e hm => by rw [List.mem_singleton] at hm; subst hm; exact Nat.lt_irrefl _ (Heap.lt_size e)) (Kept.push _ _) (list_fp hax) ?_ ⟨⟨_, Heap.get?_push_size _ rfl, rfl, rfl⟩, hl.push _⟩ ?_
  · intro C i v q s₂ Q₂ E₂ m₂ hP hq N hm K₂ k₂
    obtain ⟨p, hp⟩ : ∃ p, ps[i]? = some p := ⟨ps[i]'(by have := (List.getElem?_eq_some_iff.mp hq).1; omega), by simp⟩
    obtain ⟨v', hv', r'⟩ := rl.get hp
    have : v' = v := by
      have : vs[i]? = some v := by simpa using hP
      rw [hv'] at this
      exact Option.some.inj this
    subst this
    exact he i p q hp hq C m m₂ v' s₂ Q₂ E₂ (Fr.kept' (Fr.kept' F K) K₂) ((R.mono K.seq).mono K₂.seq) N hm (r'.mono K₂.seq) k₂
  · intro D C h' tk' m' ys hD hC hDC hN hP hr hkp
    have kk : Kept h₁ h' := fun b o e => hkp b o (fun hm => by rw [List.mem_singleton] at hm; subst hm; exact Nat.lt_irrefl _ (Heap.lt_size e)) (Heap.get?_push_of_some _ e)
    refine ⟨m', hN, fun h'' hs'' => ?_⟩
    have kk2 : Kept h₁ h'' := fun b o e => hs''.extBut b o (by rintro rfl; rw [Heap.get?_push_of_some _ e] at hC; cases hC) (kk b o e)
    refine k _ h'' tk' (K.trans kk2) ?_
    unfold Rep
    refine ⟨D, ys, rfl, by simp, (hP.isList).extBut hs''.extBut hDC, (hr.mono ?_).weak⟩
    intro b o vs' n' hb hd ho
    refine hs''.extBut b o ?_ ho
    rintro rfl
    obtain ⟨o', es, ep, ho', hd', _⟩ := hN
    rw [ho] at ho'
    cases ho'
    rw [hd] at hd'
    cases hd'

set_option maxHeartbeats 1000000 in
/-- a name given such a list -/
theorem Ex1.assign_comp {y : Str} {elt iter : Expr} {px py pos spos : Pos} {ps qs : List PV} (T : Stat c d) (hl : c.loc y) (hi : Ev c σ iter (.list ps)) (he : ∀ (i : Nat) p q, ps[i]? = some p → qs[i]? = some q → EvC c scope cl σ x p elt q)
    (hlen : qs.length = ps.length) (hf : PV.flatL qs = true) (hz : ps.length ≤ sizeLine) (hh : c.A.handled = none := by rfl)
    (hsw : swapsWith (.ListComp elt [⟨.Name x px, iter, [], 0⟩] scope pos) (some (.Name y py)) spos.line c.env = pure true := by rfl)
    (hclos : closureFor scope c.env = pure cl := by rfl) (hcell : ∀ y ∈ scope.names, y.2 ≠ .cell := by decide) (hk : scope.kind = .function := by rfl)
    (hnames : ∀ y ∈ scope.names, y.2 = .local → scope.names.lookup y.1 = some .local := by decide) (hx : (relabel scope c.env).names.lookup x = some .local := by rfl)
    (hs : ∀ v, foldedSetIterable iter c.env v = pure v := by intro _; rfl) :
    Ex1 c (σ, none) (.Assign [.Name y py] (.ListComp elt [⟨.Name x px, iter, [], 0⟩] scope pos) spos) (.next ((y, .list qs) :: σ, none)) := by
  intro m xx s Q E F R k
  obtain ⟨rfl, R⟩ := R
  rw [exec_Assign_Name_used _ _ _ _ hsw]
  refine wpAny_bind (wpAny_standAt (wpAny_bind ?_))
  show wpAny _ c.A (do let _ ← comprehension (.ListComp elt [⟨.Name x px, iter, [], 0⟩] scope pos) scope c.env _ (newList []) false (eval iter c.env) (some (PySem.assign (.Name y py) c.env))) _ _ s

  refine wpAny_bind (wpAny_mono (wpAny_comprehension_free (use := some (PySem.assign (.Name y py) c.env)) (Q := fun _ s' => Q .next s') rfl hs hclos hk hnames
    (hi m s _ E F R fun v h₁ tk K r => ?_)) (fun _ s' hq => wpAny_pure (wpAny_pure hq)) fun _ _ e => e)
  unfold Rep at r
  obtain ⟨ax, vs, rfl, _, hl', rl⟩ := r
  have hax : ax < h₁.objs.size := by obtain ⟨_, e, _⟩ := hl'; exact Heap.lt_size e
  refine wpAny_pyIter_list hl' ?_
  have hvl := rl.length
  refine comp_block_pv (hB := h₁) (RR := fun acc C => compPost c.M c.A E (some (PySem.assign (.Name y py) c.env)) (fun _ s' => Q .next s') acc C) (Walks.list hh _ _ (Nat.ne_of_lt hax) vs.toArray) (by simp; omega) (by simp; omega) hf hcell hx hk listIter_wr
    (fun b o e hm => by rw [List.mem_singleton] at hm; subst hm; exact Nat.lt_irrefl _ (Heap.lt_size e)) (Kept.push _ _) (list_fp hax) ?_ ⟨⟨_, Heap.get?_push_size _ rfl, rfl, rfl⟩, hl'.push _⟩ ?_
  · intro C i v q s₂ Q₂ E₂ m₂ hP hq N hm K₂ k₂
    obtain ⟨p, hp⟩ : ∃ p, ps[i]? = some p := ⟨ps[i]'(by have := (List.getElem?_eq_some_iff.mp hq).1; omega), by simp⟩
    obtain ⟨v', hv', r'⟩ := rl.get hp
    have : v' = v := by
      have : vs[i]? = some v := by simpa using hP
      rw [hv'] at this
      exact Option.some.inj this
    subst this
    exact he i p q hp hq C m m₂ v' s₂ Q₂ E₂ (Fr.kept' (Fr.kept' F K) K₂) ((R.mono K.seq).mono K₂.seq) N hm (r'.mono K₂.seq) k₂
  · intro D C h' tk' m' ys hD hC hDC hN hP hr hkp
    have kk : Kept h₁ h' := fun b o e => hkp b o (fun hm => by rw [List.mem_singleton] at hm; subst hm; exact Nat.lt_irrefl _ (Heap.lt_size e)) (Heap.get?_push_of_some _ e)
    have F' : Fr c.h₀ c.L h' m := Fr.kept' F (K.trans kk)
    have hLC : c.L ≠ C := by
      rintro rfl
      obtain ⟨o, _, _, ho, _⟩ := (Fr.kept' F K).ns
      rw [Heap.get?_push_of_some _ ho] at hC
      cases hC
    have hrep : Rep none h' (.list qs) (.ref D) := by
      unfold Rep
      exact ⟨D, ys, rfl, by simp, hP.isList, hr.weak⟩
    show wpAny _ c.A (PySem.assign (.Name y py) c.env (.ref D)) _ _ _
    have R' : StR c (σ, none) none h' m := ⟨rfl, R.mono (K.trans kk).seq⟩
    refine wpAny_assign_Name (store (c := c) (d := d) (S := ((σ, none) : St)) (x := none) (p := .list qs) T hl F' R' trivial trivial hrep fun m₂ h₂ tk₂ F₂ K₂ R₂ => ?_)
    refine ⟨m', ?_, fun h₃ hs₃ => ?_⟩
    · exact hN.at' fun o e => K₂ C o (Ne.symm hLC) (by simp) e
    · have hn2 := F₂.ns.sameBut hs₃ hLC
      have k23 : ∀ b o, b ≠ C → h₂.get? b = some o → h₃.get? b = some o := fun b o hb e => hs₃.extBut b o hb e
      refine k .next m₂ none h₃ _ ⟨hn2, fun b o e => ?_, F₂.above⟩ (fun b o hb _ e => ?_) XOk.refl ⟨rfl, ?_⟩
      · refine k23 b o ?_ (F₂.keep b o e)
        rintro rfl
        have := F.keep _ _ e
        rw [Heap.get?_push_of_some _ (K _ _ this)] at hC
        cases hC
      · refine k23 b o ?_ (K₂ b o hb (by simp) (kk b o (K b o e)))
        rintro rfl
        rw [Heap.get?_push_of_some _ (K _ _ e)] at hC
        cases hC
      · refine R₂.seq ?_
        intro b o vs' n' _ hd ho
        refine k23 b o ?_ ho
        rintro rfl
        have hN2 := hN.at' (h' := h₂) fun o e => K₂ b o (Ne.symm hLC) (by simp) e
        obtain ⟨o', es, ep, ho', hd', _⟩ := hN2
        rw [ho] at ho'
        cases ho'
        rw [hd] at hd'
        cases hd'
end
end Mine
end

section
open PySem PySem.W PyProof.Rows PySem.Calls PySem.Spec
set_option Elab.async false
set_option maxRecDepth 100000
namespace Mine
theorem sub_int_tup : isSubtype (.type "int") (.type "tuple") = pure false := by rw [isSubtype_type]; kernel_rfl
theorem int_noget : typeLookup (.type "int") "__getitem__" = pure none := by rw [typeLookup_type, builtinLookup_eq_fast]; kernel_rfl
theorem isI (n : Int) (u : Tok) : isInstance (.int n u) (.type "tuple") = pure false := by
  show (typeOf (.int n u) >>= fun t => isSubtype t (.type "tuple")) = _
  show isSubtype (.type "int") (.type "tuple") = _
  exact sub_int_tup
theorem fillsM (n : Int) (u : Tok) : fillsMappingSlot (.int n u) = pure false := by
  unfold fillsMappingSlot specialOf
  show (typeLookup (.type "int") "__getitem__" >>= _) = _
  rw [int_noget]
  rfl
def hx (k : Nat) : Nat := if k < 10 then 48 + k else 55 + k
def hexU (n : Nat) : List Nat := [hx (n / 16), hx (n % 16)]
def pF : Builtin.Str.Percent := { zero := true, width := some 2, type := 88 }
def pT (n : Nat) : List Nat := Builtin.Str.percentInt pF false ((Nat.toDigits 16 n).map Char.toNat)
theorem pT_hex : ∀ n < 256, (Builtin.Str.percentField pF true (pT n) = none ∧ pT n = hexU n) ∨ Builtin.Str.percentField pF true (pT n) = some (hexU n) := by decide +kernel
section
variable {M : Model} {A : Around} {E : Value → Shared → Prop} {s : Shared} {β : Type}
theorem wpAny_range0 {f : Nat → β → Sem (ForInStep β)} {n : Nat} {init : β} {Q : β → Shared → Prop} (h : wpAny M A (forIn (List.range' 0 n 1) init f) Q E s) : wpAny M A (forIn [0 : n] init f) Q E s := by
  rw [KPc.range_list]
  exact h
theorem wp_field {fo : Value} {n : Nat} {u : Tok} {Q : PySem.Fin → Shared → Prop} (hn : n < 256) (h : ∀ tk t', Q (.done (.ret (.str ⟨(hexU n).toArray⟩ t'))) { s with toks := tk }) :
    wpAny M A (Builtin.Str.percentFormat fo ⟨#[37, 48, 50, 88]⟩ (.int n u)) Q E s := by
  unfold Builtin.Str.percentFormat
  refine wpAny_bind (wpAny_of_eq (isI n u) ?_)
  refine wpAny_bind (wpAny_pure ?_)
  refine wpAny_bind (wpAny_of_eq (fillsM n u) ?_)
  refine wpAny_bind (wpAny_pure ?_)
  refine wpAny_bind (wpAny_range0 (KPc.turn ?_))
  show wpAny M A (holding [.int n u] (_ : Sem (List Nat × Option Value × Bool)) >>= _) _ _ _
  refine wpAny_bind (wpAny_holding ?_)
  refine wpAny_bind (wpAny_of_eq (a := (n : Int)) rfl ?_)
  show wpAny M A (pure ((Nat.toDigits 16 n).map Char.toNat) >>= _) _ _ _
  refine wpAny_bind (wpAny_pure ?_)
  refine wpAny_pure ?_
  show wpAny M A (match Builtin.Str.percentField pF true (pT n) with
    | none => _
    | some laid => _) _ _ _
  have fin : wpAny M A (Builtin.Str.Writer.finish "str.__mod__" (Builtin.Str.Writer.add {} ⟨(hexU n).toArray⟩ none)) Q E s := by
    show wpAny M A (mkStr ⟨#[] ++ (hexU n).toArray⟩ >>= fun v => ret v) Q E s
    have e : (#[] : Array Nat) ++ (hexU n).toArray = (hexU n).toArray := by simp
    rw [e]
    exact wpAny_bind (wpAny_mkStr (wpAny_pure (h _ _)) (by show (hexU n).toArray.size ≤ _; rw [sizeLine_eq]; simp [hexU]))
  rcases pT_hex n hn with ⟨h1, h2⟩ | h1
  · rw [h1]
    show wpAny M A (pure (ForInStep.yield (([] : List Value), (Builtin.Str.Writer.add {} ⟨(pT n).toArray⟩ none), ([] : List Nat)))) _ _ _
    rw [h2]
    refine wpAny_pure ?_
    refine KPc.turn ?_
    show wpAny M A (pure (ForInStep.done (([] : List Value), (Builtin.Str.Writer.add {} ⟨(hexU n).toArray⟩ none), ([] : List Nat)))) _ _ _
    refine wpAny_pure ?_
    exact fin
  · rw [h1]
    show wpAny M A (pure (ForInStep.yield (([] : List Value), (Builtin.Str.Writer.add {} ⟨(hexU n).toArray⟩ none), ([] : List Nat)))) _ _ _
    refine wpAny_pure ?_
    refine KPc.turn ?_
    show wpAny M A (pure (ForInStep.done (([] : List Value), (Builtin.Str.Writer.add {} ⟨(hexU n).toArray⟩ none), ([] : List Nat)))) _ _ _
    refine wpAny_pure ?_
    exact fin

theorem wp_field1 {fo : Value} {n : Nat} {u : Tok} {Q : PySem.Fin → Shared → Prop} (hn : n < 256) (h : ∀ tk t', Q (.done (.ret (.str ⟨(61 :: hexU n).toArray⟩ t'))) { s with toks := tk }) :
    wpAny M A (Builtin.Str.percentFormat fo ⟨#[61, 37, 48, 50, 88]⟩ (.int n u)) Q E s := by
  unfold Builtin.Str.percentFormat
  refine wpAny_bind (wpAny_of_eq (isI n u) ?_)
  refine wpAny_bind (wpAny_pure ?_)
  refine wpAny_bind (wpAny_of_eq (fillsM n u) ?_)
  refine wpAny_bind (wpAny_pure ?_)
  refine wpAny_bind (wpAny_range0 (KPc.turn ?_))
  show wpAny M A (pure (ForInStep.yield (([.int n u] : List Value), (Builtin.Str.Writer.add {} ⟨#[61]⟩ none), ([37, 48, 50, 88] : List Nat)))) _ _ _
  refine wpAny_pure ?_
  refine KPc.turn ?_
  show wpAny M A (holding [.int n u] (_ : Sem (List Nat × Option Value × Bool)) >>= _) _ _ _
  refine wpAny_bind (wpAny_holding ?_)
  refine wpAny_bind (wpAny_of_eq (a := (n : Int)) rfl ?_)
  show wpAny M A (pure ((Nat.toDigits 16 n).map Char.toNat) >>= _) _ _ _
  refine wpAny_bind (wpAny_pure ?_)
  refine wpAny_pure ?_
  show wpAny M A (match Builtin.Str.percentField pF true (pT n) with
    | none => _
    | some laid => _) _ _ _
  have fin : wpAny M A (Builtin.Str.Writer.finish "str.__mod__" (Builtin.Str.Writer.add (Builtin.Str.Writer.add {} ⟨#[61]⟩ none) ⟨(hexU n).toArray⟩ none)) Q E s := by
    show wpAny M A (mkStr ⟨#[] ++ #[61] ++ (hexU n).toArray⟩ >>= fun v => ret v) Q E s
    have e : (#[] : Array Nat) ++ #[61] ++ (hexU n).toArray = (61 :: hexU n).toArray := by simp
    rw [e]
    exact wpAny_bind (wpAny_mkStr (wpAny_pure (h _ _)) (by show (61 :: hexU n).toArray.size ≤ _; rw [sizeLine_eq]; simp [hexU]))
  rcases pT_hex n hn with ⟨h1, h2⟩ | h1
  · rw [h1]
    show wpAny M A (pure (ForInStep.yield (([] : List Value), (Builtin.Str.Writer.add (Builtin.Str.Writer.add {} ⟨#[61]⟩ none) ⟨(pT n).toArray⟩ none), ([] : List Nat)))) _ _ _
    rw [h2]
    refine wpAny_pure ?_
    refine KPc.turn ?_
    show wpAny M A (pure (ForInStep.done (([] : List Value), (Builtin.Str.Writer.add (Builtin.Str.Writer.add {} ⟨#[61]⟩ none) ⟨(hexU n).toArray⟩ none), ([] : List Nat)))) _ _ _
    refine wpAny_pure ?_
    exact fin
  · rw [h1]
    show wpAny M A (pure (ForInStep.yield (([] : List Value), (Builtin.Str.Writer.add (Builtin.Str.Writer.add {} ⟨#[61]⟩ none) ⟨(hexU n).toArray⟩ none), ([] : List Nat)))) _ _ _
    refine wpAny_pure ?_
    refine KPc.turn ?_
    show wpAny M A (pure (ForInStep.done (([] : List Value), (Builtin.Str.Writer.add (Builtin.Str.Writer.add {} ⟨#[61]⟩ none) ⟨(hexU n).toArray⟩ none), ([] : List Nat)))) _ _ _
    refine wpAny_pure ?_
    exact fin
end

section
variable {c : FC}
theorem Op2.mod02X {n : Nat} (hn : n < 256) : Op2 c (binaryOp .Mod) (.str [37, 48, 50, 88]) (.int n) (.str (hexU n)) := by
  rintro m s Q E v₁ v₂ F ⟨t, rfl⟩ ⟨u, rfl⟩ k
  refine wpAny_binaryOp_two (op := .Mod) (T := "str") (U := "int") (by decide) (typeIs_str _ _ _) (fun s' => typeIs_int s' _ _) PySem.F.fills_str_mod PySem.F.fills_int_mod PySem.sub_int_str PySem.F.slot_str_mod PySem.F.slot_int_rmod ?_
  refine wpAny_call (codeAny_call_builtin PySem.F.slot_str_mod.plain PySem.F.entry_str_mod (PySem.F.slot_str_mod.check _ _ _ _ _ _ _ _ (typeIs_str _ _ _) (PySem.F.args_str_mod_2 _ _) ?_))
  show wpAny _ _ (Builtin.Str.percentFormat (.str ⟨#[37, 48, 50, 88]⟩ t) ⟨#[37, 48, 50, 88]⟩ (.int n u)) _ _ _
  exact wp_field hn fun tk t' => .inl ⟨nofun, k _ s.heap tk (Kept.refl _) ⟨_, rfl⟩⟩
theorem Op2.mod02Xe {n : Nat} (hn : n < 256) : Op2 c (binaryOp .Mod) (.str [61, 37, 48, 50, 88]) (.int n) (.str (61 :: hexU n)) := by
  rintro m s Q E v₁ v₂ F ⟨t, rfl⟩ ⟨u, rfl⟩ k
  refine wpAny_binaryOp_two (op := .Mod) (T := "str") (U := "int") (by decide) (typeIs_str _ _ _) (fun s' => typeIs_int s' _ _) PySem.F.fills_str_mod PySem.F.fills_int_mod PySem.sub_int_str PySem.F.slot_str_mod PySem.F.slot_int_rmod ?_
  refine wpAny_call (codeAny_call_builtin PySem.F.slot_str_mod.plain PySem.F.entry_str_mod (PySem.F.slot_str_mod.check _ _ _ _ _ _ _ _ (typeIs_str _ _ _) (PySem.F.args_str_mod_2 _ _) ?_))
  show wpAny _ _ (Builtin.Str.percentFormat (.str ⟨#[61, 37, 48, 50, 88]⟩ t) ⟨#[61, 37, 48, 50, 88]⟩ (.int n u)) _ _ _
  exact wp_field1 hn fun tk t' => .inl ⟨nofun, k _ s.heap tk (Kept.refl _) ⟨_, rfl⟩⟩
end
end Mine
end

section
open PySem PySem.W PyProof.Rows PySem.Calls PySem.Spec
set_option Elab.async false
set_option maxRecDepth 100000
namespace Mine

open Builtin.Str in
theorem list_add_any (l : Addr) (items : Array Value) (n : Nat) (d1 : Option Addr) (s1 : Array (Option Value)) (b : Addr) (items2 : Array Value) (n2 : Nat) (d2 : Option Addr) (s2 : Array (Option Value)) (hc0 : items.size + items2.size ≤ sizeLine) :
    Meets (Builtin.«list.__add__» ⟨[.ref l, .ref b], []⟩) (fun _ R s => s.heap.get? l = some { cls := .type "list", dict := d1, data := .seq items n, slots := s1 } ∧ s.heap.get? b = some { cls := .type "list", dict := d2, data := .seq items2 n2, slots := s2 } ∧ R (.ok (.ret (Value.ref s.heap.objs.size))) { s with heap := s.heap.push { cls := Value.type "list", data := Data.seq (items ++ items2) }, toks := s.toks }) :=
  .of_wp fun prog w A R s h => by
    obtain ⟨hp, g, d, tk, os⟩ := s; obtain ⟨hl, hb, h⟩ := h; have f1 := AutoSeq1.idx_int; have f2 := AutoSeq1.sub_tuple_tuple; have f3 := AutoSeq1.sub_list_list; have f4 := AutoSeq1.sub_tuple_list; have f5 := AutoSeq1.sub_list_tuple; wp_walk using AutoSeq1.wpAny_loadPart' hl, AutoSeq1.wpAny_loadPart' hb; exact ⟨_, rfl, h⟩

section
variable {c : FC} {S S₁ : St} {σ : Sig} {d : Nat}
theorem Op2.addL {a b : List PV} (h : a.length + b.length ≤ sizeLine) : Op2 c (binaryOp .Add) (.list a) (.list b) (.list (a ++ b)) := by
  intro m s Q E v₁ v₂ F r₁ r₂ k
  unfold Rep at r₁ r₂
  obtain ⟨x, vs, rfl, _, ⟨o, ho, hc, n, hd⟩, rl⟩ := r₁
  obtain ⟨y, ws, rfl, _, ⟨o', ho', hc', n', hd'⟩, rl'⟩ := r₂
  obtain ⟨oc, od, oda, os⟩ := o
  obtain ⟨oc', od', oda', os'⟩ := o'
  dsimp only at hc hd hc' hd'
  subst hc hd hc' hd'
  have hsz : vs.toArray.size + ws.toArray.size ≤ sizeLine := by rw [List.size_toArray, List.size_toArray, rl.length, rl'.length]; exact h
  refine concat_meets ⟨_, ho, rfl⟩ ⟨_, ho', rfl⟩ noFill_list_add seq_list_add PySem.F.slot_list_add PySem.F.entry_list_add (PySem.F.args_list_add_2 _ _) (list_add_any x vs.toArray n od os y ws.toArray n' od' os' hsz) ⟨ho, ho', ?_⟩
  refine k _ _ s.toks (Kept.push _ _) ?_
  unfold Rep
  refine ⟨_, vs ++ ws, rfl, by simp, ⟨_, Heap.get?_push_size _ rfl, rfl, 0, by simp⟩, RepL.append (rl.mono (Kept.push _ _).seq) (rl'.mono (Kept.push _ _).seq)⟩

theorem repL_str {x : Option Addr} {h : Heap} : ∀ {ls : List (List Nat)} {vs : List Value}, RepL x h (ls.map .str) vs → ∃ l : List (PySem.Str × Tok), vs = strValues l ∧ l.map (·.1) = ls.map fun y => (⟨y.toArray⟩ : PySem.Str)
  | [], _, r => by
    simp only [List.map_nil, RepL] at r
    exact ⟨[], r, rfl⟩
  | y :: ls, _, r => by
    simp only [List.map_cons, RepL] at r
    obtain ⟨v, q, rfl, ⟨t, rfl⟩, r2⟩ := r
    obtain ⟨l, rfl, e⟩ := repL_str r2
    exact ⟨(⟨y.toArray⟩, t) :: l, rfl, by simp [e]⟩
theorem glued_nil' (ls : List (List Nat)) : Txt.join ⟨#[]⟩ (ls.map fun y => (⟨y.toArray⟩ : PySem.Str)) = ⟨ls.flatten.toArray⟩ := by
  have key : ∀ (r : List PySem.Str) (acc : Array Nat), r.foldl (fun acc p => acc ++ (⟨#[]⟩ : PySem.Str).cps ++ p.cps) acc = acc ++ (r.flatMap (·.cps.toList)).toArray := by
    intro r
    induction r with
    | nil => intro acc; simp
    | cons x r ih =>
      intro acc
      rw [List.foldl_cons, ih]
      apply Array.toList_inj.mp
      simp
  show Builtin.Str.glued _ _ = _
  unfold Builtin.Str.glued
  rw [key]
  congr 1
  cases ls with
  | nil => rfl
  | cons x r =>
    apply Array.toList_inj.mp
    have : (List.map ((fun x : PySem.Str => x.cps.toList) ∘ fun y : List Nat => (⟨y.toArray⟩ : PySem.Str)) r) = r := by
      conv => rhs; rw [← List.map_id r]
      congr 1
    simp [List.flatMap_def, this]
/-- the empty text's join -/
theorem OpN.joinE {ls : List (List Nat)} (h : ls.flatten.length + ls.length ≤ 1048576) : OpN c (fun vs => call (.builtin "str.join") vs) [.str [], .list (ls.map .str)] (.str ls.flatten) := by
  intro m s Q E vs Fr' r k
  simp only [RepL] at r
  obtain ⟨v, _, rfl, ⟨t, rfl⟩, v', _, rfl, r, rfl⟩ := r
  unfold Rep at r
  obtain ⟨a, vs, rfl, _, hl, rl⟩ := r
  obtain ⟨l, rfl, e⟩ := repL_str rl
  refine SC.join (l := l) (texts := ls.map fun y => (⟨y.toArray⟩ : PySem.Str)) hl e (joinOk_of_weight ?_ (by decide)) fun t' kk => ?_
  · have : ((ls.map fun y => (⟨y.toArray⟩ : PySem.Str)).map (·.length)).sum = ls.flatten.length := by
      rw [List.length_flatten, List.map_map]
      congr 1
    rw [this, List.length_map]
    exact h
  · show Q (.str (Txt.join ⟨#[]⟩ _) t') _
    rw [glued_nil']
    exact k _ s.heap _ (Kept.refl _) ⟨_, rfl⟩

open Builtin.Str in
def figs : List Nat := [48, 49, 50, 51, 52, 53, 54, 55, 56, 57, 65, 66, 67, 68, 69, 70]
open Builtin.Str in
theorem find_fig : ∀ k < 16, Txt.find ⟨figs.toArray⟩ ⟨#[hx k]⟩ = (k : Int) := by
  intro k hk
  unfold Txt.find
  rw [StrLaws.occ_eq]
  revert k
  decide +kernel
theorem OpN.find_fig {k : Nat} (hk : k < 16) : OpN c (fun vs => call (.builtin "str.find") vs) [.str figs, .str [hx k]] (.int k) := by
  intro m s Q E vs Fr' r kk
  simp only [RepL] at r
  obtain ⟨v, _, rfl, ⟨t, rfl⟩, v', _, rfl, ⟨t', rfl⟩, rfl⟩ := r
  refine SC.find ?_
  have : Txt.find ⟨figs.toArray⟩ ⟨[hx k].toArray⟩ = (k : Int) := Mine.find_fig k hk
  rw [this]
  exact kk _ s.heap _ (Kept.refl _) ⟨_, rfl⟩

def isTx (x : List Nat) (y : Value) : Bool := match y with | .str z _ => z == ⟨x.toArray⟩ | _ => false
theorem any_strs (x : List Nat) : ∀ (l : List (PySem.Str × Tok)) (ls : List (List Nat)), l.map (·.1) = ls.map (fun y => (⟨y.toArray⟩ : PySem.Str)) → (strValues l).any (isTx x) = decide (x ∈ ls) := by
  intro l
  induction l with
  | nil =>
    intro ls h
    cases ls with
    | nil => rfl
    | cons _ _ => cases h
  | cons p l ih =>
    intro ls h
    cases ls with
    | nil => cases h
    | cons y ls =>
      obtain ⟨z, u⟩ := p
      rw [List.map_cons, List.map_cons] at h
      obtain ⟨h1, h2⟩ := List.cons.inj h
      dsimp only at h1
      subst h1
      have e := ih ls h2
      have e0 : (strValues (((⟨y.toArray⟩ : PySem.Str), u) :: l)).any (isTx x) = (((⟨y.toArray⟩ : PySem.Str) == ⟨x.toArray⟩) || (strValues l).any (isTx x)) := rfl
      rw [e0, e, str_beq]
      by_cases hxy : y = x
      · rw [hxy, beq_self_eq_true, Bool.true_or, decide_eq_true List.mem_cons_self]
      · rw [beq_eq_false_iff_ne.mpr hxy, Bool.false_or]
        by_cases hm : x ∈ ls
        · rw [decide_eq_true hm, decide_eq_true (List.mem_cons_of_mem _ hm)]
        · rw [decide_eq_false hm, decide_eq_false]
          intro hc
          rcases List.mem_cons.mp hc with h | h
          · exact hxy h.symm
          · exact hm h
/-- a text among some -/
theorem Op2.inTup {x : List Nat} {ls : List (List Nat)} : Op2 c (compareOp .In) (.str x) (.tup (ls.map .str)) (.bool (decide (x ∈ ls))) := by
  rintro m s Q E v₁ v₂ F ⟨t, rfl⟩ r k
  unfold Rep at r
  obtain ⟨a, vs, rfl, _, hl, rl⟩ := r
  obtain ⟨l, rfl, e⟩ := repL_str rl
  obtain ⟨o, ho, hc, n, hd⟩ := hl
  refine PySem.SeqAt.in_tupleAt (items := (strValues l).toArray) (isTx x) ⟨o, ho, hc, n, hd⟩ ?_ ?_
  · intro y hy
    have hy' : y ∈ strValues l := List.mem_toArray.mp hy
    obtain ⟨⟨z, u⟩, _, rfl⟩ := List.mem_map.mp hy'
    exact PySem.SeqAt.EqAt.str_str _ _ _ _
  · rw [List.any_toArray, any_strs x l ls e]
    exact k _ s.heap s.toks (Kept.refl _) rfl
end
end Mine
end

section
open PySem PySem.W PyProof.Rows PySem.Calls PySem.Spec
set_option Elab.async false
set_option maxRecDepth 100000
namespace Mine
open Builtin.Str

def twice (c : Nat) (z : List Nat) (l : List Nat) : List Nat := l.flatMap fun x => if x = c then z else [x]
theorem twice_free {c : Nat} {z l : List Nat} (h : c ∉ l) : twice c z l = l := by
  induction l with
  | nil => rfl
  | cons a l ih =>
    have h1 : a ≠ c := fun e => h (e ▸ List.mem_cons_self)
    have h2 : c ∉ l := fun e => h (List.mem_cons_of_mem _ e)
    show (if a = c then z else [a]) ++ twice c z l = a :: l
    rw [if_neg h1, ih h2]
    rfl
theorem twice_app {c : Nat} {z a b : List Nat} : twice c z (a ++ b) = twice c z a ++ twice c z b := List.flatMap_append
theorem twice_one {c : Nat} {z : List Nat} : twice c z [c] = z := by simp [twice]

theorem join_twice (c : Nat) (z : List Nat) : ∀ (parts : List PySem.Str), (∀ p ∈ parts, c ∉ p.cps.toList) → (Str.join ⟨z.toArray⟩ parts).cps.toList = twice c z (Str.join ⟨#[c]⟩ parts).cps.toList
  | [], _ => rfl
  | [p], h => (twice_free (h p (List.mem_singleton.mpr rfl))).symm
  | p :: q :: r, h => by
    have ih := join_twice c z (q :: r) fun p hp => h p (List.mem_cons_of_mem _ hp)
    show (p ++ (⟨z.toArray⟩ : PySem.Str) ++ Str.join ⟨z.toArray⟩ (q :: r)).cps.toList = twice c z (p ++ (⟨#[c]⟩ : PySem.Str) ++ Str.join ⟨#[c]⟩ (q :: r)).cps.toList
    have e : ∀ a b : PySem.Str, (a ++ b).cps.toList = a.cps.toList ++ b.cps.toList := fun a b => by
      show (a.cps ++ b.cps).toList = _
      simp
    rw [e, e, e, e, ih, twice_app, twice_app, twice_free (h p List.mem_cons_self)]
    show _ ++ z ++ _ = _ ++ twice c z [c] ++ _
    rw [twice_one]

theorem txt_replace (l : List Nat) (c : Nat) (z : List Nat) : Txt.replace ⟨l.toArray⟩ ⟨#[c]⟩ ⟨z.toArray⟩ = ⟨(twice c z l).toArray⟩ := by
  obtain ⟨f, hc, hn⟩ := StrLaws.occ_tight ⟨l.toArray⟩ ⟨#[c]⟩ (Nat.le_refl 1)
  obtain ⟨f', hc'⟩ := StrLaws.occ_chain ⟨l.toArray⟩ ⟨#[c]⟩ ((⟨l.toArray⟩ : PySem.Str).length + 1)
  have h1 := StrLaws.parts_free ⟨l.toArray⟩ c _ 0 f hc hn
  have h2 := StrLaws.join_partsFrom ⟨l.toArray⟩ ⟨#[c]⟩ _ 0 f' hc'
  rw [StrLaws.sub_whole] at h2
  have h3 := join_twice c z _ h1
  rw [h2] at h3
  have e1 : Txt.replace ⟨l.toArray⟩ ⟨#[c]⟩ ⟨z.toArray⟩ = Str.join ⟨z.toArray⟩ (StrLaws.partsFrom ⟨l.toArray⟩ (⟨#[c]⟩ : PySem.Str).length 0 (occurrences ⟨l.toArray⟩ ⟨#[c]⟩ 0 (⟨l.toArray⟩ : PySem.Str).length ((⟨l.toArray⟩ : PySem.Str).length + 1))) := by
    unfold Txt.replace
    have hz : (((⟨#[c]⟩ : PySem.Str).length == 0) && ((⟨z.toArray⟩ : PySem.Str).length == 0)) = false := by simp [PySem.Str.length]
    rw [hz, Bool.or_false]
    generalize occurrences ⟨l.toArray⟩ ⟨#[c]⟩ 0 (⟨l.toArray⟩ : PySem.Str).length ((⟨l.toArray⟩ : PySem.Str).length + 1) = cuts
    cases cuts with
    | nil =>
      show (⟨l.toArray⟩ : PySem.Str) = strSub ⟨l.toArray⟩ 0 (⟨l.toArray⟩ : PySem.Str).length
      rw [StrLaws.sub_whole]
    | cons d r =>
      show glued ⟨z.toArray⟩ (partsBetween ⟨l.toArray⟩ (d :: r) (⟨#[c]⟩ : PySem.Str).length) = _
      rw [StrLaws.glued_eq_join, StrLaws.partsBetween_eq]
  rw [e1]
  have e2 : ∀ a : PySem.Str, a = ⟨a.cps.toList.toArray⟩ := fun a => by cases a; simp
  rw [e2 (Str.join _ _), h3]

section
variable {c : FC} {σ : Sig} {d : Nat}
/-- a text, and behind it a name's text with each sign c doubled -/
theorem Ev.add_replace {x : Str} {A y z : Str} {a l w : List Nat} {q : Nat} {k1 k2 k3 : Nat} {pos p1 p2 p3 p4 p5 apos : Pos} (T : Stat c d) (hl : c.loc x) (h : σ.lookup x = some (.str l)) (hA : A = ⟨a.toArray⟩) (hy : y = ⟨#[q]⟩) (hz : z = ⟨w.toArray⟩)
    (hw : w.length ≤ 14) (hqw : ((⟨#[q]⟩ : PySem.Str) == ⟨w.toArray⟩) = false) (hsz : l.length ≤ 1000000) (hsz2 : a.length + (twice q w l).length ≤ sizeLine)
    (hs : MethShape c (.Name x p2) "replace" apos [.Constant (.str y) k2 p3, .Constant (.str z) k3 p4] p5) (hd : (x == ("__debug__" : Str)) = false := by rfl) :
    Ev c σ (.BinOp (.Constant (.str A) k1 p1) .Add (.Call (.Attribute (.Name x p2) "replace" apos) [.Constant (.str y) k2 p3, .Constant (.str z) k3 p4] [] p5) pos) (.str (a ++ twice q w l)) := by
  obtain ⟨pl, he⟩ := hs
  subst hA hy hz
  intro m s Q E F R k
  refine wpAny_BinOp (Calls.Constant_str ?_)
  obtain ⟨v, hv, t, rfl⟩ := R x _ h
  refine MethodCall_ (nameX_L F hv ?_ T.kind hl hd) he
  refine GM.replace ?_
  refine PyProof.Rows.callWith_method1 ?_ rfl rfl
  refine spliced_more (Calls.Constant_str ?_) rfl
  refine spliced_more (Calls.Constant_str ?_) rfl
  refine spliced_none ?_
  refine SC.replaceW (by simp) (by simp) (by simp) hqw (by rw [str_len]; omega) (by rw [str_len]; exact hw) fun t' kk => ?_
  rw [txt_replace]
  refine Op2.addS hsz2 m _ _ E _ _ F ⟨_, rfl⟩ ⟨_, rfl⟩ fun v' h' tk K r => k v' h' tk K r
end
end Mine
end

section
open PySem PySem.W PyProof.Rows PySem.Calls PySem.Spec
set_option Elab.async false
set_option maxRecDepth 100000
namespace Mine
section
variable {c : FC} {σ : Sig} {d : Nat} {scope : Scope} {cl : List (Str × Addr)} {x : Str} {p q : PV}
/-- one argument given to a function of the program that only the comprehension names -/
theorem EvC.call_g {f : Str} {a : Addr} {e : Expr} {pos pos' : Pos} {p₁ q : PV} (T : Stat c d) (his : nsIn c.K mainGlobals f = some (some (.ref a))) (hkp : keepIn c.K (.ref a) = true) (hk : scope.kind = .function) (hf : (relabel scope c.env).names.lookup f = some .globalImplicit)
    (h₁ : EvC c scope cl σ x p e p₁) (ho : FnOk c a [p₁] q) (n2 : (f == ("__debug__" : Str)) = false := by rfl)
    (q1 : ∀ C, starEach [e] (compEnvC scope cl C c.env) = (false, eval e (compEnvC scope cl C c.env)) :: starEach [] (compEnvC scope cl C c.env) := by intro _; rfl)
    (q2 : ∀ C, ((backTo pos (starEach [] (compEnvC scope cl C c.env))).any fun x => x.fst) = false := by intro _; rfl) : EvC c scope cl σ x p (.Call (.Name f pos') [e] [] pos) q := by
  intro C m m₂ v s Q E F R N hm r k
  refine Call_ ?_
  refine Name_function_global (env := compEnvC scope cl C c.env) (by exact hk) hf (loadGlobal_global (env := compEnvC scope cl C c.env) (T.topRead.g.keeps F.keep) (mg_of T.kin T.topRead.g his) ?_) n2
  refine callWith_K T.kin hkp ?_ (q1 C) (q2 C)
  refine spliced_more (h₁ C m m₂ v s _ E F R N hm r fun v₁ h' tk k₁ r₁ => ?_) (q1 C)
  refine spliced_none ?_
  refine ⟨T.kin.keeps (Fr.kept' F k₁).keep, ?_⟩
  refine ho m _ _ E [v₁] (Fr.kept' F k₁) (by unfold RepL; exact ⟨v₁, [], rfl, r₁, rfl⟩) fun v₃ h₃ tk₃ K₃ r₃ => k v₃ h₃ tk₃ (k₁.trans K₃) r₃
end
end Mine
end

section
open PySem PySem.W PyProof.Rows PySem.Calls PySem.Spec
set_option Elab.async false
set_option maxRecDepth 100000
namespace Mine

def FC.top (prog : Program) (w : World) (K : Frag) (p : Program) (loose : List Str) (mean : ExcName → Option Value) (mg mb : Str → Option Value) (name : Str) (scope : Scope) (fa : Addr) (ccd : Value) (h : Heap) : FC :=
  { prog := prog, w := w, K := K, p := p, loose := loose, mean := mean, mg := mg, mb := mb, dp := callerA.depth + 1, un := callerA.units + 3, gd := some [], cn := name, cs := scope, a := fa, ccd := ccd, outer := [], A₀ := callerA, base := h, h₀ := h, L := h.objs.size }

theorem stat_top {prog : Program} {w : World} {K : Frag} {p : Program} {loose : List Str} {mean : ExcName → Option Value} {mg mb : Str → Option Value} {name : Str} {scope : Scope} {fa : Addr} {ccd : Value} {h : Heap}
    (T : Top p loose mean mg mb h) (X : K.In h) (hk : scope.kind = .function) : Stat (FC.top prog w K p loose mean mg mb name scope fa ccd h) 10 :=
  ⟨below_caller h, X, T, hk, by show callerA.depth + 1 + 10 < recursionLimit; decide, by show callerA.units + 3 + 8 * 10 + 8 < cLine; decide⟩

theorem ints_rep {h : Heap} {x : Option Addr} : ∀ {vs : List Value} {xs : List Int}, IntsAre vs xs → RepL x h (xs.map .int) vs := by
  intro vs xs hi
  induction hi with
  | nil => simp [RepL]
  | cons n t _ ih =>
    simp only [List.map_cons, RepL]
    exact ⟨_, _, rfl, ⟨t, rfl⟩, ih⟩

theorem enter {prog : Program} {w : World} {K : Frag} {p : Program} {loose : List Str} {mean : ExcName → Option Value} {mg mb : Str → Option Value} {name : Str} {scope : Scope} {body : List Stmt} {fa a : Addr} {ccd : Value} {s₁ : Shared} {h₁ : Heap} {tk : Nat}
    {m : Str → Option Value} {vs : List Value} {xs : List Int} {Q : Flow → Shared → Prop} {E : Value → Shared → Prop} {arg : Str}
    (T : Top p loose mean mg mb s₁.heap) (X : K.In s₁.heap) (F : Fr s₁.heap s₁.heap.objs.size h₁ m) (hl : s₁.heap.IsList a vs.toArray) (hi : IntsAre vs xs) (hk : scope.kind = .function) (hm : m arg = some (.ref a))
    (hlen : xs.length ≤ 63) (hx : ∀ xs : List Int, xs.length ≤ 63 → Stat (FC.top prog w K p loose mean mg mb name scope fa ccd s₁.heap) 10 → Exs (FC.top prog w K p loose mean mg mb name scope fa ccd s₁.heap) ([(arg, .list (xs.map .int))], none) body (.ret (.bool true)))
    (k : ∀ h' tk, Kept s₁.heap h' → Q (.ret (.bool true)) { s₁ with heap := h', toks := tk }) :
    wpAny (model prog w) (callerA.deeper (envOf name scope s₁.heap.objs.size fa ccd)) (execs body (envOf name scope s₁.heap.objs.size fa ccd)) Q E { s₁ with heap := h₁, toks := tk } := by
  refine hx xs hlen (stat_top T X hk) m none { s₁ with heap := h₁, toks := tk } Q E F ⟨rfl, ?_⟩ ?_
  · intro y q hy
    rw [List.lookup_cons] at hy
    by_cases e : (y == arg) = true
    · rw [e] at hy
      cases hy
      have : y = arg := by simpa using e
      subst this
      refine ⟨_, hm, ?_⟩
      unfold Rep
      obtain ⟨o, ho, hc⟩ := hl
      exact ⟨a, vs, rfl, by simp, ⟨o, F.keep _ _ ho, hc⟩, ints_rep hi⟩
    · have e' : (y == arg) = false := by simpa using e
      rw [e'] at hy
      cases hy
  · intro fl m' x' h' tk' F' _ _ r
    obtain ⟨v, rfl, rfl⟩ := r
    exact k h' tk' F'.keep
end Mine
end

section
open PySem
set_option Elab.async false
set_option maxRecDepth 100000
namespace Mine

/-- decode, sign by sign: what becomes of each end -/
def dS (eol : List Nat) : List Nat → List Nat
  | [] => []
  | [c] => if c = 10 ∨ c = 13 then eol else [c]
  | [c, a] =>
    if c = 61 then (if a = 10 ∨ a = 13 then [] else c :: dS eol [a])
    else if c = 13 ∧ a = 10 then eol
    else if c = 10 ∨ c = 13 then eol ++ dS eol [a]
    else c :: dS eol [a]
  | c :: a :: b :: r =>
    if c = 61 then
      if a = 13 ∧ b = 10 then dS eol r
      else if a = 10 ∨ a = 13 then dS eol (b :: r)
      else if isHex a = true ∧ isHex b = true then unhex a b :: dS eol r
      else c :: dS eol (a :: b :: r)
    else if c = 13 ∧ a = 10 then eol ++ dS eol (b :: r)
    else if c = 10 ∨ c = 13 then eol ++ dS eol (a :: b :: r)
    else c :: dS eol (a :: b :: r)

section
variable {eol : List Nat}
theorem dS_ch {c : Nat} {r : List Nat} (h1 : c ≠ 10) (h2 : c ≠ 13) (h3 : c ≠ 61) : dS eol (c :: r) = c :: dS eol r := by
  match r with
  | [] => simp [dS, h1, h2]
  | [a] => simp [dS, h1, h2, h3]
  | a :: b :: r =>
    conv => lhs; rw [dS]
    simp [h1, h2, h3]
theorem dS_10 {r : List Nat} : dS eol (10 :: r) = eol ++ dS eol r := by
  match r with
  | [] => simp [dS]
  | [a] => simp [dS]
  | a :: b :: r =>
    conv => lhs; rw [dS]
    simp
theorem dS_1310 {r : List Nat} : dS eol (13 :: 10 :: r) = eol ++ dS eol r := by
  match r with
  | [] => simp [dS]
  | b :: r => simp [dS]
theorem dS_13 {r : List Nat} (h : r.head? ≠ some 10) : dS eol (13 :: r) = eol ++ dS eol r := by
  match r with
  | [] => simp [dS]
  | [a] =>
    have : a ≠ 10 := fun e => h (by rw [e]; rfl)
    simp [dS, this]
  | a :: b :: r =>
    have : a ≠ 10 := fun e => h (by rw [e]; rfl)
    conv => lhs; rw [dS]
    simp [this]
theorem dS_s10 {r : List Nat} : dS eol (61 :: 10 :: r) = dS eol r := by
  match r with
  | [] => simp [dS]
  | b :: r =>
    conv => lhs; rw [dS]
    simp
theorem dS_s1310 {r : List Nat} : dS eol (61 :: 13 :: 10 :: r) = dS eol r := by
  conv => lhs; rw [dS]
  simp
theorem dS_s13 {r : List Nat} (h : r.head? ≠ some 10) : dS eol (61 :: 13 :: r) = dS eol r := by
  match r with
  | [] => simp [dS]
  | b :: r =>
    have : b ≠ 10 := fun e => h (by rw [e]; rfl)
    conv => lhs; rw [dS]
    simp [this]
theorem hex_nb {a : Nat} (h : isHex a = true) : a ≠ 10 ∧ a ≠ 13 := by
  constructor
  · rintro rfl; revert h; decide
  · rintro rfl; revert h; decide
theorem dS_hex {a b : Nat} {r : List Nat} (ha : isHex a = true) (hb : isHex b = true) : dS eol (61 :: a :: b :: r) = unhex a b :: dS eol r := by
  obtain ⟨h1, h2⟩ := hex_nb ha
  conv => lhs; rw [dS]
  simp [h1, h2, ha, hb]
theorem dS_no {a b : Nat} {r : List Nat} (h1 : a ≠ 10) (h2 : a ≠ 13) (h : ¬ (isHex a = true ∧ isHex b = true)) : dS eol (61 :: a :: b :: r) = 61 :: dS eol (a :: b :: r) := by
  conv => lhs; rw [dS]
  simp only [h1, h2, h, if_true, if_false, false_and, or_self]

def free (l : List Nat) : Prop := ∀ c ∈ l, c ≠ 10 ∧ c ≠ 13

theorem line_end {R Y : List Nat} (h0 : dS eol R = eol ++ Y) (hs : dS eol (61 :: R) = Y) (hR : ∃ b R', R = b :: R' ∧ isHex b = false) : ∀ (n : Nat) (l : List Nat), l.length ≤ n → free l → dS eol (l ++ R) = lineD eol l ++ Y := by
  obtain ⟨b, R', hRe, hb⟩ := hR
  intro n
  induction n with
  | zero =>
    intro l hl _
    have : l = [] := List.length_eq_zero_iff.mp (Nat.le_zero.mp hl)
    subst this
    exact h0
  | succ n ih =>
    intro l hl hf
    match l, hf with
    | [], _ => exact h0
    | [c], hf =>
      have hc := hf c (by simp)
      by_cases h61 : c = 61
      · subst h61
        show dS eol (61 :: R) = lineD eol [61] ++ Y
        rw [hs]
        simp [lineD, scanL]
      · show dS eol (c :: R) = lineD eol [c] ++ Y
        rw [dS_ch hc.1 hc.2 h61, h0]
        simp [lineD, scanL, h61]
    | [c, a], hf =>
      have hc := hf c (by simp)
      have ha := hf a (by simp)
      have h1 := ih [a] (by simp at hl ⊢; omega) (fun x hx => hf x (List.mem_cons_of_mem _ hx))
      have e : lineD eol [c, a] = c :: lineD eol [a] := by simp [lineD, scanL]
      rw [e]
      by_cases h61 : c = 61
      · subst h61
        show dS eol (61 :: a :: R) = _
        rw [hRe, dS_no ha.1 ha.2 (by simp [hb]), ← hRe]
        show 61 :: dS eol ([a] ++ R) = _
        rw [h1]
        rfl
      · show dS eol (c :: ([a] ++ R)) = _
        rw [dS_ch hc.1 hc.2 h61, h1]
        rfl
    | c :: a :: d :: l', hf =>
      have hc := hf c (by simp)
      have ha := hf a (by simp)
      have hl' : l'.length + 3 ≤ n + 1 := by simpa using hl
      have h1 := ih l' (by omega) (fun x hx => hf x (by simp [hx]))
      have h2 := ih (a :: d :: l') (by simp; omega) (fun x hx => hf x (List.mem_cons_of_mem _ hx))
      by_cases h61 : c = 61
      · subst h61
        by_cases hh : isHex a = true ∧ isHex d = true
        · show dS eol (61 :: a :: d :: (l' ++ R)) = _
          rw [dS_hex hh.1 hh.2, h1]
          simp [lineD, scanL, hh.1, hh.2]
        · show dS eol (61 :: a :: d :: (l' ++ R)) = _
          rw [dS_no ha.1 ha.2 hh]
          show 61 :: dS eol ((a :: d :: l') ++ R) = _
          rw [h2]
          have : (isHex a && isHex d) = false := by
            cases h3 : isHex a <;> cases h4 : isHex d <;> simp_all
          simp [lineD, scanL, this]
      · show dS eol (c :: ((a :: d :: l') ++ R)) = _
        rw [dS_ch hc.1 hc.2 h61, h2]
        simp [lineD, scanL, h61]

theorem line_last : ∀ (n : Nat) (l : List Nat), l.length ≤ n → free l → l ≠ [] → l.getLast? ≠ some 61 → lineD eol l = dS eol l ++ eol := by
  intro n
  induction n with
  | zero =>
    intro l hl _ hne
    exact absurd (List.length_eq_zero_iff.mp (Nat.le_zero.mp hl)) hne
  | succ n ih =>
    intro l hl hf hne hlast
    match l, hf with
    | [], _ => exact absurd rfl hne
    | [c], hf =>
      have hc := hf c (by simp)
      have h61 : c ≠ 61 := fun e => hlast (by simp [e])
      simp [lineD, scanL, dS, h61, hc.1, hc.2]
    | [c, a], hf =>
      have hc := hf c (by simp)
      have ha := hf a (by simp)
      have h1 := ih [a] (by simp at hl ⊢; omega) (fun x hx => hf x (List.mem_cons_of_mem _ hx)) (by simp) (by simpa using hlast)
      have e : lineD eol [c, a] = c :: lineD eol [a] := by simp [lineD, scanL]
      rw [e, h1]
      simp [dS, ha.1, ha.2, hc.1, hc.2]
    | c :: a :: d :: l', hf =>
      have hc := hf c (by simp)
      have ha := hf a (by simp)
      have hl' : l'.length + 3 ≤ n + 1 := by simpa using hl
      have h2 := ih (a :: d :: l') (by simp; omega) (fun x hx => hf x (List.mem_cons_of_mem _ hx)) (by simp) (by simpa using hlast)
      by_cases h61 : c = 61
      · subst h61
        by_cases hh : isHex a = true ∧ isHex d = true
        · rw [dS_hex hh.1 hh.2]
          by_cases hnil : l' = []
          · subst hnil
            simp [lineD, scanL, hh.1, hh.2, dS]
          · have h1 := ih l' (by omega) (fun x hx => hf x (by simp [hx])) hnil (by
              obtain ⟨x, y, rfl⟩ := List.exists_cons_of_ne_nil hnil
              simpa using hlast)
            have e : lineD eol (61 :: a :: d :: l') = unhex a d :: lineD eol l' := by simp [lineD, scanL, hh.1, hh.2]
            rw [e, h1]
            rfl
        · rw [dS_no ha.1 ha.2 hh]
          have : (isHex a && isHex d) = false := by
            cases h3 : isHex a <;> cases h4 : isHex d <;> simp_all
          have e : lineD eol (61 :: a :: d :: l') = 61 :: lineD eol (a :: d :: l') := by simp [lineD, scanL, this]
          rw [e, h2]
          rfl
      · rw [dS_ch hc.1 hc.2 h61]
        have e : lineD eol (c :: a :: d :: l') = c :: lineD eol (a :: d :: l') := by simp [lineD, scanL, h61]
        rw [e, h2]
        rfl
end
end Mine
end

section
open PySem
set_option Elab.async false
set_option maxRecDepth 100000
namespace Mine

def okc (c : Nat) : Prop := c = 10 ∨ c = 13 ∨ (32 ≤ c ∧ c ≤ 126)
theorem lb_no : ∀ c ≤ 126, 32 ≤ c → Unicode.isLineBreak c = false := by decide +kernel
theorem sp_no : ∀ c ≤ 126, 33 ≤ c → Unicode.isSpace c = false := by decide +kernel
theorem lb_10 : Unicode.isLineBreak 10 = true := by decide +kernel
theorem lb_13 : Unicode.isLineBreak 13 = true := by decide +kernel

theorem segs_10 {acc r : List Nat} : segs false acc (10 :: r) = acc :: segs false [] r := by
  conv => lhs; unfold segs
  rw [if_pos lb_10]
  rfl
theorem segs_1310 {acc r : List Nat} : segs false acc (13 :: 10 :: r) = acc :: segs false [] r := by
  conv => lhs; unfold segs
  rw [if_pos lb_13]
  rfl
theorem segs_13 {acc r : List Nat} (h : r.head? ≠ some 10) : segs false acc (13 :: r) = acc :: segs false [] r := by
  conv => lhs; unfold segs
  rw [if_pos lb_13]
  have : (r.head? == some 10) = false := by simpa using h
  rw [this]
  rfl
theorem segs_c {c : Nat} {acc r : List Nat} (h1 : 32 ≤ c) (h2 : c ≤ 126) : segs false acc (c :: r) = segs false (acc ++ [c]) r := by
  conv => lhs; unfold segs
  rw [lb_no c h2 h1]
  rfl

/-- how a text begins -/
theorem head_cases (t : List Nat) (h : ∀ c ∈ t, okc c) : t = [] ∨ (∃ r, t = 10 :: r) ∨ (∃ r, t = 13 :: 10 :: r) ∨ (∃ r, t = 13 :: r ∧ r.head? ≠ some 10) ∨ ∃ c r, t = c :: r ∧ 32 ≤ c ∧ c ≤ 126 := by
  cases t with
  | nil => exact .inl rfl
  | cons c r =>
    rcases h c (by simp) with rfl | rfl | ⟨h1, h2⟩
    · exact .inr (.inl ⟨r, rfl⟩)
    · by_cases hr : r.head? = some 10
      · cases r with
        | nil => cases hr
        | cons a r =>
          cases hr
          exact .inr (.inr (.inl ⟨r, rfl⟩))
      · exact .inr (.inr (.inr (.inl ⟨r, rfl, hr⟩)))
    · exact .inr (.inr (.inr (.inr ⟨c, r, rfl, h1, h2⟩)))

/-- the text's last line has no end -/
def openEnd (t : List Nat) : Bool := match t.getLast? with
  | some c => !decide (c ∈ [13, 10])
  | none => false
theorem openEnd_app {a b : List Nat} (h : b ≠ []) : openEnd (a ++ b) = openEnd b := by
  unfold openEnd
  rw [List.getLast?_append]
  cases e : b.getLast? with
  | none => exact absurd (List.getLast?_eq_none_iff.mp e) h
  | some c => rfl

variable {eol : List Nat}
theorem raw_all : ∀ (n : Nat) (t acc : List Nat), t.length ≤ n → (∀ c ∈ t, okc c) → free acc → (acc ++ t).getLast? ≠ some 61 →
    (segs false acc t).flatMap (lineD eol) = dS eol (acc ++ t) ++ (if openEnd (acc ++ t) = true then eol else []) := by
  have stop : ∀ (acc nl r Y : List Nat), free acc → (∀ x ∈ nl, x = 10 ∨ x = 13) → nl ≠ [] → dS eol (nl ++ r) = eol ++ dS eol r → dS eol (61 :: (nl ++ r)) = dS eol r →
      (segs false [] r).flatMap (lineD eol) = dS eol r ++ (if openEnd r = true then eol else []) →
      lineD eol acc ++ (segs false [] r).flatMap (lineD eol) = dS eol (acc ++ (nl ++ r)) ++ (if openEnd (acc ++ (nl ++ r)) = true then eol else []) := by
    intro acc nl r Y hf hnl hne h0 hs ih
    obtain ⟨b, nl', rfl⟩ := List.exists_cons_of_ne_nil hne
    have hb : isHex b = false := by rcases hnl b (by simp) with rfl | rfl <;> decide
    rw [line_end h0 hs ⟨b, nl' ++ r, rfl, hb⟩ acc.length acc (Nat.le_refl _) hf, ih, List.append_assoc]
    congr 2
    by_cases hr : r = []
    · subst hr
      rw [List.append_nil, openEnd_app (by simp)]
      have : openEnd (b :: nl') = false := by
        unfold openEnd
        cases e : (b :: nl').getLast? with
        | none => rfl
        | some c =>
          have hm : c ∈ b :: nl' := List.mem_of_getLast? e
          rcases hnl c hm with rfl | rfl <;> decide
      rw [this]
      rfl
    · rw [← List.append_assoc, openEnd_app hr]
  intro n
  induction n with
  | zero =>
    intro t acc hl _ hf hlast
    have : t = [] := List.length_eq_zero_iff.mp (Nat.le_zero.mp hl)
    subst this
    rw [List.append_nil] at hlast ⊢
    unfold segs
    by_cases ha : acc = []
    · subst ha
      simp [dS, openEnd]
    · rw [if_neg ha]
      have ho : openEnd acc = true := by
        unfold openEnd
        cases e : acc.getLast? with
        | none => exact absurd (List.getLast?_eq_none_iff.mp e) ha
        | some c =>
          have := hf c (List.mem_of_getLast? e)
          simp [this.1, this.2]
      rw [ho, if_pos rfl, ← line_last acc.length acc (Nat.le_refl _) hf ha hlast]
      simp
  | succ n ih =>
    intro t acc hl hok hf hlast
    have tl : ∀ {nl r : List Nat}, t = nl ++ r → (([] : List Nat) ++ r).getLast? ≠ some 61 := by
      intro nl r e
      rw [e] at hlast
      rw [List.nil_append]
      intro hr
      apply hlast
      rw [List.getLast?_append, List.getLast?_append, hr]
      rfl
    rcases head_cases t hok with rfl | ⟨r, rfl⟩ | ⟨r, rfl⟩ | ⟨r, rfl, hr⟩ | ⟨c, r, rfl, h1, h2⟩
    · exact ih [] acc (Nat.zero_le _) hok hf hlast
    · rw [segs_10, List.flatMap_cons]
      exact stop acc [10] r [] hf (by simp) (by simp) dS_10 dS_s10 (by simpa using ih r [] (by simpa using hl) (fun c hc => hok c (by simp [hc])) (fun c hc => by cases hc) (tl (nl := [10]) rfl))
    · rw [segs_1310, List.flatMap_cons]
      exact stop acc [13, 10] r [] hf (by simp) (by simp) dS_1310 dS_s1310 (by simpa using ih r [] (by simp at hl; omega) (fun c hc => hok c (by simp [hc])) (fun c hc => by cases hc) (tl (nl := [13, 10]) rfl))
    · rw [segs_13 hr, List.flatMap_cons]
      exact stop acc [13] r [] hf (by simp) (by simp) (dS_13 hr) (dS_s13 hr) (by simpa using ih r [] (by simpa using hl) (fun c hc => hok c (by simp [hc])) (fun c hc => by cases hc) (tl (nl := [13]) rfl))
    · rw [segs_c h1 h2]
      have e : acc ++ c :: r = (acc ++ [c]) ++ r := by simp
      rw [e] at hlast ⊢
      refine ih r (acc ++ [c]) (by simpa using hl) (fun c hc => hok c (by simp [hc])) ?_ hlast
      intro x hx
      rcases List.mem_append.mp hx with hx | hx
      · exact hf x hx
      · rw [List.mem_singleton.mp hx]
        exact ⟨by omega, by omega⟩

theorem decD_eq {t : List Nat} (hok : ∀ c ∈ t, okc c) (hlast : t.getLast? ≠ some 61) (he : eol ≠ [] ∨ openEnd t = false) : decD eol t = dS eol t := by
  have raw : rawD eol t = dS eol t ++ (if openEnd t = true then eol else []) := by
    have := raw_all (eol := eol) t.length t [] (Nat.le_refl _) hok (fun c hc => by cases hc) (by simpa using hlast)
    rw [List.nil_append] at this
    exact this
  have e1 : decD eol t = if t = [] then [] else if (openEnd t && (decide (eol.length ≤ (rawD eol t).length) && ((rawD eol t).drop ((rawD eol t).length - eol.length) == eol))) = true
    then pySlice (rawD eol t) none (some (-(eol.length : Int))) else rawD eol t := rfl
  rw [e1]
  by_cases ht : t = []
  · subst ht
    rw [if_pos rfl]
    simp [dS]
  rw [if_neg ht]
  cases ho : openEnd t with
  | false =>
    rw [Bool.false_and, if_neg (by decide), raw, ho]
    simp
  | true =>
    have hne : eol ≠ [] := by
      rcases he with h | h
      · exact h
      · rw [ho] at h; cases h
    rw [ho, if_pos rfl] at raw
    have hlen : eol.length ≤ (rawD eol t).length := by rw [raw, List.length_append]; omega
    have hdrop : (rawD eol t).drop ((rawD eol t).length - eol.length) = eol := by
      rw [raw, List.length_append, Nat.add_sub_cancel]
      simp
    rw [hdrop, Bool.true_and, decide_eq_true hlen, Bool.true_and, beq_self_eq_true, if_pos rfl]
    have hpos : 0 < eol.length := List.length_pos_iff.mpr hne
    rw [raw] at hlen ⊢
    have : pySlice (dS eol t ++ eol) none (some (-(eol.length : Int))) = (dS eol t ++ eol).take ((dS eol t ++ eol).length - eol.length) := by
      unfold pySlice bnd
      have h1 : (-(eol.length : Int)) < 0 := by omega
      simp only [if_pos h1]
      rw [List.drop_zero, Nat.sub_zero]
      congr 1
      rw [List.length_append] at *
      omega
    rw [this, List.length_append, Nat.add_sub_cancel]
    simp

/-- no blank stands before an end -/
def noSp (t : List Nat) : Prop := ∀ u v, t = u ++ 32 :: v → ∃ c w, v = c :: w ∧ c ≠ 10 ∧ c ≠ 13
theorem lines_sp : ∀ (n : Nat) (t acc : List Nat), t.length ≤ n → (∀ c ∈ t, okc c) → (∀ c ∈ acc, 32 ≤ c ∧ c ≤ 126) → noSp (acc ++ t) → ∀ l ∈ segs false acc t, ∀ x, l.getLast? = some x → Unicode.isSpace x = false := by
  have one : ∀ (acc t : List Nat), (∀ c ∈ acc, 32 ≤ c ∧ c ≤ 126) → noSp (acc ++ t) → (t = [] ∨ ∃ c r, t = c :: r ∧ (c = 10 ∨ c = 13)) → ∀ x, acc.getLast? = some x → Unicode.isSpace x = false := by
    intro acc t ha hn ht x hx
    have hm := ha x (List.mem_of_getLast? hx)
    by_cases h32 : x = 32
    · subst h32
      obtain ⟨u, hu⟩ : ∃ u, acc = u ++ [32] := by
        rw [List.getLast?_eq_some_iff] at hx
        exact hx
      obtain ⟨c, w, hv, h1, h2⟩ := hn u t (by rw [hu]; simp)
      rcases ht with rfl | ⟨c', r, rfl, h⟩
      · cases hv
      · cases hv
        rcases h with h | h
        · exact absurd h h1
        · exact absurd h h2
    · exact sp_no x hm.2 (by omega)
  have cut : ∀ (acc nl r : List Nat), noSp (acc ++ (nl ++ r)) → noSp ([] ++ r) := by
    intro acc nl r h u v e
    exact h (acc ++ nl ++ u) v (by rw [List.nil_append] at e; rw [e]; simp)
  intro n
  induction n with
  | zero =>
    intro t acc hl _ ha hn l hm x hx
    have : t = [] := List.length_eq_zero_iff.mp (Nat.le_zero.mp hl)
    subst this
    unfold segs at hm
    by_cases he : acc = []
    · rw [if_pos he] at hm; cases hm
    · rw [if_neg he, List.mem_singleton] at hm
      subst hm
      exact one l [] ha hn (.inl rfl) x hx
  | succ n ih =>
    intro t acc hl hok ha hn l hm x hx
    rcases head_cases t hok with rfl | ⟨r, rfl⟩ | ⟨r, rfl⟩ | ⟨r, rfl, hr⟩ | ⟨c, r, rfl, h1, h2⟩
    · exact ih [] acc (Nat.zero_le _) hok ha hn l hm x hx
    · rw [segs_10] at hm
      rcases List.mem_cons.mp hm with rfl | hm
      · exact one l _ ha hn (.inr ⟨10, r, rfl, .inl rfl⟩) x hx
      · exact ih r [] (by simpa using hl) (fun c hc => hok c (by simp [hc])) (fun c hc => by cases hc) (cut acc [10] r hn) l hm x hx
    · rw [segs_1310] at hm
      rcases List.mem_cons.mp hm with rfl | hm
      · exact one l _ ha hn (.inr ⟨13, 10 :: r, rfl, .inr rfl⟩) x hx
      · exact ih r [] (by simp at hl; omega) (fun c hc => hok c (by simp [hc])) (fun c hc => by cases hc) (cut acc [13, 10] r hn) l hm x hx
    · rw [segs_13 hr] at hm
      rcases List.mem_cons.mp hm with rfl | hm
      · exact one l _ ha hn (.inr ⟨13, r, rfl, .inr rfl⟩) x hx
      · exact ih r [] (by simpa using hl) (fun c hc => hok c (by simp [hc])) (fun c hc => by cases hc) (cut acc [13] r hn) l hm x hx
    · rw [segs_c h1 h2] at hm
      refine ih r (acc ++ [c]) (by simpa using hl) (fun c hc => hok c (by simp [hc])) ?_ (by simpa using hn) l hm x hx
      intro y hy
      rcases List.mem_append.mp hy with hy | hy
      · exact ha y hy
      · rw [List.mem_singleton.mp hy]
        exact ⟨h1, h2⟩
theorem hsp_of {t : List Nat} (hok : ∀ c ∈ t, okc c) (hn : noSp t) : ∀ l ∈ linesL t, ∀ x, l.getLast? = some x → Unicode.isSpace x = false :=
  lines_sp t.length t [] (Nat.le_refl _) hok (fun c hc => by cases hc) (by simpa using hn)
end Mine
end

section
open PySem PySem.W PyProof.Rows
set_option Elab.async false
set_option maxRecDepth 100000
set_option maxHeartbeats 8000000
namespace Mine
open_top hd for PySem.Challenge.rw_wn0030_02
end Mine
end

section
open PySem PySem.W PyProof.Rows PySem.Calls PySem.Spec
set_option Elab.async false
set_option maxRecDepth 100000
namespace Mine
noncomputable abbrev KK (P : Params) : Frag := Mine.hd.heap_39 P

theorem b_chr : bootBuiltins "chr" = some (.builtin "chr") := by boot_fast
theorem b_ord : bootBuiltins "ord" = some (.builtin "ord") := by boot_fast
theorem b_len : bootBuiltins "len" = some (.builtin "len") := by boot_fast
theorem b_range : bootBuiltins "range" = some (.type "range") := by boot_fast
theorem b_int : bootBuiltins "int" = some (.type "int") := by boot_fast

section
variable {c : FC} {P : Params} {d : Nat}
theorem isB {x : Str} {v : Value} (hK : c.K = KK P) (hg : c.glo x) (hn : nsIn (KK P) mainGlobals x = some none) (hb : bootBuiltins x = some v) (h1 : x ≠ "__name__" := by decide) (h2 : (x == ("__debug__" : Str)) = false := by rfl) : IsB c x v :=
  ⟨hg, by rw [hK]; exact hn, hb, h1, h2⟩
theorem isD {x : Str} {f : Addr} (hK : c.K = KK P) (hg : c.glo x) (hn : nsIn (KK P) mainGlobals x = some (some (.ref f))) (hk : keepIn (KK P) (.ref f) = true) (h2 : (x == ("__debug__" : Str)) = false := by rfl) : IsD c x f :=
  ⟨hg, by rw [hK]; exact hn, by rw [hK]; exact hk, h2⟩

theorem unquote_ok (hK : c.K = KK P) (T : Stat c (d + 1)) {e a b i j : Nat} (ha : hexv a = some i) (hb : hexv b = some j) : FnOk c 38 [.str [e, a, b]] (.str [16 * i + j]) := by
  refine FnOk.of_body (σ₀ := [("s", .str [e, a, b])]) (body := ?_) T (by rw [hK]; exact rfl) (by rw [hK]; exact rfl) ?_ rfl rfl rfl (by decide) ?_
  · intro s vs _ r
    simp only [RepL] at r
    obtain ⟨v, _, rfl, r, rfl⟩ := r
    exact ⟨[("s", v)], BindsTo.of_eq rfl, locs rfl, EnvR.of_binds (b := [("s", v)]) ⟨rfl, r, trivial⟩⟩
  · intro g L' T'
    refine ⟨_, Exs.one (Ex1.ret ?_), .inl rfl⟩
    have hi := (hexv_digit ha).2.1
    have hj := (hexv_digit hb).2.1
    refine Ev.call_b T' (isB hK rfl rfl b_chr) (EvL.cons (Ev.call_t T' (isB hK rfl rfl b_int) (EvL.cons (Ev.slice_str (Ev.name T' rfl rfl rfl) (a := some 1) (b := some 3) Ev.int Ev.int ?_) (EvL.cons Ev.int EvL.nil)) (OpN.int16 ha hb)) EvL.nil) (OpN.chr (i := ((16 * i + j : Nat) : Int)) ?_ ?_)
    · show 3 ≤ sizeLine
      decide
    · omega
    · omega

theorem lit_eq : Str.ofString "=" = ⟨[61].toArray⟩ := rfl
theorem lit_empty : Str.ofString "" = ⟨([] : List Nat).toArray⟩ := rfl
theorem lit_crlf : Str.ofString "\x0d\n" = ⟨[13, 10].toArray⟩ := rfl
theorem k_unq : nsIn (KK P) mainGlobals "unquote" = some (some (.ref 38)) := rfl
theorem keep_unq : keepIn (KK P) (.ref 38) = true := rfl
theorem k_hex : nsIn (KK P) mainGlobals "hexdigits" = some (some (.str ⟨hexD.toArray⟩ 298)) := rfl

theorem decode_ok (hK : c.K = KK P) (T : Stat c (d + 2)) {enc eol : List Nat} (hsz : enc.length + (enc.length + 1) * eol.length ≤ 1000000) (hsp : ∀ l ∈ linesL enc, ∀ n, l.getLast? = some n → Unicode.isSpace n = false)
    {ps : List PV} (hps : ps = [.str enc, .str eol] ∨ (ps = [.str enc] ∧ eol = [10])) : FnOk c 46 ps (.str (decD eol enc)) := by
  refine FnOk.of_body (d := d + 1) (σ₀ := [("eol", .str eol), ("encoded", .str enc)]) (body := ?_) T (by rw [hK]; exact rfl) (by rw [hK]; exact rfl) ?_ rfl rfl rfl (by decide) ?_
  · intro s vs hX r
    rcases hps with rfl | ⟨rfl, rfl⟩
    · simp only [RepL] at r
      obtain ⟨v, _, rfl, r, v', _, rfl, r', rfl⟩ := r
      rw [hK] at hX
      exact ⟨[("encoded", v), ("eol", v')], W.binds_K hX rfl (show (KK P).lookup 39 = some _ from rfl) rfl rfl rfl, locs rfl, EnvR.of_binds (b := [("eol", v'), ("encoded", v)]) ⟨rfl, r', rfl, r, trivial⟩⟩
    · simp only [RepL] at r
      obtain ⟨v, _, rfl, r, rfl⟩ := r
      rw [hK] at hX
      exact ⟨[("encoded", v), ("eol", vstr [10] 284)], W.binds_K hX rfl (show (KK P).lookup 39 = some _ from rfl) rfl rfl rfl, locs rfl, EnvR.of_binds (b := [("eol", vstr [10] 284), ("encoded", v)]) ⟨rfl, ⟨_, rfl⟩, rfl, r, trivial⟩⟩
  · intro g L' T'
    by_cases he : enc = []
    · subst he
      refine ⟨_, Exs.stop (Ex1.ite_true (EvB.cast (EvB.not (EvB.plain (Ev.name T' rfl rfl rfl) (Tru.str (by decide)))) rfl) (Exs.stop (Ex1.ret (Ev.name T' rfl rfl rfl)) trivial)) trivial, .inl ?_⟩
      rfl
    · refine ⟨.ret (.str (decD eol enc)), ?_, .inl rfl⟩
      have hne : enc.length ≠ 0 := fun h => he (List.length_eq_zero_iff.mp h)
      have hL := lines_len enc
      have hS := lines_sum enc
      refine Exs.cons (S₁ := (_, none)) (Ex1.ite_false (EvB.cast (EvB.not (EvB.plain (Ev.name T' rfl rfl rfl) (Tru.str (by omega)))) (by simp [he])) Exs.nil) ?_
      refine Exs.cons (Ex1.assign T' rfl (Ev.str lit_empty) trivial trivial) ?_
      -- the lines
      have hLE : (linesL enc).length * eol.length ≤ (enc.length + 1) * eol.length := Nat.mul_le_mul_right _ hL
      have hraw : (rawD eol enc).length ≤ 1000000 := by
        have := flatD_len eol (linesL enc)
        unfold rawD
        omega
      obtain ⟨pr, hpr⟩ : ∃ pr : Nat → List Nat, ∀ i, pr i = ((linesL enc).take i).flatMap (lineD eol) := ⟨_, fun _ => rfl⟩
      have hmono : ∀ i, (pr i).length ≤ 1000000 := by
        intro i
        rw [hpr]
        have e : rawD eol enc = ((linesL enc).take i).flatMap (lineD eol) ++ ((linesL enc).drop i).flatMap (lineD eol) := by
          unfold rawD
          rw [← List.flatMap_append, List.take_append_drop]
        rw [e, List.length_append] at hraw
        omega
      have hstep : ∀ i l, (linesL enc)[i]? = some l → pr (i + 1) = pr i ++ lineD eol l := by
        intro i l h
        rw [hpr, hpr, List.take_add_one, h, List.flatMap_append]
        simp
      have hp0 : pr 0 = [] := by rw [hpr]; simp
      have hpn : pr (linesL enc).length = rawD eol enc := by rw [hpr, List.take_length]; rfl
      clear hpr
      refine Exs.cons (S₁ := ([("decoded", .str (rawD eol enc)), ("encoded", .str enc), ("eol", .str eol)], none)) (Ex1.for_list (l := (linesL enc).map .str) rfl ?_ ?_ ?_) ?_
      · exact Ev.meth0 (Ev.name T' rfl rfl rfl) MethOf.splitlines (OpN.splitlines (by rw [sizeLine_eq]; omega)) ⟨_, rfl⟩
      · refine Fo.pre (S₁ := ([("decoded", .str (pr 0)), ("encoded", .str enc), ("eol", .str eol)], none)) ?_ ⟨rfl, by rw [hp0]; rfl, rfl, rfl, trivial⟩
        refine Fo.fam (F := fun i => ([("decoded", .str (pr i)), ("encoded", .str enc), ("eol", .str eol)], none)) (I := fun _ => True)
          (o := fun _ => .next ([("decoded", .str (rawD eol enc)), ("encoded", .str enc), ("eol", .str eol)], none)) ?_ ?_ trivial
        · intro _
          rw [List.length_map]
          refine ⟨rfl, ?_, rfl, rfl, trivial⟩
          rw [hpn]
          rfl
        · intro q p hp _
          rw [List.getElem?_map] at hp
          cases hl : (linesL enc)[q]? with
          | none => rw [hl] at hp; cases hp
          | some l =>
            rw [hl] at hp
            cases hp
            have hmem : l ∈ linesL enc := List.mem_of_getElem? hl
            have hll : l.length ≤ enc.length := Nat.le_trans (sum_mem hmem) hS
            have hpre := hmono q
            have hnext := hstep q l hl
            have hel : eol.length ≤ 1000000 := by
              have : 1 * eol.length ≤ (enc.length + 1) * eol.length := Nat.mul_le_mul_right _ (by omega)
              omega
            by_cases hnil : l = []
            · subst hnil
              refine FoStep.cont _ (AsgT.name T' rfl trivial trivial) ?_ trivial rfl
              refine Exs.cons (Ex1.assign T' rfl (Ev.meth0 (Ev.name T' rfl rfl rfl) MethOf.rstrip (OpN.rstrip (by rw [sizeLine_eq]; omega) (hsp _ hmem)) ⟨_, rfl⟩) trivial trivial) ?_
              refine Ex.post (o := .cont _) (Exs.stop (Ex1.ite_true (EvB.cast (EvB.not (EvB.plain (Ev.name T' rfl rfl rfl) (Tru.str (by decide)))) rfl)
                (Exs.cons (Ex1.aug T' rfl rfl (Ev.name T' rfl rfl rfl) (Op2.iaddS (by rw [sizeLine_eq]; omega)) trivial trivial) (Exs.stop Ex1.cont trivial))) trivial) ?_
              refine ⟨rfl, ?_, rfl, rfl, trivial⟩
              rw [hnext]
              rfl
            · have hlen : l.length ≠ 0 := fun h => hnil (List.length_eq_zero_iff.mp h)
              refine FoStep.next _ (AsgT.name T' rfl trivial trivial) ?_ trivial rfl
              refine Exs.cons (Ex1.assign T' rfl (Ev.meth0 (Ev.name T' rfl rfl rfl) MethOf.rstrip (OpN.rstrip (by rw [sizeLine_eq]; omega) (hsp _ hmem)) ⟨_, rfl⟩) trivial trivial) ?_
              refine Exs.cons (Ex1.ite_false (EvB.cast (EvB.not (EvB.plain (Ev.name T' rfl rfl rfl) (Tru.str (by omega)))) (by simp [hnil])) Exs.nil) ?_
              refine Exs.cons (Ex1.assign T' rfl Ev.int trivial trivial) ?_
              refine Exs.cons (Ex1.assign T' rfl (Ev.call_b T' (isB hK rfl rfl b_len) (EvL.cons (Ev.name T' rfl rfl rfl) EvL.nil) (OpN.lenS (by omega))) trivial trivial) ?_
              have hsc := scanL_len eol l
              refine Exs.one (Ex.post (o := .next ([("decoded", .str (pr q ++ scanL eol l)), ("encoded", .str enc), ("eol", .str eol)], none)) ?_ ⟨rfl, ?_, rfl, rfl, trivial⟩)
              · refine Ex.post (o := .next ([("decoded", .str (pr q ++ scanL eol l)), ("i", .int l.length), ("line", .str l), ("n", .int l.length), ("encoded", .str enc), ("eol", .str eol)], none)) ?_ ⟨rfl, rfl, rfl, rfl, trivial⟩
                refine Ex1.while_fam (ι := Nat × List Nat) (F := fun x => ([("decoded", .str (pr q ++ x.2)), ("i", .int x.1), ("line", .str l), ("n", .int l.length), ("encoded", .str enc), ("eol", .str eol)], none))
                  (I := fun x => x.1 ≤ l.length ∧ x.2 ++ scanL eol (l.drop x.1) = scanL eol l) (μ := fun x => l.length - x.1)
                  (o := fun _ => .next ([("decoded", .str (pr q ++ scanL eol l)), ("i", .int l.length), ("line", .str l), ("n", .int l.length), ("encoded", .str enc), ("eol", .str eol)], none))
                  (0, []) ⟨Nat.zero_le _, by simp⟩ ⟨rfl, by rw [List.append_nil]; rfl, rfl, rfl, rfl, rfl, rfl, trivial⟩ ?_
                rintro ⟨i, a⟩ ⟨hi, ha⟩
                dsimp only at hi ha
                by_cases hin : i = l.length
                · subst hin
                  rw [List.drop_length] at ha
                  simp only [scanL, List.append_nil] at ha
                  subst ha
                  refine WhStep.exit (EvB.compare (Ev.name T' rfl rfl rfl) (Ev.name T' rfl rfl rfl) ?_) ⟨rfl, rfl, rfl, rfl, rfl, rfl, rfl, trivial⟩
                  exact (show decide (((l.length : Nat) : Int) < ((l.length : Nat) : Int)) = false by simp) ▸ Op2.ltI
                · have hlt : i < l.length := by omega
                  have hal : a.length ≤ l.length + eol.length := by
                    have := congrArg List.length ha
                    rw [List.length_append] at this
                    omega
                  have hget : l[i]? = some l[i] := by simp [hlt]
                  have hidx : ∀ k : Nat, k < l.length → pyIdx ((k : Nat) : Int) l.length = some k := fun k hk => pyIdx_nat hk
                  have hd : l.drop i = l[i] :: l.drop (i + 1) := List.drop_eq_getElem_cons hlt
                  -- a sign that is taken as it stands
                  have plain : scanL eol (l.drop i) = l[i] :: (if i + 1 = l.length then eol else scanL eol (l.drop (i + 1))) →
                      (a ++ [l[i]] ++ (if i + 1 = l.length then eol else [])) ++ scanL eol (l.drop (i + 1)) = scanL eol l := by
                    intro h
                    rw [← ha, h]
                    by_cases h1 : i + 1 = l.length
                    · rw [if_pos h1, if_pos h1, h1, List.drop_length]
                      simp [scanL]
                    · rw [if_neg h1, if_neg h1]
                      simp
                  by_cases hc : l[i] = 61
                  · by_cases h1 : i + 1 = l.length
                    · -- at the end
                      refine WhStep.cont (i + 1, a) ⟨by dsimp only; omega, ?_⟩ (by dsimp only; omega) rfl (EvB.compare (Ev.name T' rfl rfl rfl) (Ev.name T' rfl rfl rfl) ((show decide (((i : Nat) : Int) < ((l.length : Nat) : Int)) = true by simp [hlt]) ▸ Op2.ltI)) ?_
                      · dsimp only
                        rw [← ha, hd, h1, List.drop_length, hc]
                        simp [scanL]
                      · refine Exs.cons (Ex1.assign T' rfl (Ev.item_str (Ev.name T' rfl rfl rfl) (Ev.name T' rfl rfl rfl) (by rw [hidx i hlt]; exact hget) (by omega)) trivial trivial) ?_
                        refine Ex.post (o := .cont _) (Exs.stop (Ex1.ite_false (EvB.compare (Ev.name T' rfl rfl rfl) (Ev.str lit_eq) ((show ([l[i]] != [61]) = false by rw [hc]; rfl) ▸ Op2.neS)) (Exs.stop (Ex1.ite_true (EvB.compare (Ev.binop (Ev.name T' rfl rfl rfl) Ev.int Op2.addI) (Ev.name T' rfl rfl rfl) ((show (((i : Nat) : Int) + 1 == ((l.length : Nat) : Int)) = true by simp; omega) ▸ Op2.eqI))
                          (Exs.cons (Ex1.aug T' rfl rfl Ev.int Op2.iaddI trivial trivial) (Exs.stop Ex1.cont trivial))) trivial)) trivial) ?_
                        exact ⟨rfl, rfl, rfl, rfl, rfl, rfl, rfl, trivial⟩
                    · have g1 : i + 1 < l.length := by omega
                      have x1 : (pyIdx (((i : Nat) : Int) + 1) l.length).bind (l[·]?) = some l[i + 1] := by
                        rw [show ((i : Nat) : Int) + 1 = ((i + 1 : Nat) : Int) by omega, hidx (i + 1) g1]; simp [g1]
                      by_cases hall : ∃ h : i + 2 < l.length, isHex l[i + 1] = true ∧ isHex (l[i + 2]'h) = true
                      · -- an escape
                        obtain ⟨g2, hx1, hx2⟩ := hall
                        have x2 : (pyIdx (((i : Nat) : Int) + 2) l.length).bind (l[·]?) = some l[i + 2] := by
                          rw [show ((i : Nat) : Int) + 2 = ((i + 2 : Nat) : Int) by omega, hidx (i + 2) g2]; simp [g2]
                        obtain ⟨u1, hu1⟩ := Option.isSome_iff_exists.mp hx1
                        obtain ⟨u2, hu2⟩ := Option.isSome_iff_exists.mp hx2
                        have hun : unhex l[i + 1] l[i + 2] = 16 * u1 + u2 := by unfold unhex; rw [hu1, hu2]; rfl
                        have hd3 : l.drop i = l[i] :: l[i + 1] :: l[i + 2] :: l.drop (i + 3) := by
                          rw [hd, List.drop_eq_getElem_cons g1, List.drop_eq_getElem_cons g2]
                        refine WhStep.next (i + 3, a ++ [16 * u1 + u2] ++ (if i + 3 = l.length then eol else [])) ⟨by dsimp only; omega, ?_⟩ (by dsimp only; omega) rfl (EvB.compare (Ev.name T' rfl rfl rfl) (Ev.name T' rfl rfl rfl) ((show decide (((i : Nat) : Int) < ((l.length : Nat) : Int)) = true by simp [hlt]) ▸ Op2.ltI)) ?_
                        · dsimp only
                          rw [← ha, hd3, hc]
                          have h2 : l.drop (i + 3) = [] ↔ i + 3 = l.length := by rw [List.drop_eq_nil_iff]; omega
                          simp only [scanL, if_true, hx1, hx2, Bool.and_self, hun]
                          by_cases h3 : i + 3 = l.length
                          · rw [if_pos h3, if_pos (h2.mpr h3), h2.mpr h3]
                            simp [scanL]
                          · rw [if_neg h3, if_neg (fun h => h3 (h2.mp h))]
                            simp
                        · refine Exs.cons (Ex1.assign T' rfl (Ev.item_str (Ev.name T' rfl rfl rfl) (Ev.name T' rfl rfl rfl) (by rw [hidx i hlt]; exact hget) (by omega)) trivial trivial) ?_
                          refine Exs.cons (Ex1.ite_false (EvB.compare (Ev.name T' rfl rfl rfl) (Ev.str lit_eq) ((show ([l[i]] != [61]) = false by rw [hc]; rfl) ▸ Op2.neS)) (Exs.one (Ex1.ite_false (EvB.compare (Ev.binop (Ev.name T' rfl rfl rfl) Ev.int Op2.addI) (Ev.name T' rfl rfl rfl) ((show (((i : Nat) : Int) + 1 == ((l.length : Nat) : Int)) = false by simp; omega) ▸ Op2.eqI))
                            (Exs.one (Ex1.ite_true ?_ (Exs.cons (Ex1.aug T' rfl rfl (Ev.call_d T' (isD hK rfl k_unq keep_unq) (EvL.cons (Ev.cast (Ev.slice_str (Ev.name T' rfl rfl rfl) (a := some ((i : Nat) : Int)) (b := some (((i : Nat) : Int) + 3)) (Ev.name T' rfl rfl rfl) (Ev.binop (Ev.name T' rfl rfl rfl) Ev.int Op2.addI) (by rw [sizeLine_eq]; omega)) (by rw [pySlice_three l g2])) EvL.nil) (unquote_ok (P := P) (c := FC.into c 46 _ _ _ g L') hK T' hu1 hu2)) (Op2.iaddS (by rw [sizeLine_eq, List.length_append]; simp; omega)) trivial trivial) (Exs.one (Ex1.aug T' rfl rfl Ev.int Op2.iaddI trivial trivial)))))))) ?_
                          · refine EvB.cast (EvB.and (a := true) (EvB.cast (EvB.compare (Ev.binop (Ev.name T' rfl rfl rfl) Ev.int Op2.addI) (Ev.name T' rfl rfl rfl) Op2.ltI) (by simp; omega)) fun _ =>
                              EvB.and (a := true) (EvB.cast (EvB.compare (Ev.item_str (Ev.name T' rfl rfl rfl) (Ev.binop (Ev.name T' rfl rfl rfl) Ev.int Op2.addI) x1 (by omega)) (Ev.global_str T' rfl (by exact (hK ▸ k_hex))) Op2.inS) (by rw [isHex_mem]; exact hx1)) fun _ =>
                              EvB.and (a := true) (EvB.cast (EvB.compare (Ev.item_str (Ev.name T' rfl rfl rfl) (Ev.binop (Ev.name T' rfl rfl rfl) Ev.int Op2.addI) x2 (by omega)) (Ev.global_str T' rfl (by exact (hK ▸ k_hex))) Op2.inS) (by rw [isHex_mem]; exact hx2)) fun _ => EvB.and_nil) rfl
                          · by_cases h1 : i + 3 = l.length
                            · refine Ex.post (o := .next _) (Exs.one (Ex1.ite_true (EvB.compare (Ev.name T' rfl rfl rfl) (Ev.name T' rfl rfl rfl) ((show (((i : Nat) : Int) + 3 == ((l.length : Nat) : Int)) = true by simp; omega) ▸ Op2.eqI))
                                (Exs.one (Ex1.aug T' rfl rfl (Ev.name T' rfl rfl rfl) (Op2.iaddS (by rw [sizeLine_eq, List.length_append, List.length_append]; simp; omega)) trivial trivial)))) ?_
                              refine ⟨rfl, ?_, rfl, rfl, rfl, rfl, rfl, trivial⟩
                              rw [if_pos h1]
                              simp only [← List.append_assoc]
                              rfl
                            · refine Ex.post (o := .next _) (Exs.one (Ex1.ite_false (EvB.compare (Ev.name T' rfl rfl rfl) (Ev.name T' rfl rfl rfl) ((show (((i : Nat) : Int) + 3 == ((l.length : Nat) : Int)) = false by simp; omega) ▸ Op2.eqI)) Exs.nil)) ?_
                              refine ⟨rfl, ?_, rfl, rfl, rfl, rfl, rfl, trivial⟩
                              rw [if_neg h1]
                              simp only [← List.append_assoc, List.append_nil]
                              rfl
                      · -- an equals sign that stands
                        refine WhStep.next (i + 1, a ++ [l[i]] ++ (if i + 1 = l.length then eol else [])) ⟨by dsimp only; omega, ?_⟩ (by dsimp only; omega) rfl (EvB.compare (Ev.name T' rfl rfl rfl) (Ev.name T' rfl rfl rfl) ((show decide (((i : Nat) : Int) < ((l.length : Nat) : Int)) = true by simp [hlt]) ▸ Op2.ltI)) ?_
                        · refine plain ?_
                          rw [if_neg h1, hd]
                          by_cases g2 : i + 2 < l.length
                          · have : ¬ (isHex l[i + 1] = true ∧ isHex l[i + 2] = true) := fun h => hall ⟨g2, h⟩
                            rw [List.drop_eq_getElem_cons g1, List.drop_eq_getElem_cons g2]
                            have h5 : (isHex l[i + 1] && isHex l[i + 2]) = false := by
                              cases hx : isHex l[i + 1] <;> cases hy : isHex l[i + 2] <;> simp_all
                            simp only [scanL, h5, Bool.false_eq_true, if_false, ite_self]
                          · have : l.drop (i + 1) = [l[i + 1]] := by
                              rw [List.drop_eq_getElem_cons g1]
                              have : l.drop (i + 1 + 1) = [] := by rw [List.drop_eq_nil_iff]; omega
                              rw [this]
                            rw [this]
                            simp [scanL]
                        · refine Exs.cons (Ex1.assign T' rfl (Ev.item_str (Ev.name T' rfl rfl rfl) (Ev.name T' rfl rfl rfl) (by rw [hidx i hlt]; exact hget) (by omega)) trivial trivial) ?_
                          refine Exs.cons (Ex1.ite_false (EvB.compare (Ev.name T' rfl rfl rfl) (Ev.str lit_eq) ((show ([l[i]] != [61]) = false by rw [hc]; rfl) ▸ Op2.neS)) (Exs.one (Ex1.ite_false (EvB.compare (Ev.binop (Ev.name T' rfl rfl rfl) Ev.int Op2.addI) (Ev.name T' rfl rfl rfl) ((show (((i : Nat) : Int) + 1 == ((l.length : Nat) : Int)) = false by simp; omega) ▸ Op2.eqI))
                            (Exs.one (Ex1.ite_false ?_ (Exs.cons (Ex1.aug T' rfl rfl (Ev.name T' rfl rfl rfl) (Op2.iaddS (by rw [sizeLine_eq, List.length_append]; simp; omega)) trivial trivial) (Exs.one (Ex1.aug T' rfl rfl Ev.int Op2.iaddI trivial trivial)))))))) ?_
                          · by_cases g2 : i + 2 < l.length
                            · have x2 : (pyIdx (((i : Nat) : Int) + 2) l.length).bind (l[·]?) = some l[i + 2] := by
                                rw [show ((i : Nat) : Int) + 2 = ((i + 2 : Nat) : Int) by omega, hidx (i + 2) g2]; simp [g2]
                              have hnot : (isHex l[i + 1] && isHex l[i + 2]) = false := by
                                have : ¬ (isHex l[i + 1] = true ∧ isHex l[i + 2] = true) := fun h => hall ⟨g2, h⟩
                                cases hx : isHex l[i + 1] <;> cases hy : isHex l[i + 2] <;> simp_all
                              obtain ⟨y1, hy1⟩ : ∃ y, isHex l[i + 1] = y := ⟨_, rfl⟩
                              obtain ⟨y2, hy2⟩ : ∃ y, isHex l[i + 2] = y := ⟨_, rfl⟩
                              refine EvB.cast (EvB.and (a := true) (EvB.cast (EvB.compare (Ev.binop (Ev.name T' rfl rfl rfl) Ev.int Op2.addI) (Ev.name T' rfl rfl rfl) Op2.ltI) (by simp; omega)) fun _ =>
                                EvB.and (a := y1) (EvB.cast (EvB.compare (Ev.item_str (Ev.name T' rfl rfl rfl) (Ev.binop (Ev.name T' rfl rfl rfl) Ev.int Op2.addI) x1 (by omega)) (Ev.global_str T' rfl (by exact (hK ▸ k_hex))) Op2.inS) (by rw [isHex_mem]; exact hy1)) fun _ =>
                                EvB.and (a := y2) (EvB.cast (EvB.compare (Ev.item_str (Ev.name T' rfl rfl rfl) (Ev.binop (Ev.name T' rfl rfl rfl) Ev.int Op2.addI) x2 (by omega)) (Ev.global_str T' rfl (by exact (hK ▸ k_hex))) Op2.inS) (by rw [isHex_mem]; exact hy2)) fun _ => EvB.and_nil) ?_
                              rw [hy1, hy2] at hnot
                              rw [Bool.and_true, hnot]
                              rfl
                            · refine EvB.cast (a := false && true) (EvB.and ?_ fun h => by cases h) rfl
                              exact EvB.cast (EvB.compare (Ev.binop (Ev.name T' rfl rfl rfl) Ev.int Op2.addI) (Ev.name T' rfl rfl rfl) Op2.ltI) (by simp; omega)
                          · refine Ex.post (o := .next _) (Exs.one (Ex1.ite_false (EvB.compare (Ev.name T' rfl rfl rfl) (Ev.name T' rfl rfl rfl) ((show (((i : Nat) : Int) + 1 == ((l.length : Nat) : Int)) = false by simp; omega) ▸ Op2.eqI)) Exs.nil)) ?_
                            refine ⟨rfl, ?_, rfl, rfl, rfl, rfl, rfl, trivial⟩
                            rw [if_neg h1]
                            simp only [← List.append_assoc, List.append_nil]
                            rfl
                  · -- no equals sign
                    refine WhStep.next (i + 1, a ++ [l[i]] ++ (if i + 1 = l.length then eol else [])) ⟨by dsimp only; omega, ?_⟩ (by dsimp only; omega) rfl (EvB.compare (Ev.name T' rfl rfl rfl) (Ev.name T' rfl rfl rfl) ((show decide (((i : Nat) : Int) < ((l.length : Nat) : Int)) = true by simp [hlt]) ▸ Op2.ltI)) ?_
                    · refine plain ?_
                      rw [hd]
                      have h2 : l.drop (i + 1) = [] ↔ i + 1 = l.length := by rw [List.drop_eq_nil_iff]; omega
                      cases hr : l.drop (i + 1) with
                      | nil => rw [if_pos (h2.mp hr)]; simp [scanL, hc]
                      | cons x r =>
                        rw [if_neg (fun h => by rw [h2.mpr h] at hr; cases hr)]
                        cases r with
                        | nil => simp [scanL]
                        | cons y r => simp [scanL, hc]
                    · refine Exs.cons (Ex1.assign T' rfl (Ev.item_str (Ev.name T' rfl rfl rfl) (Ev.name T' rfl rfl rfl) (by rw [hidx i hlt]; exact hget) (by omega)) trivial trivial) ?_
                      refine Exs.cons (Ex1.ite_true (EvB.compare (Ev.name T' rfl rfl rfl) (Ev.str lit_eq) ((show ([l[i]] != [61]) = true by simp [hc]) ▸ Op2.neS))
                        (Exs.cons (Ex1.aug T' rfl rfl (Ev.name T' rfl rfl rfl) (Op2.iaddS (by rw [sizeLine_eq, List.length_append]; simp; omega)) trivial trivial) (Exs.one (Ex1.aug T' rfl rfl Ev.int Op2.iaddI trivial trivial)))) ?_
                      by_cases h1 : i + 1 = l.length
                      · refine Ex.post (o := .next _) (Exs.one (Ex1.ite_true (EvB.compare (Ev.name T' rfl rfl rfl) (Ev.name T' rfl rfl rfl) ((show (((i : Nat) : Int) + 1 == ((l.length : Nat) : Int)) = true by simp; omega) ▸ Op2.eqI))
                          (Exs.one (Ex1.aug T' rfl rfl (Ev.name T' rfl rfl rfl) (Op2.iaddS (by rw [sizeLine_eq, List.length_append, List.length_append]; simp; omega)) trivial trivial)))) ?_
                        refine ⟨rfl, ?_, rfl, rfl, rfl, rfl, rfl, trivial⟩
                        rw [if_pos h1]
                        simp only [← List.append_assoc]
                        rfl
                      · refine Ex.post (o := .next _) (Exs.one (Ex1.ite_false (EvB.compare (Ev.name T' rfl rfl rfl) (Ev.name T' rfl rfl rfl) ((show (((i : Nat) : Int) + 1 == ((l.length : Nat) : Int)) = false by simp; omega) ▸ Op2.eqI)) Exs.nil)) ?_
                        refine ⟨rfl, ?_, rfl, rfl, rfl, rfl, rfl, trivial⟩
                        rw [if_neg h1]
                        simp only [← List.append_assoc, List.append_nil]
                        rfl
              · rw [hnext]
                unfold lineD
                rw [if_neg hnil]
                rfl
      · exact .inl fun _ _ => rfl
      · -- the last end
        have hlt : enc.length - 1 < enc.length := by omega
        have hgl : enc.getLast? = some enc[enc.length - 1] := by
          rw [List.getLast?_eq_getElem?]
          simp [hlt]
        have hx : (pyIdx (-1) enc.length).bind (enc[·]?) = some enc[enc.length - 1] := by
          rw [pyIdx_last (by omega)]
          simp [hlt]
        have hel : eol.length ≤ 1000000 := by
          have : 1 * eol.length ≤ (enc.length + 1) * eol.length := Nat.mul_le_mul_right _ (by omega)
          omega
        generalize enc[enc.length - 1] = lastc at hgl hx
        have hD : decD eol enc = if (!decide (lastc ∈ [13, 10])) && (decide (eol.length ≤ (rawD eol enc).length) && ((rawD eol enc).drop ((rawD eol enc).length - eol.length) == eol)) then pySlice (rawD eol enc) none (some (-(eol.length : Int))) else rawD eol enc := by
          unfold decD
          rw [if_neg he, hgl]
        generalize hb2 : (decide (eol.length ≤ (rawD eol enc).length) && ((rawD eol enc).drop ((rawD eol enc).length - eol.length) == eol)) = b2 at hD
        generalize hb1 : (!decide (lastc ∈ [13, 10])) = b1 at hD
        refine Exs.cons (S₁ := ([("decoded", .str (decD eol enc)), ("encoded", .str enc), ("eol", .str eol)], none)) (Ex1.ite (v := b1 && (b2 && true)) ?_ ?_ ?_) (Exs.one (Ex1.ret (Ev.name T' rfl rfl rfl)))
        · exact EvB.and (EvB.cast (EvB.compare (Ev.item_str (Ev.name T' rfl rfl rfl) (Ev.unop Ev.int Op1.neg) hx (by omega)) (Ev.str lit_crlf) Op2.notinS) hb1)
            fun _ => EvB.and (EvB.plain (Ev.meth1 (Ev.name T' rfl rfl rfl) MethOf.endswith (EvL.cons (Ev.name T' rfl rfl rfl) EvL.nil) (OpN.endswith hb2) ⟨_, rfl⟩) Tru.bool) fun _ => EvB.and_nil
        · intro h
          rw [Bool.and_true] at h
          rw [h, if_pos rfl] at hD
          rw [hD]
          refine Exs.one (Ex.post (o := .next _) (Ex1.assign T' rfl (Ev.slice_str (Ev.name T' rfl rfl rfl) (a := none) (b := some (-(eol.length : Int))) trivial (Ev.unop (Ev.call_b T' (isB hK rfl rfl b_len) (EvL.cons (Ev.name T' rfl rfl rfl) EvL.nil) (OpN.lenS (by omega))) Op1.neg) (by rw [sizeLine_eq]; omega)) trivial trivial) ⟨rfl, rfl, rfl, rfl, trivial⟩)
        · intro h
          rw [Bool.and_true] at h
          rw [h, if_neg (by decide)] at hD
          rw [hD]
          exact Exs.nil
end
end Mine
end

section
open PySem PySem.W PyProof.Rows PySem.Calls PySem.Spec
set_option Elab.async false
set_option maxRecDepth 100000
namespace Mine
section
variable {c : FC} {P : Params} {d : Nat}
theorem lit_257 : Str.ofString "257" = ⟨[50, 53, 55].toArray⟩ := rfl
theorem lit_bq : Str.ofString " \"" = ⟨[32, 34].toArray⟩ := rfl
theorem lit_q : Str.ofString "\"" = ⟨[34].toArray⟩ := rfl

theorem parse_ok (hK : c.K = KK P) (T : Stat c (d + 1)) {t : List Nat} (ht : t.length ≤ 1000000) : FnOk c 78 [.str (50 :: 53 :: 55 :: 32 :: 34 :: t)] (.str (parP t)) := by
  refine FnOk.of_body (σ₀ := [("resp", .str (50 :: 53 :: 55 :: 32 :: 34 :: t))]) (body := ?_) T (by rw [hK]; exact rfl) (by rw [hK]; exact rfl) ?_ rfl rfl rfl (by decide) ?_
  · intro s vs _ r
    simp only [RepL] at r
    obtain ⟨v, _, rfl, r, rfl⟩ := r
    exact ⟨[("resp", v)], BindsTo.of_eq rfl, locs rfl, EnvR.of_binds (b := [("resp", v)]) ⟨rfl, r, trivial⟩⟩
  · intro g L' T'
    obtain ⟨R, hR⟩ : ∃ R, R = 50 :: 53 :: 55 :: 32 :: 34 :: t := ⟨_, rfl⟩
    have hlen : R.length = t.length + 5 := by rw [hR]; simp
    have h3 : pySlice R none (some 3) = [50, 53, 55] := by
      have := pySlice_to R 3
      rw [show ((3 : Nat) : Int) = 3 from rfl] at this
      rw [this, hR]; rfl
    have h5 : pySlice R (some 3) (some 5) = [32, 34] := by
      have := pySlice_nat R (i := 3) (j := 5) (by omega) (by omega)
      rw [show ((3 : Nat) : Int) = 3 from rfl, show ((5 : Nat) : Int) = 5 from rfl] at this
      rw [this, hR]; rfl
    have hd5 : R.drop 5 = t := by rw [hR]; rfl
    rw [← hR]
    clear hR
    have hpl := parP_len t
    refine ⟨.ret (.str (parP t)), ?_, .inl rfl⟩
    refine Exs.cons (Ex1.ite_false (EvB.cast (EvB.compare (Ev.slice_str (Ev.name T' rfl rfl rfl) (a := none) (b := some 3) trivial Ev.int (by rw [sizeLine_eq]; omega)) (Ev.str lit_257) Op2.neS) (by rw [h3]; rfl)) Exs.nil) ?_
    refine Exs.cons (Ex1.ite_false (EvB.cast (EvB.compare (Ev.slice_str (Ev.name T' rfl rfl rfl) (a := some 3) (b := some 5) Ev.int Ev.int (by rw [sizeLine_eq]; omega)) (Ev.str lit_bq) Op2.neS) (by rw [h5]; rfl)) Exs.nil) ?_
    refine Exs.cons (Ex1.assign T' rfl (Ev.str lit_empty) trivial trivial) ?_
    refine Exs.cons (Ex1.assign T' rfl Ev.int trivial trivial) ?_
    refine Exs.cons (Ex1.assign T' rfl (Ev.call_b T' (isB hK rfl rfl b_len) (EvL.cons (Ev.name T' rfl rfl rfl) EvL.nil) (OpN.lenS (by omega))) trivial trivial) ?_
    refine Exs.cons (S₁ := ([("dirname", .str (parP t))], none)) ?_ (Exs.one (Ex1.ret (Ev.name T' rfl rfl rfl)))
    refine Ex1.while_fam (ι := Nat × List Nat) (F := fun x => ([("dirname", .str x.2), ("i", .int x.1), ("n", .int R.length), ("resp", .str R)], none))
      (I := fun x => x.1 ≤ R.length ∧ x.2 ++ parP (R.drop x.1) = parP t) (μ := fun x => R.length - x.1) (o := fun _ => .next ([("dirname", .str (parP t))], none))
      (5, []) ⟨by dsimp only; omega, by dsimp only; rw [hd5]; rfl⟩ ⟨rfl, rfl, rfl, rfl, rfl, trivial⟩ ?_
    rintro ⟨i, a⟩ ⟨hi, ha⟩
    dsimp only at hi ha
    by_cases hin : i = R.length
    · subst hin
      rw [List.drop_length] at ha
      simp only [parP, List.append_nil] at ha
      subst ha
      exact WhStep.exit (EvB.cast (EvB.compare (Ev.name T' rfl rfl rfl) (Ev.name T' rfl rfl rfl) Op2.ltI) (by simp)) ⟨rfl, rfl, trivial⟩
    · have hlt : i < R.length := by omega
      have hal : a.length ≤ t.length := by
        have := congrArg List.length ha
        rw [List.length_append] at this
        omega
      have hget : (pyIdx ((i : Nat) : Int) R.length).bind (R[·]?) = some R[i] := by rw [pyIdx_nat hlt]; simp [hlt]
      have hd : R.drop i = R[i] :: R.drop (i + 1) := List.drop_eq_getElem_cons hlt
      have htest := fun (x : Nat) (h : x < R.length) => (show decide (((x : Nat) : Int) < ((R.length : Nat) : Int)) = true by simp [h])
      by_cases hq : R[i] = 34
      · by_cases hstop : (R.drop (i + 1)).head? = some 34
        · -- two quotes
          have g1 : i + 1 < R.length := by
            apply Classical.byContradiction
            intro h
            have : R.drop (i + 1) = [] := by rw [List.drop_eq_nil_iff]; omega
            rw [this] at hstop
            cases hstop
          have hd1 : R.drop (i + 1) = R[i + 1] :: R.drop (i + 2) := List.drop_eq_getElem_cons g1
          have hq1 : R[i + 1] = 34 := by rw [hd1, List.head?_cons] at hstop; exact Option.some.inj hstop
          have hget1 : (pyIdx (((i : Nat) : Int) + 1) R.length).bind (R[·]?) = some R[i + 1] := by
            rw [show ((i : Nat) : Int) + 1 = ((i + 1 : Nat) : Int) by omega, pyIdx_nat g1]; simp [g1]
          refine WhStep.next (i + 2, a ++ [34]) ⟨by dsimp only; omega, ?_⟩ (by dsimp only; omega) rfl (EvB.cast (EvB.compare (Ev.name T' rfl rfl rfl) (Ev.name T' rfl rfl rfl) Op2.ltI) (htest i hlt)) ?_
          · dsimp only
            rw [← ha, hd, hd1, hq, hq1, parP_two]
            simp
          · refine Exs.cons (Ex1.assign T' rfl (Ev.item_str (Ev.name T' rfl rfl rfl) (Ev.name T' rfl rfl rfl) hget (by omega)) trivial trivial) ?_
            refine Exs.cons (Ex1.assign T' rfl (Ev.binop (Ev.name T' rfl rfl rfl) Ev.int Op2.addI) trivial trivial) ?_
            refine Exs.cons (Ex1.ite_true (EvB.cast (EvB.compare (Ev.name T' rfl rfl rfl) (Ev.str lit_q) Op2.eqS) (by rw [hq]; rfl))
              (Exs.cons (Ex1.ite_false (EvB.cast (a := false || (false || false)) (EvB.or (a := false) (EvB.cast (EvB.compare (Ev.name T' rfl rfl rfl) (Ev.name T' rfl rfl rfl) Op2.geI) (by simp; omega)) fun _ =>
                EvB.or (a := false) (EvB.cast (EvB.compare (Ev.item_str (Ev.name T' rfl rfl rfl) (Ev.name T' rfl rfl rfl) hget1 (by omega)) (Ev.str lit_q) Op2.neS) (by rw [hq1]; rfl)) fun _ => EvB.or_nil) rfl) Exs.nil)
              (Exs.one (Ex1.assign T' rfl (Ev.binop (Ev.name T' rfl rfl rfl) Ev.int Op2.addI) trivial trivial)))) ?_
            refine Exs.one (Ex.post (o := .next _) (Ex1.assign T' rfl (Ev.binop (Ev.name T' rfl rfl rfl) (Ev.name T' rfl rfl rfl) (Op2.addS (by rw [sizeLine_eq]; simp; omega))) trivial trivial) ?_)
            refine ⟨rfl, by rw [hq]; rfl, ?_, rfl, rfl, trivial⟩
            show some (PV.int (((i : Nat) : Int) + 1 + 1)) = some (PV.int ((i + 2 : Nat) : Int))
            congr 2
        · -- one quote: the end
          have hend : a = parP t := by
            rw [← ha, hd, hq, parP_one hstop, List.append_nil]
          refine WhStep.brk ([("dirname", .str a)], none) (EvB.cast (EvB.compare (Ev.name T' rfl rfl rfl) (Ev.name T' rfl rfl rfl) Op2.ltI) (htest i hlt)) ?_ ⟨rfl, by rw [hend]; rfl, trivial⟩
          refine Exs.cons (Ex1.assign T' rfl (Ev.item_str (Ev.name T' rfl rfl rfl) (Ev.name T' rfl rfl rfl) hget (by omega)) trivial trivial) ?_
          refine Exs.cons (Ex1.assign T' rfl (Ev.binop (Ev.name T' rfl rfl rfl) Ev.int Op2.addI) trivial trivial) ?_
          refine Ex.post (o := .brk _) (Exs.stop (Ex1.ite_true (EvB.cast (EvB.compare (Ev.name T' rfl rfl rfl) (Ev.str lit_q) Op2.eqS) (by rw [hq]; rfl)) (Exs.stop (Ex1.ite_true ?_ (Exs.stop Ex1.brk trivial)) trivial)) trivial) ⟨rfl, rfl, trivial⟩
          by_cases g1 : i + 1 < R.length
          · have hd1 : R.drop (i + 1) = R[i + 1] :: R.drop (i + 2) := List.drop_eq_getElem_cons g1
            have hq1 : R[i + 1] ≠ 34 := by rw [hd1, List.head?_cons] at hstop; exact fun h => hstop (congrArg some h)
            have hget1 : (pyIdx (((i : Nat) : Int) + 1) R.length).bind (R[·]?) = some R[i + 1] := by
              rw [show ((i : Nat) : Int) + 1 = ((i + 1 : Nat) : Int) by omega, pyIdx_nat g1]; simp [g1]
            exact EvB.cast (a := false || (true || false)) (EvB.or (a := false) (EvB.cast (EvB.compare (Ev.name T' rfl rfl rfl) (Ev.name T' rfl rfl rfl) Op2.geI) (by simp; omega)) fun _ =>
                EvB.or (a := true) (EvB.cast (EvB.compare (Ev.item_str (Ev.name T' rfl rfl rfl) (Ev.name T' rfl rfl rfl) hget1 (by omega)) (Ev.str lit_q) Op2.neS) (by simp [hq1])) fun _ => EvB.or_nil) rfl
          · refine EvB.cast (a := true || true) (EvB.or ?_ fun h => by cases h) rfl
            exact EvB.cast (EvB.compare (Ev.name T' rfl rfl rfl) (Ev.name T' rfl rfl rfl) Op2.geI) (by simp; omega)
      · refine WhStep.next (i + 1, a ++ [R[i]]) ⟨by dsimp only; omega, ?_⟩ (by dsimp only; omega) rfl (EvB.cast (EvB.compare (Ev.name T' rfl rfl rfl) (Ev.name T' rfl rfl rfl) Op2.ltI) (htest i hlt)) ?_
        · dsimp only
          rw [← ha, hd, parP_cons hq]
          simp
        · refine Exs.cons (Ex1.assign T' rfl (Ev.item_str (Ev.name T' rfl rfl rfl) (Ev.name T' rfl rfl rfl) hget (by omega)) trivial trivial) ?_
          refine Exs.cons (Ex1.assign T' rfl (Ev.binop (Ev.name T' rfl rfl rfl) Ev.int Op2.addI) trivial trivial) ?_
          refine Exs.cons (Ex1.ite_false (EvB.cast (EvB.compare (Ev.name T' rfl rfl rfl) (Ev.str lit_q) Op2.eqS) (by simp [hq])) Exs.nil) ?_
          refine Exs.one (Ex.post (o := .next _) (Ex1.assign T' rfl (Ev.binop (Ev.name T' rfl rfl rfl) (Ev.name T' rfl rfl rfl) (Op2.addS (by rw [sizeLine_eq]; simp; omega))) trivial trivial) ?_)
          exact ⟨rfl, rfl, rfl, rfl, rfl, trivial⟩
end
end Mine
end

section
open PySem PySem.W PyProof.Rows PySem.Calls PySem.Spec
set_option Elab.async false
set_option maxRecDepth 100000
namespace Mine
section
variable {c : FC} {P : Params} {d : Nat}
theorem pat_36 {h : Heap} (hK : (KK P).In h) : Rx.Pat h 83 := by
  have h1 := hK 83 _ (show (KK P).lookup 83 = some _ from rfl)
  have h2 := hK 82 _ (show (KK P).lookup 82 = some _ from rfl)
  exact ⟨_, _, _, _, _, _, _, h1, rfl, rfl, rfl, ⟨_, _, h2, rfl⟩, by simp; rfl⟩
theorem fix_ok (hK : c.K = KK P) (T : Stat c (d + 1)) {l : List Nat} (hz : l.length ≤ 100000) : FnOk c 90 [.str l] (.str (fixF l)) := by
  refine FnOk.of_body (σ₀ := [("data", .str l)]) (body := ?_) T (by rw [hK]; exact rfl) (by rw [hK]; exact rfl) ?_ rfl rfl rfl (by decide) ?_
  · intro s vs _ r
    simp only [RepL] at r
    obtain ⟨v, _, rfl, r, rfl⟩ := r
    exact ⟨[("data", v)], BindsTo.of_eq rfl, locs rfl, EnvR.of_binds (b := [("data", v)]) ⟨rfl, r, trivial⟩⟩
  · intro g L' T'
    refine ⟨_, Exs.one (Ex1.ret ?_), .inl rfl⟩
    refine Ev.sub_pat T' rfl (P := 83) (by show nsIn c.K _ _ = _; rw [hK]; rfl) (fun h hx => pat_36 (P := P) (by rw [← hK]; exact hx)) (Ev.global_str T' rfl (t := ?_) (l := [13, 10]) (by show nsIn c.K _ _ = _; rw [hK]; exact rfl)) (Ev.name T' rfl rfl rfl) hz ⟨_, rfl⟩
end
end Mine
end

section
open PySem
set_option Elab.async false
set_option maxRecDepth 100000
namespace Mine

/-- what stands in law 2's texts -/
inductive It where
  | lf | crlf | crc | e0 | e1 | qq | soft
  | hexs (c : Nat)

def It.raw : It → List Nat
  | .lf => [10]
  | .crlf => [13, 10]
  | .crc => [13, 99]
  | .e0 => [61, 48, 65]
  | .e1 => [61, 51, 68, 48, 65]
  | .qq => [34, 34]
  | .soft => [61, 10]
  | .hexs c => 61 :: hexU c
def itOf (v : Nat) : It := match v % 8 with
  | 0 => .lf
  | 1 => .crlf
  | 2 => .crc
  | 3 => .e0
  | 4 => .e1
  | 5 => .qq
  | 6 => .soft
  | _ => .hexs (if 35 + v / 8 % 92 = 61 then 107 else 35 + v / 8 % 92)
def It.ok : It → Prop
  | .hexs c => 35 ≤ c ∧ c ≤ 126 ∧ c ≠ 61
  | _ => True
theorem itOf_ok (v : Nat) : (itOf v).ok := by
  unfold itOf
  have := Nat.mod_lt (v / 8) (show 92 > 0 by decide)
  split <;> first | trivial | skip
  by_cases h : 35 + v / 8 % 92 = 61
  · rw [if_pos h]; exact ⟨by decide, by decide, by decide⟩
  · rw [if_neg h]; exact ⟨by omega, by omega, h⟩

def mk2 (marks : List (List Nat)) (i : Nat) : List Nat := (marks[i]?).getD []
/-- what the law says of an item -/
def g1 (n : Nat) (marks : List (List Nat)) : It → List Nat
  | .qq => [34]
  | .soft => if n = 0 then [61, 13, 10] else []
  | .e0 => if n < 1 then [61, 48, 65] else if n = 1 then [13, 10] else mk2 marks (n - 2)
  | .e1 => if n < 1 then [61, 51, 68, 48, 65] else if n = 1 then [61, 48, 65] else if n = 2 then [13, 10] else mk2 marks (n - 3)
  | .hexs c => if n = 0 then 61 :: hexU c else [c]
  | .lf => if n = 0 then [13, 10] else mk2 marks (n - 1)
  | .crlf => if n = 0 then [13, 10] else mk2 marks (n - 1)
  | .crc => (if n = 0 then [13, 10] else mk2 marks (n - 1)) ++ [99]
def grownL (n : Nat) (marks : List (List Nat)) (its : List It) : List Nat := its.flatMap (g1 n marks)
end Mine
end

section
open PySem PySem.W PyProof.Rows PySem.Calls PySem.Spec
set_option Elab.async false
set_option maxRecDepth 100000
set_option maxHeartbeats 8000000
namespace Mine
section
variable {c : FC} {P : Params} {d : Nat}

theorem piece_ok (hK : c.K = KK P) (T : Stat c (d + 1)) {v : Nat} : FnOk c 97 [.int v] (.str (itOf v).raw) := by
  refine FnOk.of_body (σ₀ := [("v", .int v)]) (body := ?_) T (by rw [hK]; exact rfl) (by rw [hK]; exact rfl) ?_ rfl rfl rfl (by decide) ?_
  · intro s vs _ r
    simp only [RepL] at r
    obtain ⟨x, _, rfl, r, rfl⟩ := r
    exact ⟨[("v", x)], BindsTo.of_eq rfl, locs rfl, EnvR.of_binds (b := [("v", x)]) ⟨rfl, r, trivial⟩⟩
  · intro g L' T'
    refine ⟨.ret (.str (itOf v).raw), ?_, .inl rfl⟩
    have hm : ((v : Int).fmod 8) = ((v % 8 : Nat) : Int) := by
      rw [Int.fmod_eq_emod_of_nonneg _ (by decide)]
      omega
    have hlt := Nat.mod_lt v (show 8 > 0 by decide)
    by_cases h7 : v % 8 = 7
    · have hit : itOf v = .hexs (if 35 + v / 8 % 92 = 61 then 107 else 35 + v / 8 % 92) := by unfold itOf; rw [h7]; rfl
      have hd : (((v : Int).fdiv 8).fmod 92) = ((v / 8 % 92 : Nat) : Int) := by
        rw [Int.fdiv_eq_ediv_of_nonneg _ (by decide), Int.fmod_eq_emod_of_nonneg _ (by decide)]
        omega
      have hl2 := Nat.mod_lt (v / 8) (show 92 > 0 by decide)
      refine Exs.stop (Ex1.ite_true (EvB.cast (EvB.compare (Ev.binop (Ev.name T' rfl rfl rfl) Ev.int (Op2.fmodI (by decide))) Ev.int Op2.eqI) (by rw [hm, h7]; rfl)) ?_) trivial
      refine Exs.cons (Ex1.assign (p := .int ((35 + v / 8 % 92 : Nat) : Int)) T' rfl (Ev.cast (Ev.binop Ev.int (Ev.binop (Ev.binop (Ev.name T' rfl rfl rfl) Ev.int (Op2.fdivI (by decide) (by decide))) Ev.int (Op2.fmodI (by decide))) Op2.addI) (by rw [hd]; rfl)) trivial trivial) ?_
      refine Exs.one (Ex1.ret ?_)
      rw [hit]
      by_cases hc : 35 + v / 8 % 92 = 61
      · rw [if_pos hc]
        exact Ev.binop (Ev.str (l := [61, 37, 48, 50, 88]) rfl) (Ev.ifexp (v := true) (EvB.cast (EvB.compare (Ev.name T' rfl rfl rfl) Ev.int Op2.eqI) (by rw [hc]; rfl)) (fun _ => Ev.int (i := ((107 : Nat) : Int))) (fun h => nomatch h)) (Op2.mod02Xe (by decide))
      · rw [if_neg hc]
        refine Ev.binop (Ev.str (l := [61, 37, 48, 50, 88]) rfl) (Ev.ifexp (v := false) (EvB.cast (EvB.compare (Ev.name T' rfl rfl rfl) Ev.int Op2.eqI) ?_) (fun h => nomatch h) (fun _ => Ev.name T' rfl rfl rfl)) (Op2.mod02Xe (by omega))
        rw [beq_eq_false_iff_ne]
        omega
    · refine Exs.cons (Ex1.ite_false (EvB.cast (EvB.compare (Ev.binop (Ev.name T' rfl rfl rfl) Ev.int (Op2.fmodI (by decide))) Ev.int Op2.eqI) (by rw [hm, beq_eq_false_iff_ne]; omega)) Exs.nil) ?_
      refine Exs.one (Ex1.ret ?_)
      have hidx : ([.str [10], .str [13, 10], .str [13, 99], .str [61, 48, 65], .str [61, 51, 68, 48, 65], .str [34, 34], .str [61, 10]] : List PV)[v % 8]? = some (.str (itOf v).raw) := by
        unfold itOf
        have : v % 8 = 0 ∨ v % 8 = 1 ∨ v % 8 = 2 ∨ v % 8 = 3 ∨ v % 8 = 4 ∨ v % 8 = 5 ∨ v % 8 = 6 := by omega
        rcases this with h | h | h | h | h | h | h <;> rw [h] <;> rfl
      refine Ev.item_list (l := [.str [10], .str [13, 10], .str [13, 99], .str [61, 48, 65], .str [61, 51, 68, 48, 65], .str [34, 34], .str [61, 10]]) (i := (v : Int).fmod 8) (j := v % 8) ?_ ?_ ?_ ?_ ?_ ?_
      · refine Ev.list ?_ (show 7 ≤ sizeLine by decide)
        refine EvL.cons (Ev.str (l := [10]) rfl) ?_
        refine EvL.cons (Ev.str (l := [13, 10]) rfl) ?_
        refine EvL.cons (Ev.str (l := [13, 99]) rfl) ?_
        refine EvL.cons (Ev.str (l := [61, 48, 65]) rfl) ?_
        refine EvL.cons (Ev.str (l := [61, 51, 68, 48, 65]) rfl) ?_
        refine EvL.cons (Ev.str (l := [34, 34]) rfl) ?_
        refine EvL.cons (Ev.str (l := [61, 10]) rfl) EvL.nil
      · exact Ev.binop (Ev.name T' rfl rfl rfl) Ev.int (Op2.fmodI (by decide))
      · rw [hm]
        exact pyIdx_nat (show v % 8 < 7 by omega)
      · exact hidx
      · show 7 < 2 ^ 62
        decide
      · intro _ _
        rfl

theorem lit_qq : Str.ofString "\"\"" = ⟨[34, 34].toArray⟩ := rfl
theorem grown_ok (hK : c.K = KK P) (T : Stat c (d + 1)) {its : List It} {n : Nat} {marks : List (List Nat)} (hits : ∀ it ∈ its, it.ok) (hm : n ≤ marks.length) (hml : marks.length ≤ 1000) (hn : its.length ≤ 1000)
    (hsz : (grownL n marks its).length ≤ 1000000) : FnOk c 104 [.list (its.map fun x => .str x.raw), .int n, .list (marks.map .str)] (.str (grownL n marks its)) := by
  refine FnOk.of_body (σ₀ := [("marks", .list (marks.map .str)), ("n", .int n), ("pieces", .list (its.map fun x => .str x.raw))]) (body := ?_) T (by rw [hK]; exact rfl) (by rw [hK]; exact rfl) ?_ rfl rfl rfl (by decide) ?_
  · intro s vs _ r
    simp only [RepL] at r
    obtain ⟨x, _, rfl, r, x2, _, rfl, r2, x3, _, rfl, r3, rfl⟩ := r
    exact ⟨[("pieces", x), ("n", x2), ("marks", x3)], BindsTo.of_eq rfl, locs rfl, EnvR.of_binds (b := [("marks", x3), ("n", x2), ("pieces", x)]) ⟨rfl, r3, rfl, r2, rfl, r, trivial⟩⟩
  · intro g L' T'
    refine ⟨.ret (.str (grownL n marks its)), ?_, .inl rfl⟩
    obtain ⟨pr, hpr⟩ : ∃ pr : Nat → List Nat, ∀ i, pr i = grownL n marks (its.take i) := ⟨_, fun _ => rfl⟩
    have hmono : ∀ i, (pr i).length ≤ 1000000 := by
      intro i
      rw [hpr]
      have e : grownL n marks its = grownL n marks (its.take i) ++ grownL n marks (its.drop i) := by
        unfold grownL
        rw [← List.flatMap_append, List.take_append_drop]
      rw [e, List.length_append] at hsz
      omega
    have hstep : ∀ i l, its[i]? = some l → pr (i + 1) = pr i ++ g1 n marks l := by
      intro i l h
      rw [hpr, hpr, List.take_add_one, h]
      unfold grownL
      rw [List.flatMap_append]
      simp
    have h100 : 100 ≤ sizeLine := by rw [sizeLine_eq]; decide
    have hmk : ∀ j, j < marks.length → (marks.map PV.str)[j]? = some (.str (mk2 marks j)) := by
      intro j hj
      unfold mk2
      rw [List.getElem?_map, List.getElem?_eq_getElem hj]
      rfl
    have hp0 : pr 0 = [] := by rw [hpr]; simp [grownL]
    have hpn : pr its.length = grownL n marks its := by rw [hpr, List.take_length]
    clear hpr
    refine Exs.cons (Ex1.assign T' rfl (Ev.str (l := figs) rfl) trivial trivial) ?_
    refine Exs.cons (Ex1.assign T' rfl (Ev.str (l := []) rfl) trivial trivial) ?_
    refine Exs.cons (S₁ := ([("text", .str (grownL n marks its))], none)) (Ex1.for_list (l := its.map fun x => .str x.raw) rfl (Ev.name T' rfl rfl rfl) ?_ ?_) (Exs.one (Ex1.ret (Ev.name T' rfl rfl rfl)))
    · refine Fo.pre (S₁ := ([("text", .str (pr 0)), ("figures", .str figs), ("marks", .list (marks.map .str)), ("n", .int n), ("pieces", .list (its.map fun x => .str x.raw))], none)) ?_ ⟨rfl, by rw [hp0]; rfl, rfl, rfl, rfl, rfl, trivial⟩
      refine Fo.fam (F := fun i => ([("text", .str (pr i)), ("figures", .str figs), ("marks", .list (marks.map .str)), ("n", .int n), ("pieces", .list (its.map fun x => .str x.raw))], none)) (I := fun _ => True)
        (o := fun _ => .next ([("text", .str (grownL n marks its))], none)) ?_ ?_ trivial
      · intro _
        rw [List.length_map]
        refine ⟨rfl, ?_, trivial⟩
        rw [hpn]
        rfl
      · intro q p hp _
        rw [List.getElem?_map] at hp
        cases hl : its[q]? with
        | none => rw [hl] at hp; cases hp
        | some it =>
          rw [hl] at hp
          cases hp
          have hok := hits it (List.mem_of_getElem? hl)
          have hpre := hmono q
          have hnx := hmono (q + 1)
          have hnext := hstep q it hl
          rw [hnext, List.length_append] at hnx
          have hadd : (pr q).length + (g1 n marks it).length ≤ sizeLine := by rw [sizeLine_eq]; omega
          refine FoStep.next _ (AsgT.name T' rfl trivial trivial) ?_ trivial rfl
          cases it with
          | qq =>
            refine Exs.one (Ex1.ite_true (EvB.cast (EvB.compare (Ev.name T' rfl rfl rfl) (Ev.str lit_qq) Op2.eqS) rfl) (Exs.one (Ex.post (Ex1.aug T' rfl rfl (Ev.str (l := [34]) rfl) (Op2.iaddS hadd) trivial trivial) ?_)))
            exact ⟨rfl, by rw [hnext]; rfl, rfl, rfl, rfl, rfl, trivial⟩
          | soft =>
            refine Exs.one (Ex1.ite_false (EvB.cast (EvB.compare (Ev.name T' rfl rfl rfl) (Ev.str lit_qq) Op2.eqS) rfl) (Exs.one (Ex1.ite_true (EvB.cast (EvB.compare (Ev.name T' rfl rfl rfl) (Ev.str (l := [61, 10]) rfl) Op2.eqS) rfl) (Exs.one (Ex.post (Ex1.aug (q := .str (g1 n marks .soft)) T' rfl rfl ?_ (Op2.iaddS hadd) trivial trivial) ?_)))))
            · by_cases h0 : n = 0
              · subst h0
                exact Ev.ifexp (v := false) (EvB.plain (Ev.name T' rfl rfl rfl) Tru.int) (fun h => nomatch h) (fun _ => Ev.str rfl)
              · have e : g1 n marks .soft = [] := if_neg h0
                rw [e]
                exact Ev.ifexp (v := true) (EvB.cast (EvB.plain (Ev.name T' rfl rfl rfl) Tru.int) (by simpa using h0)) (fun _ => Ev.str rfl) (fun h => nomatch h)
            · exact ⟨rfl, by rw [hnext]; rfl, rfl, rfl, rfl, rfl, trivial⟩
          | e0 =>
            refine Exs.one (Ex1.ite_false (EvB.cast (EvB.compare (Ev.name T' rfl rfl rfl) (Ev.str lit_qq) Op2.eqS) rfl) ?_)
            refine Exs.one (Ex1.ite_false (EvB.cast (EvB.compare (Ev.name T' rfl rfl rfl) (Ev.str (l := [61, 10]) rfl) Op2.eqS) rfl) ?_)
            refine Exs.one (Ex1.ite_true (EvB.cast (EvB.compare (Ev.name T' rfl rfl rfl) (Ev.tuple (ps := [[61, 48, 65], [61, 51, 68, 48, 65]].map .str) (EvL.cons (Ev.str (l := [61, 48, 65]) rfl) (EvL.cons (Ev.str (l := [61, 51, 68, 48, 65]) rfl) EvL.nil)) (Nat.le_trans (by decide) h100)) (Op2.inTup (ls := [[61, 48, 65], [61, 51, 68, 48, 65]]))) (by decide)) ?_)
            refine Exs.cons (Ex1.assign (p := .int ((1 : Nat) : Int)) T' rfl (Ev.cast (Ev.binop (Ev.call_b T' (isB hK rfl rfl b_len) (EvL.cons (Ev.name T' rfl rfl rfl) EvL.nil) (OpN.lenS (show 3 < 2 ^ 62 by decide))) Ev.int (Op2.fdivI (by decide) (by decide))) rfl) trivial trivial) ?_
            by_cases h0 : n = 0
            · subst h0
              refine Exs.one (Ex1.ite_true (EvB.cast (EvB.compare (Ev.name T' rfl rfl rfl) (Ev.name T' rfl rfl rfl) Op2.ltI) rfl) (Exs.one (Ex.post (Ex1.aug (q := .str (g1 0 marks .e0)) T' rfl rfl (Ev.cast (Ev.binop (Ev.binop (Ev.str (l := [61]) rfl) (Ev.binop (Ev.str (l := [51, 68]) rfl) (Ev.binop (Ev.binop (Ev.name T' rfl rfl rfl) (Ev.name T' rfl rfl rfl) Op2.subI) Ev.int Op2.subI) (Op2.mulS (by decide) (by decide) (by decide))) (Op2.addS (Nat.le_trans (by decide) h100))) (Ev.str (l := [48, 65]) rfl) (Op2.addS (Nat.le_trans (by decide) h100))) rfl) (Op2.iaddS hadd) trivial trivial) ?_)))
              exact ⟨rfl, by rw [hnext]; rfl, rfl, rfl, rfl, rfl, trivial⟩
            refine Exs.one (Ex1.ite_false (EvB.cast (EvB.compare (Ev.name T' rfl rfl rfl) (Ev.name T' rfl rfl rfl) Op2.ltI) (decide_eq_false (by omega))) (Exs.one (Ex.post (Ex1.aug (q := .str (g1 n marks .e0)) T' rfl rfl ?_ (Op2.iaddS hadd) trivial trivial) ?_)))
            · by_cases hw : n = 1
              · subst hw
                exact Ev.ifexp (v := false) (EvB.cast (EvB.compare (Ev.name T' rfl rfl rfl) (Ev.name T' rfl rfl rfl) Op2.gtI) rfl) (fun h => nomatch h) (fun _ => Ev.str (l := [13, 10]) rfl)
              · refine Ev.ifexp (v := true) (EvB.cast (EvB.compare (Ev.name T' rfl rfl rfl) (Ev.name T' rfl rfl rfl) Op2.gtI) (decide_eq_true (by omega))) (fun _ => ?_) (fun h => nomatch h)
                have e : g1 n marks .e0 = mk2 marks (n - 2) := by
                  show (if n < 1 then _ else if n = 1 then _ else _) = _
                  rw [if_neg (show ¬ n < 1 by omega), if_neg (show ¬ n = 1 by omega)]
                rw [e]
                refine Ev.item_list (l := marks.map .str) (i := (n : Int) - ((1 : Nat) : Int) - 1) (j := n - 2) (Ev.name T' rfl rfl rfl) (Ev.binop (Ev.binop (Ev.name T' rfl rfl rfl) (Ev.name T' rfl rfl rfl) Op2.subI) Ev.int Op2.subI) ?_ ?_ ?_
                · rw [List.length_map, show (n : Int) - ((1 : Nat) : Int) - 1 = ((n - 2 : Nat) : Int) by omega]
                  exact pyIdx_nat (by omega)
                · exact hmk _ (by omega)
                · rw [List.length_map]; omega
            · exact ⟨rfl, by rw [hnext]; rfl, rfl, rfl, rfl, rfl, trivial⟩
          | e1 =>
            refine Exs.one (Ex1.ite_false (EvB.cast (EvB.compare (Ev.name T' rfl rfl rfl) (Ev.str lit_qq) Op2.eqS) rfl) ?_)
            refine Exs.one (Ex1.ite_false (EvB.cast (EvB.compare (Ev.name T' rfl rfl rfl) (Ev.str (l := [61, 10]) rfl) Op2.eqS) rfl) ?_)
            refine Exs.one (Ex1.ite_true (EvB.cast (EvB.compare (Ev.name T' rfl rfl rfl) (Ev.tuple (ps := [[61, 48, 65], [61, 51, 68, 48, 65]].map .str) (EvL.cons (Ev.str (l := [61, 48, 65]) rfl) (EvL.cons (Ev.str (l := [61, 51, 68, 48, 65]) rfl) EvL.nil)) (Nat.le_trans (by decide) h100)) (Op2.inTup (ls := [[61, 48, 65], [61, 51, 68, 48, 65]]))) (by decide)) ?_)
            refine Exs.cons (Ex1.assign (p := .int ((2 : Nat) : Int)) T' rfl (Ev.cast (Ev.binop (Ev.call_b T' (isB hK rfl rfl b_len) (EvL.cons (Ev.name T' rfl rfl rfl) EvL.nil) (OpN.lenS (show 5 < 2 ^ 62 by decide))) Ev.int (Op2.fdivI (by decide) (by decide))) rfl) trivial trivial) ?_
            by_cases h0 : n = 0
            · subst h0
              refine Exs.one (Ex1.ite_true (EvB.cast (EvB.compare (Ev.name T' rfl rfl rfl) (Ev.name T' rfl rfl rfl) Op2.ltI) rfl) (Exs.one (Ex.post (Ex1.aug (q := .str (g1 0 marks .e1)) T' rfl rfl (Ev.cast (Ev.binop (Ev.binop (Ev.str (l := [61]) rfl) (Ev.binop (Ev.str (l := [51, 68]) rfl) (Ev.binop (Ev.binop (Ev.name T' rfl rfl rfl) (Ev.name T' rfl rfl rfl) Op2.subI) Ev.int Op2.subI) (Op2.mulS (by decide) (by decide) (by decide))) (Op2.addS (Nat.le_trans (by decide) h100))) (Ev.str (l := [48, 65]) rfl) (Op2.addS (Nat.le_trans (by decide) h100))) rfl) (Op2.iaddS hadd) trivial trivial) ?_)))
              exact ⟨rfl, by rw [hnext]; rfl, rfl, rfl, rfl, rfl, trivial⟩
            by_cases h1 : n = 1
            · subst h1
              refine Exs.one (Ex1.ite_true (EvB.cast (EvB.compare (Ev.name T' rfl rfl rfl) (Ev.name T' rfl rfl rfl) Op2.ltI) rfl) (Exs.one (Ex.post (Ex1.aug (q := .str (g1 1 marks .e1)) T' rfl rfl (Ev.cast (Ev.binop (Ev.binop (Ev.str (l := [61]) rfl) (Ev.binop (Ev.str (l := [51, 68]) rfl) (Ev.binop (Ev.binop (Ev.name T' rfl rfl rfl) (Ev.name T' rfl rfl rfl) Op2.subI) Ev.int Op2.subI) (Op2.mulS (by decide) (by decide) (by decide))) (Op2.addS (Nat.le_trans (by decide) h100))) (Ev.str (l := [48, 65]) rfl) (Op2.addS (Nat.le_trans (by decide) h100))) rfl) (Op2.iaddS hadd) trivial trivial) ?_)))
              exact ⟨rfl, by rw [hnext]; rfl, rfl, rfl, rfl, rfl, trivial⟩
            refine Exs.one (Ex1.ite_false (EvB.cast (EvB.compare (Ev.name T' rfl rfl rfl) (Ev.name T' rfl rfl rfl) Op2.ltI) (decide_eq_false (by omega))) (Exs.one (Ex.post (Ex1.aug (q := .str (g1 n marks .e1)) T' rfl rfl ?_ (Op2.iaddS hadd) trivial trivial) ?_)))
            · by_cases hw : n = 2
              · subst hw
                exact Ev.ifexp (v := false) (EvB.cast (EvB.compare (Ev.name T' rfl rfl rfl) (Ev.name T' rfl rfl rfl) Op2.gtI) rfl) (fun h => nomatch h) (fun _ => Ev.str (l := [13, 10]) rfl)
              · refine Ev.ifexp (v := true) (EvB.cast (EvB.compare (Ev.name T' rfl rfl rfl) (Ev.name T' rfl rfl rfl) Op2.gtI) (decide_eq_true (by omega))) (fun _ => ?_) (fun h => nomatch h)
                have e : g1 n marks .e1 = mk2 marks (n - 3) := by
                  show (if n < 1 then _ else if n = 1 then _ else if n = 2 then _ else _) = _
                  rw [if_neg (show ¬ n < 1 by omega), if_neg (show ¬ n = 1 by omega), if_neg (show ¬ n = 2 by omega)]
                rw [e]
                refine Ev.item_list (l := marks.map .str) (i := (n : Int) - ((2 : Nat) : Int) - 1) (j := n - 3) (Ev.name T' rfl rfl rfl) (Ev.binop (Ev.binop (Ev.name T' rfl rfl rfl) (Ev.name T' rfl rfl rfl) Op2.subI) Ev.int Op2.subI) ?_ ?_ ?_
                · rw [List.length_map, show (n : Int) - ((2 : Nat) : Int) - 1 = ((n - 3 : Nat) : Int) by omega]
                  exact pyIdx_nat (by omega)
                · exact hmk _ (by omega)
                · rw [List.length_map]; omega
            · exact ⟨rfl, by rw [hnext]; rfl, rfl, rfl, rfl, rfl, trivial⟩
          | hexs c =>
            obtain ⟨h35, h126, h61⟩ := hok
            have hi : c / 16 < 16 := by omega
            have hj : c % 16 < 16 := by omega
            have hne : (It.hexs c).raw ≠ [61, 48, 65] := by
              intro e
              have e1 : hx (c / 16) = 48 := (List.cons.inj (List.cons.inj e).2).1
              have e2 : c / 16 = 0 := by unfold hx at e1; split at e1 <;> omega
              omega
            have hne2 : (It.hexs c).raw ≠ [61, 51, 68, 48, 65] := by
              intro e
              have := congrArg List.length e
              exact absurd this (show ¬ (3 = 5) by decide)
            refine Exs.one (Ex1.ite_false (EvB.cast (EvB.compare (Ev.name T' rfl rfl rfl) (Ev.str lit_qq) Op2.eqS) rfl) ?_)
            refine Exs.one (Ex1.ite_false (EvB.cast (EvB.compare (Ev.name T' rfl rfl rfl) (Ev.str (l := [61, 10]) rfl) Op2.eqS) (beq_eq_false_iff_ne.mpr (fun e => absurd (congrArg List.length e) (show ¬ (3 = 2) by decide)))) ?_)
            refine Exs.one (Ex1.ite_false (EvB.cast (EvB.compare (Ev.name T' rfl rfl rfl) (Ev.tuple (ps := [[61, 48, 65], [61, 51, 68, 48, 65]].map .str) (EvL.cons (Ev.str (l := [61, 48, 65]) rfl) (EvL.cons (Ev.str (l := [61, 51, 68, 48, 65]) rfl) EvL.nil)) (Nat.le_trans (by decide) h100)) (Op2.inTup (ls := [[61, 48, 65], [61, 51, 68, 48, 65]]))) (decide_eq_false (fun hm => by rcases List.mem_cons.mp hm with e | hm; exact hne e; rcases List.mem_cons.mp hm with e | hm; exact hne2 e; cases hm))) ?_)
            refine Exs.one (Ex1.ite_true (EvB.cast (EvB.compare (Ev.item_str (n := 61) (Ev.name T' rfl rfl rfl) Ev.int rfl (show 3 < 2 ^ 62 by decide)) (Ev.str (l := [61]) rfl) Op2.eqS) rfl) ?_)
            refine Exs.cons (Ex1.assign (p := .str [c]) T' rfl (Ev.cast (Ev.call_b T' (isB hK rfl rfl b_chr) (EvL.cons (Ev.binop (Ev.binop Ev.int (Ev.meth1 (Ev.name T' rfl rfl rfl) MethOf.find (EvL.cons (Ev.item_str (n := hx (c / 16)) (Ev.name T' rfl rfl rfl) Ev.int rfl (show 3 < 2 ^ 62 by decide)) EvL.nil) (OpN.find_fig hi) ⟨_, rfl⟩) (Op2.mulI (IntMulOk.of_left (by decide)))) (Ev.meth1 (Ev.name T' rfl rfl rfl) MethOf.find (EvL.cons (Ev.item_str (n := hx (c % 16)) (Ev.name T' rfl rfl rfl) Ev.int rfl (show 3 < 2 ^ 62 by decide)) EvL.nil) (OpN.find_fig hj) ⟨_, rfl⟩) Op2.addI) EvL.nil) (OpN.chr (by omega) (by omega))) (by congr 1; congr 1; omega)) trivial trivial) ?_
            refine Exs.one (Ex.post (Ex1.aug (q := .str (g1 n marks (.hexs c))) T' rfl rfl ?_ (Op2.iaddS hadd) trivial trivial) ?_)
            · by_cases h0 : n = 0
              · subst h0
                exact Ev.ifexp (v := false) (EvB.plain (Ev.name T' rfl rfl rfl) Tru.int) (fun h => nomatch h) (fun _ => (Ev.name T' rfl rfl rfl))
              · have e : g1 n marks (.hexs c) = [c] := if_neg h0
                rw [e]
                exact Ev.ifexp (v := true) (EvB.cast (EvB.plain (Ev.name T' rfl rfl rfl) Tru.int) (by simpa using h0)) (fun _ => (Ev.name T' rfl rfl rfl)) (fun h => nomatch h)
            · exact ⟨rfl, by rw [hnext]; rfl, rfl, rfl, rfl, rfl, trivial⟩
          | lf =>
            refine Exs.one (Ex1.ite_false (EvB.cast (EvB.compare (Ev.name T' rfl rfl rfl) (Ev.str lit_qq) Op2.eqS) rfl) ?_)
            refine Exs.one (Ex1.ite_false (EvB.cast (EvB.compare (Ev.name T' rfl rfl rfl) (Ev.str (l := [61, 10]) rfl) Op2.eqS) rfl) ?_)
            refine Exs.one (Ex1.ite_false (EvB.cast (EvB.compare (Ev.name T' rfl rfl rfl) (Ev.tuple (ps := [[61, 48, 65], [61, 51, 68, 48, 65]].map .str) (EvL.cons (Ev.str (l := [61, 48, 65]) rfl) (EvL.cons (Ev.str (l := [61, 51, 68, 48, 65]) rfl) EvL.nil)) (Nat.le_trans (by decide) h100)) (Op2.inTup (ls := [[61, 48, 65], [61, 51, 68, 48, 65]]))) (by decide)) ?_)
            refine Exs.one (Ex1.ite_false (EvB.cast (EvB.compare (Ev.item_str (n := 10) (Ev.name T' rfl rfl rfl) Ev.int rfl (by decide)) (Ev.str (l := [61]) rfl) Op2.eqS) rfl) ?_)
            have hX : (pr q).length + (if n = 0 then [13, 10] else mk2 marks (n - 1)).length + 1 ≤ sizeLine := by
              have : (g1 n marks .lf).length + 1 ≥ (if n = 0 then [13, 10] else mk2 marks (n - 1)).length + 1 := by
                show (if n = 0 then [13, 10] else mk2 marks (n - 1)).length + 1 ≥ _
                exact Nat.le_refl _
              rw [sizeLine_eq]; omega
            refine Exs.cons (S₁ := (("text", .str (pr q ++ (if n = 0 then [13, 10] else mk2 marks (n - 1)))) :: _, none)) (Ex1.aug (q := .str (if n = 0 then [13, 10] else mk2 marks (n - 1))) T' rfl rfl ?_ (Op2.iaddS (by omega)) trivial trivial) ?_
            · by_cases h0 : n = 0
              · rw [if_pos h0]
                subst h0
                exact Ev.ifexp (v := false) (EvB.plain (Ev.name T' rfl rfl rfl) Tru.int) (fun h => nomatch h) (fun _ => Ev.str (l := [13, 10]) rfl)
              · rw [if_neg h0]
                refine Ev.ifexp (v := true) (EvB.cast (EvB.plain (Ev.name T' rfl rfl rfl) Tru.int) (by simpa using h0)) (fun _ => ?_) (fun h => nomatch h)
                refine Ev.item_list (l := marks.map .str) (i := (n : Int) - 1) (j := n - 1) (Ev.name T' rfl rfl rfl) (Ev.binop (Ev.name T' rfl rfl rfl) Ev.int Op2.subI) ?_ ?_ ?_
                · rw [List.length_map, show (n : Int) - 1 = ((n - 1 : Nat) : Int) by omega]
                  exact pyIdx_nat (by omega)
                · exact hmk _ (by omega)
                · rw [List.length_map]; omega
            · refine Exs.one (Ex.post (Ex1.aug (q := .str []) T' rfl rfl (Ev.ifexp (v := false) (EvB.cast (EvB.compare (Ev.name T' rfl rfl rfl) (Ev.str (l := [13, 99]) rfl) Op2.eqS) rfl) (fun h => nomatch h) (fun _ => Ev.str (l := []) rfl)) (Op2.iaddS (by rw [List.length_append]; exact Nat.le_of_succ_le hX)) trivial trivial) ?_)
              refine ⟨rfl, ?_, rfl, rfl, rfl, rfl, trivial⟩
              rw [hnext]
              exact congrArg (fun z => some (PV.str z)) (List.append_nil _)
          | crlf =>
            refine Exs.one (Ex1.ite_false (EvB.cast (EvB.compare (Ev.name T' rfl rfl rfl) (Ev.str lit_qq) Op2.eqS) rfl) ?_)
            refine Exs.one (Ex1.ite_false (EvB.cast (EvB.compare (Ev.name T' rfl rfl rfl) (Ev.str (l := [61, 10]) rfl) Op2.eqS) rfl) ?_)
            refine Exs.one (Ex1.ite_false (EvB.cast (EvB.compare (Ev.name T' rfl rfl rfl) (Ev.tuple (ps := [[61, 48, 65], [61, 51, 68, 48, 65]].map .str) (EvL.cons (Ev.str (l := [61, 48, 65]) rfl) (EvL.cons (Ev.str (l := [61, 51, 68, 48, 65]) rfl) EvL.nil)) (Nat.le_trans (by decide) h100)) (Op2.inTup (ls := [[61, 48, 65], [61, 51, 68, 48, 65]]))) (by decide)) ?_)
            refine Exs.one (Ex1.ite_false (EvB.cast (EvB.compare (Ev.item_str (n := 13) (Ev.name T' rfl rfl rfl) Ev.int rfl (by decide)) (Ev.str (l := [61]) rfl) Op2.eqS) rfl) ?_)
            have hX : (pr q).length + (if n = 0 then [13, 10] else mk2 marks (n - 1)).length + 1 ≤ sizeLine := by
              have : (g1 n marks .crlf).length + 1 ≥ (if n = 0 then [13, 10] else mk2 marks (n - 1)).length + 1 := by
                show (if n = 0 then [13, 10] else mk2 marks (n - 1)).length + 1 ≥ _
                exact Nat.le_refl _
              rw [sizeLine_eq]; omega
            refine Exs.cons (S₁ := (("text", .str (pr q ++ (if n = 0 then [13, 10] else mk2 marks (n - 1)))) :: _, none)) (Ex1.aug (q := .str (if n = 0 then [13, 10] else mk2 marks (n - 1))) T' rfl rfl ?_ (Op2.iaddS (by omega)) trivial trivial) ?_
            · by_cases h0 : n = 0
              · rw [if_pos h0]
                subst h0
                exact Ev.ifexp (v := false) (EvB.plain (Ev.name T' rfl rfl rfl) Tru.int) (fun h => nomatch h) (fun _ => Ev.str (l := [13, 10]) rfl)
              · rw [if_neg h0]
                refine Ev.ifexp (v := true) (EvB.cast (EvB.plain (Ev.name T' rfl rfl rfl) Tru.int) (by simpa using h0)) (fun _ => ?_) (fun h => nomatch h)
                refine Ev.item_list (l := marks.map .str) (i := (n : Int) - 1) (j := n - 1) (Ev.name T' rfl rfl rfl) (Ev.binop (Ev.name T' rfl rfl rfl) Ev.int Op2.subI) ?_ ?_ ?_
                · rw [List.length_map, show (n : Int) - 1 = ((n - 1 : Nat) : Int) by omega]
                  exact pyIdx_nat (by omega)
                · exact hmk _ (by omega)
                · rw [List.length_map]; omega
            · refine Exs.one (Ex.post (Ex1.aug (q := .str []) T' rfl rfl (Ev.ifexp (v := false) (EvB.cast (EvB.compare (Ev.name T' rfl rfl rfl) (Ev.str (l := [13, 99]) rfl) Op2.eqS) rfl) (fun h => nomatch h) (fun _ => Ev.str (l := []) rfl)) (Op2.iaddS (by rw [List.length_append]; exact Nat.le_of_succ_le hX)) trivial trivial) ?_)
              refine ⟨rfl, ?_, rfl, rfl, rfl, rfl, trivial⟩
              rw [hnext]
              exact congrArg (fun z => some (PV.str z)) (List.append_nil _)
          | crc =>
            refine Exs.one (Ex1.ite_false (EvB.cast (EvB.compare (Ev.name T' rfl rfl rfl) (Ev.str lit_qq) Op2.eqS) rfl) ?_)
            refine Exs.one (Ex1.ite_false (EvB.cast (EvB.compare (Ev.name T' rfl rfl rfl) (Ev.str (l := [61, 10]) rfl) Op2.eqS) rfl) ?_)
            refine Exs.one (Ex1.ite_false (EvB.cast (EvB.compare (Ev.name T' rfl rfl rfl) (Ev.tuple (ps := [[61, 48, 65], [61, 51, 68, 48, 65]].map .str) (EvL.cons (Ev.str (l := [61, 48, 65]) rfl) (EvL.cons (Ev.str (l := [61, 51, 68, 48, 65]) rfl) EvL.nil)) (Nat.le_trans (by decide) h100)) (Op2.inTup (ls := [[61, 48, 65], [61, 51, 68, 48, 65]]))) (by decide)) ?_)
            refine Exs.one (Ex1.ite_false (EvB.cast (EvB.compare (Ev.item_str (n := 13) (Ev.name T' rfl rfl rfl) Ev.int rfl (by decide)) (Ev.str (l := [61]) rfl) Op2.eqS) rfl) ?_)
            have hX : (pr q).length + (if n = 0 then [13, 10] else mk2 marks (n - 1)).length + 1 ≤ sizeLine := by
              have : (g1 n marks .crc).length + 0 ≥ (if n = 0 then [13, 10] else mk2 marks (n - 1)).length + 1 := by
                show (((if n = 0 then [13, 10] else mk2 marks (n - 1)) ++ [99]).length) + 0 ≥ _
                rw [List.length_append]; exact Nat.le_refl _
              rw [sizeLine_eq]; omega
            refine Exs.cons (S₁ := (("text", .str (pr q ++ (if n = 0 then [13, 10] else mk2 marks (n - 1)))) :: _, none)) (Ex1.aug (q := .str (if n = 0 then [13, 10] else mk2 marks (n - 1))) T' rfl rfl ?_ (Op2.iaddS (by omega)) trivial trivial) ?_
            · by_cases h0 : n = 0
              · rw [if_pos h0]
                subst h0
                exact Ev.ifexp (v := false) (EvB.plain (Ev.name T' rfl rfl rfl) Tru.int) (fun h => nomatch h) (fun _ => Ev.str (l := [13, 10]) rfl)
              · rw [if_neg h0]
                refine Ev.ifexp (v := true) (EvB.cast (EvB.plain (Ev.name T' rfl rfl rfl) Tru.int) (by simpa using h0)) (fun _ => ?_) (fun h => nomatch h)
                refine Ev.item_list (l := marks.map .str) (i := (n : Int) - 1) (j := n - 1) (Ev.name T' rfl rfl rfl) (Ev.binop (Ev.name T' rfl rfl rfl) Ev.int Op2.subI) ?_ ?_ ?_
                · rw [List.length_map, show (n : Int) - 1 = ((n - 1 : Nat) : Int) by omega]
                  exact pyIdx_nat (by omega)
                · exact hmk _ (by omega)
                · rw [List.length_map]; omega
            · refine Exs.one (Ex.post (Ex1.aug (q := .str [99]) T' rfl rfl (Ev.ifexp (v := true) (EvB.cast (EvB.compare (Ev.name T' rfl rfl rfl) (Ev.str (l := [13, 99]) rfl) Op2.eqS) rfl) (fun _ => Ev.str (l := [99]) rfl) (fun h => nomatch h)) (Op2.iaddS (by rw [List.length_append]; exact hX)) trivial trivial) ?_)
              refine ⟨rfl, ?_, rfl, rfl, rfl, rfl, trivial⟩
              rw [hnext]
              exact congrArg (fun z => some (PV.str z)) (List.append_assoc _ _ _)
    · exact .inl (fun _ _ => rfl)
end
end Mine
end

section
open PySem
set_option Elab.async false
set_option maxRecDepth 100000
namespace Mine

/-- what stands in law 2's texts behind some rounds -/
inductive Jt where
  | it (x : It)
  | ch (c : Nat)
def Jt.raw : Jt → List Nat
  | .it x => x.raw
  | .ch c => [c]
def Jt.ok : Jt → Prop
  | .it x => x.ok
  | .ch c => 35 ≤ c ∧ c ≤ 126 ∧ c ≠ 61
def rend (l : List Jt) : List Nat := l.flatMap Jt.raw
/-- one decode -/
def dJ (mark : List Jt) : Jt → List Jt
  | .it .lf => mark
  | .it .crlf => mark
  | .it .crc => mark ++ [.ch 99]
  | .it .e0 => [.it .lf]
  | .it .e1 => [.it .e0]
  | .it .qq => [.it .qq]
  | .it .soft => []
  | .it (.hexs c) => [.ch c]
  | .ch c => [.ch c]
def stepJ (mark : List Jt) (l : List Jt) : List Jt := l.flatMap (dJ mark)
def iterJ (mark : List Jt) : Nat → List Jt → List Jt
  | 0, l => l
  | n + 1, l => iterJ mark n (stepJ mark l)
/-- one mending of the ends -/
def Jt.fx : Jt → List Nat
  | .it .lf => [13, 10]
  | .it .crlf => [13, 10]
  | .it .crc => [13, 10, 99]
  | .it .soft => [61, 13, 10]
  | j => j.raw
def fxL (l : List Jt) : List Nat := l.flatMap Jt.fx
/-- what the reply tells -/
def Jt.tx : Jt → List Nat
  | .it .qq => [34]
  | j => j.fx
def txL (l : List Jt) : List Nat := l.flatMap Jt.tx

theorem hx_hex {k : Nat} (h : k < 16) : hexv (hx k) = some k := by revert k; decide
theorem hx_isHex {k : Nat} (h : k < 16) : isHex (hx k) = true := by unfold isHex; rw [hx_hex h]; rfl
theorem unhex_hx {i j : Nat} (hi : i < 16) (hj : j < 16) : unhex (hx i) (hx j) = 16 * i + j := by
  unfold unhex; rw [hx_hex hi, hx_hex hj]; rfl
theorem hx_range {k : Nat} (h : k < 16) : 48 ≤ hx k ∧ hx k ≤ 70 ∧ hx k ≠ 61 := by revert k; decide

theorem dS_raw {mark : List Jt} {r : List Nat} {j : Jt} (h : j.ok) : dS (rend mark) (j.raw ++ r) = rend (dJ mark j) ++ dS (rend mark) r := by
  cases j with
  | ch c => obtain ⟨h1, h2, h3⟩ := h; simp [Jt.raw, dJ, rend, dS_ch (show c ≠ 10 by omega) (show c ≠ 13 by omega) h3]
  | it x =>
    cases x with
    | lf => exact dS_10
    | crlf => exact dS_1310
    | crc =>
      show dS _ (13 :: 99 :: r) = rend (mark ++ [.ch 99]) ++ _
      rw [dS_13 (by simp), dS_ch (by decide) (by decide) (by decide)]
      simp [rend, Jt.raw]
    | e0 =>
      show dS _ (61 :: 48 :: 65 :: r) = _
      rw [dS_hex (by decide) (by decide)]
      rfl
    | e1 =>
      show dS _ (61 :: 51 :: 68 :: 48 :: 65 :: r) = _
      rw [dS_hex (by decide) (by decide), dS_ch (by decide) (by decide) (by decide), dS_ch (by decide) (by decide) (by decide)]
      rfl
    | qq =>
      show dS _ (34 :: 34 :: r) = _
      rw [dS_ch (by decide) (by decide) (by decide), dS_ch (by decide) (by decide) (by decide)]
      rfl
    | soft => exact dS_s10
    | hexs c =>
      obtain ⟨h1, h2, h3⟩ := h
      show dS _ (61 :: hx (c / 16) :: hx (c % 16) :: r) = _
      rw [dS_hex (hx_isHex (by omega)) (hx_isHex (by omega)), unhex_hx (by omega) (by omega)]
      have : 16 * (c / 16) + c % 16 = c := by omega
      rw [this]
      rfl
theorem dS_fx {mark : List Jt} {r : List Nat} {j : Jt} (h : j.ok) : dS (rend mark) (j.fx ++ r) = rend (dJ mark j) ++ dS (rend mark) r := by
  cases j with
  | ch c => exact dS_raw h
  | it x =>
    cases x with
    | lf => exact dS_1310
    | crlf => exact dS_1310
    | crc =>
      show dS _ (13 :: 10 :: 99 :: r) = rend (mark ++ [.ch 99]) ++ _
      rw [dS_1310, dS_ch (by decide) (by decide) (by decide)]
      simp [rend, Jt.raw]
    | soft => exact dS_s1310
    | e0 => exact dS_raw (j := .it .e0) h
    | e1 => exact dS_raw (j := .it .e1) h
    | qq => exact dS_raw (j := .it .qq) h
    | hexs c => exact dS_raw (j := .it (.hexs c)) h
theorem fix_raw {r : List Nat} {j : Jt} (h : j.ok) : fixF (j.raw ++ r) = j.fx ++ fixF r := by
  have oth : ∀ {c : Nat} {r : List Nat}, c ≠ 10 → c ≠ 13 → fixF (c :: r) = c :: fixF r := by
    intro c r h10 h13
    rw [fixF]
    · rintro r' rfl; exact absurd rfl h13
    · exact h13
    · exact h10
  cases j with
  | ch c => obtain ⟨h1, h2, h3⟩ := h; exact oth (by omega) (by omega)
  | it x =>
    cases x with
    | lf => show fixF (10 :: r) = _; rw [fixF]; rfl
    | crlf => show fixF (13 :: 10 :: r) = _; rw [fixF]; rfl
    | crc =>
      show fixF (13 :: 99 :: r) = 13 :: 10 :: 99 :: fixF r
      rw [fixF, oth (by decide) (by decide)]
      intro r' e; cases e
    | e0 =>
      show fixF (61 :: 48 :: 65 :: r) = 61 :: 48 :: 65 :: fixF r
      rw [oth (by decide) (by decide), oth (by decide) (by decide), oth (by decide) (by decide)]
    | e1 =>
      show fixF (61 :: 51 :: 68 :: 48 :: 65 :: r) = 61 :: 51 :: 68 :: 48 :: 65 :: fixF r
      rw [oth (by decide) (by decide), oth (by decide) (by decide), oth (by decide) (by decide), oth (by decide) (by decide), oth (by decide) (by decide)]
    | qq =>
      show fixF (34 :: 34 :: r) = 34 :: 34 :: fixF r
      rw [oth (by decide) (by decide), oth (by decide) (by decide)]
    | soft =>
      show fixF (61 :: 10 :: r) = 61 :: 13 :: 10 :: fixF r
      rw [oth (by decide) (by decide), fixF]
    | hexs c =>
      obtain ⟨h1, h2, h3⟩ := h
      have a1 := hx_range (show c / 16 < 16 by omega)
      have a2 := hx_range (show c % 16 < 16 by omega)
      show fixF (61 :: hx (c / 16) :: hx (c % 16) :: r) = 61 :: hx (c / 16) :: hx (c % 16) :: fixF r
      rw [oth (by decide) (by decide), oth (by omega) (by omega), oth (by omega) (by omega)]
theorem par_fx {r : List Nat} {j : Jt} (h : j.ok) : parP (j.fx ++ r) = j.tx ++ parP r := by
  have oth : ∀ {c : Nat} {r : List Nat}, c ≠ 34 → parP (c :: r) = c :: parP r := fun h => parP_cons h
  cases j with
  | ch c => obtain ⟨h1, h2, h3⟩ := h; exact oth (by omega)
  | it x =>
    cases x with
    | lf => show parP (13 :: 10 :: r) = 13 :: 10 :: parP r; rw [oth (by decide), oth (by decide)]
    | crlf => show parP (13 :: 10 :: r) = 13 :: 10 :: parP r; rw [oth (by decide), oth (by decide)]
    | crc => show parP (13 :: 10 :: 99 :: r) = 13 :: 10 :: 99 :: parP r; rw [oth (by decide), oth (by decide), oth (by decide)]
    | e0 => show parP (61 :: 48 :: 65 :: r) = 61 :: 48 :: 65 :: parP r; rw [oth (by decide), oth (by decide), oth (by decide)]
    | e1 => show parP (61 :: 51 :: 68 :: 48 :: 65 :: r) = 61 :: 51 :: 68 :: 48 :: 65 :: parP r; rw [oth (by decide), oth (by decide), oth (by decide), oth (by decide), oth (by decide)]
    | qq => exact parP_two
    | soft => show parP (61 :: 13 :: 10 :: r) = 61 :: 13 :: 10 :: parP r; rw [oth (by decide), oth (by decide), oth (by decide)]
    | hexs c =>
      obtain ⟨h1, h2, h3⟩ := h
      have a1 := hx_range (show c / 16 < 16 by omega)
      have a2 := hx_range (show c % 16 < 16 by omega)
      show parP (61 :: hx (c / 16) :: hx (c % 16) :: r) = 61 :: hx (c / 16) :: hx (c % 16) :: parP r
      rw [oth (by decide), oth (by omega), oth (by omega)]
theorem twice_tx {j : Jt} (h : j.ok) : twice 34 [34, 34] j.tx = j.fx := by
  cases j with
  | ch c => obtain ⟨h1, h2, h3⟩ := h; exact twice_free (by show 34 ∉ [c]; simp; omega)
  | it x =>
    cases x with
    | hexs c =>
      obtain ⟨h1, h2, h3⟩ := h
      have a1 := hx_range (show c / 16 < 16 by omega)
      have a2 := hx_range (show c % 16 < 16 by omega)
      refine twice_free ?_
      show 34 ∉ [61, hx (c / 16), hx (c % 16)]
      simp
      omega
    | _ => rfl

def okL (l : List Jt) : Prop := ∀ j ∈ l, j.ok
theorem dS_rend {mark : List Jt} {r : List Nat} : ∀ {l : List Jt}, okL l → dS (rend mark) (rend l ++ r) = rend (stepJ mark l) ++ dS (rend mark) r
  | [], _ => rfl
  | j :: l, h => by
    have ih := dS_rend (mark := mark) (r := r) (l := l) fun x hx => h x (List.mem_cons_of_mem _ hx)
    show dS _ ((j.raw ++ rend l) ++ r) = rend (dJ mark j ++ stepJ mark l) ++ _
    rw [List.append_assoc, dS_raw (h j (by simp)), ih]
    simp [rend]
theorem dS_fxL {mark : List Jt} {r : List Nat} : ∀ {l : List Jt}, okL l → dS (rend mark) (fxL l ++ r) = rend (stepJ mark l) ++ dS (rend mark) r
  | [], _ => rfl
  | j :: l, h => by
    have ih := dS_fxL (mark := mark) (r := r) (l := l) fun x hx => h x (List.mem_cons_of_mem _ hx)
    show dS _ ((j.fx ++ fxL l) ++ r) = rend (dJ mark j ++ stepJ mark l) ++ _
    rw [List.append_assoc, dS_fx (h j (by simp)), ih]
    simp [rend]
theorem fix_rend {r : List Nat} : ∀ {l : List Jt}, okL l → fixF (rend l ++ r) = fxL l ++ fixF r
  | [], _ => rfl
  | j :: l, h => by
    have ih := fix_rend (r := r) (l := l) fun x hx => h x (List.mem_cons_of_mem _ hx)
    show fixF ((j.raw ++ rend l) ++ r) = (j.fx ++ fxL l) ++ _
    rw [List.append_assoc, fix_raw (h j (by simp)), ih, List.append_assoc]
theorem par_fxL {r : List Nat} : ∀ {l : List Jt}, okL l → parP (fxL l ++ r) = txL l ++ parP r
  | [], _ => rfl
  | j :: l, h => by
    have ih := par_fxL (r := r) (l := l) fun x hx => h x (List.mem_cons_of_mem _ hx)
    show parP ((j.fx ++ fxL l) ++ r) = (j.tx ++ txL l) ++ _
    rw [List.append_assoc, par_fx (h j (by simp)), ih, List.append_assoc]
theorem twice_txL : ∀ {l : List Jt}, okL l → twice 34 [34, 34] (txL l) = fxL l
  | [], _ => rfl
  | j :: l, h => by
    have ih := twice_txL (l := l) fun x hx => h x (List.mem_cons_of_mem _ hx)
    show twice 34 [34, 34] (j.tx ++ txL l) = j.fx ++ fxL l
    rw [twice_app, twice_tx (h j (by simp)), ih]
end Mine
end

section
open PySem
set_option Elab.async false
set_option maxRecDepth 100000
namespace Mine

section
variable {mark : List Jt}
theorem iterJ_app (mark : List Jt) : ∀ (n : Nat) (a b : List Jt), iterJ mark n (a ++ b) = iterJ mark n a ++ iterJ mark n b
  | 0, _, _ => rfl
  | n + 1, a, b => by
    show iterJ mark n (stepJ mark (a ++ b)) = iterJ mark n (stepJ mark a) ++ iterJ mark n (stepJ mark b)
    rw [← iterJ_app mark n]
    congr 1
    exact List.flatMap_append
theorem iterJ_out (mark : List Jt) : ∀ (n : Nat) (l : List Jt), iterJ mark (n + 1) l = stepJ mark (iterJ mark n l)
  | 0, _ => rfl
  | n + 1, l => by
    show iterJ mark (n + 1) (stepJ mark l) = _
    rw [iterJ_out mark n]
    rfl
theorem iterJ_still {j : Jt} (h : dJ mark j = [j]) : ∀ n, iterJ mark n [j] = [j]
  | 0 => rfl
  | n + 1 => by
    show iterJ mark n (stepJ mark [j]) = _
    have : stepJ mark [j] = [j] := by show dJ mark j ++ [] = [j]; rw [h]; rfl
    rw [this]
    exact iterJ_still h n
theorem iterJ_nil : ∀ n, iterJ mark n [] = []
  | 0 => rfl
  | n + 1 => iterJ_nil n
theorem iterJ_lf (n : Nat) : iterJ mark (n + 1) [.it .lf] = iterJ mark n mark := by
  show iterJ mark n (mark ++ []) = _
  rw [List.append_nil]
theorem txL_app (a b : List Jt) : txL (a ++ b) = txL a ++ txL b := List.flatMap_append
def marksN (mark : List Jt) (n : Nat) : List (List Nat) := (List.range n).map fun k => txL (iterJ mark k mark)
theorem marksN_succ (n : Nat) : marksN mark (n + 1) = marksN mark n ++ [txL (iterJ mark n mark)] := by
  unfold marksN
  rw [List.range_succ, List.map_append]
  rfl
theorem mk2_marks {n k : Nat} (h : k < n) : mk2 (marksN mark n) k = txL (iterJ mark k mark) := by
  unfold mk2 marksN
  rw [List.getElem?_map, List.getElem?_range h]
  rfl
theorem g1_eq (n : Nat) (x : It) : g1 n (marksN mark n) x = txL (iterJ mark n [.it x]) := by
  cases x with
  | qq => rw [iterJ_still rfl]; rfl
  | soft =>
    cases n with
    | zero => rfl
    | succ n => exact (congrArg txL (iterJ_nil n)).symm
  | hexs c =>
    cases n with
    | zero => exact (List.append_nil _).symm
    | succ n =>
      show [c] = txL (iterJ mark n (stepJ mark [.it (.hexs c)]))
      have : stepJ mark [.it (.hexs c)] = [.ch c] := rfl
      rw [this, iterJ_still rfl]
      rfl
  | lf =>
    cases n with
    | zero => rfl
    | succ n => rw [iterJ_lf]; exact mk2_marks (Nat.lt_succ_self n)
  | crlf =>
    cases n with
    | zero => rfl
    | succ n =>
      show mk2 _ n = txL (iterJ mark n (mark ++ []))
      rw [List.append_nil]
      exact mk2_marks (Nat.lt_succ_self n)
  | crc =>
    cases n with
    | zero => rfl
    | succ n =>
      show mk2 _ n ++ [99] = txL (iterJ mark n ((mark ++ [.ch 99]) ++ []))
      rw [List.append_nil, iterJ_app, iterJ_still rfl, txL_app, mk2_marks (Nat.lt_succ_self n)]
      rfl
  | e0 =>
    match n with
    | 0 => rfl
    | 1 => rfl
    | n + 2 =>
      show mk2 _ n = txL (iterJ mark (n + 1) [.it .lf])
      rw [iterJ_lf]
      exact mk2_marks (by omega)
  | e1 =>
    match n with
    | 0 => rfl
    | 1 => rfl
    | 2 => rfl
    | n + 3 =>
      show mk2 _ n = txL (iterJ mark (n + 1) [.it .lf])
      rw [iterJ_lf]
      exact mk2_marks (by omega)
theorem grown_eq (n : Nat) : ∀ its : List It, grownL n (marksN mark n) its = txL (iterJ mark n (its.map .it))
  | [] => by rw [List.map_nil, iterJ_nil]; rfl
  | x :: its => by
    show g1 n (marksN mark n) x ++ grownL n (marksN mark n) its = txL (iterJ mark n ([.it x] ++ its.map .it))
    rw [iterJ_app, txL_app, g1_eq, grown_eq n its]
end

theorem okL_it {its : List It} (h : ∀ x ∈ its, x.ok) : okL (its.map .it) := by
  intro j hj
  obtain ⟨x, hx, rfl⟩ := List.mem_map.mp hj
  exact h x hx
theorem ok_dJ {mark : List Jt} (hm : okL mark) {j : Jt} (h : j.ok) : okL (dJ mark j) := by
  have h99 : Jt.ok (.ch 99) := ⟨by decide, by decide, by decide⟩
  intro k hk
  cases j with
  | ch c => rw [List.mem_singleton.mp hk]; exact h
  | it x =>
    cases x with
    | lf => exact hm k hk
    | crlf => exact hm k hk
    | crc =>
      rcases List.mem_append.mp hk with hk | hk
      · exact hm k hk
      · rw [List.mem_singleton.mp hk]; exact h99
    | e0 => rw [List.mem_singleton.mp hk]; trivial
    | e1 => rw [List.mem_singleton.mp hk]; trivial
    | qq => rw [List.mem_singleton.mp hk]; trivial
    | soft => cases hk
    | hexs c => rw [List.mem_singleton.mp hk]; exact h
theorem ok_iter {mark : List Jt} (hm : okL mark) : ∀ (n : Nat) {l : List Jt}, okL l → okL (iterJ mark n l)
  | 0, _, h => h
  | n + 1, l, h => ok_iter hm n fun k hk => by
    obtain ⟨j, hj, hk⟩ := List.mem_flatMap.mp hk
    exact ok_dJ hm (h j hj) k hk

theorem len_dJ {mark : List Jt} (hm : mark.length ≤ 3) (j : Jt) : (dJ mark j).length ≤ 4 := by
  cases j with
  | ch c => show 1 ≤ 4; decide
  | it x =>
    cases x with
    | lf => exact Nat.le_trans hm (by decide)
    | crlf => exact Nat.le_trans hm (by decide)
    | crc => show (mark ++ [Jt.ch 99]).length ≤ 4; rw [List.length_append]; exact Nat.succ_le_succ hm
    | _ => first | (show 1 ≤ 4; decide) | (show 0 ≤ 4; decide)
theorem len_step {mark : List Jt} (hm : mark.length ≤ 3) : ∀ l : List Jt, (stepJ mark l).length ≤ 4 * l.length
  | [] => Nat.le_refl _
  | j :: l => by
    have := len_step hm l
    have h1 := len_dJ hm j
    show (dJ mark j ++ stepJ mark l).length ≤ _
    rw [List.length_append, List.length_cons]
    omega
theorem len_iter {mark : List Jt} (hm : mark.length ≤ 3) : ∀ (n : Nat) (l : List Jt), (iterJ mark n l).length ≤ 4 ^ n * l.length
  | 0, l => by simp [iterJ]
  | n + 1, l => by
    have h1 := len_iter hm n (stepJ mark l)
    have h2 := len_step hm l
    have h3 : 4 ^ n * (stepJ mark l).length ≤ 4 ^ n * (4 * l.length) := Nat.mul_le_mul_left _ h2
    rw [← Nat.mul_assoc, ← Nat.pow_succ] at h3
    exact Nat.le_trans h1 h3
theorem len_raw (j : Jt) : j.raw.length ≤ 5 ∧ j.fx.length ≤ 5 ∧ j.tx.length ≤ 5 ∧ 1 ≤ j.raw.length := by
  cases j with
  | ch c => exact ⟨show 1 ≤ 5 by decide, show 1 ≤ 5 by decide, show 1 ≤ 5 by decide, show 1 ≤ 1 by decide⟩
  | it x => cases x <;> exact ⟨by simp [Jt.raw, It.raw, hexU], by simp [Jt.fx, Jt.raw, It.raw, hexU], by simp [Jt.tx, Jt.fx, Jt.raw, It.raw, hexU], by simp [Jt.raw, It.raw, hexU]⟩
theorem len_flat {f : Jt → List Nat} (h : ∀ j, (f j).length ≤ 5) : ∀ l : List Jt, (l.flatMap f).length ≤ 5 * l.length
  | [] => Nat.le_refl _
  | j :: l => by
    have := len_flat h l
    have h1 := h j
    rw [List.flatMap_cons, List.length_append, List.length_cons]
    omega

def pre2 : List Nat := [50, 53, 55, 32, 34]
def suf2 : List Nat := [34, 32, 109, 97, 100, 101]
theorem fix_other' {c : Nat} (r : List Nat) (h10 : c ≠ 10) (h13 : c ≠ 13) : fixF (c :: r) = c :: fixF r := by
  rw [fixF]
  · rintro r' rfl; exact absurd rfl h13
  · exact h13
  · exact h10
theorem fix_reply {l : List Jt} (h : okL l) : fixF (pre2 ++ rend l ++ suf2) = pre2 ++ (fxL l ++ suf2) := by
  show fixF (50 :: 53 :: 55 :: 32 :: 34 :: (rend l ++ suf2)) = 50 :: 53 :: 55 :: 32 :: 34 :: (fxL l ++ suf2)
  rw [fix_other' _ (by decide) (by decide), fix_other' _ (by decide) (by decide), fix_other' _ (by decide) (by decide), fix_other' _ (by decide) (by decide), fix_other' _ (by decide) (by decide), fix_rend h]
  rfl
theorem par_reply {l : List Jt} (h : okL l) : parP (fxL l ++ suf2) = txL l := by
  rw [par_fxL h]
  have : parP suf2 = [] := parP_one (by decide)
  rw [this, List.append_nil]
theorem dS_pre {eol r : List Nat} : dS eol (pre2 ++ r) = pre2 ++ dS eol r := by
  show dS eol (50 :: 53 :: 55 :: 32 :: 34 :: r) = 50 :: 53 :: 55 :: 32 :: 34 :: dS eol r
  rw [dS_ch (by decide) (by decide) (by decide), dS_ch (by decide) (by decide) (by decide), dS_ch (by decide) (by decide) (by decide), dS_ch (by decide) (by decide) (by decide), dS_ch (by decide) (by decide) (by decide)]
theorem dS_suf {eol : List Nat} : dS eol suf2 = suf2 := by
  show dS eol (34 :: 32 :: 109 :: 97 :: 100 :: 101 :: []) = _
  rw [dS_ch (by decide) (by decide) (by decide), dS_ch (by decide) (by decide) (by decide), dS_ch (by decide) (by decide) (by decide), dS_ch (by decide) (by decide) (by decide), dS_ch (by decide) (by decide) (by decide), dS_ch (by decide) (by decide) (by decide)]
  rfl

/-- signs of an item -/
theorem raw_signs {j : Jt} (h : j.ok) : ∀ c ∈ j.raw, (c = 10 ∨ c = 13 ∨ (33 ≤ c ∧ c ≤ 126)) := by
  cases j with
  | ch c => obtain ⟨h1, h2, _⟩ := h; intro x hx; rw [List.mem_singleton.mp hx]; exact .inr (.inr ⟨by omega, h2⟩)
  | it x =>
    cases x with
    | hexs c =>
      obtain ⟨h1, h2, _⟩ := h
      have a1 := hx_range (show c / 16 < 16 by omega)
      have a2 := hx_range (show c % 16 < 16 by omega)
      intro x hx
      have hx' : x ∈ [61, Mine.hx (c / 16), Mine.hx (c % 16)] := hx
      simp at hx'
      omega
    | _ => intro x hx; revert x; decide
theorem fx_signs {j : Jt} (h : j.ok) : ∀ c ∈ j.fx, (c = 10 ∨ c = 13 ∨ (33 ≤ c ∧ c ≤ 126)) := by
  cases j with
  | ch c => exact raw_signs h
  | it x =>
    cases x with
    | hexs c => exact raw_signs (j := .it (.hexs c)) h
    | _ => intro x hx; revert x; decide

def noSpB : List Nat → Bool
  | [] => true
  | [c] => c != 32
  | c :: d :: r => (c != 32 || (d != 10 && d != 13)) && noSpB (d :: r)
theorem noSpB_cons {c : Nat} {r : List Nat} (h : c ≠ 32) : noSpB (c :: r) = noSpB r := by
  cases r with
  | nil => simp [noSpB, h]
  | cons d r => simp [noSpB, h]
theorem noSpB_app {a r : List Nat} (h : ∀ c ∈ a, c ≠ 32) : noSpB (a ++ r) = noSpB r := by
  induction a with
  | nil => rfl
  | cons c a ih =>
    rw [List.cons_append, noSpB_cons (h c (by simp))]
    exact ih fun x hx => h x (List.mem_cons_of_mem _ hx)
theorem noSp_of : ∀ (t : List Nat), noSpB t = true → noSp t := by
  intro t ht u v e
  subst e
  induction u with
  | nil =>
    cases v with
    | nil => simp [noSpB] at ht
    | cons c w =>
      simp [noSpB] at ht
      exact ⟨c, w, rfl, ht.1.1, ht.1.2⟩
  | cons a u ih =>
    apply ih
    rw [List.cons_append] at ht
    cases h : u ++ 32 :: v with
    | nil => rfl
    | cons d r =>
      rw [h] at ht
      simp only [noSpB, Bool.and_eq_true] at ht
      exact ht.2

/-- a text of the law's shape -/
theorem text_ok {b : List Nat} (h : ∀ c ∈ b, (c = 10 ∨ c = 13 ∨ (33 ≤ c ∧ c ≤ 126))) :
    (∀ c ∈ pre2 ++ (b ++ suf2), okc c) ∧ (pre2 ++ (b ++ suf2)).getLast? ≠ some 61 ∧ noSp (pre2 ++ (b ++ suf2)) := by
  refine ⟨?_, ?_, ?_⟩
  · intro c hc
    rcases List.mem_append.mp hc with hc | hc
    · have : c = 50 ∨ c = 53 ∨ c = 55 ∨ c = 32 ∨ c = 34 := by simpa [pre2] using hc
      unfold okc; omega
    · rcases List.mem_append.mp hc with hc | hc
      · have := h c hc
        unfold okc; omega
      · have : c = 34 ∨ c = 32 ∨ c = 109 ∨ c = 97 ∨ c = 100 ∨ c = 101 := by simpa [suf2] using hc
        unfold okc; omega
  · rw [List.getLast?_append, List.getLast?_append]
    show ((some 101).or _).or _ ≠ some 61
    simp
  · apply noSp_of
    show noSpB (50 :: 53 :: 55 :: 32 :: 34 :: (b ++ suf2)) = true
    rw [noSpB_cons (by decide), noSpB_cons (by decide), noSpB_cons (by decide)]
    have h34 : noSpB (34 :: (b ++ suf2)) = true := by
      rw [noSpB_cons (by decide), noSpB_app (fun c hc => by have := h c hc; omega)]
      decide
    show ((32 != 32 || (34 != 10 && 34 != 13)) && noSpB (34 :: (b ++ suf2))) = true
    rw [h34]
    decide
end Mine
end

section
open PySem PySem.W PyProof.Rows PySem.Calls PySem.Spec
set_option Elab.async false
set_option maxRecDepth 100000
namespace Mine

def cellsN (xs : List Int) : List Nat := (xs.take 7).map (fun v => (v.fmod 1000000).toNat) ++ [0, 741, 739, 4, 583, 2, 6].drop xs.length
theorem cellsN_len (xs : List Int) : (cellsN xs).length = 7 := by
  unfold cellsN
  rw [List.length_append, List.length_map, List.length_take, List.length_drop]
  simp
  omega
theorem fmod_nat (v : Int) : (((v.fmod 1000000).toNat : Nat) : Int) = v.fmod 1000000 := by
  rw [Int.fmod_eq_emod_of_nonneg _ (by decide)]
  exact Int.toNat_of_nonneg (Int.emod_nonneg _ (by decide))
theorem cellsN_pv (xs : List Int) : (xs.take 7).map (fun v => PV.int (v.fmod 1000000)) ++ ([.int 0, .int 741, .int 739, .int 4, .int 583, .int 2, .int 6] : List PV).drop xs.length = (cellsN xs).map fun v => PV.int ((v : Nat) : Int) := by
  unfold cellsN
  rw [List.map_append, List.map_map, List.map_drop]
  congr 1
  apply List.map_congr_left
  intro v _
  show PV.int _ = PV.int _
  rw [fmod_nat]
def its2 (xs : List Int) : List It := (cellsN xs).map itOf
theorem its2_len (xs : List Int) : (its2 xs).length = 7 := by unfold its2; rw [List.length_map, cellsN_len]
theorem its2_ok (xs : List Int) : ∀ x ∈ its2 xs, x.ok := by
  intro x hx
  obtain ⟨v, _, rfl⟩ := List.mem_map.mp hx
  exact itOf_ok v
def mk' (xs : List Int) : List Jt := ((its2 xs).take 3).map .it
def J2 (xs : List Int) (n : Nat) : List Jt := iterJ (mk' xs) n (((its2 xs).drop 3).map .it)
theorem mk'_ok (xs : List Int) : okL (mk' xs) := okL_it fun x hx => its2_ok xs x (List.mem_of_mem_take hx)
theorem J2_ok (xs : List Int) (n : Nat) : okL (J2 xs n) := ok_iter (mk'_ok xs) n (okL_it fun x hx => its2_ok xs x (List.mem_of_mem_drop hx))
theorem mk'_len (xs : List Int) : (mk' xs).length = 3 := by unfold mk'; rw [List.length_map, List.length_take, its2_len]; rfl
theorem J2_len (xs : List Int) {n : Nat} (h : n ≤ 5) : (J2 xs n).length ≤ 4096 := by
  have h1 := len_iter (mark := mk' xs) (by rw [mk'_len]; exact Nat.le_refl _) n (((its2 xs).drop 3).map .it)
  have h2 : ((((its2 xs).drop 3).map Jt.it)).length = 4 := by rw [List.length_map, List.length_drop, its2_len]
  rw [h2] at h1
  have h3 : 4 ^ n ≤ 4 ^ 5 := Nat.pow_le_pow_right (by decide) h
  have h4 : (4 : Nat) ^ 5 = 1024 := by decide
  unfold J2
  omega
theorem M2_len (xs : List Int) {n : Nat} (h : n ≤ 5) : (iterJ (mk' xs) n (mk' xs)).length ≤ 4096 := by
  have h1 := len_iter (mark := mk' xs) (by rw [mk'_len]; exact Nat.le_refl _) n (mk' xs)
  rw [mk'_len] at h1
  have h3 : 4 ^ n ≤ 4 ^ 5 := Nat.pow_le_pow_right (by decide) h
  have h4 : (4 : Nat) ^ 5 = 1024 := by decide
  omega
theorem tx_len (l : List Jt) : (txL l).length ≤ 5 * l.length := len_flat (fun j => (len_raw j).2.2.1) l
theorem fx_len (l : List Jt) : (fxL l).length ≤ 5 * l.length := len_flat (fun j => (len_raw j).2.1) l
theorem rend_len (l : List Jt) : (rend l).length ≤ 5 * l.length := len_flat (fun j => (len_raw j).1) l
/-- the reply behind n rounds -/
def rep2 (xs : List Int) (n : Nat) : List Nat := pre2 ++ rend (J2 xs n) ++ suf2
def men2 (xs : List Int) (n : Nat) : List Nat := pre2 ++ (fxL (J2 xs n) ++ suf2)
theorem eol_ne (xs : List Int) : rend (mk' xs) ≠ [] := by
  have h := mk'_len xs
  cases e : mk' xs with
  | nil => rw [e] at h; cases h
  | cons j l =>
    have := (len_raw j).2.2.2
    intro h0
    have h1 := congrArg List.length h0
    show False
    have h2 : (rend (j :: l)).length = j.raw.length + (rend l).length := by unfold rend; rw [List.flatMap_cons, List.length_append]
    rw [h2] at h1
    simp at h1
    rw [h1.1] at this
    simp at this
theorem enc_ok (xs : List Int) (n : Nat) {enc : List Nat} (h : enc = rep2 xs n ∨ enc = men2 xs n) :
    (∀ c ∈ enc, okc c) ∧ enc.getLast? ≠ some 61 ∧ noSp enc ∧ dS (rend (mk' xs)) enc = rep2 xs (n + 1) := by
  have hok := J2_ok xs n
  have hst : stepJ (mk' xs) (J2 xs n) = J2 xs (n + 1) := (iterJ_out _ n _).symm
  rcases h with rfl | rfl
  · have h1 : rep2 xs n = pre2 ++ (rend (J2 xs n) ++ suf2) := List.append_assoc _ _ _
    rw [h1]
    obtain ⟨a, b, d⟩ := text_ok (b := rend (J2 xs n)) fun c hc => by
      obtain ⟨j, hj, hc⟩ := List.mem_flatMap.mp hc
      exact raw_signs (hok j hj) c hc
    refine ⟨a, b, d, ?_⟩
    rw [dS_pre, dS_rend hok, dS_suf, hst]
    exact (List.append_assoc _ _ _).symm
  · obtain ⟨a, b, d⟩ := text_ok (b := fxL (J2 xs n)) fun c hc => by
      obtain ⟨j, hj, hc⟩ := List.mem_flatMap.mp hc
      exact fx_signs (hok j hj) c hc
    refine ⟨a, b, d, ?_⟩
    unfold men2
    rw [dS_pre, dS_fxL hok, dS_suf, hst]
    exact (List.append_assoc _ _ _).symm
theorem enc_len (xs : List Int) {n : Nat} (hn : n ≤ 4) {enc : List Nat} (h : enc = rep2 xs n ∨ enc = men2 xs n) : enc.length ≤ 20491 := by
  have h1 := J2_len xs (show n ≤ 5 by omega)
  have h2 := rend_len (J2 xs n)
  have h3 := fx_len (J2 xs n)
  rcases h with rfl | rfl
  · unfold rep2
    rw [List.length_append, List.length_append]
    show 5 + _ + 6 ≤ _
    omega
  · unfold men2
    rw [List.length_append, List.length_append]
    show 5 + (_ + 6) ≤ _
    omega
theorem eol_len (xs : List Int) : (rend (mk' xs)).length ≤ 15 := by
  have := rend_len (mk' xs)
  rw [mk'_len] at this
  exact this
theorem dec_reply (xs : List Int) {n : Nat} {enc : List Nat} (h : enc = rep2 xs n ∨ enc = men2 xs n) : decD (rend (mk' xs)) enc = rep2 xs (n + 1) := by
  obtain ⟨a, b, _, d⟩ := enc_ok xs n h
  rw [decD_eq a b (.inl (eol_ne xs)), d]
theorem fix_rep (xs : List Int) (n : Nat) : fixF (rep2 xs n) = men2 xs n := fix_reply (J2_ok xs n)
theorem par_men (xs : List Int) (n : Nat) : parP (fxL (J2 xs n) ++ suf2) = txL (J2 xs n) := par_reply (J2_ok xs n)

def stop2 (xs : List Int) (n : Nat) : Bool := decide (n = 5) || decide (30 < (txL (J2 xs n)).length)
def fin2 (xs : List Int) : Nat → Nat → Nat
  | 0, i => i
  | f + 1, i => if stop2 xs i = true then i else fin2 xs f (i + 1)

section
variable {c : FC} {σ : Sig} {d : Nat}
theorem slice3 {xs : List Int} {p1 p2 p3 p4 : Pos} {k : Nat} (T : Stat c d) (hl : c.loc "pieces") (h : List.lookup ("pieces" : Str) σ = some (PV.list ((its2 xs).map fun x => .str x.raw))) :
    Ev c σ (.Subscript (.Name "pieces" p1) (.Slice (some (.Constant (.int 3) k p2)) none none p3) p4) (.list (((its2 xs).drop 3).map fun x => .str x.raw)) := by
  refine Ev.cast (Ev.slice_list (l := (its2 xs).map fun x => .str x.raw) (a := some ((3 : Nat) : Int)) (b := none) (Ev.name T hl h rfl) Ev.int trivial ?_) ?_
  · rw [List.length_map, its2_len, sizeLine_eq]; decide
  · rw [pySlice_from, List.map_drop]
end
end Mine
end

section
open PySem PySem.W PyProof.Rows PySem.Calls PySem.Spec
set_option Elab.async false
set_option maxRecDepth 100000
set_option maxHeartbeats 16000000
namespace Mine
theorem lit_pre : Str.ofString "257 \"" = ⟨pre2.toArray⟩ := rfl
theorem lit_suf : Str.ofString "\" made" = ⟨suf2.toArray⟩ := rfl
theorem pieces_get {l : List It} : (l.map fun x => PV.str x.raw) = (l.map It.raw).map .str := by rw [List.map_map]; rfl
theorem flatten_rend (l : List It) : (l.map It.raw).flatten = rend (l.map .it) := by
  unfold rend
  rw [List.flatMap_def, List.map_map]
  rfl
theorem law_holds : PySem.Challenge.rw_wn0030_02.Holds := by
  refine hd ?_
  k_fill
  intro w s₀ s₁ mg mb G Y fa o pm cd doc dV kV ho hd hcd hD hmg hg args vals as hpre hlay hrd hwl hlo
  have KX := kIn_of Y
  k_behind G ho hd hcd hD hmg hpre hlay hrd hwl hlo cd
  refine enter (by assumption) KX (by assumption) (by assumption) (by assumption) rfl (arg := "script") rfl (by omega) ?_ ?_
  · intro xs hlen TT
    dsimp only at TT ⊢
    have h100 : 1000000 ≤ sizeLine := by rw [sizeLine_eq]; decide
    refine Exs.cons (Ex1.assign (p := .list [.int 0, .int 741, .int 739, .int 4, .int 583, .int 2, .int 6]) TT rfl ?_ trivial trivial) ?_
    · refine Ev.list ?_ (Nat.le_trans (show 7 ≤ 1000000 by decide) h100)
      refine EvL.cons Ev.int ?_
      refine EvL.cons Ev.int ?_
      refine EvL.cons Ev.int ?_
      refine EvL.cons Ev.int ?_
      refine EvL.cons Ev.int ?_
      refine EvL.cons Ev.int ?_
      exact EvL.cons Ev.int EvL.nil
    refine Exs.cons (Ex1.assign (p := .list ((cellsN xs).map fun v => .int ((v : Nat) : Int))) TT rfl ?_ trivial trivial) ?_
    · refine Ev.cast (Ev.binop (p₁ := .list ((xs.take 7).map fun v => .int (v.fmod 1000000))) (p₂ := .list (([.int 0, .int 741, .int 739, .int 4, .int 583, .int 2, .int 6] : List PV).drop xs.length)) ?_ ?_ (Op2.addL ?_)) ?_
      · refine Ev.comp (cl := []) (ps := (xs.take 7).map .int) ?_ ?_ ?_ ?_ ?_
        · refine Ev.cast (Ev.slice_list (l := xs.map .int) (a := none) (b := some ((7 : Nat) : Int)) (Ev.name TT rfl rfl rfl) trivial Ev.int ?_) ?_
          · rw [List.length_map]; omega
          · rw [pySlice_to, List.map_take]
        · intro i p q hp hq
          rw [List.getElem?_map] at hp hq
          cases hx : (xs.take 7)[i]? with
          | none => rw [hx] at hp; cases hp
          | some v =>
            rw [hx] at hp hq
            cases hp
            cases hq
            exact EvC.cast (EvC.binop (EvC.var rfl rfl) (EvC.binop EvC.int EvC.int (Op2.powI (by decide) (by decide) (by decide))) (Op2.fmodI (by decide))) rfl
        · rw [List.length_map, List.length_map]
        · have : ∀ l : List Int, PV.flatL (l.map fun v => .int (v.fmod 1000000)) = true := by
            intro l
            induction l with
            | nil => rfl
            | cons a l ih => exact ih
          exact this _
        · rw [List.length_map, List.length_take]; omega
      · refine Ev.cast (Ev.slice_list (a := some ((xs.length : Nat) : Int)) (b := none) (Ev.name TT rfl rfl rfl) ?_ trivial (Nat.le_trans (show 7 ≤ 1000000 by decide) h100)) ?_
        · exact Ev.cast (Ev.call_b TT (isB rfl rfl rfl b_len) (EvL.cons (Ev.name TT rfl rfl rfl) EvL.nil) (OpN.lenL (by rw [List.length_map]; omega))) (by rw [List.length_map])
        · rw [pySlice_from]
      · rw [List.length_map, List.length_take, List.length_drop]
        exact Nat.le_trans (show min 7 xs.length + (7 - xs.length) ≤ 1000000 by omega) h100
      · rw [cellsN_pv]
    refine Exs.cons (Ex1.assign_comp (cl := []) (ps := (cellsN xs).map fun v => .int ((v : Nat) : Int)) (qs := (its2 xs).map fun x => .str x.raw) TT rfl (Ev.name TT rfl rfl rfl) ?_ ?_ ?_ ?_) ?_
    · intro i p q hp hq
      unfold its2 at hq
      rw [List.getElem?_map] at hp
      rw [List.getElem?_map, List.getElem?_map] at hq
      cases hx : (cellsN xs)[i]? with
      | none => rw [hx] at hp; cases hp
      | some v =>
        rw [hx] at hp hq
        cases hp
        cases hq
        exact EvC.call_g TT (a := 97) rfl rfl rfl rfl (EvC.var rfl rfl) (piece_ok (P := w.params) rfl TT)
    · rw [List.length_map, List.length_map, its2_len, cellsN_len]
    · have : ∀ l : List It, PV.flatL (l.map fun x => .str x.raw) = true := by
        intro l
        induction l with
        | nil => rfl
        | cons a l ih => exact ih
      exact this _
    · rw [List.length_map, cellsN_len]
      exact Nat.le_trans (show 7 ≤ 1000000 by decide) h100
    refine Exs.cons (Ex1.assign (p := .list (((its2 xs).take 3).map fun x => .str x.raw)) TT rfl ?_ trivial trivial) ?_
    · refine Ev.cast (Ev.slice_list (l := (its2 xs).map fun x => .str x.raw) (a := none) (b := some ((3 : Nat) : Int)) (Ev.name TT rfl rfl rfl) trivial Ev.int ?_) ?_
      · rw [List.length_map, its2_len]; exact Nat.le_trans (show 7 ≤ 1000000 by decide) h100
      · rw [pySlice_to, List.map_take]
    refine Exs.cons (Ex1.fresh TT rfl EvL.nil rfl (Nat.zero_le _)) ?_
    have hrep0 : (pre2 ++ (((its2 xs).drop 3).map It.raw).flatten) ++ suf2 = rep2 xs 0 := by rw [flatten_rend]; rfl
    have hl0 : ((((its2 xs).drop 3).map It.raw).flatten).length ≤ 20480 := by
      rw [flatten_rend]
      have h1 := rend_len (((its2 xs).drop 3).map .it)
      rw [List.length_map, List.length_drop, its2_len] at h1
      omega
    refine Exs.cons (Ex1.assign (p := .str (rep2 xs 0)) TT rfl ?_ (show ("marks" : Str) ≠ "reply" by decide) rfl) ?_
    · refine Ev.cast (Ev.binop (Ev.binop (p₁ := .str pre2) (p₂ := .str (((its2 xs).drop 3).map It.raw).flatten) (Ev.str lit_pre) ?_ (Op2.addS ?_)) (Ev.str lit_suf) (Op2.addS ?_)) (by rw [hrep0])
      · refine Ev.meth1 (Ev.str (l := []) rfl) MethOf.join (EvL.cons (Ev.cast (slice3 TT rfl rfl) (by rw [pieces_get])) EvL.nil) (OpN.joinE ?_) ⟨_, rfl⟩
        rw [List.length_map, List.length_drop, its2_len]; omega
      · exact Nat.le_trans (show 5 + _ ≤ 1000000 by omega) h100
      · rw [List.length_append]; exact Nat.le_trans (show 5 + _ + 6 ≤ 1000000 by omega) h100
    refine Exs.cons (S₁ := (([] : Sig), some ("marks", (marksN (mk' xs) (fin2 xs 5 0)).map .str))) (Ex1.for_range TT (isB rfl rfl rfl b_range) Ev.int (by decide) (by decide) ?_ (fun _ _ => rfl)) (Exs.one (Ex1.ret Ev.bool))
    refine Fo.pre (S₁ := ([("reply", .str (rep2 xs 0)), ("mark", .list (((its2 xs).take 3).map fun x => .str x.raw)), ("pieces", .list ((its2 xs).map fun x => .str x.raw)), ("cells", .list ((cellsN xs).map fun v => .int ((v : Nat) : Int)))], some ("marks", (marksN (mk' xs) 0).map .str))) ?_ ⟨rfl, rfl, rfl, rfl, rfl, trivial⟩
    refine Fo.fam (F := fun i => ([("reply", .str (rep2 xs i)), ("mark", .list (((its2 xs).take 3).map fun x => .str x.raw)), ("pieces", .list ((its2 xs).map fun x => .str x.raw)), ("cells", .list ((cellsN xs).map fun v => .int ((v : Nat) : Int)))], some ("marks", (marksN (mk' xs) i).map .str))) (I := fun i => i ≤ 5) (o := fun i => .next ([], some ("marks", (marksN (mk' xs) (fin2 xs (5 - i) i)).map .str))) ?_ ?_ (Nat.zero_le _)
    · intro h
      exact absurd h (by decide)
    · intro q p hp hI
      have hq : p = .int ((q : Nat) : Int) := by
        have hp' : (rangePV 6)[q]? = some p := hp
        unfold rangePV at hp'
        rw [List.getElem?_map, List.getElem?_range (by omega)] at hp'
        exact (Option.some.inj hp').symm
      subst hq
      have hJ := J2_len xs hI
      have hM := M2_len xs hI
      have htx := tx_len (J2 xs q)
      have hfx := fx_len (J2 xs q)
      have hrn := rend_len (J2 xs q)
      have hmx := tx_len (iterJ (mk' xs) q (mk' xs))
      have hrl : (rep2 xs q).length ≤ 100000 := by
        unfold rep2
        rw [List.length_append, List.length_append]
        show 5 + _ + 6 ≤ _
        omega
      have hml : (marksN (mk' xs) q).length = q := by unfold marksN; rw [List.length_map, List.length_range]
      have hdue : grownL q (marksN (mk' xs) q) ((its2 xs).drop 3) = txL (J2 xs q) := grown_eq q _
      have hdue2 : grownL q (marksN (mk' xs) q) ((its2 xs).take 3) = txL (iterJ (mk' xs) q (mk' xs)) := grown_eq q _
      have hg1 : ∀ it ∈ (its2 xs).drop 3, it.ok := fun x hx => its2_ok xs x (List.mem_of_mem_drop hx)
      have hg1' : ∀ it ∈ (its2 xs).take 3, it.ok := fun x hx => its2_ok xs x (List.mem_of_mem_take hx)
      have hg2 : q ≤ (marksN (mk' xs) q).length := by rw [hml]; exact Nat.le_refl _
      have hg3 : (marksN (mk' xs) q).length ≤ 1000 := by rw [hml]; omega
      have hg4 : ((its2 xs).drop 3).length ≤ 1000 := by rw [List.length_drop, its2_len]; decide
      have hg4' : ((its2 xs).take 3).length ≤ 1000 := by rw [List.length_take, its2_len]; decide
      have hg5 : (grownL q (marksN (mk' xs) q) ((its2 xs).drop 3)).length ≤ 1000000 := by rw [hdue]; omega
      have hg5' : (grownL q (marksN (mk' xs) q) ((its2 xs).take 3)).length ≤ 1000000 := by rw [hdue2]; omega
      have htw : twice 34 [34, 34] (txL (J2 xs q)) = fxL (J2 xs q) := twice_txL (J2_ok xs q)
      have hd0 : (txL (J2 xs q)).length < 2 ^ 62 := by omega
      have hd1 : (txL (J2 xs q)).length ≤ 1000000 := by omega
      have hd2 : pre2.length + (twice 34 [34, 34] (txL (J2 xs q))).length ≤ sizeLine := by rw [htw]; exact Nat.le_trans (show 5 + _ ≤ 1000000 by omega) h100
      have hd3 : (pre2 ++ twice 34 [34, 34] (txL (J2 xs q))).length + suf2.length ≤ sizeLine := by rw [htw, List.length_append]; exact Nat.le_trans (show 5 + _ + 6 ≤ 1000000 by omega) h100
      have hc1 : (men2 xs q != (pre2 ++ twice 34 [34, 34] (txL (J2 xs q))) ++ suf2) = false := by
        rw [htw, List.append_assoc]
        show (men2 xs q != men2 xs q) = false
        simp
      have hpl : (fxL (J2 xs q) ++ suf2).length ≤ 1000000 := by rw [List.length_append]; show _ + 6 ≤ _; omega
      have hstop : ((((q : Nat) : Int) == 5) || (decide ((30 : Int) < (((txL (J2 xs q)).length : Nat) : Int)) || false)) = stop2 xs q := by
        unfold stop2
        rw [Bool.or_false]
        congr 1
        · rw [Bool.eq_iff_iff]; simp; omega
        · rw [Bool.eq_iff_iff]; simp; omega
      by_cases hst : stop2 xs q = true
      · rw [hst] at hstop
        refine FoStep.brk _ ([("reply", .str (rep2 xs q)), ("mark", .list (((its2 xs).take 3).map fun x => .str x.raw)), ("pieces", .list ((its2 xs).map fun x => .str x.raw)), ("cells", .list ((cellsN xs).map fun v => .int ((v : Nat) : Int)))], some ("marks", (marksN (mk' xs) q).map .str)) (AsgT.name TT rfl (show ("marks" : Str) ≠ "n" by decide) rfl) ?_ ?_
        · refine Exs.cons (Ex1.assign (p := .str (men2 xs q)) TT rfl (Ev.cast (Ev.call_d TT (isD rfl rfl rfl rfl) (EvL.cons (Ev.name TT rfl rfl rfl) EvL.nil) (fix_ok (P := w.params) rfl TT hrl)) (by rw [fix_rep])) (show ("marks" : Str) ≠ "mended" by decide) rfl) ?_
          refine Exs.cons (Ex1.assign (p := .str (txL (J2 xs q))) TT rfl (Ev.cast (Ev.call_d TT (isD rfl rfl rfl rfl) (EvL.cons (slice3 TT rfl rfl) (EvL.cons (Ev.name TT rfl rfl rfl) (EvL.cons (Ev.name TT rfl rfl rfl) EvL.nil))) (grown_ok (P := w.params) rfl TT hg1 hg2 hg3 hg4 hg5)) (by rw [hdue])) (show ("marks" : Str) ≠ "due" by decide) rfl) ?_
          refine Exs.cons (Ex1.ite_false (EvB.cast (EvB.compare (Ev.name TT rfl rfl rfl) (Ev.binop (Ev.add_replace TT rfl rfl lit_pre rfl lit_qq (show 2 ≤ 14 by decide) (by decide) hd1 hd2 ⟨_, rfl⟩) (Ev.str lit_suf) (Op2.addS hd3)) Op2.neS) hc1) Exs.nil) ?_
          refine Exs.cons (Ex1.ite_false (EvB.cast (EvB.compare (Ev.call_d TT (isD rfl rfl rfl rfl) (EvL.cons (Ev.cast (Ev.name TT rfl rfl rfl) (show PV.str (men2 xs q) = PV.str (50 :: 53 :: 55 :: 32 :: 34 :: (fxL (J2 xs q) ++ suf2)) from rfl)) EvL.nil) (parse_ok (P := w.params) rfl TT hpl)) (Ev.name TT rfl rfl rfl) Op2.neS) (by rw [par_men]; simp)) Exs.nil) ?_
          refine Exs.stop (Ex1.ite_true (EvB.cast (EvB.or (EvB.compare (Ev.name TT rfl rfl rfl) Ev.int Op2.eqI) (fun _ => EvB.or (EvB.compare (Ev.call_b TT (isB rfl rfl rfl b_len) (EvL.cons (Ev.name TT rfl rfl rfl) EvL.nil) (OpN.lenS hd0)) Ev.int Op2.gtI) (fun _ => EvB.or_nil))) hstop) (Exs.stop (Ex.post Ex1.brk ?_) trivial)) trivial
          exact ⟨rfl, rfl, rfl, rfl, rfl, trivial⟩
        · have hf : fin2 xs (5 - q) q = q := by
            cases h5 : 5 - q with
            | zero => rfl
            | succ f => exact if_pos hst
          rw [hf]
          exact ⟨rfl, trivial⟩
      · have hst' : stop2 xs q = false := by simpa using hst
        rw [hst'] at hstop
        have hq4 : q ≤ 4 := by
          unfold stop2 at hst'
          have : decide (q = 5) = false := (Bool.or_eq_false_iff.mp hst').1
          have := of_decide_eq_false this
          omega
        refine FoStep.next _ (AsgT.name TT rfl (show ("marks" : Str) ≠ "n" by decide) rfl) ?_ (by omega) ?_
        · refine Exs.cons (Ex1.assign (p := .str (men2 xs q)) TT rfl (Ev.cast (Ev.call_d TT (isD rfl rfl rfl rfl) (EvL.cons (Ev.name TT rfl rfl rfl) EvL.nil) (fix_ok (P := w.params) rfl TT hrl)) (by rw [fix_rep])) (show ("marks" : Str) ≠ "mended" by decide) rfl) ?_
          refine Exs.cons (Ex1.assign (p := .str (txL (J2 xs q))) TT rfl (Ev.cast (Ev.call_d TT (isD rfl rfl rfl rfl) (EvL.cons (slice3 TT rfl rfl) (EvL.cons (Ev.name TT rfl rfl rfl) (EvL.cons (Ev.name TT rfl rfl rfl) EvL.nil))) (grown_ok (P := w.params) rfl TT hg1 hg2 hg3 hg4 hg5)) (by rw [hdue])) (show ("marks" : Str) ≠ "due" by decide) rfl) ?_
          refine Exs.cons (Ex1.ite_false (EvB.cast (EvB.compare (Ev.name TT rfl rfl rfl) (Ev.binop (Ev.add_replace TT rfl rfl lit_pre rfl lit_qq (show 2 ≤ 14 by decide) (by decide) hd1 hd2 ⟨_, rfl⟩) (Ev.str lit_suf) (Op2.addS hd3)) Op2.neS) hc1) Exs.nil) ?_
          refine Exs.cons (Ex1.ite_false (EvB.cast (EvB.compare (Ev.call_d TT (isD rfl rfl rfl rfl) (EvL.cons (Ev.cast (Ev.name TT rfl rfl rfl) (show PV.str (men2 xs q) = PV.str (50 :: 53 :: 55 :: 32 :: 34 :: (fxL (J2 xs q) ++ suf2)) from rfl)) EvL.nil) (parse_ok (P := w.params) rfl TT hpl)) (Ev.name TT rfl rfl rfl) Op2.neS) (by rw [par_men]; simp)) Exs.nil) ?_
          refine Exs.cons (Ex1.ite_false (EvB.cast (EvB.or (EvB.compare (Ev.name TT rfl rfl rfl) Ev.int Op2.eqI) (fun _ => EvB.or (EvB.compare (Ev.call_b TT (isB rfl rfl rfl b_len) (EvL.cons (Ev.name TT rfl rfl rfl) EvL.nil) (OpN.lenS hd0)) Ev.int Op2.gtI) (fun _ => EvB.or_nil))) hstop) Exs.nil) ?_
          refine Exs.cons (Ex1.append TT rfl (Ev.cast (Ev.call_d TT (isD rfl rfl rfl rfl) (EvL.cons (Ev.name TT rfl rfl rfl) (EvL.cons (Ev.name TT rfl rfl rfl) (EvL.cons (Ev.name TT rfl rfl rfl) EvL.nil))) (grown_ok (P := w.params) rfl TT hg1' hg2 hg3 hg4' hg5')) (by rw [hdue2])) rfl ⟨_, rfl⟩ (by rw [List.length_map, hml]; exact Nat.le_trans (show q ≤ 1000000 by omega) h100)) ?_
          obtain ⟨cv, hcv⟩ : ∃ cv, (cellsN xs)[q]? = some cv := ⟨(cellsN xs)[q]'(by rw [cellsN_len]; omega), by simp⟩
          have hsz : ∀ {enc : List Nat}, (enc = rep2 xs q ∨ enc = men2 xs q) → enc.length + (enc.length + 1) * (rend (mk' xs)).length ≤ 1000000 := by
            intro enc h
            have h1 := enc_len xs hq4 h
            have h2 : (enc.length + 1) * (rend (mk' xs)).length ≤ 20492 * 15 := Nat.mul_le_mul (by omega) (eol_len xs)
            omega
          have hsp : ∀ {enc : List Nat}, (enc = rep2 xs q ∨ enc = men2 xs q) → ∀ l ∈ linesL enc, ∀ x, l.getLast? = some x → Unicode.isSpace x = false := by
            intro enc h
            obtain ⟨a, _, d, _⟩ := enc_ok xs q h
            exact hsp_of a d
          have hjn : ((((its2 xs).take 3).map It.raw).flatten).length + (((its2 xs).take 3).map It.raw).length ≤ 1048576 := by
            have h1 := eol_len xs
            have h2 : ((((its2 xs).take 3).map It.raw).flatten) = rend (mk' xs) := flatten_rend _
            rw [h2, List.length_map, List.length_take, its2_len]
            omega
          by_cases htb : ((((cv : Nat) : Int).fdiv 736).fmod 2 != 0) = true
          · refine Exs.one (Ex.post (Ex1.assign (p := .str (rep2 xs (q + 1))) TT rfl ?_ (show ("marks" : Str) ≠ "reply" by decide) rfl) ?_)
            · refine Ev.cast (Ev.call_d TT (isD rfl rfl rfl rfl) (EvL.cons (p := .str (men2 xs q)) (Ev.ifexp (v := true) (EvB.cast (EvB.plain (Ev.binop (Ev.binop (p₁ := .int ((cv : Nat) : Int)) ?_ Ev.int (Op2.fdivI (by decide) (by decide))) Ev.int (Op2.fmodI (by decide))) Tru.int) htb) (fun _ => (Ev.name TT rfl rfl rfl)) (fun h => nomatch h)) (EvL.cons (p := .str (rend (mk' xs))) ?_ EvL.nil)) (decode_ok (P := w.params) rfl TT (eol := rend (mk' xs)) (hsz (.inr rfl)) (hsp (.inr rfl)) (.inl rfl))) (by rw [dec_reply xs (.inr rfl)])
              · refine Ev.item_list (l := (cellsN xs).map fun v => .int ((v : Nat) : Int)) (i := ((q : Nat) : Int)) (j := q) (Ev.name TT rfl rfl rfl) (Ev.name TT rfl rfl rfl) ?_ ?_ ?_
                · rw [List.length_map, cellsN_len]; exact pyIdx_nat (by omega)
                · rw [List.getElem?_map, hcv]; rfl
                · rw [List.length_map, cellsN_len]; decide
              · refine Ev.cast (Ev.meth1 (Ev.str (l := []) rfl) MethOf.join (EvL.cons (Ev.cast (Ev.name TT rfl rfl rfl) (by rw [pieces_get])) EvL.nil) (OpN.joinE hjn) ⟨_, rfl⟩) ?_
                rw [flatten_rend]
                rfl
            · refine ⟨?_, rfl, rfl, rfl, rfl, trivial⟩
              rw [marksN_succ, List.map_append]
              rfl
          · refine Exs.one (Ex.post (Ex1.assign (p := .str (rep2 xs (q + 1))) TT rfl ?_ (show ("marks" : Str) ≠ "reply" by decide) rfl) ?_)
            · refine Ev.cast (Ev.call_d TT (isD rfl rfl rfl rfl) (EvL.cons (p := .str (rep2 xs q)) (Ev.ifexp (v := false) (EvB.cast (EvB.plain (Ev.binop (Ev.binop (p₁ := .int ((cv : Nat) : Int)) ?_ Ev.int (Op2.fdivI (by decide) (by decide))) Ev.int (Op2.fmodI (by decide))) Tru.int) (by simpa using htb)) (fun h => nomatch h) (fun _ => (Ev.name TT rfl rfl rfl))) (EvL.cons (p := .str (rend (mk' xs))) ?_ EvL.nil)) (decode_ok (P := w.params) rfl TT (eol := rend (mk' xs)) (hsz (.inl rfl)) (hsp (.inl rfl)) (.inl rfl))) (by rw [dec_reply xs (.inl rfl)])
              · refine Ev.item_list (l := (cellsN xs).map fun v => .int ((v : Nat) : Int)) (i := ((q : Nat) : Int)) (j := q) (Ev.name TT rfl rfl rfl) (Ev.name TT rfl rfl rfl) ?_ ?_ ?_
                · rw [List.length_map, cellsN_len]; exact pyIdx_nat (by omega)
                · rw [List.getElem?_map, hcv]; rfl
                · rw [List.length_map, cellsN_len]; decide
              · refine Ev.cast (Ev.meth1 (Ev.str (l := []) rfl) MethOf.join (EvL.cons (Ev.cast (Ev.name TT rfl rfl rfl) (by rw [pieces_get])) EvL.nil) (OpN.joinE hjn) ⟨_, rfl⟩) ?_
                rw [flatten_rend]
                rfl
            · refine ⟨?_, rfl, rfl, rfl, rfl, trivial⟩
              rw [marksN_succ, List.map_append]
              rfl
        · have hf : fin2 xs (5 - q) q = fin2 xs (5 - (q + 1)) (q + 1) := by
            have : 5 - q = (5 - (q + 1)) + 1 := by omega
            rw [this]
            exact if_neg hst
          rw [hf]
  · intro h' tk kk
    exact ⟨.inl ⟨_, _, [], rfl, fun _ => rfl, ReadsW.bool true, by wrow_post, fun _ => ⟨List.nodup_nil, fun _ hm => nomatch hm⟩⟩, kk, rfl, hg⟩
end Mine
end

theorem PySem.Challenge.cw_wn0030_02_holds : PySem.Challenge.rw_wn0030_02.Holds :=
  Mine.law_holds
