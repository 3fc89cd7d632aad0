import PyProof.Rows.All
import Wide.All
import OpenK.AllK
import Wide.FinOn
import Lean
import PySem.Challenge.RW_bd5033_02
set_option maxRecDepth 100000
set_option Elab.async false
namespace Mine
open PySem PySem.W PyProof.Rows

/-- a value, its identity forgotten -/
inductive V where
  | any
  | non
  | bol (b : Bool)
  | int (i : Int)
  | txt (x : Str)
  | ref (a : Addr)

def V.is : V → Value → Prop
  | .any, _ => True
  | .non, u => u = .none
  | .bol b, u => u = .bool b
  | .int i, u => ∃ t, u = .int i t
  | .txt x, u => ∃ t, u = .str x t
  | .ref a, u => u = .ref a

abbrev Sg := List (Str × V)

def same (x y : Str) : Bool := x.cps.toList == y.cps.toList
theorem same_iff {x y : Str} : same x y = true ↔ x = y := by
  unfold same
  rw [beq_iff_eq]
  constructor
  · intro h
    cases x; cases y
    simp only [Str.mk.injEq]
    exact Array.toList_inj.mp h
  · rintro rfl; rfl

def look : Sg → Str → Option V
  | [], _ => none
  | (y, v) :: r, x => bif same y x then some v else look r x
def put (x : Str) (v : V) : Sg → Sg
  | [] => [(x, v)]
  | (y, w) :: r => bif same y x then (y, v) :: r else (y, w) :: put x v r
def upd : Sg → Sg → Sg
  | [], σ => σ
  | (x, v) :: r, σ => put x v (upd r σ)
theorem look_put (x y : Str) (v : V) : ∀ σ, look (put x v σ) y = bif same x y then some v else look σ y
  | [] => rfl
  | (z, w) :: r => by
    unfold put
    cases h : same z x with
    | true =>
      have e := same_iff.mp h
      subst e
      simp only [cond_true]
      unfold look
      cases same z y <;> rfl
    | false =>
      simp only [cond_false]
      unfold look
      rw [look_put x y v r]
      cases h2 : same z y with
      | true =>
        have e := same_iff.mp h2
        subst e
        cases h3 : same x z with
        | true =>
          have e3 := same_iff.mp h3
          subst e3
          rw [same_iff.mpr rfl] at h; cases h
        | false => rfl
      | false => rfl
theorem look_upd (x : Str) (σ : Sg) : ∀ δ, look (upd δ σ) x = (look δ x).or (look σ x)
  | [] => rfl
  | (y, v) :: r => by
    show look (put y v (upd r σ)) x = _
    rw [look_put, look_upd x σ r]
    show _ = ((bif same y x then some v else look r x).or _)
    cases same y x <;> rfl

def Fits (σ : Sg) (m : Str → Option Value) : Prop := ∀ x v, look σ x = some v → v ≠ .any → ∃ u, m x = some u ∧ v.is u

inductive Ob where
  | t
  | p (P : Prop)
  | and (a b : Ob)
  | imp (c : Bool) (a : Ob)
def Ob.ok : Ob → Prop
  | .t => True
  | .p P => P
  | .and a b => a.ok ∧ b.ok
  | .imp c a => c = true → a.ok
def Ob.two : Ob → Ob → Ob
  | .t, b => b
  | a, .t => a
  | a, b => .and a b
def Ob.when (c : Bool) : Ob → Ob
  | .t => .t
  | a => .imp c a
theorem Ob.two_ok {a b : Ob} (h : (a.two b).ok) : a.ok ∧ b.ok := by
  cases a <;> cases b <;> first | exact h | exact ⟨trivial, h⟩ | exact ⟨h, trivial⟩
theorem Ob.when_ok {c : Bool} {a : Ob} (h : (a.when c).ok) (hc : c = true) : a.ok := by
  cases a <;> first | exact h hc | exact trivial

def noStar : Expr → Bool
  | .Starred .. => false
  | _ => true

/-- the program's part that stands written, and the top's facts -/
structure Pg where
  prog : Program
  w : World
  K : Frag
  p : Program
  loose : List Str
  mean : ExcName → Option Value
  mg : Str → Option Value
  mb : Str → Option Value

/-- the fixed surroundings of a walk -/
structure Bx where
  P : Pg
  A : Around
  env : Env
  H₀ : (Str → Option Value) → Shared → Prop
  toks : ∀ m s tk, H₀ m s → H₀ m { s with toks := tk }
  ns : ∀ m s, H₀ m s → s.heap.Ns env.locals m

def Bx.H (B : Bx) (σ : Sg) (s : Shared) : Prop := ∃ m, B.H₀ m s ∧ Fits σ m
def Bx.run (B : Bx) {α : Type} (t : Sem α) (Q : α → Shared → Prop) (s : Shared) : Prop := wpAny (model B.P.prog B.P.w) B.A t Q (fun _ _ => False) s

theorem Bx.H.toks {B : Bx} {σ : Sg} {s : Shared} (h : B.H σ s) (tk : Nat) : B.H σ { s with toks := tk } := by
  obtain ⟨m, h, f⟩ := h
  exact ⟨m, B.toks m s tk h, f⟩
theorem Bx.H.less {B : Bx} {σ σ' : Sg} {s : Shared} (h : B.H σ s) (hl : ∀ x v, look σ' x = some v → v ≠ .any → look σ x = some v) : B.H σ' s := by
  obtain ⟨m, h, f⟩ := h
  exact ⟨m, h, fun x v hv ha => f x v (hl x v hv ha) ha⟩
theorem Bx.H.nil {B : Bx} {σ : Sg} {s : Shared} (h : B.H σ s) : B.H [] s := h.less fun _ _ e => nomatch e

theorem Bx.run_mono {B : Bx} {α : Type} {t : Sem α} {Q Q' : α → Shared → Prop} {s : Shared} (h : B.run t Q s) (k : ∀ a s, Q a s → Q' a s) : B.run t Q' s :=
  wpAny_mono h k fun _ _ x => x

structure Orc where
  ls : List Str
  g : Str → Option V
  c : Str → List V → Option (Ob × V)
  e : Sg → Expr → Option (Ob × V)
  t : Sg → Expr → Option (Ob × Bool)
  s : Sg → Stmt → Option (Ob × Sg)

def Bx.EvOk (B : Bx) (σ : Sg) (e : Expr) (ob : Ob) (v : V) : Prop :=
  ob.ok → ∀ s (Q : Value → Shared → Prop), B.H σ s → (∀ u s', B.H σ s' → v.is u → Q u s') → B.run (eval e B.env) Q s
def Bx.TrOk (B : Bx) (σ : Sg) (e : Expr) (ob : Ob) (c : Bool) : Prop :=
  ob.ok → ∀ s (Q : Bool → Shared → Prop), B.H σ s → (∀ s', B.H σ s' → Q c s') → B.run (isTrue e B.env (eval e B.env)) Q s

inductive AllIs : List V → List Value → Prop
  | nil : AllIs [] []
  | cons {v : V} {u : Value} {vs : List V} {us : List Value} (h : v.is u) (r : AllIs vs us) : AllIs (v :: vs) (u :: us)
def Bx.EvsOk (B : Bx) (σ : Sg) (es : List Expr) (ob : Ob) (vs : List V) : Prop :=
  ob.ok → ∀ (pos : Pos) s (Q : List Value → Shared → Prop), B.H σ s → (∀ us s', B.H σ s' → AllIs vs us → Q us s') → B.run (spliced (backTo pos (starEach es B.env))) Q s

/-- what the helpers of an expression must keep -/
structure Orc.Ok (O : Orc) (B : Bx) : Prop where
  hk : B.env.scope.kind = .function
  loc : ∀ x, O.ls.any (same x) = true → B.env.kindOf x = some .local ∧ (x == ("__debug__" : Str)) = false
  g : ∀ σ x v pos, O.g x = some v → B.EvOk σ (.Name x pos) .t v
  c : ∀ f vs ob v, O.c f vs = some (ob, v) → ∀ σ es o₁ pf pos, B.EvsOk σ es o₁ vs → es.all noStar = true → (es = [] → vs = []) → B.EvOk σ (.Call (.Name f pf) es [] pos) (o₁.two ob) v
  e : ∀ σ e ob v, O.e σ e = some (ob, v) → B.EvOk σ e ob v
  t : ∀ σ e ob c, O.t σ e = some (ob, c) → B.TrOk σ e ob c

def lePt (x y : Str) : Bool := !decide (y.cps.toList < x.cps.toList)
def inPt (y x : Str) : Bool := !(Builtin.Str.occurrences x y 0 x.length 1).isEmpty

def cmp : CmpOp → V → V → Option Bool
  | .Eq, .txt x, .txt y => some (x == y)
  | .NotEq, .txt x, .txt y => some (x != y)
  | .LtE, .txt x, .txt y => some (lePt x y)
  | .GtE, .txt x, .txt y => some (lePt y x)
  | .In, .txt y, .txt x => some (inPt y x)
  | .Eq, .int a, .int b => some (a == b)
  | .Lt, .int a, .int b => some (decide (a < b))
  | .LtE, .int a, .int b => some (decide (a ≤ b))
  | .GtE, .int a, .int b => some (decide (b ≤ a))
  | _, _, _ => none

theorem cmp_ok {B : Bx} {op : CmpOp} {a b : V} {c : Bool} (h : cmp op a b = some c) {u v : Value} (ha : a.is u) (hb : b.is v) {s : Shared} {Q : Value → Shared → Prop}
    (hQ : Q (.bool c) s) : B.run (compareOp op u v) Q s := by
  unfold cmp at h
  split at h <;> first | (obtain ⟨t, rfl⟩ := ha; obtain ⟨t', rfl⟩ := hb; cases h) | cases h
  · exact eq_str hQ
  · exact ne_str hQ
  · exact P.le_str hQ
  · exact P.ge_str hQ
  · exact in_str hQ
  · exact eq_int hQ
  · exact lt_int hQ
  · exact le_int hQ
  · exact ge_int hQ

def trv : V → Option (Ob × Bool)
  | .bol b => some (.t, b)
  | .int i => some (.t, i != 0)
  | .txt x => some (.p ((x.length : Int) < 9223372036854775808), (x.length : Int) != 0)
  | .non => some (.t, false)
  | _ => none
theorem trv_ok {B : Bx} {σ : Sg} {a : V} {ob : Ob} {c : Bool} (h : trv a = some (ob, c)) (hob : ob.ok) {u : Value} (ha : a.is u) {s : Shared} {Q : Bool → Shared → Prop}
    (hs : B.H σ s) (hQ : ∀ s', B.H σ s' → Q c s') : B.run (truthy u) Q s := by
  cases a with
  | bol b => cases h; cases ha; exact wpAny_truthy_bool (hQ _ hs)
  | int i => cases h; obtain ⟨t, rfl⟩ := ha; exact truthy_int (hQ _ hs)
  | txt x => cases h; obtain ⟨t, rfl⟩ := ha; exact SBL.truthy hob (hQ _ (hs.toks _))
  | non => cases h; cases ha; exact truthy_none (hQ _ hs)
  | _ => cases h

def mrg (c : Bool) : V → V → V
  | .bol a, .bol b => .bol (bif c then a else b)
  | .int a, .int b => .int (bif c then a else b)
  | .txt a, .txt b => .txt (bif c then a else b)
  | .non, .non => .non
  | _, _ => .any
theorem mrg_t {a b : V} {u : Value} (h : a.is u) : (mrg true a b).is u := by
  cases a <;> cases b <;> first | exact h | exact trivial
theorem mrg_f {a b : V} {u : Value} (h : b.is u) : (mrg false a b).is u := by
  cases a <;> cases b <;> first | exact h | exact trivial

def plainIx : Expr → Bool
  | .Constant .. | .Name .. | .BinOp .. => true
  | _ => false
def plainTr : Expr → Bool
  | .Constant .. | .Name .. | .Call .. | .Attribute .. | .Subscript .. => true
  | _ => false
def noSet : Expr → Bool
  | .Set .. => false
  | _ => true
def noComp : Expr → Bool
  | .ListComp .. | .SetComp .. | .DictComp .. => false
  | _ => true

/-- and, or over values -/
def evo (f : Expr → Option (Ob × V)) (op : BoolOp) : List Expr → Option (Ob × V)
  | [] => none
  | [e] => f e
  | e :: r => match f e with
    | some (o₁, v₁) => match trv v₁ with
      | some (o₂, c) => match evo f op r with
        | some (o₃, v₂) => match op with
          | .And => some ((o₁.two o₂).two (o₃.when c), match v₁, v₂ with | .bol a, .bol b => .bol (a && b) | _, _ => mrg c v₂ v₁)
          | .Or => some ((o₁.two o₂).two (o₃.when (!c)), match v₁, v₂ with | .bol a, .bol b => .bol (a || b) | _, _ => mrg c v₁ v₂)
        | none => none
      | none => none
    | none => none

def evs (f : Expr → Option (Ob × V)) : List Expr → Option (Ob × List V)
  | [] => some (.t, [])
  | e :: r => bif noStar e then (match f e, evs f r with
    | some (o₁, v), some (o₂, vs) => some (o₁.two o₂, v :: vs)
    | _, _ => none) else none

def ev (O : Orc) : Nat → Sg → Expr → Option (Ob × V)
  | 0, _, _ => none
  | n + 1, σ, e => match O.e σ e with
    | some r => some r
    | none => match e with
      | .Constant c _ _ => (match c with
        | .none => some (.t, .non)
        | .bool b => some (.t, .bol b)
        | .int i => some (.t, .int i)
        | .str x => some (.t, .txt x)
        | _ => none)
      | .Name x _ => bif O.ls.any (same x) then (match look σ x with
        | some .any => none
        | some v => some (.t, v)
        | none => none) else (match O.g x with
        | some v => some (.t, v)
        | none => none)
      | .Call (.Name f _) es [] _ => (match evs (ev O n σ) es with
        | some (o₁, vs) => (match O.c f vs with
          | some (o₂, v) => some (o₁.two o₂, v)
          | none => none)
        | none => none)
      | .Compare l [op] [r] _ => bif noSet r then (match ev O n σ l, ev O n σ r with
        | some (o₁, a), some (o₂, b) => (match cmp op a b with
          | some c => some (o₁.two o₂, .bol c)
          | none => none)
        | _, _ => none) else none
      | .Compare l [op₁, op₂] [r₁, r₂] _ => bif noSet r₂ then (match ev O n σ l, ev O n σ r₁, ev O n σ r₂ with
        | some (o₁, a), some (o₂, b), some (o₃, d) => (match cmp op₁ a b, cmp op₂ b d with
          | some c₁, some c₂ => some ((o₁.two o₂).two (o₃.when c₁), .bol (c₁ && c₂))
          | _, _ => none)
        | _, _, _ => none) else none
      | .BoolOp op es _ => evo (ev O n σ) op es
      | .UnaryOp .Not x _ => (match ev O n σ x with
        | some (o₁, v) => (match trv v with
          | some (o₂, c) => some (o₁.two o₂, .bol (!c))
          | none => none)
        | none => none)
      | .BinOp l op r _ => (match ev O n σ l, ev O n σ r with
        | some (o₁, .int a), some (o₂, .int b) => (match op with
          | .Add => some (o₁.two o₂, .int (a + b))
          | .Sub => some (o₁.two o₂, .int (a - b))
          | _ => none)
        | _, _ => none)
      | .Subscript (.Name y py) i _ => bif plainIx i then (match ev O n σ (.Name y py), ev O n σ i with
        | some (o₁, .txt x), some (o₂, .int k) => some ((o₁.two o₂).two (.p (0 ≤ k ∧ k < (x.length : Int) ∧ (x.length : Int) < 4611686018427387904)), .txt (Txt.item x k))
        | _, _ => none) else none
      | _ => none

def tro (f : Expr → Option (Ob × Bool)) (op : BoolOp) : List Expr → Option (Ob × Bool)
  | [] => none
  | [e] => f e
  | e :: r => match f e with
    | some (o₁, c) => match tro f op r with
      | some (o₂, d) => match op with
        | .And => some (o₁.two (o₂.when c), c && d)
        | .Or => some (o₁.two (o₂.when (!c)), c || d)
      | none => none
    | none => none

def tr (O : Orc) : Nat → Sg → Expr → Option (Ob × Bool)
  | 0, _, _ => none
  | n + 1, σ, e => match O.t σ e with
    | some r => some r
    | none => match e with
      | .UnaryOp .Not x _ => (match tr O n σ x with
        | some (o, c) => some (o, !c)
        | none => none)
      | .BoolOp op es _ => tro (tr O n σ) op es
      | .Compare l [op] [r] _ => bif noSet r then (match ev O n σ l, ev O n σ r with
        | some (o₁, a), some (o₂, b) => (match cmp op a b with
          | some c => some (o₁.two o₂, c)
          | none => none)
        | _, _ => none) else none
      | .Compare l [op₁, op₂] [r₁, r₂] _ => bif noSet r₂ then (match ev O n σ l, ev O n σ r₁, ev O n σ r₂ with
        | some (o₁, a), some (o₂, b), some (o₃, d) => (match cmp op₁ a b, cmp op₂ b d with
          | some c₁, some c₂ => some ((o₁.two o₂).two (o₃.when c₁), c₁ && c₂)
          | _, _ => none)
        | _, _, _ => none) else none
      | e => bif plainTr e then (match ev O n σ e with
        | some (o₁, v) => (match trv v with
          | some (o₂, c) => some (o₁.two o₂, c)
          | none => none)
        | none => none) else none

end Mine

namespace Mine
open PySem PySem.W PyProof.Rows

theorem name_ok {O : Orc} {B : Bx} (hO : O.Ok B) {x : Str} {pos : Pos} {v : V} {σ : Sg} (hx : O.ls.any (same x) = true) (hv : look σ x = some v) (ha : v ≠ .any) : B.EvOk σ (.Name x pos) .t v := by
  intro _ s Q hs hQ
  obtain ⟨m, h, f⟩ := hs
  obtain ⟨u, hu, hi⟩ := f x v hv ha
  obtain ⟨h1, h2⟩ := hO.loc x hx
  exact wpAny_Name (wpAny_loadName_local hO.hk h1 (B.ns m s h) hu (hQ u _ ⟨m, h, f⟩ hi)) h2

theorem evs_ok {B : Bx} {σ : Sg} {f : Expr → Option (Ob × V)} (hf : ∀ e ob v, f e = some (ob, v) → B.EvOk σ e ob v) : ∀ es ob vs, evs f es = some (ob, vs) → B.EvsOk σ es ob vs ∧ es.all noStar = true ∧ (es = [] → vs = [])
  | [], ob, vs, h => by
    cases h
    exact ⟨fun _ pos s Q hs hQ => Calls.spliced_nil (hQ _ _ hs .nil), rfl, fun _ => rfl⟩
  | e :: r, ob, vs, h => by
    unfold evs at h
    cases hn : noStar e with
    | false => rw [hn] at h; cases h
    | true =>
      rw [hn] at h
      simp only [cond_true] at h
      split at h
      · rename_i o₁ v o₂ vs' h₁ h₂
        cases h
        obtain ⟨hr, hall, _⟩ := evs_ok hf r _ _ h₂
        refine ⟨fun hob pos s Q hs hQ => ?_, by rw [List.all_cons, hn, hall]; rfl, nofun⟩
        obtain ⟨ha, hb⟩ := Ob.two_ok hob
        refine args_cons (hf e o₁ v h₁ ha s _ hs fun u s₁ hs₁ hu => hr hb pos s₁ _ hs₁ fun us s₂ hs₂ hus => hQ _ _ hs₂ (.cons hu hus)) ?_
        cases e <;> first | rfl | cases hn
      · cases h

theorem evo_ok {B : Bx} {σ : Sg} {f : Expr → Option (Ob × V)} (hf : ∀ e ob v, f e = some (ob, v) → B.EvOk σ e ob v) (op : BoolOp) :
    ∀ es ob v (pos : Pos), evo f op es = some (ob, v) → B.EvOk σ (.BoolOp op es pos) ob v
  | [], _, _, _, h => by cases h
  | [e], ob, v, pos, h => fun hob s Q hs hQ => BoolOp_one (hf e ob v h hob s Q hs hQ)
  | e :: e₂ :: r, ob, v, pos, h => by
    unfold evo at h
    split at h
    · rename_i o₁ v₁ h₁
      split at h
      · rename_i o₂ c h₂
        split at h
        · rename_i o₃ v₂ h₃
          have ih := evo_ok hf op (e₂ :: r) o₃ v₂ pos h₃
          intro hob s Q hs hQ
          cases op with
          | And =>
            cases h
            obtain ⟨ha, hb⟩ := Ob.two_ok hob
            obtain ⟨ha₁, ha₂⟩ := Ob.two_ok ha
            refine BoolOp_and (hf e o₁ v₁ h₁ ha₁ s _ hs fun u s' hs' hu => trv_ok h₂ ha₂ hu hs' fun s'' hs'' => ?_)
            cases c with
            | true =>
              simp only [if_true]
              refine ih (Ob.when_ok hb rfl) _ _ hs'' fun u' s₃ hs₃ hu' => hQ u' s₃ hs₃ ?_
              split
              · cases h₂; exact hu'
              · exact mrg_t hu'
            | false =>
              simp only [Bool.false_eq_true, if_false]
              refine hQ u s'' hs'' ?_
              split
              · cases h₂; exact hu
              · exact mrg_f hu
          | Or =>
            cases h
            obtain ⟨ha, hb⟩ := Ob.two_ok hob
            obtain ⟨ha₁, ha₂⟩ := Ob.two_ok ha
            refine BoolOp_or (hf e o₁ v₁ h₁ ha₁ s _ hs fun u s' hs' hu => trv_ok h₂ ha₂ hu hs' fun s'' hs'' => ?_)
            cases c with
            | false =>
              simp only [Bool.false_eq_true, if_false]
              refine ih (Ob.when_ok hb rfl) _ _ hs'' fun u' s₃ hs₃ hu' => hQ u' s₃ hs₃ ?_
              split
              · cases h₂; exact hu'
              · exact mrg_f hu'
            | true =>
              simp only [if_true]
              refine hQ u s'' hs'' ?_
              split
              · cases h₂; exact hu
              · exact mrg_t hu
        · cases h
      · cases h
    · cases h

theorem noSet_marks {op : CmpOp} {r : Expr} (h : noSet r = true) : behindInMarks op r = false := by
  cases r <;> first | rfl | cases h
theorem noSet_last {op₁ op₂ : CmpOp} {r₁ r₂ : Expr} (h : noSet r₂ = true) : lastMarks [op₁, op₂] [r₁, r₂] = false := by
  show behindInMarks op₂ r₂ = false
  exact noSet_marks h

theorem item_ok {B : Bx} {y : Str} {py : Pos} {i : Expr} (hi : plainIx i = true) {x : Str} {k : Int} {t u : Tok} {s : Shared} {Q : Value → Shared → Prop}
    (h0 : 0 ≤ k) (h1 : k < (x.length : Int)) (h2 : (x.length : Int) < 4611686018427387904) (hQ : Q (.str (Txt.item x k) s.toks) { s with toks := s.toks + 1 }) :
    B.run (subscriptTail (.Name y py) i (.str x t) (.int k u)) Q s := by
  refine item_str (fitsSsize_of (N := 9223372036854775808) (by omega) (by omega) (Int.le_refl _)) (by omega) h1 (fun _ => hQ) ?_ ?_
  · cases i <;> first | (with_unfolding_all rfl) | cases hi
  · intro r; rfl

theorem ev_ok {O : Orc} {B : Bx} (hO : O.Ok B) : ∀ n σ e ob v, ev O n σ e = some (ob, v) → B.EvOk σ e ob v := by
  intro n
  induction n with
  | zero => intro σ e ob v h; cases h
  | succ n ih =>
    intro σ e ob v h
    unfold ev at h
    split at h
    · rename_i r hr
      cases h
      exact hO.e σ e ob v hr
    · split at h
      · split at h <;> cases h
        · exact fun _ s Q hs hQ => wpAny_Constant_none (hQ _ _ hs rfl)
        · exact fun _ s Q hs hQ => Constant_bool (hQ _ _ hs rfl)
        · exact fun _ s Q hs hQ => wpAny_Constant_int (hQ _ _ (hs.toks _) ⟨_, rfl⟩)
        · exact fun _ s Q hs hQ => Calls.Constant_str (hQ _ _ (hs.toks _) ⟨_, rfl⟩)
      · rename_i x pos _
        cases hx : O.ls.any (same x) with
        | false =>
          rw [hx] at h
          simp only [cond_false] at h
          split at h
          · rename_i v' hv'
            cases h
            exact hO.g σ x _ _ hv'
          · cases h
        | true =>
          rw [hx] at h
          simp only [cond_true] at h
          split at h
          · cases h
          · rename_i v' hv' hl
            cases h
            exact name_ok hO hx hl (fun e => hv' e)
          · cases h
      · rename_i f pf es pos _
        split at h
        · rename_i o₁ vs h₁
          split at h
          · rename_i o₂ v' h₂
            cases h
            obtain ⟨h₃, h₄, h₅⟩ := evs_ok (ih σ) es o₁ vs h₁
            exact hO.c f vs o₂ _ h₂ σ es o₁ pf pos h₃ h₄ h₅
          · cases h
        · cases h
      · rename_i l op r pos _
        cases hr : noSet r with
        | false => rw [hr] at h; cases h
        | true =>
          rw [hr] at h
          simp only [cond_true] at h
          split at h
          · rename_i o₁ a o₂ b h₁ h₂
            split at h
            · rename_i c hc
              cases h
              intro hob s Q hs hQ
              obtain ⟨ha, hb⟩ := Ob.two_ok hob
              exact wpAny_Compare1 (ih σ l o₁ a h₁ ha s _ hs fun u s₁ hs₁ hu => ih σ r o₂ b h₂ hb s₁ _ hs₁ fun u' s₂ hs₂ hu' => cmp_ok hc hu hu' (hQ _ _ hs₂ rfl)) (noSet_marks hr)
            · cases h
          · cases h
      · rename_i l op₁ op₂ r₁ r₂ pos _
        cases hr : noSet r₂ with
        | false => rw [hr] at h; cases h
        | true =>
          rw [hr] at h
          simp only [cond_true] at h
          split at h
          · rename_i o₁ a o₂ b o₃ d h₁ h₂ h₃
            split at h
            · rename_i c₁ c₂ hc₁ hc₂
              cases h
              intro hob s Q hs hQ
              obtain ⟨hab, hc⟩ := Ob.two_ok hob
              obtain ⟨ha, hb⟩ := Ob.two_ok hab
              refine Compare_chain (ih σ l o₁ a h₁ ha s _ hs fun u s₁ hs₁ hu => chain_link (ih σ r₁ o₂ b h₂ hb s₁ _ hs₁ fun u' s₂ hs₂ hu' => cmp_ok hc₁ hu hu' (wpAny_truthy_bool ?_))) (noSet_last hr)
              cases c₁ with
              | true =>
                simp only [if_true]
                exact chain_last (ih σ r₂ o₃ d h₃ (Ob.when_ok hc rfl) s₂ _ hs₂ fun u'' s₃ hs₃ hu'' => cmp_ok hc₂ hu' hu'' (hQ _ _ hs₃ rfl))
              | false =>
                simp only [Bool.false_eq_true, if_false]
                exact hQ _ _ hs₂ rfl
            · cases h
          · cases h
      · exact evo_ok (ih σ) _ _ _ _ _ h
      · rename_i x pos _
        split at h
        · rename_i o₁ v₁ h₁
          split at h
          · rename_i o₂ c h₂
            cases h
            intro hob s Q hs hQ
            obtain ⟨ha, hb⟩ := Ob.two_ok hob
            exact UnaryOp_ (ih σ x o₁ v₁ h₁ ha s _ hs fun u s₁ hs₁ hu => not_of (trv_ok h₂ hb hu hs₁ fun s₂ hs₂ => hQ _ _ hs₂ rfl))
          · cases h
        · cases h
      · rename_i l op r pos _
        split at h
        · rename_i o₁ a o₂ b h₁ h₂
          split at h <;> cases h
          · intro hob s Q hs hQ
            obtain ⟨ha, hb⟩ := Ob.two_ok hob
            refine wpAny_BinOp (ih σ l o₁ _ h₁ ha s _ hs fun u s₁ hs₁ hu => ih σ r o₂ _ h₂ hb s₁ _ hs₁ fun u' s₂ hs₂ hu' => ?_)
            obtain ⟨t, rfl⟩ := hu
            obtain ⟨t', rfl⟩ := hu'
            exact add_int (hQ _ _ (hs₂.toks _) ⟨_, rfl⟩)
          · intro hob s Q hs hQ
            obtain ⟨ha, hb⟩ := Ob.two_ok hob
            refine wpAny_BinOp (ih σ l o₁ _ h₁ ha s _ hs fun u s₁ hs₁ hu => ih σ r o₂ _ h₂ hb s₁ _ hs₁ fun u' s₂ hs₂ hu' => ?_)
            obtain ⟨t, rfl⟩ := hu
            obtain ⟨t', rfl⟩ := hu'
            exact sub_int (hQ _ _ (hs₂.toks _) ⟨_, rfl⟩)
        · cases h
      · rename_i y py i pos _
        cases hi : plainIx i with
        | false => rw [hi] at h; cases h
        | true =>
          rw [hi] at h
          simp only [cond_true] at h
          split at h
          · rename_i o₁ x o₂ k h₁ h₂
            cases h
            intro hob s Q hs hQ
            obtain ⟨hab, hc⟩ := Ob.two_ok hob
            obtain ⟨ha, hb⟩ := Ob.two_ok hab
            refine Subscript_ (ih σ _ o₁ _ h₁ ha s _ hs fun u s₁ hs₁ hu => ih σ i o₂ _ h₂ hb s₁ _ hs₁ fun u' s₂ hs₂ hu' => ?_)
            obtain ⟨t, rfl⟩ := hu
            obtain ⟨t', rfl⟩ := hu'
            obtain ⟨c0, c1, c2⟩ := hc
            exact item_ok hi c0 c1 c2 (hQ _ _ (hs₂.toks _) ⟨_, rfl⟩)
          · cases h
      · cases h

theorem tr_one {B : Bx} {e : Expr} {pos : Pos} {op : BoolOp} {whole : Sem Value} {Q : Bool → Shared → Prop} {s : Shared} (h : B.run (isTrue e B.env (eval e B.env)) Q s) :
    B.run (isTrue (.BoolOp op [e] pos) B.env whole) Q s := by
  cases op with
  | And =>
    refine isTrue_and (wpAny_mono h (fun c s' hc => ?_) fun _ _ x => x)
    cases c with
    | true => simp only [if_true]; exact isTrue_and_nil hc
    | false => simp only [Bool.false_eq_true, if_false]; exact hc
  | Or =>
    refine isTrue_or (wpAny_mono h (fun c s' hc => ?_) fun _ _ x => x)
    cases c with
    | true => simp only [if_true]; exact hc
    | false => simp only [Bool.false_eq_true, if_false]; exact isTrue_or_nil hc

theorem tro_ok {B : Bx} {σ : Sg} {f : Expr → Option (Ob × Bool)} (hf : ∀ e ob v, f e = some (ob, v) → B.TrOk σ e ob v) (op : BoolOp) (whole : Sem Value) :
    ∀ es ob v (pos : Pos), tro f op es = some (ob, v) → ob.ok → ∀ s (Q : Bool → Shared → Prop), B.H σ s → (∀ s', B.H σ s' → Q v s') → B.run (isTrue (.BoolOp op es pos) B.env whole) Q s
  | [], _, _, _, h => by cases h
  | [e], ob, v, pos, h => fun hob s Q hs hQ => tr_one (hf e ob v h hob s Q hs hQ)
  | e :: e₂ :: r, ob, v, pos, h => by
    unfold tro at h
    split at h
    · rename_i o₁ c h₁
      split at h
      · rename_i o₂ d h₂
        have ih := tro_ok hf op whole (e₂ :: r) o₂ d pos h₂
        intro hob s Q hs hQ
        cases op with
        | And =>
          cases h
          obtain ⟨ha, hb⟩ := Ob.two_ok hob
          refine isTrue_and (hf e o₁ c h₁ ha s _ hs fun s' hs' => ?_)
          cases c with
          | true => simp only [if_true]; exact ih (Ob.when_ok hb rfl) s' Q hs' hQ
          | false => simp only [Bool.false_eq_true, if_false]; exact hQ _ hs'
        | Or =>
          cases h
          obtain ⟨ha, hb⟩ := Ob.two_ok hob
          refine isTrue_or (hf e o₁ c h₁ ha s _ hs fun s' hs' => ?_)
          cases c with
          | true => simp only [if_true]; exact hQ _ hs'
          | false => simp only [Bool.false_eq_true, if_false]; exact ih (Ob.when_ok hb rfl) s' Q hs' hQ
      · cases h
    · cases h

theorem tr_ok {O : Orc} {B : Bx} (hO : O.Ok B) : ∀ n σ e ob c, tr O n σ e = some (ob, c) → B.TrOk σ e ob c := by
  intro n
  induction n with
  | zero => intro σ e ob v h; cases h
  | succ n ih =>
    intro σ e ob v h
    unfold tr at h
    split at h
    · rename_i r hr
      cases h
      exact hO.t σ e ob v hr
    · split at h
      · rename_i x pos _
        split at h
        · rename_i o c h₁
          cases h
          exact fun hob s Q hs hQ => isTrue_not (ih σ x _ c h₁ hob s _ hs fun s' hs' => hQ _ hs')
        · cases h
      · exact fun hob s Q hs hQ => tro_ok (ih σ) _ _ _ _ _ _ h hob s Q hs hQ
      · rename_i l op r pos _
        cases hr : noSet r with
        | false => rw [hr] at h; cases h
        | true =>
          rw [hr] at h
          simp only [cond_true] at h
          split at h
          · rename_i o₁ a o₂ b h₁ h₂
            split at h
            · rename_i c hc
              cases h
              intro hob s Q hs hQ
              obtain ⟨ha, hb⟩ := Ob.two_ok hob
              exact wpAny_isTrue_Compare1 (ev_ok hO n σ l o₁ a h₁ ha s _ hs fun u s₁ hs₁ hu => ev_ok hO n σ r o₂ b h₂ hb s₁ _ hs₁ fun u' s₂ hs₂ hu' => cmp_ok hc hu hu' (wpAny_truthy_bool (hQ _ hs₂))) (noSet_marks hr)
            · cases h
          · cases h
      · rename_i l op₁ op₂ r₁ r₂ pos _
        cases hr : noSet r₂ with
        | false => rw [hr] at h; cases h
        | true =>
          rw [hr] at h
          simp only [cond_true] at h
          split at h
          · rename_i o₁ a o₂ b o₃ d h₁ h₂ h₃
            split at h
            · rename_i c₁ c₂ hc₁ hc₂
              cases h
              intro hob s Q hs hQ
              obtain ⟨hab, hc⟩ := Ob.two_ok hob
              obtain ⟨ha, hb⟩ := Ob.two_ok hab
              refine isTrue_chain (ev_ok hO n σ l o₁ a h₁ ha s _ hs fun u s₁ hs₁ hu => test_link (ev_ok hO n σ r₁ o₂ b h₂ hb s₁ _ hs₁ fun u' s₂ hs₂ hu' => cmp_ok hc₁ hu hu' (wpAny_truthy_bool ?_))) (noSet_last hr)
              cases c₁ with
              | true =>
                simp only [if_true]
                exact test_last (ev_ok hO n σ r₂ o₃ d h₃ (Ob.when_ok hc rfl) s₂ _ hs₂ fun u'' s₃ hs₃ hu'' => cmp_ok hc₂ hu' hu'' (wpAny_truthy_bool (hQ _ hs₃)))
              | false =>
                simp only [Bool.false_eq_true, if_false]
                exact hQ _ hs₂
            · cases h
          · cases h
      · rename_i e' _ _ _ _
        cases hp : plainTr e with
        | false => rw [hp] at h; cases h
        | true =>
          rw [hp] at h
          simp only [cond_true] at h
          split at h
          · rename_i o₁ v₁ h₁
            split at h
            · rename_i o₂ c h₂
              cases h
              intro hob s Q hs hQ
              obtain ⟨ha, hb⟩ := Ob.two_ok hob
              refine isTrue_plain (ev_ok hO n σ e o₁ v₁ h₁ ha s _ hs fun u s₁ hs₁ hu => trv_ok h₂ hb hu hs₁ hQ) ?_
              cases e <;> first | (with_unfolding_all rfl) | cases hp
            · cases h
          · cases h

end Mine

namespace Mine
open PySem PySem.W PyProof.Rows

inductive Rt where
  | no
  | yes (v : V)
  | may (c : Bool) (v : V)
structure R where
  ob : Ob
  rt : Rt
  ch : Sg

def here (δ σ : Sg) (x : Str) : V := match (look δ x).or (look σ x) with
  | some v => v
  | none => .any
def mrgS (c : Bool) (σ δ₁ δ₂ : Sg) : Sg → Sg
  | [] => []
  | (x, _) :: r => (x, mrg c (here δ₁ σ x) (here δ₂ σ x)) :: mrgS c σ δ₁ δ₂ r

/-- a list's names, all locals -/
def nms (ls : List Str) : List Expr → Option (List Str)
  | [] => some []
  | .Name x _ :: r => bif ls.any (same x) then (match nms ls r with
    | some l => some (x :: l)
    | none => none) else none
  | _ :: _ => none
def setAll (v : V) : List Str → Sg → Sg
  | [], σ => σ
  | x :: r, σ => setAll v r (put x v σ)

def join (c : Bool) (σ : Sg) (o : Ob) (r₁ r₂ : R) : Option R :=
  let ob := o.two ((r₁.ob.when c).two (r₂.ob.when (!c)))
  match r₁.rt, r₂.rt with
  | .no, .no => some ⟨ob, .no, mrgS c σ r₁.ch r₂.ch (upd r₁.ch r₂.ch)⟩
  | .yes v, .no => some ⟨ob, .may c v, r₂.ch⟩
  | .no, .yes v => some ⟨ob, .may (!c) v, r₁.ch⟩
  | .yes v₁, .yes v₂ => some ⟨ob, .yes (mrg c v₁ v₂), []⟩
  | _, _ => none

def xsL (f : Sg → Stmt → Option R) : Sg → List Stmt → Option R
  | _, [] => some ⟨.t, .no, []⟩
  | σ, st :: r => match f σ st with
    | none => none
    | some q => match q.rt with
      | .yes v => some ⟨q.ob, .yes v, []⟩
      | .no => match xsL f (upd q.ch σ) r with
        | some q₂ => some ⟨q.ob.two q₂.ob, q₂.rt, upd q₂.ch q.ch⟩
        | none => none
      | .may c v => match xsL f (upd q.ch σ) r with
        | some q₂ => match q₂.rt with
          | .no => some ⟨q.ob.two (q₂.ob.when (!c)), .may c v, upd q₂.ch q.ch⟩
          | .yes v₂ => some ⟨q.ob.two (q₂.ob.when (!c)), .yes (mrg c v v₂), []⟩
          | .may c₂ v₂ => some ⟨q.ob.two (q₂.ob.when (!c)), .may (c || c₂) (mrg c v v₂), upd q₂.ch q.ch⟩
        | none => none

def x1 (O : Orc) : Nat → Sg → Stmt → Option R
  | 0, _, _ => none
  | n + 1, σ, st => match O.s σ st with
    | some (ob, ch) => some ⟨ob, .no, ch⟩
    | none => match st with
      | .Assign [.Name x _] e _ => bif O.ls.any (same x) && noComp e then (match ev O n σ e with
        | some (o, v) => some ⟨o, .no, [(x, v)]⟩
        | none => none) else none
      | .Assign (t₁ :: t₂ :: ts) e _ => (match nms O.ls (t₁ :: t₂ :: ts) with
        | some l => (match ev O n σ e with
          | some (o, v) => some ⟨o, .no, setAll v l []⟩
          | none => none)
        | none => none)
      | .AugAssign (.Name x _) .Add e _ => bif O.ls.any (same x) then (match look σ x, ev O n σ e with
        | some (.int a), some (o, .int b) => some ⟨o, .no, [(x, .int (a + b))]⟩
        | _, _ => none) else none
      | .Return (some e) _ => (match ev O n σ e with
        | some (o, v) => some ⟨o, .yes v, []⟩
        | none => none)
      | .If t b o _ => (match tr O n σ t with
        | some (ob, c) => (match xsL (x1 O n) σ b, xsL (x1 O n) σ o with
          | some r₁, some r₂ => join c σ ob r₁ r₂
          | _, _ => none)
        | none => none)
      | _ => none

/-- what a block leaves -/
def Bx.Aft (B : Bx) (σ : Sg) (rt : Rt) (ch : Sg) (f : Flow) (s : Shared) : Prop := match rt with
  | .no => f = .next ∧ B.H (upd ch σ) s
  | .yes v => ∃ u, f = .ret u ∧ v.is u ∧ B.H [] s
  | .may c v => (c = true ∧ ∃ u, f = .ret u ∧ v.is u ∧ B.H [] s) ∨ (c = false ∧ f = .next ∧ B.H (upd ch σ) s)

def Bx.StOk (B : Bx) (σ : Sg) (st : Stmt) (r : R) : Prop :=
  r.ob.ok → ∀ s (Q : Flow → Shared → Prop), B.H σ s → (∀ f s', B.Aft σ r.rt r.ch f s' → Q f s') → B.run (exec st B.env) Q s
def Bx.BlOk (B : Bx) (σ : Sg) (l : List Stmt) (r : R) : Prop :=
  r.ob.ok → ∀ s (Q : Flow → Shared → Prop), B.H σ s → (∀ f s', B.Aft σ r.rt r.ch f s' → Q f s') → B.run (execs l B.env) Q s

theorem look_mrgS (c : Bool) (σ δ₁ δ₂ : Sg) (y : Str) : ∀ l, look (mrgS c σ δ₁ δ₂ l) y = (look l y).map fun _ => mrg c (here δ₁ σ y) (here δ₂ σ y)
  | [] => rfl
  | (x, v) :: r => by
    unfold mrgS look
    cases h : same x y with
    | true => have e := same_iff.mp h; subst e; rfl
    | false => simp only [cond_false]; exact look_mrgS c σ δ₁ δ₂ y r

/-- .. and of a statement -/
structure Orc.OkS (O : Orc) (B : Bx) : Prop extends Orc.Ok O B where
  st : ∀ m s h' x u, B.H₀ m s → h'.Ns B.env.locals (fun y => if y = x then some u else m y) → Heap.SameBut B.env.locals s.heap h' → B.H₀ (fun y => if y = x then some u else m y) { s with heap := h', toks := s.toks + 1 }
  s : ∀ σ st ob ch, O.s σ st = some (ob, ch) → ob.ok → ∀ s (Q : Flow → Shared → Prop), B.H σ s → (∀ s', B.H (upd ch σ) s' → Q .next s') → B.run (exec st B.env) Q s

theorem mrgS_t {B : Bx} {σ δ₁ δ₂ : Sg} {s : Shared} (h : B.H (upd δ₁ σ) s) : B.H (upd (mrgS true σ δ₁ δ₂ (upd δ₁ δ₂)) σ) s := by
  obtain ⟨m, h, f⟩ := h
  refine ⟨m, h, fun x v hv ha => ?_⟩
  rw [look_upd, look_mrgS, look_upd] at hv
  have f' := f x
  rw [look_upd] at f'
  cases h₁ : look δ₁ x with
  | some a =>
    rw [h₁] at hv f'
    simp only [Option.some_or, Option.map_some, Option.some.injEq] at hv f'
    unfold here at hv
    rw [h₁] at hv
    simp only [Option.some_or] at hv
    by_cases ea : a = .any
    · subst ea; exact absurd (by rw [← hv]; cases (match (look δ₂ x).or (look σ x) with | some v => v | none => V.any) <;> rfl) ha
    · obtain ⟨u, hu, hi⟩ := f' a rfl ea
      exact ⟨u, hu, by rw [← hv]; exact mrg_t hi⟩
  | none =>
    rw [h₁] at hv f'
    simp only [Option.none_or] at hv f'
    cases h₂ : look δ₂ x with
    | none => rw [h₂] at hv; simp only [Option.map_none, Option.none_or] at hv; exact f' v hv ha
    | some b =>
      rw [h₂] at hv
      simp only [Option.map_some, Option.some_or, Option.some.injEq] at hv
      unfold here at hv
      rw [h₁, h₂] at hv
      simp only [Option.some_or, Option.none_or] at hv
      cases h₃ : look σ x with
      | none => rw [h₃] at hv; exact absurd (by rw [← hv]; cases b <;> rfl) ha
      | some a =>
        rw [h₃] at hv
        dsimp only at hv
        by_cases ea : a = .any
        · subst ea; exact absurd (by rw [← hv]; cases b <;> rfl) ha
        · obtain ⟨u, hu, hi⟩ := f' a h₃ ea
          exact ⟨u, hu, by rw [← hv]; exact mrg_t hi⟩

theorem mrgS_f {B : Bx} {σ δ₁ δ₂ : Sg} {s : Shared} (h : B.H (upd δ₂ σ) s) : B.H (upd (mrgS false σ δ₁ δ₂ (upd δ₁ δ₂)) σ) s := by
  obtain ⟨m, h, f⟩ := h
  refine ⟨m, h, fun x v hv ha => ?_⟩
  rw [look_upd, look_mrgS, look_upd] at hv
  have f' := f x
  rw [look_upd] at f'
  cases h₂ : look δ₂ x with
  | some b =>
    rw [h₂] at hv f'
    simp only [Option.or_some, Option.some_or, Option.map_some, Option.some.injEq] at hv f'
    unfold here at hv
    rw [h₂] at hv
    simp only [Option.some_or] at hv
    by_cases ea : b = .any
    · subst ea; exact absurd (by rw [← hv]; cases (match (look δ₁ x).or (look σ x) with | some v => v | none => V.any) <;> rfl) ha
    · obtain ⟨u, hu, hi⟩ := f' b rfl ea
      exact ⟨u, hu, by rw [← hv]; exact mrg_f hi⟩
  | none =>
    rw [h₂] at hv f'
    simp only [Option.none_or] at f'
    cases h₁ : look δ₁ x with
    | none => rw [h₁] at hv; simp only [Option.or_none, Option.map_none, Option.none_or] at hv; exact f' v hv ha
    | some a =>
      rw [h₁] at hv
      simp only [Option.or_none, Option.map_some, Option.some_or, Option.some.injEq] at hv
      unfold here at hv
      rw [h₁, h₂] at hv
      simp only [Option.some_or, Option.none_or] at hv
      cases h₃ : look σ x with
      | none => rw [h₃] at hv; exact absurd (by rw [← hv]; cases a <;> rfl) ha
      | some b =>
        rw [h₃] at hv
        dsimp only at hv
        by_cases ea : b = .any
        · subst ea; exact absurd (by rw [← hv]; cases a <;> rfl) ha
        · obtain ⟨u, hu, hi⟩ := f' b h₃ ea
          exact ⟨u, hu, by rw [← hv]; exact mrg_f hi⟩

theorem Bx.H.upd_upd {B : Bx} {σ δ₁ δ₂ : Sg} {s : Shared} (h : B.H (upd δ₂ (upd δ₁ σ)) s) : B.H (upd (upd δ₂ δ₁) σ) s :=
  h.less fun x v hv _ => by
    rw [look_upd, look_upd] at hv
    rw [look_upd, look_upd]
    rw [Option.or_assoc] at hv
    exact hv

theorem xsL_ok {B : Bx} {f : Sg → Stmt → Option R} (hf : ∀ σ st r, f σ st = some r → B.StOk σ st r) : ∀ l σ r, xsL f σ l = some r → B.BlOk σ l r
  | [], σ, r, h => by
    cases h
    exact fun _ s Q hs hQ => wpAny_execs_nil (hQ _ _ ⟨rfl, hs⟩)
  | st :: l, σ, r, h => by
    unfold xsL at h
    split at h
    · cases h
    · rename_i q hq
      have h1 := hf σ st q hq
      split at h
      · rename_i v hv
        cases h
        intro hob s Q hs hQ
        refine wpAny_execs_cons (h1 hob s _ hs fun f s' ha => ?_)
        unfold Bx.Aft at ha
        rw [hv] at ha
        obtain ⟨u, rfl, hu, hn⟩ := ha
        exact hQ _ _ ⟨u, rfl, hu, hn⟩
      · rename_i hv
        split at h
        · rename_i q₂ hq₂
          cases h
          intro hob s Q hs hQ
          obtain ⟨hoa, hob'⟩ := Ob.two_ok hob
          refine wpAny_execs_cons (h1 hoa s _ hs fun f s' ha => ?_)
          unfold Bx.Aft at ha
          rw [hv] at ha
          obtain ⟨rfl, hn⟩ := ha
          refine xsL_ok hf l _ q₂ hq₂ hob' s' Q hn fun f s'' ha' => hQ f s'' ?_
          unfold Bx.Aft at ha' ⊢
          cases e : q₂.rt with
          | no => rw [e] at ha'; exact ⟨ha'.1, ha'.2.upd_upd⟩
          | yes v => rw [e] at ha'; exact ha'
          | may c v =>
            rw [e] at ha'
            exact ha'.imp id fun k => ⟨k.1, k.2.1, k.2.2.upd_upd⟩
        · cases h
      · rename_i c v hv
        split at h
        · rename_i q₂ hq₂
          have go : (q.ob.two (q₂.ob.when (!c))).ok → ∀ s (Q : Flow → Shared → Prop), B.H σ s →
              (c = true → ∀ u s', v.is u → B.H [] s' → Q (.ret u) s') →
              (c = false → ∀ f s', B.Aft (upd q.ch σ) q₂.rt q₂.ch f s' → Q f s') → B.run (execs (st :: l) B.env) Q s := by
            intro hob s Q hs hA hB
            obtain ⟨hoa, hob'⟩ := Ob.two_ok hob
            refine wpAny_execs_cons (h1 hoa s _ hs fun f s' ha => ?_)
            unfold Bx.Aft at ha
            rw [hv] at ha
            rcases ha with ⟨hc, u, rfl, hu, hn⟩ | ⟨hc, rfl, hn⟩
            · exact hA hc u s' hu hn
            · exact xsL_ok hf l _ q₂ hq₂ (Ob.when_ok hob' (by rw [hc]; rfl)) s' Q hn fun f s'' ha' => hB hc f s'' ha'
          split at h
          · rename_i e
            cases h
            intro hob s Q hs hQ
            refine go hob s Q hs (fun hc u s' hu hn => hQ _ _ (.inl ⟨hc, u, rfl, hu, hn⟩)) fun hc f s' ha => hQ _ _ ?_
            unfold Bx.Aft at ha
            rw [e] at ha
            exact .inr ⟨hc, ha.1, ha.2.upd_upd⟩
          · rename_i v₂ e
            cases h
            intro hob s Q hs hQ
            refine go hob s Q hs (fun hc u s' hu hn => hQ _ _ ⟨u, rfl, ?_, hn⟩) fun hc f s' ha => hQ _ _ ?_
            · rw [hc]; exact mrg_t hu
            · unfold Bx.Aft at ha
              rw [e] at ha
              obtain ⟨u, rfl, hu, hn⟩ := ha
              refine ⟨u, rfl, ?_, hn⟩
              rw [hc]; exact mrg_f hu
          · rename_i c₂ v₂ e
            cases h
            intro hob s Q hs hQ
            refine go hob s Q hs (fun hc u s' hu hn => hQ _ _ (.inl ⟨by rw [hc]; rfl, u, rfl, ?_, hn⟩)) fun hc f s' ha => hQ _ _ ?_
            · rw [hc]; exact mrg_t hu
            · unfold Bx.Aft at ha
              rw [e] at ha
              rcases ha with ⟨hc₂, u, rfl, hu, hn⟩ | ⟨hc₂, rfl, hn⟩
              · exact .inl ⟨by rw [hc₂, Bool.or_true], u, rfl, by rw [hc]; exact mrg_f hu, hn⟩
              · exact .inr ⟨by rw [hc, hc₂]; rfl, rfl, hn.upd_upd⟩
        · cases h

theorem store_ok {O : Orc} {B : Bx} (hO : O.OkS B) {x : Str} (hx : O.ls.any (same x) = true) {σ : Sg} {v : V} {u : Value} (hu : v.is u) {s : Shared} {Q : Unit → Shared → Prop} (hs : B.H σ s)
    (hQ : ∀ s', B.H (put x v σ) s' → Q () s') : B.run (storeName B.env x u) Q s := by
  obtain ⟨m, h, f⟩ := hs
  refine wpAny_storeName_local (hO.loc x hx).1 (B.ns m s h) (fun h' hn hsb => hQ _ ⟨_, hO.st m s h' x u h hn hsb, fun y w hy ha => ?_⟩) (by rw [hO.hk]; rfl)
  rw [look_put] at hy
  cases e : same x y with
  | true =>
    rw [e] at hy
    have := same_iff.mp e
    subst this
    cases hy
    exact ⟨u, if_pos rfl, hu⟩
  | false =>
    rw [e] at hy
    have ne : y ≠ x := fun q => by rw [q, same_iff.mpr rfl] at e; cases e
    obtain ⟨u', h1, h2⟩ := f y w hy ha
    exact ⟨u', by rw [if_neg ne]; exact h1, h2⟩

theorem look_setAll (v : V) (y : Str) : ∀ l σ, look (setAll v l σ) y = if l.any (fun x => same x y) then some v else look σ y
  | [], σ => rfl
  | x :: r, σ => by
    unfold setAll
    rw [look_setAll v y r, look_put]
    simp only [List.any_cons, Bool.or_eq_true]
    cases h : same x y <;> cases h2 : r.any (fun x => same x y) <;> simp

theorem nms_name {ls : List Str} {e : Expr} {r : List Expr} {l : List Str} (h : nms ls (e :: r) = some l) : ∃ x p l', e = .Name x p ∧ ls.any (same x) = true ∧ nms ls r = some l' ∧ l = x :: l' := by
  unfold nms at h
  split at h
  · rename_i e'
    cases e'
  · rename_i x p r' e'
    cases e'
    cases hx : ls.any (same x) with
    | false => rw [hx] at h; cases h
    | true =>
      rw [hx] at h
      simp only [cond_true] at h
      split at h
      · rename_i l' hl
        cases h
        exact ⟨x, p, l', rfl, hx, hl, rfl⟩
      · cases h
  · cases h

theorem assigns_ok {O : Orc} {B : Bx} (hO : O.OkS B) {v : V} {u : Value} (hu : v.is u) : ∀ es l σ s (Q : Unit → Shared → Prop), nms O.ls es = some l → B.H σ s →
    (∀ s', B.H (setAll v l σ) s' → Q () s') → B.run (assignAll u ((assignEach es B.env).map (·.2))) Q s
  | [], l, σ, s, Q, h, hs, hQ => by
    cases h
    exact wpAny_pure (hQ s hs)
  | [e], l, σ, s, Q, h, hs, hQ => by
    obtain ⟨x, p, l', rfl, hx, hl, rfl⟩ := nms_name h
    cases hl
    exact wpAny_assign_Name (store_ok hO hx hu hs hQ)
  | e :: e₂ :: r, l, σ, s, Q, h, hs, hQ => by
    obtain ⟨x, p, l', rfl, hx, hl, rfl⟩ := nms_name h
    obtain ⟨x₂, p₂, l₂, rfl, hx₂, hl₂, rfl⟩ := nms_name hl
    exact wpAny_bind (wpAny_holding (wpAny_assign_Name (store_ok hO hx hu hs fun s' hs' => assigns_ok hO hu (.Name x₂ p₂ :: r) _ _ s' Q hl hs' hQ)))

theorem setAll_upd {B : Bx} {v : V} {l : List Str} {σ : Sg} {s : Shared} (h : B.H (setAll v l σ) s) : B.H (upd (setAll v l []) σ) s :=
  h.less fun x w hw _ => by
    rw [look_upd, look_setAll] at hw
    rw [look_setAll]
    revert hw
    cases l.any (fun y => same y x) <;> simp [look]

theorem noComp_swaps {e : Expr} {t : Option Expr} {n : Nat} {env : Env} (h : noComp e = true) : swapsWith e t n env = pure false := by
  cases e <;> first | rfl | cases h

theorem join_ok {B : Bx} {σ : Sg} {ob : Ob} {c : Bool} {r₁ r₂ r : R} {l₁ l₂ : List Stmt} {pos : Pos} {t : Expr} (ht : B.TrOk σ t ob c) (h₁ : B.BlOk σ l₁ r₁) (h₂ : B.BlOk σ l₂ r₂) (h : join c σ ob r₁ r₂ = some r) :
    B.StOk σ (.If t l₁ l₂ pos) r := by
  have go : (ob.two ((r₁.ob.when c).two (r₂.ob.when (!c)))).ok → ∀ s (Q : Flow → Shared → Prop), B.H σ s →
      (c = true → ∀ f s', B.Aft σ r₁.rt r₁.ch f s' → Q f s') → (c = false → ∀ f s', B.Aft σ r₂.rt r₂.ch f s' → Q f s') → B.run (exec (.If t l₁ l₂ pos) B.env) Q s := by
    intro hob s Q hs hA hB
    obtain ⟨ho, ho'⟩ := Ob.two_ok hob
    obtain ⟨hoa, hob⟩ := Ob.two_ok ho'
    refine wpAny_If (ht ho s _ hs fun s' hs' => ?_)
    cases c with
    | true => simp only [if_true]; exact h₁ (Ob.when_ok hoa rfl) s' Q hs' (hA rfl)
    | false => simp only [Bool.false_eq_true, if_false]; exact h₂ (Ob.when_ok hob rfl) s' Q hs' (hB rfl)
  unfold join at h
  dsimp only at h
  split at h
  · rename_i e₁ e₂
    cases h
    intro hob s Q hs hQ
    refine go hob s Q hs (fun hc f s' ha => hQ f s' ?_) fun hc f s' ha => hQ f s' ?_
    · unfold Bx.Aft at ha
      rw [e₁] at ha
      subst hc
      exact ⟨ha.1, mrgS_t ha.2⟩
    · unfold Bx.Aft at ha
      rw [e₂] at ha
      subst hc
      exact ⟨ha.1, mrgS_f ha.2⟩
  · rename_i v e₁ e₂
    cases h
    intro hob s Q hs hQ
    refine go hob s Q hs (fun hc f s' ha => hQ f s' ?_) fun hc f s' ha => hQ f s' ?_
    · unfold Bx.Aft at ha
      rw [e₁] at ha
      exact .inl ⟨hc, ha⟩
    · unfold Bx.Aft at ha
      rw [e₂] at ha
      exact .inr ⟨hc, ha⟩
  · rename_i v e₁ e₂
    cases h
    intro hob s Q hs hQ
    refine go hob s Q hs (fun hc f s' ha => hQ f s' ?_) fun hc f s' ha => hQ f s' ?_
    · unfold Bx.Aft at ha
      rw [e₁] at ha
      exact .inr ⟨by rw [hc]; rfl, ha⟩
    · unfold Bx.Aft at ha
      rw [e₂] at ha
      exact .inl ⟨by rw [hc]; rfl, ha⟩
  · rename_i v₁ v₂ e₁ e₂
    cases h
    intro hob s Q hs hQ
    refine go hob s Q hs (fun hc f s' ha => hQ f s' ?_) fun hc f s' ha => hQ f s' ?_
    · unfold Bx.Aft at ha
      rw [e₁] at ha
      obtain ⟨u, rfl, hu, hn⟩ := ha
      subst hc
      exact ⟨u, rfl, mrg_t hu, hn⟩
    · unfold Bx.Aft at ha
      rw [e₂] at ha
      obtain ⟨u, rfl, hu, hn⟩ := ha
      subst hc
      exact ⟨u, rfl, mrg_f hu, hn⟩
  · cases h

theorem x1_ok {O : Orc} {B : Bx} (hO : O.OkS B) : ∀ n σ st r, x1 O n σ st = some r → B.StOk σ st r := by
  intro n
  induction n with
  | zero => intro σ st r h; cases h
  | succ n ih =>
    intro σ st r h
    unfold x1 at h
    split at h
    · rename_i ob ch hs
      cases h
      exact fun hob s Q hs' hQ => hO.s σ st ob ch hs hob s Q hs' fun s' h' => hQ _ _ ⟨rfl, h'⟩
    · split at h
      · rename_i x px e pos _
        cases hx : (O.ls.any (same x) && noComp e) with
        | false => rw [hx] at h; cases h
        | true =>
          rw [hx] at h
          simp only [cond_true] at h
          obtain ⟨hx₁, hx₂⟩ := Bool.and_eq_true_iff.mp hx
          split at h
          · rename_i o v hv
            cases h
            intro hob s Q hs hQ
            exact wpAny_Assign_Name (ev_ok hO.toOk n σ e o v hv hob s _ hs fun u s' hs' hu => store_ok hO hx₁ hu hs' fun s'' hs'' => hQ _ _ ⟨rfl, hs''⟩) (noComp_swaps hx₂)
          · cases h
      · rename_i t₁ t₂ ts e pos _
        split at h
        · rename_i l hl
          split at h
          · rename_i o v hv
            cases h
            intro hob s Q hs hQ
            obtain ⟨x, p, l', rfl, _, _, _⟩ := nms_name hl
            exact wpAny_Assign_stores (ev_ok hO.toOk n σ e o v hv hob s _ hs fun u s' hs' hu => assigns_ok hO hu _ l σ s' _ hl hs' fun s'' hs'' => hQ _ _ ⟨rfl, setAll_upd hs''⟩) rfl (by with_unfolding_all rfl)
          · cases h
        · cases h
      · rename_i x px e pos _
        cases hx : O.ls.any (same x) with
        | false => rw [hx] at h; cases h
        | true =>
          rw [hx] at h
          simp only [cond_true] at h
          split at h
          · rename_i a o b hl hv
            cases h
            intro hob s Q hs hQ
            obtain ⟨m, h, f⟩ := hs
            obtain ⟨u, hu, t, rfl⟩ := f x _ hl (by intro q; cases q)
            refine wpAny_AugAssign_Name (wpAny_loadName_local hO.hk (hO.loc x hx).1 (B.ns m s h) hu ?_)
            refine ev_ok hO.toOk n σ e _ _ hv hob _ _ ⟨m, h, f⟩ fun u' s' hs' hu' => ?_
            obtain ⟨t', rfl⟩ := hu'
            exact iadd_int (store_ok (v := .int _) hO hx ⟨_, rfl⟩ (hs'.toks _) fun s'' hs'' => hQ _ _ ⟨rfl, hs''⟩)
          · cases h
      · rename_i e pos _
        split at h
        · rename_i o v hv
          cases h
          exact fun hob s Q hs hQ => wpAny_Return_some (ev_ok hO.toOk n σ e o v hv hob s _ hs fun u s' hs' hu => hQ _ _ ⟨u, rfl, hu, hs'.nil⟩)
        · cases h
      · rename_i t b o pos _
        split at h
        · rename_i ob c hc
          split at h
          · rename_i r₁ r₂ h₁ h₂
            exact join_ok (tr_ok hO.toOk n σ t ob c hc) (xsL_ok ih b σ r₁ h₁) (xsL_ok ih o σ r₂ h₂) h
          · cases h
        · cases h
      · cases h

theorem xs_ok {O : Orc} {B : Bx} (hO : O.OkS B) {n : Nat} {σ : Sg} {l : List Stmt} {r : R} (h : xsL (x1 O n) σ l = some r) : B.BlOk σ l r := xsL_ok (x1_ok hO n) l σ r h

end Mine

namespace Mine
open PySem PySem.W PyProof.Rows

/-- a frame that may call -/
structure Gd (P : Pg) (k : Nat) (A : Around) (env : Env) (h₀ : Heap) : Prop where
  depth : A.depth + k < recursionLimit
  units : A.units + 4 * k < cLine
  below : ∃ A₀ base outer, Below A₀ base outer h₀ ∧ A.frames = some (env :: outer)
  X : P.K.In h₀
  T : Top P.p P.loose P.mean P.mg P.mb h₀
  frame : env.frame = some env.locals
  kind : env.scope.kind = .function
  gl : env.globals = mainGlobals
  bi : env.builtins = builtinsNs
  calm : A.handled = none

def CallOk (P : Pg) (f : Addr) (us : List Value) (k : Nat) (post : Value → Prop) : Prop :=
  ∀ A env h₀ m news (s : Shared) (Q : Value → Shared → Prop), Gd P k A env h₀ → Fr h₀ env.locals s.heap m → News h₀ env.locals s.heap news →
    (∀ u h' tk', Fr h₀ env.locals h' m → News h₀ env.locals h' news → post u → Q u { s with heap := h', toks := tk' }) →
    wpAny (model P.prog P.w) A (call (.ref f) us) Q (fun _ _ => False) s

theorem Gd.less {P : Pg} {k j : Nat} {A : Around} {env : Env} {h₀ : Heap} (G : Gd P k A env h₀) (h : j ≤ k) : Gd P j A env h₀ :=
  ⟨by have := G.depth; omega, by have := G.units; omega, G.below, G.X, G.T, G.frame, G.kind, G.gl, G.bi, G.calm⟩
theorem CallOk.mono {P : Pg} {f : Addr} {us : List Value} {k : Nat} {post post' : Value → Prop} (h : CallOk P f us k post) (hp : ∀ v, post v → post' v) : CallOk P f us k post' :=
  fun A env h₀ m news s Q G F N hQ => h A env h₀ m news s Q G F N fun u h' tk' F' N' hu => hQ u h' tk' F' N' (hp u hu)

/-- the box of a def's own frame -/
def fBx (P : Pg) (A : Around) (env : Env) (h₀ : Heap) (news : List (Addr × Obj)) (s₀ : Shared) : Bx where
  P := P
  A := A
  env := env
  H₀ := fun m s => ∃ h tk, s = { s₀ with heap := h, toks := tk } ∧ Fr h₀ env.locals h m ∧ News h₀ env.locals h news
  toks := by
    rintro m s tk ⟨h, tk', rfl, F, N⟩
    exact ⟨h, tk, rfl, F, N⟩
  ns := by
    rintro m s ⟨h, tk', rfl, F, N⟩
    exact F.ns

theorem fBx_st {P : Pg} {A : Around} {env : Env} {h₀ : Heap} {news : List (Addr × Obj)} {s₀ : Shared} : ∀ m s h' x u, (fBx P A env h₀ news s₀).H₀ m s → h'.Ns env.locals (fun y => if y = x then some u else m y) → Heap.SameBut env.locals s.heap h' →
    (fBx P A env h₀ news s₀).H₀ (fun y => if y = x then some u else m y) { s with heap := h', toks := s.toks + 1 } := by
  rintro m s h' x u ⟨h, tk', rfl, F, N⟩ hn hs
  exact ⟨h', _, rfl, F.set hn hs, N.set hs⟩

/-- a box that stands on a frame -/
def Bx.On (B : Bx) (fenv : Env) (h₀ : Heap) (news : List (Addr × Obj)) (s₀ : Shared) : Prop :=
  ∀ m s, B.H₀ m s → ∃ h tk m', s = { s₀ with heap := h, toks := tk } ∧ Fr h₀ fenv.locals h m' ∧ News h₀ fenv.locals h news ∧
    ∀ h' tk', Fr h₀ fenv.locals h' m' → News h₀ fenv.locals h' news → B.H₀ m { s₀ with heap := h', toks := tk' }

theorem fBx_on {P : Pg} {A : Around} {env : Env} {h₀ : Heap} {news : List (Addr × Obj)} {s₀ : Shared} : (fBx P A env h₀ news s₀).On env h₀ news s₀ := by
  rintro m s ⟨h, tk', rfl, F, N⟩
  exact ⟨h, tk', m, rfl, F, N, fun h' tk' F' N' => ⟨h', tk', rfl, F', N'⟩⟩

theorem plain_star {pos : Pos} {env : Env} : ∀ {es : List Expr}, es.all noStar = true → (backTo pos (starEach es env)).any (·.1) = false
  | [], _ => rfl
  | e :: r, h => by
    rw [List.all_cons, Bool.and_eq_true] at h
    have ih := plain_star (pos := pos) (env := env) h.2
    cases e <;> first | exact ih | cases h.1
theorem star_cons {e : Expr} {r : List Expr} {env : Env} (h : noStar e = true) : starEach (e :: r) env = (false, eval e env) :: starEach r env := by
  cases e <;> first | rfl | cases h

/-- a def of the text's, called by its name -/
theorem gcall_ok {B : Bx} {fenv : Env} {h₀ : Heap} {news : List (Addr × Obj)} {s₀ : Shared} (on : B.On fenv h₀ news s₀) {k : Nat} (G : Gd B.P k B.A fenv h₀) (hk : B.env.scope.kind = .function) (hg : B.env.globals = mainGlobals)
    {f : Str} {fa : Addr} (hf : nsIn B.P.K mainGlobals f = some (some (.ref fa))) (hx : B.env.kindOf f = some .globalImplicit) (hd : (f == ("__debug__" : Str)) = false) (hkeep : keepIn B.P.K (.ref fa) = true)
    {vs : List V} {v : V} {ob : Ob} (hc : ob.ok → ∀ us, AllIs vs us → CallOk B.P fa us k v.is)
    {σ : Sg} {es : List Expr} {o₁ : Ob} {pf pos : Pos} (h : B.EvsOk σ es o₁ vs) (hes : es.all noStar = true) (hne : es ≠ []) : B.EvOk σ (.Call (.Name f pf) es [] pos) (o₁.two ob) v := by
  intro hob s Q hs hQ
  obtain ⟨ha, hb⟩ := Ob.two_ok hob
  obtain ⟨e, r, rfl⟩ : ∃ e r, es = e :: r := by cases es with | nil => exact absurd rfl hne | cons e r => exact ⟨e, r, rfl⟩
  have hs' := hs
  obtain ⟨m, hm, fm⟩ := hs
  obtain ⟨hh, tk, m', rfl, F, N, _⟩ := on m s hm
  rw [List.all_cons, Bool.and_eq_true] at hes
  refine Call_ (nameG_K F G.X (topRead_of G.T) hf ?_ hg hk hx hd) (by with_unfolding_all rfl)
  refine callWith_K G.X hkeep ?_ (star_cons hes.1) (plain_star hes.2)
  refine h ha pos _ _ hs' fun us s₁ hs₁ hus => ?_
  obtain ⟨m₁, hm₁, fm₁⟩ := hs₁
  obtain ⟨h₁, tk₁, m₁', rfl, F₁, N₁, back⟩ := on m₁ s₁ hm₁
  refine ⟨G.X.keeps F₁.keep, ?_⟩
  exact hc hb us hus B.A fenv h₀ m₁' news _ _ G F₁ N₁ fun u h' tk' F' N' hu => hQ u _ ⟨m₁, back h' tk' F' N', fm₁⟩ hu

/-- len of a text -/
theorem len_ok {B : Bx} {fenv : Env} {h₀ : Heap} {news : List (Addr × Obj)} {s₀ : Shared} (on : B.On fenv h₀ news s₀) {k : Nat} (G : Gd B.P k B.A fenv h₀) (hk : B.env.scope.kind = .function) (hg : B.env.globals = mainGlobals) (hbi : B.env.builtins = builtinsNs)
    (hf : nsIn B.P.K mainGlobals "len" = some none) (hx : B.env.kindOf "len" = some .globalImplicit)
    {x : Str} {σ : Sg} {es : List Expr} {o₁ : Ob} {pf pos : Pos} (h : B.EvsOk σ es o₁ [.txt x]) (hes : es.all noStar = true) (hne : es ≠ []) :
    B.EvOk σ (.Call (.Name "len" pf) es [] pos) (o₁.two (.p ((x.length : Int) < 4611686018427387904))) (.int (x.length : Int)) := by
  intro hob s Q hs hQ
  obtain ⟨ha, hb⟩ := Ob.two_ok hob
  obtain ⟨e, r, rfl⟩ : ∃ e r, es = e :: r := by cases es with | nil => exact absurd rfl hne | cons e r => exact ⟨e, r, rfl⟩
  have hs' := hs
  obtain ⟨m, hm, fm⟩ := hs
  obtain ⟨hh, tk, m', rfl, F, N, _⟩ := on m s hm
  rw [List.all_cons, Bool.and_eq_true] at hes
  have T := topRead_of G.T
  refine Call_ ?_ (by with_unfolding_all rfl)
  refine Calls.Name_function_global hk hx (Calls.loadGlobal_builtin (by rw [hg]; exact T.g.keeps F.keep) (mg_none_of G.X T.g hf) (by rw [hbi]; exact T.b.keeps F.keep) ((T.builtins "len" (by decide)).trans (by boot_fast)) ?_) (by decide)
  refine callWith_builtin1 ?_ (star_cons hes.1) (plain_star hes.2)
  refine h ha pos _ _ hs' fun us s₁ hs₁ hus => ?_
  cases hus with
  | cons hu hr =>
    cases hr
    obtain ⟨t, rfl⟩ := hu
    have hb' : (x.length : Int) < 4611686018427387904 := hb
    exact len_str (by omega) (hQ _ _ (hs₁.toks _) ⟨_, rfl⟩)

/-- a text that stands at the top -/
theorem gname_ok {B : Bx} {fenv : Env} {h₀ : Heap} {news : List (Addr × Obj)} {s₀ : Shared} (on : B.On fenv h₀ news s₀) {k : Nat} (G : Gd B.P k B.A fenv h₀) (hk : B.env.scope.kind = .function) (hg : B.env.globals = mainGlobals)
    {f : Str} {u : Value} (hf : nsIn B.P.K mainGlobals f = some (some u)) (hx : B.env.kindOf f = some .globalImplicit) (hd : (f == ("__debug__" : Str)) = false) {v : V} (hu : v.is u) {σ : Sg} {pos : Pos} : B.EvOk σ (.Name f pos) .t v := by
  intro _ s Q hs hQ
  have hs' := hs
  obtain ⟨m, hm, fm⟩ := hs
  obtain ⟨hh, tk, m', rfl, F, N, _⟩ := on m s hm
  exact nameG_K F G.X (topRead_of G.T) hf (hQ u _ hs' hu) hg hk hx hd

theorem fits_zip : ∀ {ps : List Str} {vs : List V} {us : List Value}, AllIs vs us → ps.length = vs.length → ps.Nodup → Fits (ps.zip vs) (fun y => (ps.zip us).reverse.lookup y) := by
  have app : ∀ (l : List (Str × Value)) (a : Str) (b : Value) (x : Str), (l ++ [(a, b)]).lookup x = (l.lookup x).or (if x = a then some b else none) := by
    intro l a b x
    induction l with
    | nil =>
      simp only [List.nil_append, List.lookup_cons, List.lookup_nil, Option.none_or]
      by_cases h : x = a
      · simp [h]
      · have : (x == a) = false := by simpa using h
        rw [this]; simp [h]
    | cons p l ih =>
      obtain ⟨p₁, p₂⟩ := p
      rw [List.cons_append, List.lookup_cons, List.lookup_cons]
      by_cases h : x = p₁
      · simp [h]
      · have : (x == p₁) = false := by simpa using h
        rw [this]; exact ih
  have notin : ∀ (l : List (Str × Value)) (x : Str), x ∉ l.map (·.1) → l.lookup x = none := by
    intro l x h
    induction l with
    | nil => rfl
    | cons p l ih =>
      obtain ⟨p₁, p₂⟩ := p
      simp only [List.map_cons, List.mem_cons, not_or] at h
      have : (x == p₁) = false := by simpa using h.1
      rw [List.lookup_cons, this]; exact ih h.2
  intro ps vs us h
  induction h generalizing ps with
  | nil => intro _ _ x v hv; cases ps <;> cases hv
  | @cons v u vs us hu r ih =>
    intro hl hn x w hw ha
    cases ps with
    | nil => cases hl
    | cons y ps =>
      rw [List.nodup_cons] at hn
      rw [List.zip_cons_cons] at hw
      show ∃ u_1, (((y, u) :: ps.zip us).reverse).lookup x = some u_1 ∧ _
      rw [List.reverse_cons, app]
      unfold look at hw
      cases e : same y x with
      | true =>
        rw [e] at hw
        have := same_iff.mp e
        subst this
        cases hw
        refine ⟨u, ?_, hu⟩
        rw [notin, if_pos rfl]; rfl
        intro hm
        simp only [List.map_reverse, List.mem_reverse, List.mem_map] at hm
        obtain ⟨p, hp, rfl⟩ := hm
        exact hn.1 (List.of_mem_zip hp).1
      | false =>
        rw [e] at hw
        obtain ⟨u', h1, h2⟩ := ih (by simpa using hl) hn.2 x w hw ha
        exact ⟨u', by rw [show (ps.zip us).reverse.lookup x = some u' from h1]; rfl, h2⟩

/-- .. that hands back something new -/
def CallOkN (P : Pg) (f : Addr) (us : List Value) (k : Nat) (post : Value → List (Addr × Obj) → Prop) : Prop :=
  ∀ A env h₀ m news (s : Shared) (Q : Value → Shared → Prop), Gd P k A env h₀ → Fr h₀ env.locals s.heap m → News h₀ env.locals s.heap news →
    (∀ u new h' tk', Fr h₀ env.locals h' m → News h₀ env.locals h' (new ++ news) → post u new → Q u { s with heap := h', toks := tk' }) →
    wpAny (model P.prog P.w) A (call (.ref f) us) Q (fun _ _ => False) s

/-- a def whose body is run to its return -/
theorem callOkN_of {P : Pg} {f : Addr} {name qual : Str} {params : Arguments} {body : List Stmt} {scope : Scope} {dV kV doc pm cdv ct oc : Value} {an od : Option Addr} {osl : Array (Option Value)}
    (ho : P.K.lookup f = some ⟨oc, od, .func (fnOf name qual params body scope dV kV doc pm an cdv ct), osl⟩) (hcd : codeIn P.K cdv qual = true) {ps : List Str} {us : List Value}
    (hbind : ∀ s, BindsTo s (fnOf name qual params body scope dV kV doc pm an cdv ct) ⟨us, []⟩ (ps.zip us)) (hloc : ∀ y ∈ ps.zip us, scope.names.lookup y.1 = some .local)
    (hco : scope.isCoroutine = false) (hgen : scope.isGenerator = false) (hk : scope.kind = .function) (hcell : ∀ x ∈ scope.names, x.2 ≠ .cell)
    {k : Nat} {post : Value → List (Addr × Obj) → Prop}
    (run : ∀ A L h₀ news s₀ m, Gd P k A (envOf qual scope L f cdv) h₀ → Fr h₀ L s₀.heap m → News h₀ L s₀.heap news → m = (fun y => (ps.zip us).reverse.lookup y) →
      wpAny (model P.prog P.w) A (execs body (envOf qual scope L f cdv)) (fun fl s' => ∃ u new, fl = .ret u ∧ post u new ∧ ∃ h tk m', s' = { s₀ with heap := h, toks := tk } ∧ Fr h₀ L h m' ∧ News h₀ L h (new ++ news)) (fun _ _ => False) s₀) : CallOkN P f us (k + 1) post := by
  intro A env h₀ m news s Q G F N hQ
  obtain ⟨A₀, base, outer, B, hA⟩ := G.below
  refine wpAny_call (code_def B F G.X N G.T hA G.frame G.kind ho hcd (by have := G.depth; omega) (hbind s) hloc (fun g L' h₁ Fg F₁ N₁ B₁ X₁ T₁ => ?_) hco hgen hk hcell)
  refine wpAny_mono (run (A.deeper (envOf qual scope L' f cdv)) L' g news _ _ ⟨by have := G.depth; show A.depth + 1 + k < _; omega, by have := G.units; show A.units + 3 + 4 * k < _; omega, ⟨A, base, env :: outer, B₁, by show A.frames.map _ = _; rw [hA]; rfl⟩, X₁, T₁, rfl, hk, rfl, rfl, G.calm⟩ F₁ N₁ rfl) (fun fl s' hq => ?_) fun _ _ h => h.elim
  obtain ⟨u, new, rfl, hu, h, tk, m', rfl, F', N'⟩ := hq
  exact ⟨L', m', new ++ news, F', N', fun Fb Nb => hQ u new h tk Fb Nb hu⟩

theorem CallOkN.plain {P : Pg} {f : Addr} {us : List Value} {k : Nat} {post : Value → Prop} (h : CallOkN P f us k fun u new => new = [] ∧ post u) : CallOk P f us k post :=
  fun A env h₀ m news s Q G F N hQ => h A env h₀ m news s Q G F N fun u new h' tk' F' N' hu => by
    obtain ⟨rfl, hu⟩ := hu
    exact hQ u h' tk' F' N' hu

/-- a tuple handed back -/
theorem ret_tuple {P : Pg} {A : Around} {env : Env} {h₀ : Heap} {news : List (Addr × Obj)} {s₀ : Shared} {O : Orc} (hO : O.OkS (fBx P A env h₀ news s₀)) {n : Nat} {σ : Sg} {es : List Expr} {kk : Nat} {pt pos : Pos} {ob : Ob} {vs : List V}
    (h : evs (ev O n σ) es = some (ob, vs)) (hob : ob.ok) (hsz : ∀ us, AllIs vs us → us.length ≤ sizeLine) {s : Shared} {Q : Flow → Shared → Prop} (hs : (fBx P A env h₀ news s₀).H σ s)
    (k : ∀ D us h' tk' m', AllIs vs us → Fr h₀ env.locals h' m' → News h₀ env.locals h' ((D, { cls := .type "tuple", data := .seq us.toArray }) :: news) → Q (.ret (.ref D)) { s₀ with heap := h', toks := tk' }) :
    (fBx P A env h₀ news s₀).run (execs [.Return (some (.Tuple es kk pt)) pos] env) Q s := by
  refine wpAny_execs_cons (wpAny_Return_some (Tuple_ ((evs_ok (ev_ok hO.toOk n σ) es ob vs h).1 hob _ s _ hs fun us s' hs' hus => ?_)))
  obtain ⟨m, ⟨h', tk', rfl, F, N⟩, fm⟩ := hs'
  exact newTuple_N F N (fun h'' F' N' => k _ us h'' tk' m hus F' N') (hsz us hus)

end Mine

namespace Mine
open PySem PySem.W PyProof.Rows

/-- a block that goes on into another -/
theorem xsL_then {B : Bx} {f : Sg → Stmt → Option R} (hf : ∀ σ st r, f σ st = some r → B.StOk σ st r) {l₂ : List Stmt} {Q : Flow → Shared → Prop} : ∀ l σ r s, xsL f σ l = some r → r.rt = .no → r.ob.ok → B.H σ s →
    (∀ s', B.H (upd r.ch σ) s' → B.run (execs l₂ B.env) Q s') → B.run (execs (l ++ l₂) B.env) Q s
  | [], σ, r, s, h, hr, hob, hs, k => by
    cases h
    exact k s hs
  | st :: l, σ, r, s, h, hr, hob, hs, k => by
    unfold xsL at h
    split at h
    · cases h
    · rename_i q hq
      have h1 := hf σ st q hq
      split at h
      · cases h; cases hr
      · rename_i hv
        split at h
        · rename_i q₂ hq₂
          cases h
          obtain ⟨hoa, hob'⟩ := Ob.two_ok hob
          refine wpAny_execs_cons (h1 hoa s _ hs fun f s' ha => ?_)
          unfold Bx.Aft at ha
          rw [hv] at ha
          obtain ⟨rfl, hn⟩ := ha
          exact xsL_then hf l _ q₂ s' hq₂ hr hob' hn fun s'' hs'' => k s'' hs''.upd_upd
        · cases h
      · split at h
        · split at h <;> cases h <;> cases hr
        · cases h

/-- what a block leaves, in one: what it asks, the state behind it -/
def runB (O : Orc) (n : Nat) (σ : Sg) (l : List Stmt) : Option (Ob × Sg) := match xsL (x1 O n) σ l with
  | some r => match r.rt with
    | .no => some (r.ob, upd r.ch σ)
    | _ => none
  | none => none

theorem runB_then {O : Orc} {B : Bx} (hO : O.OkS B) {n : Nat} {σ σ' : Sg} {l l₂ : List Stmt} {ob : Ob} (h : runB O n σ l = some (ob, σ')) (hob : ob.ok) {s : Shared} {Q : Flow → Shared → Prop} (hs : B.H σ s)
    (k : ∀ s', B.H σ' s' → B.run (execs l₂ B.env) Q s') : B.run (execs (l ++ l₂) B.env) Q s := by
  unfold runB at h
  split at h
  · rename_i r hr
    split at h
    · rename_i hrt
      cases h
      exact xsL_then (x1_ok hO n) l σ r s hr hrt hob hs k
    · cases h
  · cases h
theorem runB_ok {O : Orc} {B : Bx} (hO : O.OkS B) {n : Nat} {σ σ' : Sg} {l : List Stmt} {ob : Ob} (h : runB O n σ l = some (ob, σ')) (hob : ob.ok) {s : Shared} {Q : Flow → Shared → Prop} (hs : B.H σ s)
    (k : ∀ s', B.H σ' s' → Q .next s') : B.run (execs l B.env) Q s := by
  have := runB_then hO h hob (l₂ := []) (Q := Q) hs fun s' hs' => wpAny_execs_nil (k s' hs')
  rwa [List.append_nil] at this

/-- a name takes a value -/
theorem assign_ok {O : Orc} {B : Bx} (hO : O.OkS B) {x : Str} (hx : O.ls.any (same x) = true) {e : Expr} (he : noComp e = true) {px pos : Pos} {σ : Sg} {ob : Ob} {v : V} (h : B.EvOk σ e ob v) (hob : ob.ok) {l : List Stmt} {s : Shared} {Q : Flow → Shared → Prop} (hs : B.H σ s)
    (k : ∀ s', B.H (put x v σ) s' → B.run (execs l B.env) Q s') : B.run (execs (.Assign [.Name x px] e pos :: l) B.env) Q s :=
  wpAny_execs_cons (wpAny_Assign_Name (h hob s _ hs fun u s' hs' hu => store_ok hO hx hu hs' fun s'' hs'' => k s'' hs'') (noComp_swaps he))

/-- a while, by states in a row -/
theorem while_ok {P : Pg} {A : Around} {env : Env} {h₀ : Heap} {news : List (Addr × Obj)} {s₀ : Shared} {O : Orc} (hO : O.OkS (fBx P A env h₀ news s₀)) {n : Nat} {test : Expr} {body : List Stmt} {pos : Pos} (S : Nat → Sg) (N : Nat)
    (ht : ∀ i, i ≤ N → ∃ o c, tr O n (S i) test = some (o, c) ∧ o.ok ∧ c = decide (i < N))
    (hb : ∀ i, i < N → ∃ o σ', runB O n (S i) body = some (o, σ') ∧ o.ok ∧ ∀ s, (fBx P A env h₀ news s₀).H σ' s → (fBx P A env h₀ news s₀).H (S (i + 1)) s)
    {s : Shared} {Q : Flow → Shared → Prop} (hs : (fBx P A env h₀ news s₀).H (S 0) s) (k : ∀ s', (fBx P A env h₀ news s₀).H (S N) s' → Q .next s') :
    (fBx P A env h₀ news s₀).run (exec (.While test body [] pos) env) Q s := by
  have hs' := hs
  obtain ⟨m, ⟨h, tk, rfl, F, N₀⟩, fm⟩ := hs'
  refine While_inv (E := fun _ _ => False) (h₀ := h₀) (L := env.locals) (fun j m₁ news₁ => ∃ i, i ≤ N ∧ j = N - i ∧ news₁ = news ∧ Fits (S i) m₁) (n₀ := N) F N₀ ⟨0, Nat.zero_le _, rfl, rfl, fm⟩ ?_ PassesOwn.never
  rintro j m₁ news₁ h₁ tk₁ F₁ N₁ ⟨i, hi, rfl, rfl, f₁⟩
  obtain ⟨o, c, htr, ho, hc⟩ := ht i hi
  refine tr_ok hO.toOk n (S i) test o c htr ho _ _ ⟨m₁, ⟨h₁, tk₁, rfl, F₁, N₁⟩, f₁⟩ fun s₂ hs₂ => ?_
  rw [hc]
  by_cases hlt : i < N
  · rw [decide_eq_true hlt, if_pos rfl]
    obtain ⟨o', σ', hr, ho', hn⟩ := hb i hlt
    refine runB_ok hO hr ho' hs₂ fun s₃ hs₃ => ?_
    obtain ⟨m₃, ⟨h₃, tk₃, rfl, F₃, N₃⟩, f₃⟩ := hn _ hs₃
    exact ⟨rfl, h₃, tk₃, m₃, news₁, N - (i + 1), rfl, F₃, N₃, by omega, i + 1, hlt, rfl, rfl, f₃⟩
  · rw [decide_eq_false hlt, if_neg (by decide)]
    obtain rfl : i = N := by omega
    exact k s₂ hs₂

/-- a walk over a range, by the turn's number -/
theorem iter_rangeI {prog : Program} {w : World} {A : Around} {E : Value → Shared → Prop} {s : Shared} {env : Env} {h₀ : Heap} {x : Str} {body : List Stmt} {Q : Flow → Shared → Prop}
    {r : Addr} {a b c : Int} {t u v : Tok} {n : Nat} {m₀ : Str → Option Value} {news : List (Addr × Obj)} (J : Nat → (Str → Option Value) → Prop)
    (hh : A.handled = none) (hr : IsRange s.heap r a b c t u v) (hsmall : Builtin.Range.small a b c = true) (hn : Builtin.Range.rangeSize a b c = (n : Int)) (F : Fr h₀ env.locals s.heap m₀) (N : News h₀ env.locals s.heap news) (hj : J 0 m₀)
    (turn : ∀ i t m₁ h tk own, i < n → J i m₁ → Fr h₀ env.locals h (fun y => if y = x then some (.int (a + i * c) t) else m₁ y) → News h₀ env.locals h (own ++ news) →
      wpAny (model prog w) A (execs body env) (InvPost h₀ env.locals (J (i + 1)) (own ++ news) { s with heap := h, toks := tk } Q) E { s with heap := h, toks := tk })
    (done : ∀ m₁ h tk, J n m₁ → Fr h₀ env.locals h m₁ → News h₀ env.locals h news → Q .next { s with heap := h, toks := tk }) :
    wpAny (model prog w) A (pyIter (.ref r)) (fun it s₂ => LoopAtV prog w A h₀ env x body Q E it s₂) E s := by
  refine wpAny_pyIter_range hr hsmall ?_
  have W := Walks.range (prog := prog) (w := w) hh s.heap.objs.size a c n
  let J' : Nat → (Str → Option Value) → List (Addr × Obj) → Prop := fun i m₁ news₁ => news₁ = news ∧ J i m₁
  refine ⟨_, _, _, n, _, _, m₀, news, J', rfl, W, ?_, ?_, ?_, ?_, F.push _, (fun p hp => ⟨Heap.get?_push_of_some _ (N p hp).1, (N p hp).2⟩), ⟨rfl, hj⟩, ?_, ?_⟩
  · intro hm
    exact absurd F.ns.lt ((List.mem_singleton.mp hm) ▸ Nat.lt_irrefl _)
  · intro b hb
    rw [List.mem_singleton.mp hb]
    exact next_is_new F
  · intro p hp hI
    exact absurd (Heap.lt_size (N p hp).1) ((List.mem_singleton.mp hI) ▸ Nat.lt_irrefl _)
  · show IsRangeIter _ _ _ _ _
    rw [hn]
    simpa using Heap.get?_push_size _ rfl
  · rintro i v m₁ news₁ s₁ own ⟨hh', tk', rfl⟩ hin hP ⟨rfl, hJ⟩ hoff _ _ _ _ F₁ N₁
    obtain ⟨t', rfl⟩ := hP
    refine wpAny_mono (turn i t' m₁ hh' tk' own hin hJ F₁ N₁) (fun f s₂ p => ?_) fun _ _ e => e
    have fin : InvEnd h₀ env.locals (J (i + 1)) (own ++ news₁) { s with heap := hh', toks := tk' } s₂ → LoopStepU h₀ env.locals [s.heap.objs.size] own (J' (i + 1)) { s with heap := hh', toks := tk' } .next s₂ := by
      rintro ⟨h', tk, m', news', e, F', N', hn, hm⟩
      exact ⟨rfl, h', tk, m', news₁, e, F', fun p hp => N' p (hn p hp), hoff, rfl, hm⟩
    cases f with
    | ret v => exact .ret p
    | brk => exact .brk p
    | next => exact .next (fin p)
    | cont => exact .cont (fin p)
  · rintro h' tk m' news' F' N' _ ⟨rfl, hJ⟩
    exact done m' h' tk hJ F' N'

theorem fBx_H {P : Pg} {A : Around} {env : Env} {h₀ : Heap} {news news' : List (Addr × Obj)} {s₀ s₀' : Shared} {σ : Sg} {s : Shared} (h : (fBx P A env h₀ news' s₀').H σ s) (hn : ∀ p ∈ news, p ∈ news') (h0 : ∃ h tk, s₀' = { s₀ with heap := h, toks := tk }) : (fBx P A env h₀ news s₀).H σ s := by
  obtain ⟨h', tk', rfl⟩ := h0
  obtain ⟨m, ⟨hh, tk, rfl, F, N⟩, f⟩ := h
  exact ⟨m, ⟨hh, tk, rfl, F, fun p hp => N p (hn p hp)⟩, f⟩

/-- a for over range(a, b), by states in a row -/
theorem for_ok {P : Pg} {k : Nat} {A : Around} {env : Env} {h₀ : Heap} {news : List (Addr × Obj)} {s₀ : Shared} {O : Orc} (G : Gd P k A env h₀) (hO : ∀ news s₀, O.OkS (fBx P A env h₀ news s₀))
    (hrg : nsIn P.K mainGlobals "range" = some none) (hrx : env.kindOf "range" = some .globalImplicit)
    {x : Str} (hx : O.ls.any (same x) = true) {e₁ e₂ : Expr} (hns : noStar e₁ = true ∧ noStar e₂ = true) {a b : Int} (ha : -(2 ^ 62) ≤ a) (ha' : a < 2 ^ 62) (hb : -(2 ^ 62) ≤ b) (hb' : b < 2 ^ 62) {o₁ o₂ : Ob} {n : Nat} {body : List Stmt} {px pr pc pos : Pos} (S : Nat → Sg)
    (h₁ : ev O n (S 0) e₁ = some (o₁, .int a)) (hk₁ : o₁.ok) (h₂ : ev O n (S 0) e₂ = some (o₂, .int b)) (hk₂ : o₂.ok)
    (hbd : ∀ i : Nat, i < (b - a).toNat → ∃ o σ', runB O n (put x (.int (a + i)) (S i)) body = some (o, σ') ∧ o.ok ∧ ∀ news s₀ s, (fBx P A env h₀ news s₀).H σ' s → (fBx P A env h₀ news s₀).H (S (i + 1)) s)
    {s : Shared} {Q : Flow → Shared → Prop} (hs : (fBx P A env h₀ news s₀).H (S 0) s) (kk : ∀ s', (fBx P A env h₀ news s₀).H (S (b - a).toNat) s' → Q .next s') :
    (fBx P A env h₀ news s₀).run (exec (.For (.Name x px) (.Call (.Name "range" pr) [e₁, e₂] [] pc) body [] pos) env) Q s := by
  have hO₀ := hO news s₀
  refine For_invV h₀ ((hO₀.loc x hx).1) (by rw [G.kind]; rfl) ?_ (by intro y; rfl) PassesOwn.never
  have hs' := hs
  obtain ⟨m, ⟨h, tk, rfl, F, N₀⟩, fm⟩ := hs'
  have T := topRead_of G.T
  refine Call_ ?_ (by with_unfolding_all rfl)
  refine Calls.Name_function_global G.kind hrx (Calls.loadGlobal_builtin (by rw [G.gl]; exact T.g.keeps F.keep) (mg_none_of G.X T.g hrg) (by rw [G.bi]; exact T.b.keeps F.keep) ((T.builtins "range" (by decide)).trans boot_range) ?_) (by decide)
  refine PyProof.Rows.callWith_type1 ?_ (star_cons hns.1) (plain_star (by rw [List.all_cons, hns.2]; rfl))
  refine args_cons (ev_ok hO₀.toOk n _ e₁ o₁ _ h₁ hk₁ _ _ hs fun u₁ s₁ hs₁ hu₁ => args_cons (ev_ok hO₀.toOk n _ e₂ o₂ _ h₂ hk₂ _ _ hs₁ fun u₂ s₂ hs₂ hu₂ => args_nil ?_) (star_cons hns.2)) (star_cons hns.1)
  obtain ⟨t₁, rfl⟩ := hu₁
  obtain ⟨t₂, rfl⟩ := hu₂
  obtain ⟨m₂, ⟨h₂', tk₂, rfl, F₂, N₂⟩, f₂⟩ := hs₂
  refine range2_rows F₂ N₂ fun h₃ tk₃ t₃ u₃ v₃ hr F₃ N₃ _ => ?_
  refine iter_rangeI (x := x) (fun i m₁ => Fits (S i) m₁) G.calm hr (small_one ha ha' hb hb') (rangeSize_nat a b) F₃ N₃ f₂ ?_ ?_
  · intro i t m₁ h₄ tk₄ own hi f₄ F₄ N₄
    obtain ⟨o, σ', hr', ho, hn⟩ := hbd i hi
    have e1 : a + (i : Int) * 1 = a + i := by omega
    rw [e1] at F₄
    refine wpAny_mono (runB_ok (hO (own ++ news) s₀) hr' ho ⟨_, ⟨h₄, tk₄, rfl, F₄, N₄⟩, ?_⟩ (Q := InvPost h₀ env.locals (fun m₁ => Fits (S (i + 1)) m₁) (own ++ news) { s₀ with heap := h₄, toks := tk₄ } Q) fun s' hs' => ?_) (fun _ _ x => x) fun _ _ x => x
    · intro y w hw hwa
      rw [look_put] at hw
      cases e : same x y with
      | true =>
        rw [e] at hw
        have := same_iff.mp e
        subst this
        cases hw
        exact ⟨_, if_pos rfl, t, rfl⟩
      | false =>
        rw [e] at hw
        have ne : y ≠ x := fun q => by rw [q, same_iff.mpr rfl] at e; cases e
        obtain ⟨u, hu, hi'⟩ := f₄ y w hw hwa
        exact ⟨u, (if_neg ne).trans hu, hi'⟩
    · obtain ⟨m₅, ⟨h₅, tk₅, rfl, F₅, N₅⟩, f₅⟩ := hn _ _ _ hs'
      exact ⟨h₅, tk₅, m₅, _, rfl, F₅, N₅, fun p hp => hp, f₅⟩
  · intro m₁ h₄ tk₄ f₄ F₄ N₄
    exact kk _ ⟨m₁, ⟨h₄, tk₄, rfl, F₄, N₄⟩, f₄⟩

end Mine

namespace Mine
open PySem PySem.W PyProof.Rows PyProof.Rows.LCg PyProof.Rows.LCt

/-- the box of a comprehension's own names, in a def's frame -/
def cBx (P : Pg) (A : Around) (fenv cenv : Env) (h₀ : Heap) (m : Str → Option Value) (news : List (Addr × Obj)) (s₀ : Shared) (oC : Obj) (m₂ : Str → Option Value) (hm : (cenv.locals, oC) ∈ news) (hC : NsObj oC m₂) : Bx where
  P := P
  A := A
  env := cenv
  H₀ := fun mm s => mm = m₂ ∧ ∃ h tk, s = { s₀ with heap := h, toks := tk } ∧ Fr h₀ fenv.locals h m ∧ News h₀ fenv.locals h news
  toks := by
    rintro mm s tk ⟨rfl, h, tk', rfl, F, N⟩
    exact ⟨rfl, h, tk, rfl, F, N⟩
  ns := by
    rintro mm s ⟨rfl, h, tk', rfl, F, N⟩
    exact hC.ns (N _ hm).1

theorem cBx_on {P : Pg} {A : Around} {fenv cenv : Env} {h₀ : Heap} {m : Str → Option Value} {news : List (Addr × Obj)} {s₀ : Shared} {oC : Obj} {m₂ : Str → Option Value} {hm : (cenv.locals, oC) ∈ news} {hC : NsObj oC m₂} :
    (cBx P A fenv cenv h₀ m news s₀ oC m₂ hm hC).On fenv h₀ news s₀ := by
  rintro mm s ⟨rfl, h, tk', rfl, F, N⟩
  exact ⟨h, tk', m, rfl, F, N, fun h' tk' F' N' => ⟨rfl, h', tk', rfl, F', N'⟩⟩

structure Src (P : Pg) (A : Around) (I : Addr) (n : Nat) (Pv : Nat → Value → Prop) (St : Nat → Heap → Prop) : Prop where
  W : Walks P.prog P.w A I [I] [I] n Pv St
  ex : ∀ i h, St i h → ∃ o, h.get? I = some o

/-- [x for x in .. if test] != [] -/
theorem comp_ok {P : Pg} {k : Nat} {A : Around} {fenv : Env} {h₀ : Heap} {news : List (Addr × Obj)} {s₀ : Shared} (G : Gd P k A fenv h₀) {σ : Sg} {ob : Ob} {iter ct : Expr} {x : Str} {px pe pos lp cp : Pos} {scope : Scope} {cl : List (Str × Addr)} {n : Nat} {iv : Nat → V} {pz : Nat → Bool} {O' : Orc} {nf : Nat}
    (hclos : closureFor scope fenv = pure cl) (hcell : ∀ y ∈ scope.names, y.2 ≠ .cell) (hkind : scope.kind = .function)
    (hnames : ∀ y ∈ scope.names, y.2 = .local → scope.names.lookup y.1 = some .local) (hx : scope.names.lookup x = some .local) (hxd : (x == ("__debug__" : Str)) = false) (hs : ∀ x, foldedSetIterable iter fenv x = pure x) (hn : n ≤ sizeLine)
    (src : ob.ok → ∀ s (Q : Value → Shared → Prop), (fBx P A fenv h₀ news s₀).H σ s →
      (∀ I o Pv St s₁, Src P A I n Pv St → (∀ i v, i < n → Pv i v → (iv i).is v ∧ iv i ≠ .any) → (fBx P A fenv h₀ news s₀).H σ s₁ → I = s₁.heap.objs.size → St 0 (s₁.heap.push o) → Q (.ref I) { s₁ with heap := s₁.heap.push o }) →
      (fBx P A fenv h₀ news s₀).run (eval iter fenv) (fun xv s₁ => wpAny (model P.prog P.w) A (pyIter xv) Q (fun _ _ => False) s₁) s)
    (test : ob.ok → ∀ i, i < n → ∃ o, tr O' nf [(x, iv i)] ct = some (o, pz i) ∧ o.ok)
    (hO' : ∀ C oC m m₂ news₂ s₃ (hm : (C, oC) ∈ news₂) (hC : NsObj oC m₂), (∀ p ∈ news, p ∈ news₂) → O'.Ok (cBx P A fenv (compEnvC scope cl C fenv) h₀ m news₂ s₃ oC m₂ hm hC)) :
    (fBx P A fenv h₀ news s₀).EvOk σ (.Compare (.ListComp (.Name x pe) [⟨.Name x px, iter, [ct], 0⟩] scope pos) [.NotEq] [.List [] lp] cp) ob (.bol ((List.range n).any pz)) := by
  intro hob s Q hs₀ hQ
  refine wpAny_Compare1 ?_ rfl
  show wpAny _ _ (eval (.ListComp (.Name x pe) [⟨.Name x px, iter, [ct], 0⟩] scope pos) fenv) _ _ s
  rw [eval_ListComp]
  refine wpAny_comprehension_free (use := none) rfl hs hclos hkind hnames (src hob s _ hs₀ ?_)
  intro I o Pv St s₁ S item hs₁ hI hst
  obtain ⟨m, ⟨h₁, tk₁, rfl, F, N⟩, fm⟩ := hs₁
  dsimp only at hI hst ⊢
  have hIs : I < (h₁.push o).objs.size := by rw [hI, Heap.size_push]; exact Nat.lt_succ_self _
  have hFL : fenv.locals ≠ I := by rw [hI]; exact Nat.ne_of_lt F.ns.lt
  have hI₀ : h₀.get? I = none := by rw [hI]; exact next_is_new F
  have off : ∀ p ∈ news, p.1 ≠ I := fun p hp => by rw [hI]; exact Nat.ne_of_lt (Heap.lt_size (N p hp).1)
  have hFin : ∀ ys : List Value, (ys = [] ↔ (List.range n).any pz = false) → FinE h₀ fenv.locals m { s₀ with heap := h₁.push o, toks := tk₁ } (fun v s' => wpAny (model P.prog P.w) A (eval (.List [] lp) fenv) (fun b s₂ => wpAny (model P.prog P.w) A (compareOp .NotEq v b) Q (fun _ _ => False) s₂) (fun _ _ => False) s') ys news := by
    intro ys hys D h tk F' N' _
    refine List_ (Calls.spliced_nil (newList_N F' N' (fun h' F'' N'' => ?_) (Nat.zero_le _)))
    have h1 : h'.IsList D ys.toArray := ⟨_, (N'' _ (List.mem_cons_of_mem _ (.head _))).1, rfl, _, rfl⟩
    have h2 : h'.IsList h.objs.size ([] : List Value).toArray := ⟨_, (N'' _ (.head _)).1, rfl, _, rfl⟩
    have fin : ∀ b, b = (List.range n).any pz → Q (.bool b) { s₀ with heap := h', toks := tk } := fun b hb => hQ _ _ ⟨m, ⟨h', tk, rfl, F'', fun p hp => N'' p (List.mem_cons_of_mem _ (List.mem_cons_of_mem _ hp))⟩, fm⟩ (by rw [hb]; rfl)
    have hu : A.units < cLine := by have := G.units; omega
    by_cases hy : ys = []
    · subst hy
      refine PySem.SeqAt.RcNeAt.lists (e := fun _ => true) h1 h2 rfl hu (fun j h1 => by simp at h1) P.prog P.w _ _ (fin _ ?_)
      rw [hys.mp rfl]; rfl
    · refine PySem.SeqAt.RcNeAt.lists_lengths h1 h2 ?_ hu P.prog P.w _ _ (fin _ ?_)
      · cases ys with
        | nil => exact absurd rfl hy
        | cons a r => simp
      · cases e : (List.range n).any pz with
        | true => rfl
        | false => exact absurd (hys.mpr e) hy
  have key : ∀ (j i : Nat) (ys : List Value), i + j = n → (ys = [] ↔ (List.range i).any pz = false) →
      CompRestT P.prog P.w A h₀ fenv.locals m fenv ct (.Name x pe) x scope cl { s₀ with heap := h₁.push o, toks := tk₁ } (fun _ => True) Pv (FinE h₀ fenv.locals m { s₀ with heap := h₁.push o, toks := tk₁ } (fun v s' => wpAny (model P.prog P.w) A (eval (.List [] lp) fenv) (fun b s₂ => wpAny (model P.prog P.w) A (compareOp .NotEq v b) Q (fun _ _ => False) s₂) (fun _ _ => False) s')) j i ys news := by
    intro j
    induction j with
    | zero =>
      intro i ys hi hy
      have e : i = n := by omega
      subst e
      exact CompRestT.zero (hFin ys hy)
    | succ j ih =>
      intro i ys hi hy
      refine CompRestT.succ ?_
      intro v I' oI C oC D m₂ h tk E' hv hC hx' F' N' off' ne
      have hin : i < n := by omega
      obtain ⟨ob', htr, hob'⟩ := test hob i hin
      have hmem : (C, oC) ∈ (I', oI) :: (C, oC) :: (D, lst ys) :: news := List.mem_cons_of_mem _ (.head _)
      have hO := hO' C oC m m₂ _ { s₀ with heap := h₁.push o, toks := tk₁ } hmem hC fun p hp => List.mem_cons_of_mem _ (List.mem_cons_of_mem _ (List.mem_cons_of_mem _ hp))
      have hsum : (List.range (i + 1)).any pz = ((List.range i).any pz || pz i) := by rw [List.range_succ, List.any_append]; simp
      refine wpAny_mono (tr_ok hO nf _ ct ob' (pz i) htr hob' { s₀ with heap := h, toks := tk } _ ⟨m₂, ⟨rfl, h, tk, rfl, F', N'⟩, ?_⟩ fun s₂ hs₂ => ?_) (fun _ _ x => x) fun _ _ x => x.elim
      · intro y w hw hwa
        unfold look at hw
        cases e : same x y with
        | true =>
          rw [e] at hw
          have := same_iff.mp e
          subst this
          cases hw
          exact ⟨v, hx', (item i v hin hv).1⟩
        | false => rw [e] at hw; cases hw
      · obtain ⟨mm, ⟨rfl, h₂, tk₂, rfl, F₂, N₂⟩, _⟩ := hs₂
        cases hp : pz i with
        | true =>
          rw [if_pos rfl]
          have hl : (compEnvC scope cl C fenv).kindOf x = some .local := lookup_relabel_local hx
          refine wpAny_Name (wpAny_loadName_local (by simp [compEnvC, relabel, hkind]) hl (hC.ns (N₂ _ hmem).1) hx' ?_) hxd
          exact ⟨h₂, tk₂, news, rfl, F₂, N₂, off', trivial, ih (i + 1) _ (by omega) (by rw [hsum, hp]; simp)⟩
        | false =>
          rw [if_neg (by decide)]
          exact ⟨h₂, tk₂, news, rfl, F₂, N₂, off', trivial, ih (i + 1) _ (by omega) (by rw [hsum, hp, Bool.or_false]; exact hy)⟩
  refine block_T S.W hn S.ex (fun i h h' o' nw st e e' _ _ _ => S.W.frame i h h' st fun b hb ob hob => by rw [List.mem_singleton.mp hb] at hob ⊢; rw [e] at hob; exact e'.trans hob) hcell hkind hx hst (fun b hb => by rw [List.mem_singleton.mp hb]; exact hIs)
    (F.push o) (fun p hp => ⟨Heap.get?_push_of_some _ (N p hp).1, (N p hp).2⟩) hFL hI₀ off trivial (key n 0 [] (by omega) (by simp)) ?_
  intro D C h tk m' ys news' F' N' o1 hn hC₀ hD₀ hCL hDL hCD offC fin
  refine ⟨m', hn, fun h'' hs'' => fin D h'' tk (F'.change hs'' hCL hC₀) (fun p hp => ?_) o1⟩
  refine ⟨hs''.extBut _ _ ?_ (N' p hp).1, (N' p hp).2⟩
  rcases List.mem_cons.mp hp with rfl | hp
  · exact Ne.symm hCD
  · exact offC p hp

def sign (y : Str) (i : Nat) : Str := ⟨#[(y.cps[i]?).getD 0]⟩

/-- the signs of a text as a source -/
theorem src_str {P : Pg} {k : Nat} {A : Around} {fenv : Env} {h₀ : Heap} {news : List (Addr × Obj)} {s₀ : Shared} (G : Gd P k A fenv h₀) {σ : Sg} {ob : Ob} {iter : Expr} {y : Str} (h : (fBx P A fenv h₀ news s₀).EvOk σ iter ob (.txt y)) :
    ob.ok → ∀ s (Q : Value → Shared → Prop), (fBx P A fenv h₀ news s₀).H σ s →
      (∀ I o Pv St s₁, Src P A I y.cps.size Pv St → (∀ i v, i < y.cps.size → Pv i v → (V.txt (sign y i)).is v ∧ V.txt (sign y i) ≠ .any) → (fBx P A fenv h₀ news s₀).H σ s₁ → I = s₁.heap.objs.size → St 0 (s₁.heap.push o) → Q (.ref I) { s₁ with heap := s₁.heap.push o }) →
      (fBx P A fenv h₀ news s₀).run (eval iter fenv) (fun xv s₁ => wpAny (model P.prog P.w) A (pyIter xv) Q (fun _ _ => False) s₁) s := by
  intro hob s Q hs hQ
  refine h hob s _ hs fun u s₁ hs₁ hu => ?_
  obtain ⟨t, rfl⟩ := hu
  have item : ∀ i v, i < y.cps.size → SignAt y i v → (V.txt (sign y i)).is v ∧ V.txt (sign y i) ≠ .any := by
    rintro i v hi ⟨c, u, hc, rfl⟩
    exact ⟨⟨u, by unfold sign; rw [hc]; rfl⟩, by intro q; cases q⟩
  cases ha : y.cps.all (· < 128)
  · exact wpAny_pyIter_wide ha (hQ _ _ _ _ s₁ ⟨Walks.strWide G.calm _ y t, fun i h st => let ⟨o, ho, _⟩ := st; ⟨o, ho⟩⟩ item hs₁ rfl ⟨_, Heap.get?_push_size _ rfl, rfl, rfl⟩)
  · exact wpAny_pyIter_ascii ha (hQ _ _ _ _ s₁ ⟨Walks.strAscii G.calm _ y t, fun i h st => let ⟨o, ho, _⟩ := st; ⟨o, ho⟩⟩ item hs₁ rfl ⟨_, Heap.get?_push_size _ rfl, rfl, rfl⟩)

/-- range(a, b) as a source -/
theorem src_range {P : Pg} {k : Nat} {A : Around} {fenv : Env} {h₀ : Heap} {news : List (Addr × Obj)} {s₀ : Shared} (G : Gd P k A fenv h₀) {σ : Sg}
    (hrg : nsIn P.K mainGlobals "range" = some none) (hrx : fenv.kindOf "range" = some .globalImplicit) {e₁ e₂ : Expr} (hns : noStar e₁ = true ∧ noStar e₂ = true) {a b : Int} (ha : -(2 ^ 62) ≤ a) (ha' : a < 2 ^ 62) (hb : -(2 ^ 62) ≤ b) (hb' : b < 2 ^ 62) {o₁ o₂ : Ob} {pr pc : Pos}
    (h₁ : (fBx P A fenv h₀ news s₀).EvOk σ e₁ o₁ (.int a)) (h₂ : (fBx P A fenv h₀ news s₀).EvOk σ e₂ o₂ (.int b)) :
    (o₁.two o₂).ok → ∀ s (Q : Value → Shared → Prop), (fBx P A fenv h₀ news s₀).H σ s →
      (∀ I o Pv St s₁, Src P A I (b - a).toNat Pv St → (∀ i v, i < (b - a).toNat → Pv i v → (V.int (a + (i : Int))).is v ∧ V.int (a + (i : Int)) ≠ .any) → (fBx P A fenv h₀ news s₀).H σ s₁ → I = s₁.heap.objs.size → St 0 (s₁.heap.push o) → Q (.ref I) { s₁ with heap := s₁.heap.push o }) →
      (fBx P A fenv h₀ news s₀).run (eval (.Call (.Name "range" pr) [e₁, e₂] [] pc) fenv) (fun xv s₁ => wpAny (model P.prog P.w) A (pyIter xv) Q (fun _ _ => False) s₁) s := by
  intro hob s Q hs hQ
  obtain ⟨hk₁, hk₂⟩ := Ob.two_ok hob
  have hs' := hs
  obtain ⟨m, ⟨h, tk, rfl, F, N₀⟩, fm⟩ := hs'
  have T := topRead_of G.T
  refine Call_ ?_ (by with_unfolding_all rfl)
  refine Calls.Name_function_global G.kind hrx (Calls.loadGlobal_builtin (by rw [G.gl]; exact T.g.keeps F.keep) (mg_none_of G.X T.g hrg) (by rw [G.bi]; exact T.b.keeps F.keep) ((T.builtins "range" (by decide)).trans boot_range) ?_) (by decide)
  refine PyProof.Rows.callWith_type1 ?_ (star_cons hns.1) (plain_star (by rw [List.all_cons, hns.2]; rfl))
  refine args_cons (h₁ hk₁ _ _ hs fun u₁ s₁ hs₁ hu₁ => args_cons (h₂ hk₂ _ _ hs₁ fun u₂ s₂ hs₂ hu₂ => args_nil ?_) (star_cons hns.2)) (star_cons hns.1)
  obtain ⟨t₁, rfl⟩ := hu₁
  obtain ⟨t₂, rfl⟩ := hu₂
  obtain ⟨m₂, ⟨h₂', tk₂, rfl, F₂, N₂⟩, f₂⟩ := hs₂
  refine range2_rows F₂ N₂ fun h₃ tk₃ t₃ u₃ v₃ hr F₃ N₃ _ => ?_
  refine wpAny_pyIter_range hr (small_one ha ha' hb hb') ?_
  refine hQ _ _ _ _ { s₀ with heap := h₃, toks := tk₃ } ⟨Walks.range G.calm _ a 1 (b - a).toNat, fun i h st => ⟨_, st⟩⟩ ?_ ⟨m₂, ⟨h₃, tk₃, rfl, F₃, N₃⟩, f₂⟩ rfl ?_
  · rintro i v hi ⟨t, rfl⟩
    exact ⟨⟨t, by rw [Int.mul_one]⟩, by intro q; cases q⟩
  · show IsRangeIter _ _ _ _ _
    rw [rangeSize_nat]
    simpa using Heap.get?_push_size _ rfl

end Mine

namespace Mine
open PySem PySem.W PyProof.Rows

/-! the text's defs, read off the row -/
def dfOf (x : Str) : List Stmt → Option (Arguments × List Stmt × Scope)
  | [] => none
  | .FunctionDef n a b _ _ _ s _ _ _ :: r => bif same n x then some (a, b, s) else dfOf x r
  | _ :: r => dfOf x r
def clOf (x : Str) : List Stmt → List Stmt
  | [] => []
  | .ClassDef n _ _ b _ _ _ _ _ _ _ :: r => bif same n x then b else clOf x r
  | _ :: r => clOf x r
def bdOf : Option (Arguments × List Stmt × Scope) → List Stmt
  | some (_, b, _) => b
  | none => []
def nth : List Stmt → Nat → Stmt
  | [], _ => .Pass default
  | st :: _, 0 => st
  | _ :: r, n + 1 => nth r n
def inB : Stmt → List Stmt
  | .While _ b _ _ => b
  | .For _ _ b _ _ => b
  | .If _ b _ _ => b
  | _ => []
def top : List Stmt := PySem.Challenge.pw_bd5033_02.main.body

def lawWhite : Str := ⟨#[0, 32, 9, 13, 10, 133, 8232, 8233]⟩
def lawBreaks : Str := ⟨#[10, 133, 8232, 8233]⟩

def behindF (x : Str) (k : Int) : Bool := decide ((x.length : Int) ≤ k + 1) || inPt (Txt.item x (k + 1)) lawWhite
def aheadF (x : Str) (k : Int) : Bool := k == 0 || inPt (Txt.item x (k - 1)) lawWhite
def specialF (x : Str) (wide far : Bool) : Bool :=
  bif x == ⟨#[10]⟩ || lePt ⟨#[32]⟩ x && lePt x ⟨#[126]⟩ then false
  else bif x == ⟨#[65279]⟩ || !(x == ⟨#[133]⟩ || (lePt ⟨#[160]⟩ x && lePt x ⟨#[55295]⟩ || (lePt ⟨#[57344]⟩ x && lePt x ⟨#[65533]⟩ || far && lePt ⟨#[65536]⟩ x))) then true else !wide

def gF (gs : List Str) (x : Str) : Option V :=
  bif gs.any (same x) then (bif same x "_law_white" then some (.txt lawWhite) else bif same x "_law_breaks" then some (.txt lawBreaks) else none) else none
def cF (gs : List Str) (f : Str) (vs : List V) : Option (Ob × V) :=
  bif gs.any (same f) then (match vs with
    | [.txt x] => bif same f "len" then some (.p ((x.length : Int) < 4611686018427387904), .int (x.length : Int)) else none
    | [.txt x, .int k] => bif same f "_law_behind" then some (.p ((x.length : Int) < 4611686018427387904 ∧ 0 ≤ k + 1), .bol (behindF x k))
      else bif same f "_law_ahead" then some (.p ((x.length : Int) < 4611686018427387904 ∧ 0 ≤ k ∧ k ≤ (x.length : Int)), .bol (aheadF x k)) else none
    | [.txt x, .bol w, .bol r] => bif same f "_law_special" then some (.t, .bol (specialF x w r)) else none
    | _ => none) else none
/-- text[:n] -/
def eF (ls : List Str) (σ : Sg) : Expr → Option (Ob × V)
  | .Subscript (.Name y _) (.Slice none (some (.Constant (.int k) _ _)) none _) _ => bif ls.any (same y) then (match look σ y with
    | some (.txt x) => some (.p (x.length ≤ 16777216), .txt (Txt.slice x none (some k)))
    | _ => none) else none
  | _ => none
def mkO (ls gs : List Str) : Orc := ⟨ls, gF gs, cF gs, eF ls, fun _ _ => none, fun _ _ => none⟩


/-- a def of the top, as the row has it -/
structure DefAt (P : Pg) (x : Str) (d : Option (Arguments × List Stmt × Scope)) (a : Addr) : Prop where
  glob : nsIn P.K mainGlobals x = some (some (.ref a))
  keep : keepIn P.K (.ref a) = true
  fn : ∃ oc od osl name qual params body scope doc pm an cdv ct, P.K.lookup a = some ⟨oc, od, .func (fnOf name qual params body scope .none .none doc pm an cdv ct), osl⟩ ∧ codeIn P.K cdv qual = true ∧ d = some (params, body, scope)

structure Facts (P : Pg) where
  len : nsIn P.K mainGlobals "len" = some none
  range : nsIn P.K mainGlobals "range" = some none
  wt : Tok
  white : nsIn P.K mainGlobals "_law_white" = some (some (.str lawWhite wt))
  bt : Tok
  breaks : nsIn P.K mainGlobals "_law_breaks" = some (some (.str lawBreaks bt))
  aBehind : Addr
  behind : DefAt P "_law_behind" (dfOf "_law_behind" top) aBehind
  aAhead : Addr
  ahead : DefAt P "_law_ahead" (dfOf "_law_ahead" top) aAhead
  aSpecial : Addr
  special : DefAt P "_law_special" (dfOf "_law_special" top) aSpecial
  aSigns : Addr
  signs : DefAt P "_law_signs" (dfOf "_law_signs" top) aSigns
  aReading : Addr
  reading : DefAt P "_law_reading" (dfOf "_law_reading" top) aReading

/-- the contracts that a caller may use -/
structure Ct (P : Pg) (X : Facts P) (k : Nat) : Prop where
  behind : ∀ x i us, AllIs [.txt x, .int i] us → ((x.length : Int) < 4611686018427387904 ∧ 0 ≤ i + 1) → CallOk P X.aBehind us k (V.bol (behindF x i)).is
  ahead : ∀ x i us, AllIs [.txt x, .int i] us → ((x.length : Int) < 4611686018427387904 ∧ 0 ≤ i ∧ i ≤ (x.length : Int)) → CallOk P X.aAhead us k (V.bol (aheadF x i)).is
  special : ∀ x w r us, AllIs [.txt x, .bol w, .bol r] us → CallOk P X.aSpecial us k (V.bol (specialF x w r)).is

theorem any_same {l : List Str} {x : Str} (h : l.any (same x) = true) : x ∈ l := by
  obtain ⟨y, hy, e⟩ := List.any_eq_true.mp h
  rw [same_iff.mp e]; exact hy

theorem notDebug {gs : List Str} (h : ∀ x ∈ gs, (x == ("__debug__" : Str)) = false) {x : Str} (hx : gs.any (same x) = true) : (x == ("__debug__" : Str)) = false := h x (any_same hx)

/-- the helpers of every def here are sound where the frame knows the names -/
theorem mkO_ok {B : Bx} (X : Facts B.P) {k : Nat} {fenv : Env} {h₀ : Heap} {news : List (Addr × Obj)} {s₀ : Shared} (on : B.On fenv h₀ news s₀) (G : Gd B.P k B.A fenv h₀) (hk : B.env.scope.kind = .function) (hg : B.env.globals = mainGlobals) (hbi : B.env.builtins = builtinsNs)
    {ls gs : List Str} (hls : ∀ x ∈ ls, B.env.kindOf x = some .local ∧ (x == ("__debug__" : Str)) = false) (hgs : ∀ x ∈ gs, B.env.kindOf x = some .globalImplicit ∧ (x == ("__debug__" : Str)) = false)
    (hc : Ct B.P X k ∨ (gs.any (same "_law_behind") = false ∧ gs.any (same "_law_ahead") = false ∧ gs.any (same "_law_special") = false)) : (mkO ls gs).Ok B where
  hk := hk
  loc := fun x hx => hls x (any_same hx)
  g := by
    intro σ x v pos h
    unfold mkO gF at h
    dsimp only at h
    cases hx : gs.any (same x) with
    | false => rw [hx] at h; cases h
    | true =>
      rw [hx] at h
      simp only [cond_true] at h
      obtain ⟨h1, h2⟩ := hgs x (any_same hx)
      cases e : same x "_law_white" with
      | true =>
        rw [e] at h
        have := same_iff.mp e
        subst this
        cases h
        exact gname_ok (v := .txt lawWhite) on G hk hg X.white h1 h2 ⟨_, rfl⟩
      | false =>
        rw [e] at h
        simp only [cond_false] at h
        cases e' : same x "_law_breaks" with
        | true =>
          rw [e'] at h
          have := same_iff.mp e'
          subst this
          cases h
          exact gname_ok (v := .txt lawBreaks) on G hk hg X.breaks h1 h2 ⟨_, rfl⟩
        | false => rw [e'] at h; cases h
  c := by
    intro f vs ob v h σ es o₁ pf pos hes hns hne
    unfold mkO cF at h
    dsimp only at h
    cases hx : gs.any (same f) with
    | false => rw [hx] at h; cases h
    | true =>
      rw [hx] at h
      simp only [cond_true] at h
      obtain ⟨h1, h2⟩ := hgs f (any_same hx)
      split at h
      · rename_i x
        cases e : same f "len" with
        | false => rw [e] at h; cases h
        | true =>
          rw [e] at h
          have := same_iff.mp e
          subst this
          cases h
          exact len_ok on G hk hg hbi X.len h1 hes hns (fun q => by cases hne q)
      · rename_i x i
        cases e : same f "_law_behind" with
        | true =>
          rw [e] at h
          have := same_iff.mp e
          subst this
          cases h
          rcases hc with C | C
          · exact gcall_ok (ob := .p _) on G hk hg X.behind.glob h1 h2 X.behind.keep (fun ho us hus => C.behind x i us hus ho) hes hns (fun q => by cases hne q)
          · rw [C.1] at hx; cases hx
        | false =>
          rw [e] at h
          simp only [cond_false] at h
          cases e' : same f "_law_ahead" with
          | true =>
            rw [e'] at h
            have := same_iff.mp e'
            subst this
            cases h
            rcases hc with C | C
            · exact gcall_ok (ob := .p _) on G hk hg X.ahead.glob h1 h2 X.ahead.keep (fun ho us hus => C.ahead x i us hus ho) hes hns (fun q => by cases hne q)
            · rw [C.2.1] at hx; cases hx
          | false => rw [e'] at h; cases h
      · rename_i x w r
        cases e : same f "_law_special" with
        | false => rw [e] at h; cases h
        | true =>
          rw [e] at h
          have := same_iff.mp e
          subst this
          cases h
          rcases hc with C | C
          · exact gcall_ok on G hk hg X.special.glob h1 h2 X.special.keep (fun _ us hus => C.special x w r us hus) hes hns (fun q => by cases hne q)
          · rw [C.2.2] at hx; cases hx
      · cases h
  e := by
    intro σ e ob v h
    unfold mkO eF at h
    dsimp only at h
    split at h
    · rename_i y py k kk pk ps pos
      cases hy : ls.any (same y) with
      | false => rw [hy] at h; cases h
      | true =>
        rw [hy] at h
        simp only [cond_true] at h
        split at h
        · rename_i x hx
          cases h
          intro hob s Q hs hQ
          obtain ⟨m, hm, fm⟩ := hs
          obtain ⟨u, hu, t, rfl⟩ := fm y _ hx (by intro q; cases q)
          obtain ⟨h1, h2⟩ := hls y (any_same hy)
          refine Subscript_ (wpAny_Name (wpAny_loadName_local hk h1 (B.ns m s hm) hu (wpAny_Slice (wpAny_pure (wpAny_Constant_int (k := kk) (pos := pk) (wpAny_pure ?_))))) h2)
          obtain ⟨hh, tk, m', rfl, F, N, back⟩ := on m s hm
          refine slice_strN_ns (s := ⟨_, _, _, _, _⟩) F N (fun h' t' k' F' N' => hQ _ _ ⟨m, back h' k' F' N', fm⟩ ⟨_, rfl⟩) (by with_unfolding_all rfl) (by intro r; rfl) ?_
          have hob' : x.length ≤ 16777216 := hob
          rw [sizeLine_eq]; omega
        · cases h
    · cases h
  t := by
    intro σ e ob c h
    cases h

theorem mkO_okS {P : Pg} {A : Around} {env : Env} {h₀ : Heap} {news : List (Addr × Obj)} {s₀ : Shared} {ls gs : List Str} (h : (mkO ls gs).Ok (fBx P A env h₀ news s₀)) : (mkO ls gs).OkS (fBx P A env h₀ news s₀) where
  toOk := h
  st := fBx_st
  s := by
    intro σ st ob ch h
    cases h

end Mine

namespace Mine
open PySem PySem.W PyProof.Rows

theorem defAt_is {P : Pg} {x : Str} {d : Option (Arguments × List Stmt × Scope)} {a : Addr} (h : DefAt P x d a) {params : Arguments} {body : List Stmt} {scope : Scope} (e : d = some (params, body, scope)) :
    ∃ oc od osl name qual doc pm an cdv ct, P.K.lookup a = some ⟨oc, od, .func (fnOf name qual params body scope .none .none doc pm an cdv ct), osl⟩ ∧ codeIn P.K cdv qual = true := by
  obtain ⟨oc, od, osl, name, qual, params', body', scope', doc, pm, an, cdv, ct, h1, h2, h3⟩ := h.fn
  rw [e] at h3
  cases h3
  exact ⟨oc, od, osl, name, qual, doc, pm, an, cdv, ct, h1, h2⟩

/-- a def of the top whose body the executor takes to its return -/
theorem def_ok {P : Pg} {x : Str} {a : Addr} {params : Arguments} {body : List Stmt} {scope : Scope} {k : Nat} (h : DefAt P x (some (params, body, scope)) a) {ps : List Str} {vs : List V} {us : List Value} (hus : AllIs vs us)
    (hbind : ∀ s name qual doc pm an cdv ct, BindsTo s (fnOf name qual params body scope .none .none doc pm an cdv ct) ⟨us, []⟩ (ps.zip us)) (hloc : ps.all (fun x => decide (scope.names.lookup x = some .local)) = true)
    (hco : scope.isCoroutine = false) (hgen : scope.isGenerator = false) (hk : scope.kind = .function) (hcell : ∀ x ∈ scope.names, x.2 ≠ .cell) (hlen : ps.length = vs.length) (hnd : ps.Nodup)
    {ls gs : List Str} (hO : ∀ A L f qual cdv h₀ news s₀, Gd P k A (envOf qual scope L f cdv) h₀ → (mkO ls gs).OkS (fBx P A (envOf qual scope L f cdv) h₀ news s₀))
    {n : Nat} {ob : Ob} {v : V} {ch : Sg} (run : xsL (x1 (mkO ls gs) n) (ps.zip vs) body = some ⟨ob, .yes v, ch⟩) (hob : ob.ok) : CallOk P a us (k + 1) v.is := by
  obtain ⟨oc, od, osl, name, qual, doc, pm, an, cdv, ct, h1, h2⟩ := defAt_is h rfl
  refine CallOkN.plain (callOkN_of h1 h2 (fun s => hbind s _ _ _ _ _ _ _) (fun y hy => of_decide_eq_true (List.all_eq_true.mp hloc y.1 (List.of_mem_zip hy).1)) hco hgen hk hcell ?_)
  rintro A L h₀ news s₀ m G F N rfl
  refine xs_ok (hO A L a qual cdv h₀ news s₀ G) run hob s₀ _ ⟨_, ⟨s₀.heap, s₀.toks, rfl, F, N⟩, fits_zip hus hlen hnd⟩ ?_
  rintro fl s' ⟨u, rfl, hu, m', ⟨h', tk', rfl, F', N'⟩, _⟩
  exact ⟨u, [], rfl, ⟨rfl, hu⟩, h', tk', m', rfl, F', N'⟩

theorem fn_ok {P : Pg} (X : Facts P) {k : Nat} {A : Around} {L f : Addr} {qual : Str} {cdv : Value} {scope : Scope} {h₀ : Heap} {news : List (Addr × Obj)} {s₀ : Shared} (G : Gd P k A (envOf qual scope L f cdv) h₀)
    {ls gs : List Str} (hls : ∀ x ∈ ls, scope.names.lookup x = some .local ∧ (x == ("__debug__" : Str)) = false) (hgs : ∀ x ∈ gs, scope.names.lookup x = some .globalImplicit ∧ (x == ("__debug__" : Str)) = false)
    (hc : Ct P X k ∨ (gs.any (same "_law_behind") = false ∧ gs.any (same "_law_ahead") = false ∧ gs.any (same "_law_special") = false)) : (mkO ls gs).OkS (fBx P A (envOf qual scope L f cdv) h₀ news s₀) :=
  mkO_okS (mkO_ok (B := fBx P A (envOf qual scope L f cdv) h₀ news s₀) X fBx_on G G.kind rfl rfl hls hgs hc)

/-- the parts of a def -/
def paOf : Option (Arguments × List Stmt × Scope) → Arguments
  | some (a, _, _) => a
  | none => default
def scOf : Option (Arguments × List Stmt × Scope) → Scope
  | some (_, _, s) => s
  | none => default
theorem is_some_of {d : Option (Arguments × List Stmt × Scope)} (h : d.isSome = true) : d = some (paOf d, bdOf d, scOf d) := by
  cases d with
  | none => cases h
  | some d => rfl

theorem two_is {a b : V} {us : List Value} (h : AllIs [a, b] us) : ∃ u₁ u₂, us = [u₁, u₂] := by
  cases h with
  | cons h1 r => cases r with
    | cons h2 r => cases r; exact ⟨_, _, rfl⟩
theorem three_is {a b c : V} {us : List Value} (h : AllIs [a, b, c] us) : ∃ u₁ u₂ u₃, us = [u₁, u₂, u₃] := by
  cases h with
  | cons h1 r =>
    obtain ⟨u₂, u₃, rfl⟩ := two_is r
    exact ⟨_, _, _, rfl⟩

abbrev dBehind := dfOf "_law_behind" top
theorem len_of_local {names : List (Str × NameKind)} {ls : List Str} (h : ls.all (fun x => decide (names.lookup x = some .local ∧ (x == ("__debug__" : Str)) = false)) = true) : ∀ x ∈ ls, names.lookup x = some .local ∧ (x == ("__debug__" : Str)) = false :=
  fun x hx => of_decide_eq_true (List.all_eq_true.mp h x hx)
theorem len_of_global {names : List (Str × NameKind)} {ls : List Str} (h : ls.all (fun x => decide (names.lookup x = some .globalImplicit ∧ (x == ("__debug__" : Str)) = false)) = true) : ∀ x ∈ ls, names.lookup x = some .globalImplicit ∧ (x == ("__debug__" : Str)) = false :=
  fun x hx => of_decide_eq_true (List.all_eq_true.mp h x hx)

theorem behind_ok {P : Pg} (X : Facts P) (k : Nat) (x : Str) (i : Int) (us : List Value) (hus : AllIs [.txt x, .int i] us) (ho : (x.length : Int) < 4611686018427387904 ∧ 0 ≤ i + 1) : CallOk P X.aBehind us (k + 1) (V.bol (behindF x i)).is := by
  have hd := X.behind
  rw [is_some_of (d := dfOf "_law_behind" top) (by decide +kernel)] at hd
  obtain ⟨u₁, u₂, rfl⟩ := two_is hus
  refine def_ok hd (ps := ["text", "at"]) hus (fun s name qual doc pm an cdv ct => BindsTo.of_eq (by kernel_rfl!)) (by decide +kernel) (by decide +kernel) (by decide +kernel) (by decide +kernel) (by decide +kernel) rfl (by decide +kernel) (ls := ["text", "at"]) (gs := ["len", "_law_white"]) (n := 20)
    (fun A L f qual cdv h₀ news s₀ G => fn_ok X G (len_of_local (by decide +kernel)) (len_of_global (by decide +kernel)) (.inr (by decide +kernel)))
    (ob := .and (.p ((x.length : Int) < 4611686018427387904)) (.imp (!decide ((x.length : Int) ≤ i + 1)) (.p (0 ≤ i + 1 ∧ i + 1 < (x.length : Int) ∧ (x.length : Int) < 4611686018427387904)))) (ch := []) (by kernel_rfl!) ⟨ho.1, fun hc => ?_⟩
  simp only [Bool.not_eq_true', decide_eq_false_iff_not] at hc
  show _ ∧ _ ∧ _
  omega

theorem ahead_ok {P : Pg} (X : Facts P) (k : Nat) (x : Str) (i : Int) (us : List Value) (hus : AllIs [.txt x, .int i] us) (ho : (x.length : Int) < 4611686018427387904 ∧ 0 ≤ i ∧ i ≤ (x.length : Int)) : CallOk P X.aAhead us (k + 1) (V.bol (aheadF x i)).is := by
  have hd := X.ahead
  rw [is_some_of (d := dfOf "_law_ahead" top) (by decide +kernel)] at hd
  obtain ⟨u₁, u₂, rfl⟩ := two_is hus
  refine def_ok hd (ps := ["text", "at"]) hus (fun s name qual doc pm an cdv ct => BindsTo.of_eq (by kernel_rfl!)) (by decide +kernel) (by decide +kernel) (by decide +kernel) (by decide +kernel) (by decide +kernel) rfl (by decide +kernel) (ls := ["text", "at"]) (gs := ["_law_white"]) (n := 20)
    (fun A L f qual cdv h₀ news s₀ G => fn_ok X G (len_of_local (by decide +kernel)) (len_of_global (by decide +kernel)) (.inr (by decide +kernel)))
    (ob := .imp (!(i == 0)) (.p (0 ≤ i - 1 ∧ i - 1 < (x.length : Int) ∧ (x.length : Int) < 4611686018427387904))) (ch := []) (by kernel_rfl!) (fun hc => ?_)
  simp only [Bool.not_eq_true', beq_eq_false_iff_ne, ne_eq] at hc
  show _ ∧ _ ∧ _
  omega

theorem special_ok {P : Pg} (X : Facts P) (k : Nat) (x : Str) (w r : Bool) (us : List Value) (hus : AllIs [.txt x, .bol w, .bol r] us) : CallOk P X.aSpecial us (k + 1) (V.bol (specialF x w r)).is := by
  have hd := X.special
  rw [is_some_of (d := dfOf "_law_special" top) (by decide +kernel)] at hd
  obtain ⟨u₁, u₂, u₃, rfl⟩ := three_is hus
  exact def_ok hd (ps := ["sign", "wide", "far"]) hus (fun s name qual doc pm an cdv ct => BindsTo.of_eq (by kernel_rfl!)) (by decide +kernel) (by decide +kernel) (by decide +kernel) (by decide +kernel) (by decide +kernel) rfl (by decide +kernel) (ls := ["sign", "wide", "far", "inner"]) (gs := []) (n := 20)
    (fun A L f qual cdv h₀ news s₀ G => fn_ok X G (len_of_local (by decide +kernel)) (len_of_global (by decide +kernel)) (.inr (by decide +kernel)))
    (ob := .t) (ch := []) (by kernel_rfl!) trivial

theorem ct_ok {P : Pg} (X : Facts P) (k : Nat) : Ct P X (k + 1) := ⟨behind_ok X k, ahead_ok X k, special_ok X k⟩
end Mine

namespace Mine
open PySem PySem.W PyProof.Rows

def gotO : Option (Ob × Sg) → Ob
  | some r => r.1
  | none => .p False
def gotS : Option (Ob × Sg) → Sg
  | some r => r.2
  | none => []
theorem got_is {r : Option (Ob × Sg)} (h : r.isSome = true) : r = some (gotO r, gotS r) := by
  cases r with
  | none => cases h
  | some r => rfl
def Sub : Sg → Sg → Prop
  | [], _ => True
  | (x, v) :: r, σ => look σ x = some v ∧ Sub r σ
theorem Sub.look : ∀ {σ' σ : Sg}, Sub σ' σ → ∀ x v, look σ' x = some v → look σ x = some v
  | [], _, _, _, _, h => by cases h
  | (y, w) :: r, σ, hs, x, v, h => by
    unfold Mine.look at h
    cases e : same y x with
    | true =>
      rw [e] at h
      have := same_iff.mp e
      subst this
      cases h
      exact hs.1
    | false => rw [e] at h; exact Sub.look hs.2 x v h
theorem Bx.H.sub {B : Bx} {σ σ' : Sg} {s : Shared} (h : B.H σ s) (hs : Sub σ' σ) : B.H σ' s := h.less fun x v hv _ => hs.look x v hv

def leadLit : Str := ⟨#[35, 44, 91, 93, 123, 125, 38, 42, 33, 124, 62, 39, 34, 37, 64, 96]⟩
def flowLit : Str := ⟨#[44, 91, 93, 123, 125]⟩
def headF (x : Str) : Bool := Txt.slice x none (some 3) == ⟨#[45, 45, 45]⟩ || Txt.slice x none (some 3) == ⟨#[46, 46, 46]⟩
def sFlow0 (x : Str) (old : Bool) : Bool :=
  bif Txt.item x 0 == ⟨#[45]⟩ && behindF x 0 then true
  else bif Txt.item x 0 == ⟨#[63]⟩ || Txt.item x 0 == ⟨#[58]⟩ then (bif old || (x.length : Int) == 1 then true else bif inPt (Txt.item x 0) leadLit then true else bif headF x then true else false)
  else bif inPt (Txt.item x 0) leadLit then true else bif headF x then true else false
def sBlock0 (x : Str) : Bool :=
  bif Txt.item x 0 == ⟨#[45]⟩ && behindF x 0 then true
  else bif Txt.item x 0 == ⟨#[63]⟩ || Txt.item x 0 == ⟨#[58]⟩ then (bif behindF x 0 then true else bif inPt (Txt.item x 0) leadLit then true else bif headF x then true else false)
  else bif inPt (Txt.item x 0) leadLit then true else bif headF x then true else false
def sBoth (x : Str) (k : Int) : Bool := Txt.item x k == ⟨#[58]⟩ && behindF x k || Txt.item x k == ⟨#[35]⟩ && aheadF x k
def sFlowT (x : Str) (old : Bool) (k : Int) : Bool := inPt (Txt.item x k) flowLit || Txt.item x k == ⟨#[63]⟩ && old

def sFlow (x : Str) (old : Bool) (n : Nat) : Bool := sFlow0 x old || (List.range n).any fun j => sBoth x (1 + (j : Int)) || sFlowT x old (1 + (j : Int))
def sBlock (x : Str) (n : Nat) : Bool := sBlock0 x || (List.range n).any fun j => sBoth x (1 + (j : Int))

def sS (x : Str) (old : Bool) (i : Nat) : Sg := [("text", .txt x), ("old", .bol old), ("flow", .bol (sFlow x old i)), ("block", .bol (sBlock x i))]

abbrev sPs : List Str := ["text", "old"]
def sIn (x : Str) (old : Bool) : Sg := [("text", .txt x), ("old", .bol old)]
abbrev sBody : List Stmt := bdOf (dfOf "_law_signs" top)
abbrev sO : Orc := mkO ["text", "old", "flow", "block", "head", "sign", "lone", "at"] ["len", "_law_behind", "_law_ahead"]

theorem any_succ (p : Nat → Bool) (n : Nat) : (List.range (n + 1)).any p = ((List.range n).any p || p n) := by rw [List.range_succ, List.any_append]; simp

/-- the parts of «for x in range(a, b): ..» -/
def forPx : Stmt → Pos
  | .For (.Name _ p) _ _ _ _ => p
  | _ => default
def forPr : Stmt → Pos
  | .For _ (.Call (.Name _ p) _ _ _) _ _ _ => p
  | _ => default
def forPc : Stmt → Pos
  | .For _ (.Call _ _ _ p) _ _ _ => p
  | _ => default
def forE : Stmt → Nat → Expr
  | .For _ (.Call _ [e₁, e₂] _ _) _ _ _, 0 => e₁
  | .For _ (.Call _ [e₁, e₂] _ _) _ _ _, _ => e₂
  | _, _ => .Constant .none 0 default
def stPos : Stmt → Pos
  | .For _ _ _ _ p => p
  | .While _ _ _ p => p
  | .Return _ p => p
  | .Assign _ _ p => p
  | _ => default
def asForRange (x : Str) (st : Stmt) : Stmt := .For (.Name x (forPx st)) (.Call (.Name "range" (forPr st)) [forE st 0, forE st 1] [] (forPc st)) (inB st) [] (stPos st)
/-- the parts of «return (.., ..)» -/
def retEs : Stmt → List Expr
  | .Return (some (.Tuple es _ _)) _ => es
  | _ => []
def retK : Stmt → Nat
  | .Return (some (.Tuple _ k _)) _ => k
  | _ => 0
def retP : Stmt → Pos
  | .Return (some (.Tuple _ _ p)) _ => p
  | _ => default
def asRetTuple (st : Stmt) : Stmt := .Return (some (.Tuple (retEs st) (retK st) (retP st))) (stPos st)

theorem sBody_is : sBody = sBody.take 9 ++ (asForRange "at" (nth sBody 9) :: [asRetTuple (nth sBody 10)]) := by kernel_rfl!

theorem sFlow_succ (x : Str) (old : Bool) (i : Nat) : sFlow x old (i + 1) = bif sBoth x (1 + (i : Int)) then true else bif sFlowT x old (1 + (i : Int)) then true else sFlow x old i := by
  unfold sFlow
  rw [any_succ]
  cases sBoth x (1 + (i : Int)) <;> cases sFlowT x old (1 + (i : Int)) <;> cases sFlow0 x old <;> simp
theorem sBlock_succ (x : Str) (i : Nat) : sBlock x (i + 1) = bif sBoth x (1 + (i : Int)) then true else sBlock x i := by
  unfold sBlock
  rw [any_succ]
  cases sBoth x (1 + (i : Int)) <;> cases sBlock0 x <;> simp

theorem signs_ok {P : Pg} (X : Facts P) (k : Nat) (x : Str) (old : Bool) (us : List Value) (hus : AllIs [.txt x, .bol old] us) (h0 : 0 < x.length) (h1 : x.length ≤ 16777216) :
    CallOkN P X.aSigns us (k + 2) (fun u new => ∃ D n, u = .ref D ∧ new = [(D, ({ cls := .type "tuple", data := .seq #[.bool (sFlow x old (x.length - 1)), .bool (sBlock x (x.length - 1))] n } : Obj))]) := by
  have hd := X.signs
  rw [is_some_of (d := dfOf "_law_signs" top) (by decide +kernel)] at hd
  obtain ⟨u₁, u₂, rfl⟩ := two_is hus
  obtain ⟨oc, od, osl, name, qual, doc, pm, an, cdv, ct, e1, e2⟩ := defAt_is hd rfl
  refine callOkN_of (ps := sPs) e1 e2 (fun s => BindsTo.of_eq (by kernel_rfl!)) ?_ (by decide +kernel) (by decide +kernel) (by decide +kernel) (by decide +kernel) ?_
  · have : sPs.all (fun x => decide ((scOf (dfOf "_law_signs" top)).names.lookup x = some .local)) = true := by decide +kernel
    exact fun y hy => of_decide_eq_true (List.all_eq_true.mp this y.1 (List.of_mem_zip hy).1)
  rintro A L h₀ news s₀ m G F N rfl
  have hO : ∀ news s₀, sO.OkS (fBx P A (envOf qual (scOf (dfOf "_law_signs" top)) L X.aSigns cdv) h₀ news s₀) := fun news s₀ => fn_ok X G (len_of_local (by decide +kernel)) (len_of_global (by decide +kernel)) (.inl (ct_ok X k))
  show (fBx P A (envOf qual (scOf (dfOf "_law_signs" top)) L X.aSigns cdv) h₀ news s₀).run (execs sBody _) _ s₀
  rw [sBody_is]
  have r0 : runB sO 20 (sIn x old) (sBody.take 9) = some (gotO (runB sO 20 (sIn x old) (sBody.take 9)), gotS (runB sO 20 (sIn x old) (sBody.take 9))) := got_is (by kernel_rfl!)
  have ob0 : gotO (runB sO 20 (sIn x old) (sBody.take 9)) = .and (.p (x.length ≤ 16777216)) (.and (.p (0 ≤ (0 : Int) ∧ 0 < (x.length : Int) ∧ (x.length : Int) < 4611686018427387904)) (.and (.p ((x.length : Int) < 4611686018427387904 ∧ 0 ≤ (0 : Int) + 1))
      (.imp (Txt.item x 0 == ⟨#[63]⟩ || Txt.item x 0 == ⟨#[58]⟩) (.imp (!old) (.p ((x.length : Int) < 4611686018427387904)))))) := by kernel_rfl!
  have st0 : Sub (sS x old 0) (gotS (runB sO 20 (sIn x old) (sBody.take 9))) :=
    ⟨by kernel_rfl!, by kernel_rfl!, (show _ = some (V.bol (sFlow0 x old)) by kernel_rfl!).trans (by unfold sFlow; simp), (show _ = some (V.bol (sBlock0 x)) by kernel_rfl!).trans (by unfold sBlock; simp), trivial⟩
  refine runB_then (hO news s₀) r0 (by rw [ob0]; exact ⟨h1, ⟨by decide, by omega, by omega⟩, ⟨by omega, by decide⟩, fun _ _ => by show (x.length : Int) < _; omega⟩) (σ := sIn x old) ⟨_, ⟨s₀.heap, s₀.toks, rfl, F, N⟩, fits_zip (ps := sPs) hus rfl (by decide +kernel)⟩ fun s₁ hs₁ => ?_
  refine wpAny_execs_cons (for_ok G hO X.range (show (scOf (dfOf "_law_signs" top)).names.lookup (Str.ofString "range") = some .globalImplicit by decide +kernel) (by decide +kernel) (by decide +kernel) (a := 1) (b := (x.length : Int)) (by decide) (by decide) (by omega) (by omega) (n := 20) (o₁ := .t) (o₂ := .p ((x.length : Int) < 4611686018427387904)) (sS x old) (by kernel_rfl!) trivial (by kernel_rfl!) (by show (x.length : Int) < _; omega) ?_ (hs₁.sub st0) ?_)
  · intro i hi
    have hi' : (1 : Int) + i < x.length := by omega
    refine ⟨_, _, got_is (by kernel_rfl!), ?_, fun news s₀ s hs => hs.sub ?_⟩
    · rw [show gotO (runB sO 20 (put "at" (.int (1 + (i : Int))) (sS x old i)) (inB (nth sBody 9))) = .and (.p (0 ≤ 1 + (i : Int) ∧ 1 + (i : Int) < (x.length : Int) ∧ (x.length : Int) < 4611686018427387904)) (.and (.imp (Txt.item x (1 + (i : Int)) == ⟨#[58]⟩) (.p ((x.length : Int) < 4611686018427387904 ∧ 0 ≤ 1 + (i : Int) + 1)))
        (.imp (!(Txt.item x (1 + (i : Int)) == ⟨#[58]⟩ && behindF x (1 + (i : Int)))) (.imp (Txt.item x (1 + (i : Int)) == ⟨#[35]⟩) (.p ((x.length : Int) < 4611686018427387904 ∧ 0 ≤ 1 + (i : Int) ∧ 1 + (i : Int) ≤ (x.length : Int)))))) from by kernel_rfl!]
      exact ⟨⟨by omega, hi', by omega⟩, fun _ => ⟨by omega, by omega⟩, fun _ _ => ⟨by omega, by omega, by omega⟩⟩
    · exact ⟨by kernel_rfl!, by kernel_rfl!, (show _ = some (V.bol (bif sBoth x (1 + (i : Int)) then true else bif sFlowT x old (1 + (i : Int)) then true else sFlow x old i)) by kernel_rfl!).trans (by rw [sFlow_succ]),
        (show _ = some (V.bol (bif sBoth x (1 + (i : Int)) then true else sBlock x i)) by kernel_rfl!).trans (by rw [sBlock_succ]), trivial⟩
  · intro s₂ hs₂
    have hn : ((x.length : Int) - 1).toNat = x.length - 1 := by omega
    rw [hn] at hs₂
    refine ret_tuple (hO news s₀) (n := 20) (ob := .t) (vs := [.bol (sFlow x old (x.length - 1)), .bol (sBlock x (x.length - 1))]) (by kernel_rfl!) trivial ?_ hs₂ ?_
    · intro us hus
      obtain ⟨a, b, rfl⟩ := two_is hus
      exact Nat.le_of_ble_eq_true rfl
    · intro D us h' tk' m' hus F' N'
      cases hus with
      | cons h1 r => cases r with
        | cons h2 r =>
          cases r
          cases h1
          cases h2
          exact ⟨_, _, rfl, ⟨D, _, rfl, rfl⟩, h', tk', m', rfl, F', N'⟩

end Mine

namespace Mine
open PySem PySem.W PyProof.Rows PyProof.Rows.LCg

/-! names that live in cells -/
def mkOc (cv : Sg) (ls gs : List Str) : Orc := { mkO ls gs with g := fun x => (look cv x).or (gF gs x) }
theorem mkOc_ok {B : Bx} {cv : Sg} {ls gs : List Str} (h : (mkO ls gs).Ok B) (hcv : ∀ x v, look cv x = some v → ∀ σ pos, B.EvOk σ (.Name x pos) .t v) : (mkOc cv ls gs).Ok B where
  hk := h.hk
  loc := h.loc
  g := by
    intro σ x v pos e
    have e' : (look cv x).or (gF gs x) = some v := e
    cases hx : look cv x with
    | some w => rw [hx] at e'; cases e'; exact hcv x _ hx σ pos
    | none => rw [hx] at e'; exact h.g σ x v pos e'
  c := h.c
  e := h.e
  t := h.t
theorem mkOc_okS {P : Pg} {A : Around} {env : Env} {h₀ : Heap} {news : List (Addr × Obj)} {s₀ : Shared} {cv : Sg} {ls gs : List Str} (h : (mkOc cv ls gs).Ok (fBx P A env h₀ news s₀)) : (mkOc cv ls gs).OkS (fBx P A env h₀ news s₀) where
  toOk := h
  st := fBx_st
  s := by
    intro σ st ob ch h
    cases h

theorem cname_ok {B : Bx} {fenv : Env} {h₀ : Heap} {news : List (Addr × Obj)} {s₀ : Shared} (on : B.On fenv h₀ news s₀) (hk : B.env.scope.kind = .function) {x : Str} {c : Addr} {o : Obj} {u : Value} (hx : B.env.kindOf x = some .cell) (hc : B.env.cells.lookup x = some c)
    (hm : (c, o) ∈ news) (hd : o.data = .cell (some u)) (hxd : (x == ("__debug__" : Str)) = false) {v : V} (hu : v.is u) {σ : Sg} {pos : Pos} : B.EvOk σ (.Name x pos) .t v := by
  intro _ s Q hs hQ
  have hs' := hs
  obtain ⟨m, hm', fm⟩ := hs
  obtain ⟨hh, tk, m', rfl, F, N, _⟩ := on m s hm'
  exact wpAny_Name (wpAny_loadName_cell hk hx hc ⟨o, N.get hm, hd⟩ (hQ u _ hs' hu)) hxd

/-- a def with cells, its body run to its return -/
theorem callOkC_of {P : Pg} {f : Addr} {name qual : Str} {params : Arguments} {body : List Stmt} {scope : Scope} {dV kV doc pm cdv ct oc : Value} {an od : Option Addr} {osl : Array (Option Value)}
    (ho : P.K.lookup f = some ⟨oc, od, .func (fnOf name qual params body scope dV kV doc pm an cdv ct), osl⟩) (hcd : codeIn P.K cdv qual = true) {us : List Value} {binds : List (Str × Value)}
    (hbind : ∀ s, BindsTo s (fnOf name qual params body scope dV kV doc pm an cdv ct) ⟨us, []⟩ binds) (hkind : (binds.all fun y => scope.names.lookup y.1 == some .local || scope.names.lookup y.1 == some .cell) = true)
    (hnd : ((cellsFrom 0 scope.names []).map (·.1)).Nodup) (hco : scope.isCoroutine = false) (hgen : scope.isGenerator = false) (hk : scope.kind = .function)
    {k : Nat} {post : Value → List (Addr × Obj) → Prop}
    (run : ∀ A L h₀ news s₀ m cells, Gd P k A (envOfC qual scope L f cdv) h₀ → Fr h₀ L s₀.heap m → m = bindL (envOfC qual scope L f cdv).kindOf binds (fun _ => none) → CellsAre (bindC (envOfC qual scope L f cdv).kindOf binds fun _ => none) (cellsFrom (L + 1) scope.names []) cells → News h₀ L s₀.heap (cells ++ news) →
      wpAny (model P.prog P.w) A (execs body (envOfC qual scope L f cdv)) (fun fl s' => ∃ u new, fl = .ret u ∧ post u new ∧ ∃ h tk m', s' = { s₀ with heap := h, toks := tk } ∧ Fr h₀ L h m' ∧ News h₀ L h (new ++ news)) (fun _ _ => False) s₀) : CallOkN P f us (k + 1) post := by
  intro A env h₀ m news s Q G F N hQ
  obtain ⟨A₀, base, outer, B, hA⟩ := G.below
  refine wpAny_call (code_defC B F G.X N G.T hA G.frame G.kind ho hcd (by have := G.depth; omega) (hbind s) hkind hnd (fun g L' h₁ tk cells Fg F₁ N₁ Y B₁ X₁ T₁ _ => ?_) hco hgen hk)
  refine wpAny_mono (run (A.deeper (envOfC qual scope L' f cdv)) L' g news _ _ cells ⟨by have := G.depth; show A.depth + 1 + k < _; omega, by have := G.units; show A.units + 3 + 4 * k < _; omega, ⟨A, base, env :: outer, B₁, by show A.frames.map _ = _; rw [hA]; rfl⟩, X₁, T₁, rfl, hk, rfl, rfl, G.calm⟩ F₁ rfl Y N₁) (fun fl s' hq => ?_) fun _ _ h => h.elim
  obtain ⟨u, new, rfl, hu, h, tk, m', rfl, F', N'⟩ := hq
  exact ⟨L', m', new ++ news, F', N', fun Fb Nb => hQ u new h tk Fb Nb hu⟩

/-- a, b = f(..), where f hands back a tuple of two -/
theorem unpack_ok {P : Pg} {X : Facts P} {k : Nat} {A : Around} {env : Env} {h₀ : Heap} {news : List (Addr × Obj)} {s₀ : Shared} {O : Orc} (hO : O.OkS (fBx P A env h₀ news s₀)) (G : Gd P k A env h₀)
    {f : Str} {fa : Addr} (hf : nsIn P.K mainGlobals f = some (some (.ref fa))) (hfx : env.kindOf f = some .globalImplicit) (hfd : (f == ("__debug__" : Str)) = false) (hkeep : keepIn P.K (.ref fa) = true)
    {x y : Str} (hx : O.ls.any (same x) = true) (hy : O.ls.any (same y) = true) {n : Nat} {σ : Sg} {es : List Expr} {ob : Ob} {vs : List V} (he : evs (ev O n σ) es = some (ob, vs)) (hob : ob.ok) (hne : es ≠ []) {b₁ b₂ : Bool}
    (hc : ∀ us, AllIs vs us → CallOkN P fa us k (fun u new => ∃ D n, u = .ref D ∧ new = [(D, ({ cls := .type "tuple", data := .seq #[.bool b₁, .bool b₂] n } : Obj))]))
    {px py pt pf pc pos : Pos} {kt : Nat} {l : List Stmt} {s : Shared} {Q : Flow → Shared → Prop} (hs : (fBx P A env h₀ news s₀).H σ s)
    (kk : ∀ s', (fBx P A env h₀ news s₀).H (put y (.bol b₂) (put x (.bol b₁) σ)) s' → (fBx P A env h₀ news s₀).run (execs l env) Q s') :
    (fBx P A env h₀ news s₀).run (execs (.Assign [.Tuple [.Name x px, .Name y py] kt pt] (.Call (.Name f pf) es [] pc) pos :: l) env) Q s := by
  refine wpAny_execs_cons (Assign_Tuple ?_ (by with_unfolding_all rfl) (by with_unfolding_all rfl))
  obtain ⟨e, r, rfl⟩ : ∃ e r, es = e :: r := by cases es with | nil => exact absurd rfl hne | cons e r => exact ⟨e, r, rfl⟩
  have hs' := hs
  obtain ⟨m, ⟨h, tk, rfl, F, N⟩, fm⟩ := hs
  obtain ⟨hes, hns, _⟩ := evs_ok (ev_ok hO.toOk n σ) _ ob vs he
  rw [List.all_cons, Bool.and_eq_true] at hns
  refine Call_ (nameG_K F G.X (topRead_of G.T) hf ?_ G.gl G.kind hfx hfd) (by with_unfolding_all rfl)
  refine callWith_K G.X hkeep ?_ (star_cons hns.1) (plain_star hns.2)
  refine hes hob pc _ _ hs' fun us s₁ hs₁ hus => ?_
  obtain ⟨m₁, ⟨h₁, tk₁, rfl, F₁, N₁⟩, f₁⟩ := hs₁
  refine ⟨G.X.keeps F₁.keep, ?_⟩
  refine hc us hus A env h₀ m₁ news _ _ G F₁ N₁ fun u new h₂ tk₂ F₂ N₂ hu => ?_
  obtain ⟨D, nn, rfl, rfl⟩ := hu
  refine assign_Tuple_tuple G.calm (N₂.isTup (.head _)) rfl rfl fun h₃ he₃ => ?_
  have F₃ : Fr h₀ env.locals h₃ m₁ := F₂.extBut he₃ (Nat.le_refl _)
  have N₃ : News h₀ env.locals h₃ news := fun p hp => ⟨he₃ _ _ (Nat.ne_of_lt (Heap.lt_size (N₂ _ (List.mem_cons_of_mem _ hp)).1)) (N₂ _ (List.mem_cons_of_mem _ hp)).1, (N₂ _ (List.mem_cons_of_mem _ hp)).2⟩
  have hs₃ : (fBx P A env h₀ news s₀).H σ { s₀ with heap := h₃, toks := tk₂ } := ⟨m₁, ⟨h₃, tk₂, rfl, F₃, N₃⟩, f₁⟩
  refine assignInOrder_cons (wpAny_assign_Name (store_ok (v := .bol b₁) hO hx rfl hs₃ fun s₄ hs₄ => ?_))
  refine assignInOrder_cons (wpAny_assign_Name (store_ok (v := .bol b₂) hO hy rfl hs₄ fun s₅ hs₅ => ?_))
  exact assignInOrder_nil (kk s₅ hs₅)

/-! the parts of the statements of _law_reading -/
def asgP : Stmt → Pos
  | .Assign [.Name _ p] _ _ => p
  | _ => default
def asgE : Stmt → Expr
  | .Assign _ e _ => e
  | _ => .Constant .none 0 default
def tupPs : Stmt → Nat × Pos × Pos × Pos
  | .Assign [.Tuple [.Name _ p₁, .Name _ p₂] k p] _ _ => (k, p₁, p₂, p)
  | _ => default
def caF : Expr → Pos
  | .Call (.Name _ p) _ _ _ => p
  | _ => default
def caA : Expr → List Expr
  | .Call _ as _ _ => as
  | _ => []
def caP : Expr → Pos
  | .Call _ _ _ p => p
  | _ => default
def asUnpack (x y f : Str) (st : Stmt) : Stmt := .Assign [.Tuple [.Name x (tupPs st).2.1, .Name y (tupPs st).2.2.1] (tupPs st).1 (tupPs st).2.2.2] (.Call (.Name f (caF (asgE st))) (caA (asgE st)) [] (caP (asgE st))) (stPos st)
def cmL : Expr → Expr
  | .Compare l _ _ _ => l
  | _ => .Constant .none 0 default
def cmP : Expr → Pos
  | .Compare _ _ _ p => p
  | _ => default
def cmR : Expr → Pos
  | .Compare _ _ [.List _ p] _ => p
  | _ => default
def lcE : Expr → Pos
  | .ListComp (.Name _ p) _ _ _ => p
  | _ => default
def lcX : Expr → Pos
  | .ListComp _ [⟨.Name _ p, _, _, _⟩] _ _ => p
  | _ => default
def lcI : Expr → Expr
  | .ListComp _ [⟨_, i, _, _⟩] _ _ => i
  | _ => .Constant .none 0 default
def lcT : Expr → Expr
  | .ListComp _ [⟨_, _, [t], _⟩] _ _ => t
  | _ => .Constant .none 0 default
def lcS : Expr → Scope
  | .ListComp _ _ s _ => s
  | _ => default
def lcP : Expr → Pos
  | .ListComp _ _ _ p => p
  | _ => default
def asComp (y x : Str) (it : Expr → Expr) (st : Stmt) : Stmt :=
  .Assign [.Name y (asgP st)] (.Compare (.ListComp (.Name x (lcE (cmL (asgE st)))) [⟨.Name x (lcX (cmL (asgE st))), it (lcI (cmL (asgE st))), [lcT (cmL (asgE st))], 0⟩] (lcS (cmL (asgE st))) (lcP (cmL (asgE st)))) [.NotEq] [.List [] (cmR (asgE st))] (cmP (asgE st))) (stPos st)
def exPos : Expr → Pos
  | .Name _ p => p
  | _ => default
def itText (e : Expr) : Expr := .Name "text" (exPos e)
def arg (e : Expr) (n : Nat) : Expr := match caA e, n with
  | [a, _], 0 => a
  | [_, b], _ => b
  | _, _ => .Constant .none 0 default
def itRange (e : Expr) : Expr := .Call (.Name "range" (caF e)) [arg e 0, arg e 1] [] (caP e)
def ifT : Stmt → Expr
  | .If t _ _ _ => t
  | _ => .Constant .none 0 default
def asIfRet (st : Stmt) : Stmt := .If (ifT st) [asRetTuple (nth (inB st) 0)] [] (match st with | .If _ _ _ p => p | _ => default)

abbrev rBody : List Stmt := bdOf (dfOf "_law_reading" top)
abbrev rScope : Scope := scOf (dfOf "_law_reading" top)
abbrev rPs : List Str := ["text", "old", "wide", "far", "room"]
abbrev rLs : List Str := ["old", "room", "flow", "block", "last", "broken", "special", "ends", "blank_break", "break_blank", "spoilt", "plain", "single", "scalar"]
abbrev rGs : List Str := ["len", "_law_breaks"]

theorem rBody_is : rBody = asIfRet (nth rBody 0) :: asUnpack "flow" "block" "_law_signs" (nth rBody 1) :: ([nth rBody 2] ++ (asComp "broken" "sign" itText (nth rBody 3) :: asComp "special" "sign" itText (nth rBody 4) ::
    ([nth rBody 5] ++ (asComp "blank_break" "at" itRange (nth rBody 6) :: asComp "break_blank" "at" itRange (nth rBody 7) :: ([nth rBody 8, nth rBody 9, nth rBody 10, nth rBody 11] ++ [asRetTuple (nth rBody 12)]))))) := by kernel_rfl!

end Mine

namespace Mine
open PySem PySem.W PyProof.Rows PyProof.Rows.LCg

def rBroken (x : Str) : Bool := (List.range x.cps.size).any fun i => inPt (sign x i) lawBreaks
def rSpecial (x : Str) (w r : Bool) : Bool := (List.range x.cps.size).any fun i => specialF (sign x i) w r
def rBB (x : Str) : Bool := (List.range (x.length - 1)).any fun i => inPt (Txt.item x (1 + (i : Int))) lawBreaks && Txt.item x (1 + (i : Int) - 1) == ⟨#[32]⟩
def rKB (x : Str) : Bool := (List.range (x.length - 1)).any fun i => Txt.item x (1 + (i : Int)) == ⟨#[32]⟩ && inPt (Txt.item x (1 + (i : Int) - 1)) lawBreaks
def rEnds (x : Str) : Bool := Txt.item x 0 == ⟨#[32]⟩ || (Txt.item x ((x.length : Int) - 1) == ⟨#[32]⟩ || (inPt (Txt.item x 0) lawBreaks || inPt (Txt.item x ((x.length : Int) - 1)) lawBreaks))
def rSpoilt (x : Str) (w r : Bool) : Bool := rKB x || (rSpecial x w r || rBB x)
def rPlain (x : Str) (w r : Bool) : Bool := !(rEnds x || (rSpoilt x w r || rBroken x))
def rScalar (x : Str) (w r m : Bool) : Bool := !(Txt.item x ((x.length : Int) - 1) == ⟨#[32]⟩ || (rSpecial x w r || rBB x && !m))
def rVals (x : Str) (old w r m : Bool) : List V :=
  if x.length = 0 then [.txt ⟨#[]⟩, .bol true, .bol false, .bol false, .bol true, .bol true, .bol true, .bol false]
  else [.txt x, .bol false, .bol (rBroken x), .bol (rPlain x w r && !sFlow x old (x.length - 1)), .bol (rPlain x w r && !sBlock x (x.length - 1)), .bol (!rSpoilt x w r), .bol true, .bol (rScalar x w r m)]

theorem five_is {a b c d e : V} {us : List Value} (h : AllIs [a, b, c, d, e] us) : ∃ u₁ u₂ u₃ u₄ u₅, us = [u₁, u₂, u₃, u₄, u₅] := by
  cases h with
  | cons h1 r => cases r with
    | cons h2 r =>
      obtain ⟨u₃, u₄, u₅, rfl⟩ := three_is r
      exact ⟨_, _, _, _, _, rfl⟩
theorem all_len {vs : List V} {us : List Value} (h : AllIs vs us) : us.length = vs.length := by
  induction h with
  | nil => rfl
  | cons _ _ ih => simp [ih]

theorem look_all {cv : Sg} {C : Str → V → Prop} (h : ∀ p ∈ cv, C p.1 p.2) : ∀ y v, look cv y = some v → C y v := by
  intro y v hv
  induction cv with
  | nil => cases hv
  | cons p r ih =>
    obtain ⟨z, w⟩ := p
    unfold look at hv
    cases q : same z y with
    | true =>
      rw [q] at hv
      have := same_iff.mp q
      subst this
      cases hv
      exact h _ (.head _)
    | false =>
      rw [q] at hv
      exact ih (fun p hp => h p (.tail _ hp)) hv
theorem forall3 {α : Type} {C : α → Prop} {a b c : α} (h₁ : C a) (h₂ : C b) (h₃ : C c) : ∀ p ∈ [a, b, c], C p := by
  intro p hp
  rcases List.mem_cons.mp hp with rfl | hp
  · exact h₁
  · rcases List.mem_cons.mp hp with rfl | hp
    · exact h₂
    · rw [List.mem_singleton.mp hp]; exact h₃
theorem forall2 {α : Type} {C : α → Prop} {a b : α} (h₁ : C a) (h₂ : C b) : ∀ p ∈ [a, b], C p := by
  intro p hp
  rcases List.mem_cons.mp hp with rfl | hp
  · exact h₁
  · rw [List.mem_singleton.mp hp]; exact h₂
theorem forall1 {α : Type} {C : α → Prop} {a : α} (h₁ : C a) : ∀ p ∈ [a], C p := by
  intro p hp
  rw [List.mem_singleton.mp hp]; exact h₁

def rCv (x : Str) (w r : Bool) : Sg := [("text", .txt x), ("wide", .bol w), ("far", .bol r)]
def rS0 (old m : Bool) : Sg := [("old", .bol old), ("room", .bol m)]
def rS3 (x : Str) (old m fl bl : Bool) : Sg := [("old", .bol old), ("room", .bol m), ("flow", .bol fl), ("block", .bol bl), ("last", .int ((x.length : Int) - 1))]
def rS5 (x : Str) (old m fl bl br sp : Bool) : Sg := [("old", .bol old), ("room", .bol m), ("flow", .bol fl), ("block", .bol bl), ("last", .int ((x.length : Int) - 1)), ("broken", .bol br), ("special", .bol sp)]
def rS6 (x : Str) (old m fl bl br sp en : Bool) : Sg := [("old", .bol old), ("room", .bol m), ("flow", .bol fl), ("block", .bol bl), ("last", .int ((x.length : Int) - 1)), ("broken", .bol br), ("special", .bol sp), ("ends", .bol en)]
def rS7 (x : Str) (old m fl bl br sp en bb : Bool) : Sg := [("old", .bol old), ("room", .bol m), ("flow", .bol fl), ("block", .bol bl), ("last", .int ((x.length : Int) - 1)), ("broken", .bol br), ("special", .bol sp), ("ends", .bol en), ("blank_break", .bol bb)]
def rS8 (x : Str) (old m fl bl br sp en bb kb : Bool) : Sg := [("old", .bol old), ("room", .bol m), ("flow", .bol fl), ("block", .bol bl), ("last", .int ((x.length : Int) - 1)), ("broken", .bol br), ("special", .bol sp), ("ends", .bol en), ("blank_break", .bol bb), ("break_blank", .bol kb)]
abbrev rO (x : Str) (w r : Bool) : Orc := mkOc (rCv x w r) rLs rGs

def rEnv (qual : Str) (L a : Addr) (cd : Value) : Env := envOfC qual rScope L a cd

def c₁ (L : Addr) : Addr := Nat.succ (Nat.succ (Nat.succ L))
def c₂ (L : Addr) : Addr := Nat.succ (Nat.succ L)
def c₃ (L : Addr) : Addr := Nat.succ L
def rCl (L : Addr) : List (Str × Addr) := [("far", c₁ L), ("wide", c₂ L), ("text", c₃ L)]
theorem rCells (L : Addr) : cellsFrom (L + 1) rScope.names [] = rCl L := by kernel_rfl!

set_option maxHeartbeats 1000000 in
theorem reading_ok {P : Pg} (X : Facts P) (k : Nat) (x : Str) (old w r mm : Bool) (us : List Value) (hus : AllIs [.txt x, .bol old, .bol w, .bol r, .bol mm] us) (h1 : x.length ≤ 16777216) :
    CallOkN P X.aReading us (k + 3) (fun u new => ∃ D ts, u = .ref D ∧ new = [(D, ({ cls := .type "tuple", data := .seq (List.toArray ts) } : Obj))] ∧ AllIs (rVals x old w r mm) ts) := by
  have hd := X.reading
  rw [is_some_of (d := dfOf "_law_reading" top) (by decide +kernel)] at hd
  obtain ⟨u₁, u₂, u₃, u₄, u₅, rfl⟩ := five_is hus
  obtain ⟨oc, od, osl, name, qual, doc, pm, an, cdv, ct, e1, e2⟩ := defAt_is hd rfl
  refine callOkC_of (binds := rPs.zip [u₁, u₂, u₃, u₄, u₅]) e1 e2 (fun s => BindsTo.of_eq (by kernel_rfl!)) (by kernel_rfl!) (by decide +kernel) (by decide +kernel) (by decide +kernel) (by decide +kernel) ?_
  intro A L h₀ news s₀ m cells G F hm Y N
  rw [show cellsFrom (L + 1) (scOf (dfOf (Str.ofString "_law_reading") top)).names [] = rCl L from rCells L] at Y
  obtain ⟨o₁, o₂, o₃, rfl, d₁, d₂, d₃⟩ := Y.three
  cases hus with
  | cons i₁ hus => cases hus with
    | cons i₂ hus => cases hus with
      | cons i₃ hus => cases hus with
        | cons i₄ hus => cases hus with
          | cons i₅ hus =>
  have d₁' : o₁.data = .cell (some u₄) := d₁.trans (by kernel_rfl!)
  have d₂' : o₂.data = .cell (some u₃) := d₂.trans (by kernel_rfl!)
  have d₃' : o₃.data = .cell (some u₁) := d₃.trans (by kernel_rfl!)
  clear d₁ d₂ d₃ Y
  generalize hcl : [(c₁ L, o₁), (c₂ L, o₂), (c₃ L, o₃)] = cells at N
  have m₁ : (c₁ L, o₁) ∈ cells := by rw [← hcl]; exact .head _
  have m₂ : (c₂ L, o₂) ∈ cells := by rw [← hcl]; exact .tail _ (.head _)
  have m₃ : (c₃ L, o₃) ∈ cells := by rw [← hcl]; exact .tail _ (.tail _ (.head _))
  have cvIs : ∀ (cv : Sg) (B : Bx) (fenv : Env) (h₀ : Heap) (news' : List (Addr × Obj)) (s₀ : Shared), B.On fenv h₀ news' s₀ → B.env.scope.kind = .function → (∀ p ∈ cells, p ∈ news') →
      (∀ p ∈ cv, look (rCv x w r) p.1 = some p.2 ∧ B.env.kindOf p.1 = some .cell ∧ B.env.cells.lookup p.1 = (rCl L).lookup p.1) → ∀ y v, look cv y = some v → ∀ σ pos, B.EvOk σ (.Name y pos) .t v := by
    intro cv B fenv h₀ news' s₀ on hk sub hcv y v hv σ pos
    obtain ⟨hv', hkd, hcs⟩ := look_all (C := fun y v => look (rCv x w r) y = some v ∧ B.env.kindOf y = some .cell ∧ B.env.cells.lookup y = (rCl L).lookup y) hcv y v hv
    unfold rCv at hv'
    simp only [look] at hv'
    cases q₁ : same "text" y with
    | true =>
      rw [q₁] at hv'
      have := same_iff.mp q₁
      subst this
      cases hv'
      exact cname_ok on hk hkd (hcs.trans (by kernel_rfl!)) (sub _ m₃) d₃' (by decide +kernel) i₁
    | false =>
      rw [q₁] at hv'
      cases q₂ : same "wide" y with
      | true =>
        rw [q₂] at hv'
        have := same_iff.mp q₂
        subst this
        cases hv'
        exact cname_ok on hk hkd (hcs.trans (by kernel_rfl!)) (sub _ m₂) d₂' (by decide +kernel) i₃
      | false =>
        rw [q₂] at hv'
        cases q₃ : same "far" y with
        | true =>
          rw [q₃] at hv'
          have := same_iff.mp q₃
          subst this
          cases hv'
          exact cname_ok on hk hkd (hcs.trans (by kernel_rfl!)) (sub _ m₁) d₁' (by decide +kernel) i₄
        | false => rw [q₃] at hv'; cases hv'
  have hO : (rO x w r).OkS (fBx P A (rEnv qual L X.aReading cdv) h₀ (cells ++ news) s₀) :=
    mkOc_okS (mkOc_ok (mkO_ok (B := fBx P A (rEnv qual L X.aReading cdv) h₀ (cells ++ news) s₀) X fBx_on G G.kind rfl rfl (len_of_local (names := rScope.names) (by decide +kernel)) (len_of_global (names := rScope.names) (by decide +kernel)) (.inl (ct_ok X (k + 1))))
      (cvIs (rCv x w r) _ _ _ _ _ fBx_on G.kind (fun p hp => List.mem_append_left _ hp) (forall3 ⟨rfl, by kernel_rfl!, by kernel_rfl!⟩ ⟨rfl, by kernel_rfl!, by kernel_rfl!⟩ ⟨by kernel_rfl!, by kernel_rfl!, by kernel_rfl!⟩)))
  have cO : ∀ (cv : Sg) (ls gs : List Str) (scope : Scope) (cl : List (Str × Addr)), scope.kind = .function →
      (∀ C, (∀ p ∈ cv, look (rCv x w r) p.1 = some p.2 ∧ (compEnvC scope cl C (rEnv qual L X.aReading cdv)).kindOf p.1 = some .cell ∧ cl.lookup p.1 = (rCl L).lookup p.1) ∧
        (∀ y ∈ ls, (compEnvC scope cl C (rEnv qual L X.aReading cdv)).kindOf y = some .local ∧ (y == ("__debug__" : Str)) = false) ∧ (∀ y ∈ gs, (compEnvC scope cl C (rEnv qual L X.aReading cdv)).kindOf y = some .globalImplicit ∧ (y == ("__debug__" : Str)) = false)) →
      ∀ C oC m m₂ news₂ s₃ (hm : (C, oC) ∈ news₂) (hC : NsObj oC m₂), (∀ p ∈ cells ++ news, p ∈ news₂) → (mkOc cv ls gs).Ok (cBx P A (rEnv qual L X.aReading cdv) (compEnvC scope cl C (rEnv qual L X.aReading cdv)) h₀ m news₂ s₃ oC m₂ hm hC) := by
    intro cv ls gs scope cl hk hh C oC m m₂ news₂ s₃ hm hC sub
    obtain ⟨a₁, a₂, a₃⟩ := hh C
    have hk' : (compEnvC scope cl C (rEnv qual L X.aReading cdv)).scope.kind = .function := hk
    exact mkOc_ok (mkO_ok X cBx_on G hk' rfl rfl a₂ a₃ (.inl (ct_ok X (k + 1)))) (cvIs cv _ _ _ _ _ cBx_on hk' (fun p hp => sub p (List.mem_append_left _ hp)) a₁)
  have hs₀ : (fBx P A (rEnv qual L X.aReading cdv) h₀ (cells ++ news) s₀).H (rS0 old mm) s₀ := by
    refine ⟨m, ⟨s₀.heap, s₀.toks, rfl, F, N⟩, fun y v hv _ => ?_⟩
    unfold rS0 at hv
    simp only [look] at hv
    cases q₁ : same "old" y with
    | true =>
      rw [q₁] at hv
      have := same_iff.mp q₁
      subst this
      cases hv
      exact ⟨u₂, by rw [hm]; kernel_rfl!, i₂⟩
    | false =>
      rw [q₁] at hv
      cases q₂ : same "room" y with
      | true =>
        rw [q₂] at hv
        have := same_iff.mp q₂
        subst this
        cases hv
        exact ⟨u₅, by rw [hm]; kernel_rfl!, i₅⟩
      | false => rw [q₂] at hv; cases hv
  show (fBx P A (rEnv qual L X.aReading cdv) h₀ (cells ++ news) s₀).run (execs rBody (rEnv qual L X.aReading cdv)) _ s₀
  rw [rBody_is]
  have endd : ∀ (σ : Sg) (n : Nat) (st : Stmt) (ob : Ob) (s : Shared), evs (ev (rO x w r) 20 σ) (retEs st) = some (ob, rVals x old w r mm) → ob.ok → (fBx P A (rEnv qual L X.aReading cdv) h₀ (cells ++ news) s₀).H σ s →
      (fBx P A (rEnv qual L X.aReading cdv) h₀ (cells ++ news) s₀).run (execs [asRetTuple st] (rEnv qual L X.aReading cdv)) (fun fl s' => ∃ u new, fl = .ret u ∧ (∃ D ts, u = Value.ref D ∧ new = [(D, ({ cls := .type "tuple", data := .seq (List.toArray ts) } : Obj))] ∧ AllIs (rVals x old w r mm) ts) ∧
        ∃ h tk m', s' = { s₀ with heap := h, toks := tk } ∧ Fr h₀ L h m' ∧ News h₀ L h (new ++ news)) s := by
    intro σ n st ob s he hob hs
    refine ret_tuple hO he hob (fun us hus => ?_) hs fun D us h' tk' m' hus F' N' => ⟨_, _, rfl, ⟨D, us, rfl, rfl, hus⟩, h', tk', m', rfl, F', fun p hp => ?_⟩
    · rw [all_len hus]
      unfold rVals
      split <;> exact Nat.le_of_ble_eq_true rfl
    · rcases List.mem_cons.mp hp with rfl | hp
      · exact N' _ (.head _)
      · exact N' _ (.tail _ (List.mem_append_right _ hp))
  -- the empty text
  refine wpAny_execs_cons (wpAny_If (tr_ok hO.toOk 20 (rS0 old mm) (ifT (nth rBody 0)) .t (x == ⟨#[]⟩) (by kernel_rfl!) trivial s₀ _ hs₀ fun s₁ hs₁ => ?_))
  by_cases hx : x.length = 0
  · have hx' : x = ⟨#[]⟩ := by
      cases x with | mk a => simp only [Str.mk.injEq]; exact Array.eq_empty_of_size_eq_zero hx
    rw [if_pos (by rw [hx']; decide)]
    refine wpAny_mono (endd (rS0 old mm) 20 (nth (inB (nth rBody 0)) 0) .t s₁ (by rw [rVals, if_pos hx]; kernel_rfl!) trivial hs₁) (fun fl s' hq => ?_) fun _ _ h => h
    obtain ⟨u, new, rfl, r⟩ := hq
    exact ⟨u, new, rfl, r⟩
  have hpos : 0 < x.length := by omega
  rw [if_neg (by
    intro h
    have := beq_iff_eq.mp h
    rw [this] at hx
    exact hx rfl)]
  refine wpAny_execs_nil ?_
  -- the two signs
  refine unpack_ok (X := X) hO G X.signs.glob (show rScope.names.lookup (Str.ofString "_law_signs") = some .globalImplicit by decide +kernel) (by decide +kernel) X.signs.keep (by kernel_rfl!) (by kernel_rfl!) (n := 20) (ob := .t) (vs := [.txt x, .bol old]) (by kernel_rfl!) trivial (by decide +kernel)
    (fun us hus => signs_ok X k x old us hus hpos h1) hs₁ fun s₂ hs₂ => ?_
  generalize hf : sFlow x old (x.length - 1) = fl at hs₂
  generalize hb : sBlock x (x.length - 1) = bl at hs₂
  -- last
  refine runB_then hO (n := 20) (got_is (r := runB (rO x w r) 20 (put "block" (.bol bl) (put "flow" (.bol fl) (rS0 old mm))) [nth rBody 2]) (by kernel_rfl!)) ?_ hs₂ fun s₃ hs₃ => ?_
  · rw [show gotO (runB (rO x w r) 20 (put "block" (.bol bl) (put "flow" (.bol fl) (rS0 old mm))) [nth rBody 2]) = .p ((x.length : Int) < 4611686018427387904) from by kernel_rfl!]
    show (x.length : Int) < _
    omega
  have hs₃' : (fBx P A (rEnv qual L X.aReading cdv) h₀ (cells ++ news) s₀).H (rS3 x old mm fl bl) s₃ := hs₃.sub ⟨by kernel_rfl!, by kernel_rfl!, by kernel_rfl!, by kernel_rfl!, by kernel_rfl!, trivial⟩
  clear hs₃
  -- broken
  have srcT : ∀ (σ : Sg) (p : Pos), (fBx P A (rEnv qual L X.aReading cdv) h₀ (cells ++ news) s₀).EvOk σ (.Name "text" p) .t (.txt x) := fun σ p => ev_ok hO.toOk 20 σ _ _ _ (by kernel_rfl!)
  have hsz : x.cps.size ≤ sizeLine := by rw [sizeLine_eq]; have : x.cps.size = x.length := rfl; omega
  refine assign_ok hO (by kernel_rfl!) rfl (comp_ok G (cl := []) (iv := fun i => .txt (sign x i)) (pz := fun i => inPt (sign x i) lawBreaks) (O' := mkOc [] ["sign"] ["_law_breaks"]) (nf := 20) (ob := .t)
    (by kernel_rfl!) (by decide +kernel) (by decide +kernel) (by decide +kernel) (by decide +kernel) (by decide +kernel) (by intro y; rfl) hsz (src_str G (srcT _ _)) (fun _ i hi => ⟨.t, by kernel_rfl!, trivial⟩)
    (cO [] ["sign"] ["_law_breaks"] _ [] (by decide +kernel) fun C => ⟨fun p hp => (by cases hp), forall1 ⟨by kernel_rfl!, by kernel_rfl!⟩, forall1 ⟨by kernel_rfl!, by kernel_rfl!⟩⟩)) trivial hs₃' fun s₄ hs₄ => ?_
  -- special
  refine assign_ok hO (by kernel_rfl!) rfl (comp_ok G (cl := [("wide", c₂ L), ("far", c₁ L)]) (iv := fun i => .txt (sign x i)) (pz := fun i => specialF (sign x i) w r) (O' := mkOc [("wide", .bol w), ("far", .bol r)] ["sign"] ["_law_special"]) (nf := 20) (ob := .t)
    (by kernel_rfl!) (by decide +kernel) (by decide +kernel) (by decide +kernel) (by decide +kernel) (by decide +kernel) (by intro y; rfl) hsz (src_str G (srcT _ _)) (fun _ i hi => ⟨.t, by kernel_rfl!, trivial⟩)
    (cO [("wide", .bol w), ("far", .bol r)] ["sign"] ["_law_special"] _ [("wide", c₂ L), ("far", c₁ L)] (by decide +kernel) fun C => ⟨forall2 ⟨by kernel_rfl!, by kernel_rfl!, by kernel_rfl!⟩ ⟨by kernel_rfl!, by kernel_rfl!, by kernel_rfl!⟩, forall1 ⟨by kernel_rfl!, by kernel_rfl!⟩, forall1 ⟨by kernel_rfl!, by kernel_rfl!⟩⟩)) trivial hs₄ fun s₅ hs₅ => ?_
  have hs₅' : (fBx P A (rEnv qual L X.aReading cdv) h₀ (cells ++ news) s₀).H (rS5 x old mm fl bl (rBroken x) (rSpecial x w r)) s₅ := hs₅.sub ⟨by kernel_rfl!, by kernel_rfl!, by kernel_rfl!, by kernel_rfl!, by kernel_rfl!, by kernel_rfl!, by kernel_rfl!, trivial⟩
  clear hs₅ hs₄ hs₃' hs₂ hs₁
  generalize hbr : rBroken x = br at hs₅'
  generalize hsp : rSpecial x w r = sp at hs₅'
  -- ends
  refine runB_then hO (n := 20) (got_is (r := runB (rO x w r) 20 (rS5 x old mm fl bl br sp) [nth rBody 5]) (by kernel_rfl!)) ?_ hs₅' fun s₆ hs₆ => ?_
  · rw [show gotO (runB (rO x w r) 20 (rS5 x old mm fl bl br sp) [nth rBody 5]) = .and (.p (0 ≤ (0 : Int) ∧ 0 < (x.length : Int) ∧ (x.length : Int) < 4611686018427387904)) (.imp (!Txt.item x 0 == ⟨#[32]⟩) (.and (.p (0 ≤ (x.length : Int) - 1 ∧ (x.length : Int) - 1 < (x.length : Int) ∧ (x.length : Int) < 4611686018427387904))
      (.imp (!Txt.item x ((x.length : Int) - 1) == ⟨#[32]⟩) (.and (.p (0 ≤ (0 : Int) ∧ 0 < (x.length : Int) ∧ (x.length : Int) < 4611686018427387904)) (.imp (!inPt (Txt.item x 0) lawBreaks) (.p (0 ≤ (x.length : Int) - 1 ∧ (x.length : Int) - 1 < (x.length : Int) ∧ (x.length : Int) < 4611686018427387904))))))) from by kernel_rfl!]
    exact ⟨⟨by omega, by omega, by omega⟩, fun _ => ⟨⟨by omega, by omega, by omega⟩, fun _ => ⟨⟨by omega, by omega, by omega⟩, fun _ => ⟨by omega, by omega, by omega⟩⟩⟩⟩
  have hs₆' : (fBx P A (rEnv qual L X.aReading cdv) h₀ (cells ++ news) s₀).H (rS6 x old mm fl bl br sp (rEnds x)) s₆ := hs₆.sub ⟨by kernel_rfl!, by kernel_rfl!, by kernel_rfl!, by kernel_rfl!, by kernel_rfl!, by kernel_rfl!, by kernel_rfl!, by kernel_rfl!, trivial⟩
  clear hs₆
  generalize hen : rEnds x = en at hs₆'
  -- blank_break
  have hn : ((x.length : Int) - 1).toNat = x.length - 1 := by omega
  have hz : x.length - 1 ≤ sizeLine := by rw [sizeLine_eq]; omega
  have okLen : ((.t : Ob).two (.p ((x.length : Int) < 4611686018427387904))).ok := by show (x.length : Int) < _; omega
  refine assign_ok hO (by kernel_rfl!) rfl (comp_ok G (cl := [("text", c₃ L)]) (n := x.length - 1) (iv := fun i => .int (1 + (i : Int))) (pz := fun i => inPt (Txt.item x (1 + (i : Int))) lawBreaks && Txt.item x (1 + (i : Int) - 1) == ⟨#[32]⟩) (O' := mkOc [("text", .txt x)] ["at"] ["_law_breaks"]) (nf := 20) (ob := (.t : Ob).two (.p ((x.length : Int) < 4611686018427387904)))
    (by kernel_rfl!) (by decide +kernel) (by decide +kernel) (by decide +kernel) (by decide +kernel) (by decide +kernel) (by intro y; rfl) hz
    (by
      have q := src_range (news := cells ++ news) (s₀ := s₀) G (σ := rS6 x old mm fl bl br sp en) X.range (show rScope.names.lookup (Str.ofString "range") = some .globalImplicit by decide +kernel) (e₁ := arg (lcI (cmL (asgE (nth rBody 6)))) 0) (e₂ := arg (lcI (cmL (asgE (nth rBody 6)))) 1) ⟨by decide +kernel, by decide +kernel⟩ (a := 1) (b := (x.length : Int)) (by decide) (by decide) (by omega) (by omega)
        (pr := caF (lcI (cmL (asgE (nth rBody 6))))) (pc := caP (lcI (cmL (asgE (nth rBody 6))))) (ev_ok hO.toOk 20 _ _ .t _ (by kernel_rfl!)) (ev_ok hO.toOk 20 _ _ (.p ((x.length : Int) < 4611686018427387904)) _ (by kernel_rfl!))
      rw [hn] at q
      exact q)
    (fun _ i hi => ⟨.and (.p (0 ≤ 1 + (i : Int) ∧ 1 + (i : Int) < (x.length : Int) ∧ (x.length : Int) < 4611686018427387904)) (.imp (inPt (Txt.item x (1 + (i : Int))) lawBreaks) (.p (0 ≤ 1 + (i : Int) - 1 ∧ 1 + (i : Int) - 1 < (x.length : Int) ∧ (x.length : Int) < 4611686018427387904))), by kernel_rfl!, ⟨by omega, by omega, by omega⟩, fun _ => ⟨by omega, by omega, by omega⟩⟩)
    (cO [("text", .txt x)] ["at"] ["_law_breaks"] _ [("text", c₃ L)] (by decide +kernel) fun C => ⟨forall1 ⟨by kernel_rfl!, by kernel_rfl!, by kernel_rfl!⟩, forall1 ⟨by kernel_rfl!, by kernel_rfl!⟩, forall1 ⟨by kernel_rfl!, by kernel_rfl!⟩⟩)) okLen hs₆' fun s₇ hs₇ => ?_
  have hs₇' : (fBx P A (rEnv qual L X.aReading cdv) h₀ (cells ++ news) s₀).H (rS7 x old mm fl bl br sp en (rBB x)) s₇ := hs₇.sub ⟨by kernel_rfl!, by kernel_rfl!, by kernel_rfl!, by kernel_rfl!, by kernel_rfl!, by kernel_rfl!, by kernel_rfl!, by kernel_rfl!, by kernel_rfl!, trivial⟩
  clear hs₇
  generalize hbb : rBB x = bb at hs₇'
  -- break_blank
  refine assign_ok hO (by kernel_rfl!) rfl (comp_ok G (cl := [("text", c₃ L)]) (n := x.length - 1) (iv := fun i => .int (1 + (i : Int))) (pz := fun i => Txt.item x (1 + (i : Int)) == ⟨#[32]⟩ && inPt (Txt.item x (1 + (i : Int) - 1)) lawBreaks) (O' := mkOc [("text", .txt x)] ["at"] ["_law_breaks"]) (nf := 20) (ob := (.t : Ob).two (.p ((x.length : Int) < 4611686018427387904)))
    (by kernel_rfl!) (by decide +kernel) (by decide +kernel) (by decide +kernel) (by decide +kernel) (by decide +kernel) (by intro y; rfl) hz
    (by
      have q := src_range (news := cells ++ news) (s₀ := s₀) G (σ := rS7 x old mm fl bl br sp en bb) X.range (show rScope.names.lookup (Str.ofString "range") = some .globalImplicit by decide +kernel) (e₁ := arg (lcI (cmL (asgE (nth rBody 7)))) 0) (e₂ := arg (lcI (cmL (asgE (nth rBody 7)))) 1) ⟨by decide +kernel, by decide +kernel⟩ (a := 1) (b := (x.length : Int)) (by decide) (by decide) (by omega) (by omega)
        (pr := caF (lcI (cmL (asgE (nth rBody 7))))) (pc := caP (lcI (cmL (asgE (nth rBody 7))))) (ev_ok hO.toOk 20 _ _ .t _ (by kernel_rfl!)) (ev_ok hO.toOk 20 _ _ (.p ((x.length : Int) < 4611686018427387904)) _ (by kernel_rfl!))
      rw [hn] at q
      exact q)
    (fun _ i hi => ⟨.and (.p (0 ≤ 1 + (i : Int) ∧ 1 + (i : Int) < (x.length : Int) ∧ (x.length : Int) < 4611686018427387904)) (.imp (Txt.item x (1 + (i : Int)) == ⟨#[32]⟩) (.p (0 ≤ 1 + (i : Int) - 1 ∧ 1 + (i : Int) - 1 < (x.length : Int) ∧ (x.length : Int) < 4611686018427387904))), by kernel_rfl!, ⟨by omega, by omega, by omega⟩, fun _ => ⟨by omega, by omega, by omega⟩⟩)
    (cO [("text", .txt x)] ["at"] ["_law_breaks"] _ [("text", c₃ L)] (by decide +kernel) fun C => ⟨forall1 ⟨by kernel_rfl!, by kernel_rfl!, by kernel_rfl!⟩, forall1 ⟨by kernel_rfl!, by kernel_rfl!⟩, forall1 ⟨by kernel_rfl!, by kernel_rfl!⟩⟩)) okLen hs₇' fun s₈ hs₈ => ?_
  have hs₈' : (fBx P A (rEnv qual L X.aReading cdv) h₀ (cells ++ news) s₀).H (rS8 x old mm fl bl br sp en bb (rKB x)) s₈ := hs₈.sub ⟨by kernel_rfl!, by kernel_rfl!, by kernel_rfl!, by kernel_rfl!, by kernel_rfl!, by kernel_rfl!, by kernel_rfl!, by kernel_rfl!, by kernel_rfl!, by kernel_rfl!, trivial⟩
  clear hs₈
  generalize hkb : rKB x = kb at hs₈'
  -- the rest
  refine runB_then hO (n := 20) (got_is (r := runB (rO x w r) 20 (rS8 x old mm fl bl br sp en bb kb) [nth rBody 8, nth rBody 9, nth rBody 10, nth rBody 11]) (by kernel_rfl!)) ?_ hs₈' fun s₉ hs₉ => ?_
  · rw [show gotO (runB (rO x w r) 20 (rS8 x old mm fl bl br sp en bb kb) [nth rBody 8, nth rBody 9, nth rBody 10, nth rBody 11]) = .p (0 ≤ (x.length : Int) - 1 ∧ (x.length : Int) - 1 < (x.length : Int) ∧ (x.length : Int) < 4611686018427387904) from by kernel_rfl!]
    exact ⟨by omega, by omega, by omega⟩
  refine endd _ 20 (nth rBody 12) .t s₉ ?_ trivial hs₉
  rw [rVals, if_neg hx]
  unfold rPlain rScalar rSpoilt
  rw [hf, hb, hbr, hsp, hen, hbb, hkb]
  kernel_rfl!

end Mine

namespace Mine
open PySem PySem.W PySem.Calls PyProof.Rows Builtin Builtin.ObjectAttr

namespace AtF
theorem kind_getattr : builtinKind "getattr" = none := by decide +kernel
theorem plain_getattr : plainId "getattr" = true := by decide +kernel
theorem entry_getattr : entryFor table "getattr" = some Builtin.«getattr» := entryFor_of_tree (by kernel_rfl)
theorem args_getattr_3 (a b c : Value) : argsOk "getattr" ⟨[a, b, c], []⟩ := by unfold argsOk; kernel_rfl
theorem kind_hasattr : builtinKind "hasattr" = none := by decide +kernel
theorem plain_hasattr : plainId "hasattr" = true := by decide +kernel
theorem entry_hasattr : entryFor table "hasattr" = some Builtin.«hasattr» := entryFor_of_tree (by kernel_rfl)
theorem args_hasattr_2 (a b : Value) : argsOk "hasattr" ⟨[a, b], []⟩ := by unfold argsOk; kernel_rfl
end AtF

section
variable {prog : Program} {w : World} {A : Around} {E : Value → Shared → Prop} {s : Shared} {K : Frag} {x C : Addr} {ox : Obj} {od : Obj} {name : Str} {t : Tok}

theorem at_open {Q : Value → Shared → Prop} (X : K.In s.heap) (I : InstAt s.heap x ox C (some od)) (hga : findIn K (.ref C) "__getattribute__" = some (some (.builtin "object.__getattribute__")))
    (h : wpAny (model prog w) A.in1 (Builtin.«proto.getattr_hooked» ⟨[.ref x, .str name t], []⟩)
      (fun fin s' => match fin with | .done (.ret v) => wpAny (model prog w) A (handedOut v) Q E s' | _ => False) E s) :
    wpAny (model prog w) A (getAttrBy (.ref x) (.str name t) false) Q E s := by
  obtain ⟨hh, g, d, tk, os⟩ := s
  have L0 := I.type (M := model prog w)
  have L1 := looks_findIn (M := model prog w) X hga
  unfold getAttrBy
  refine wpAny_holding (wpAny_bind (L0.at (wpAny_bind (L1.at ?_))))
  show wpAny _ _ (getAttrEveryday _ _ _) _ _ _
  refine wpAny_bind (wpAny_onRaise (wpAny_runValue (codeAny_builtin F.plainObj_entry_getattr_hooked (wpAny_mono h (fun fin s' z => ?_) fun e s' z => ?_))))
  · rcases fin with (_ | _ | _ | _) | _ <;> first | exact z | exact z.elim
  · exact wpAny_pure z

theorem at_miss {cd : ClassData} {Q : Option Value → Shared → Prop} (hh : A.handled = none) (X : K.In s.heap) (I : InstAt s.heap x ox C (some od)) (hga : findIn K (.ref C) "__getattribute__" = some (some (.builtin "object.__getattribute__")))
    (hf : findObj K C (some od) name = some .missing) (hk : findIn K (.ref C) "__getattr__" = some none) (hcd : clsIn K C = some cd) (hnm : cd.name.cps.foldl (fun k c => k + (Str.utf8Of c).length) 0 ≤ 100)
    (hpre : (s!"'{cd.name.toString}' object has no attribute '").length ≤ 90) (hsz : name.length ≤ 1000)
    (h : ∀ h' tk, (∀ b o, s.heap.get? b = some o → h'.get? b = some o) → Q none { s with heap := h', toks := tk }) :
    wpAny (model prog w) A (getAttrBy? (.ref x) (.str name t)) Q E s := by
  unfold getAttrBy?
  refine wpAny_bind (wpAny_attempt (at_open X I hga ?_))
  obtain ⟨hp, g, d, tk, os⟩ := s
  have L0 := I.type (M := model prog w)
  have L1 := looks_find (M := model prog w) X I hf
  have L2 := looks_findIn (M := model prog w) X hk
  have L3 := looks_clsIn (M := model prog w) X hcd
  refine wpAny_bind (wpAny_pure (wpAny_bind (L0.at (wpAny_bind (L1.at (wpAny_bind (L2.at ?_)))))))
  show wpAny _ _ (noSuchAttribute _ _) _ _ _
  unfold noSuchAttribute
  have LT : Looks (model prog w) hp (typeNameOfCut 100 (.ref x)) cd.name.toString := by
    unfold typeNameOfCut shownTypeOf
    refine Looks.andThen (a := .ref C) (L0.andThen .now) ?_
    unfold typeNameCut
    refine L3.andThen ?_
    dsimp only
    rw [if_pos hnm]
    exact .now
  refine wpAny_bind (LT.at ?_)
  refine wpAny_raiseAttrError hh (fun h' tk' e hx => ?_) (attrMsg_fits hpre (by rw [sizeLine_eq]; omega))
  have f1 := sub_AttributeError
  obtain ⟨t', u', he⟩ := hx.there
  refine wpAny_bind (wpAny_isInstance (T := "AttributeError") (b := true) ⟨_, he, rfl⟩ f1 ?_)
  exact wpAny_pure (h h' tk' hx.keeps)

theorem at_getattr3 {d : Value} {Q : Value → Shared → Prop} (I : InstAt s.heap x ox C (some od)) (X : K.In s.heap) (hm : mroIn K C (.type "module") = some false) (hg : (name != ("get_source" : Str)) = true)
    (h : wpAny (model prog w) A.in1 (getAttrBy? (.ref x) (.str name t)) (fun r s' => match r with | some v => Q v s' | none => Q d s') E s) :
    wpAny (model prog w) A (call (.builtin "getattr") [.ref x, .str name t, d]) Q E s := by
  refine Calls.call_function_entry AtF.kind_getattr AtF.plain_getattr AtF.entry_getattr (AtF.args_getattr_3 _ _ _) ?_
  unfold Builtin.«getattr»
  refine wpAny_bind (wpAny_of_eq (a := [.ref x, .str name t, d]) (by first | rfl | kernel_rfl) ?_)
  dsimp only
  refine wpAny_bind (wpAny_of_eq (a := ()) (by first | rfl | kernel_rfl) ?_)
  obtain ⟨hp, g, dd, tk, os⟩ := s
  have L0 := I.type (M := model prog w)
  have L1 := looks_mroIn (M := model prog w) X hm
  have LI : Looks (model prog w) hp (isInstance (.ref x) (.type "module")) false := L0.andThen L1
  refine wpAny_bind ?_
  iterate 2 k_node
  rw [if_pos hg]
  refine wpAny_pure ?_
  dsimp only
  refine wpAny_bind ?_
  repeat (first | (with_reducible refine wpAny_mono h (fun r s' hr => ?_) fun _ _ e => e) | (with_reducible refine Looks.at (by assumption) ?_) | (with_reducible refine wpAny_bind ?_) | (with_reducible refine nd_bind ?_) | k_node)
  cases r with
  | some v => exact wpAny_pure ⟨_, rfl, hr⟩
  | none => exact wpAny_pure ⟨_, rfl, hr⟩

theorem at_hasattr {Q : Value → Shared → Prop} (I : InstAt s.heap x ox C (some od)) (X : K.In s.heap) (hm : mroIn K C (.type "module") = some false)
    (h : wpAny (model prog w) A.in1 (getAttrBy? (.ref x) (.str name t)) (fun r s' => Q (.bool r.isSome) s') E s) :
    wpAny (model prog w) A (call (.builtin "hasattr") [.ref x, .str name t]) Q E s := by
  refine Calls.call_function_entry AtF.kind_hasattr AtF.plain_hasattr AtF.entry_hasattr (AtF.args_hasattr_2 _ _) ?_
  unfold Builtin.«hasattr»
  refine wpAny_bind (wpAny_of_eq (a := [.ref x, .str name t]) (by first | rfl | kernel_rfl) ?_)
  dsimp only
  refine wpAny_bind (wpAny_of_eq (a := ()) (by first | rfl | kernel_rfl) ?_)
  obtain ⟨hp, g, dd, tk, os⟩ := s
  have L0 := I.type (M := model prog w)
  have L1 := looks_mroIn (M := model prog w) X hm
  have LI : Looks (model prog w) hp (isInstance (.ref x) (.type "module")) false := L0.andThen L1
  repeat (first | (with_reducible refine wpAny_mono h (fun r s' hr => ?_) fun _ _ e => e) | (with_reducible refine Looks.at (by assumption) ?_) | (with_reducible refine wpAny_bind ?_) | (with_reducible refine nd_bind ?_) | k_node)
  cases r <;> exact wpAny_pure ⟨_, rfl, hr⟩

theorem at_bound {h₀ : Heap} {L : Addr} {m : Str → Option Value} {news : List (Addr × Obj)} {es : List DictEntry} {n : Nat} {f : Addr} {Q : Option Value → Shared → Prop} (F : Fr h₀ L s.heap m) (X₀ : K.In h₀) (N : News h₀ L s.heap news) (I : InstAt s.heap x ox C (some (dictOf es n))) (hg : plainGet K C name = true) (hh : hasDictIn K C = true)
    (ha : findIn K (.ref C) name = some (some (.ref f))) (hf : isFn K (.ref f) = true)
    (hgf : specialIn K (.ref f) "__get__" = some (some (.builtin "function.__get__"))) (ht : takesIn K (.ref f) = some false) (hc : copiedNames.contains name = false) (hl : getL name es = some none)
    (h : ∀ q h', Fr h₀ L h' m → News h₀ L h' ((q, methodObj (.ref f) (.ref x)) :: news) → (∀ p ∈ news, p.1 < q) → Q (some (.ref q)) { s with heap := h' }) : wpAny (model prog w) A (getAttrBy? (.ref x) (.str name t)) Q E s := by
  have X := X₀.keeps F.keep
  unfold getAttrBy?
  refine wpAny_bind (wpAny_attempt (at_open X I (plainGet_of hg).1 ?_))
  have L0 := I.type (M := model prog w)
  have L1 := looks_find (M := model prog w) X I (findObj_fn (od := dictOf es n) hh ha hgf ht hc (by show lookIn name (dictOf es n) = _; rw [lookIn_dict, hl]))
  have L2 := looks_findIn (M := model prog w) X (plainGet_of hg).2
  refine wpAny_bind (wpAny_pure (wpAny_bind (L0.here (wpAny_bind (L1.here (wpAny_bind (L2.here ?_)))))))
  show wpAny _ _ (holding [Value.ref f] (call (.builtin "function.__get__") [.ref f, .ref x, .ref C]) >>= ret) _ _ _
  refine wpAny_bind (wpAny_holding (wpAny_call (fn_get X (beq_iff_eq.mp hf) ?_)))
  exact wpAny_pure (handed_on rfl (wpAny_pure (h s.heap.objs.size _ (F.push _) (N.push F _) fun p hp => Heap.lt_size (N p hp).1)))
end
end Mine

namespace Mine
open PySem PySem.W PyProof.Rows PyProof.Rows.LCg

/-- a def that the top holds at an address -/
structure FnAt (P : Pg) (d : Option (Arguments × List Stmt × Scope)) (a : Addr) : Prop where
  keep : keepIn P.K (.ref a) = true
  fn : ∃ oc od osl name qual params body scope doc pm an cdv ct, P.K.lookup a = some ⟨oc, od, .func (fnOf name qual params body scope .none .none doc pm an cdv ct), osl⟩ ∧ codeIn P.K cdv qual = true ∧ d = some (params, body, scope)
theorem fnAt_is {P : Pg} {d : Option (Arguments × List Stmt × Scope)} {a : Addr} (h : FnAt P d a) {params : Arguments} {body : List Stmt} {scope : Scope} (e : d = some (params, body, scope)) :
    ∃ oc od osl name qual doc pm an cdv ct, P.K.lookup a = some ⟨oc, od, .func (fnOf name qual params body scope .none .none doc pm an cdv ct), osl⟩ ∧ codeIn P.K cdv qual = true := by
  obtain ⟨oc, od, osl, name, qual, params', body', scope', doc, pm, an, cdv, ct, h1, h2, h3⟩ := h.fn
  rw [e] at h3
  cases h3
  exact ⟨oc, od, osl, name, qual, doc, pm, an, cdv, ct, h1, h2⟩

/-- an attribute that an object's own dict alone holds -/
structure AttrF (K : Frag) (C : Addr) (name : Str) : Prop where
  g : plainGet K C name = true
  d : hasDictIn K C = true
  a : findIn K (.ref C) name = some none

theorem attr_ok {prog : Program} {w : World} {A : Around} {E : Value → Shared → Prop} {s : Shared} {K : Frag} {h₀ : Heap} {L : Addr} {m : Str → Option Value} {news : List (Addr × Obj)} {x C dx : Addr} {es : List DictEntry} {n : Nat} {name : Str} {v : Value} {Q : Value → Shared → Prop} {expr : Bool}
    (F : Fr h₀ L s.heap m) (X : K.In h₀) (N : News h₀ L s.heap news) (hx : (x, instObj C dx) ∈ news) (hd : (dx, dictOf es n) ∈ news) (a : AttrF K C name) (hl : getL name es = some (some v)) (hv : handedIn v = true) (h : Q v { s with toks := s.toks + 1 }) :
    wpAny (model prog w) A (getAttr (.ref x) name expr) Q E s :=
  get_own F X (InstAt.of_news N hx hd) a.g a.d a.a rfl hl hv h

theorem findObj_miss {K : Frag} {C : Addr} {name : Str} {od : Obj} (a : AttrF K C name) (hc : copiedNames.contains name = false) (hl : lookIn name od = some none) : findObj K C (some od) name = some .missing := by
  obtain ⟨cd, hc', hd⟩ := any_some a.d
  unfold findObj
  have ho : PySem.W.ownOf cd (some od) name = some none := by unfold PySem.W.ownOf; rw [if_pos hd]; exact hl
  rw [hc', Option.bind_some, a.a, Option.bind_some]
  simp only [Option.bind_some, ho, hc, Bool.false_and, Bool.false_eq_true, if_false]

abbrev dSer := dfOf "serializer" (clOf "Emitter" top)

/-- what is known of the classes -/
structure EmK (P : Pg) where
  C : Addr
  D : Addr
  au : AttrF P.K C "allow_unicode"
  us : AttrF P.K C "unicode_supplementary"
  sb : AttrF P.K C "allow_space_break"
  du : AttrF P.K C "dumper"
  sr : AttrF P.K D "_serializer"
  uv : AttrF P.K D "use_version"
  ty : AttrF P.K D "typ"
  dm : mroIn P.K D (.type "module") = some false
  cd : ClassData
  dc : clsIn P.K D = some cd
  dn : cd.name.cps.foldl (fun k c => k + (Str.utf8Of c).length) 0 ≤ 100
  dp : (s!"'{cd.name.toString}' object has no attribute '").length ≤ 90
  ha : nsIn P.K mainGlobals "hasattr" = some none
  pg : plainGet P.K C "serializer" = true
  pd : hasDictIn P.K C = true
  pa : Addr
  pf : findIn P.K (.ref C) "serializer" = some (some (.ref pa))
  ps : specialIn P.K (.ref pa) "__get__" = some (some (.builtin "property.__get__"))
  pt : takesIn P.K (.ref pa) = some true
  fg : Addr
  rest : List Value
  pr : recIn P.K pa "property" = some (.ref fg :: rest)
  ff : FnAt P dSer fg

/-- an emitter among the made objects -/
structure Em (P : Pg) (X : EmK P) (e : Addr) (wide old far room : Bool) (objs : List (Addr × Obj)) where
  de : Addr
  es : List DictEntry
  n : Nat
  d : Addr
  dd : Addr
  es₂ : List DictEntry
  n₂ : Nat
  he : (e, instObj X.C de) ∈ objs
  hde : (de, dictOf es n) ∈ objs
  hd : (d, instObj X.D dd) ∈ objs
  hdd : (dd, dictOf es₂ n₂) ∈ objs
  au : getL "allow_unicode" es = some (some (.bool wide))
  us : getL "unicode_supplementary" es = some (some (.bool far))
  sv : Value
  sb : getL "allow_space_break" es = some (some sv)
  sbv : (sv = .none ∧ room = false) ∨ (sv = .bool true ∧ room = true)
  du : getL "dumper" es = some (some (.ref d))
  sr : getL "_serializer" es₂ = some (some (.ref d))
  ty : getL "typ" es₂ = some none
  vv : Value
  uv : getL "use_version" es₂ = some (some vv)
  uvv : (vv = .none ∧ old = false) ∨ ∃ t j u₁ u₂ k, vv = .ref t ∧ (t, ({ cls := .type "tuple", data := .seq #[.int 1 u₁, .int j u₂] k } : Obj)) ∈ objs ∧ old = (j == 1)

/-- a call where some objects stand -/
def CallOkS (P : Pg) (f : Addr) (us : List Value) (k : Nat) (S : List (Addr × Obj) → Prop) (post : Value → List (Addr × Obj) → Prop) : Prop :=
  ∀ A env h₀ m news (s : Shared) (R : Result → Shared → Prop), Gd P k A env h₀ → S news → Fr h₀ env.locals s.heap m → News h₀ env.locals s.heap news →
    (∀ u new h' tk', Fr h₀ env.locals h' m → News h₀ env.locals h' (new ++ news) → post u new → R (.ok (.ret u)) { s with heap := h', toks := tk' }) →
    codeAny (model P.prog P.w) A (.call (.ref f) ⟨us, []⟩) R s

theorem callOkS_of {P : Pg} {f : Addr} {name qual : Str} {params : Arguments} {body : List Stmt} {scope : Scope} {dV kV doc pm cdv ct oc : Value} {an od : Option Addr} {osl : Array (Option Value)}
    (ho : P.K.lookup f = some ⟨oc, od, .func (fnOf name qual params body scope dV kV doc pm an cdv ct), osl⟩) (hcd : codeIn P.K cdv qual = true) {ps : List Str} {us : List Value}
    (hbind : ∀ s, BindsTo s (fnOf name qual params body scope dV kV doc pm an cdv ct) ⟨us, []⟩ (ps.zip us)) (hloc : ∀ y ∈ ps.zip us, scope.names.lookup y.1 = some .local)
    (hco : scope.isCoroutine = false) (hgen : scope.isGenerator = false) (hk : scope.kind = .function) (hcell : ∀ x ∈ scope.names, x.2 ≠ .cell)
    {k : Nat} {S : List (Addr × Obj) → Prop} {post : Value → List (Addr × Obj) → Prop}
    (run : ∀ A L h₀ news s₀ m, Gd P k A (envOf qual scope L f cdv) h₀ → S news → Fr h₀ L s₀.heap m → News h₀ L s₀.heap news → m = (fun y => (ps.zip us).reverse.lookup y) →
      wpAny (model P.prog P.w) A (execs body (envOf qual scope L f cdv)) (fun fl s' => ∃ u new, fl = .ret u ∧ post u new ∧ ∃ h tk m', s' = { s₀ with heap := h, toks := tk } ∧ Fr h₀ L h m' ∧ News h₀ L h (new ++ news)) (fun _ _ => False) s₀) : CallOkS P f us (k + 1) S post := by
  intro A env h₀ m news s R G hS F N hQ
  obtain ⟨A₀, base, outer, B, hA⟩ := G.below
  refine code_def B F G.X N G.T hA G.frame G.kind ho hcd (by have := G.depth; omega) (hbind s) hloc (fun g L' h₁ Fg F₁ N₁ B₁ X₁ T₁ => ?_) hco hgen hk hcell
  refine wpAny_mono (run (A.deeper (envOf qual scope L' f cdv)) L' g news _ _ ⟨by have := G.depth; show A.depth + 1 + k < _; omega, by have := G.units; show A.units + 3 + 4 * k < _; omega, ⟨A, base, env :: outer, B₁, by show A.frames.map _ = _; rw [hA]; rfl⟩, X₁, T₁, rfl, hk, rfl, rfl, G.calm⟩ hS F₁ N₁ rfl) (fun fl s' hq => ?_) fun _ _ h => h.elim
  obtain ⟨u, new, rfl, hu, h, tk, m', rfl, F', N'⟩ := hq
  exact ⟨L', m', new ++ news, F', N', fun Fb Nb => hQ u new h tk Fb Nb hu⟩

def lkp (l : List Stmt) (n : Nat) : Stmt := nth l n
def tryB : Stmt → List Stmt
  | .Try b _ _ _ _ => b
  | _ => []
def tryH : Stmt → ExceptHandler
  | .Try _ [h] _ _ _ => h
  | _ => .ExceptHandler none none [] default
def tryP : Stmt → Pos
  | .Try _ _ _ _ p => p
  | _ => default
abbrev gBody : List Stmt := bdOf dSer
abbrev gScope : Scope := scOf dSer
def atP : Expr → Pos
  | .Attribute _ _ p => p
  | _ => default
def atV : Expr → Expr
  | .Attribute v _ _ => v
  | _ => .Constant .none 0 default
def retE : Stmt → Expr
  | .Return (some e) _ => e
  | _ => .Constant .none 0 default
def coK : Expr → Nat × Pos
  | .Constant _ k p => (k, p)
  | _ => default
def ifP : Stmt → Pos
  | .If _ _ _ p => p
  | _ => default
/-- self.dumper -/
def asSD (e : Expr) : Expr := .Attribute (.Name "self" (exPos (atV e))) "dumper" (atP e)
theorem gBody_is : gBody = [.Try [.If (.Call (.Name "hasattr" (caF (ifT (nth (tryB (nth gBody 0)) 0)))) [asSD (arg (ifT (nth (tryB (nth gBody 0)) 0)) 0), .Constant (.str "typ") (coK (arg (ifT (nth (tryB (nth gBody 0)) 0)) 1)).1 (coK (arg (ifT (nth (tryB (nth gBody 0)) 0)) 1)).2] [] (caP (ifT (nth (tryB (nth gBody 0)) 0)))) (inB (nth (tryB (nth gBody 0)) 0)) [] (ifP (nth (tryB (nth gBody 0)) 0)),
    .Return (some (.Attribute (asSD (atV (retE (nth (tryB (nth gBody 0)) 1)))) "_serializer" (atP (retE (nth (tryB (nth gBody 0)) 1))))) (stPos (nth (tryB (nth gBody 0)) 1))] [tryH (nth gBody 0)] [] [] (tryP (nth gBody 0))] := by kernel_rfl!

theorem serializer_ok {P : Pg} (X : EmK P) {e : Addr} {wide old far room : Bool} {objs : List (Addr × Obj)} (M : Em P X e wide old far room objs) (k : Nat) :
    CallOkS P X.fg [.ref e] (k + 1) (fun news => ∀ p ∈ objs, p ∈ news) (fun u new => u = .ref M.d ∧ new = []) := by
  have hd := X.ff
  rw [is_some_of (d := dSer) (by decide +kernel)] at hd
  obtain ⟨oc, od, osl, name, qual, doc, pm, an, cdv, ct, e1, e2⟩ := fnAt_is hd rfl
  refine callOkS_of (ps := [Str.ofString "self"]) e1 e2 (fun s => BindsTo.of_eq (by kernel_rfl!)) ?_ (by decide +kernel) (by decide +kernel) (by decide +kernel) (by decide +kernel) ?_
  · have : [Str.ofString "self"].all (fun x => decide ((scOf dSer).names.lookup x = some .local)) = true := by decide +kernel
    exact fun y hy => of_decide_eq_true (List.all_eq_true.mp this y.1 (List.of_mem_zip hy).1)
  rintro A L h₀ news s₀ m G sub F N rfl
  show wpAny _ _ (execs gBody (envOf qual gScope L X.fg cdv)) _ _ _
  rw [gBody_is]
  generalize hm : (fun y => List.lookup y ([Str.ofString "self"].zip [Value.ref e]).reverse) = m at F
  have hself : m (Str.ofString "self") = some (.ref e) := by rw [← hm]; kernel_rfl!
  clear hm
  -- self.dumper
  have sd : ∀ (p₁ p₂ : Pos) (E : Value → Shared → Prop) (s : Shared) (Q : Value → Shared → Prop) (h : Heap) (tk : Nat), s = { s₀ with heap := h, toks := tk } → Fr h₀ L h m → News h₀ L h news →
      (∀ tk', Q (.ref M.d) { s₀ with heap := h, toks := tk' }) → wpAny (model P.prog P.w) A (eval (.Attribute (.Name "self" p₁) "dumper" p₂) (envOf qual gScope L X.fg cdv)) Q E s := by
    rintro p₁ p₂ E s Q h tk rfl F N hQ
    refine Attribute_Name_ (wpAny_Name (wpAny_loadName_local G.kind (show gScope.names.lookup (Str.ofString "self") = some .local by decide +kernel) F.ns hself ?_) (by decide +kernel)) (by with_unfolding_all rfl)
    exact attr_ok F G.X N (sub _ M.he) (sub _ M.hde) X.du M.du rfl (hQ _)
  refine wpAny_execs_cons (wpAny_Try_except (wpAny_execs_cons (wpAny_If (isTrue_plain ?_ (by with_unfolding_all rfl)))))
  have T := topRead_of G.T
  refine Call_ (Calls.Name_function_global G.kind (show gScope.names.lookup (Str.ofString "hasattr") = some .globalImplicit by decide +kernel) (Calls.loadGlobal_builtin (by rw [G.gl]; exact T.g.keeps F.keep) (mg_none_of G.X T.g X.ha) (by rw [G.bi]; exact T.b.keeps F.keep) ((T.builtins "hasattr" (by decide)).trans boot_hasattr) ?_) (by decide)) (by with_unfolding_all rfl)
  refine callWith_builtin1 (args_cons (sd _ _ _ s₀ _ s₀.heap s₀.toks rfl F N fun tk₁ => args_cons (Calls.Constant_str (args_nil ?_)) rfl) rfl) rfl rfl
  have I := InstAt.of_news N (sub _ M.hd) (sub _ M.hdd)
  refine at_hasattr I (G.X.keeps F.keep) X.dm (at_miss G.calm (G.X.keeps F.keep) I (plainGet_of X.ty.g).1 (findObj_miss X.ty (by decide +kernel) (by rw [lookIn_dict]; exact M.ty)) (plainGet_of X.ty.g).2 X.dc X.dn X.dp (by decide) fun h₂ tk₂ hk₂ => ?_)
  refine wpAny_truthy_bool ?_
  rw [if_neg (by decide)]
  refine wpAny_execs_nil ?_
  have F₂ : Fr h₀ L h₂ m := F.keeps hk₂
  have N₂ : News h₀ L h₂ news := N.grown hk₂
  refine wpAny_execs_cons (wpAny_Return_some (Attribute_any_ (sd _ _ _ _ _ h₂ tk₂ rfl F₂ N₂ fun tk₃ => ?_) (by with_unfolding_all rfl)))
  exact attr_ok F₂ G.X N₂ (sub _ M.hd) (sub _ M.hdd) X.sr M.sr rfl ⟨_, [], rfl, ⟨rfl, rfl⟩, h₂, _, m, rfl, F₂, N₂⟩

end Mine

namespace Mine
open PySem PySem.W PyProof.Rows PyProof.Rows.LCg

abbrev azLs : List Str := ["self", "scalar", "block_indicators", "flow_indicators", "line_breaks", "special_characters", "leading_space", "leading_break", "trailing_space", "trailing_break", "break_space", "space_break",
  "preceeded_by_whitespace", "followed_by_whitespace", "previous_space", "previous_break", "index", "ch", "allow_flow_plain", "allow_block_plain", "allow_single_quoted", "allow_double_quoted", "allow_block"]

def azE (e : Addr) (wide far : Bool) (σ : Sg) : Expr → Option (Ob × V)
  | .Attribute (.Name x _) a _ => bif same "self" x then (match look σ "self" with
    | some (.ref e') => bif same "allow_unicode" a then some (.p (e' = e), .bol wide) else bif same "unicode_supplementary" a then some (.p (e' = e), .bol far) else none
    | _ => none) else none
  | .Call (.Attribute (.Name y _) m ap) [.Constant (.str z) _ _] [] cp => bif same "startswith" m && (same "scalar" y && ap.endLine == cp.line) then (match look σ "scalar" with
    | some (.txt x) => some (.t, .bol (Txt.startswith x z))
    | _ => none) else none
  | _ => none
def azT (e : Addr) (old room : Bool) (σ : Sg) : Expr → Option (Ob × Bool)
  | .Attribute (.Name x _) a _ => bif same "self" x && same "allow_space_break" a then (match look σ "self" with
    | some (.ref e') => some (.p (e' = e), room)
    | _ => none) else none
  | .Compare (.Attribute (.Attribute (.Name x _) a _) b _) [.Eq] [.Tuple [.Constant (.int 1) _ _, .Constant (.int 1) _ _] _ _] _ => bif same "self" x && (same "serializer" a && same "use_version" b) then (match look σ "self" with
    | some (.ref e') => some (.p (e' = e), old)
    | _ => none) else none
  | _ => none
def azO (e : Addr) (wide old far room : Bool) : Orc := { mkO azLs ["len"] with e := azE e wide far, t := azT e old room }

theorem Gd.in1 {P : Pg} {k : Nat} {A : Around} {env : Env} {h₀ : Heap} (G : Gd P (k + 1) A env h₀) : Gd P k A.in1 env h₀ :=
  ⟨by have := G.depth; show A.depth + k < _; omega, by have := G.units; show A.units + 1 + 4 * k < _; omega, G.below, G.X, G.T, G.frame, G.kind, G.gl, G.bi, G.calm⟩

theorem meth_pos {few : Bool} {o : Expr} {env : Env} {apos pos : Pos} (h : (apos.endLine == pos.line) = true) : methodCallPos few o env apos pos = pure pos := by
  unfold methodCallPos
  rw [h, Bool.or_true, if_pos rfl]
theorem meth_eq {y m : Str} {py pm pos pz : Pos} {z : Str} {kz : Nat} {env : Env} (h : (pm.endLine == pos.line) = true) : eval (.Call (.Attribute (.Name y py) m pm) [.Constant (.str z) kz pz] [] pos) env = (do
      let ov ← eval (.Name y py) env
      standAt pm.atName
      let (f, first) ← holding [ov] (getMethod ov m (do return (← importBound (.Name y py) env).getD true))
      callWith pos f first (backTo pos (starEach [.Constant (.str z) kz pz] env)) []) := by
  show (do
      let ov ← eval (.Name y py) env
      standAt pm.atName
      let (f, first) ← holding [ov] (getMethod ov m (do return (← importBound (.Name y py) env).getD true))
      let callPos ← methodCallPos (methodCallForm 1 (backTo pos (starEach [.Constant (.str z) kz pz] env)) []) (.Name y py) env pm pos
      callWith callPos f first (backTo pos (starEach [.Constant (.str z) kz pz] env)) []) = _
  simp only [meth_pos h]
  rfl
theorem tup_is {h : Heap} {a : Addr} {items : Array Value} (x : IsTup h a items) : h.IsTuple a items := by
  obtain ⟨o, h1, h2, h3⟩ := x
  exact ⟨o, h1, h2, h3⟩

section
variable {P : Pg} {X : EmK P} {e : Addr} {wide old far room : Bool} {objs : List (Addr × Obj)} {k : Nat} {A : Around} {env : Env} {h₀ : Heap} {news : List (Addr × Obj)} {s₀ : Shared}

theorem self_ok (G : Gd P k A env h₀) (hx : env.kindOf "self" = some .local) {σ : Sg} {e' : Addr} (hl : look σ "self" = some (.ref e')) (he : e' = e) {p q : Pos} {a : Str} {s : Shared} {Q : Value → Shared → Prop} (hs : (fBx P A env h₀ news s₀).H σ s)
    (h : (fBx P A env h₀ news s₀).run (getAttr (.ref e) a true) Q s) : (fBx P A env h₀ news s₀).run (eval (.Attribute (.Name "self" p) a q) env) Q s := by
  subst he
  obtain ⟨m, ⟨hh, tk, rfl, F, N⟩, fm⟩ := hs
  obtain ⟨u, hu, hv⟩ := fm "self" _ hl (by intro q; cases q)
  cases hv
  exact Attribute_Name_ (wpAny_Name (wpAny_loadName_local G.kind hx F.ns hu h) (by decide +kernel)) (by with_unfolding_all rfl)

/-- self.serializer.use_version == (1, 1) -/
theorem old_ok (M : Em P X e wide old far room objs) (G : Gd P (k + 3) A env h₀) (sub : ∀ p ∈ objs, p ∈ news) (hx : env.kindOf "self" = some .local) {σ : Sg} {e' : Addr} (hl : look σ "self" = some (.ref e')) {p₁ p₂ p₃ p₄ p₅ p₆ pos : Pos} {k₁ k₂ k₃ : Nat} :
    (fBx P A env h₀ news s₀).TrOk σ (.Compare (.Attribute (.Attribute (.Name "self" p₁) "serializer" p₂) "use_version" p₃) [.Eq] [.Tuple [.Constant (.int 1) k₁ p₄, .Constant (.int 1) k₂ p₅] k₃ p₆] pos) (.p (e' = e)) old := by
  intro hob s Q hs hQ
  refine wpAny_isTrue_Compare1 (Attribute_any_ (self_ok G hx hl hob hs ?_) (by with_unfolding_all rfl)) (by with_unfolding_all rfl)
  obtain ⟨m, ⟨hh, tk, rfl, F, N⟩, fm⟩ := hs
  have I := InstAt.of_news N (sub _ M.he) (sub _ M.hde)
  refine get_prop F G.X I X.pg X.pd X.pf X.ps X.pt X.pr ?_
  refine serializer_ok X M (k + 1) A.in1 env h₀ m news _ _ G.in1 sub F N ?_
  · rintro u new h₁ tk₁ F₁ N₁ ⟨rfl, rfl⟩
    refine handed_on rfl ?_
    have hin : handedIn M.vv = true := by
      rcases M.uvv with ⟨h, _⟩ | ⟨t, j, u₁, u₂, n, h, _⟩ <;> rw [h] <;> rfl
    refine attr_ok F₁ G.X N₁ (sub _ M.hd) (sub _ M.hdd) X.uv M.uv hin ?_
    refine Tuple_ (args_cons (wpAny_Constant_int (args_cons (wpAny_Constant_int (args_nil ?_)) rfl)) rfl)
    refine newTuple_N F₁ N₁ (fun h₂ F₂ N₂ => ?_) (by rw [sizeLine_eq]; exact Nat.le_of_ble_eq_true rfl)
    have hb := tup_is (N₂.isTup (.head _))
    have hu : A.units < cLine := by have := G.units; omega
    have fin : ∀ c, c = old → Q c { s₀ with heap := h₂, toks := tk₁ + 1 + 1 + 1 } := by
      rintro c rfl
      exact hQ _ ⟨m, ⟨h₂, _, rfl, F₂, fun p hp => N₂ p (.tail _ hp)⟩, fm⟩
    rcases M.uvv with ⟨h, ho⟩ | ⟨t, j, u₁, u₂, n, h, hm, ho⟩
    · rw [h]
      exact SeqAt.RcAt.none_tuple hb hu P.prog P.w _ _ (wpAny_truthy_bool (fin _ ho.symm))
    · rw [h]
      have ht := tup_is (N₂.isTup (.tail _ (sub _ hm)))
      refine SeqAt.RcAt.tuples (e := fun i => match i with | 0 => true | _ => j == 1) ht hb hu (fun i h1 h2 => ?_) P.prog P.w _ _ (wpAny_truthy_bool (fin _ ?_))
      · match i with
        | 0 => exact SeqAt.EqAt.int_int _ _ _ _
        | 1 => exact SeqAt.EqAt.int_int _ _ _ _
      · rw [ho]
        cases (j == 1) <;> rfl

theorem azO_okS (M : Em P X e wide old far room objs) (Y : Facts P) (G : Gd P (k + 3) A env h₀) (sub : ∀ p ∈ objs, p ∈ news) (hls : ∀ x ∈ azLs, env.kindOf x = some .local ∧ (x == ("__debug__" : Str)) = false) (hln : env.kindOf "len" = some .globalImplicit) :
    (azO e wide old far room).OkS (fBx P A env h₀ news s₀) where
  hk := G.kind
  loc := fun x hx => hls x (any_same hx)
  g := (mkO_ok (B := fBx P A env h₀ news s₀) Y fBx_on G G.kind G.gl G.bi hls (gs := ["len"]) (forall1 ⟨hln, by decide +kernel⟩) (.inr (by decide +kernel))).g
  c := (mkO_ok (B := fBx P A env h₀ news s₀) Y fBx_on G G.kind G.gl G.bi hls (gs := ["len"]) (forall1 ⟨hln, by decide +kernel⟩) (.inr (by decide +kernel))).c
  e := by
    intro σ ex ob v h
    have hx : env.kindOf "self" = some .local := (hls _ (.head _)).1
    have h' : azE e wide far σ ex = some (ob, v) := h
    unfold azE at h'
    split at h'
    · rename_i x p a q
      cases e₁ : same "self" x with
      | false => rw [e₁] at h'; cases h'
      | true =>
        rw [e₁] at h'
        have := same_iff.mp e₁
        subst this
        simp only [cond_true] at h'
        split at h'
        · rename_i e' hl
          cases e₂ : same "allow_unicode" a with
          | true =>
            rw [e₂] at h'
            have := same_iff.mp e₂
            subst this
            cases h'
            intro hob s Q hs hQ
            refine self_ok G hx hl hob hs ?_
            obtain ⟨m, ⟨hh, tk, rfl, F, N⟩, fm⟩ := hs
            exact attr_ok F G.X N (sub _ M.he) (sub _ M.hde) X.au M.au rfl (hQ _ _ ⟨m, ⟨hh, _, rfl, F, N⟩, fm⟩ rfl)
          | false =>
            rw [e₂] at h'
            simp only [cond_false] at h'
            cases e₃ : same "unicode_supplementary" a with
            | false => rw [e₃] at h'; cases h'
            | true =>
              rw [e₃] at h'
              have := same_iff.mp e₃
              subst this
              cases h'
              intro hob s Q hs hQ
              refine self_ok G hx hl hob hs ?_
              obtain ⟨m, ⟨hh, tk, rfl, F, N⟩, fm⟩ := hs
              exact attr_ok F G.X N (sub _ M.he) (sub _ M.hde) X.us M.us rfl (hQ _ _ ⟨m, ⟨hh, _, rfl, F, N⟩, fm⟩ rfl)
        · cases h'
    · rename_i y py mm pm z kz pz pos
      cases e₁ : same "startswith" mm with
      | false => rw [e₁] at h'; cases h'
      | true =>
        rw [e₁] at h'
        have := same_iff.mp e₁
        subst this
        cases e₂ : same "scalar" y with
        | false => rw [e₂] at h'; cases h'
        | true =>
          rw [e₂] at h'
          have := same_iff.mp e₂
          subst this
          cases e₃ : (pm.endLine == pos.line) with
          | false => rw [e₃] at h'; cases h'
          | true =>
          rw [e₃] at h'
          simp only [Bool.and_true, cond_true] at h'
          split at h'
          · rename_i x hl
            cases h'
            intro hob s Q hs hQ
            have hs' := hs
            obtain ⟨m, ⟨hh, tk, rfl, F, N⟩, fm⟩ := hs
            obtain ⟨u, hu, hv⟩ := fm "scalar" _ hl (by intro q; cases q)
            obtain ⟨t, rfl⟩ := hv
            refine MethodCall_ (pl := do return (← importBound (.Name "scalar" py) env).getD true) (wpAny_Name (wpAny_loadName_local G.kind (hls "scalar" (.tail _ (.head _))).1 F.ns hu ?_) (by decide +kernel)) ?_
            rotate_left
            · exact meth_eq e₃
            refine GM.startswith (PyProof.Rows.callWith_method1 (args_cons (wpAny_Constant_str (args_nil ?_)) rfl) rfl rfl)
            exact SC.startswith (hQ _ _ (hs'.toks _) rfl)
          · cases h'
    · cases h'
  t := by
    intro σ ex ob c h
    have hx : env.kindOf "self" = some .local := (hls _ (.head _)).1
    have h' : azT e old room σ ex = some (ob, c) := h
    unfold azT at h'
    split at h'
    · rename_i x p a q
      cases e₁ : same "self" x with
      | false => rw [e₁] at h'; cases h'
      | true =>
        rw [e₁] at h'
        have := same_iff.mp e₁
        subst this
        cases e₂ : same "allow_space_break" a with
        | false => rw [e₂] at h'; cases h'
        | true =>
          rw [e₂] at h'
          have := same_iff.mp e₂
          subst this
          simp only [Bool.and_true, cond_true] at h'
          split at h'
          · rename_i e' hl
            cases h'
            intro hob s Q hs hQ
            refine isTrue_plain (self_ok G hx hl hob hs ?_) (by with_unfolding_all rfl)
            obtain ⟨m, ⟨hh, tk, rfl, F, N⟩, fm⟩ := hs
            have hin : handedIn M.sv = true := by
              rcases M.sbv with ⟨h, _⟩ | ⟨h, _⟩ <;> rw [h] <;> rfl
            refine attr_ok F G.X N (sub _ M.he) (sub _ M.hde) X.sb M.sb hin ?_
            have fin : Q room { s₀ with heap := hh, toks := tk + 1 } := hQ _ ⟨m, ⟨hh, _, rfl, F, N⟩, fm⟩
            rcases M.sbv with ⟨h, hr⟩ | ⟨h, hr⟩ <;> rw [h]
            · rw [hr] at fin
              exact truthy_none fin
            · rw [hr] at fin
              exact wpAny_truthy_bool fin
          · cases h'
    · rename_i x p₁ a p₂ b p₃ k₁ p₄ k₂ p₅ k₃ p₆ pos
      cases e₁ : same "self" x with
      | false => rw [e₁] at h'; cases h'
      | true =>
        rw [e₁] at h'
        have := same_iff.mp e₁
        subst this
        cases e₂ : same "serializer" a with
        | false => rw [e₂] at h'; cases h'
        | true =>
          rw [e₂] at h'
          have := same_iff.mp e₂
          subst this
          cases e₃ : same "use_version" b with
          | false => rw [e₃] at h'; cases h'
          | true =>
            rw [e₃] at h'
            have := same_iff.mp e₃
            subst this
            simp only [Bool.and_true, cond_true] at h'
            split at h'
            · rename_i e' hl
              cases h'
              exact old_ok M G sub hx hl
            · cases h'
    · cases h'
  st := fBx_st
  s := by
    intro σ st ob ch h
    cases h
end
end Mine

namespace Mine
open PySem PySem.W PyProof.Rows PyProof.Rows.LCg

/-- a dict whose keys are these texts, in this order -/
inductive EntIs : List (Str × Value) → List DictEntry → Prop
  | nil : EntIs [] []
  | cons {a : Str} {u : Value} {l : List (Str × Value)} {es : List DictEntry} (h : Int) (t : Tok) (r : EntIs l es) : EntIs ((a, u) :: l) (⟨h, .str a t, u⟩ :: es)

theorem EntIs.snoc {l : List (Str × Value)} {es : List DictEntry} (e : EntIs l es) (a : Str) (u : Value) (h : Int) (t : Tok) (hn : ∀ p ∈ l, p.1 ≠ a) : EntIs (l ++ [(a, u)]) (putL a h (.str a t) u es) := by
  induction e with
  | nil => exact .cons h t .nil
  | @cons b v l es h' t' r ih =>
    unfold putL
    have : (Value.str b t').isStr a = false := by
      show (b == a) = false
      simpa using hn _ (.head _)
    rw [show (({ hash := h', key := Value.str b t', val := v } : DictEntry).key).isStr a = false from this]
    exact .cons h' t' (ih fun p hp => hn p (.tail _ hp))
theorem EntIs.len {l : List (Str × Value)} {es : List DictEntry} (e : EntIs l es) : es.length = l.length := by
  induction e with
  | nil => rfl
  | cons h t r ih => simp [ih]
theorem EntIs.noRef {l : List (Str × Value)} {es : List DictEntry} (e : EntIs l es) : es.any (·.refKey) = false := by
  induction e with
  | nil => rfl
  | cons h t r ih => rw [List.any_cons, ih]; rfl
theorem EntIs.there {l : List (Str × Value)} {es : List DictEntry} (e : EntIs l es) (a : Str) : (getL a es).isSome = true := by
  unfold getL
  split
  · rfl
  · rw [e.noRef]; rfl
theorem EntIs.get {l : List (Str × Value)} {es : List DictEntry} (e : EntIs l es) {a : Str} {u : Value} (h : l.lookup a = some u) : getL a es = some (some u) := by
  induction e with
  | nil => cases h
  | @cons b v l es h' t' r ih =>
    unfold getL
    rw [List.find?_cons]
    rw [List.lookup_cons] at h
    have hk : ({ hash := h', key := Value.str b t', val := v } : DictEntry).key.isStr a = (b == a) := rfl
    by_cases q : b = a
    · subst q
      rw [hk, beq_self_eq_true]
      rw [beq_self_eq_true] at h
      cases h
      rfl
    · have q1 : (b == a) = false := by simpa using q
      have q2 : (a == b) = false := by simpa using fun h => q h.symm
      rw [q2] at h
      rw [hk, q1]
      have := ih h
      unfold getL at this
      split at this <;> rename_i he
      · rw [he]; exact this
      · split at this <;> cases this

abbrev dSaI := dfOf "__init__" (clOf "ScalarAnalysis" top)
abbrev saNs : List Str := ["scalar", "empty", "multiline", "allow_flow_plain", "allow_block_plain", "allow_single_quoted", "allow_double_quoted", "allow_block"]

/-- what is known of the class of answers -/
structure SaK (P : Pg) where
  S : Addr
  glob : nsIn P.K mainGlobals "ScalarAnalysis" = some (some (.ref S))
  keep : keepIn P.K (.ref S) = true
  mk' : makesIn P.K S = true
  fI : Addr
  hi : findIn P.K (.ref S) "__init__" = some (some (.ref fI))
  hf : isFn P.K (.ref fI) = true
  ff : FnAt P dSaI fI
  sa : findIn P.K (.ref S) "__setattr__" = some (some (.builtin "object.__setattr__"))
  po : plainOver P.K S = true
  hd : hasDictIn P.K S = true
  tk : ∀ a ∈ saNs, takerIn P.K S a = some none
  at' : ∀ a ∈ saNs, AttrF P.K S a

def asgAt : Stmt → Pos × Pos × Pos
  | .Assign [.Attribute (.Name _ p) _ q] (.Name _ r) _ => (p, q, r)
  | _ => default
/-- self.a = a -/
def asSet (a : Str) (st : Stmt) : Stmt := .Assign [.Attribute (.Name "self" (asgAt st).1) a (asgAt st).2.1] (.Name a (asgAt st).2.2) (stPos st)
def setsB : List (Str × Stmt) → List Stmt
  | [] => []
  | (a, st) :: r => asSet a st :: setsB r

theorem sets_ok {P : Pg} (Z : SaK P) {A : Around} {L f x dx : Addr} {qual : Str} {cdv : Value} {scope : Scope} {g : Heap} {m : Str → Option Value} {news : List (Addr × Obj)} (X : P.K.In g) (hk : scope.kind = .function)
    (hself : scope.names.lookup (Str.ofString "self") = some .local) (hms : m (Str.ofString "self") = some (.ref x)) (hdx : dx < x) (hne : ∀ p ∈ news, p.1 < dx) (val : Str → Value) {Q : Flow → Shared → Prop} {gens : Array GenState} {dr : Drawn} {os : OsState} :
    ∀ (l : List (Str × Stmt)) (done : List (Str × Value)) (es : List DictEntry) (n : Nat) (h : Heap) (tk : Nat), EntIs done es → (∀ p ∈ l, p.1 ∈ saNs ∧ (p.1 == ("__debug__" : Str)) = false ∧ scope.names.lookup p.1 = some .local ∧ m p.1 = some (val p.1) ∧ ∀ q ∈ done, q.1 ≠ p.1) → (l.map (·.1)).Nodup → done.length + l.length ≤ 1000 →
      Fr g L h m → News g L h ((x, instObj Z.S dx) :: (dx, dictOf es n) :: news) →
      (∀ es' n' h' tk', EntIs (done ++ l.map fun p => (p.1, val p.1)) es' → Fr g L h' m → News g L h' ((x, instObj Z.S dx) :: (dx, dictOf es' n') :: news) → Q .next ⟨h', gens, dr, tk', os⟩) →
      wpAny (model P.prog P.w) A (execs (setsB l) (envOf qual scope L f cdv)) Q (fun _ _ => False) ⟨h, gens, dr, tk, os⟩
  | [], done, es, n, h, tk, he, _, _, _, F, N, k => by
    refine wpAny_execs_nil (k es n h tk ?_ F N)
    rw [List.map_nil, List.append_nil]; exact he
  | (a, st) :: l, done, es, n, h, tk, he, hl, hnd, hz, F, N, k => by
    obtain ⟨ha, hd, hloc, hv, hq⟩ := hl _ (.head _)
    rw [List.map_cons, List.nodup_cons] at hnd
    refine wpAny_execs_cons (plainObj_wpAny_Assign_Attribute (wpAny_Name (wpAny_loadName_local hk hloc F.ns hv (wpAny_Name (wpAny_loadName_local hk hself F.ns hms ?_) (by decide +kernel))) hd) (by with_unfolding_all rfl))
    have I := InstAt.of_news N (.head _) (.tail _ (.head _))
    refine set_dict F X N I rfl Z.sa Z.po (Z.tk a ha) Z.hd (he.there a) rfl (.tail (Nat.ne_of_gt hdx) (.head fun p hp => Nat.ne_of_lt (hne p hp))) ?_ fun h' F' N' => ?_
    · rw [(he.snoc a (val a) _ _ hq).len]
      simp only [List.length_append, List.length_cons, List.length_nil] at hz ⊢
      omega
    · refine sets_ok Z X hk hself hms hdx hne val l (done ++ [(a, val a)]) _ _ h' _ (he.snoc a (val a) _ _ hq) (fun p hp => ?_) hnd.2 ?_ F' N' fun es' n' h'' tk' he' F'' N'' => k es' n' h'' tk' ?_ F'' N''
      · obtain ⟨b1, b2, b3, b4, b5⟩ := hl p (.tail _ hp)
        refine ⟨b1, b2, b3, b4, fun q hq' => ?_⟩
        rcases List.mem_append.mp hq' with hq' | hq'
        · exact b5 q hq'
        · rw [List.mem_singleton.mp hq']
          exact fun e => hnd.1 (List.mem_map.mpr ⟨p, hp, e.symm⟩)
      · simp only [List.length_append, List.length_cons, List.length_nil] at hz ⊢
        omega
      · rw [List.append_assoc] at he'
        exact he'

/-! keywords -/
def kwE : List Keyword → List Expr
  | [] => []
  | k :: r => k.value :: kwE r
def kwOk : List Keyword → Bool
  | [] => true
  | k :: r => k.arg.isSome && kwOk r
theorem kw_ok {B : Bx} {O : Orc} (hO : O.Ok B) {n : Nat} {σ : Sg} {pos : Pos} : ∀ (kws : List Keyword) (ob : Ob) (vs : List V) (s : Shared) (Q : List Value → Shared → Prop), kwOk kws = true → evs (ev O n σ) (kwE kws) = some (ob, vs) → ob.ok → B.H σ s →
    (∀ us s', B.H σ s' → AllIs vs us → Q us s') → B.run (evalAll ((backToKw pos (keywordEach kws B.env)).map (·.2))) Q s
  | [], ob, vs, s, Q, _, h, _, hs, k => by
    cases h
    exact kwAll_nil (k [] s hs .nil)
  | ⟨none, e, p⟩ :: r, ob, vs, s, Q, hk, h, hob, hs, k => by cases hk
  | ⟨some a, e, p⟩ :: r, ob, vs, s, Q, hk, h, hob, hs, k => by
    have h' : evs (ev O n σ) (e :: kwE r) = some (ob, vs) := h
    unfold evs at h'
    cases hn : noStar e with
    | false => rw [hn] at h'; cases h'
    | true =>
      rw [hn] at h'
      simp only [cond_true] at h'
      split at h'
      · rename_i o₁ v o₂ vs' h₁ h₂
        cases h'
        obtain ⟨ha, hb⟩ := Ob.two_ok hob
        refine kwAll_cons (ev_ok hO n σ e o₁ v h₁ ha s _ hs fun u s₁ hs₁ hu => ?_)
        exact kw_ok hO r o₂ vs' s₁ _ hk h₂ hb hs₁ fun us s₂ hs₂ hus => k (u :: us) s₂ hs₂ (.cons hu hus)
      · cases h'

abbrev iBody : List Stmt := bdOf dSaI
abbrev iScope : Scope := scOf dSaI
def iL : List (Str × Stmt) := [("scalar", nth iBody 0), ("empty", nth iBody 1), ("multiline", nth iBody 2), ("allow_flow_plain", nth iBody 3), ("allow_block_plain", nth iBody 4), ("allow_single_quoted", nth iBody 5), ("allow_double_quoted", nth iBody 6), ("allow_block", nth iBody 7)]
theorem iBody_is : iBody = setsB iL := by kernel_rfl!

theorem eight_is {vs : List V} {us : List Value} (h : AllIs vs us) (hl : vs.length = 8) : ∃ a b c d e f g i, us = [a, b, c, d, e, f, g, i] := by
  have h' := all_len h
  rw [hl] at h'
  match us, h' with
  | [a, b, c, d, e, f, g, i], _ => exact ⟨a, b, c, d, e, f, g, i, rfl⟩

theorem sa_ok {P : Pg} (Z : SaK P) {k : Nat} {A : Around} {env : Env} {h₀ : Heap} {news : List (Addr × Obj)} {s₀ : Shared} {O : Orc} (hO : O.Ok (fBx P A env h₀ news s₀)) (G : Gd P (k + 2) A env h₀) (hx : env.kindOf "ScalarAnalysis" = some .globalImplicit)
    {n : Nat} {σ : Sg} {kws : List Keyword} {ob : Ob} {vs : List V} (hkw : kwOk kws = true) (hall : ∀ pos, (backToKw pos (keywordEach kws env)).all (·.1.isSome) = true) (hplain : ∀ pos, ((backTo pos (starEach [] env)).any (·.1) || (backToKw pos (keywordEach kws env)).any (·.1.isNone)) = false)
    (hnm : ∀ pos, (backToKw pos (keywordEach kws env)).filterMap (·.1) = saNs) (he : evs (ev O n σ) (kwE kws) = some (ob, vs)) (hob : ob.ok) (hl : vs.length = 8) {pf pos : Pos} {s : Shared} {Q : Value → Shared → Prop} (hs : (fBx P A env h₀ news s₀).H σ s)
    (hc : eval (.Call (.Name "ScalarAnalysis" pf) [] kws pos) env = (do let f ← eval (.Name "ScalarAnalysis" pf) env; callWith pos f [] (backTo pos (starEach [] env)) (backToKw pos (keywordEach kws env))))
    (kk : ∀ r dr es n us h' tk' m', AllIs vs us → EntIs (saNs.zip us) es → Fr h₀ env.locals h' m' → News h₀ env.locals h' ((r, instObj Z.S dr) :: (dr, dictOf es n) :: news) → Q (.ref r) { s₀ with heap := h', toks := tk' }) :
    (fBx P A env h₀ news s₀).run (eval (.Call (.Name "ScalarAnalysis" pf) [] kws pos) env) Q s := by
  have hs' := hs
  obtain ⟨m, ⟨hh, tk, rfl, F, N⟩, fm⟩ := hs
  show wpAny _ _ (eval (.Call (.Name "ScalarAnalysis" pf) [] kws pos) env) _ _ _
  rw [hc]
  refine wpAny_bind (nameG_K F G.X (topRead_of G.T) Z.glob ?_ G.gl G.kind hx (by decide +kernel))
  refine callWith_KW0 G.X Z.keep (hall pos) (kw_ok hO kws ob vs _ _ hkw he hob hs' fun us s₁ hs₁ hus => ?_) (hplain pos)
  obtain ⟨m₁, ⟨h₁, tk₁, rfl, F₁, N₁⟩, f₁⟩ := hs₁
  refine ⟨G.X.keeps F₁.keep, ?_⟩
  rw [hnm pos]
  refine call_cls F₁ G.X N₁ Z.mk' Z.hi Z.hf fun x dx h₂ F₂ N₂ hlt hdx => ?_
  have hd := Z.ff
  rw [is_some_of (d := dSaI) (by decide +kernel)] at hd
  obtain ⟨oc, od, osl, name, qual, doc, pm, an, cdv, ct, e1, e2⟩ := fnAt_is hd rfl
  obtain ⟨a, b, c, d, e, f, g, i, rfl⟩ := eight_is hus hl
  obtain ⟨A₀, base, outer, B, hA⟩ := G.below
  refine code_def (binds := (("self" : Str), Value.ref x) :: saNs.zip [a, b, c, d, e, f, g, i]) B F₂ G.X N₂ G.T hA G.frame G.kind e1 e2 (by have := G.depth; show A.depth + 1 < _; omega) (BindsTo.of_eq (by kernel_rfl!)) ?_ (fun gg L' h₃ Fg F₃ N₃ B₃ X₃ T₃ => ?_) (by decide +kernel) (by decide +kernel) (by decide +kernel) (by decide +kernel)
  · have : ((Str.ofString "self") :: saNs).all (fun x => decide ((scOf dSaI).names.lookup x = some .local)) = true := by decide +kernel
    intro y hy
    refine of_decide_eq_true (List.all_eq_true.mp this y.1 ?_)
    rcases List.mem_cons.mp hy with rfl | hy
    · exact .head _
    · exact .tail _ (List.of_mem_zip hy).1
  · show wpAny _ _ (execs iBody (envOf qual iScope L' Z.fI cdv)) _ _ _
    rw [iBody_is]
    generalize hm : (fun y => List.lookup y ((Str.ofString "self", Value.ref x) :: saNs.zip [a, b, c, d, e, f, g, i]).reverse) = m' at F₃
    have hself : m' (Str.ofString "self") = some (.ref x) := by rw [← hm]; kernel_rfl!
    refine wpAny_mono (sets_ok Z X₃ (by decide +kernel) (by decide +kernel) hself hdx hlt (fun y => ((saNs.zip [a, b, c, d, e, f, g, i]).lookup y).getD .none) (Q := fun fl s' => fl = .next ∧ ∃ es' n' h' tk', s' = ⟨h', s₀.gens, s₀.drawn, tk', s₀.os⟩ ∧ EntIs (saNs.zip [a, b, c, d, e, f, g, i]) es' ∧ Fr gg L' h' m' ∧ News gg L' h' ((x, instObj Z.S dx) :: (dx, dictOf es' n') :: news)) iL [] [] 0 h₃ _ .nil (fun p hp => ?_) (by decide +kernel) (by decide) F₃ N₃ fun es' n' h' tk' he' F' N' => ⟨rfl, es', n', h', tk', rfl, he', F', N'⟩) (fun fl s' hq => ?_) fun _ _ h => h.elim
    · have st : ∀ q : Str × Stmt, m' q.1 = some (((saNs.zip [a, b, c, d, e, f, g, i]).lookup q.1).getD .none) → decide (q.1 ∈ saNs ∧ (q.1 == ("__debug__" : Str)) = false ∧ iScope.names.lookup q.1 = some .local) = true → q.1 ∈ saNs ∧ (q.1 == ("__debug__" : Str)) = false ∧ iScope.names.lookup q.1 = some .local ∧ m' q.1 = some (((saNs.zip [a, b, c, d, e, f, g, i]).lookup q.1).getD .none) ∧ ∀ r ∈ ([] : List (Str × Value)), r.1 ≠ q.1 := by
        intro q h1 h2
        obtain ⟨h2, h3, h4⟩ := of_decide_eq_true h2
        exact ⟨h2, h3, h4, h1, fun r hr => by cases hr⟩
      simp only [iL, List.mem_cons, List.not_mem_nil, or_false] at hp
      rcases hp with rfl | rfl | rfl | rfl | rfl | rfl | rfl | rfl <;> exact st _ (by rw [← hm]; kernel_rfl!) (by decide +kernel)
    · obtain ⟨rfl, es', n', h', tk', rfl, he', F', N'⟩ := hq
      exact ⟨L', m', _, F', N', fun Fb Nb => ⟨rfl, kk x dx es' n' _ h' tk' m₁ hus he' Fb Nb⟩⟩

end Mine

namespace Mine
open PySem PySem.W PyProof.Rows PyProof.Rows.LCg

abbrev it (x : Str) (i : Nat) : Str := Txt.item x (i : Int)
def aPw (x : Str) : Nat → Bool
  | 0 => true
  | i + 1 => inPt (it x i) lawWhite
def aFw (x : Str) : Nat → Bool
  | 0 => (x.length : Int) == 1 || inPt (Txt.item x 1) lawWhite
  | i + 1 => decide ((x.length : Int) ≤ (i : Int) + 1 + 1) || inPt (Txt.item x ((i : Int) + 1 + 1)) lawWhite
def aPs (x : Str) : Nat → Bool
  | 0 => false
  | i + 1 => bif it x i == ⟨#[32]⟩ then true else bif inPt (it x i) lawBreaks then false else false
def aPb (x : Str) : Nat → Bool
  | 0 => false
  | i + 1 => bif it x i == ⟨#[32]⟩ then false else bif inPt (it x i) lawBreaks then true else false
def aHd (x : Str) : Bool := Txt.startswith x ⟨#[45, 45, 45]⟩ || Txt.startswith x ⟨#[46, 46, 46]⟩
def aBI (x : Str) : Nat → Bool
  | 0 => bif aHd x then true else false
  | i + 1 => bif (i : Int) == 0 then
      bif it x i == ⟨#[45]⟩ && aFw x i then true
      else bif inPt (it x i) ⟨#[63, 58]⟩ then
        bif aFw x i then true else bif inPt (it x i) leadLit then true else aBI x i
      else bif inPt (it x i) leadLit then true else aBI x i
    else bif it x i == ⟨#[35]⟩ && aPw x i then true
      else bif it x i == ⟨#[58]⟩ then bif aFw x i then true else aBI x i else aBI x i
def aFI (x : Str) (old : Bool) : Nat → Bool
  | 0 => bif aHd x then true else false
  | i + 1 => bif (i : Int) == 0 then
      bif it x i == ⟨#[45]⟩ && aFw x i then true
      else bif inPt (it x i) ⟨#[63, 58]⟩ then
        bif old then true else bif (x.length : Int) == 1 then true else bif inPt (it x i) leadLit then true else aFI x old i
      else bif inPt (it x i) leadLit then true else aFI x old i
    else bif it x i == ⟨#[35]⟩ && aPw x i then true
      else bif it x i == ⟨#[58]⟩ then
        bif aFw x i then true else bif it x i == ⟨#[63]⟩ && old then true else bif inPt (it x i) flowLit then true else aFI x old i
      else bif it x i == ⟨#[63]⟩ && old then true else bif inPt (it x i) flowLit then true else aFI x old i
def aLB (x : Str) : Nat → Bool
  | 0 => false
  | i + 1 => bif inPt (it x i) lawBreaks then true else aLB x i
def aSp1 (c : Str) (wide far sc : Bool) : Bool :=
  bif !(c == ⟨#[10]⟩ || lePt ⟨#[32]⟩ c && lePt c ⟨#[126]⟩) then
    bif (c == ⟨#[133]⟩ || (lePt ⟨#[160]⟩ c && lePt c ⟨#[55295]⟩ || (lePt ⟨#[57344]⟩ c && lePt c ⟨#[65533]⟩ || far && (lePt ⟨#[65536]⟩ c && lePt c ⟨#[1114111]⟩)))) && c != ⟨#[65279]⟩ then
      bif !wide then true else sc
    else true
  else sc
def aSC (x : Str) (wide far : Bool) : Nat → Bool
  | 0 => false
  | i + 1 => aSp1 (it x i) wide far (aSC x wide far i)
def aLS (x : Str) : Nat → Bool
  | 0 => false
  | i + 1 => bif it x i == ⟨#[32]⟩ then bif (i : Int) == 0 then true else aLS x i else aLS x i
def aLK (x : Str) : Nat → Bool
  | 0 => false
  | i + 1 => bif it x i == ⟨#[32]⟩ then aLK x i else bif inPt (it x i) lawBreaks then bif (i : Int) == 0 then true else aLK x i else aLK x i
def aTS (x : Str) : Nat → Bool
  | 0 => false
  | i + 1 => bif it x i == ⟨#[32]⟩ then bif (i : Int) == (x.length : Int) - 1 then true else aTS x i else aTS x i
def aTB (x : Str) : Nat → Bool
  | 0 => false
  | i + 1 => bif it x i == ⟨#[32]⟩ then aTB x i else bif inPt (it x i) lawBreaks then bif (i : Int) == (x.length : Int) - 1 then true else aTB x i else aTB x i
def aBS (x : Str) : Nat → Bool
  | 0 => false
  | i + 1 => bif it x i == ⟨#[32]⟩ then bif aPb x i then true else aBS x i else aBS x i
def aSB (x : Str) : Nat → Bool
  | 0 => false
  | i + 1 => bif it x i == ⟨#[32]⟩ then aSB x i else bif inPt (it x i) lawBreaks then bif aPs x i then true else aSB x i else aSB x i

def azS (e : Addr) (x : Str) (i : Int) (bi fi lb sc ls lbk ts tb bs sb pw fw ps pb : Bool) : Sg := [("self", .ref e),
  ("scalar", .txt x), ("block_indicators", .bol bi), ("flow_indicators", .bol fi), ("line_breaks", .bol lb), ("special_characters", .bol sc), ("leading_space", .bol ls), ("leading_break", .bol lbk), ("trailing_space", .bol ts), ("trailing_break", .bol tb), ("break_space", .bol bs), ("space_break", .bol sb),
  ("preceeded_by_whitespace", .bol pw), ("followed_by_whitespace", .bol fw), ("previous_space", .bol ps), ("previous_break", .bol pb), ("index", .int i)]
def azSt (e : Addr) (x : Str) (old wide far : Bool) (i : Nat) : Sg :=
  azS e x i (aBI x i) (aFI x old i) (aLB x i) (aSC x wide far i) (aLS x i) (aLK x i) (aTS x i) (aTB x i) (aBS x i) (aSB x i) (aPw x i) (aFw x i) (aPs x i) (aPb x i)

def aPl (lb sc sb bs ed : Bool) : Bool := bif lb then false else bif sc then false else bif sb then false else bif bs then false else bif ed then false else true
def aEd (x : Str) (n : Nat) : Bool := aLS x n || (aLK x n || (aTS x n || aTB x n))
def aVals (x : Str) (old wide far room : Bool) : List V :=
  if x.length = 0 then [.txt x, .bol true, .bol false, .bol false, .bol true, .bol true, .bol true, .bol false]
  else [.txt x, .bol false, .bol (aLB x x.length), .bol (bif aFI x old x.length then false else aPl (aLB x x.length) (aSC x wide far x.length) (aSB x x.length) (aBS x x.length) (aEd x x.length)),
    .bol (bif aBI x x.length then false else aPl (aLB x x.length) (aSC x wide far x.length) (aSB x x.length) (aBS x x.length) (aEd x x.length)),
    .bol (bif aSC x wide far x.length then false else bif aSB x x.length then false else bif aBS x x.length then false else true), .bol true,
    .bol (bif aSC x wide far x.length then false else bif aSB x x.length then (bif !room then false else bif aTS x x.length then false else true) else bif aTS x x.length then false else true)]

abbrev dAz := dfOf "analyze_scalar" (clOf "Emitter" top)
abbrev azB : List Stmt := bdOf dAz
abbrev azSc : Scope := scOf dAz
def whT : Stmt → Expr
  | .While t _ _ _ => t
  | _ => .Constant .none 0 default
def whP : Stmt → Pos
  | .While _ _ _ p => p
  | _ => default
def kwL : Expr → List Keyword
  | .Call _ _ ks _ => ks
  | _ => []
def asRetSa (st : Stmt) : Stmt := .Return (some (.Call (.Name "ScalarAnalysis" (caF (retE st))) [] (kwL (retE st)) (caP (retE st)))) (stPos st)
theorem azB_is : azB = .If (ifT (nth azB 0)) [asRetSa (nth (inB (nth azB 0)) 0)] [] (ifP (nth azB 0)) :: ([nth azB 1, nth azB 2, nth azB 3, nth azB 4, nth azB 5, nth azB 6, nth azB 7, nth azB 8, nth azB 9, nth azB 10, nth azB 11, nth azB 12, nth azB 13, nth azB 14, nth azB 15, nth azB 16] ++
    (.While (whT (nth azB 17)) (inB (nth azB 17)) [] (whP (nth azB 17)) :: ([nth azB 18, nth azB 19, nth azB 20, nth azB 21, nth azB 22, nth azB 23, nth azB 24, nth azB 25, nth azB 26, nth azB 27, nth azB 28, nth azB 29] ++ [asRetSa (nth azB 30)]))) := by kernel_rfl!

def loopOb (e : Addr) (x : Str) (old far : Bool) (i : Nat) : Ob :=
  .and (.p (0 ≤ (i : Int) ∧ (i : Int) < (x.length : Int) ∧ (x.length : Int) < 4611686018427387904))
    (.and (.and (.imp ((i : Int) == 0) (.imp (inPt (it x i) ⟨#[63, 58]⟩) (.and (.p (e = e)) (.imp (!old) (.p ((x.length : Int) < 4611686018427387904)))))) (.imp (!(i : Int) == 0) (.imp (it x i == ⟨#[63]⟩) (.p (e = e)))))
      (.and (.imp (!(it x i == ⟨#[10]⟩ || lePt ⟨#[32]⟩ (it x i) && lePt (it x i) ⟨#[126]⟩))
          (.and (.imp (!it x i == ⟨#[133]⟩) (.imp (!(lePt ⟨#[160]⟩ (it x i) && lePt (it x i) ⟨#[55295]⟩)) (.imp (!(lePt ⟨#[57344]⟩ (it x i) && lePt (it x i) ⟨#[65533]⟩)) (.p (e = e)))))
            (.imp ((it x i == ⟨#[133]⟩ || (lePt ⟨#[160]⟩ (it x i) && lePt (it x i) ⟨#[55295]⟩ || (lePt ⟨#[57344]⟩ (it x i) && lePt (it x i) ⟨#[65533]⟩ || far && (lePt ⟨#[65536]⟩ (it x i) && lePt (it x i) ⟨#[1114111]⟩)))) && it x i != ⟨#[65279]⟩) (.p (e = e)))))
        (.and (.and (.imp (it x i == ⟨#[32]⟩) (.p ((x.length : Int) < 4611686018427387904))) (.imp (!it x i == ⟨#[32]⟩) (.imp (inPt (it x i) lawBreaks) (.p ((x.length : Int) < 4611686018427387904)))))
          (.and (.p ((x.length : Int) < 4611686018427387904)) (.imp (!decide ((x.length : Int) ≤ (i : Int) + 1 + 1)) (.p (0 ≤ (i : Int) + 1 + 1 ∧ (i : Int) + 1 + 1 < (x.length : Int) ∧ (x.length : Int) < 4611686018427387904)))))))

set_option maxHeartbeats 1000000 in
theorem analyze_ok {P : Pg} (Y : Facts P) (X : EmK P) (Z : SaK P) {fA : Addr} (ha : FnAt P dAz fA) {e : Addr} {wide old far room : Bool} {objs : List (Addr × Obj)} (M : Em P X e wide old far room objs) (k : Nat) (x : Str) (t : Tok) (h1 : x.length ≤ 16777216) :
    CallOkS P fA [.ref e, .str x t] (k + 4) (fun news => ∀ p ∈ objs, p ∈ news) (fun u new => ∃ r dr es n us, u = .ref r ∧ new = [(r, instObj Z.S dr), (dr, dictOf es n)] ∧ EntIs (saNs.zip us) es ∧ AllIs (aVals x old wide far room) us) := by
  have hd := ha
  rw [is_some_of (d := dAz) (by decide +kernel)] at hd
  obtain ⟨oc, od, osl, name, qual, doc, pm, an, cdv, ct, e1, e2⟩ := fnAt_is hd rfl
  refine callOkS_of (ps := ["self", "scalar"]) e1 e2 (fun s => BindsTo.of_eq (by kernel_rfl!)) ?_ (by decide +kernel) (by decide +kernel) (by decide +kernel) (by decide +kernel) ?_
  · have : [("self" : Str), "scalar"].all (fun x => decide ((scOf dAz).names.lookup x = some .local)) = true := by decide +kernel
    exact fun y hy => of_decide_eq_true (List.all_eq_true.mp this y.1 (List.of_mem_zip hy).1)
  rintro A L h₀ news s₀ m G sub F N hm
  have hls : ∀ x ∈ azLs, azSc.names.lookup x = some .local ∧ (x == ("__debug__" : Str)) = false := len_of_local (by decide +kernel)
  have hO : (azO e wide old far room).OkS (fBx P A (envOf qual azSc L fA cdv) h₀ news s₀) := azO_okS M Y G sub hls (show azSc.names.lookup (Str.ofString "len") = some .globalImplicit by decide +kernel)
  have hs₀ : (fBx P A (envOf qual azSc L fA cdv) h₀ news s₀).H [("self", .ref e), ("scalar", .txt x)] s₀ := by
    refine ⟨m, ⟨s₀.heap, s₀.toks, rfl, F, N⟩, ?_⟩
    rw [hm]
    exact fits_zip (ps := ["self", "scalar"]) (.cons (v := .ref e) rfl (.cons (v := .txt x) ⟨t, rfl⟩ .nil)) rfl (by decide +kernel)
  show (fBx P A (envOf qual azSc L fA cdv) h₀ news s₀).run (execs azB (envOf qual azSc L fA cdv)) _ s₀
  rw [azB_is]
  have endd : ∀ (σ : Sg) (st : Stmt) (ob : Ob) (s : Shared), kwOk (kwL (retE st)) = true → (∀ pos, (backToKw pos (keywordEach (kwL (retE st)) (envOf qual azSc L fA cdv))).all (·.1.isSome) = true) → (∀ pos, ((backTo pos (starEach [] (envOf qual azSc L fA cdv))).any (·.1) || (backToKw pos (keywordEach (kwL (retE st)) (envOf qual azSc L fA cdv))).any (·.1.isNone)) = false) →
      (∀ pos, (backToKw pos (keywordEach (kwL (retE st)) (envOf qual azSc L fA cdv))).filterMap (·.1) = saNs) → evs (ev (azO e wide old far room) 20 σ) (kwE (kwL (retE st))) = some (ob, aVals x old wide far room) → ob.ok →
      (eval (.Call (.Name "ScalarAnalysis" (caF (retE st))) [] (kwL (retE st)) (caP (retE st))) (envOf qual azSc L fA cdv) = (do let f ← eval (.Name "ScalarAnalysis" (caF (retE st))) (envOf qual azSc L fA cdv); callWith (caP (retE st)) f [] (backTo (caP (retE st)) (starEach [] (envOf qual azSc L fA cdv))) (backToKw (caP (retE st)) (keywordEach (kwL (retE st)) (envOf qual azSc L fA cdv))))) →
      (fBx P A (envOf qual azSc L fA cdv) h₀ news s₀).H σ s →
      (fBx P A (envOf qual azSc L fA cdv) h₀ news s₀).run (execs [asRetSa st] (envOf qual azSc L fA cdv)) (fun fl s' => ∃ u new, fl = .ret u ∧ (∃ r dr es n us, u = .ref r ∧ new = [(r, instObj Z.S dr), (dr, dictOf es n)] ∧ EntIs (saNs.zip us) es ∧ AllIs (aVals x old wide far room) us) ∧ ∃ h tk m', s' = { s₀ with heap := h, toks := tk } ∧ Fr h₀ L h m' ∧ News h₀ L h (new ++ news)) s := by
    intro σ st ob s a1 a2 a3 a4 he hob hc hs
    refine wpAny_execs_cons (wpAny_Return_some (sa_ok Z hO.toOk (k := k + 1) G (show azSc.names.lookup (Str.ofString "ScalarAnalysis") = some .globalImplicit by decide +kernel) a1 a2 a3 a4 he hob ?_ hs hc fun r dr es n us h' tk' m' hus hes F' N' => ?_))
    · unfold aVals
      split <;> rfl
    · exact ⟨_, _, rfl, ⟨r, dr, es, n, us, rfl, rfl, hes, hus⟩, h', tk', m', rfl, F', N'⟩
  -- the empty text
  refine wpAny_execs_cons (wpAny_If (tr_ok hO.toOk 20 _ (ifT (nth azB 0)) (.p ((x.length : Int) < 9223372036854775808)) (!((x.length : Int) != 0)) (by kernel_rfl!) (by show (x.length : Int) < _; omega) s₀ _ hs₀ fun s₁ hs₁ => ?_))
  by_cases hx : x.length = 0
  · rw [if_pos (by rw [hx]; rfl)]
    refine wpAny_mono (endd _ (nth (inB (nth azB 0)) 0) .t s₁ (by decide +kernel) (fun pos => by kernel_rfl!) (fun pos => by kernel_rfl!) (fun pos => by kernel_rfl!) (by rw [aVals, if_pos hx]; kernel_rfl!) trivial (by kernel_rfl!) hs₁) (fun fl s' hq => ?_) fun _ _ h => h
    obtain ⟨u, new, rfl, r⟩ := hq
    exact ⟨u, new, rfl, r⟩
  have hpos : 0 < x.length := by omega
  rw [if_neg (by
    have h : ((x.length : Int) != 0) = true := by simpa using hx
    rw [h]; decide)]
  refine wpAny_execs_nil ?_
  -- the first assignments
  refine runB_then hO (n := 20) (got_is (r := runB (azO e wide old far room) 20 [("self", .ref e), ("scalar", .txt x)] [nth azB 1, nth azB 2, nth azB 3, nth azB 4, nth azB 5, nth azB 6, nth azB 7, nth azB 8, nth azB 9, nth azB 10, nth azB 11, nth azB 12, nth azB 13, nth azB 14, nth azB 15, nth azB 16]) (by kernel_rfl!)) ?_ hs₁ fun s₂ hs₂ => ?_
  · rw [show gotO (runB (azO e wide old far room) 20 [("self", .ref e), ("scalar", .txt x)] [nth azB 1, nth azB 2, nth azB 3, nth azB 4, nth azB 5, nth azB 6, nth azB 7, nth azB 8, nth azB 9, nth azB 10, nth azB 11, nth azB 12, nth azB 13, nth azB 14, nth azB 15, nth azB 16]) =
      (Ob.p ((x.length : Int) < 4611686018427387904)).and (.imp (!(x.length : Int) == 1) (.p (0 ≤ (1 : Int) ∧ 1 < (x.length : Int) ∧ (x.length : Int) < 4611686018427387904))) from by kernel_rfl!]
    refine ⟨by show (x.length : Int) < _; omega, fun h => ?_⟩
    have : (x.length : Int) ≠ 1 := by simpa using h
    exact ⟨by omega, by omega, by omega⟩
  have hs₂' : (fBx P A (envOf qual azSc L fA cdv) h₀ news s₀).H (azSt e x old wide far 0) s₂ := hs₂.sub ⟨by kernel_rfl!, by kernel_rfl!, by kernel_rfl!, by kernel_rfl!, by kernel_rfl!, by kernel_rfl!, by kernel_rfl!, by kernel_rfl!, by kernel_rfl!, by kernel_rfl!, by kernel_rfl!, by kernel_rfl!, by kernel_rfl!, by kernel_rfl!, by kernel_rfl!, by kernel_rfl!, by kernel_rfl!, trivial⟩
  clear hs₂ hs₁ hs₀
  -- the loop
  refine wpAny_execs_cons (while_ok hO (n := 20) (azSt e x old wide far) x.length (fun i hi => ⟨.p ((x.length : Int) < 4611686018427387904), decide ((i : Int) < (x.length : Int)), by kernel_rfl!, by show (x.length : Int) < _; omega, by simp⟩) (fun i hi => ?_) hs₂' fun s₃ hs₃ => ?_)
  · refine ⟨_, _, got_is (r := runB (azO e wide old far room) 20 (azSt e x old wide far i) (inB (nth azB 17))) (by kernel_rfl!), ?_, fun s hs => hs.sub ⟨by kernel_rfl!, by kernel_rfl!, by kernel_rfl!, by kernel_rfl!, by kernel_rfl!, by kernel_rfl!, by kernel_rfl!, by kernel_rfl!, by kernel_rfl!, by kernel_rfl!, by kernel_rfl!, by kernel_rfl!, by kernel_rfl!, by kernel_rfl!, by kernel_rfl!, by kernel_rfl!, by kernel_rfl!, trivial⟩⟩
    rw [show gotO (runB (azO e wide old far room) 20 (azSt e x old wide far i) (inB (nth azB 17))) = loopOb e x old far i from by kernel_rfl!]
    have lt : (x.length : Int) < 4611686018427387904 := by omega
    refine ⟨⟨by omega, by omega, lt⟩, ⟨⟨fun _ _ => ⟨rfl, fun _ => lt⟩, fun _ _ => rfl⟩, ⟨fun _ => ⟨fun _ _ _ => rfl, fun _ => rfl⟩, ⟨⟨fun _ => lt, fun _ _ => lt⟩, ⟨lt, fun h => ?_⟩⟩⟩⟩⟩
    have : ¬ ((x.length : Int) ≤ (i : Int) + 1 + 1) := by simpa using h
    exact ⟨by omega, by omega, lt⟩
  -- the rest
  unfold azSt at hs₃
  refine runB_then hO (n := 20) (got_is (r := runB (azO e wide old far room) 20 (azSt e x old wide far x.length) [nth azB 18, nth azB 19, nth azB 20, nth azB 21, nth azB 22, nth azB 23, nth azB 24, nth azB 25, nth azB 26, nth azB 27, nth azB 28, nth azB 29]) (by kernel_rfl!)) ?_ hs₃ fun s₄ hs₄ => ?_
  · rw [show gotO (runB (azO e wide old far room) 20 (azSt e x old wide far x.length) [nth azB 18, nth azB 19, nth azB 20, nth azB 21, nth azB 22, nth azB 23, nth azB 24, nth azB 25, nth azB 26, nth azB 27, nth azB 28, nth azB 29]) =
      Ob.imp (!aSC x wide far x.length) (.imp (aSB x x.length) (.p (e = e))) from by kernel_rfl!]
    exact fun _ _ => rfl
  · exact endd _ (nth azB 30) .t s₄ (by decide +kernel) (fun pos => by kernel_rfl!) (fun pos => by kernel_rfl!) (fun pos => by kernel_rfl!) (by rw [aVals, if_neg hx]; kernel_rfl!) trivial (by kernel_rfl!) hs₄

end Mine

namespace Mine
open PySem PySem.W PyProof.Rows

/-! the two readings agree -/
theorem it_sign {x : Str} {i : Nat} (h : i < x.length) : it x i = sign x i := by
  unfold it Txt.item Txt.charAt seqIndex? sign
  have h1 : ¬ ((i : Int) < 0) := by omega
  have h2 : (i : Int) < (x.length : Int) := by omega
  simp [h1, h2]
theorem in_sign (c : Nat) (y : Str) : inPt ⟨#[c]⟩ y = decide (c ∈ y.cps.toList) := StrLaws.found_one y c
theorem eq_sign (a b : Nat) : ((⟨#[a]⟩ : Str) == ⟨#[b]⟩) = decide (a = b) := by
  rw [Bool.eq_iff_iff, beq_iff_eq, decide_eq_true_iff]
  constructor
  · intro h
    have := congrArg (fun s : Str => s.cps.toList) h
    simpa using this
  · rintro rfl; rfl
theorem le_sign {a b : Nat} (h : a ≤ b) : lePt ⟨#[a]⟩ ⟨#[b]⟩ = true := by
  unfold lePt
  rw [Bool.not_eq_true', decide_eq_false_iff_not]
  intro q
  have q' : [b] < [a] := q
  rw [List.cons_lt_cons_iff] at q'
  rcases q' with q' | ⟨_, q'⟩
  · omega
  · exact absurd q' (by simp)

theorem aLB_any (x : Str) : ∀ n, aLB x n = (List.range n).any fun i => inPt (it x i) lawBreaks
  | 0 => rfl
  | n + 1 => by
    rw [any_succ, ← aLB_any x n]
    show (bif inPt (it x n) lawBreaks then true else aLB x n) = _
    cases inPt (it x n) lawBreaks <;> cases aLB x n <;> rfl
theorem any_congr {p q : Nat → Bool} {n : Nat} (h : ∀ i, i < n → p i = q i) : (List.range n).any p = (List.range n).any q := by
  rw [Bool.eq_iff_iff, List.any_eq_true, List.any_eq_true]
  constructor <;> rintro ⟨i, hi, hp⟩ <;> refine ⟨i, hi, ?_⟩ <;> have := h i (List.mem_range.mp hi)
  · rw [← this]; exact hp
  · rw [this]; exact hp
theorem broken_is (x : Str) : aLB x x.length = rBroken x := by
  rw [aLB_any]
  exact any_congr fun i hi => by rw [it_sign hi]

def Low (x : Str) : Prop := ∀ i, i < x.length → (x.cps[i]?).getD 0 ≤ 1114111
theorem aSp1_is (a : Nat) (ha : a ≤ 1114111) (w r sc : Bool) : aSp1 ⟨#[a]⟩ w r sc = (specialF ⟨#[a]⟩ w r || sc) := by
  unfold aSp1 specialF
  rw [le_sign ha, Bool.and_true]
  generalize ((⟨#[a]⟩ : Str) == ⟨#[10]⟩ || lePt ⟨#[32]⟩ ⟨#[a]⟩ && lePt ⟨#[a]⟩ ⟨#[126]⟩) = p
  generalize ((⟨#[a]⟩ : Str) == ⟨#[133]⟩ || (lePt ⟨#[160]⟩ ⟨#[a]⟩ && lePt ⟨#[a]⟩ ⟨#[55295]⟩ || (lePt ⟨#[57344]⟩ ⟨#[a]⟩ && lePt ⟨#[a]⟩ ⟨#[65533]⟩ || r && lePt ⟨#[65536]⟩ ⟨#[a]⟩))) = q
  unfold bne
  generalize ((⟨#[a]⟩ : Str) == ⟨#[65279]⟩) = z
  cases p <;> cases q <;> cases z <;> cases w <;> cases sc <;> rfl
theorem aSC_any {x : Str} (hx : Low x) (w r : Bool) : ∀ n, n ≤ x.length → aSC x w r n = (List.range n).any fun i => specialF (sign x i) w r
  | 0, _ => rfl
  | n + 1, h => by
    rw [any_succ, ← aSC_any hx w r n (by omega)]
    show aSp1 (it x n) w r (aSC x w r n) = _
    rw [it_sign (by omega)]
    unfold sign
    rw [aSp1_is _ (hx n (by omega)), Bool.or_comm]
theorem special_is {x : Str} (hx : Low x) (w r : Bool) : aSC x w r x.length = rSpecial x w r := aSC_any hx w r x.length (Nat.le_refl _)

theorem brk_nosp {c : Str} (h : c == ⟨#[32]⟩) : inPt c lawBreaks = false := by
  rw [beq_iff_eq.mp h]
  decide +kernel
theorem aPb_is (x : Str) (i : Nat) : aPb x (i + 1) = inPt (it x i) lawBreaks := by
  show (bif it x i == ⟨#[32]⟩ then false else bif inPt (it x i) lawBreaks then true else false) = _
  cases h : it x i == (⟨#[32]⟩ : Str) with
  | true => rw [brk_nosp h]; rfl
  | false => cases inPt (it x i) lawBreaks <;> rfl
theorem aPs_is (x : Str) (i : Nat) : aPs x (i + 1) = (it x i == ⟨#[32]⟩) := by
  show (bif it x i == ⟨#[32]⟩ then true else bif inPt (it x i) lawBreaks then false else false) = _
  cases it x i == (⟨#[32]⟩ : Str) <;> cases inPt (it x i) lawBreaks <;> rfl
theorem item_at (x : Str) (i : Nat) : Txt.item x (1 + (i : Int)) = it x (i + 1) ∧ Txt.item x (1 + (i : Int) - 1) = it x i := by
  constructor
  · show Txt.item x _ = Txt.item x _
    congr 1
    omega
  · show Txt.item x _ = Txt.item x _
    congr 1
    omega
theorem aBS_any (x : Str) : ∀ n, aBS x (n + 1) = (List.range n).any fun i => Txt.item x (1 + (i : Int)) == ⟨#[32]⟩ && inPt (Txt.item x (1 + (i : Int) - 1)) lawBreaks
  | 0 => by
    show (bif it x 0 == ⟨#[32]⟩ then bif false then true else false else false) = _
    cases it x 0 == (⟨#[32]⟩ : Str) <;> rfl
  | n + 1 => by
    rw [any_succ, ← aBS_any x n, (item_at x n).1, (item_at x n).2, ← aPb_is x n]
    show (bif it x (n + 1) == ⟨#[32]⟩ then bif aPb x (n + 1) then true else aBS x (n + 1) else aBS x (n + 1)) = _
    cases it x (n + 1) == (⟨#[32]⟩ : Str) <;> cases aPb x (n + 1) <;> cases aBS x (n + 1) <;> rfl
theorem aSB_any (x : Str) : ∀ n, aSB x (n + 1) = (List.range n).any fun i => inPt (Txt.item x (1 + (i : Int))) lawBreaks && Txt.item x (1 + (i : Int) - 1) == ⟨#[32]⟩
  | 0 => by
    show (bif it x 0 == ⟨#[32]⟩ then false else bif inPt (it x 0) lawBreaks then bif false then true else false else false) = _
    cases it x 0 == (⟨#[32]⟩ : Str) <;> cases inPt (it x 0) lawBreaks <;> rfl
  | n + 1 => by
    rw [any_succ, ← aSB_any x n, (item_at x n).1, (item_at x n).2, ← aPs_is x n]
    show (bif it x (n + 1) == ⟨#[32]⟩ then aSB x (n + 1) else bif inPt (it x (n + 1)) lawBreaks then bif aPs x (n + 1) then true else aSB x (n + 1) else aSB x (n + 1)) = _
    cases h : it x (n + 1) == (⟨#[32]⟩ : Str) with
    | true => rw [brk_nosp h]; cases aPs x (n + 1) <;> cases aSB x (n + 1) <;> rfl
    | false => cases inPt (it x (n + 1)) lawBreaks <;> cases aPs x (n + 1) <;> cases aSB x (n + 1) <;> rfl

theorem aLS_is (x : Str) : ∀ n, aLS x (n + 1) = (it x 0 == ⟨#[32]⟩)
  | 0 => by
    show (bif it x 0 == ⟨#[32]⟩ then bif ((0 : Nat) : Int) == 0 then true else false else false) = _
    cases it x 0 == (⟨#[32]⟩ : Str) <;> rfl
  | n + 1 => by
    rw [← aLS_is x n]
    show (bif it x (n + 1) == ⟨#[32]⟩ then bif ((n + 1 : Nat) : Int) == 0 then true else aLS x (n + 1) else aLS x (n + 1)) = _
    have : (((n + 1 : Nat) : Int) == 0) = false := by simp; omega
    rw [this]
    cases it x (n + 1) == (⟨#[32]⟩ : Str) <;> rfl
theorem aLK_is (x : Str) : ∀ n, aLK x (n + 1) = inPt (it x 0) lawBreaks
  | 0 => by
    show (bif it x 0 == ⟨#[32]⟩ then false else bif inPt (it x 0) lawBreaks then bif ((0 : Nat) : Int) == 0 then true else false else false) = _
    cases h : it x 0 == (⟨#[32]⟩ : Str) with
    | true => rw [brk_nosp h]; rfl
    | false => cases inPt (it x 0) lawBreaks <;> rfl
  | n + 1 => by
    rw [← aLK_is x n]
    show (bif it x (n + 1) == ⟨#[32]⟩ then aLK x (n + 1) else bif inPt (it x (n + 1)) lawBreaks then bif ((n + 1 : Nat) : Int) == 0 then true else aLK x (n + 1) else aLK x (n + 1)) = _
    have : (((n + 1 : Nat) : Int) == 0) = false := by simp; omega
    rw [this]
    cases it x (n + 1) == (⟨#[32]⟩ : Str) <;> cases inPt (it x (n + 1)) lawBreaks <;> rfl
theorem aTS_no (x : Str) : ∀ n, n < x.length → aTS x n = false
  | 0, _ => rfl
  | n + 1, h => by
    show (bif it x n == ⟨#[32]⟩ then bif (n : Int) == (x.length : Int) - 1 then true else aTS x n else aTS x n) = _
    have : ((n : Int) == (x.length : Int) - 1) = false := by simp; omega
    rw [this, aTS_no x n (by omega)]
    cases it x n == (⟨#[32]⟩ : Str) <;> rfl
theorem aTB_no (x : Str) : ∀ n, n < x.length → aTB x n = false
  | 0, _ => rfl
  | n + 1, h => by
    show (bif it x n == ⟨#[32]⟩ then aTB x n else bif inPt (it x n) lawBreaks then bif (n : Int) == (x.length : Int) - 1 then true else aTB x n else aTB x n) = _
    have : ((n : Int) == (x.length : Int) - 1) = false := by simp; omega
    rw [this, aTB_no x n (by omega)]
    cases it x n == (⟨#[32]⟩ : Str) <;> cases inPt (it x n) lawBreaks <;> rfl
theorem last_at {x : Str} {n : Nat} (h : x.length = n + 1) : Txt.item x ((x.length : Int) - 1) = it x n := by
  show Txt.item x _ = Txt.item x _
  congr 1
  omega
theorem aTS_is {x : Str} {n : Nat} (h : x.length = n + 1) : aTS x (n + 1) = (Txt.item x ((x.length : Int) - 1) == ⟨#[32]⟩) := by
  rw [last_at h]
  show (bif it x n == ⟨#[32]⟩ then bif (n : Int) == (x.length : Int) - 1 then true else aTS x n else aTS x n) = _
  have : ((n : Int) == (x.length : Int) - 1) = true := by simp; omega
  rw [this, aTS_no x n (by omega)]
  cases it x n == (⟨#[32]⟩ : Str) <;> rfl
theorem aTB_is {x : Str} {n : Nat} (h : x.length = n + 1) : aTB x (n + 1) = inPt (Txt.item x ((x.length : Int) - 1)) lawBreaks := by
  rw [last_at h]
  show (bif it x n == ⟨#[32]⟩ then aTB x n else bif inPt (it x n) lawBreaks then bif (n : Int) == (x.length : Int) - 1 then true else aTB x n else aTB x n) = _
  have : ((n : Int) == (x.length : Int) - 1) = true := by simp; omega
  rw [this, aTB_no x n (by omega)]
  cases q : it x n == (⟨#[32]⟩ : Str) with
  | true => rw [brk_nosp q]; rfl
  | false => cases inPt (it x n) lawBreaks <;> rfl
theorem ends_is {x : Str} {n : Nat} (h : x.length = n + 1) : aEd x (n + 1) = rEnds x := by
  unfold aEd rEnds
  rw [aLS_is, aLK_is, aTS_is h, aTB_is h]
  rw [show it x 0 = Txt.item x 0 from rfl]
  generalize (Txt.item x 0 == (⟨#[32]⟩ : Str)) = a
  generalize inPt (Txt.item x 0) lawBreaks = b
  generalize (Txt.item x ((x.length : Int) - 1) == (⟨#[32]⟩ : Str)) = c
  generalize inPt (Txt.item x ((x.length : Int) - 1)) lawBreaks = d
  cases a <;> cases b <;> cases c <;> cases d <;> rfl

theorem aPw_is {x : Str} {i : Nat} : aPw x i = aheadF x i := by
  cases i with
  | zero => rfl
  | succ i =>
    show inPt (it x i) lawWhite = (((i + 1 : Nat) : Int) == 0 || inPt (Txt.item x (((i + 1 : Nat) : Int) - 1)) lawWhite)
    have h1 : (((i + 1 : Nat) : Int) == 0) = false := by simp; omega
    have h2 : ((i + 1 : Nat) : Int) - 1 = (i : Int) := by omega
    rw [h1, h2]
    rfl
theorem aFw_is {x : Str} (h : 0 < x.length) : ∀ i, aFw x i = behindF x i
  | 0 => by
    show ((x.length : Int) == 1 || inPt (Txt.item x 1) lawWhite) = (decide ((x.length : Int) ≤ ((0 : Nat) : Int) + 1) || inPt (Txt.item x (((0 : Nat) : Int) + 1)) lawWhite)
    have : ((x.length : Int) == 1) = decide ((x.length : Int) ≤ ((0 : Nat) : Int) + 1) := by
      rw [Bool.eq_iff_iff, beq_iff_eq, decide_eq_true_iff]
      omega
    rw [this]
    rfl
  | i + 1 => by
    show (decide ((x.length : Int) ≤ (i : Int) + 1 + 1) || inPt (Txt.item x ((i : Int) + 1 + 1)) lawWhite) = (decide ((x.length : Int) ≤ ((i + 1 : Nat) : Int) + 1) || inPt (Txt.item x (((i + 1 : Nat) : Int) + 1)) lawWhite)
    rw [show ((i + 1 : Nat) : Int) = (i : Int) + 1 from by omega]

theorem slice_len (x : Str) (j : Int) : (Txt.slice x none (some j)).length ≤ x.length := by
  unfold Txt.slice
  split
  · exact Nat.le_refl _
  · exact Nat.le_trans (List.length_filterMap_le _ _) (sliceIndices_le _ _ _)
theorem head_is (x : Str) (a b c : Nat) : Txt.startswith x ⟨#[a, b, c]⟩ = (Txt.slice x none (some 3) == ⟨#[a, b, c]⟩) := by
  by_cases h : 3 ≤ x.length
  · rw [beq_iff_eq.mp (slice_closes_toL (x := x) (j := 3) (by decide) (by omega))]
    unfold Txt.startswith Builtin.Str.subAt
    rw [show decide (0 + (⟨#[a, b, c]⟩ : Str).length ≤ x.length) = true from decide_eq_true h, Bool.true_and]
    rw [Bool.eq_iff_iff, beq_iff_eq, beq_iff_eq]
    have e : x.cps.extract 0 (0 + (⟨#[a, b, c]⟩ : Str).length) = ((x.cps.toList.drop (0 : Int).toNat).take ((3 : Int) - 0).toNat).toArray := by
      apply Array.toList_inj.mp
      show _ = (x.cps.toList.drop 0).take 3
      simp
      rfl
    rw [e]
    constructor
    · intro q; rw [q]
    · intro q; exact congrArg Str.cps q
  · unfold Txt.startswith
    rw [show decide (0 + (⟨#[a, b, c]⟩ : Str).length ≤ x.length) = false from decide_eq_false h, Bool.false_and]
    symm
    rw [beq_eq_false_iff_ne]
    intro q
    have := slice_len x 3
    rw [q] at this
    exact h this
theorem aHd_is (x : Str) : aHd x = headF x := by
  unfold aHd headF
  rw [head_is, head_is]
theorem qc_is {x : Str} (h : 0 < x.length) : inPt (it x 0) ⟨#[63, 58]⟩ = (Txt.item x 0 == ⟨#[63]⟩ || Txt.item x 0 == ⟨#[58]⟩) := by
  rw [show Txt.item x 0 = it x 0 from rfl, it_sign h]
  unfold sign
  rw [in_sign, eq_sign, eq_sign]
  simp

theorem aFI_is {x : Str} (h : 0 < x.length) (old : Bool) : ∀ i, aFI x old (i + 1) = sFlow x old i
  | 0 => by
    have e : sFlow x old 0 = sFlow0 x old := by unfold sFlow; simp
    rw [e]
    show (bif it x 0 == ⟨#[45]⟩ && aFw x 0 then true
      else bif inPt (it x 0) ⟨#[63, 58]⟩ then
        bif old then true else bif (x.length : Int) == 1 then true else bif inPt (it x 0) leadLit then true else bif aHd x then true else false
      else bif inPt (it x 0) leadLit then true else bif aHd x then true else false) = _
    unfold sFlow0
    rw [qc_is h, aHd_is, aFw_is h, show it x 0 = Txt.item x 0 from rfl, show ((0 : Nat) : Int) = 0 from rfl]
    cases old <;> cases ((x.length : Int) == 1) <;> rfl
  | i + 1 => by
    rw [sFlow_succ, ← aFI_is h old i, show (1 : Int) + (i : Int) = ((i + 1 : Nat) : Int) from by omega]
    unfold sBoth sFlowT
    rw [← aFw_is h, ← aPw_is, show Txt.item x ((i + 1 : Nat) : Int) = it x (i + 1) from rfl]
    show (bif ((i + 1 : Nat) : Int) == 0 then _
      else bif it x (i + 1) == ⟨#[35]⟩ && aPw x (i + 1) then true
      else bif it x (i + 1) == ⟨#[58]⟩ then
        bif aFw x (i + 1) then true else bif it x (i + 1) == ⟨#[63]⟩ && old then true else bif inPt (it x (i + 1)) flowLit then true else aFI x old (i + 1)
      else bif it x (i + 1) == ⟨#[63]⟩ && old then true else bif inPt (it x (i + 1)) flowLit then true else aFI x old (i + 1)) = _
    have : (((i + 1 : Nat) : Int) == 0) = false := by simp; omega
    rw [this]
    generalize (it x (i + 1) == (⟨#[35]⟩ : Str)) = a
    generalize aPw x (i + 1) = b
    generalize (it x (i + 1) == (⟨#[58]⟩ : Str)) = c
    generalize aFw x (i + 1) = d
    generalize (it x (i + 1) == (⟨#[63]⟩ : Str)) = f
    generalize inPt (it x (i + 1)) flowLit = g
    cases a <;> cases b <;> cases c <;> cases d <;> cases f <;> cases g <;> cases old <;> rfl
theorem sBlock_succ' (x : Str) (i : Nat) : sBlock x (i + 1) = (sBlock x i || sBoth x (1 + (i : Int))) := by
  unfold sBlock
  rw [any_succ, Bool.or_assoc]
theorem aBI_is {x : Str} (h : 0 < x.length) : ∀ i, aBI x (i + 1) = sBlock x i
  | 0 => by
    have e : sBlock x 0 = sBlock0 x := by unfold sBlock; simp
    rw [e]
    show (bif it x 0 == ⟨#[45]⟩ && aFw x 0 then true
      else bif inPt (it x 0) ⟨#[63, 58]⟩ then
        bif aFw x 0 then true else bif inPt (it x 0) leadLit then true else bif aHd x then true else false
      else bif inPt (it x 0) leadLit then true else bif aHd x then true else false) = _
    unfold sBlock0
    rw [qc_is h, aHd_is, aFw_is h, show it x 0 = Txt.item x 0 from rfl, show ((0 : Nat) : Int) = 0 from rfl]
  | i + 1 => by
    rw [sBlock_succ', ← aBI_is h i, show (1 : Int) + (i : Int) = ((i + 1 : Nat) : Int) from by omega]
    unfold sBoth
    rw [← aFw_is h, ← aPw_is, show Txt.item x ((i + 1 : Nat) : Int) = it x (i + 1) from rfl]
    show (bif ((i + 1 : Nat) : Int) == 0 then _
      else bif it x (i + 1) == ⟨#[35]⟩ && aPw x (i + 1) then true
      else bif it x (i + 1) == ⟨#[58]⟩ then bif aFw x (i + 1) then true else aBI x (i + 1) else aBI x (i + 1)) = _
    have : (((i + 1 : Nat) : Int) == 0) = false := by simp; omega
    rw [this]
    generalize (it x (i + 1) == (⟨#[35]⟩ : Str)) = a
    generalize aPw x (i + 1) = b
    generalize (it x (i + 1) == (⟨#[58]⟩ : Str)) = c
    generalize aFw x (i + 1) = d
    generalize aBI x (i + 1) = f
    cases a <;> cases b <;> cases c <;> cases d <;> cases f <;> rfl

theorem vals_is {x : Str} (hx : Low x) (old w r m : Bool) : aVals x old w r m = rVals x old w r m := by
  unfold aVals rVals
  by_cases h : x.length = 0
  · rw [if_pos h, if_pos h]
    have hx' : x = ⟨#[]⟩ := by
      cases x with | mk a => simp only [Str.mk.injEq]; exact Array.eq_empty_of_size_eq_zero h
    rw [hx']
  · rw [if_neg h, if_neg h]
    obtain ⟨n, hn⟩ : ∃ n, x.length = n + 1 := ⟨x.length - 1, by omega⟩
    have hb : aSB x x.length = rBB x := by rw [hn, aSB_any]; unfold rBB; rw [hn]; rfl
    have hk : aBS x x.length = rKB x := by rw [hn, aBS_any]; unfold rKB; rw [hn]; rfl
    have he : aEd x x.length = rEnds x := by rw [hn, ends_is hn]
    have ht : aTS x x.length = (Txt.item x ((x.length : Int) - 1) == ⟨#[32]⟩) := by rw [hn, aTS_is hn, hn]
    have hf : aFI x old x.length = sFlow x old (x.length - 1) := by rw [hn, aFI_is (by omega)]; rfl
    have hbi : aBI x x.length = sBlock x (x.length - 1) := by rw [hn, aBI_is (by omega)]; rfl
    rw [broken_is, special_is hx, hb, hk, he, ht, hf, hbi]
    unfold rPlain rScalar rSpoilt aPl
    generalize sFlow x old (x.length - 1) = f
    generalize sBlock x (x.length - 1) = g
    generalize rBroken x = b
    generalize rSpecial x w r = s
    generalize rBB x = bb
    generalize rKB x = kb
    generalize rEnds x = en
    generalize (Txt.item x ((x.length : Int) - 1) == (⟨#[32]⟩ : Str)) = z
    have e1 : ∀ f : Bool, (bif f then false else bif b then false else bif s then false else bif bb then false else bif kb then false else bif en then false else true) = (!(en || (kb || (s || bb) || b)) && !f) := by
      intro f
      cases f <;> cases b <;> cases s <;> cases bb <;> cases kb <;> cases en <;> rfl
    have e2 : (bif s then false else bif bb then false else bif kb then false else true) = !(kb || (s || bb)) := by
      cases s <;> cases bb <;> cases kb <;> rfl
    have e3 : (bif s then false else bif bb then bif !m then false else bif z then false else true else bif z then false else true) = !(z || (s || bb && !m)) := by
      cases s <;> cases bb <;> cases m <;> cases z <;> rfl
    rw [e1, e1, e2, e3]

end Mine

namespace Mine
open PySem PySem.W PyProof.Rows PyProof.Rows.LCg

abbrev dTold := dfOf "_law_told" top
abbrev tBody : List Stmt := bdOf dTold
abbrev tScope : Scope := scOf dTold
def tupL : Expr → List Expr
  | .Tuple es _ _ => es
  | _ => []
def tupK : Expr → Nat
  | .Tuple _ k _ => k
  | _ => 0
def tupP : Expr → Pos
  | .Tuple _ _ p => p
  | _ => default
def nthE : List Expr → Nat → Expr
  | [], _ => .Constant .none 0 default
  | e :: _, 0 => e
  | _ :: r, n + 1 => nthE r n
/-- result.a -/
def asRes (a : Str) (e : Expr) : Expr := .Attribute (.Name "result" (exPos (atV e))) a (atP e)
def resB : List (Str × Expr) → List Expr
  | [] => []
  | (a, e) :: r => asRes a e :: resB r
abbrev tEs : List Expr := tupL (retE (nth tBody 0))
def tL : List (Str × Expr) := [("scalar", nthE tEs 0), ("empty", nthE tEs 1), ("multiline", nthE tEs 2), ("allow_flow_plain", nthE tEs 3), ("allow_block_plain", nthE tEs 4), ("allow_single_quoted", nthE tEs 5), ("allow_double_quoted", nthE tEs 6), ("allow_block", nthE tEs 7)]
theorem tBody_is : tBody = [.Return (some (.Tuple (resB tL) (tupK (retE (nth tBody 0))) (tupP (retE (nth tBody 0))))) (stPos (nth tBody 0))] := by kernel_rfl!

theorem res_ok {P : Pg} (Z : SaK P) {A : Around} {env : Env} {h₀ : Heap} {m : Str → Option Value} {news : List (Addr × Obj)} {r dr : Addr} {es : List DictEntry} {n : Nat} (X : P.K.In h₀) (hk : env.scope.kind = .function) (hx : env.kindOf "result" = some .local)
    (hm : m "result" = some (.ref r)) (h1 : (r, instObj Z.S dr) ∈ news) (h2 : (dr, dictOf es n) ∈ news) {E : Value → Shared → Prop} {gens : Array GenState} {d : Drawn} {os : OsState} {h : Heap} (F : Fr h₀ env.locals h m) (N : News h₀ env.locals h news) {pos : Pos} :
    ∀ (l : List (Str × Expr)) (us : List Value) (tk : Nat) (Q : List Value → Shared → Prop), us.length = l.length → (∀ p ∈ (l.map (·.1)).zip us, p.1 ∈ saNs ∧ getL p.1 es = some (some p.2) ∧ handedIn p.2 = true) → (∀ tk', Q us ⟨h, gens, d, tk', os⟩) →
      wpAny (model P.prog P.w) A (spliced (backTo pos (starEach (resB l) env))) Q E ⟨h, gens, d, tk, os⟩
  | [], us, tk, Q, hl, _, k => by
    cases us with
    | nil => exact args_nil (k tk)
    | cons u us => cases hl
  | (a, e) :: l, us, tk, Q, hl, hu, k => by
    cases us with
    | nil => cases hl
    | cons u us =>
      obtain ⟨ha, hg, hh⟩ := hu (a, u) (.head _)
      refine args_cons (Attribute_Name_ (wpAny_Name (wpAny_loadName_local hk hx F.ns hm ?_) (by decide +kernel)) (by with_unfolding_all rfl)) rfl
      refine attr_ok F X N h1 h2 (Z.at' a ha) hg hh ?_
      exact res_ok Z X hk hx hm h1 h2 F N l us _ _ (by simpa using hl) (fun p hp => hu p (.tail _ hp)) fun tk' => k tk'

theorem told_ok {P : Pg} (Z : SaK P) {fT : Addr} (ht : FnAt P dTold fT) (k : Nat) {r dr : Addr} {es : List DictEntry} {n : Nat} {us : List Value} (he : EntIs (saNs.zip us) es) (hl : us.length = 8) (hh : ∀ u ∈ us, handedIn u = true) :
    CallOkS P fT [.ref r] (k + 1) (fun news => (r, instObj Z.S dr) ∈ news ∧ (dr, dictOf es n) ∈ news) (fun u new => ∃ D, u = .ref D ∧ new = [(D, ({ cls := .type "tuple", data := .seq (List.toArray us) } : Obj))]) := by
  have hd := ht
  rw [is_some_of (d := dTold) (by decide +kernel)] at hd
  obtain ⟨oc, od, osl, name, qual, doc, pm, an, cdv, ct, e1, e2⟩ := fnAt_is hd rfl
  refine callOkS_of (ps := ["result"]) e1 e2 (fun s => BindsTo.of_eq (by kernel_rfl!)) ?_ (by decide +kernel) (by decide +kernel) (by decide +kernel) (by decide +kernel) ?_
  · have : [("result" : Str)].all (fun x => decide ((scOf dTold).names.lookup x = some .local)) = true := by decide +kernel
    exact fun y hy => of_decide_eq_true (List.all_eq_true.mp this y.1 (List.of_mem_zip hy).1)
  rintro A L h₀ news s₀ m G ⟨h1, h2⟩ F N hm
  show wpAny _ _ (execs tBody (envOf qual tScope L fT cdv)) _ _ _
  rw [tBody_is]
  obtain ⟨a, b, c, d, e, f, g, i, rfl⟩ : ∃ a b c d e f g i, us = [a, b, c, d, e, f, g, i] := by
    match us, hl with
    | [a, b, c, d, e, f, g, i], _ => exact ⟨a, b, c, d, e, f, g, i, rfl⟩
  refine wpAny_execs_cons (wpAny_Return_some (Tuple_ (res_ok Z G.X G.kind (show tScope.names.lookup (Str.ofString "result") = some .local by decide +kernel) (by rw [hm]; kernel_rfl!) h1 h2 F N tL [a, b, c, d, e, f, g, i] s₀.toks _ rfl (fun p hp => ?_) fun tk => ?_)))
  · have hp' : p ∈ saNs.zip [a, b, c, d, e, f, g, i] := hp
    refine ⟨(List.of_mem_zip hp').1, he.get ?_, hh _ (List.of_mem_zip hp').2⟩
    have hq : (saNs.zip [a, b, c, d, e, f, g, i]) = [(("scalar" : Str), a), ("empty", b), ("multiline", c), ("allow_flow_plain", d), ("allow_block_plain", e), ("allow_single_quoted", f), ("allow_double_quoted", g), ("allow_block", i)] := rfl
    rw [hq] at hp'
    simp only [List.mem_cons, List.not_mem_nil, or_false] at hp'
    rcases hp' with rfl | rfl | rfl | rfl | rfl | rfl | rfl | rfl <;> kernel_rfl!
  · refine newTuple_N F N (fun h' F' N' => ?_) (by rw [sizeLine_eq]; exact Nat.le_of_ble_eq_true rfl)
    exact ⟨_, _, rfl, ⟨_, rfl, rfl⟩, h', _, m, rfl, F', N'⟩

/-- two tuples of the same values -/
theorem V.eqAt {v : V} {a b : Value} {A : Around} {s : Shared} (hv : match v with | .bol _ => True | .int _ => True | .txt _ => True | _ => False) (ha : v.is a) (hb : v.is b) : SeqAt.EqAt A s a b true := by
  cases v with
  | bol c =>
    cases ha; cases hb
    have := SeqAt.EqAt.bool_bool (A := A) (s := s) c c
    rwa [beq_self_eq_true] at this
  | int i =>
    obtain ⟨t, rfl⟩ := ha; obtain ⟨t', rfl⟩ := hb
    have := SeqAt.EqAt.int_int (A := A) (s := s) i t i t'
    rwa [beq_self_eq_true] at this
  | txt x =>
    obtain ⟨t, rfl⟩ := ha; obtain ⟨t', rfl⟩ := hb
    have := SeqAt.EqAt.str_str (A := A) (s := s) x t x t'
    rwa [beq_self_eq_true] at this
  | _ => exact hv.elim

def plainV : V → Bool
  | .bol _ => true
  | .int _ => true
  | .txt _ => true
  | _ => false
theorem V.eqAt' {v : V} {a b : Value} {A : Around} {s : Shared} (hv : plainV v = true) (ha : v.is a) (hb : v.is b) : SeqAt.EqAt A s a b true :=
  V.eqAt (by cases v <;> first | trivial | cases hv) ha hb
theorem all_get {vs : List V} {us : List Value} (h : AllIs vs us) : ∀ j (h1 : j < us.length), ∃ h2 : j < vs.length, vs[j].is us[j] := by
  induction h with
  | nil => intro j h1; cases h1
  | cons hu r ih =>
    intro j h1
    cases j with
    | zero => exact ⟨Nat.zero_lt_succ _, hu⟩
    | succ j =>
      obtain ⟨h2, h3⟩ := ih j (by simpa using h1)
      exact ⟨by simpa using h2, h3⟩
theorem tups_same {vs : List V} {us us' : List Value} (hv : vs.all plainV = true) (h : AllIs vs us) (h' : AllIs vs us') {A : Around} {s : Shared} : ∀ j (h1 : j < us.toArray.size) (h2 : j < us'.toArray.size), SeqAt.EqAt A s us.toArray[j] us'.toArray[j] true := by
  intro j h1 h2
  obtain ⟨g1, g2⟩ := all_get h j (by simpa using h1)
  obtain ⟨_, g3⟩ := all_get h' j (by simpa using h2)
  simp only [List.getElem_toArray]
  exact V.eqAt' (List.all_eq_true.mp hv _ (List.getElem_mem g1)) g2 g3
theorem all_true (n : Nat) : ((List.range n).all fun _ => true) = true := by simp
theorem tups_ne {vs : List V} {us us' : List Value} (hv : vs.all plainV = true) (h : AllIs vs us) (h' : AllIs vs us') {A : Around} {s : Shared} {l b : Addr} (hl : s.heap.IsTuple l us.toArray) (hb : s.heap.IsTuple b us'.toArray) (hu : A.units < cLine) :
    SeqAt.RcNeAt A s (.ref l) (.ref b) false := by
  have := SeqAt.RcNeAt.tuples (e := fun _ => true) hl hb hu (tups_same hv h h')
  rw [all_true] at this
  have e : us.toArray.size = us'.toArray.size := by rw [List.size_toArray, List.size_toArray, all_len h, all_len h']
  rw [e, beq_self_eq_true] at this
  exact this
theorem tups_eq {vs : List V} {us us' : List Value} (hv : vs.all plainV = true) (h : AllIs vs us) (h' : AllIs vs us') {A : Around} {s : Shared} {l b : Addr} (hl : s.heap.IsTuple l us.toArray) (hb : s.heap.IsTuple b us'.toArray) (hu : A.units < cLine) :
    SeqAt.RcAt A s (.ref l) (.ref b) true := by
  have := SeqAt.RcAt.tuples (e := fun _ => true) hl hb hu (tups_same hv h h')
  rw [all_true] at this
  have e : us.toArray.size = us'.toArray.size := by rw [List.size_toArray, List.size_toArray, all_len h, all_len h']
  rw [e, beq_self_eq_true] at this
  exact this

end Mine

namespace Mine
open PySem PySem.W PyProof.Rows PyProof.Rows.LCg

abbrev dLaw := dfOf "law" top
abbrev lwB : List Stmt := bdOf dLaw
abbrev lwSc : Scope := scOf dLaw
abbrev lwLs : List Str := ["script", "first", "wide", "version", "far", "room", "emitter", "numbers", "texts", "start", "text", "due"]
abbrev lwO : Orc := mkO lwLs ["len"]

/-- what law needs besides -/
structure LawK (P : Pg) (X : EmK P) where
  fA : Addr
  az : FnAt P dAz fA
  mg : plainGet P.K X.C "analyze_scalar" = true
  mf : findIn P.K (.ref X.C) "analyze_scalar" = some (some (.ref fA))
  mt : isFn P.K (.ref fA) = true
  fT : Addr
  tg : nsIn P.K mainGlobals "_law_told" = some (some (.ref fT))
  told : FnAt P dTold fT

theorem iter_news {prog : Program} {w : World} {A : Around} {E : Value → Shared → Prop} {s : Shared} {env : Env} {h₀ : Heap} {x : Str} {body : List Stmt} {Q : Flow → Shared → Prop}
    {T : Addr} {items : Array Value} {n : Nat} {m₀ : Str → Option Value} {news : List (Addr × Obj)} (J : Nat → (Str → Option Value) → Prop)
    (hh : A.handled = none) (hT : (T, ({ cls := .type "list", data := .seq items n } : Obj)) ∈ news) (F : Fr h₀ env.locals s.heap m₀) (N : News h₀ env.locals s.heap news) (hj : J 0 m₀)
    (turn : ∀ i v m₁ h tk own, items[i]? = some v → J i m₁ → Fr h₀ env.locals h (fun y => if y = x then some v else m₁ y) → News h₀ env.locals h (own ++ news) →
      wpAny (model prog w) A (execs body env) (InvPost h₀ env.locals (J (i + 1)) (own ++ news) { s with heap := h, toks := tk } Q) E { s with heap := h, toks := tk })
    (done : ∀ m₁ h tk, J items.size m₁ → Fr h₀ env.locals h m₁ → News h₀ env.locals h news → Q .next { s with heap := h, toks := tk }) :
    wpAny (model prog w) A (pyIter (.ref T)) (fun it s₂ => LoopAtV prog w A h₀ env x body Q E it s₂) E s := by
  have hls : s.heap.IsList T items := N.isList hT
  have hlt : T < s.heap.objs.size := Heap.lt_size (N _ hT).1
  have hne : T ≠ s.heap.objs.size := Nat.ne_of_lt hlt
  refine wpAny_pyIter_list hls ?_
  have W := Walks.list (prog := prog) (w := w) hh s.heap.objs.size T hne items
  let J' : Nat → (Str → Option Value) → List (Addr × Obj) → Prop := fun i m₁ news₁ => news₁ = news ∧ J i m₁
  refine ⟨_, _, _, items.size, _, _, m₀, news, J', rfl, W, ?_, ?_, ?_, ⟨⟨_, Heap.get?_push_size _ rfl, rfl, rfl⟩, hls.at fun o e => Heap.get?_push_of_some _ e⟩, F.push _, (fun p hp => ⟨Heap.get?_push_of_some _ (N p hp).1, (N p hp).2⟩), ⟨rfl, hj⟩, ?_, ?_⟩
  · intro hm
    rcases List.mem_cons.mp hm with e | hm
    · exact absurd F.ns.lt (e ▸ Nat.lt_irrefl _)
    · exact (N _ hT).2.1 (List.mem_singleton.mp hm).symm
  · intro b hb
    rw [List.mem_singleton.mp hb]
    exact next_is_new F
  · intro p hp hI
    exact absurd (Heap.lt_size (N p hp).1) ((List.mem_singleton.mp hI) ▸ Nat.lt_irrefl _)
  · rintro i v m₁ news₁ s₁ own ⟨hh', tk', rfl⟩ hin hP ⟨rfl, hJ⟩ hoff _ _ _ _ F₁ N₁
    refine wpAny_mono (turn i v m₁ hh' tk' own hP hJ F₁ N₁) (fun f s₂ p => ?_) fun _ _ e => e
    have fin : InvEnd h₀ env.locals (J (i + 1)) (own ++ news₁) { s with heap := hh', toks := tk' } s₂ → LoopStepU h₀ env.locals [s.heap.objs.size] own (J' (i + 1)) { s with heap := hh', toks := tk' } .next s₂ := by
      rintro ⟨h', tk, m', news', e, F', N', hn, hm⟩
      exact ⟨rfl, h', tk, m', news₁, e, F', fun p hp => N' p (hn p hp), hoff, rfl, hm⟩
    cases f with
    | ret v => exact .ret p
    | brk => exact .brk p
    | next => exact .next (fin p)
    | cont => exact .cont (fin p)
  · rintro h' tk m' news' F' N' _ ⟨rfl, hJ⟩
    exact done m' h' tk hJ F' N'

theorem evs_nil_t {B : Bx} {σ : Sg} : B.EvsOk σ [] .t [] := fun _ pos s Q hs k => args_nil (k [] s hs .nil)
theorem evs_cons_t {B : Bx} {σ : Sg} {e : Expr} {r : List Expr} {v : V} {vs : List V} (hn : noStar e = true) (h₁ : B.EvOk σ e .t v) (h₂ : B.EvsOk σ r .t vs) : B.EvsOk σ (e :: r) .t (v :: vs) :=
  fun _ pos s Q hs k => args_cons (h₁ trivial s _ hs fun u s₁ hs₁ hu => h₂ trivial pos s₁ _ hs₁ fun us s₂ hs₂ hus => k (u :: us) s₂ hs₂ (.cons hu hus)) (star_cons hn)

theorem handed_of {v : V} {u : Value} (hv : plainV v = true) (h : v.is u) : handedIn u = true := by
  cases v with
  | bol c => cases h; rfl
  | int i => obtain ⟨t, rfl⟩ := h; rfl
  | txt x => obtain ⟨t, rfl⟩ := h; rfl
  | _ => cases hv
theorem handed_all {vs : List V} {us : List Value} (h : AllIs vs us) (hv : vs.all plainV = true) : ∀ u ∈ us, handedIn u = true := by
  induction h with
  | nil => intro u hu; cases hu
  | cons hu r ih =>
    rw [List.all_cons, Bool.and_eq_true] at hv
    intro u hm
    rcases List.mem_cons.mp hm with rfl | hm
    · exact handed_of hv.1 hu
    · exact ih hv.2 u hm
theorem rVals_plain (x : Str) (old w r m : Bool) : (rVals x old w r m).all plainV = true := by
  unfold rVals
  split <;> rfl
theorem rVals_len (x : Str) (old w r m : Bool) : (rVals x old w r m).length = 8 := by
  unfold rVals
  split <;> rfl

section
variable {P : Pg} {X : EmK P} {e : Addr} {wide old far room : Bool} {objs : List (Addr × Obj)} {k : Nat} {A : Around} {env : Env} {h₀ : Heap} {news : List (Addr × Obj)} {s₀ : Shared}

/-- version == (1, 1) -/
theorem ver_ok (G : Gd P k A env h₀) (hx : env.kindOf "version" = some .local) {σ : Sg} {vV : V} (hl : look σ "version" = some vV)
    (hv : (vV = .non ∧ old = false) ∨ ∃ t j u₁ u₂ n, vV = .ref t ∧ (t, ({ cls := .type "tuple", data := .seq #[.int 1 u₁, .int j u₂] n } : Obj)) ∈ news ∧ old = (j == 1)) {p₁ p₄ p₅ p₆ pos : Pos} {k₁ k₂ k₃ : Nat} :
    (fBx P A env h₀ news s₀).EvOk σ (.Compare (.Name "version" p₁) [.Eq] [.Tuple [.Constant (.int 1) k₁ p₄, .Constant (.int 1) k₂ p₅] k₃ p₆] pos) .t (.bol old) := by
  intro _ s Q hs hQ
  obtain ⟨m, ⟨hh, tk, rfl, F, N⟩, fm⟩ := hs
  obtain ⟨u, hu, hi⟩ := fm "version" _ hl (by rcases hv with ⟨h, _⟩ | ⟨t, j, u₁, u₂, n, h, _⟩ <;> rw [h] <;> intro q <;> cases q)
  refine wpAny_Compare1 (wpAny_Name (wpAny_loadName_local G.kind hx F.ns hu ?_) (by decide +kernel)) rfl
  refine Tuple_ (args_cons (wpAny_Constant_int (args_cons (wpAny_Constant_int (args_nil ?_)) rfl)) rfl)
  refine newTuple_N F N (fun h₂ F₂ N₂ => ?_) (by rw [sizeLine_eq]; exact Nat.le_of_ble_eq_true rfl)
  have hb := tup_is (N₂.isTup (.head _))
  have hu' : A.units < cLine := by have := G.units; omega
  have fin : ∀ c, c = old → Q (.bool c) { s₀ with heap := h₂, toks := tk + 1 + 1 } := by
    rintro c rfl
    exact hQ _ _ ⟨m, ⟨h₂, _, rfl, F₂, fun p hp => N₂ p (.tail _ hp)⟩, fm⟩ rfl
  rcases hv with ⟨h, ho⟩ | ⟨t, j, u₁, u₂, n, h, hm, ho⟩
  · subst h
    cases hi
    exact SeqAt.RcAt.none_tuple hb hu' P.prog P.w _ _ (fin _ ho.symm)
  · subst h
    cases hi
    have ht := tup_is (N₂.isTup (.tail _ hm))
    refine SeqAt.RcAt.tuples (e := fun i => match i with | 0 => true | _ => j == 1) ht hb hu' (fun i h1 h2 => ?_) P.prog P.w _ _ (fin _ ?_)
    · match i with
      | 0 => exact SeqAt.EqAt.int_int _ _ _ _
      | 1 => exact SeqAt.EqAt.int_int _ _ _ _
    · rw [ho]
      cases (j == 1) <;> rfl

/-- _law_told(emitter.analyze_scalar(..)) -/
theorem toldE_ok (Y : Facts P) (Z : SaK P) (W : LawK P X) (M : Em P X e wide old far room objs) (ma : getL "analyze_scalar" M.es = some none) (G : Gd P (k + 4) A env h₀) (sub : ∀ p ∈ objs, p ∈ news) (hx : env.kindOf "emitter" = some .local) (ht : env.kindOf "_law_told" = some .globalImplicit)
    {σ : Sg} (hl : look σ "emitter" = some (.ref e)) {ae : Expr} {x : Str} (hns : noStar ae = true) (hae : (fBx P A env h₀ news s₀).EvOk σ ae .t (.txt x)) (h1 : x.length ≤ 16777216) (hlow : Low x) {pf pe pa pc pos : Pos} {pl : Sem Bool}
    (hq : eval (.Call (.Attribute (.Name "emitter" pe) "analyze_scalar" pa) [ae] [] pc) env = (do
      let ov ← eval (.Name "emitter" pe) env
      standAt pa.atName
      let (f, first) ← holding [ov] (getMethod ov "analyze_scalar" pl)
      callWith pc f first (backTo pc (starEach [ae] env)) []))
    {s : Shared} {Q : Value → Shared → Prop} (hs : (fBx P A env h₀ news s₀).H σ s)
    (kk : ∀ D us h' tk' m', AllIs (rVals x old wide far room) us → Fr h₀ env.locals h' m' → News h₀ env.locals h' ((D, ({ cls := .type "tuple", data := .seq (List.toArray us) } : Obj)) :: news) → Fits σ m' → Q (.ref D) { s₀ with heap := h', toks := tk' }) :
    (fBx P A env h₀ news s₀).run (eval (.Call (.Name "_law_told" pf) [.Call (.Attribute (.Name "emitter" pe) "analyze_scalar" pa) [ae] [] pc] [] pos) env) Q s := by
  have hs' := hs
  obtain ⟨m, ⟨hh, tk, rfl, F, N⟩, fm⟩ := hs
  refine Call_ (nameG_K F G.X (topRead_of G.T) W.tg ?_ G.gl G.kind ht (by decide +kernel)) (by with_unfolding_all rfl)
  refine callWith_K G.X W.told.keep (args_cons (MethodCall_ (pl := pl) ?_ hq) rfl)
  obtain ⟨u, hu, hv⟩ := fm "emitter" _ hl (by intro q; cases q)
  cases hv
  refine wpAny_Name (wpAny_loadName_local G.kind hx F.ns hu ?_) (by decide +kernel)
  have I := InstAt.of_news N (sub _ M.he) (sub _ M.hde)
  refine method_inst F G.X I W.mg W.mf W.mt ma ?_
  refine callWith_K G.X W.az.keep (args_cons (hae trivial _ _ hs' fun u s₁ hs₁ hu => args_nil ?_) (star_cons hns)) (star_cons hns) rfl
  obtain ⟨m₁, ⟨h₁, tk₁, rfl, F₁, N₁⟩, f₁⟩ := hs₁
  obtain ⟨t, rfl⟩ := hu
  refine ⟨G.X.keeps F₁.keep, wpAny_call (analyze_ok Y X Z W.az M k x t h1 A env h₀ m₁ news _ _ G sub F₁ N₁ ?_)⟩
  rintro u new h₂ tk₂ F₂ N₂ ⟨r, dr, es, n, us, rfl, rfl, hes, hus⟩
  rw [vals_is hlow] at hus
  refine args_nil ⟨G.X.keeps F₂.keep, wpAny_call (told_ok Z W.told (k + 3) hes (by rw [all_len hus, rVals_len]) (handed_all hus (rVals_plain _ _ _ _ _)) A env h₀ m₁ _ _ _ G ⟨.head _, .tail _ (.head _)⟩ F₂ N₂ ?_)⟩
  rintro u new h₃ tk₃ F₃ N₃ ⟨D, rfl, rfl⟩
  refine kk D us h₃ tk₃ m₁ hus F₃ (fun p hp => ?_) f₁
  rcases List.mem_cons.mp hp with rfl | hp
  · exact N₃ _ (.head _)
  · exact N₃ _ (.tail _ (.tail _ (.tail _ hp)))
end

end Mine

namespace Mine
open PySem PySem.W PyProof.Rows PyProof.Rows.LCg

def cmR1 : Expr → Expr
  | .Compare _ _ [r] _ => r
  | _ => .Constant .none 0 default
def cmL' : Expr → Expr
  | .Compare l _ _ _ => l
  | _ => .Constant .none 0 default
def caAt : Expr → Pos × Pos
  | .Call (.Attribute (.Name _ p) _ q) _ _ _ => (p, q)
  | _ => default
def boL : Expr → List Expr
  | .BoolOp _ es _ => es
  | _ => []
def boP : Expr → Pos
  | .BoolOp _ _ p => p
  | _ => default
def coKP (e : Expr) : Nat := (coK e).1
def coPP (e : Expr) : Pos := (coK e).2
/-- version == (1, 1) -/
def asVer (c : Expr) : Expr := .Compare (.Name "version" (exPos (cmL' c))) [.Eq] [.Tuple [.Constant (.int 1) (coKP (nthE (tupL (cmR1 c)) 0)) (coPP (nthE (tupL (cmR1 c)) 0)), .Constant (.int 1) (coKP (nthE (tupL (cmR1 c)) 1)) (coPP (nthE (tupL (cmR1 c)) 1))] (tupK (cmR1 c)) (tupP (cmR1 c))] (cmP c)
def asDue (st : Stmt) : Stmt := .Assign [.Name "due" (asgP st)] (.Call (.Name "_law_reading" (caF (asgE st))) [.Name "text" (exPos (nthE (caA (asgE st)) 0)), asVer (nthE (caA (asgE st)) 1), .Name "wide" (exPos (nthE (caA (asgE st)) 2)), .Name "far" (exPos (nthE (caA (asgE st)) 3)), .Name "room" (exPos (nthE (caA (asgE st)) 4))] [] (caP (asgE st))) (stPos st)
def asTold (ae : Expr) (c : Expr) : Expr := .Call (.Name "_law_told" (caF c)) [.Call (.Attribute (.Name "emitter" (caAt (nthE (caA c) 0)).1) "analyze_scalar" (caAt (nthE (caA c) 0)).2) [ae] [] (caP (nthE (caA c) 0))] [] (caP c)
def asNe (st : Stmt) : Stmt := .If (.Compare (asTold (.Name "text" (exPos (nthE (caA (nthE (caA (cmL' (ifT st))) 0)) 0))) (cmL' (ifT st))) [.NotEq] [.Name "due" (exPos (cmR1 (ifT st)))] (cmP (ifT st))) (inB st) [] (ifP st)
def foX : Stmt → Pos
  | .For (.Name _ p) _ _ _ _ => p
  | _ => default
def foI : Stmt → Expr
  | .For _ i _ _ _ => i
  | _ => .Constant .none 0 default
def foP : Stmt → Pos
  | .For _ _ _ _ p => p
  | _ => default
def asTexts (st : Stmt) : Stmt := .For (.Name "text" (foX st)) (.Name "texts" (exPos (foI st))) [asDue (nth (inB st) 0), asNe (nth (inB st) 1)] [] (foP st)
theorem asTexts_is : nth lwB 12 = asTexts (nth lwB 12) := by kernel_rfl!

def lwS (e : Addr) (vV : V) (w r m : Bool) (T : Addr) : Sg := [("emitter", .ref e), ("version", vV), ("wide", .bol w), ("far", .bol r), ("room", .bol m), ("texts", .ref T)]

/-- the names of law's frame -/
structure LwN (env : Env) : Prop where
  ls : ∀ x ∈ lwLs, env.kindOf x = some .local ∧ (x == ("__debug__" : Str)) = false
  len : env.kindOf "len" = some .globalImplicit
  range : env.kindOf "range" = some .globalImplicit
  reading : env.kindOf "_law_reading" = some .globalImplicit
  told : env.kindOf "_law_told" = some .globalImplicit
  pieces : env.kindOf "_law_pieces" = some .globalImplicit

section
variable {P : Pg} {X : EmK P} {e : Addr} {wide old far room : Bool} {objs : List (Addr × Obj)} {k : Nat} {A : Around} {env : Env} {h₀ : Heap}

theorem lwO_okS (Y : Facts P) (G : Gd P k A env h₀) (L : LwN env) (news : List (Addr × Obj)) (s₀ : Shared) : lwO.OkS (fBx P A env h₀ news s₀) :=
  mkO_okS (mkO_ok (B := fBx P A env h₀ news s₀) Y fBx_on G G.kind G.gl G.bi L.ls (forall1 ⟨L.len, by decide +kernel⟩) (.inr (by decide +kernel)))

theorem meth_eqN {y m z : Str} {py pm pos pz : Pos} {env : Env} (h : (pm.endLine == pos.line) = true) : eval (.Call (.Attribute (.Name y py) m pm) [.Name z pz] [] pos) env = (do
      let ov ← eval (.Name y py) env
      standAt pm.atName
      let (f, first) ← holding [ov] (getMethod ov m (do return (← importBound (.Name y py) env).getD true))
      callWith pos f first (backTo pos (starEach [.Name z pz] env)) []) := by
  show (do
      let ov ← eval (.Name y py) env
      standAt pm.atName
      let (f, first) ← holding [ov] (getMethod ov m (do return (← importBound (.Name y py) env).getD true))
      let callPos ← methodCallPos (methodCallForm 1 (backTo pos (starEach [.Name z pz] env)) []) (.Name y py) env pm pos
      callWith callPos f first (backTo pos (starEach [.Name z pz] env)) []) = _
  simp only [meth_pos h]
  rfl
theorem in_ls {x : Str} (h : lwLs.any (same x) = true) : x ∈ lwLs := any_same h

theorem turn_ok (Y : Facts P) (Z : SaK P) (W : LawK P X) (M : Em P X e wide old far room objs) (ma : getL "analyze_scalar" M.es = some none) (G : Gd P (k + 4) A env h₀) (L : LwN env) {news : List (Addr × Obj)} (sub : ∀ p ∈ objs, p ∈ news) {vV : V}
    (hv : (vV = .non ∧ old = false) ∨ ∃ t j u₁ u₂ n, vV = .ref t ∧ (t, ({ cls := .type "tuple", data := .seq #[.int 1 u₁, .int j u₂] n } : Obj)) ∈ news ∧ old = (j == 1)) {T : Addr} {x : Str} (h1 : x.length ≤ 16777216) (hlow : Low x) {s₀ : Shared} {s : Shared} {Q : Flow → Shared → Prop}
    (hs : (fBx P A env h₀ news s₀).H (put "text" (.txt x) (lwS e vV wide far room T)) s) {need : List (Addr × Obj)} (hneed : ∀ p ∈ need, p ∈ news) :
    (fBx P A env h₀ news s₀).run (execs [asDue (nth (inB (nth lwB 12)) 0), asNe (nth (inB (nth lwB 12)) 1)] env) (InvPost h₀ env.locals (fun m₁ => Fits (lwS e vV wide far room T) m₁) need s₀ Q) s := by
  have hs' := hs
  obtain ⟨m, ⟨hh, tk, rfl, F, N⟩, fm⟩ := hs
  have hO := lwO_okS Y G L news s₀
  have l1 : look (put "text" (.txt x) (lwS e vV wide far room T)) "version" = some vV := by kernel_rfl!
  refine wpAny_execs_cons (wpAny_Assign_Name (Call_ (nameG_K F G.X (topRead_of G.T) Y.reading.glob ?_ G.gl G.kind L.reading (by decide +kernel)) (by with_unfolding_all rfl)) (noComp_swaps rfl))
  refine callWith_K G.X Y.reading.keep ?_
  refine evs_cons_t (vs := [.bol old, .bol wide, .bol far, .bol room]) rfl (ev_ok hO.toOk 20 _ _ .t (.txt x) (by kernel_rfl!)) (evs_cons_t rfl (ver_ok G (L.ls _ (by decide +kernel)).1 l1 hv) (evs_cons_t rfl (ev_ok hO.toOk 20 _ _ .t (.bol wide) (by kernel_rfl!)) (evs_cons_t rfl (ev_ok hO.toOk 20 _ _ .t (.bol far) (by kernel_rfl!)) (evs_cons_t rfl (ev_ok hO.toOk 20 _ _ .t (.bol room) (by kernel_rfl!)) evs_nil_t)))) trivial _ _ _ hs' fun us s₁ hs₁ hus => ?_
  obtain ⟨m₁, ⟨h₁, tk₁, rfl, F₁, N₁⟩, f₁⟩ := hs₁
  refine ⟨G.X.keeps F₁.keep, ?_⟩
  refine reading_ok Y (k + 1) x old wide far room us hus h1 A env h₀ m₁ news _ _ G F₁ N₁ fun u new h₂ tk₂ F₂ N₂ hu => ?_
  obtain ⟨D, ts, rfl, rfl, hts⟩ := hu
  have hO₂ := lwO_okS Y G L ((D, ({ cls := .type "tuple", data := .seq (List.toArray ts) } : Obj)) :: news) s₀
  refine store_ok (v := .ref D) hO₂ (by kernel_rfl!) rfl ⟨m₁, ⟨h₂, tk₂, rfl, F₂, N₂⟩, f₁⟩ fun s₃ hs₃ => ?_
  refine wpAny_execs_cons (wpAny_If (wpAny_isTrue_Compare1 ?_ (by with_unfolding_all rfl)))
  refine toldE_ok Y Z W M ma G (fun p hp => .tail _ (sub p hp)) (L.ls _ (by decide +kernel)).1 L.told (σ := put "due" (.ref D) (put "text" (.txt x) (lwS e vV wide far room T))) (by kernel_rfl!) rfl (ev_ok hO₂.toOk 20 _ _ .t (.txt x) (by kernel_rfl!)) h1 hlow (meth_eqN (by decide +kernel)) hs₃ fun D' us' h₄ tk₄ m₄ hus' F₄ N₄ f₄ => ?_
  obtain ⟨uD, hD, hDv⟩ := f₄ "due" (.ref D) (by kernel_rfl!) (by intro q; cases q)
  cases hDv
  refine wpAny_Name (wpAny_loadName_local G.kind (L.ls "due" (by decide +kernel)).1 F₄.ns hD ?_) (by decide +kernel)
  refine tups_ne (rVals_plain x old wide far room) hus' hts (tup_is (N₄.isTup (.head _))) (tup_is (N₄.isTup (.tail _ (.head _)))) (by have := G.units; show A.units < _; omega) P.prog P.w _ _ (wpAny_truthy_bool ?_)
  rw [if_neg (by decide)]
  refine wpAny_execs_nil (wpAny_execs_nil ?_)
  refine ⟨h₄, tk₄, m₄, _, rfl, F₄, N₄, fun p hp => .tail _ (.tail _ (hneed p hp)), fun y v hy ha => f₄ y v (Sub.look (σ' := lwS e vV wide far room T) (show Sub (lwS e vV wide far room T) (put "due" (.ref D) (put "text" (.txt x) (lwS e vV wide far room T))) from ⟨by kernel_rfl!, by kernel_rfl!, by kernel_rfl!, by kernel_rfl!, by kernel_rfl!, by kernel_rfl!, trivial⟩) y v hy) ha⟩

def Good (v : Value) : Prop := ∃ x t, v = .str x t ∧ x.length ≤ 16777216 ∧ Low x

/-- for text in texts: .. -/
theorem texts_ok (Y : Facts P) (Z : SaK P) (W : LawK P X) (M : Em P X e wide old far room objs) (ma : getL "analyze_scalar" M.es = some none) (G : Gd P (k + 4) A env h₀) (L : LwN env) {news : List (Addr × Obj)} (sub : ∀ p ∈ objs, p ∈ news) {vV : V}
    (hv : (vV = .non ∧ old = false) ∨ ∃ t j u₁ u₂ n, vV = .ref t ∧ (t, ({ cls := .type "tuple", data := .seq #[.int 1 u₁, .int j u₂] n } : Obj)) ∈ news ∧ old = (j == 1)) {T : Addr} {items : Array Value} {n : Nat} (hT : (T, ({ cls := .type "list", data := .seq items n } : Obj)) ∈ news) (hg : ∀ v ∈ items, Good v)
    {s₀ s : Shared} {Q : Flow → Shared → Prop} (hs : (fBx P A env h₀ news s₀).H (lwS e vV wide far room T) s) (kk : ∀ s', (fBx P A env h₀ news s₀).H (lwS e vV wide far room T) s' → Q .next s') :
    (fBx P A env h₀ news s₀).run (exec (nth lwB 12) env) Q s := by
  rw [asTexts_is]
  refine For_invV h₀ (L.ls "text" (by decide +kernel)).1 (by rw [G.kind]; rfl) ?_ (by intro y; rfl) PassesOwn.never
  obtain ⟨m, ⟨hh, tk, rfl, F, N⟩, fm⟩ := hs
  obtain ⟨u, hu, hi⟩ := fm "texts" (.ref T) (by kernel_rfl!) (by intro q; cases q)
  cases hi
  refine wpAny_Name (wpAny_loadName_local G.kind (L.ls "texts" (by decide +kernel)).1 F.ns hu ?_) (by decide +kernel)
  refine iter_news (fun i m₁ => Fits (lwS e vV wide far room T) m₁) G.calm hT F N fm ?_ ?_
  · intro i v m₁ h₁ tk₁ own hiv f₁ F₁ N₁
    obtain ⟨x, t, rfl, h1, hlow⟩ := hg v (Array.mem_of_getElem? hiv)
    refine turn_ok Y Z W M ma G L (news := own ++ news) (fun p hp => List.mem_append_right _ (sub p hp)) ?_ h1 hlow (s₀ := { s₀ with heap := h₁, toks := tk₁ }) ⟨_, ⟨h₁, tk₁, rfl, F₁, N₁⟩, ?_⟩ (fun p hp => hp)
    · rcases hv with h | ⟨t, j, u₁, u₂, n, a, b, c⟩
      · exact .inl h
      · exact .inr ⟨t, j, u₁, u₂, n, a, List.mem_append_right _ b, c⟩
    · intro y w hw hwa
      rw [look_put] at hw
      cases q : same "text" y with
      | true =>
        rw [q] at hw
        have := same_iff.mp q
        subst this
        cases hw
        exact ⟨_, if_pos rfl, t, rfl⟩
      | false =>
        rw [q] at hw
        have ne : y ≠ "text" := fun z => by rw [z, same_iff.mpr rfl] at q; cases q
        obtain ⟨u, hu, hi'⟩ := f₁ y w hw hwa
        exact ⟨u, (if_neg ne).trans hu, hi'⟩
  · intro m₁ h₁ tk₁ f₁ F₁ N₁
    exact kk _ ⟨m₁, ⟨h₁, tk₁, rfl, F₁, N₁⟩, f₁⟩

def asBools (e : Expr) : Expr := .Constant (.bool true) (coKP e) (coPP e)
def rtE (st : Stmt) : Expr := retE st
/-- the last return -/
def asLast (st : Stmt) : Stmt := .Return (some (.BoolOp .And [.Compare (.Call (.Name "len" (caF (cmL' (nthE (boL (retE st)) 0)))) [.Name "texts" (exPos (nthE (caA (cmL' (nthE (boL (retE st)) 0))) 0))] [] (caP (cmL' (nthE (boL (retE st)) 0)))) [.GtE] [.Constant (.int 1) (coKP (cmR1 (nthE (boL (retE st)) 0))) (coPP (cmR1 (nthE (boL (retE st)) 0)))] (cmP (nthE (boL (retE st)) 0)),
    .Compare (asTold (.Constant (.str ⟨#[97, 32, 98]⟩) (coKP (nthE (caA (nthE (caA (cmL' (nthE (boL (retE st)) 1))) 0)) 0)) (coPP (nthE (caA (nthE (caA (cmL' (nthE (boL (retE st)) 1))) 0)) 0))) (cmL' (nthE (boL (retE st)) 1))) [.Eq] [.Tuple (tupL (cmR1 (nthE (boL (retE st)) 1))) (tupK (cmR1 (nthE (boL (retE st)) 1))) (tupP (cmR1 (nthE (boL (retE st)) 1)))] (cmP (nthE (boL (retE st)) 1))] (boP (retE st)))) (stPos st)
theorem asLast_is : nth lwB 13 = asLast (nth lwB 13) := by kernel_rfl!
theorem ab_vals (old w r m : Bool) : rVals ⟨#[97, 32, 98]⟩ old w r m = [.txt ⟨#[97, 32, 98]⟩, .bol false, .bol false, .bol true, .bol true, .bol true, .bol true, .bol true] := by
  cases old <;> cases w <;> cases r <;> cases m <;> kernel_rfl!
theorem ab_low : Low ⟨#[97, 32, 98]⟩ := by
  intro i hi
  have hi' : i < 3 := hi
  match i, hi' with
  | 0, _ => decide
  | 1, _ => decide
  | 2, _ => decide

theorem last_ok (Y : Facts P) (Z : SaK P) (W : LawK P X) (M : Em P X e wide old far room objs) (ma : getL "analyze_scalar" M.es = some none) (G : Gd P (k + 4) A env h₀) (L : LwN env) {news : List (Addr × Obj)} (sub : ∀ p ∈ objs, p ∈ news) {vV : V}
    {T : Addr} {items : Array Value} {n : Nat} (hT : (T, ({ cls := .type "list", data := .seq items n } : Obj)) ∈ news) (hz : 1 ≤ items.size) (hz' : items.size ≤ 16777216)
    {s₀ s : Shared} {Q : Flow → Shared → Prop} (hs : (fBx P A env h₀ news s₀).H (lwS e vV wide far room T) s) (kk : ∀ h tk m' news', Fr h₀ env.locals h m' → News h₀ env.locals h news' → Q (.ret (.bool true)) { s₀ with heap := h, toks := tk }) :
    (fBx P A env h₀ news s₀).run (execs [nth lwB 13] env) Q s := by
  rw [asLast_is]
  have hs' := hs
  obtain ⟨m, ⟨hh, tk, rfl, F, N⟩, fm⟩ := hs
  have hO := lwO_okS Y G L news s₀
  obtain ⟨u, hu, hi⟩ := fm "texts" (.ref T) (by kernel_rfl!) (by intro q; cases q)
  cases hi
  have TR := topRead_of G.T
  refine wpAny_execs_cons (wpAny_Return_some (BoolOp_and (wpAny_Compare1 (Call_ ?_ (by with_unfolding_all rfl)) rfl)))
  refine Calls.Name_function_global G.kind L.len (Calls.loadGlobal_builtin (by rw [G.gl]; exact TR.g.keeps F.keep) (mg_none_of G.X TR.g Y.len) (by rw [G.bi]; exact TR.b.keeps F.keep) ((TR.builtins "len" (by decide)).trans (by boot_fast)) ?_) (by decide)
  refine callWith_builtin1 (args_cons (wpAny_Name (wpAny_loadName_local G.kind (L.ls "texts" (by decide +kernel)).1 F.ns hu (args_nil ?_)) (by decide +kernel)) rfl) rfl rfl
  refine len_list (N.isList hT) (by omega) ?_
  refine wpAny_Constant_int (ge_int (wpAny_truthy_bool ?_))
  rw [if_pos (by simp; omega)]
  refine BoolOp_one (wpAny_Compare1 ?_ (by with_unfolding_all rfl))
  refine toldE_ok Y Z W M ma G sub (L.ls _ (by decide +kernel)).1 L.told (σ := lwS e vV wide far room T) (x := ⟨#[97, 32, 98]⟩) (by kernel_rfl!) rfl (ev_ok hO.toOk 20 _ _ .t (.txt ⟨#[97, 32, 98]⟩) (by kernel_rfl!)) (by decide) ab_low (meth_eq (by decide +kernel)) ⟨m, ⟨hh, _, rfl, F, N⟩, fm⟩ fun D' us' h₄ tk₄ m₄ hus' F₄ N₄ f₄ => ?_
  have hO₄ := lwO_okS Y G L ((D', ({ cls := .type "tuple", data := .seq (List.toArray us') } : Obj)) :: news) s₀
  refine Tuple_ ((evs_ok (ev_ok hO₄.toOk 20 (lwS e vV wide far room T)) _ .t (rVals ⟨#[97, 32, 98]⟩ old wide far room) (by rw [ab_vals]; kernel_rfl!)).1 trivial _ _ _ ⟨m₄, ⟨h₄, tk₄, rfl, F₄, N₄⟩, f₄⟩ fun ts s₅ hs₅ hts => ?_)
  obtain ⟨m₅, ⟨h₅, tk₅, rfl, F₅, N₅⟩, f₅⟩ := hs₅
  refine newTuple_N F₅ N₅ (fun h₆ F₆ N₆ => ?_) (by rw [all_len hts, rVals_len, sizeLine_eq]; exact Nat.le_of_ble_eq_true rfl)
  exact tups_eq (rVals_plain _ _ _ _ _) hus' hts (tup_is (N₆.isTup (.tail _ (.head _)))) (tup_is (N₆.isTup (.head _))) (by have := G.units; show A.units < _; omega) P.prog P.w _ _ (kk h₆ _ m₅ _ F₆ N₆)
end
end Mine

namespace Mine
open PySem PySem.W PyProof.Rows PyProof.Rows.LCg

/-- [elt for x in ..], a list as source -/
theorem listcomp_ok {P : Pg} {k : Nat} {A : Around} {fenv : Env} {h₀ : Heap} {news : List (Addr × Obj)} {s₀ s : Shared} {m : Str → Option Value} (G : Gd P k A fenv h₀) {elt iter : Expr} {x : Str} {px pos : Pos} {scope : Scope} {cl : List (Str × Addr)} {Iv Gp : Value → Prop} {B : Nat} (hB : B ≤ sizeLine) {Q : Value → Shared → Prop}
    (hclos : closureFor scope fenv = pure cl) (hcell : ∀ y ∈ scope.names, y.2 ≠ .cell) (hkind : scope.kind = .function)
    (hnames : ∀ y ∈ scope.names, y.2 = .local → scope.names.lookup y.1 = some .local) (hx : scope.names.lookup x = some .local) (hs : ∀ x, foldedSetIterable iter fenv x = pure x)
    (src : wpAny (model P.prog P.w) A (eval iter fenv) (fun xv s₁ => ∃ ax its n news₁ h tk, xv = .ref ax ∧ s₁ = { s₀ with heap := h, toks := tk } ∧ Fr h₀ fenv.locals h m ∧ News h₀ fenv.locals h news₁ ∧ (∀ p ∈ news, p ∈ news₁) ∧ (ax, ({ cls := .type "list", data := .seq its n } : Obj)) ∈ news₁ ∧ its.size ≤ B ∧ ∀ v ∈ its, Iv v) (fun _ _ => False) s)
    (helt : ∀ C oC m₂ news₂ h tk v (Q' : Value → Shared → Prop) (E' : Value → Shared → Prop), Iv v → NsObj oC m₂ → m₂ x = some v → (C, oC) ∈ news₂ → (∀ p ∈ news, p ∈ news₂) → Fr h₀ fenv.locals h m → News h₀ fenv.locals h news₂ → (∀ y tk', Gp y → Q' y { s₀ with heap := h, toks := tk' }) →
      wpAny (model P.prog P.w) A (eval elt (compEnvC scope cl C fenv)) Q' E' { s₀ with heap := h, toks := tk })
    (fin : ∀ D ys h tk, (∀ y ∈ ys, Gp y) → ys.length ≤ B → Fr h₀ fenv.locals h m → News h₀ fenv.locals h ((D, lst ys) :: news) → Q (.ref D) { s₀ with heap := h, toks := tk }) :
    wpAny (model P.prog P.w) A (eval (.ListComp elt [⟨.Name x px, iter, [], 0⟩] scope pos) fenv) Q (fun _ _ => False) s := by
  rw [eval_ListComp]
  refine wpAny_comprehension_free (use := none) rfl hs hclos hkind hnames (wpAny_mono src (fun xv s₁ hq => ?_) fun _ _ h => h.elim)
  obtain ⟨ax, its, nn, news₁, h, tk, rfl, rfl, F, N, sub, hax, hsz, hits⟩ := hq
  have hls : h.IsList ax its := N.isList hax
  refine wpAny_pyIter_list hls ?_
  dsimp only
  have hlt : ax < h.objs.size := Heap.lt_size (N _ hax).1
  have hIs : h.objs.size < (h.push { cls := .type "list_iterator", data := .fields #[.ref ax, .int 0 0] }).objs.size := by rw [Heap.size_push]; exact Nat.lt_succ_self _
  have hFL : fenv.locals ≠ h.objs.size := Nat.ne_of_lt F.ns.lt
  have hI₀ : h₀.get? h.objs.size = none := next_is_new F
  have off : ∀ p ∈ news₁, p.1 ≠ h.objs.size := fun p hp => Nat.ne_of_lt (Heap.lt_size (N p hp).1)
  have W := Walks.list (prog := P.prog) (w := P.w) G.calm h.objs.size ax (Nat.ne_of_lt hlt) its
  have key : ∀ (j i : Nat) (ys : List Value), i + j = its.size → ys.length = i → (∀ y ∈ ys, Gp y) →
      CompRest P.prog P.w A h₀ fenv.locals m fenv elt x scope cl { s₀ with heap := h.push { cls := .type "list_iterator", data := .fields #[.ref ax, .int 0 0] }, toks := tk } (fun nw => nw = news₁) (fun i v => its[i]? = some v) (fun ys nw => nw = news₁ ∧ (∀ y ∈ ys, Gp y) ∧ ys.length ≤ B) j i ys news₁ := by
    intro j
    induction j with
    | zero =>
      intro i ys hi hl hy
      exact CompRest.zero ⟨rfl, hy, by omega⟩
    | succ j ih =>
      intro i ys hi hl hy
      refine CompRest.succ ?_
      intro v I' oI C oC D m₂ h₁ tk₁ E' hv hC hx' F' N' off' ne
      refine helt C oC m₂ _ h₁ tk₁ v _ _ (hits v (Array.mem_of_getElem? hv)) hC hx' (.tail _ (.head _)) (fun p hp => .tail _ (.tail _ (.tail _ (sub p hp)))) F' N' fun y tk' hg => ?_
      refine ⟨h₁, tk', news₁, rfl, F', N', off', rfl, ih (i + 1) _ (by omega) (by simp [hl]) fun z hz => ?_⟩
      rcases List.mem_append.mp hz with hz | hz
      · exact hy z hz
      · rw [List.mem_singleton.mp hz]; exact hg
  refine block_U (S := fun nw => nw = news₁) (Fin := fun ys nw => nw = news₁ ∧ (∀ y ∈ ys, Gp y) ∧ ys.length ≤ B) W (Nat.le_trans hsz hB) (fun i h st => ?_) (fun i h h' o nw st e e' _ N'' hS => ?_) hcell hkind hx ⟨⟨_, Heap.get?_push_size _ rfl, rfl, rfl⟩, hls.at fun o e => Heap.get?_push_of_some _ e⟩ (fun b hb => ?_)
    (F.push _) (fun p hp => ⟨Heap.get?_push_of_some _ (N p hp).1, (N p hp).2⟩) hFL hI₀ off rfl (key its.size 0 [] (by omega) rfl (fun y hy => by cases hy)) ?_
  · obtain ⟨⟨o, ho, _⟩, _⟩ := st
    exact ⟨o, ho⟩
  · subst hS
    exact ⟨st.1.at fun o' q => by rw [e] at q; exact e'.trans q, N''.isList hax⟩
  · rcases List.mem_cons.mp hb with rfl | hb
    · exact hIs
    · rw [List.mem_singleton.mp hb, Heap.size_push]
      exact Nat.lt_succ_of_lt hlt
  · intro D C h' tk' m' ys news' F' N' o1 hn hC₀ hD₀ hCL hDL hCD offC hf
    obtain ⟨rfl, hg, hz⟩ := hf
    refine ⟨m', hn, fun h'' hs'' => fin D ys h'' tk' hg hz (F'.change hs'' hCL hC₀) fun p hp => ?_⟩
    refine ⟨hs''.extBut _ _ ?_ (N' p ?_).1, (N' p ?_).2⟩
    · rcases List.mem_cons.mp hp with rfl | hp
      · exact Ne.symm hCD
      · exact offC p (sub p hp)
    · rcases List.mem_cons.mp hp with rfl | hp
      · exact .head _
      · exact .tail _ (sub p hp)
    · rcases List.mem_cons.mp hp with rfl | hp
      · exact .head _
      · exact .tail _ (sub p hp)

end Mine

namespace Mine
open PySem PySem.W PyProof.Rows PyProof.Rows.LCg

/-- a text of few signs -/
def Piece (v : Value) : Prop := ∃ x t, v = .str x t ∧ x.length ≤ 3 ∧ ∀ c ∈ x.cps.toList, c ≤ 1114111
theorem low_of {x : Str} (h : ∀ c ∈ x.cps.toList, c ≤ 1114111) : Low x := by
  intro i hi
  have hi' : i < x.cps.toList.length := by
    have q : i < x.cps.size := hi
    simpa using q
  have e : x.cps[i]? = some x.cps.toList[i] := by
    rw [← Array.getElem?_toList]
    exact List.getElem?_eq_getElem hi'
  rw [e]
  exact h _ (List.getElem_mem hi')
theorem pieces_are : ∀ ys : List Value, (∀ y ∈ ys, Piece y) → ∃ l : List (Str × Tok), ys = strValues l ∧ ∀ p ∈ l, p.1.length ≤ 3 ∧ ∀ c ∈ p.1.cps.toList, c ≤ 1114111
  | [], _ => ⟨[], rfl, fun p hp => by cases hp⟩
  | y :: ys, h => by
    obtain ⟨x, t, rfl, h1, h2⟩ := h _ (.head _)
    obtain ⟨l, rfl, hl⟩ := pieces_are ys fun y hy => h y (.tail _ hy)
    refine ⟨(x, t) :: l, rfl, fun p hp => ?_⟩
    rcases List.mem_cons.mp hp with rfl | hp
    · exact ⟨h1, h2⟩
    · exact hl p hp
theorem join_low : ∀ ts : List Str, (∀ x ∈ ts, ∀ c ∈ x.cps.toList, c ≤ 1114111) → ∀ c ∈ (Str.join ⟨#[]⟩ ts).cps.toList, c ≤ 1114111
  | [], _, c, hc => by cases hc
  | [x], h, c, hc => h x (.head _) c hc
  | x :: y :: r, h, c, hc => by
    have hc' : c ∈ (x ++ ⟨#[]⟩ ++ Str.join ⟨#[]⟩ (y :: r)).cps.toList := hc
    have e : (x ++ ⟨#[]⟩ ++ Str.join ⟨#[]⟩ (y :: r)).cps.toList = x.cps.toList ++ (Str.join ⟨#[]⟩ (y :: r)).cps.toList := by
      show ((x.cps ++ #[]) ++ (Str.join ⟨#[]⟩ (y :: r)).cps).toList = _
      simp
    rw [e] at hc'
    rcases List.mem_append.mp hc' with hc' | hc'
    · exact h x (.head _) c hc'
    · exact join_low (y :: r) (fun z hz => h z (.tail _ hz)) c hc'
theorem sum_le {l : List (Str × Tok)} (h : ∀ p ∈ l, p.1.length ≤ 3) : ((l.map (·.1)).map (·.length)).sum ≤ 3 * l.length := by
  induction l with
  | nil => exact Nat.le_refl _
  | cons p l ih =>
    have := ih fun p hp => h p (.tail _ hp)
    have := h p (.head _)
    simp only [List.map_cons, List.sum_cons, List.length_cons]
    omega

theorem join_good {l : List (Str × Tok)} (hz : l.length ≤ 63) (h : ∀ p ∈ l, p.1.length ≤ 3 ∧ ∀ c ∈ p.1.cps.toList, c ≤ 1114111) :
    JoinOk ⟨#[]⟩ (l.map (·.1)) = true ∧ (Txt.join ⟨#[]⟩ (l.map (·.1))).length ≤ 16777216 ∧ Low (Txt.join ⟨#[]⟩ (l.map (·.1))) := by
  have hs := sum_le fun p hp => (h p hp).1
  have hj : Txt.join ⟨#[]⟩ (l.map (·.1)) = Str.join ⟨#[]⟩ (l.map (·.1)) := StrLaws.glued_eq_join _ _
  refine ⟨?_, ?_, ?_⟩
  · unfold JoinOk Builtin.Str.tooLong
    rw [StrLaws.joinTotal, sizeLine_eq]
    have e : (⟨#[]⟩ : Str).length = 0 := rfl
    rw [e, Nat.mul_zero]
    simp only [Bool.not_eq_true', decide_eq_false_iff_not]
    omega
  · rw [hj]
    have := StrLaws.join_length_le ⟨#[]⟩ (l.map (·.1))
    have e : (⟨#[]⟩ : Str).length = 0 := rfl
    rw [e, Nat.mul_zero] at this
    omega
  · rw [hj]
    refine low_of (join_low _ fun x hx => ?_)
    obtain ⟨p, hp, rfl⟩ := List.mem_map.mp hx
    exact (h p hp).2

/-- a walk over a range whose turns may change what is made -/
theorem iter_rangeN {prog : Program} {w : World} {A : Around} {E : Value → Shared → Prop} {s : Shared} {env : Env} {h₀ : Heap} {x : Str} {body : List Stmt} {Q : Flow → Shared → Prop}
    {r : Addr} {a b c : Int} {t u v : Tok} {n : Nat} {m₀ : Str → Option Value} {news : List (Addr × Obj)} (J : Nat → (Str → Option Value) → List (Addr × Obj) → Prop)
    (hh : A.handled = none) (hr : IsRange s.heap r a b c t u v) (hsmall : Builtin.Range.small a b c = true) (hn : Builtin.Range.rangeSize a b c = (n : Int)) (F : Fr h₀ env.locals s.heap m₀) (N : News h₀ env.locals s.heap news) (hj : J 0 m₀ news)
    (turn : ∀ i t m₁ news₁ h tk own, i < n → J i m₁ news₁ → news₁.map (·.1) = news.map (·.1) → (∀ p ∈ own, ∀ q ∈ news, p.1 ≠ q.1) → Fr h₀ env.locals h (fun y => if y = x then some (.int (a + i * c) t) else m₁ y) → News h₀ env.locals h (own ++ news₁) →
      wpAny (model prog w) A (execs body env) (fun f s₂ => f = .next ∧ ∃ h' tk' m₂ news₂, s₂ = { s with heap := h', toks := tk' } ∧ Fr h₀ env.locals h' m₂ ∧ News h₀ env.locals h' (own ++ news₂) ∧ news₂.map (·.1) = news.map (·.1) ∧ J (i + 1) m₂ news₂) E { s with heap := h, toks := tk })
    (done : ∀ m₁ news₁ h tk, J n m₁ news₁ → Fr h₀ env.locals h m₁ → News h₀ env.locals h news₁ → Q .next { s with heap := h, toks := tk }) :
    wpAny (model prog w) A (pyIter (.ref r)) (fun it s₂ => LoopAtV prog w A h₀ env x body Q E it s₂) E s := by
  refine wpAny_pyIter_range hr hsmall ?_
  have W := Walks.range (prog := prog) (w := w) hh s.heap.objs.size a c n
  let J' : Nat → (Str → Option Value) → List (Addr × Obj) → Prop := fun i m₁ news₁ => news₁.map (·.1) = news.map (·.1) ∧ J i m₁ news₁
  have offI : ∀ news₁ : List (Addr × Obj), news₁.map (·.1) = news.map (·.1) → ∀ p ∈ news₁, p.1 ∉ [s.heap.objs.size] := by
    intro news₁ e p hp hI
    have hp' : p.1 ∈ news.map (·.1) := by rw [← e]; exact List.mem_map.mpr ⟨p, hp, rfl⟩
    obtain ⟨q, hq, e'⟩ := List.mem_map.mp hp'
    have := Heap.lt_size (N q hq).1
    rw [e', List.mem_singleton.mp hI] at this
    exact Nat.lt_irrefl _ this
  refine ⟨_, _, _, n, _, _, m₀, news, J', rfl, W, ?_, ?_, offI news rfl, ?_, F.push _, (fun p hp => ⟨Heap.get?_push_of_some _ (N p hp).1, (N p hp).2⟩), ⟨rfl, hj⟩, ?_, ?_⟩
  · intro hm
    exact absurd F.ns.lt ((List.mem_singleton.mp hm) ▸ Nat.lt_irrefl _)
  · intro b hb
    rw [List.mem_singleton.mp hb]
    exact next_is_new F
  · show IsRangeIter _ _ _ _ _
    rw [hn]
    simpa using Heap.get?_push_size _ rfl
  · rintro i v m₁ news₁ s₁ own ⟨hh', tk', rfl⟩ hin hP ⟨hadr, hJ⟩ hoff hown _ _ _ F₁ N₁
    obtain ⟨t', rfl⟩ := hP
    refine wpAny_mono (turn i t' m₁ news₁ hh' tk' own hin hJ hadr (fun p hp q hq e => ?_) F₁ N₁) (fun f s₂ hp => ?_) fun _ _ e => e
    · exact offI news rfl q hq (e ▸ hown p hp)
    · obtain ⟨rfl, h', tk'', m₂, news₂, rfl, F₂, N₂, e, hJ₂⟩ := hp
      exact .next ⟨rfl, h', tk'', m₂, news₂, rfl, F₂, N₂, offI news₂ e, e, hJ₂⟩
  · rintro h' tk m' news' F' N' _ ⟨_, hJ⟩
    exact done m' news' h' tk hJ F' N'

theorem upd_own {T : Addr} {o o' : Obj} {rest : List (Addr × Obj)} (hr : ∀ p ∈ rest, p.1 ≠ T) : ∀ {own : List (Addr × Obj)}, (∀ p ∈ own, p.1 ≠ T) → Upd T o o' (own ++ (T, o) :: rest) (own ++ (T, o') :: rest)
  | [], _ => .head hr
  | p :: own, h => .tail (h p (.head _)) (upd_own hr fun q hq => h q (.tail _ hq))

end Mine

namespace Mine
open PySem PySem.W PyProof.Rows PyProof.Rows.LCg

structure PcK (P : Pg) where
  a : Addr
  glob : nsIn P.K mainGlobals "_law_pieces" = some (some (.ref a))
  o : Obj
  lk : P.K.lookup a = some o
  cls : o.cls = .type "list"
  items : Array Value
  n : Nat
  dat : o.data = .seq items n
  size : items.size = 60
  all : ∀ v ∈ items, Piece v

def sbV : Expr → Expr
  | .Subscript v _ _ => v
  | _ => .Constant .none 0 default
def sbI : Expr → Expr
  | .Subscript _ i _ => i
  | _ => .Constant .none 0 default
def sbP : Expr → Pos
  | .Subscript _ _ p => p
  | _ => default
def slL : Expr → Expr
  | .Slice (some l) _ _ _ => l
  | _ => .Constant .none 0 default
def slU : Expr → Expr
  | .Slice _ (some u) _ _ => u
  | _ => .Constant .none 0 default
def slP : Expr → Pos
  | .Slice _ _ _ p => p
  | _ => default
def biL : Expr → Expr
  | .BinOp l _ _ _ => l
  | _ => .Constant .none 0 default
def biR : Expr → Expr
  | .BinOp _ _ r _ => r
  | _ => .Constant .none 0 default
def biP : Expr → Pos
  | .BinOp _ _ _ p => p
  | _ => default
def liE : Expr → Expr
  | .List [e] _ => e
  | _ => .Constant .none 0 default
def liP : Expr → Pos
  | .List _ p => p
  | _ => default
def exE : Stmt → Expr
  | .Expr e _ => e
  | _ => .Constant .none 0 default
def exP : Stmt → Pos
  | .Expr _ p => p
  | _ => default
def caO : Expr → Expr
  | .Call (.Attribute o _ _) _ _ _ => o
  | _ => .Constant .none 0 default
def caQ : Expr → Pos
  | .Call (.Attribute _ _ q) _ _ _ => q
  | _ => default
def lcEl : Expr → Expr
  | .ListComp e _ _ _ => e
  | _ => .Constant .none 0 default
def cI (i : Int) (e : Expr) : Expr := .Constant (.int i) (coKP e) (coPP e)
def nmE (x : Str) (e : Expr) : Expr := .Name x (exPos e)
def asNumbers (st : Stmt) : Stmt := .Assign [.Name "numbers" (asgP st)] (.Subscript (nmE "script" (sbV (asgE st))) (.Slice (some (cI 1 (slL (sbI (asgE st))))) (some (cI 64 (slU (sbI (asgE st))))) none (slP (sbI (asgE st)))) (sbP (asgE st))) (stPos st)
def asTexts0 (st : Stmt) : Stmt := .Assign [.Name "texts" (asgP st)] (.List [.Constant (.str ⟨#[]⟩) (coKP (liE (asgE st))) (coPP (liE (asgE st)))] (liP (asgE st))) (stPos st)
/-- texts.append(ae) -/
def asApp (ae : Expr → Expr) (st : Stmt) : Stmt := .Expr (.Call (.Attribute (nmE "texts" (caO (exE st))) "append" (caQ (exE st))) [ae (nthE (caA (exE st)) 0)] [] (caP (exE st))) (exP st)
def asPiece (inn : Expr → Expr) (c : Expr) : Expr := .Subscript (nmE "_law_pieces" (sbV c)) (.BinOp (inn (biL (sbI c))) .Mod (cI 60 (biR (sbI c))) (biP (sbI c))) (sbP c)
def asUp (c : Expr) : Expr := .BinOp (.BinOp (nmE "start" (biL (biL c))) .Add (cI 1 (biR (biL c))) (biP (biL c))) .Add (.BinOp (.BinOp (nmE "first" (biL (biL (biR c)))) .FloorDiv (cI 24 (biR (biL (biR c)))) (biP (biL (biR c)))) .Mod (cI 7 (biR (biR c))) (biP (biR c))) (biP c)
def asSrc (c : Expr) : Expr := .Subscript (nmE "numbers" (sbV c)) (.Slice (some (nmE "start" (slL (sbI c)))) (some (asUp (slU (sbI c)))) none (slP (sbI c))) (sbP c)
def asLc (c : Expr) : Expr := .ListComp (asPiece (nmE "number") (lcEl c)) [⟨.Name "number" (lcX' c), asSrc (lcI' c), [], 0⟩] (lcS c) (lcP c)
where
  lcX' : Expr → Pos
  | .ListComp _ [⟨.Name _ p, _, _, _⟩] _ _ => p
  | _ => default
  lcI' : Expr → Expr
  | .ListComp _ [⟨_, i, _, _⟩] _ _ => i
  | _ => .Constant .none 0 default
def asJoin (c : Expr) : Expr := .Call (.Attribute (.Constant (.str ⟨#[]⟩) (coKP (caO c)) (coPP (caO c))) "join" (caQ c)) [asLc (nthE (caA c) 0)] [] (caP c)
def asLenN (c : Expr) : Expr := .Call (.Name "len" (caF c)) [nmE "numbers" (nthE (caA c) 0)] [] (caP c)
def asRun (st : Stmt) : Stmt := .For (.Name "start" (foX st)) (.Call (.Name "range" (caF (foI st))) [cI 0 (nthE (caA (foI st)) 0), asLenN (nthE (caA (foI st)) 1), cI 7 (nthE (caA (foI st)) 2)] [] (caP (foI st))) [asApp asJoin (nth (inB st) 0)] [] (foP st)
def asFirst (c : Expr) : Expr := .Subscript (nmE "numbers" (sbV c)) (cI 0 (sbI c)) (sbP c)
def asMore (st : Stmt) : Stmt := .If (.Compare (asLenN (cmL' (ifT st))) [.Gt] [cI 0 (cmR1 (ifT st))] (cmP (ifT st))) [asApp (asPiece asFirst) (nth (inB st) 0)] [] (ifP st)
theorem st8_is : nth lwB 8 = asNumbers (nth lwB 8) := by kernel_rfl!
theorem st9_is : nth lwB 9 = asTexts0 (nth lwB 9) := by kernel_rfl!
theorem st10_is : nth lwB 10 = asRun (nth lwB 10) := by kernel_rfl!
theorem st11_is : nth lwB 11 = asMore (nth lwB 11) := by kernel_rfl!

theorem ints_all : ∀ {vs : List Value} {ns : List Int}, IntsAre vs ns → ∀ v ∈ vs, ∃ n t, v = .int n t
  | _, _, .nil, v, hv => by cases hv
  | _, _, .cons n t h, v, hv => by
    rcases List.mem_cons.mp hv with rfl | hv
    · exact ⟨n, t, rfl⟩
    · exact ints_all h v hv
theorem pick_ints {vs : Array Value} (h : ∀ v ∈ vs, ∃ n t, v = .int n t) (a b : Option Int) : ∀ v ∈ slicePick vs a b none, ∃ n t, v = .int n t := by
  obtain ⟨ns, hns⟩ : ∃ ns, IntsAre vs.toList ns := by
    have : ∀ l : List Value, (∀ v ∈ l, ∃ n t, v = .int n t) → ∃ ns, IntsAre l ns := by
      intro l
      induction l with
      | nil => exact fun _ => ⟨[], .nil⟩
      | cons v l ih =>
        intro hl
        obtain ⟨ns, hns⟩ := ih fun v hv => hl v (.tail _ hv)
        obtain ⟨n, t, rfl⟩ := hl v (.head _)
        exact ⟨n :: ns, .cons n t hns⟩
    exact this _ fun v hv => h v (by simpa using hv)
  have := hns.pick a b none
  intro v hv
  refine ints_all this v ?_
  have hv' : v ∈ (slicePick vs a b none).toList := by simpa using hv
  simpa using hv'

section
variable {P : Pg} {k : Nat} {A : Around} {env : Env} {h₀ : Heap} {m : Str → Option Value} {news : List (Addr × Obj)} {s : Shared}

/-- _law_pieces[.. % 60] -/
theorem piece_ok (C : PcK P) (X : P.K.In h₀) (T : Top P.p P.loose P.mean P.mg P.mb h₀) {fL : Addr} (F : Fr h₀ fL s.heap m) (hg : env.globals = mainGlobals) (hk : env.scope.kind = .function) (hx : env.kindOf "_law_pieces" = some .globalImplicit) {inn : Expr → Expr} {c : Expr} {Q : Value → Shared → Prop} {E : Value → Shared → Prop}
    (hi : ∀ E' : Value → Shared → Prop, ∀ Q' : Value → Shared → Prop, (∀ i t tk', Q' (.int i t) { s with toks := tk' }) → wpAny (model P.prog P.w) A (eval (inn (biL (sbI c))) env) Q' E' s)
    (kk : ∀ v tk', Piece v → Q v { s with toks := tk' }) :
    wpAny (model P.prog P.w) A (eval (asPiece inn c) env) Q E s := by
  refine Subscript_ (nameG_K F X (topRead_of T) C.glob ?_ hg hk hx (by decide +kernel))
  refine wpAny_BinOp (hi _ _ fun i t tk' => wpAny_Constant_int (mod_int (by decide) ?_))
  have h0 : 0 ≤ i.fmod 60 := Int.fmod_nonneg_of_pos i (by decide)
  have h1 : i.fmod 60 < 60 := Int.fmod_lt_of_pos i (by decide)
  have hl : s.heap.IsList C.a C.items := ⟨C.o, F.keep _ _ (X _ _ C.lk), C.cls, C.n, C.dat⟩
  have hlt : (i.fmod 60).toNat < C.items.size := by rw [C.size]; omega
  refine item_list (x := C.items[(i.fmod 60).toNat]) hl h0 (by omega) (by simp [hlt]) (kk _ _ (C.all _ (Array.getElem_mem hlt))) (by with_unfolding_all rfl) (by intro _; with_unfolding_all rfl)
end

end Mine

namespace Mine
open PySem PySem.W PyProof.Rows PyProof.Rows.LCg

theorem meth_eqCall {y m : Str} {py pm pos cp : Pos} {f : Expr} {as : List Expr} {ks : List Keyword} {env : Env} (h : (pm.endLine == pos.line) = true) : eval (.Call (.Attribute (.Name y py) m pm) [.Call f as ks cp] [] pos) env = (do
      let ov ← eval (.Name y py) env
      standAt pm.atName
      let (f', first) ← holding [ov] (getMethod ov m (do return (← importBound (.Name y py) env).getD true))
      callWith pos f' first (backTo pos (starEach [.Call f as ks cp] env)) []) := by
  show (do
      let ov ← eval (.Name y py) env
      standAt pm.atName
      let (f', first) ← holding [ov] (getMethod ov m (do return (← importBound (.Name y py) env).getD true))
      let callPos ← methodCallPos (methodCallForm 1 (backTo pos (starEach [.Call f as ks cp] env)) []) (.Name y py) env pm pos
      callWith callPos f' first (backTo pos (starEach [.Call f as ks cp] env)) []) = _
  simp only [meth_pos h]
  rfl
theorem meth_eqSub {y m : Str} {py pm pos cp : Pos} {v i : Expr} {env : Env} (h : (pm.endLine == pos.line) = true) : eval (.Call (.Attribute (.Name y py) m pm) [.Subscript v i cp] [] pos) env = (do
      let ov ← eval (.Name y py) env
      standAt pm.atName
      let (f', first) ← holding [ov] (getMethod ov m (do return (← importBound (.Name y py) env).getD true))
      callWith pos f' first (backTo pos (starEach [.Subscript v i cp] env)) []) := by
  show (do
      let ov ← eval (.Name y py) env
      standAt pm.atName
      let (f', first) ← holding [ov] (getMethod ov m (do return (← importBound (.Name y py) env).getD true))
      let callPos ← methodCallPos (methodCallForm 1 (backTo pos (starEach [.Subscript v i cp] env)) []) (.Name y py) env pm pos
      callWith callPos f' first (backTo pos (starEach [.Subscript v i cp] env)) []) = _
  simp only [meth_pos h]
  rfl
theorem meth_eqLc {m : Str} {c : Const} {kc : Nat} {py pm pos cp : Pos} {e : Expr} {g : List Comprehension} {sc : Scope} {env : Env} (h : (pm.endLine == pos.line) = true) : eval (.Call (.Attribute (.Constant c kc py) m pm) [.ListComp e g sc cp] [] pos) env = (do
      let ov ← eval (.Constant c kc py) env
      standAt pm.atName
      let (f', first) ← holding [ov] (getMethod ov m (do return (← importBound (.Constant c kc py) env).getD true))
      callWith pos f' first (backTo pos (starEach [.ListComp e g sc cp] env)) []) := by
  show (do
      let ov ← eval (.Constant c kc py) env
      standAt pm.atName
      let (f', first) ← holding [ov] (getMethod ov m (do return (← importBound (.Constant c kc py) env).getD true))
      let callPos ← methodCallPos (methodCallForm 1 (backTo pos (starEach [.ListComp e g sc cp] env)) []) (.Constant c kc py) env pm pos
      callWith callPos f' first (backTo pos (starEach [.ListComp e g sc cp] env)) []) = _
  simp only [meth_pos h]
  rfl

def lwS1 (e : Addr) (vV : V) (w r m : Bool) (f : Int) (S : Addr) : Sg := [("emitter", .ref e), ("version", vV), ("wide", .bol w), ("far", .bol r), ("room", .bol m), ("script", .ref S), ("first", .int f)]
def lwS2 (e : Addr) (vV : V) (w r m : Bool) (f : Int) (Nn T : Addr) : Sg := [("emitter", .ref e), ("version", vV), ("wide", .bol w), ("far", .bol r), ("room", .bol m), ("texts", .ref T), ("first", .int f), ("numbers", .ref Nn)]
theorem fits_other {σ : Sg} {m : Str → Option Value} {x : Str} {u : Value} (f : Fits σ m) (h : look σ x = none) : Fits σ (fun y => if y = x then some u else m y) := by
  intro y v hv ha
  obtain ⟨u', h1, h2⟩ := f y v hv ha
  refine ⟨u', ?_, h2⟩
  have : y ≠ x := by
    rintro rfl
    rw [h] at hv
    cases hv
  exact (if_neg this).trans h1
theorem fits_ref {σ : Sg} {m : Str → Option Value} {x : Str} {a : Addr} (f : Fits σ m) (h : look σ x = some (.ref a)) : m x = some (.ref a) := by
  obtain ⟨u, h1, h2⟩ := f x _ h (by intro q; cases q)
  cases h2
  exact h1
theorem fits_int {σ : Sg} {m : Str → Option Value} {x : Str} {i : Int} (f : Fits σ m) (h : look σ x = some (.int i)) : ∃ t, m x = some (.int i t) := by
  obtain ⟨u, h1, h2⟩ := f x _ h (by intro q; cases q)
  obtain ⟨t, rfl⟩ := h2
  exact ⟨t, h1⟩

theorem fits_long {i : Int} (h : -100 ≤ i) (h2 : i ≤ 100) : Builtin.Range.rangeFitsLong i = true := by
  unfold Builtin.Range.rangeFitsLong
  rw [Bool.and_eq_true]
  exact ⟨decide_eq_true (by omega), decide_eq_true (by omega)⟩
theorem seven_size (L : Nat) (h : L ≤ 63) : ∃ n : Nat, Builtin.Range.rangeSize 0 (L : Int) 7 = (n : Int) ∧ n ≤ 63 ∧ Builtin.Range.small 0 (L : Int) 7 = true := by
  have e : Builtin.Range.rangeSize 0 (L : Int) 7 = if (0 : Int) < (L : Int) then ((L : Int) - 0 - 1) / 7 + 1 else 0 := by
    unfold Builtin.Range.rangeSize
    rw [if_pos (by decide)]
  refine ⟨(Builtin.Range.rangeSize 0 (L : Int) 7).toNat, ?_, ?_, ?_⟩
  · rw [e]; split <;> omega
  · rw [e]; split <;> omega
  · have hr : 0 ≤ Builtin.Range.rangeSize 0 (L : Int) 7 ∧ Builtin.Range.rangeSize 0 (L : Int) 7 ≤ 63 := by rw [e]; split <;> omega
    unfold Builtin.Range.small
    generalize Builtin.Range.rangeSize 0 (L : Int) 7 = z at hr
    clear e
    have hL : (L : Int) ≤ 63 := by omega
    have hL0 : 0 ≤ (L : Int) := by omega
    generalize (L : Int) = y at hL hL0
    rw [fits_long (by decide) (by decide), fits_long (by omega) (by omega), fits_long (by decide) (by decide), fits_long (by omega) (by omega), fits_long (i := y + (7 - 1)) (by omega) (by omega), if_pos (by decide), Bool.or_true]
    rfl

section
variable {P : Pg} {k : Nat} {A : Around} {env : Env} {h₀ : Heap}

theorem lenN_ok (Y : Facts P) (G : Gd P k A env h₀) (L : LwN env) {m : Str → Option Value} {news : List (Addr × Obj)} {s : Shared} {Nn : Addr} {its : Array Value} {n : Nat} (F : Fr h₀ env.locals s.heap m) (N : News h₀ env.locals s.heap news) (hm : m "numbers" = some (.ref Nn))
    (hN : (Nn, listOf its n) ∈ news) (hz : its.size ≤ 63) {c : Expr} {Q : Value → Shared → Prop} {E : Value → Shared → Prop} (kk : ∀ t tk, Q (.int (its.size : Int) t) { s with toks := tk }) : wpAny (model P.prog P.w) A (eval (asLenN c) env) Q E s := by
  have TR := topRead_of G.T
  refine Call_ (Calls.Name_function_global G.kind L.len (Calls.loadGlobal_builtin (by rw [G.gl]; exact TR.g.keeps F.keep) (mg_none_of G.X TR.g Y.len) (by rw [G.bi]; exact TR.b.keeps F.keep) ((TR.builtins "len" (by decide)).trans (by boot_fast)) ?_) (by decide)) (by with_unfolding_all rfl)
  refine callWith_builtin1 (args_cons (wpAny_Name (wpAny_loadName_local G.kind (L.ls "numbers" (by decide +kernel)).1 F.ns hm (args_nil ?_)) (by decide +kernel)) rfl) rfl rfl
  exact len_list (N.isList hN) (by omega) (kk _ _)

theorem inter_no (G : Gd P k A env h₀) : interactive env = false := by
  unfold interactive
  rw [G.kind]
  rfl

/-- texts.append(..) -/
theorem app_ok (G : Gd P k A env h₀) (L : LwN env) {m : Str → Option Value} {own rest : List (Addr × Obj)} {s₀ s : Shared} {h : Heap} {tk : Nat} {T : Addr} {its : Array Value} {n : Nat} (es : s = { s₀ with heap := h, toks := tk }) (F : Fr h₀ env.locals h m) (N : News h₀ env.locals h (own ++ (T, listOf its n) :: rest)) (hm : m "texts" = some (.ref T))
    (ho : ∀ p ∈ own, p.1 ≠ T) (hr : ∀ p ∈ rest, p.1 ≠ T) (hz : its.size ≤ 16777216) {ae : Expr → Expr} {st : Stmt} (hns : noStar (ae (nthE (caA (exE st)) 0)) = true) {pl : Sem Bool}
    (hq : eval (.Call (.Attribute (nmE "texts" (caO (exE st))) "append" (caQ (exE st))) [ae (nthE (caA (exE st)) 0)] [] (caP (exE st))) env = (do
      let ov ← eval (nmE "texts" (caO (exE st))) env
      standAt (caQ (exE st)).atName
      let (f, first) ← holding [ov] (getMethod ov "append" pl)
      callWith (caP (exE st)) f first (backTo (caP (exE st)) (starEach [ae (nthE (caA (exE st)) 0)] env)) []))
    (ha : ∀ Q' : Value → Shared → Prop, (∀ v h' tk', Good v → Fr h₀ env.locals h' m → News h₀ env.locals h' (own ++ (T, listOf its n) :: rest) → Q' v { s₀ with heap := h', toks := tk' }) → wpAny (model P.prog P.w) A (eval (ae (nthE (caA (exE st)) 0)) env) Q' (fun _ _ => False) s)
    {Q : Flow → Shared → Prop} (kk : ∀ v h' tk', Good v → Fr h₀ env.locals h' m → News h₀ env.locals h' (own ++ (T, listOf (its.push v) (n + 1)) :: rest) → Q .next { s₀ with heap := h', toks := tk' }) :
    wpAny (model P.prog P.w) A (exec (asApp ae st) env) Q (fun _ _ => False) s := by
  subst es
  refine wpAny_Expr (MethodCall_ (pl := pl) (wpAny_Name (wpAny_loadName_local G.kind (L.ls "texts" (by decide +kernel)).1 F.ns hm ?_) (by decide +kernel)) hq) (inter_no G) (noComp_swaps rfl)
  have hmem : (T, listOf its n) ∈ own ++ (T, listOf its n) :: rest := List.mem_append_right _ (.head _)
  refine getMethod_append_N N hmem ?_
  refine PyProof.Rows.callWith_method1 (args_cons (ha _ fun v h' tk' hv F' N' => args_nil ?_) (star_cons hns)) (star_cons hns) rfl
  exact append_K F' N' (upd_own hr ho) (fun h'' F'' N'' => kk v h'' tk' hv F'' N'') (by rw [sizeLine_eq]; exact hz)
end

end Mine

namespace Mine
open PySem PySem.W PyProof.Rows PyProof.Rows.LCg

/-- what is asked of the comprehension's scope -/
structure LcOk (env : Env) (sc : Scope) : Prop where
  clos : closureFor sc env = pure []
  cell : ∀ y ∈ sc.names, y.2 ≠ .cell
  kind : sc.kind = .function
  names : ∀ y ∈ sc.names, y.2 = .local → sc.names.lookup y.1 = some .local
  x : sc.names.lookup (Str.ofString "number") = some .local
  px : ∀ C, (compEnvC sc [] C env).kindOf "_law_pieces" = some .globalImplicit

section
variable {P : Pg} {k : Nat} {A : Around} {env : Env} {h₀ : Heap}

theorem good_piece {v : Value} (h : Piece v) : Good v := by
  obtain ⟨x, t, rfl, h1, h2⟩ := h
  exact ⟨x, t, rfl, by omega, low_of h2⟩

/-- ''.join([..]) -/
theorem joinE_ok (C : PcK P) (G : Gd P k A env h₀) (L : LwN env) {c : Expr} (hline : ((caQ c).endLine == (caP c).line) = true) (hsc : LcOk env (lcS (nthE (caA c) 0))) {m : Str → Option Value} {news : List (Addr × Obj)} {s₀ : Shared} {h : Heap} {tk : Nat} {Nn : Addr} {its : Array Value} {n : Nat} {st : Int} {f : Int} (F : Fr h₀ env.locals h m) (N : News h₀ env.locals h news)
    (hN : (Nn, listOf its n) ∈ news) (hz : its.size ≤ 63) (hi : ∀ v ∈ its, ∃ n t, v = .int n t) (hm : m "numbers" = some (.ref Nn)) (hst : ∃ t, m "start" = some (.int st t)) (hf : ∃ t, m "first" = some (.int f t))
    {Q : Value → Shared → Prop} (kk : ∀ v h' tk', Good v → Fr h₀ env.locals h' m → News h₀ env.locals h' news → Q v { s₀ with heap := h', toks := tk' }) :
    wpAny (model P.prog P.w) A (eval (asJoin c) env) Q (fun _ _ => False) { s₀ with heap := h, toks := tk } := by
  refine MethodCall_ (wpAny_Constant_str ?_) (meth_eqLc hline)
  refine GM.join (PyProof.Rows.callWith_method1 (args_cons ?_ rfl) rfl rfl)
  obtain ⟨t₁, hst⟩ := hst
  obtain ⟨t₂, hf⟩ := hf
  refine listcomp_ok (m := m) (s₀ := s₀) (news := news) (cl := []) (Iv := fun v => ∃ n t, v = .int n t) (Gp := Piece) (B := 63) G (by rw [sizeLine_eq]; exact Nat.le_of_ble_eq_true rfl) hsc.clos hsc.cell hsc.kind hsc.names hsc.x (by intro y; rfl) ?_ ?_ ?_
  · -- the source
    refine wpAny_Subscript_list_slice (wpAny_Name (wpAny_loadName_local G.kind (L.ls "numbers" (by decide +kernel)).1 F.ns hm ?_) (by decide +kernel)) (by intro _ _; with_unfolding_all rfl)
    refine wpAny_evalPart_some (wpAny_Name (wpAny_loadName_local G.kind (L.ls "start" (by decide +kernel)).1 F.ns hst ?_) (by decide +kernel))
    refine wpAny_evalPart_some (wpAny_BinOp (wpAny_BinOp (wpAny_Name (wpAny_loadName_local G.kind (L.ls "start" (by decide +kernel)).1 F.ns hst ?_) (by decide +kernel))))
    refine wpAny_Constant_int (add_int ?_)
    refine wpAny_BinOp (wpAny_BinOp (wpAny_Name (wpAny_loadName_local G.kind (L.ls "first" (by decide +kernel)).1 F.ns hf ?_) (by decide +kernel)))
    refine wpAny_Constant_int (floordiv_int (by decide) ?_ (.inl (PyProof.noPylong_small (by decide))))
    refine wpAny_Constant_int (mod_int (by decide) (add_int ?_))
    refine ⟨Nn, its, some _, some _, rfl, N.isList hN, by rw [sizeLine_eq]; omega, .int _ _, .int _ _, ?_⟩
    have N₂ := fun o₁ o₂ (h1 : o₁.isFreed = false) (h2 : o₂.isFreed = false) => (N.push F o₁ (hfree := h1)).push (F.push o₁) o₂ (hfree := h2)
    simp only [Heap.size_push] at N₂
    exact ⟨_, _, _, _, _, _, rfl, rfl, (F.push _).push _, N₂ _ _ rfl rfl, fun p hp => .tail _ (.tail _ hp), .head _, Nat.le_trans (slicePick_size_le _ _ _ _) hz, pick_ints hi _ _⟩
  · -- an element
    intro C' oC m₂ news₂ h₁ tk₁ v Q' E' hv hC hx hmem sub F₁ N₁ kk'
    obtain ⟨i, t, rfl⟩ := hv
    refine piece_ok (env := compEnvC (lcS (nthE (caA c) 0)) [] C' env) (s := { s₀ with heap := h₁, toks := tk₁ }) C G.X G.T F₁ (show env.globals = mainGlobals from G.gl) (by simp [compEnvC, relabel, hsc.kind]) (hsc.px C') (fun E'' Q'' kq => ?_) fun v tk' hv => kk' v tk' hv
    refine wpAny_Name (wpAny_loadName_local (by simp [compEnvC, relabel, hsc.kind]) (lookup_relabel_local hsc.x) (hC.ns (N₁ _ hmem).1) hx (kq i t tk₁)) (by decide +kernel)
  · intro D ys h₁ tk₁ hys hlen F₁ N₁
    obtain ⟨l, rfl, hl⟩ := pieces_are ys hys
    have hlen' : l.length ≤ 63 := by simpa [strValues] using hlen
    obtain ⟨j1, j2, j3⟩ := join_good hlen' hl
    refine args_nil (SC.join (N₁.isList (.head _)) rfl j1 fun t' k' => kk _ h₁ k' ⟨_, t', rfl, j2, j3⟩ F₁ fun p hp => N₁ p (.tail _ hp))
end

end Mine

namespace Mine
open PySem PySem.W PyProof.Rows PyProof.Rows.LCg

def apLine (st : Stmt) : Bool := (caQ (exE st)).endLine == (caP (exE st)).line
def jnLine (st : Stmt) : Bool := (caQ (nthE (caA (exE st)) 0)).endLine == (caP (nthE (caA (exE st)) 0)).line
def lcScp (st : Stmt) : Scope := lcS (nthE (caA (nthE (caA (exE st)) 0)) 0)

section
variable {P : Pg} {k : Nat} {A : Around} {env : Env} {h₀ : Heap}

/-- the loop that makes the texts -/
theorem run_ok (Y : Facts P) (C : PcK P) (G : Gd P k A env h₀) (L : LwN env) {st : Stmt} (hl1 : apLine (nth (inB st) 0) = true) (hl2 : jnLine (nth (inB st) 0) = true) (hsc : LcOk env (lcScp (nth (inB st) 0))) {e : Addr} {vV : V} {w r mm : Bool} {f : Int} {Nn T : Addr} {nums its : Array Value} {nn n : Nat} {rest : List (Addr × Obj)} {s₀ : Shared} {h : Heap} {tk : Nat} {m : Str → Option Value}
    (F : Fr h₀ env.locals h m) (N : News h₀ env.locals h ((T, listOf its n) :: rest)) (fm : Fits (lwS2 e vV w r mm f Nn T) m) (hN : (Nn, listOf nums nn) ∈ rest) (hz : nums.size ≤ 63) (hi : ∀ v ∈ nums, ∃ n t, v = .int n t) (hr : ∀ p ∈ rest, p.1 ≠ T) (hg : ∀ v ∈ its, Good v) (h1 : its.size = 1)
    {Q : Flow → Shared → Prop} (kk : ∀ its n h' tk' m', (∀ v ∈ its, Good v) → 1 ≤ its.size → its.size ≤ 100 → Fr h₀ env.locals h' m' → News h₀ env.locals h' ((T, listOf its n) :: rest) → Fits (lwS2 e vV w r mm f Nn T) m' → Q .next { s₀ with heap := h', toks := tk' }) :
    wpAny (model P.prog P.w) A (exec (asRun st) env) Q (fun _ _ => False) { s₀ with heap := h, toks := tk } := by
  refine For_invV h₀ (L.ls "start" (by decide +kernel)).1 (by rw [G.kind]; rfl) ?_ (by intro y; rfl) PassesOwn.never
  have TR := topRead_of G.T
  refine Call_ ?_ (by with_unfolding_all rfl)
  refine Calls.Name_function_global G.kind L.range (Calls.loadGlobal_builtin (by rw [G.gl]; exact TR.g.keeps F.keep) (mg_none_of G.X TR.g Y.range) (by rw [G.bi]; exact TR.b.keeps F.keep) ((TR.builtins "range" (by decide)).trans boot_range) ?_) (by decide)
  refine PyProof.Rows.callWith_type1 (args_cons (wpAny_Constant_int (args_cons (lenN_ok Y G L F N (fits_ref fm (by kernel_rfl!)) (.tail _ hN) hz fun t tk => args_cons (wpAny_Constant_int (args_nil ?_)) rfl) rfl)) rfl) rfl rfl
  refine range3_rows F N (by decide) (fun h₃ tk₃ t₃ u₃ v₃ hrg F₃ N₃ _ => ?_) (.inl (PyProof.noPylong_small (by decide)))
  obtain ⟨nt, hnt, hnt', hsm⟩ := seven_size nums.size hz
  refine iter_rangeN (x := "start") (fun i m₁ news₁ => ∃ its n, news₁ = (T, listOf its n) :: rest ∧ Fits (lwS2 e vV w r mm f Nn T) m₁ ∧ (∀ v ∈ its, Good v) ∧ 1 ≤ its.size ∧ its.size ≤ i + 1) G.calm hrg hsm hnt F₃ N₃ ⟨its, n, rfl, fm, hg, by omega, by omega⟩ ?_ ?_
  · rintro i t m₁ news₁ h₁ tk₁ own hin ⟨its, n, rfl, f₁, hg, z1, z2⟩ hadr hoff F₁ N₁
    generalize hm' : (fun y => if y = (Str.ofString "start") then some (Value.int (0 + (i : Int) * 7) t) else m₁ y) = m' at F₁
    have f₁' : Fits (lwS2 e vV w r mm f Nn T) m' := by rw [← hm']; exact fits_other f₁ (by kernel_rfl!)
    have hst : m' (Str.ofString "start") = some (.int (0 + (i : Int) * 7) t) := by rw [← hm']; exact if_pos rfl
    refine wpAny_execs_cons (app_ok (ae := asJoin) (st := nth (inB st) 0) G L rfl F₁ N₁ (fits_ref f₁' (by kernel_rfl!)) (fun p hp => hoff p hp _ (.head _)) hr (by omega) rfl (meth_eqCall hl1) (fun Q' kq => ?_) fun v h' tk' hv F' N' => ?_)
    · exact joinE_ok (c := nthE (caA (exE (nth (inB st) 0))) 0) C G L hl2 hsc F₁ N₁ (List.mem_append_right _ (.tail _ hN)) hz hi (fits_ref f₁' (by kernel_rfl!)) ⟨t, hst⟩ (fits_int (i := f) f₁' (by kernel_rfl!)) fun v h' tk' hv F' N' => kq v h' tk' hv F' N'
    · refine wpAny_execs_nil ⟨rfl, h', tk', _, (T, listOf (its.push v) (n + 1)) :: rest, rfl, F', N', rfl, its.push v, n + 1, rfl, f₁', fun u hu => ?_, by rw [Array.size_push]; omega, by rw [Array.size_push]; omega⟩
      rcases Array.mem_push.mp hu with hu | rfl
      · exact hg u hu
      · exact hv
  · rintro m₁ news₁ h₁ tk₁ ⟨its, n, rfl, f₁, hg, z1, z2⟩ F₁ N₁
    exact kk its n h₁ tk₁ m₁ hg z1 (by omega) F₁ N₁ f₁

/-- the one more text -/
theorem more_ok (Y : Facts P) (C : PcK P) (G : Gd P k A env h₀) (L : LwN env) {st : Stmt} (hl1 : apLine (nth (inB st) 0) = true) {e : Addr} {vV : V} {w r mm : Bool} {f : Int} {Nn T : Addr} {nums its : Array Value} {nn n : Nat} {rest : List (Addr × Obj)} {s₀ : Shared} {h : Heap} {tk : Nat} {m : Str → Option Value}
    (F : Fr h₀ env.locals h m) (N : News h₀ env.locals h ((T, listOf its n) :: rest)) (fm : Fits (lwS2 e vV w r mm f Nn T) m) (hN : (Nn, listOf nums nn) ∈ rest) (hz : nums.size ≤ 63) (hi : ∀ v ∈ nums, ∃ n t, v = .int n t) (hr : ∀ p ∈ rest, p.1 ≠ T) (hg : ∀ v ∈ its, Good v) (h1 : 1 ≤ its.size) (h2 : its.size ≤ 100)
    {Q : Flow → Shared → Prop} (kk : ∀ its n h' tk' m', (∀ v ∈ its, Good v) → 1 ≤ its.size → its.size ≤ 101 → Fr h₀ env.locals h' m' → News h₀ env.locals h' ((T, listOf its n) :: rest) → Fits (lwS2 e vV w r mm f Nn T) m' → Q .next { s₀ with heap := h', toks := tk' }) :
    wpAny (model P.prog P.w) A (exec (asMore st) env) Q (fun _ _ => False) { s₀ with heap := h, toks := tk } := by
  refine wpAny_If (wpAny_isTrue_Compare1 (lenN_ok Y G L F N (fits_ref fm (by kernel_rfl!)) (.tail _ hN) hz fun t tk => wpAny_Constant_int (gt_int (wpAny_truthy_bool ?_))) (by with_unfolding_all rfl))
  by_cases hp : (0 : Int) < (nums.size : Int)
  · rw [if_pos (decide_eq_true hp)]
    refine wpAny_execs_cons (app_ok (own := []) (ae := asPiece asFirst) (st := nth (inB st) 0) G L rfl F N (fits_ref fm (by kernel_rfl!)) (fun p hp => by cases hp) hr (by omega) rfl (meth_eqSub hl1) (fun Q' kq => ?_) fun v h' tk' hv F' N' => ?_)
    · refine piece_ok C G.X G.T F G.gl G.kind L.pieces (fun E'' Q'' kq' => ?_) fun v tk' hv => kq v h tk' (good_piece hv) F N
      refine Subscript_ (wpAny_Name (wpAny_loadName_local G.kind (L.ls "numbers" (by decide +kernel)).1 F.ns (fits_ref (a := Nn) fm (by kernel_rfl!)) (wpAny_Constant_int ?_)) (by decide +kernel))
      have hp' : 0 < nums.size := by omega
      obtain ⟨j, t', hj⟩ := hi nums[0] (Array.getElem_mem hp')
      refine item_list (x := nums[0]) (N.isList (.tail _ hN)) (by decide) (by decide) (by simp [hp']) ?_ (by with_unfolding_all rfl) (by intro _; with_unfolding_all rfl)
      rw [hj]
      exact kq' _ _ _
    · refine wpAny_execs_nil (kk (its.push v) _ h' tk' m (fun u hu => ?_) (by rw [Array.size_push]; omega) (by rw [Array.size_push]; omega) F' N' fm)
      rcases Array.mem_push.mp hu with hu | rfl
      · exact hg u hu
      · exact hv
  · rw [if_neg (by rw [decide_eq_true_iff]; exact hp)]
    exact wpAny_execs_nil (kk its n h _ m hg h1 (by omega) F N fm)

theorem numbers_ok (Y : Facts P) (C : PcK P) (G : Gd P k A env h₀) (L : LwN env) {st₁ st₂ st₃ st₄ : Stmt} (hl1 : apLine (nth (inB st₃) 0) = true) (hl2 : jnLine (nth (inB st₃) 0) = true) (hsc : LcOk env (lcScp (nth (inB st₃) 0))) (hl3 : apLine (nth (inB st₄) 0) = true) {e : Addr} {vV : V} {w r mm : Bool} {f : Int} {S : Addr} {vals : Array Value} {news : List (Addr × Obj)} {s₀ s : Shared} {l : List Stmt}
    (hS : h₀.IsList S vals) (hz : vals.size ≤ 63) (hi : ∀ v ∈ vals, ∃ n t, v = .int n t) (hs : (fBx P A env h₀ news s₀).H (lwS1 e vV w r mm f S) s) {Q : Flow → Shared → Prop}
    (kk : ∀ T its n rest s', (∀ p ∈ news, p ∈ rest) → (∀ v ∈ its, Good v) → 1 ≤ its.size → its.size ≤ 101 → (fBx P A env h₀ ((T, listOf its n) :: rest) s₀).H (lwS e vV w r mm T) s' → wpAny (model P.prog P.w) A (execs l env) Q (fun _ _ => False) s') :
    wpAny (model P.prog P.w) A (execs (asNumbers st₁ :: asTexts0 st₂ :: asRun st₃ :: asMore st₄ :: l) env) Q (fun _ _ => False) s := by
  obtain ⟨m, ⟨h, tk, rfl, F, N⟩, fm⟩ := hs
  refine wpAny_execs_cons (wpAny_Assign_Name (wpAny_Subscript_list_slice (wpAny_Name (wpAny_loadName_local G.kind (L.ls "script" (by decide +kernel)).1 F.ns (fits_ref (a := S) fm (by kernel_rfl!)) ?_) (by decide +kernel)) (by intro _ _; with_unfolding_all rfl)) (noComp_swaps rfl))
  refine wpAny_evalPart_some (wpAny_Constant_int (wpAny_evalPart_some (wpAny_Constant_int ?_)))
  refine ⟨S, vals, some _, some _, rfl, hS.at fun o q => F.keep _ _ q, by rw [sizeLine_eq]; omega, .int _ _, .int _ _, ?_⟩
  have N₂ := fun o₁ o₂ (h1 : o₁.isFreed = false) (h2 : o₂.isFreed = false) => (N.push F o₁ (hfree := h1)).push (F.push o₁) o₂ (hfree := h2)
  simp only [Heap.size_push] at N₂
  refine store_ok (x := "numbers") (v := .ref (h.objs.size + 1)) (lwO_okS Y G L _ s₀) (by kernel_rfl!) rfl ⟨m, ⟨_, _, rfl, (F.push _).push _, N₂ _ _ rfl rfl⟩, fm⟩ fun s₁ hs₁ => ?_
  obtain ⟨m₁, ⟨h₁, tk₁, rfl, F₁, N₁⟩, f₁⟩ := hs₁
  refine wpAny_execs_cons (wpAny_Assign_Name (List_ (args_cons (wpAny_Constant_str (args_nil (newList_K F₁ N₁ (fun T h₂ F₂ N₂ hlt => ?_) (by rw [sizeLine_eq]; exact Nat.le_of_ble_eq_true rfl)))) rfl)) (noComp_swaps rfl))
  refine store_ok (x := "texts") (v := .ref T) (lwO_okS Y G L _ s₀) (by kernel_rfl!) rfl ⟨m₁, ⟨h₂, _, rfl, F₂, N₂⟩, f₁⟩ fun s₃ hs₃ => ?_
  have hs₃' := hs₃.sub (σ' := lwS2 e vV w r mm f (h.objs.size + 1) T) ⟨by kernel_rfl!, by kernel_rfl!, by kernel_rfl!, by kernel_rfl!, by kernel_rfl!, by kernel_rfl!, by kernel_rfl!, by kernel_rfl!, trivial⟩
  obtain ⟨m₃, ⟨h₃, tk₃, rfl, F₃, N₃⟩, f₃⟩ := hs₃'
  have hz' : (slicePick vals (some 1) (some 64) none).size ≤ 63 := Nat.le_trans (slicePick_size_le _ _ _ _) hz
  have hr := fun p hp => Nat.ne_of_lt (hlt p hp)
  refine wpAny_execs_cons (run_ok Y C G L hl1 hl2 hsc F₃ N₃ f₃ (.head _) hz' (pick_ints hi _ _) hr (fun v hv => ?_) rfl fun its n h₄ tk₄ m₄ hg z1 z2 F₄ N₄ f₄ => ?_)
  · have hv' : v ∈ [Value.str ⟨#[]⟩ tk₁] := by simpa using hv
    rw [List.mem_singleton.mp hv']
    exact ⟨_, _, rfl, Nat.zero_le _, fun i hi => absurd hi (Nat.not_lt_zero i)⟩
  refine wpAny_execs_cons (more_ok Y C G L hl3 F₄ N₄ f₄ (.head _) hz' (pick_ints hi _ _) hr hg z1 z2 fun its n h₅ tk₅ m₅ hg z1 z2 F₅ N₅ f₅ => ?_)
  refine kk T its n _ _ (fun p hp => .tail _ (.tail _ hp)) hg z1 z2 (Bx.H.sub (σ' := lwS e vV w r mm T) ⟨m₅, ⟨h₅, tk₅, rfl, F₅, N₅⟩, f₅⟩ ⟨by kernel_rfl!, by kernel_rfl!, by kernel_rfl!, by kernel_rfl!, by kernel_rfl!, by kernel_rfl!, trivial⟩)
end

end Mine

namespace Mine
open PySem PySem.W PyProof.Rows PyProof.Rows.LCg

def ieT : Expr → Expr
  | .IfExp t _ _ _ => t
  | _ => .Constant .none 0 default
def ieB : Expr → Expr
  | .IfExp _ b _ _ => b
  | _ => .Constant .none 0 default
def ieE : Expr → Expr
  | .IfExp _ _ e _ => e
  | _ => .Constant .none 0 default
def ieP : Expr → Pos
  | .IfExp _ _ _ p => p
  | _ => default
def liL : Expr → List Expr
  | .List es _ => es
  | _ => []
def asFst (st : Stmt) : Stmt := .Assign [.Name "first" (asgP st)] (.IfExp (nmE "script" (ieT (asgE st))) (.Subscript (nmE "script" (sbV (ieB (asgE st)))) (cI 0 (sbI (ieB (asgE st)))) (sbP (ieB (asgE st)))) (cI 0 (ieE (asgE st))) (ieP (asgE st))) (stPos st)
def asWide (st : Stmt) : Stmt := .Assign [.Name "wide" (asgP st)] (.Compare (.BinOp (nmE "first" (biL (cmL' (asgE st)))) .Mod (cI 2 (biR (cmL' (asgE st)))) (biP (cmL' (asgE st)))) [.Eq] [cI 1 (cmR1 (asgE st))] (cmP (asgE st))) (stPos st)
def asDiv (d c : Int) (e : Expr) : Expr := .BinOp (.BinOp (nmE "first" (biL (biL e))) .FloorDiv (cI d (biR (biL e))) (biP (biL e))) .Mod (cI c (biR e)) (biP e)
def asBit (x : Str) (d c i : Int) (st : Stmt) : Stmt := .Assign [.Name x (asgP st)] (.Compare (asDiv d c (cmL' (asgE st))) [.Eq] [cI i (cmR1 (asgE st))] (cmP (asgE st))) (stPos st)
def cN (e : Expr) : Expr := .Constant .none (coKP e) (coPP e)
def asTup (i j : Int) (e : Expr) : Expr := .Tuple [cI i (nthE (tupL e) 0), cI j (nthE (tupL e) 1)] (tupK e) (tupP e)
def asVersion (st : Stmt) : Stmt := .Assign [.Name "version" (asgP st)] (.Subscript (.List [cN (nthE (liL (sbV (asgE st))) 0), asTup 1 1 (nthE (liL (sbV (asgE st))) 1), asTup 1 2 (nthE (liL (sbV (asgE st))) 2)] (liP (sbV (asgE st)))) (asDiv 2 3 (sbI (asgE st))) (sbP (asgE st))) (stPos st)
theorem lw_is : lwB = asFst (nth lwB 0) :: asWide (nth lwB 1) :: asVersion (nth lwB 2) :: asBit "far" 6 2 0 (nth lwB 3) :: asBit "room" 12 2 1 (nth lwB 4) :: nth lwB 5 :: nth lwB 6 :: nth lwB 7 :: asNumbers (nth lwB 8) :: asTexts0 (nth lwB 9) :: asRun (nth lwB 10) :: asMore (nth lwB 11) :: nth lwB 12 :: [nth lwB 13] := by kernel_rfl!

section
variable {P : Pg} {k : Nat} {A : Around} {env : Env} {h₀ : Heap}

theorem div_ok (G : Gd P k A env h₀) (L : LwN env) {m : Str → Option Value} {s₀ : Shared} {h : Heap} {tk : Nat} {d c f : Int} (F : Fr h₀ env.locals h m) (hf : ∃ t, m "first" = some (.int f t)) (hd : d ≠ 0) (hd' : d.natAbs < 1073741824) (hc : c ≠ 0) {e : Expr} {Q : Value → Shared → Prop} {E : Value → Shared → Prop}
    (kk : ∀ t tk', Q (.int ((f.fdiv d).fmod c) t) { s₀ with heap := h, toks := tk' }) : wpAny (model P.prog P.w) A (eval (asDiv d c e) env) Q E { s₀ with heap := h, toks := tk } := by
  obtain ⟨t, hf⟩ := hf
  refine wpAny_BinOp (wpAny_BinOp (wpAny_Name (wpAny_loadName_local G.kind (L.ls "first" (by decide +kernel)).1 F.ns hf (wpAny_Constant_int (floordiv_int hd ?_ (.inl (PyProof.noPylong_small hd'))))) (by decide +kernel)))
  exact wpAny_Constant_int (mod_int hc (kk _ _))

theorem bit_ok (Y : Facts P) (G : Gd P k A env h₀) (L : LwN env) {news : List (Addr × Obj)} {s₀ s : Shared} {σ : Sg} {x : Str} (hx : lwLs.any (same x) = true) {d c f i : Int} (hl : look σ "first" = some (.int f)) (hd : d ≠ 0) (hd' : d.natAbs < 1073741824) (hc : c ≠ 0) {st : Stmt} {l : List Stmt} {Q : Flow → Shared → Prop}
    (hs : (fBx P A env h₀ news s₀).H σ s) (kk : ∀ b s', (fBx P A env h₀ news s₀).H (put x (.bol b) σ) s' → wpAny (model P.prog P.w) A (execs l env) Q (fun _ _ => False) s') :
    wpAny (model P.prog P.w) A (execs (asBit x d c i st :: l) env) Q (fun _ _ => False) s := by
  obtain ⟨m, ⟨h, tk, rfl, F, N⟩, fm⟩ := hs
  refine wpAny_execs_cons (wpAny_Assign_Name (wpAny_Compare1 (div_ok G L F (fits_int fm hl) hd hd' hc fun t tk' => wpAny_Constant_int (eq_int ?_)) rfl) (noComp_swaps rfl))
  exact store_ok (x := x) (v := .bol _) (lwO_okS Y G L news s₀) hx rfl ⟨m, ⟨h, _, rfl, F, N⟩, fm⟩ fun s' hs' => kk _ s' hs'

theorem start_ok (Y : Facts P) (G : Gd P k A env h₀) (L : LwN env) {S : Addr} {vals : Array Value} {s₀ s : Shared} {st₀ st₁ st₂ st₃ st₄ : Stmt} {l : List Stmt} (hS : h₀.IsList S vals) (hz : vals.size ≤ 63) (hi : ∀ v ∈ vals, ∃ n t, v = .int n t)
    (hs : (fBx P A env h₀ [] s₀).H [("script", .ref S)] s) {Q : Flow → Shared → Prop}
    (kk : ∀ (f : Int) (w r mm old : Bool) (vv : Value) (T₁ T₂ : Addr) (u₁ u₂ u₃ u₄ t : Tok) (m : Str → Option Value) (h : Heap) (tk : Nat), ((vv = Value.none ∧ old = false) ∨ (vv = .ref T₁ ∧ old = true) ∨ (vv = .ref T₂ ∧ old = false)) →
      Fr h₀ env.locals h (fun y => if y = (Str.ofString "room") then some (Value.bool mm) else if y = (Str.ofString "far") then some (.bool r) else if y = (Str.ofString "version") then some vv else if y = (Str.ofString "wide") then some (.bool w) else if y = (Str.ofString "first") then some (.int f t) else if y = (Str.ofString "script") then some (.ref S) else m y) →
      News h₀ env.locals h [(T₂, ({ cls := .type "tuple", data := .seq #[.int 1 u₁, .int 2 u₂] } : Obj)), (T₁, ({ cls := .type "tuple", data := .seq #[.int 1 u₃, .int 1 u₄] } : Obj))] →
      wpAny (model P.prog P.w) A (execs l env) Q (fun _ _ => False) { s₀ with heap := h, toks := tk }) :
    wpAny (model P.prog P.w) A (execs (asFst st₀ :: asWide st₁ :: asVersion st₂ :: asBit "far" 6 2 0 st₃ :: asBit "room" 12 2 1 st₄ :: l) env) Q (fun _ _ => False) s := by
  have afterFirst : ∀ f s, (fBx P A env h₀ [] s₀).H [("script", .ref S), ("first", .int f)] s → wpAny (model P.prog P.w) A (execs (asWide st₁ :: asVersion st₂ :: asBit "far" 6 2 0 st₃ :: asBit "room" 12 2 1 st₄ :: l) env) Q (fun _ _ => False) s := by
    intro f s hs
    obtain ⟨m, ⟨h, tk, rfl, F, N⟩, fm⟩ := hs
    obtain ⟨t, hf⟩ := fits_int (x := "first") (i := f) fm (by kernel_rfl!)
    refine wpAny_execs_cons (wpAny_Assign_Name (wpAny_Compare1 (wpAny_BinOp (wpAny_Name (wpAny_loadName_local G.kind (L.ls "first" (by decide +kernel)).1 F.ns hf (wpAny_Constant_int (mod_int (by decide) (wpAny_Constant_int (eq_int ?_))))) (by decide +kernel))) rfl) (noComp_swaps rfl))
    refine store_ok (x := "wide") (v := .bol _) (lwO_okS Y G L [] s₀) (by kernel_rfl!) rfl ⟨m, ⟨h, _, rfl, F, N⟩, fm⟩ fun s₁ hs₁ => ?_
    generalize (f.fmod 2 == 1) = w at hs₁
    obtain ⟨m₁, ⟨h₁, tk₁, rfl, F₁, N₁⟩, f₁⟩ := hs₁
    unfold asVersion
    refine wpAny_execs_cons ?_
    refine wpAny_Assign_Name ?_ (noComp_swaps rfl)
    refine Subscript_ ?_
    refine List_ ?_
    refine args_cons ?_ rfl
    refine wpAny_Constant_none ?_
    refine args_cons ?_ rfl
    refine Tuple_ ?_
    refine args_cons (wpAny_Constant_int ?_) rfl
    refine args_cons (wpAny_Constant_int ?_) rfl
    refine args_nil ?_
    refine newTuple_N F₁ N₁ (fun h₂ F₂ N₂ => ?_) (by rw [sizeLine_eq]; exact Nat.le_of_ble_eq_true rfl)
    generalize h₁.objs.size = T₁ at N₂ ⊢
    refine args_cons ?_ rfl
    refine Tuple_ ?_
    refine args_cons (wpAny_Constant_int ?_) rfl
    refine args_cons (wpAny_Constant_int ?_) rfl
    refine args_nil ?_
    refine newTuple_N F₂ N₂ (fun h₃ F₃ N₃ => ?_) (by rw [sizeLine_eq]; exact Nat.le_of_ble_eq_true rfl)
    generalize h₂.objs.size = T₂ at N₃ ⊢
    refine args_nil (newList_N F₃ N₃ (fun h₄ F₄ N₄ => ?_) (by rw [sizeLine_eq]; exact Nat.le_of_ble_eq_true rfl))
    refine div_ok G L F₄ (fits_int (i := f) f₁ (by kernel_rfl!)) (by decide) (by decide) (by decide) fun t' tk' => ?_
    have fin : ∀ old vv (vV : V) (s' : Shared), vV.is vv → vV ≠ .any → ((vv = Value.none ∧ old = false) ∨ (vv = .ref T₁ ∧ old = true) ∨ (vv = .ref T₂ ∧ old = false)) → s' = { s₀ with heap := h₄, toks := tk' } →
        wpAny (model P.prog P.w) A (storeName env "version" vv) (fun _ s' => wpAny (model P.prog P.w) A (execs (asBit "far" 6 2 0 st₃ :: asBit "room" 12 2 1 st₄ :: l) env) Q (fun _ _ => False) s') (fun _ _ => False) s' := by
      rintro old vv vV s' hvv hany hv rfl
      refine store_ok (x := "version") (v := vV) (lwO_okS Y G L _ s₀) (by kernel_rfl!) hvv ⟨m₁, ⟨h₄, tk', rfl, F₄, fun p hp => N₄ p (.tail _ hp)⟩, f₁⟩ fun s₅ hs₅ => ?_
      refine bit_ok Y G L (x := "far") (f := f) (by kernel_rfl!) (by kernel_rfl!) (by decide) (by decide) (by decide) hs₅ fun r s₆ hs₆ => ?_
      refine bit_ok Y G L (x := "room") (f := f) (by kernel_rfl!) (by kernel_rfl!) (by decide) (by decide) (by decide) hs₆ fun mm s₇ hs₇ => ?_
      obtain ⟨m₇, ⟨h₇, tk₇, rfl, F₇, N₇⟩, f₇⟩ := hs₇
      obtain ⟨v1, e1, i1⟩ := f₇ "room" (.bol mm) (by kernel_rfl!) (by intro q; cases q)
      obtain ⟨v2, e2, i2⟩ := f₇ "far" (.bol r) (by kernel_rfl!) (by intro q; cases q)
      obtain ⟨v3, e3, i3⟩ := f₇ "version" vV (by kernel_rfl!) hany
      obtain ⟨v4, e4, i4⟩ := f₇ "wide" (.bol w) (by kernel_rfl!) (by intro q; cases q)
      obtain ⟨t5, e5⟩ := fits_int (x := "first") (i := f) f₇ (by kernel_rfl!)
      have e6 := fits_ref (x := "script") (a := S) f₇ (by kernel_rfl!)
      cases i1; cases i2; cases i4
      have e3' : v3 = vv := by
        cases vV with
        | non => cases hvv; cases i3; rfl
        | ref a => cases hvv; cases i3; rfl
        | any => exact absurd rfl hany
        | bol b => cases hvv; cases i3; rfl
        | int i => exact absurd hv (by obtain ⟨t, rfl⟩ := hvv; rintro (⟨q, _⟩ | ⟨q, _⟩ | ⟨q, _⟩) <;> cases q)
        | txt x => exact absurd hv (by obtain ⟨t, rfl⟩ := hvv; rintro (⟨q, _⟩ | ⟨q, _⟩ | ⟨q, _⟩) <;> cases q)
      subst e3'
      have em : m₇ = (fun y => if y = (Str.ofString "room") then some (Value.bool mm) else if y = (Str.ofString "far") then some (.bool r) else if y = (Str.ofString "version") then some v3 else if y = (Str.ofString "wide") then some (.bool w) else if y = (Str.ofString "first") then some (.int f t5) else if y = (Str.ofString "script") then some (.ref S) else m₇ y) := by
        funext y
        by_cases h1 : y = (Str.ofString "room")
        · rw [if_pos h1, h1]; exact e1
        rw [if_neg h1]
        by_cases h2 : y = (Str.ofString "far")
        · rw [if_pos h2, h2]; exact e2
        rw [if_neg h2]
        by_cases h3 : y = (Str.ofString "version")
        · rw [if_pos h3, h3]; exact e3
        rw [if_neg h3]
        by_cases h4 : y = (Str.ofString "wide")
        · rw [if_pos h4, h4]; exact e4
        rw [if_neg h4]
        by_cases h5 : y = (Str.ofString "first")
        · rw [if_pos h5, h5]; exact e5
        rw [if_neg h5]
        by_cases h6 : y = (Str.ofString "script")
        · rw [if_pos h6, h6]; exact e6
        rw [if_neg h6]
      exact kk f w r mm old v3 T₁ T₂ _ _ _ _ t5 m₇ h₇ tk₇ hv (em ▸ F₇) N₇
    have hl : h₄.IsList h₃.objs.size #[Value.none, .ref T₁, .ref T₂] := N₄.isList (.head _)
    have j0 : 0 ≤ (f.fdiv 2).fmod 3 := Int.fmod_nonneg_of_pos _ (by decide)
    have j1 : (f.fdiv 2).fmod 3 < 3 := Int.fmod_lt_of_pos _ (by decide)
    generalize (f.fdiv 2).fmod 3 = j at j0 j1
    refine kba_turn (value' := .Name (Str.ofString "_") default) (fun _ => rfl) ?_
    rcases (show j = 0 ∨ j = 1 ∨ j = 2 by omega) with rfl | rfl | rfl
    · exact item_list (x := .none) hl (by decide) (by decide) rfl (fin false _ .non _ rfl (by intro q; cases q) (.inl ⟨rfl, rfl⟩) rfl) (by with_unfolding_all rfl) (by intro _; with_unfolding_all rfl)
    · exact item_list (x := .ref T₁) hl (by decide) (by decide) rfl (fin true _ (.ref T₁) _ rfl (by intro q; cases q) (.inr (.inl ⟨rfl, rfl⟩)) rfl) (by with_unfolding_all rfl) (by intro _; with_unfolding_all rfl)
    · exact item_list (x := .ref T₂) hl (by decide) (by decide) rfl (fin false _ (.ref T₂) _ rfl (by intro q; cases q) (.inr (.inr ⟨rfl, rfl⟩)) rfl) (by with_unfolding_all rfl) (by intro _; with_unfolding_all rfl)
  obtain ⟨m, ⟨h, tk, rfl, F, N⟩, fm⟩ := hs
  have hsl : h.IsList S vals := hS.at fun o q => F.keep _ _ q
  refine wpAny_execs_cons (wpAny_Assign_Name (IfExp_ (isTrue_plain (wpAny_Name (wpAny_loadName_local G.kind (L.ls "script" (by decide +kernel)).1 F.ns (fits_ref (a := S) fm (by kernel_rfl!)) ?_) (by decide +kernel)) (by with_unfolding_all rfl))) (noComp_swaps rfl))
  refine wpAny_truthy_list hsl (by omega) ?_
  by_cases he : vals.isEmpty = true
  · rw [if_neg (by rw [he]; decide)]
    refine wpAny_Constant_int (store_ok (x := "first") (v := .int 0) (lwO_okS Y G L [] s₀) (by kernel_rfl!) ⟨_, rfl⟩ ⟨m, ⟨h, _, rfl, F, N⟩, fm⟩ fun s₁ hs₁ => afterFirst 0 s₁ hs₁)
  · rw [if_pos (by simpa using he)]
    have hp : 0 < vals.size := by
      rcases Nat.eq_zero_or_pos vals.size with q | q
      · exact absurd (Array.isEmpty_iff_size_eq_zero.mpr q) he
      · exact q
    obtain ⟨f, t, hft⟩ := hi vals[0] (Array.getElem_mem hp)
    refine Subscript_ (wpAny_Name (wpAny_loadName_local G.kind (L.ls "script" (by decide +kernel)).1 F.ns (fits_ref (a := S) fm (by kernel_rfl!)) (wpAny_Constant_int ?_)) (by decide +kernel))
    refine item_list (x := vals[0]) hsl (by decide) (by decide) (by simp [hp]) ?_ (by with_unfolding_all rfl) (by intro _; with_unfolding_all rfl)
    rw [hft]
    exact store_ok (x := "first") (v := .int f) (lwO_okS Y G L [] s₀) (by kernel_rfl!) ⟨_, rfl⟩ ⟨m, ⟨h, _, rfl, F, N⟩, fm⟩ fun s₁ hs₁ => afterFirst f s₁ hs₁
end

end Mine

namespace Mine
open PySem PySem.W PyProof.Rows PyProof.Rows.LCg

/-! the facts, read off the written part -/
def refOf : Option (Option Value) → Addr
  | some (some (.ref a)) => a
  | _ => 0
def tokOf : Option (Option Value) → Tok
  | some (some (.str _ t)) => t
  | _ => 0
def glA (K : Frag) (x : Str) : Addr := refOf (nsIn K mainGlobals x)
def obA (K : Frag) (a : Addr) : Obj := (K.lookup a).getD emptyDict
def fdD : Data → FuncData
  | .func f => f
  | _ => fnOf ⟨#[]⟩ ⟨#[]⟩ default [] default .none .none .none .none none .none .none
def fdA (K : Frag) (a : Addr) : FuncData := fdD (obA K a).data
def bdF (f : FuncData) : List Stmt := match f.body with
  | .stmts b => b
  | _ => []
def fnA (K : Frag) (a : Addr) : Obj := ⟨(obA K a).cls, (obA K a).dict, .func (fnOf (fdA K a).name (fdA K a).qualname (fdA K a).params (bdF (fdA K a)) (fdA K a).scope .none .none (fdA K a).doc (fdA K a).pyModule (fdA K a).annotations (fdA K a).code (fdA K a).closureTuple), (obA K a).slots⟩
theorem FnAt.of {P : Pg} {d : Option (Arguments × List Stmt × Scope)} {a : Addr} (hk : keepIn P.K (.ref a) = true) (he : P.K.lookup a = some (fnA P.K a)) (hc : codeIn P.K (fdA P.K a).code (fdA P.K a).qualname = true)
    (hd : d = some ((fdA P.K a).params, bdF (fdA P.K a), (fdA P.K a).scope)) : FnAt P d a :=
  ⟨hk, _, _, _, _, _, _, _, _, _, _, _, _, _, he, hc, hd⟩
theorem DefAt.of {P : Pg} {x : Str} {d : Option (Arguments × List Stmt × Scope)} {a : Addr} (hg : nsIn P.K mainGlobals x = some (some (.ref a))) (hk : keepIn P.K (.ref a) = true) (he : P.K.lookup a = some (fnA P.K a)) (hc : codeIn P.K (fdA P.K a).code (fdA P.K a).qualname = true)
    (hd : d = some ((fdA P.K a).params, bdF (fdA P.K a), (fdA P.K a).scope)) : DefAt P x d a :=
  ⟨hg, hk, _, _, _, _, _, _, _, _, _, _, _, _, _, he, hc, hd⟩

def pieceB : Value → Bool
  | .str x _ => decide (x.length ≤ 3) && x.cps.toList.all fun c => decide (c ≤ 1114111)
  | _ => false
theorem pieceB_ok {v : Value} (h : pieceB v = true) : Piece v := by
  cases v with
  | str x t =>
    have h' : (decide (x.length ≤ 3) && x.cps.toList.all fun c => decide (c ≤ 1114111)) = true := h
    rw [Bool.and_eq_true] at h'
    exact ⟨x, t, rfl, of_decide_eq_true h'.1, fun c hc => of_decide_eq_true (List.all_eq_true.mp h'.2 c hc)⟩
  | _ => cases h
def sqI : Data → Array Value
  | .seq i _ => i
  | _ => #[]
def sqN : Data → Nat
  | .seq _ n => n
  | _ => 0
theorem pieces_all {its : Array Value} (h : its.toList.all pieceB = true) : ∀ v ∈ its, Piece v := fun v hv => pieceB_ok (List.all_eq_true.mp h v (by simpa using hv))

/-- law, where the emitter is made by st₅, st₆, st₇ -/
theorem law_ok {P : Pg} (Y : Facts P) (X : EmK P) (Z : SaK P) (W : LawK P X) (C : PcK P) {k : Nat} {A : Around} {env : Env} {h₀ : Heap} (G : Gd P (k + 4) A env h₀) (L : LwN env) (hsc : LcOk env (lcScp (nth (inB (nth lwB 10)) 0)))
    {S : Addr} {vals : Array Value} (hS : h₀.IsList S vals) (hz : vals.size ≤ 63) (hi : ∀ v ∈ vals, ∃ n t, v = .int n t) {b : List Stmt} (hb : b = lwB) {st₅ st₆ st₇ : Stmt} (h5 : nth b 5 = st₅) (h6 : nth b 6 = st₆) (h7 : nth b 7 = st₇)
    {s : Shared} {m : Str → Option Value} (F : Fr h₀ env.locals s.heap m) (hm : m (Str.ofString "script") = some (.ref S)) {Q : Flow → Shared → Prop}
    (mk : ∀ (f : Int) (w r mm : Bool) (vv : Value) (T₁ T₂ : Addr) (u₁ u₂ u₃ u₄ t : Tok) (m : Str → Option Value) (h : Heap) (tk : Nat) (l : List Stmt),
      Fr h₀ env.locals h (fun y => if y = (Str.ofString "room") then some (Value.bool mm) else if y = (Str.ofString "far") then some (.bool r) else if y = (Str.ofString "version") then some vv else if y = (Str.ofString "wide") then some (.bool w) else if y = (Str.ofString "first") then some (.int f t) else if y = (Str.ofString "script") then some (.ref S) else m y) →
      News h₀ env.locals h [(T₂, ({ cls := .type "tuple", data := .seq #[.int 1 u₁, .int 2 u₂] } : Obj)), (T₁, ({ cls := .type "tuple", data := .seq #[.int 1 u₃, .int 1 u₄] } : Obj))] →
      (∀ (e de d dd : Addr) (es es₂ : List DictEntry) (n n₂ : Nat) (sv : Value) (news : List (Addr × Obj)) (m' : Str → Option Value) (h' : Heap) (tk' : Nat), Fr h₀ env.locals h' m' → News h₀ env.locals h' news →
        m' (Str.ofString "emitter") = some (.ref e) → m' (Str.ofString "version") = some vv → m' (Str.ofString "wide") = some (.bool w) → m' (Str.ofString "far") = some (.bool r) → m' (Str.ofString "room") = some (.bool mm) → m' (Str.ofString "first") = some (.int f t) → m' (Str.ofString "script") = some (.ref S) →
        (T₂, ({ cls := .type "tuple", data := .seq #[.int 1 u₁, .int 2 u₂] } : Obj)) ∈ news → (T₁, ({ cls := .type "tuple", data := .seq #[.int 1 u₃, .int 1 u₄] } : Obj)) ∈ news →
        (e, instObj X.C de) ∈ news → (de, dictOf es n) ∈ news → (d, instObj X.D dd) ∈ news → (dd, dictOf es₂ n₂) ∈ news →
        getL "allow_unicode" es = some (some (.bool w)) → getL "unicode_supplementary" es = some (some (.bool r)) → getL "allow_space_break" es = some (some sv) → ((sv = .none ∧ mm = false) ∨ (sv = .bool true ∧ mm = true)) → getL "dumper" es = some (some (.ref d)) → getL "analyze_scalar" es = some none →
        getL "_serializer" es₂ = some (some (.ref d)) → getL "typ" es₂ = some none → getL "use_version" es₂ = some (some vv) →
        wpAny (model P.prog P.w) A (execs l env) Q (fun _ _ => False) { s with heap := h', toks := tk' }) →
      wpAny (model P.prog P.w) A (execs (st₅ :: st₆ :: st₇ :: l) env) Q (fun _ _ => False) { s with heap := h, toks := tk })
    (kk : ∀ h tk m' news', Fr h₀ env.locals h m' → News h₀ env.locals h news' → Q (.ret (.bool true)) { s with heap := h, toks := tk }) :
    wpAny (model P.prog P.w) A (execs b env) Q (fun _ _ => False) s := by
  subst hb h5 h6 h7
  rw [lw_is]
  refine start_ok Y G L (s₀ := s) hS hz hi ⟨m, ⟨s.heap, s.toks, rfl, F, fun p hp => by cases hp⟩, fun y v hy ha => ?_⟩ ?_
  · unfold look at hy
    cases q : same (Str.ofString "script") y with
    | true =>
      rw [q] at hy
      have := same_iff.mp q
      subst this
      cases hy
      exact ⟨_, hm, rfl⟩
    | false => rw [q] at hy; cases hy
  intro f w r mm old vv T₁ T₂ u₁ u₂ u₃ u₄ t m₁ h tk hv F₁ N₁
  refine mk f w r mm vv T₁ T₂ u₁ u₂ u₃ u₄ t m₁ h tk _ F₁ N₁ ?_
  intro e de d dd es es₂ n n₂ sv news m' h' tk' F' N' g1 g2 g3 g4 g5 g6 g7 p1 p2 p3 p4 p5 p6 a1 a2 a3 a4 a5 a6 a7 a8 a9
  have huv : (vv = .none ∧ old = false) ∨ ∃ t j u₁ u₂ k, vv = .ref t ∧ (t, ({ cls := .type "tuple", data := .seq #[.int 1 u₁, .int j u₂] k } : Obj)) ∈ news ∧ old = (j == 1) := by
    rcases hv with ⟨x, y⟩ | ⟨x, y⟩ | ⟨x, y⟩
    · exact .inl ⟨x, y⟩
    · exact .inr ⟨T₁, 1, u₃, u₄, 0, x, p2, by rw [y]; rfl⟩
    · exact .inr ⟨T₂, 2, u₁, u₂, 0, x, p1, by rw [y]; rfl⟩
  let M : Em P X e w old r mm news := { de := de, es := es, n := n, d := d, dd := dd, es₂ := es₂, n₂ := n₂, he := p3, hde := p4, hd := p5, hdd := p6, au := a1, us := a2, sv := sv, sb := a3, sbv := a4, du := a5, sr := a7, ty := a8, vv := vv, uv := a9, uvv := huv }
  obtain ⟨vV, hvV, hiV, hnV⟩ : ∃ vV : V, ((vV = .non ∧ old = false) ∨ ∃ t j u₁ u₂ n, vV = .ref t ∧ (t, ({ cls := .type "tuple", data := .seq #[.int 1 u₁, .int j u₂] n } : Obj)) ∈ news ∧ old = (j == 1)) ∧ vV.is vv ∧ vV ≠ .any := by
    rcases hv with ⟨x, y⟩ | ⟨x, y⟩ | ⟨x, y⟩
    · exact ⟨.non, .inl ⟨rfl, y⟩, x, by intro q; cases q⟩
    · exact ⟨.ref T₁, .inr ⟨T₁, 1, u₃, u₄, 0, rfl, p2, by rw [y]; rfl⟩, x, by intro q; cases q⟩
    · exact ⟨.ref T₂, .inr ⟨T₂, 2, u₁, u₂, 0, rfl, p1, by rw [y]; rfl⟩, x, by intro q; cases q⟩
  refine numbers_ok Y C G L (by decide +kernel) (by decide +kernel) hsc (by decide +kernel) hS hz hi (s₀ := s) (e := e) (vV := vV) (w := w) (r := r) (mm := mm) (f := f) (news := news) ⟨m', ⟨h', tk', rfl, F', N'⟩, fun y v hy ha => ?_⟩ fun T its n rest s' sub hg z1 z2 hs' => ?_
  · have st : ∀ x u (v : V), m' x = some u → v.is u → x = y → ∃ u, m' y = some u ∧ v.is u := by
      rintro x u v a b rfl
      exact ⟨u, a, b⟩
    unfold lwS1 at hy
    simp only [look] at hy
    cases q1 : same (Str.ofString "emitter") y with
    | true => rw [q1] at hy; cases hy; exact st _ _ (.ref e) g1 rfl (same_iff.mp q1)
    | false =>
    rw [q1] at hy
    cases q2 : same (Str.ofString "version") y with
    | true => rw [q2] at hy; cases hy; exact st _ _ vV g2 hiV (same_iff.mp q2)
    | false =>
    rw [q2] at hy
    cases q3 : same (Str.ofString "wide") y with
    | true => rw [q3] at hy; cases hy; exact st _ _ (.bol w) g3 rfl (same_iff.mp q3)
    | false =>
    rw [q3] at hy
    cases q4 : same (Str.ofString "far") y with
    | true => rw [q4] at hy; cases hy; exact st _ _ (.bol r) g4 rfl (same_iff.mp q4)
    | false =>
    rw [q4] at hy
    cases q5 : same (Str.ofString "room") y with
    | true => rw [q5] at hy; cases hy; exact st _ _ (.bol mm) g5 rfl (same_iff.mp q5)
    | false =>
    rw [q5] at hy
    cases q6 : same (Str.ofString "script") y with
    | true => rw [q6] at hy; cases hy; exact st _ _ (.ref S) g7 rfl (same_iff.mp q6)
    | false =>
    rw [q6] at hy
    cases q7 : same (Str.ofString "first") y with
    | true => rw [q7] at hy; cases hy; exact st _ _ (.int f) g6 ⟨_, rfl⟩ (same_iff.mp q7)
    | false => rw [q7] at hy; cases hy
  · have hvV' : ((vV = .non ∧ old = false) ∨ ∃ t j u₁ u₂ n', vV = .ref t ∧ (t, ({ cls := .type "tuple", data := .seq #[.int 1 u₁, .int j u₂] n' } : Obj)) ∈ (T, listOf its n) :: rest ∧ old = (j == 1)) := by
      rcases hvV with x | ⟨t, j, u₁, u₂, n', x, y, z⟩
      · exact .inl x
      · exact .inr ⟨t, j, u₁, u₂, n', x, .tail _ (sub _ y), z⟩
    have sub' : ∀ p ∈ news, p ∈ (T, listOf its n) :: rest := fun p hp => .tail _ (sub p hp)
    refine wpAny_execs_cons (texts_ok Y Z W M a6 G L sub' hvV' (.head _) hg hs' fun s'' hs'' => ?_)
    exact last_ok Y Z W M a6 G L sub' (.head _) z1 (by omega) hs'' kk

end Mine

namespace Mine
open PySem PySem.W PyProof.Rows PyProof.Rows.LCg

/-- a def at an address, as one check -/
structure FnC (K : Frag) (d : Option (Arguments × List Stmt × Scope)) (a : Addr) : Prop where
  k : keepIn K (.ref a) = true
  e : K.lookup a = some (fnA K a)
  c : codeIn K (fdA K a).code (fdA K a).qualname = true
  d : d = some ((fdA K a).params, bdF (fdA K a), (fdA K a).scope)
theorem FnC.fn {P : Pg} {d : Option (Arguments × List Stmt × Scope)} {a : Addr} (h : FnC P.K d a) : FnAt P d a := .of h.k h.e h.c h.d
theorem FnC.df {P : Pg} {x : Str} {d : Option (Arguments × List Stmt × Scope)} {a : Addr} (h : FnC P.K d a) (g : nsIn P.K mainGlobals x = some (some (.ref a))) : DefAt P x d a := .of g h.k h.e h.c h.d

/-- a def's name at the top -/
def gA (K : Frag) (x : Str) : Prop := nsIn K mainGlobals x = some (some (.ref (glA K x)))

def facts_mk {P : Pg} (h1 : nsIn P.K mainGlobals "len" = some none) (h2 : nsIn P.K mainGlobals "range" = some none)
    (h3 : nsIn P.K mainGlobals "_law_white" = some (some (.str lawWhite (tokOf (nsIn P.K mainGlobals "_law_white"))))) (h4 : nsIn P.K mainGlobals "_law_breaks" = some (some (.str lawBreaks (tokOf (nsIn P.K mainGlobals "_law_breaks")))))
    (g1 : gA P.K "_law_behind") (f1 : FnC P.K (dfOf "_law_behind" top) (glA P.K "_law_behind")) (g2 : gA P.K "_law_ahead") (f2 : FnC P.K (dfOf "_law_ahead" top) (glA P.K "_law_ahead"))
    (g3 : gA P.K "_law_special") (f3 : FnC P.K (dfOf "_law_special" top) (glA P.K "_law_special")) (g4 : gA P.K "_law_signs") (f4 : FnC P.K (dfOf "_law_signs" top) (glA P.K "_law_signs"))
    (g5 : gA P.K "_law_reading") (f5 : FnC P.K (dfOf "_law_reading" top) (glA P.K "_law_reading")) : Facts P :=
  ⟨h1, h2, _, h3, _, h4, _, f1.df g1, _, f2.df g2, _, f3.df g3, _, f4.df g4, _, f5.df g5⟩

def atB (K : Frag) (C : Addr) (name : Str) : Bool := plainGet K C name && (hasDictIn K C && (match findIn K (.ref C) name with | some none => true | _ => false))
theorem atB_ok {K : Frag} {C : Addr} {name : Str} (h : atB K C name = true) : AttrF K C name := by
  unfold atB at h
  rw [Bool.and_eq_true, Bool.and_eq_true] at h
  obtain ⟨a, b, c⟩ := h
  refine ⟨a, b, ?_⟩
  split at c
  · assumption
  · cases c

def eC (K : Frag) : Addr := glA K "Emitter"
def eD (K : Frag) : Addr := glA K "PlainDumper"
def ePa (K : Frag) : Addr := refOf (findIn K (.ref (eC K)) "serializer")
def reF : Option (List Value) → Addr
  | some (.ref a :: _) => a
  | _ => 0
def reR : Option (List Value) → List Value
  | some (_ :: r) => r
  | _ => []
def eFg (K : Frag) : Addr := reF (recIn K (ePa K) "property")
def nmB : Option ClassData → Bool
  | some cd => same cd.name "PlainDumper"
  | none => false

theorem nm_ok {o : Option ClassData} (h : nmB o = true) : ∃ cd, o = some cd ∧ cd.name.cps.foldl (fun k c => k + (Str.utf8Of c).length) 0 ≤ 100 ∧ (s!"'{cd.name.toString}' object has no attribute '").length ≤ 90 := by
  cases o with
  | none => cases h
  | some cd =>
    have e : cd.name = "PlainDumper" := same_iff.mp h
    refine ⟨cd, rfl, ?_, ?_⟩
    · rw [e]; decide +kernel
    · rw [e]; decide +kernel

noncomputable def em_mk {P : Pg} (a1 : atB P.K (eC P.K) "allow_unicode" = true) (a2 : atB P.K (eC P.K) "unicode_supplementary" = true) (a3 : atB P.K (eC P.K) "allow_space_break" = true) (a4 : atB P.K (eC P.K) "dumper" = true)
    (a5 : atB P.K (eD P.K) "_serializer" = true) (a6 : atB P.K (eD P.K) "use_version" = true) (a7 : atB P.K (eD P.K) "typ" = true) (b1 : mroIn P.K (eD P.K) (.type "module") = some false) (b2 : nmB (clsIn P.K (eD P.K)) = true)
    (b3 : nsIn P.K mainGlobals "hasattr" = some none) (c1 : plainGet P.K (eC P.K) "serializer" = true) (c2 : hasDictIn P.K (eC P.K) = true) (c3 : findIn P.K (.ref (eC P.K)) "serializer" = some (some (.ref (ePa P.K))))
    (c4 : specialIn P.K (.ref (ePa P.K)) "__get__" = some (some (.builtin "property.__get__"))) (c5 : takesIn P.K (.ref (ePa P.K)) = some true) (c6 : recIn P.K (ePa P.K) "property" = some (.ref (eFg P.K) :: reR (recIn P.K (ePa P.K) "property")))
    (f1 : FnC P.K dSer (eFg P.K)) : EmK P :=
  { C := eC P.K, D := eD P.K, au := atB_ok a1, us := atB_ok a2, sb := atB_ok a3, du := atB_ok a4, sr := atB_ok a5, uv := atB_ok a6, ty := atB_ok a7, dm := b1, cd := (nm_ok b2).choose, dc := (nm_ok b2).choose_spec.1, dn := (nm_ok b2).choose_spec.2.1, dp := (nm_ok b2).choose_spec.2.2,
    ha := b3, pg := c1, pd := c2, pa := ePa P.K, pf := c3, ps := c4, pt := c5, fg := eFg P.K, rest := _, pr := c6, ff := f1.fn }

def saA (K : Frag) : Addr := glA K "ScalarAnalysis"
def saI (K : Frag) : Addr := refOf (findIn K (.ref (saA K)) "__init__")
def tkB (K : Frag) (a : Str) : Bool := match takerIn K (saA K) a with
  | some none => true
  | _ => false
theorem tkB_ok {K : Frag} {a : Str} (h : tkB K a = true) : takerIn K (saA K) a = some none := by
  unfold tkB at h
  split at h
  · assumption
  · cases h
def sa_mk {P : Pg} (g : gA P.K "ScalarAnalysis") (k : keepIn P.K (.ref (saA P.K)) = true) (m : makesIn P.K (saA P.K) = true) (i : findIn P.K (.ref (saA P.K)) "__init__" = some (some (.ref (saI P.K)))) (f : isFn P.K (.ref (saI P.K)) = true) (f1 : FnC P.K dSaI (saI P.K))
    (s : findIn P.K (.ref (saA P.K)) "__setattr__" = some (some (.builtin "object.__setattr__"))) (p : plainOver P.K (saA P.K) = true) (d : hasDictIn P.K (saA P.K) = true) (t : saNs.all (fun a => tkB P.K a) = true) (a : saNs.all (fun a => atB P.K (saA P.K) a) = true) : SaK P :=
  { S := saA P.K, glob := g, keep := k, mk' := m, fI := saI P.K, hi := i, hf := f, ff := f1.fn, sa := s, po := p, hd := d, tk := fun x hx => tkB_ok (List.all_eq_true.mp t x hx), at' := fun x hx => atB_ok (List.all_eq_true.mp a x hx) }

def lA (K : Frag) : Addr := refOf (findIn K (.ref (eC K)) "analyze_scalar")
def law_mk {P : Pg} (X : EmK P) (hX : X.C = eC P.K) (f1 : FnC P.K dAz (lA P.K)) (g1 : plainGet P.K (eC P.K) "analyze_scalar" = true) (g2 : findIn P.K (.ref (eC P.K)) "analyze_scalar" = some (some (.ref (lA P.K)))) (g3 : isFn P.K (.ref (lA P.K)) = true)
    (g4 : gA P.K "_law_told") (f2 : FnC P.K dTold (glA P.K "_law_told")) : LawK P X :=
  { fA := lA P.K, az := f1.fn, mg := by rw [hX]; exact g1, mf := by rw [hX]; exact g2, mt := g3, fT := _, tg := g4, told := f2.fn }

def pO (K : Frag) : Obj := obA K (glA K "_law_pieces")
def pc_mk {P : Pg} (g : gA P.K "_law_pieces") (l : P.K.lookup (glA P.K "_law_pieces") = some (pO P.K)) (c : (pO P.K).cls = .type "list") (d : (pO P.K).data = .seq (sqI (pO P.K).data) (sqN (pO P.K).data)) (z : (sqI (pO P.K).data).size = 60) (a : (sqI (pO P.K).data).toList.all pieceB = true) : PcK P :=
  { a := _, glob := g, o := _, lk := l, cls := c, items := _, n := _, dat := d, size := z, all := pieces_all a }

end Mine

namespace Mine
open PySem PySem.W PyProof.Rows PyProof.Rows.LCg

section
variable {prog : Program} {w : World} {A : Around} {E : Value → Shared → Prop} {s : Shared} {K : Frag} {x C L : Addr} {ox : Obj} {name : Str} {t : Tok} {h₀ : Heap} {m : Str → Option Value} {news : List (Addr × Obj)} {es : List DictEntry} {n : Nat}

theorem getattr_none {d : Value} {Q : Value → Shared → Prop} (F : Fr h₀ L s.heap m) (X₀ : K.In h₀) (N : News h₀ L s.heap news) (I : InstAt s.heap x ox C (some (dictOf es n))) (hh : A.handled = none) (hm : mroIn K C (.type "module") = some false) (hg : (name != ("get_source" : Str)) = true)
    (hga : findIn K (.ref C) "__getattribute__" = some (some (.builtin "object.__getattribute__"))) (hf : findObj K C (some (dictOf es n)) name = some .missing) (hk : findIn K (.ref C) "__getattr__" = some none) (hb : nmB (clsIn K C) = true) (hsz : name.length ≤ 1000)
    (h : ∀ h' tk, Fr h₀ L h' m → News h₀ L h' news → Q d { s with heap := h', toks := tk }) : wpAny (model prog w) A (call (.builtin "getattr") [.ref x, .str name t, d]) Q E s := by
  obtain ⟨cd, e1, e2, e3⟩ := nm_ok hb
  exact at_getattr3 I (X₀.keeps F.keep) hm hg (at_miss hh (X₀.keeps F.keep) I hga hf hk e1 e2 e3 hsz fun h' tk hkp => h h' tk (F.keeps hkp) (N.grown hkp))

theorem hasattr_fn {f : Addr} {Q : Value → Shared → Prop} (F : Fr h₀ L s.heap m) (X₀ : K.In h₀) (N : News h₀ L s.heap news) (I : InstAt s.heap x ox C (some (dictOf es n))) (hm : mroIn K C (.type "module") = some false) (hg : plainGet K C name = true) (hd : hasDictIn K C = true)
    (ha : findIn K (.ref C) name = some (some (.ref f))) (hf : isFn K (.ref f) = true) (hgf : specialIn K (.ref f) "__get__" = some (some (.builtin "function.__get__"))) (ht : takesIn K (.ref f) = some false) (hc : copiedNames.contains name = false) (hl : getL name es = some none)
    (h : ∀ h', Fr h₀ L h' m → News h₀ L h' news → Q (.bool true) { s with heap := h' }) : wpAny (model prog w) A (call (.builtin "hasattr") [.ref x, .str name t]) Q E s :=
  at_hasattr I (X₀.keeps F.keep) hm (at_bound F X₀ N I hg hd ha hf hgf ht hc hl fun q h' F' N' _ => h h' F' fun p hp => N' p (.tail _ hp))
end

/-- law's body, as the head leaves it -/
theorem law_top {prog : Program} {w : World} {K : Frag} {p : Program} {loose : List Str} {mean : ExcName → Option Value} {mg mb : Str → Option Value} {h₀ base : Heap} {L S fa : Addr} {m : Str → Option Value} {vals : List Value} {nums : List Int} {qual : Str} {scope : Scope} {cdv : Value} {b₀ b₁ b₂ b₃ b₄ st₅ st₆ st₇ b₈ b₉ b₁₀ b₁₁ b₁₂ b₁₃ : Stmt} {s : Shared}
    (kX : K.In h₀) (kT : Top p loose mean mg mb h₀) (kB : Below callerA base [] h₀) (kF : Fr h₀ L s.heap m) (kL : h₀.IsList S vals.toArray) (kI : IntsAre vals nums) (kC : ¬ (((63 : Nat) : Int) < (nums.length : Int))) (hsc : scope = lwSc) (hb : [b₀, b₁, b₂, b₃, b₄, st₅, st₆, st₇, b₈, b₉, b₁₀, b₁₁, b₁₂, b₁₃] = lwB)
    (hm : m (Str.ofString "script") = some (.ref S)) (Y : Facts ⟨prog, w, K, p, loose, mean, mg, mb⟩) (X : EmK ⟨prog, w, K, p, loose, mean, mg, mb⟩) (Z : SaK ⟨prog, w, K, p, loose, mean, mg, mb⟩) (W : LawK ⟨prog, w, K, p, loose, mean, mg, mb⟩ X) (C : PcK ⟨prog, w, K, p, loose, mean, mg, mb⟩)
    {Q : Flow → Shared → Prop} {E : Value → Shared → Prop}
    (mk : ∀ (f : Int) (wd r mm : Bool) (vv : Value) (T₁ T₂ : Addr) (u₁ u₂ u₃ u₄ t : Tok) (m : Str → Option Value) (h : Heap) (tk : Nat) (l : List Stmt),
      Fr h₀ L h (fun y => if y = (Str.ofString "room") then some (Value.bool mm) else if y = (Str.ofString "far") then some (.bool r) else if y = (Str.ofString "version") then some vv else if y = (Str.ofString "wide") then some (.bool wd) else if y = (Str.ofString "first") then some (.int f t) else if y = (Str.ofString "script") then some (.ref S) else m y) →
      News h₀ L h [(T₂, ({ cls := .type "tuple", data := .seq #[.int 1 u₁, .int 2 u₂] } : Obj)), (T₁, ({ cls := .type "tuple", data := .seq #[.int 1 u₃, .int 1 u₄] } : Obj))] →
      (∀ (Cc Dd e de d dd : Addr) (es es₂ : List DictEntry) (n n₂ : Nat) (sv : Value) (news : List (Addr × Obj)) (m' : Str → Option Value) (h' : Heap) (tk' : Nat), Fr h₀ L h' m' → News h₀ L h' news →
        m' (Str.ofString "emitter") = some (.ref e) → m' (Str.ofString "version") = some vv → m' (Str.ofString "wide") = some (.bool wd) → m' (Str.ofString "far") = some (.bool r) → m' (Str.ofString "room") = some (.bool mm) → m' (Str.ofString "first") = some (.int f t) → m' (Str.ofString "script") = some (.ref S) →
        (T₂, ({ cls := .type "tuple", data := .seq #[.int 1 u₁, .int 2 u₂] } : Obj)) ∈ news → (T₁, ({ cls := .type "tuple", data := .seq #[.int 1 u₃, .int 1 u₄] } : Obj)) ∈ news →
        (e, instObj Cc de) ∈ news → (de, dictOf es n) ∈ news → (d, instObj Dd dd) ∈ news → (dd, dictOf es₂ n₂) ∈ news → X.C = Cc → X.D = Dd →
        getL "allow_unicode" es = some (some (.bool wd)) → getL "unicode_supplementary" es = some (some (.bool r)) → getL "allow_space_break" es = some (some sv) → ((sv = .none ∧ mm = false) ∨ (sv = .bool true ∧ mm = true)) → getL "dumper" es = some (some (.ref d)) → getL "analyze_scalar" es = some none →
        getL "_serializer" es₂ = some (some (.ref d)) → getL "typ" es₂ = some none → getL "use_version" es₂ = some (some vv) →
        wpAny (model prog w) (callerA.deeper (envOf qual scope L fa cdv)) (execs l (envOf qual scope L fa cdv)) Q (fun _ _ => False) { s with heap := h', toks := tk' }) →
      wpAny (model prog w) (callerA.deeper (envOf qual scope L fa cdv)) (execs (st₅ :: st₆ :: st₇ :: l) (envOf qual scope L fa cdv)) Q (fun _ _ => False) { s with heap := h, toks := tk })
    (kk : ∀ h tk m' news', Fr h₀ L h m' → News h₀ L h news' → Q (.ret (.bool true)) { s with heap := h, toks := tk }) :
    wpAny (model prog w) (callerA.deeper (envOf qual scope L fa cdv)) (execs [b₀, b₁, b₂, b₃, b₄, st₅, st₆, st₇, b₈, b₉, b₁₀, b₁₁, b₁₂, b₁₃] (envOf qual scope L fa cdv)) Q E s := by
  subst hsc
  have G : Gd ⟨prog, w, K, p, loose, mean, mg, mb⟩ (0 + 4) (callerA.deeper (envOf qual lwSc L fa cdv)) (envOf qual lwSc L fa cdv) h₀ :=
    ⟨Nat.le_of_ble_eq_true (by kernel_rfl!), Nat.le_of_ble_eq_true (by kernel_rfl!), ⟨callerA, base, [], kB, rfl⟩, kX, kT, rfl, (show lwSc.kind = .function by decide +kernel), rfl, rfl, rfl⟩
  have LN : LwN (envOf qual lwSc L fa cdv) := ⟨len_of_local (names := lwSc.names) (by decide +kernel), (show lwSc.names.lookup (Str.ofString "len") = some .globalImplicit by decide +kernel), (show lwSc.names.lookup (Str.ofString "range") = some .globalImplicit by decide +kernel), (show lwSc.names.lookup (Str.ofString "_law_reading") = some .globalImplicit by decide +kernel),
    (show lwSc.names.lookup (Str.ofString "_law_told") = some .globalImplicit by decide +kernel), (show lwSc.names.lookup (Str.ofString "_law_pieces") = some .globalImplicit by decide +kernel)⟩
  have hlc : LcOk (envOf qual lwSc L fa cdv) (lcScp (nth (inB (nth lwB 10)) 0)) := ⟨by kernel_rfl!, by decide +kernel, by decide +kernel, by decide +kernel, by decide +kernel, fun C => by kernel_rfl!⟩
  have hlen : vals.length ≤ 63 := by rw [kI.length]; omega
  exact wpAny_mono (law_ok Y X Z W C G LN hlc kL (by simpa using hlen) (fun v hv => ints_all kI v (by simpa using hv)) hb rfl rfl rfl kF hm (fun f wd r mm vv T₁ T₂ u₁ u₂ u₃ u₄ t m h tk l F N cont => mk f wd r mm vv T₁ T₂ u₁ u₂ u₃ u₄ t m h tk l F N fun Cc Dd e de d dd es es₂ n n₂ sv news m' h' tk' F' N' g1 g2 g3 g4 g5 g6 g7 p1 p2 p3 p4 p5 p6 e1 e2 a1 a2 a3 a4 a5 a6 a7 a8 a9 => cont e de d dd es es₂ n n₂ sv news m' h' tk' F' N' g1 g2 g3 g4 g5 g6 g7 p1 p2 (by rw [e1]; exact p3) p4 (by rw [e2]; exact p5) p6 a1 a2 a3 a4 a5 a6 a7 a8 a9) kk) (fun _ _ h => h) fun _ _ h => h.elim

end Mine

namespace Mine
open PySem PySem.W PyProof.Rows PyProof.Rows.LCg

/-- a dict of names, as what its names hold, the newest first -/
structure Has (l : List (Str × Value)) (es : List DictEntry) : Prop where
  noRef : es.any (·.refKey) = false
  get : ∀ name, (es.find? (·.key.isStr name)).map (·.val) = l.lookup name
  len : es.length ≤ l.length
theorem Has.nil : Has [] [] := ⟨rfl, fun _ => rfl, Nat.le_refl _⟩

theorem isStr_eq {v : Value} {a b : Str} (h : v.isStr a = true) : v.isStr b = (a == b) := by
  cases v with
  | str s t =>
    have e : s = a := by
      have h' : (s == a) = true := h
      exact beq_iff_eq.mp h'
    subst e
    rfl
  | _ => cases h
theorem find_put (name : Str) (hsh : Int) (t : Tok) (v : Value) (name' : Str) : ∀ es : List DictEntry, ((putL name hsh (.str name t) v es).find? (·.key.isStr name')).map (·.val) = if name' = name then some v else (es.find? (·.key.isStr name')).map (·.val)
  | [] => by
    unfold putL
    rw [List.find?_cons]
    have e : (Value.str name t).isStr name' = (name == name') := rfl
    rw [show ({ hash := hsh, key := Value.str name t, val := v } : DictEntry).key.isStr name' = (name == name') from e]
    by_cases h : name' = name
    · rw [if_pos h, h, beq_self_eq_true]; first | done | rfl
    · have : (name == name') = false := by simpa using fun q => h q.symm
      rw [if_neg h, this]; first | done | rfl
  | e :: r => by
    unfold putL
    cases hk : e.key.isStr name with
    | true =>
      simp only [if_true]
      rw [List.find?_cons, List.find?_cons]
      rw [show ({ hash := e.hash, key := e.key, val := v } : DictEntry).key.isStr name' = (name == name') from isStr_eq hk]
      by_cases h : name' = name
      · rw [if_pos h, h, beq_self_eq_true]; first | done | rfl
      · have : (name == name') = false := by simpa using fun q => h q.symm
        rw [if_neg h, this]
    | false =>
      simp only [Bool.false_eq_true, if_false]
      rw [List.find?_cons, List.find?_cons]
      cases hk' : e.key.isStr name' with
      | true =>
        have : name' ≠ name := by
          rintro rfl
          rw [hk] at hk'; cases hk'
        rw [if_neg this]
      | false => exact find_put name hsh t v name' r
theorem put_noRef (name : Str) (hsh : Int) (t : Tok) (v : Value) : ∀ es : List DictEntry, es.any (·.refKey) = false → (putL name hsh (.str name t) v es).any (·.refKey) = false
  | [], _ => rfl
  | e :: r, h => by
    rw [List.any_cons, Bool.or_eq_false_iff] at h
    unfold putL
    cases hk : e.key.isStr name with
    | true =>
      simp only [if_true]
      rw [List.any_cons, h.2, Bool.or_false]
      exact h.1
    | false =>
      simp only [Bool.false_eq_true, if_false]
      rw [List.any_cons, h.1, put_noRef name hsh t v r h.2]
      rfl
theorem put_len (name : Str) (hsh : Int) (k v : Value) : ∀ es : List DictEntry, (putL name hsh k v es).length ≤ es.length + 1
  | [] => Nat.le_refl _
  | e :: r => by
    unfold putL
    split
    · simp
    · have := put_len name hsh k v r
      simp only [List.length_cons]
      omega
theorem Has.put {l : List (Str × Value)} {es : List DictEntry} (H : Has l es) (name : Str) (hsh : Int) (t : Tok) (v : Value) : Has ((name, v) :: l) (putL name hsh (.str name t) v es) where
  noRef := put_noRef name hsh t v es H.noRef
  get := fun name' => by
    rw [find_put, H.get, List.lookup_cons]
    by_cases h : name' = name
    · rw [if_pos h, h, beq_self_eq_true]
    · have : (name' == name) = false := by simpa using h
      rw [if_neg h, this]
  len := by
    have := put_len name hsh (.str name t) v es
    have := H.len
    simp only [List.length_cons]
    omega
theorem Has.getL {l : List (Str × Value)} {es : List DictEntry} (H : Has l es) {name : Str} {o : Option Value} (h : l.lookup name = o) : PySem.W.getL name es = some o := by
  unfold PySem.W.getL
  have g := H.get name
  rw [h] at g
  cases hf : es.find? (·.key.isStr name) with
  | some e => rw [hf] at g; rw [← g]; rfl
  | none =>
    rw [hf] at g
    dsimp only
    rw [H.noRef, ← g]
    rfl

section
variable {prog : Program} {w : World} {A : Around} {E : Value → Shared → Prop} {s : Shared} {K : Frag} {x C dx L : Addr} {h₀ : Heap} {m : Str → Option Value} {news : List (Addr × Obj)} {news' : List DictEntry → Nat → List (Addr × Obj)} {ox : Obj} {es : List DictEntry} {n : Nat} {name : Str} {v : Value} {l : List (Str × Value)}

theorem set_has {Q : Unit → Shared → Prop} (F : Fr h₀ L s.heap m) (X₀ : K.In h₀) (N : News h₀ L s.heap news) (I : InstAt s.heap x ox C (some (dictOf es n))) (hd : ox.dict = some dx)
    (hs : findIn K (.ref C) "__setattr__" = some (some (.builtin "object.__setattr__"))) (hp : plainOver K C = true) (ht : takerIn K C name = some none) (hh : hasDictIn K C = true) (H : Has l es) (hz : l.length ≤ 900)
    (U : ∀ es' n', Upd dx (dictOf es n) (dictOf es' n') news (news' es' n'))
    (h : ∀ es' n' h', Has ((name, v) :: l) es' → Fr h₀ L h' m → News h₀ L h' (news' es' n') → Q () { s with heap := h', toks := s.toks + 2 }) :
    wpAny (model prog w) A (setAttr (.ref x) name v) Q E s := by
  have H' := H.put name (PyData.keyHash w.params name) (s.toks + 1) v
  refine set_dict F X₀ N I hd hs hp ht hh (by rw [H.getL rfl]; rfl) rfl (U _ _) ?_ fun h' F' N' => h _ _ h' H' F' N'
  have := H'.len
  simp only [List.length_cons] at this
  omega

theorem get_has {Q : Value → Shared → Prop} {expr : Bool} {attr : Option Value} (F : Fr h₀ L s.heap m) (X₀ : K.In h₀) (I : InstAt s.heap x ox C (some (dictOf es n))) (hg : plainGet K C name = true) (hh : hasDictIn K C = true)
    (ha : findIn K (.ref C) name = some attr) (hn : noGet K attr = true) (H : Has l es) (hl : l.lookup name = some v) (hv : handedIn v = true) (h : Q v { s with toks := s.toks + 1 }) :
    wpAny (model prog w) A (getAttr (.ref x) name expr) Q E s := get_own F X₀ I hg hh ha hn (H.getL hl) hv h
end

end Mine
namespace Mine
open PySem PySem.W PyProof.Rows
theorem cut_ok {M : Model} {A : Around} {env : Env} {a b c : Stmt} {l : List Stmt} {Q : Flow → Shared → Prop} {E : Value → Shared → Prop} {s : Shared} (h : ∀ l₀, l₀ = b :: c :: l → wpAny M A (execs (a :: l₀) env) Q E s) : wpAny M A (execs (a :: b :: c :: l) env) Q E s := h _ rfl
theorem miss_ok {K : Frag} {C : Addr} {es : List DictEntry} {n : Nat} {name : Str} {l : List (Str × Value)} (h : atB K C name = true) (hc : copiedNames.contains name = false) (H : Has l es) (hl : l.lookup name = none) : findObj K C (some (dictOf es n)) name = some .missing :=
  findObj_miss (atB_ok h) hc (by rw [lookIn_dict]; exact H.getL hl)
end Mine

namespace Mine
open PySem PySem.W PyProof.Rows PyProof.Rows.LCg

abbrev dEm := dfOf "__init__" (clOf "Emitter" top)
abbrev eB : List Stmt := bdOf dEm
abbrev eSc : Scope := scOf dEm
def asgS : Stmt → Pos × Pos
  | .Assign [.Attribute (.Name _ p) _ q] _ _ => (p, q)
  | _ => default
def setS (a : Str) (rhs : Expr) (st : Stmt) : Stmt := .Assign [.Attribute (.Name "self" (asgS st).1) a (asgS st).2] rhs (stPos st)
def setsS : List (Str × Stmt) → List Stmt → List Stmt
  | [], r => r
  | (a, st) :: l, r => setS a (asgE st) st :: setsS l r

structure EiF (K : Frag) (C : Addr) (ns : List Str) : Prop where
  hs : findIn K (.ref C) "__setattr__" = some (some (.builtin "object.__setattr__"))
  hp : plainOver K C = true
  hh : hasDictIn K C = true
  tk : ∀ a ∈ ns, takerIn K C a = some none

section
variable {prog : Program} {w : World} {A : Around} {K : Frag} {x C dx L : Addr} {g : Heap} {m : Str → Option Value} {rest : List (Addr × Obj)} {s₀ : Shared} {env : Env} {ns : List Str}

def Stt (K : Frag) (C x dx : Addr) (g : Heap) (L : Addr) (m : Str → Option Value) (rest : List (Addr × Obj)) (s₀ : Shared) (l : List (Str × Value)) (s : Shared) : Prop :=
  ∃ es n h tk, s = { s₀ with heap := h, toks := tk } ∧ Has l es ∧ Fr g L h m ∧ News g L h ((x, instObj C dx) :: (dx, dictOf es n) :: rest)

theorem stt_set (I : EiF K C ns) (X : K.In g) (hk : env.scope.kind = .function) (hL : env.locals = L) (hself : env.kindOf "self" = some .local) (hms : m (Str.ofString "self") = some (.ref x)) (hdx : dx < x) (hr : ∀ p ∈ rest, p.1 < dx) {a : Str} (ha : a ∈ ns) {rhs : Expr} (hc : noComp rhs = true) {R : Value → Prop} {l : List (Str × Value)} (hz : l.length ≤ 900) {st : Stmt} {r : List Stmt} {Q : Flow → Shared → Prop} {s : Shared}
    (ev : ∀ s (Q : Value → Shared → Prop), Stt K C x dx g L m rest s₀ l s → (∀ v s', R v → Stt K C x dx g L m rest s₀ l s' → Q v s') → wpAny (model prog w) A (eval rhs env) Q (fun _ _ => False) s)
    (hs : Stt K C x dx g L m rest s₀ l s) (k : ∀ v s', R v → Stt K C x dx g L m rest s₀ ((a, v) :: l) s' → wpAny (model prog w) A (execs r env) Q (fun _ _ => False) s') :
    wpAny (model prog w) A (execs (setS a rhs st :: r) env) Q (fun _ _ => False) s := by
  subst hL
  refine wpAny_execs_cons (plainObj_wpAny_Assign_Attribute (ev s _ hs fun v s' hv hs' => ?_) (noComp_swaps hc))
  obtain ⟨es, n, h, tk, rfl, H, F, N⟩ := hs'
  refine wpAny_Name (wpAny_loadName_local hk hself F.ns hms ?_) (by decide +kernel)
  have In := InstAt.of_news N (.head _) (.tail _ (.head _))
  refine set_has (news' := fun es' n' => (x, instObj C dx) :: (dx, dictOf es' n') :: rest) F X N In rfl I.hs I.hp (I.tk a ha) I.hh H hz (fun es' n' => .tail (Nat.ne_of_gt hdx) (.head fun p hp => Nat.ne_of_lt (hr p hp))) fun es' n' h' H' F' N' => ?_
  exact k v _ hv ⟨es', n', h', _, rfl, H', F', N'⟩

def valE (m : Str → Option Value) : Expr → Value → Prop
  | .Constant .none _ _, v => v = .none
  | .Constant (.bool b) _ _, v => v = .bool b
  | .Constant (.int i) _ _, v => ∃ t, v = .int i t
  | .Constant (.str y) _ _, v => ∃ t, v = .str y t
  | .Name y _, v => m y = some v
  | .List [] _, _ => True
  | _, _ => False
def simpB (ps : List Str) : Expr → Bool
  | .Constant .none _ _ => true
  | .Constant (.bool _) _ _ => true
  | .Constant (.int _) _ _ => true
  | .Constant (.str _) _ _ => true
  | .Name y _ => ps.any (same y)
  | .List [] _ => true
  | _ => false
theorem any_same'' {l : List Str} {y : Str} (h : l.any (same y) = true) : y ∈ l := any_same h
theorem simp_comp {ps : List Str} {e : Expr} (h : simpB ps e = true) : noComp e = true := by
  cases e <;> first | rfl | cases h

theorem simp_ev (hk : env.scope.kind = .function) (hL : env.locals = L) {ps : List Str} (hp : ∀ y ∈ ps, env.kindOf y = some .local ∧ (y == ("__debug__" : Str)) = false ∧ ∃ v, m y = some v) {rhs : Expr} (h : simpB ps rhs = true) {l : List (Str × Value)} (s : Shared) (Q : Value → Shared → Prop)
    (hs : Stt K C x dx g L m rest s₀ l s) (k : ∀ v s', valE m rhs v → Stt K C x dx g L m rest s₀ l s' → Q v s') : wpAny (model prog w) A (eval rhs env) Q (fun _ _ => False) s := by
  subst hL
  obtain ⟨es, n, hh, tk, rfl, H, F, N⟩ := hs
  unfold simpB at h
  split at h
  · exact wpAny_Constant_none (k _ _ rfl ⟨es, n, hh, _, rfl, H, F, N⟩)
  · exact wpAny_Constant_bool (k _ _ rfl ⟨es, n, hh, _, rfl, H, F, N⟩)
  · exact wpAny_Constant_int (k _ _ ⟨_, rfl⟩ ⟨es, n, hh, _, rfl, H, F, N⟩)
  · exact wpAny_Constant_str (k _ _ ⟨_, rfl⟩ ⟨es, n, hh, _, rfl, H, F, N⟩)
  · obtain ⟨a, b, v, hv⟩ := hp _ (any_same'' h)
    exact wpAny_Name (wpAny_loadName_local hk a F.ns hv (k v _ hv ⟨es, n, hh, _, rfl, H, F, N⟩)) b
  · refine List_ (args_nil (newList_N F N (fun h' F' N' => k _ _ trivial ⟨es, n, h', _, rfl, H, F', fun p hp => N' p (.tail _ hp)⟩) (Nat.zero_le _)))
  · cases h

inductive Ext (m : Str → Option Value) : List (Str × Stmt) → List (Str × Value) → List (Str × Value) → Prop
  | nil (l : List (Str × Value)) : Ext m [] l l
  | cons {a : Str} {st : Stmt} {r : List (Str × Stmt)} {v : Value} {l l' : List (Str × Value)} (hv : valE m (asgE st) v) (h : Ext m r ((a, v) :: l) l') : Ext m ((a, st) :: r) l l'

theorem seg_ok (I : EiF K C ns) (X : K.In g) (hk : env.scope.kind = .function) (hL : env.locals = L) (hself : env.kindOf "self" = some .local) (hms : m (Str.ofString "self") = some (.ref x)) (hdx : dx < x) (hr : ∀ p ∈ rest, p.1 < dx) {ps : List Str} (hp : ∀ y ∈ ps, env.kindOf y = some .local ∧ (y == ("__debug__" : Str)) = false ∧ ∃ v, m y = some v) {r : List Stmt} {Q : Flow → Shared → Prop} :
    ∀ (ss : List (Str × Stmt)) (l : List (Str × Value)) (s : Shared), ss.all (fun p => decide (p.1 ∈ ns) && simpB ps (asgE p.2)) = true → l.length + ss.length ≤ 900 → Stt K C x dx g L m rest s₀ l s →
      (∀ l' s', Ext m ss l l' → Stt K C x dx g L m rest s₀ l' s' → wpAny (model prog w) A (execs r env) Q (fun _ _ => False) s') → wpAny (model prog w) A (execs (setsS ss r) env) Q (fun _ _ => False) s
  | [], l, s, _, _, hs, k => k l s (.nil l) hs
  | (a, st) :: ss, l, s, h, hz, hs, k => by
    rw [List.all_cons, Bool.and_eq_true, Bool.and_eq_true] at h
    obtain ⟨⟨h1, h2⟩, h3⟩ := h
    simp only [List.length_cons] at hz
    refine stt_set I X hk hL hself hms hdx hr (of_decide_eq_true h1) (simp_comp h2) (R := valE m (asgE st)) (by omega) (fun s Q hs k => simp_ev hk hL hp h2 s Q hs k) hs fun v s' hv hs' => ?_
    exact seg_ok I X hk hL hself hms hdx hr hp ss _ s' h3 (by simp only [List.length_cons]; omega) hs' fun l' s'' he hs'' => k l' s'' (.cons hv he) hs''
end
end Mine

namespace Mine
open PySem PySem.W PyProof.Rows PyProof.Rows.LCg

def ifO : Stmt → List Stmt
  | .If _ _ o _ => o
  | _ => []
def boT : Expr → List Expr
  | .BoolOp _ (_ :: r) _ => r
  | _ => []
def boH : Expr → Expr
  | .BoolOp _ (e :: _) _ => e
  | _ => .Constant .none 0 default
def liPp : Expr → Pos
  | .List _ p => p
  | _ => default
def seS (a : Str) (e : Expr) : Expr := .Attribute (.Name "self" (exPos (atV e))) a (atP e)
def rhsColon (e : Expr) : Expr := .IfExp (.Compare (.Name "prefix_colon" (exPos (cmL' (ieT e)))) [.Is] [cN (cmR1 (ieT e))] (cmP (ieT e))) (seS "colon" (ieB e)) (ieE e) (ieP e)
def rhsSeq (e : Expr) : Expr := .IfExp (.Name "block_seq_indent" (exPos (ieT e))) (ieB e) (cI 0 (ieE e)) (ieP e)
def ifName (y : Str) (st : Stmt) : Stmt := .If (.BoolOp .And (.Name y (exPos (boH (ifT st))) :: boT (ifT st)) (boP (ifT st))) (inB st) [] (ifP st)
def ifIn (st : Stmt) : Stmt := .If (.Compare (.Name "line_break" (exPos (cmL' (ifT st)))) [.In] [.List [.Constant (.str ⟨#[13]⟩) (coKP (nthE (liL (cmR1 (ifT st))) 0)) (coPP (nthE (liL (cmR1 (ifT st))) 0)), .Constant (.str ⟨#[10]⟩) (coKP (nthE (liL (cmR1 (ifT st))) 1)) (coPP (nthE (liL (cmR1 (ifT st))) 1)), .Constant (.str ⟨#[13, 10]⟩) (coKP (nthE (liL (cmR1 (ifT st))) 2)) (coPP (nthE (liL (cmR1 (ifT st))) 2))] (liPp (cmR1 (ifT st)))] (cmP (ifT st))) (inB st) [] (ifP st)

def sg1 (b : List Stmt) : List (Str × Stmt) := [("indent", nth b 0), ("flow_context", nth b 1), ("root_context", nth b 2), ("sequence_context", nth b 3), ("mapping_context", nth b 4), ("simple_key_context", nth b 5), ("line", nth b 6), ("column", nth b 7), ("whitespace", nth b 8), ("indention", nth b 9), ("compact_seq_seq", nth b 10), ("compact_seq_map", nth b 11), ("no_newline", nth b 12), ("open_ended", nth b 13), ("colon", nth b 14)]
def sg2 (b : List Stmt) : List (Str × Stmt) := [("brace_single_entry_mapping_in_flow_sequence", nth b 16), ("canonical", nth b 17), ("allow_unicode", nth b 18), ("unicode_supplementary", nth b 19)]
def sg3 (b : List Stmt) : List (Str × Stmt) := [("top_level_colon_align", nth b 21), ("best_sequence_indent", nth b 22), ("requested_indent", nth b 23)]
def sg4 (b : List Stmt) : List (Str × Stmt) := [("best_width", nth b 26)]
def sg5 (b : List Stmt) : List (Str × Stmt) := [("best_line_break", nth b 28)]
def sg6 (b : List Stmt) : List (Str × Stmt) := [("tag_prefixes", nth b 30), ("prepared_anchor", nth b 31), ("prepared_tag", nth b 32), ("analysis", nth b 33), ("style", nth b 34), ("scalar_after_indicator", nth b 35), ("alt_null", nth b 36)]
abbrev tlB : List Stmt := eB.drop 10
theorem tl_is : tlB = setsS (sg1 tlB) (setS "prefixed_colon" (rhsColon (asgE (nth tlB 15))) (nth tlB 15) :: setsS (sg2 tlB) (setS "sequence_dash_offset" (rhsSeq (asgE (nth tlB 20))) (nth tlB 20) :: setsS (sg3 tlB) (ifName "indent" (nth tlB 24) :: setS "best_map_indent" (seS "best_sequence_indent" (asgE (nth tlB 25))) (nth tlB 25) ::
    setsS (sg4 tlB) (ifName "width" (nth tlB 27) :: setsS (sg5 tlB) (ifIn (nth tlB 29) :: setsS (sg6 tlB) []))))) := by kernel_rfl!

def eiNs : List Str := (["indent", "flow_context", "root_context", "sequence_context", "mapping_context", "simple_key_context", "line", "column", "whitespace", "indention", "compact_seq_seq", "compact_seq_map", "no_newline", "open_ended", "colon", "prefixed_colon", "brace_single_entry_mapping_in_flow_sequence"] : List Str) ++ (["canonical", "allow_unicode", "unicode_supplementary", "sequence_dash_offset", "top_level_colon_align", "best_sequence_indent", "requested_indent", "best_map_indent", "best_width", "best_line_break", "tag_prefixes", "prepared_anchor", "prepared_tag", "analysis", "style", "scalar_after_indicator", "alt_null"] : List Str)
abbrev eiPs : List Str := ["brace_single_entry_mapping_in_flow_sequence", "canonical", "allow_unicode", "top_level_colon_align", "indent"]

section
variable {prog : Program} {w : World} {A : Around} {K : Frag} {x C dx L : Addr} {g : Heap} {m : Str → Option Value} {rest : List (Addr × Obj)} {s₀ : Shared} {env : Env} {ns : List Str}

/-- an attribute of self read -/
theorem self_ev (X : K.In g) (hk : env.scope.kind = .function) (hL : env.locals = L) (hself : env.kindOf "self" = some .local) (hms : m (Str.ofString "self") = some (.ref x)) {a : Str} (ha : AttrF K C a) {e : Expr} {l : List (Str × Value)} {v : Value} (hl : l.lookup a = some v) (hv : handedIn v = true) (s : Shared) (Q : Value → Shared → Prop)
    (hs : Stt K C x dx g L m rest s₀ l s) (k : ∀ s', Stt K C x dx g L m rest s₀ l s' → Q v s') : wpAny (model prog w) A (eval (seS a e) env) Q (fun _ _ => False) s := by
  subst hL
  obtain ⟨es, n, h, tk, rfl, H, F, N⟩ := hs
  refine Attribute_Name_ (wpAny_Name (wpAny_loadName_local hk hself F.ns hms ?_) (by decide +kernel)) (by with_unfolding_all rfl)
  exact attr_ok F X N (.head _) (.tail _ (.head _)) ha (H.getL hl) hv (k _ ⟨es, n, h, _, rfl, H, F, N⟩)

theorem ifName_ok (hk : env.scope.kind = .function) (hL : env.locals = L) {y : Str} (hy : env.kindOf y = some .local) (hyd : (y == ("__debug__" : Str)) = false) (hm : m y = some .none) {st : Stmt} (hne : ∃ e r, boT (ifT st) = e :: r) {l : List (Str × Value)} {r : List Stmt} {Q : Flow → Shared → Prop} {s : Shared}
    (hs : Stt K C x dx g L m rest s₀ l s) (k : ∀ s', Stt K C x dx g L m rest s₀ l s' → wpAny (model prog w) A (execs r env) Q (fun _ _ => False) s') :
    wpAny (model prog w) A (execs (ifName y st :: r) env) Q (fun _ _ => False) s := by
  subst hL
  obtain ⟨es, n, h, tk, rfl, H, F, N⟩ := hs
  obtain ⟨e, r', hr'⟩ := hne
  unfold ifName
  rw [hr']
  refine wpAny_execs_cons (wpAny_If (isTrue_and (isTrue_plain (wpAny_Name (wpAny_loadName_local hk hy F.ns hm (truthy_none ?_)) hyd) (by with_unfolding_all rfl))))
  simp only [Bool.false_eq_true, if_false]
  exact wpAny_execs_nil (k _ ⟨es, n, h, _, rfl, H, F, N⟩)

theorem ifIn_ok (hk : env.scope.kind = .function) (hL : env.locals = L) (hy : env.kindOf "line_break" = some .local) (hm : m (Str.ofString "line_break") = some .none) {st : Stmt} {l : List (Str × Value)} {r : List Stmt} {Q : Flow → Shared → Prop} {s : Shared}
    (hs : Stt K C x dx g L m rest s₀ l s) (k : ∀ s', Stt K C x dx g L m rest s₀ l s' → wpAny (model prog w) A (execs r env) Q (fun _ _ => False) s') :
    wpAny (model prog w) A (execs (ifIn st :: r) env) Q (fun _ _ => False) s := by
  subst hL
  obtain ⟨es, n, h, tk, rfl, H, F, N⟩ := hs
  unfold ifIn
  refine wpAny_execs_cons (wpAny_If (wpAny_isTrue_Compare1 (wpAny_Name (wpAny_loadName_local hk hy F.ns hm ?_) (by decide +kernel)) (by with_unfolding_all rfl)))
  refine List_ (args_cons (wpAny_Constant_str (args_cons (wpAny_Constant_str (args_cons (wpAny_Constant_str (args_nil ?_)) rfl)) rfl)) rfl)
  refine newList_N F N (fun h' F' N' => ?_) (by rw [sizeLine_eq]; exact Nat.le_of_ble_eq_true rfl)
  refine SeqAt.in_listAt (fun _ => false) (N'.isList (.head _)) (fun y hy => ?_) ?_
  · have hy' : y ∈ [Value.str ⟨#[13]⟩ tk, Value.str ⟨#[10]⟩ (tk + 1), Value.str ⟨#[13, 10]⟩ (tk + 1 + 1)] := by simpa using hy
    simp only [List.mem_cons, List.not_mem_nil, or_false] at hy'
    rcases hy' with rfl | rfl | rfl <;> exact SeqAt.EqAt.str_none _ _
  · refine wpAny_truthy_bool ?_
    rw [if_neg (by simp)]
    exact wpAny_execs_nil (k _ ⟨es, n, h', _, rfl, H, F', fun p hp => N' p (.tail _ hp)⟩)
end
end Mine

namespace Mine
open PySem PySem.W PyProof.Rows PyProof.Rows.LCg

def lastOf (a : Str) : List (Str × Stmt) → Option Stmt
  | [] => none
  | (b, st) :: r => match lastOf a r with
    | some s => some s
    | none => bif same b a then some st else none
theorem ext_other {m : Str → Option Value} {a : Str} : ∀ {ss : List (Str × Stmt)} {l l' : List (Str × Value)}, Ext m ss l l' → lastOf a ss = none → l'.lookup a = l.lookup a
  | _, _, _, .nil l, _ => rfl
  | _, _, _, .cons (a := b) (st := st) (r := r) (v := v) (l := l) hv h, hn => by
    unfold lastOf at hn
    split at hn
    · cases hn
    · rename_i hr
      rw [ext_other h hr, List.lookup_cons]
      cases q : same b a with
      | true => rw [q] at hn; cases hn
      | false =>
        have : (a == b) = false := by
          rw [beq_eq_false_iff_ne]
          rintro rfl
          rw [same_iff.mpr rfl] at q; cases q
        rw [this]
theorem ext_look {m : Str → Option Value} {a : Str} : ∀ {ss : List (Str × Stmt)} {l l' : List (Str × Value)} {st : Stmt}, Ext m ss l l' → lastOf a ss = some st → ∃ v, l'.lookup a = some v ∧ valE m (asgE st) v
  | _, _, _, _, .nil l, hn => by cases hn
  | _, _, _, st', .cons (a := b) (st := st) (r := r) (v := v) (l := l) hv h, hn => by
    unfold lastOf at hn
    split at hn
    · rename_i s hr
      cases hn
      exact ext_look h hr
    · rename_i hr
      cases q : same b a with
      | false => rw [q] at hn; cases hn
      | true =>
        rw [q] at hn
        cases hn
        have e := same_iff.mp q
        subst e
        exact ⟨v, by rw [ext_other h hr, List.lookup_cons, beq_self_eq_true], hv⟩
theorem ext_len {m : Str → Option Value} : ∀ {ss : List (Str × Stmt)} {l l' : List (Str × Value)}, Ext m ss l l' → l'.length = l.length + ss.length
  | _, _, _, .nil l => rfl
  | _, _, _, .cons hv h => by
    rw [ext_len h]
    simp only [List.length_cons]
    omega

/-- the later part of Emitter.__init__ -/
theorem tail_ok {prog : Program} {w : World} {A : Around} {K : Frag} {x C dx L : Addr} {g : Heap} {m : Str → Option Value} {rest : List (Addr × Obj)} {s₀ s : Shared} {env : Env} (I : EiF K C eiNs) (X : K.In g) (hk : env.scope.kind = .function) (hL : env.locals = L) (hls : ∀ y ∈ (["self", "prefix_colon", "block_seq_indent", "indent", "width", "line_break"] : List Str), env.kindOf y = some .local)
    (hps : ∀ y ∈ eiPs, env.kindOf y = some .local ∧ (y == ("__debug__" : Str)) = false ∧ ∃ v, m y = some v) (hms : m (Str.ofString "self") = some (.ref x)) (h1 : m (Str.ofString "prefix_colon") = some .none) (h2 : m (Str.ofString "block_seq_indent") = some .none) (h3 : m (Str.ofString "indent") = some .none) (h4 : m (Str.ofString "width") = some .none) (h5 : m (Str.ofString "line_break") = some .none)
    {au : Value} (h6 : m (Str.ofString "allow_unicode") = some au) (a1 : AttrF K C "colon") (a2 : AttrF K C "best_sequence_indent") (hdx : dx < x) (hr : ∀ p ∈ rest, p.1 < dx) {l : List (Str × Value)} (hz : l.length ≤ 100) (hs : Stt K C x dx g L m rest s₀ l s) {Q : Flow → Shared → Prop}
    (k : ∀ l' s', l'.lookup (Str.ofString "allow_unicode") = some au → l'.lookup (Str.ofString "unicode_supplementary") = some (.bool true) → l'.lookup (Str.ofString "allow_space_break") = l.lookup (Str.ofString "allow_space_break") → l'.lookup (Str.ofString "dumper") = l.lookup (Str.ofString "dumper") → l'.lookup (Str.ofString "analyze_scalar") = l.lookup (Str.ofString "analyze_scalar") → l'.length ≤ 200 → Stt K C x dx g L m rest s₀ l' s' → Q .next s') :
    wpAny (model prog w) A (execs tlB env) Q (fun _ _ => False) s := by
  have hself := hls "self" (by decide +kernel)
  rw [tl_is]
  refine seg_ok I X hk hL hself hms hdx hr hps (sg1 tlB) l s (by decide +kernel) (by show l.length + 15 ≤ 900; omega) hs fun l₁ s₁ e₁ hs₁ => ?_
  have z₁ := ext_len e₁
  obtain ⟨vc, lc, vvc⟩ := ext_look (a := "colon") (st := nth tlB 14) e₁ (by kernel_rfl!)
  rw [show asgE (nth tlB 14) = .Constant (.str ⟨#[58]⟩) (coKP (asgE (nth tlB 14))) (coPP (asgE (nth tlB 14))) from by kernel_rfl!] at vvc
  obtain ⟨tc, rfl⟩ := vvc
  refine stt_set I X hk hL hself hms hdx hr (R := fun _ => True) (by decide +kernel) rfl (by rw [z₁]; show l.length + 15 ≤ 900; omega) (fun s Q hs k => ?_) hs₁ fun v₂ s₂ _ hs₂ => ?_
  · have hs' := hs
    obtain ⟨es, n, h, tk, rfl, H, F, N⟩ := hs
    subst hL
    refine IfExp_ (wpAny_isTrue_Compare1 (wpAny_Name (wpAny_loadName_local hk (hls "prefix_colon" (by decide +kernel)) F.ns h1 (wpAny_Constant_none (wpAny_is_self rfl (wpAny_truthy_bool ?_)))) (by decide +kernel)) (by with_unfolding_all rfl))
    rw [if_pos rfl]
    exact self_ev X hk rfl hself hms a1 lc rfl _ _ hs' fun s' hs' => k _ s' trivial hs'
  refine seg_ok I X hk hL hself hms hdx hr hps (sg2 tlB) _ s₂ (by decide +kernel) (by simp only [List.length_cons, z₁]; show l.length + 15 + 1 + 4 ≤ 900; omega) hs₂ fun l₃ s₃ e₃ hs₃ => ?_
  have z₃ := ext_len e₃
  obtain ⟨va, la, vva⟩ := ext_look (a := "allow_unicode") (st := nth tlB 18) e₃ (by kernel_rfl!)
  rw [show asgE (nth tlB 18) = .Name "allow_unicode" (exPos (asgE (nth tlB 18))) from by kernel_rfl!] at vva
  obtain rfl : va = au := Option.some.inj ((show m (Str.ofString "allow_unicode") = some va from vva).symm.trans h6)
  obtain ⟨vu, lu, vvu⟩ := ext_look (a := "unicode_supplementary") (st := nth tlB 19) e₃ (by kernel_rfl!)
  rw [show asgE (nth tlB 19) = .Constant (.bool true) (coKP (asgE (nth tlB 19))) (coPP (asgE (nth tlB 19))) from by kernel_rfl!] at vvu
  obtain rfl : vu = .bool true := vvu
  refine stt_set I X hk hL hself hms hdx hr (R := fun _ => True) (by decide +kernel) rfl (by rw [z₃]; simp only [List.length_cons, z₁]; show l.length + 15 + 1 + 4 ≤ 900; omega) (fun s Q hs k => ?_) hs₃ fun v₄ s₄ _ hs₄ => ?_
  · obtain ⟨es, n, h, tk, rfl, H, F, N⟩ := hs
    subst hL
    refine IfExp_ (isTrue_plain (wpAny_Name (wpAny_loadName_local hk (hls "block_seq_indent" (by decide +kernel)) F.ns h2 (truthy_none ?_)) (by decide +kernel)) (by with_unfolding_all rfl))
    simp only [Bool.false_eq_true, if_false]
    exact wpAny_Constant_int (k _ _ trivial ⟨es, n, h, _, rfl, H, F, N⟩)
  refine seg_ok I X hk hL hself hms hdx hr hps (sg3 tlB) _ s₄ (by decide +kernel) (by simp only [List.length_cons, z₁, z₃]; show l.length + 15 + 1 + 4 + 1 + 3 ≤ 900; omega) hs₄ fun l₅ s₅ e₅ hs₅ => ?_
  have z₅ := ext_len e₅
  obtain ⟨vb, lb, vvb⟩ := ext_look (a := "best_sequence_indent") (st := nth tlB 22) e₅ (by kernel_rfl!)
  rw [show asgE (nth tlB 22) = .Constant (.int 2) (coKP (asgE (nth tlB 22))) (coPP (asgE (nth tlB 22))) from by kernel_rfl!] at vvb
  obtain ⟨tb, rfl⟩ := vvb
  refine ifName_ok hk hL (hls "indent" (by decide +kernel)) (by decide +kernel) h3 ⟨nthE (boT (ifT (nth tlB 24))) 0, (boT (ifT (nth tlB 24))).tail, by kernel_rfl!⟩ hs₅ fun s₆ hs₆ => ?_
  refine stt_set I X hk hL hself hms hdx hr (R := fun _ => True) (by decide +kernel) rfl (by rw [z₅]; simp only [List.length_cons, z₁, z₃]; show l.length + 15 + 1 + 4 + 1 + 3 ≤ 900; omega) (fun s Q hs k => ?_) hs₆ fun v₇ s₇ _ hs₇ => ?_
  · exact self_ev X hk hL hself hms a2 lb rfl _ _ hs fun s' hs' => k _ s' trivial hs'
  refine seg_ok I X hk hL hself hms hdx hr hps (sg4 tlB) _ s₇ (by decide +kernel) (by simp only [List.length_cons, z₁, z₃, z₅]; show l.length + 15 + 1 + 4 + 1 + 3 + 1 + 1 ≤ 900; omega) hs₇ fun l₈ s₈ e₈ hs₈ => ?_
  have z₈ := ext_len e₈
  refine ifName_ok hk hL (hls "width" (by decide +kernel)) (by decide +kernel) h4 ⟨nthE (boT (ifT (nth tlB 27))) 0, (boT (ifT (nth tlB 27))).tail, by kernel_rfl!⟩ hs₈ fun s₉ hs₉ => ?_
  refine seg_ok I X hk hL hself hms hdx hr hps (sg5 tlB) _ s₉ (by decide +kernel) (by simp only [z₈, List.length_cons, z₁, z₃, z₅]; show l.length + 15 + 1 + 4 + 1 + 3 + 1 + 1 + 1 ≤ 900; omega) hs₉ fun l₁₀ s₁₀ e₁₀ hs₁₀ => ?_
  have z₁₀ := ext_len e₁₀
  refine ifIn_ok hk hL (hls "line_break" (by decide +kernel)) h5 hs₁₀ fun s₁₁ hs₁₁ => ?_
  refine seg_ok I X hk hL hself hms hdx hr hps (sg6 tlB) _ s₁₁ (by decide +kernel) (by simp only [z₁₀, z₈, List.length_cons, z₁, z₃, z₅]; show l.length + 15 + 1 + 4 + 1 + 3 + 1 + 1 + 1 + 7 ≤ 900; omega) hs₁₁ fun l₁₂ s₁₂ e₁₂ hs₁₂ => ?_
  have z₁₂ := ext_len e₁₂
  refine wpAny_execs_nil (k l₁₂ s₁₂ ?_ ?_ ?_ ?_ ?_ ?_ hs₁₂)
  · rw [ext_other e₁₂ (by kernel_rfl!), ext_other e₁₀ (by kernel_rfl!), ext_other e₈ (by kernel_rfl!), show List.lookup (Str.ofString "allow_unicode") ((Str.ofString "best_map_indent", v₇) :: l₅) = List.lookup (Str.ofString "allow_unicode") l₅ from by kernel_rfl!, ext_other e₅ (by kernel_rfl!), show List.lookup (Str.ofString "allow_unicode") ((Str.ofString "sequence_dash_offset", v₄) :: l₃) = List.lookup (Str.ofString "allow_unicode") l₃ from by kernel_rfl!]
    exact la
  · rw [ext_other e₁₂ (by kernel_rfl!), ext_other e₁₀ (by kernel_rfl!), ext_other e₈ (by kernel_rfl!), show List.lookup (Str.ofString "unicode_supplementary") ((Str.ofString "best_map_indent", v₇) :: l₅) = List.lookup (Str.ofString "unicode_supplementary") l₅ from by kernel_rfl!, ext_other e₅ (by kernel_rfl!), show List.lookup (Str.ofString "unicode_supplementary") ((Str.ofString "sequence_dash_offset", v₄) :: l₃) = List.lookup (Str.ofString "unicode_supplementary") l₃ from by kernel_rfl!]
    exact lu
  · rw [ext_other e₁₂ (by kernel_rfl!), ext_other e₁₀ (by kernel_rfl!), ext_other e₈ (by kernel_rfl!), show List.lookup (Str.ofString "allow_space_break") ((Str.ofString "best_map_indent", v₇) :: l₅) = List.lookup (Str.ofString "allow_space_break") l₅ from by kernel_rfl!, ext_other e₅ (by kernel_rfl!), show List.lookup (Str.ofString "allow_space_break") ((Str.ofString "sequence_dash_offset", v₄) :: l₃) = List.lookup (Str.ofString "allow_space_break") l₃ from by kernel_rfl!, ext_other e₃ (by kernel_rfl!), show List.lookup (Str.ofString "allow_space_break") ((Str.ofString "prefixed_colon", v₂) :: l₁) = List.lookup (Str.ofString "allow_space_break") l₁ from by kernel_rfl!, ext_other e₁ (by kernel_rfl!)]
  · rw [ext_other e₁₂ (by kernel_rfl!), ext_other e₁₀ (by kernel_rfl!), ext_other e₈ (by kernel_rfl!), show List.lookup (Str.ofString "dumper") ((Str.ofString "best_map_indent", v₇) :: l₅) = List.lookup (Str.ofString "dumper") l₅ from by kernel_rfl!, ext_other e₅ (by kernel_rfl!), show List.lookup (Str.ofString "dumper") ((Str.ofString "sequence_dash_offset", v₄) :: l₃) = List.lookup (Str.ofString "dumper") l₃ from by kernel_rfl!, ext_other e₃ (by kernel_rfl!), show List.lookup (Str.ofString "dumper") ((Str.ofString "prefixed_colon", v₂) :: l₁) = List.lookup (Str.ofString "dumper") l₁ from by kernel_rfl!, ext_other e₁ (by kernel_rfl!)]
  · rw [ext_other e₁₂ (by kernel_rfl!), ext_other e₁₀ (by kernel_rfl!), ext_other e₈ (by kernel_rfl!), show List.lookup (Str.ofString "analyze_scalar") ((Str.ofString "best_map_indent", v₇) :: l₅) = List.lookup (Str.ofString "analyze_scalar") l₅ from by kernel_rfl!, ext_other e₅ (by kernel_rfl!), show List.lookup (Str.ofString "analyze_scalar") ((Str.ofString "sequence_dash_offset", v₄) :: l₃) = List.lookup (Str.ofString "analyze_scalar") l₃ from by kernel_rfl!, ext_other e₃ (by kernel_rfl!), show List.lookup (Str.ofString "analyze_scalar") ((Str.ofString "prefixed_colon", v₂) :: l₁) = List.lookup (Str.ofString "analyze_scalar") l₁ from by kernel_rfl!, ext_other e₁ (by kernel_rfl!)]
  · rw [z₁₂, z₁₀, z₈]
    simp only [List.length_cons, z₁, z₃, z₅]
    show l.length + 15 + 1 + 4 + 1 + 3 + 1 + 1 + 1 + 7 ≤ 200
    omega
end Mine

namespace Mine
open PySem PySem.W PyProof.Rows PyProof.Rows.LCg

theorem nw_drop {h₀ h : Heap} {L : Addr} {p : Addr × Obj} {r : List (Addr × Obj)} (N : News h₀ L h (p :: r)) : News h₀ L h r := fun q hq => N q (.tail _ hq)
theorem lt_all {d : Nat} : ∀ {l : List (Addr × Obj)}, AllLt d l → ∀ p ∈ l, p.1 < d
  | [], _, p, hp => by cases hp
  | q :: r, h, p, hp => by
    rcases List.mem_cons.mp hp with rfl | hp
    · exact h.1
    · exact lt_all h.2 p hp

def eiAll (K : Frag) (C : Addr) : Bool := (match findIn K (.ref C) "__setattr__" with | some (some (.builtin x)) => x == "object.__setattr__" | _ => false) && (plainOver K C && (hasDictIn K C && (eiNs.all fun a => match takerIn K C a with | some none => true | _ => false)))
theorem ei_of {K : Frag} {C : Addr} (h : eiAll K C = true) : EiF K C eiNs := by
  unfold eiAll at h
  rw [Bool.and_eq_true, Bool.and_eq_true, Bool.and_eq_true] at h
  obtain ⟨a, b, c, d⟩ := h
  refine ⟨?_, b, c, fun x hx => ?_⟩
  · split at a
    · rename_i y hy
      rw [hy, beq_iff_eq.mp a]
    · cases a
  · have := List.all_eq_true.mp d x hx
    split at this
    · assumption
    · cases this

theorem tail_walk {prog : Program} {w : World} {A : Around} {K : Frag} {x C dx L fa : Addr} {g : Heap} {m : Str → Option Value} {rest : List (Addr × Obj)} {s : Shared} {qual : Str} {scope : Scope} {cdv : Value} {b : List Stmt} {v₁ v₂ v₃ au : Value} {es : List DictEntry} {n : Nat} {l : List (Str × Value)} {Q : Flow → Shared → Prop} {E : Value → Shared → Prop}
    (hsc : scope = eSc) (hb : b = tlB) (F : Fr g L s.heap m) (X : K.In g) (hms : m (Str.ofString "self") = some (.ref x)) (h1 : m (Str.ofString "prefix_colon") = some .none) (h2 : m (Str.ofString "block_seq_indent") = some .none) (h3 : m (Str.ofString "indent") = some .none) (h4 : m (Str.ofString "width") = some .none) (h5 : m (Str.ofString "line_break") = some .none)
    (h6 : m (Str.ofString "allow_unicode") = some au) (p1 : m (Str.ofString "brace_single_entry_mapping_in_flow_sequence") = some v₁) (p2 : m (Str.ofString "canonical") = some v₂) (p3 : m (Str.ofString "top_level_colon_align") = some v₃)
    (N : News g L s.heap ((x, instObj C dx) :: (dx, dictOf es n) :: rest)) (H : Has l es) (I : EiF K C eiNs) (a1 : AttrF K C "colon") (a2 : AttrF K C "best_sequence_indent") (hdx : dx < x) (hr : ∀ p ∈ rest, p.1 < dx) (hz : l.length ≤ 100)
    (k : ∀ l' es' n' h' tk', l'.lookup (Str.ofString "allow_unicode") = some au → l'.lookup (Str.ofString "unicode_supplementary") = some (.bool true) → l'.lookup (Str.ofString "allow_space_break") = l.lookup (Str.ofString "allow_space_break") → l'.lookup (Str.ofString "dumper") = l.lookup (Str.ofString "dumper") → l'.lookup (Str.ofString "analyze_scalar") = l.lookup (Str.ofString "analyze_scalar") → l'.length ≤ 200 →
      Has l' es' → Fr g L h' m → News g L h' ((x, instObj C dx) :: (dx, dictOf es' n') :: rest) → Q .next { s with heap := h', toks := tk' }) :
    wpAny (model prog w) A (execs b (envOf qual scope L fa cdv)) Q E s := by
  subst hsc hb
  have ls : ∀ y ∈ [("self" : Str), "prefix_colon", "block_seq_indent", "indent", "width", "line_break"], eSc.names.lookup y = some .local := by
    have : [("self" : Str), "prefix_colon", "block_seq_indent", "indent", "width", "line_break"].all (fun y => decide (eSc.names.lookup y = some .local)) = true := by decide +kernel
    exact fun y hy => of_decide_eq_true (List.all_eq_true.mp this y hy)
  have ps : ∀ y ∈ eiPs, eSc.names.lookup y = some .local ∧ (y == ("__debug__" : Str)) = false := len_of_local (by decide +kernel)
  refine wpAny_mono (tail_ok (env := envOf qual eSc L fa cdv) (s₀ := s) I X (show eSc.kind = .function by decide +kernel) rfl ls (fun y hy => ⟨(ps y hy).1, (ps y hy).2, ?_⟩) hms h1 h2 h3 h4 h5 h6 a1 a2 hdx hr hz ⟨es, n, s.heap, s.toks, rfl, H, F, N⟩ (Q := Q) ?_) (fun _ _ z => z) fun _ _ z => z.elim
  · simp only [eiPs, List.mem_cons, List.not_mem_nil, or_false] at hy
    rcases hy with rfl | rfl | rfl | rfl | rfl
    · exact ⟨_, p1⟩
    · exact ⟨_, p2⟩
    · exact ⟨_, h6⟩
    · exact ⟨_, p3⟩
    · exact ⟨_, h3⟩
  · rintro l' s' b1 b2 b3 b4 b5 b6 ⟨es', n', h', tk', rfl, H', F', N'⟩
    exact k l' es' n' h' tk' b1 b2 b3 b4 b5 b6 H' F' N'
end Mine

namespace Mine
open PySem PySem.W PyProof.Rows PyProof.Rows.LCg

def unP : Expr → Pos
  | .UnaryOp _ _ p => p
  | _ => default
def unE : Expr → Expr
  | .UnaryOp _ e _ => e
  | _ => .Constant .none 0 default
def setE (a : Str) (b : Bool) (st : Stmt) : Stmt := .Assign [.Attribute (.Name "emitter" (asgS st).1) a (asgS st).2] (.Constant (.bool b) (coKP (asgE st)) (coPP (asgE st))) (stPos st)
def asFar (st : Stmt) : Stmt := .If (.UnaryOp .Not (.Name "far" (exPos (unE (ifT st)))) (unP (ifT st))) [setE "unicode_supplementary" false (nth (inB st) 0)] [] (ifP st)
def asRoom (st : Stmt) : Stmt := .If (.Name "room" (exPos (ifT st))) [setE "allow_space_break" true (nth (inB st) 0)] [] (ifP st)
theorem st6_is : nth lwB 6 = asFar (nth lwB 6) := by kernel_rfl!
theorem st7_is : nth lwB 7 = asRoom (nth lwB 7) := by kernel_rfl!

def eiB (K : Frag) (C : Addr) (ns : List Str) : Bool := (match findIn K (.ref C) "__setattr__" with | some (some (.builtin x)) => x == "object.__setattr__" | _ => false) && (plainOver K C && (hasDictIn K C && (ns.all fun a => match takerIn K C a with | some none => true | _ => false)))
theorem eiB_ok {K : Frag} {C : Addr} {ns : List Str} (h : eiB K C ns = true) : EiF K C ns := by
  unfold eiB at h
  rw [Bool.and_eq_true, Bool.and_eq_true, Bool.and_eq_true] at h
  obtain ⟨a, b, c, d⟩ := h
  refine ⟨?_, b, c, fun x hx => ?_⟩
  · split at a
    · rename_i y hy
      rw [hy, beq_iff_eq.mp a]
    · cases a
  · have := List.all_eq_true.mp d x hx
    split at this
    · assumption
    · cases this
abbrev twoNs : List Str := ["unicode_supplementary", "allow_space_break"]

section
variable {prog : Program} {w : World} {A : Around} {K : Frag} {e C de L : Addr} {h₀ : Heap} {m : Str → Option Value} {rest : List (Addr × Obj)} {s₀ : Shared} {env : Env}

/-- emitter.a = b -/
theorem setE_ok (I : EiF K C twoNs) (X : K.In h₀) (hk : env.scope.kind = .function) (he : env.kindOf "emitter" = some .local) (hm : m (Str.ofString "emitter") = some (.ref e)) (hde : de < e) (hr : ∀ p ∈ rest, p.1 < de) {a : Str} (ha : a ∈ twoNs) {b : Bool} {st : Stmt} {es : List DictEntry} {n : Nat} {l : List (Str × Value)} {h : Heap} {tk : Nat} (hz : l.length ≤ 900)
    (F : Fr h₀ env.locals h m) (N : News h₀ env.locals h ((e, instObj C de) :: (de, dictOf es n) :: rest)) (H : Has l es) {Q : Flow → Shared → Prop}
    (k : ∀ es' n' h' tk', Has ((a, .bool b) :: l) es' → Fr h₀ env.locals h' m → News h₀ env.locals h' ((e, instObj C de) :: (de, dictOf es' n') :: rest) → Q .next { s₀ with heap := h', toks := tk' }) :
    wpAny (model prog w) A (execs [setE a b st] env) Q (fun _ _ => False) { s₀ with heap := h, toks := tk } := by
  refine wpAny_execs_cons (plainObj_wpAny_Assign_Attribute (wpAny_Constant_bool (wpAny_Name (wpAny_loadName_local hk he F.ns hm ?_) (by decide +kernel))) (noComp_swaps rfl))
  have In := InstAt.of_news N (.head _) (.tail _ (.head _))
  refine set_has (news' := fun es' n' => (e, instObj C de) :: (de, dictOf es' n') :: rest) F X N In rfl I.hs I.hp (I.tk a ha) I.hh H hz (fun es' n' => .tail (Nat.ne_of_gt hde) (.head fun p hp => Nat.ne_of_lt (hr p hp))) fun es' n' h' H' F' N' => ?_
  exact wpAny_execs_nil (k es' n' h' _ H' F' N')

theorem two_ok (I : EiF K C twoNs) (X : K.In h₀) (hk : env.scope.kind = .function) (LN : LwN env) (hm : m (Str.ofString "emitter") = some (.ref e)) {r mm : Bool} (hf : m (Str.ofString "far") = some (.bool r)) (hrm : m (Str.ofString "room") = some (.bool mm)) (hde : de < e) (hr : ∀ p ∈ rest, p.1 < de) {st₆ st₇ : Stmt} {es : List DictEntry} {n : Nat} {l : List (Str × Value)} {h : Heap} {tk : Nat} (hz : l.length ≤ 200)
    (F : Fr h₀ env.locals h m) (N : News h₀ env.locals h ((e, instObj C de) :: (de, dictOf es n) :: rest)) (H : Has l es) (u1 : l.lookup (Str.ofString "unicode_supplementary") = some (.bool true)) (u2 : l.lookup (Str.ofString "allow_space_break") = some .none) {b : List Stmt} {Q : Flow → Shared → Prop}
    (k : ∀ l' es' n' h' tk', l'.lookup (Str.ofString "unicode_supplementary") = some (.bool r) → (∃ sv, l'.lookup (Str.ofString "allow_space_break") = some sv ∧ ((sv = .none ∧ mm = false) ∨ (sv = .bool true ∧ mm = true))) → (∀ a, a ≠ Str.ofString "unicode_supplementary" → a ≠ Str.ofString "allow_space_break" → l'.lookup a = l.lookup a) →
      Has l' es' → Fr h₀ env.locals h' m → News h₀ env.locals h' ((e, instObj C de) :: (de, dictOf es' n') :: rest) → wpAny (model prog w) A (execs b env) Q (fun _ _ => False) { s₀ with heap := h', toks := tk' }) :
    wpAny (model prog w) A (execs (asFar st₆ :: asRoom st₇ :: b) env) Q (fun _ _ => False) { s₀ with heap := h, toks := tk } := by
  have he := (LN.ls "emitter" (by decide +kernel)).1
  have second : ∀ l₁ es n h tk, l₁.length ≤ 300 → l₁.lookup (Str.ofString "unicode_supplementary") = some (.bool r) → l₁.lookup (Str.ofString "allow_space_break") = some .none → (∀ a, a ≠ Str.ofString "unicode_supplementary" → l₁.lookup a = l.lookup a) → Has l₁ es → Fr h₀ env.locals h m → News h₀ env.locals h ((e, instObj C de) :: (de, dictOf es n) :: rest) →
      wpAny (model prog w) A (execs (asRoom st₇ :: b) env) Q (fun _ _ => False) { s₀ with heap := h, toks := tk } := by
    intro l₁ es n h tk hz v1 v2 v3 H F N
    refine wpAny_execs_cons (wpAny_If (isTrue_plain (wpAny_Name (wpAny_loadName_local hk (LN.ls "room" (by decide +kernel)).1 F.ns hrm (wpAny_truthy_bool ?_)) (by decide +kernel)) (by with_unfolding_all rfl)))
    cases mm with
    | true =>
      rw [if_pos rfl]
      refine setE_ok I X hk he hm hde hr (by decide +kernel) (by omega) F N H fun es' n' h' tk' H' F' N' => k _ es' n' h' tk' ?_ ⟨_, by kernel_rfl!, .inr ⟨rfl, rfl⟩⟩ ?_ H' F' N'
      · rw [← v1]; kernel_rfl!
      · intro a x y
        rw [List.lookup_cons, show (a == Str.ofString "allow_space_break") = false from by simpa using y]
        exact v3 a x
    | false =>
      rw [if_neg (by decide)]
      exact wpAny_execs_nil (k l₁ es n h _ v1 ⟨_, v2, .inl ⟨rfl, rfl⟩⟩ (fun a x _ => v3 a x) H F N)
  refine wpAny_execs_cons (wpAny_If (isTrue_not (isTrue_plain (wpAny_Name (wpAny_loadName_local hk (LN.ls "far" (by decide +kernel)).1 F.ns hf (wpAny_truthy_bool ?_)) (by decide +kernel)) (by with_unfolding_all rfl))))
  cases r with
  | true =>
    rw [if_neg (by decide)]
    exact wpAny_execs_nil (second l es n h _ (by omega) u1 u2 (fun a _ => rfl) H F N)
  | false =>
    rw [if_pos (by decide)]
    refine setE_ok I X hk he hm hde hr (by decide +kernel) (by omega) F N H fun es' n' h' tk' H' F' N' => second _ es' n' h' tk' (by simp only [List.length_cons]; omega) (by kernel_rfl!) ?_ ?_ H' F' N'
    · rw [← u2]; kernel_rfl!
    · intro a x
      rw [List.lookup_cons, show (a == Str.ofString "unicode_supplementary") = false from by simpa using x]
end

/-- law's body, as the head leaves it; st₅ makes the emitter -/
theorem law_end {prog : Program} {w : World} {K : Frag} {p : Program} {loose : List Str} {mean : ExcName → Option Value} {mg mb : Str → Option Value} {h₀ base : Heap} {L S fa : Addr} {m : Str → Option Value} {vals : List Value} {nums : List Int} {qual : Str} {scope : Scope} {cdv : Value} {b₀ b₁ b₂ b₃ b₄ st₅ st₆ st₇ b₈ b₉ b₁₀ b₁₁ b₁₂ b₁₃ : Stmt} {s : Shared}
    (kX : K.In h₀) (kT : Top p loose mean mg mb h₀) (kB : Below callerA base [] h₀) (kF : Fr h₀ L s.heap m) (kL : h₀.IsList S vals.toArray) (kI : IntsAre vals nums) (kC : ¬ (((63 : Nat) : Int) < (nums.length : Int))) (hsc : scope = lwSc) (hb : [b₀, b₁, b₂, b₃, b₄, st₅, st₆, st₇, b₈, b₉, b₁₀, b₁₁, b₁₂, b₁₃] = lwB)
    (hm : m (Str.ofString "script") = some (.ref S)) (Y : Facts ⟨prog, w, K, p, loose, mean, mg, mb⟩) (X : EmK ⟨prog, w, K, p, loose, mean, mg, mb⟩) (Z : SaK ⟨prog, w, K, p, loose, mean, mg, mb⟩) (W : LawK ⟨prog, w, K, p, loose, mean, mg, mb⟩ X) (Cp : PcK ⟨prog, w, K, p, loose, mean, mg, mb⟩) (IC : EiF K X.C twoNs)
    {Q : Flow → Shared → Prop} {E : Value → Shared → Prop}
    (mk : ∀ (f : Int) (wd r mm : Bool) (vv : Value) (T₁ T₂ : Addr) (u₁ u₂ u₃ u₄ t : Tok) (m : Str → Option Value) (h : Heap) (tk : Nat) (l₀ : List Stmt),
      Fr h₀ L h (fun y => if y = (Str.ofString "room") then some (Value.bool mm) else if y = (Str.ofString "far") then some (.bool r) else if y = (Str.ofString "version") then some vv else if y = (Str.ofString "wide") then some (.bool wd) else if y = (Str.ofString "first") then some (.int f t) else if y = (Str.ofString "script") then some (.ref S) else m y) →
      News h₀ L h [(T₂, ({ cls := .type "tuple", data := .seq #[.int 1 u₁, .int 2 u₂] } : Obj)), (T₁, ({ cls := .type "tuple", data := .seq #[.int 1 u₃, .int 1 u₄] } : Obj))] →
      (∀ (Cc Dd e de d dd : Addr) (es es₂ : List DictEntry) (n n₂ : Nat) (rest : List (Addr × Obj)) (l₁ l₂ : List (Str × Value)) (m' : Str → Option Value) (h' : Heap) (tk' : Nat), Fr h₀ L h' m' → m' (Str.ofString "emitter") = some (.ref e) → News h₀ L h' ((e, instObj Cc de) :: (de, dictOf es n) :: rest) → de < e → (∀ p ∈ rest, p.1 < de) →
        m' (Str.ofString "version") = some vv → m' (Str.ofString "wide") = some (.bool wd) → m' (Str.ofString "far") = some (.bool r) → m' (Str.ofString "room") = some (.bool mm) → m' (Str.ofString "first") = some (.int f t) → m' (Str.ofString "script") = some (.ref S) →
        (T₂, ({ cls := .type "tuple", data := .seq #[.int 1 u₁, .int 2 u₂] } : Obj)) ∈ rest → (T₁, ({ cls := .type "tuple", data := .seq #[.int 1 u₃, .int 1 u₄] } : Obj)) ∈ rest →
        Has l₁ es → l₁.lookup (Str.ofString "dumper") = some (.ref d) → (d, instObj Dd dd) ∈ rest → (dd, dictOf es₂ n₂) ∈ rest → Has l₂ es₂ → X.C = Cc → X.D = Dd →
        l₁.lookup (Str.ofString "allow_unicode") = some (.bool wd) → l₁.lookup (Str.ofString "unicode_supplementary") = some (.bool true) → l₁.lookup (Str.ofString "allow_space_break") = some .none → l₁.lookup (Str.ofString "analyze_scalar") = none → l₁.length ≤ 200 →
        l₂.lookup (Str.ofString "_serializer") = some (.ref d) → l₂.lookup (Str.ofString "typ") = none → l₂.lookup (Str.ofString "use_version") = some vv →
        wpAny (model prog w) (callerA.deeper (envOf qual scope L fa cdv)) (execs l₀ (envOf qual scope L fa cdv)) Q (fun _ _ => False) { s with heap := h', toks := tk' }) →
      wpAny (model prog w) (callerA.deeper (envOf qual scope L fa cdv)) (execs (st₅ :: l₀) (envOf qual scope L fa cdv)) Q (fun _ _ => False) { s with heap := h, toks := tk })
    (kk : ∀ h tk m' news', Fr h₀ L h m' → News h₀ L h news' → Q (.ret (.bool true)) { s with heap := h, toks := tk }) :
    wpAny (model prog w) (callerA.deeper (envOf qual scope L fa cdv)) (execs [b₀, b₁, b₂, b₃, b₄, st₅, st₆, st₇, b₈, b₉, b₁₀, b₁₁, b₁₂, b₁₃] (envOf qual scope L fa cdv)) Q E s := by
  have e6 : st₆ = asFar (nth lwB 6) := by rw [← st6_is, ← hb]; rfl
  have e7 : st₇ = asRoom (nth lwB 7) := by rw [← st7_is, ← hb]; rfl
  refine law_top kX kT kB kF kL kI kC hsc hb hm Y X Z W Cp ?_ kk
  intro f wd r mm vv T₁ T₂ u₁ u₂ u₃ u₄ t m₁ h tk l F₁ N₁ cont
  refine mk f wd r mm vv T₁ T₂ u₁ u₂ u₃ u₄ t m₁ h tk (st₆ :: st₇ :: l) F₁ N₁ ?_
  intro Cc Dd e de d dd es es₂ n n₂ rest l₁ l₂ m' h' tk' F' g1 N' lt al g2 g3 g4 g5 g6 g7 t2 t1 H1 dm pd pdd H2 eC eD c1 c2 c3 c4 c5 d1 d2 d3
  subst hsc
  have LN : LwN (envOf qual lwSc L fa cdv) := ⟨len_of_local (names := lwSc.names) (by decide +kernel), (show lwSc.names.lookup (Str.ofString "len") = some .globalImplicit by decide +kernel), (show lwSc.names.lookup (Str.ofString "range") = some .globalImplicit by decide +kernel), (show lwSc.names.lookup (Str.ofString "_law_reading") = some .globalImplicit by decide +kernel),
    (show lwSc.names.lookup (Str.ofString "_law_told") = some .globalImplicit by decide +kernel), (show lwSc.names.lookup (Str.ofString "_law_pieces") = some .globalImplicit by decide +kernel)⟩
  rw [e6, e7]
  subst eC
  refine two_ok (env := envOf qual lwSc L fa cdv) IC kX (show lwSc.kind = .function by decide +kernel) LN g1 g4 g5 lt al c5 F' N' H1 c2 c3 fun l' es' n' h'' tk'' w1 w2 w3 H' F'' N'' => ?_
  obtain ⟨sv, w2, w4⟩ := w2
  have o1 : ∀ a, same a (Str.ofString "unicode_supplementary") = false → same a (Str.ofString "allow_space_break") = false → l'.lookup a = l₁.lookup a := by
    intro a x y
    refine w3 a ?_ ?_
    · rintro rfl; rw [same_iff.mpr rfl] at x; cases x
    · rintro rfl; rw [same_iff.mpr rfl] at y; cases y
  exact cont _ Dd e de d dd es' es₂ n' n₂ sv _ m' h'' tk'' F'' N'' g1 g2 g3 g4 g5 g6 g7 (.tail _ (.tail _ t2)) (.tail _ (.tail _ t1)) (.head _) (.tail _ (.head _)) (.tail _ (.tail _ pd)) (.tail _ (.tail _ pdd)) rfl eD
    (H'.getL ((o1 _ (by decide +kernel) (by decide +kernel)).trans c1)) (H'.getL w1) (H'.getL w2) w4 (H'.getL ((o1 _ (by decide +kernel) (by decide +kernel)).trans dm)) (H'.getL ((o1 _ (by decide +kernel) (by decide +kernel)).trans c4)) (H2.getL d1) (H2.getL d2) (H2.getL d3)
end Mine

open PySem PySem.W PyProof.Rows
local macro_rules | `(tactic| walk_at "getAttr ref") => `(tactic| (k_here; k_dflt (refine' kbm_bound ?k1 ?k2 ?k3 ?k4 ?k5 ?k6 ?k7 ?k8 ?k9 ?k10 ?k11 ?k12 ?_; (case k4 => k_inst); (case k1 => k_asm); (case k2 => k_asm); (case k7 => k_is); (case k3 => k_asm); (case k5 => k_is); (case k6 => k_is); (case k8 => k_is); (case k9 => k_is); (case k10 => k_is); (case k11 => decide +kernel); (case k12 => exact Mine.Has.getL (by assumption) rfl); k_whole); intro q' h' F' N' l1; (try k_lt l1); (try k_sweep)))
local macro_rules | `(tactic| walk_at "getAttr ref") => `(tactic| (k_here; k_dflt (refine' Mine.get_has ?k1 ?k2 ?k3 ?k4 ?k5 ?k6 ?k7 ?k8 ?k9 ?k10 ?_; (case k1 => k_asm); (case k2 => k_asm); (case k3 => k_inst); (case k4 => k_is); (case k5 => k_is); (case k6 => k_is); (case k7 => k_is); (case k8 => assumption); (case k9 => exact rfl); (case k10 => k_handed); k_whole)))
local macro_rules | `(tactic| walk_at "setAttr ref") => `(tactic| (k_here; k_dflt (refine' Mine.set_has ?k1 ?k2 ?k3 ?k4 ?k5 ?k6 ?k7 ?k8 ?k9 ?k10 ?k11 ?k12 ?_; (case k1 => k_asm); (case k2 => k_asm); (case k3 => k_asm); (case k4 => k_inst); (case k5 => exact rfl); (case k6 => k_is); (case k7 => k_is); (case k8 => k_is); (case k9 => k_is); (case k10 => first | assumption | exact Mine.Has.nil); (case k11 => exact Nat.le_of_ble_eq_true rfl); (case k12 => intro es' n'; k_upd); k_whole; intro es' n' h' H' F' N'; (try k_sweep))))
local macro_rules | `(tactic| walk_at "call builtin:getattr") => `(tactic| (k_here; k_dflt (refine' Mine.getattr_none ?k1 ?k2 ?k3 ?k4 ?k5 ?k6 ?k7 ?k8 ?k9 ?k10 ?k11 ?k12 ?_; (case k1 => k_asm); (case k2 => k_asm); (case k3 => k_asm); (case k4 => k_inst); (case k5 => exact rfl); (case k6 => kernel_rfl!); (case k7 => kernel_rfl!); (case k8 => k_is); (case k9 => exact Mine.miss_ok (by kernel_rfl!) (by kernel_rfl!) (by first | assumption | exact Mine.Has.nil) rfl); (case k10 => k_is); (case k11 => kernel_rfl!); (case k12 => exact Nat.le_of_ble_eq_true rfl); k_whole; intro h' tk' F' N'; (try k_sweep))))
local macro_rules | `(tactic| walk_at "execs cons") => `(tactic| (k_here; (with_reducible show wpAny _ _ (execs (Stmt.Assign [PySem.Expr.Attribute (PySem.Expr.Name _ _) (Str.ofString "indent") _] _ _ :: _) _) _ _ _); k_dflt (refine' Mine.tail_walk ?sc ?hb ?F ?X ?m0 ?m1 ?m2 ?m3 ?m4 ?m5 ?m6 ?q1 ?q2 ?q3 ?N ?H ?I ?a1 ?a2 ?lt ?al ?z ?_; (case sc => kernel_rfl!); (case F => k_asm); (case X => k_asm); (case m0 => exact rfl); (case m1 => exact rfl); (case m2 => exact rfl); (case m3 => exact rfl); (case m4 => exact rfl); (case m5 => exact rfl); (case m6 => exact rfl); (case q1 => exact rfl); (case q2 => exact rfl); (case q3 => exact rfl); (case N => with_reducible rename News _ _ _ _ => kN9; first | exact kN9 | exact Mine.nw_drop kN9 | exact Mine.nw_drop (Mine.nw_drop kN9) | exact Mine.nw_drop (Mine.nw_drop (Mine.nw_drop kN9)) | exact Mine.nw_drop (Mine.nw_drop (Mine.nw_drop (Mine.nw_drop kN9))) | exact Mine.nw_drop (Mine.nw_drop (Mine.nw_drop (Mine.nw_drop (Mine.nw_drop kN9)))) | exact Mine.nw_drop (Mine.nw_drop (Mine.nw_drop (Mine.nw_drop (Mine.nw_drop (Mine.nw_drop kN9))))) | exact Mine.nw_drop (Mine.nw_drop (Mine.nw_drop (Mine.nw_drop (Mine.nw_drop (Mine.nw_drop (Mine.nw_drop kN9)))))) | exact Mine.nw_drop (Mine.nw_drop (Mine.nw_drop (Mine.nw_drop (Mine.nw_drop (Mine.nw_drop (Mine.nw_drop (Mine.nw_drop kN9))))))) | exact Mine.nw_drop (Mine.nw_drop (Mine.nw_drop (Mine.nw_drop (Mine.nw_drop (Mine.nw_drop (Mine.nw_drop (Mine.nw_drop (Mine.nw_drop kN9))))))))); (case H => assumption); (case hb => kernel_rfl!); (case I => exact Mine.ei_of (by kernel_rfl!)); (case a1 => exact Mine.atB_ok (by kernel_rfl!)); (case a2 => exact Mine.atB_ok (by kernel_rfl!)); (case lt => first | assumption | omega); (case al => refine Mine.lt_all ?_; simp only [AllLt, and_true]; first | assumption | omega); (case z => exact Nat.le_of_ble_eq_true rfl); k_whole; intro l9 es' n' h' tk' b1 b2 b3 b4 b5 b6 H' F' N'; (try k_sweep))))
local macro_rules | `(tactic| walk_at "call builtin:hasattr") => `(tactic| (k_here; k_dflt (refine' Mine.hasattr_fn ?k1 ?k2 ?k3 ?k4 ?k5 ?k6 ?k7 ?k8 ?k9 ?k10 ?k11 ?k12 ?k13 ?_; (case k1 => k_asm); (case k2 => k_asm); (case k3 => k_asm); (case k4 => k_inst); (case k5 => kernel_rfl!); (case k6 => k_is); (case k7 => k_is); (case k8 => k_is); (case k9 => k_is); (case k10 => k_is); (case k11 => k_is); (case k12 => kernel_rfl!); (case k13 => exact Mine.Has.getL (by first | assumption | exact Mine.Has.nil) rfl); k_whole; intro h' F' N'; (try k_sweep))))
theorem Mine.fr_lit {g h : Heap} {L : Addr} {l l' : List (Str × Value)} (F : Fr g L h (fun y => List.lookup y l)) (e : l = l') : Fr g L h (fun y => List.lookup y l') := e ▸ F
local macro_rules | `(tactic| walk_at "execs cons") => `(tactic| (k_here; (with_reducible show wpAny _ _ (execs (Stmt.Assign [PySem.Expr.Attribute (PySem.Expr.Name _ _) (Str.ofString "dumper") _] _ _ :: _) _) _ _ _); (with_reducible rename Fr _ _ _ (fun y => List.lookup y (List.reverse _)) => kF9); k_dflt (have kF8 := Mine.fr_lit (l' := [(Str.ofString "dumper", _), (Str.ofString "brace_single_entry_mapping_in_flow_sequence", _), (Str.ofString "prefix_colon", _), (Str.ofString "top_level_colon_align", _), (Str.ofString "block_seq_indent", _), (Str.ofString "line_break", _), (Str.ofString "allow_unicode", _), (Str.ofString "width", _), (Str.ofString "indent", _), (Str.ofString "canonical", _), (Str.ofString "stream", _), (Str.ofString "self", _)]) kF9 (by exact rfl)); clear kF9))
/-! Names taken ahead (they say nothing): where the name of a twin of «Mine.lawHolds» is taken, the head lays no twin for that object and goes on with the object itself. The twins' equations, chained over a thousand objects, are what made the compiled file too large. -/
theorem Mine.lawHolds.tw4818302054069635018 : True := trivial
theorem Mine.lawHolds.tw982285380960984538 : True := trivial
theorem Mine.lawHolds.tw15766803031792456848 : True := trivial
theorem Mine.lawHolds.tw10988962788021691997 : True := trivial
theorem Mine.lawHolds.tw8057535265714891333 : True := trivial
theorem Mine.lawHolds.tw9880458121862759292 : True := trivial
theorem Mine.lawHolds.tw10080661982810878552 : True := trivial
theorem Mine.lawHolds.tw7876844992156273575 : True := trivial
theorem Mine.lawHolds.tw10045003845031320034 : True := trivial
theorem Mine.lawHolds.tw4573063386841208440 : True := trivial
theorem Mine.lawHolds.tw8091716091643561397 : True := trivial
theorem Mine.lawHolds.tw12493327278629667631 : True := trivial
theorem Mine.lawHolds.tw8465238208230872138 : True := trivial
theorem Mine.lawHolds.tw10323628271768359276 : True := trivial
theorem Mine.lawHolds.tw4152236077617137291 : True := trivial
theorem Mine.lawHolds.tw3055548486892693971 : True := trivial
theorem Mine.lawHolds.tw4987854762509535305 : True := trivial
theorem Mine.lawHolds.tw3259919502211962569 : True := trivial
theorem Mine.lawHolds.tw1424659441639958417 : True := trivial
theorem Mine.lawHolds.tw8905208285325740928 : True := trivial
theorem Mine.lawHolds.tw1389890225120242688 : True := trivial
theorem Mine.lawHolds.tw11286569641186532548 : True := trivial
theorem Mine.lawHolds.tw9636410739787110936 : True := trivial
theorem Mine.lawHolds.tw5714383481375097760 : True := trivial
theorem Mine.lawHolds.tw5214733693457985553 : True := trivial
theorem Mine.lawHolds.tw12452549726696799763 : True := trivial
theorem Mine.lawHolds.tw6588187392155035924 : True := trivial
theorem Mine.lawHolds.tw6475945766917148357 : True := trivial
theorem Mine.lawHolds.tw1847143993813996135 : True := trivial
theorem Mine.lawHolds.tw1288950857558480805 : True := trivial
theorem Mine.lawHolds.tw5673135423593115604 : True := trivial
theorem Mine.lawHolds.tw6396015613186558673 : True := trivial
theorem Mine.lawHolds.tw16200809248249980634 : True := trivial
theorem Mine.lawHolds.tw13840856906001834719 : True := trivial
theorem Mine.lawHolds.tw992399571413898994 : True := trivial
theorem Mine.lawHolds.tw11855056700029018520 : True := trivial
theorem Mine.lawHolds.tw3169558264262849432 : True := trivial
theorem Mine.lawHolds.tw8470703065502721799 : True := trivial
theorem Mine.lawHolds.tw16565851554199427949 : True := trivial
theorem Mine.lawHolds.tw8635405525912829849 : True := trivial
theorem Mine.lawHolds.tw3637841655431267650 : True := trivial
theorem Mine.lawHolds.tw17364151365788647979 : True := trivial
theorem Mine.lawHolds.tw2642276511460418935 : True := trivial
theorem Mine.lawHolds.tw2634574677020919355 : True := trivial
theorem Mine.lawHolds.tw15452897907756596732 : True := trivial
theorem Mine.lawHolds.tw10674258871637124325 : True := trivial
theorem Mine.lawHolds.tw17589912984515229558 : True := trivial
theorem Mine.lawHolds.tw11401206361713311636 : True := trivial
theorem Mine.lawHolds.tw15170567174822292644 : True := trivial
theorem Mine.lawHolds.tw14169581548496675704 : True := trivial
theorem Mine.lawHolds.tw10702973646051109030 : True := trivial
theorem Mine.lawHolds.tw4724815772057581563 : True := trivial
theorem Mine.lawHolds.tw1166923321661856452 : True := trivial
theorem Mine.lawHolds.tw3914393589790123456 : True := trivial
theorem Mine.lawHolds.tw1519626039851616585 : True := trivial
theorem Mine.lawHolds.tw3532820284446226463 : True := trivial
theorem Mine.lawHolds.tw1163778115636600934 : True := trivial
theorem Mine.lawHolds.tw10757332956620018249 : True := trivial
theorem Mine.lawHolds.tw1210873370998135322 : True := trivial
theorem Mine.lawHolds.tw9532874264152699706 : True := trivial
theorem Mine.lawHolds.tw5307180518567549534 : True := trivial
theorem Mine.lawHolds.tw4421028624267391425 : True := trivial
theorem Mine.lawHolds.tw2837516917569775788 : True := trivial
theorem Mine.lawHolds.tw14828976023315490844 : True := trivial
theorem Mine.lawHolds.tw12165368682291100792 : True := trivial
theorem Mine.lawHolds.tw1202973180103857697 : True := trivial
theorem Mine.lawHolds.tw13939414621889822093 : True := trivial
theorem Mine.lawHolds.tw1701145447510517580 : True := trivial
theorem Mine.lawHolds.tw11012980690959521352 : True := trivial
theorem Mine.lawHolds.tw5016398797752449778 : True := trivial
theorem Mine.lawHolds.tw10446580897743013528 : True := trivial
theorem Mine.lawHolds.tw17158219528577364732 : True := trivial
theorem Mine.lawHolds.tw11361008651785489874 : True := trivial
theorem Mine.lawHolds.tw5904015196052776748 : True := trivial
theorem Mine.lawHolds.tw9289290636467773060 : True := trivial
theorem Mine.lawHolds.tw15386160307489303322 : True := trivial
theorem Mine.lawHolds.tw10159397750254150162 : True := trivial
theorem Mine.lawHolds.tw8294996434564786030 : True := trivial
theorem Mine.lawHolds.tw9524469300729944128 : True := trivial
theorem Mine.lawHolds.tw10751918436790075522 : True := trivial
theorem Mine.lawHolds.tw3261842708907070287 : True := trivial
theorem Mine.lawHolds.tw3123689554856371746 : True := trivial
theorem Mine.lawHolds.tw586064932645470402 : True := trivial
theorem Mine.lawHolds.tw9655276331088628936 : True := trivial
theorem Mine.lawHolds.tw13633261648534416271 : True := trivial
theorem Mine.lawHolds.tw1741126660626255835 : True := trivial
theorem Mine.lawHolds.tw1296567251136769805 : True := trivial
theorem Mine.lawHolds.tw13563648784786405066 : True := trivial
theorem Mine.lawHolds.tw18218144802194678658 : True := trivial
theorem Mine.lawHolds.tw1396987028808959685 : True := trivial
theorem Mine.lawHolds.tw10045976508395814260 : True := trivial
theorem Mine.lawHolds.tw14902831790490285445 : True := trivial
theorem Mine.lawHolds.tw10999492171845829354 : True := trivial
theorem Mine.lawHolds.tw332735085554083763 : True := trivial
theorem Mine.lawHolds.tw7922394339439834845 : True := trivial
theorem Mine.lawHolds.tw10611829540572323192 : True := trivial
theorem Mine.lawHolds.tw4468359319517578778 : True := trivial
theorem Mine.lawHolds.tw4111473007994156206 : True := trivial
theorem Mine.lawHolds.tw440269824795220561 : True := trivial
theorem Mine.lawHolds.tw4595689478707478809 : True := trivial
theorem Mine.lawHolds.tw14814397296582178736 : True := trivial
theorem Mine.lawHolds.tw6063620317820957062 : True := trivial
theorem Mine.lawHolds.tw5223789774631388323 : True := trivial
theorem Mine.lawHolds.tw7119685199388839426 : True := trivial
theorem Mine.lawHolds.tw13027661480451219104 : True := trivial
theorem Mine.lawHolds.tw18190993152682371071 : True := trivial
theorem Mine.lawHolds.tw13425015272207738289 : True := trivial
theorem Mine.lawHolds.tw1285630163551699949 : True := trivial
theorem Mine.lawHolds.tw15895845662560036050 : True := trivial
theorem Mine.lawHolds.tw14855721726976583055 : True := trivial
theorem Mine.lawHolds.tw15109418182643169098 : True := trivial
theorem Mine.lawHolds.tw2191908519596082331 : True := trivial
theorem Mine.lawHolds.tw8739840357984326361 : True := trivial
theorem Mine.lawHolds.tw18104825619012235734 : True := trivial
theorem Mine.lawHolds.tw5630347169313641817 : True := trivial
theorem Mine.lawHolds.tw3355673677005061830 : True := trivial
theorem Mine.lawHolds.tw15789751061376587984 : True := trivial
theorem Mine.lawHolds.tw5465078357802059434 : True := trivial
theorem Mine.lawHolds.tw13769711158922047538 : True := trivial
theorem Mine.lawHolds.tw5932720620152349821 : True := trivial
theorem Mine.lawHolds.tw1248659362391353773 : True := trivial
theorem Mine.lawHolds.tw15999197964012617568 : True := trivial
theorem Mine.lawHolds.tw8524200227596350569 : True := trivial
theorem Mine.lawHolds.tw11162709467407541614 : True := trivial
theorem Mine.lawHolds.tw11499527128048463384 : True := trivial
theorem Mine.lawHolds.tw5439586383675787047 : True := trivial
theorem Mine.lawHolds.tw6930783358584273977 : True := trivial
theorem Mine.lawHolds.tw903516755498272536 : True := trivial
theorem Mine.lawHolds.tw17008621926935240619 : True := trivial
theorem Mine.lawHolds.tw10976628312320739257 : True := trivial
theorem Mine.lawHolds.tw5580574037836661133 : True := trivial
theorem Mine.lawHolds.tw659696766321238860 : True := trivial
theorem Mine.lawHolds.tw12919768346740922443 : True := trivial
theorem Mine.lawHolds.tw2944765700240740883 : True := trivial
theorem Mine.lawHolds.tw14429760272394800101 : True := trivial
theorem Mine.lawHolds.tw3756363980185842457 : True := trivial
theorem Mine.lawHolds.tw11677830756506238926 : True := trivial
theorem Mine.lawHolds.tw17560414665476185175 : True := trivial
theorem Mine.lawHolds.tw9395144420688276382 : True := trivial
theorem Mine.lawHolds.tw17228224196769487893 : True := trivial
theorem Mine.lawHolds.tw17239853734792970644 : True := trivial
theorem Mine.lawHolds.tw5008685021044048740 : True := trivial
theorem Mine.lawHolds.tw6310915082750744068 : True := trivial
theorem Mine.lawHolds.tw7416416406950073684 : True := trivial
theorem Mine.lawHolds.tw3637010290639275448 : True := trivial
theorem Mine.lawHolds.tw262923404648572087 : True := trivial
theorem Mine.lawHolds.tw9162846485273397793 : True := trivial
theorem Mine.lawHolds.tw2247748445902420966 : True := trivial
theorem Mine.lawHolds.tw9346572890224329285 : True := trivial
theorem Mine.lawHolds.tw11661311143628436962 : True := trivial
theorem Mine.lawHolds.tw17651415235555434796 : True := trivial
theorem Mine.lawHolds.tw9007502241012088981 : True := trivial
theorem Mine.lawHolds.tw18039770172128503968 : True := trivial
theorem Mine.lawHolds.tw8420858793158345213 : True := trivial
theorem Mine.lawHolds.tw13217525660246644701 : True := trivial
theorem Mine.lawHolds.tw11321087060654739936 : True := trivial
theorem Mine.lawHolds.tw16478058844067860742 : True := trivial
theorem Mine.lawHolds.tw12559437519907071309 : True := trivial
theorem Mine.lawHolds.tw13726489273015206371 : True := trivial
theorem Mine.lawHolds.tw16058766677582030445 : True := trivial
theorem Mine.lawHolds.tw9065714987313854307 : True := trivial
theorem Mine.lawHolds.tw3588157374602766090 : True := trivial
theorem Mine.lawHolds.tw141227338059101315 : True := trivial
theorem Mine.lawHolds.tw6498975930567638917 : True := trivial
theorem Mine.lawHolds.tw1465735939982392257 : True := trivial
theorem Mine.lawHolds.tw4773028952483012658 : True := trivial
theorem Mine.lawHolds.tw15038134206158429458 : True := trivial
theorem Mine.lawHolds.tw8325896999246397272 : True := trivial
theorem Mine.lawHolds.tw3598161929953984008 : True := trivial
theorem Mine.lawHolds.tw596350212625556361 : True := trivial
theorem Mine.lawHolds.tw4464722098474063181 : True := trivial
theorem Mine.lawHolds.tw17869047622308319719 : True := trivial
theorem Mine.lawHolds.tw4064403924327128132 : True := trivial
theorem Mine.lawHolds.tw14366699701882122268 : True := trivial
theorem Mine.lawHolds.tw14526014285230564807 : True := trivial
theorem Mine.lawHolds.tw2138206308499306919 : True := trivial
theorem Mine.lawHolds.tw14587561702448316521 : True := trivial
theorem Mine.lawHolds.tw407654796216284588 : True := trivial
theorem Mine.lawHolds.tw16623477201729975208 : True := trivial
theorem Mine.lawHolds.tw7189549966967337132 : True := trivial
theorem Mine.lawHolds.tw2708177673421078854 : True := trivial
theorem Mine.lawHolds.tw7446824027531778903 : True := trivial
theorem Mine.lawHolds.tw10497804755396048939 : True := trivial
theorem Mine.lawHolds.tw11807112534291930299 : True := trivial
theorem Mine.lawHolds.tw13495129144543548329 : True := trivial
theorem Mine.lawHolds.tw4611873978713810806 : True := trivial
theorem Mine.lawHolds.tw12945691150406036204 : True := trivial
theorem Mine.lawHolds.tw3852271259122775946 : True := trivial
theorem Mine.lawHolds.tw10022978305552457045 : True := trivial
theorem Mine.lawHolds.tw3180515735076530079 : True := trivial
theorem Mine.lawHolds.tw4676401652833183323 : True := trivial
theorem Mine.lawHolds.tw3572795151860548415 : True := trivial
theorem Mine.lawHolds.tw16997249077756042449 : True := trivial
theorem Mine.lawHolds.tw10337446686010221854 : True := trivial
theorem Mine.lawHolds.tw15880770372919559730 : True := trivial
theorem Mine.lawHolds.tw12227780701719239143 : True := trivial
theorem Mine.lawHolds.tw2653337242835965545 : True := trivial
theorem Mine.lawHolds.tw9709167614244156845 : True := trivial
theorem Mine.lawHolds.tw10310332730899440578 : True := trivial
theorem Mine.lawHolds.tw4072510321901954170 : True := trivial
theorem Mine.lawHolds.tw16293750736075905351 : True := trivial
theorem Mine.lawHolds.tw17419702141185027542 : True := trivial
theorem Mine.lawHolds.tw11935314575356715528 : True := trivial
theorem Mine.lawHolds.tw9918607345445007034 : True := trivial
theorem Mine.lawHolds.tw2430861057057842109 : True := trivial
theorem Mine.lawHolds.tw11114643634568550402 : True := trivial
theorem Mine.lawHolds.tw17604761562026080817 : True := trivial
theorem Mine.lawHolds.tw3413037114686976670 : True := trivial
theorem Mine.lawHolds.tw12014831725392363259 : True := trivial
theorem Mine.lawHolds.tw5585314762885349284 : True := trivial
theorem Mine.lawHolds.tw1011907706208467000 : True := trivial
theorem Mine.lawHolds.tw1992307495327620851 : True := trivial
theorem Mine.lawHolds.tw8639776444489053187 : True := trivial
theorem Mine.lawHolds.tw13486751787860296812 : True := trivial
theorem Mine.lawHolds.tw395528380123962682 : True := trivial
theorem Mine.lawHolds.tw3880541629958556351 : True := trivial
theorem Mine.lawHolds.tw17334529259489734878 : True := trivial
theorem Mine.lawHolds.tw5563048015745272656 : True := trivial
theorem Mine.lawHolds.tw2637191022622416765 : True := trivial
theorem Mine.lawHolds.tw3602210636305343367 : True := trivial
theorem Mine.lawHolds.tw3311842623234044435 : True := trivial
theorem Mine.lawHolds.tw15507408260894721814 : True := trivial
theorem Mine.lawHolds.tw14642749698403658614 : True := trivial
theorem Mine.lawHolds.tw2226190444173641112 : True := trivial
theorem Mine.lawHolds.tw6445341299389973283 : True := trivial
theorem Mine.lawHolds.tw8538037085641586534 : True := trivial
theorem Mine.lawHolds.tw11750841080815851075 : True := trivial
theorem Mine.lawHolds.tw18084327438955257843 : True := trivial
theorem Mine.lawHolds.tw11374490706270149671 : True := trivial
theorem Mine.lawHolds.tw14251015117314696109 : True := trivial
theorem Mine.lawHolds.tw3116509313300833403 : True := trivial
theorem Mine.lawHolds.tw1226451042460341803 : True := trivial
theorem Mine.lawHolds.tw15118366182893818263 : True := trivial
theorem Mine.lawHolds.tw6583451855833594685 : True := trivial
theorem Mine.lawHolds.tw17595787006326602922 : True := trivial
theorem Mine.lawHolds.tw12936212861783603370 : True := trivial
theorem Mine.lawHolds.tw7968963395824195574 : True := trivial
theorem Mine.lawHolds.tw1890550494776388061 : True := trivial
theorem Mine.lawHolds.tw1294342214741991093 : True := trivial
theorem Mine.lawHolds.tw16277538127633489821 : True := trivial
theorem Mine.lawHolds.tw17036543210784619270 : True := trivial
theorem Mine.lawHolds.tw10669693202474890524 : True := trivial
theorem Mine.lawHolds.tw18078851465878842995 : True := trivial
theorem Mine.lawHolds.tw8601043880517050462 : True := trivial
theorem Mine.lawHolds.tw17446407218557809254 : True := trivial
theorem Mine.lawHolds.tw4733184547544541728 : True := trivial
theorem Mine.lawHolds.tw9792152783756294370 : True := trivial
theorem Mine.lawHolds.tw9048834943769104020 : True := trivial
theorem Mine.lawHolds.tw14254720530603766255 : True := trivial
theorem Mine.lawHolds.tw1177579240407977360 : True := trivial
theorem Mine.lawHolds.tw13803309771747378878 : True := trivial
theorem Mine.lawHolds.tw6742055492665967318 : True := trivial
theorem Mine.lawHolds.tw13366498005504714762 : True := trivial
theorem Mine.lawHolds.tw7507305487222791783 : True := trivial
theorem Mine.lawHolds.tw16692006998965372301 : True := trivial
theorem Mine.lawHolds.tw3287449812736342856 : True := trivial
theorem Mine.lawHolds.tw14890888886800858814 : True := trivial
theorem Mine.lawHolds.tw17424431843016012596 : True := trivial
theorem Mine.lawHolds.tw242192112293786444 : True := trivial
theorem Mine.lawHolds.tw17203406601901741391 : True := trivial
theorem Mine.lawHolds.tw8761839726900397742 : True := trivial
theorem Mine.lawHolds.tw8605472609100793670 : True := trivial
theorem Mine.lawHolds.tw12712359113470908367 : True := trivial
theorem Mine.lawHolds.tw12326487394319106262 : True := trivial
theorem Mine.lawHolds.tw2288579649854714512 : True := trivial
theorem Mine.lawHolds.tw3194598504669792467 : True := trivial
theorem Mine.lawHolds.tw16460434900196327616 : True := trivial
theorem Mine.lawHolds.tw7365803931002465801 : True := trivial
theorem Mine.lawHolds.tw6023448283834475744 : True := trivial
theorem Mine.lawHolds.tw5590986247842298688 : True := trivial
theorem Mine.lawHolds.tw7841063685184887067 : True := trivial
theorem Mine.lawHolds.tw5125550640298559831 : True := trivial
theorem Mine.lawHolds.tw11254944953999046886 : True := trivial
theorem Mine.lawHolds.tw18222838006616053109 : True := trivial
theorem Mine.lawHolds.tw15550668265396116731 : True := trivial
theorem Mine.lawHolds.tw17296763451093740374 : True := trivial
theorem Mine.lawHolds.tw1870287888146431688 : True := trivial
theorem Mine.lawHolds.tw7551872747549563295 : True := trivial
theorem Mine.lawHolds.tw4419678155178675442 : True := trivial
theorem Mine.lawHolds.tw2739435260058153647 : True := trivial
theorem Mine.lawHolds.tw8017020109530802861 : True := trivial
theorem Mine.lawHolds.tw4673197528605813815 : True := trivial
theorem Mine.lawHolds.tw11581944433897537492 : True := trivial
theorem Mine.lawHolds.tw15662776448737994861 : True := trivial
theorem Mine.lawHolds.tw9859250757214667984 : True := trivial
theorem Mine.lawHolds.tw4611134039032216890 : True := trivial
theorem Mine.lawHolds.tw3752186749572482710 : True := trivial
theorem Mine.lawHolds.tw3634209878002482446 : True := trivial
theorem Mine.lawHolds.tw15022024570251402311 : True := trivial
theorem Mine.lawHolds.tw10471072570836640769 : True := trivial
theorem Mine.lawHolds.tw12032935726658153484 : True := trivial
theorem Mine.lawHolds.tw8370488850108154251 : True := trivial
theorem Mine.lawHolds.tw5270458295528116250 : True := trivial
theorem Mine.lawHolds.tw15395818900337266620 : True := trivial
theorem Mine.lawHolds.tw17647708487104917502 : True := trivial
theorem Mine.lawHolds.tw8567030764807316017 : True := trivial
theorem Mine.lawHolds.tw13722553036234450646 : True := trivial
theorem Mine.lawHolds.tw3247252154699956651 : True := trivial
theorem Mine.lawHolds.tw9105579546786364489 : True := trivial
theorem Mine.lawHolds.tw2946225821370571801 : True := trivial
theorem Mine.lawHolds.tw8623261926459847089 : True := trivial
theorem Mine.lawHolds.tw9661198732295610740 : True := trivial
theorem Mine.lawHolds.tw3163719015891933120 : True := trivial
theorem Mine.lawHolds.tw17091481485315839810 : True := trivial
theorem Mine.lawHolds.tw127953529717313523 : True := trivial
theorem Mine.lawHolds.tw6874388646040631030 : True := trivial
theorem Mine.lawHolds.tw13792905565222369647 : True := trivial
theorem Mine.lawHolds.tw4955144993231922034 : True := trivial
theorem Mine.lawHolds.tw16275625584512999534 : True := trivial
theorem Mine.lawHolds.tw4978332568933614906 : True := trivial
theorem Mine.lawHolds.tw2755850803486537983 : True := trivial
theorem Mine.lawHolds.tw10597445197756204240 : True := trivial
theorem Mine.lawHolds.tw5487857764558782471 : True := trivial
theorem Mine.lawHolds.tw16577391070992664825 : True := trivial
theorem Mine.lawHolds.tw5749261128147222699 : True := trivial
theorem Mine.lawHolds.tw6371458011197175776 : True := trivial
theorem Mine.lawHolds.tw4721250828259909116 : True := trivial
theorem Mine.lawHolds.tw4726545217172927669 : True := trivial
theorem Mine.lawHolds.tw4494433567375845133 : True := trivial
theorem Mine.lawHolds.tw13394712804418799585 : True := trivial
theorem Mine.lawHolds.tw16595635683255713525 : True := trivial
theorem Mine.lawHolds.tw17422194714687902680 : True := trivial
theorem Mine.lawHolds.tw4857186502341491539 : True := trivial
theorem Mine.lawHolds.tw7860301052020535449 : True := trivial
theorem Mine.lawHolds.tw1583962219065343637 : True := trivial
theorem Mine.lawHolds.tw5002873841117687304 : True := trivial
theorem Mine.lawHolds.tw1113706997804897396 : True := trivial
theorem Mine.lawHolds.tw14032103085965382151 : True := trivial
theorem Mine.lawHolds.tw18298646123576901159 : True := trivial
theorem Mine.lawHolds.tw10211986436197080312 : True := trivial
theorem Mine.lawHolds.tw7693353532016128177 : True := trivial
theorem Mine.lawHolds.tw1663195105212635102 : True := trivial
theorem Mine.lawHolds.tw16152934397078690981 : True := trivial
theorem Mine.lawHolds.tw445763923880908018 : True := trivial
theorem Mine.lawHolds.tw9102431561704079865 : True := trivial
theorem Mine.lawHolds.tw16385764897620951191 : True := trivial
theorem Mine.lawHolds.tw9945708137217017771 : True := trivial
theorem Mine.lawHolds.tw10715421411674060062 : True := trivial
theorem Mine.lawHolds.tw7574337277831771794 : True := trivial
theorem Mine.lawHolds.tw17526420218258197617 : True := trivial
theorem Mine.lawHolds.tw14399219488408410024 : True := trivial
theorem Mine.lawHolds.tw7504605358836174681 : True := trivial
theorem Mine.lawHolds.tw13877487079784849455 : True := trivial
theorem Mine.lawHolds.tw2451497607809554788 : True := trivial
theorem Mine.lawHolds.tw9420109605173819167 : True := trivial
theorem Mine.lawHolds.tw7836042143961367026 : True := trivial
theorem Mine.lawHolds.tw3135351220038548185 : True := trivial
theorem Mine.lawHolds.tw8367959598924685259 : True := trivial
theorem Mine.lawHolds.tw17151552518046774517 : True := trivial
theorem Mine.lawHolds.tw13382790512985283661 : True := trivial
theorem Mine.lawHolds.tw13809275030695720502 : True := trivial
theorem Mine.lawHolds.tw17870741169011498860 : True := trivial
theorem Mine.lawHolds.tw13664615794248121137 : True := trivial
theorem Mine.lawHolds.tw17895568448403657290 : True := trivial
theorem Mine.lawHolds.tw7050297139939677798 : True := trivial
theorem Mine.lawHolds.tw7868193200324323248 : True := trivial
theorem Mine.lawHolds.tw7036679022739379206 : True := trivial
theorem Mine.lawHolds.tw4195226648961225024 : True := trivial
theorem Mine.lawHolds.tw7580800615363631950 : True := trivial
theorem Mine.lawHolds.tw16200055587799743288 : True := trivial
theorem Mine.lawHolds.tw12728697876575049967 : True := trivial
theorem Mine.lawHolds.tw844739783355299742 : True := trivial
theorem Mine.lawHolds.tw13023230821621730588 : True := trivial
theorem Mine.lawHolds.tw9116017953312925907 : True := trivial
theorem Mine.lawHolds.tw13528257585567898085 : True := trivial
theorem Mine.lawHolds.tw2846525142014471575 : True := trivial
theorem Mine.lawHolds.tw8098287573327822807 : True := trivial
theorem Mine.lawHolds.tw8157988157892583741 : True := trivial
theorem Mine.lawHolds.tw604375385042215496 : True := trivial
theorem Mine.lawHolds.tw4049892217471996204 : True := trivial
theorem Mine.lawHolds.tw8058813864760633717 : True := trivial
theorem Mine.lawHolds.tw6354298409873182916 : True := trivial
theorem Mine.lawHolds.tw8366731222481302009 : True := trivial
theorem Mine.lawHolds.tw9663903463812540394 : True := trivial
theorem Mine.lawHolds.tw2078918733467648082 : True := trivial
theorem Mine.lawHolds.tw8333580999917096264 : True := trivial
theorem Mine.lawHolds.tw14256668373557214972 : True := trivial
theorem Mine.lawHolds.tw3252510296300166841 : True := trivial
theorem Mine.lawHolds.tw677971970060191763 : True := trivial
theorem Mine.lawHolds.tw9638183707168078145 : True := trivial
theorem Mine.lawHolds.tw16067151875343318025 : True := trivial
theorem Mine.lawHolds.tw1774778788194547046 : True := trivial
theorem Mine.lawHolds.tw2365518286501153211 : True := trivial
theorem Mine.lawHolds.tw4116857649033975270 : True := trivial
theorem Mine.lawHolds.tw13833436037983205761 : True := trivial
theorem Mine.lawHolds.tw6574144700263007644 : True := trivial
theorem Mine.lawHolds.tw6435395667388533127 : True := trivial
theorem Mine.lawHolds.tw18328148178768520538 : True := trivial
theorem Mine.lawHolds.tw11623435997922273513 : True := trivial
theorem Mine.lawHolds.tw1698507871404727509 : True := trivial
theorem Mine.lawHolds.tw719023089591737748 : True := trivial
theorem Mine.lawHolds.tw15117299896207780731 : True := trivial
theorem Mine.lawHolds.tw5513344142347978846 : True := trivial
theorem Mine.lawHolds.tw5073330196632168973 : True := trivial
theorem Mine.lawHolds.tw2050039652823091432 : True := trivial
theorem Mine.lawHolds.tw14009193928328077023 : True := trivial
theorem Mine.lawHolds.tw14815762497171537694 : True := trivial
theorem Mine.lawHolds.tw9615580499149392833 : True := trivial
theorem Mine.lawHolds.tw3475668293939586677 : True := trivial
theorem Mine.lawHolds.tw3926314044091170095 : True := trivial
theorem Mine.lawHolds.tw2299141847710055997 : True := trivial
theorem Mine.lawHolds.tw17060805708621277269 : True := trivial
theorem Mine.lawHolds.tw4406520508273678567 : True := trivial
theorem Mine.lawHolds.tw18171066670470507413 : True := trivial
theorem Mine.lawHolds.tw4990206482714517268 : True := trivial
theorem Mine.lawHolds.tw6376502865197244975 : True := trivial
theorem Mine.lawHolds.tw3217456426658433542 : True := trivial
theorem Mine.lawHolds.tw7538679455712305746 : True := trivial
theorem Mine.lawHolds.tw13052079759369807025 : True := trivial
theorem Mine.lawHolds.tw7934578574848608283 : True := trivial
theorem Mine.lawHolds.tw3834210458235801854 : True := trivial
theorem Mine.lawHolds.tw5983006456753942950 : True := trivial
theorem Mine.lawHolds.tw1359408730584175180 : True := trivial
theorem Mine.lawHolds.tw4315119494519966980 : True := trivial
theorem Mine.lawHolds.tw7140557321282173083 : True := trivial
theorem Mine.lawHolds.tw7342614293262187551 : True := trivial
theorem Mine.lawHolds.tw16009363217762329337 : True := trivial
theorem Mine.lawHolds.tw172140700240088178 : True := trivial
theorem Mine.lawHolds.tw12169268904880719749 : True := trivial
theorem Mine.lawHolds.tw10710658035104492302 : True := trivial
theorem Mine.lawHolds.tw15443477494296432044 : True := trivial
theorem Mine.lawHolds.tw7703551188275463226 : True := trivial
theorem Mine.lawHolds.tw16812157303020360642 : True := trivial
theorem Mine.lawHolds.tw13325293634395265234 : True := trivial
theorem Mine.lawHolds.tw8881374375688362424 : True := trivial
theorem Mine.lawHolds.tw7178194429271852279 : True := trivial
theorem Mine.lawHolds.tw3305451327567497439 : True := trivial
theorem Mine.lawHolds.tw11313759890129209614 : True := trivial
theorem Mine.lawHolds.tw17433148226295597726 : True := trivial
theorem Mine.lawHolds.tw2384360421726558240 : True := trivial
theorem Mine.lawHolds.tw3412263394479092996 : True := trivial
theorem Mine.lawHolds.tw13688765416550172659 : True := trivial
theorem Mine.lawHolds.tw1800833068862452631 : True := trivial
theorem Mine.lawHolds.tw13991293106853159657 : True := trivial
theorem Mine.lawHolds.tw5504209571479634409 : True := trivial
theorem Mine.lawHolds.tw1101167162362308155 : True := trivial
theorem Mine.lawHolds.tw12298256790806396092 : True := trivial
theorem Mine.lawHolds.tw2427625443520961192 : True := trivial
theorem Mine.lawHolds.tw8281752824301238788 : True := trivial
theorem Mine.lawHolds.tw7551996822681911556 : True := trivial
theorem Mine.lawHolds.tw10376755003006007008 : True := trivial
theorem Mine.lawHolds.tw8244439903005048617 : True := trivial
theorem Mine.lawHolds.tw8110780145935733687 : True := trivial
theorem Mine.lawHolds.tw9735267165721938456 : True := trivial
theorem Mine.lawHolds.tw16616523997574535048 : True := trivial
theorem Mine.lawHolds.tw6901560120282677705 : True := trivial
theorem Mine.lawHolds.tw13207831340550069634 : True := trivial
theorem Mine.lawHolds.tw11246745737855305561 : True := trivial
theorem Mine.lawHolds.tw17744402950704462533 : True := trivial
theorem Mine.lawHolds.tw9445355795928038343 : True := trivial
theorem Mine.lawHolds.tw2635327354973999918 : True := trivial
theorem Mine.lawHolds.tw6565336072084473172 : True := trivial
theorem Mine.lawHolds.tw14646467329422549729 : True := trivial
theorem Mine.lawHolds.tw8435917221148597185 : True := trivial
theorem Mine.lawHolds.tw16388328795498033476 : True := trivial
theorem Mine.lawHolds.tw1558850885134837525 : True := trivial
theorem Mine.lawHolds.tw101407484810200188 : True := trivial
theorem Mine.lawHolds.tw5672430924931103804 : True := trivial
theorem Mine.lawHolds.tw9417808746411925641 : True := trivial
theorem Mine.lawHolds.tw7781333966895883482 : True := trivial
theorem Mine.lawHolds.tw671900897868030567 : True := trivial
theorem Mine.lawHolds.tw1325651888370052797 : True := trivial
theorem Mine.lawHolds.tw10460925096210628351 : True := trivial
theorem Mine.lawHolds.tw2102929927827109715 : True := trivial
theorem Mine.lawHolds.tw6224460402322421677 : True := trivial
theorem Mine.lawHolds.tw16026230636349915462 : True := trivial
theorem Mine.lawHolds.tw7515531718367324182 : True := trivial
theorem Mine.lawHolds.tw17502228387509424789 : True := trivial
theorem Mine.lawHolds.tw14949526093193273018 : True := trivial
theorem Mine.lawHolds.tw3822247502535090851 : True := trivial
theorem Mine.lawHolds.tw4161593573148441094 : True := trivial
theorem Mine.lawHolds.tw16295919985653198887 : True := trivial
theorem Mine.lawHolds.tw4805772212666179749 : True := trivial
theorem Mine.lawHolds.tw11325246555065653324 : True := trivial
theorem Mine.lawHolds.tw8538843744271940777 : True := trivial
theorem Mine.lawHolds.tw16647993681982932046 : True := trivial
theorem Mine.lawHolds.tw8326100677213738134 : True := trivial
theorem Mine.lawHolds.tw3975283237588669834 : True := trivial
theorem Mine.lawHolds.tw1024695985933025291 : True := trivial
theorem Mine.lawHolds.tw16224079836087932924 : True := trivial
theorem Mine.lawHolds.tw6550155964400169147 : True := trivial
theorem Mine.lawHolds.tw715845327407298143 : True := trivial
theorem Mine.lawHolds.tw12841455671391451738 : True := trivial
theorem Mine.lawHolds.tw9187338088182355911 : True := trivial
theorem Mine.lawHolds.tw15366591810469469102 : True := trivial
theorem Mine.lawHolds.tw8902828980907306716 : True := trivial
theorem Mine.lawHolds.tw105511644330755329 : True := trivial
theorem Mine.lawHolds.tw16541126046479861219 : True := trivial
theorem Mine.lawHolds.tw6527867432191686861 : True := trivial
theorem Mine.lawHolds.tw14866428637214443069 : True := trivial
theorem Mine.lawHolds.tw16864123647819589527 : True := trivial
theorem Mine.lawHolds.tw118032422091581974 : True := trivial
theorem Mine.lawHolds.tw13555425163328330551 : True := trivial
theorem Mine.lawHolds.tw10331905952928917552 : True := trivial
theorem Mine.lawHolds.tw12373432166763755103 : True := trivial
theorem Mine.lawHolds.tw11224717472111033922 : True := trivial
theorem Mine.lawHolds.tw15072378964374790205 : True := trivial
theorem Mine.lawHolds.tw15447331820125017591 : True := trivial
theorem Mine.lawHolds.tw5503151978380298883 : True := trivial
theorem Mine.lawHolds.tw10671956857296628792 : True := trivial
theorem Mine.lawHolds.tw10955401219707782244 : True := trivial
theorem Mine.lawHolds.tw4663521668124441818 : True := trivial
theorem Mine.lawHolds.tw14846392780157596235 : True := trivial
theorem Mine.lawHolds.tw11449883668510043487 : True := trivial
theorem Mine.lawHolds.tw6217372611078569590 : True := trivial
theorem Mine.lawHolds.tw10298581259486706689 : True := trivial
theorem Mine.lawHolds.tw8666570521186424098 : True := trivial
theorem Mine.lawHolds.tw4846589991514753269 : True := trivial
theorem Mine.lawHolds.tw1676732260234846714 : True := trivial
theorem Mine.lawHolds.tw10215138623110218867 : True := trivial
theorem Mine.lawHolds.tw10723585371420409313 : True := trivial
theorem Mine.lawHolds.tw18070558168957453464 : True := trivial
theorem Mine.lawHolds.tw2755837114573527513 : True := trivial
theorem Mine.lawHolds.tw12643277620133485939 : True := trivial
theorem Mine.lawHolds.tw18127792638661098734 : True := trivial
theorem Mine.lawHolds.tw8049904018762686114 : True := trivial
theorem Mine.lawHolds.tw7530486688110325682 : True := trivial
theorem Mine.lawHolds.tw10617645520176391790 : True := trivial
theorem Mine.lawHolds.tw2157500792381912750 : True := trivial
theorem Mine.lawHolds.tw12802625132861877471 : True := trivial
theorem Mine.lawHolds.tw16924364008596090557 : True := trivial
theorem Mine.lawHolds.tw6401060688219776283 : True := trivial
theorem Mine.lawHolds.tw7595615570933831076 : True := trivial
theorem Mine.lawHolds.tw17445885538011365339 : True := trivial
theorem Mine.lawHolds.tw4400921860036690334 : True := trivial
theorem Mine.lawHolds.tw11427397100584269841 : True := trivial
theorem Mine.lawHolds.tw9468924239219435357 : True := trivial
theorem Mine.lawHolds.tw881569819726273928 : True := trivial
theorem Mine.lawHolds.tw16046466434307189605 : True := trivial
theorem Mine.lawHolds.tw14759237334613791136 : True := trivial
theorem Mine.lawHolds.tw18293536323984603840 : True := trivial
theorem Mine.lawHolds.tw1236472534997602064 : True := trivial
theorem Mine.lawHolds.tw7977064314321275815 : True := trivial
theorem Mine.lawHolds.tw9733793880256717149 : True := trivial
theorem Mine.lawHolds.tw11264202526129036001 : True := trivial
theorem Mine.lawHolds.tw12046736148333317159 : True := trivial
theorem Mine.lawHolds.tw12635460931478589651 : True := trivial
theorem Mine.lawHolds.tw14747268761023953133 : True := trivial
theorem Mine.lawHolds.tw4243215762365925723 : True := trivial
theorem Mine.lawHolds.tw3334613535665373416 : True := trivial
theorem Mine.lawHolds.tw17723960925739431966 : True := trivial
theorem Mine.lawHolds.tw15516262859169064678 : True := trivial
theorem Mine.lawHolds.tw3194426339981079494 : True := trivial
theorem Mine.lawHolds.tw9482771728940141636 : True := trivial
theorem Mine.lawHolds.tw1251749451089930194 : True := trivial
theorem Mine.lawHolds.tw6490428023867494582 : True := trivial
theorem Mine.lawHolds.tw12328492304601250581 : True := trivial
theorem Mine.lawHolds.tw1307496244668474619 : True := trivial
theorem Mine.lawHolds.tw11794971962543732877 : True := trivial
theorem Mine.lawHolds.tw12253684028407448034 : True := trivial
theorem Mine.lawHolds.tw10943654634197271508 : True := trivial
theorem Mine.lawHolds.tw2263307576059615906 : True := trivial
theorem Mine.lawHolds.tw15891214329058018355 : True := trivial
theorem Mine.lawHolds.tw12121106426392972769 : True := trivial
theorem Mine.lawHolds.tw6062165498212075278 : True := trivial
theorem Mine.lawHolds.tw12698189742062615349 : True := trivial
theorem Mine.lawHolds.tw2635280815281168263 : True := trivial
theorem Mine.lawHolds.tw1501650844725871419 : True := trivial
theorem Mine.lawHolds.tw9748291975495895378 : True := trivial
theorem Mine.lawHolds.tw1501849589632963743 : True := trivial
theorem Mine.lawHolds.tw6630774491766970487 : True := trivial
theorem Mine.lawHolds.tw4899864755430053538 : True := trivial
theorem Mine.lawHolds.tw16043812043084730683 : True := trivial
theorem Mine.lawHolds.tw8180085042793932153 : True := trivial
theorem Mine.lawHolds.tw15931772871141473657 : True := trivial
theorem Mine.lawHolds.tw2145343817742747985 : True := trivial
theorem Mine.lawHolds.tw9476099366506396002 : True := trivial
theorem Mine.lawHolds.tw646661690921214871 : True := trivial
theorem Mine.lawHolds.tw16636918905323362660 : True := trivial
theorem Mine.lawHolds.tw18406429293930919069 : True := trivial
theorem Mine.lawHolds.tw17721127215601835296 : True := trivial
theorem Mine.lawHolds.tw11405147778020579804 : True := trivial
theorem Mine.lawHolds.tw10900218160454241926 : True := trivial
theorem Mine.lawHolds.tw14540309989440675602 : True := trivial
theorem Mine.lawHolds.tw7153358039465013590 : True := trivial
theorem Mine.lawHolds.tw3642522878094967269 : True := trivial
theorem Mine.lawHolds.tw11743529315396256266 : True := trivial
theorem Mine.lawHolds.tw16174305860060294043 : True := trivial
theorem Mine.lawHolds.tw17675716872571100513 : True := trivial
theorem Mine.lawHolds.tw1688303319428063338 : True := trivial
theorem Mine.lawHolds.tw12202251096301992303 : True := trivial
theorem Mine.lawHolds.tw17407162077772994353 : True := trivial
theorem Mine.lawHolds.tw9028421607878291538 : True := trivial
theorem Mine.lawHolds.tw9501594975054253729 : True := trivial
theorem Mine.lawHolds.tw14397383275898989705 : True := trivial
theorem Mine.lawHolds.tw101042929782265116 : True := trivial
theorem Mine.lawHolds.tw18044570831289588120 : True := trivial
theorem Mine.lawHolds.tw11321557211925468108 : True := trivial
theorem Mine.lawHolds.tw12041461683620360898 : True := trivial
theorem Mine.lawHolds.tw1610287914135036188 : True := trivial
theorem Mine.lawHolds.tw5601857740639059769 : True := trivial
theorem Mine.lawHolds.tw7744093180954331471 : True := trivial
theorem Mine.lawHolds.tw6494871092675325110 : True := trivial
theorem Mine.lawHolds.tw1174780799962466660 : True := trivial
theorem Mine.lawHolds.tw5272852164549184988 : True := trivial
theorem Mine.lawHolds.tw1791314036197683024 : True := trivial
theorem Mine.lawHolds.tw12171023967059845611 : True := trivial
theorem Mine.lawHolds.tw6909963581649414151 : True := trivial
theorem Mine.lawHolds.tw3235885682634081061 : True := trivial
theorem Mine.lawHolds.tw15171222839417480437 : True := trivial
theorem Mine.lawHolds.tw6559730509765490343 : True := trivial
theorem Mine.lawHolds.tw14530170597311920256 : True := trivial
theorem Mine.lawHolds.tw5106022706304337179 : True := trivial
theorem Mine.lawHolds.tw1262333261367628563 : True := trivial
theorem Mine.lawHolds.tw7046967529984525275 : True := trivial
theorem Mine.lawHolds.tw2931069817289998427 : True := trivial
theorem Mine.lawHolds.tw17187872049628704432 : True := trivial
theorem Mine.lawHolds.tw15635333539349541867 : True := trivial
theorem Mine.lawHolds.tw9304793310243041237 : True := trivial
theorem Mine.lawHolds.tw6741236018927899803 : True := trivial
theorem Mine.lawHolds.tw17284118686649346398 : True := trivial
theorem Mine.lawHolds.tw13344710838845066330 : True := trivial
theorem Mine.lawHolds.tw4908212359052240679 : True := trivial
theorem Mine.lawHolds.tw13455179073408090867 : True := trivial
theorem Mine.lawHolds.tw4264983027741879762 : True := trivial
theorem Mine.lawHolds.tw14801784367929809124 : True := trivial
theorem Mine.lawHolds.tw4376624427624063684 : True := trivial
theorem Mine.lawHolds.tw2356274990223321514 : True := trivial
theorem Mine.lawHolds.tw12635121919756197391 : True := trivial
theorem Mine.lawHolds.tw16260762690918158655 : True := trivial
theorem Mine.lawHolds.tw11953734197029022272 : True := trivial
theorem Mine.lawHolds.tw10913400283407298041 : True := trivial
theorem Mine.lawHolds.tw6646240985431083834 : True := trivial
theorem Mine.lawHolds.tw4969984526423693963 : True := trivial
theorem Mine.lawHolds.tw15729995833067672552 : True := trivial
theorem Mine.lawHolds.tw3039858884442408866 : True := trivial
theorem Mine.lawHolds.tw9455831622874098198 : True := trivial
theorem Mine.lawHolds.tw7049342109048110177 : True := trivial
theorem Mine.lawHolds.tw11760083585300991757 : True := trivial
theorem Mine.lawHolds.tw13530447754735385521 : True := trivial
theorem Mine.lawHolds.tw15911040789331239995 : True := trivial
theorem Mine.lawHolds.tw14677534544396586045 : True := trivial
theorem Mine.lawHolds.tw8011100337014426040 : True := trivial
theorem Mine.lawHolds.tw13459890531941391923 : True := trivial
theorem Mine.lawHolds.tw7544142772745892491 : True := trivial
theorem Mine.lawHolds.tw9028372442143608848 : True := trivial
theorem Mine.lawHolds.tw13137841524696507539 : True := trivial
theorem Mine.lawHolds.tw9465439744388808159 : True := trivial
theorem Mine.lawHolds.tw9686847635644252889 : True := trivial
theorem Mine.lawHolds.tw327936806318573906 : True := trivial
theorem Mine.lawHolds.tw17030293488989712302 : True := trivial
theorem Mine.lawHolds.tw11035316004531845746 : True := trivial
theorem Mine.lawHolds.tw7046911560366796491 : True := trivial
theorem Mine.lawHolds.tw13198916939198509267 : True := trivial
theorem Mine.lawHolds.tw13012741328672725484 : True := trivial
theorem Mine.lawHolds.tw7493001268532457766 : True := trivial
theorem Mine.lawHolds.tw5921678233386654230 : True := trivial
theorem Mine.lawHolds.tw5031834782716285181 : True := trivial
theorem Mine.lawHolds.tw6308517799558093457 : True := trivial
theorem Mine.lawHolds.tw16688271704839580297 : True := trivial
theorem Mine.lawHolds.tw1173073292354323929 : True := trivial
theorem Mine.lawHolds.tw15373667886020535125 : True := trivial
theorem Mine.lawHolds.tw4948283457881845054 : True := trivial
theorem Mine.lawHolds.tw3140866365374391202 : True := trivial
theorem Mine.lawHolds.tw137048946314213729 : True := trivial
theorem Mine.lawHolds.tw16317830083056080101 : True := trivial
theorem Mine.lawHolds.tw17451648815337118966 : True := trivial
theorem Mine.lawHolds.tw12350335658664348387 : True := trivial
theorem Mine.lawHolds.tw14579526681755360348 : True := trivial
theorem Mine.lawHolds.tw7082801340703064222 : True := trivial
theorem Mine.lawHolds.tw7053844659555247 : True := trivial
theorem Mine.lawHolds.tw11169611076991450289 : True := trivial
theorem Mine.lawHolds.tw17146841971321152579 : True := trivial
theorem Mine.lawHolds.tw12549102743252626842 : True := trivial
theorem Mine.lawHolds.tw15530408056276000268 : True := trivial
theorem Mine.lawHolds.tw13350882049471118244 : True := trivial
theorem Mine.lawHolds.tw6236216799575884058 : True := trivial
theorem Mine.lawHolds.tw5495004374604647093 : True := trivial
theorem Mine.lawHolds.tw13708166772024309165 : True := trivial
theorem Mine.lawHolds.tw2690152655675514035 : True := trivial
theorem Mine.lawHolds.tw14689450994646479327 : True := trivial
theorem Mine.lawHolds.tw1649561651523645033 : True := trivial
theorem Mine.lawHolds.tw5396283035522170243 : True := trivial
theorem Mine.lawHolds.tw14849385620200956407 : True := trivial
theorem Mine.lawHolds.tw16524295450612445630 : True := trivial
theorem Mine.lawHolds.tw15849368457697879154 : True := trivial
theorem Mine.lawHolds.tw17094443613529916561 : True := trivial
theorem Mine.lawHolds.tw1003369538939821306 : True := trivial
theorem Mine.lawHolds.tw16262700147768940537 : True := trivial
theorem Mine.lawHolds.tw2605305567707184202 : True := trivial
theorem Mine.lawHolds.tw4172713181304581875 : True := trivial
theorem Mine.lawHolds.tw747590909740191384 : True := trivial
theorem Mine.lawHolds.tw971880773408091284 : True := trivial
theorem Mine.lawHolds.tw8305148611603048144 : True := trivial
theorem Mine.lawHolds.tw14573056855207157895 : True := trivial
theorem Mine.lawHolds.tw6677654776511748751 : True := trivial
theorem Mine.lawHolds.tw7279779049501890453 : True := trivial
theorem Mine.lawHolds.tw14164603858169225317 : True := trivial
theorem Mine.lawHolds.tw14682547782902276336 : True := trivial
theorem Mine.lawHolds.tw12148159200005008489 : True := trivial
theorem Mine.lawHolds.tw11688987392458329515 : True := trivial
theorem Mine.lawHolds.tw12152424015303372484 : True := trivial
theorem Mine.lawHolds.tw15233589900398719375 : True := trivial
theorem Mine.lawHolds.tw14964265344837945729 : True := trivial
theorem Mine.lawHolds.tw693739700987029184 : True := trivial
theorem Mine.lawHolds.tw7158341500489983852 : True := trivial
theorem Mine.lawHolds.tw16798835930035548481 : True := trivial
theorem Mine.lawHolds.tw11177425062142725372 : True := trivial
theorem Mine.lawHolds.tw5895563994086620349 : True := trivial
theorem Mine.lawHolds.tw2250292742713132207 : True := trivial
theorem Mine.lawHolds.tw9260631335013180922 : True := trivial
theorem Mine.lawHolds.tw778533590612891875 : True := trivial
theorem Mine.lawHolds.tw8656152933638130522 : True := trivial
theorem Mine.lawHolds.tw9659343914660342128 : True := trivial
theorem Mine.lawHolds.tw4510051037407589929 : True := trivial
theorem Mine.lawHolds.tw2164744761308716364 : True := trivial
theorem Mine.lawHolds.tw13449660148585446 : True := trivial
theorem Mine.lawHolds.tw11764796877557647603 : True := trivial
theorem Mine.lawHolds.tw15066601833485512983 : True := trivial
theorem Mine.lawHolds.tw15121027670261283819 : True := trivial
theorem Mine.lawHolds.tw18430897512228065614 : True := trivial
theorem Mine.lawHolds.tw5183945875757670387 : True := trivial
theorem Mine.lawHolds.tw5604138956796335893 : True := trivial
theorem Mine.lawHolds.tw10954860747829245756 : True := trivial
theorem Mine.lawHolds.tw1403693950037956409 : True := trivial
theorem Mine.lawHolds.tw11978708454424185354 : True := trivial
theorem Mine.lawHolds.tw15768970986389964282 : True := trivial
theorem Mine.lawHolds.tw14645692348993050045 : True := trivial
theorem Mine.lawHolds.tw13283350904983792811 : True := trivial
theorem Mine.lawHolds.tw12520213715149620400 : True := trivial
theorem Mine.lawHolds.tw9494308548548846324 : True := trivial
theorem Mine.lawHolds.tw14630807685510602011 : True := trivial
theorem Mine.lawHolds.tw17264557270471352281 : True := trivial
theorem Mine.lawHolds.tw4318267065436456844 : True := trivial
theorem Mine.lawHolds.tw9411858217176549851 : True := trivial
theorem Mine.lawHolds.tw1876920450491534216 : True := trivial
theorem Mine.lawHolds.tw17345626336602730181 : True := trivial
theorem Mine.lawHolds.tw13716913745184822885 : True := trivial
theorem Mine.lawHolds.tw1121217495430481623 : True := trivial
theorem Mine.lawHolds.tw12056876409838540124 : True := trivial
theorem Mine.lawHolds.tw12103828361352309916 : True := trivial
theorem Mine.lawHolds.tw17654569961990066061 : True := trivial
theorem Mine.lawHolds.tw12163527273008613164 : True := trivial
theorem Mine.lawHolds.tw8626543353166804510 : True := trivial
theorem Mine.lawHolds.tw5711766747014583707 : True := trivial
theorem Mine.lawHolds.tw14725874868493252766 : True := trivial
theorem Mine.lawHolds.tw156939132597147728 : True := trivial
theorem Mine.lawHolds.tw7581409351864949248 : True := trivial
theorem Mine.lawHolds.tw4295107023272033877 : True := trivial
theorem Mine.lawHolds.tw13886167784599767569 : True := trivial
theorem Mine.lawHolds.tw12958971435380636629 : True := trivial
theorem Mine.lawHolds.tw12258276555676586201 : True := trivial
theorem Mine.lawHolds.tw16333813256709140924 : True := trivial
theorem Mine.lawHolds.tw12253371596582162310 : True := trivial
theorem Mine.lawHolds.tw17090295060099748799 : True := trivial
theorem Mine.lawHolds.tw9989241700928151007 : True := trivial
theorem Mine.lawHolds.tw5135667375999434562 : True := trivial
theorem Mine.lawHolds.tw15393990223010539123 : True := trivial
theorem Mine.lawHolds.tw1960358551191114894 : True := trivial
theorem Mine.lawHolds.tw9600047620912517460 : True := trivial
theorem Mine.lawHolds.tw9150181306064753837 : True := trivial
theorem Mine.lawHolds.tw15883580755888760705 : True := trivial
theorem Mine.lawHolds.tw7985415279652417339 : True := trivial
theorem Mine.lawHolds.tw17356472823857835519 : True := trivial
theorem Mine.lawHolds.tw10566463661621840072 : True := trivial
theorem Mine.lawHolds.tw9557685579086807104 : True := trivial
theorem Mine.lawHolds.tw13868492538310568013 : True := trivial
theorem Mine.lawHolds.tw1990478035360487037 : True := trivial
theorem Mine.lawHolds.tw14610728928762242833 : True := trivial
theorem Mine.lawHolds.tw12938048621966848210 : True := trivial
theorem Mine.lawHolds.tw7484663685075312927 : True := trivial
theorem Mine.lawHolds.tw14513579214677889203 : True := trivial
theorem Mine.lawHolds.tw6930392575408435177 : True := trivial
theorem Mine.lawHolds.tw5481211332595292438 : True := trivial
theorem Mine.lawHolds.tw10140223235281628393 : True := trivial
theorem Mine.lawHolds.tw11754409063615830507 : True := trivial
theorem Mine.lawHolds.tw17175037645193058359 : True := trivial
theorem Mine.lawHolds.tw4207826032137170934 : True := trivial
theorem Mine.lawHolds.tw15169716705095509033 : True := trivial
theorem Mine.lawHolds.tw7210104880809398824 : True := trivial
theorem Mine.lawHolds.tw10558517430387839137 : True := trivial
theorem Mine.lawHolds.tw14771602472758775449 : True := trivial
theorem Mine.lawHolds.tw2087283381856178396 : True := trivial
theorem Mine.lawHolds.tw10270207557369883150 : True := trivial
theorem Mine.lawHolds.tw18223368249036951832 : True := trivial
theorem Mine.lawHolds.tw17844983379286332075 : True := trivial
theorem Mine.lawHolds.tw13784917652829335335 : True := trivial
theorem Mine.lawHolds.tw8302674592780213243 : True := trivial
theorem Mine.lawHolds.tw5996737739260107998 : True := trivial
theorem Mine.lawHolds.tw6858971240383318243 : True := trivial
theorem Mine.lawHolds.tw739526456079951911 : True := trivial
theorem Mine.lawHolds.tw16601921678712766429 : True := trivial
theorem Mine.lawHolds.tw3960722566427647444 : True := trivial
theorem Mine.lawHolds.tw13044807399271993287 : True := trivial
theorem Mine.lawHolds.tw12925208273581815205 : True := trivial
theorem Mine.lawHolds.tw7771578701813076094 : True := trivial
theorem Mine.lawHolds.tw5485973568636059523 : True := trivial
theorem Mine.lawHolds.tw2338884502254493788 : True := trivial
theorem Mine.lawHolds.tw13113666977530434696 : True := trivial
theorem Mine.lawHolds.tw11052036603215251651 : True := trivial
theorem Mine.lawHolds.tw10532828189010334285 : True := trivial
theorem Mine.lawHolds.tw1856217208391648894 : True := trivial
theorem Mine.lawHolds.tw18402018296586528748 : True := trivial
theorem Mine.lawHolds.tw6312427445012111899 : True := trivial
theorem Mine.lawHolds.tw9390683681069185219 : True := trivial
theorem Mine.lawHolds.tw15311664174744631108 : True := trivial
theorem Mine.lawHolds.tw16671888654415866406 : True := trivial
theorem Mine.lawHolds.tw7399129902426691888 : True := trivial
theorem Mine.lawHolds.tw11633007763217400079 : True := trivial
theorem Mine.lawHolds.tw1651876368331911690 : True := trivial
theorem Mine.lawHolds.tw4710278592349140230 : True := trivial
theorem Mine.lawHolds.tw13608398598483625241 : True := trivial
theorem Mine.lawHolds.tw8589560391762723177 : True := trivial
theorem Mine.lawHolds.tw5557159705555529926 : True := trivial
theorem Mine.lawHolds.tw6828241840753689625 : True := trivial
theorem Mine.lawHolds.tw5164762503056540538 : True := trivial
theorem Mine.lawHolds.tw1728561792986413554 : True := trivial
theorem Mine.lawHolds.tw10667877857070135949 : True := trivial
theorem Mine.lawHolds.tw7041279492081161667 : True := trivial
theorem Mine.lawHolds.tw7247930447530906107 : True := trivial
theorem Mine.lawHolds.tw2068059933736582382 : True := trivial
theorem Mine.lawHolds.tw12595306852648208547 : True := trivial
theorem Mine.lawHolds.tw11428314831064381837 : True := trivial
theorem Mine.lawHolds.tw9710085716373670077 : True := trivial
theorem Mine.lawHolds.tw17944304758909676894 : True := trivial
theorem Mine.lawHolds.tw11692256335473606401 : True := trivial
theorem Mine.lawHolds.tw666513201001136644 : True := trivial
theorem Mine.lawHolds.tw2155375813143847471 : True := trivial
theorem Mine.lawHolds.tw16106028730535406235 : True := trivial
theorem Mine.lawHolds.tw15401035074127696952 : True := trivial
theorem Mine.lawHolds.tw4307382574723201877 : True := trivial
theorem Mine.lawHolds.tw248947007289466123 : True := trivial
theorem Mine.lawHolds.tw12444615326614622321 : True := trivial
theorem Mine.lawHolds.tw11750996069304062358 : True := trivial
theorem Mine.lawHolds.tw10098444072124018660 : True := trivial
theorem Mine.lawHolds.tw8840105831369312836 : True := trivial
theorem Mine.lawHolds.tw4154267462744073340 : True := trivial
theorem Mine.lawHolds.tw17523590318699855756 : True := trivial
theorem Mine.lawHolds.tw17201449500467843874 : True := trivial
theorem Mine.lawHolds.tw17050715402854815582 : True := trivial
theorem Mine.lawHolds.tw9320046167365767895 : True := trivial
theorem Mine.lawHolds.tw17624318008194749677 : True := trivial
theorem Mine.lawHolds.tw14797516394801910970 : True := trivial
theorem Mine.lawHolds.tw5377880312190206789 : True := trivial
theorem Mine.lawHolds.tw6046783281403415451 : True := trivial
theorem Mine.lawHolds.tw8592521842968114734 : True := trivial
theorem Mine.lawHolds.tw16106363091699654380 : True := trivial
theorem Mine.lawHolds.tw8058491926730698262 : True := trivial
theorem Mine.lawHolds.tw3681354169352253368 : True := trivial
theorem Mine.lawHolds.tw15430411776420900259 : True := trivial
theorem Mine.lawHolds.tw12041208249679305587 : True := trivial
theorem Mine.lawHolds.tw1390067869369842757 : True := trivial
theorem Mine.lawHolds.tw15883119703869218926 : True := trivial
theorem Mine.lawHolds.tw8536161536905886557 : True := trivial
theorem Mine.lawHolds.tw7554267893091242821 : True := trivial
theorem Mine.lawHolds.tw3252997102859381393 : True := trivial
theorem Mine.lawHolds.tw14218320073917127068 : True := trivial
theorem Mine.lawHolds.tw2451507853260728502 : True := trivial
theorem Mine.lawHolds.tw14244753847301327655 : True := trivial
theorem Mine.lawHolds.tw6730494381730267175 : True := trivial
theorem Mine.lawHolds.tw11155458272625340478 : True := trivial
theorem Mine.lawHolds.tw14307862790022771727 : True := trivial
theorem Mine.lawHolds.tw10364713031536537425 : True := trivial
theorem Mine.lawHolds.tw13998495800765090396 : True := trivial
theorem Mine.lawHolds.tw15512413226860303407 : True := trivial
theorem Mine.lawHolds.tw16296522589343124516 : True := trivial
theorem Mine.lawHolds.tw15709891234946074470 : True := trivial
theorem Mine.lawHolds.tw12691774690771737943 : True := trivial
theorem Mine.lawHolds.tw1591661626949898649 : True := trivial
theorem Mine.lawHolds.tw12320522143789487545 : True := trivial
theorem Mine.lawHolds.tw16930722725952725431 : True := trivial
theorem Mine.lawHolds.tw5081610848315399456 : True := trivial
theorem Mine.lawHolds.tw6359560156755675559 : True := trivial
theorem Mine.lawHolds.tw8476899061887739858 : True := trivial
theorem Mine.lawHolds.tw10236290515655071140 : True := trivial
theorem Mine.lawHolds.tw1138300903709027498 : True := trivial
theorem Mine.lawHolds.tw6432832113209194250 : True := trivial
theorem Mine.lawHolds.tw12196987385217138804 : True := trivial
theorem Mine.lawHolds.tw17886102938929555698 : True := trivial
theorem Mine.lawHolds.tw5415653204764548875 : True := trivial
theorem Mine.lawHolds.tw817728242542457244 : True := trivial
theorem Mine.lawHolds.tw14585516447655534046 : True := trivial
theorem Mine.lawHolds.tw14325344034579562669 : True := trivial
theorem Mine.lawHolds.tw4681776010031831119 : True := trivial
theorem Mine.lawHolds.tw14266237044000226517 : True := trivial
theorem Mine.lawHolds.tw4896741454349307900 : True := trivial
theorem Mine.lawHolds.tw16480362296890220781 : True := trivial
theorem Mine.lawHolds.tw6440481634015813535 : True := trivial
theorem Mine.lawHolds.tw6554995334321664727 : True := trivial
theorem Mine.lawHolds.tw13496819810554971011 : True := trivial
theorem Mine.lawHolds.tw4809888811804126414 : True := trivial
theorem Mine.lawHolds.tw2843006750837683192 : True := trivial
theorem Mine.lawHolds.tw5160337627338513929 : True := trivial
theorem Mine.lawHolds.tw12116182605153710753 : True := trivial
theorem Mine.lawHolds.tw15872906522885752097 : True := trivial
theorem Mine.lawHolds.tw4676195427672922332 : True := trivial
theorem Mine.lawHolds.tw15037523306401281884 : True := trivial
theorem Mine.lawHolds.tw11135874058820412321 : True := trivial
theorem Mine.lawHolds.tw12729941433993005602 : True := trivial
theorem Mine.lawHolds.tw10766013345389640984 : True := trivial
theorem Mine.lawHolds.tw9086698511552917209 : True := trivial
theorem Mine.lawHolds.tw2404443491387104568 : True := trivial
theorem Mine.lawHolds.tw12880386133195765167 : True := trivial
theorem Mine.lawHolds.tw13422312383566877893 : True := trivial
theorem Mine.lawHolds.tw16667297584554886644 : True := trivial
theorem Mine.lawHolds.tw12212205805428291602 : True := trivial
theorem Mine.lawHolds.tw15441962609863957439 : True := trivial
theorem Mine.lawHolds.tw5970988661226320418 : True := trivial
theorem Mine.lawHolds.tw16336977522758262463 : True := trivial
theorem Mine.lawHolds.tw13203255316828626768 : True := trivial
theorem Mine.lawHolds.tw8173001079310430767 : True := trivial
theorem Mine.lawHolds.tw1329189682662139594 : True := trivial
theorem Mine.lawHolds.tw10280339075442364173 : True := trivial
theorem Mine.lawHolds.tw10588981658721620342 : True := trivial
theorem Mine.lawHolds.tw17084865777517120780 : True := trivial
theorem Mine.lawHolds.tw980742904719478049 : True := trivial
theorem Mine.lawHolds.tw5847196711406598206 : True := trivial
theorem Mine.lawHolds.tw10246820333079797157 : True := trivial
theorem Mine.lawHolds.tw14308130403969322954 : True := trivial
theorem Mine.lawHolds.tw10203335436535370567 : True := trivial
theorem Mine.lawHolds.tw14983406843366676632 : True := trivial
theorem Mine.lawHolds.tw15392966550504779931 : True := trivial
theorem Mine.lawHolds.tw11364023167072604600 : True := trivial
theorem Mine.lawHolds.tw5399073139406827149 : True := trivial
theorem Mine.lawHolds.tw16577339528313701705 : True := trivial
theorem Mine.lawHolds.tw1285707462182652650 : True := trivial
theorem Mine.lawHolds.tw4792415375466216348 : True := trivial
theorem Mine.lawHolds.tw100969608070874225 : True := trivial
theorem Mine.lawHolds.tw6918025661064069090 : True := trivial
theorem Mine.lawHolds.tw3586809330403706880 : True := trivial
theorem Mine.lawHolds.tw10575589989905945832 : True := trivial
theorem Mine.lawHolds.tw16528690711728572638 : True := trivial
theorem Mine.lawHolds.tw11399849774326780398 : True := trivial
theorem Mine.lawHolds.tw13889797603816058065 : True := trivial
theorem Mine.lawHolds.tw5895591862756007714 : True := trivial
theorem Mine.lawHolds.tw11117247660969035481 : True := trivial
theorem Mine.lawHolds.tw10274178020094991152 : True := trivial
theorem Mine.lawHolds.tw16929233701156423424 : True := trivial
theorem Mine.lawHolds.tw7713457254655875588 : True := trivial
theorem Mine.lawHolds.tw7677877321408151133 : True := trivial
theorem Mine.lawHolds.tw7278467545449677844 : True := trivial
theorem Mine.lawHolds.tw14622603513971038763 : True := trivial
theorem Mine.lawHolds.tw2924559774839825164 : True := trivial
theorem Mine.lawHolds.tw17769680449763835443 : True := trivial
theorem Mine.lawHolds.tw2724544849745346845 : True := trivial
theorem Mine.lawHolds.tw16253166767886777315 : True := trivial
theorem Mine.lawHolds.tw2708389080113931554 : True := trivial
theorem Mine.lawHolds.tw5856011708027429354 : True := trivial
theorem Mine.lawHolds.tw2943264305855937816 : True := trivial
theorem Mine.lawHolds.tw12353533443022720312 : True := trivial
theorem Mine.lawHolds.tw1187387937330527520 : True := trivial
theorem Mine.lawHolds.tw5457773619576521662 : True := trivial
theorem Mine.lawHolds.tw11083689407310352245 : True := trivial
theorem Mine.lawHolds.tw17834069005856806697 : True := trivial
theorem Mine.lawHolds.tw15791059709624609551 : True := trivial
theorem Mine.lawHolds.tw8000131237506088433 : True := trivial
theorem Mine.lawHolds.tw9059761955923139772 : True := trivial
theorem Mine.lawHolds.tw14250099243618315366 : True := trivial
theorem Mine.lawHolds.tw2717750270558757510 : True := trivial
theorem Mine.lawHolds.tw1089386712510223824 : True := trivial
theorem Mine.lawHolds.tw18109686314810642281 : True := trivial
theorem Mine.lawHolds.tw7523856495823893884 : True := trivial
theorem Mine.lawHolds.tw15191300227180595991 : True := trivial
theorem Mine.lawHolds.tw17521427718096737352 : True := trivial
theorem Mine.lawHolds.tw17837579484635040886 : True := trivial
theorem Mine.lawHolds.tw1263701558140664494 : True := trivial
theorem Mine.lawHolds.tw13199586724181012647 : True := trivial
theorem Mine.lawHolds.tw14695976225753816150 : True := trivial
theorem Mine.lawHolds.tw3127349941569756415 : True := trivial
theorem Mine.lawHolds.tw18397673198314501336 : True := trivial
theorem Mine.lawHolds.tw4824756377428363437 : True := trivial
theorem Mine.lawHolds.tw16818484654418938714 : True := trivial
theorem Mine.lawHolds.tw8721950981688319904 : True := trivial
theorem Mine.lawHolds.tw2767487706735306414 : True := trivial
theorem Mine.lawHolds.tw4081057526660041819 : True := trivial
theorem Mine.lawHolds.tw8369703925055615769 : True := trivial
theorem Mine.lawHolds.tw4852688719820448037 : True := trivial
theorem Mine.lawHolds.tw688600887682120505 : True := trivial
theorem Mine.lawHolds.tw18286708943180495472 : True := trivial
theorem Mine.lawHolds.tw2392183447272223799 : True := trivial
theorem Mine.lawHolds.tw13194958732458864006 : True := trivial
theorem Mine.lawHolds.tw16470383343479823408 : True := trivial
theorem Mine.lawHolds.tw18185990970317734048 : True := trivial
theorem Mine.lawHolds.tw15379573372774280627 : True := trivial
theorem Mine.lawHolds.tw7396723763013258592 : True := trivial
theorem Mine.lawHolds.tw10842418977129075218 : True := trivial
theorem Mine.lawHolds.tw16457408916584727039 : True := trivial
theorem Mine.lawHolds.tw16905099929089187351 : True := trivial
theorem Mine.lawHolds.tw6247502237318499868 : True := trivial
theorem Mine.lawHolds.tw7311238746331597734 : True := trivial
theorem Mine.lawHolds.tw14032352321001997695 : True := trivial
theorem Mine.lawHolds.tw13125303023864485992 : True := trivial
theorem Mine.lawHolds.tw9192610770151067643 : True := trivial
theorem Mine.lawHolds.tw5781424189537676520 : True := trivial
theorem Mine.lawHolds.tw2530428754384535801 : True := trivial
theorem Mine.lawHolds.tw720395216766364538 : True := trivial
theorem Mine.lawHolds.tw7814998759399011542 : True := trivial
theorem Mine.lawHolds.tw638501077141925416 : True := trivial
theorem Mine.lawHolds.tw6431540304227054686 : True := trivial
theorem Mine.lawHolds.tw7982148790107243747 : True := trivial
theorem Mine.lawHolds.tw18073178557912230085 : True := trivial
theorem Mine.lawHolds.tw1837499170400224328 : True := trivial
theorem Mine.lawHolds.tw8890619162401154779 : True := trivial
theorem Mine.lawHolds.tw12544454024823637416 : True := trivial
theorem Mine.lawHolds.tw6791447633938033584 : True := trivial
theorem Mine.lawHolds.tw5361683228831943140 : True := trivial
theorem Mine.lawHolds.tw4104088581700189048 : True := trivial
theorem Mine.lawHolds.tw4085673726349618819 : True := trivial
theorem Mine.lawHolds.tw13351479771259393637 : True := trivial
theorem Mine.lawHolds.tw560922545621364778 : True := trivial
theorem Mine.lawHolds.tw4027641553794870511 : True := trivial
theorem Mine.lawHolds.tw17475100549862971567 : True := trivial
theorem Mine.lawHolds.tw2563437581767592683 : True := trivial
theorem Mine.lawHolds.tw1915788822584349843 : True := trivial
theorem Mine.lawHolds.tw2354811312717768633 : True := trivial
theorem Mine.lawHolds.tw10300476378359827921 : True := trivial
theorem Mine.lawHolds.tw7655924596032851552 : True := trivial
theorem Mine.lawHolds.tw8066928348216225347 : True := trivial
theorem Mine.lawHolds.tw17604150010360352773 : True := trivial
theorem Mine.lawHolds.tw15451438791260033421 : True := trivial
theorem Mine.lawHolds.tw3535878532223428917 : True := trivial
theorem Mine.lawHolds.tw17602687552395243767 : True := trivial
theorem Mine.lawHolds.tw9191623499459163547 : True := trivial
theorem Mine.lawHolds.tw5603302039593045851 : True := trivial
theorem Mine.lawHolds.tw12184336727728330079 : True := trivial
theorem Mine.lawHolds.tw136474890887605952 : True := trivial
theorem Mine.lawHolds.tw17736330356340426886 : True := trivial
theorem Mine.lawHolds.tw17867989785976518338 : True := trivial
theorem Mine.lawHolds.tw10562901809467178913 : True := trivial
theorem Mine.lawHolds.tw1033045889663352677 : True := trivial
theorem Mine.lawHolds.tw14823160638457138832 : True := trivial
theorem Mine.lawHolds.tw12411826457337348107 : True := trivial
theorem Mine.lawHolds.tw3272420871586604702 : True := trivial
theorem Mine.lawHolds.tw6591401796266313674 : True := trivial
theorem Mine.lawHolds.tw6560501027365269922 : True := trivial
theorem Mine.lawHolds.tw9762165303185416250 : True := trivial
theorem Mine.lawHolds.tw13795367843333694701 : True := trivial
theorem Mine.lawHolds.tw10320882047438824161 : True := trivial
theorem Mine.lawHolds.tw7734934599686390130 : True := trivial
theorem Mine.lawHolds.tw4529411999750877670 : True := trivial
theorem Mine.lawHolds.tw13862395908814902088 : True := trivial
theorem Mine.lawHolds.tw5094528854289502693 : True := trivial
theorem Mine.lawHolds.tw3986431460400301538 : True := trivial
theorem Mine.lawHolds.tw18128418669036266494 : True := trivial
theorem Mine.lawHolds.tw7291113119379825953 : True := trivial
theorem Mine.lawHolds.tw6536159466759491220 : True := trivial
theorem Mine.lawHolds.tw16953066817479159257 : True := trivial
theorem Mine.lawHolds.tw13840265895568224150 : True := trivial
theorem Mine.lawHolds.tw6023066006097364260 : True := trivial
theorem Mine.lawHolds.tw8055382772575101176 : True := trivial
theorem Mine.lawHolds.tw9759790745326638503 : True := trivial
theorem Mine.lawHolds.tw14661075646050122708 : True := trivial
theorem Mine.lawHolds.tw18234452232079853742 : True := trivial
theorem Mine.lawHolds.tw985244573267064502 : True := trivial
theorem Mine.lawHolds.tw488984888029733498 : True := trivial
theorem Mine.lawHolds.tw9812543153789967273 : True := trivial
theorem Mine.lawHolds.tw7341775003778812552 : True := trivial
theorem Mine.lawHolds.tw14510780380133877621 : True := trivial
theorem Mine.lawHolds.tw549086008782073542 : True := trivial
theorem Mine.lawHolds.tw17767311285886427738 : True := trivial
theorem Mine.lawHolds.tw12193560025382039725 : True := trivial
theorem Mine.lawHolds.tw16185239450340812988 : True := trivial
theorem Mine.lawHolds.tw2409302296358934989 : True := trivial
theorem Mine.lawHolds.tw315316443578563110 : True := trivial
theorem Mine.lawHolds.tw9370356794064127094 : True := trivial
theorem Mine.lawHolds.tw13562833031367081251 : True := trivial
theorem Mine.lawHolds.tw5608110526896005337 : True := trivial
theorem Mine.lawHolds.tw9439469120524940342 : True := trivial
theorem Mine.lawHolds.tw11037819141835253478 : True := trivial
theorem Mine.lawHolds.tw14202948370352597443 : True := trivial
theorem Mine.lawHolds.tw418691709966946219 : True := trivial
theorem Mine.lawHolds.tw4417203881235986356 : True := trivial
theorem Mine.lawHolds.tw7781706271401081564 : True := trivial
theorem Mine.lawHolds.tw18059211941105638856 : True := trivial
theorem Mine.lawHolds.tw16687196187525175235 : True := trivial
theorem Mine.lawHolds.tw3757408911481082004 : True := trivial
theorem Mine.lawHolds.tw11691767954673211285 : True := trivial
theorem Mine.lawHolds.tw586806722208121296 : True := trivial
theorem Mine.lawHolds.tw15523496598616043780 : True := trivial
theorem Mine.lawHolds.tw11504666530910353894 : True := trivial
theorem Mine.lawHolds.tw15783738050118078804 : True := trivial
theorem Mine.lawHolds.tw4468622446586316473 : True := trivial
theorem Mine.lawHolds.tw7928338493194444055 : True := trivial
theorem Mine.lawHolds.tw9484508733290965629 : True := trivial
theorem Mine.lawHolds.tw5880401411038081061 : True := trivial
theorem Mine.lawHolds.tw10088214981245362947 : True := trivial
theorem Mine.lawHolds.tw3808176031726442869 : True := trivial
theorem Mine.lawHolds.tw958184236963521290 : True := trivial
theorem Mine.lawHolds.tw3020971320233321380 : True := trivial
theorem Mine.lawHolds.tw6541853393956651560 : True := trivial
theorem Mine.lawHolds.tw17351379424755483701 : True := trivial
theorem Mine.lawHolds.tw2779195798877172929 : True := trivial
theorem Mine.lawHolds.tw10353975925294089440 : True := trivial
theorem Mine.lawHolds.tw3877292586311053866 : True := trivial
theorem Mine.lawHolds.tw13975364036285054455 : True := trivial
theorem Mine.lawHolds.tw17710091918704079209 : True := trivial
theorem Mine.lawHolds.tw8144807473501771484 : True := trivial
theorem Mine.lawHolds.tw12622621654177868458 : True := trivial
theorem Mine.lawHolds.tw2520335747321704755 : True := trivial
theorem Mine.lawHolds.tw12029253374505414126 : True := trivial
theorem Mine.lawHolds.tw11766332268873923755 : True := trivial
theorem Mine.lawHolds.tw15945998501856089124 : True := trivial
theorem Mine.lawHolds.tw13685086639418549469 : True := trivial
theorem Mine.lawHolds.tw16924446642040365092 : True := trivial
theorem Mine.lawHolds.tw1571950868697567619 : True := trivial
theorem Mine.lawHolds.tw575726280513079623 : True := trivial
theorem Mine.lawHolds.tw15475394685147115178 : True := trivial
theorem Mine.lawHolds.tw3988383113492620309 : True := trivial
theorem Mine.lawHolds.tw11598115018354933361 : True := trivial
theorem Mine.lawHolds.tw2713596523645633377 : True := trivial
theorem Mine.lawHolds.tw17418938399894944793 : True := trivial
theorem Mine.lawHolds.tw6292956424258340449 : True := trivial
theorem Mine.lawHolds.tw10866996592920277093 : True := trivial
theorem Mine.lawHolds.tw13477943090199659406 : True := trivial
theorem Mine.lawHolds.tw6164211332321945629 : True := trivial
theorem Mine.lawHolds.tw7885816163543355248 : True := trivial
theorem Mine.lawHolds.tw8189334077751741789 : True := trivial
theorem Mine.lawHolds.tw1279247074298356130 : True := trivial
theorem Mine.lawHolds.tw2925087747642493947 : True := trivial
theorem Mine.lawHolds.tw14382611197239821572 : True := trivial
theorem Mine.lawHolds.tw12001505253940114625 : True := trivial
theorem Mine.lawHolds.tw11944930267995730790 : True := trivial
theorem Mine.lawHolds.tw15180469199795330545 : True := trivial
theorem Mine.lawHolds.tw9791398096145646172 : True := trivial
theorem Mine.lawHolds.tw215972217238608766 : True := trivial
theorem Mine.lawHolds.tw7350764539039905811 : True := trivial
theorem Mine.lawHolds.tw17674925859230898739 : True := trivial
theorem Mine.lawHolds.tw17276923624089482268 : True := trivial
theorem Mine.lawHolds.tw14341558019990246168 : True := trivial
theorem Mine.lawHolds.tw4258981002632526963 : True := trivial
theorem Mine.lawHolds.tw7642734791364076882 : True := trivial
theorem Mine.lawHolds.tw4079188549612383371 : True := trivial
theorem Mine.lawHolds.tw6702157195189116178 : True := trivial
theorem Mine.lawHolds.tw7154077986426517994 : True := trivial
theorem Mine.lawHolds.tw8501001929683595211 : True := trivial
theorem Mine.lawHolds.tw2283481355858424579 : True := trivial
theorem Mine.lawHolds.tw11526702812566042232 : True := trivial
theorem Mine.lawHolds.tw13690955002192423865 : True := trivial
theorem Mine.lawHolds.tw2320229830618992098 : True := trivial
theorem Mine.lawHolds.tw6445950104277233612 : True := trivial
theorem Mine.lawHolds.tw18171380783947628223 : True := trivial
theorem Mine.lawHolds.tw17924892942447991846 : True := trivial
theorem Mine.lawHolds.tw13126005150848839524 : True := trivial
theorem Mine.lawHolds.tw16333923134046665174 : True := trivial
theorem Mine.lawHolds.tw6362260396685555686 : True := trivial
theorem Mine.lawHolds.tw9028170622779443102 : True := trivial
theorem Mine.lawHolds.tw5857025188528566827 : True := trivial
theorem Mine.lawHolds.tw15885107526091793776 : True := trivial
theorem Mine.lawHolds.tw2518268884994253499 : True := trivial
theorem Mine.lawHolds.tw14157447476958126123 : True := trivial
theorem Mine.lawHolds.tw13931574812790558116 : True := trivial
theorem Mine.lawHolds.tw7884113924084785014 : True := trivial
theorem Mine.lawHolds.tw4230471892919384785 : True := trivial
theorem Mine.lawHolds.tw11772049676123859549 : True := trivial
theorem Mine.lawHolds.tw14789503418533217579 : True := trivial
theorem Mine.lawHolds.tw7686745356036095971 : True := trivial
theorem Mine.lawHolds.tw677861423748913022 : True := trivial
theorem Mine.lawHolds.tw4175395815393920757 : True := trivial
theorem Mine.lawHolds.tw14230672589399696331 : True := trivial
theorem Mine.lawHolds.tw8523606466301829592 : True := trivial
theorem Mine.lawHolds.tw12299405853349670654 : True := trivial
theorem Mine.lawHolds.tw568753607234877028 : True := trivial
theorem Mine.lawHolds.tw7235936277443928966 : True := trivial
theorem Mine.lawHolds.tw9595291948177971635 : True := trivial
theorem Mine.lawHolds.tw5608130422788838918 : True := trivial
theorem Mine.lawHolds.tw10441227731523811738 : True := trivial
theorem Mine.lawHolds.tw14072263711522719725 : True := trivial
theorem Mine.lawHolds.tw4938075528932655180 : True := trivial
theorem Mine.lawHolds.tw17519795321486247674 : True := trivial
theorem Mine.lawHolds.tw8394932351357649945 : True := trivial
theorem Mine.lawHolds.tw8601655229683943678 : True := trivial
theorem Mine.lawHolds.tw13878956285525688326 : True := trivial
theorem Mine.lawHolds.tw9959646823622979145 : True := trivial
theorem Mine.lawHolds.tw2276878543222162056 : True := trivial
theorem Mine.lawHolds.tw4401194077189342442 : True := trivial
theorem Mine.lawHolds.tw14154689093809219912 : True := trivial
theorem Mine.lawHolds.tw6415072857756814241 : True := trivial
theorem Mine.lawHolds.tw544666301912865990 : True := trivial
theorem Mine.lawHolds.tw14812705823547176208 : True := trivial
theorem Mine.lawHolds.tw11754478193480164462 : True := trivial
theorem Mine.lawHolds.tw3867523136748559328 : True := trivial
theorem Mine.lawHolds.tw15969373224608326298 : True := trivial
theorem Mine.lawHolds.tw17037058044428640622 : True := trivial
theorem Mine.lawHolds.tw9137418062784448917 : True := trivial
theorem Mine.lawHolds.tw3281596450379489749 : True := trivial
theorem Mine.lawHolds.tw14491956517377617166 : True := trivial
theorem Mine.lawHolds.tw13520624655144959981 : True := trivial
theorem Mine.lawHolds.tw12069235709926064886 : True := trivial
theorem Mine.lawHolds.tw3317777028054354230 : True := trivial
theorem Mine.lawHolds.tw15920188361044568704 : True := trivial
theorem Mine.lawHolds.tw53269263495319424 : True := trivial
theorem Mine.lawHolds.tw292481181424227329 : True := trivial
theorem Mine.lawHolds.tw4421589521417662484 : True := trivial
theorem Mine.lawHolds.tw2371676730444386400 : True := trivial
theorem Mine.lawHolds.tw18263923921474438244 : True := trivial
theorem Mine.lawHolds.tw11977567188694862077 : True := trivial
theorem Mine.lawHolds.tw5711405663315901123 : True := trivial
theorem Mine.lawHolds.tw4656223117052421960 : True := trivial
theorem Mine.lawHolds.tw11081147723233570035 : True := trivial
theorem Mine.lawHolds.tw16622511135818275052 : True := trivial
theorem Mine.lawHolds.tw7923257718027407429 : True := trivial
theorem Mine.lawHolds.tw8334920998810055693 : True := trivial
theorem Mine.lawHolds.tw6229756898818494537 : True := trivial
theorem Mine.lawHolds.tw12187518692306690858 : True := trivial
theorem Mine.lawHolds.tw6917958041350131736 : True := trivial
theorem Mine.lawHolds.tw3864485519314361904 : True := trivial
theorem Mine.lawHolds.tw13662814601815181151 : True := trivial
theorem Mine.lawHolds.tw17093355322796360395 : True := trivial
theorem Mine.lawHolds.tw3861426577482300753 : True := trivial
theorem Mine.lawHolds.tw11661088982355643661 : True := trivial
theorem Mine.lawHolds.tw16643761560967739178 : True := trivial
theorem Mine.lawHolds.tw8934847221755875426 : True := trivial
theorem Mine.lawHolds.tw9583958110520093300 : True := trivial
theorem Mine.lawHolds.tw2585493728299902932 : True := trivial
theorem Mine.lawHolds.tw10454327626554802039 : True := trivial
theorem Mine.lawHolds.tw17273860912862575736 : True := trivial
theorem Mine.lawHolds.tw386836449165603124 : True := trivial
theorem Mine.lawHolds.tw511914838339083705 : True := trivial
theorem Mine.lawHolds.tw12443656662314932362 : True := trivial
theorem Mine.lawHolds.tw11747338973474576812 : True := trivial
theorem Mine.lawHolds.tw18200097364556910979 : True := trivial
theorem Mine.lawHolds.tw11344048634475636727 : True := trivial
theorem Mine.lawHolds.tw12224373415544232417 : True := trivial
theorem Mine.lawHolds.tw6444430901831121231 : True := trivial
theorem Mine.lawHolds.tw9979551813828985123 : True := trivial
theorem Mine.lawHolds.tw3914757431455531608 : True := trivial
theorem Mine.lawHolds.tw9970798546898191764 : True := trivial
theorem Mine.lawHolds.tw2910819522650039207 : True := trivial
theorem Mine.lawHolds.tw2080169512183657151 : True := trivial
theorem Mine.lawHolds.tw8827339839707404027 : True := trivial
theorem Mine.lawHolds.tw937863294271757747 : True := trivial
theorem Mine.lawHolds.tw17828987433456328012 : True := trivial
theorem Mine.lawHolds.tw8737025480317795872 : True := trivial
theorem Mine.lawHolds.tw2305289410436332020 : True := trivial
theorem Mine.lawHolds.tw13877230698993910199 : True := trivial
theorem Mine.lawHolds.tw14853398761826064319 : True := trivial
theorem Mine.lawHolds.tw1909274004271587452 : True := trivial
theorem Mine.lawHolds.tw2455119427351660745 : True := trivial
theorem Mine.lawHolds.tw16296314185131647996 : True := trivial
theorem Mine.lawHolds.tw17802422168399396347 : True := trivial
theorem Mine.lawHolds.tw2544478786016649108 : True := trivial
theorem Mine.lawHolds.tw6385745098067072322 : True := trivial
theorem Mine.lawHolds.tw13697262396519819912 : True := trivial
theorem Mine.lawHolds.tw11468332865987006538 : True := trivial
theorem Mine.lawHolds.tw6888696068921944391 : True := trivial
theorem Mine.lawHolds.tw9000210044695729533 : True := trivial
theorem Mine.lawHolds.tw17959749159937704137 : True := trivial
theorem Mine.lawHolds.tw97529673103010681 : True := trivial
theorem Mine.lawHolds.tw16401924809811759394 : True := trivial
theorem Mine.lawHolds.tw13712565025107844770 : True := trivial
theorem Mine.lawHolds.tw12835178254294870586 : True := trivial
theorem Mine.lawHolds.tw7690771716960157347 : True := trivial
theorem Mine.lawHolds.tw12636396511057377958 : True := trivial
theorem Mine.lawHolds.tw628913194859792186 : True := trivial
theorem Mine.lawHolds.tw35140316726080233 : True := trivial
theorem Mine.lawHolds.tw11680430111070393303 : True := trivial
theorem Mine.lawHolds.tw16447131623977226677 : True := trivial
theorem Mine.lawHolds.tw5737760959790822367 : True := trivial
theorem Mine.lawHolds.tw8772314410768786195 : True := trivial
theorem Mine.lawHolds.tw9573570043659690328 : True := trivial
theorem Mine.lawHolds.tw3529086939695670216 : True := trivial
theorem Mine.lawHolds.tw11734810608335789708 : True := trivial
theorem Mine.lawHolds.tw7227819779193521039 : True := trivial
theorem Mine.lawHolds.tw11016458244443748311 : True := trivial
theorem Mine.lawHolds.tw7929823116024492492 : True := trivial
theorem Mine.lawHolds.tw12243295808848011896 : True := trivial
theorem Mine.lawHolds.tw17942709411239655007 : True := trivial
theorem Mine.lawHolds.tw12495750260943598353 : True := trivial
theorem Mine.lawHolds.tw13051416660894468030 : True := trivial
theorem Mine.lawHolds.tw5926560769671884655 : True := trivial
theorem Mine.lawHolds.tw17042091521355445137 : True := trivial
theorem Mine.lawHolds.tw17359461433681755038 : True := trivial
theorem Mine.lawHolds.tw109037461308714121 : True := trivial
theorem Mine.lawHolds.tw7743619439162733263 : True := trivial
theorem Mine.lawHolds.tw16901047459977946033 : True := trivial
theorem Mine.lawHolds.tw16704812053840687927 : True := trivial
theorem Mine.lawHolds.tw12798306179131473877 : True := trivial
theorem Mine.lawHolds.tw686898015954621847 : True := trivial
theorem Mine.lawHolds.tw17515878374430337208 : True := trivial
theorem Mine.lawHolds.tw2931799094813853238 : True := trivial
theorem Mine.lawHolds.tw16801653432532600325 : True := trivial
theorem Mine.lawHolds.tw16512821848955184155 : True := trivial
theorem Mine.lawHolds.tw5053417456156412880 : True := trivial
theorem Mine.lawHolds.tw1528690677363349931 : True := trivial
theorem Mine.lawHolds.tw16373665284148703701 : True := trivial
theorem Mine.lawHolds.tw3555988478961753985 : True := trivial
theorem Mine.lawHolds.tw16568167477414173997 : True := trivial
theorem Mine.lawHolds.tw6506220273753018969 : True := trivial
theorem Mine.lawHolds.tw2671904745466842278 : True := trivial
theorem Mine.lawHolds.tw10773191187467906793 : True := trivial
theorem Mine.lawHolds.tw8051843371020863382 : True := trivial
theorem Mine.lawHolds.tw3595927096987613658 : True := trivial
theorem Mine.lawHolds.tw559047536556520415 : True := trivial
theorem Mine.lawHolds.tw15078629068765810277 : True := trivial
theorem Mine.lawHolds.tw7247482666720376163 : True := trivial
theorem Mine.lawHolds.tw16054924064781816341 : True := trivial
theorem Mine.lawHolds.tw12341044385256592587 : True := trivial
theorem Mine.lawHolds.tw6951855031884761311 : True := trivial
theorem Mine.lawHolds.tw4099508239492524777 : True := trivial
theorem Mine.lawHolds.tw613257315466163212 : True := trivial
theorem Mine.lawHolds.tw9659690368238001990 : True := trivial
theorem Mine.lawHolds.tw5828312924784802971 : True := trivial
theorem Mine.lawHolds.tw3952672410073568217 : True := trivial
theorem Mine.lawHolds.tw16492523089685388348 : True := trivial
theorem Mine.lawHolds.tw12637831336383823377 : True := trivial
theorem Mine.lawHolds.tw3236908897804054584 : True := trivial
theorem Mine.lawHolds.tw16222047641218834710 : True := trivial
theorem Mine.lawHolds.tw5047803044143322433 : True := trivial
theorem Mine.lawHolds.tw2735821904953916166 : True := trivial
theorem Mine.lawHolds.tw490853662171633655 : True := trivial
theorem Mine.lawHolds.tw5000740919431564236 : True := trivial
theorem Mine.lawHolds.tw7865020943906615206 : True := trivial
theorem Mine.lawHolds.tw2455274184323194727 : True := trivial
theorem Mine.lawHolds.tw6873883639279645719 : True := trivial
theorem Mine.lawHolds.tw13610986017235665637 : True := trivial
theorem Mine.lawHolds.tw15902603615786430795 : True := trivial
theorem Mine.lawHolds.tw16348853757151763328 : True := trivial
theorem Mine.lawHolds.tw15925853437269636275 : True := trivial
theorem Mine.lawHolds.tw14032673901287152299 : True := trivial
theorem Mine.lawHolds.tw15269745473723512247 : True := trivial
theorem Mine.lawHolds.tw17736253005228679810 : True := trivial
theorem Mine.lawHolds.tw12559525622407905633 : True := trivial
theorem Mine.lawHolds.tw5557297212838572095 : True := trivial
theorem Mine.lawHolds.tw1156506881157504472 : True := trivial
theorem Mine.lawHolds.tw6878932143830385990 : True := trivial
theorem Mine.lawHolds.tw15391812789636152154 : True := trivial
theorem Mine.lawHolds.tw5677429919477321563 : True := trivial
theorem Mine.lawHolds.tw7130634452089807597 : True := trivial
theorem Mine.lawHolds.tw3592653039344745114 : True := trivial
theorem Mine.lawHolds.tw12296604046451415999 : True := trivial
theorem Mine.lawHolds.tw18288382552071696917 : True := trivial
theorem Mine.lawHolds.tw6755865835376041827 : True := trivial
theorem Mine.lawHolds.tw6140466975238560369 : True := trivial
theorem Mine.lawHolds.tw6850536127286673475 : True := trivial
theorem Mine.lawHolds.tw8762285233547982428 : True := trivial
theorem Mine.lawHolds.tw11516621696204153981 : True := trivial
theorem Mine.lawHolds.tw17508380621586802682 : True := trivial
theorem Mine.lawHolds.tw17929360810036677280 : True := trivial
theorem Mine.lawHolds.tw6172319236949497159 : True := trivial
theorem Mine.lawHolds.tw2218987055672745562 : True := trivial
theorem Mine.lawHolds.tw18392030601203121378 : True := trivial
theorem Mine.lawHolds.tw10699800660947186566 : True := trivial
theorem Mine.lawHolds.tw3314803401327233993 : True := trivial
theorem Mine.lawHolds.tw8596993703837578185 : True := trivial
theorem Mine.lawHolds.tw565104454459864292 : True := trivial
theorem Mine.lawHolds.tw6852761140027168587 : True := trivial
theorem Mine.lawHolds.tw7620912589748994549 : True := trivial
theorem Mine.lawHolds.tw11609524857272465732 : True := trivial
theorem Mine.lawHolds.tw10609298112943191598 : True := trivial
theorem Mine.lawHolds.tw11698655775864021360 : True := trivial
theorem Mine.lawHolds.tw11366782461840496021 : True := trivial
theorem Mine.lawHolds.tw17130609543512565751 : True := trivial
theorem Mine.lawHolds.tw9032757084168275844 : True := trivial
theorem Mine.lawHolds.tw5700003176445760541 : True := trivial
theorem Mine.lawHolds.tw18158377503040790370 : True := trivial
theorem Mine.lawHolds.tw7244909953173911478 : True := trivial
theorem Mine.lawHolds.tw7242360124036675305 : True := trivial
theorem Mine.lawHolds.tw5171273779029006887 : True := trivial
theorem Mine.lawHolds.tw8695411883747460919 : True := trivial
theorem Mine.lawHolds.tw16057848442189328132 : True := trivial
theorem Mine.lawHolds.tw1324909846947094338 : True := trivial
theorem Mine.lawHolds.tw15093690704126234786 : True := trivial
theorem Mine.lawHolds.tw772692649395203186 : True := trivial
theorem Mine.lawHolds.tw15238197661917519609 : True := trivial
theorem Mine.lawHolds.tw962841117495870300 : True := trivial
theorem Mine.lawHolds.tw4486115022600751045 : True := trivial
theorem Mine.lawHolds.tw8215432952402062330 : True := trivial
theorem Mine.lawHolds.tw13586377812701623124 : True := trivial
theorem Mine.lawHolds.tw17882880393958438298 : True := trivial
theorem Mine.lawHolds.tw4034557580839595176 : True := trivial
theorem Mine.lawHolds.tw15750626302712144680 : True := trivial
theorem Mine.lawHolds.tw12249899195364892371 : True := trivial
theorem Mine.lawHolds.tw11984693205899054374 : True := trivial
theorem Mine.lawHolds.tw16124397658042773209 : True := trivial
theorem Mine.lawHolds.tw10997350707782959515 : True := trivial
theorem Mine.lawHolds.tw17809846058351167262 : True := trivial
theorem Mine.lawHolds.tw5139752416327535028 : True := trivial
theorem Mine.lawHolds.tw14392945303669014442 : True := trivial
theorem Mine.lawHolds.tw15889828953139055396 : True := trivial
theorem Mine.lawHolds.tw8148642763335388380 : True := trivial
theorem Mine.lawHolds.tw4183174550656455551 : True := trivial
theorem Mine.lawHolds.tw16503453287810952783 : True := trivial
theorem Mine.lawHolds.tw5007627691260322117 : True := trivial
theorem Mine.lawHolds.tw14906467174950603649 : True := trivial
theorem Mine.lawHolds.tw6753396675702965022 : True := trivial
theorem Mine.lawHolds.tw2769001750834799224 : True := trivial
theorem Mine.lawHolds.tw3324940638928298602 : True := trivial
theorem Mine.lawHolds.tw8404216399155419962 : True := trivial
theorem Mine.lawHolds.tw14547224720297914084 : True := trivial
theorem Mine.lawHolds.tw1928057648221555427 : True := trivial
theorem Mine.lawHolds.tw14798618343138754703 : True := trivial
theorem Mine.lawHolds.tw16505751778297304232 : True := trivial
theorem Mine.lawHolds.tw6748205296603578498 : True := trivial
theorem Mine.lawHolds.tw4883454180448165968 : True := trivial
theorem Mine.lawHolds.tw3947309908348524469 : True := trivial
theorem Mine.lawHolds.tw4308365574440718891 : True := trivial
theorem Mine.lawHolds.tw1493582709918857070 : True := trivial
theorem Mine.lawHolds.tw14327248087383470364 : True := trivial
theorem Mine.lawHolds.tw4951463312891054199 : True := trivial
theorem Mine.lawHolds.tw16330755164986999130 : True := trivial
theorem Mine.lawHolds.tw13955007009149088973 : True := trivial
theorem Mine.lawHolds.tw2504375474182278717 : True := trivial
theorem Mine.lawHolds.tw13714821279190867499 : True := trivial
theorem Mine.lawHolds.tw5714111002841638798 : True := trivial
theorem Mine.lawHolds.tw15411760133022269080 : True := trivial
theorem Mine.lawHolds.tw4590135364950264150 : True := trivial
theorem Mine.lawHolds.tw142924650467993320 : True := trivial
theorem Mine.lawHolds.tw14028702717752012179 : True := trivial
theorem Mine.lawHolds.tw12287549620153270988 : True := trivial
theorem Mine.lawHolds.tw12137247073808691907 : True := trivial
theorem Mine.lawHolds.tw15745957889355982394 : True := trivial
theorem Mine.lawHolds.tw2122165901936351574 : True := trivial
theorem Mine.lawHolds.tw6341447991181133780 : True := trivial
theorem Mine.lawHolds.tw11536959705104850755 : True := trivial
theorem Mine.lawHolds.tw15414328658396331354 : True := trivial
theorem Mine.lawHolds.tw350963376304702899 : True := trivial
theorem Mine.lawHolds.tw10858077837553625896 : True := trivial
theorem Mine.lawHolds.tw14428160583730802346 : True := trivial
theorem Mine.lawHolds.tw4848460745159611469 : True := trivial
theorem Mine.lawHolds.tw9828387977216416343 : True := trivial
theorem Mine.lawHolds.tw8979963157077526235 : True := trivial
theorem Mine.lawHolds.tw95382114286589846 : True := trivial
theorem Mine.lawHolds.tw14211183974907671732 : True := trivial
theorem Mine.lawHolds.tw8595893209755421554 : True := trivial
theorem Mine.lawHolds.tw16600903625469317779 : True := trivial
theorem Mine.lawHolds.tw15551050040515675548 : True := trivial
theorem Mine.lawHolds.tw16769932076325992440 : True := trivial
theorem Mine.lawHolds.tw12681498936677966298 : True := trivial
theorem Mine.lawHolds.tw175138789494443997 : True := trivial
theorem Mine.lawHolds.tw3179209520954916750 : True := trivial
theorem Mine.lawHolds.tw12923246884903729013 : True := trivial
theorem Mine.lawHolds.tw2849602157376146467 : True := trivial
theorem Mine.lawHolds.tw17447914018469395656 : True := trivial
theorem Mine.lawHolds.tw2962876551546403577 : True := trivial
theorem Mine.lawHolds.tw13581440463887665143 : True := trivial
theorem Mine.lawHolds.tw1977450969166530138 : True := trivial
theorem Mine.lawHolds.tw5691241416793309091 : True := trivial
theorem Mine.lawHolds.tw14215492267913007236 : True := trivial
theorem Mine.lawHolds.tw12882286040182716031 : True := trivial
theorem Mine.lawHolds.tw8871321380756560282 : True := trivial
theorem Mine.lawHolds.tw5405766186118726821 : True := trivial
theorem Mine.lawHolds.tw10691504249518740425 : True := trivial
theorem Mine.lawHolds.tw6626586698505634334 : True := trivial
theorem Mine.lawHolds.tw12473566880188987514 : True := trivial
theorem Mine.lawHolds.tw15949365425005082420 : True := trivial
theorem Mine.lawHolds.tw874023332892486123 : True := trivial
theorem Mine.lawHolds.tw17265008241606939726 : True := trivial
theorem Mine.lawHolds.tw16495996450778605158 : True := trivial
theorem Mine.lawHolds.tw6437484572373874836 : True := trivial
theorem Mine.lawHolds.tw2353664025266804916 : True := trivial
theorem Mine.lawHolds.tw8485552619543225385 : True := trivial
theorem Mine.lawHolds.tw5063316317699295304 : True := trivial
theorem Mine.lawHolds.tw7242949404768065614 : True := trivial
theorem Mine.lawHolds.tw10640814061260372763 : True := trivial
theorem Mine.lawHolds.tw16613253139167134068 : True := trivial
theorem Mine.lawHolds.tw10967662038984092267 : True := trivial
theorem Mine.lawHolds.tw6091706324788857791 : True := trivial
theorem Mine.lawHolds.tw8449358841620611535 : True := trivial
theorem Mine.lawHolds.tw2100465743496442135 : True := trivial
theorem Mine.lawHolds.tw6501887622158934580 : True := trivial
theorem Mine.lawHolds.tw17422904745119188046 : True := trivial
theorem Mine.lawHolds.tw12762441108201512961 : True := trivial
theorem Mine.lawHolds.tw7642782374046005518 : True := trivial
theorem Mine.lawHolds.tw18314555776485199628 : True := trivial
theorem Mine.lawHolds.tw2777102294261326117 : True := trivial
theorem Mine.lawHolds.tw14626532899960842627 : True := trivial
theorem Mine.lawHolds.tw15705003893437751651 : True := trivial
theorem Mine.lawHolds.tw10131914760644385009 : True := trivial
theorem Mine.lawHolds.tw16771353220198895461 : True := trivial
theorem Mine.lawHolds.tw1327995097857959003 : True := trivial
theorem Mine.lawHolds.tw17573878181773789588 : True := trivial
theorem Mine.lawHolds.tw4050041065160203483 : True := trivial
theorem Mine.lawHolds.tw15079477778388026172 : True := trivial
theorem Mine.lawHolds.tw8520922425041797319 : True := trivial
theorem Mine.lawHolds.tw10867139574086614261 : True := trivial
theorem Mine.lawHolds.tw17984799740333331100 : True := trivial
theorem Mine.lawHolds.tw18381687317730916773 : True := trivial
theorem Mine.lawHolds.tw5852236760383126310 : True := trivial
theorem Mine.lawHolds.tw9960701423314460081 : True := trivial
theorem Mine.lawHolds.tw17591775661358124871 : True := trivial
theorem Mine.lawHolds.tw16624600049453389735 : True := trivial
theorem Mine.lawHolds.tw12241707034570976994 : True := trivial
theorem Mine.lawHolds.tw139426113288393901 : True := trivial
theorem Mine.lawHolds.tw460789507417934806 : True := trivial
theorem Mine.lawHolds.tw14356446624807551426 : True := trivial
theorem Mine.lawHolds.tw856754371810261051 : True := trivial
theorem Mine.lawHolds.tw13808044924633541328 : True := trivial
theorem Mine.lawHolds.tw9473737791082420041 : True := trivial
theorem Mine.lawHolds.tw9184272003390212900 : True := trivial
theorem Mine.lawHolds.tw6407077131214114624 : True := trivial
theorem Mine.lawHolds.tw4613255786772767397 : True := trivial
theorem Mine.lawHolds.tw13545527820140186484 : True := trivial
theorem Mine.lawHolds.tw3253380730228658949 : True := trivial
theorem Mine.lawHolds.tw9289817672925224809 : True := trivial
theorem Mine.lawHolds.tw15162077890481617026 : True := trivial
theorem Mine.lawHolds.tw9618569681213488604 : True := trivial
theorem Mine.lawHolds.tw15180563118039493707 : True := trivial
theorem Mine.lawHolds.tw6726106254032033066 : True := trivial
theorem Mine.lawHolds.tw990343753603422406 : True := trivial
theorem Mine.lawHolds.tw12903097327669981816 : True := trivial
theorem Mine.lawHolds.tw10717450061879074059 : True := trivial
theorem Mine.lawHolds.tw1791495574383981699 : True := trivial
theorem Mine.lawHolds.tw5294049910967047018 : True := trivial
theorem Mine.lawHolds.tw5604099435963267782 : True := trivial
theorem Mine.lawHolds.tw1966758833524509396 : True := trivial
theorem Mine.lawHolds.tw10498156398431103093 : True := trivial
theorem Mine.lawHolds.tw9404799546642620952 : True := trivial
theorem Mine.lawHolds.tw9865482496163734725 : True := trivial
theorem Mine.lawHolds.tw7937767356957748525 : True := trivial
theorem Mine.lawHolds.tw12875691321330133611 : True := trivial
theorem Mine.lawHolds.tw8554686703596875347 : True := trivial
theorem Mine.lawHolds.tw3510110509215587431 : True := trivial
theorem Mine.lawHolds.tw4888700754400528401 : True := trivial
theorem Mine.lawHolds.tw13751438398541907346 : True := trivial
theorem Mine.lawHolds.tw968895303374445781 : True := trivial
theorem Mine.lawHolds.tw8487144400366156617 : True := trivial
theorem Mine.lawHolds.tw16623004996085679055 : True := trivial
theorem Mine.lawHolds.tw3569015431467792274 : True := trivial
theorem Mine.lawHolds.tw6940567548058127246 : True := trivial
theorem Mine.lawHolds.tw15974588693407557946 : True := trivial
theorem Mine.lawHolds.tw5671921070895161309 : True := trivial
theorem Mine.lawHolds.tw11737721474819767881 : True := trivial
theorem Mine.lawHolds.tw11361088966600138251 : True := trivial
theorem Mine.lawHolds.tw1768019419126958568 : True := trivial
theorem Mine.lawHolds.tw12535293963098844190 : True := trivial
theorem Mine.lawHolds.tw5342437802290829135 : True := trivial
theorem Mine.lawHolds.tw14393063002381070665 : True := trivial
theorem Mine.lawHolds.tw6277276315881822215 : True := trivial
theorem Mine.lawHolds.tw2541564656103329563 : True := trivial
theorem Mine.lawHolds.tw17076448435984332848 : True := trivial
theorem Mine.lawHolds.tw8806751848687797281 : True := trivial
theorem Mine.lawHolds.tw11211399850332824357 : True := trivial
theorem Mine.lawHolds.tw6208653209246025991 : True := trivial
theorem Mine.lawHolds.tw10400194825400122523 : True := trivial
theorem Mine.lawHolds.tw8880105614287928111 : True := trivial
theorem Mine.lawHolds.tw13013577968000789225 : True := trivial
theorem Mine.lawHolds.tw8853861551424866548 : True := trivial
theorem Mine.lawHolds.tw15930372173161999516 : True := trivial
theorem Mine.lawHolds.tw887211571562276643 : True := trivial
theorem Mine.lawHolds.tw3405534055557569461 : True := trivial
theorem Mine.lawHolds.tw6607348390910576532 : True := trivial
theorem Mine.lawHolds.tw13373292001737695277 : True := trivial
theorem Mine.lawHolds.tw17691810421052342498 : True := trivial
theorem Mine.lawHolds.tw108373499922094577 : True := trivial
theorem Mine.lawHolds.tw6843825160999711214 : True := trivial
theorem Mine.lawHolds.tw7147768160765754060 : True := trivial
theorem Mine.lawHolds.tw17522697993253585120 : True := trivial
theorem Mine.lawHolds.tw2268147824152685873 : True := trivial
theorem Mine.lawHolds.tw2786605008558230544 : True := trivial
theorem Mine.lawHolds.tw9153851727142138927 : True := trivial
theorem Mine.lawHolds.tw13489255267898886067 : True := trivial
theorem Mine.lawHolds.tw7083378259650831888 : True := trivial
theorem Mine.lawHolds.tw56765904146257465 : True := trivial
theorem Mine.lawHolds.tw3270776340439624594 : True := trivial
theorem Mine.lawHolds.tw8822291174234399939 : True := trivial
theorem Mine.lawHolds.tw16905090118566385581 : True := trivial
theorem Mine.lawHolds.tw1134514457391348855 : True := trivial
theorem Mine.lawHolds.tw14760753301301747477 : True := trivial
theorem Mine.lawHolds.tw12393054774388696997 : True := trivial
theorem Mine.lawHolds.tw4927293907224818726 : True := trivial
theorem Mine.lawHolds.tw13601317788905816078 : True := trivial
theorem Mine.lawHolds.tw4219483814721525681 : True := trivial
theorem Mine.lawHolds.tw14659680166297851335 : True := trivial
theorem Mine.lawHolds.tw6395755641136436828 : True := trivial
theorem Mine.lawHolds.tw13275349553183228711 : True := trivial
theorem Mine.lawHolds.tw7790897209403995921 : True := trivial
theorem Mine.lawHolds.tw4126902173710482743 : True := trivial
theorem Mine.lawHolds.tw14931636325104388272 : True := trivial
theorem Mine.lawHolds.tw8611562440230271388 : True := trivial
theorem Mine.lawHolds.tw12009665719446997078 : True := trivial
theorem Mine.lawHolds.tw11876562638550925749 : True := trivial
theorem Mine.lawHolds.tw5875107173921639784 : True := trivial
theorem Mine.lawHolds.tw13053146450709723603 : True := trivial
theorem Mine.lawHolds.tw16754643430774263626 : True := trivial
theorem Mine.lawHolds.tw10034950063859549696 : True := trivial
theorem Mine.lawHolds.tw3348795839317873271 : True := trivial
theorem Mine.lawHolds.tw14820989373032144044 : True := trivial
theorem Mine.lawHolds.tw9055163290882842880 : True := trivial
theorem Mine.lawHolds.tw14594878948638338030 : True := trivial
theorem Mine.lawHolds.tw9976984616696298467 : True := trivial
theorem Mine.lawHolds.tw11695475499386745586 : True := trivial
theorem Mine.lawHolds.tw16009555825174172165 : True := trivial
theorem Mine.lawHolds.tw14589296965663200835 : True := trivial
theorem Mine.lawHolds.tw6432338086298622966 : True := trivial
theorem Mine.lawHolds.tw14239911248229071047 : True := trivial
theorem Mine.lawHolds.tw4682681321219445472 : True := trivial
theorem Mine.lawHolds.tw6181110870881794371 : True := trivial
theorem Mine.lawHolds.tw14170026308735995653 : True := trivial
theorem Mine.lawHolds.tw1205426404463427939 : True := trivial
theorem Mine.lawHolds.tw16355731475336295093 : True := trivial
theorem Mine.lawHolds.tw11264278987637939704 : True := trivial
theorem Mine.lawHolds.tw5406088681306729702 : True := trivial
theorem Mine.lawHolds.tw10134743812034569003 : True := trivial
theorem Mine.lawHolds.tw14735601404084532120 : True := trivial
theorem Mine.lawHolds.tw11040776940330247012 : True := trivial
theorem Mine.lawHolds.tw6804950586703196049 : True := trivial
theorem Mine.lawHolds.tw14780305937339095170 : True := trivial
theorem Mine.lawHolds.tw3894986440691640538 : True := trivial
theorem Mine.lawHolds.tw5876955127566855570 : True := trivial
theorem Mine.lawHolds.tw1296413557845257183 : True := trivial
theorem Mine.lawHolds.tw5875547132506388995 : True := trivial
theorem Mine.lawHolds.tw14334767853749117945 : True := trivial
theorem Mine.lawHolds.tw8977189459094307762 : True := trivial
theorem Mine.lawHolds.tw14255883916595038619 : True := trivial
theorem Mine.lawHolds.tw6398598211748755677 : True := trivial
theorem Mine.lawHolds.tw10723157372916161192 : True := trivial
theorem Mine.lawHolds.tw16979211213889934453 : True := trivial
theorem Mine.lawHolds.tw6018504647901622738 : True := trivial
theorem Mine.lawHolds.tw11491418619400906112 : True := trivial
theorem Mine.lawHolds.tw14889980133702099977 : True := trivial
theorem Mine.lawHolds.tw9447285038266004316 : True := trivial
theorem Mine.lawHolds.tw13168154764567549138 : True := trivial
theorem Mine.lawHolds.tw5001658015819667240 : True := trivial
theorem Mine.lawHolds.tw13531950124188527454 : True := trivial
theorem Mine.lawHolds.tw522309211571090275 : True := trivial
theorem Mine.lawHolds.tw3842767992917452853 : True := trivial
theorem Mine.lawHolds.tw2291262492969802524 : True := trivial
theorem Mine.lawHolds.tw4617553656814764949 : True := trivial
theorem Mine.lawHolds.tw6382206616745423197 : True := trivial
theorem Mine.lawHolds.tw775078614353699253 : True := trivial
theorem Mine.lawHolds.tw5706356122264319998 : True := trivial
theorem Mine.lawHolds.tw4472777905078426177 : True := trivial
theorem Mine.lawHolds.tw409537274543712606 : True := trivial
theorem Mine.lawHolds.tw9531392332581500047 : True := trivial
theorem Mine.lawHolds.tw7954521160257248960 : True := trivial
theorem Mine.lawHolds.tw15287046132887985258 : True := trivial
theorem Mine.lawHolds.tw4383225269349664221 : True := trivial
theorem Mine.lawHolds.tw2670113865677457948 : True := trivial
theorem Mine.lawHolds.tw16678841837002864497 : True := trivial
theorem Mine.lawHolds.tw3410203159074724538 : True := trivial
theorem Mine.lawHolds.tw15393907464364431188 : True := trivial
theorem Mine.lawHolds.tw18289870655683093103 : True := trivial
theorem Mine.lawHolds.tw4615675293601448326 : True := trivial
theorem Mine.lawHolds.tw4116372224561864816 : True := trivial
theorem Mine.lawHolds.tw7075398572246485220 : True := trivial
theorem Mine.lawHolds.tw5232364372860579932 : True := trivial
theorem Mine.lawHolds.tw7934628460278179707 : True := trivial
theorem Mine.lawHolds.tw9512856218604594673 : True := trivial
theorem Mine.lawHolds.tw865694841873518778 : True := trivial
theorem Mine.lawHolds.tw1531332479634478753 : True := trivial
theorem Mine.lawHolds.tw4261557241480815166 : True := trivial
theorem Mine.lawHolds.tw3357008948081571940 : True := trivial
theorem Mine.lawHolds.tw16547249619334482195 : True := trivial
theorem Mine.lawHolds.tw3329849533051336116 : True := trivial
theorem Mine.lawHolds.tw3241206392065787052 : True := trivial
theorem Mine.lawHolds.tw18089045933770076728 : True := trivial
theorem Mine.lawHolds.tw7758706441610427207 : True := trivial
theorem Mine.lawHolds.tw2468976532498046567 : True := trivial
theorem Mine.lawHolds.tw12822082730038573942 : True := trivial
theorem Mine.lawHolds.tw3308606178334536654 : True := trivial
theorem Mine.lawHolds.tw4765296442235330372 : True := trivial
theorem Mine.lawHolds.tw13077678212215707975 : True := trivial
theorem Mine.lawHolds.tw8698256953030642751 : True := trivial
theorem Mine.lawHolds.tw12322849766061221189 : True := trivial
theorem Mine.lawHolds.tw7442353173575636725 : True := trivial
theorem Mine.lawHolds.tw13788878961451249902 : True := trivial
theorem Mine.lawHolds.tw7100170945800934890 : True := trivial
theorem Mine.lawHolds.tw11262456653786811373 : True := trivial
theorem Mine.lawHolds.tw13854685974122344202 : True := trivial
theorem Mine.lawHolds.tw17871003153264727978 : True := trivial
theorem Mine.lawHolds.tw8349575346585156279 : True := trivial
theorem Mine.lawHolds.tw12330565240193344663 : True := trivial
theorem Mine.lawHolds.tw8941584350343072863 : True := trivial
theorem Mine.lawHolds.tw2719691020444584454 : True := trivial
theorem Mine.lawHolds.tw2714240193866932526 : True := trivial
theorem Mine.lawHolds.tw12439674431908919309 : True := trivial
theorem Mine.lawHolds.tw14286877459750656207 : True := trivial
theorem Mine.lawHolds.tw5072894200889174887 : True := trivial
theorem Mine.lawHolds.tw737232166916313604 : True := trivial
theorem Mine.lawHolds.tw14203241256976736642 : True := trivial
theorem Mine.lawHolds.tw7423119328628184180 : True := trivial
theorem Mine.lawHolds.tw18123709152116583613 : True := trivial
theorem Mine.lawHolds.tw17577446928364922273 : True := trivial
theorem Mine.lawHolds.tw4890916310346686436 : True := trivial
theorem Mine.lawHolds.tw8391567753602386618 : True := trivial
theorem Mine.lawHolds.tw223872079452615557 : True := trivial
theorem Mine.lawHolds.tw6140876517676700013 : True := trivial
theorem Mine.lawHolds.tw7340900978325472929 : True := trivial
theorem Mine.lawHolds.tw707194599447307115 : True := trivial
theorem Mine.lawHolds.tw17270806732825300096 : True := trivial
theorem Mine.lawHolds.tw7221490076625506675 : True := trivial
theorem Mine.lawHolds.tw9128622886910249818 : True := trivial
theorem Mine.lawHolds.tw17928205493483894928 : True := trivial
theorem Mine.lawHolds.tw9283735432347137449 : True := trivial
theorem Mine.lawHolds.tw12645936313617726055 : True := trivial
theorem Mine.lawHolds.tw10891672871534032151 : True := trivial
theorem Mine.lawHolds.tw17799188471309573229 : True := trivial
theorem Mine.lawHolds.tw3716349470769916917 : True := trivial
theorem Mine.lawHolds.tw14606135339135137376 : True := trivial
theorem Mine.lawHolds.tw958816338077925513 : True := trivial
theorem Mine.lawHolds.tw12313151307795538518 : True := trivial
theorem Mine.lawHolds.tw17580844492024147389 : True := trivial
theorem Mine.lawHolds.tw1863873730700104092 : True := trivial
theorem Mine.lawHolds.tw8746958737185910263 : True := trivial
theorem Mine.lawHolds.tw573012246447302159 : True := trivial
theorem Mine.lawHolds.tw15191065300940919572 : True := trivial
theorem Mine.lawHolds.tw3208553929382268614 : True := trivial
theorem Mine.lawHolds.tw8900639152896353254 : True := trivial
theorem Mine.lawHolds.tw8390999225724153679 : True := trivial
theorem Mine.lawHolds.tw11933159201449152028 : True := trivial
theorem Mine.lawHolds.tw12872165760161609379 : True := trivial
theorem Mine.lawHolds.tw5822808784889516151 : True := trivial
theorem Mine.lawHolds.tw7110175838623840653 : True := trivial
theorem Mine.lawHolds.tw2889081702921819394 : True := trivial
theorem Mine.lawHolds.tw10603356475219874884 : True := trivial
theorem Mine.lawHolds.tw418481883825099079 : True := trivial
theorem Mine.lawHolds.tw13992149235375016293 : True := trivial
theorem Mine.lawHolds.tw11265579022542137618 : True := trivial
theorem Mine.lawHolds.tw11087290438049610692 : True := trivial
theorem Mine.lawHolds.tw13065042887871650252 : True := trivial
theorem Mine.lawHolds.tw17416608311581788227 : True := trivial
theorem Mine.lawHolds.tw3089505595838347547 : True := trivial
theorem Mine.lawHolds.tw1857279239660877643 : True := trivial
theorem Mine.lawHolds.tw2898968633659370985 : True := trivial
theorem Mine.lawHolds.tw8287733428295718275 : True := trivial
theorem Mine.lawHolds.tw16589884881723418819 : True := trivial
theorem Mine.lawHolds.tw6884536866730067197 : True := trivial
theorem Mine.lawHolds.tw8904700410337808668 : True := trivial
theorem Mine.lawHolds.tw9941789334925638517 : True := trivial
theorem Mine.lawHolds.tw7326028490742118359 : True := trivial
theorem Mine.lawHolds.tw3937663512536807403 : True := trivial
theorem Mine.lawHolds.tw9479949627097108808 : True := trivial
theorem Mine.lawHolds.tw13480273975353401596 : True := trivial
theorem Mine.lawHolds.tw13727370174231095259 : True := trivial
theorem Mine.lawHolds.tw5847791185412210459 : True := trivial
theorem Mine.lawHolds.tw15634049302220178364 : True := trivial
theorem Mine.lawHolds.tw11226538161815724754 : True := trivial
theorem Mine.lawHolds.tw4758166804675411707 : True := trivial
theorem Mine.lawHolds.tw17683253995816158333 : True := trivial
theorem Mine.lawHolds.tw7920922781627765256 : True := trivial
theorem Mine.lawHolds.tw7637340194816430406 : True := trivial
theorem Mine.lawHolds.tw3585000789219044691 : True := trivial
theorem Mine.lawHolds.tw7491988605617994138 : True := trivial
theorem Mine.lawHolds.tw10253022676475291657 : True := trivial
theorem Mine.lawHolds.tw12409588307455938445 : True := trivial
theorem Mine.lawHolds.tw7526899923330531657 : True := trivial
theorem Mine.lawHolds.tw824716792012921239 : True := trivial
theorem Mine.lawHolds.tw4250147052918553169 : True := trivial
theorem Mine.lawHolds.tw1379662315695675346 : True := trivial
theorem Mine.lawHolds.tw17627036295815329989 : True := trivial
theorem Mine.lawHolds.tw4711369059017837086 : True := trivial
theorem Mine.lawHolds.tw12940180828130673920 : True := trivial
theorem Mine.lawHolds.tw9538432092395075115 : True := trivial
theorem Mine.lawHolds.tw11590942368403873993 : True := trivial
theorem Mine.lawHolds.tw12161310587145413215 : True := trivial
theorem Mine.lawHolds.tw5251460411629579693 : True := trivial
theorem Mine.lawHolds.tw11013232028127092593 : True := trivial
theorem Mine.lawHolds.tw9743101882013756883 : True := trivial
theorem Mine.lawHolds.tw10026207901575917169 : True := trivial
theorem Mine.lawHolds.tw8854215052577789364 : True := trivial
theorem Mine.lawHolds.tw5563179818541585466 : True := trivial
theorem Mine.lawHolds.tw2745249659374323963 : True := trivial
theorem Mine.lawHolds.tw7902750748451944073 : True := trivial
theorem Mine.lawHolds.tw16733508278843171277 : True := trivial
theorem Mine.lawHolds.tw12394144191304455103 : True := trivial
theorem Mine.lawHolds.tw9154404750426360055 : True := trivial
theorem Mine.lawHolds.tw16492750577968461494 : True := trivial
theorem Mine.lawHolds.tw132713287601644620 : True := trivial
theorem Mine.lawHolds.tw8854520949246895859 : True := trivial
theorem Mine.lawHolds.tw1864998176827363418 : True := trivial
theorem Mine.lawHolds.tw8807569782136701776 : True := trivial
theorem Mine.lawHolds.tw8237933901816347384 : True := trivial
theorem Mine.lawHolds.tw13432995488264885929 : True := trivial
theorem Mine.lawHolds.tw4818586420757195818 : True := trivial
theorem Mine.lawHolds.tw13876891972399006346 : True := trivial
theorem Mine.lawHolds.tw9980999395261838896 : True := trivial
theorem Mine.lawHolds.tw1644984963148845440 : True := trivial
theorem Mine.lawHolds.tw17138445799730529213 : True := trivial
theorem Mine.lawHolds.tw870317248638280502 : True := trivial
theorem Mine.lawHolds.tw17605782957161901851 : True := trivial
theorem Mine.lawHolds.tw12451610821697623469 : True := trivial
theorem Mine.lawHolds.tw17200285026654680952 : True := trivial
theorem Mine.lawHolds.tw6525143350919063880 : True := trivial
theorem Mine.lawHolds.tw15218347484128889070 : True := trivial
theorem Mine.lawHolds.tw14678126690801363911 : True := trivial
theorem Mine.lawHolds.tw379321608406422519 : True := trivial
theorem Mine.lawHolds.tw1125864696666259300 : True := trivial
theorem Mine.lawHolds.tw2230051501244806201 : True := trivial
theorem Mine.lawHolds.tw16150288716779590951 : True := trivial
theorem Mine.lawHolds.tw16558054328233236275 : True := trivial
theorem Mine.lawHolds.tw6475831317350496760 : True := trivial
theorem Mine.lawHolds.tw9419897540685338154 : True := trivial
theorem Mine.lawHolds.tw10913343284398705272 : True := trivial
theorem Mine.lawHolds.tw5383176014578274102 : True := trivial
theorem Mine.lawHolds.tw15212971016778580304 : True := trivial
theorem Mine.lawHolds.tw17742158805028417256 : True := trivial
theorem Mine.lawHolds.tw1259719739767818414 : True := trivial
theorem Mine.lawHolds.tw10360380452735643100 : True := trivial
theorem Mine.lawHolds.tw745518955986759545 : True := trivial
theorem Mine.lawHolds.tw11441949303565852231 : True := trivial
theorem Mine.lawHolds.tw4876392581582413106 : True := trivial
theorem Mine.lawHolds.tw14987374337444041409 : True := trivial
theorem Mine.lawHolds.tw10010383743300166157 : True := trivial
theorem Mine.lawHolds.tw5872176846927352342 : True := trivial
theorem Mine.lawHolds.tw5923133086605544877 : True := trivial
theorem Mine.lawHolds.tw6958469327080774684 : True := trivial
theorem Mine.lawHolds.tw7527321632122944562 : True := trivial
theorem Mine.lawHolds.tw2023586366314971063 : True := trivial
theorem Mine.lawHolds.tw12670798336430921956 : True := trivial
theorem Mine.lawHolds.tw15351856136336840082 : True := trivial
theorem Mine.lawHolds.tw3027090925695502150 : True := trivial
theorem Mine.lawHolds.tw6949416072802191488 : True := trivial
theorem Mine.lawHolds.tw11446343597051439607 : True := trivial
theorem Mine.lawHolds.tw8502562660023313396 : True := trivial
theorem Mine.lawHolds.tw16744167049224294402 : True := trivial
theorem Mine.lawHolds.tw2256152078584001357 : True := trivial
theorem Mine.lawHolds.tw6473112537452286821 : True := trivial
theorem Mine.lawHolds.tw9168099255922738913 : True := trivial
theorem Mine.lawHolds.tw16830727827521202873 : True := trivial
theorem Mine.lawHolds.tw3725702545317443272 : True := trivial
theorem Mine.lawHolds.tw10884440645102322895 : True := trivial
theorem Mine.lawHolds.tw16677939339023762810 : True := trivial
theorem Mine.lawHolds.tw17057966694889907430 : True := trivial
theorem Mine.lawHolds.tw3519181490810302829 : True := trivial
theorem Mine.lawHolds.tw6032107367157105069 : True := trivial
theorem Mine.lawHolds.tw16814450259859565268 : True := trivial
theorem Mine.lawHolds.tw12351623432141966635 : True := trivial
theorem Mine.lawHolds.tw5764866315143911960 : True := trivial
theorem Mine.lawHolds.tw1041534831164630925 : True := trivial
theorem Mine.lawHolds.tw11494423086284098671 : True := trivial
theorem Mine.lawHolds.tw9677812889398296217 : True := trivial
theorem Mine.lawHolds.tw11703306871328263911 : True := trivial
theorem Mine.lawHolds.tw14952002489743697796 : True := trivial
theorem Mine.lawHolds.tw7743464249855371434 : True := trivial
theorem Mine.lawHolds.tw10427988772424504950 : True := trivial
theorem Mine.lawHolds.tw12943134039940270898 : True := trivial
theorem Mine.lawHolds.tw8348403621214864726 : True := trivial
theorem Mine.lawHolds.tw7220870881709196728 : True := trivial
theorem Mine.lawHolds.tw7222243045590920089 : True := trivial
theorem Mine.lawHolds.tw18378054760033727745 : True := trivial
theorem Mine.lawHolds.tw5475282288473509935 : True := trivial
theorem Mine.lawHolds.tw8538468556860566505 : True := trivial
theorem Mine.lawHolds.tw8964447326134618313 : True := trivial
theorem Mine.lawHolds.tw10015604315749727243 : True := trivial
theorem Mine.lawHolds.tw6656833201856367698 : True := trivial
theorem Mine.lawHolds.tw14777275726037759100 : True := trivial
theorem Mine.lawHolds.tw11884382419276143382 : True := trivial
theorem Mine.lawHolds.tw12653359496817659248 : True := trivial
theorem Mine.lawHolds.tw16855950435439353979 : True := trivial
theorem Mine.lawHolds.tw9256062126802273441 : True := trivial
theorem Mine.lawHolds.tw18106691883952470744 : True := trivial
theorem Mine.lawHolds.tw4299644959638364940 : True := trivial
theorem Mine.lawHolds.tw12386295688194053081 : True := trivial
theorem Mine.lawHolds.tw10560094172846230691 : True := trivial
theorem Mine.lawHolds.tw4886975687061724985 : True := trivial
theorem Mine.lawHolds.tw833646759687803722 : True := trivial
theorem Mine.lawHolds.tw5142308364001100597 : True := trivial
theorem Mine.lawHolds.tw9589654372708000429 : True := trivial
theorem Mine.lawHolds.tw7029797534964459781 : True := trivial
theorem Mine.lawHolds.tw17344714270350089220 : True := trivial
theorem Mine.lawHolds.tw11650496923716495299 : True := trivial
theorem Mine.lawHolds.tw5495008639871211784 : True := trivial
theorem Mine.lawHolds.tw11716969121449930221 : True := trivial
theorem Mine.lawHolds.tw12132859017009002365 : True := trivial
theorem Mine.lawHolds.tw17643500942528882256 : True := trivial
theorem Mine.lawHolds.tw10555480491832595201 : True := trivial
theorem Mine.lawHolds.tw14263503734437081852 : True := trivial
theorem Mine.lawHolds.tw4943776624736033586 : True := trivial
theorem Mine.lawHolds.tw16246801725393246519 : True := trivial
theorem Mine.lawHolds.tw4622510647679805750 : True := trivial
theorem Mine.lawHolds.tw6283452990244876033 : True := trivial
theorem Mine.lawHolds.tw7364698591097349633 : True := trivial
theorem Mine.lawHolds.tw3177316751161136107 : True := trivial
theorem Mine.lawHolds.tw3677893725103312496 : True := trivial
theorem Mine.lawHolds.tw4804785187621129189 : True := trivial
theorem Mine.lawHolds.tw8376617929349577055 : True := trivial
theorem Mine.lawHolds.tw15066112340517398296 : True := trivial
theorem Mine.lawHolds.tw14375197577252002546 : True := trivial
theorem Mine.lawHolds.tw11818271218642928019 : True := trivial
theorem Mine.lawHolds.tw6735566946925059653 : True := trivial
theorem Mine.lawHolds.tw11895530692436704877 : True := trivial
theorem Mine.lawHolds.tw4856770435498251446 : True := trivial
theorem Mine.lawHolds.tw9566831041771913483 : True := trivial
theorem Mine.lawHolds.tw16840081165839949168 : True := trivial
theorem Mine.lawHolds.tw9098281764442675949 : True := trivial
theorem Mine.lawHolds.tw12902998662650053209 : True := trivial
theorem Mine.lawHolds.tw15555104743564945315 : True := trivial
theorem Mine.lawHolds.tw12345223641916944227 : True := trivial
theorem Mine.lawHolds.tw17755299733024362870 : True := trivial
theorem Mine.lawHolds.tw3102031674646718685 : True := trivial
theorem Mine.lawHolds.tw7044366612017736428 : True := trivial
theorem Mine.lawHolds.tw5642309414294782794 : True := trivial
theorem Mine.lawHolds.tw17942498498889218980 : True := trivial
theorem Mine.lawHolds.tw12652285605974038072 : True := trivial
theorem Mine.lawHolds.tw7671376853799604973 : True := trivial
theorem Mine.lawHolds.tw11073369032376046816 : True := trivial
theorem Mine.lawHolds.tw11504012366276023561 : True := trivial
theorem Mine.lawHolds.tw6303741336466644261 : True := trivial
theorem Mine.lawHolds.tw1291640307916763454 : True := trivial
theorem Mine.lawHolds.tw17199761892795440027 : True := trivial
theorem Mine.lawHolds.tw13933274808000260644 : True := trivial
theorem Mine.lawHolds.tw1294517043515602856 : True := trivial
theorem Mine.lawHolds.tw16455713189487283236 : True := trivial
theorem Mine.lawHolds.tw7031382653808791233 : True := trivial
theorem Mine.lawHolds.tw16357997121711952720 : True := trivial
theorem Mine.lawHolds.tw13846711672517143935 : True := trivial
theorem Mine.lawHolds.tw13013070747229846622 : True := trivial
theorem Mine.lawHolds.tw11683382239776061656 : True := trivial
theorem Mine.lawHolds.tw9026119229739491138 : True := trivial
theorem Mine.lawHolds.tw15498341254653666675 : True := trivial
theorem Mine.lawHolds.tw15771082524767472237 : True := trivial
theorem Mine.lawHolds.tw16757807401271067430 : True := trivial
theorem Mine.lawHolds.tw14990473172062304353 : True := trivial
theorem Mine.lawHolds.tw9793200033400696502 : True := trivial
theorem Mine.lawHolds.tw13890954568289907098 : True := trivial
theorem Mine.lawHolds.tw4770699676949494931 : True := trivial
theorem Mine.lawHolds.tw16191721860756979514 : True := trivial
theorem Mine.lawHolds.tw2021616142126614579 : True := trivial
theorem Mine.lawHolds.tw10935665267686117745 : True := trivial
theorem Mine.lawHolds.tw1694565489418690067 : True := trivial
theorem Mine.lawHolds.tw3877857368423869012 : True := trivial
theorem Mine.lawHolds.tw17768148649100736560 : True := trivial
theorem Mine.lawHolds.tw11089956116736458050 : True := trivial
theorem Mine.lawHolds.tw14657849753216839565 : True := trivial
theorem Mine.lawHolds.tw1685887988788758674 : True := trivial
theorem Mine.lawHolds.tw6592430009057912410 : True := trivial
theorem Mine.lawHolds.tw8077491484119678955 : True := trivial
theorem Mine.lawHolds.tw16363120854940488487 : True := trivial
theorem Mine.lawHolds.tw1748540642860286274 : True := trivial
theorem Mine.lawHolds.tw12013126524620206304 : True := trivial
theorem Mine.lawHolds.tw5942300838666610903 : True := trivial
theorem Mine.lawHolds.tw18245137651057450642 : True := trivial
theorem Mine.lawHolds.tw4465748274216676812 : True := trivial
theorem Mine.lawHolds.tw4987848056086142082 : True := trivial
theorem Mine.lawHolds.tw15220622258723405876 : True := trivial
theorem Mine.lawHolds.tw16761977485661390197 : True := trivial
theorem Mine.lawHolds.tw4358798491842768148 : True := trivial
theorem Mine.lawHolds.tw11328832483964359498 : True := trivial
theorem Mine.lawHolds.tw282932087062490166 : True := trivial
theorem Mine.lawHolds.tw11909862892987232899 : True := trivial
theorem Mine.lawHolds.tw5631131164702850256 : True := trivial
theorem Mine.lawHolds.tw17482813040543084631 : True := trivial
theorem Mine.lawHolds.tw8585476314817504494 : True := trivial
theorem Mine.lawHolds.tw2275387261996735147 : True := trivial
theorem Mine.lawHolds.tw5721625954065692027 : True := trivial
theorem Mine.lawHolds.tw17049555356163554432 : True := trivial
theorem Mine.lawHolds.tw17304072130893034239 : True := trivial
theorem Mine.lawHolds.tw9308803525701179824 : True := trivial
theorem Mine.lawHolds.tw5040567715393126753 : True := trivial
theorem Mine.lawHolds.tw15888784623945234452 : True := trivial
theorem Mine.lawHolds.tw7171864172352716052 : True := trivial
theorem Mine.lawHolds.tw1266611184729747180 : True := trivial
theorem Mine.lawHolds.tw18032465494199311535 : True := trivial
theorem Mine.lawHolds.tw1762385930664139500 : True := trivial
theorem Mine.lawHolds.tw17187579780483284097 : True := trivial
theorem Mine.lawHolds.tw3902083090663799986 : True := trivial
theorem Mine.lawHolds.tw8669374393362561335 : True := trivial
theorem Mine.lawHolds.tw9216185859070538556 : True := trivial
theorem Mine.lawHolds.tw438708353517781551 : True := trivial
theorem Mine.lawHolds.tw2297365445614758100 : True := trivial
theorem Mine.lawHolds.tw3646477699529689249 : True := trivial
theorem Mine.lawHolds.tw9896997898216167782 : True := trivial
theorem Mine.lawHolds.tw5706377400387778216 : True := trivial
theorem Mine.lawHolds.tw9116826554615831559 : True := trivial
theorem Mine.lawHolds.tw1406045934515229742 : True := trivial
theorem Mine.lawHolds.tw4627406155398918639 : True := trivial
theorem Mine.lawHolds.tw10244654859161157765 : True := trivial
theorem Mine.lawHolds.tw4187590328488680035 : True := trivial
theorem Mine.lawHolds.tw15379910885377373884 : True := trivial
theorem Mine.lawHolds.tw475502400990879416 : True := trivial
theorem Mine.lawHolds.tw1081592302753355546 : True := trivial
theorem Mine.lawHolds.tw4636984482791193600 : True := trivial
theorem Mine.lawHolds.tw1775811954583156878 : True := trivial
theorem Mine.lawHolds.tw7177201937817120028 : True := trivial
theorem Mine.lawHolds.tw3940782375788491276 : True := trivial
theorem Mine.lawHolds.tw2580352651130832743 : True := trivial
theorem Mine.lawHolds.tw3876610043378440107 : True := trivial
theorem Mine.lawHolds.tw6131527337704790391 : True := trivial
theorem Mine.lawHolds.tw3686583483825466254 : True := trivial
theorem Mine.lawHolds.tw10268704326065604831 : True := trivial
theorem Mine.lawHolds.tw2793454525383400750 : True := trivial
theorem Mine.lawHolds.tw6914633552937293806 : True := trivial
theorem Mine.lawHolds.tw14944933384932756291 : True := trivial
theorem Mine.lawHolds.tw2750556205453954439 : True := trivial
theorem Mine.lawHolds.tw8147635708449912250 : True := trivial
theorem Mine.lawHolds.tw306429561784499662 : True := trivial
theorem Mine.lawHolds.tw7471884677543819961 : True := trivial
theorem Mine.lawHolds.tw3224109397228619394 : True := trivial
theorem Mine.lawHolds.tw1430728806713551355 : True := trivial
theorem Mine.lawHolds.tw9269069728039714017 : True := trivial
theorem Mine.lawHolds.tw10403448313213933933 : True := trivial
theorem Mine.lawHolds.tw8032640381094084974 : True := trivial
theorem Mine.lawHolds.tw10109580978217871347 : True := trivial
theorem Mine.lawHolds.tw8383424624968553394 : True := trivial
theorem Mine.lawHolds.tw8704491809384374439 : True := trivial
theorem Mine.lawHolds.tw1945206721455210986 : True := trivial
theorem Mine.lawHolds.tw18116759179414078902 : True := trivial
theorem Mine.lawHolds.tw643415312932696830 : True := trivial
theorem Mine.lawHolds.tw1387738286333398491 : True := trivial
theorem Mine.lawHolds.tw679443911717633120 : True := trivial
theorem Mine.lawHolds.tw2183191947472550112 : True := trivial
theorem Mine.lawHolds.tw282088612043265144 : True := trivial
theorem Mine.lawHolds.tw10693400512942847352 : True := trivial
theorem Mine.lawHolds.tw602145969881951775 : True := trivial
theorem Mine.lawHolds.tw4357214691792996412 : True := trivial
theorem Mine.lawHolds.tw5235307509557847864 : True := trivial
theorem Mine.lawHolds.tw13471622364188436372 : True := trivial
theorem Mine.lawHolds.tw16557734468274007088 : True := trivial
theorem Mine.lawHolds.tw7440775280823215334 : True := trivial
theorem Mine.lawHolds.tw16280705426141660079 : True := trivial
theorem Mine.lawHolds.tw762963370560261239 : True := trivial
theorem Mine.lawHolds.tw5956122426682270782 : True := trivial
theorem Mine.lawHolds.tw6772025969755059132 : True := trivial
theorem Mine.lawHolds.tw4830772338145414604 : True := trivial
theorem Mine.lawHolds.tw15643363751268650486 : True := trivial
theorem Mine.lawHolds.tw12314372820531932108 : True := trivial
theorem Mine.lawHolds.tw7340548550678438008 : True := trivial
theorem Mine.lawHolds.tw13359943362118870360 : True := trivial
theorem Mine.lawHolds.tw12433631727659697379 : True := trivial
theorem Mine.lawHolds.tw11086400966024999730 : True := trivial
theorem Mine.lawHolds.tw8555332514145134437 : True := trivial
theorem Mine.lawHolds.tw16705703501575822211 : True := trivial
theorem Mine.lawHolds.tw2296095784454366633 : True := trivial
theorem Mine.lawHolds.tw1303322638859767211 : True := trivial
theorem Mine.lawHolds.tw2507953052478916565 : True := trivial
theorem Mine.lawHolds.tw6193485864272561388 : True := trivial
theorem Mine.lawHolds.tw17445232550170909205 : True := trivial
theorem Mine.lawHolds.tw16713323754175602212 : True := trivial
theorem Mine.lawHolds.tw7106932212653079139 : True := trivial
theorem Mine.lawHolds.tw4689217001884353811 : True := trivial
theorem Mine.lawHolds.tw5016180456244632074 : True := trivial
theorem Mine.lawHolds.tw217351429324368585 : True := trivial
theorem Mine.lawHolds.tw578245382036970958 : True := trivial
theorem Mine.lawHolds.tw2981042163491365125 : True := trivial
theorem Mine.lawHolds.tw17236721902856125480 : True := trivial
theorem Mine.lawHolds.tw10257416474079642148 : True := trivial
theorem Mine.lawHolds.tw216999749516442180 : True := trivial
theorem Mine.lawHolds.tw54050461361831104 : True := trivial
theorem Mine.lawHolds.tw5470223259501852717 : True := trivial
theorem Mine.lawHolds.tw1549244069312082260 : True := trivial
theorem Mine.lawHolds.tw5586946229250446750 : True := trivial
theorem Mine.lawHolds.tw8289578882299320059 : True := trivial
theorem Mine.lawHolds.tw15107557373917246287 : True := trivial
theorem Mine.lawHolds.tw6564998830590918995 : True := trivial
theorem Mine.lawHolds.tw4812879324741517289 : True := trivial
theorem Mine.lawHolds.tw5150275093336290899 : True := trivial
theorem Mine.lawHolds.tw685430238533382581 : True := trivial
theorem Mine.lawHolds.tw7076843917930548077 : True := trivial
theorem Mine.lawHolds.tw5897606946384614306 : True := trivial
theorem Mine.lawHolds.tw1554946478850632465 : True := trivial
theorem Mine.lawHolds.tw10315377380057954058 : True := trivial
theorem Mine.lawHolds.tw5351499752934096542 : True := trivial
theorem Mine.lawHolds.tw11474756333285971969 : True := trivial
theorem Mine.lawHolds.tw13368606368777051604 : True := trivial
theorem Mine.lawHolds.tw985088206894779988 : True := trivial
theorem Mine.lawHolds.tw13015603129900340412 : True := trivial
theorem Mine.lawHolds.tw5044218977248575124 : True := trivial
theorem Mine.lawHolds.tw3519214243922796838 : True := trivial
theorem Mine.lawHolds.tw15087822043753028876 : True := trivial
theorem Mine.lawHolds.tw1141904187984692889 : True := trivial
theorem Mine.lawHolds.tw17847149063099953540 : True := trivial
theorem Mine.lawHolds.tw12135272606899192399 : True := trivial
theorem Mine.lawHolds.tw16162812150443105419 : True := trivial
theorem Mine.lawHolds.tw10852222642850972916 : True := trivial
theorem Mine.lawHolds.tw12962566472877103457 : True := trivial
theorem Mine.lawHolds.tw12312468224541317303 : True := trivial
theorem Mine.lawHolds.tw7623589788691313995 : True := trivial
theorem Mine.lawHolds.tw13677156659200926109 : True := trivial
theorem Mine.lawHolds.tw11245095971255025956 : True := trivial
theorem Mine.lawHolds.tw15799428576244264306 : True := trivial
theorem Mine.lawHolds.tw1502044197506939418 : True := trivial
theorem Mine.lawHolds.tw1408058685346307915 : True := trivial
theorem Mine.lawHolds.tw2381819871328098571 : True := trivial
theorem Mine.lawHolds.tw16031804091676043523 : True := trivial
theorem Mine.lawHolds.tw6679010177760630071 : True := trivial
theorem Mine.lawHolds.tw1247230388608789519 : True := trivial
theorem Mine.lawHolds.tw10419283514126461712 : True := trivial
theorem Mine.lawHolds.tw11152176442723888996 : True := trivial
theorem Mine.lawHolds.tw8416141875850996198 : True := trivial
theorem Mine.lawHolds.tw3351545124588644929 : True := trivial
theorem Mine.lawHolds.tw1422480273597999250 : True := trivial
theorem Mine.lawHolds.tw14510390243651142364 : True := trivial
theorem Mine.lawHolds.tw8966582101763220580 : True := trivial
theorem Mine.lawHolds.tw4081854651810230343 : True := trivial
theorem Mine.lawHolds.tw16121715334555284353 : True := trivial
theorem Mine.lawHolds.tw15223946043689983917 : True := trivial
theorem Mine.lawHolds.tw8883600630822063847 : True := trivial
theorem Mine.lawHolds.tw11013558106545549699 : True := trivial
theorem Mine.lawHolds.tw10897385504365415933 : True := trivial
theorem Mine.lawHolds.tw7710068496516768070 : True := trivial
theorem Mine.lawHolds.tw7391629397781947460 : True := trivial
theorem Mine.lawHolds.tw14258247299108757007 : True := trivial
theorem Mine.lawHolds.tw2387327196626031404 : True := trivial
theorem Mine.lawHolds.tw4630070396918679228 : True := trivial
theorem Mine.lawHolds.tw9483309024190086931 : True := trivial
theorem Mine.lawHolds.tw4246858520265179366 : True := trivial
theorem Mine.lawHolds.tw16298876068002087583 : True := trivial
theorem Mine.lawHolds.tw14711901453073325520 : True := trivial
theorem Mine.lawHolds.tw7270094680490783950 : True := trivial
theorem Mine.lawHolds.tw4800167016251788730 : True := trivial
theorem Mine.lawHolds.tw5041622366665949688 : True := trivial
theorem Mine.lawHolds.tw10077635085285931643 : True := trivial
theorem Mine.lawHolds.tw7955652362092697226 : True := trivial
theorem Mine.lawHolds.tw3041144341339086369 : True := trivial
theorem Mine.lawHolds.tw3917134020913673386 : True := trivial
theorem Mine.lawHolds.tw16720020724315041299 : True := trivial
theorem Mine.lawHolds.tw2955301869588814109 : True := trivial
theorem Mine.lawHolds.tw14430414373835452933 : True := trivial
theorem Mine.lawHolds.tw14299767227271395842 : True := trivial
theorem Mine.lawHolds.tw5664741604282403428 : True := trivial
theorem Mine.lawHolds.tw13643014078222049653 : True := trivial
theorem Mine.lawHolds.tw13650346707409072522 : True := trivial
theorem Mine.lawHolds.tw15255976102645713587 : True := trivial
theorem Mine.lawHolds.tw4322551358016031248 : True := trivial
theorem Mine.lawHolds.tw3052131326216486770 : True := trivial
theorem Mine.lawHolds.tw14038480709238441224 : True := trivial
theorem Mine.lawHolds.tw13570270947534319364 : True := trivial
theorem Mine.lawHolds.tw16472751895108372442 : True := trivial
theorem Mine.lawHolds.tw13145168554932206679 : True := trivial
theorem Mine.lawHolds.tw5500709388983887823 : True := trivial
theorem Mine.lawHolds.tw7835489670116685258 : True := trivial
theorem Mine.lawHolds.tw13523258102343716412 : True := trivial
theorem Mine.lawHolds.tw4705509337378581824 : True := trivial
theorem Mine.lawHolds.tw17070938776605717991 : True := trivial
theorem Mine.lawHolds.tw9780370194089412316 : True := trivial
theorem Mine.lawHolds.tw13542908527565135914 : True := trivial
theorem Mine.lawHolds.tw11716489752478196034 : True := trivial
theorem Mine.lawHolds.tw1404096574492070799 : True := trivial
theorem Mine.lawHolds.tw12223555159030054646 : True := trivial
theorem Mine.lawHolds.tw10198126365861399309 : True := trivial
theorem Mine.lawHolds.tw2444854664583513024 : True := trivial
theorem Mine.lawHolds.tw9170500132934123819 : True := trivial
theorem Mine.lawHolds.tw5414637035917994773 : True := trivial
theorem Mine.lawHolds.tw8561186892530193413 : True := trivial
theorem Mine.lawHolds.tw7590148472927709527 : True := trivial
theorem Mine.lawHolds.tw15875170719444205833 : True := trivial
theorem Mine.lawHolds.tw14018520881833256740 : True := trivial
theorem Mine.lawHolds.tw6907961015558098871 : True := trivial
theorem Mine.lawHolds.tw17293192453223313034 : True := trivial
theorem Mine.lawHolds.tw13372935090736617445 : True := trivial
theorem Mine.lawHolds.tw13345116927896498002 : True := trivial
theorem Mine.lawHolds.tw3296008106353943724 : True := trivial
theorem Mine.lawHolds.tw1788828920954229986 : True := trivial
theorem Mine.lawHolds.tw8721743952608801301 : True := trivial
theorem Mine.lawHolds.tw7536763892251345299 : True := trivial
theorem Mine.lawHolds.tw13031470361849745832 : True := trivial
theorem Mine.lawHolds.tw15414537572197772824 : True := trivial
theorem Mine.lawHolds.tw12976674636754672832 : True := trivial
theorem Mine.lawHolds.tw9220988812794301428 : True := trivial
theorem Mine.lawHolds.tw7287394761333739604 : True := trivial
theorem Mine.lawHolds.tw9280806298179625044 : True := trivial
theorem Mine.lawHolds.tw1087993957062912189 : True := trivial
theorem Mine.lawHolds.tw2466679738119146846 : True := trivial
theorem Mine.lawHolds.tw9897587183228687859 : True := trivial
theorem Mine.lawHolds.tw1170982955598019071 : True := trivial
theorem Mine.lawHolds.tw11247909150003432209 : True := trivial
theorem Mine.lawHolds.tw3427820984533303708 : True := trivial
theorem Mine.lawHolds.tw16864307437633962014 : True := trivial
theorem Mine.lawHolds.tw13850771730726531784 : True := trivial
theorem Mine.lawHolds.tw13387018468851857816 : True := trivial
theorem Mine.lawHolds.tw17755662159834847614 : True := trivial
theorem Mine.lawHolds.tw876374080342286982 : True := trivial
theorem Mine.lawHolds.tw1864021872271608367 : True := trivial
theorem Mine.lawHolds.tw168793367451075697 : True := trivial
theorem Mine.lawHolds.tw12177421357472153576 : True := trivial
theorem Mine.lawHolds.tw17611734267685956326 : True := trivial
theorem Mine.lawHolds.tw13328290884674326136 : True := trivial
theorem Mine.lawHolds.tw16659183711305432563 : True := trivial
theorem Mine.lawHolds.tw1583481312987289979 : True := trivial
theorem Mine.lawHolds.tw15522468171993674637 : True := trivial
theorem Mine.lawHolds.tw13362758963522162193 : True := trivial
theorem Mine.lawHolds.tw14734556510741608557 : True := trivial
theorem Mine.lawHolds.tw15867121373866329099 : True := trivial
theorem Mine.lawHolds.tw14582711980834192334 : True := trivial
theorem Mine.lawHolds.tw17449144007935177797 : True := trivial
theorem Mine.lawHolds.tw13170906893282765917 : True := trivial
theorem Mine.lawHolds.tw14415676526051787645 : True := trivial
theorem Mine.lawHolds.tw11935212624573780340 : True := trivial
theorem Mine.lawHolds.tw13545462494190272670 : True := trivial
theorem Mine.lawHolds.tw16082457254613155134 : True := trivial
theorem Mine.lawHolds.tw15450820718481286796 : True := trivial
theorem Mine.lawHolds.tw9039753311584496602 : True := trivial
theorem Mine.lawHolds.tw3632930294079784142 : True := trivial
theorem Mine.lawHolds.tw10018684559560622626 : True := trivial
theorem Mine.lawHolds.tw3347139176271011406 : True := trivial
theorem Mine.lawHolds.tw54621677081380357 : True := trivial
theorem Mine.lawHolds.tw1303395219725641035 : True := trivial
theorem Mine.lawHolds.tw2672757691348840283 : True := trivial
theorem Mine.lawHolds.tw16282178256291949222 : True := trivial
theorem Mine.lawHolds.tw12005852632321687083 : True := trivial
theorem Mine.lawHolds.tw3292077387799339234 : True := trivial
theorem Mine.lawHolds.tw17680451617601678767 : True := trivial
theorem Mine.lawHolds.tw8426304533302367552 : True := trivial
theorem Mine.lawHolds.tw15332655675990656009 : True := trivial
theorem Mine.lawHolds.tw6173978519480061872 : True := trivial
theorem Mine.lawHolds.tw13526059916986888303 : True := trivial
theorem Mine.lawHolds.tw17962291020732684711 : True := trivial
theorem Mine.lawHolds.tw16426968447329694456 : True := trivial
theorem Mine.lawHolds.tw12005885972104942577 : True := trivial
theorem Mine.lawHolds.tw7915247117100421662 : True := trivial
theorem Mine.lawHolds.tw4077066478027087267 : True := trivial
theorem Mine.lawHolds.tw6307812458423011546 : True := trivial
theorem Mine.lawHolds.tw559862420631571181 : True := trivial
theorem Mine.lawHolds.tw3281602783216678693 : True := trivial
theorem Mine.lawHolds.tw17023450420582583626 : True := trivial
theorem Mine.lawHolds.tw9479351593291995347 : True := trivial
theorem Mine.lawHolds.tw14609749197768736896 : True := trivial
theorem Mine.lawHolds.tw1470703641631350535 : True := trivial
theorem Mine.lawHolds.tw1929829453130675940 : True := trivial
theorem Mine.lawHolds.tw2402430901778746101 : True := trivial
theorem Mine.lawHolds.tw8941419105945480427 : True := trivial
theorem Mine.lawHolds.tw2865975846357085191 : True := trivial
theorem Mine.lawHolds.tw16821672491690411252 : True := trivial
theorem Mine.lawHolds.tw14877531317257746194 : True := trivial
theorem Mine.lawHolds.tw8784185859034274590 : True := trivial
theorem Mine.lawHolds.tw16682664523825969982 : True := trivial
theorem Mine.lawHolds.tw5505846111302382932 : True := trivial
theorem Mine.lawHolds.tw17038257040823575098 : True := trivial
theorem Mine.lawHolds.tw13865661511506183255 : True := trivial
theorem Mine.lawHolds.tw6049082435234593230 : True := trivial
theorem Mine.lawHolds.tw13073605465697816917 : True := trivial
theorem Mine.lawHolds.tw1631946114515850255 : True := trivial
theorem Mine.lawHolds.tw12483360760360963881 : True := trivial
theorem Mine.lawHolds.tw13536803044308806584 : True := trivial
theorem Mine.lawHolds.tw9847442278007707104 : True := trivial
theorem Mine.lawHolds.tw2574960517320663380 : True := trivial
theorem Mine.lawHolds.tw18173483493490159266 : True := trivial
theorem Mine.lawHolds.tw2212440751580896696 : True := trivial
theorem Mine.lawHolds.tw13407386409371363557 : True := trivial
theorem Mine.lawHolds.tw2559726554842858244 : True := trivial
theorem Mine.lawHolds.tw9774507250963092693 : True := trivial
theorem Mine.lawHolds.tw13133335274805421834 : True := trivial
theorem Mine.lawHolds.tw12623869861495888108 : True := trivial
theorem Mine.lawHolds.tw8533613989355903514 : True := trivial
theorem Mine.lawHolds.tw16302563650501311679 : True := trivial
theorem Mine.lawHolds.tw13051726503002712255 : True := trivial
theorem Mine.lawHolds.tw13395056017654913036 : True := trivial
theorem Mine.lawHolds.tw5075152977883814300 : True := trivial
theorem Mine.lawHolds.tw9106690235297665367 : True := trivial
theorem Mine.lawHolds.tw1968164889133937277 : True := trivial
theorem Mine.lawHolds.tw8658233414975896900 : True := trivial
theorem Mine.lawHolds.tw2525414905939984155 : True := trivial
theorem Mine.lawHolds.tw8131335163219143077 : True := trivial
theorem Mine.lawHolds.tw17448581668210575359 : True := trivial
theorem Mine.lawHolds.tw15668986772579808255 : True := trivial
theorem Mine.lawHolds.tw6910921537974808118 : True := trivial
theorem Mine.lawHolds.tw3060159644736464248 : True := trivial
theorem Mine.lawHolds.tw9130926464269882865 : True := trivial
theorem Mine.lawHolds.tw16911287978419231284 : True := trivial
theorem Mine.lawHolds.tw6928584675839924564 : True := trivial
theorem Mine.lawHolds.tw16692935753120349183 : True := trivial
theorem Mine.lawHolds.tw15643024089673185426 : True := trivial
theorem Mine.lawHolds.tw1113362088267258560 : True := trivial
theorem Mine.lawHolds.tw8437784463249580328 : True := trivial
theorem Mine.lawHolds.tw3812455429320312655 : True := trivial
theorem Mine.lawHolds.tw17247790194360783294 : True := trivial
theorem Mine.lawHolds.tw12829124269152288950 : True := trivial
theorem Mine.lawHolds.tw12142708120399449228 : True := trivial
theorem Mine.lawHolds.tw11018093889553405959 : True := trivial
theorem Mine.lawHolds.tw10438878100774992077 : True := trivial
theorem Mine.lawHolds.tw4582014439994389736 : True := trivial
theorem Mine.lawHolds.tw14166964666704056979 : True := trivial
theorem Mine.lawHolds.tw1637526545646883818 : True := trivial
theorem Mine.lawHolds.tw17738487849030856783 : True := trivial
theorem Mine.lawHolds.tw11271878184167083257 : True := trivial
theorem Mine.lawHolds.tw18034814313885366498 : True := trivial
theorem Mine.lawHolds.tw5142727392745721376 : True := trivial
theorem Mine.lawHolds.tw11754203741482140060 : True := trivial
theorem Mine.lawHolds.tw1001525087178195820 : True := trivial
theorem Mine.lawHolds.tw12130687624857021111 : True := trivial
theorem Mine.lawHolds.tw10516181722101581687 : True := trivial
theorem Mine.lawHolds.tw249886560027024644 : True := trivial
theorem Mine.lawHolds.tw4947309093440047938 : True := trivial
theorem Mine.lawHolds.tw4671206853398642463 : True := trivial
theorem Mine.lawHolds.tw10546900984316469808 : True := trivial
theorem Mine.lawHolds.tw3286743729066681509 : True := trivial
theorem Mine.lawHolds.tw9667340375004307785 : True := trivial
theorem Mine.lawHolds.tw13904138020572376255 : True := trivial
theorem Mine.lawHolds.tw538944872642426341 : True := trivial
theorem Mine.lawHolds.tw12642672359510086658 : True := trivial
theorem Mine.lawHolds.tw15844592592330234280 : True := trivial
theorem Mine.lawHolds.tw16904397502840747508 : True := trivial
theorem Mine.lawHolds.tw1597985004734224674 : True := trivial
theorem Mine.lawHolds.tw4161185480514474414 : True := trivial
theorem Mine.lawHolds.tw6196582306078652580 : True := trivial
theorem Mine.lawHolds.tw10742205652576331421 : True := trivial
theorem Mine.lawHolds.tw14401483124852372415 : True := trivial
theorem Mine.lawHolds.tw6720836327853612371 : True := trivial
theorem Mine.lawHolds.tw13979748858804126153 : True := trivial
theorem Mine.lawHolds.tw15398381321823902613 : True := trivial
theorem Mine.lawHolds.tw1740124975521004700 : True := trivial
theorem Mine.lawHolds.tw4534524214749018889 : True := trivial
theorem Mine.lawHolds.tw1793586046635549759 : True := trivial
theorem Mine.lawHolds.tw14359632493590264085 : True := trivial
theorem Mine.lawHolds.tw9722010130603978177 : True := trivial
theorem Mine.lawHolds.tw5039440770780317459 : True := trivial
theorem Mine.lawHolds.tw13254158584139202664 : True := trivial
theorem Mine.lawHolds.tw17464805054653370683 : True := trivial
theorem Mine.lawHolds.tw2885850822371976586 : True := trivial
theorem Mine.lawHolds.tw11983037768755949892 : True := trivial
theorem Mine.lawHolds.tw16273028988247208639 : True := trivial
theorem Mine.lawHolds.tw2532350659119444578 : True := trivial
theorem Mine.lawHolds.tw2037049204788917699 : True := trivial
theorem Mine.lawHolds.tw15852475529116789086 : True := trivial
theorem Mine.lawHolds.tw13433935156174390762 : True := trivial
theorem Mine.lawHolds.tw415814815848191806 : True := trivial
theorem Mine.lawHolds.tw7785568263313323137 : True := trivial
theorem Mine.lawHolds.tw6587533662485939419 : True := trivial
theorem Mine.lawHolds.tw490350417185280313 : True := trivial
theorem Mine.lawHolds.tw15496077368603640231 : True := trivial
theorem Mine.lawHolds.tw4193244570300060587 : True := trivial
theorem Mine.lawHolds.tw17673860261594178738 : True := trivial
theorem Mine.lawHolds.tw11773546804752804815 : True := trivial
theorem Mine.lawHolds.tw16973770765101696403 : True := trivial
theorem Mine.lawHolds.tw1465021605465907073 : True := trivial
theorem Mine.lawHolds.tw6102639019897564041 : True := trivial
theorem Mine.lawHolds.tw7784128340286301240 : True := trivial
theorem Mine.lawHolds.tw2194849248991132400 : True := trivial
theorem Mine.lawHolds.tw9847825161090593836 : True := trivial
theorem Mine.lawHolds.tw8158583733519254713 : True := trivial
theorem Mine.lawHolds.tw2673722004338402872 : True := trivial
theorem Mine.lawHolds.tw14440065332040642622 : True := trivial
theorem Mine.lawHolds.tw12775385300968592540 : True := trivial
theorem Mine.lawHolds.tw13618040267111954821 : True := trivial
theorem Mine.lawHolds.tw8469895608767849096 : True := trivial
theorem Mine.lawHolds.tw7030632236391154726 : True := trivial
theorem Mine.lawHolds.tw10034292700224096318 : True := trivial
theorem Mine.lawHolds.tw1384665991802088542 : True := trivial
theorem Mine.lawHolds.tw4010466412049466995 : True := trivial
theorem Mine.lawHolds.tw4258011038266014010 : True := trivial
theorem Mine.lawHolds.tw14764519398122693976 : True := trivial
theorem Mine.lawHolds.tw3119807806731625580 : True := trivial
theorem Mine.lawHolds.tw103449795156392933 : True := trivial
theorem Mine.lawHolds.tw5019093222766940217 : True := trivial
theorem Mine.lawHolds.tw9882386033547306830 : True := trivial
theorem Mine.lawHolds.tw9808445749475255998 : True := trivial
theorem Mine.lawHolds.tw1215548895003693582 : True := trivial
theorem Mine.lawHolds.tw14279622707707334619 : True := trivial
theorem Mine.lawHolds.tw18150769053281405504 : True := trivial
theorem Mine.lawHolds.tw12425624359820494310 : True := trivial
theorem Mine.lawHolds.tw7441860862667278225 : True := trivial
theorem Mine.lawHolds.tw9155165196668519496 : True := trivial
theorem Mine.lawHolds.tw12408583120840595783 : True := trivial
theorem Mine.lawHolds.tw11057954445231330528 : True := trivial
theorem Mine.lawHolds.tw829485428772649181 : True := trivial
theorem Mine.lawHolds.tw15671206247584013133 : True := trivial
theorem Mine.lawHolds.tw16389948583919747484 : True := trivial
theorem Mine.lawHolds.tw5099773357666278952 : True := trivial
theorem Mine.lawHolds.tw8746210404408380600 : True := trivial
theorem Mine.lawHolds.tw697636274310461344 : True := trivial
theorem Mine.lawHolds.tw3189280236312235301 : True := trivial
theorem Mine.lawHolds.tw17143789130599984428 : True := trivial
theorem Mine.lawHolds.tw13765806743035606418 : True := trivial
theorem Mine.lawHolds.tw283404715276281467 : True := trivial
theorem Mine.lawHolds.tw11708889807448834307 : True := trivial
theorem Mine.lawHolds.tw3783839587359067608 : True := trivial
theorem Mine.lawHolds.tw12170117006105993503 : True := trivial
theorem Mine.lawHolds.tw9242876712793009464 : True := trivial
theorem Mine.lawHolds.tw9104941174384365038 : True := trivial
theorem Mine.lawHolds.tw4473241099294723707 : True := trivial
theorem Mine.lawHolds.tw16722756186617000565 : True := trivial
theorem Mine.lawHolds.tw412743289511953027 : True := trivial
theorem Mine.lawHolds.tw10512556833267286034 : True := trivial
theorem Mine.lawHolds.tw14374795789461934822 : True := trivial
theorem Mine.lawHolds.tw13111306779685696709 : True := trivial
theorem Mine.lawHolds.tw14136184217253738760 : True := trivial
theorem Mine.lawHolds.tw1529441961089583616 : True := trivial
theorem Mine.lawHolds.tw16155171647235805161 : True := trivial
theorem Mine.lawHolds.tw11057093998689857925 : True := trivial
theorem Mine.lawHolds.tw18393420599338871879 : True := trivial
theorem Mine.lawHolds.tw7033668555155416166 : True := trivial
theorem Mine.lawHolds.tw6201990159014676099 : True := trivial
theorem Mine.lawHolds.tw4266215099900996348 : True := trivial
theorem Mine.lawHolds.tw16116487203181031870 : True := trivial
theorem Mine.lawHolds.tw12280243800038603318 : True := trivial
theorem Mine.lawHolds.tw7057539616576990181 : True := trivial
theorem Mine.lawHolds.tw16719139040075985457 : True := trivial
theorem Mine.lawHolds.tw18432325057105588671 : True := trivial
theorem Mine.lawHolds.tw18077027126384624360 : True := trivial
theorem Mine.lawHolds.tw4968886986144108439 : True := trivial
theorem Mine.lawHolds.tw13991737936431588439 : True := trivial
theorem Mine.lawHolds.tw11499038832539937382 : True := trivial
theorem Mine.lawHolds.tw14847113071618502297 : True := trivial
theorem Mine.lawHolds.tw12015534444700906323 : True := trivial
theorem Mine.lawHolds.tw5430416753190893386 : True := trivial
theorem Mine.lawHolds.tw9720997125201864549 : True := trivial
theorem Mine.lawHolds.tw12132637251968338004 : True := trivial
theorem Mine.lawHolds.tw14449915135018356787 : True := trivial
theorem Mine.lawHolds.tw10725005140752412731 : True := trivial
theorem Mine.lawHolds.tw15014771045962388423 : True := trivial
theorem Mine.lawHolds.tw13286496229460954375 : True := trivial
theorem Mine.lawHolds.tw13517711194422622634 : True := trivial
theorem Mine.lawHolds.tw10059355365708285838 : True := trivial
theorem Mine.lawHolds.tw2811448889310638534 : True := trivial
theorem Mine.lawHolds.tw5971948222753089648 : True := trivial
theorem Mine.lawHolds.tw9643823676270958078 : True := trivial
theorem Mine.lawHolds.tw18431266987332038999 : True := trivial
theorem Mine.lawHolds.tw11413172235925993162 : True := trivial
theorem Mine.lawHolds.tw5942215602495729794 : True := trivial
theorem Mine.lawHolds.tw16152210319573171041 : True := trivial
theorem Mine.lawHolds.tw2774812568354054367 : True := trivial
theorem Mine.lawHolds.tw6373204803323879131 : True := trivial
theorem Mine.lawHolds.tw654298918672713383 : True := trivial
theorem Mine.lawHolds.tw4690038532217271246 : True := trivial
theorem Mine.lawHolds.tw1564279107022329719 : True := trivial
theorem Mine.lawHolds.tw17655499532330887225 : True := trivial
theorem Mine.lawHolds.tw8220338884239855028 : True := trivial
theorem Mine.lawHolds.tw3079831209536431776 : True := trivial
theorem Mine.lawHolds.tw12734195639946214345 : True := trivial
theorem Mine.lawHolds.tw2482101883958665177 : True := trivial
theorem Mine.lawHolds.tw6524407305331224968 : True := trivial
theorem Mine.lawHolds.tw14015227301741547144 : True := trivial
theorem Mine.lawHolds.tw14715347266128942065 : True := trivial
theorem Mine.lawHolds.tw12495791551211104143 : True := trivial
theorem Mine.lawHolds.tw11725824538376154023 : True := trivial
theorem Mine.lawHolds.tw15700774532484838692 : True := trivial
theorem Mine.lawHolds.tw3823119232095985954 : True := trivial
theorem Mine.lawHolds.tw15625560659260809084 : True := trivial
set_option Elab.async true in
set_option maxRecDepth 100000 in
set_option maxHeartbeats 20000000 in
theorem Mine.lawHolds : PySem.Challenge.rw_bd5033_02.Holds := by
  (w_on; o_law; k_head; (case hw => w_witness2); w_strict (
  k_go0; (all_goals try k_fold)
  rename Fr _ _ _ _ => kF
  rename News _ _ _ _ => kN
  rename Frag.In _ _ => kX
  rename Top _ _ _ _ _ _ => kT
  rename Below _ _ _ _ => kB
  rename IntsAre _ _ => kI
  rename Heap.IsList _ _ _ => kL
  rename ¬ _ < _ => kC
  refine Mine.law_end kX kT kB kF kL kI kC ?sc ?hb ?hm ?Y ?X ?Z ?W ?Cp ?IC ?mk ?kk
  case X => exact (Mine.em_mk (by kernel_rfl!) (by kernel_rfl!) (by kernel_rfl!) (by kernel_rfl!) (by kernel_rfl!) (by kernel_rfl!) (by kernel_rfl!) (by kernel_rfl!) (by kernel_rfl!) (by kernel_rfl!) (by kernel_rfl!) (by kernel_rfl!) (by kernel_rfl!) (by kernel_rfl!) (by kernel_rfl!) (by kernel_rfl!) ⟨by kernel_rfl!, by kernel_rfl!, by kernel_rfl!, by kernel_rfl!⟩)
  case sc => kernel_rfl!
  case hb => kernel_rfl!
  case hm => kernel_rfl!
  case Y => exact (Mine.facts_mk (by kernel_rfl!) (by kernel_rfl!) (by kernel_rfl!) (by kernel_rfl!) (show _ = _ by kernel_rfl!) ⟨by kernel_rfl!, by kernel_rfl!, by kernel_rfl!, by kernel_rfl!⟩ (show _ = _ by kernel_rfl!) ⟨by kernel_rfl!, by kernel_rfl!, by kernel_rfl!, by kernel_rfl!⟩ (show _ = _ by kernel_rfl!) ⟨by kernel_rfl!, by kernel_rfl!, by kernel_rfl!, by kernel_rfl!⟩ (show _ = _ by kernel_rfl!) ⟨by kernel_rfl!, by kernel_rfl!, by kernel_rfl!, by kernel_rfl!⟩ (show _ = _ by kernel_rfl!) ⟨by kernel_rfl!, by kernel_rfl!, by kernel_rfl!, by kernel_rfl!⟩)
  case Z => exact (Mine.sa_mk (show _ = _ by kernel_rfl!) (by kernel_rfl!) (by kernel_rfl!) (by kernel_rfl!) (by kernel_rfl!) ⟨by kernel_rfl!, by kernel_rfl!, by kernel_rfl!, by kernel_rfl!⟩ (by kernel_rfl!) (by kernel_rfl!) (by kernel_rfl!) (by kernel_rfl!) (by kernel_rfl!))
  case W => exact (Mine.law_mk _ rfl ⟨by kernel_rfl!, by kernel_rfl!, by kernel_rfl!, by kernel_rfl!⟩ (by kernel_rfl!) (by kernel_rfl!) (by kernel_rfl!) (show _ = _ by kernel_rfl!) ⟨by kernel_rfl!, by kernel_rfl!, by kernel_rfl!, by kernel_rfl!⟩)
  case Cp => exact (Mine.pc_mk (show _ = _ by kernel_rfl!) (by kernel_rfl!) (by kernel_rfl!) (by kernel_rfl!) (by kernel_rfl!) (by kernel_rfl!))
  case IC => exact Mine.eiB_ok (by kernel_rfl!)
  case kk =>
    intro h tk m' news' F' N'
    k_steps
  case mk =>
    intro f wd r mm vv T₁ T₂ u₁ u₂ u₃ u₄ t m' h tk l₀ kF' kN' cont
    clear kF kN
    k_steps
    refine' cont _ _ _ _ _ _ _ _ _ _ _ _ _ _ _ _ ?c1 ?c2 ?c3 ?c4 ?c5 ?c6 ?c7 ?c8 ?c9 ?c10 ?c11 ?c12 ?c13 ?c14 ?c15 ?c16 ?c17 ?c18 ?c19 ?c20 ?c21 ?c22 ?c23 ?c24 ?c25 ?c26 ?c27 ?c28
    case c1 => k_asm
    case c2 => exact rfl
    case c3 => k_asm
    case c4 => first | assumption | omega
    case c5 => refine Mine.lt_all ?_; simp only [AllLt, and_true]; first | assumption | omega
    case c6 => exact rfl
    case c7 => exact rfl
    case c8 => exact rfl
    case c9 => exact rfl
    case c10 => exact rfl
    case c11 => exact rfl
    case c12 => k_mem
    case c13 => k_mem
    case c14 => assumption
    case c15 => first | (refine Eq.trans (by assumption) ?_; exact rfl) | assumption
    case c16 => k_mem
    case c17 => k_mem
    case c18 => assumption
    case c19 => kernel_rfl!
    case c20 => kernel_rfl!
    case c21 => assumption
    case c22 => assumption
    case c23 => refine Eq.trans (by assumption) ?_; exact rfl
    case c24 => refine Eq.trans (by assumption) ?_; exact rfl
    case c25 => assumption
    case c26 => exact rfl
    case c27 => exact rfl
    case c28 => exact rfl))
theorem PySem.Challenge.cw_bd5033_02_holds : PySem.Challenge.rw_bd5033_02.Holds :=
  Mine.lawHolds
