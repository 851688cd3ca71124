import PyProof.Rows.All
import Wide.All
import OpenK.AllK
import Wide.FinOn
import PySem.Challenge.RW_ph0027_01
open PySem PySem.W PyProof.Rows
set_option Elab.async false
set_option maxRecDepth 100000
set_option maxHeartbeats 8000000
set_option linter.unusedSimpArgs false
set_option linter.unusedVariables false
/-! Top27 -/
namespace Mine
open_top hd for PySem.Challenge.rw_ph0027_01
end Mine

/-! Core27 -/
namespace Mine
open PySem PySem.W PyProof.Rows PySem.Calls

abbrev PR : Program := PySem.Challenge.rw_ph0027_01.row.prog

def Sub (h h' : Heap) : Prop := ∀ b o, h.get? b = some o → h'.get? b = some o
theorem Sub.rfl {h : Heap} : Sub h h := fun _ _ e => e
theorem Sub.trans {a b c : Heap} (x : Sub a b) (y : Sub b c) : Sub a c := fun p o e => y p o (x p o e)
theorem Sub.push (h : Heap) (o : Obj) : Sub h (h.push o) := fun _ _ e => Heap.get?_push_of_some _ e

/-- what every call may lean on -/
structure Gd (w : World) (h : Heap) : Prop where
  X : (Mine.hd.heap_39 w.params).In h
  T : ∃ mean mg mb, Top Mine.hd.view_39 (looseW Mine.hd.view_39 []) mean mg mb h
theorem Gd.keeps {w : World} {h h' : Heap} (G : Gd w h) (k : Sub h h') : Gd w h' :=
  ⟨G.X.keeps k, let ⟨a, b, c, t⟩ := G.T; ⟨a, b, c, t.keeps k⟩⟩

/-- the plain values this program handles -/
inductive AV where
  | int (n : Int)
  | bool (b : Bool)
  | str (x : Str)
  | ints (l : List Int)
  | strs (l : List Str)
  | lls (l : List (List Int))
  | tab (D : List (Int × Int))
  | t2s (a b : Str)
  | t3 (a b c : Int)
  | t5 (a b c d : Int) (D : List (Int × Int))
  | rng (a b : Int)
  | raw (a : Addr)

def encT (D : List (Int × Int)) : List (PyData × PyData) := D.map fun p => (.int p.1, .int p.2)

/-- a list of lists of ints -/
inductive LlsAre (ok : Addr → Prop) (h : Heap) : List Value → List (List Int) → Prop
  | nil : LlsAre ok h [] []
  | cons {a : Addr} {us : List Value} {l : List Int} {vs : List Value} {ls : List (List Int)} : ok a → h.IsList a us.toArray → IntsAre us l → LlsAre ok h vs ls → LlsAre ok h (.ref a :: vs) (l :: ls)

def IsTab (w : World) (ok : Addr → Prop) (h : Heap) (D : List (Int × Int)) (v : Value) : Prop := ∃ a, v = .ref a ∧ ok a ∧ IntTab PR w h a (encT D)

def Is (w : World) (ok : Addr → Prop) (h : Heap) : AV → Value → Prop
  | .int n, v => ∃ t, v = .int n t
  | .bool b, v => v = .bool b
  | .str x, v => ∃ t, v = .str x t
  | .ints l, v => ∃ a vs, v = .ref a ∧ ok a ∧ h.IsList a (List.toArray vs) ∧ IntsAre vs l
  | .strs l, v => ∃ a vs, v = .ref a ∧ ok a ∧ h.IsList a (List.toArray vs) ∧ StrsAre vs l
  | .lls l, v => ∃ a vs, v = .ref a ∧ ok a ∧ h.IsList a (List.toArray vs) ∧ LlsAre ok h vs l
  | .tab D, v => IsTab w ok h D v
  | .t2s x y, v => ∃ a t1 t2, v = .ref a ∧ ok a ∧ IsTup h a #[.str x t1, .str y t2]
  | .t3 x y z, v => ∃ a t1 t2 t3, v = .ref a ∧ ok a ∧ IsTup h a #[.int x t1, .int y t2, .int z t3]
  | .t5 x y z u D, v => ∃ a t1 t2 t3 t4 d, v = .ref a ∧ ok a ∧ IsTab w ok h D d ∧ IsTup h a #[.int x t1, .int y t2, .int z t3, .int u t4, d]
  | .rng a b, v => ∃ r t1 t2 t3, v = .ref r ∧ ok r ∧ IsRange h r a b 1 t1 t2 t3
  | .raw a, v => v = .ref a

/-- all that bear ok and stand in h stand in h' -/
def OkSub (ok : Addr → Prop) (h h' : Heap) : Prop := ∀ b o, ok b → h.get? b = some o → h'.get? b = some o
theorem Sub.ok {h h' : Heap} {ok : Addr → Prop} (x : Sub h h') : OkSub ok h h' := fun b o _ e => x b o e

theorem isList_at {h h' : Heap} {a : Addr} {xs : Array Value} (x : h.IsList a xs) (k : ∀ o, h.get? a = some o → h'.get? a = some o) : h'.IsList a xs := let ⟨o, ho, r⟩ := x; ⟨o, k o ho, r⟩
theorem isTup_at {h h' : Heap} {a : Addr} {xs : Array Value} (x : IsTup h a xs) (k : ∀ o, h.get? a = some o → h'.get? a = some o) : IsTup h' a xs := let ⟨o, ho, r⟩ := x; ⟨o, k o ho, r⟩
theorem tab_at {w : World} {h h' : Heap} {a : Addr} {D : List (PyData × PyData)} (x : IntTab PR w h a D) (k : ∀ o, h.get? a = some o → h'.get? a = some o) : IntTab PR w h' a D :=
  let ⟨lo, kvs, hd, hf⟩ := x; ⟨lo, kvs, hd.at k, hf⟩
theorem LlsAre.mono {ok ok' : Addr → Prop} {h h' : Heap} (k : ∀ a o, ok a → h.get? a = some o → ok' a ∧ h'.get? a = some o) : ∀ {vs : List Value} {l : List (List Int)}, LlsAre ok h vs l → LlsAre ok' h' vs l
  | _, _, .nil => .nil
  | _, _, .cons h1 h2 h3 r => by
    obtain ⟨o, ho, rr⟩ := h2
    exact .cons (k _ o h1 ho).1 ⟨o, (k _ o h1 ho).2, rr⟩ h3 (r.mono k)
theorem IsTab.mono {w : World} {ok ok' : Addr → Prop} {h h' : Heap} (k : ∀ a o, ok a → h.get? a = some o → ok' a ∧ h'.get? a = some o) {D : List (Int × Int)} {v : Value} (x : IsTab w ok h D v) : IsTab w ok' h' D v := by
  obtain ⟨a, e, oa, T⟩ := x
  obtain ⟨o, ho⟩ := TabAt.old T
  exact ⟨a, e, (k a o oa ho).1, tab_at T fun o' e' => (k a o' oa e').2⟩
theorem Is.mono {w : World} {ok ok' : Addr → Prop} {h h' : Heap} (k : ∀ a o, ok a → h.get? a = some o → ok' a ∧ h'.get? a = some o) {V : AV} {v : Value} (x : Is w ok h V v) : Is w ok' h' V v := by
  cases V
  case «ints» l => obtain ⟨a, vs, e, oa, ⟨o, ho, r⟩, i⟩ := x; exact ⟨a, vs, e, (k a o oa ho).1, ⟨o, (k a o oa ho).2, r⟩, i⟩
  case «strs» l => obtain ⟨a, vs, e, oa, ⟨o, ho, r⟩, i⟩ := x; exact ⟨a, vs, e, (k a o oa ho).1, ⟨o, (k a o oa ho).2, r⟩, i⟩
  case «lls» l => obtain ⟨a, vs, e, oa, ⟨o, ho, r⟩, i⟩ := x; exact ⟨a, vs, e, (k a o oa ho).1, ⟨o, (k a o oa ho).2, r⟩, i.mono k⟩
  case tab D => exact IsTab.mono k x
  case t2s a b => obtain ⟨a, t1, t2, e, oa, ⟨o, ho, r⟩⟩ := x; exact ⟨a, t1, t2, e, (k a o oa ho).1, ⟨o, (k a o oa ho).2, r⟩⟩
  case t3 a b c => obtain ⟨a, t1, t2, t3, e, oa, ⟨o, ho, r⟩⟩ := x; exact ⟨a, t1, t2, t3, e, (k a o oa ho).1, ⟨o, (k a o oa ho).2, r⟩⟩
  case t5 a b c d D => obtain ⟨a, t1, t2, t3, t4, d, e, oa, hd, ⟨o, ho, r⟩⟩ := x; exact ⟨a, t1, t2, t3, t4, d, e, (k a o oa ho).1, hd.mono k, ⟨o, (k a o oa ho).2, r⟩⟩
  case rng a b => obtain ⟨r, t1, t2, t3, e, oa, hr⟩ := x; exact ⟨r, t1, t2, t3, e, (k r _ oa hr).1, (k r _ oa hr).2⟩
  all_goals exact x
theorem Is.sub {w : World} {ok : Addr → Prop} {h h' : Heap} (k : Sub h h') {V : AV} {v : Value} (x : Is w ok h V v) : Is w ok h' V v := x.mono fun a o oa e => ⟨oa, k a o e⟩
theorem Is.okSub {w : World} {ok : Addr → Prop} {h h' : Heap} (k : OkSub ok h h') {V : AV} {v : Value} (x : Is w ok h V v) : Is w ok h' V v := x.mono fun a o oa e => ⟨oa, k a o oa e⟩
theorem Is.weak {w : World} {ok ok' : Addr → Prop} {h : Heap} (k : ∀ a, ok a → ok' a) {V : AV} {v : Value} (x : Is w ok h V v) : Is w ok' h V v := x.mono fun a _ oa e => ⟨k a oa, e⟩

inductive IsAll (w : World) (ok : Addr → Prop) (h : Heap) : List AV → List Value → Prop
  | nil : IsAll w ok h [] []
  | cons {V : AV} {v : Value} {Vs : List AV} {vs : List Value} : Is w ok h V v → IsAll w ok h Vs vs → IsAll w ok h (V :: Vs) (v :: vs)
theorem IsAll.mono {w : World} {ok ok' : Addr → Prop} {h h' : Heap} (k : ∀ a o, ok a → h.get? a = some o → ok' a ∧ h'.get? a = some o) : ∀ {Vs : List AV} {vs : List Value}, IsAll w ok h Vs vs → IsAll w ok' h' Vs vs
  | _, _, .nil => .nil
  | _, _, .cons a r => .cons (a.mono k) (r.mono k)
theorem IsAll.sub {w : World} {ok : Addr → Prop} {h h' : Heap} (k : Sub h h') {V : List AV} {v : List Value} (x : IsAll w ok h V v) : IsAll w ok h' V v := x.mono fun a o oa e => ⟨oa, k a o e⟩

/-- the name x reads v, here and wherever the heap has grown -/
def Rd (w : World) (env : Env) (h : Heap) (x : Str) (v : Value) : Prop :=
  ∀ (A : Around) (E Q : Value → Shared → Prop) (s : Shared) (pos : Pos), Sub h s.heap → Q v s → wpAny (model PR w) A (eval (.Name x pos) env) Q E s
theorem Rd.sub {w : World} {env : Env} {h h' : Heap} {x : Str} {v : Value} (r : Rd w env h x v) (k : Sub h h') : Rd w env h' x v := fun A E Q s pos k' => r A E Q s pos (k.trans k')

/-- a callable: its value, how deep it calls, what it gives, what it asks -/
structure Fn where
  val : Value
  lvl : Nat
  den : List AV → Option AV
  pre : List AV → Prop

/-- what a call hands back -/
def Back (w : World) (ok : Addr → Prop) (s : Shared) (V : AV) (Q : Value → Shared → Prop) : Prop :=
  ∀ v h' tk, Sub s.heap h' → Is w ok h' V v → Q v { s with heap := h', toks := tk }

structure FnOk (w : World) (f : Fn) : Prop where
  call : ∀ (ok : Addr → Prop) (s : Shared) (A : Around) (E Q : Value → Shared → Prop) (Vs : List AV) (vs : List Value) (V : AV), Gd w s.heap → A.handled = none → A.depth + f.lvl < recursionLimit →
    (∀ a, s.heap.get? a = none → ok a) → IsAll w ok s.heap Vs vs → f.den Vs = some V → f.pre Vs → Back w ok s V Q → wpAny (model PR w) A (PySem.call f.val vs) Q E s
  with1 : ∀ (s : Shared) (A : Around) (E Q : Value → Shared → Prop) (env : Env) (e : Expr) (rest : List Expr) (pos : Pos), Gd w s.heap → starEach (e :: rest) env = (false, eval e env) :: starEach rest env → (backTo pos (starEach rest env)).any (·.1) = false →
    wpAny (model PR w) A (spliced (backTo pos (starEach (e :: rest) env))) (fun vs s₁ => Sub s.heap s₁.heap ∧ wpAny (model PR w) A (PySem.call f.val vs) Q E s₁) E s →
    wpAny (model PR w) A (callWith pos f.val [] (backTo pos (starEach (e :: rest) env)) []) Q E s

end Mine

/-! Ev27 -/
namespace Mine
open PySem PySem.W PyProof.Rows PySem.Calls

/-- a table's value at a key -/
def tget : List (Int × Int) → Int → Option Int
  | [], _ => none
  | (a, b) :: r, k => if a = k then some b else tget r k
theorem lookup_enc (k : Int) : ∀ D : List (Int × Int), PySem.Spec.lookup (.int k) (encT D) = (tget D k).map PyData.int
  | [] => rfl
  | (a, b) :: r => by
    show (if PySem.Spec.same (.int a) (.int k) then some (PyData.int b) else PySem.Spec.lookup (.int k) (encT r)) = _
    rw [PyProof.V.same_int, lookup_enc k r]
    simp only [tget]
    by_cases h : a = k <;> simp [h]

abbrev Rho := List (Str × AV)
abbrev Fns := List (Str × Fn)

def MulOk (a b : Int) : Prop := a.natAbs < 2 ^ 60 ∨ b.natAbs < 2 ^ 60
theorem MulOk.ok {a b : Int} (h : MulOk a b) : IntMulOk a b := by
  rcases h with h | h
  · exact IntMulOk.of_left (intBits_le_64 (by omega) (by omega))
  · exact IntMulOk.of_right (intBits_le_64 (by omega) (by omega))

def binP : Operator → AV → AV → Option (AV × Prop)
  | .Add, .int a, .int b => some (.int (a + b), True)
  | .Sub, .int a, .int b => some (.int (a - b), True)
  | .Mult, .int a, .int b => some (.int (a * b), MulOk a b)
  | .Mod, .int a, .int b => some (.int (a.fmod b), b ≠ 0)
  | .Add, .str x, .str y => some (.str (x ++ y), x.length + y.length ≤ 1000)
  | _, _, _ => none
def cmpP : CmpOp → AV → AV → Option AV
  | .Eq, .int a, .int b => some (.bool (a == b))
  | .NotEq, .int a, .int b => some (.bool (a != b))
  | .Lt, .int a, .int b => some (.bool (decide (a < b)))
  | .Gt, .int a, .int b => some (.bool (decide (b < a)))
  | .GtE, .int a, .int b => some (.bool (decide (b ≤ a)))
  | .Eq, .str x, .str y => some (.bool (x == y))
  | .NotEq, .str x, .str y => some (.bool (x != y))
  | _, _, _ => none
def subP : AV → AV → Option (AV × Prop)
  | .ints l, .int i => some (.int (l.getD i.toNat 0), 0 ≤ i ∧ i < l.length ∧ l.length < 1000)
  | .lls l, .int i => some (.ints (l.getD i.toNat []), 0 ≤ i ∧ i < l.length ∧ l.length < 1000)
  | .strs l, .int i => some (.str (l.getD i.toNat Str.empty), 0 ≤ i ∧ i < l.length ∧ l.length < 1000)
  | .tab D, .int i => some (.int ((tget D i).getD 0), (tget D i).isSome = true)
  | .t3 a b c, .int i => some (.int (if i = 0 then a else if i = 1 then b else c), 0 ≤ i ∧ i < 3)
  | .str x, .int i => some (.str ⟨#[x.cps.getD i.toNat 0]⟩, 0 ≤ i ∧ i < x.length ∧ x.length < 1000)
  | _, _ => none
def isSl : Expr → Bool
  | .Slice .. => true
  | _ => false

def intOf : AV → Option Int
  | .int a => some a
  | _ => none
def strOf : AV → Option Str
  | .str a => some a
  | _ => none
theorem intOf_some {V : AV} {a : Int} (h : intOf V = some a) : V = .int a := by
  cases V <;> first | (cases h; rfl) | cases h
theorem strOf_some {V : AV} {a : Str} (h : strOf V = some a) : V = .str a := by
  cases V <;> first | (cases h; rfl) | cases h
def optCons {α : Type} : Option α → Option (List α) → Option (List α)
  | some a, some l => some (a :: l)
  | _, _ => none
theorem optCons_some {α : Type} {a : Option α} {l : Option (List α)} {r : List α} (h : optCons a l = some r) : ∃ a' l', a = some a' ∧ l = some l' ∧ r = a' :: l' := by
  cases a with
  | none => cases h
  | some a =>
    cases l with
    | none => cases h
    | some l => cases h; exact ⟨a, l, rfl, rfl, rfl⟩
def intsP : List AV → Option (List Int)
  | [] => some []
  | V :: r => optCons (intOf V) (intsP r)
def strsP : List AV → Option (List Str)
  | [] => some []
  | V :: r => optCons (strOf V) (strsP r)
def tabOf : AV → Option (List (Int × Int))
  | .tab D => some D
  | _ => none
theorem tabOf_some {V : AV} {D : List (Int × Int)} (h : tabOf V = some D) : V = .tab D := by
  cases V <;> first | (cases h; rfl) | cases h
def t2P : Option Str → Option Str → Option AV
  | some a, some b => some (.t2s a b)
  | _, _ => none
def t3P : Option Int → Option Int → Option Int → Option AV
  | some a, some b, some c => some (.t3 a b c)
  | _, _, _ => none
def t5P : Option Int → Option Int → Option Int → Option Int → Option (List (Int × Int)) → Option AV
  | some a, some b, some c, some d, some D => some (.t5 a b c d D)
  | _, _, _, _, _ => none
def tupP : List AV → Option AV
  | [u, v] => t2P (strOf u) (strOf v)
  | [u, v, x] => t3P (intOf u) (intOf v) (intOf x)
  | [u, v, x, y, z] => t5P (intOf u) (intOf v) (intOf x) (intOf y) (tabOf z)
  | _ => none
theorem t2P_some {u v : AV} {V : AV} (h : t2P (strOf u) (strOf v) = some V) : ∃ a b, u = .str a ∧ v = .str b ∧ V = .t2s a b := by
  cases h1 : strOf u with
  | none => rw [h1] at h; cases h
  | some a =>
    cases h2 : strOf v with
    | none => rw [h1, h2] at h; cases h
    | some b => rw [h1, h2] at h; cases h; exact ⟨a, b, strOf_some h1, strOf_some h2, rfl⟩
theorem t3P_some {u v x : AV} {V : AV} (h : t3P (intOf u) (intOf v) (intOf x) = some V) : ∃ a b c, u = .int a ∧ v = .int b ∧ x = .int c ∧ V = .t3 a b c := by
  cases h1 : intOf u with
  | none => rw [h1] at h; cases h
  | some a =>
    cases h2 : intOf v with
    | none => rw [h1, h2] at h; cases h
    | some b =>
      cases h3 : intOf x with
      | none => rw [h1, h2, h3] at h; cases h
      | some c => rw [h1, h2, h3] at h; cases h; exact ⟨a, b, c, intOf_some h1, intOf_some h2, intOf_some h3, rfl⟩
theorem t5P_some {u v x y z : AV} {V : AV} (h : t5P (intOf u) (intOf v) (intOf x) (intOf y) (tabOf z) = some V) : ∃ a b c d D, u = .int a ∧ v = .int b ∧ x = .int c ∧ y = .int d ∧ z = .tab D ∧ V = .t5 a b c d D := by
  cases h1 : intOf u with
  | none => rw [h1] at h; cases h
  | some a =>
    cases h2 : intOf v with
    | none => rw [h1, h2] at h; cases h
    | some b =>
      cases h3 : intOf x with
      | none => rw [h1, h2, h3] at h; cases h
      | some c =>
        cases h4 : intOf y with
        | none => rw [h1, h2, h3, h4] at h; cases h
        | some d =>
          cases h5 : tabOf z with
          | none => rw [h1, h2, h3, h4, h5] at h; cases h
          | some D => rw [h1, h2, h3, h4, h5] at h; cases h; exact ⟨a, b, c, d, D, intOf_some h1, intOf_some h2, intOf_some h3, intOf_some h4, tabOf_some h5, rfl⟩
def listP (l : List AV) : Option AV := match intsP l with
  | some r => some (.ints r)
  | none => (strsP l).map .strs

def conP : Const → Option (AV × Prop)
  | .int i => some (.int i, True)
  | .str x => some (.str x, True)
  | _ => none
def two2 (a b : Option (AV × Prop)) (f : AV → AV → Option (AV × Prop)) : Option (AV × Prop) := match a, b with
  | some (a, P), some (b, P') => (f a b).map fun c => (c.1, P ∧ P' ∧ c.2)
  | _, _ => none
def two1 (a b : Option (AV × Prop)) (f : AV → AV → Option AV) : Option (AV × Prop) := match a, b with
  | some (a, P), some (b, P') => (f a b).map fun c => (c, P ∧ P')
  | _, _ => none
def intQ : Option (AV × Prop) → Option (Int × Prop)
  | none => none
  | some (V, P) => (intOf V).map fun a => (a, P)
def partP (f : Expr → Option (AV × Prop)) : Option Expr → Option (Option Int × Prop)
  | none => some (none, True)
  | some e => (intQ (f e)).map fun a => (some a.1, a.2)

def negP : UnaryOp → Option (AV × Prop) → Option (AV × Prop)
  | .USub, r => (intQ r).map fun a => (.int (-a.1), a.2)
  | _, _ => none
def oneOf {α : Type} : List α → Option α
  | [a] => some a
  | _ => none
def slOf : Expr → Option (Option Expr × Option Expr × Option Expr)
  | .Slice lo hi st _ => some (lo, hi, st)
  | _ => none
def nmOf : Expr → Option Str
  | .Name f _ => some f
  | _ => none
def listOf : AV → Option (List Int)
  | .ints l => some l
  | _ => none
def listQ : Option (AV × Prop) → Option (List Int × Prop)
  | none => none
  | some (V, P) => (listOf V).map fun a => (a, P)
def slP (v : Option (List Int × Prop)) (lo hi st : Option (Option Int × Prop)) : Option (AV × Prop) := match v, lo, hi, st with
  | some (l, P), some (a, Pa), some (b, Pb), some (c, Pc) => some (.ints (pickNums l a b c), P ∧ Pa ∧ Pb ∧ Pc ∧ c ≠ some 0 ∧ l.length ≤ 1000000)
  | _, _, _, _ => none
def callP (F : Option Fn) (r : Option (List AV × Prop)) : Option (AV × Prop) := match F, r with
  | some F, some (Vs, P) => (F.den Vs).map fun V => (V, P ∧ F.pre Vs)
  | _, _ => none
def dictP (a b : Option (Int × Prop)) : Option (AV × Prop) := match a, b with
  | some (a, P), some (b, P') => some (.tab [(a, b)], P ∧ P')
  | _, _ => none
def evS (fs : Fns) (ρ : Rho) (ev : Expr → Option (AV × Prop)) : Expr → Option (AV × Prop)
  | .Name x _ => (ρ.lookup x).map fun V => (V, True)
  | .Constant c _ _ => conP c
  | .BinOp l op r _ => two2 (ev l) (ev r) (binP op)
  | .UnaryOp op x _ => negP op (ev x)
  | .Compare l ops rs _ => match oneOf ops, oneOf rs with
    | some op, some r => two1 (ev l) (ev r) (cmpP op)
    | _, _ => none
  | .Subscript v i _ => match slOf i with
    | some (lo, hi, st) => slP (listQ (ev v)) (partP ev lo) (partP ev hi) (partP ev st)
    | none => two2 (ev v) (ev i) subP
  | .Call f es ks _ => match nmOf f, es, ks with
    | some f, e :: es, [] => callP (fs.lookup f) ((e :: es).foldr (fun e acc => match ev e, acc with | some (a, P), some (l, P') => some (a :: l, P ∧ P') | _, _ => none) (some ([], True)))
    | _, _, _ => none
  | .Tuple es _ _ => match es.foldr (fun e acc => match ev e, acc with | some (a, P), some (l, P') => some (a :: l, P ∧ P') | _, _ => none) (some ([], True)) with
    | some (Vs, P) => (tupP Vs).map fun V => (V, P)
    | none => none
  | .List es _ => match es with
    | [] => none
    | e :: es => match (e :: es).foldr (fun e acc => match ev e, acc with | some (a, P), some (l, P') => some (a :: l, P ∧ P') | _, _ => none) (some ([], True)) with
      | some (Vs, P) => (listP Vs).map fun V => (V, P ∧ Vs.length ≤ 1000)
      | none => none
  | .Dict ks vs _ => match ks, vs with
    | [], [] => some (.tab [], True)
    | [some k], [v] => dictP (intQ (ev k)) (intQ (ev v))
    | _, _ => none
  | _ => none
def evP (fs : Fns) (ρ : Rho) : Nat → Expr → Option (AV × Prop)
  | 0, _ => none
  | n + 1, e => evS fs ρ (evP fs ρ n) e

theorem two2_some {a b : Option (AV × Prop)} {f : AV → AV → Option (AV × Prop)} {V : AV} {P : Prop} (h : two2 a b f = some (V, P)) : ∃ x P1 y P2 P3, a = some (x, P1) ∧ b = some (y, P2) ∧ f x y = some (V, P3) ∧ P = (P1 ∧ P2 ∧ P3) := by
  match a, b with
  | some (x, P1), some (y, P2) =>
    obtain ⟨c, hc, e⟩ := Option.map_eq_some_iff.mp (show (f x y).map _ = some (V, P) from h)
    cases e; exact ⟨x, P1, y, P2, c.2, rfl, rfl, hc, rfl⟩
  | none, _ => cases h
  | some _, none => cases h
theorem two1_some {a b : Option (AV × Prop)} {f : AV → AV → Option AV} {V : AV} {P : Prop} (h : two1 a b f = some (V, P)) : ∃ x P1 y P2, a = some (x, P1) ∧ b = some (y, P2) ∧ f x y = some V ∧ P = (P1 ∧ P2) := by
  match a, b with
  | some (x, P1), some (y, P2) =>
    obtain ⟨c, hc, e⟩ := Option.map_eq_some_iff.mp (show (f x y).map _ = some (V, P) from h)
    cases e; exact ⟨x, P1, y, P2, rfl, rfl, hc, rfl⟩
  | none, _ => cases h
  | some _, none => cases h
theorem intQ_some {r : Option (AV × Prop)} {a : Int} {P : Prop} (h : intQ r = some (a, P)) : r = some (.int a, P) := by
  match r with
  | none => cases h
  | some (V, P') =>
    obtain ⟨c, hc, e⟩ := Option.map_eq_some_iff.mp (show (intOf V).map _ = some (a, P) from h)
    cases e; rw [intOf_some hc]
theorem listQ_some {r : Option (AV × Prop)} {a : List Int} {P : Prop} (h : listQ r = some (a, P)) : r = some (.ints a, P) := by
  match r with
  | none => cases h
  | some (V, P') =>
    obtain ⟨c, hc, e⟩ := Option.map_eq_some_iff.mp (show (listOf V).map _ = some (a, P) from h)
    have hv : V = .ints c := by cases V <;> first | (cases hc; rfl) | cases hc
    cases e; rw [hv]
theorem oneOf_some {α : Type} {l : List α} {a : α} (h : oneOf l = some a) : l = [a] := by
  match l with
  | [] => cases h
  | [b] => cases h; rfl
  | _ :: _ :: _ => cases h
theorem slOf_some {i : Expr} {r : Option Expr × Option Expr × Option Expr} (h : slOf i = some r) : ∃ q, i = .Slice r.1 r.2.1 r.2.2 q := by
  cases i <;> first | (cases h; exact ⟨_, rfl⟩) | cases h
theorem slOf_none {i : Expr} (h : slOf i = none) : isSl i = false := by
  cases i <;> first | rfl | cases h
theorem nmOf_some {i : Expr} {f : Str} (h : nmOf i = some f) : ∃ q, i = .Name f q := by
  cases i <;> first | (cases h; exact ⟨_, rfl⟩) | cases h
theorem call_none {fs : Fns} {ρ : Rho} {ev : Expr → Option (AV × Prop)} {f : Expr} {es : List Expr} {ks : List Keyword} {pos : Pos} (hf : nmOf f = none) : evS fs ρ ev (.Call f es ks pos) = none := by
  cases f <;> first | rfl | cases hf
theorem slP_some {v : Option (List Int × Prop)} {lo hi st : Option (Option Int × Prop)} {V : AV} {P : Prop} (h : slP v lo hi st = some (V, P)) : ∃ l P1 a Pa b Pb c Pc, v = some (l, P1) ∧ lo = some (a, Pa) ∧ hi = some (b, Pb) ∧ st = some (c, Pc) ∧ V = .ints (pickNums l a b c) ∧ P = (P1 ∧ Pa ∧ Pb ∧ Pc ∧ c ≠ some 0 ∧ l.length ≤ 1000000) := by
  match v, lo, hi, st with
  | some (l, P1), some (a, Pa), some (b, Pb), some (c, Pc) => cases h; exact ⟨_, _, _, _, _, _, _, _, rfl, rfl, rfl, rfl, rfl, rfl⟩
  | none, _, _, _ => cases h
  | some _, none, _, _ => cases h
  | some _, some _, none, _ => cases h
  | some _, some _, some _, none => cases h
theorem callP_some {F : Option Fn} {r : Option (List AV × Prop)} {V : AV} {P : Prop} (h : callP F r = some (V, P)) : ∃ G Vs P1, F = some G ∧ r = some (Vs, P1) ∧ G.den Vs = some V ∧ P = (P1 ∧ G.pre Vs) := by
  match F, r with
  | some G, some (Vs, P1) =>
    obtain ⟨c, hc, e⟩ := Option.map_eq_some_iff.mp (show (G.den Vs).map _ = some (V, P) from h)
    cases e; exact ⟨G, Vs, P1, rfl, rfl, hc, rfl⟩
  | none, _ => cases h
  | some _, none => cases h
theorem dictP_some {a b : Option (Int × Prop)} {V : AV} {P : Prop} (h : dictP a b = some (V, P)) : ∃ x P1 y P2, a = some (x, P1) ∧ b = some (y, P2) ∧ V = .tab [(x, y)] ∧ P = (P1 ∧ P2) := by
  match a, b with
  | some (x, P1), some (y, P2) => cases h; exact ⟨_, _, _, _, rfl, rfl, rfl, rfl⟩
  | none, _ => cases h
  | some _, none => cases h

structure EnvOk (w : World) (ok : Addr → Prop) (lv : Nat) (env : Env) (h : Heap) (fs : Fns) (ρ : Rho) : Prop where
  vars : ∀ x V, ρ.lookup x = some V → ∃ v, Rd w env h x v ∧ Is w ok h V v
  fns : ∀ f F, fs.lookup f = some F → Rd w env h f F.val ∧ FnOk w F ∧ F.lvl ≤ lv
  gd : Gd w h
  fresh : ∀ a, h.get? a = none → ok a
theorem EnvOk.sub {w : World} {ok : Addr → Prop} {lv : Nat} {env : Env} {h h' : Heap} {fs : Fns} {ρ : Rho} (x : EnvOk w ok lv env h fs ρ) (k : Sub h h') : EnvOk w ok lv env h' fs ρ where
  vars := fun y V e => let ⟨v, r, i⟩ := x.vars y V e; ⟨v, r.sub k, i.sub k⟩
  fns := fun f F e => let ⟨r, o⟩ := x.fns f F e; ⟨r.sub k, o⟩
  gd := x.gd.keeps k
  fresh := fun a e => x.fresh a (by
    cases q : h.get? a with
    | none => rfl
    | some o => rw [k a o q] at e; cases e)

theorem starEach_of {fs : Fns} {ρ : Rho} {n : Nat} {e : Expr} {r : AV × Prop} (h : evP fs ρ n e = some r) (rest : List Expr) (env : Env) : starEach (e :: rest) env = (false, eval e env) :: starEach rest env := by
  cases n with
  | zero => simp [evP] at h
  | succ n => cases e <;> first | rfl | cases h
theorem behind_of {fs : Fns} {ρ : Rho} {n : Nat} {e : Expr} {r : AV × Prop} (op : CmpOp) (h : evP fs ρ n e = some r) : behindInMarks op e = false := by
  cases n with
  | zero => simp [evP] at h
  | succ n => cases e <;> first | rfl | cases h
theorem subscripted_of {e : Expr} {o i : Value} (h : isSl e = false) : subscripted e false o i = operate [o, i] (getItem o i) := by
  cases e <;> first | rfl | (simp [isSl] at h)

def subOps (st : Option Expr) (o i : Value) : List Value := match st with
  | none => [i, o]
  | some _ => [o, i]
section
variable {w : World} {ok : Addr → Prop} {A : Around} {E Q : Value → Shared → Prop} {s : Shared}

theorem bin_sound {op : Operator} {a b c : AV} {P : Prop} {u v : Value} (h : binP op a b = some (c, P)) (hP : P) (ha : Is w ok s.heap a u) (hb : Is w ok s.heap b v) (k : Back w ok s c Q) :
    wpAny (model PR w) A (binaryOp op u v) Q E s := by
  unfold binP at h
  split at h
  · cases h; obtain ⟨_, rfl⟩ := ha; obtain ⟨_, rfl⟩ := hb; exact PySem.P.add_int (k _ _ _ Sub.rfl ⟨_, rfl⟩)
  · cases h; obtain ⟨_, rfl⟩ := ha; obtain ⟨_, rfl⟩ := hb; exact PySem.P.sub_int (k _ _ _ Sub.rfl ⟨_, rfl⟩)
  · cases h; obtain ⟨_, rfl⟩ := ha; obtain ⟨_, rfl⟩ := hb; exact PySem.P.mul_int (k _ _ _ Sub.rfl ⟨_, rfl⟩) hP.ok
  · cases h; obtain ⟨_, rfl⟩ := ha; obtain ⟨_, rfl⟩ := hb; exact mod_int' hP (k _ _ _ Sub.rfl ⟨_, rfl⟩)
  · cases h; obtain ⟨_, rfl⟩ := ha; obtain ⟨_, rfl⟩ := hb
    exact add_str (fun t' tk => k _ _ _ Sub.rfl ⟨_, rfl⟩) (Nat.le_trans hP (by rw [sizeLine_eq]; decide))
  · cases h
theorem cmp_sound {op : CmpOp} {a b c : AV} {u v : Value} (h : cmpP op a b = some c) (ha : Is w ok s.heap a u) (hb : Is w ok s.heap b v) (k : Back w ok s c Q) :
    wpAny (model PR w) A (compareOp op u v) Q E s := by
  unfold cmpP at h
  split at h
  · cases h; obtain ⟨_, rfl⟩ := ha; obtain ⟨_, rfl⟩ := hb; exact PySem.P.eq_int (k _ _ _ Sub.rfl rfl)
  · cases h; obtain ⟨_, rfl⟩ := ha; obtain ⟨_, rfl⟩ := hb; exact PySem.P.ne_int (k _ _ _ Sub.rfl rfl)
  · cases h; obtain ⟨_, rfl⟩ := ha; obtain ⟨_, rfl⟩ := hb; exact PySem.P.lt_int (k _ _ _ Sub.rfl rfl)
  · cases h; obtain ⟨_, rfl⟩ := ha; obtain ⟨_, rfl⟩ := hb; exact PySem.P.gt_int (k _ _ _ Sub.rfl rfl)
  · cases h; obtain ⟨_, rfl⟩ := ha; obtain ⟨_, rfl⟩ := hb; exact PySem.P.ge_int (k _ _ _ Sub.rfl rfl)
  · cases h; obtain ⟨_, rfl⟩ := ha; obtain ⟨_, rfl⟩ := hb; exact PyProof.Rows.eq_str (k _ _ _ Sub.rfl rfl)
  · cases h; obtain ⟨_, rfl⟩ := ha; obtain ⟨_, rfl⟩ := hb; exact PyProof.Rows.ne_str (k _ _ _ Sub.rfl rfl)
  · cases h

theorem LlsAre.get {h : Heap} : ∀ {vs : List Value} {ls : List (List Int)}, LlsAre ok h vs ls → ∀ (i : Nat) (l : List Int), ls[i]? = some l → ∃ a us, vs[i]? = some (.ref a) ∧ ok a ∧ h.IsList a (List.toArray us) ∧ IntsAre us l
  | _, _, .cons h1 h2 h3 _, 0, l, e => by simp at e; subst e; exact ⟨_, _, rfl, h1, h2, h3⟩
  | _, _, .cons _ _ _ r, i + 1, l, e => by simpa using r.get i l (by simpa using e)

theorem sub_sound {value slice : Expr} {a b c : AV} {P : Prop} {u v : Value} (h : subP a b = some (c, P)) (hP : P) (hsl : isSl slice = false) (ha : Is w ok s.heap a u) (hb : Is w ok s.heap b v) (k : Back w ok s c Q) :
    wpAny (model PR w) A (subscriptTail value slice u v) Q E s := by
  unfold subP at h
  split at h
  · rename_i l i
    cases h; obtain ⟨l1, vs, rfl, _, hl, hi⟩ := ha; obtain ⟨_, rfl⟩ := hb
    obtain ⟨h0, h1, h2⟩ := hP
    have hlt : i.toNat < l.length := by omega
    obtain ⟨t, ht⟩ := hi.get i.toNat l[i.toNat] (by simp [hlt])
    refine tail_any hl.typeIs slot_list_getitem.lookup (wpAny_getItem_list hl h0 (by omega) (by simpa using ht) ?_) (subscripted_of hsl)
    exact k _ _ _ Sub.rfl ⟨t, by simp [List.getD, hlt]⟩
  · rename_i l i
    cases h; obtain ⟨l1, vs, rfl, _, hl, hi⟩ := ha; obtain ⟨_, rfl⟩ := hb
    obtain ⟨h0, h1, h2⟩ := hP
    have hlt : i.toNat < l.length := by omega
    obtain ⟨a', us, ht, oa, hl', hi'⟩ := hi.get i.toNat l[i.toNat] (by simp [hlt])
    refine tail_any hl.typeIs slot_list_getitem.lookup (wpAny_getItem_list hl h0 (by omega) (by simpa using ht) ?_) (subscripted_of hsl)
    exact k _ _ _ Sub.rfl ⟨a', us, rfl, oa, hl', by simpa [List.getD, hlt] using hi'⟩
  · rename_i l i
    cases h; obtain ⟨l1, vs, rfl, _, hl, hi⟩ := ha; obtain ⟨_, rfl⟩ := hb
    obtain ⟨h0, h1, h2⟩ := hP
    have hlt : i.toNat < l.length := by omega
    obtain ⟨t, ht⟩ := StrsAre.get hi i.toNat l[i.toNat] (by simp [hlt])
    refine tail_any hl.typeIs slot_list_getitem.lookup (wpAny_getItem_list hl h0 (by omega) (by simpa using ht) ?_) (subscripted_of hsl)
    exact k _ _ _ Sub.rfl ⟨t, by simp [List.getD, hlt]⟩
  · rename_i D i
    cases h; obtain ⟨d, rfl, _, T⟩ := ha; obtain ⟨u', rfl⟩ := hb
    obtain ⟨z, hz⟩ := Option.isSome_iff_exists.mp hP
    have hl : PySem.Spec.lookup (.int i) (encT D) = some (.int z) := by rw [lookup_enc, hz]; rfl
    obtain ⟨lo, kvs, hd, hf⟩ := T
    obtain ⟨v, hv, hfl⟩ := hf.of_lookup PyProof.V.same_int hl
    refine tail_any hd.typeIs slot_dict_getitem.lookup (wpAny_getItem_of (intKind_is PR w i u') hd.mapOf hv ?_) (subscripted_of hsl)
    obtain ⟨t', rfl⟩ := PyProof.V.Flat.int_inv hfl
    exact k _ _ _ Sub.rfl ⟨t', by rw [hz]; rfl⟩
  · rename_i x y z i
    cases h; obtain ⟨a', t1, t2, t3, rfl, _, ht⟩ := ha; obtain ⟨_, rfl⟩ := hb
    obtain ⟨h0, h1⟩ := hP
    have : i = 0 ∨ i = 1 ∨ i = 2 := by omega
    rcases this with rfl | rfl | rfl
    · exact tail_any ht.typeIs slot_tuple_getitem.lookup (getItem_tuple (j := 0) ht (by decide) (by decide) (by rfl) (by rfl) (k _ _ _ Sub.rfl ⟨_, rfl⟩)) (subscripted_of hsl)
    · exact tail_any ht.typeIs slot_tuple_getitem.lookup (getItem_tuple (j := 1) ht (by decide) (by decide) (by rfl) (by rfl) (k _ _ _ Sub.rfl ⟨_, rfl⟩)) (subscripted_of hsl)
    · exact tail_any ht.typeIs slot_tuple_getitem.lookup (getItem_tuple (j := 2) ht (by decide) (by decide) (by rfl) (by rfl) (k _ _ _ Sub.rfl ⟨_, rfl⟩)) (subscripted_of hsl)
  · rename_i x i
    cases h; obtain ⟨t, rfl⟩ := ha; obtain ⟨_, rfl⟩ := hb
    obtain ⟨h0, h1, h2⟩ := hP
    have hlt : i.toNat < x.cps.size := by show _ < x.length; omega
    refine tail_any (typeIs_str s x t) PySem.F.slot_str_getitem.lookup (PySem.P.getItem_str (c := x.cps.getD i.toNat 0) ?_ ?_ (k _ _ _ Sub.rfl ⟨_, rfl⟩)) (subscripted_of hsl)
    · simp; omega
    · have e : seqIndex? i x.length = some i.toNat := by
        unfold seqIndex?
        have : ¬ i < 0 := by omega
        simp [this, h0]; omega
      rw [e]
      simp [Array.getD, hlt]
  · cases h

theorem args_sound {fs : Fns} {ρ : Rho} {lv n : Nat} {env : Env} {pos : Pos}
    (IH : ∀ (e : Expr) (V : AV) (P : Prop) (s : Shared) (E Q : Value → Shared → Prop), evP fs ρ n e = some (V, P) → P → EnvOk w ok lv env s.heap fs ρ → Back w ok s V Q → wpAny (model PR w) A (eval e env) Q E s) :
    ∀ (es : List Expr) (Vs : List AV) (P : Prop) (s : Shared) (Q : List Value → Shared → Prop),
      es.foldr (fun e acc => match evP fs ρ n e, acc with | some (a, P), some (l, P') => some (a :: l, P ∧ P') | _, _ => none) (some ([], True)) = some (Vs, P) → P → EnvOk w ok lv env s.heap fs ρ →
      (∀ vs h' tk, Sub s.heap h' → IsAll w ok h' Vs vs → Q vs { s with heap := h', toks := tk }) → wpAny (model PR w) A (spliced (backTo pos (starEach es env))) Q E s
  | [], Vs, P, s, Q, h, _, _, k => by
    simp only [List.foldr_nil, Option.some.injEq, Prod.mk.injEq] at h
    obtain ⟨rfl, _⟩ := h
    exact args_nil (k _ _ _ Sub.rfl .nil)
  | e :: es, Vs, P, s, Q, h, hP, X, k => by
    rw [List.foldr_cons] at h
    split at h
    · rename_i a P1 l P2 h1 h2
      simp only [Option.some.injEq, Prod.mk.injEq] at h
      obtain ⟨rfl, rfl⟩ := h
      refine args_cons (IH e a P1 s E _ h1 hP.1 X fun v h' tk kk iv => ?_) (starEach_of h1 _ _)
      refine args_sound IH es l P2 _ _ h2 hP.2 (X.sub kk) fun vs h'' tk' kk' ivs => ?_
      exact k _ _ _ (kk.trans kk') (.cons (iv.sub kk') ivs)
    · cases h

theorem intsP_sound {h : Heap} {Vs : List AV} {vs : List Value} {r : List Int} (e : intsP Vs = some r) (I : IsAll w ok h Vs vs) : IntsAre vs r := by
  induction I generalizing r with
  | nil => cases e; exact .nil
  | cons i _ ih =>
    obtain ⟨a, l, h1, h2, rfl⟩ := optCons_some e
    rw [intOf_some h1] at i
    obtain ⟨t, rfl⟩ := i
    exact .cons a t (ih h2)
theorem strsP_sound {h : Heap} {Vs : List AV} {vs : List Value} {r : List Str} (e : strsP Vs = some r) (I : IsAll w ok h Vs vs) : StrsAre vs r := by
  induction I generalizing r with
  | nil => cases e; exact .nil
  | cons i _ ih =>
    obtain ⟨a, l, h1, h2, rfl⟩ := optCons_some e
    rw [strOf_some h1] at i
    obtain ⟨t, rfl⟩ := i
    exact .cons a t (ih h2)
theorem IsAll.length {h : Heap} : ∀ {Vs : List AV} {vs : List Value}, IsAll w ok h Vs vs → Vs.length = vs.length
  | _, _, .nil => rfl
  | _, _, .cons _ I => by simp [I.length]
theorem none_size (h : Heap) : h.get? h.objs.size = none := by
  cases q : h.get? h.objs.size with
  | none => rfl
  | some o => exact absurd (Heap.lt_size q) (Nat.lt_irrefl _)
theorem tup_sound {Vs : List AV} {vs : List Value} {V : AV} (hf : ∀ a, s.heap.get? a = none → ok a) (h : tupP Vs = some V) (I : IsAll w ok s.heap Vs vs) (k : Back w ok s V Q) : wpAny (model PR w) A (newTuple vs) Q E s := by
  cases I with
  | nil => cases h
  | cons i1 I =>
    cases I with
    | nil => cases h
    | cons i2 I =>
      cases I with
      | nil =>
        obtain ⟨a, b, rfl, rfl, rfl⟩ := t2P_some h
        obtain ⟨t1, rfl⟩ := i1; obtain ⟨t2, rfl⟩ := i2
        exact wpAny_newObj_type (k _ _ _ (Sub.push _ _) ⟨_, t1, t2, rfl, hf _ (none_size _), ⟨_, Heap.get?_push_size _ rfl, rfl, _, rfl⟩⟩)
      | cons i3 I =>
        cases I with
        | nil =>
          obtain ⟨a, b, c, rfl, rfl, rfl, rfl⟩ := t3P_some h
          obtain ⟨t1, rfl⟩ := i1; obtain ⟨t2, rfl⟩ := i2; obtain ⟨t3, rfl⟩ := i3
          exact wpAny_newObj_type (k _ _ _ (Sub.push _ _) ⟨_, t1, t2, t3, rfl, hf _ (none_size _), ⟨_, Heap.get?_push_size _ rfl, rfl, _, rfl⟩⟩)
        | cons i4 I =>
          cases I with
          | nil => cases h
          | cons i5 I =>
            cases I with
            | cons _ _ => cases h
            | nil =>
              obtain ⟨a, b, c, d, D, rfl, rfl, rfl, rfl, rfl, rfl⟩ := t5P_some h
              obtain ⟨t1, rfl⟩ := i1; obtain ⟨t2, rfl⟩ := i2; obtain ⟨t3, rfl⟩ := i3; obtain ⟨t4, rfl⟩ := i4
              exact wpAny_newObj_type (k _ _ _ (Sub.push _ _) ⟨_, t1, t2, t3, t4, _, rfl, hf _ (none_size _), IsTab.mono (fun a o oa e => ⟨oa, Sub.push _ _ a o e⟩) i5, ⟨_, Heap.get?_push_size _ rfl, rfl, _, rfl⟩⟩)
theorem list_sound {Vs : List AV} {vs : List Value} {V : AV} (hf : ∀ a, s.heap.get? a = none → ok a) (h : listP Vs = some V) (hl : Vs.length ≤ 1000) (I : IsAll w ok s.heap Vs vs) (k : Back w ok s V Q) : wpAny (model PR w) A (newList vs) Q E s := by
  have hsz : vs.toArray.size ≤ sizeLine := by rw [List.size_toArray, ← I.length, sizeLine_eq]; exact Nat.le_trans hl (by decide)
  unfold listP at h
  split at h
  · rename_i r hr
    cases h
    exact wpAny_newObj_type (k _ _ _ (Sub.push _ _) ⟨_, vs, rfl, hf _ (none_size _), ⟨_, Heap.get?_push_size _ rfl, rfl, _, rfl⟩, intsP_sound hr I⟩) hsz
  · obtain ⟨r, hr, rfl⟩ := Option.map_eq_some_iff.mp h
    exact wpAny_newObj_type (k _ _ _ (Sub.push _ _) ⟨_, vs, rfl, hf _ (none_size _), ⟨_, Heap.get?_push_size _ rfl, rfl, _, rfl⟩, strsP_sound hr I⟩) hsz
theorem not_mods (G : Gd w s.heap) : (s.heap.objs.size == sysModules) = false := by
  obtain ⟨_, _, _, T⟩ := G.T
  exact beq_eq_false_iff_ne.mpr (Nat.ne_of_gt (modules_low T.nolimit))

theorem any_false {fs : Fns} {ρ : Rho} {n : Nat} {env : Env} {pos : Pos} : ∀ (es : List Expr) (r : List AV × Prop),
    es.foldr (fun e acc => match evP fs ρ n e, acc with | some (a, P), some (l, P') => some (a :: l, P ∧ P') | _, _ => none) (some ([], True)) = some r → (backTo pos (starEach es env)).any (·.1) = false
  | [], _, _ => rfl
  | e :: es, r, h => by
    rw [List.foldr_cons] at h
    split at h
    · rename_i a P1 l P2 h1 h2
      rw [starEach_of h1]
      show (false || (backTo pos (starEach es env)).any (·.1)) = false
      rw [any_false es _ h2]; rfl
    · cases h

theorem ev_sound {fs : Fns} {ρ : Rho} {lv : Nat} {env : Env} (hh : A.handled = none) (hd : A.depth + lv < recursionLimit) :
    ∀ (n : Nat) (e : Expr) (V : AV) (P : Prop) (s : Shared) (E Q : Value → Shared → Prop), evP fs ρ n e = some (V, P) → P → EnvOk w ok lv env s.heap fs ρ → Back w ok s V Q → wpAny (model PR w) A (eval e env) Q E s := by
  intro n
  induction n with
  | zero => intro e V P s E Q h; cases h
  | succ n IH =>
    intro e V P s E Q h hP X k
    cases e
    case Name x pos =>
      obtain ⟨V', hv, e'⟩ := Option.map_eq_some_iff.mp (show (ρ.lookup x).map _ = some (V, P) from h)
      cases e'
      obtain ⟨v, r, i⟩ := X.vars _ _ hv
      exact r A E Q s pos Sub.rfl (k _ _ _ Sub.rfl i)
    case Constant c kd pos =>
      cases c
      case int i => cases h; exact wpAny_Constant_int (k _ _ _ Sub.rfl ⟨_, rfl⟩)
      case str x => cases h; exact Calls.Constant_str (k _ _ _ Sub.rfl ⟨_, rfl⟩)
      all_goals cases h
    case BinOp l op r pos =>
      obtain ⟨a, P1, b, P2, P3, h1, h2, hc, rfl⟩ := two2_some h
      refine wpAny_BinOp (IH l a P1 s E _ h1 hP.1 X fun u h' tk kk iu => ?_)
      refine IH r b P2 _ E _ h2 hP.2.1 (X.sub kk) fun v h'' tk' kk' iv => ?_
      exact bin_sound hc hP.2.2 (iu.sub kk') iv fun z h3 tk3 k3 i3 => k _ _ _ (kk.trans (kk'.trans k3)) i3
    case UnaryOp op x pos =>
      cases op
      case USub =>
        obtain ⟨⟨a, P1⟩, hq, e'⟩ := Option.map_eq_some_iff.mp (show (intQ (evP fs ρ n x)).map _ = some (V, P) from h)
        cases e'
        refine UnaryOp_ (IH x _ P1 s E _ (intQ_some hq) hP X fun u h' tk kk iu => ?_)
        obtain ⟨_, rfl⟩ := iu
        exact PySem.P.neg_int (k _ _ _ kk ⟨_, rfl⟩)
      all_goals cases h
    case Compare l ops rs pos =>
      cases ho : oneOf ops with
      | none => rw [evP, evS, ho] at h; cases h
      | some op =>
        cases hr : oneOf rs with
        | none => rw [evP, evS, ho, hr] at h; cases h
        | some r =>
          rw [evP, evS, ho, hr] at h
          cases oneOf_some ho
          cases oneOf_some hr
          obtain ⟨a, P1, b, P2, h1, h2, hc, rfl⟩ := two1_some h
          refine wpAny_Compare1 (IH l a P1 s E _ h1 hP.1 X fun u h' tk kk iu => ?_) (behind_of op h2)
          refine IH r b P2 _ E _ h2 hP.2 (X.sub kk) fun v h'' tk' kk' iv => ?_
          exact cmp_sound hc (iu.sub kk') iv fun z h3 tk3 k3 i3 => k _ _ _ (kk.trans (kk'.trans k3)) i3
    case Subscript v i pos =>
      cases hsl : slOf i with
      | some r =>
        obtain ⟨lo, hi, st⟩ := r
        obtain ⟨q0, rfl⟩ := slOf_some hsl
        obtain ⟨l, P1, a, Pa, b, Pb, c, Pc, h1, h2, h3, h4, rfl, rfl⟩ := slP_some h
        replace h1 := listQ_some h1
        dsimp only at h2 h3 h4
        obtain ⟨r1, r2, r3, r4, r5, r6⟩ := hP
        refine Subscript_ (IH v _ P1 s E _ h1 r1 X fun u h' tk kk iu => ?_)
        have part : ∀ (o : Option Expr) (x : Option Int) (Px : Prop) (s : Shared) (Q : Value → Shared → Prop), partP (evP fs ρ n) o = some (x, Px) → Px → EnvOk w ok lv env s.heap fs ρ → (∀ v h' tk, Sub s.heap h' → IsPart v x → Q v { s with heap := h', toks := tk }) → wpAny (model PR w) A (evalPart o env) Q E s := by
          intro o x Px s Q ho hPx X k
          cases o with
          | none => cases ho; exact wpAny_evalPart_none (k _ _ _ Sub.rfl .none)
          | some e =>
            obtain ⟨⟨a, P2⟩, h5, e'⟩ := Option.map_eq_some_iff.mp (show (intQ (evP fs ρ n e)).map _ = some (x, Px) from ho)
            cases e'
            refine wpAny_evalPart_some (IH e _ _ s E _ (intQ_some h5) hPx X fun u h' tk kk iu => ?_)
            obtain ⟨t, rfl⟩ := iu
            exact k _ _ _ kk (.int a t)
        refine wpAny_Slice (part lo a Pa _ _ h2 r2 (X.sub kk) fun va h2' tk2 kk2 ia => ?_)
        refine part hi b Pb _ _ h3 r3 ((X.sub kk).sub kk2) fun vb h3' tk3 kk3 ib => ?_
        refine part st c Pc _ _ h4 r4 (((X.sub kk).sub kk2).sub kk3) fun vc h4' tk4 kk4 ic => ?_
        have iu' := ((iu.sub kk2).sub kk3).sub kk4
        obtain ⟨l1, vs, rfl, _, hl, hii⟩ := iu'
        have hlp := hl.push { cls := .type "slice", data := .fields #[va, vb, vc] }
        have X4 := ((((X.sub kk).sub kk2).sub kk3).sub kk4).sub (Sub.push h4' { cls := .type "slice", data := .fields #[va, vb, vc] })
        refine tail_any (ops := subOps st (.ref l1) (.ref h4'.objs.size)) (Heap.IsList.typeIs (s := { s with heap := h4'.push { cls := .type "slice", data := .fields #[va, vb, vc] }, toks := tk4 }) hlp) slot_list_getitem.lookup (wpAny_getItem_list_slice hlp (Heap.IsSliceOf.new ..) ia ib ic r5 ?_ ?_) ?_
        · refine k _ _ _ ?_ ⟨_, _, rfl, X4.fresh _ (none_size _), ⟨_, Heap.get?_push_size _ rfl, rfl, _, rfl⟩, hii.pick a b c⟩
          exact (((kk.trans kk2).trans kk3).trans kk4).trans ((Sub.push _ _).trans (Sub.push _ _))
        · rw [List.size_toArray, hii.length, sizeLine_eq]; exact Nat.le_trans r6 (by decide)
        · cases st <;> rfl
      | none =>
        rw [evP, evS, hsl] at h
        obtain ⟨a, P1, b, P2, P3, h1, h2, hc, rfl⟩ := two2_some h
        refine Subscript_ (IH v a P1 s E _ h1 hP.1 X fun u h' tk kk iu => ?_)
        refine IH i b P2 _ E _ h2 hP.2.1 (X.sub kk) fun v' h'' tk' kk' iv => ?_
        exact sub_sound hc hP.2.2 (slOf_none hsl) (iu.sub kk') iv fun z h3 tk3 k3 i3 => k _ _ _ (kk.trans (kk'.trans k3)) i3
    case Call f es ks pos =>
      cases hf : nmOf f with
      | none => cases (show none = some (V, P) from (call_none hf).symm.trans h)
      | some fn =>
        obtain ⟨pf, rfl⟩ := nmOf_some hf
        cases es with
        | nil => cases h
        | cons e es =>
          cases ks with
          | cons _ _ => cases h
          | nil =>
            obtain ⟨F, Vs, P1, h1, h2, hV, rfl⟩ := callP_some h
            obtain ⟨rf, fo, hl⟩ := X.fns _ _ h1
            refine Call_ (rf A E _ s pf Sub.rfl ?_) (by rfl)
            have hs : ∃ r, evP fs ρ n e = some r := by
              rw [List.foldr_cons] at h2
              split at h2
              · rename_i q1 _; exact ⟨_, q1⟩
              · cases h2
            obtain ⟨re, hre⟩ := hs
            have h3 : ∃ r, es.foldr (fun e acc => match evP fs ρ n e, acc with | some (a, P), some (l, P') => some (a :: l, P ∧ P') | _, _ => none) (some ([], True)) = some r := by
              rw [List.foldr_cons] at h2
              split at h2
              · rename_i q1 q2; exact ⟨_, q2⟩
              · cases h2
            obtain ⟨rr, hrr⟩ := h3
            refine fo.with1 s A E Q env e es pos X.gd (starEach_of hre _ _) (any_false es rr hrr) ?_
            refine args_sound IH (e :: es) Vs P1 s _ h2 hP.1 X fun vs h' tk kk ivs => ⟨kk, ?_⟩
            have X' := X.sub kk
            exact fo.call ok _ A E Q Vs vs V X'.gd hh (by omega) X'.fresh ivs hV hP.2 fun v h'' tk' kk' iv => k _ _ _ (kk.trans kk') iv
    case Tuple es q1 pos =>
      rw [evP, evS] at h
      split at h
      · rename_i Vs P1 h2
        obtain ⟨V', hV, e'⟩ := Option.map_eq_some_iff.mp h
        cases e'
        refine Tuple_ (args_sound IH es Vs P s _ h2 hP X fun vs h' tk kk ivs => ?_)
        exact tup_sound (X.sub kk).fresh hV ivs fun v h'' tk' kk' iv => k _ _ _ (kk.trans kk') iv
      · cases h
    case List es pos =>
      cases es with
      | nil => cases h
      | cons e es =>
        rw [evP, evS] at h
        split at h
        · rename_i Vs P1 h2
          obtain ⟨V', hV, e'⟩ := Option.map_eq_some_iff.mp h
          cases e'
          refine List_ (args_sound IH (e :: es) Vs P1 s _ h2 hP.1 X fun vs h' tk kk ivs => ?_)
          exact list_sound (X.sub kk).fresh hV hP.2 ivs fun v h'' tk' kk' iv => k _ _ _ (kk.trans kk') iv
        · cases h
    case Dict ks vs pos =>
      match ks, vs, h with
      | [], [], h =>
        cases h
        exact wpAny_Dict_empty (k _ _ _ (Sub.push _ _) ⟨_, rfl, X.fresh _ (none_size _), not_mods X.gd, [], Heap.DictOf.new _, .nil⟩)
      | [some kx], [vx], h =>
        obtain ⟨a, P1, b, P2, h1, h2, rfl, rfl⟩ := dictP_some h
        replace h1 := intQ_some h1
        replace h2 := intQ_some h2
        refine wpAny_Dict_pairs (knd := intKind PR w) (pairs := [(eval kx env, do let x ← eval vx env; standAt pos; pure x)]) rfl (by simp) (by simp) ?_
        have hD := Heap.DictOf.new (knd := intKind PR w) s.heap
        refine wpAny_bind (IH kx (.int a) P1 _ E _ h1 hP.1 (X.sub (Sub.push _ _)) fun u h' tk kk iu => ?_)
        refine wpAny_bind (wpAny_holding (wpAny_bind (IH vx (.int b) P2 _ E _ h2 hP.2 ((X.sub (Sub.push _ _)).sub kk) fun v h'' tk' kk' iv => ?_)))
        refine wpAny_bind (wpAny_standAt (wpAny_pure ?_))
        refine wpAny_bind (wpAny_holding (wpAny_pure (wpAny_pure ?_)))
        obtain ⟨t1, rfl⟩ := iu
        obtain ⟨t2, rfl⟩ := iv
        refine ⟨[(a, .int b t2)], ?_, hD.keep (kk.trans kk'), fun h3 hd3 hs3 => ?_⟩
        · exact ⟨intKind_is PR w a t1, rfl, trivial⟩
        · have hsub : Sub s.heap h3 := fun c o e => (hs3.2 c (Nat.ne_of_lt (Heap.lt_size e))).trans (kk' c o (kk c o (Sub.push _ _ c o e)))
          exact k _ _ _ hsub ⟨_, rfl, X.fresh _ (none_size _), not_mods X.gd, [(a, .int b t2)], hd3, .cons (PyProof.V.Flat.int b t2) .nil⟩
      | [], _ :: _, h => cases h
      | none :: _, _, h => cases h
      | [some _], [], h => cases h
      | [some _], _ :: _ :: _, h => cases h
      | some _ :: _ :: _, _, h => cases h
    all_goals cases h
end

end Mine

/-! Fr27 -/
namespace Mine
open PySem PySem.W PyProof.Rows PySem.Calls

/-- a name of the module, or a built-in one -/
inductive Gl (w : World) : Str → Value → Prop
  | own {x : Str} {v : Value} : nsIn (Mine.hd.heap_39 w.params) mainGlobals x = some (some v) → Gl w x v
  | boot {x : Str} {v : Value} : nsIn (Mine.hd.heap_39 w.params) mainGlobals x = some none → bootBuiltins x = some v → x ≠ "__name__" → Gl w x v

def Hold (env : Env) (h : Heap) (m : Str → Option Value) (x : Str) (v : Value) : Prop :=
  (env.kindOf x = some .local ∧ m x = some v) ∨ (env.kindOf x = some .cell ∧ ∃ c, env.cells.lookup x = some c ∧ h.IsCell c (some v))

structure Fm (w : World) (ok : Addr → Prop) (env : Env) (mu : List Addr) (p h : Heap) (m : Str → Option Value) (ρ : Rho) : Prop where
  keep : Sub p h
  pmu : ∀ a ∈ mu, p.get? a = none
  gd : Gd w p
  nok : ∀ a ∈ mu, ¬ ok a
  Lmu : env.locals ∈ mu
  mex : ∀ a ∈ mu, ∃ o, h.get? a = some o
  fresh : ∀ a, h.get? a = none → ok a
  ns : h.Ns env.locals m
  kind : env.scope.kind = .function
  glob : env.globals = mainGlobals
  bi : env.builtins = builtinsNs
  cells : ∀ x c, env.cells.lookup x = some c → ∃ v, h.IsCell c v
  cinj : ∀ x y c, env.cells.lookup x = some c → env.cells.lookup y = some c → x = y
  vars : ∀ x V, ρ.lookup x = some V → (x == ("__debug__" : Str)) = false ∧ ∃ v, Is w ok h V v ∧ Hold env h m x v

def FEnv (w : World) (lv : Nat) (env : Env) (fs : Fns) : Prop :=
  ∀ f G, fs.lookup f = some G → env.kindOf f = some .globalImplicit ∧ (f == ("__debug__" : Str)) = false ∧ Gl w f G.val ∧ FnOk w G ∧ G.lvl ≤ lv
theorem FEnv.nil {w : World} {lv : Nat} {env : Env} : FEnv w lv env [] := fun _ _ e => nomatch e
theorem FEnv.cons {w : World} {lv : Nat} {env : Env} {fs : Fns} {f : Str} {G : Fn} (h1 : env.kindOf f = some .globalImplicit) (h2 : (f == ("__debug__" : Str)) = false) (h3 : Gl w f G.val) (h4 : FnOk w G) (h5 : G.lvl ≤ lv) (r : FEnv w lv env fs) : FEnv w lv env ((f, G) :: fs) := fun g G' e => by
  rw [List.lookup_cons] at e
  cases hb : g == f with
  | true => rw [hb] at e; cases e; rw [beq_iff_eq.mp hb]; exact ⟨h1, h2, h3, h4, h5⟩
  | false => rw [hb] at e; exact r g G' e

section
variable {w : World} {ok : Addr → Prop} {env : Env} {mu : List Addr} {p h h' : Heap} {m m' : Str → Option Value} {ρ ρ' : Rho} {lv : Nat} {fs : Fns}

theorem rd_gl (G : Gd w h) (hk : env.scope.kind = .function) (hg : env.globals = mainGlobals) (hb : env.builtins = builtinsNs) {x : Str} {v : Value} (hx : env.kindOf x = some .globalImplicit) (hd : (x == ("__debug__" : Str)) = false) (g : Gl w x v) : Rd w env h x v := by
  intro A E Q s pos k q
  obtain ⟨mean, mg, mb, T⟩ := (G.keeps k).T
  have X := (G.keeps k).X
  cases g with
  | own e => exact Name_function_global hk hx (loadGlobal_global (env := env) (by rw [hg]; exact T.g) (mg_of X T.g e) q) hd
  | boot e hv hn => exact Name_function_global hk hx (loadGlobal_builtin (env := env) (by rw [hg]; exact T.g) (mg_none_of X T.g e) (by rw [hb]; exact T.b) ((T.builtins x hn).trans hv) q) hd

theorem Hold.rd (hk : env.scope.kind = .function) (hn : h.Ns env.locals m) {x : Str} {v : Value} (hd : (x == ("__debug__" : Str)) = false) (q : Hold env h m x v) : Rd w env h x v := by
  intro A E Q s pos k qq
  rcases q with ⟨hl, hm⟩ | ⟨hc, c, hcl, hi⟩
  · exact wpAny_Name (wpAny_loadName_local hk hl (hn.keeps k) hm qq) hd
  · exact wpAny_Name (wpAny_loadName_cell hk hc hcl (hi.keeps k) qq) hd
theorem Hold.sub {x : Str} {v : Value} (k : Sub h h') (q : Hold env h m x v) : Hold env h' m x v := q.imp id fun ⟨a, c, b, i⟩ => ⟨a, c, b, i.keeps k⟩

theorem Fm.envOk (F : Fm w ok env mu p h m ρ) (fe : FEnv w lv env fs) : EnvOk w ok lv env h fs ρ where
  vars := fun x V e => let ⟨hd, v, i, q⟩ := F.vars x V e; ⟨v, q.rd F.kind F.ns hd, i⟩
  fns := fun f G e => let ⟨a, b, c, d, l⟩ := fe f G e; ⟨rd_gl (F.gd.keeps F.keep) F.kind F.glob F.bi a b c, d, l⟩
  gd := F.gd.keeps F.keep
  fresh := F.fresh

theorem Fm.grow (F : Fm w ok env mu p h m ρ) (k : Sub h h') : Fm w ok env mu p h' m ρ where
  keep := F.keep.trans k
  pmu := F.pmu
  gd := F.gd
  nok := F.nok
  Lmu := F.Lmu
  mex := fun a ha => let ⟨o, e⟩ := F.mex a ha; ⟨o, k a o e⟩
  fresh := fun a e => F.fresh a (by
    cases q : h.get? a with
    | none => rfl
    | some o => rw [k a o q] at e; cases e)
  ns := F.ns.keeps k
  kind := F.kind
  glob := F.glob
  bi := F.bi
  cells := fun x c e => let ⟨v, i⟩ := F.cells x c e; ⟨v, i.keeps k⟩
  cinj := F.cinj
  vars := fun x V e => let ⟨hd, v, i, q⟩ := F.vars x V e; ⟨hd, v, i.sub k, q.sub k⟩

theorem Fm.less (F : Fm w ok env mu p h m ρ) (k : ∀ x V, ρ'.lookup x = some V → ρ.lookup x = some V) : Fm w ok env mu p h m ρ' :=
  { F with vars := fun x V e => F.vars x V (k x V e) }

theorem cell_ne_ns {a c : Addr} {v : Option Value} (hn : h.Ns a m) (hc : h.IsCell c v) : c ≠ a := by
  rintro rfl
  obtain ⟨o, es, ep, ho, hd, _⟩ := hn
  obtain ⟨o', ho', hd'⟩ := hc
  rw [ho] at ho'; cases ho'; rw [hd] at hd'; cases hd'

/-- a change at one address that may change -/
theorem Fm.chg (F : Fm w ok env mu p h m ρ) {d : Addr} (hp : p.get? d = none) (hok : ¬ ok d) (hL : env.locals ≠ d) (hC : ∀ x c, env.cells.lookup x = some c → c ≠ d) (hs : ∀ b o, b ≠ d → h.get? b = some o → h'.get? b = some o) (hdh : ∃ o, h'.get? d = some o) : Fm w ok env mu p h' m ρ where
  keep := fun b o e => hs b o (by rintro rfl; rw [hp] at e; cases e) (F.keep b o e)
  pmu := F.pmu
  gd := F.gd
  nok := F.nok
  Lmu := F.Lmu
  mex := fun a ha => by
    by_cases q : a = d
    · exact q ▸ hdh
    · obtain ⟨o, e⟩ := F.mex a ha; exact ⟨o, hs a o q e⟩
  fresh := fun a e => F.fresh a (by
    cases q : h.get? a with
    | none => rfl
    | some o =>
      by_cases ha : a = d
      · subst ha; obtain ⟨o', ho'⟩ := hdh; rw [ho'] at e; cases e
      · rw [hs a o ha q] at e; cases e)
  ns := F.ns.at' fun o e => hs _ o hL e
  kind := F.kind
  glob := F.glob
  bi := F.bi
  cells := fun x c e => let ⟨v, o, ho, r⟩ := F.cells x c e; ⟨v, o, hs _ o (hC x c e) ho, r⟩
  cinj := F.cinj
  vars := fun x V e => by
    obtain ⟨hdb, v, i, q⟩ := F.vars x V e
    refine ⟨hdb, v, i.okSub fun b o ob e' => hs b o (by rintro rfl; exact hok ob) e', q.imp id fun ⟨a, c, b, o, ho, r⟩ => ⟨a, c, b, o, hs _ o (hC x c b) ho, r⟩⟩

theorem lookup_cons_of {x y : Str} {V V' : AV} {ρ : Rho} (e : ((x, V) :: ρ).lookup y = some V') : (y = x ∧ V' = V) ∨ (y ≠ x ∧ ρ.lookup y = some V') := by
  rw [List.lookup_cons] at e
  cases hb : y == x with
  | true => rw [hb] at e; cases e; exact .inl ⟨beq_iff_eq.mp hb, rfl⟩
  | false => rw [hb] at e; exact .inr ⟨by intro q; rw [q] at hb; simp at hb, e⟩

theorem Fm.setL (F : Fm w ok env mu p h m ρ) {x : Str} {V : AV} {v : Value} (hx : env.kindOf x = some .local) (hdb : (x == ("__debug__" : Str)) = false) (i : Is w ok h V v) (hn : h'.Ns env.locals fun y => if y = x then some v else m y) (hs : Heap.SameBut env.locals h h') :
    Fm w ok env mu p h' (fun y => if y = x then some v else m y) ((x, V) :: ρ) where
  keep := fun b o e => (hs.2 b (by rintro rfl; rw [F.pmu _ F.Lmu] at e; cases e)).trans (F.keep b o e)
  pmu := F.pmu
  gd := F.gd
  nok := F.nok
  Lmu := F.Lmu
  mex := fun a ha => by
    by_cases q : a = env.locals
    · obtain ⟨o, _, _, ho, _⟩ := hn; exact ⟨o, q ▸ ho⟩
    · obtain ⟨o, e⟩ := F.mex a ha; exact ⟨o, (hs.2 a q).trans e⟩
  fresh := fun a e => by
    by_cases ha : a = env.locals
    · subst ha
      obtain ⟨o, _, _, ho, _⟩ := hn
      rw [ho] at e; cases e
    · exact F.fresh a ((hs.2 a ha).symm.trans e)
  ns := hn
  kind := F.kind
  glob := F.glob
  bi := F.bi
  cells := fun y c e => let ⟨v, i⟩ := F.cells y c e; ⟨v, i.sameBut hs (cell_ne_ns F.ns i)⟩
  cinj := F.cinj
  vars := fun y V' e => by
    have kk : OkSub ok h h' := fun b o ob e' => (hs.2 b (by rintro rfl; exact F.nok _ F.Lmu ob)).trans e'
    rcases lookup_cons_of e with ⟨rfl, rfl⟩ | ⟨hne, e⟩
    · exact ⟨hdb, v, i.okSub kk, .inl ⟨hx, by simp⟩⟩
    · obtain ⟨hdb', v', i', q⟩ := F.vars y V' e
      refine ⟨hdb', v', i'.okSub kk, ?_⟩
      rcases q with ⟨a, b⟩ | ⟨a, c, b, ic⟩
      · exact .inl ⟨a, by simp only [if_neg hne]; exact b⟩
      · exact .inr ⟨a, c, b, ic.sameBut hs (cell_ne_ns F.ns ic)⟩

theorem Fm.setC (F : Fm w ok env mu p h m ρ) {x : Str} {V : AV} {v : Value} {c : Addr} (hx : env.kindOf x = some .cell) (hdb : (x == ("__debug__" : Str)) = false) (hc : env.cells.lookup x = some c) (hmu : c ∈ mu) (i : Is w ok h V v) (hi : h'.IsCell c (some v)) (hs : Heap.SameBut c h h') :
    Fm w ok env mu p h' m ((x, V) :: ρ) where
  keep := fun b o e => (hs.2 b (by rintro rfl; rw [F.pmu _ hmu] at e; cases e)).trans (F.keep b o e)
  pmu := F.pmu
  gd := F.gd
  nok := F.nok
  Lmu := F.Lmu
  mex := fun a ha => by
    by_cases q : a = c
    · obtain ⟨o, ho, _⟩ := hi; exact ⟨o, q ▸ ho⟩
    · obtain ⟨o, e⟩ := F.mex a ha; exact ⟨o, (hs.2 a q).trans e⟩
  fresh := fun a e => by
    by_cases ha : a = c
    · subst ha
      obtain ⟨o, ho, _⟩ := hi
      rw [ho] at e; cases e
    · exact F.fresh a ((hs.2 a ha).symm.trans e)
  ns := by
    obtain ⟨v₀, i₀⟩ := F.cells x c hc
    exact F.ns.sameBut hs (Ne.symm (cell_ne_ns F.ns i₀))
  kind := F.kind
  glob := F.glob
  bi := F.bi
  cells := fun y c' e => by
    by_cases hq : c' = c
    · subst hq; exact ⟨_, hi⟩
    · obtain ⟨v, i⟩ := F.cells y c' e; exact ⟨v, i.sameBut hs hq⟩
  cinj := F.cinj
  vars := fun y V' e => by
    have kk : OkSub ok h h' := fun b o ob e' => (hs.2 b (by rintro rfl; exact F.nok _ hmu ob)).trans e'
    rcases lookup_cons_of e with ⟨rfl, rfl⟩ | ⟨hne, e⟩
    · exact ⟨hdb, v, i.okSub kk, .inr ⟨hx, c, hc, hi⟩⟩
    · obtain ⟨hdb', v', i', q⟩ := F.vars y V' e
      refine ⟨hdb', v', i'.okSub kk, ?_⟩
      rcases q with ⟨a, b⟩ | ⟨a, c', b, ic⟩
      · exact .inl ⟨a, b⟩
      · exact .inr ⟨a, c', b, ic.sameBut hs fun q => hne (F.cinj y x c (q ▸ b) hc)⟩
end

section
variable {w : World} {ok : Addr → Prop} {env : Env} {mu : List Addr} {p : Heap} {m : Str → Option Value} {ρ : Rho} {lv n : Nat} {fs : Fns} {A : Around} {s : Shared} {E : Value → Shared → Prop} {Q : Flow → Shared → Prop} {rest : List Stmt} {V : AV} {P : Prop}

theorem notClass (h : env.scope.kind = .function) : (env.scope.kind == .class || (env.scope.kind == .module && env.locals != env.globals)) = false := by rw [h]; rfl

/-- a store of a local name -/
theorem stoL {Q : Unit → Shared → Prop} {x : Str} {v : Value} (F : Fm w ok env mu p s.heap m ρ) (hx : env.kindOf x = some .local) (hdb : (x == ("__debug__" : Str)) = false) (i : Is w ok s.heap V v)
    (k : ∀ h' tk m', Fm w ok env mu p h' m' ((x, V) :: ρ) → Q () { s with heap := h', toks := tk }) : wpAny (model PR w) A (storeName env x v) Q E s :=
  wpAny_storeName_local hx F.ns (fun h' hn hs => k h' _ _ (F.setL hx hdb i hn hs)) (notClass F.kind)
theorem stoC {Q : Unit → Shared → Prop} {x : Str} {v : Value} {c : Addr} (F : Fm w ok env mu p s.heap m ρ) (hx : env.kindOf x = some .cell) (hdb : (x == ("__debug__" : Str)) = false) (hc : env.cells.lookup x = some c) (hmu : c ∈ mu) (i : Is w ok s.heap V v)
    (k : ∀ h' tk, Fm w ok env mu p h' m ((x, V) :: ρ) → Q () { s with heap := h', toks := tk }) : wpAny (model PR w) A (storeName env x v) Q E s := by
  obtain ⟨v₀, i₀⟩ := F.cells x c hc
  exact wpAny_storeName_cell F.kind hx hc i₀ fun h' hi hs => k h' _ (F.setC hx hdb hc hmu i hi hs)

/-- x = e, x a local name -/
theorem asgL {x : Str} {px pos : Pos} {e : Expr} (F : Fm w ok env mu p s.heap m ρ) (fe : FEnv w lv env fs) (hh : A.handled = none) (hd : A.depth + lv < recursionLimit)
    (hx : env.kindOf x = some .local) (hdb : (x == ("__debug__" : Str)) = false) (he : evP fs ρ n e = some (V, P)) (hP : P) (hsw : swapsWith e (some (.Name x px)) pos.line env = pure false)
    (k : ∀ h' tk m', Fm w ok env mu p h' m' ((x, V) :: ρ) → wpAny (model PR w) A (execs rest env) Q E { s with heap := h', toks := tk }) : wpAny (model PR w) A (execs (.Assign [.Name x px] e pos :: rest) env) Q E s := by
  refine wpAny_execs_cons (wpAny_Assign_Name (ev_sound hh hd n e V P s E _ he hP (F.envOk fe) fun v h' tk kk i => ?_) hsw)
  exact stoL (F.grow kk) hx hdb i fun h'' tk' m' F' => k _ _ _ F'
theorem asgC {x : Str} {px pos : Pos} {e : Expr} {c : Addr} (F : Fm w ok env mu p s.heap m ρ) (fe : FEnv w lv env fs) (hh : A.handled = none) (hd : A.depth + lv < recursionLimit)
    (hx : env.kindOf x = some .cell) (hdb : (x == ("__debug__" : Str)) = false) (hc : env.cells.lookup x = some c) (hmu : c ∈ mu) (he : evP fs ρ n e = some (V, P)) (hP : P) (hsw : swapsWith e (some (.Name x px)) pos.line env = pure false)
    (k : ∀ h' tk, Fm w ok env mu p h' m ((x, V) :: ρ) → wpAny (model PR w) A (execs rest env) Q E { s with heap := h', toks := tk }) : wpAny (model PR w) A (execs (.Assign [.Name x px] e pos :: rest) env) Q E s := by
  refine wpAny_execs_cons (wpAny_Assign_Name (ev_sound hh hd n e V P s E _ he hP (F.envOk fe) fun v h' tk kk i => ?_) hsw)
  exact stoC (F.grow kk) hx hdb hc hmu i fun h'' tk' F' => k _ _ F'
theorem retE {pos : Pos} {e : Expr} (F : Fm w ok env mu p s.heap m ρ) (fe : FEnv w lv env fs) (hh : A.handled = none) (hd : A.depth + lv < recursionLimit) (he : evP fs ρ n e = some (V, P)) (hP : P)
    (k : ∀ v h' tk, Sub s.heap h' → Is w ok h' V v → Q (.ret v) { s with heap := h', toks := tk }) : wpAny (model PR w) A (execs (.Return (some e) pos :: rest) env) Q E s :=
  wpAny_execs_cons (wpAny_Return_some (ev_sound hh hd n e V P s E _ he hP (F.envOk fe) fun v h' tk kk i => k v h' tk kk i))

theorem evP_cmp {l r : Expr} {op : CmpOp} {pos : Pos} (he : evP fs ρ (n + 1) (.Compare l [op] [r] pos) = some (V, P)) : ∃ a P1 b P2, evP fs ρ n l = some (a, P1) ∧ evP fs ρ n r = some (b, P2) ∧ cmpP op a b = some V ∧ (P → P1 ∧ P2) := by
  obtain ⟨a, P1, b, P2, h1, h2, hc, rfl⟩ := two1_some he
  exact ⟨a, P1, b, P2, h1, h2, hc, id⟩

/-- a test that is a comparison -/
theorem testE {Q : Bool → Shared → Prop} {l r : Expr} {op : CmpOp} {pos : Pos} {whole : Sem Value} {b : Bool} (F : Fm w ok env mu p s.heap m ρ) (fe : FEnv w lv env fs) (hh : A.handled = none) (hd : A.depth + lv < recursionLimit)
    (he : evP fs ρ (n + 1) (.Compare l [op] [r] pos) = some (.bool b, P)) (hP : P) (k : ∀ h' tk, Sub s.heap h' → Q b { s with heap := h', toks := tk }) : wpAny (model PR w) A (isTrue (.Compare l [op] [r] pos) env whole) Q E s := by
  obtain ⟨a, P1, b', P2, h1, h2, hc, hPP⟩ := evP_cmp he
  refine wpAny_isTrue_Compare1 (ev_sound hh hd n l a P1 s E _ h1 (hPP hP).1 (F.envOk fe) fun u h' tk kk iu => ?_) (behind_of op h2)
  refine ev_sound hh hd n r b' P2 _ E _ h2 (hPP hP).2 ((F.grow kk).envOk fe) fun v h'' tk' kk' iv => ?_
  refine cmp_sound hc (iu.sub kk') iv fun z h3 tk3 k3 i3 => ?_
  cases i3
  exact wpAny_truthy_bool (k _ _ (kk.trans (kk'.trans k3)))
theorem ifE {l r : Expr} {op : CmpOp} {tpos pos : Pos} {body orelse : List Stmt} {b : Bool} (F : Fm w ok env mu p s.heap m ρ) (fe : FEnv w lv env fs) (hh : A.handled = none) (hd : A.depth + lv < recursionLimit)
    (he : evP fs ρ (n + 1) (.Compare l [op] [r] tpos) = some (.bool b, P)) (hP : P)
    (k : ∀ h' tk, Fm w ok env mu p h' m ρ → wpAny (model PR w) A (execs (if b then body else orelse) env) (fun f s' => match f with | .next => wpAny (model PR w) A (execs rest env) Q E s' | f => Q f s') E { s with heap := h', toks := tk }) :
    wpAny (model PR w) A (execs (.If (.Compare l [op] [r] tpos) body orelse pos :: rest) env) Q E s := by
  refine wpAny_execs_cons (wpAny_If (testE F fe hh hd he hP fun h' tk kk => ?_))
  have := k h' tk (F.grow kk)
  cases b <;> exact this
end

section
theorem bindL_off {kd : Str → Option NameKind} {x : Str} : ∀ (bs : List (Str × Value)) (m : Str → Option Value), (∀ q ∈ bs, q.1 ≠ x) → bindL kd bs m x = m x
  | [], _, _ => rfl
  | (n, v) :: r, m, h => by
    unfold bindL
    rw [bindL_off r _ fun q hq => h q (List.mem_cons_of_mem _ hq)]
    split
    · simp only [if_neg (Ne.symm (h (n, v) List.mem_cons_self))]
    · rfl
theorem bindC_off {kd : Str → Option NameKind} {x : Str} : ∀ (bs : List (Str × Value)) (m : Str → Option Value), (∀ q ∈ bs, q.1 ≠ x) → bindC kd bs m x = m x
  | [], _, _ => rfl
  | (n, v) :: r, m, h => by
    unfold bindC
    rw [bindC_off r _ fun q hq => h q (List.mem_cons_of_mem _ hq)]
    split
    · rfl
    · simp only [if_neg (Ne.symm (h (n, v) List.mem_cons_self))]

theorem bind_vars {w : World} {ok : Addr → Prop} {h : Heap} {kd : Str → Option NameKind} : ∀ (names : List Str) (Vs : List AV) (vs : List Value) (m cm : Str → Option Value), names.Nodup → IsAll w ok h Vs vs → names.length = vs.length →
    ∀ x V, (names.zip Vs).lookup x = some V → ∃ v, Is w ok h V v ∧ (kd x = some .local → bindL kd (names.zip vs) m x = some v) ∧ (kd x ≠ some .local → bindC kd (names.zip vs) cm x = some v) ∧ x ∈ names
  | [], _, _, _, _, _, _, _, x, V, e => by simp at e
  | n :: ns, _, _, m, cm, hnd, .nil, hl, x, V, e => by simp at hl
  | n :: ns, _, _, m, cm, hnd, .cons (V := V₀) (v := v₀) (Vs := Vs) (vs := vs) i r, hl, x, V, e => by
    have hnd' := List.nodup_cons.mp hnd
    have hoff : ∀ q ∈ ns.zip vs, q.1 ≠ n := fun q hq e => hnd'.1 (e ▸ (List.of_mem_zip hq).1)
    rw [List.zip_cons_cons] at e
    rcases lookup_cons_of e with ⟨rfl, rfl⟩ | ⟨hne, e⟩
    · refine ⟨v₀, i, fun hk => ?_, fun hk => ?_, List.mem_cons_self⟩
      · rw [List.zip_cons_cons]; unfold bindL; rw [bindL_off _ _ hoff, if_pos hk]; simp
      · rw [List.zip_cons_cons]; unfold bindC; rw [bindC_off _ _ hoff, if_neg hk]; simp
    · obtain ⟨v, i', a, b, c⟩ := bind_vars (kd := kd) ns Vs vs (if kd n = some .local then fun y => if y = n then some v₀ else m y else m) (if kd n = some .local then cm else fun y => if y = n then some v₀ else cm y) hnd'.2 r (by simpa using hl) x V e
      exact ⟨v, i', fun hk => by rw [List.zip_cons_cons]; exact a hk, fun hk => by rw [List.zip_cons_cons]; exact b hk, List.mem_cons_of_mem _ c⟩
end

section
variable {w : World} {A : Around} {s : Shared} {ok : Addr → Prop} {Q E : Value → Shared → Prop} {f : Addr} {vs : List Value} {Vs : List AV} {names : List Str} {name qual : Str} {params : Arguments} {body : List Stmt} {scope : Scope} {dV kV doc pm cdv ct oc : Value} {an od : Option Addr} {osl : Array (Option Value)}

abbrev muOf (scope : Scope) (L : Addr) : List Addr := L :: (cellsFrom (L + 1) scope.names []).map (·.2)

theorem enterT (G : Gd w s.heap) (hroom : A.depth < recursionLimit) (fresh : ∀ a, s.heap.get? a = none → ok a) (I : IsAll w ok s.heap Vs vs)
    (ho : (Mine.hd.heap_39 w.params).lookup f = some ⟨oc, od, .func (fnOf name qual params body scope dV kV doc pm an cdv ct), osl⟩) (hcd : codeIn (Mine.hd.heap_39 w.params) cdv qual = true)
    (hbind : bindArgs (fnOf name qual params body scope dV kV doc pm an cdv ct) ⟨vs, []⟩ = pure (names.zip vs)) (hlen : names.length = vs.length) (hnd : names.Nodup) (hnc : ((cellsFrom 0 scope.names []).map (·.1)).Nodup)
    (hkind' : (names.all fun x => scope.names.lookup x == some .local || scope.names.lookup x == some .cell) = true) (hdb : ∀ x ∈ names, (x == ("__debug__" : Str)) = false)
    (hco : scope.isCoroutine = false) (hgen : scope.isGenerator = false) (hk : scope.kind = .function)
    (h : ∀ L h₁ tk m, s.toks ≤ tk → Fm w (fun a => ok a ∧ a ∉ muOf scope L) (envOfC qual scope L f cdv) (muOf scope L) s.heap h₁ m (names.zip Vs) →
      wpAny (model PR w) (A.deeper (envOfC qual scope L f cdv)) (execs body (envOfC qual scope L f cdv))
        (fun fl s' => Q (match fl with | .ret v => v | _ => .none) s') (fun _ _ => False) { s with heap := h₁, toks := tk }) : wpAny (model PR w) A (call (.ref f) vs) Q E s := by
  obtain ⟨mean, mg, mb, T⟩ := G.T
  have hkind : ∀ x ∈ names, scope.names.lookup x = some .local ∨ (scope.names.lookup x = some .cell ∧ ∀ n, ((cellsFrom n scope.names []).lookup x).isSome = true) := fun x hx => by
    have := List.all_eq_true.mp hkind' x hx
    rcases Bool.or_eq_true_iff.mp this with q | q
    · exact .inl (by simpa using q)
    · exact .inr ⟨by simpa using q, fun n => cellsFrom_some _ _ _ (.inl (by simpa using q))⟩
  refine wpAny_call (codeAny_call_function hroom (G.X _ _ ho) rfl hco hgen rfl (codeRec_of G.X hcd) (BindsTo.of_eq hbind _ _ _ _ ?_))
  refine wpAny_with_toks (Nat.le_refl s.toks) (wpAny_newFunctionEnv_cells hk (fun x hx => (hkind x.1 (List.of_mem_zip hx).1).imp id fun q => ⟨q.1, q.2 _⟩) fun env' he s' x htk => ?_)
  subst he
  refine ⟨T.nolimit.keeps x.toInCall.keep, codeAny_func ?_⟩
  obtain ⟨h₁, tk, rfl, _⟩ := x.done
  have hk₁ : Sub s.heap h₁ := x.toInCall.keep
  have none_of : ∀ a, a ∈ muOf scope s.heap.objs.size → s.heap.get? a = none := fun a ha => by
    have hle : s.heap.objs.size ≤ a := by
      rcases List.mem_cons.mp ha with rfl | ha
      · exact Nat.le_refl _
      · obtain ⟨q, hq, rfl⟩ := List.mem_map.mp ha
        exact Nat.le_of_lt (x.above q.1 q.2 hq)
    cases q : s.heap.get? a with
    | none => rfl
    | some o => exact absurd (Heap.lt_size q) (Nat.not_lt.mpr hle)
  refine wpAny_mono (h s.heap.objs.size h₁ tk (bindL (envOfC qual scope s.heap.objs.size f cdv).kindOf (names.zip vs) fun _ => none) htk ?_) (fun _ _ z => z) (fun _ _ z => z.elim)
  have mex : ∀ a ∈ muOf scope s.heap.objs.size, ∃ o, h₁.get? a = some o := by
    intro a hm
    rcases List.mem_cons.mp hm with rfl | hm
    · obtain ⟨o, _, _, ho, _⟩ := x.toInCall.ns
      exact ⟨o, ho⟩
    · obtain ⟨q, hq, rfl⟩ := List.mem_map.mp hm
      obtain ⟨o, ho, _⟩ := x.cell q.1 q.2 (lookup_of_mem_nodup (cellsFrom_names scope.names 0 (s.heap.objs.size + 1) [] [] rfl ▸ hnc) hq)
      exact ⟨o, ho⟩
  refine { keep := hk₁, pmu := none_of, gd := G, nok := fun a ha z => z.2 ha, Lmu := List.mem_cons_self, mex := mex, fresh := ?_, ns := x.toInCall.ns, kind := hk, glob := rfl, bi := rfl, cells := fun y c e => ⟨_, x.cell y c e⟩, cinj := fun y z c e e' => name_of_addr x.apart (mem_of_lookup e) (mem_of_lookup e'), vars := ?_ }
  · intro a e
    refine ⟨fresh a ?_, fun hm => ?_⟩
    · cases q : s.heap.get? a with
      | none => rfl
      | some o => rw [hk₁ a o q] at e; cases e
    · obtain ⟨o, ho⟩ := mex a hm
      rw [ho] at e; cases e
  · intro y V e
    obtain ⟨v, i, a, b, c⟩ := bind_vars (kd := (envOfC qual scope s.heap.objs.size f cdv).kindOf) names Vs vs (fun _ => none) (fun _ => none) hnd I hlen y V e
    refine ⟨hdb y c, v, i.mono fun a o oa e' => ⟨⟨oa, fun hm => by rw [none_of a hm] at e'; cases e'⟩, hk₁ a o e'⟩, ?_⟩
    rcases hkind y c with hl | ⟨hl, hc⟩
    · exact .inl ⟨hl, a hl⟩
    · obtain ⟨ca, hca⟩ := Option.isSome_iff_exists.mp (hc (s.heap.objs.size + 1))
      refine .inr ⟨hl, ca, hca, ?_⟩
      have q : h₁.IsCell ca (bindC (envOfC qual scope s.heap.objs.size f cdv).kindOf (names.zip vs) (fun _ => none) y) := x.cell y ca hca
      have hne : (envOfC qual scope s.heap.objs.size f cdv).kindOf y ≠ some .local := by
        show scope.names.lookup y ≠ some .local
        rw [hl]; decide
      rw [b hne] at q
      exact q
theorem enter (G : Gd w s.heap) (hroom : A.depth < recursionLimit) (fresh : ∀ a, s.heap.get? a = none → ok a) (I : IsAll w ok s.heap Vs vs)
    (ho : (Mine.hd.heap_39 w.params).lookup f = some ⟨oc, od, .func (fnOf name qual params body scope dV kV doc pm an cdv ct), osl⟩) (hcd : codeIn (Mine.hd.heap_39 w.params) cdv qual = true)
    (hbind : bindArgs (fnOf name qual params body scope dV kV doc pm an cdv ct) ⟨vs, []⟩ = pure (names.zip vs)) (hlen : names.length = vs.length) (hnd : names.Nodup) (hnc : ((cellsFrom 0 scope.names []).map (·.1)).Nodup)
    (hkind' : (names.all fun x => scope.names.lookup x == some .local || scope.names.lookup x == some .cell) = true) (hdb : ∀ x ∈ names, (x == ("__debug__" : Str)) = false)
    (hco : scope.isCoroutine = false) (hgen : scope.isGenerator = false) (hk : scope.kind = .function)
    (h : ∀ L h₁ tk m, Fm w (fun a => ok a ∧ a ∉ muOf scope L) (envOfC qual scope L f cdv) (muOf scope L) s.heap h₁ m (names.zip Vs) →
      wpAny (model PR w) (A.deeper (envOfC qual scope L f cdv)) (execs body (envOfC qual scope L f cdv))
        (fun fl s' => Q (match fl with | .ret v => v | _ => .none) s') (fun _ _ => False) { s with heap := h₁, toks := tk }) : wpAny (model PR w) A (call (.ref f) vs) Q E s := enterT G hroom fresh I ho hcd hbind hlen hnd hnc hkind' hdb hco hgen hk fun L h₁ tk m _ F => h L h₁ tk m F
end

section
variable {w : World} {ok : Addr → Prop} {h : Heap} {vs : List Value} {a b c d e : AV}
theorem IsAll.one (I : IsAll w ok h [a] vs) : ∃ v1, vs = [v1] := by
  cases I with | cons i1 I => cases I; exact ⟨_, rfl⟩
theorem IsAll.two (I : IsAll w ok h [a, b] vs) : ∃ v1 v2, vs = [v1, v2] := by
  cases I with | cons i1 I => obtain ⟨_, rfl⟩ := I.one; exact ⟨_, _, rfl⟩
theorem IsAll.three (I : IsAll w ok h [a, b, c] vs) : ∃ v1 v2 v3, vs = [v1, v2, v3] := by
  cases I with | cons i1 I => obtain ⟨_, _, rfl⟩ := I.two; exact ⟨_, _, _, rfl⟩
theorem IsAll.four (I : IsAll w ok h [a, b, c, d] vs) : ∃ v1 v2 v3 v4, vs = [v1, v2, v3, v4] := by
  cases I with | cons i1 I => obtain ⟨_, _, _, rfl⟩ := I.three; exact ⟨_, _, _, _, rfl⟩
theorem IsAll.five (I : IsAll w ok h [a, b, c, d, e] vs) : ∃ v1 v2 v3 v4 v5, vs = [v1, v2, v3, v4, v5] := by
  cases I with | cons i1 I => obtain ⟨_, _, _, _, rfl⟩ := I.four; exact ⟨_, _, _, _, _, rfl⟩
end
theorem sub_nil {ρ : Rho} : ∀ y U, ([] : Rho).lookup y = some U → ρ.lookup y = some U := fun _ _ e => nomatch e
theorem sub_cons {ρ ρ' : Rho} {x : Str} {V : AV} (h : ρ.lookup x = some V) (r : ∀ y U, ρ'.lookup y = some U → ρ.lookup y = some U) : ∀ y U, ((x, V) :: ρ').lookup y = some U → ρ.lookup y = some U := fun y U e => by
  rcases lookup_cons_of e with ⟨rfl, rfl⟩ | ⟨_, e⟩
  · exact h
  · exact r y U e
theorem A_deep {A : Around} {env : Env} (h : A.handled = none) : (A.deeper env).handled = none := h
theorem with1_own {w : World} {f : Addr} (hk : keepIn (Mine.hd.heap_39 w.params) (.ref f) = true) (s : Shared) (A : Around) (E Q : Value → Shared → Prop) (env : Env) (e : Expr) (rest : List Expr) (pos : Pos) (G : Gd w s.heap) (he : starEach (e :: rest) env = (false, eval e env) :: starEach rest env) (hp : (backTo pos (starEach rest env)).any (·.1) = false)
    (h : wpAny (model PR w) A (spliced (backTo pos (starEach (e :: rest) env))) (fun vs s₁ => Sub s.heap s₁.heap ∧ wpAny (model PR w) A (PySem.call (.ref f) vs) Q E s₁) E s) :
    wpAny (model PR w) A (callWith pos (.ref f) [] (backTo pos (starEach (e :: rest) env)) []) Q E s :=
  callWith_K (h₀ := s.heap) G.X hk (wpAny_mono h (fun _ _ z => ⟨(G.keeps z.1).X, z.2⟩) fun _ _ z => z) he hp
theorem seen (w : World) : PySem.Challenge.rw_ph0027_01 = PySem.Challenge.rw_ph0027_01 ∧ (Mine.hd.heap_39 w.params) = (Mine.hd.heap_39 w.params) := ⟨rfl, rfl⟩
end Mine

/-! Loop27 -/
namespace Mine
open PySem PySem.W PyProof.Rows PySem.Calls

def rngL (a b : Int) : List Int := (List.range (b - a).toNat).map fun (i : Nat) => a + (i : Int)

def itemsOf : AV → Option (List AV × Prop)
  | .ints l => some (l.map .int, True)
  | .strs l => some (l.map .str, True)
  | .str x => some (x.cps.toList.map fun c => .str ⟨#[c]⟩, True)
  | .t2s x y => some ([.str x, .str y], True)
  | .tab D => some (D.map fun q => .int q.1, True)
  | .rng a b => some ((rngL a b).map .int, -1000 ≤ a ∧ a ≤ 1000 ∧ -1000 ≤ b ∧ b ≤ 1000)
  | _ => none

def Src (w : World) (A : Around) (ok : Addr → Prop) (h₀ : Heap) (items : List AV) (it : Value) (h : Heap) : Prop :=
  ∃ (I : Addr) (fp : List Addr) (Pw : Nat → Value → Prop) (St : Nat → Heap → Prop), it = .ref I ∧ Walks PR w A I fp [I] items.length Pw St ∧ (∀ i h, St i h → ∃ o, h.get? I = some o) ∧ St 0 h ∧ h₀.get? I = none ∧ Sub h₀ h ∧
    (∀ b ∈ fp, b = I ∨ (ok b ∧ ∃ o, h₀.get? b = some o)) ∧ ∀ i v, i < items.length → Pw i v → ∃ V, items[i]? = some V ∧ ∀ ok h, Is w ok h V v

section
variable {w : World} {ok : Addr → Prop} {A : Around} {E Q : Value → Shared → Prop} {s : Shared}

theorem strs_at {vs : List Value} {ns : List Str} (h : StrsAre vs ns) : ∀ (i : Nat) (v : Value), vs[i]? = some v → ∃ n t, v = Value.str n t ∧ ns[i]? = some n := by
  induction h with
  | nil => intro i v e; rw [List.getElem?_nil] at e; cases e
  | cons m t _ ih =>
    intro i v e
    cases i with
    | zero => cases e; exact ⟨m, t, rfl, rfl⟩
    | succ i => exact ih i v e

theorem flat_at {enc : List (Int × Int)} : ∀ {kvs : List (Int × Value)} {D : List (Int × Int)}, PyProof.V.FlatPairs PyData.int kvs (encT D) → kvs.length = D.length ∧ ∀ (i : Nat) (k : Int) (x : Value), kvs[i]? = some (k, x) → ∃ z t, D[i]? = some (k, z) ∧ x = Value.int z t
  | [], [], _ => ⟨rfl, fun i k x e => by simp at e⟩
  | [], _ :: _, h => by cases h
  | _ :: _, [], h => by cases h
  | (k₀, x₀) :: kvs, (a, b) :: D, h => by
    have h' : PyProof.V.FlatPairs PyData.int ((k₀, x₀) :: kvs) ((PyData.int a, PyData.int b) :: encT D) := h
    generalize hg : PyData.int a = pa at h'
    cases h' with
    | cons hf hr =>
      cases hg
      obtain ⟨l, r⟩ := flat_at (enc := enc) hr
      refine ⟨by simp [l], fun i k x e => ?_⟩
      cases i with
      | zero =>
        simp at e
        obtain ⟨t, ht⟩ := PyProof.V.Flat.int_inv hf
        exact ⟨b, t, by simp [e.1], e.2 ▸ ht⟩
      | succ i => simpa using r i k x (by simpa using e)

theorem iter_sound {V : AV} {v : Value} {items : List AV} {P : Prop} (hh : A.handled = none) (hi : itemsOf V = some (items, P)) (hP : P) (iv : Is w ok s.heap V v)
    (k : ∀ it h', Sub s.heap h' → Src w A ok s.heap items it h' → Q it { s with heap := h' }) : wpAny (model PR w) A (pyIter v) Q E s := by
  unfold itemsOf at hi
  split at hi
  · rename_i l
    cases hi
    obtain ⟨a, vs, rfl, oa, hl, hi⟩ := iv
    obtain ⟨o, ho, _⟩ := id hl
    have hne : a ≠ s.heap.objs.size := Nat.ne_of_lt (Heap.lt_size ho)
    have W := Walks.list (prog := PR) (w := w) hh s.heap.objs.size a hne vs.toArray
    rw [show vs.toArray.size = (l.map AV.int).length by simp [hi.length]] at W
    refine wpAny_pyIter_list hl (k _ _ (Sub.push _ _) ⟨_, _, _, _, rfl, W, fun i h st => ⟨_, st.1.choose_spec.1⟩, ⟨⟨_, Heap.get?_push_size _ rfl, rfl, rfl⟩, hl.push _⟩, none_size _, Sub.push _ _, ?_, ?_⟩)
    · intro b hb
      rcases List.mem_cons.mp hb with rfl | hb
      · exact .inl rfl
      · rcases List.mem_cons.mp hb with rfl | hb
        · exact .inr ⟨oa, o, ho⟩
        · cases hb
    · intro i v _ hv
      obtain ⟨n, t, rfl, e⟩ := hi.at i v (by simpa using hv)
      exact ⟨.int n, by simp [e], fun _ _ => ⟨t, rfl⟩⟩
  · rename_i l
    cases hi
    obtain ⟨a, vs, rfl, oa, hl, hi⟩ := iv
    obtain ⟨o, ho, _⟩ := id hl
    have hne : a ≠ s.heap.objs.size := Nat.ne_of_lt (Heap.lt_size ho)
    have W := Walks.list (prog := PR) (w := w) hh s.heap.objs.size a hne vs.toArray
    rw [show vs.toArray.size = (l.map AV.str).length by simp [StrsAre.length hi]] at W
    refine wpAny_pyIter_list hl (k _ _ (Sub.push _ _) ⟨_, _, _, _, rfl, W, fun i h st => ⟨_, st.1.choose_spec.1⟩, ⟨⟨_, Heap.get?_push_size _ rfl, rfl, rfl⟩, hl.push _⟩, none_size _, Sub.push _ _, ?_, ?_⟩)
    · intro b hb
      rcases List.mem_cons.mp hb with rfl | hb
      · exact .inl rfl
      · rcases List.mem_cons.mp hb with rfl | hb
        · exact .inr ⟨oa, o, ho⟩
        · cases hb
    · intro i v _ hv
      obtain ⟨n, t, rfl, e⟩ := strs_at hi i v (by simpa using hv)
      exact ⟨.str n, by simp [e], fun _ _ => ⟨t, rfl⟩⟩
  · rename_i x
    cases hi
    obtain ⟨t, rfl⟩ := iv
    have hlen : (x.cps.toList.map fun c => AV.str ⟨#[c]⟩).length = x.cps.size := by simp
    have hsg : ∀ i v, i < (x.cps.toList.map fun c => AV.str ⟨#[c]⟩).length → SignAt x i v → ∃ V, (x.cps.toList.map fun c => AV.str ⟨#[c]⟩)[i]? = some V ∧ ∀ ok h, Is w ok h V v := by
      rintro i v _ ⟨c, u, hc, rfl⟩
      exact ⟨.str ⟨#[c]⟩, by simp [hc], fun _ _ => ⟨u, rfl⟩⟩
    have hfp : ∀ b ∈ [s.heap.objs.size], b = s.heap.objs.size ∨ (ok b ∧ ∃ o, s.heap.get? b = some o) := fun b hb => .inl (List.mem_singleton.mp hb)
    cases ha : x.cps.all (· < 128)
    · refine wpAny_pyIter_wide ha (k _ _ (Sub.push _ _) ⟨_, _, _, _, rfl, hlen ▸ Walks.strWide hh _ x t, ?_, ⟨_, Heap.get?_push_size _ rfl, rfl, rfl⟩, none_size _, Sub.push _ _, hfp, hsg⟩)
      exact fun i h st => let ⟨o, ho, _⟩ := st; ⟨o, ho⟩
    · refine wpAny_pyIter_ascii ha (k _ _ (Sub.push _ _) ⟨_, _, _, _, rfl, hlen ▸ Walks.strAscii hh _ x t, ?_, ⟨_, Heap.get?_push_size _ rfl, rfl, rfl⟩, none_size _, Sub.push _ _, hfp, hsg⟩)
      exact fun i h st => let ⟨o, ho, _⟩ := st; ⟨o, ho⟩
  · rename_i x y
    cases hi
    obtain ⟨a, t1, t2, rfl, oa, hl⟩ := iv
    obtain ⟨o, ho, _⟩ := id hl
    have hne : a ≠ s.heap.objs.size := Nat.ne_of_lt (Heap.lt_size ho)
    have W := Walks.tuple (prog := PR) (w := w) hh s.heap.objs.size a hne #[.str x t1, .str y t2]
    have W' : Walks PR w A s.heap.objs.size [s.heap.objs.size, a] [s.heap.objs.size] [AV.str x, AV.str y].length (fun i v => (#[Value.str x t1, Value.str y t2])[i]? = some v) (fun i h => h.IsTupleIter s.heap.objs.size a i ∧ h.IsTuple a #[.str x t1, .str y t2]) := W
    refine wpAny_pyIter_tuple hl (k _ _ (Sub.push _ _) ⟨_, _, _, _, rfl, W', fun i h st => ⟨_, st.1.choose_spec.1⟩, ⟨⟨_, Heap.get?_push_size _ rfl, rfl, rfl⟩, Heap.IsTuple.push hl _⟩, none_size _, Sub.push _ _, ?_, ?_⟩)
    · intro b hb
      rcases List.mem_cons.mp hb with rfl | hb
      · exact .inl rfl
      · rcases List.mem_cons.mp hb with rfl | hb
        · exact .inr ⟨oa, o, ho⟩
        · cases hb
    · intro i v hlt hv
      match i, hlt, hv with
      | 0, _, hv => cases hv; exact ⟨_, rfl, fun _ _ => ⟨t1, rfl⟩⟩
      | 1, _, hv => cases hv; exact ⟨_, rfl, fun _ _ => ⟨t2, rfl⟩⟩
  · rename_i D
    cases hi
    obtain ⟨d, rfl, od, lo, kvs, hd, hf⟩ := iv
    obtain ⟨ep, hat⟩ := hd.dictAt
    obtain ⟨hl, hv⟩ := flat_at (enc := D) hf
    have hne : d ≠ s.heap.objs.size := Nat.ne_of_lt hat.lt_size
    have hexi : ∃ o, s.heap.get? d = some o := let ⟨o, _, ho, _⟩ := hat; ⟨o, ho⟩
    have W := Walks.dictKeys (knd := intKind PR w) hh s.heap.objs.size d hne kvs ep
    have e9 : kvs.length = (D.map fun q => AV.int q.1).length := by simp [hl]
    have W' : Walks PR w A s.heap.objs.size [s.heap.objs.size, d] [s.heap.objs.size] (D.map fun q => AV.int q.1).length (fun i v => ∃ k x, kvs[i]? = some (k, x) ∧ (intKind PR w).is k v = true) (fun i h => h.IsKeyIter s.heap.objs.size d i kvs.length ep ∧ h.DictAt (intKind PR w) d kvs ep) := e9 ▸ W
    refine wpAny_pyIter_dict lo hat (k _ _ (Sub.push _ _) ⟨_, _, _, _, rfl, W', fun i h st => ⟨_, st.1.choose_spec.1⟩, ⟨⟨_, Heap.get?_push_size _ rfl, rfl, rfl⟩, hat.push _⟩, none_size _, Sub.push _ _, ?_, ?_⟩)
    · intro b hb
      rcases List.mem_cons.mp hb with rfl | hb
      · exact .inl rfl
      · rcases List.mem_cons.mp hb with rfl | hb
        · exact .inr ⟨od, hexi⟩
        · cases hb
    · rintro i v _ ⟨kk, x, hx, hk⟩
      obtain ⟨z, t, hz, _⟩ := hv i kk x hx
      obtain ⟨t', rfl⟩ := Value.isInt_shape hk
      exact ⟨.int kk, by simp [hz], fun _ _ => ⟨t', rfl⟩⟩
  · rename_i a b
    cases hi
    obtain ⟨r, t1, t2, t3, rfl, or, hr⟩ := iv
    have hsz : Builtin.Range.rangeSize a b 1 = (((b - a).toNat : Nat) : Int) := by
      unfold Builtin.Range.rangeSize
      simp only [show (1 : Int) > 0 by decide, if_true]
      split <;> simp <;> omega
    have W := Walks.range (prog := PR) (w := w) hh s.heap.objs.size a 1 (b - a).toNat
    have e9 : (b - a).toNat = ((rngL a b).map AV.int).length := by simp [rngL]
    have W' : Walks PR w A s.heap.objs.size [s.heap.objs.size] [s.heap.objs.size] ((rngL a b).map AV.int).length (fun i v => ∃ t, v = .int (a + i * 1) t) (fun i h => IsRangeIter h s.heap.objs.size (a + (i : Nat) * 1) (((b - a).toNat : Int) - (i : Nat)) 1) := e9 ▸ W
    obtain ⟨q1, q2, q3, q4⟩ := hP
    refine wpAny_pyIter_range hr ?_ (k _ _ (Sub.push _ _) ⟨_, _, _, _, rfl, W', fun i h st => ⟨_, st⟩, ?_, none_size _, Sub.push _ _, fun b hb => .inl (List.mem_singleton.mp hb), ?_⟩)
    · unfold Builtin.Range.small Builtin.Range.rangeFitsLong
      rw [hsz]
      simp
      omega
    · rw [hsz]
      have e1 : a + ((0 : Nat) : Int) * 1 = a := by omega
      have e2 : (((b - a).toNat : Nat) : Int) - ((0 : Nat) : Int) = (((b - a).toNat : Nat) : Int) := by omega
      show IsRangeIter _ _ (a + ((0 : Nat) : Int) * 1) ((((b - a).toNat : Nat) : Int) - ((0 : Nat) : Int)) 1
      rw [e1, e2]
      exact Heap.get?_push_size _ rfl
    · rintro i v hi ⟨t, rfl⟩
      have hi' : i < (b - a).toNat := by simpa [rngL] using hi
      exact ⟨.int (a + i), by simp [rngL, hi'], fun _ _ => ⟨t, by simp⟩⟩
  · cases hi
end

section
variable {w : World} {ok : Addr → Prop} {env : Env} {mu : List Addr} {p h h' : Heap} {m : Str → Option Value} {ρ : Rho}

/-- an address that is new is set apart -/
theorem Fm.shrink (F : Fm w ok env mu p h m ρ) {I : Addr} (hI : h.get? I = none) (k : Sub h h') (hI' : ∃ o, h'.get? I = some o) : Fm w (fun a => ok a ∧ a ≠ I) env mu p h' m ρ where
  keep := F.keep.trans k
  pmu := F.pmu
  gd := F.gd
  nok := fun a ha z => F.nok a ha z.1
  Lmu := F.Lmu
  mex := (F.grow k).mex
  fresh := fun a e => ⟨(F.grow k).fresh a e, by rintro rfl; obtain ⟨o, ho⟩ := hI'; rw [ho] at e; cases e⟩
  ns := F.ns.keeps k
  kind := F.kind
  glob := F.glob
  bi := F.bi
  cells := (F.grow k).cells
  cinj := F.cinj
  vars := fun x V e => let ⟨hd, v, i, q⟩ := F.vars x V e; ⟨hd, v, i.mono fun a o oa e' => ⟨⟨oa, by rintro rfl; rw [hI] at e'; cases e'⟩, k a o e'⟩, q.sub k⟩
theorem Fm.rebase (F : Fm w ok env mu p h m ρ) : Fm w ok env mu (hideAll h mu) h m ρ :=
  { F with keep := fun b o e => of_hideAll _ e, pmu := fun a ha => hideAll_none _ ha, gd := F.gd.keeps fun b o e => hideAll_get _ (F.keep b o e) fun hm => by rw [F.pmu b hm] at e; cases e }
def EndsAt (w : World) (ok : Addr → Prop) (env : Env) (mu : List Addr) (p : Heap) (ρ : Rho) (J : Heap → Prop) (s' : Shared) (f : Flow) (s'' : Shared) : Prop :=
  f = .next ∧ ∃ h' tk' m'', s'' = { s' with heap := h', toks := tk' } ∧ J h' ∧ Fm w ok env mu p h' m'' ρ

theorem for_src {A : Around} {s : Shared} {R : Result → Shared → Prop} {x : Str} {px : Pos} {body : List Stmt} {items : List AV} {it : Value} {σ : Nat → Rho} {J : Nat → Heap → Prop} {h₀ : Heap}
    (hx : env.kindOf x = some .local) (hdb : (x == ("__debug__" : Str)) = false) (S : Src w A ok h₀ items it s.heap) (F : Fm w ok env mu p h₀ m (σ 0)) (J0 : J 0 s.heap)
    (hJs : ∀ i h h', J i h → (∀ b o, b ≠ env.locals → (∃ o₀, h₀.get? b = some o₀) → h.get? b = some o → h'.get? b = some o) → J i h')
    (step : ∀ (i : Nat) (V : AV), items[i]? = some V → ∀ (ok' : Addr → Prop) (p' : Heap) (s' : Shared) (m' : Str → Option Value) (E' : Value → Shared → Prop), (∀ a, ok' a → ok a) → Sub p p' → (∃ h tk, s' = { s with heap := h, toks := tk }) → J i s'.heap → Fm w ok' env mu p' s'.heap m' ((x, V) :: σ i) →
      wpAny (model PR w) A (execs body env) (EndsAt w ok' env mu p' (σ (i + 1)) (J (i + 1)) s') E' s')
    (done : ∀ h' tk m', J items.length h' → Fm w ok env mu p h' m' (σ items.length) → R (.ok .next) { s with heap := h', toks := tk }) :
    codeAny (model PR w) A (.forLoop (.Name x px) it body [] env) R s := by
  obtain ⟨I, fp, Pw, St, rfl, W, hStI, hst, hI, hk, hfp, hP⟩ := S
  have hLI : env.locals ≠ I := by rintro rfl; obtain ⟨o, e⟩ := F.mex _ F.Lmu; rw [hI] at e; cases e
  have hImu : I ∉ mu := fun hm => by obtain ⟨o, e⟩ := F.mex _ hm; rw [hI] at e; cases e
  have hpI : p.get? I = none := by
    cases q : p.get? I with
    | none => rfl
    | some o => rw [F.keep _ _ q] at hI; cases hI
  have hCI : ∀ y c, env.cells.lookup y = some c → c ≠ I := fun y c e => by rintro rfl; obtain ⟨v, o, ho, _⟩ := F.cells y _ e; rw [hI] at ho; cases ho
  have hfmu : ∀ b ∈ fp, b ∉ mu := fun b hb hm => by
    rcases hfp b hb with rfl | ⟨ob, _⟩
    · exact hImu hm
    · exact F.nok b hm ob
  refine codeAny_forLoop_any
    (fun k s' => ∃ h tk m i, s' = { s with heap := h, toks := tk } ∧ St i h ∧ Fm w (fun a => ok a ∧ a ≠ I) env mu p h m (σ i) ∧ J i h ∧ i ≤ items.length ∧ k = items.length + 1 - i) ?_ (items.length + 1)
    ⟨s.heap, s.toks, m, 0, rfl, hst, F.shrink hI hk (hStI 0 _ hst), J0, Nat.zero_le _, rfl⟩
  rintro k s' ⟨h, tk, m', i, rfl, hst', F', hJ, hi, rfl⟩
  by_cases hlt : i < items.length
  · refine W.item i _ _ _ hlt hst' fun v h₁ tk₁ hPv hst₁ hk₁ => ?_
    have hk₁' : ∀ b o, b ≠ I → h.get? b = some o → h₁.get? b = some o := fun b o hb e => hk₁ b o (by simpa using hb) e
    obtain ⟨V, hV, hIs⟩ := hP i v hlt hPv
    have F₁ : Fm w (fun a => ok a ∧ a ≠ I) env mu p h₁ m' (σ i) := F'.chg hpI (fun z => z.2 rfl) hLI hCI hk₁' (hStI _ _ hst₁)
    have hJ₁ : J i h₁ := hJs i h h₁ hJ fun b o hbL ⟨o₀, e₀⟩ e => hk₁' b o (by rintro rfl; rw [hI] at e₀; cases e₀) e
    refine wpAny_of_eq (show letOwnedTupleGo (.Name x px) (.ref I) v = pure () from rfl) ?_
    refine wpAny_assign_Name (wpAny_storeName_local hx F₁.ns (fun h₂ hn₂ hs₂ => ?_) (notClass F.kind))
    have F₂ := F₁.setL hx hdb (hIs _ _) hn₂ hs₂
    have hst₂ : St (i + 1) h₂ := W.frame _ _ _ hst₁ fun b hb o e => (hs₂.2 b fun q => hfmu b hb (q ▸ F.Lmu)).trans e
    have hJ₂ : J i h₂ := hJs i h₁ h₂ hJ₁ fun b o hbL _ e => (hs₂.2 b hbL).trans e
    have hpp : Sub p (hideAll h₂ mu) := fun b o e => hideAll_get _ (F₂.keep b o e) fun hm => by rw [F.pmu b hm] at e; cases e
    refine wpAny_mono (step i V hV _ (hideAll h₂ mu) { s with heap := h₂, toks := _ } _ _ (fun a z => z.1) hpp ⟨_, _, rfl⟩ hJ₂ F₂.rebase) (fun f s₃ h₃ => ?_) fun _ _ e => e
    obtain ⟨rfl, h₃, tk₃, m₃, rfl, hJ₃, F₃⟩ := h₃
    refine ⟨items.length + 1 - (i + 1), by omega, h₃, tk₃, m₃, i + 1, rfl, ?_, { F₃ with keep := hpp.trans F₃.keep, pmu := F.pmu, gd := F.gd }, hJ₃, hlt, rfl⟩
    exact W.frame _ _ _ hst₂ fun b hb o e => F₃.keep b o (hideAll_get _ e (hfmu b hb))
  · have hin : i = items.length := by omega
    subst hin
    refine W.done _ _ _ hst' fun h₁ tk₁ hk₁ => wpAny_execs_nil ?_
    have hk₁' : ∀ b o, b ≠ I → h.get? b = some o → h₁.get? b = some o := fun b o hb e => hk₁ b o (by simpa using hb) e
    refine done h₁ tk₁ m' (hJs _ h h₁ hJ fun b o hbL ⟨o₀, e₀⟩ e => hk₁' b o (by rintro rfl; rw [hI] at e₀; cases e₀) e) ?_
    exact {
      keep := fun b o e => hk₁' b o (by rintro rfl; rw [hpI] at e; cases e) (F'.keep b o e)
      pmu := F.pmu
      gd := F.gd
      nok := F.nok
      Lmu := F.Lmu
      mex := fun a ha => let ⟨o, e⟩ := F'.mex a ha; ⟨o, hk₁' a o (fun q => hImu (q ▸ ha)) e⟩
      fresh := fun a e => by
        by_cases q : a = I
        · exact q ▸ F.fresh I hI
        · refine (F'.fresh a ?_).1
          cases z : h.get? a with
          | none => rfl
          | some o => rw [hk₁' a o q z] at e; cases e
      ns := F'.ns.at' fun o e => hk₁' _ o hLI e
      kind := F.kind
      glob := F.glob
      bi := F.bi
      cells := fun y c e => let ⟨v, o, ho, r⟩ := F'.cells y c e; ⟨v, o, hk₁' c o (hCI y c e) ho, r⟩
      cinj := F.cinj
      vars := fun y V e => by
        obtain ⟨hdb', v, i', q⟩ := F'.vars y V e
        exact ⟨hdb', v, i'.mono fun a o oa e' => ⟨oa.1, hk₁' a o oa.2 e'⟩, q.imp id fun ⟨a, c, b, o, ho, r⟩ => ⟨a, c, b, o, hk₁' c o (hCI y c b) ho, r⟩⟩ }
end

section
variable {w : World} {ok : Addr → Prop} {env : Env} {mu : List Addr} {p : Heap} {m : Str → Option Value} {ρ : Rho} {lv n : Nat} {fs : Fns} {A : Around} {s : Shared} {E : Value → Shared → Prop} {Q : Flow → Shared → Prop} {rest : List Stmt} {V : AV} {P P' : Prop}

theorem forE {x : Str} {px pos : Pos} {e : Expr} {body : List Stmt} {items : List AV} (σ : Nat → Rho) (J : Nat → Heap → Prop) (F : Fm w ok env mu p s.heap m ρ) (fe : FEnv w lv env fs) (hh : A.handled = none) (hd : A.depth + lv < recursionLimit)
    (hx : env.kindOf x = some .local) (hdb : (x == ("__debug__" : Str)) = false) (he : evP fs ρ n e = some (V, P)) (hP : P) (hi : itemsOf V = some (items, P')) (hP' : P') (hs : ∀ v, foldedSetIterable e env v = pure v)
    (hσ : ∀ y U, (σ 0).lookup y = some U → ρ.lookup y = some U) (J0 : ∀ h', Sub s.heap h' → J 0 h')
    (hJs : ∀ i h h', J i h → (∀ b o, b ≠ env.locals → (∃ o₀, s.heap.get? b = some o₀) → h.get? b = some o → h'.get? b = some o) → J i h')
    (step : ∀ (i : Nat) (V : AV), items[i]? = some V → ∀ (ok' : Addr → Prop) (p' : Heap) (s' : Shared) (m' : Str → Option Value) (E' : Value → Shared → Prop), (∀ a, ok' a → ok a) → Sub p p' → (∃ h tk, s' = { s with heap := h, toks := tk }) → J i s'.heap → Fm w ok' env mu p' s'.heap m' ((x, V) :: σ i) →
      wpAny (model PR w) A (execs body env) (EndsAt w ok' env mu p' (σ (i + 1)) (J (i + 1)) s') E' s')
    (k : ∀ h' tk m', J items.length h' → Fm w ok env mu p h' m' (σ items.length) → wpAny (model PR w) A (execs rest env) Q E { s with heap := h', toks := tk }) :
    wpAny (model PR w) A (execs (.For (.Name x px) e body [] pos :: rest) env) Q E s := by
  refine wpAny_execs_cons (wpAny_For (ev_sound hh hd n e V P s E _ he hP (F.envOk fe) fun v h' tk kk i => ?_) hs)
  refine iter_sound hh hi hP' i fun it h'' kk' S => ?_
  refine for_src (s := { s with heap := h'', toks := tk }) (σ := σ) (J := J) hx hdb S ((F.grow kk).less hσ) (J0 _ (kk.trans kk')) (fun i h1 h2 j q => hJs i h1 h2 j fun b o hb ⟨o₀, e₀⟩ e => q b o hb ⟨o₀, kk b o₀ e₀⟩ e) ?_ ?_
  · rintro i V hV ok' p' s' m' E' hok hpp ⟨h1, tk1, rfl⟩ j F'
    exact step i V hV ok' p' _ m' E' hok hpp ⟨h1, tk1, rfl⟩ j F'
  · intro h1 tk1 m1 j F1
    exact k h1 tk1 m1 j F1
end
end Mine

/-! Price27 -/
namespace Mine
open PySem PySem.W PyProof.Rows PySem.Calls

def priceV (d e : Int) (st rt : List Int) : Int := if d < e then 1 else if e = d then st.getD d.toNat 0 else rt.getD e.toNat 0
def fPrice : Fn where
  val := .ref 101
  lvl := 1
  den := fun | [.int d, .int e, .ints st, .ints rt] => some (.int (priceV d e st rt)) | _ => none
  pre := fun | [.int d, .int e, .ints st, .ints rt] => 0 ≤ d ∧ 0 ≤ e ∧ (e = d → d < st.length) ∧ (e < d → e < rt.length) ∧ st.length < 1000 ∧ rt.length < 1000 | _ => False

theorem price_ok (w : World) : FnOk w fPrice := by
  have hX := seen w
  revert hX; k_fill; intro _
  refine ⟨?_, with1_own (by k_is)⟩
  intro ok s A E Q Vs vs V G hh hd fresh I hden hpre k
  unfold fPrice at hden hpre hd
  dsimp only at hden hpre hd
  split at hden
  · rename_i d e st rt
    cases hden
    dsimp only at hpre
    obtain ⟨v1, v2, v3, v4, rfl⟩ := I.four
    refine' enter (names := ["depth", "end", "stays", "returns"]) G (by omega) fresh I ?k6 ?k7 ?k9 ?kl ?kn ?knc ?kk ?kd ?c2 ?c3 ?c4 ?_
    case k6 => k_is
    case k7 => k_is
    case k9 => exact rfl
    case kl => rfl
    case kn => decide
    case knc => decide
    case kk => decide
    case kd => decide
    case c2 => rfl
    case c3 => rfl
    case c4 => rfl
    intro L h₁ tk m F
    have fe : ∀ env, FEnv w 0 env [] := fun _ => FEnv.nil
    have hd' : ∀ env, (A.deeper env).depth + 0 < recursionLimit := fun env => by show A.depth + 1 + 0 < _; omega
    refine ifE (n := 3) F (fe _) (A_deep hh) (hd' _) (he := by rfl) (hP := ?_) ?_
    · exact ⟨trivial, trivial⟩
    · intro h2 tk2 F
      obtain ⟨p1, p2, p3, p4, p5, p6⟩ := hpre
      by_cases h1 : d < e
      · simp only [h1, decide_true, if_true]
        refine retE (n := 1) F (fe _) (A_deep hh) (hd' _) (he := by rfl) (hP := trivial) fun v h' tk' kk i => ?_
        refine k v h' tk' (F.keep.trans kk) ?_
        simpa [priceV, h1] using i.weak (fun _ z => z.1)
      · simp only [h1, decide_false, if_false]
        refine wpAny_execs_nil ?_
        refine ifE (n := 3) F (fe _) (A_deep hh) (hd' _) (he := by rfl) (hP := by exact ⟨trivial, trivial⟩) ?_
        intro h3 tk3 F
        by_cases h2 : e = d
        · simp only [h2, beq_self_eq_true, if_true]
          refine retE (n := 3) F (fe _) (A_deep hh) (hd' _) (he := by rfl) (hP := by exact ⟨trivial, trivial, p1, p3 h2, p5⟩) fun v h' tk' kk i => ?_
          refine k v h' tk' (F.keep.trans kk) ?_
          simpa [priceV, h1, h2] using i.weak (fun _ z => z.1)
        · have h2' : (e == d) = false := by simpa using h2
          simp only [h2', if_false]
          refine wpAny_execs_nil ?_
          refine retE (n := 3) F (fe _) (A_deep hh) (hd' _) (he := by rfl) (hP := by exact ⟨trivial, trivial, p2, p4 (by omega), p6⟩) fun v h' tk' kk i => ?_
          refine k v h' tk' (F.keep.trans kk) ?_
          simpa [priceV, h1, h2] using i.weak (fun _ z => z.1)
  · cases hden
end Mine

/-! Blt27 -/
namespace Mine
open PySem PySem.W PyProof.Rows PySem.Calls

theorem with1_blt {w : World} {id : String} (s : Shared) (A : Around) (E Q : Value → Shared → Prop) (env : Env) (e : Expr) (rest : List Expr) (pos : Pos) (_G : Gd w s.heap) (he : starEach (e :: rest) env = (false, eval e env) :: starEach rest env) (hp : (backTo pos (starEach rest env)).any (·.1) = false)
    (h : wpAny (model PR w) A (spliced (backTo pos (starEach (e :: rest) env))) (fun vs s₁ => Sub s.heap s₁.heap ∧ wpAny (model PR w) A (PySem.call (.builtin id) vs) Q E s₁) E s) :
    wpAny (model PR w) A (callWith pos (.builtin id) [] (backTo pos (starEach (e :: rest) env)) []) Q E s :=
  callWith_builtin1 (wpAny_mono h (fun _ _ z => z.2) fun _ _ z => z) he hp
theorem with1_type {w : World} {T : String} (s : Shared) (A : Around) (E Q : Value → Shared → Prop) (env : Env) (e : Expr) (rest : List Expr) (pos : Pos) (_G : Gd w s.heap) (he : starEach (e :: rest) env = (false, eval e env) :: starEach rest env) (hp : (backTo pos (starEach rest env)).any (·.1) = false)
    (h : wpAny (model PR w) A (spliced (backTo pos (starEach (e :: rest) env))) (fun vs s₁ => Sub s.heap s₁.heap ∧ wpAny (model PR w) A (PySem.call (.type T) vs) Q E s₁) E s) :
    wpAny (model PR w) A (callWith pos (.type T) [] (backTo pos (starEach (e :: rest) env)) []) Q E s :=
  PyProof.Rows.callWith_type1 (wpAny_mono h (fun _ _ z => z.2) fun _ _ z => z) he hp

def fLen : Fn where
  val := .builtin "len"
  lvl := 0
  den := fun | [.str x] => some (.int x.length) | [.ints l] => some (.int l.length) | _ => none
  pre := fun | [.str x] => x.length < 1000000 | [.ints l] => l.length < 1000000 | _ => False
def fAbs : Fn where
  val := .builtin "abs"
  lvl := 0
  den := fun | [.int a] => some (.int (if a < 0 then -a else a)) | _ => none
  pre := fun _ => True
def fMax : Fn where
  val := .builtin "max"
  lvl := 0
  den := fun | [.int a, .int b] => some (.int (if b > a then b else a)) | _ => none
  pre := fun _ => True
def fChr : Fn where
  val := .builtin "chr"
  lvl := 0
  den := fun | [.int a] => some (.str ⟨#[a.toNat]⟩) | _ => none
  pre := fun | [.int a] => 0 ≤ a ∧ a ≤ 1114111 | _ => False
def fSum : Fn where
  val := .builtin "sum"
  lvl := 0
  den := fun | [.ints l] => some (.int l.sum) | _ => none
  pre := fun _ => True
def fRange : Fn where
  val := .type "range"
  lvl := 0
  den := fun | [.int b] => some (.rng 0 b) | [.int a, .int b] => some (.rng a b) | _ => none
  pre := fun _ => True

theorem len_ok (w : World) : FnOk w fLen := by
  refine ⟨?_, with1_blt⟩
  intro ok s A E Q Vs vs V G hh hd fresh I hden hpre k
  unfold fLen at hden hpre
  dsimp only at hden hpre
  split at hden
  · cases hden
    dsimp only at hpre
    cases I with | cons i I => cases I; obtain ⟨t, rfl⟩ := i; exact PyProof.Rows.len_str (by omega) (k _ _ _ Sub.rfl ⟨_, rfl⟩)
  · cases hden
    dsimp only at hpre
    cases I with | cons i I => cases I; obtain ⟨a, vs, rfl, _, hl, hi⟩ := i; exact len_list hl (by simp [hi.length]; omega) (k _ _ _ Sub.rfl ⟨s.toks + 1, by simp [hi.length]⟩)
  · cases hden
theorem abs_ok (w : World) : FnOk w fAbs := by
  refine ⟨?_, with1_blt⟩
  intro ok s A E Q Vs vs V G hh hd fresh I hden hpre k
  unfold fAbs at hden
  dsimp only at hden
  split at hden
  · cases hden
    cases I with | cons i I => cases I; obtain ⟨t, rfl⟩ := i; exact call_abs_int fun u tk => k _ _ _ Sub.rfl ⟨_, rfl⟩
  · cases hden
theorem max_ok (w : World) : FnOk w fMax := by
  refine ⟨?_, with1_blt⟩
  intro ok s A E Q Vs vs V G hh hd fresh I hden hpre k
  unfold fMax at hden
  dsimp only at hden
  split at hden
  · rename_i a b
    cases hden
    cases I with | cons i I => cases I with | cons j I => cases I; obtain ⟨t, rfl⟩ := i; obtain ⟨u, rfl⟩ := j; exact max_two_ints hh fun h' tk kk => k _ _ _ kk (by by_cases c : b > a <;> simp only [c, if_true, if_false] <;> exact ⟨_, rfl⟩)
  · cases hden
theorem chr_ok (w : World) : FnOk w fChr := by
  refine ⟨?_, with1_blt⟩
  intro ok s A E Q Vs vs V G hh hd fresh I hden hpre k
  unfold fChr at hden hpre
  dsimp only at hden hpre
  split at hden
  · cases hden
    dsimp only at hpre
    cases I with | cons i I => cases I; obtain ⟨t, rfl⟩ := i; exact chr_of_range hpre.1 hpre.2 (k _ _ _ Sub.rfl ⟨_, rfl⟩)
  · cases hden
theorem range_ok (w : World) : FnOk w fRange := by
  refine ⟨?_, with1_type⟩
  intro ok s A E Q Vs vs V G hh hd fresh I hden hpre k
  unfold fRange at hden
  dsimp only at hden
  split at hden
  · cases hden
    cases I with | cons i I => cases I; obtain ⟨t, rfl⟩ := i; exact call_range_1 (k _ _ _ (Sub.push _ _) ⟨_, _, _, _, rfl, fresh _ (none_size _), Heap.get?_push_size _ rfl⟩)
  · cases hden
    cases I with | cons i I => cases I with | cons j I => cases I; obtain ⟨t, rfl⟩ := i; obtain ⟨u, rfl⟩ := j; exact call_range_2 (k _ _ _ (Sub.push _ _) ⟨_, _, _, _, rfl, fresh _ (none_size _), Heap.get?_push_size _ rfl⟩)
  · cases hden
theorem preSum_take (l : List Int) : ∀ n, n ≤ l.length → preSum (fun i => l.getD i 0) n = (l.take n).sum
  | 0, _ => by simp [preSum]
  | n + 1, h => by
    have hlt : n < l.length := h
    rw [preSum, preSum_take l n (Nat.le_of_lt hlt), List.take_add_one, List.sum_append]
    simp [List.getD, hlt]
theorem sum_ok (w : World) : FnOk w fSum := by
  refine ⟨?_, with1_blt⟩
  intro ok s A E Q Vs vs V G hh hd fresh I hden hpre k
  unfold fSum at hden
  dsimp only at hden
  split at hden
  · rename_i l
    cases hden
    cases I with | cons i I => _
    cases I
    obtain ⟨a, vs, rfl, _, hl, hi⟩ := i
    have ho : ∃ o, s.heap.get? a = some o := let ⟨o, ho, _⟩ := hl; ⟨o, ho⟩
    obtain ⟨o, ho⟩ := ho
    have hlt := Heap.lt_size ho
    refine call_sum_walkG (wpAny_pyIter_list hl ⟨_, _, _, _, _, _, fun i => l.getD i 0, rfl, Walks.list (A := A.in1) hh _ a (Nat.ne_of_lt hlt) vs.toArray, ⟨⟨_, Heap.get?_push_size _ rfl, rfl, rfl⟩, hl.push _⟩, ?_, ?_, ?_⟩)
    · intro b hb
      show b < (s.heap.push _).objs.size
      rw [Heap.size_push]
      rcases List.mem_cons.mp hb with rfl | hb
      · exact Nat.lt_succ_self _
      · rcases List.mem_cons.mp hb with rfl | hb
        · exact Nat.lt_succ_of_lt hlt
        · cases hb
    · intro i v hv
      obtain ⟨n, t, rfl, e⟩ := hi.at i v (by simpa using hv)
      exact ⟨t, by simp [e]⟩
    · intro h' tk t' kk
      have hkk : Sub s.heap h' := fun b o e => kk b o (fun hb => by have hb' := List.mem_singleton.mp hb; rw [hb'] at e; rw [none_size] at e; cases e) (Heap.get?_push_of_some _ e)
      refine k _ _ _ hkk ⟨t', ?_⟩
      rw [show vs.toArray.size = l.length by simp [hi.length], preSum_take l _ (Nat.le_refl _), List.take_length]
  · cases hden
end Mine

/-! Cnt27 -/
namespace Mine
open PySem PySem.W PyProof.Rows PySem.Calls

abbrev Z3 := Int × Int × Int
def cntS (z : Z3 × Z3) : Z3 × Z3 := (z.2, (z.2.1 + z.1.1, z.2.2.1 + z.2.1 + z.1.2.1, z.2.2.2 + z.1.2.2 + z.1.1))
def cntI : Nat → Z3 × Z3
  | 0 => ((0, 0, 0), (1, 0, 0))
  | i + 1 => cntS (cntI i)
def av3 (z : Z3) : AV := .t3 z.1 z.2.1 z.2.2
def fCounts : Fn where
  val := .ref 113
  lvl := 1
  den := fun | [.int n] => some (av3 (cntI n.toNat).2) | _ => none
  pre := fun | [.int n] => 0 ≤ n ∧ n ≤ 100 | _ => False

theorem counts_ok (w : World) : FnOk w fCounts := by
  have hX := seen w
  revert hX; k_fill; intro _
  refine ⟨?_, with1_own (by k_is)⟩
  intro ok s A E Q Vs vs V G hh hd fresh I hden hpre k
  unfold fCounts at hden hpre hd
  dsimp only at hden hpre hd
  split at hden
  · rename_i n
    cases hden
    dsimp only at hpre
    obtain ⟨v1, rfl⟩ := I.one
    refine' enter (names := ["size"]) G (by omega) fresh I ?k6 ?k7 ?k9 ?kl ?kn ?knc ?kk ?kd ?c2 ?c3 ?c4 ?_
    case k6 => k_is
    case k7 => k_is
    case k9 => exact rfl
    case kl => rfl
    case kn => decide
    case knc => decide
    case kk => decide
    case kd => decide
    case c2 => rfl
    case c3 => rfl
    case c4 => rfl
    intro L h₁ tk m F
    have hd' : ∀ env, (A.deeper env).depth + 0 < recursionLimit := fun env => by show A.depth + 1 + 0 < _; omega
    refine asgL (n := 2) F (FEnv.nil (lv := 0)) (A_deep hh) (hd' _) (by rfl) (by decide) (he := by rfl) (hP := by exact ⟨trivial, trivial, trivial, trivial⟩) (by rfl) ?_
    intro h2 tk2 m2 F
    refine asgL (n := 2) F (FEnv.nil (lv := 0)) (A_deep hh) (hd' _) (by rfl) (by decide) (he := by rfl) (hP := by exact ⟨trivial, trivial, trivial, trivial⟩) (by rfl) ?_
    intro h3 tk3 m3 F
    refine forE (n := 2) (fs := [("range", fRange)]) (lv := 0) (fun i => [("before", av3 (cntI i).1), ("now", av3 (cntI i).2)]) (fun _ _ => True) F (.cons (by rfl) (by decide) (.boot (by k_is) (by boot_by_name) (by decide)) (range_ok w) (by decide) .nil) (A_deep hh) (hd' _) (by rfl) (by decide) (he := by rfl) (hP := by exact ⟨⟨trivial, trivial⟩, trivial⟩) (hi := by rfl) (hP' := by exact ⟨by decide, by decide, by omega, by omega⟩) (hs := fun _ => by rfl) ?_ (fun _ _ => trivial) (fun _ _ _ _ _ => trivial) ?_ ?_
    · exact sub_cons (by rfl) (sub_cons (by rfl) sub_nil)
    · rintro i V hV ok' p' s' m' E' hok hpp ⟨h4, tk4, rfl⟩ - F
      refine asgL (n := 5) F (FEnv.nil (lv := 0)) (A_deep hh) (hd' _) (by rfl) (by decide) (he := by rfl) (hP := by simp) (by rfl) ?_
      intro h5 tk5 m5 F
      refine asgL (n := 5) F (FEnv.nil (lv := 0)) (A_deep hh) (hd' _) (by rfl) (by decide) (he := by rfl) (hP := by exact trivial) (by rfl) ?_
      intro h6 tk6 m6 F
      refine asgL (n := 5) F (FEnv.nil (lv := 0)) (A_deep hh) (hd' _) (by rfl) (by decide) (he := by rfl) (hP := by exact trivial) (by rfl) ?_
      intro h7 tk7 m7 F
      refine wpAny_execs_nil ⟨rfl, _, _, _, rfl, trivial, F.less (sub_cons (by rfl) (sub_cons (by rfl) sub_nil))⟩
    · intro h4 tk4 m4 _ F
      refine retE (n := 1) F (FEnv.nil (lv := 0)) (A_deep hh) (hd' _) (he := by rfl) (hP := trivial) fun v h' tk' kk i => ?_
      refine k v h' tk' (F.keep.trans kk) ?_
      simpa [rngL] using i.weak (fun _ z => z.1)
  · cases hden
end Mine

/-! Items27 -/
namespace Mine
open PySem PySem.W PyProof.Rows PySem.Calls

section
variable {w : World} {ok : Addr → Prop} {env : Env} {mu : List Addr} {p h h' : Heap} {m : Str → Option Value} {ρ : Rho}

/-- behind a loop: the iterator is let go -/
theorem Fm.leave {I : Addr} (F : Fm w (fun a => ok a ∧ a ≠ I) env mu p h m ρ) (hok : ok I) (hnok : ∀ a ∈ mu, ¬ ok a) (hImu : I ∉ mu) (hpI : p.get? I = none) (hLI : env.locals ≠ I) (hCI : ∀ y c, env.cells.lookup y = some c → c ≠ I)
    (hk : ∀ b o, b ≠ I → h.get? b = some o → h'.get? b = some o) : Fm w ok env mu p h' m ρ where
  keep := fun b o e => hk b o (by rintro rfl; rw [hpI] at e; cases e) (F.keep b o e)
  pmu := F.pmu
  gd := F.gd
  nok := hnok
  Lmu := F.Lmu
  mex := fun a ha => let ⟨o, e⟩ := F.mex a ha; ⟨o, hk a o (fun q => hImu (q ▸ ha)) e⟩
  fresh := fun a e => by
    by_cases q : a = I
    · exact q ▸ hok
    · refine (F.fresh a ?_).1
      cases z : h.get? a with
      | none => rfl
      | some o => rw [hk a o q z] at e; cases e
  ns := F.ns.at' fun o e => hk _ o hLI e
  kind := F.kind
  glob := F.glob
  bi := F.bi
  cells := fun y c e => let ⟨v, o, ho, r⟩ := F.cells y c e; ⟨v, o, hk c o (hCI y c e) ho, r⟩
  cinj := F.cinj
  vars := fun y V e => by
    obtain ⟨hdb', v, i', q⟩ := F.vars y V e
    exact ⟨hdb', v, i'.mono fun a o oa e' => ⟨oa.1, hk a o oa.2 e'⟩, q.imp id fun ⟨a, c, b, o, ho, r⟩ => ⟨a, c, b, o, hk c o (hCI y c b) ho, r⟩⟩

/-- an object of the call's own that may change -/
theorem Fm.alloc (F : Fm w ok env mu p h m ρ) (o : Obj) (hfree : o.isFreed = false) : Fm w (fun a => ok a ∧ a ≠ h.objs.size) env (h.objs.size :: mu) p (h.push o) m ρ :=
  let G := F.shrink (none_size h) (Sub.push h o) ⟨o, Heap.get?_push_size _ hfree⟩
  { G with
    pmu := fun a ha => by
      rcases List.mem_cons.mp ha with rfl | ha
      · cases q : p.get? h.objs.size with
        | none => rfl
        | some o => have := F.keep _ _ q; rw [none_size] at this; cases this
      · exact F.pmu a ha
    nok := fun a ha z => by
      rcases List.mem_cons.mp ha with rfl | ha
      · exact z.2 rfl
      · exact F.nok a ha z.1
    Lmu := List.mem_cons_of_mem _ F.Lmu
    mex := fun a ha => by
      rcases List.mem_cons.mp ha with rfl | ha
      · exact ⟨o, Heap.get?_push_size _ hfree⟩
      · exact G.mex a ha }

theorem for_items {A : Around} {s : Shared} {E : Value → Shared → Prop} {R : Result → Shared → Prop} {xk xv : Str} {pk pv pt : Pos} {x1 : Nat} {body : List Stmt} {D : List (Int × Int)} {d vw : Addr} {σ : Nat → Rho} {J : Nat → Heap → Prop}
    (hh : A.handled = none) (hxk : env.kindOf xk = some .local) (hdk : (xk == ("__debug__" : Str)) = false) (hxv : env.kindOf xv = some .local) (hdv : (xv == ("__debug__" : Str)) = false)
    (hvw : s.heap.IsItemsView vw d) (T : IntTab PR w s.heap d (encT D)) (od : ok d) (F : Fm w ok env mu p s.heap m (σ 0)) (J0 : J 0 s.heap)
    (hJs : ∀ i h h', J i h → (∀ b o, b ≠ env.locals → (∃ o₀, s.heap.get? b = some o₀) → h.get? b = some o → h'.get? b = some o) → J i h')
    (step : ∀ (i : Nat) (k z : Int), D[i]? = some (k, z) → ∀ (ok' : Addr → Prop) (p' : Heap) (s' : Shared) (m' : Str → Option Value) (E' : Value → Shared → Prop), (∀ a, ok' a → ok a) → Sub p p' → (∃ h tk, s' = { s with heap := h, toks := tk }) → J i s'.heap → Fm w ok' env mu p' s'.heap m' ((xv, .int z) :: (xk, .int k) :: σ i) →
      wpAny (model PR w) A (execs body env) (EndsAt w ok' env mu p' (σ (i + 1)) (J (i + 1)) s') E' s')
    (done : ∀ h' tk m', J D.length h' → Fm w ok env mu p h' m' (σ D.length) → R (.ok .next) { s with heap := h', toks := tk }) :
    wpAny (model PR w) A (pyIter (.ref vw)) (fun it s₂ => codeAny (model PR w) A (.forLoop (.Tuple [.Name xk pk, .Name xv pv] x1 pt) it body [] env) R s₂) E s := by
  obtain ⟨lo, kvs, hdo, hf⟩ := T
  obtain ⟨ep, hat⟩ := hdo.dictAt
  obtain ⟨hlen, hv⟩ := flat_at (enc := D) hf
  have hne : d ≠ s.heap.objs.size := Nat.ne_of_lt hat.lt_size
  refine wpAny_pyIter_items (knd := intKind PR w) hvw hat ?_
  have hI := none_size s.heap
  have W := kti_itemsTurns (knd := intKind PR w) (elts := [.Name xk pk, .Name xv pv]) (kk := x1) (pos := pt) hh s.heap.objs.size d hne kvs ep
  have hLI : env.locals ≠ s.heap.objs.size := fun q => by obtain ⟨o, e⟩ := F.mex _ F.Lmu; rw [q, hI] at e; cases e
  have hImu : s.heap.objs.size ∉ mu := fun hm => by obtain ⟨o, e⟩ := F.mex _ hm; rw [hI] at e; cases e
  have hpI : p.get? s.heap.objs.size = none := by
    cases q : p.get? s.heap.objs.size with
    | none => rfl
    | some o => rw [F.keep _ _ q] at hI; cases hI
  have hCI : ∀ y c, env.cells.lookup y = some c → c ≠ s.heap.objs.size := fun y c e q => by obtain ⟨v, o, ho, _⟩ := F.cells y _ e; rw [q, hI] at ho; cases ho
  have hdmu : d ∉ mu := fun hm => F.nok d hm od
  have hfmu : ∀ b ∈ [s.heap.objs.size, d], b ∉ mu := fun b hb hm => by
    rcases List.mem_cons.mp hb with rfl | hb
    · exact hImu hm
    · rw [List.mem_singleton.mp hb] at hm; exact hdmu hm
  have hStI : ∀ i h, ((∃ ok ov, IsItemIter h s.heap.objs.size d i kvs.length ep ok ov) ∧ h.DictAt (intKind PR w) d kvs ep) → ∃ o, h.get? s.heap.objs.size = some o := fun i h ⟨⟨_, _, e⟩, _⟩ => ⟨_, e⟩
  have hst0 : (∃ ok ov, IsItemIter (s.heap.push { cls := .type "dict_itemiterator", data := .fields #[.none, .bool false, .ref d, .int 0 0, .int kvs.length 0, .int ep 0, .none, .none] }) s.heap.objs.size d 0 kvs.length ep ok ov) ∧ (s.heap.push { cls := .type "dict_itemiterator", data := .fields #[.none, .bool false, .ref d, .int 0 0, .int kvs.length 0, .int ep 0, .none, .none] }).DictAt (intKind PR w) d kvs ep :=
    ⟨⟨.none, .none, Heap.get?_push_size _ rfl⟩, hat.push _⟩
  refine codeAny_forLoop_any
    (fun k s' => ∃ h tk m i, s' = { s with heap := h, toks := tk } ∧ ((∃ ok ov, IsItemIter h s.heap.objs.size d i kvs.length ep ok ov) ∧ h.DictAt (intKind PR w) d kvs ep) ∧ Fm w (fun a => ok a ∧ a ≠ s.heap.objs.size) env mu p h m (σ i) ∧ J i h ∧ i ≤ D.length ∧ k = D.length + 1 - i) ?_ (D.length + 1)
    ⟨_, s.toks, m, 0, rfl, hst0, F.shrink hI (Sub.push _ _) (hStI 0 _ hst0), hJs 0 _ _ J0 (fun b o _ _ e => Sub.push _ _ b o e), Nat.zero_le _, rfl⟩
  rintro k s' ⟨h, tk, m', i, rfl, hst', F', hJ, hi, rfl⟩
  have stab : ∀ {h h' : Heap} {i}, J i h → (∀ b o, b ∉ [s.heap.objs.size] → h.get? b = some o → h'.get? b = some o) → J i h' := fun {h h' i} j q => hJs i h h' j fun b o _ ⟨o₀, e₀⟩ e => q b o (fun hb => by rw [List.mem_singleton.mp hb, hI] at e₀; cases e₀) e
  by_cases hlt : i < D.length
  · refine W.item i _ _ _ (by omega) hst' fun v h₁ tk₁ hMd hk₁ => ?_
    have hMd' := hMd
    obtain ⟨T', key, kk, xx, okk, ov, rfl, hx, hkey, hT, hio, hda, hTI⟩ := hMd'
    refine W.go i _ _ _ _ hMd fun h₂ hP hst₂ hk₂ => ?_
    have hk12 : ∀ b o, b ∉ [s.heap.objs.size] → h.get? b = some o → h₂.get? b = some o := fun b o hb e => hk₂ b o hb (hk₁ b o hb e)
    have F₂ : Fm w (fun a => ok a ∧ a ≠ s.heap.objs.size) env mu p h₂ m' (σ i) := F'.chg hpI (fun z => z.2 rfl) hLI hCI (fun b o hb e => hk12 b o (by simpa using hb) e) (hStI _ _ hst₂)
    have hJ₂ : J i h₂ := stab hJ hk12
    obtain ⟨T₂, key₂, k₂, x₂, hTe, hx₂, hkey₂, hT₂⟩ := hP
    cases hTe
    obtain ⟨z, t, hz, hxz⟩ := hv i k₂ x₂ hx₂
    obtain ⟨t', rfl⟩ := Value.isInt_shape hkey₂
    subst hxz
    refine wpAny_assign_Tuple hh hT₂ rfl rfl fun h₃ hx₃ => ?_
    have s23 : Sub h₂ h₃ := fun b o e => hx₃ b o (Nat.ne_of_lt (Heap.lt_size e)) e
    have F₃ := F₂.grow s23
    have hJ₃ : J i h₃ := hJs i _ _ hJ₂ fun b o _ _ e => s23 b o e
    show wpAny _ _ (do holding [.int z t] (assign (.Name xk pk) env (.int k₂ t')); do holding [] (assign (.Name xv pv) env (.int z t)); pure ()) _ _ _
    refine wpAny_bind (wpAny_holding (wpAny_assign_Name (wpAny_storeName_local hxk F₃.ns (fun h₄ hn₄ hs₄ => ?_) (notClass F.kind))))
    have F₄ := F₃.setL hxk hdk (V := .int k₂) ⟨t', rfl⟩ hn₄ hs₄
    refine wpAny_bind (wpAny_holding (wpAny_assign_Name (wpAny_storeName_local hxv F₄.ns (fun h₅ hn₅ hs₅ => wpAny_pure ?_) (notClass F.kind))))
    have F₅ := F₄.setL hxv hdv (V := .int z) ⟨t, rfl⟩ hn₅ hs₅
    have up : ∀ b o, b ≠ env.locals → h₂.get? b = some o → h₅.get? b = some o := fun b o hb e => (hs₅.2 b hb).trans ((hs₄.2 b hb).trans (s23 b o e))
    have hJ₅ : J i h₅ := hJs i _ _ hJ₂ fun b o hb _ e => up b o hb e
    have hst₅ := W.frame _ _ h₅ hst₂ fun b hb o e => up b o (fun q => hfmu b hb (q ▸ F.Lmu)) e
    have hpp : Sub p (hideAll h₅ mu) := fun b o e => hideAll_get _ (F₅.keep b o e) fun hm => by rw [F.pmu b hm] at e; cases e
    refine wpAny_mono (step i k₂ z hz _ (hideAll h₅ mu) { s with heap := h₅, toks := _ } _ _ (fun a z => z.1) hpp ⟨_, _, rfl⟩ hJ₅ F₅.rebase) (fun f s₃ h₃ => ?_) fun _ _ e => e
    obtain ⟨rfl, h₆, tk₆, m₆, rfl, hJ₆, F₆⟩ := h₃
    refine ⟨D.length + 1 - (i + 1), by omega, h₆, tk₆, m₆, i + 1, rfl, ?_, { F₆ with keep := hpp.trans F₆.keep, pmu := F.pmu, gd := F.gd }, hJ₆, hlt, rfl⟩
    exact W.frame _ _ _ hst₅ fun b hb o e => F₆.keep b o (hideAll_get _ e (hfmu b hb))
  · have hin : i = D.length := by omega
    subst hin
    rw [← hlen] at hst'
    refine W.done _ _ _ hst' fun h₁ tk₁ hk₁ => wpAny_execs_nil ?_
    exact done h₁ tk₁ m' (stab hJ hk₁) (F'.leave (F.fresh _ hI) F.nok hImu hpI hLI hCI fun b o hb e => hk₁ b o (by simpa using hb) e)
end
end Mine

/-! Add27 -/
namespace Mine
open PySem PySem.W PyProof.Rows PySem.Calls PyProof.V

def tput (D : List (Int × Int)) (k v : Int) : List (Int × Int) :=
  if D.any (fun q => decide (q.1 = k)) then D.map (fun q => if q.1 = k then (q.1, v) else q) else D ++ [(k, v)]
def addOne (D : List (Int × Int)) (q : Int × Int) : List (Int × Int) := tput D q.1 (match tget D q.1 with | some z => z + q.2 | none => q.2)
def addT (a b : List (Int × Int)) : List (Int × Int) := b.foldl addOne a

theorem encT_put (D : List (Int × Int)) (k v : Int) : encT (tput D k v) = putD (.int k) (.int v) (encT D) := by
  unfold tput putD encT
  have h1 : (D.map fun p => (PyData.int p.1, PyData.int p.2)).any (fun p => PySem.Spec.same p.1 (.int k)) = D.any fun q => decide (q.1 = k) := by
    rw [List.any_map]; congr 1
  rw [h1]
  by_cases h : (D.any fun q => decide (q.1 = k)) = true
  · rw [if_pos h, if_pos h, List.map_map, List.map_map]
    refine List.map_congr_left fun q _ => ?_
    by_cases hq : q.1 = k <;> simp [PyProof.V.same_int, hq]
  · rw [if_neg h, if_neg h]; simp
theorem tput_len (D : List (Int × Int)) (k v : Int) : (tput D k v).length ≤ D.length + 1 := by
  unfold tput; split <;> simp

section
variable {w : World} {A : Around} {E : Value → Shared → Prop} {s : Shared}
theorem encT_len (D : List (Int × Int)) : (encT D).length = D.length := by simp [encT]
theorem setI {Q : Unit → Shared → Prop} {d : Addr} {D : List (Int × Int)} {k z : Int} {t u : Tok} (T : IntTab PR w s.heap d (encT D)) (hl : D.length ≤ 1000)
    (q : ∀ h', IntTab PR w h' d (encT (tput D k z)) → Heap.SameBut d s.heap h' → Q () { s with heap := h', toks := s.toks + 1 }) : wpAny (model PR w) A (setItem (.ref d) (.int k t) (.int z u)) Q E s := by
  obtain ⟨lo, kvs, hd, hf⟩ := T
  refine wpAny_setItem_pairs (hsz := ?_) (intKind_is PR w k t) hd fun h' hd' hs => q h' ⟨lo, _, hd', ?_⟩ hs
  · rw [encT_put]; exact hf.stored PyProof.V.same_int k (PyProof.V.Flat.int z u)
  · have e := hf.length
    rw [encT_len] at e
    rw [← e, sizeLine_eq]; omega
theorem getI {Q : Value → Shared → Prop} {d : Addr} {D : List (Int × Int)} {k z : Int} {t : Tok} (T : IntTab PR w s.heap d (encT D)) (hz : tget D k = some z)
    (q : ∀ u, Q (.int z u) { s with toks := s.toks + 1 }) : wpAny (model PR w) A (getItem (.ref d) (.int k t)) Q E s := by
  obtain ⟨lo, kvs, hd, hf⟩ := T
  obtain ⟨v, hv, hfl⟩ := hf.of_lookup PyProof.V.same_int (show PySem.Spec.lookup (.int k) (encT D) = some (.int z) by rw [lookup_enc, hz]; rfl)
  obtain ⟨u, rfl⟩ := PyProof.V.Flat.int_inv hfl
  exact wpAny_getItem_of (intKind_is PR w k t) hd.mapOf hv (q u)
end

section
variable {w : World} {ok : Addr → Prop} {env : Env} {mu : List Addr} {p : Heap} {m : Str → Option Value} {ρ : Rho} {A : Around} {s : Shared} {E Q : Value → Shared → Prop}
/-- d.items() -/
theorem evItems {pl : Sem Bool} {x : Str} {px ap pos : Pos} {D : List (Int × Int)} (F : Fm w ok env mu p s.heap m ρ) (hx : ρ.lookup x = some (.tab D))
    (he : eval (.Call (.Attribute (.Name x px) "items" ap) [] [] pos) env = (do
      let ov ← eval (.Name x px) env
      standAt ap.atName
      let (f, first) ← holding [ov] (getMethod ov "items" pl)
      callWith pos f first (backTo pos (starEach [] env)) []))
    (k : ∀ d vw h', Sub s.heap h' → h'.IsItemsView vw d → ok d → IntTab PR w h' d (encT D) → Q (.ref vw) { s with heap := h' }) : wpAny (model PR w) A (eval (.Call (.Attribute (.Name x px) "items" ap) [] [] pos) env) Q E s := by
  obtain ⟨hd, v, i, q⟩ := F.vars _ _ hx
  obtain ⟨d, rfl, od, T⟩ := i
  refine MethodCall_ (pl := pl) (q.rd F.kind F.ns hd A E _ s px Sub.rfl ?_) he
  refine getMethod_tab PySem.F.slot_dict_items PySem.F.type_dict_items T ?_
  refine callWith_method0 ?_
  obtain ⟨lo, kvs, hdo, hf⟩ := T
  exact call_meetsIn PySem.F.slot_dict_items hdo.typeIs PySem.F.entry_dict_items (PySem.F.args_dict_items_1 _) (meets_dict_items (intKind PR w) d lo)
    ⟨⟨kvs, hdo⟩, k d _ _ (Sub.push _ _) ⟨_, Heap.get?_push_size _ rfl, rfl, rfl⟩ od ⟨lo, kvs, hdo.keep (Sub.push _ _), hf⟩⟩
end

theorem Fm.nm {w : World} {ok : Addr → Prop} {env : Env} {mu : List Addr} {p : Heap} {m : Str → Option Value} {ρ : Rho} {A : Around} {s : Shared} {E Q : Value → Shared → Prop} {x : Str} {pos : Pos} {V : AV} (F : Fm w ok env mu p s.heap m ρ) (hx : ρ.lookup x = some V) (k : ∀ v, Is w ok s.heap V v → Q v s) :
    wpAny (model PR w) A (eval (.Name x pos) env) Q E s := by
  obtain ⟨hd, v, i, q⟩ := F.vars _ _ hx
  exact q.rd F.kind F.ns hd A E _ s pos Sub.rfl (k v i)
theorem tab_nodup {w : World} {h : Heap} {d : Addr} {D : List (Int × Int)} (T : IntTab PR w h d (encT D)) : (D.map (·.1)).Nodup := by
  obtain ⟨lo, kvs, ⟨o, es, ep, _, _, _, _, _, hn⟩, hf⟩ := T
  obtain ⟨hl, hv⟩ := flat_at (enc := D) hf
  have e : D.map (·.1) = kvs.map (·.1) := by
    refine List.ext_getElem? fun i => ?_
    rw [List.getElem?_map, List.getElem?_map]
    cases q : kvs[i]? with
    | none =>
      have : D[i]? = none := by rw [List.getElem?_eq_none_iff] at q ⊢; omega
      rw [this]; rfl
    | some kv =>
      obtain ⟨z, t, hz, _⟩ := hv i kv.1 kv.2 q
      rw [hz]; rfl
  rw [e]; exact hn
theorem tput_new {D : List (Int × Int)} {k v : Int} (h : ∀ q ∈ D, q.1 ≠ k) : tput D k v = D ++ [(k, v)] := by
  unfold tput
  rw [if_neg]
  rw [List.any_eq_true]
  rintro ⟨q, hq, e⟩
  exact h q hq (by simpa using e)
theorem take_put {D : List (Int × Int)} (hn : (D.map (·.1)).Nodup) {i : Nat} {k z : Int} (hi : D[i]? = some (k, z)) : tput (D.take i) k z = D.take (i + 1) := by
  have hlt : i < D.length := (List.getElem?_eq_some_iff.mp hi).1
  rw [tput_new, List.take_add_one, hi]
  · rfl
  · intro q hq e
    obtain ⟨j, hj, rfl⟩ := List.mem_take_iff_getElem.mp hq
    have hj' : j < i := by omega
    have h1 : (D.map (·.1))[j]? = some k := by simp [e, show j < D.length by omega]
    have h2 : (D.map (·.1))[i]? = some k := by simp [hi]
    have := (List.getElem?_inj (by simp; omega) hn).mp (h1.trans h2.symm)
    omega

def fAdd : Fn where
  val := .ref 28
  lvl := 1
  den := fun | [.tab a, .tab b] => some (.tab (addT a b)) | _ => none
  pre := fun | [.tab a, .tab b] => a.length ≤ 100 ∧ b.length ≤ 100 | _ => False

theorem add_ok (w : World) : FnOk w fAdd := by
  have hX := seen w
  revert hX; k_fill; intro _
  refine ⟨?_, with1_own (by k_is)⟩
  intro ok s A E Q Vs vs V G hh hd fresh I hden hpre k
  unfold fAdd at hden hpre hd
  dsimp only at hden hpre hd
  split at hden
  · rename_i D1 D2
    cases hden
    dsimp only at hpre
    obtain ⟨v1, v2, rfl⟩ := I.two
    refine' enter (names := ["target", "source"]) G (by omega) fresh I ?k6 ?k7 ?k9 ?kl ?kn ?knc ?kk ?kd ?c2 ?c3 ?c4 ?_
    case k6 => k_is
    case k7 => k_is
    case k9 => exact rfl
    case kl => rfl
    case kn => decide
    case knc => decide
    case kk => decide
    case kd => decide
    case c2 => rfl
    case c3 => rfl
    case c4 => rfl
    intro L h₁ tk m F
    refine wpAny_execs_cons (wpAny_Assign_Name (wpAny_Dict_empty ?_) (by rfl))
    have hD0 := Heap.DictOf.new (knd := intKind PR w) h₁
    have hDL : h₁.objs.size ≠ L := fun q => by obtain ⟨o, e⟩ := F.mex L (List.mem_cons_self); rw [← q, none_size] at e; cases e
    have hnm := not_mods (s := { s with heap := h₁ }) (G.keeps F.keep)
    replace F := F.alloc { cls := .type "dict", data := .dict #[] } rfl
    refine wpAny_storeName_local (by rfl) F.ns (fun h2 hn2 hs2 => ?_) (by rfl)
    replace F := F.setL (V := .raw h₁.objs.size) (by rfl) (by decide) rfl hn2 hs2
    have hT : IntTab PR w h2 h₁.objs.size (encT []) := ⟨hnm, [], hD0.at fun o e => (hs2.2 _ hDL).trans e, .nil⟩
    have hokD : ok h₁.objs.size := (F.grow Sub.rfl).nok _ (List.mem_cons_self) |> fun _ => fresh _ (by
      cases q : s.heap.get? h₁.objs.size with
      | none => rfl
      | some o => have := F.pmu _ (List.mem_cons_self); rw [q] at this; cases this)
    clear hD0 hnm
    clear hn2 hs2
    generalize h₁.objs.size = Dn at *
    dsimp only
    have hA : ∀ env, (A.deeper env).handled = none := fun _ => hh
    have hC : ∀ (d : Addr) (x : Str) (c : Addr), ([] : List (Str × Addr)).lookup x = some c → c ≠ d := fun _ _ _ e => nomatch e
    obtain ⟨o2, ho2⟩ := TabAt.old hT
    -- the copy
    refine wpAny_execs_cons (wpAny_For (evItems F (by rfl) (by rfl) fun d vw h3 s3 hv od T => ?_) (fun _ => by rfl))
    have hn1 := tab_nodup T
    refine for_items (σ := fun _ => [("new_callers", .raw Dn), ("target", .tab D1), ("source", .tab D2)]) (J := fun i h => IntTab PR w h Dn (encT (D1.take i))) (hA _) (by rfl) (by decide) (by rfl) (by decide) hv T od ((F.grow s3).less (sub_cons (by rfl) (sub_cons (by rfl) (sub_cons (by rfl) sub_nil)))) (by simpa using tab_at hT fun o e => s3 _ o e)
      (fun i ha hb j q => tab_at j fun o e => q Dn o hDL ⟨o2, s3 _ _ ho2⟩ e) ?_ ?_
    · rintro i kk z hz ok' p' s' m' E' hok hpp ⟨h4, tk4, rfl⟩ hJ F'
      refine wpAny_execs_cons (wpAny_Assign_Subscript (F'.nm (by rfl) fun u1 iu1 => F'.nm (by rfl) fun u2 iu2 => F'.nm (by rfl) fun u3 iu3 => ?_) (by rfl))
      obtain ⟨t1, rfl⟩ := iu1
      obtain rfl : u2 = .ref Dn := iu2
      obtain ⟨t3, rfl⟩ := iu3
      refine setI (s := { s with heap := h4, toks := tk4 }) hJ (by simp; omega) fun h5 hT5 hs5 => ?_
      rw [take_put hn1 hz] at hT5
      refine wpAny_execs_nil ⟨rfl, h5, _, _, rfl, hT5, (F'.less (sub_cons (by rfl) (sub_cons (by rfl) (sub_cons (by rfl) sub_nil)))).chg (F'.pmu _ List.mem_cons_self) (F'.nok _ List.mem_cons_self) (Ne.symm hDL) (hC _) (fun b o hb e => (hs5.2 b hb).trans e) (TabAt.old hT5)⟩
    · intro h4 tk4 m4 hJ F
      dsimp only
      rw [List.take_length] at hJ
      obtain ⟨o4, ho4⟩ := TabAt.old hJ
      refine wpAny_execs_cons (wpAny_For (evItems F (by rfl) (by rfl) fun d vw h5 s5 hv od T => ?_) (fun _ => by rfl))
      refine for_items (σ := fun _ => [("new_callers", .raw Dn)]) (J := fun i h => IntTab PR w h Dn (encT (addT D1 (D2.take i))) ∧ (addT D1 (D2.take i)).length ≤ D1.length + i) (hA _) (by rfl) (by decide) (by rfl) (by decide) hv T od ((F.grow s5).less (sub_cons (by rfl) sub_nil)) ⟨by simpa [addT] using tab_at hJ fun o e => s5 _ o e, by simp [addT]⟩
        (fun i ha hb j q => ⟨tab_at j.1 fun o e => q Dn o hDL ⟨o4, s5 _ _ ho4⟩ e, j.2⟩) ?_ ?_
      · rintro i kk z hz ok' p' s' m' E' hok hpp ⟨h6, tk6, rfl⟩ ⟨hJ, hJl⟩ F'
        have hlt : i < D2.length := (List.getElem?_eq_some_iff.mp hz).1
        have hstep : addT D1 (D2.take (i + 1)) = addOne (addT D1 (D2.take i)) (kk, z) := by simp [addT, List.take_add_one, hz, List.foldl_append]
        rw [hstep]
        generalize addT D1 (D2.take i) = D at hJ hJl
        have hlen : ∀ v, (tput D kk v).length ≤ D1.length + (i + 1) := fun v => by have := tput_len D kk v; omega
        have fin : ∀ (v : Int) (h7 : Heap) (tk7 : Nat), addOne D (kk, z) = tput D kk v → IntTab PR w h7 Dn (encT (tput D kk v)) → Heap.SameBut Dn h6 h7 → EndsAt w ok' _ _ p' [("new_callers", AV.raw Dn)] (fun h => IntTab PR w h Dn (encT (addOne D (kk, z))) ∧ (addOne D (kk, z)).length ≤ D1.length + (i + 1)) { s with heap := h6, toks := tk6 } .next { s with heap := h7, toks := tk7 } := fun v h7 tk7 e hT7 hs7 =>
          ⟨rfl, h7, tk7, _, rfl, by rw [e]; exact ⟨hT7, hlen v⟩, (F'.less (sub_cons (by rfl) sub_nil)).chg (F'.pmu _ List.mem_cons_self) (F'.nok _ List.mem_cons_self) (Ne.symm hDL) (hC _) (fun b o hb e => (hs7.2 b hb).trans e) (TabAt.old hT7)⟩
        refine wpAny_execs_cons (wpAny_If (wpAny_isTrue_Compare1 (F'.nm (by rfl) fun u1 iu1 => F'.nm (by rfl) fun u2 iu2 => ?_) (by rfl)))
        obtain ⟨t1, rfl⟩ := iu1
        obtain rfl : u2 = .ref Dn := iu2
        refine in_intTab hJ (wpAny_truthy_bool ?_)
        rw [lookup_enc]
        cases hg : tget D kk with
        | none =>
          simp only [Option.map_none, Option.isSome_none, Bool.false_eq_true, if_false]
          refine wpAny_execs_cons (wpAny_Assign_Subscript (Fm.nm (s := { s with heap := h6, toks := _ }) F' (by rfl) fun u1 iu1 => Fm.nm (s := { s with heap := h6, toks := _ }) F' (by rfl) fun u2 iu2 => Fm.nm (s := { s with heap := h6, toks := _ }) F' (by rfl) fun u3 iu3 => ?_) (by rfl))
          obtain ⟨t1, rfl⟩ := iu1
          obtain rfl : u2 = .ref Dn := iu2
          obtain ⟨t3, rfl⟩ := iu3
          refine setI (s := { s with heap := h6, toks := _ }) hJ (by omega) fun h7 hT7 hs7 => ?_
          exact wpAny_execs_nil (wpAny_execs_nil (fin z h7 _ (by simp [addOne, hg]) hT7 hs7))
        | some old =>
          simp only [Option.map_some, Option.isSome_some, if_true]
          have GG := F'.gd.keeps F'.keep
          refine wpAny_execs_cons (wpAny_If (isTrue_plain (Call_ (rd_gl (env := envOfC _ _ _ _ _) GG (by rfl) (by rfl) (by rfl) (v := .builtin "isinstance") (by rfl) (by decide) (.boot (by k_is) (by boot_by_name) (by decide)) _ _ _ { s with heap := h6, toks := _ } _ Sub.rfl ?_) (by rfl)) (by rfl)))
          refine callWith_builtin1 (args_cons (Fm.nm (s := { s with heap := h6, toks := _ }) F' (by rfl) fun u1 iu1 => ?_) (by rfl)) (by rfl) (by rfl)
          refine args_cons (rd_gl (env := envOfC _ _ _ _ _) GG (by rfl) (by rfl) (by rfl) (v := .type "tuple") (by rfl) (by decide) (.boot (by k_is) (by boot_by_name) (by decide)) _ _ _ { s with heap := h6, toks := _ } _ Sub.rfl ?_) (by rfl)
          refine args_nil ?_
          obtain ⟨t1, rfl⟩ := iu1
          refine PySem.IsiPair.int_tuple (wpAny_truthy_bool ?_)
          simp only [Bool.false_eq_true, if_false]
          refine wpAny_execs_cons (wpAny_AugAssign_Subscript_any (Fm.nm (s := { s with heap := h6, toks := _ }) F' (by rfl) fun u2 iu2 => Fm.nm (s := { s with heap := h6, toks := _ }) F' (by rfl) fun u3 iu3 => ?_) (by intro _ _ _; rfl))
          obtain rfl : u2 = .ref Dn := iu2
          obtain ⟨t3, rfl⟩ := iu3
          refine getI (s := { s with heap := h6, toks := _ }) hJ hg fun t4 => ?_
          refine Fm.nm (s := { s with heap := h6, toks := _ }) F' (by rfl) fun u5 iu5 => ?_
          obtain ⟨t5, rfl⟩ := iu5
          refine PySem.P.iadd_int ?_
          refine setI (s := { s with heap := h6, toks := _ }) hJ (by omega) fun h7 hT7 hs7 => ?_
          exact wpAny_execs_nil (wpAny_execs_nil (wpAny_execs_nil (fin (old + z) h7 _ (by simp [addOne, hg]) hT7 hs7)))
      · intro h6 tk6 m6 hJ F
        dsimp only
        rw [List.take_length] at hJ
        refine wpAny_execs_cons (wpAny_Return_some (F.nm (by rfl) fun v iv => ?_))
        obtain rfl : v = .ref Dn := iv
        exact k _ _ _ F.keep ⟨Dn, rfl, hokD, hJ.1⟩
  · cases hden
end Mine

/-! CntC27 -/
namespace Mine
open PySem PySem.W PyProof.Rows PySem.Calls PyProof.V

section
variable {w : World} {ok : Addr → Prop} {env : Env} {mu : List Addr} {p : Heap} {m : Str → Option Value} {ρ : Rho} {A : Around} {s : Shared} {E Q : Value → Shared → Prop}
/-- d.values() -/
theorem evValues {pl : Sem Bool} {x : Str} {px ap pos : Pos} {D : List (Int × Int)} (F : Fm w ok env mu p s.heap m ρ) (hx : ρ.lookup x = some (.tab D))
    (he : eval (.Call (.Attribute (.Name x px) "values" ap) [] [] pos) env = (do
      let ov ← eval (.Name x px) env
      standAt ap.atName
      let (f, first) ← holding [ov] (getMethod ov "values" pl)
      callWith pos f first (backTo pos (starEach [] env)) []))
    (k : ∀ d vw h', Sub s.heap h' → h'.IsValuesView vw d → ok d → IntTab PR w h' d (encT D) → Q (.ref vw) { s with heap := h' }) : wpAny (model PR w) A (eval (.Call (.Attribute (.Name x px) "values" ap) [] [] pos) env) Q E s := by
  obtain ⟨hd, v, i, q⟩ := F.vars _ _ hx
  obtain ⟨d, rfl, od, T⟩ := i
  refine MethodCall_ (pl := pl) (q.rd F.kind F.ns hd A E _ s px Sub.rfl ?_) he
  refine getMethod_tab PySem.F.slot_dict_values PySem.F.type_dict_values T ?_
  refine callWith_method0 ?_
  obtain ⟨lo, kvs, hdo, hf⟩ := T
  exact call_meetsIn PySem.F.slot_dict_values hdo.typeIs PySem.F.entry_dict_values (PySem.F.args_dict_values_1 _) (meets_dict_values (intKind PR w) d lo)
    ⟨⟨kvs, hdo⟩, k d _ _ (Sub.push _ _) ⟨_, Heap.get?_push_size _ rfl, rfl, rfl⟩ od ⟨lo, kvs, hdo.keep (Sub.push _ _), hf⟩⟩

theorem iter_vals {d vw : Addr} {D : List (Int × Int)} (hh : A.handled = none) (hv : s.heap.IsValuesView vw d) (od : ok d) (T : IntTab PR w s.heap d (encT D))
    (k : ∀ it h', Sub s.heap h' → Src w A ok s.heap (D.map fun q => .int q.2) it h' → Q it { s with heap := h' }) : wpAny (model PR w) A (pyIter (.ref vw)) Q E s := by
  obtain ⟨lo, kvs, hd, hf⟩ := T
  obtain ⟨ep, hat⟩ := hd.dictAt
  obtain ⟨hl, hvv⟩ := flat_at (enc := D) hf
  have hne : d ≠ s.heap.objs.size := Nat.ne_of_lt hat.lt_size
  have hexi : ∃ o, s.heap.get? d = some o := let ⟨o, _, ho, _⟩ := hat; ⟨o, ho⟩
  have W := Walks.dictValues (knd := intKind PR w) hh s.heap.objs.size d hne kvs ep
  have e9 : kvs.length = (D.map fun q => AV.int q.2).length := by simp [hl]
  have W' : Walks PR w A s.heap.objs.size [s.heap.objs.size, d] [s.heap.objs.size] (D.map fun q => AV.int q.2).length (fun i v => ∃ k, kvs[i]? = some (k, v)) (fun i h => h.IsValIter s.heap.objs.size d i kvs.length ep ∧ h.DictAt (intKind PR w) d kvs ep) := e9 ▸ W
  refine wpAny_pyIter_values (knd := intKind PR w) hv hat (k _ _ (Sub.push _ _) ⟨_, _, _, _, rfl, W', fun i h st => ⟨_, st.1.choose_spec.1⟩, ⟨⟨_, Heap.get?_push_size _ rfl, rfl, rfl⟩, hat.push _⟩, none_size _, Sub.push _ _, ?_, ?_⟩)
  · intro b hb
    rcases List.mem_cons.mp hb with rfl | hb
    · exact .inl rfl
    · rcases List.mem_cons.mp hb with rfl | hb
      · exact .inr ⟨od, hexi⟩
      · cases hb
  · rintro i v _ ⟨kk, hx⟩
    obtain ⟨z, t, hz, rfl⟩ := hvv i kk v hx
    exact ⟨.int z, by simp [hz], fun _ _ => ⟨t, rfl⟩⟩

theorem Fm.ldn {x : Str} {V : AV} (F : Fm w ok env mu p s.heap m ρ) (hx : ρ.lookup x = some V) (k : ∀ v, Is w ok s.heap V v → Q v s) :
    wpAny (model PR w) A (loadName env x) Q E s := by
  obtain ⟨hd, v, i, q⟩ := F.vars _ _ hx
  rcases q with ⟨hl, hm⟩ | ⟨hc, c, hcl, hi⟩
  · exact wpAny_loadName_local F.kind hl F.ns hm (k v i)
  · exact wpAny_loadName_cell F.kind hc hcl hi (k v i)
end

def vsum (D : List (Int × Int)) : Int := (D.map (·.2)).sum
def fCount : Fn where
  val := .ref 35
  lvl := 1
  den := fun | [.tab a] => some (.int (vsum a)) | _ => none
  pre := fun _ => True

theorem count_ok (w : World) : FnOk w fCount := by
  have hX := seen w
  revert hX; k_fill; intro _
  refine ⟨?_, with1_own (by k_is)⟩
  intro ok s A E Q Vs vs V G hh hd fresh I hden hpre k
  unfold fCount at hden hd
  dsimp only at hden hd
  split at hden
  · rename_i D
    cases hden
    obtain ⟨v1, rfl⟩ := I.one
    refine' enter (names := ["callers"]) G (by omega) fresh I ?k6 ?k7 ?k9 ?kl ?kn ?knc ?kk ?kd ?c2 ?c3 ?c4 ?_
    case k6 => k_is
    case k7 => k_is
    case k9 => exact rfl
    case kl => rfl
    case kn => decide
    case knc => decide
    case kk => decide
    case kd => decide
    case c2 => rfl
    case c3 => rfl
    case c4 => rfl
    intro L h₁ tk m F
    have hd' : ∀ env, (A.deeper env).depth + 0 < recursionLimit := fun env => by show A.depth + 1 + 0 < _; omega
    refine asgL (n := 2) F (FEnv.nil (lv := 0)) (A_deep hh) (hd' _) (by rfl) (by decide) (he := by rfl) (hP := trivial) (by rfl) ?_
    intro h2 tk2 m2 F
    refine wpAny_execs_cons (wpAny_For (evValues F (by rfl) (by rfl) fun d vw h3 s3 hv od T => ?_) (fun _ => by rfl))
    refine iter_vals (ok := fun a => ok a ∧ a ∉ muOf _ L) (s := { s with heap := h3, toks := tk2 }) (A_deep hh) hv od T fun it h4 s4 S => ?_
    refine for_src (s := { s with heap := h4, toks := tk2 }) (σ := fun i => [("nc", .int (vsum (D.take i)))]) (J := fun _ _ => True) (by rfl) (by decide) S ((F.grow s3).less (sub_cons (by rfl) sub_nil)) trivial (fun _ _ _ _ _ => trivial) ?_ ?_
    · rintro i V hV ok' p' s' m' E' hok hpp ⟨h5, tk5, rfl⟩ - F
      obtain ⟨q, hq, rfl⟩ : ∃ q, D[i]? = some q ∧ V = .int q.2 := by
        rw [List.getElem?_map] at hV
        obtain ⟨q, hq, e⟩ := Option.map_eq_some_iff.mp hV
        exact ⟨q, hq, e.symm⟩
      have hsum : vsum (D.take (i + 1)) = vsum (D.take i) + q.2 := by simp [vsum, List.take_add_one, hq]
      rw [hsum]
      refine wpAny_execs_cons (wpAny_AugAssign_Name (F.ldn (by rfl) fun u1 iu1 => F.nm (by rfl) fun u2 iu2 => ?_))
      obtain ⟨t1, rfl⟩ := iu1
      obtain ⟨t2, rfl⟩ := iu2
      refine PySem.P.iadd_int ?_
      refine stoL (s := { s with heap := h5, toks := _ }) (V := .int (vsum (D.take i) + q.2)) F (by rfl) (by decide) ⟨_, rfl⟩ fun h6 tk6 m6 F => ?_
      exact wpAny_execs_nil ⟨rfl, h6, _, m6, rfl, trivial, F.less (sub_cons (by rfl) sub_nil)⟩
    · intro h5 tk5 m5 _ F
      refine retE (s := { s with heap := h5, toks := tk5 }) (n := 1) F (FEnv.nil (lv := 0)) (A_deep hh) (hd' _) (he := by rfl) (hP := trivial) fun v h' tk' kk i => ?_
      refine k v h' tk' (F.keep.trans kk) ?_
      simpa using i.weak (fun _ z => z.1)
  · cases hden
end Mine

/-! Comp27 -/
namespace Mine
open PySem PySem.W PyProof.Rows PySem.Calls PyProof.V

theorem mods_alive {w : World} {h : Heap} (G : Gd w h) : ∃ o, h.get? sysModules = some o := by
  obtain ⟨_, _, _, T⟩ := G.T
  obtain ⟨_, ⟨o, _, _, ho, _⟩, _⟩ := (T.seer (by decide +kernel)).mods
  exact ⟨o, ho⟩
/-- the names that a comprehension takes along: cells of the block around -/
inductive Caps (env : Env) (scope : Scope) (cl : List (Str × Addr)) (ρ : Rho) : Rho → Prop
  | nil : Caps env scope cl ρ []
  | cons {y : Str} {U : AV} {ρc : Rho} : ρ.lookup y = some U → (relabel scope env).names.lookup y = some .cell → cl.lookup y = env.cells.lookup y → env.kindOf y = some .cell → Caps env scope cl ρ ρc → Caps env scope cl ρ ((y, U) :: ρc)
theorem Caps.get {env : Env} {scope : Scope} {cl : List (Str × Addr)} {ρ ρc : Rho} (c : Caps env scope cl ρ ρc) : ∀ y U, ρc.lookup y = some U → ρ.lookup y = some U ∧ (relabel scope env).names.lookup y = some .cell ∧ cl.lookup y = env.cells.lookup y ∧ env.kindOf y = some .cell := by
  induction c with
  | nil => intro y U e; cases e
  | cons h1 h2 h3 h4 _ ih =>
    intro y U e
    rcases lookup_cons_of e with ⟨rfl, rfl⟩ | ⟨_, e⟩
    · exact ⟨h1, h2, h3, h4⟩
    · exact ih y U e

section
variable {w : World} {ok : Addr → Prop} {env : Env} {mu : List Addr} {p h h₃ : Heap} {m m₃ : Str → Option Value} {ρ ρc : Rho} {lv : Nat} {fs : Fns} {scope : Scope} {cl : List (Str × Addr)} {C : Addr} {x : Str} {V : AV} {v : Value}

theorem Fm.comp (F : Fm w ok env mu p h m ρ) (k : Sub h h₃) (hn : h₃.Ns C m₃) (hm : m₃ x = some v) (hx : scope.names.lookup x = some .local) (hdb : (x == ("__debug__" : Str)) = false) (iv : Is w ok h₃ V v) (hkind : scope.kind = .function)
    (c : Caps env scope cl ρ ρc) (fe : FEnv w lv (compEnvC scope cl C env) fs) : EnvOk w ok lv (compEnvC scope cl C env) h₃ fs ((x, V) :: ρc) where
  vars := fun y U e => by
    rcases lookup_cons_of e with ⟨rfl, rfl⟩ | ⟨_, e⟩
    · exact ⟨v, Hold.rd (env := compEnvC scope cl C env) (m := m₃) hkind hn hdb (.inl ⟨lookup_relabel_local hx, hm⟩), iv⟩
    · obtain ⟨h1, h2, h3, h4⟩ := c.get y U e
      obtain ⟨hd, u, i, q⟩ := F.vars y U h1
      rcases q with ⟨hl, _⟩ | ⟨_, ca, hca, hi⟩
      · rw [h4] at hl; cases hl
      · exact ⟨u, Hold.rd (env := compEnvC scope cl C env) (m := m₃) hkind hn hd (.inr ⟨h2, ca, h3.trans hca, hi.keeps k⟩), i.sub k⟩
  fns := fun f G e => let ⟨a, b, c, d, l⟩ := fe f G e; ⟨rd_gl (env := compEnvC scope cl C env) (F.gd.keeps (F.keep.trans k)) hkind F.glob F.bi a b c, d, l⟩
  gd := F.gd.keeps (F.keep.trans k)
  fresh := (F.grow k).fresh
end

section
variable {w : World} {ok : Addr → Prop} {env : Env} {ρ : Rho} {lv n : Nat} {fs : Fns} {A : Around} {s : Shared} {E : Value → Shared → Prop} {P : Prop}
theorem testX {Q : Bool → Shared → Prop} {l r : Expr} {op : CmpOp} {pos : Pos} {whole : Sem Value} {b : Bool} (X : EnvOk w ok lv env s.heap fs ρ) (hh : A.handled = none) (hd : A.depth + lv < recursionLimit)
    (he : evP fs ρ (n + 1) (.Compare l [op] [r] pos) = some (.bool b, P)) (hP : P) (k : ∀ h' tk, Sub s.heap h' → Q b { s with heap := h', toks := tk }) : wpAny (model PR w) A (isTrue (.Compare l [op] [r] pos) env whole) Q E s := by
  obtain ⟨a, P1, b', P2, h1, h2, hc, hPP⟩ := evP_cmp he
  refine wpAny_isTrue_Compare1 (ev_sound hh hd n l a P1 s E _ h1 (hPP hP).1 X fun u h' tk kk iu => ?_) (behind_of op h2)
  refine ev_sound hh hd n r b' P2 _ E _ h2 (hPP hP).2 (X.sub kk) fun v h'' tk' kk' iv => ?_
  refine cmp_sound hc (iu.sub kk') iv fun z h3 tk3 k3 i3 => ?_
  cases i3
  exact wpAny_truthy_bool (k _ _ (kk.trans (kk'.trans k3)))
end

def EvI (fs : Fns) (ρ : Rho) (e : Expr) (V : AV) : Prop := ∃ n P, evP fs ρ n e = some (V, P) ∧ P
def Tests (fs : Fns) (ρc : Rho) (x : Str) (ifs : List Expr) (pz : Int → Bool) (is : List Int) : Prop :=
  (ifs = [] ∧ ∀ i ∈ is, pz i = true) ∨ ∃ l op r pos n, ifs = [.Compare l [op] [r] pos] ∧ ∀ i ∈ is, ∃ P, evP fs ((x, .int i) :: ρc) (n + 1) (.Compare l [op] [r] pos) = some (.bool (pz i), P) ∧ P

def pV (pz : Int → Bool) : Value → Bool
  | .int i _ => pz i
  | _ => false
theorem ints_filter {pz : Int → Bool} : ∀ {vs : List Value} {is : List Int}, IntsAre vs is → IntsAre (vs.filter (pV pz)) (is.filter pz)
  | _, _, .nil => .nil
  | _, _, .cons n t r => by
    rw [List.filter_cons, List.filter_cons]
    show IntsAre (if pz n = true then _ else _) _
    split
    · exact .cons n t (ints_filter r)
    · exact ints_filter r
theorem ints_snoc : ∀ (l : List Value) {v : Value} {is : List Int}, IntsAre (l ++ [v]) is → ∃ js j t, is = js ++ [j] ∧ v = Value.int j t ∧ IntsAre l js
  | [], v, is, h => by
    have h' : IntsAre [v] is := h
    cases h' with
    | cons n t r => cases r; exact ⟨[], n, t, rfl, rfl, .nil⟩
  | u :: l, v, is, h => by
    have h' : IntsAre (u :: (l ++ [v])) is := h
    cases h' with
    | cons n t r =>
      obtain ⟨js, j, t', rfl, e, r'⟩ := ints_snoc l r
      exact ⟨n :: js, j, t', rfl, e, .cons n t r'⟩
theorem walks_in {w : World} {A : Around} {I : Addr} {fp wr : List Addr} {n : Nat} {P P' : Nat → Value → Prop} {St : Nat → Heap → Prop} (W : Walks PR w A I fp wr n P St) (hP : ∀ i v, i < n → P i v → P' i v) : Walks PR w A I fp wr n P' St where
  sub := W.sub
  frame := W.frame
  item := fun i s Q E hi hst hQ => W.item i s Q E hi hst fun v h' tk hp hst' hk => hQ v h' tk (hP i v hi hp) hst' hk
  done := W.done
  self := W.self
theorem ints_of_places {vs : List Value} {is : List Int} (hl : vs.length = is.length) (h : ∀ (j : Nat) (v : Value), vs[j]? = some v → ∃ i t, is[j]? = some i ∧ v = Value.int i t) : IntsAre vs is := by
  induction vs generalizing is with
  | nil => cases is with | nil => exact .nil | cons _ _ => simp at hl
  | cons v vs ih =>
    cases is with
    | nil => simp at hl
    | cons i is =>
      obtain ⟨i', t, e, rfl⟩ := h 0 v rfl
      cases e
      exact .cons _ t (ih (by simpa using hl) fun j u hj => by simpa using h (j + 1) u (by simpa using hj))

theorem stored_flat {kf vf : Int → Int} {l : List Value} {kvs : List (Int × Value)}
    (h : StoredAll (fun v k => ∃ i t, v = Value.int i t ∧ k = kf i) (fun v y => ∃ i t u, v = Value.int i t ∧ y = Value.int (vf i) u) l kvs) :
    ∀ {is : List Int}, IntsAre l is → (is.map kf).Nodup → FlatPairs PyData.int kvs (encT (is.map fun i => (kf i, vf i))) := by
  induction h with
  | nil => intro is hi _; cases hi; exact .nil
  | @snoc l kvs v k y _ hk hy ih =>
    intro is hi hn
    obtain ⟨js, j, t, rfl, rfl, r⟩ := ints_snoc _ hi
    obtain ⟨i1, t1, e1, rfl⟩ := hk
    obtain ⟨i2, t2, u2, e2, rfl⟩ := hy
    cases e1
    cases e2
    rw [List.map_append, List.nodup_append] at hn
    have hf := ih r hn.1
    have hnew : tput (js.map fun i => (kf i, vf i)) (kf j) (vf j) = (js ++ [j]).map fun i => (kf i, vf i) := by
      rw [tput_new]
      · simp
      · intro q hq e
        obtain ⟨i, hi, rfl⟩ := List.mem_map.mp hq
        exact hn.2.2 (kf i) (List.mem_map_of_mem hi) (kf j) (by simp) e
    rw [← hnew, encT_put]
    exact hf.stored PyProof.V.same_int (kf j) (PyProof.V.Flat.int (vf j) u2)

section
variable {w : World} {ok : Addr → Prop} {env : Env} {mu : List Addr} {p : Heap} {m : Str → Option Value} {ρ ρc : Rho} {lv n : Nat} {fs fc : Fns} {A : Around} {s : Shared} {E : Value → Shared → Prop} {V : AV} {P P' : Prop}
  {kx vx iter : Expr} {x : Str} {px pos cpos : Pos} {ifs : List Expr} {scope : Scope} {cl : List (Str × Addr)} {is : List Int} {pz : Int → Bool} {kf vf : Int → Int} {use : Option (Value → Sem Unit)} {Qc : Value → Shared → Prop}

theorem dcomp_core (F : Fm w ok env mu p s.heap m ρ) (fe : FEnv w lv env fs) (hh : A.handled = none) (hd : A.depth + lv < recursionLimit)
    (he : evP fs ρ n iter = some (V, P)) (hP : P) (hi : itemsOf V = some (is.map .int, P')) (hP' : P') (hs : ∀ v, foldedSetIterable iter env v = pure v)
    (hclos : closureFor scope env = pure cl) (hcell : ∀ y ∈ scope.names, y.2 ≠ .cell) (hkind : scope.kind = .function) (hnames : ∀ y ∈ scope.names, y.2 = .local → scope.names.lookup y.1 = some .local) (hx : scope.names.lookup x = some .local) (hdb : (x == ("__debug__" : Str)) = false)
    (c : Caps env scope cl ρ ρc) (fcE : ∀ C, FEnv w lv (compEnvC scope cl C env) fc)
    (tests : Tests fc ρc x ifs pz is) (hkey : ∀ i ∈ is, pz i = true → EvI fc ((x, .int i) :: ρc) kx (.int (kf i))) (hval : ∀ i ∈ is, pz i = true → EvI fc ((x, .int i) :: ρc) vx (.int (vf i)))
    (hnd : ((is.filter pz).map kf).Nodup) (hlen : is.length ≤ 1000)
    (post : ∀ D C h' tk m', Sub s.heap h' → s.heap.get? D = none → s.heap.get? C = none → D ≠ C → h'.Ns C m' → IntTab PR w h' D (encT ((is.filter pz).map fun i => (kf i, vf i))) →
      compPost (model PR w) A E use Qc (.ref D) C (.ok .next) { s with heap := h', toks := tk }) :
    wpAny (model PR w) A (comprehension (.DictComp kx vx [⟨.Name x px, iter, ifs, 0⟩] scope cpos) scope env pos newDict false (eval iter env) use) Qc E s := by
  refine wpAny_comprehension_free rfl hs hclos hkind hnames (ev_sound hh hd n iter V P s E _ he hP (F.envOk fe) fun v h' tk kk i => ?_)
  refine iter_sound hh hi hP' i fun it h'' kk' S => ?_
  obtain ⟨I, fp, Pw, St, rfl, W, hStI, hst, hI, _, hfp, hPw⟩ := S
  have F1 := F.grow kk
  have hIs : s.heap.get? I = none := by
    cases q : s.heap.get? I with
    | none => rfl
    | some o => have e : h'.get? I = none := hI; rw [kk I o q] at e; cases e
  have up : ∀ h3 : Heap, (∀ b o, b ∉ [I] → h''.get? b = some o → h3.get? b = some o) → Sub h' h3 := fun h3 q b o e => q b o (fun hb => by rw [List.mem_singleton.mp hb] at e; rw [show h'.get? I = none from hI] at e; cases e) (kk' b o e)
  have item : ∀ i v, i < (is.map AV.int).length → Pw i v → ∃ j t, is[i]? = some j ∧ j ∈ is ∧ v = .int j t := fun i v hl hp => by
    obtain ⟨V, hV, hIs⟩ := hPw i v hl hp
    rw [List.getElem?_map] at hV
    obtain ⟨j, hj, rfl⟩ := Option.map_eq_some_iff.mp hV
    obtain ⟨t, rfl⟩ := hIs (fun _ => True) s.heap
    exact ⟨j, t, hj, List.mem_of_getElem? hj, rfl⟩
  have W' : Walks PR w A I fp [I] (is.map AV.int).length (fun i v => ∃ j t, is[i]? = some j ∧ j ∈ is ∧ v = Value.int j t) St := walks_in W item
  have envC : ∀ (C : Addr) (j : Int) (t : Tok) (s₃ : Shared) (m₃ : Str → Option Value), s₃.heap.Ns C m₃ → m₃ x = some (.int j t) → (∀ b o, b ∉ [I] → h''.get? b = some o → s₃.heap.get? b = some o) → EnvOk w ok lv (compEnvC scope cl C env) s₃.heap fc ((x, .int j) :: ρc) := fun C j t s₃ m₃ hn hm hk =>
    F1.comp (up _ hk) hn hm hx hdb ⟨t, rfl⟩ hkind c (fcE C)
  refine comp_block_walkCD (knd := intKind PR w) W' (by rw [List.length_map, sizeLine_eq]; omega) (pV pz) (fun v k => ∃ i t, v = Value.int i t ∧ k = kf i) (fun v y => ∃ i t u, v = Value.int i t ∧ y = Value.int (vf i) u) hcell hkind hx hst ?_ ⟨?_, ?_, ?_⟩ ?_
  · intro b hb
    rcases hfp b hb with rfl | ⟨_, o, ho⟩
    · obtain ⟨o, ho⟩ := hStI 0 _ hst; exact Heap.lt_size ho
    · exact Heap.lt_size (kk' b o ho)
  · rintro C i v s₃ m₃ E' ⟨j, t, _, hj, rfl⟩ hn hm hk
    have X := envC C j t s₃ m₃ hn hm hk
    rcases tests with ⟨rfl, ht⟩ | ⟨l, op, r, tp, nn, rfl, ht⟩
    · exact wpAny_tests_nil ⟨(ht j hj).symm, s₃.heap, s₃.toks, rfl, Sub.rfl⟩
    · obtain ⟨PP, hev, hPP⟩ := ht j hj
      exact wpAny_tests_one (testX X hh hd hev hPP fun h4 tk4 k4 => ⟨rfl, h4, tk4, rfl, k4⟩)
  · rintro C i v s₃ m₃ E' ⟨j, t, _, hj, rfl⟩ hp hn hm hk
    obtain ⟨nn, PP, hev, hPP⟩ := hkey j hj hp
    refine ev_sound hh hd nn kx _ PP s₃ E' _ hev hPP (envC C j t s₃ m₃ hn hm hk) fun u h4 tk4 k4 i4 => ?_
    obtain ⟨t4, rfl⟩ := i4
    exact ⟨⟨kf j, intKind_is PR w (kf j) t4, j, t, rfl, rfl⟩, h4, tk4, rfl, k4⟩
  · rintro C i v s₃ m₃ E' ⟨j, t, _, hj, rfl⟩ hp hn hm hk
    obtain ⟨nn, PP, hev, hPP⟩ := hval j hj hp
    refine ev_sound hh hd nn vx _ PP s₃ E' _ hev hPP (envC C j t s₃ m₃ hn hm hk) fun u h4 tk4 k4 i4 => ?_
    obtain ⟨t4, rfl⟩ := i4
    exact ⟨⟨j, t, t4, rfl, rfl⟩, h4, tk4, rfl, k4⟩
  · intro D C h3 tk3 m' kvs vs hD hC hDC hnC hlD hlen' hP3 hF hk
    have hsub := up h3 hk
    have hnone : ∀ a, h''.get? a = none → s.heap.get? a = none := fun a e => by
      cases q : s.heap.get? a with
      | none => rfl
      | some o => have e' : h''.get? a = some o := kk' a o (kk a o q); rw [e'] at e; cases e
    refine post D C h3 tk3 m' (kk.trans hsub) (hnone D hD) (hnone C hC) hDC hnC ⟨?_, kvs, hlD, ?_⟩
    · refine beq_eq_false_iff_ne.mpr fun q => ?_
      obtain ⟨o, ho⟩ := mods_alive (F.gd.keeps F.keep)
      have := hnone D hD
      rw [q, ho] at this; cases this
    · have hI := ints_of_places (vs := vs) (is := is) (by simpa using hlen') fun j v hv => by obtain ⟨i, t, a, _, b⟩ := hP3 j v hv; exact ⟨i, t, a, b⟩
      exact stored_flat hF (ints_filter hI) hnd

theorem dcompE {Q : Value → Shared → Prop} (F : Fm w ok env mu p s.heap m ρ) (fe : FEnv w lv env fs) (hh : A.handled = none) (hd : A.depth + lv < recursionLimit)
    (he : evP fs ρ n iter = some (V, P)) (hP : P) (hi : itemsOf V = some (is.map .int, P')) (hP' : P') (hs : ∀ v, foldedSetIterable iter env v = pure v)
    (hclos : closureFor scope env = pure cl) (hcell : ∀ y ∈ scope.names, y.2 ≠ .cell) (hkind : scope.kind = .function) (hnames : ∀ y ∈ scope.names, y.2 = .local → scope.names.lookup y.1 = some .local) (hx : scope.names.lookup x = some .local) (hdb : (x == ("__debug__" : Str)) = false)
    (c : Caps env scope cl ρ ρc) (fcE : ∀ C, FEnv w lv (compEnvC scope cl C env) fc)
    (tests : Tests fc ρc x ifs pz is) (hkey : ∀ i ∈ is, pz i = true → EvI fc ((x, .int i) :: ρc) kx (.int (kf i))) (hval : ∀ i ∈ is, pz i = true → EvI fc ((x, .int i) :: ρc) vx (.int (vf i)))
    (hnd : ((is.filter pz).map kf).Nodup) (hlen : is.length ≤ 1000)
    (k : Back w ok s (.tab ((is.filter pz).map fun i => (kf i, vf i))) Q) : wpAny (model PR w) A (eval (.DictComp kx vx [⟨.Name x px, iter, ifs, 0⟩] scope pos) env) Q E s := by
  rw [arm_eval_DictComp]
  refine dcomp_core F fe hh hd he hP hi hP' hs hclos hcell hkind hnames hx hdb c fcE tests hkey hval hnd hlen fun D C h' tk m' hsub hD hC hDC hn T => ⟨m', hn, fun h3 hs3 => ?_⟩
  refine k _ h3 tk (fun b o e => (hs3.2 b (by rintro rfl; rw [hC] at e; cases e)).trans (hsub b o e)) ⟨D, rfl, F.fresh D hD, tab_at T fun o e => (hs3.2 D hDC).trans e⟩

theorem asgDC {Q : Flow → Shared → Prop} {rest : List Stmt} {y : Str} {py spos : Pos} {cy : Addr} (F : Fm w ok env mu p s.heap m ρ) (fe : FEnv w lv env fs) (hh : A.handled = none) (hd : A.depth + lv < recursionLimit)
    (hsw : swapsWith (.DictComp kx vx [⟨.Name x px, iter, ifs, 0⟩] scope pos) (some (.Name y py)) spos.line env = pure false) (hy : env.kindOf y = some .cell) (hyd : (y == ("__debug__" : Str)) = false) (hcy : env.cells.lookup y = some cy) (hmu : cy ∈ mu)
    (he : evP fs ρ n iter = some (V, P)) (hP : P) (hi : itemsOf V = some (is.map .int, P')) (hP' : P') (hs : ∀ v, foldedSetIterable iter env v = pure v)
    (hclos : closureFor scope env = pure cl) (hcell : ∀ y ∈ scope.names, y.2 ≠ .cell) (hkind : scope.kind = .function) (hnames : ∀ y ∈ scope.names, y.2 = .local → scope.names.lookup y.1 = some .local) (hx : scope.names.lookup x = some .local) (hdb : (x == ("__debug__" : Str)) = false)
    (c : Caps env scope cl ρ ρc) (fcE : ∀ C, FEnv w lv (compEnvC scope cl C env) fc)
    (tests : Tests fc ρc x ifs pz is) (hkey : ∀ i ∈ is, pz i = true → EvI fc ((x, .int i) :: ρc) kx (.int (kf i))) (hval : ∀ i ∈ is, pz i = true → EvI fc ((x, .int i) :: ρc) vx (.int (vf i)))
    (hnd : ((is.filter pz).map kf).Nodup) (hlen : is.length ≤ 1000)
    (k : ∀ h' tk, Fm w ok env mu p h' m ((y, .tab ((is.filter pz).map fun i => (kf i, vf i))) :: ρ) → wpAny (model PR w) A (execs rest env) Q E { s with heap := h', toks := tk }) :
    wpAny (model PR w) A (execs (.Assign [.Name y py] (.DictComp kx vx [⟨.Name x px, iter, ifs, 0⟩] scope pos) spos :: rest) env) Q E s := by
  refine wpAny_execs_cons (wpAny_Assign_Name (dcompE F fe hh hd he hP hi hP' hs hclos hcell hkind hnames hx hdb c fcE tests hkey hval hnd hlen fun v h' tk kk i => ?_) hsw)
  exact stoC (F.grow kk) hy hyd hcy hmu i fun h'' tk' F' => k _ _ F'

theorem asgDL {Q : Flow → Shared → Prop} {rest : List Stmt} {y : Str} {py spos : Pos} (F : Fm w ok env mu p s.heap m ρ) (fe : FEnv w lv env fs) (hh : A.handled = none) (hd : A.depth + lv < recursionLimit)
    (hsw : swapsWith (.DictComp kx vx [⟨.Name x px, iter, ifs, 0⟩] scope pos) (some (.Name y py)) spos.line env = pure true) (hy : env.kindOf y = some .local) (hyd : (y == ("__debug__" : Str)) = false)
    (he : evP fs ρ n iter = some (V, P)) (hP : P) (hi : itemsOf V = some (is.map .int, P')) (hP' : P') (hs : ∀ v, foldedSetIterable iter env v = pure v)
    (hclos : closureFor scope env = pure cl) (hcell : ∀ y ∈ scope.names, y.2 ≠ .cell) (hkind : scope.kind = .function) (hnames : ∀ y ∈ scope.names, y.2 = .local → scope.names.lookup y.1 = some .local) (hx : scope.names.lookup x = some .local) (hdb : (x == ("__debug__" : Str)) = false)
    (c : Caps env scope cl ρ ρc) (fcE : ∀ C, FEnv w lv (compEnvC scope cl C env) fc)
    (tests : Tests fc ρc x ifs pz is) (hkey : ∀ i ∈ is, pz i = true → EvI fc ((x, .int i) :: ρc) kx (.int (kf i))) (hval : ∀ i ∈ is, pz i = true → EvI fc ((x, .int i) :: ρc) vx (.int (vf i)))
    (hnd : ((is.filter pz).map kf).Nodup) (hlen : is.length ≤ 1000)
    (k : ∀ h' tk m', Fm w ok env mu p h' m' ((y, .tab ((is.filter pz).map fun i => (kf i, vf i))) :: ρ) → wpAny (model PR w) A (execs rest env) Q E { s with heap := h', toks := tk }) :
    wpAny (model PR w) A (execs (.Assign [.Name y py] (.DictComp kx vx [⟨.Name x px, iter, ifs, 0⟩] scope pos) spos :: rest) env) Q E s := by
  refine wpAny_execs_cons ?_
  rw [exec_Assign_Name_used _ _ _ _ hsw]
  refine wpAny_bind (wpAny_standAt (wpAny_bind ?_))
  show wpAny _ A (do let _ ← comprehension (.DictComp kx vx [⟨.Name x px, iter, ifs, 0⟩] scope pos) scope env _ newDict false (eval iter env) (some (assign (.Name y py) env))) _ _ s
  refine wpAny_bind (wpAny_mono (dcomp_core (use := some (assign (.Name y py) env)) (Qc := fun _ s' => wpAny (model PR w) A (execs rest env) Q E s') F fe hh hd he hP hi hP' hs hclos hcell hkind hnames hx hdb c fcE tests hkey hval hnd hlen fun D C h' tk m' hsub hD hC hDC hn T => ?_) (fun _ s' hq => wpAny_pure (wpAny_pure hq)) fun _ _ e => e)
  show wpAny _ A (assign (.Name y py) env (.ref D)) _ _ _
  have hCe : ∃ o, h'.get? C = some o := let ⟨o, _, _, ho, _⟩ := hn; ⟨o, ho⟩
  have F1 := F.shrink hC hsub hCe
  have hLC : env.locals ≠ C := by rintro rfl; obtain ⟨o, e⟩ := F.mex _ F.Lmu; rw [hC] at e; cases e
  have hCmu : C ∉ mu := fun hm => by obtain ⟨o, e⟩ := F.mex _ hm; rw [hC] at e; cases e
  have hCC : ∀ y c, env.cells.lookup y = some c → c ≠ C := fun y c e q => by obtain ⟨v, o, ho, _⟩ := F.cells y _ e; rw [q, hC] at ho; cases ho
  have hpC : p.get? C = none := by
    cases q : p.get? C with
    | none => rfl
    | some o => rw [F.keep _ _ q] at hC; cases hC
  refine wpAny_assign_Name (wpAny_storeName_local hy F1.ns (fun h2 hn2 hs2 => ?_) (notClass F.kind))
  have F2 := F1.setL hy hyd (V := .tab ((is.filter pz).map fun i => (kf i, vf i))) ⟨D, rfl, ⟨F.fresh D hD, hDC⟩, T⟩ hn2 hs2
  refine ⟨m', hn.sameBut hs2 (Ne.symm hLC), fun h3 hs3 => ?_⟩
  exact k h3 _ _ (F2.leave (F.fresh C hC) F.nok hCmu hpC hLC hCC fun b o hb e => (hs3.2 b hb).trans e)
end
end Mine

/-! Long27 -/
namespace Mine
open PySem PySem.W PyProof.Rows PySem.Calls PyProof.V

def tg (D : List (Int × Int)) (i : Int) : Int := (tget D i).getD 0
def ix (l : List Int) (i : Int) : Int := l.getD i.toNat 0
def keys (D : List (Int × Int)) : List Int := D.map (·.1)
def longT (D : List (Int × Int)) (st rt : List Int) : List (Int × Int) :=
  addT (addT ((keys D).map fun i => (i + 1, tg D i)) ((keys D).map fun i => (i, ix st i * tg D i))) (((keys D).filter fun i => decide (0 < i)).map fun i => (i - 1, ix rt (i - 1) * tg D i))

def Small (l : List Int) : Prop := l.length < 1000 ∧ ∀ x ∈ l, x.natAbs ≤ 1000
theorem Small.ix {l : List Int} (h : Small l) (i : Int) : (ix l i).natAbs ≤ 1000 := by
  unfold Mine.ix
  rw [List.getD_eq_getElem?_getD]
  cases q : l[i.toNat]? with
  | none => simp
  | some x => simpa using h.2 x (List.mem_of_getElem? q)

def LongOk (D : List (Int × Int)) (st rt : List Int) : Prop := D.length ≤ 50 ∧ Small st ∧ Small rt ∧ ∀ i ∈ keys D, 0 ≤ i ∧ i < st.length ∧ (0 < i → i - 1 < rt.length)
def fLong : Fn where
  val := .ref 89
  lvl := 2
  den := fun | [.tab D, .ints st, .ints rt] => some (.tab (longT D st rt)) | _ => none
  pre := fun | [.tab D, .ints st, .ints rt] => LongOk D st rt | _ => False

theorem tget_keys {D : List (Int × Int)} {i : Int} (h : i ∈ keys D) : (tget D i).isSome = true := by
  induction D with
  | nil => cases h
  | cons q D ih =>
    obtain ⟨a, b⟩ := q
    unfold tget
    split
    · rfl
    · rename_i hne
      rcases List.mem_cons.mp h with e | h
      · exact absurd e.symm hne
      · exact ih h
theorem items_tab (D : List (Int × Int)) : itemsOf (.tab D) = some ((keys D).map .int, True) := by simp [itemsOf, keys]
theorem addT_len (a b : List (Int × Int)) : (addT a b).length ≤ a.length + b.length := by
  unfold addT
  induction b generalizing a with
  | nil => simp
  | cons q b ih =>
    rw [List.foldl_cons]
    refine Nat.le_trans (ih _) ?_
    have : (addOne a q).length ≤ a.length + 1 := tput_len _ _ _
    simp only [List.length_cons]
    omega
theorem nodup_map {f : Int → Int} (hf : ∀ a b, f a = f b → a = b) {l : List Int} (h : l.Nodup) : (l.map f).Nodup := by
  induction h with
  | nil => exact .nil
  | cons hne _ ih =>
    rw [List.map_cons, List.nodup_cons]
    refine ⟨fun hm => ?_, ih⟩
    obtain ⟨b, hb, e⟩ := List.mem_map.mp hm
    exact hne b hb (hf _ _ e).symm

theorem long_ok (w : World) : FnOk w fLong := by
  have hX := seen w
  revert hX; k_fill; intro _
  refine ⟨?_, with1_own (by k_is)⟩
  intro ok s A E Q Vs vs V G hh hd fresh I hden hpre k
  unfold fLong at hden hpre hd
  dsimp only at hden hpre hd
  split at hden
  · rename_i D st rt
    cases hden
    dsimp only at hpre
    obtain ⟨v1, v2, v3, rfl⟩ := I.three
    have hnd : (keys D).Nodup := by
      cases I with | cons i1 _ => obtain ⟨d, _, _, T⟩ := i1; exact tab_nodup T
    obtain ⟨q1, q2, q3, q4⟩ := hpre
    refine' enter (names := ["table", "stays", "returns"]) G (by omega) fresh I ?k6 ?k7 ?k9 ?kl ?kn ?knc ?kk ?kd ?c2 ?c3 ?c4 ?_
    case k6 => k_is
    case k7 => k_is
    case k9 => exact rfl
    case kl => rfl
    case kn => decide
    case knc => decide
    case kk => decide
    case kd => decide
    case c2 => rfl
    case c3 => rfl
    case c4 => rfl
    intro L h₁ tk m F
    have hd' : ∀ env, (A.deeper env).depth + 1 < recursionLimit := fun env => by show A.depth + 1 + 1 < _; omega
    have hkl : (keys D).length ≤ 1000 := by simp [keys]; omega
    refine asgDL (n := 1) (lv := 1) (fs := []) (fc := []) (is := keys D) (pz := fun _ => true) (kf := fun i => i + 1) (vf := fun i => tg D i) (ρc := [("table", .tab D)]) F FEnv.nil (A_deep hh) (hd' _) (by rfl) (by rfl) (by decide)
      (he := by rfl) (hP := trivial) (hi := items_tab D) (hP' := trivial) (fun _ => by rfl) (by rfl) (by decide) (by rfl) (by decide) (by rfl) (by decide) (.cons (by rfl) (by rfl) (by rfl) (by rfl) .nil) (fun _ => FEnv.nil)
      (.inl ⟨rfl, fun _ _ => rfl⟩) ?_ ?_ ?_ hkl ?_
    · intro i hi _; exact ⟨3, _, rfl, trivial, trivial, trivial⟩
    · intro i hi _; exact ⟨3, _, rfl, trivial, trivial, tget_keys hi⟩
    · rw [List.filter_eq_self.mpr (fun _ _ => rfl)]; exact nodup_map (fun a b e => by omega) hnd
    intro h2 tk2 m2 F
    refine asgDL (n := 1) (lv := 1) (fs := []) (fc := []) (is := keys D) (pz := fun _ => true) (kf := fun i => i) (vf := fun i => ix st i * tg D i) (ρc := [("table", .tab D), ("stays", .ints st)]) F FEnv.nil (A_deep hh) (hd' _) (by rfl) (by rfl) (by decide)
      (he := by rfl) (hP := trivial) (hi := items_tab D) (hP' := trivial) (fun _ => by rfl) (by rfl) (by decide) (by rfl) (by decide) (by rfl) (by decide) (.cons (by rfl) (by rfl) (by rfl) (by rfl) (.cons (by rfl) (by rfl) (by rfl) (by rfl) .nil)) (fun _ => FEnv.nil)
      (.inl ⟨rfl, fun _ _ => rfl⟩) ?_ ?_ ?_ hkl ?_
    · intro i hi _; exact ⟨1, _, rfl, trivial⟩
    · intro i hi _
      obtain ⟨r1, r2, r3⟩ := q4 i hi
      have := q2.ix i
      exact ⟨3, _, rfl, ⟨trivial, trivial, r1, r2, q2.1⟩, ⟨trivial, trivial, tget_keys hi⟩, .inl (by show (ix st i).natAbs < _; omega)⟩
    · rw [List.filter_eq_self.mpr (fun _ _ => rfl)]; simpa using hnd
    intro h3 tk3 m3 F
    refine asgDL (n := 1) (lv := 1) (fs := []) (fc := []) (is := keys D) (pz := fun i => decide (0 < i)) (kf := fun i => i - 1) (vf := fun i => ix rt (i - 1) * tg D i) (ρc := [("table", .tab D), ("returns", .ints rt)]) F FEnv.nil (A_deep hh) (hd' _) (by rfl) (by rfl) (by decide)
      (he := by rfl) (hP := trivial) (hi := items_tab D) (hP' := trivial) (fun _ => by rfl) (by rfl) (by decide) (by rfl) (by decide) (by rfl) (by decide) (.cons (by rfl) (by rfl) (by rfl) (by rfl) (.cons (by rfl) (by rfl) (by rfl) (by rfl) .nil)) (fun _ => FEnv.nil)
      (.inr ⟨_, _, _, _, 2, rfl, fun i hi => ⟨_, rfl, trivial, trivial⟩⟩) ?_ ?_ ?_ hkl ?_
    · intro i hi _; exact ⟨3, _, rfl, trivial, trivial, trivial⟩
    · intro i hi hp
      obtain ⟨r1, r2, r3⟩ := q4 i hi
      have hp' : 0 < i := by simpa using hp
      have := q3.ix (i - 1)
      exact ⟨4, _, rfl, ⟨trivial, ⟨trivial, trivial, trivial⟩, by omega, r3 hp', q3.1⟩, ⟨trivial, trivial, tget_keys hi⟩, .inl (by show (ix rt (i - 1)).natAbs < _; omega)⟩
    · exact nodup_map (fun a b e => by omega) (hnd.filter _)
    intro h4 tk4 m4 F
    refine retE (n := 3) (lv := 1) (fs := [("add_callers", fAdd)]) F (.cons (by rfl) (by decide) (.own (by k_is)) (add_ok w) (by decide) .nil) (A_deep hh) (hd' _) (he := by rfl) (hP := ?_) fun v h' tk' kk i => ?_
    · have hk : (keys D).length ≤ 50 := by simpa [keys] using q1
      have hf : ∀ q : Int → Bool, ((keys D).filter q).length ≤ 50 := fun q => Nat.le_trans (List.length_filter_le _ _) hk
      refine ⟨⟨⟨⟨trivial, trivial, trivial⟩, ?_⟩, trivial, trivial⟩, ?_⟩
      · exact ⟨by rw [List.length_map]; exact Nat.le_trans (hf _) (by decide), by rw [List.length_map]; exact Nat.le_trans (hf _) (by decide)⟩
      · refine ⟨Nat.le_trans (addT_len _ _) ?_, by rw [List.length_map]; exact Nat.le_trans (hf _) (by decide)⟩
        rw [List.length_map, List.length_map]
        have := hf fun _ => true
        omega
    · refine k v h' tk' (F.keep.trans kk) ?_
      have := i.weak (ok' := ok) (fun _ z => z.1)
      rw [List.filter_eq_self.mpr (fun _ _ => rfl)] at this
      exact this
  · cases hden
end Mine

/-! Along27 -/
namespace Mine
open PySem PySem.W PyProof.Rows PySem.Calls PyProof.V

abbrev Tb := List (Int × Int)
def scaleT (z : Int) (D : Tb) : Tb := (keys D).map fun i => (i, z * tg D i)
def alongS (letter : Str) (st rt : List Int) (z : Tb × Int) (c : Nat) : Tb × Int :=
  if (⟨#[c]⟩ : Str) == letter then (addT (longT z.1 st rt) (scaleT (-(ix st z.2)) z.1), z.2 + 1) else (scaleT (-(ix rt z.2)) z.1, z.2 + 2)
def alongI (letter : Str) (st rt : List Int) (D : Tb) (name : List Nat) : Tb × Int := name.foldl (alongS letter st rt) (D, 0)
def AlOk (letter : Str) (st rt : List Int) (z : Tb × Int) (c : Nat) : Prop :=
  z.1.length ≤ 50 ∧ (longT z.1 st rt).length ≤ 100 ∧ 0 ≤ z.2 ∧ (if (⟨#[c]⟩ : Str) == letter then LongOk z.1 st rt ∧ z.2 < st.length else z.2 < rt.length)
def fAlong : Fn where
  val := .ref 94
  lvl := 3
  den := fun | [.str name, .str letter, .tab D, .ints st, .ints rt] => some (.tab (alongI letter st rt D name.cps.toList).1) | _ => none
  pre := fun | [.str name, .str letter, .tab D, .ints st, .ints rt] => Small st ∧ Small rt ∧ ∀ i c, name.cps.toList[i]? = some c → AlOk letter st rt (alongI letter st rt D (name.cps.toList.take i)) c | _ => False

theorem along_ok (w : World) : FnOk w fAlong := by
  have hX := seen w
  revert hX; k_fill; intro _
  refine ⟨?_, with1_own (by k_is)⟩
  intro ok s A E Q Vs vs V G hh hd fresh I hden hpre k
  unfold fAlong at hden hpre hd
  dsimp only at hden hpre hd
  split at hden
  · rename_i name letter D₀ st rt
    cases hden
    dsimp only at hpre
    obtain ⟨v1, v2, v3, v4, v5, rfl⟩ := I.five
    obtain ⟨q1, q2, q3⟩ := hpre
    refine' enter (names := ["name", "letter", "first", "stays", "returns"]) G (by omega) fresh I ?k6 ?k7 ?k9 ?kl ?kn ?knc ?kk ?kd ?c2 ?c3 ?c4 ?_
    case k6 => k_is
    case k7 => k_is
    case k9 => exact rfl
    case kl => rfl
    case kn => decide
    case knc => decide
    case kk => decide
    case kd => decide
    case c2 => rfl
    case c3 => rfl
    case c4 => rfl
    intro L h₁ tk m F
    have hd' : ∀ env, (A.deeper env).depth + 2 < recursionLimit := fun env => by show A.depth + 1 + 2 < _; omega
    refine asgC (n := 1) F (FEnv.nil (lv := 2)) (A_deep hh) (hd' _) (by rfl) (by decide) (by rfl) (by repeat (first | exact List.Mem.head _ | refine List.Mem.tail _ ?_)) (he := by rfl) (hP := trivial) (by rfl) ?_
    intro h2 tk2 F
    refine asgC (n := 1) F (FEnv.nil (lv := 2)) (A_deep hh) (hd' _) (by rfl) (by decide) (by rfl) (by repeat (first | exact List.Mem.head _ | refine List.Mem.tail _ ?_)) (he := by rfl) (hP := trivial) (by rfl) ?_
    intro h3 tk3 F
    refine forE (n := 1) (fs := []) (lv := 2) (fun i => [("table", .tab (alongI letter st rt D₀ (name.cps.toList.take i)).1), ("ahead", .int (alongI letter st rt D₀ (name.cps.toList.take i)).2), ("letter", .str letter), ("stays", .ints st), ("returns", .ints rt)]) (fun _ _ => True) F .nil (A_deep hh) (hd' _) (by rfl) (by decide) (he := by rfl) (hP := trivial) (hi := by rfl) (hP' := trivial) (hs := fun _ => by rfl)
      (sub_cons (by rfl) (sub_cons (by rfl) (sub_cons (by rfl) (sub_cons (by rfl) (sub_cons (by rfl) sub_nil))))) (fun _ _ => trivial) (fun _ _ _ _ _ => trivial) ?_ ?_
    · rintro i V hV ok' p' s' m' E' hok hpp ⟨h4, tk4, rfl⟩ - F
      obtain ⟨c, hc, rfl⟩ : ∃ c, name.cps.toList[i]? = some c ∧ V = .str ⟨#[c]⟩ := by
        rw [List.getElem?_map] at hV
        obtain ⟨q, hq, e⟩ := Option.map_eq_some_iff.mp hV
        exact ⟨q, hq, e.symm⟩
      have hstep : alongI letter st rt D₀ (name.cps.toList.take (i + 1)) = alongS letter st rt (alongI letter st rt D₀ (name.cps.toList.take i)) c := by simp [alongI, List.take_add_one, hc, List.foldl_append]
      have hq := q3 i c hc
      rw [hstep]
      generalize alongI letter st rt D₀ (name.cps.toList.take i) = z at F hq
      obtain ⟨D, a⟩ := z
      obtain ⟨p1, p2, p3, p4⟩ := hq
      dsimp only at p1 p2 p3 p4 F
      have hkl : (keys D).length ≤ 1000 := by simp [keys]; omega
      have hnd : (keys D).Nodup := by obtain ⟨_, v, ⟨d, _, _, T⟩, _⟩ := F.vars "table" _ (by rfl); exact tab_nodup T
      have hft : (keys D).filter (fun _ => true) = keys D := List.filter_eq_self.mpr (fun _ _ => rfl)
      refine ifE (n := 2) F (FEnv.nil (lv := 2)) (A_deep hh) (hd' _) (he := by rfl) (hP := by exact ⟨trivial, trivial⟩) ?_
      intro h5 tk5 F
      cases hb : ((⟨#[c]⟩ : Str) == letter) with
      | true =>
        rw [hb] at p4
        simp only [if_true] at p4 ⊢
        obtain ⟨p4, p5⟩ := p4
        have hsm := q1.ix a
        refine asgDL (n := 1) (lv := 2) (fs := []) (fc := []) (is := keys D) (pz := fun _ => true) (kf := fun i => i) (vf := fun i => -(ix st a) * tg D i) (ρc := [("table", .tab D), ("stays", .ints st), ("ahead", .int a)]) F FEnv.nil (A_deep hh) (hd' _) (by rfl) (by rfl) (by decide)
          (he := by rfl) (hP := trivial) (hi := items_tab D) (hP' := trivial) (fun _ => by rfl) (by rfl) (by decide) (by rfl) (by decide) (by rfl) (by decide) (.cons (by rfl) (by rfl) (by rfl) (by rfl) (.cons (by rfl) (by rfl) (by rfl) (by rfl) (.cons (by rfl) (by rfl) (by rfl) (by rfl) .nil))) (fun _ => FEnv.nil)
          (.inl ⟨rfl, fun _ _ => rfl⟩) ?_ ?_ ?_ hkl ?_
        · intro i hi _; exact ⟨1, _, rfl, trivial⟩
        · intro i hi _
          exact ⟨4, _, rfl, ⟨trivial, trivial, p3, p5, q1.1⟩, ⟨trivial, trivial, tget_keys hi⟩, .inl (by show (-(ix st a)).natAbs < _; omega)⟩
        · rw [hft]; simpa using hnd
        intro h6 tk6 m6 F
        rw [hft] at F
        refine asgC (n := 3) (lv := 2) (fs := [("add_callers", fAdd), ("_law_longer", fLong)]) F (.cons (by rfl) (by decide) (.own (by k_is)) (add_ok w) (by decide) (.cons (by rfl) (by decide) (.own (by k_is)) (long_ok w) (by decide) .nil)) (A_deep hh) (hd' _) (by rfl) (by decide) (by rfl) (by repeat (first | exact List.Mem.head _ | refine List.Mem.tail _ ?_)) (he := by rfl) (hP := ?_) (by rfl) ?_
        · refine ⟨⟨⟨⟨trivial, trivial, trivial, trivial⟩, p4⟩, trivial, trivial⟩, p2, ?_⟩
          rw [List.length_map]; simp [keys]; omega
        intro h7 tk7 F
        refine asgC (n := 2) F (FEnv.nil (lv := 2)) (A_deep hh) (hd' _) (by rfl) (by decide) (by rfl) (by repeat (first | exact List.Mem.head _ | refine List.Mem.tail _ ?_)) (he := by rfl) (hP := by exact ⟨trivial, trivial, trivial⟩) (by rfl) ?_
        intro h8 tk8 F
        refine wpAny_execs_nil (wpAny_execs_nil ⟨rfl, _, _, _, rfl, trivial, F.less ?_⟩)
        rw [show alongS letter st rt (D, a) c = (addT (longT D st rt) (scaleT (-(ix st a)) D), a + 1) by simp [alongS, hb]]
        exact sub_cons (by rfl) (sub_cons (by rfl) (sub_cons (by rfl) (sub_cons (by rfl) (sub_cons (by rfl) sub_nil))))
      | false =>
        rw [hb] at p4
        simp only [Bool.false_eq_true, if_false] at p4 ⊢
        have hsm := q2.ix a
        refine asgDC (n := 1) (lv := 2) (fs := []) (fc := []) (is := keys D) (pz := fun _ => true) (kf := fun i => i) (vf := fun i => -(ix rt a) * tg D i) (ρc := [("table", .tab D), ("returns", .ints rt), ("ahead", .int a)]) F FEnv.nil (A_deep hh) (hd' _) (by rfl) (by rfl) (by decide) (by rfl) (by repeat (first | exact List.Mem.head _ | refine List.Mem.tail _ ?_))
          (he := by rfl) (hP := trivial) (hi := items_tab D) (hP' := trivial) (fun _ => by rfl) (by rfl) (by decide) (by rfl) (by decide) (by rfl) (by decide) (.cons (by rfl) (by rfl) (by rfl) (by rfl) (.cons (by rfl) (by rfl) (by rfl) (by rfl) (.cons (by rfl) (by rfl) (by rfl) (by rfl) .nil))) (fun _ => FEnv.nil)
          (.inl ⟨rfl, fun _ _ => rfl⟩) ?_ ?_ ?_ hkl ?_
        · intro i hi _; exact ⟨1, _, rfl, trivial⟩
        · intro i hi _
          exact ⟨4, _, rfl, ⟨trivial, trivial, p3, p4, q2.1⟩, ⟨trivial, trivial, tget_keys hi⟩, .inl (by show (-(ix rt a)).natAbs < _; omega)⟩
        · rw [hft]; simpa using hnd
        intro h6 tk6 F
        rw [hft] at F
        refine asgC (n := 2) F (FEnv.nil (lv := 2)) (A_deep hh) (hd' _) (by rfl) (by decide) (by rfl) (by repeat (first | exact List.Mem.head _ | refine List.Mem.tail _ ?_)) (he := by rfl) (hP := by exact ⟨trivial, trivial, trivial⟩) (by rfl) ?_
        intro h8 tk8 F
        refine wpAny_execs_nil (wpAny_execs_nil ⟨rfl, _, _, _, rfl, trivial, F.less ?_⟩)
        rw [show alongS letter st rt (D, a) c = (scaleT (-(ix rt a)) D, a + 2) by simp [alongS, hb]]
        exact sub_cons (by rfl) (sub_cons (by rfl) (sub_cons (by rfl) (sub_cons (by rfl) (sub_cons (by rfl) sub_nil))))
    · intro h4 tk4 m4 _ F
      refine retE (n := 1) F (FEnv.nil (lv := 2)) (A_deep hh) (hd' _) (he := by rfl) (hP := trivial) fun v h' tk' kk i => ?_
      refine k v h' tk' (F.keep.trans kk) ?_
      have := i.weak (ok' := ok) (fun _ z => z.1)
      rw [List.length_map, List.take_length] at this
      exact this
  · cases hden
end Mine

/-! Stat27 -/
namespace Mine
open PySem PySem.W PyProof.Rows PySem.Calls PyProof.V

section
variable {w : World} {ok : Addr → Prop} {env : Env} {mu : List Addr} {p : Heap} {m : Str → Option Value} {ρ : Rho} {A : Around} {s : Shared} {E : Value → Shared → Prop}
theorem asgNil {Q : Unit → Shared → Prop} (q : Q () s) : wpAny (model PR w) A (assignInOrder [] []) Q E s := wpAny_pure q
theorem asgOne {Q : Unit → Shared → Prop} {x : Str} {px : Pos} {v : Value} {V : AV} {ts : List (Value → Sem Unit)} {vs : List Value} (F : Fm w ok env mu p s.heap m ρ) (hx : env.kindOf x = some .local) (hdb : (x == ("__debug__" : Str)) = false) (i : Is w ok s.heap V v)
    (k : ∀ h' tk m', OkSub ok s.heap h' → Fm w ok env mu p h' m' ((x, V) :: ρ) → wpAny (model PR w) A (assignInOrder ts vs) Q E { s with heap := h', toks := tk }) :
    wpAny (model PR w) A (assignInOrder (assign (.Name x px) env :: ts) (v :: vs)) Q E s := by
  show wpAny _ _ (do holding vs (assign (.Name x px) env v); assignInOrder ts vs) _ _ _
  refine wpAny_bind (wpAny_holding (wpAny_assign_Name (wpAny_storeName_local hx F.ns (fun h' hn hs => ?_) (notClass F.kind))))
  exact k h' _ _ (fun b o ob e => (hs.2 b (by rintro rfl; exact F.nok _ F.Lmu ob)).trans e) (F.setL hx hdb i hn hs)

/-- a, b, c, d, e = x -/
theorem unpack5 {Q : Flow → Shared → Prop} {rest : List Stmt} {x x1 x2 x3 x4 x5 : Str} {px p1 p2 p3 p4 p5 tp pos : Pos} {kk : Nat} {z1 z2 z3 z4 : Int} {D : List (Int × Int)} (F : Fm w ok env mu p s.heap m ρ) (hh : A.handled = none) (hx : ρ.lookup x = some (.t5 z1 z2 z3 z4 D))
    (h1 : env.kindOf x1 = some .local) (h2 : env.kindOf x2 = some .local) (h3 : env.kindOf x3 = some .local) (h4 : env.kindOf x4 = some .local) (h5 : env.kindOf x5 = some .local)
    (d1 : (x1 == ("__debug__" : Str)) = false) (d2 : (x2 == ("__debug__" : Str)) = false) (d3 : (x3 == ("__debug__" : Str)) = false) (d4 : (x4 == ("__debug__" : Str)) = false) (d5 : (x5 == ("__debug__" : Str)) = false)
    (hs : swapsWithSole [.Tuple [.Name x1 p1, .Name x2 p2, .Name x3 p3, .Name x4 p4, .Name x5 p5] kk tp] (.Name x px) pos.line env = pure false)
    (hw : swappedStores [.Tuple [.Name x1 p1, .Name x2 p2, .Name x3 p3, .Name x4 p4, .Name x5 p5] kk tp] (.Name x px) env = pure none)
    (k : ∀ h' tk m', Fm w ok env mu p h' m' ((x5, .tab D) :: (x4, .int z4) :: (x3, .int z3) :: (x2, .int z2) :: (x1, .int z1) :: ρ) → wpAny (model PR w) A (execs rest env) Q E { s with heap := h', toks := tk }) :
    wpAny (model PR w) A (execs (.Assign [.Tuple [.Name x1 p1, .Name x2 p2, .Name x3 p3, .Name x4 p4, .Name x5 p5] kk tp] (.Name x px) pos :: rest) env) Q E s := by
  refine wpAny_execs_cons (Assign_Tuple (F.nm hx fun v iv => ?_) hs hw)
  obtain ⟨a, t1, t2, t3, t4, d, rfl, oa, hd, ht⟩ := iv
  refine wpAny_assign_Tuple hh ht rfl rfl fun h₃ hx₃ => ?_
  have s3 : Sub s.heap h₃ := fun b o e => hx₃ b o (Nat.ne_of_lt (Heap.lt_size e)) e
  replace F := F.grow s3
  have id : Is w ok h₃ (.tab D) d := (show Is w ok s.heap (.tab D) d from hd).sub s3
  refine asgOne (s := { s with heap := h₃ }) (V := .int z1) F h1 d1 ⟨t1, rfl⟩ fun a1 b1 m1 k1 F => ?_
  replace id := id.okSub k1
  refine asgOne (s := { s with heap := a1, toks := b1 }) (V := .int z2) F h2 d2 ⟨t2, rfl⟩ fun a2 b2 m2 k2 F => ?_
  replace id := id.okSub k2
  refine asgOne (s := { s with heap := a2, toks := b2 }) (V := .int z3) F h3 d3 ⟨t3, rfl⟩ fun a3 b3 m3 k3 F => ?_
  replace id := id.okSub k3
  refine asgOne (s := { s with heap := a3, toks := b3 }) (V := .int z4) F h4 d4 ⟨t4, rfl⟩ fun a4 b4 m4 k4 F => ?_
  replace id := id.okSub k4
  refine asgOne (s := { s with heap := a4, toks := b4 }) (V := .tab D) F h5 d5 id fun a5 b5 m5 k5 F => ?_
  exact asgNil (k _ _ _ F)
end

def fStats : Fn where
  val := .ref 21
  lvl := 2
  den := fun | [.t5 a b c d D, .t5 a' b' c' d' D'] => some (.t5 (a' + a) (b' + b) (c' + c) (d' + d) (addT D D')) | _ => none
  pre := fun | [.t5 _ _ _ _ D, .t5 _ _ _ _ D'] => D.length ≤ 100 ∧ D'.length ≤ 100 | _ => False

theorem stats_ok (w : World) : FnOk w fStats := by
  have hX := seen w
  revert hX; k_fill; intro _
  refine ⟨?_, with1_own (by k_is)⟩
  intro ok s A E Q Vs vs V G hh hd fresh I hden hpre k
  unfold fStats at hden hpre hd
  dsimp only at hden hpre hd
  split at hden
  · rename_i a b c d D a' b' c' d' D'
    cases hden
    dsimp only at hpre
    obtain ⟨v1, v2, rfl⟩ := I.two
    refine' enter (names := ["target", "source"]) G (by omega) fresh I ?k6 ?k7 ?k9 ?kl ?kn ?knc ?kk ?kd ?c2 ?c3 ?c4 ?_
    case k6 => k_is
    case k7 => k_is
    case k9 => exact rfl
    case kl => rfl
    case kn => decide
    case knc => decide
    case kk => decide
    case kd => decide
    case c2 => rfl
    case c3 => rfl
    case c4 => rfl
    intro L h₁ tk m F
    have hd' : ∀ env, (A.deeper env).depth + 1 < recursionLimit := fun env => by show A.depth + 1 + 1 < _; omega
    refine unpack5 F (A_deep hh) (by rfl) (by rfl) (by rfl) (by rfl) (by rfl) (by rfl) (by decide) (by decide) (by decide) (by decide) (by decide) (by rfl) (by rfl) fun h2 tk2 m2 F => ?_
    refine unpack5 (s := { s with heap := h2, toks := tk2 }) F (A_deep hh) (by rfl) (by rfl) (by rfl) (by rfl) (by rfl) (by rfl) (by decide) (by decide) (by decide) (by decide) (by decide) (by rfl) (by rfl) fun h3 tk3 m3 F => ?_
    refine retE (s := { s with heap := h3, toks := tk3 }) (n := 3) (lv := 1) (fs := [("add_callers", fAdd)]) F (.cons (by rfl) (by decide) (.own (by k_is)) (add_ok w) (by decide) .nil) (A_deep hh) (hd' _) (he := by rfl) (hP := ?_) fun v h' tk' kk i => ?_
    · exact ⟨⟨trivial, trivial, trivial⟩, ⟨trivial, trivial, trivial⟩, ⟨trivial, trivial, trivial⟩, ⟨trivial, trivial, trivial⟩, ⟨⟨trivial, trivial, trivial⟩, hpre⟩, trivial⟩
    · exact k v h' tk' (F.keep.trans kk) (i.weak (ok' := ok) (fun _ z => z.1))
  · cases hden
end Mine

/-! Lc27 -/
namespace Mine
open PySem PySem.W PyProof.Rows PySem.Calls PyProof.V

theorem paired_ints {vf : Int → Int} {l ys : List Value} (h : Paired (fun v y => ∃ i t u, v = Value.int i t ∧ y = Value.int (vf i) u) l ys) : ∀ {is : List Int}, IntsAre l is → IntsAre ys (is.map vf) := by
  induction h with
  | nil => intro is hi; cases hi; exact .nil
  | cons hab _ ih =>
    intro is hi
    obtain ⟨i, t, u, rfl, rfl⟩ := hab
    cases hi with
    | cons n t' r => exact .cons _ u (ih r)

section
variable {w : World} {ok : Addr → Prop} {env : Env} {mu : List Addr} {p : Heap} {m : Str → Option Value} {ρ ρc : Rho} {lv n : Nat} {fs fc : Fns} {A : Around} {s : Shared} {E : Value → Shared → Prop} {V : AV} {P P' : Prop}
  {elt iter : Expr} {x : Str} {px pos cpos : Pos} {ifs : List Expr} {scope : Scope} {cl : List (Str × Addr)} {is : List Int} {pz : Int → Bool} {vf : Int → Int} {use : Option (Value → Sem Unit)} {Qc : Value → Shared → Prop}

theorem lcomp_src {h' : Heap} {tk : Nat} {it : Value} {h'' : Heap} {lv : Nat} (X1 : ∀ (C : Addr) (j : Int) (t : Tok) (h₃ : Heap) (m₃ : Str → Option Value), h₃.Ns C m₃ → m₃ x = some (.int j t) → Sub h' h₃ → EnvOk w ok lv (compEnvC scope cl C env) h₃ fc ((x, .int j) :: ρc)) (hh : A.handled = none) (hd : A.depth + lv < recursionLimit)
    (S : Src w A ok h' (is.map .int) it h'') (kk' : Sub h' h'')
    (hcell : ∀ y ∈ scope.names, y.2 ≠ .cell) (hkind : scope.kind = .function) (hx : scope.names.lookup x = some .local)
    (tests : Tests fc ρc x ifs pz is) (hval : ∀ i ∈ is, pz i = true → EvI fc ((x, .int i) :: ρc) elt (.int (vf i))) (hlen : is.length ≤ 1000)
    (post : ∀ D C h3 tk m', Sub h' h3 → h'.get? D = none → h'.get? C = none → D ≠ C → h3.Ns C m' → (∃ ys, h3.IsList D (List.toArray ys) ∧ IntsAre ys ((is.filter pz).map vf)) →
      compPost (model PR w) A E use Qc (.ref D) C (.ok .next) { s with heap := h3, toks := tk }) :
    wpAny (model PR w) A (newList []) (fun acc s₃ => wpAny (model PR w) A (newFunctionEnv scope env.globals cl [] env.qual none .none (some env)) (fun cenv s₄ =>
      codeAny (model PR w) A (.compStart (.ListComp elt [⟨.Name x px, iter, ifs, 0⟩] scope cpos) 0 it acc { cenv with scope := relabel scope env }) (compPost (model PR w) A E use Qc acc cenv.locals) s₄) E s₃) E { s with heap := h'', toks := tk } := by
  obtain ⟨I, fp, Pw, St, rfl, W, hStI, hst, hI, _, hfp, hPw⟩ := S
  have up : ∀ h3 : Heap, (∀ b o, b ∉ [I] → h''.get? b = some o → h3.get? b = some o) → Sub h' h3 := fun h3 q b o e => q b o (fun hb => by rw [List.mem_singleton.mp hb, hI] at e; cases e) (kk' b o e)
  have item : ∀ i v, i < (is.map AV.int).length → Pw i v → ∃ j t, is[i]? = some j ∧ j ∈ is ∧ v = .int j t := fun i v hl hp => by
    obtain ⟨V, hV, hIs⟩ := hPw i v hl hp
    rw [List.getElem?_map] at hV
    obtain ⟨j, hj, rfl⟩ := Option.map_eq_some_iff.mp hV
    obtain ⟨t, rfl⟩ := hIs (fun _ => True) s.heap
    exact ⟨j, t, hj, List.mem_of_getElem? hj, rfl⟩
  have W' : Walks PR w A I fp [I] (is.map AV.int).length (fun i v => ∃ j t, is[i]? = some j ∧ j ∈ is ∧ v = Value.int j t) St := walks_in W item
  refine comp_block_walkC W' (by rw [List.length_map, sizeLine_eq]; omega) (pV pz) (fun v y => ∃ i t u, v = Value.int i t ∧ y = Value.int (vf i) u) hcell hkind hx hst ?_ ⟨?_, ?_⟩ ?_
  · intro b hb
    rcases hfp b hb with rfl | ⟨_, o, ho⟩
    · obtain ⟨o, ho⟩ := hStI 0 _ hst; exact Heap.lt_size ho
    · exact Heap.lt_size (kk' b o ho)
  · rintro C i v s₃ m₃ E' - ⟨j, t, _, hj, rfl⟩ hn hm hk -
    have X := X1 C j t s₃.heap m₃ hn hm (up _ hk)
    rcases tests with ⟨rfl, ht⟩ | ⟨l, op, r, tp, nn, rfl, ht⟩
    · exact wpAny_tests_nil ⟨(ht j hj).symm, s₃.heap, s₃.toks, rfl, Sub.rfl⟩
    · obtain ⟨PP, hev, hPP⟩ := ht j hj
      exact wpAny_tests_one (testX X hh hd hev hPP fun h4 tk4 k4 => ⟨rfl, h4, tk4, rfl, k4⟩)
  · rintro C i v s₃ m₃ E' - ⟨j, t, _, hj, rfl⟩ hp hn hm hk -
    obtain ⟨nn, PP, hev, hPP⟩ := hval j hj hp
    refine ev_sound hh hd nn elt _ PP s₃ E' _ hev hPP (X1 C j t s₃.heap m₃ hn hm (up _ hk)) fun u h4 tk4 k4 i4 => ?_
    obtain ⟨t4, rfl⟩ := i4
    exact ⟨⟨j, t, t4, rfl, rfl⟩, h4, tk4, rfl, k4⟩
  · intro D C h3 tk3 m' ys vs hD hC hDC hnC hlD _ hlen' hP3 hF hk
    have hnone : ∀ a, h''.get? a = none → h'.get? a = none := fun a e => by
      cases q : h'.get? a with
      | none => rfl
      | some o => rw [kk' a o q] at e; cases e
    have hI := ints_of_places (vs := vs) (is := is) (by simpa using hlen') fun j v hv => by obtain ⟨i, t, a, _, b⟩ := hP3 j v hv; exact ⟨i, t, a, b⟩
    exact post D C h3 tk3 m' (up h3 hk) (hnone D hD) (hnone C hC) hDC hnC ⟨ys.toList, by simpa using hlD, paired_ints hF (ints_filter hI)⟩

theorem lcomp_core (F : Fm w ok env mu p s.heap m ρ) (fe : FEnv w lv env fs) (hh : A.handled = none) (hd : A.depth + lv < recursionLimit)
    (he : evP fs ρ n iter = some (V, P)) (hP : P) (hi : itemsOf V = some (is.map .int, P')) (hP' : P') (hs : ∀ v, foldedSetIterable iter env v = pure v)
    (hclos : closureFor scope env = pure cl) (hcell : ∀ y ∈ scope.names, y.2 ≠ .cell) (hkind : scope.kind = .function) (hnames : ∀ y ∈ scope.names, y.2 = .local → scope.names.lookup y.1 = some .local) (hx : scope.names.lookup x = some .local) (hdb : (x == ("__debug__" : Str)) = false)
    (c : Caps env scope cl ρ ρc) (fcE : ∀ C, FEnv w lv (compEnvC scope cl C env) fc)
    (tests : Tests fc ρc x ifs pz is) (hval : ∀ i ∈ is, pz i = true → EvI fc ((x, .int i) :: ρc) elt (.int (vf i))) (hlen : is.length ≤ 1000)
    (post : ∀ D C h3 tk m', Sub s.heap h3 → s.heap.get? D = none → s.heap.get? C = none → D ≠ C → h3.Ns C m' → (∃ ys, h3.IsList D (List.toArray ys) ∧ IntsAre ys ((is.filter pz).map vf)) →
      compPost (model PR w) A E use Qc (.ref D) C (.ok .next) { s with heap := h3, toks := tk }) :
    wpAny (model PR w) A (comprehension (.ListComp elt [⟨.Name x px, iter, ifs, 0⟩] scope cpos) scope env pos (newList []) false (eval iter env) use) Qc E s := by
  refine wpAny_comprehension_free rfl hs hclos hkind hnames (ev_sound hh hd n iter V P s E _ he hP (F.envOk fe) fun v h' tk kk i => ?_)
  refine iter_sound hh hi hP' i fun it h'' kk' S => ?_
  have hnone : ∀ a, h'.get? a = none → s.heap.get? a = none := fun a e => by
    cases q : s.heap.get? a with
    | none => rfl
    | some o => rw [kk a o q] at e; cases e
  exact lcomp_src (s := s) (fun C j t h₃ m₃ hn hm ks => (F.grow kk).comp ks hn hm hx hdb ⟨t, rfl⟩ hkind c (fcE C)) hh hd S kk' hcell hkind hx tests hval hlen
    fun D C h3 tk3 m' hsub hD hC hDC hn hl => post D C h3 tk3 m' (kk.trans hsub) (hnone D hD) (hnone C hC) hDC hn hl

theorem lcompE {Q : Value → Shared → Prop} (F : Fm w ok env mu p s.heap m ρ) (fe : FEnv w lv env fs) (hh : A.handled = none) (hd : A.depth + lv < recursionLimit)
    (he : evP fs ρ n iter = some (V, P)) (hP : P) (hi : itemsOf V = some (is.map .int, P')) (hP' : P') (hs : ∀ v, foldedSetIterable iter env v = pure v)
    (hclos : closureFor scope env = pure cl) (hcell : ∀ y ∈ scope.names, y.2 ≠ .cell) (hkind : scope.kind = .function) (hnames : ∀ y ∈ scope.names, y.2 = .local → scope.names.lookup y.1 = some .local) (hx : scope.names.lookup x = some .local) (hdb : (x == ("__debug__" : Str)) = false)
    (c : Caps env scope cl ρ ρc) (fcE : ∀ C, FEnv w lv (compEnvC scope cl C env) fc)
    (tests : Tests fc ρc x ifs pz is) (hval : ∀ i ∈ is, pz i = true → EvI fc ((x, .int i) :: ρc) elt (.int (vf i))) (hlen : is.length ≤ 1000)
    (k : Back w ok s (.ints ((is.filter pz).map vf)) Q) : wpAny (model PR w) A (eval (.ListComp elt [⟨.Name x px, iter, ifs, 0⟩] scope pos) env) Q E s := by
  rw [arm_eval_ListComp]
  refine lcomp_core F fe hh hd he hP hi hP' hs hclos hcell hkind hnames hx hdb c fcE tests hval hlen fun D C h' tk m' hsub hD hC hDC hn hl => ⟨m', hn, fun h3 hs3 => ?_⟩
  obtain ⟨ys, hl, hI⟩ := hl
  refine k _ h3 tk (fun b o e => (hs3.2 b (by rintro rfl; rw [hC] at e; cases e)).trans (hsub b o e)) ⟨D, ys, rfl, F.fresh D hD, isList_at hl fun o e => (hs3.2 D hDC).trans e, hI⟩
end

def trues : Nat → Prop
  | 0 => True
  | n + 1 => True ∧ trues n
def givenL : List Int := [1001, 1002, 1000, 999, 1002, 1003, 999, 1001, 1001, 998, 1000, 1005, 1001]
def priceAt (script : List Int) (k : Int) : Int := (ix givenL k + (pickNums script (some k) none (some 13)).sum).fmod 2001 - 1000
def pricesL (script : List Int) : List Int := (rngL 0 13).map (priceAt script)
def fPrices : Fn where
  val := .ref 72
  lvl := 1
  den := fun | [.ints l] => some (.ints (pricesL l)) | _ => none
  pre := fun | [.ints l] => l.length ≤ 1000000 | _ => False

theorem prices_ok (w : World) : FnOk w fPrices := by
  have hX := seen w
  revert hX; k_fill; intro _
  refine ⟨?_, with1_own (by k_is)⟩
  intro ok s A E Q Vs vs V G hh hd fresh I hden hpre k
  unfold fPrices at hden hpre hd
  dsimp only at hden hpre hd
  split at hden
  · rename_i l
    cases hden
    dsimp only at hpre
    obtain ⟨v1, rfl⟩ := I.one
    refine' enter (names := ["script"]) G (by omega) fresh I ?k6 ?k7 ?k9 ?kl ?kn ?knc ?kk ?kd ?c2 ?c3 ?c4 ?_
    case k6 => k_is
    case k7 => k_is
    case k9 => exact rfl
    case kl => rfl
    case kn => decide
    case knc => decide
    case kk => decide
    case kd => decide
    case c2 => rfl
    case c3 => rfl
    case c4 => rfl
    intro L h₁ tk m F
    have hd' : ∀ env, (A.deeper env).depth + 0 < recursionLimit := fun env => by show A.depth + 1 + 0 < _; omega
    refine wpAny_execs_cons ?_
    refine wpAny_Assign_Name ?_ ?hsw
    case hsw => rfl
    refine' ev_sound (lv := 0) (fs := []) (ρ := [(("script" : Str), AV.ints l)]) ?hh ?hd 3 _ (.ints givenL) (trues 13 ∧ (givenL.map AV.int).length ≤ 1000) _ _ _ ?he0 ?hP ?X ?k
    case hh => exact A_deep hh
    case hd => exact hd' _
    case X => exact F.envOk FEnv.nil
    case he0 => kernel_rfl
    case hP => exact ⟨by simp [trues], by decide⟩
    intro v h' tk2 kk i
    refine stoC (F.grow kk) (by rfl) (by decide) (by rfl) (by repeat (first | exact List.Mem.head _ | refine List.Mem.tail _ ?_)) i ?_
    intro h2 tk2 F
    refine wpAny_execs_cons (wpAny_Return_some (lcompE (n := 2) (lv := 0) (fs := [("range", fRange)]) (fc := [("sum", fSum)]) (is := rngL 0 13) (pz := fun _ => true) (vf := priceAt l) (ρc := [("given", .ints givenL), ("script", .ints l)]) F (.cons (by rfl) (by decide) (.boot (by k_is) (by boot_by_name) (by decide)) (range_ok w) (by decide) .nil) (A_deep hh) (hd' _)
      (he := by rfl) (hP := by exact ⟨⟨trivial, trivial⟩, trivial⟩) (hi := by rfl) (hP' := by exact ⟨by decide, by decide, by decide, by decide⟩) (fun _ => by rfl) (by rfl) (by decide) (by rfl) (by decide) (by rfl) (by decide) (.cons (by rfl) (by rfl) (by rfl) (by rfl) (.cons (by rfl) (by rfl) (by rfl) (by rfl) .nil))
      (fun _ => .cons (by rfl) (by decide) (.boot (by k_is) (by boot_by_name) (by decide)) (sum_ok w) (by decide) .nil) (.inl ⟨rfl, fun _ _ => rfl⟩) ?_ (by decide) ?_))
    · intro i hi _
      have hi' : 0 ≤ i ∧ i < 13 := by
        simp only [rngL, List.mem_map, List.mem_range] at hi
        obtain ⟨j, hj, rfl⟩ := hi
        omega
      refine ⟨6, _, rfl, ?_⟩
      exact ⟨⟨⟨⟨trivial, trivial, hi'.1, hi'.2, by decide⟩, ⟨⟨⟨trivial, trivial, trivial, trivial, by decide, hpre⟩, trivial⟩, trivial⟩, trivial⟩, trivial, (by decide : (2001:Int) ≠ 0)⟩, trivial, trivial⟩
    · intro v h' tk' kk i
      refine k v h' tk' (F.keep.trans kk) ?_
      have := i.weak (ok' := ok) (fun _ z => z.1)
      rw [List.filter_eq_self.mpr (fun _ _ => rfl)] at this
      exact this
  · cases hden
end Mine

/-! Cp27 -/
namespace Mine
open PySem PySem.W PyProof.Rows PySem.Calls PyProof.V

theorem cellsFrom_app : ∀ (names : List (Str × NameKind)) (n : Nat) (acc cl : List (Str × Addr)), cellsFrom n names (acc ++ cl) = cellsFrom n names acc ++ cl
  | [], _, _, _ => rfl
  | (x, kind) :: r, n, acc, cl => by
    unfold cellsFrom
    split
    · exact cellsFrom_app r (n + 1) ((x, n) :: acc) cl
    · exact cellsFrom_app r n acc cl
theorem lookup_app {α : Type} : ∀ {a b : List (Str × α)} {x : Str} {c : α}, (a ++ b).lookup x = some c → a.lookup x = some c ∨ b.lookup x = some c
  | [], _, _, _, e => .inr e
  | (k, v) :: a, b, x, c, e => by
    rw [List.cons_append, List.lookup_cons] at e
    rw [List.lookup_cons]
    cases hb : x == k with
    | true => rw [hb] at e; exact .inl e
    | false => rw [hb] at e; exact lookup_app e

abbrev muC (scope : Scope) (D C : Addr) : List Addr := C :: D :: (cellsFrom (C + 1) scope.names []).map (·.2)

theorem get_none {h : Heap} {a : Addr} (ha : h.objs.size ≤ a) : h.get? a = none := by
  cases e : h.get? a with
  | none => rfl
  | some o => exact absurd (Heap.lt_size e) (Nat.not_lt.mpr ha)
theorem sub_none {h h' : Heap} (k : Sub h h') {a : Addr} (e : h'.get? a = none) : h.get? a = none := by
  cases q : h.get? a with
  | none => rfl
  | some o => rw [k a o q] at e; cases e

section
variable {w : World} {ok : Addr → Prop} {env : Env} {mu : List Addr} {p h' h'' : Heap} {m : Str → Option Value} {ρ ρc : Rho} {A : Around} {s : Shared} {E : Value → Shared → Prop} {scope : Scope} {cl : List (Str × Addr)} {I : Addr} {tk : Nat}

theorem comp_frame {K : Value → Env → Shared → Prop} (F : Fm w ok env mu p h' m ρ) (kk : Sub h' h'') (hI : h'.get? I = none) (hI' : ∃ o, h''.get? I = some o) (hkind : scope.kind = .function)
    (c : ∀ n, Caps env scope (cellsFrom n scope.names cl) ρ ρc) (hcl : ∀ y a, cl.lookup y = some a → env.cells.lookup y = some a)
    (k : ∀ D C h₁ m₁, D ≠ C → h'.get? D = none → h'.get? C = none → Sub h'' h₁ → I ∉ muC scope D C → h''.get? D = none → h''.get? C = none → (∀ a ∈ muC scope D C, h''.get? a = none) → (∀ y a, (cellsFrom (C + 1) scope.names cl).lookup y = some a → a ≠ I ∧ a ≠ D) →
      Fm w (fun a => (ok a ∧ a ∉ muC scope D C) ∧ a ≠ I) (compEnvC scope (cellsFrom (C + 1) scope.names cl) C env) (muC scope D C) h' h₁ m₁ ρc → h₁.IsList D #[] →
      K (.ref D) (newEnv scope C env.globals (cellsFrom (C + 1) scope.names cl) env.qual none .none (some env) builtinsNs) { s with heap := h₁, toks := tk }) :
    wpAny (model PR w) A (newList []) (fun acc s₃ => wpAny (model PR w) A (newFunctionEnv scope env.globals cl [] env.qual none .none (some env)) (fun cenv s₄ => K acc cenv s₄) E s₃) E { s with heap := h'', toks := tk } := by
  refine wpAny_newObj_type ?_
  simp only [newFunctionEnv, Option.isSome_some, if_true]
  refine wpAny_bind (wpAny_alloc ?_)
  refine wpAny_bind (wpAny_layCells _ (fun name kind cells => by cases hkc : kind == NameKind.cell <;> simp [hkc]) _ _ _ _ ?_)
  rw [List.forIn_nil]
  refine wpAny_bind (wpAny_pure (wpAny_pure ?_))
  dsimp only
  generalize hH2 : h''.push { cls := .type "list", dict := none, data := .seq ([] : List Value).toArray } = H2
  have hs2 : H2.objs.size = h''.objs.size + 1 := by rw [← hH2, Heap.size_push]
  generalize hH3 : H2.push { cls := .type "dict", data := .dict #[] } = H3
  have hs3 : H3.objs.size = H2.objs.size + 1 := by rw [← hH3, Heap.size_push]
  have ok1 := cellsFrom_ok scope.names H3 (H2.objs.size + 1) [] ⟨fun _ _ hm => (nomatch hm), List.Pairwise.nil⟩ (by rw [hs3]; exact Nat.le_refl _)
  rw [hs3] at ok1
  have ecs : cellsFrom H3.objs.size scope.names cl = cellsFrom (H2.objs.size + 1) scope.names cl := by rw [hs3]
  have happ : cellsFrom (H2.objs.size + 1) scope.names cl = cellsFrom (H2.objs.size + 1) scope.names [] ++ cl := cellsFrom_app scope.names _ [] cl
  have k2 : Sub h'' H2 := hH2 ▸ Sub.push _ _
  have k3 : Sub H2 H3 := hH3 ▸ Sub.push _ _
  have k4 : Sub H3 (pushCells H3 scope.names) := fun b o e => pushCells_keeps _ _ b o e
  have kall : Sub h'' (pushCells H3 scope.names) := k2.trans (k3.trans k4)
  have hge : ∀ a ∈ muC scope h''.objs.size H2.objs.size, h''.objs.size ≤ a := fun a ha => by
    rcases List.mem_cons.mp ha with rfl | ha
    · rw [hs2]; exact Nat.le_succ _
    rcases List.mem_cons.mp ha with rfl | ha
    · exact Nat.le_refl _
    · obtain ⟨q, hq, rfl⟩ := List.mem_map.mp ha
      have := (ok1.empty q.1 q.2 hq).2
      omega
  have hno'' : ∀ a ∈ muC scope h''.objs.size H2.objs.size, h''.get? a = none := fun a ha => get_none (hge a ha)
  have hno : ∀ a ∈ muC scope h''.objs.size H2.objs.size, h'.get? a = none := fun a ha => sub_none kk (hno'' a ha)
  have hex : ∀ a ∈ muC scope h''.objs.size H2.objs.size, ∃ o, (pushCells H3 scope.names).get? a = some o := fun a ha => by
    rcases List.mem_cons.mp ha with rfl | ha
    · exact ⟨_, k4 _ _ (hH3 ▸ Heap.get?_push_size _ rfl)⟩
    rcases List.mem_cons.mp ha with rfl | ha
    · exact ⟨_, k4 _ _ (k3 _ _ (hH2 ▸ Heap.get?_push_size _ rfl))⟩
    · obtain ⟨q, hq, rfl⟩ := List.mem_map.mp ha
      obtain ⟨o, ho, _⟩ := (ok1.empty q.1 q.2 hq).1
      exact ⟨o, ho⟩
  have hImu : I ∉ muC scope h''.objs.size H2.objs.size := fun hm => by obtain ⟨o, e⟩ := hI'; rw [hno'' I hm] at e; cases e
  have hDC : h''.objs.size ≠ H2.objs.size := by rw [hs2]; exact Nat.ne_of_lt (Nat.lt_succ_self _)
  have hown : ∀ y a, (cellsFrom (H2.objs.size + 1) scope.names []).lookup y = some a → a ∈ muC scope h''.objs.size H2.objs.size := fun y a e => List.mem_cons_of_mem _ (List.mem_cons_of_mem _ (List.mem_map.mpr ⟨_, mem_of_lookup e, rfl⟩))
  have hold : ∀ y a, cl.lookup y = some a → ∃ o, h'.get? a = some o := fun y a e => by obtain ⟨v, o, ho, _⟩ := F.cells y a (hcl y a e); exact ⟨o, ho⟩
  rw [ecs]
  refine k h''.objs.size H2.objs.size (pushCells H3 scope.names) (fun _ => none) hDC (hno _ (by simp)) (hno _ (by simp)) kall hImu (hno'' _ (by simp)) (hno'' _ (by simp)) hno'' ?_ ?_ ?_
  · intro y a e
    rw [happ] at e
    rcases lookup_app e with e | e
    · have h1 := hown y a e
      refine ⟨fun q => hImu (q ▸ h1), fun q => ?_⟩
      have := (ok1.empty y a (mem_of_lookup e)).2
      rw [q, hs2] at this
      exact absurd this (by omega)
    · obtain ⟨o, ho⟩ := hold y a e
      exact ⟨fun q => (by rw [q, hI] at ho; cases ho), fun q => by rw [q, hno _ (by simp)] at ho; cases ho⟩
  · refine { keep := kk.trans kall, pmu := hno, gd := F.gd.keeps F.keep, nok := fun a ha z => z.1.2 ha, Lmu := List.mem_cons_self, mex := hex, fresh := fun a e => ⟨⟨F.fresh a (sub_none (kk.trans kall) e), fun hm => ?_⟩, ?_⟩, ns := (Heap.Ns.new H2 (.type "dict")).keeps (fun b o e => k4 b o (hH3 ▸ e)), kind := hkind, glob := F.glob, bi := F.bi, cells := ?_, cinj := ?_, vars := ?_ }
    · obtain ⟨o, ho⟩ := hex a hm; rw [ho] at e; cases e
    · rintro rfl; obtain ⟨o, ho⟩ := hI'; rw [kall _ _ ho] at e; cases e
    · intro y a e
      have e : (cellsFrom (H2.objs.size + 1) scope.names cl).lookup y = some a := e
      rw [happ] at e
      rcases lookup_app e with e | e
      · exact ⟨none, (ok1.empty y a (mem_of_lookup e)).1⟩
      · obtain ⟨v, i⟩ := F.cells y a (hcl y a e); exact ⟨v, i.keeps (kk.trans kall)⟩
    · intro y z a e e'
      have e : (cellsFrom (H2.objs.size + 1) scope.names cl).lookup y = some a := e
      have e' : (cellsFrom (H2.objs.size + 1) scope.names cl).lookup z = some a := e'
      rw [happ] at e e'
      rcases lookup_app e with e | e <;> rcases lookup_app e' with e' | e'
      · exact name_of_addr ok1.apart (mem_of_lookup e) (mem_of_lookup e')
      · obtain ⟨o, ho⟩ := hold z a e'; rw [hno a (hown y a e)] at ho; cases ho
      · obtain ⟨o, ho⟩ := hold y a e; rw [hno a (hown z a e')] at ho; cases ho
      · exact F.cinj y z a (hcl y a e) (hcl z a e')
    · intro y V e
      obtain ⟨h1, h2, h3, h4⟩ := (c (H2.objs.size + 1)).get y V e
      obtain ⟨hd, v, i, q⟩ := F.vars y V h1
      refine ⟨hd, v, i.mono fun a o oa e' => ⟨⟨⟨oa, fun hm => (by rw [hno a hm] at e'; cases e')⟩, (by rintro rfl; rw [hI] at e'; cases e')⟩, kk.trans kall a o e'⟩, ?_⟩
      rcases q with ⟨hl, _⟩ | ⟨_, ca, hca, hi⟩
      · rw [h4] at hl; cases hl
      · exact .inr ⟨h2, ca, h3.trans hca, hi.keeps (kk.trans kall)⟩
  · exact ⟨_, k4 _ _ (k3 _ _ (hH2 ▸ Heap.get?_push_size _ rfl)), rfl, _, rfl⟩
end

/-- the list that a comprehension fills -/
def Acc (w : World) (ok : Addr → Prop) (h : Heap) (D : Addr) (Ws : List AV) : Prop := ∃ ys : List Value, h.IsList D ys.toArray ∧ IsAll w ok h Ws ys
theorem Acc.mono {w : World} {ok ok' : Addr → Prop} {h h' : Heap} {D : Addr} {Ws : List AV} (a : Acc w ok h D Ws) (hD : ∀ o, h.get? D = some o → h'.get? D = some o) (k : ∀ a o, ok a → h.get? a = some o → ok' a ∧ h'.get? a = some o) : Acc w ok' h' D Ws :=
  let ⟨ys, hl, hi⟩ := a; ⟨ys, isList_at hl hD, hi.mono k⟩
theorem isAll_snoc {w : World} {ok : Addr → Prop} {h : Heap} {V : AV} {v : Value} : ∀ {Ws : List AV} {ys : List Value}, IsAll w ok h Ws ys → Is w ok h V v → IsAll w ok h (Ws ++ [V]) (ys ++ [v])
  | _, _, .nil, i => .cons i .nil
  | _, _, .cons a r, i => .cons a (isAll_snoc r i)
theorem isAll_len {w : World} {ok : Addr → Prop} {h : Heap} : ∀ {Ws : List AV} {ys : List Value}, IsAll w ok h Ws ys → ys.length = Ws.length
  | _, _, .nil => rfl
  | _, _, .cons _ r => by simp [isAll_len r]
theorem Acc.push {w : World} {ok : Addr → Prop} {A : Around} {E : Value → Shared → Prop} {s : Shared} {D : Addr} {Ws : List AV} {V : AV} {v : Value} {Q : Value → Shared → Prop} (a : Acc w ok s.heap D Ws) (hD : ¬ ok D) (i : Is w ok s.heap V v) (hsz : Ws.length ≤ 1000)
    (k : ∀ h', Acc w ok h' D (Ws ++ [V]) → Heap.SameBut D s.heap h' → (∃ o, h'.get? D = some o) → Q .none { s with heap := h' }) : wpAny (model PR w) A (call (.builtin "list.append") [.ref D, v]) Q E s := by
  obtain ⟨ys, hl, hi⟩ := a
  refine wpAny_list_append hl (fun h' hl' hs' => k h' ⟨ys ++ [v], by simpa using hl', ?_⟩ hs' (let ⟨o, ho, _⟩ := hl'; ⟨o, ho⟩)) (by rw [sizeLine_eq]; simp [isAll_len hi]; omega)
  have okk : ∀ b o, ok b → s.heap.get? b = some o → ok b ∧ h'.get? b = some o := fun b o ob e => ⟨ob, (hs'.2 b (by rintro rfl; exact hD ob)).trans e⟩
  exact isAll_snoc (hi.mono okk) (i.mono okk)

section
variable {w : World} {ok : Addr → Prop} {env : Env} {mu : List Addr} {p : Heap} {m : Str → Option Value} {A : Around} {s : Shared} {R : Result → Shared → Prop}

theorem comp_src {elt : Expr} {gens : List Comprehension} {scope : Scope} {pos pos0 px : Pos} {d : Nat} {D I : Addr} {x : Str} {body : Sem Fin} {items : List AV} {σ : Nat → Rho} {acc : Nat → List AV} {fp : List Addr} {Pw : Nat → Value → Prop} {St : Nat → Heap → Prop}
    (hturn : compTurn (.ListComp elt gens scope pos) d (.ref I) (.ref D) env = (standAt pos0 >>= fun _ => pyNext (.ref I) >>= fun r => match r with
      | none => pure (.done .next)
      | some v => letOwnedTupleGo (.Name x px) (.ref I) v >>= fun _ => assign (.Name x px) env v >>= fun _ => body))
    (hx : env.kindOf x = some .local ∨ (env.kindOf x = some .cell ∧ ∃ c, env.cells.lookup x = some c ∧ c ∈ mu)) (hdb : (x == ("__debug__" : Str)) = false)
    (hD : D ∈ mu) (hDL : D ≠ env.locals) (hDc : ∀ y c, env.cells.lookup y = some c → c ≠ I ∧ c ≠ D)
    (W : Walks PR w A I fp [I] items.length Pw St) (hStI : ∀ i h, St i h → ∃ o, h.get? I = some o) (hst : St 0 s.heap) (hImu : I ∉ mu) (hpI : p.get? I = none) (hokI : ok I) (hfp : ∀ b ∈ fp, b ∉ mu)
    (hP : ∀ i v, i < items.length → Pw i v → ∃ V, items[i]? = some V ∧ ∀ ok h, Is w ok h V v)
    (F : Fm w (fun a => ok a ∧ a ≠ I) env mu p s.heap m (σ 0)) (a0 : Acc w (fun a => ok a ∧ a ≠ I) s.heap D (acc 0))
    (step : ∀ (i : Nat) (V : AV), items[i]? = some V → ∀ (p' : Heap) (s' : Shared) (m' : Str → Option Value) (E' : Value → Shared → Prop), Sub p p' → (∃ h tk, s' = { s with heap := h, toks := tk }) → Acc w (fun a => ok a ∧ a ≠ I) s'.heap D (acc i) → Fm w (fun a => ok a ∧ a ≠ I) env mu p' s'.heap m' ((x, V) :: σ i) →
      wpAny (model PR w) A body (fun z s'' => z = .again (.compLoop (.ListComp elt gens scope pos) d (.ref I) (.ref D) env) ∧ ∃ h' tk' m'', s'' = { s' with heap := h', toks := tk' } ∧ Acc w (fun a => ok a ∧ a ≠ I) h' D (acc (i + 1)) ∧ Fm w (fun a => ok a ∧ a ≠ I) env mu p' h' m'' (σ (i + 1))) E' s')
    (done : ∀ h' tk m', Acc w ok h' D (acc items.length) → Fm w ok env mu p h' m' (σ items.length) → R (.ok .next) { s with heap := h', toks := tk }) :
    codeAny (model PR w) A (.compLoop (.ListComp elt gens scope pos) d (.ref I) (.ref D) env) R s := by
  have hLI : env.locals ≠ I := fun q => hImu (q ▸ F.Lmu)
  have hCI : ∀ y c, env.cells.lookup y = some c → c ≠ I := fun y c e => (hDc y c e).1
  have hDI : D ≠ I := fun q => hImu (q ▸ hD)
  refine codeAny_loop rfl (fun k s' => ∃ h tk m i, s' = { s with heap := h, toks := tk } ∧ St i h ∧ Fm w (fun a => ok a ∧ a ≠ I) env mu p h m (σ i) ∧ Acc w (fun a => ok a ∧ a ≠ I) h D (acc i) ∧ i ≤ items.length ∧ k = items.length + 1 - i) ?_ (items.length + 1)
    ⟨s.heap, s.toks, m, 0, rfl, hst, F, a0, Nat.zero_le _, rfl⟩
  rintro k s' ⟨h, tk, m', i, rfl, hst', F', hJ, hi, rfl⟩
  show wpAny _ A ((compTurn (.ListComp elt gens scope pos) d (.ref I) (.ref D) env).onRaise (fun x => do noteFrame x env; theTreesLotGoes x)) _ _ _
  refine wpAny_noted ?_
  rw [hturn]
  refine wpAny_bind (wpAny_standAt (wpAny_bind ?_))
  by_cases hlt : i < items.length
  · refine W.item i _ _ _ hlt hst' fun v h₁ tk₁ hPv hst₁ hk₁ => ?_
    have hk₁' : ∀ b o, b ≠ I → h.get? b = some o → h₁.get? b = some o := fun b o hb e => hk₁ b o (by simpa using hb) e
    obtain ⟨V, hV, hIs⟩ := hP i v hlt hPv
    have F₁ : Fm w (fun a => ok a ∧ a ≠ I) env mu p h₁ m' (σ i) := F'.chg hpI (fun z => z.2 rfl) hLI hCI hk₁' (hStI _ _ hst₁)
    have hJ₁ : Acc w (fun a => ok a ∧ a ≠ I) h₁ D (acc i) := hJ.mono (fun o e => hk₁' D o hDI e) fun a o oa e => ⟨oa, hk₁' a o (by rintro rfl; exact oa.2 rfl) e⟩
    refine wpAny_bind (wpAny_of_eq (show letOwnedTupleGo (.Name x px) (.ref I) v = pure () from rfl) ?_)
    refine wpAny_bind ?_
    have hgo : ∀ h₂ tk₂ m₂ a, a ∈ mu → a ≠ D → Heap.SameBut a h₁ h₂ → Fm w (fun a => ok a ∧ a ≠ I) env mu p h₂ m₂ ((x, V) :: σ i) → wpAny (model PR w) A body
        (fun z s'' => match z with | .done f => R (.ok f) s'' | .again c => c = (.compLoop (.ListComp elt gens scope pos) d (.ref I) (.ref D) env) ∧ ∃ k', k' < items.length + 1 - i ∧ ∃ h tk m i, s'' = { s with heap := h, toks := tk } ∧ St i h ∧ Fm w (fun a => ok a ∧ a ≠ I) env mu p h m (σ i) ∧ Acc w (fun a => ok a ∧ a ≠ I) h D (acc i) ∧ i ≤ items.length ∧ k' = items.length + 1 - i)
        (notedBy (model PR w) A env fun e s' => R (.error e) s') { s with heap := h₂, toks := tk₂ } := by
      intro h₂ tk₂ m₂ a ha haD hs₂ F₂
      have hst₂ : St (i + 1) h₂ := W.frame _ _ _ hst₁ fun b hb o e => (hs₂.2 b fun q => hfp b hb (q ▸ ha)).trans e
      have hJ₂ : Acc w (fun a => ok a ∧ a ≠ I) h₂ D (acc i) := hJ₁.mono (fun o e => (hs₂.2 D (Ne.symm haD)).trans e) fun b o ob e => ⟨ob, (hs₂.2 b (by rintro rfl; exact F.nok _ ha ob)).trans e⟩
      have hpp : Sub p (hideAll h₂ mu) := fun b o e => hideAll_get _ (F₂.keep b o e) fun hm => by rw [F.pmu b hm] at e; cases e
      refine wpAny_mono (step i V hV (hideAll h₂ mu) { s with heap := h₂, toks := _ } _ _ hpp ⟨_, _, rfl⟩ hJ₂ F₂.rebase) (fun _ s₃ h₃ => ?_) fun _ _ e => e
      obtain ⟨rfl, h₃, tk₃, m₃, rfl, hJ₃, F₃⟩ := h₃
      refine ⟨rfl, items.length + 1 - (i + 1), by omega, h₃, tk₃, m₃, i + 1, rfl, ?_, { F₃ with keep := hpp.trans F₃.keep, pmu := F.pmu, gd := F.gd }, hJ₃, hlt, rfl⟩
      exact W.frame _ _ _ hst₂ fun b hb o e => F₃.keep b o (hideAll_get _ e (hfp b hb))
    rcases hx with hx | ⟨hx, c, hc, hcm⟩
    · exact wpAny_assign_Name (wpAny_storeName_local hx F₁.ns (fun h₂ hn₂ hs₂ => hgo h₂ _ _ _ F.Lmu (Ne.symm hDL) hs₂ (F₁.setL hx hdb (hIs _ _) hn₂ hs₂)) (notClass F.kind))
    · obtain ⟨v₀, i₀⟩ := F₁.cells x c hc
      exact wpAny_assign_Name (wpAny_storeName_cell F.kind hx hc i₀ fun h₂ hi₂ hs₂ => hgo h₂ _ _ _ hcm (hDc x c hc).2 hs₂ (F₁.setC hx hdb hc hcm (hIs _ _) hi₂ hs₂))
  · have hin : i = items.length := by omega
    subst hin
    refine W.done _ _ _ hst' fun h₁ tk₁ hk₁ => wpAny_pure ?_
    have hk₁' : ∀ b o, b ≠ I → h.get? b = some o → h₁.get? b = some o := fun b o hb e => hk₁ b o (by simpa using hb) e
    refine done h₁ tk₁ m' (hJ.mono (fun o e => hk₁' D o hDI e) fun a o oa e => ⟨oa.1, hk₁' a o oa.2 e⟩) ?_
    exact {
      keep := fun b o e => hk₁' b o (by rintro rfl; rw [hpI] at e; cases e) (F'.keep b o e)
      pmu := F.pmu
      gd := F.gd
      nok := fun a ha z => F.nok a ha ⟨z, fun q => hImu (q ▸ ha)⟩
      Lmu := F.Lmu
      mex := fun a ha => let ⟨o, e⟩ := F'.mex a ha; ⟨o, hk₁' a o (fun q => hImu (q ▸ ha)) e⟩
      fresh := fun a e => by
        by_cases q : a = I
        · exact q ▸ hokI
        · refine (F'.fresh a ?_).1
          cases z : h.get? a with
          | none => rfl
          | some o => rw [hk₁' a o q z] at e; cases e
      ns := F'.ns.at' fun o e => hk₁' _ o hLI e
      kind := F.kind
      glob := F.glob
      bi := F.bi
      cells := fun y c e => let ⟨v, o, ho, r⟩ := F'.cells y c e; ⟨v, o, hk₁' c o (hCI y c e) ho, r⟩
      cinj := F.cinj
      vars := fun y V e => by
        obtain ⟨hdb', v, i', q⟩ := F'.vars y V e
        exact ⟨hdb', v, i'.mono fun a o oa e' => ⟨oa.1, hk₁' a o oa.2 e'⟩, q.imp id fun ⟨a, c, b, o, ho, r⟩ => ⟨a, c, b, o, hk₁' c o (hCI y c b) ho, r⟩⟩ }
end
end Mine

/-! Two27 -/
namespace Mine
open PySem PySem.W PyProof.Rows PySem.Calls PyProof.V

section
variable {w : World} {ok : Addr → Prop} {env : Env} {mu : List Addr} {p : Heap} {m : Str → Option Value} {ρ ρc : Rho} {lv n : Nat} {fs : Fns} {A : Around} {s : Shared} {E : Value → Shared → Prop} {V : AV} {P P' : Prop}
  {elt iter : Expr} {x : Str} {px pos : Pos} {scope : Scope} {cl : List (Str × Addr)} {items vals : List AV}

theorem lcompX {Q : Value → Shared → Prop} (F : Fm w ok env mu p s.heap m ρ) (fe : FEnv w lv env fs) (hh : A.handled = none) (hd : A.depth + lv < recursionLimit)
    (he : evP fs ρ n iter = some (V, P)) (hP : P) (hi : itemsOf V = some (items, P')) (hP' : P') (hs : ∀ v, foldedSetIterable iter env v = pure v)
    (hclos : closureFor scope env = pure cl) (hcl : ∀ y a, cl.lookup y = some a → env.cells.lookup y = some a) (hkind : scope.kind = .function) (hnames : ∀ y ∈ scope.names, y.2 = .local → scope.names.lookup y.1 = some .local)
    (hx : (relabel scope env).names.lookup x = some .local ∨ ((relabel scope env).names.lookup x = some .cell ∧ ∀ C, ∃ c, (cellsFrom (C + 1) scope.names cl).lookup x = some c ∧ ∀ D, c ∈ muC scope D C)) (hdb : (x == ("__debug__" : Str)) = false) (hxc : ρc.lookup x = none)
    (c : ∀ n, Caps env scope (cellsFrom n scope.names cl) ρ ρc) (hlen : items.length ≤ 1000) (hvl : vals.length = items.length)
    (helt : ∀ (i : Nat) (V U : AV), items[i]? = some V → vals[i]? = some U → ∀ (ok' : Addr → Prop) (C D : Addr) (p' : Heap) (s' : Shared) (m' : Str → Option Value) (E' : Value → Shared → Prop), Fm w ok' (compEnvC scope (cellsFrom (C + 1) scope.names cl) C env) (muC scope D C) p' s'.heap m' ((x, V) :: ρc) →
      wpAny (model PR w) A (eval elt (compEnvC scope (cellsFrom (C + 1) scope.names cl) C env)) (fun v s'' => ∃ h'' tk'', s'' = { s' with heap := h'', toks := tk'' } ∧ Sub s'.heap h'' ∧ Is w ok' h'' U v) E' s')
    (k : ∀ D ys h' tk, Sub s.heap h' → ok D → h'.IsList D (List.toArray ys) → IsAll w ok h' vals ys → Q (.ref D) { s with heap := h', toks := tk }) :
    wpAny (model PR w) A (eval (.ListComp elt [⟨.Name x px, iter, [], 0⟩] scope pos) env) Q E s := by
  rw [arm_eval_ListComp]
  refine wpAny_comprehension_free (use := none) rfl hs hclos hkind hnames (ev_sound hh hd n iter V P s E _ he hP (F.envOk fe) fun v h' tk kk i => ?_)
  refine iter_sound hh hi hP' i fun it h'' kk' S => ?_
  obtain ⟨I, fp, Pw, St, rfl, W, hStI, hst, hI, _, hfp, hPw⟩ := S
  refine comp_frame (s := s) (I := I) (F.grow kk) kk' hI (hStI 0 _ hst) hkind c hcl ?_
  intro D C h₁ m₁ hDC hD hC k1 hImu hD'' hC'' hmu'' hcc F1 hl
  have hst₁ : St 0 h₁ := W.frame _ _ _ hst fun b _ o e => k1 b o e
  have hfp' : ∀ b ∈ fp, b ∉ muC scope D C := fun b hb hm => by
    rcases hfp b hb with rfl | ⟨_, o, ho⟩
    · exact hImu hm
    · have e := kk' b o ho; rw [hmu'' b hm] at e; cases e
  have loop : codeAny (model PR w) A (.compLoop (.ListComp elt [⟨.Name x px, iter, [], 0⟩] scope pos) 0 (.ref I) (.ref D) (compEnvC scope (cellsFrom (C + 1) scope.names cl) C env)) (compPost (model PR w) A E none Q (.ref D) C) { s with heap := h₁, toks := tk } := by
    refine comp_src (s := { s with heap := h₁, toks := tk }) (ok := fun a => ok a ∧ a ∉ muC scope D C) (σ := fun _ => ρc) (acc := fun i => vals.take i) 
      (compTurn_list1 ..) ?_ hdb (by simp) hDC hcc W hStI hst₁ hImu hI ⟨(F.grow kk).fresh I hI, hImu⟩ hfp' hPw F1 ⟨[], hl, .nil⟩ ?_ ?_
    · rcases hx with hx | ⟨hx, hc⟩
      · exact .inl hx
      · obtain ⟨c, h1, h2⟩ := hc C
        exact .inr ⟨hx, c, h1, h2 D⟩
    · rintro i V hV p' s' m' E' - ⟨h3, tk3, rfl⟩ a3 F3
      have hlt : i < vals.length := by rw [hvl]; exact (List.getElem?_eq_some_iff.mp hV).1
      refine wpAny_bind (wpAny_bind (wpAny_mono (helt i V vals[i] hV (by simp [hlt]) _ C D p' _ m' E' F3) (fun v s4 h4 => ?_) fun _ _ e => e))
      obtain ⟨h4, tk4, rfl, k4, i4⟩ := h4
      have a4 := a3.mono (fun o e => k4 D o e) fun a o oa e => ⟨oa, k4 a o e⟩
      have F4 := (F3.grow k4).less (ρ' := ρc) (fun y U e => by
        rw [List.lookup_cons]
        cases hb : y == x with
        | true => rw [beq_iff_eq.mp hb, hxc] at e; cases e
        | false => exact e)
      refine wpAny_bind (a4.push (fun z => z.1.2 (by simp)) i4 (by rw [List.length_take]; omega) fun h5 a5 hs5 he5 => wpAny_pure (wpAny_pure ⟨rfl, h5, tk4, m', rfl, ?_, ?_⟩))
      · rw [List.take_add_one]; simpa [hlt] using a5
      · exact F4.chg (F3.pmu D (by simp)) (fun z => z.1.2 (by simp)) (Ne.symm hDC) (fun y c e => (hcc y c e).2) (fun b o hb e => (hs5.2 b hb).trans e) he5
    · intro h3 tk3 m3 a3 F3
      refine ⟨m3, F3.ns, fun h4 hs4 => ?_⟩
      obtain ⟨ys, hl3, hi3⟩ := a3
      rw [← hvl, List.take_length] at hi3
      have hsub : Sub s.heap h4 := fun b o e => (hs4.2 b (by rintro rfl; rw [sub_none kk hC] at e; cases e)).trans (F3.keep b o (kk b o e))
      exact k D ys h4 tk3 hsub (F.fresh D (sub_none kk hD)) (isList_at hl3 fun o e => (hs4.2 D hDC).trans e) (hi3.mono fun a o oa e => ⟨oa.1, (hs4.2 a (by rintro rfl; exact oa.2 (by simp))).trans e⟩)
  exact codeAny_compStart_list loop (W.self 0 _ _ _ hst₁ loop)
end

inductive ClIn (cells : List (Str × Addr)) : List (Str × Addr) → Prop
  | nil : ClIn cells []
  | cons {x : Str} {a : Addr} {r : List (Str × Addr)} : cells.lookup x = some a → ClIn cells r → ClIn cells ((x, a) :: r)
theorem ClIn.get {cells cl : List (Str × Addr)} (h : ClIn cells cl) : ∀ y a, cl.lookup y = some a → cells.lookup y = some a := by
  induction h with
  | nil => intro y a e; cases e
  | cons h1 _ ih =>
    intro y a e
    rw [List.lookup_cons] at e
    split at e
    · rename_i hb
      cases e; rw [beq_iff_eq.mp hb]; exact h1
    · exact ih y a e
theorem lls_of_ints {w : World} {ok : Addr → Prop} {h : Heap} : ∀ {ls : List (List Int)} {ys : List Value}, IsAll w ok h (ls.map .ints) ys → LlsAre ok h ys ls
  | [], _, .nil => .nil
  | _ :: _, _, .cons i r => by obtain ⟨a, vs, rfl, oa, hl, hi⟩ := i; exact .cons oa hl hi (lls_of_ints r)

/-- the ways to end in e -/
def midsL (d : Int) : List Int := rngL (if d - 1 > 0 then d - 1 else 0) (d + 2)
def near (e m : Int) : Bool := decide ((if m - e < 0 then -(m - e) else m - e) < 2)
def wayV (d : Int) (st rt : List Int) (e m : Int) : Int := priceV d m st rt * priceV m e st rt
def waysAt (d : Int) (st rt : List Int) (e : Int) : List Int := ((midsL d).filter (near e)).map (wayV d st rt e)
def twoT (d : Int) (st rt : List Int) : List (Int × Int) := (rngL 0 (d + 3)).map fun e => (e, (waysAt d st rt e).sum)
def fTwo : Fn where
  val := .ref 106
  lvl := 2
  den := fun | [.int d, .ints st, .ints rt] => some (.tab (twoT d st rt)) | _ => none
  pre := fun | [.int d, .ints st, .ints rt] => (0 ≤ d ∧ d ≤ 100) ∧ d + 1 < st.length ∧ d < rt.length ∧ Small st ∧ Small rt | _ => False

theorem mem_rng {a b i : Int} : i ∈ rngL a b ↔ a ≤ i ∧ i < b := by
  simp only [rngL, List.mem_map, List.mem_range]
  constructor
  · rintro ⟨j, hj, rfl⟩; omega
  · intro h; exact ⟨(i - a).toNat, by omega, by omega⟩

theorem rng_nodup (a b : Int) : (rngL a b).Nodup := by
  unfold rngL
  exact List.Pairwise.map _ (fun i j (h : i ≠ j) => by omega) List.nodup_range
theorem rng_getD {n i : Int} {f : Int → List Int} (h0 : 0 ≤ i) (h1 : i < n) : ((rngL 0 n).map f).getD i.toNat [] = f i := by
  have h2 : i.toNat < n.toNat := by omega
  have h3 : ((i.toNat : Nat) : Int) = i := by omega
  simp [rngL, List.getD, h2, h3]


theorem price_small {d e : Int} {st rt : List Int} (h1 : Small st) (h2 : Small rt) : (priceV d e st rt).natAbs ≤ 1000 := by
  unfold priceV
  split
  · decide
  split
  · exact h1.ix d
  · exact h2.ix e
theorem two_ok (w : World) : FnOk w fTwo := by
  have hX := seen w
  revert hX; k_fill; intro _
  refine ⟨?_, with1_own (by k_is)⟩
  intro ok s A E Q Vs vs V G hh hd fresh I hden hpre k
  unfold fTwo at hden hpre hd
  dsimp only at hden hpre hd
  split at hden
  · rename_i d st rt
    cases hden
    dsimp only at hpre
    have hl1 := hpre.2.2.2.1.1
    have hl2 := hpre.2.2.2.2.1
    obtain ⟨v1, v2, v3, rfl⟩ := I.three
    refine' enter (names := ["start", "stays", "returns"]) G (by omega) fresh I ?k6 ?k7 ?k9 ?kl ?kn ?knc ?kk ?kd ?c2 ?c3 ?c4 ?_
    case k6 => k_is
    case k7 => k_is
    case k9 => exact rfl
    case kl => rfl
    case kn => decide
    case knc => decide
    case kk => decide
    case kd => decide
    case c2 => rfl
    case c3 => rfl
    case c4 => rfl
    intro L h₁ tk m F
    have hd' : ∀ env, (A.deeper env).depth + 0 < recursionLimit := fun env => by show A.depth + 1 + 0 < _; omega
    have hd1 : ∀ env, (A.deeper env).depth + 1 < recursionLimit := fun env => by show A.depth + 1 + 1 < _; omega
    refine asgC (n := 5) (lv := 0) (fs := [("range", fRange), ("max", fMax)]) F (.cons (by rfl) (by decide) (.boot (by k_is) (by boot_by_name) (by decide)) (range_ok w) (by decide) (.cons (by rfl) (by decide) (.boot (by k_is) (by boot_by_name) (by decide)) (max_ok w) (by decide) .nil)) (A_deep hh) (hd' _) (by rfl) (by decide) (by rfl) (by repeat (first | exact List.Mem.head _ | refine List.Mem.tail _ ?_)) (he := by rfl) (hP := ?_) (by rfl) ?_
    · simp [fRange, fMax]
    intro h2 tk2 F2
    have F2 : Fm w _ _ _ _ h2 m [("middles", .rng (if d - 1 > 0 then d - 1 else 0) (d + 2)), ("start", .int d), ("stays", .ints st), ("returns", .ints rt)] := F2
    refine wpAny_execs_cons (wpAny_Assign_Name (lcompX (n := 4) (lv := 0) (fs := [("range", fRange)]) (vals := (rngL 0 (d + 3)).map fun e => .ints (waysAt d st rt e)) (ρc := [("middles", .rng (if d - 1 > 0 then d - 1 else 0) (d + 2)), ("start", .int d), ("stays", .ints st), ("returns", .ints rt)]) F2
      (.cons (by rfl) (by decide) (.boot (by k_is) (by boot_by_name) (by decide)) (range_ok w) (by decide) .nil) (A_deep hh) (hd' _) (he := by rfl) (hP := ?hP) (hi := by rfl) (hP' := ?hP') (fun _ => by rfl) (by rfl) (hcl := ?hcl) (by rfl) (by decide) (hx := ?hx) (by decide) (by rfl) (c := ?c) (hlen := ?hlen) (hvl := ?hvl) (helt := ?helt) (k := ?k)) ?hsw)
    case hsw => rfl
    case hP => simp [fRange]
    case hP' => refine ⟨by omega, by omega, by omega, by omega⟩
    case hcl => exact ClIn.get (.cons (by rfl) (.cons (by rfl) (.cons (by rfl) (.cons (by rfl) .nil))))
    case hx => exact .inr ⟨by rfl, fun C => ⟨_, rfl, fun D => by repeat (first | exact List.Mem.head _ | refine List.Mem.tail _ ?_)⟩⟩
    case c => exact fun n => .cons (by rfl) (by rfl) (by rfl) (by rfl) (.cons (by rfl) (by rfl) (by rfl) (by rfl) (.cons (by rfl) (by rfl) (by rfl) (by rfl) (.cons (by rfl) (by rfl) (by rfl) (by rfl) .nil)))
    case hlen => simp [rngL]; omega
    case hvl => simp
    case helt =>
      intro i V U hV hU ok' C D p' s' m' E' F'
      rw [List.getElem?_map] at hV hU
      obtain ⟨e, he, rfl⟩ := Option.map_eq_some_iff.mp hV
      rw [he] at hU
      cases hU
      have he' := mem_rng.mp (List.mem_of_getElem? he)
      refine lcompE (n := 4) (lv := 1) (fs := []) (fc := [("_law_price", fPrice), ("abs", fAbs)]) (is := midsL d) (pz := near e) (vf := wayV d st rt e) (ρc := [("end", .int e), ("returns", .ints rt), ("start", .int d), ("stays", .ints st)]) F' FEnv.nil (A_deep hh) (hd1 _)
        (he := by rfl) (hP := by exact trivial) (hi := by rfl) (hP' := ?jP) (fun _ => by rfl) (by rfl) (by decide) (by rfl) (by decide) (by rfl) (by decide) (c := ?jc)
        (fun _ => .cons (by rfl) (by decide) (.own (by k_is)) (price_ok w) (by decide) (.cons (by rfl) (by decide) (.boot (by k_is) (by boot_by_name) (by decide)) (abs_ok w) (by decide) .nil)) (tests := ?jt) (hval := ?jv) (hlen := ?jl) ?jk
      case jP => exact ⟨by split <;> omega, by split <;> omega, by omega, by omega⟩
      case jc => exact .cons (by rfl) (by rfl) (by rfl) (by rfl) (.cons (by rfl) (by rfl) (by rfl) (by rfl) (.cons (by rfl) (by rfl) (by rfl) (by rfl) (.cons (by rfl) (by rfl) (by rfl) (by rfl) .nil)))
      case jt =>
        refine .inr ⟨_, _, _, _, 5, rfl, fun i hi => ⟨_, rfl, ?_⟩⟩
        simp [fAbs]
      case jv =>
        intro i hi hn
        have hi' := mem_rng.mp hi
        have hn' : (if i - e < 0 then -(i - e) else i - e) < 2 := of_decide_eq_true hn
        refine ⟨5, _, rfl, ?_⟩
        have h1 : 0 ≤ i ∧ d - 1 ≤ i := by have := hi'.1; split at this <;> omega
        have h2 : -1 ≤ i - e ∧ i - e ≤ 1 := by split at hn' <;> omega
        have hm : MulOk (priceV d i st rt) (priceV i e st rt) := .inl (by have := price_small (d := d) (e := i) hpre.2.2.2.1 hpre.2.2.2.2; omega)
        simp [fPrice, hm]
        omega
      case jl =>
        have h0 : 0 ≤ (if d - 1 > 0 then d - 1 else 0) := by split <;> omega
        simp [midsL, rngL]; omega
      case jk =>
        intro v h' tk' kk i
        exact ⟨h', tk', rfl, kk, i⟩
    case k =>
      intro D ys h' tk' hsub okD hl hI
      have F3 := F2.grow hsub
      refine stoC (V := .lls ((rngL 0 (d + 3)).map (waysAt d st rt))) F3 (by rfl) (by decide) (by rfl) (by repeat (first | exact List.Mem.head _ | refine List.Mem.tail _ ?_)) ?_ ?_
      · exact ⟨D, ys, rfl, okD, hl, lls_of_ints (by rw [List.map_map]; exact hI)⟩
      intro h3 tk3 F3
      refine wpAny_execs_cons (wpAny_Return_some (dcompE (n := 4) (lv := 0) (fs := [("range", fRange)]) (fc := [("sum", fSum)]) (is := rngL 0 (d + 3)) (pz := fun _ => true) (kf := fun e => e) (vf := fun e => (waysAt d st rt e).sum) (ρc := [("ways", .lls ((rngL 0 (d + 3)).map (waysAt d st rt)))]) F3
        (.cons (by rfl) (by decide) (.boot (by k_is) (by boot_by_name) (by decide)) (range_ok w) (by decide) .nil) (A_deep hh) (hd' _)
        (he := by rfl) (hP := ?iP) (hi := by rfl) (hP' := ?iP') (fun _ => by rfl) (by rfl) (by decide) (by rfl) (by decide) (by rfl) (by decide) (.cons (by rfl) (by rfl) (by rfl) (by rfl) .nil)
        (fun _ => .cons (by rfl) (by decide) (.boot (by k_is) (by boot_by_name) (by decide)) (sum_ok w) (by decide) .nil) (.inl ⟨rfl, fun _ _ => rfl⟩) (hkey := ?ik) (hval := ?iv) (hnd := ?ind) (hlen := ?il) ?ikk))
      case iP => simp [fRange]
      case iP' => exact ⟨by omega, by omega, by omega, by omega⟩
      case ik => intro i hi _; exact ⟨1, _, rfl, trivial⟩
      case iv =>
        intro i hi _
        have hi' := mem_rng.mp hi
        have hev : ∀ q1 q2 q3 q4 q5, EvI [("sum", fSum)] [("end", AV.int i), ("ways", AV.lls ((rngL 0 (d + 3)).map (waysAt d st rt)))] (.Call (.Name "sum" q1) [.Subscript (.Name "ways" q2) (.Name "end" q3) q4] [] q5) (.int (((rngL 0 (d + 3)).map (waysAt d st rt)).getD i.toNat []).sum) := by
          intro q1 q2 q3 q4 q5
          refine ⟨4, _, rfl, ?_⟩
          simp [rngL, fSum]; omega
        rw [rng_getD hi'.1 hi'.2] at hev
        exact hev _ _ _ _ _
      case ind => rw [List.filter_eq_self.mpr (fun _ _ => rfl), List.map_id']; exact rng_nodup _ _
      case il => simp [rngL]; omega
      case ikk =>
        intro v h' tk' kk i
        refine k v h' tk' (F3.keep.trans kk) ?_
        have := i.weak (ok' := ok) (fun _ z => z.1)
        rw [List.filter_eq_self.mpr (fun _ _ => rfl)] at this
        exact this
  · cases hden
end Mine

/-! Txt27 -/
namespace Mine
open PySem PySem.W PyProof.Rows PySem.Calls PyProof.V

section
variable {w : World} {A : Around} {s : Shared} {R : Result → Shared → Prop} {elt iter iter2 : Expr} {scope : Scope} {pos : Pos} {x z : Str} {px pz : Pos} {it acc : Value} {env : Env}
theorem compStart1
    (h0 : codeAny (model PR w) A (.compLoop (.ListComp elt [⟨.Name x px, iter, [], 0⟩, ⟨.Name z pz, iter2, [], 0⟩] scope pos) 1 it acc env) R s)
    (h : wpAny (model PR w) A (pyIter it) (fun it' s' => codeAny (model PR w) A (.compLoop (.ListComp elt [⟨.Name x px, iter, [], 0⟩, ⟨.Name z pz, iter2, [], 0⟩] scope pos) 1 it' acc env) R s')
      (notedBy (model PR w) A env fun x s' => R (.error x) s') s) :
    codeAny (model PR w) A (.compStart (.ListComp elt [⟨.Name x px, iter, [], 0⟩, ⟨.Name z pz, iter2, [], 0⟩] scope pos) 1 it acc env) R s := by
  refine codeAny_of_tree ?_
  show wpAny _ _ ((compStart (.ListComp elt [⟨.Name x px, iter, [], 0⟩, ⟨.Name z pz, iter2, [], 0⟩] scope pos) 1 it acc env).onRaise (fun x => do noteFrame x env; standAt theWindowsPlace)) _ _ s
  refine wpAny_notedAt ?_
  unfold compStart
  show wpAny _ _ (ask >>= _) _ _ s
  refine wpAny_bind (wpAny_askSetting (wpAny_ite ?_))
  split
  · first
      | exact wpAny_bind (wpAny_pure (wpAny_pure (And.intro rfl h0)))
      | exact wpAny_pure (And.intro rfl h0)
  · first
      | exact wpAny_bind (wpAny_rule (wpAny_bind (wpAny_standAt (wpAny_bind (wpAny_mono h (fun it' s' h' => wpAny_pure (And.intro rfl h')) fun _ _ x => x)))))
      | (refine wpAny_bind (wpAny_rule ?_); show wpAny _ _ (standAt iter2.pos >>= _) _ _ s; exact wpAny_bind (wpAny_standAt (wpAny_bind (wpAny_mono h (fun it' s' h' => wpAny_pure (And.intro rfl h')) fun _ _ x => x))))

theorem turn0 : compTurn (.ListComp elt [⟨.Name x px, iter, [], 0⟩, ⟨.Name z pz, iter2, [], 0⟩] scope pos) 0 it acc env = (standAt iter.pos >>= fun _ => pyNext it >>= fun r => match r with
      | none => pure (.done .next)
      | some v => letOwnedTupleGo (.Name x px) it v >>= fun _ => assign (.Name x px) env v >>= fun _ =>
        (eval iter2 env >>= fun x' => standAt iter2.pos >>= fun _ => foldedSetIterable iter2 env x' >>= fun x' => holding [x'] (pyIter x') >>= fun it' => runOwn (.compStart (.ListComp elt [⟨.Name x px, iter, [], 0⟩, ⟨.Name z pz, iter2, [], 0⟩] scope pos) 1 it' acc env) env >>= fun _ =>
          again (.compLoop (.ListComp elt [⟨.Name x px, iter, [], 0⟩, ⟨.Name z pz, iter2, [], 0⟩] scope pos) 0 it acc env))) := by rfl
theorem turn1 : compTurn (.ListComp elt [⟨.Name x px, iter, [], 0⟩, ⟨.Name z pz, iter2, [], 0⟩] scope pos) 1 it acc env = (standAt iter2.pos >>= fun _ => pyNext it >>= fun r => match r with
      | none => pure (.done .next)
      | some v => letOwnedTupleGo (.Name z pz) it v >>= fun _ => assign (.Name z pz) env v >>= fun _ =>
        (eval elt env >>= fun x' => call (.builtin "list.append") [acc, x'] >>= fun _ => pure ()) >>= fun _ =>
          again (.compLoop (.ListComp elt [⟨.Name x px, iter, [], 0⟩, ⟨.Name z pz, iter2, [], 0⟩] scope pos) 1 it acc env)) := by rfl
end

theorem flat2_len {a b : Str} : ∀ l : List Str, (l.flatMap fun t => [t ++ a, t ++ b]).length = 2 * l.length
  | [] => rfl
  | _ :: l => by rw [List.flatMap_cons, List.length_append, flat2_len l, List.length_cons]; simp; omega
theorem strs_of_all {w : World} {ok : Addr → Prop} {h : Heap} : ∀ {ls : List Str} {ys : List Value}, IsAll w ok h (ls.map .str) ys → StrsAre ys ls
  | [], _, .nil => .nil
  | _ :: _, _, .cons i r => by obtain ⟨t, rfl⟩ := i; exact .cons _ t (strs_of_all r)

section
variable {w : World} {ok : Addr → Prop} {env : Env} {mu : List Addr} {p : Heap} {m : Str → Option Value} {ρ ρc : Rho} {lv n n2 n3 : Nat} {fs : Fns} {A : Around} {s : Shared} {E : Value → Shared → Prop} {P : Prop}
  {elt iter iter2 : Expr} {x z : Str} {px pz pos : Pos} {scope : Scope} {cl : List (Str × Addr)} {ts : List Str} {a b : Str}

theorem less_cons {x : Str} {V : AV} {ρ : Rho} (h : ρ.lookup x = none) : ∀ y U, ρ.lookup y = some U → ((x, V) :: ρ).lookup y = some U := fun y U e => by
  rw [List.lookup_cons]
  cases hb : y == x with
  | true => rw [beq_iff_eq.mp hb, h] at e; cases e
  | false => exact e

theorem useL {y : Str} {py : Pos} {V : AV} {D C : Addr} {h' : Heap} {tk : Nat} {m' : Str → Option Value} {Qc : Value → Shared → Prop} (F : Fm w ok env mu p s.heap m ρ) (hy : env.kindOf y = some .local) (hyd : (y == ("__debug__" : Str)) = false)
    (hsub : Sub s.heap h') (hC : s.heap.get? C = none) (hn : h'.Ns C m') (i : Is w (fun a => ok a ∧ a ≠ C) h' V (.ref D))
    (k : ∀ h3 tk m3, Fm w ok env mu p h3 m3 ((y, V) :: ρ) → Qc .none { s with heap := h3, toks := tk }) :
    compPost (model PR w) A E (some (assign (.Name y py) env)) Qc (.ref D) C (.ok .next) { s with heap := h', toks := tk } := by
  show wpAny _ A (assign (.Name y py) env (.ref D)) _ _ _
  have hCe : ∃ o, h'.get? C = some o := let ⟨o, _, _, ho, _⟩ := hn; ⟨o, ho⟩
  have F1 := F.shrink hC hsub hCe
  have hLC : env.locals ≠ C := by rintro rfl; obtain ⟨o, e⟩ := F.mex _ F.Lmu; rw [hC] at e; cases e
  have hCmu : C ∉ mu := fun hm => by obtain ⟨o, e⟩ := F.mex _ hm; rw [hC] at e; cases e
  have hCC : ∀ y c, env.cells.lookup y = some c → c ≠ C := fun y c e q => by obtain ⟨v, o, ho, _⟩ := F.cells y _ e; rw [q, hC] at ho; cases ho
  have hpC : p.get? C = none := by
    cases q : p.get? C with
    | none => rfl
    | some o => rw [F.keep _ _ q] at hC; cases hC
  refine wpAny_assign_Name (wpAny_storeName_local hy F1.ns (fun h2 hn2 hs2 => ?_) (notClass F.kind))
  have F2 := F1.setL hy hyd i hn2 hs2
  refine ⟨m', hn.sameBut hs2 (Ne.symm hLC), fun h3 hs3 => ?_⟩
  exact k h3 _ _ (F2.leave (F.fresh C hC) F.nok hCmu hpC hLC hCC fun b o hb e => (hs3.2 b hb).trans e)

theorem asgL2 {Q : Flow → Shared → Prop} {rest : List Stmt} {y : Str} {py spos : Pos} (F : Fm w ok env mu p s.heap m ρ) (hh : A.handled = none) (hd : A.depth + 0 < recursionLimit)
    (hsw : swapsWith (.ListComp elt [⟨.Name x px, iter, [], 0⟩, ⟨.Name z pz, iter2, [], 0⟩] scope pos) (some (.Name y py)) spos.line env = pure true) (hy : env.kindOf y = some .local) (hyd : (y == ("__debug__" : Str)) = false)
    (he : evP [] ρ n iter = some (.strs ts, P)) (hP : P) (hs : ∀ v, foldedSetIterable iter env v = pure v) (hs2 : ∀ env v, foldedSetIterable iter2 env v = pure v)
    (hclos : closureFor scope env = pure cl) (hcl : ∀ y a, cl.lookup y = some a → env.cells.lookup y = some a) (hkind : scope.kind = .function) (hnames : ∀ y ∈ scope.names, y.2 = .local → scope.names.lookup y.1 = some .local)
    (hx : (relabel scope env).names.lookup x = some .local) (hz : (relabel scope env).names.lookup z = some .local) (hdb : (x == ("__debug__" : Str)) = false) (hdz : (z == ("__debug__" : Str)) = false) (hxc : ρc.lookup x = none) (hzc : ∀ V, List.lookup z ((x, V) :: ρc) = none)
    (c : ∀ n, Caps env scope (cellsFrom n scope.names cl) ρ ρc) (hlen : ts.length ≤ 100)
    (he2 : ∀ t ∈ ts, ∃ P, evP [] ((x, .str t) :: ρc) n2 iter2 = some (.t2s a b, P) ∧ P)
    (he3 : ∀ t ∈ ts, ∀ u, u = a ∨ u = b → ∃ P, evP [] ((z, .str u) :: (x, .str t) :: ρc) n3 elt = some (.str (t ++ u), P) ∧ P)
    (k : ∀ h' tk m', Fm w ok env mu p h' m' ((y, .strs (ts.flatMap fun t => [t ++ a, t ++ b])) :: ρ) → wpAny (model PR w) A (execs rest env) Q E { s with heap := h', toks := tk }) :
    wpAny (model PR w) A (execs (.Assign [.Name y py] (.ListComp elt [⟨.Name x px, iter, [], 0⟩, ⟨.Name z pz, iter2, [], 0⟩] scope pos) spos :: rest) env) Q E s := by
  refine wpAny_execs_cons ?_
  rw [exec_Assign_Name_used _ _ _ _ hsw]
  refine wpAny_bind (wpAny_standAt (wpAny_bind ?_))
  show wpAny _ A (do let _ ← comprehension (.ListComp elt [⟨.Name x px, iter, [], 0⟩, ⟨.Name z pz, iter2, [], 0⟩] scope pos) scope env _ (newList []) false (eval iter env) (some (assign (.Name y py) env))) _ _ s
  refine wpAny_bind (wpAny_mono (wpAny_comprehension_free (use := some (assign (.Name y py) env)) (Q := fun _ s' => wpAny (model PR w) A (execs rest env) Q E s') rfl hs hclos hkind hnames (ev_sound (lv := 0) hh hd n iter _ P s E _ he hP (F.envOk FEnv.nil) fun v h' tk kk i => ?_)) (fun _ s' hq => wpAny_pure (wpAny_pure hq)) fun _ _ e => e)
  refine iter_sound (items := ts.map .str) hh rfl trivial i fun it h'' kk' S => ?_
  obtain ⟨I, fp, Pw, St, rfl, W, hStI, hst, hI, _, hfp, hPw⟩ := S
  refine comp_frame (s := s) (I := I) (F.grow kk) kk' hI (hStI 0 _ hst) hkind c hcl ?_
  intro D C h₁ m₁ hDC hD hC k1 hImu hD'' hC'' hmu'' hcc F1 hl
  have hst₁ : St 0 h₁ := W.frame _ _ _ hst fun b _ o e => k1 b o e
  have hfp' : ∀ b ∈ fp, b ∉ muC scope D C := fun b hb hm => by
    rcases hfp b hb with rfl | ⟨_, o, ho⟩
    · exact hImu hm
    · have e := kk' b o ho; rw [hmu'' b hm] at e; cases e
  have loop : codeAny (model PR w) A (.compLoop (.ListComp elt [⟨.Name x px, iter, [], 0⟩, ⟨.Name z pz, iter2, [], 0⟩] scope pos) 0 (.ref I) (.ref D) (compEnvC scope (cellsFrom (C + 1) scope.names cl) C env)) (compPost (model PR w) A E (some (assign (.Name y py) env)) (fun _ s' => wpAny (model PR w) A (execs rest env) Q E s') (.ref D) C) { s with heap := h₁, toks := tk } := by
    refine comp_src (s := { s with heap := h₁, toks := tk }) (ok := fun a => ok a ∧ a ∉ muC scope D C) (σ := fun _ => ρc) (acc := fun i => ((ts.take i).flatMap fun t => [t ++ a, t ++ b]).map .str)
      turn0 (.inl hx) hdb (by simp) hDC hcc W hStI hst₁ hImu hI ⟨(F.grow kk).fresh I hI, hImu⟩ hfp' hPw F1 ⟨[], hl, .nil⟩ ?_ ?_
    · rintro i V hV p' s' m' E' - ⟨h3, tk3, rfl⟩ a3 F3
      rw [List.getElem?_map] at hV
      obtain ⟨t, ht, rfl⟩ := Option.map_eq_some_iff.mp hV
      have htm := List.mem_of_getElem? ht
      have hlt : i < ts.length := (List.getElem?_eq_some_iff.mp ht).1
      obtain ⟨P2, hev2, hP2⟩ := he2 t htm
      refine wpAny_bind (ev_sound (lv := 0) hh hd n2 iter2 _ P2 _ E' _ hev2 hP2 (F3.envOk FEnv.nil) fun v2 h4 tk4 k4 i4 => ?_)
      refine wpAny_bind (wpAny_standAt (wpAny_bind (wpAny_of_eq (hs2 _ _) (wpAny_bind (wpAny_holding ?_)))))
      refine iter_sound (items := [.str a, .str b]) hh rfl trivial i4 fun it5 h5 k5 S5 => ?_
      obtain ⟨I5, fp5, Pw5, St5, rfl, W5, hStI5, hst5, hI5, _, hfp5, hPw5⟩ := S5
      have F4 := F3.grow k4
      have hI5mu : I5 ∉ muC scope D C := fun hm => by obtain ⟨o, e⟩ := F4.mex _ hm; rw [show h4.get? I5 = none from hI5] at e; cases e
      have F5 := F4.shrink hI5 k5 (hStI5 0 _ hst5)
      have a4 : Acc w _ h4 D _ := a3.mono (fun o e => k4 D o e) fun a o oa e => ⟨oa, k4 a o e⟩
      have a5 : Acc w (fun b => ((ok b ∧ b ∉ muC scope D C) ∧ b ≠ I) ∧ b ≠ I5) h5 D _ := a4.mono (fun o e => k5 D o e) fun b o ob e => ⟨⟨ob, by rintro rfl; rw [show h4.get? _ = none from hI5] at e; cases e⟩, k5 b o e⟩
      refine wpAny_bind (wpAny_runOwn ?_)
      have loop5 : codeAny (model PR w) A (.compLoop (.ListComp elt [⟨.Name x px, iter, [], 0⟩, ⟨.Name z pz, iter2, [], 0⟩] scope pos) 1 (.ref I5) (.ref D) (compEnvC scope (cellsFrom (C + 1) scope.names cl) C env)) (fun r s'' => match r with
          | .ok f => wpAny (model PR w) A (again (.compLoop (.ListComp elt [⟨.Name x px, iter, [], 0⟩, ⟨.Name z pz, iter2, [], 0⟩] scope pos) 0 (.ref I) (.ref D) (compEnvC scope (cellsFrom (C + 1) scope.names cl) C env))) (fun q s'' => q = .again (.compLoop (.ListComp elt [⟨.Name x px, iter, [], 0⟩, ⟨.Name z pz, iter2, [], 0⟩] scope pos) 0 (.ref I) (.ref D) (compEnvC scope (cellsFrom (C + 1) scope.names cl) C env)) ∧ ∃ h' tk' m'', s'' = { s with heap := h', toks := tk' } ∧ Acc w (fun b => (ok b ∧ b ∉ muC scope D C) ∧ b ≠ I) h' D (((ts.take (i + 1)).flatMap fun t => [t ++ a, t ++ b]).map .str) ∧ Fm w (fun b => (ok b ∧ b ∉ muC scope D C) ∧ b ≠ I) (compEnvC scope (cellsFrom (C + 1) scope.names cl) C env) (muC scope D C) p' h' m'' ρc) E' s''
          | .error e => cameBackBy (model PR w) A (compEnvC scope (cellsFrom (C + 1) scope.names cl) C env) E' e s'') { s with heap := h5, toks := tk4 } := by
        refine comp_src (s := { s with heap := h5, toks := tk4 }) (ok := fun b => (ok b ∧ b ∉ muC scope D C) ∧ b ≠ I) (σ := fun _ => (x, .str t) :: ρc) (acc := fun j => (((ts.take i).flatMap fun t => [t ++ a, t ++ b]) ++ ([t ++ a, t ++ b].take j)).map .str)
          turn1 (.inl hz) hdz (by simp) hDC ?_ W5 hStI5 hst5 hI5mu ?_ (F4.fresh I5 hI5) ?_ hPw5 F5 (by simpa using a5) ?_ ?_
        · intro y c e
          refine ⟨fun q => ?_, (hcc y c e).2⟩
          obtain ⟨v, o, ho, _⟩ := F4.cells y c e
          rw [q, show h4.get? I5 = none from hI5] at ho; cases ho
        · exact sub_none F4.keep hI5
        · intro b hb hm
          rcases hfp5 b hb with rfl | ⟨ob, _⟩
          · exact hI5mu hm
          · exact ob.1.2 hm
        · rintro j U hU p6 s6 m6 E6 - ⟨h6, tk6, rfl⟩ a6 F6
          have hj : ∃ u, U = .str u ∧ (u = a ∨ u = b) ∧ [t ++ a, t ++ b].take (j + 1) = [t ++ a, t ++ b].take j ++ [t ++ u] := by
            match j, hU with
            | 0, hU => cases hU; exact ⟨a, rfl, .inl rfl, rfl⟩
            | 1, hU => cases hU; exact ⟨b, rfl, .inr rfl, rfl⟩
          obtain ⟨u, rfl, hu, hj⟩ := hj
          obtain ⟨P3, hev3, hP3⟩ := he3 t htm u hu
          refine wpAny_bind (wpAny_bind (ev_sound (lv := 0) hh hd n3 elt _ P3 _ E6 _ hev3 hP3 (F6.envOk FEnv.nil) fun v7 h7 tk7 k7 i7 => ?_))
          have a7 := a6.mono (ok' := _) (fun o e => k7 D o e) fun a o oa e => ⟨oa, k7 a o e⟩
          have F7 := (F6.grow k7).less (less_cons (hzc _))
          refine wpAny_bind (a7.push (fun q => q.1.1.2 (by simp)) i7 ?_ fun h8 a8 hs8 he8 => wpAny_pure (wpAny_pure ⟨rfl, h8, tk7, m6, rfl, ?_, ?_⟩))
          · rw [List.length_map, List.length_append, flat2_len, List.length_take, List.length_take]
            show 2 * min i ts.length + min j 2 ≤ 1000
            omega
          · rw [hj]; simpa using a8
          · exact F7.chg (F6.pmu D (by simp)) (fun q => q.1.1.2 (by simp)) (Ne.symm hDC) (fun y c e => (hcc y c e).2) (fun b o hb e => (hs8.2 b hb).trans e) he8
        · intro h6 tk6 m6 a6 F6
          refine wpAny_pure ⟨rfl, h6, tk6, m6, rfl, ?_, F6.less (less_cons hxc)⟩
          have : ts.take (i + 1) = ts.take i ++ [t] := by rw [List.take_add_one, ht]; rfl
          rw [this, List.flatMap_append]
          simpa using a6
      exact compStart1 loop5 (W5.self 0 _ _ _ hst5 loop5)
    · intro h3 tk3 m3 a3 F3
      obtain ⟨ys, hl3, hi3⟩ := a3
      rw [List.length_map, List.take_length] at hi3
      refine useL (s := s) F hy hyd (kk.trans F3.keep) (sub_none kk hC) F3.ns (V := .strs (ts.flatMap fun t => [t ++ a, t ++ b])) ⟨D, ys, rfl, ⟨F.fresh D (sub_none kk hD), hDC⟩, hl3, strs_of_all hi3⟩ k
  exact codeAny_compStart_list loop (W.self 0 _ _ _ hst₁ loop)
end
end Mine

/-! Texts27 -/
namespace Mine
open PySem PySem.W PyProof.Rows PySem.Calls PyProof.V

def qm : Str := "\""
def textsL (a : Str) : Nat → List Str
  | 0 => [""]
  | n + 1 => (textsL a n).flatMap fun t => [t ++ a, t ++ qm]
theorem textsL_length (a : Str) : ∀ n, (textsL a n).length = 2 ^ n
  | 0 => rfl
  | n + 1 => by rw [textsL, flat2_len, textsL_length a n, Nat.pow_succ]; omega
theorem str_len_append (x y : Str) : (x ++ y).length = x.length + y.length := by
  show (x.cps ++ y.cps).size = _
  rw [Array.size_append]; rfl
theorem textsL_len {a : Str} (ha : a.length = 1) : ∀ n, ∀ t ∈ textsL a n, t.length = n
  | 0, t, h => by rw [textsL, List.mem_singleton] at h; subst h; rfl
  | n + 1, t, h => by
    rw [textsL, List.mem_flatMap] at h
    obtain ⟨u, hu, h⟩ := h
    have := textsL_len ha n u hu
    rcases List.mem_cons.mp h with rfl | h
    · rw [str_len_append, this, ha]
    · rw [List.mem_singleton.mp h, str_len_append, this]; rfl
def fTexts : Fn where
  val := .ref 77
  lvl := 1
  den := fun | [.str a, .int n] => some (.strs (textsL a n.toNat)) | _ => none
  pre := fun | [.str a, .int n] => a.length = 1 ∧ 0 ≤ n ∧ n ≤ 5 | _ => False

theorem texts_ok (w : World) : FnOk w fTexts := by
  have hX := seen w
  revert hX; k_fill; intro _
  refine ⟨?_, with1_own (by k_is)⟩
  intro ok s A E Q Vs vs V G hh hd fresh I hden hpre k
  unfold fTexts at hden hpre hd
  dsimp only at hden hpre hd
  split at hden
  · rename_i a n
    cases hden
    dsimp only at hpre
    obtain ⟨v1, v2, rfl⟩ := I.two
    refine' enter (names := ["letter", "size"]) G (by omega) fresh I ?k6 ?k7 ?k9 ?kl ?kn ?knc ?kk ?kd ?c2 ?c3 ?c4 ?_
    case k6 => k_is
    case k7 => k_is
    case k9 => exact rfl
    case kl => rfl
    case kn => decide
    case knc => decide
    case kk => decide
    case kd => decide
    case c2 => rfl
    case c3 => rfl
    case c4 => rfl
    intro L h₁ tk m F
    have hd' : ∀ env, (A.deeper env).depth + 0 < recursionLimit := fun env => by show A.depth + 1 + 0 < _; omega
    refine asgL (n := 2) F (FEnv.nil (lv := 0)) (A_deep hh) (hd' _) (by rfl) (by decide) (he := by rfl) (hP := by exact ⟨⟨trivial, trivial⟩, by decide⟩) (by rfl) ?_
    intro h2 tk2 m2 F
    refine forE (n := 2) (fs := [("range", fRange)]) (lv := 0) (fun i => [("texts", .strs (textsL a i)), ("letter", .str a)]) (fun _ _ => True) F (.cons (by rfl) (by decide) (.boot (by k_is) (by boot_by_name) (by decide)) (range_ok w) (by decide) .nil) (A_deep hh) (hd' _) (by rfl) (by decide) (he := by rfl) (hP := by exact ⟨⟨trivial, trivial⟩, trivial⟩) (hi := by rfl) (hP' := by exact ⟨by decide, by decide, by omega, by omega⟩) (hs := fun _ => by rfl) ?_ (fun _ _ => trivial) (fun _ _ _ _ _ => trivial) ?_ ?_
    · exact sub_cons (by rfl) (sub_cons (by rfl) sub_nil)
    · rintro i V hV ok' p' s' m' E' hok hpp ⟨h4, tk4, rfl⟩ - F
      have hi : i < 5 := by
        have := (List.getElem?_eq_some_iff.mp hV).1
        simp [rngL] at this; omega
      refine asgL2 (n := 1) (n2 := 2) (n3 := 2) (ts := textsL a i) (a := a) (b := qm) (ρc := [("letter", .str a)]) F (A_deep hh) (hd' _) (by rfl) (by rfl) (by decide) (by rfl) trivial (fun _ => by rfl) (fun _ _ => by rfl) (by rfl) (ClIn.get (.cons (by rfl) .nil)) (by rfl) (by decide) (by rfl) (by rfl) (by decide) (by decide) (by rfl) (fun _ => by rfl) (fun _ => .cons (by rfl) (by rfl) (by rfl) (by rfl) .nil) ?_ ?_ ?_ ?_
      · rw [textsL_length]
        exact Nat.le_trans (Nat.pow_le_pow_right (by decide) (Nat.le_of_lt hi)) (by decide)
      · intro t ht; exact ⟨_, rfl, trivial, trivial, trivial⟩
      · intro t ht u hu
        refine ⟨_, rfl, trivial, trivial, ?_⟩
        show t.length + u.length ≤ 1000
        have h1 := textsL_len hpre.1 i t ht
        rcases hu with rfl | rfl
        · rw [hpre.1]; omega
        · rw [show qm.length = 1 from rfl]; omega
      intro h5 tk5 m5 F
      refine wpAny_execs_nil ⟨rfl, _, _, _, rfl, trivial, F.less (sub_cons (by rfl) (sub_cons (by rfl) sub_nil))⟩
    · intro h4 tk4 m4 _ F
      refine retE (n := 1) F (FEnv.nil (lv := 0)) (A_deep hh) (hd' _) (he := by rfl) (hP := trivial) fun v h' tk' kk i => ?_
      refine k v h' tk' (F.keep.trans kk) ?_
      simpa [rngL] using i.weak (fun _ z => z.1)
  · cases hden
end Mine

/-! Parse27 -/
namespace Mine
open PySem PySem.W PyProof.Rows PySem.Calls PyProof.V

def parseS : List Nat → List Nat
  | [] => []
  | [c] => if c = 34 then [] else [c]
  | c :: d :: r => if c = 34 then (if d = 34 then 34 :: parseS r else []) else c :: parseS (d :: r)
def parseX (x : Str) : Str := ⟨(parseS (x.cps.toList.drop 5)).toArray⟩

section
variable {w : World} {ok : Addr → Prop} {env : Env} {ρ : Rho} {lv n : Nat} {fs : Fns} {A : Around} {s : Shared} {E : Value → Shared → Prop} {P : Prop}
theorem kept_sub {h₀ : Heap} : KeptH (fun h => Sub h₀ h) := fun _ _ a => a.trans (Sub.push _ _)

theorem sl_ns {x : Str} {j : Int} {nm : Str} {px q1 q2 pos : Pos} {kd : Nat} {Q : Value → Shared → Prop} (X : EnvOk w ok lv env s.heap fs ρ) (hx : ρ.lookup nm = some (.str x)) (hlen : x.length ≤ 1000)
    (k : ∀ h' t tk, Sub s.heap h' → Q (.str (Txt.slice x none (some j)) t) { s with heap := h', toks := tk }) :
    wpAny (model PR w) A (eval (.Subscript (.Name nm px) (.Slice none (some (.Constant (.int j) kd q1)) none q2) pos) env) Q E s := by
  obtain ⟨v, hr, t, rfl⟩ := X.vars nm _ hx
  refine Subscript_ (hr A E _ s px Sub.rfl ?_)
  refine wpAny_Slice (wpAny_evalPart_none (wpAny_evalPart_some (wpAny_Constant_int (wpAny_evalPart_none ?_))))
  exact tail_of_ItemOn (SBH.sliceItem_ns kept_sub Sub.rfl (fun h' t' k' a => k h' t' k' a) (by rw [sizeLine_eq]; omega)) (by rfl) (fun _ => by rfl)
theorem sl_ss {x : Str} {i j : Int} {nm : Str} {px q0 q1 q2 pos : Pos} {kd ke : Nat} {Q : Value → Shared → Prop} (X : EnvOk w ok lv env s.heap fs ρ) (hx : ρ.lookup nm = some (.str x)) (hlen : x.length ≤ 1000)
    (k : ∀ h' t tk, Sub s.heap h' → Q (.str (Txt.slice x (some i) (some j)) t) { s with heap := h', toks := tk }) :
    wpAny (model PR w) A (eval (.Subscript (.Name nm px) (.Slice (some (.Constant (.int i) ke q0)) (some (.Constant (.int j) kd q1)) none q2) pos) env) Q E s := by
  obtain ⟨v, hr, t, rfl⟩ := X.vars nm _ hx
  refine Subscript_ (hr A E _ s px Sub.rfl ?_)
  refine wpAny_Slice (wpAny_evalPart_some (wpAny_Constant_int (wpAny_evalPart_some (wpAny_Constant_int (wpAny_evalPart_none ?_)))))
  exact tail_of_ItemOn (SBH.sliceItem_ss kept_sub Sub.rfl (fun h' t' k' a => k h' t' k' a) (by rw [sizeLine_eq]; omega)) (by rfl) (fun _ => by rfl)
end

section
variable {w : World} {ok : Addr → Prop} {env : Env} {mu : List Addr} {p : Heap} {m : Str → Option Value} {ρ : Rho} {lv n : Nat} {fs : Fns} {A : Around} {s : Shared} {E : Value → Shared → Prop} {Q : Flow → Shared → Prop} {rest : List Stmt}
theorem whileE {l r : Expr} {op : CmpOp} {tpos pos : Pos} {body : List Stmt} (J : Nat → Rho → Prop) (Done : Rho → Prop) {n0 : Nat} (F : Fm w ok env mu p s.heap m ρ) (fe : FEnv w lv env fs) (hh : A.handled = none) (hd : A.depth + lv < recursionLimit) (hJ : J n0 ρ)
    (turn : ∀ z ρ', J z ρ' → ∃ b P, evP fs ρ' (n + 1) (.Compare l [op] [r] tpos) = some (.bool b, P) ∧ P ∧ (b = false → Done ρ') ∧ (b = true → ∀ (s' : Shared) (m' : Str → Option Value) (E' : Value → Shared → Prop), Fm w ok env mu p s'.heap m' ρ' →
      wpAny (model PR w) A (execs body env) (fun f s3 => (f = .next ∧ ∃ z' ρ'' h tk m, z' < z ∧ s3 = { s' with heap := h, toks := tk } ∧ J z' ρ'' ∧ Fm w ok env mu p h m ρ'') ∨ (f = .brk ∧ ∃ ρ'' h tk m, s3 = { s' with heap := h, toks := tk } ∧ Done ρ'' ∧ Fm w ok env mu p h m ρ'')) E' s'))
    (k : ∀ ρ' h tk m, Done ρ' → Fm w ok env mu p h m ρ' → wpAny (model PR w) A (execs rest env) Q E { s with heap := h, toks := tk }) :
    wpAny (model PR w) A (execs (.While (.Compare l [op] [r] tpos) body [] pos :: rest) env) Q E s := by
  refine wpAny_execs_cons (wpAny_While (codeAny_whileLoop (fun z s' => ∃ h tk m ρ', s' = { s with heap := h, toks := tk } ∧ J z ρ' ∧ Fm w ok env mu p h m ρ') ?_ n0 ⟨s.heap, s.toks, m, ρ, rfl, hJ, F⟩))
  rintro z s' ⟨h, tk, m', ρ', rfl, hJ', F'⟩
  obtain ⟨b, P, he, hP, hf, ht⟩ := turn z ρ' hJ'
  refine testE (s := { s with heap := h, toks := tk }) F' fe hh hd he hP fun h2 tk2 k2 => ?_
  cases b with
  | false => exact wpAny_execs_nil (k ρ' h2 tk2 m' (hf rfl) (F'.grow k2))
  | true =>
    refine wpAny_mono (ht rfl { s with heap := h2, toks := tk2 } m' _ (F'.grow k2)) (fun f s3 h3 => ?_) fun _ _ e => e
    rcases h3 with ⟨rfl, z', ρ'', h3, tk3, m3, hz, rfl, hJ3, F3⟩ | ⟨rfl, ρ'', h3, tk3, m3, rfl, hD, F3⟩
    · exact ⟨z', hz, h3, tk3, m3, ρ'', rfl, hJ3, F3⟩
    · exact k ρ'' h3 tk3 m3 hD F3
end

theorem qm_eq (c : Nat) : ((⟨#[c]⟩ : Str) == ("\"" : Str)) = decide (c = 34) := by
  have e : ("\"" : Str) = ⟨#[34]⟩ := by decide
  rw [e, Bool.eq_iff_iff, beq_iff_eq, decide_eq_true_iff]
  constructor
  · intro h; injection h with h; simpa using h
  · rintro rfl; rfl
theorem qm_ne (c : Nat) : ((⟨#[c]⟩ : Str) != ("\"" : Str)) = decide (c ≠ 34) := by
  show (!((⟨#[c]⟩ : Str) == ("\"" : Str))) = _
  rw [qm_eq]; simp
theorem parse_stop1 : parseS [34] = [] := rfl
theorem parse_stop {d : Nat} {r : List Nat} (h : d ≠ 34) : parseS (34 :: d :: r) = [] := by simp [parseS, h]
theorem parse_two (r : List Nat) : parseS (34 :: 34 :: r) = 34 :: parseS r := by simp [parseS]
theorem parse_one {c : Nat} {r : List Nat} (h : c ≠ 34) : parseS (c :: r) = c :: parseS r := by
  cases r <;> simp [parseS, h]

def fParse : Fn where
  val := .ref 67
  lvl := 1
  den := fun | [.str x] => some (.str (parseX x)) | _ => none
  pre := fun | [.str x] => x.cps.toList.take 5 = [50, 53, 55, 32, 34] ∧ x.length ≤ 100 | _ => False

theorem app_str (d : List Nat) (c : Nat) : (⟨d.toArray⟩ : Str) ++ (⟨#[c]⟩ : Str) = ⟨(d ++ [c]).toArray⟩ := by
  show (⟨d.toArray ++ #[c]⟩ : Str) = _
  simp

theorem parse_ok (w : World) : FnOk w fParse := by
  have hX := seen w
  revert hX; k_fill; intro _
  refine ⟨?_, with1_own (by k_is)⟩
  intro ok s A E Q Vs vs V G hh hd fresh I hden hpre k
  unfold fParse at hden hpre hd
  dsimp only at hden hpre hd
  split at hden
  · rename_i x
    cases hden
    dsimp only at hpre
    obtain ⟨v1, rfl⟩ := I.one
    refine' enter (names := ["resp"]) G (by omega) fresh I ?k6 ?k7 ?k9 ?kl ?kn ?knc ?kk ?kd ?c2 ?c3 ?c4 ?_
    case k6 => k_is
    case k7 => k_is
    case k9 => exact rfl
    case kl => rfl
    case kn => decide
    case knc => decide
    case kk => decide
    case kd => decide
    case c2 => rfl
    case c3 => rfl
    case c4 => rfl
    intro L h₁ tk m F
    have hd' : ∀ env, (A.deeper env).depth + 0 < recursionLimit := fun env => by show A.depth + 1 + 0 < _; omega
    have h5 : 5 ≤ x.cps.toList.length := by
      have := congrArg List.length hpre.1
      rw [List.length_take] at this
      simp at this ⊢; omega
    have s1 : Txt.slice x none (some 3) = ("257" : Str) := by
      have e : Txt.slice x none (some 3) = _ := PySem.StrLaws.sliceText_to (x := x) (j := 3) ⟨by decide, by omega⟩
      rw [e]
      have : List.take 3 x.cps.toList = [50, 53, 55] := by
        have := congrArg (List.take 3) hpre.1
        rwa [List.take_take] at this
      show (⟨(List.take 3 (List.drop 0 x.cps.toList)).toArray⟩ : Str) = _
      rw [List.drop_zero, this]; decide
    have s2 : Txt.slice x (some 3) (some 5) = (" \"" : Str) := by
      have e : Txt.slice x (some 3) (some 5) = _ := PySem.StrLaws.sliceText_plain (x := x) (i := 3) (j := 5) ⟨by decide, by decide, by omega⟩
      rw [e]
      have : List.take 2 (List.drop 3 x.cps.toList) = [32, 34] := by
        have := congrArg (List.drop 3) hpre.1
        rwa [List.drop_take] at this
      show (⟨(List.take 2 (List.drop 3 x.cps.toList)).toArray⟩ : Str) = _
      rw [this]; decide
    have X := F.envOk (FEnv.nil (lv := 0))
    have hstr : ∀ (u v : Str) (t t' : Tok) (sh : Shared) (E' : Value → Shared → Prop) (Q' : Bool → Shared → Prop), u = v → (∀ h' tk, Sub sh.heap h' → Q' false { sh with heap := h', toks := tk }) → ∀ A', wpAny (model PR w) A' (compareOp .NotEq (.str u t) (.str v t')) (fun z s' => wpAny (model PR w) A' (truthy z) Q' E' s') E' sh := by
      intro u v t t' sh E' Q' huv kq A'
      refine cmp_sound (ok := fun _ => True) (a := .str u) (b := .str v) rfl ⟨t, rfl⟩ ⟨t', rfl⟩ fun z h' tk kk i => ?_
      cases i
      have : (u != v) = false := by rw [huv]; simp
      rw [this]
      exact wpAny_truthy_bool (kq h' tk kk)
    refine wpAny_execs_cons (wpAny_If (wpAny_isTrue_Compare1 (sl_ns X (by rfl) (by omega) fun h2 t2 tk2 k2 => ?_) (by rfl)))
    refine Calls.Constant_str (hstr _ _ _ _ _ _ _ s1 (fun h3 tk3 k3 => ?_) _)
    refine wpAny_execs_nil ?_
    have F3 := (F.grow k2).grow k3
    have X := F3.envOk (FEnv.nil (lv := 0))
    refine wpAny_execs_cons (wpAny_If (wpAny_isTrue_Compare1 (sl_ss X (by rfl) (by omega) fun h4 t4 tk4 k4 => ?_) (by rfl)))
    refine Calls.Constant_str (hstr _ _ _ _ _ _ _ s2 (fun h5 tk5 k5 => ?_) _)
    refine wpAny_execs_nil ?_
    have F5 := (F3.grow k4).grow k5
    refine asgL (n := 1) F5 (FEnv.nil (lv := 0)) (A_deep hh) (hd' _) (by rfl) (by decide) (he := by rfl) (hP := by exact trivial) (by rfl) ?_
    intro h6 tk6 m6 F6
    refine asgL (n := 1) F6 (FEnv.nil (lv := 0)) (A_deep hh) (hd' _) (by rfl) (by decide) (he := by rfl) (hP := by exact trivial) (by rfl) ?_
    intro h7 tk7 m7 F7
    refine asgL (n := 2) (fs := [("len", fLen)]) F7 (.cons (lv := 0) (by rfl) (by decide) (.boot (by k_is) (by boot_by_name) (by decide)) (len_ok w) (by decide) .nil) (A_deep hh) (hd' _) (by rfl) (by decide) (he := by rfl) (hP := ?hl) (by rfl) ?_
    case hl => exact ⟨⟨trivial, trivial⟩, by show x.length < 1000000; omega⟩
    intro h8 tk8 m8 F8
    have hN : x.length = x.cps.toList.length := by simp [Str.length]
    have F8' := F8.less (ρ' := [("dirname", .str ⟨(([] : List Nat)).toArray⟩), ("i", .int ((5 : Nat) : Int)), ("n", .int ((x.length : Nat) : Int)), ("resp", .str x)]) (sub_cons (by rfl) (sub_cons (by rfl) (sub_cons (by rfl) (sub_cons (by rfl) sub_nil))))
    refine whileE (n := 1) (n0 := x.length + 1 - 5) (fun z ρ' => ∃ (j : Nat) (d : List Nat), ρ' = [(("dirname" : Str), AV.str ⟨d.toArray⟩), ("i", .int (j : Int)), ("n", .int ((x.length : Nat) : Int)), ("resp", .str x)] ∧ j ≤ x.length ∧ d ++ parseS (x.cps.toList.drop j) = parseS (x.cps.toList.drop 5) ∧ d.length ≤ j ∧ z = x.length + 1 - j)
      (fun ρ' => ρ'.lookup ("dirname" : Str) = some (AV.str (parseX x))) F8' (FEnv.nil (lv := 0)) (A_deep hh) (hd' _) ⟨5, [], rfl, by omega, by simp, by simp, rfl⟩ ?_ ?_
    · rintro z ρ' ⟨j, d, rfl, hj, hinv, hdl, rfl⟩
      refine ⟨_, _, rfl, ⟨trivial, trivial⟩, ?_, ?_⟩
      · intro hb
        have hb' : ¬ ((j : Int) < (x.length : Nat)) := of_decide_eq_false hb
        have hjN : j = x.length := by omega
        have : x.cps.toList.drop j = [] := List.drop_eq_nil_iff.mpr (by omega)
        rw [this] at hinv
        show some (AV.str ⟨d.toArray⟩) = _
        unfold parseX
        rw [← hinv]; simp [parseS]
      · intro hb s' m' E' F
        have hb' : ((j : Int) < (x.length : Nat)) := of_decide_eq_true hb
        have hjN : j < x.length := by omega
        have hjL : j < x.cps.toList.length := by omega
        have hdrop : x.cps.toList.drop j = x.cps.getD j 0 :: x.cps.toList.drop (j + 1) := by
          rw [List.drop_eq_getElem_cons hjL]
          congr 1
          simp [Array.getD, show j < x.cps.size from hjN]
        rw [hdrop] at hinv
        generalize hc : x.cps.getD j 0 = c at hinv
        refine asgL (n := 2) F (FEnv.nil (lv := 0)) (A_deep hh) (hd' _) (by rfl) (by decide) (he := by rfl) (hP := ?p1) (by rfl) ?_
        case p1 => exact ⟨trivial, trivial, by omega, hb', by omega⟩
        intro h2 tk2 m2 F
        rw [Int.toNat_natCast, hc] at F
        refine asgL (n := 2) F (FEnv.nil (lv := 0)) (A_deep hh) (hd' _) (by rfl) (by decide) (he := by rfl) (hP := by exact ⟨trivial, trivial, trivial⟩) (by rfl) ?_
        intro h3 tk3 m3 F
        refine ifE (n := 1) F (FEnv.nil (lv := 0)) (A_deep hh) (hd' _) (he := by rfl) (hP := by exact ⟨trivial, trivial⟩) ?_
        intro h4 tk4 F
        rw [qm_eq]
        by_cases hc34 : c = 34
        · subst hc34
          simp only [decide_true, if_true]
          refine wpAny_execs_cons (wpAny_If (wpAny_isTrue_BoolOp (wpAny_allTrue_Or_cons ?_)))
          refine testE (n := 1) F (FEnv.nil (lv := 0)) (A_deep hh) (hd' _) (he := by rfl) (hP := by exact ⟨trivial, trivial⟩) fun h5 tk5 k5 => ?_
          have F := F.grow k5
          by_cases hn : (x.length : Int) ≤ (j : Int) + 1
          · simp only [decide_eq_true hn, if_true]
            have : x.cps.toList.drop (j + 1) = [] := List.drop_eq_nil_iff.mpr (by omega)
            have hnil : parseS (34 :: x.cps.toList.drop (j + 1)) = [] := by rw [this]; rfl
            rw [hnil, List.append_nil] at hinv
            have e : (⟨d.toArray⟩ : Str) = parseX x := by unfold parseX; rw [← hinv]
            rw [e] at F
            exact wpAny_execs_cons (wpAny_Break (.inr ⟨rfl, [("dirname", .str (parseX x))], _, _, m3, rfl, rfl, F.less (sub_cons (by rfl) sub_nil)⟩))
          · simp only [decide_eq_false hn, Bool.false_eq_true, if_false]
            have hj1 : j + 1 < x.cps.toList.length := by omega
            have hdrop1 : x.cps.toList.drop (j + 1) = x.cps.getD (j + 1) 0 :: x.cps.toList.drop (j + 2) := by
              rw [List.drop_eq_getElem_cons hj1]
              congr 1
              simp [Array.getD, show j + 1 < x.cps.size by rw [show x.cps.size = x.length from rfl]; omega]
            refine wpAny_allTrue_Or_cons ?_
            refine testE (n := 2) F (FEnv.nil (lv := 0)) (A_deep hh) (hd' _) (he := by rfl) (hP := ?p3) fun h6 tk6 k6 => ?_
            case p3 => exact ⟨⟨trivial, trivial, by omega, by omega, by omega⟩, trivial⟩
            have F := F.grow k6
            rw [qm_ne, show ((j : Int) + 1).toNat = j + 1 by omega]
            by_cases he : x.cps.getD (j + 1) 0 = 34
            · simp only [he, ne_eq, not_true_eq_false, decide_false, Bool.false_eq_true, if_false]
              refine wpAny_allTrue_Or_nil ?_
              simp only [Bool.false_eq_true, if_false]
              refine wpAny_execs_nil ?_
              rw [hdrop1, he, parse_two] at hinv
              refine asgL (n := 2) F (FEnv.nil (lv := 0)) (A_deep hh) (hd' _) (by rfl) (by decide) (he := by rfl) (hP := by exact ⟨trivial, trivial, trivial⟩) (by rfl) ?_
              intro h7 tk7 m7 F
              refine wpAny_execs_nil ?_
              refine asgL (n := 2) F (FEnv.nil (lv := 0)) (A_deep hh) (hd' _) (by rfl) (by decide) (he := by rfl) (hP := ?p2) (by rfl) ?_
              case p2 =>
                refine ⟨trivial, trivial, ?_⟩
                show d.toArray.size + 1 ≤ 1000
                simp; omega
              intro h8 tk8 m8 F
              rw [app_str, show ((j : Int) + 1 + 1) = ((j + 2 : Nat) : Int) by omega] at F
              refine wpAny_execs_nil (.inl ⟨rfl, x.length + 1 - (j + 2), _, h8, tk8, m8, by omega, rfl, ⟨j + 2, d ++ [34], rfl, by omega, ?_, ?_, rfl⟩, F.less (sub_cons (by rfl) (sub_cons (by rfl) (sub_cons (by rfl) (sub_cons (by rfl) sub_nil))))⟩)
              · rw [← hinv]; simp
              · simp; omega
            · simp only [he, ne_eq, not_false_eq_true, decide_true, if_true]
              have hnil : parseS (34 :: x.cps.toList.drop (j + 1)) = [] := by rw [hdrop1]; exact parse_stop he
              rw [hnil, List.append_nil] at hinv
              have e : (⟨d.toArray⟩ : Str) = parseX x := by unfold parseX; rw [← hinv]
              rw [e] at F
              exact wpAny_execs_cons (wpAny_Break (.inr ⟨rfl, [("dirname", .str (parseX x))], _, _, m3, rfl, rfl, F.less (sub_cons (by rfl) sub_nil)⟩))
        · rw [parse_one hc34] at hinv
          simp only [hc34, decide_false, Bool.false_eq_true, if_false]
          refine wpAny_execs_nil ?_
          refine asgL (n := 2) F (FEnv.nil (lv := 0)) (A_deep hh) (hd' _) (by rfl) (by decide) (he := by rfl) (hP := ?p2) (by rfl) ?_
          case p2 =>
            refine ⟨trivial, trivial, ?_⟩
            show d.toArray.size + 1 ≤ 1000
            simp; omega
          intro h5 tk5 m5 F
          rw [app_str] at F
          refine wpAny_execs_nil (.inl ⟨rfl, x.length + 1 - (j + 1), _, h5, tk5, m5, by omega, rfl, ⟨j + 1, d ++ [c], rfl, by omega, ?_, ?_, rfl⟩, F.less (sub_cons (by rfl) (sub_cons (by rfl) (sub_cons (by rfl) (sub_cons (by rfl) sub_nil))))⟩)
          · rw [← hinv]; simp
          · simp; omega
    · intro ρ' h tk m hD F
      have F := F.less (ρ' := [("dirname", .str (parseX x))]) (sub_cons hD sub_nil)
      refine retE (n := 1) F (FEnv.nil (lv := 0)) (A_deep hh) (hd' _) (he := by rfl) (hP := trivial) fun v h' tk' kk i => ?_
      exact k v h' tk' (F.keep.trans kk) (i.weak (fun _ z => z.1))
  · cases hden
end Mine

/-! TxtLaw27 -/
namespace Mine
open PySem PySem.Builtin PySem.Builtin.Str PySem.StrLaws PyProof.Rows

/-- what a replacing reads as -/
structure Repl (y z : List Nat) (G : List Nat → List Nat) : Prop where
  nil : G [] = []
  hit : ∀ l, l.take y.length = y → G l = z ++ G (l.drop y.length)
  miss : ∀ c l, (c :: l).take y.length ≠ y → G (c :: l) = c :: G l

theorem at_list {x y : Str} {k : Nat} (hy : 1 ≤ y.length) : At x y x.length k ↔ (x.cps.toList.drop k).take y.length = y.cps.toList := by
  unfold At
  rw [subAt_eq, beq_iff_eq]
  constructor
  · exact fun h => h.2
  · intro h
    refine ⟨?_, h⟩
    have := congrArg List.length h
    have e1 : y.cps.toList.length = y.length := by simp [Str.length]
    have e2 : x.cps.toList.length = x.length := by simp [Str.length]
    rw [List.length_take, List.length_drop, e1, e2] at this
    omega

theorem repl_skip {x y z : Str} {G : List Nat → List Nat} (R : Repl y.cps.toList z.cps.toList G) (hy : 1 ≤ y.length) : ∀ (n a b : Nat), a + n = b → b ≤ x.length → (∀ k, a ≤ k → k < b → ¬ At x y x.length k) →
    G (x.cps.toList.drop a) = (x.cps.toList.drop a).take n ++ G (x.cps.toList.drop b)
  | 0, a, b, e, _, _ => by
    have : a = b := by omega
    subst this
    simp
  | n + 1, a, b, e, hb, hn => by
    have e2 : x.cps.toList.length = x.length := by simp [Str.length]
    have hlt : a < x.cps.toList.length := by omega
    have e1 : y.cps.toList.length = y.length := by simp [Str.length]
    have ih := repl_skip (x := x) R hy n (a + 1) b (by omega) hb fun k h1 h2 => hn k (by omega) h2
    have hna := hn a (Nat.le_refl _) (by omega)
    rw [at_list hy] at hna
    rw [List.drop_eq_getElem_cons hlt] at hna ⊢
    rw [R.miss _ _ (by rw [e1]; exact hna), ih]
    rfl

theorem join_cons2 (z p : Str) {l : List Str} (h : ∃ q r, l = q :: r) : Str.join z (p :: l) = p ++ z ++ Str.join z l := by
  obtain ⟨q, r, rfl⟩ := h
  rfl

theorem repl_from {x y z : Str} {G : List Nat → List Nat} (R : Repl y.cps.toList z.cps.toList G) (hy : 1 ≤ y.length) : ∀ (cuts : List Nat) (a f : Nat), ChainG x y x.length a cuts f → (∀ k, f ≤ k → ¬ At x y x.length k) → a ≤ x.length →
    (Str.join z (partsFrom x y.length a cuts)).cps.toList = G (x.cps.toList.drop a)
  | [], a, f, h, hn, ha => by
    have e : f = a := h
    subst e
    have e2 : x.cps.toList.length = x.length := by simp [Str.length]
    rw [repl_skip R hy (x.length - f) f x.length (by omega) (Nat.le_refl _) fun k h1 _ => hn k h1, show x.cps.toList.drop x.length = [] from List.drop_eq_nil_iff.mpr (by omega), R.nil, List.append_nil]
    show (strSub x f x.length).cps.toList = _
    rw [strSub_toList]
  | c :: r, a, f, h, hn, ha => by
    obtain ⟨h1, h2, h3, h4⟩ := h
    have h2' := (at_list hy).mp h2
    have hc := h2.1
    have ih := repl_from R hy r (c + y.length) f h4 hn hc
    show (Str.join z (strSub x a c :: partsFrom x y.length (c + y.length) r)).cps.toList = _
    rw [join_cons2 _ _ (partsFrom_ne x y.length (c + y.length) r), repl_skip R hy (c - a) a c (by omega) (by omega) h3]
    have e1 : y.cps.toList.length = y.length := by simp [Str.length]
    rw [R.hit _ (by rw [e1]; exact h2'), e1, List.drop_drop, ← ih, ← strSub_toList]
    simp only [Str.cps_append, Array.toList_append, List.append_assoc]

theorem replace_list {x y z : Str} {G : List Nat → List Nat} (R : Repl y.cps.toList z.cps.toList G) (hy : 1 ≤ y.length) : (Txt.replace x y z).cps.toList = G x.cps.toList := by
  obtain ⟨f, hG, hn⟩ := occ_tight x y hy
  have key := repl_from R hy _ 0 f hG hn (Nat.zero_le _)
  rw [List.drop_zero] at key
  unfold Txt.replace
  have h0 : (y.length == 0) = false := by simp; omega
  rw [h0, Bool.false_and, Bool.or_false]
  split
  · rename_i he
    rw [List.isEmpty_iff.mp he] at key
    rw [← key]
    show _ = (strSub x 0 x.length).cps.toList
    rw [strSub_toList, List.drop_zero, List.take_of_length_le]
    simp [Str.length]
  · rw [glued_eq_join, partsBetween_eq, key]

def G1 : List Nat → List Nat
  | [] => []
  | [c] => [c]
  | c :: d :: r => if c = 34 ∧ d = 34 then 10 :: G1 r else c :: G1 (d :: r)
def G2 (l : List Nat) : List Nat := l.map fun c => if c = 10 then 34 else c

theorem repl1 : Repl [34, 34] [10] G1 where
  nil := rfl
  hit := fun l h => by
    match l, h with
    | c :: d :: r, h =>
      simp at h
      simp [G1, h.1, h.2]
  miss := fun c l h => by
    match l, h with
    | [], h => rfl
    | d :: r, h =>
      have : ¬ (c = 34 ∧ d = 34) := fun q => h (by simp [q.1, q.2])
      simp [G1, this]
theorem repl2 : Repl [10] [34] G2 where
  nil := rfl
  hit := fun l h => by
    match l, h with
    | c :: r, h =>
      simp at h
      simp [G2, h]
  miss := fun c l h => by
    have : ¬ c = 10 := fun q => h (by simp [q])
    simp [G2, this]

theorem told_list : ∀ l : List Nat, 10 ∉ l → G2 ((G1 l).takeWhile fun c => decide (c ≠ 34)) = parseS l
  | [], _ => rfl
  | [c], h => by
    have hc : c ≠ 10 := fun q => h (by simp [q])
    by_cases h34 : c = 34
    · subst h34; rfl
    · simp [G1, G2, parseS, h34, hc, List.takeWhile]
  | c :: d :: r, h => by
    have hc : c ≠ 10 := fun q => h (by simp [q])
    have hr : 10 ∉ r := fun q => h (by simp [q])
    have hdr : 10 ∉ d :: r := fun q => h (List.mem_cons_of_mem _ q)
    have ih1 := told_list r hr
    have ih2 := told_list (d :: r) hdr
    by_cases h34 : c = 34
    · subst h34
      by_cases hd : d = 34
      · subst hd
        rw [parse_two, ← ih1]
        simp [G1, G2, List.takeWhile]
      · rw [parse_stop hd]
        simp [G1, G2, hd, List.takeWhile]
    · rw [parse_one h34, ← ih2]
      simp [G1, G2, h34, hc, List.takeWhile]

theorem takeWhile_first {p : Nat → Bool} : ∀ (l : List Nat) (i : Nat) (c : Nat), l[i]? = some c → p c = false → (∀ k, k < i → ∀ d, l[k]? = some d → p d = true) → l.takeWhile p = l.take i
  | [], i, c, h, _, _ => by simp at h
  | a :: l, 0, c, h, hp, _ => by simp at h; subst h; simp [List.takeWhile, hp]
  | a :: l, i + 1, c, h, hp, hk => by
    have ha := hk 0 (by omega) a rfl
    have ih := takeWhile_first l i c (by simpa using h) hp fun k hk' d hd => hk (k + 1) (by omega) d (by simpa using hd)
    simp [List.takeWhile, ha, ih]
theorem takeWhile_self {p : Nat → Bool} : ∀ (l : List Nat), (∀ d ∈ l, p d = true) → l.takeWhile p = l
  | [], _ => rfl
  | a :: l, h => by
    have ih := takeWhile_self l fun d hd => h d (List.mem_cons_of_mem _ hd)
    simp [List.takeWhile, h a (by simp), ih]
theorem split_list {x z : Str} {c : Nat} (hc : c < 256) (hz : (Txt.split x ⟨#[c]⟩)[0]? = some z) : z.cps.toList = x.cps.toList.takeWhile fun d => decide (d ≠ c) := by
  rcases split_head x ⟨#[c]⟩ (by show (if (#[c] : Array Nat).all (· < 256) = true then 1 else if (#[c] : Array Nat).all (· < 65536) = true then 2 else 4) = 1; rw [if_pos (by simp [hc])]) z hz with ⟨rfl, hn⟩ | ⟨i, rfl, hi, hn⟩
  · refine (takeWhile_self _ ?_).symm
    intro d hd
    obtain ⟨i, hi⟩ := List.getElem?_of_mem hd
    refine decide_eq_true fun q => hn i ?_
    subst q
    exact (subAt_one z d i).mpr hi
  · rw [strSub_toList, List.drop_zero, takeWhile_first _ i c ((subAt_one x c i).mp hi) (by simp)]
    · rfl
    · intro k hk d hd
      refine decide_eq_true fun q => hn k hk ?_
      subst q
      exact (subAt_one x d k).mpr hd
theorem split_some (x y : Str) : ∃ z, (Txt.split x y)[0]? = some z := by
  unfold Txt.split
  split
  · exact ⟨x, rfl⟩
  · split
    · exact ⟨x, rfl⟩
    · rw [partsBetween_eq]
      obtain ⟨p, r, e⟩ := partsFrom_ne x y.length 0 (occurrences x y 0 x.length (x.length + 1))
      rw [e]; exact ⟨p, rfl⟩

def toldX (x : Str) : Str := Txt.replace ((Txt.split (Txt.replace x ("\"\"" : Str) ("\n" : Str)) ("\"" : Str)).getD 0 Str.empty) ("\n" : Str) ("\"" : Str)
theorem str_ext {a b : Str} (h : a.cps.toList = b.cps.toList) : a = b := by
  obtain ⟨⟨a⟩⟩ := a; obtain ⟨⟨b⟩⟩ := b
  cases h; rfl
theorem toldX_eq {x : Str} (h : 10 ∉ x.cps.toList) : toldX x = ⟨(parseS x.cps.toList).toArray⟩ := by
  apply str_ext
  unfold toldX
  obtain ⟨z, hz⟩ := split_some (Txt.replace x ("\"\"" : Str) ("\n" : Str)) ("\"" : Str)
  have e1 : (("\"\"" : Str)).cps.toList = [34, 34] := by decide
  have e2 : (("\n" : Str)).cps.toList = [10] := by decide
  have e3 : (("\"" : Str)).cps.toList = [34] := by decide
  have e4 : ("\"" : Str) = ⟨#[34]⟩ := by decide
  have q1 : (Txt.replace x ("\"\"" : Str) ("\n" : Str)).cps.toList = G1 x.cps.toList := replace_list (by rw [e1, e2]; exact repl1) (by decide)
  rw [replace_list (G := G2) (by rw [e2, e3]; exact repl2) (by decide)]
  have hz' := hz
  rw [e4] at hz
  have := split_list (by decide) hz
  rw [List.getD_eq_getElem?_getD, hz', Option.getD_some, this, q1, told_list _ h]
theorem dblX_eq (x : Str) : Txt.replace x ("\"" : Str) ("\"\"" : Str) = ⟨(StrLaws.dbl 34 x.cps.toList).toArray⟩ := replace_dbl x _ _ 34 (by decide) (by decide)
end Mine

/-! Told27 -/
namespace Mine
open PySem PySem.W PyProof.Rows PySem.Calls PyProof.V

section
variable {w : World} {A : Around} {s : Shared} {E : Value → Shared → Prop} {env : Env} {Q : Value → Shared → Prop} {o : Expr} {apos pos q1 q2 : Pos} {k1 k2 : Nat} {y z : Str}
/-- o.replace('y', 'z') -/
theorem replE (hbase : attributeBase o "replace" env (eval o env) = eval o env) (hline : (apos.endLine == pos.line) = true) (hyz : (y == z) = false) (hz : z.length ≤ 14)
    (hb : backTo pos (starEach [.Constant (.str y) k1 q1, .Constant (.str z) k2 q2] env) = [(false, eval (.Constant (.str y) k1 q1) env), (false, eval (.Constant (.str z) k2 q2) env)])
    (h : wpAny (model PR w) A (eval o env) (fun v s' => ∃ x t, v = .str x t ∧ x.length ≤ 1000 ∧ 1 ≤ s'.toks ∧ ∀ t' tk, 1 ≤ tk → Q (.str (Txt.replace x y z) t') { s' with toks := tk }) E s) :
    wpAny (model PR w) A (eval (.Call (.Attribute o "replace" apos) [.Constant (.str y) k1 q1, .Constant (.str z) k2 q2] [] pos) env) Q E s := by
  refine wpAny_Call_method2_late hbase hline hb (wpAny_mono h (fun v s' hv => ?_) fun _ _ e => e)
  obtain ⟨x, t, rfl, hx, htk, hq⟩ := hv
  refine ⟨"str", "str.replace", F.plainAttrs_str, F.slot_str_replace, F.type_str_replace, typeIs_str _ _ _, fun a e => (by cases e), ?_⟩
  refine callWith_builtin rfl (evalArgs_plain (spliced_cons (Calls.Constant_str (spliced_cons (Calls.Constant_str (spliced_nil ?_))))))
  show wpAny _ _ (call (.builtin "str.replace") [.str x t, .str y s'.toks, .str z (s'.toks + 1)]) _ _ _
  have h1 : s'.toks ≠ 0 := by omega
  have h2 : s'.toks + 1 ≠ 0 := by omega
  have h3 : s'.toks ≠ s'.toks + 1 := by omega
  refine wpAny_with_toks (n := s'.toks) (by show s'.toks ≤ s'.toks + 1 + 1; omega) (SC.replaceW h1 h2 h3 hyz (by omega) hz fun t' k hk => hq t' k (Nat.le_trans htk hk))
end

section
variable {w : World} {A : Around} {s : Shared} {E : Value → Shared → Prop} {env : Env} {Q : Value → Shared → Prop} {o : Expr} {apos pos q1 : Pos} {k1 : Nat} {y : Str}
/-- o.split('y') -/
theorem splitE (hbase : attributeBase o "split" env (eval o env) = eval o env) (hline : (apos.endLine == pos.line) = true) (hy : (y.length == 0) = false)
    (hb : backTo pos (starEach [.Constant (.str y) k1 q1] env) = [(false, eval (.Constant (.str y) k1 q1) env)])
    (h : wpAny (model PR w) A (eval o env) (fun v s' => ∃ x t, v = .str x t ∧ x.length ≤ 10000 ∧ 1 ≤ s'.toks ∧ ∀ D l h' tk, 1 ≤ tk → Sub s'.heap h' → l.map (·.1) = Txt.split x y → h'.IsList D (strValues l).toArray → Q (.ref D) { s' with heap := h', toks := tk }) E s) :
    wpAny (model PR w) A (eval (.Call (.Attribute o "split" apos) [.Constant (.str y) k1 q1] [] pos) env) Q E s := by
  refine wpAny_Call_method1_late hbase hline hb (wpAny_mono h (fun v s' hv => ?_) fun _ _ e => e)
  obtain ⟨x, t, rfl, hx, htk, hq⟩ := hv
  refine ⟨"str", "str.split", F.plainAttrs_str, F.slot_str_split, F.type_str_split, typeIs_str _ _ _, fun a e => (by cases e), ?_⟩
  refine callWith_builtin rfl (evalArgs_plain (spliced_cons (Calls.Constant_str (spliced_nil ?_))))
  show wpAny _ _ (call (.builtin "str.split") [.str x t, .str y s'.toks]) _ _ _
  refine wpAny_with_toks (n := s'.toks) (by show s'.toks ≤ s'.toks + 1; omega) (SCH.split1 (P := fun h => Sub s'.heap h) kept_sub Sub.rfl hy (fun D l h' k e hs hl hk => hq D l h' k (Nat.le_trans htk hk) hs e hl) ?_ ?_)
  · rw [sizeLine_eq]; omega
  · have h1 : (PySem.Builtin.Str.partsBetween x (PySem.Builtin.Str.occurrences x y 0 x.length (x.length + 1)) y.length).length ≤ (PySem.Builtin.Str.occurrences x y 0 x.length (x.length + 1)).length + 1 := by
      unfold PySem.Builtin.Str.partsBetween
      rw [List.length_map, List.length_zip]
      simp
    have h2 := StrLaws.occ_length_le x y 0 x.length (x.length + 1)
    rw [sizeLine_eq]; omega
/-- o[0] of a list of texts -/
theorem firstE {q2 : Pos} (hv : True)
    (h : wpAny (model PR w) A (eval o env) (fun v s' => ∃ D l z, v = .ref D ∧ s'.heap.IsList D (strValues l).toArray ∧ (l.map (·.1))[0]? = some z ∧ ∀ t', Q (.str z t') { s' with toks := s'.toks + 1 }) E s) :
    wpAny (model PR w) A (eval (.Subscript o (.Constant (.int 0) k1 q1) q2) env) Q E s := by
  refine Subscript_ (wpAny_mono h (fun v s' hv => ?_) fun _ _ e => e)
  obtain ⟨D, l, z, rfl, hl, hz, hq⟩ := hv
  refine wpAny_Constant_int ?_
  rw [List.getElem?_map] at hz
  obtain ⟨q, hq1, rfl⟩ := Option.map_eq_some_iff.mp hz
  exact tail_any (ops := [.ref D, .int 0 _]) hl.typeIs slot_list_getitem.lookup (wpAny_getItem_list hl (by decide) (by decide) (x := .str q.1 q.2) (by simp [strValues, hq1]) (hq _)) (by rfl)
end


theorem G1_len : ∀ l : List Nat, (G1 l).length ≤ l.length
  | [] => Nat.le_refl _
  | [_] => Nat.le_refl _
  | c :: d :: r => by
    have h1 := G1_len r
    have h2 := G1_len (d :: r)
    unfold G1
    split
    · simp only [List.length_cons] at *; omega
    · simp only [List.length_cons] at *; omega
theorem rep1_len (x : Str) : (Txt.replace x ("\"\"" : Str) ("\n" : Str)).length ≤ x.length := by
  have e1 : (("\"\"" : Str)).cps.toList = [34, 34] := by decide
  have e2 : (("\n" : Str)).cps.toList = [10] := by decide
  have q1 : (Txt.replace x ("\"\"" : Str) ("\n" : Str)).cps.toList = G1 x.cps.toList := replace_list (by rw [e1, e2]; exact repl1) (by decide)
  have := G1_len x.cps.toList
  rw [← q1] at this
  simpa [Str.length] using this
theorem split_len {x z : Str} (h : (Txt.split x ("\"" : Str))[0]? = some z) : z.length ≤ x.length := by
  have e4 : ("\"" : Str) = ⟨#[34]⟩ := by decide
  rw [e4] at h
  have := congrArg List.length (split_list (by decide) h)
  have h2 : ∀ (p : Nat → Bool) (l : List Nat), (l.takeWhile p).length ≤ l.length := fun p l => (List.takeWhile_prefix p).length_le
  have h3 := h2 (fun d => decide (d ≠ 34)) x.cps.toList
  rw [← this] at h3
  simpa [Str.length] using h3

/-- a call of _law_told -/
theorem told_call (w : World) (ok : Addr → Prop) (s : Shared) (A : Around) (E Q : Value → Shared → Prop) (x : Str) (t : Tok) (G : Gd w s.heap) (hd : A.depth + 1 < recursionLimit) (fresh : ∀ a, s.heap.get? a = none → ok a) (htk : 1 ≤ s.toks) (hx : x.length ≤ 1000)
    (k : ∀ t' h' tk, 1 ≤ tk → Sub s.heap h' → Q (.str (toldX x) t') { s with heap := h', toks := tk }) : wpAny (model PR w) A (PySem.call (.ref 84) [.str x t]) Q E s := by
  have hX := seen w
  revert hX; k_fill; intro _
  have I : IsAll w ok s.heap [.str x] [.str x t] := .cons ⟨t, rfl⟩ .nil
  refine' enterT (names := ["rest"]) G (by omega) fresh I ?k6 ?k7 ?k9 ?kl ?kn ?knc ?kk ?kd ?c2 ?c3 ?c4 ?_
  case k6 => k_is
  case k7 => k_is
  case k9 => exact rfl
  case kl => rfl
  case kn => decide
  case knc => decide
  case kk => decide
  case kd => decide
  case c2 => rfl
  case c3 => rfl
  case c4 => rfl
  intro L h₁ tk m hle F
  refine wpAny_execs_cons (wpAny_Return_some ?_)
  refine replE (by rfl) (by rfl) (by decide) (by decide) (by rfl) ?_
  refine firstE trivial ?_
  refine splitE (by rfl) (by rfl) (by rfl) (by rfl) ?_
  refine replE (by rfl) (by rfl) (by decide) (by decide) (by rfl) ?_
  refine F.nm (by rfl) fun v iv => ?_
  obtain ⟨t1, rfl⟩ := iv
  refine ⟨x, t1, rfl, hx, Nat.le_trans htk hle, fun t2 tk2 h2 => ?_⟩
  have hl1 := rep1_len x
  refine ⟨_, t2, rfl, by omega, h2, fun D l h3 tk3 hk3 s3 hl hD => ?_⟩
  obtain ⟨z, hz⟩ := split_some (Txt.replace x ("\"\"" : Str) ("\n" : Str)) ("\"" : Str)
  refine ⟨D, l, z, rfl, hD, by rw [hl]; exact hz, fun t4 => ?_⟩
  have hl2 := split_len hz
  refine ⟨z, t4, rfl, by omega, Nat.succ_le_succ (Nat.zero_le _), fun t5 tk5 hk5 => ?_⟩
  have e : toldX x = Txt.replace z ("\n" : Str) ("\"" : Str) := by
    unfold toldX
    rw [List.getD_eq_getElem?_getD, hz]; rfl
  have := k t5 h3 tk5 hk5 (F.keep.trans s3)
  rw [e] at this
  exact this
end Mine

/-! Tup27 -/
namespace Mine
open PySem PySem.W PyProof.Rows PySem.Calls PyProof.V

/-- two tables that are equal as dicts -/
def TEq (Da Db : List (Int × Int)) : Prop := Da.length = Db.length ∧ ∀ q ∈ Da, tget Db q.1 = some q.2
theorem rows_of {Db : List (Int × Int)} : ∀ {Da : List (Int × Int)}, (∀ q ∈ Da, tget Db q.1 = some q.2) → KeqRows (encT Db) (encT Da) true
  | [], _ => .nil
  | (k, v) :: r, h => by
    have h1 : PySem.Spec.lookup (.int k) (encT Db) = some (.int v) := by rw [lookup_enc, h (k, v) (by simp)]; rfl
    have h2 := rows_of (Da := r) fun q hq => h q (List.mem_cons_of_mem _ hq)
    have e : (PyData.eqv (.int v) (.int v) && true) = true := by simp [PyData.eqv]
    have := KeqRows.hit (v := .int v) h1 h2
    rw [e] at this
    exact this
theorem tab_conv {w w' : World} {prog' : Program} {h : Heap} {a : Addr} {D : List (PyData × PyData)} (T : IntTab PR w h a D) : IntTab prog' w' h a D := by
  obtain ⟨lo, kvs, ⟨o, es, ep, h1, h2, h3, h4, h5, h6⟩, hf⟩ := T
  refine ⟨lo, kvs, ⟨o, es, ep, h1, h2, h3, h4, ?_, h6⟩, hf⟩
  generalize es.toList = l at h5
  clear hf h6 h4 h3
  induction h5 with
  | nil => exact .nil
  | cons hk hv _ ih => exact .cons hk hv ih

section
variable {w : World} {ok : Addr → Prop} {A : Around} {E Q : Value → Shared → Prop} {s : Shared}
theorem ne_tabs {Da Db : List (Int × Int)} {u v : Value} (iu : Is w ok s.heap (.tab Da) u) (iv : Is w ok s.heap (.tab Db) v) (hu : A.units < cLine) (h : TEq Da Db) (q : Q (.bool false) s) : wpAny (model PR w) A (compareOp .NotEq u v) Q E s := by
  obtain ⟨a, rfl, _, Ta⟩ := iu
  obtain ⟨b, rfl, _, Tb⟩ := iv
  exact kne_tabs (knd := intKind PR w) (enc := PyData.int) PyProof.V.same_int Ta Tb (by rw [encT_len, encT_len]; exact h.1) hu (rows_of h.2) q
theorem eq_t5 {a b c d : Int} {Da Db : List (Int × Int)} {u v : Value} (iu : Is w ok s.heap (.t5 a b c d Da) u) (iv : Is w ok s.heap (.t5 a b c d Db) v) (hu : A.units + 1 < cLine) (h : TEq Da Db) (q : Q (.bool true) s) : wpAny (model PR w) A (compareOp .Eq u v) Q E s := by
  obtain ⟨l, t1, t2, t3, t4, d1, rfl, _, hd1, hl⟩ := iu
  obtain ⟨l', u1, u2, u3, u4, d2, rfl, _, hd2, hl'⟩ := iv
  have ii : ∀ (A : Around) (x : Int) (t t' : Tok), SeqAt.EqAt A s (.int x t) (.int x t') true := fun A x t t' => by
    have := SeqAt.EqAt.int_int (A := A) (s := s) x t x t'
    rw [beq_self_eq_true] at this
    exact this
  refine SeqAt.eq_tupleAt (e := fun _ => true) hl hl' (by omega) ?_ (by exact q)
  intro j h1 h2
  have hj : j < 5 := h1
  match j, hj with
  | 0, _ => exact ii _ _ _ _
  | 1, _ => exact ii _ _ _ _
  | 2, _ => exact ii _ _ _ _
  | 3, _ => exact ii _ _ _ _
  | 4, _ =>
    obtain ⟨a1, rfl, _, Ta⟩ := hd1
    obtain ⟨b1, rfl, _, Tb⟩ := hd2
    show SeqAt.EqAt A.in1 s (.ref a1) (.ref b1) true
    by_cases hab : a1 = b1
    · subst hab; exact SeqAt.EqAt.same _
    · refine SeqAt.EqAt.of_refs hab fun prog w' E Q hq => ?_
      exact keq_tabs (knd := intKind prog w') (enc := PyData.int) PyProof.V.same_int (tab_conv Ta) (tab_conv Tb) (by rw [encT_len, encT_len]; exact h.1) (by show A.units + 1 < cLine; exact hu) (rows_of h.2) hq
theorem add_t5 {a b c d : Int} {D : List (Int × Int)} {u dd : Value} {r : Addr} {t : Tok} (iu : Is w ok s.heap (.t3 a b c) u) (hd : IsTab w ok s.heap D dd) (hr : IsTup s.heap r #[.int d t, dd]) (fresh : ∀ a, s.heap.get? a = none → ok a) (k : Back w ok s (.t5 a b c d D) Q) :
    wpAny (model PR w) A (binaryOp .Add u (.ref r)) Q E s := by
  obtain ⟨l, t1, t2, t3, rfl, _, ht⟩ := iu
  obtain ⟨⟨cls, dd1, data, sl⟩, ho, hc, n, hdd⟩ := id ht
  obtain ⟨⟨cls2, dd2, data2, sl2⟩, ho2, hc2, n2, hdd2⟩ := id hr
  simp only at hc hdd hc2 hdd2
  subst hc hdd hc2 hdd2
  refine concat_meets ⟨_, ho, rfl⟩ ⟨_, ho2, rfl⟩ noFill_tuple_add seq_tuple_add PySem.F.slot_tuple_add PySem.F.entry_tuple_add (PySem.F.args_tuple_add_2 _ _)
        (tuple_addW2 l r _ _ n n2 dd1 dd2 sl sl2 (by simp) (by simp) (by rw [sizeLine_eq]; simp)) ⟨ho, ho2, ?_⟩
  exact k _ _ _ (Sub.push _ _) ⟨_, t1, t2, t3, t, dd, rfl, fresh _ (none_size _), IsTab.mono (fun a o oa e => ⟨oa, Sub.push _ _ a o e⟩) hd, ⟨_, Heap.get?_push_size _ rfl, rfl, _, rfl⟩⟩
end
end Mine

/-! Math27 -/
namespace Mine

/-! tables as functions -/
theorem tget_app (D : Tb) (k v j : Int) : tget (D ++ [(k, v)]) j = match tget D j with | some z => some z | none => if k = j then some v else none := by
  induction D with
  | nil => rfl
  | cons q D ih =>
    obtain ⟨a, b⟩ := q
    rw [List.cons_append]
    unfold tget
    split
    · rfl
    · rw [ih]
theorem tget_upd (D : Tb) (k v j : Int) : tget (D.map fun q => if q.1 = k then (q.1, v) else q) j = if j = k then (tget D j).map (fun _ => v) else tget D j := by
  induction D with
  | nil => simp [tget]
  | cons q D ih =>
    obtain ⟨a, b⟩ := q
    rw [List.map_cons]
    by_cases hak : a = k
    · subst hak
      by_cases haj : a = j
      · subst haj; simp [tget]
      · simp only [if_true, tget, haj, if_false, ih]
    · by_cases haj : a = j
      · subst haj; simp [tget, hak]
      · simp only [hak, if_false, tget, haj, ih]
theorem tget_none {D : Tb} {k : Int} (h : k ∉ keys D) : tget D k = none := by
  induction D with
  | nil => rfl
  | cons q D ih =>
    obtain ⟨a, b⟩ := q
    have h1 : a ≠ k := fun e => h (by simp [keys, e])
    have h2 : k ∉ keys D := fun e => h (by simp only [keys] at e ⊢; exact List.mem_cons_of_mem _ e)
    unfold tget
    rw [if_neg h1, ih h2]
theorem tg_none {D : Tb} {k : Int} (h : k ∉ keys D) : tg D k = 0 := by unfold tg; rw [tget_none h]; rfl
theorem any_keys (D : Tb) (k : Int) : (D.any fun q => decide (q.1 = k)) = decide (k ∈ keys D) := by
  rw [Bool.eq_iff_iff, List.any_eq_true, decide_eq_true_iff]
  simp only [keys, List.mem_map, decide_eq_true_eq]
theorem tg_put (D : Tb) (k v j : Int) : tg (tput D k v) j = if j = k then v else tg D j := by
  unfold tput tg
  rw [any_keys]
  by_cases h : k ∈ keys D
  · simp only [h, decide_true, if_true, tget_upd]
    by_cases hj : j = k
    · subst hj
      have := tget_keys h
      obtain ⟨z, hz⟩ := Option.isSome_iff_exists.mp this
      simp [hz]
    · simp [hj]
  · simp only [h, decide_false, Bool.false_eq_true, if_false, tget_app]
    by_cases hj : j = k
    · subst hj
      simp [tget_none h]
    · have : ¬ k = j := fun e => hj e.symm
      cases q : tget D j <;> simp [hj, this]
theorem tg_one (D : Tb) (q : Int × Int) (j : Int) : tg (addOne D q) j = tg D j + if j = q.1 then q.2 else 0 := by
  unfold addOne
  rw [tg_put]
  by_cases h : j = q.1
  · subst h
    simp only [if_true]
    unfold tg
    cases tget D q.1 <;> simp
  · simp [h]
def tgs (b : Tb) (j : Int) : Int := (b.map fun q => if j = q.1 then q.2 else 0).sum
theorem tg_addT (b : Tb) : ∀ (a : Tb) (j : Int), tg (addT a b) j = tg a j + tgs b j := by
  induction b with
  | nil => intro a j; simp [addT, tgs]
  | cons q b ih =>
    intro a j
    show tg (addT (addOne a q) b) j = _
    rw [ih, tg_one]
    simp only [tgs, List.map_cons, List.sum_cons]
    omega
theorem tgs_none {b : Tb} {j : Int} (h : j ∉ keys b) : tgs b j = 0 := by
  induction b with
  | nil => rfl
  | cons q b ih =>
    have h1 : ¬ j = q.1 := fun e => h (by simp [keys, e])
    have h2 : j ∉ keys b := fun e => h (by simp only [keys] at e ⊢; exact List.mem_cons_of_mem _ e)
    have := ih h2
    simp only [tgs] at this ⊢
    simp [h1, this]
theorem tgs_eq {b : Tb} (hn : (keys b).Nodup) (j : Int) : tgs b j = tg b j := by
  induction b with
  | nil => rfl
  | cons q b ih =>
    obtain ⟨a, z⟩ := q
    have hn' := List.nodup_cons.mp (show (a :: keys b).Nodup from hn)
    have := ih hn'.2
    by_cases h : j = a
    · subst h
      have h0 := tgs_none hn'.1
      simp only [tgs] at h0 ⊢
      simp [h0, tg, tget]
    · have h' : ¬ a = j := fun e => h e.symm
      simp only [tgs] at this ⊢
      simp only [List.map_cons, List.sum_cons, h, if_false, this]
      simp [tg, tget, h']
theorem tg_add {a b : Tb} (hn : (keys b).Nodup) (j : Int) : tg (addT a b) j = tg a j + tg b j := by rw [tg_addT, tgs_eq hn]
theorem tg_map (ks : List Int) (kf vf : Int → Int) (g : Int → Int) (hg : ∀ i j, kf i = j ↔ i = g j) (j : Int) : tg (ks.map fun i => (kf i, vf i)) j = if g j ∈ ks then vf (g j) else 0 := by
  induction ks with
  | nil => simp [tg, tget]
  | cons i ks ih =>
    simp only [tg] at ih ⊢
    simp only [List.map_cons, tget]
    by_cases h : kf i = j
    · have := (hg i j).mp h
      rw [if_pos h, if_pos (by rw [← this]; exact List.mem_cons_self), this]; rfl
    · have h2 : ¬ i = g j := fun e => h ((hg i j).mpr e)
      have h3 : ¬ g j = i := fun e => h2 e.symm
      simp [h, h3, ih]

/-! keys alone -/
def kput (ks : List Int) (k : Int) : List Int := if k ∈ ks then ks else ks ++ [k]
def kadd (a b : List Int) : List Int := b.foldl kput a
def kLong (ks : List Int) : List Int := kadd (kadd (ks.map fun i => i + 1) ks) ((ks.filter fun i => decide (0 < i)).map fun i => i - 1)
theorem keys_put (D : Tb) (k v : Int) : keys (tput D k v) = kput (keys D) k := by
  unfold tput kput
  rw [any_keys]
  by_cases h : k ∈ keys D
  · simp only [h, decide_true, if_true]
    simp only [keys, List.map_map]
    refine List.map_congr_left fun q _ => ?_
    by_cases hq : q.1 = k <;> simp [hq]
  · simp only [h, decide_false, Bool.false_eq_true, if_false]
    simp [keys]
theorem keys_add (b : Tb) : ∀ a : Tb, keys (addT a b) = kadd (keys a) (keys b) := by
  induction b with
  | nil => intro a; rfl
  | cons q b ih =>
    intro a
    show keys (addT (addOne a q) b) = kadd (kput (keys a) q.1) (keys b)
    rw [ih]
    unfold addOne
    rw [keys_put]
theorem keys_map (ks : List Int) (kf vf : Int → Int) : keys (ks.map fun i => (kf i, vf i)) = ks.map kf := by simp [keys]
theorem keys_long (D : Tb) (st rt : List Int) : keys (longT D st rt) = kLong (keys D) := by
  unfold longT kLong
  rw [keys_add, keys_add, keys_map, keys_map, keys_map (kf := fun i => i - 1), List.map_id']
theorem keys_scale (z : Int) (D : Tb) : keys (scaleT z D) = keys D := by unfold scaleT; rw [keys_map, List.map_id']
theorem kput_nodup {ks : List Int} {k : Int} (h : ks.Nodup) : (kput ks k).Nodup := by
  unfold kput
  split
  · exact h
  · rename_i hk
    rw [List.nodup_append]
    refine ⟨h, by simp, ?_⟩
    intro a ha b hb
    rw [List.mem_singleton] at hb
    subst hb
    exact fun e => hk (e ▸ ha)
theorem kadd_nodup {b : List Int} : ∀ {a : List Int}, a.Nodup → (kadd a b).Nodup := by
  induction b with
  | nil => intro a h; exact h
  | cons k b ih => intro a h; exact ih (kput_nodup h)
theorem kLong_nodup {ks : List Int} (h : ks.Nodup) : (kLong ks).Nodup := kadd_nodup (kadd_nodup (nodup_map (fun a b e => by omega) h))

/-! one step more -/
abbrev Fz := Int → Int
def opT (s r f : Fz) : Fz := fun k => f (k - 1) + s k * f k + (if 0 ≤ k then r k * f (k + 1) else 0)
theorem tg_long {D : Tb} (hn : (keys D).Nodup) (st rt : List Int) : tg (longT D st rt) = opT (ix st) (ix rt) (tg D) := by
  funext k
  unfold longT opT
  rw [tg_add, tg_add, tg_map (g := fun j => j - 1), tg_map (kf := fun i => i) (g := fun j => j), tg_map (kf := fun i => i - 1) (g := fun j => j + 1)]
  · have h1 : (if k - 1 ∈ keys D then tg D (k - 1) else 0) = tg D (k - 1) := by
      split
      · rfl
      · rename_i h; rw [tg_none h]
    have h2 : (if k ∈ keys D then ix st k * tg D k else 0) = ix st k * tg D k := by
      split
      · rfl
      · rename_i h; rw [tg_none h]; simp
    have h3 : (if k + 1 ∈ (keys D).filter (fun i => decide (0 < i)) then ix rt (k + 1 - 1) * tg D (k + 1) else 0) = if 0 ≤ k then ix rt k * tg D (k + 1) else 0 := by
      have hm : k + 1 ∈ (keys D).filter (fun i => decide (0 < i)) ↔ (k + 1 ∈ keys D ∧ 0 < k + 1) := by rw [List.mem_filter, decide_eq_true_iff]
      rw [show k + 1 - 1 = k by omega]
      by_cases h : k + 1 ∈ keys D
      · by_cases h0 : 0 ≤ k
        · rw [if_pos (hm.mpr ⟨h, by omega⟩), if_pos h0]
        · rw [if_neg (fun q => h0 (by have := (hm.mp q).2; omega)), if_neg h0]
      · rw [if_neg (fun q => h (hm.mp q).1), tg_none h]; simp
    rw [h1, h2, h3]
  · intro i j; omega
  · intro i j; exact Iff.rfl
  · intro i j; omega
  · rw [keys_map, List.map_id']; exact hn
  · rw [keys_map (kf := fun i => i - 1)]; exact nodup_map (fun a b e => by omega) (hn.filter _)
theorem tg_scale (z : Int) (D : Tb) (k : Int) : tg (scaleT z D) k = z * tg D k := by
  unfold scaleT
  rw [tg_map (kf := fun i => i) (g := fun j => j) (hg := fun _ _ => Iff.rfl)]
  split
  · rfl
  · rename_i h; rw [tg_none h]; simp
end Mine

/-! Poly27 -/
namespace Mine

/-- f + c g -/
def lin (f : Fz) (c : Int) (g : Fz) : Fz := fun k => f k + c * g k
def scl (c : Int) (f : Fz) : Fz := fun k => c * f k
section
variable (s r : Fz)
theorem opT_lin (f g : Fz) (c : Int) : opT s r (lin f c g) = lin (opT s r f) c (opT s r g) := by
  funext k
  simp only [opT, lin]
  split <;> grind
theorem opT_scl (f : Fz) (c : Int) : opT s r (scl c f) = scl c (opT s r f) := by
  funext k
  simp only [opT, scl]
  split <;> grind

/-- along a word: true a letter, false a mark -/
def fA : List Bool → Int → Fz → Fz
  | [], _, f => f
  | true :: w, a, f => fA w (a + 1) (lin (opT s r f) (-(s a)) f)
  | false :: w, a, f => fA w (a + 2) (scl (-(r a)) f)
theorem fA_lin : ∀ (w : List Bool) (a : Int) (f g : Fz) (c : Int), fA s r w a (lin f c g) = lin (fA s r w a f) c (fA s r w a g)
  | [], _, _, _, _ => rfl
  | true :: w, a, f, g, c => by
    unfold fA
    rw [← fA_lin w, opT_lin]
    congr 1
    funext k
    simp only [lin]; grind
  | false :: w, a, f, g, c => by
    unfold fA
    rw [← fA_lin w]
    congr 1
    funext k
    simp only [lin, scl]; grind
theorem fA_scl : ∀ (w : List Bool) (a : Int) (f : Fz) (c : Int), fA s r w a (scl c f) = scl c (fA s r w a f)
  | [], _, _, _ => rfl
  | true :: w, a, f, c => by
    unfold fA
    rw [← fA_scl w, opT_scl]
    congr 1
    funext k
    simp only [lin, scl]; grind
  | false :: w, a, f, c => by
    unfold fA
    rw [← fA_scl w]
    congr 1
    funext k
    simp only [scl]; grind

/-- all words of n signs -/
def words : Nat → List (List Bool)
  | 0 => [[]]
  | 1 => [[true]]
  | n + 2 => (words (n + 1)).map (true :: ·) ++ (words n).map (false :: ·)
/-- all words, added up -/
def U : Nat → Int → Fz → Fz
  | 0, _, f => f
  | 1, a, f => lin (opT s r f) (-(s a)) f
  | n + 2, a, f => lin (U (n + 1) (a + 1) (lin (opT s r f) (-(s a)) f)) (-(r a)) (U n (a + 2) f)
theorem U_words : ∀ (n : Nat) (a : Int) (f : Fz) (k : Int), ((words n).map fun w => fA s r w a f k).sum = U s r n a f k
  | 0, a, f, k => by simp [words, fA, U]
  | 1, a, f, k => by simp [words, fA, U]
  | n + 2, a, f, k => by
    have h1 := U_words (n + 1) (a + 1) (lin (opT s r f) (-(s a)) f) k
    have h2 := U_words n (a + 2) f k
    simp only [words, List.map_append, List.map_map, List.sum_append]
    have e1 : ((fun w => fA s r w a f k) ∘ fun x => true :: x) = fun w => fA s r w (a + 1) (lin (opT s r f) (-(s a)) f) k := rfl
    have e2 : ((fun w => fA s r w a f k) ∘ fun x => false :: x) = fun w => -(r a) * fA s r w (a + 2) f k := by
      funext w
      show fA s r w (a + 2) (scl (-(r a)) f) k = _
      rw [fA_scl]; rfl
    have e3 : ∀ (c : Int) (l : List (List Bool)) (g : List Bool → Int), (l.map fun w => c * g w).sum = c * (l.map g).sum := by
      intro c l g
      induction l with
      | nil => simp
      | cons x l ih => simp only [List.map_cons, List.sum_cons, ih]; grind
    rw [e1, e2, h1, e3, h2]
    simp only [U, lin]

theorem U_lin : ∀ (n : Nat) (a : Int) (f g : Fz) (c : Int), U s r n a (lin f c g) = lin (U s r n a f) c (U s r n a g)
  | 0, _, _, _, _ => rfl
  | 1, a, f, g, c => by
    simp only [U, opT_lin]
    funext k
    simp only [lin]; grind
  | n + 2, a, f, g, c => by
    simp only [U]
    rw [opT_lin, U_lin n]
    have : lin (lin (opT s r f) c (opT s r g)) (-(s a)) (lin f c g) = lin (lin (opT s r f) (-(s a)) f) c (lin (opT s r g) (-(s a)) g) := by
      funext k
      simp only [lin]; grind
    rw [this, U_lin (n + 1)]
    funext k
    simp only [lin]; grind
theorem U_op : ∀ (n : Nat) (a : Int) (f : Fz), U s r n a (opT s r f) = opT s r (U s r n a f)
  | 0, _, _ => rfl
  | 1, a, f => by simp only [U, opT_lin]
  | n + 2, a, f => by
    simp only [U]
    rw [← opT_lin, U_op n, U_op (n + 1), opT_lin]

/-- the last sign first -/
theorem U_back : ∀ (n : Nat) (a : Int) (f : Fz), U s r (n + 2) a f = lin (lin (opT s r (U s r (n + 1) a f)) (-(s (a + n + 1))) (U s r (n + 1) a f)) (-(r (a + n))) (U s r n a f)
  | 0, a, f => by
    simp only [U]
    congr 3 <;> simp
  | 1, a, f => by
    have h := U_back 0 (a + 1) (lin (opT s r f) (-(s a)) f)
    have h0 : U s r (1 + 2) a f = lin (U s r (0 + 2) (a + 1) (lin (opT s r f) (-(s a)) f)) (-(r a)) (U s r 1 (a + 2) f) := rfl
    rw [h0, h]
    simp only [U, opT_lin]
    have e1 : a + 1 + ((0 : Nat) : Int) + 1 = a + 2 := by omega
    have e2 : a + 1 + ((0 : Nat) : Int) = a + 1 := by omega
    have e3 : a + ((1 : Nat) : Int) + 1 = a + 2 := by omega
    have e4 : a + ((1 : Nat) : Int) = a + 1 := by omega
    have e5 : a + 1 + 1 = a + 2 := by omega
    simp only [e1, e2, e3, e4, e5]
    funext k
    simp only [lin]; grind
  | n + 2, a, f => by
    have h1 := U_back (n + 1) (a + 1) (lin (opT s r f) (-(s a)) f)
    have h2 := U_back n (a + 2) f
    rw [U, h1, h2]
    have h3 : U s r (n + 2 + 1) a f = lin (U s r (n + 1 + 1) (a + 1) (lin (opT s r f) (-(s a)) f)) (-(r a)) (U s r (n + 1) (a + 2) f) := rfl
    have h4 : U s r (n + 2) a f = lin (U s r (n + 1) (a + 1) (lin (opT s r f) (-(s a)) f)) (-(r a)) (U s r n (a + 2) f) := rfl
    rw [h3, h4, opT_lin]
    have e1 : a + 1 + ((n + 1 : Nat) : Int) + 1 = a + ((n + 2 : Nat) : Int) + 1 := by omega
    have e2 : a + 1 + ((n + 1 : Nat) : Int) = a + ((n + 2 : Nat) : Int) := by omega
    have e3 : a + 2 + (n : Int) + 1 = a + ((n + 2 : Nat) : Int) + 1 := by omega
    have e4 : a + 2 + (n : Int) = a + ((n + 2 : Nat) : Int) := by omega
    simp only [e1, e2, e3, e4]
    funext k
    simp only [lin]; grind

/-- the table with 1 under d -/
def e1 (d : Int) : Fz := fun k => if k = d then 1 else 0
theorem op_e (d : Int) (hd : 1 ≤ d) : opT s r (e1 d) = lin (lin (e1 (d + 1)) (s d) (e1 d)) (r (d - 1)) (e1 (d - 1)) := by
  funext k
  simp only [opT, lin, e1]
  by_cases h1 : k = d + 1
  · subst h1
    have a1 : d + 1 - 1 = d := by omega
    have a2 : ¬ d + 1 = d := by omega
    have a3 : ¬ d + 1 + 1 = d := by omega
    have a4 : ¬ d + 1 = d - 1 := by omega
    simp [a1, a2, a3, a4]
  · by_cases h2 : k = d
    · subst h2
      have a1 : ¬ k - 1 = k := by omega
      have a2 : ¬ k + 1 = k := by omega
      have a3 : ¬ k = k + 1 := by omega
      have a4 : ¬ k = k - 1 := by omega
      simp [a1, a2, a3, a4]
    · by_cases h3 : k = d - 1
      · subst h3
        have a1 : ¬ d - 1 - 1 = d := by omega
        have a2 : ¬ d - 1 = d := by omega
        have a3 : d - 1 + 1 = d := by omega
        have a4 : ¬ d - 1 = d + 1 := by omega
        have a5 : 0 ≤ d - 1 := by omega
        simp [a1, a2, a3, a4, a5]
        intro h; omega
      · have a1 : ¬ k - 1 = d := by omega
        have a2 : ¬ k + 1 = d := by omega
        simp [h1, h2, h3, a1, a2]
theorem op_e0 : opT s r (e1 0) = lin (e1 1) (s 0) (e1 0) := by
  funext k
  simp only [opT, lin, e1]
  by_cases h1 : k = 1
  · subst h1; simp
  · by_cases h2 : k = 0
    · subst h2; simp
    · have a1 : ¬ k - 1 = 0 := by omega
      by_cases h3 : 0 ≤ k
      · have a2 : ¬ k + 1 = 0 := by omega
        simp [h1, h2, a1, a2]
      · simp [h1, h2, a1, h3]
theorem U_e : ∀ n : Nat, U s r n 0 (e1 0) = e1 n ∧ U s r (n + 1) 0 (e1 0) = e1 (n + 1)
  | 0 => by
    refine ⟨rfl, ?_⟩
    simp only [U, op_e0]
    funext k
    simp only [lin]
    show _ = e1 (((0 : Nat) : Int) + 1) k
    have : ((0 : Nat) : Int) + 1 = 1 := by omega
    rw [this]; grind
  | n + 1 => by
    obtain ⟨h1, h2⟩ := U_e n
    refine ⟨by rw [h2]; rfl, ?_⟩
    rw [U_back, h1, h2, op_e _ _ _ (by omega)]
    have a1 : (0 : Int) + n + 1 = n + 1 := by omega
    have a2 : (0 : Int) + n = n := by omega
    have a3 : (n : Int) + 1 - 1 = n := by omega
    rw [a1, a2, a3]
    have a4 : ((n + 1 : Nat) : Int) + 1 = (n : Int) + 1 + 1 := by omega
    rw [a4]
    funext k
    simp only [lin]; grind

/-- runs of two steps from n, out of those from 0 -/
theorem U_runs (n : Nat) : U s r n 0 (opT s r (opT s r (e1 0))) = opT s r (opT s r (e1 n)) := by rw [U_op, U_op, (U_e s r n).1]
end
end Mine

/-! Plain27 -/
namespace Mine

/-! along a word of signs -/
def alB (st rt : List Int) (z : Tb × Int) (b : Bool) : Tb × Int :=
  if b then (addT (longT z.1 st rt) (scaleT (-(ix st z.2)) z.1), z.2 + 1) else (scaleT (-(ix rt z.2)) z.1, z.2 + 2)
def alW (st rt : List Int) (w : List Bool) (z : Tb × Int) : Tb × Int := w.foldl (alB st rt) z
def kalB (z : List Int × Int) (b : Bool) : List Int × Int := if b then (kadd (kLong z.1) z.1, z.2 + 1) else (z.1, z.2 + 2)
def kalW (w : List Bool) (z : List Int × Int) : List Int × Int := w.foldl kalB z
theorem kalB_al (st rt : List Int) (z : Tb × Int) (b : Bool) : (keys (alB st rt z b).1, (alB st rt z b).2) = kalB (keys z.1, z.2) b := by
  unfold alB kalB
  cases b
  · simp [keys_scale]
  · simp [keys_add, keys_long, keys_scale]
theorem kalW_al (st rt : List Int) : ∀ (w : List Bool) (z : Tb × Int), (keys (alW st rt w z).1, (alW st rt w z).2) = kalW w (keys z.1, z.2)
  | [], _ => rfl
  | b :: w, z => by
    show (keys (alW st rt w (alB st rt z b)).1, (alW st rt w (alB st rt z b)).2) = kalW w (kalB (keys z.1, z.2) b)
    rw [kalW_al st rt w, kalB_al]
theorem alW_nodup {st rt : List Int} : ∀ (w : List Bool) (z : Tb × Int), (keys z.1).Nodup → (keys (alW st rt w z).1).Nodup
  | [], _, h => h
  | b :: w, z, h => by
    refine alW_nodup w (alB st rt z b) ?_
    unfold alB
    cases b
    · simp only [Bool.false_eq_true, if_false, keys_scale]; exact h
    · simp only [if_true, keys_add, keys_long, keys_scale]; exact kadd_nodup (kLong_nodup h)
theorem tg_alW {st rt : List Int} : ∀ (w : List Bool) (z : Tb × Int), (keys z.1).Nodup → tg (alW st rt w z).1 = fA (ix st) (ix rt) w z.2 (tg z.1)
  | [], _, _ => rfl
  | b :: w, z, h => by
    have hn := alW_nodup (st := st) (rt := rt) [b] z h
    have ih := tg_alW (st := st) (rt := rt) w (alB st rt z b) hn
    show tg (alW st rt w (alB st rt z b)).1 = _
    rw [ih]
    unfold alB
    cases b
    · simp only [Bool.false_eq_true, if_false, fA]
      congr 1
      funext k
      rw [tg_scale]; rfl
    · simp only [if_true, fA]
      congr 1
      funext k
      rw [tg_add (by rw [keys_scale]; exact h), tg_long h, tg_scale]; rfl

/-! all words together -/
abbrev F5 := Int × Int × Int × Int × Tb
def fStep (st rt : List Int) (D : Tb) (n : Int) (F : F5) (w : List Bool) : F5 :=
  (1 + F.1, (2 * w.length - n) + F.2.1, (n - w.length) + F.2.2.1, vsum (alW st rt w (D, 0)).1 + F.2.2.2.1, addT F.2.2.2.2 (alW st rt w (D, 0)).1)
def foundI (st rt : List Int) (D : Tb) (n : Int) (ws : List (List Bool)) : F5 := ws.foldl (fStep st rt D n) (0, 0, 0, 0, [])
def cStep (n : Int) (F : Int × Int × Int) (w : List Bool) : Int × Int × Int := (1 + F.1, (2 * w.length - n) + F.2.1, (n - w.length) + F.2.2)
def kStep (ks : List Int) (K : List Int) (w : List Bool) : List Int := kadd K (kalW w (ks, 0)).1

theorem vsum_upd {k v : Int} : ∀ {D : Tb}, (keys D).Nodup → k ∈ keys D → vsum (D.map fun q => if q.1 = k then (q.1, v) else q) = vsum D - tg D k + v
  | [], _, h => by simp [keys] at h
  | (a, b) :: D, hn, h => by
    have hn' := List.nodup_cons.mp (show (a :: keys D).Nodup from hn)
    by_cases hak : a = k
    · subst hak
      have : (D.map fun q => if q.1 = a then (q.1, v) else q) = D := by
        conv => rhs; rw [← List.map_id D]
        refine List.map_congr_left fun q hq => ?_
        have : ¬ q.1 = a := fun e => hn'.1 (e ▸ List.mem_map_of_mem hq)
        simp [this]
      simp only [List.map_cons, if_true, this]
      simp [vsum, tg, tget]; omega
    · have hm : k ∈ keys D := by
        rcases List.mem_cons.mp (show k ∈ a :: keys D from h) with e | e
        · exact absurd e.symm hak
        · exact e
      have ih := vsum_upd (v := v) hn'.2 hm
      have ht : tg ((a, b) :: D) k = tg D k := by simp [tg, tget, hak]
      rw [ht]
      simp only [List.map_cons, hak, if_false]
      simp only [vsum, List.map_cons, List.sum_cons] at ih ⊢
      omega
theorem vsum_one {D : Tb} (hn : (keys D).Nodup) (q : Int × Int) : vsum (addOne D q) = vsum D + q.2 := by
  have key : ∀ v, vsum (tput D q.1 v) = if q.1 ∈ keys D then vsum D - tg D q.1 + v else vsum D + v := by
    intro v
    unfold tput
    rw [any_keys]
    by_cases h : q.1 ∈ keys D
    · simp only [h, decide_true, if_true]; exact vsum_upd hn h
    · simp only [h, decide_false, Bool.false_eq_true, if_false]; simp [vsum]
  unfold addOne
  rw [key]
  by_cases h : q.1 ∈ keys D
  · obtain ⟨z, hz⟩ := Option.isSome_iff_exists.mp (tget_keys h)
    simp only [h, if_true, hz, tg, Option.getD_some]; omega
  · simp only [h, if_false, tget_none h]
theorem vsum_add {b : Tb} : ∀ {a : Tb}, (keys a).Nodup → vsum (addT a b) = vsum a + vsum b := by
  induction b with
  | nil => intro a _; simp [addT, vsum]
  | cons q b ih =>
    intro a hn
    show vsum (addT (addOne a q) b) = _
    have hn' : (keys (addOne a q)).Nodup := by unfold addOne; rw [keys_put]; exact kput_nodup hn
    rw [ih hn', vsum_one hn]
    simp [vsum]; omega
theorem vsum_keys {D : Tb} (hn : (keys D).Nodup) : vsum D = ((keys D).map (tg D)).sum := by
  have h : ∀ q ∈ D, tg D q.1 = q.2 := by
    intro q hq
    induction D with
    | nil => cases hq
    | cons p D ih =>
      obtain ⟨a, b⟩ := p
      have hn' := List.nodup_cons.mp (show (a :: keys D).Nodup from hn)
      rcases List.mem_cons.mp hq with rfl | hq
      · simp [tg, tget]
      · have hne : ¬ a = q.1 := fun e => hn'.1 (e ▸ List.mem_map_of_mem hq)
        have := ih hn'.2 hq
        simp only [tg] at this ⊢
        simp only [tget, hne, if_false, this]
  unfold vsum keys
  rw [List.map_map]
  congr 1
  exact List.map_congr_left fun q hq => (h q hq).symm
theorem tget_of {D : Tb} (hn : (keys D).Nodup) {q : Int × Int} (hq : q ∈ D) : tget D q.1 = some q.2 := by
  induction D with
  | nil => cases hq
  | cons p D ih =>
    obtain ⟨a, b⟩ := p
    have hn' := List.nodup_cons.mp (show (a :: keys D).Nodup from hn)
    rcases List.mem_cons.mp hq with rfl | hq
    · simp [tget]
    · have hne : ¬ a = q.1 := fun e => hn'.1 (e ▸ List.mem_map_of_mem hq)
      simp only [tget, hne, if_false, ih hn'.2 hq]
theorem perm_sum {a b : List Int} (h : a.Perm b) : a.sum = b.sum := by
  induction h with
  | nil => rfl
  | cons x _ ih => simp [ih]
  | swap x y l => simp only [List.sum_cons]; omega
  | trans _ _ ih1 ih2 => rw [ih1, ih2]
theorem teq_of {Da Db : Tb} (hn : (keys Da).Nodup) (hl : (keys Da).Perm (keys Db)) (hv : ∀ k ∈ keys Da, tg Da k = tg Db k) : TEq Da Db := by
  refine ⟨?_, fun q hq => ?_⟩
  · have := hl.length_eq
    simpa [keys] using this
  · have hk : q.1 ∈ keys Da := List.mem_map_of_mem hq
    obtain ⟨z, hz⟩ := Option.isSome_iff_exists.mp (tget_keys (hl.mem_iff.mp hk))
    have h1 := hv q.1 hk
    have h2 := tget_of hn hq
    simp only [tg, h2, hz, Option.getD_some] at h1
    rw [hz, h1]

section
variable {st rt : List Int} {D : Tb} (hD : (keys D).Nodup) (n : Int)
include hD
theorem found_inv : ∀ (ws : List (List Bool)) (F : F5), (keys F.2.2.2.2).Nodup →
    let G := ws.foldl (fStep st rt D n) F
    (G.1, G.2.1, G.2.2.1) = ws.foldl (cStep n) (F.1, F.2.1, F.2.2.1) ∧ keys G.2.2.2.2 = ws.foldl (kStep (keys D)) (keys F.2.2.2.2) ∧ (keys G.2.2.2.2).Nodup ∧
    (∀ k, tg G.2.2.2.2 k = tg F.2.2.2.2 k + (ws.map fun w => fA (ix st) (ix rt) w 0 (tg D) k).sum) ∧ G.2.2.2.1 + vsum F.2.2.2.2 = F.2.2.2.1 + vsum G.2.2.2.2
  | [], F, h => ⟨rfl, rfl, h, fun k => by simp, by simp⟩
  | w :: ws, F, h => by
    have hw := alW_nodup (st := st) (rt := rt) w (D, 0) hD
    have hk : keys (alW st rt w (D, 0)).1 = (kalW w (keys D, 0)).1 := congrArg Prod.fst (kalW_al st rt w (D, 0))
    have h' : (keys (fStep st rt D n F w).2.2.2.2).Nodup := by
      show (keys (addT _ _)).Nodup
      rw [keys_add]; exact kadd_nodup h
    obtain ⟨i1, i2, i3, i4, i5⟩ := found_inv ws (fStep st rt D n F w) h'
    refine ⟨i1, ?_, i3, fun k => ?_, ?_⟩
    · refine i2.trans ?_
      show List.foldl (kStep (keys D)) (keys (addT F.2.2.2.2 (alW st rt w (D, 0)).1)) ws = List.foldl (kStep (keys D)) (kStep (keys D) (keys F.2.2.2.2) w) ws
      rw [keys_add, hk]; rfl
    · refine (i4 k).trans ?_
      show tg (addT F.2.2.2.2 (alW st rt w (D, 0)).1) k + _ = _
      rw [tg_add hw, tg_alW w (D, 0) hD]
      simp only [List.map_cons, List.sum_cons]
      omega
    · have e1 : (fStep st rt D n F w).2.2.2.1 = vsum (alW st rt w (D, 0)).1 + F.2.2.2.1 := rfl
      have e2 : vsum (fStep st rt D n F w).2.2.2.2 = vsum F.2.2.2.2 + vsum (alW st rt w (D, 0)).1 := vsum_add h
      show (List.foldl (fStep st rt D n) (fStep st rt D n F w) ws).2.2.2.1 + _ = F.2.2.2.1 + vsum (List.foldl (fStep st rt D n) (fStep st rt D n F w) ws).2.2.2.2
      rw [e1, e2] at i5
      omega
end

/-! runs of two steps -/
def runsT (d : Int) (st rt : List Int) : Tb := longT (longT [(d, 1)] st rt) st rt
theorem keys_runs (d : Int) (st rt : List Int) : keys (runsT d st rt) = kLong (kLong [d]) := by unfold runsT; rw [keys_long, keys_long]; rfl
theorem tg_runs (d : Int) (st rt : List Int) : tg (runsT d st rt) = opT (ix st) (ix rt) (opT (ix st) (ix rt) (e1 d)) := by
  have h1 : (keys [(d, (1 : Int))]).Nodup := by simp [keys]
  have h2 : tg [(d, (1 : Int))] = e1 d := by
    funext k
    simp only [tg, tget, e1]
    by_cases h : d = k
    · subst h; simp
    · have : ¬ k = d := fun e => h e.symm
      simp [h, this]
  unfold runsT
  rw [tg_long (by rw [keys_long]; exact kLong_nodup h1), tg_long h1, h2]
theorem keys_two (d : Int) (st rt : List Int) : keys (twoT d st rt) = rngL 0 (d + 3) := by unfold twoT; rw [keys_map (kf := fun e => e), List.map_id']
theorem tg_two (d : Int) (st rt : List Int) (k : Int) : tg (twoT d st rt) k = if k ∈ rngL 0 (d + 3) then (waysAt d st rt k).sum else 0 := by
  unfold twoT
  rw [tg_map (kf := fun e => e) (g := fun j => j) (hg := fun _ _ => Iff.rfl)]
end Mine

/-! Plain28 -/
namespace Mine

theorem priceV_ix (d e : Int) (st rt : List Int) : priceV d e st rt = if d < e then 1 else if e = d then ix st d else ix rt e := rfl
theorem two_at (n k : Int) (ms : List Int) (st rt : List Int) (h : (midsL n).filter (near k) = ms) (hv : (ms.map (wayV n st rt k)).sum = opT (ix st) (ix rt) (opT (ix st) (ix rt) (e1 n)) k) :
    (waysAt n st rt k).sum = opT (ix st) (ix rt) (opT (ix st) (ix rt) (e1 n)) k := by
  unfold waysAt; rw [h, hv]
theorem two0 (st rt : List Int) : ∀ k ∈ rngL 0 (0 + 3), (waysAt 0 st rt k).sum = opT (ix st) (ix rt) (opT (ix st) (ix rt) (e1 0)) k := by
  have e : rngL 0 (0 + 3) = [0, 1, 2] := by decide
  rw [e]
  intro k hk
  simp only [List.mem_cons, List.not_mem_nil, or_false] at hk
  rcases hk with rfl | rfl | rfl
  · refine two_at 0 0 [0, 1] st rt (by decide) ?_
    simp [wayV, priceV_ix, opT, e1] <;> grind
  · refine two_at 0 1 [0, 1] st rt (by decide) ?_
    simp [wayV, priceV_ix, opT, e1] <;> grind
  · refine two_at 0 2 [1] st rt (by decide) ?_
    simp [wayV, priceV_ix, opT, e1] <;> grind
theorem two3 (st rt : List Int) : ∀ k ∈ rngL 0 (3 + 3), (waysAt 3 st rt k).sum = opT (ix st) (ix rt) (opT (ix st) (ix rt) (e1 3)) k := by
  have e : rngL 0 (3 + 3) = [0, 1, 2, 3, 4, 5] := by decide
  rw [e]
  intro k hk
  simp only [List.mem_cons, List.not_mem_nil, or_false] at hk
  rcases hk with rfl | rfl | rfl | rfl | rfl | rfl
  · refine two_at 3 0 [] st rt (by decide) ?_
    simp [wayV, priceV_ix, opT, e1] <;> grind
  · refine two_at 3 1 [2] st rt (by decide) ?_
    simp [wayV, priceV_ix, opT, e1] <;> grind
  · refine two_at 3 2 [2, 3] st rt (by decide) ?_
    simp [wayV, priceV_ix, opT, e1] <;> grind
  · refine two_at 3 3 [2, 3, 4] st rt (by decide) ?_
    simp [wayV, priceV_ix, opT, e1] <;> grind
  · refine two_at 3 4 [3, 4] st rt (by decide) ?_
    simp [wayV, priceV_ix, opT, e1] <;> grind
  · refine two_at 3 5 [4] st rt (by decide) ?_
    simp [wayV, priceV_ix, opT, e1] <;> grind
theorem two4 (st rt : List Int) : ∀ k ∈ rngL 0 (4 + 3), (waysAt 4 st rt k).sum = opT (ix st) (ix rt) (opT (ix st) (ix rt) (e1 4)) k := by
  have e : rngL 0 (4 + 3) = [0, 1, 2, 3, 4, 5, 6] := by decide
  rw [e]
  intro k hk
  simp only [List.mem_cons, List.not_mem_nil, or_false] at hk
  rcases hk with rfl | rfl | rfl | rfl | rfl | rfl | rfl
  · refine two_at 4 0 [] st rt (by decide) ?_
    simp [wayV, priceV_ix, opT, e1] <;> grind
  · refine two_at 4 1 [] st rt (by decide) ?_
    simp [wayV, priceV_ix, opT, e1] <;> grind
  · refine two_at 4 2 [3] st rt (by decide) ?_
    simp [wayV, priceV_ix, opT, e1] <;> grind
  · refine two_at 4 3 [3, 4] st rt (by decide) ?_
    simp [wayV, priceV_ix, opT, e1] <;> grind
  · refine two_at 4 4 [3, 4, 5] st rt (by decide) ?_
    simp [wayV, priceV_ix, opT, e1] <;> grind
  · refine two_at 4 5 [4, 5] st rt (by decide) ?_
    simp [wayV, priceV_ix, opT, e1] <;> grind
  · refine two_at 4 6 [5] st rt (by decide) ?_
    simp [wayV, priceV_ix, opT, e1] <;> grind
theorem two5 (st rt : List Int) : ∀ k ∈ rngL 0 (5 + 3), (waysAt 5 st rt k).sum = opT (ix st) (ix rt) (opT (ix st) (ix rt) (e1 5)) k := by
  have e : rngL 0 (5 + 3) = [0, 1, 2, 3, 4, 5, 6, 7] := by decide
  rw [e]
  intro k hk
  simp only [List.mem_cons, List.not_mem_nil, or_false] at hk
  rcases hk with rfl | rfl | rfl | rfl | rfl | rfl | rfl | rfl
  · refine two_at 5 0 [] st rt (by decide) ?_
    simp [wayV, priceV_ix, opT, e1] <;> grind
  · refine two_at 5 1 [] st rt (by decide) ?_
    simp [wayV, priceV_ix, opT, e1] <;> grind
  · refine two_at 5 2 [] st rt (by decide) ?_
    simp [wayV, priceV_ix, opT, e1] <;> grind
  · refine two_at 5 3 [4] st rt (by decide) ?_
    simp [wayV, priceV_ix, opT, e1] <;> grind
  · refine two_at 5 4 [4, 5] st rt (by decide) ?_
    simp [wayV, priceV_ix, opT, e1] <;> grind
  · refine two_at 5 5 [4, 5, 6] st rt (by decide) ?_
    simp [wayV, priceV_ix, opT, e1] <;> grind
  · refine two_at 5 6 [5, 6] st rt (by decide) ?_
    simp [wayV, priceV_ix, opT, e1] <;> grind
  · refine two_at 5 7 [6] st rt (by decide) ?_
    simp [wayV, priceV_ix, opT, e1] <;> grind
end Mine

/-! Plain29 -/
namespace Mine

def duesT (n : Int) (st rt : List Int) : Tb := ((keys (twoT n st rt)).filter fun i => decide (n - 3 < i)).map fun i => (i, tg (twoT n st rt) i)
/-- what the tables must say, for one size -/
structure SizeOk (n : Nat) : Prop where
  two : ∀ st rt, ∀ k ∈ rngL 0 ((n : Int) + 3), (waysAt n st rt k).sum = opT (ix st) (ix rt) (opT (ix st) (ix rt) (e1 n)) k
  kdeep : (kLong (kLong [(n : Int)])).Perm ((rngL 0 ((n : Int) + 3)).filter fun i => decide ((n : Int) - 3 < i))
  kfound : ((words n).foldl (kStep (kLong (kLong [0]))) []).Perm (rngL 0 ((n : Int) + 3))
  cnt : (words n).foldl (cStep n) (0, 0, 0) = (cntI n).2
  pos : 3 ≤ n
  small : n ≤ 5
theorem size3 : SizeOk 3 := ⟨two3, by decide, by decide, by decide, by decide, by decide⟩
theorem size4 : SizeOk 4 := ⟨two4, by decide, by decide, by decide, by decide, by decide⟩
theorem size5 : SizeOk 5 := ⟨two5, by decide, by decide, by decide, by decide, by decide⟩

theorem runs_nodup (d : Int) (st rt : List Int) : (keys (runsT d st rt)).Nodup := by rw [keys_runs]; exact kLong_nodup (kLong_nodup (by simp))
theorem tg_two0 (st rt : List Int) {k : Int} (h : k ∈ rngL 0 (0 + 3)) : tg (twoT 0 st rt) k = opT (ix st) (ix rt) (opT (ix st) (ix rt) (e1 0)) k := by
  rw [tg_two, if_pos (show k ∈ rngL 0 (0 + 3) from h), two0 st rt k h]
theorem runs_eq (st rt : List Int) : TEq (runsT 0 st rt) (twoT 0 st rt) := by
  have hp : (keys (runsT 0 st rt)).Perm (keys (twoT 0 st rt)) := by rw [keys_runs, keys_two]; decide
  refine teq_of (runs_nodup 0 st rt) hp fun k hk => ?_
  have hk' := hp.mem_iff.mp hk
  rw [keys_two] at hk'
  rw [tg_runs, tg_two0 st rt hk']
section
variable {n : Nat} (H : SizeOk n) (st rt : List Int)
include H
theorem SizeOk.tg_two {k : Int} (h : k ∈ rngL 0 ((n : Int) + 3)) : tg (twoT n st rt) k = opT (ix st) (ix rt) (opT (ix st) (ix rt) (e1 n)) k := by
  rw [Mine.tg_two, if_pos h, H.two st rt k h]
theorem SizeOk.deep_eq : TEq (runsT n st rt) (duesT n st rt) := by
  have hp : (keys (runsT n st rt)).Perm (keys (duesT n st rt)) := by
    unfold duesT
    rw [keys_runs, keys_map (kf := fun i => i), List.map_id', keys_two]; exact H.kdeep
  refine teq_of (runs_nodup n st rt) hp fun k hk => ?_
  have hk' := hp.mem_iff.mp hk
  unfold duesT at hk' ⊢
  rw [keys_map (kf := fun i => i), List.map_id', keys_two] at hk'
  rw [tg_map (kf := fun i => i) (g := fun j => j) (hg := fun _ _ => Iff.rfl), keys_two, if_pos hk', tg_runs, H.tg_two st rt (List.mem_filter.mp hk').1]
theorem SizeOk.found_eq : ∃ Df, foundI st rt (runsT 0 st rt) n (words n) = ((cntI n).2.1, (cntI n).2.2.1, (cntI n).2.2.2, ((keys (twoT n st rt)).map (tg (twoT n st rt))).sum, Df) ∧ TEq Df (twoT n st rt) := by
  obtain ⟨h1, h2, h3, h4, h5⟩ := found_inv (st := st) (rt := rt) (runs_nodup 0 st rt) n (words n) (0, 0, 0, 0, []) .nil
  have hh : foundI st rt (runsT 0 st rt) n (words n) = List.foldl (fStep st rt (runsT 0 st rt) n) (0, 0, 0, 0, []) (words n) := rfl
  rw [hh]
  generalize List.foldl (fStep st rt (runsT 0 st rt) n) (0, 0, 0, 0, []) (words n) = G at h1 h2 h3 h4 h5
  obtain ⟨g1, g2, g3, g4, Df⟩ := G
  dsimp only at h1 h2 h3 h4 h5
  have hp : (keys Df).Perm (keys (twoT n st rt)) := by rw [h2, keys_runs, keys_two]; exact H.kfound
  have hv : ∀ k ∈ keys Df, tg Df k = tg (twoT n st rt) k := fun k hk => by
    have hk' := hp.mem_iff.mp hk
    rw [keys_two] at hk'
    rw [h4, U_words, tg_runs, U_runs, H.tg_two st rt hk']
    have : tg ([] : Tb) k = 0 := rfl
    omega
  refine ⟨Df, ?_, teq_of h3 hp hv⟩
  have hc := h1.trans H.cnt
  simp only [Prod.ext_iff] at hc
  have hs : g4 = ((keys (twoT n st rt)).map (tg (twoT n st rt))).sum := by
    have e0 : vsum ([] : Tb) = 0 := rfl
    have e1 : g4 = vsum Df := by omega
    rw [e1, vsum_keys h3, List.map_congr_left hv]
    exact perm_sum (hp.map _)
  rw [hc.1, hc.2.1, hc.2.2, hs]
end

/-! the steps along a word stay in the prices -/
def chkB (z : List Int × Int) (b : Bool) : Bool :=
  decide (z.1.length ≤ 50 ∧ (kLong z.1).length ≤ 100 ∧ 0 ≤ z.2) && (if b then (z.1.all fun i => decide (0 ≤ i ∧ i < 7 ∧ (0 < i → i - 1 < 6))) && decide (z.2 < 7) else decide (z.2 < 6))
def chkW : List Bool → List Int × Int → Bool
  | [], _ => true
  | b :: w, z => chkB z b && chkW w (kalB z b)
def StepOk (st rt : List Int) (z : Tb × Int) (b : Bool) : Prop :=
  z.1.length ≤ 50 ∧ (longT z.1 st rt).length ≤ 100 ∧ 0 ≤ z.2 ∧ (if b then LongOk z.1 st rt ∧ z.2 < st.length else z.2 < rt.length)
theorem keys_len (D : Tb) : (keys D).length = D.length := by simp [keys]
theorem longOk_of {st rt : List Int} (h1 : Small st) (h2 : Small rt) (l1 : st.length = 7) (l2 : rt.length = 6) {D : Tb} (hl : D.length ≤ 50) (h : ((keys D).all fun i => decide (0 ≤ i ∧ i < 7 ∧ (0 < i → i - 1 < 6))) = true) : LongOk D st rt := by
  refine ⟨hl, h1, h2, fun i hi => ?_⟩
  have := of_decide_eq_true (List.all_eq_true.mp h i hi)
  rw [l1, l2]
  exact ⟨this.1, by have := this.2.1; omega, fun h => by have := this.2.2 h; omega⟩
theorem chkB_ok {st rt : List Int} (h1 : Small st) (h2 : Small rt) (l1 : st.length = 7) (l2 : rt.length = 6) {z : Tb × Int} {b : Bool} (h : chkB (keys z.1, z.2) b = true) : StepOk st rt z b := by
  unfold chkB at h
  rw [Bool.and_eq_true, decide_eq_true_iff] at h
  obtain ⟨⟨a1, a2, a3⟩, h⟩ := h
  rw [keys_len] at a1
  refine ⟨a1, ?_, a3, ?_⟩
  · rw [← keys_len, keys_long]; exact a2
  · cases b
    · simp only [Bool.false_eq_true, if_false, decide_eq_true_iff] at h ⊢
      rw [l2]; omega
    · simp only [if_true, Bool.and_eq_true, decide_eq_true_iff] at h ⊢
      exact ⟨longOk_of h1 h2 l1 l2 a1 h.1, by rw [l1]; omega⟩
theorem chkW_ok {st rt : List Int} (h1 : Small st) (h2 : Small rt) (l1 : st.length = 7) (l2 : rt.length = 6) : ∀ (w : List Bool) (z : Tb × Int), chkW w (keys z.1, z.2) = true → ∀ i b, w[i]? = some b → StepOk st rt (alW st rt (w.take i) z) b
  | [], _, _, i, b, e => by simp at e
  | c :: w, z, h, i, b, e => by
    unfold chkW at h
    rw [Bool.and_eq_true] at h
    cases i with
    | zero =>
      cases e
      exact chkB_ok h1 h2 l1 l2 h.1
    | succ i =>
      have := chkW_ok h1 h2 l1 l2 w (alB st rt z c) (by rw [kalB_al]; exact h.2) i b (by simpa using e)
      exact this
def chkN (n : Nat) : Bool := (words n).all fun w => chkW w (kLong (kLong [0]), 0) && decide ((kalW w (kLong (kLong [0]), 0)).1.length ≤ 100) && decide (w.length ≤ 5)
theorem chk3 : chkN 3 = true := by decide
theorem chk4 : chkN 4 = true := by decide
theorem chk5 : chkN 5 = true := by decide
theorem chk_of {n : Nat} (h : chkN n = true) {st rt : List Int} {w : List Bool} (hw : w ∈ words n) : chkW w (keys (runsT 0 st rt), 0) = true ∧ (alW st rt w (runsT 0 st rt, 0)).1.length ≤ 100 ∧ w.length ≤ 5 := by
  have := List.all_eq_true.mp h w hw
  rw [Bool.and_eq_true, Bool.and_eq_true, decide_eq_true_iff, decide_eq_true_iff] at this
  refine ⟨by rw [keys_runs]; exact this.1.1, ?_, this.2⟩
  have e := congrArg Prod.fst (kalW_al st rt w (runsT 0 st rt, 0))
  rw [← keys_len]
  have e' : keys (alW st rt w (runsT 0 st rt, 0)).1 = (kalW w (keys (runsT 0 st rt), 0)).1 := e
  rw [e', keys_runs]
  exact this.1.2
def chkF (n : Nat) : Bool := (List.range (n + 10)).all fun i => decide ((((words n).take i).foldl (kStep (kLong (kLong [0]))) []).length ≤ 100)
theorem chkF3 : chkF 3 = true := by decide
theorem chkF4 : chkF 4 = true := by decide
theorem chkF5 : chkF 5 = true := by decide
theorem found_len {n : Nat} (h : chkF n = true) {st rt : List Int} {i : Nat} (hi : i < n + 10) : (foundI st rt (runsT 0 st rt) n ((words n).take i)).2.2.2.2.length ≤ 100 := by
  obtain ⟨h1, h2, h3, h4, h5⟩ := found_inv (st := st) (rt := rt) (runs_nodup 0 st rt) n ((words n).take i) (0, 0, 0, 0, []) .nil
  have := of_decide_eq_true (List.all_eq_true.mp h i (List.mem_range.mpr hi))
  have e : keys (foundI st rt (runsT 0 st rt) n ((words n).take i)).2.2.2.2 = ((words n).take i).foldl (kStep (kLong (kLong [0]))) [] := by
    refine h2.trans ?_
    rw [keys_runs]; rfl
  rw [← keys_len, e]; exact this
end Mine

/-! Names27 -/
namespace Mine
open PySem PySem.Builtin PySem.Builtin.Str PySem.StrLaws PyProof.Rows

def sgn (c : Nat) (b : Bool) : Nat := if b then c else 34
def strW (c : Nat) (w : List Bool) : Str := ⟨(w.map (sgn c)).toArray⟩
def textsB : Nat → List (List Bool)
  | 0 => [[]]
  | n + 1 => (textsB n).flatMap fun t => [t ++ [true], t ++ [false]]
def keepB : List Bool → Option (List Bool)
  | [] => some []
  | true :: t => (keepB t).map (true :: ·)
  | false :: false :: t => (keepB t).map (false :: ·)
  | false :: _ => none
theorem keep3 : (textsB 3).filterMap keepB = words 3 := by decide
theorem keep4 : (textsB 4).filterMap keepB = words 4 := by decide
theorem keep5 : (textsB 5).filterMap keepB = words 5 := by decide

theorem strW_list (c : Nat) (w : List Bool) : (strW c w).cps.toList = w.map (sgn c) := by simp [strW]
theorem texts_B (c : Nat) : ∀ n, textsL ⟨#[c]⟩ n = (textsB n).map (strW c)
  | 0 => by
    show [("" : Str)] = [strW c []]
    congr 1
  | n + 1 => by
    rw [textsL, textsB, texts_B c n, List.flatMap_map, List.map_flatMap]
    congr 1
    funext t
    have h1 : strW c t ++ (⟨#[c]⟩ : Str) = strW c (t ++ [true]) := by
      show (⟨(t.map (sgn c)).toArray ++ #[c]⟩ : Str) = _
      simp [strW, sgn]
    have h2 : strW c t ++ qm = strW c (t ++ [false]) := by
      have e4 : qm = ⟨#[34]⟩ := by decide
      rw [e4]
      show (⟨(t.map (sgn c)).toArray ++ #[34]⟩ : Str) = _
      simp [strW, sgn]
    rw [h1, h2]; rfl

section
variable {c : Nat} (hc : c ≠ 34) {tl : List Nat} (ht : tl.head? ≠ some 34)
include hc ht
omit hc in
theorem parse_end : parseS (34 :: tl) = [] := by
  cases tl with
  | nil => rfl
  | cons d r => exact parse_stop (by simpa using ht)
theorem keep_parse : ∀ t : List Bool, match keepB t with
    | some w => parseS (t.map (sgn c) ++ 34 :: tl) = w.map (sgn c) ∧ dbl 34 (w.map (sgn c)) = t.map (sgn c)
    | none => dbl 34 (parseS (t.map (sgn c) ++ 34 :: tl)) ≠ t.map (sgn c)
  | [] => ⟨parse_end ht, rfl⟩
  | true :: t => by
    have ih := keep_parse t
    have e : parseS ((true :: t).map (sgn c) ++ 34 :: tl) = c :: parseS (t.map (sgn c) ++ 34 :: tl) := parse_one hc
    rw [e]
    unfold keepB
    cases q : keepB t with
    | some w =>
      rw [q] at ih
      refine ⟨by rw [ih.1]; rfl, ?_⟩
      show dbl 34 (c :: w.map (sgn c)) = c :: t.map (sgn c)
      simp only [dbl, if_neg hc, ih.2]
    | none =>
      rw [q] at ih
      intro h
      simp only [dbl, if_neg hc] at h
      have h' : c :: dbl 34 (parseS (t.map (sgn c) ++ 34 :: tl)) = c :: t.map (sgn c) := h
      exact ih (List.cons.inj h').2
  | [false] => by
    show dbl 34 (parseS (34 :: 34 :: tl)) ≠ [34]
    rw [parse_two]
    simp [dbl]
  | false :: true :: t => by
    show dbl 34 (parseS (34 :: c :: (t.map (sgn c) ++ 34 :: tl))) ≠ 34 :: c :: t.map (sgn c)
    rw [parse_stop hc]
    simp [dbl]
  | false :: false :: t => by
    have ih := keep_parse t
    have e : parseS ((false :: false :: t).map (sgn c) ++ 34 :: tl) = 34 :: parseS (t.map (sgn c) ++ 34 :: tl) := parse_two _
    rw [e]
    unfold keepB
    cases q : keepB t with
    | some w =>
      rw [q] at ih
      refine ⟨by rw [ih.1]; rfl, ?_⟩
      show dbl 34 (34 :: w.map (sgn c)) = 34 :: 34 :: t.map (sgn c)
      simp only [dbl, if_true, ih.2]
    | none =>
      rw [q] at ih
      intro h
      simp only [dbl, if_true] at h
      have h' : 34 :: 34 :: dbl 34 (parseS (t.map (sgn c) ++ 34 :: tl)) = 34 :: 34 :: t.map (sgn c) := h
      exact ih (List.cons.inj (List.cons.inj h').2).2
end

/-- the name that a text gives, the tail behind it -/
def nameOf (text tail : Str) : Str := ⟨(parseS (text.cps.toList ++ 34 :: tail.cps.toList)).toArray⟩
def isName (tail text : Str) : Bool := Txt.replace (nameOf text tail) ("\"" : Str) ("\"\"" : Str) == text
def namesL (tail : Str) (ts : List Str) : List Str := (ts.filter (isName tail)).map fun t => nameOf t tail
theorem isName_list (tail text : Str) : isName tail text = decide (dbl 34 (parseS (text.cps.toList ++ 34 :: tail.cps.toList)) = text.cps.toList) := by
  unfold isName
  rw [dblX_eq, Bool.eq_iff_iff, beq_iff_eq, decide_eq_true_iff]
  constructor
  · intro h
    have := congrArg (fun x : Str => x.cps.toList) h
    simpa [nameOf] using this
  · intro h; apply str_ext; rw [← h]; simp [nameOf]
theorem names_B {c : Nat} (hc : c ≠ 34) {tail : Str} (ht : tail.cps.toList.head? ≠ some 34) : ∀ ts : List (List Bool), namesL tail (ts.map (strW c)) = (ts.filterMap keepB).map (strW c)
  | [] => rfl
  | t :: ts => by
    have ih := names_B hc ht ts
    have hk := keep_parse hc ht t
    rw [List.map_cons, List.filterMap_cons]
    unfold namesL at ih ⊢
    rw [List.filter_cons, isName_list, strW_list]
    cases q : keepB t with
    | some w =>
      rw [q] at hk
      obtain ⟨h1, h2⟩ := hk
      have h3 : nameOf (strW c t) tail = strW c w := by unfold nameOf; rw [strW_list, h1]; rfl
      rw [if_pos (decide_eq_true (by rw [h1]; exact h2)), List.map_cons, ih, h3]; rfl
    | none =>
      rw [q] at hk
      rw [if_neg (by rw [decide_eq_true_iff]; exact hk), ih]

theorem told_eq {text tail : Str} (h1 : 10 ∉ text.cps.toList) (h2 : 10 ∉ tail.cps.toList) : toldX (text ++ qm ++ tail) = nameOf text tail := by
  have e4 : qm = ⟨#[34]⟩ := by decide
  have e : (text ++ qm ++ tail).cps.toList = text.cps.toList ++ 34 :: tail.cps.toList := by
    rw [e4]
    show ((text.cps ++ #[34]) ++ tail.cps).toList = _
    simp
  rw [toldX_eq, e]; · rfl
  rw [e]
  simp [h1, h2]
theorem parse_eq {text tail : Str} : parseX (("257 \"" : Str) ++ text ++ qm ++ tail) = nameOf text tail := by
  have e4 : qm = ⟨#[34]⟩ := by decide
  have e5 : ("257 \"" : Str) = ⟨#[50, 53, 55, 32, 34]⟩ := by decide
  unfold parseX nameOf
  rw [e4, e5]
  show (⟨(parseS ((((#[50, 53, 55, 32, 34] ++ text.cps) ++ #[34]) ++ tail.cps).toList.drop 5)).toArray⟩ : Str) = _
  simp
end Mine

/-! LawH27 -/
namespace Mine
open PySem PySem.W PyProof.Rows PySem.Calls PyProof.V

section
variable {w : World} {ok : Addr → Prop} {env : Env} {mu : List Addr} {p : Heap} {m : Str → Option Value} {ρ : Rho} {A : Around} {s : Shared} {E : Value → Shared → Prop}

/-- _law_told(text + '"' + tail) -/
theorem toldE {Q : Value → Shared → Prop} {p1 p2 p3 p4 p5 p6 p7 : Pos} {kk : Nat} {t y : Str} (F : Fm w ok env mu p s.heap m ρ) (hd : A.depth + 1 < recursionLimit)
    (hk : env.kindOf "_law_told" = some .globalImplicit) (ht : ρ.lookup ("text" : Str) = some (AV.str t)) (hy : ρ.lookup ("tail" : Str) = some (AV.str y)) (hl : t.length + y.length ≤ 900)
    (k : ∀ t' h' tk, 1 ≤ tk → Sub s.heap h' → Q (.str (toldX (t ++ qm ++ y)) t') { s with heap := h', toks := tk }) :
    wpAny (model PR w) A (eval (.Call (.Name "_law_told" p1) [.BinOp (.BinOp (.Name "text" p2) .Add (.Constant (.str "\"") kk p3) p4) .Add (.Name "tail" p5) p6] [] p7) env) Q E s := by
  have hX := seen w
  revert hX; k_fill; intro _
  have G := F.gd.keeps F.keep
  have hq : qm.length = 1 := rfl
  refine Call_ (rd_gl G F.kind F.glob F.bi (v := .ref 84) hk (by decide) (.own (by k_is)) A _ _ s p1 Sub.rfl ?_) (by rfl)
  refine with1_own (by k_is) s A E Q env _ _ _ G (by rfl) (by rfl) ?_
  refine args_cons ?_ (by rfl)
  refine wpAny_BinOp (wpAny_BinOp (F.nm ht fun v iv => ?_))
  obtain ⟨t1, rfl⟩ := iv
  refine Calls.Constant_str ?_
  refine wpAny_with_toks (n := 1) (by show 1 ≤ s.toks + 1; omega) ?_
  refine add_str (fun t2 tk2 htk2 => ?_) (by rw [sizeLine_eq]; show t.length + qm.length ≤ _; omega)
  refine Fm.nm (s := { s with toks := tk2 }) F hy fun v iv => ?_
  obtain ⟨t3, rfl⟩ := iv
  refine wpAny_with_toks (n := 1) htk2 ?_
  refine add_str (fun t4 tk4 htk4 => ?_) (by rw [sizeLine_eq, str_len_append]; show t.length + qm.length + y.length ≤ _; omega)
  refine args_nil ⟨Sub.rfl, ?_⟩
  refine told_call w ok _ A E Q _ t4 G hd F.fresh htk4 ?_ fun t5 h5 tk5 hk5 s5 => k t5 h5 tk5 hk5 s5
  rw [str_len_append, str_len_append]; show t.length + qm.length + y.length ≤ _; omega

/-- x = e, x a local name; what else stands is told -/
theorem asgLk {Q : Flow → Shared → Prop} {rest : List Stmt} {lv n : Nat} {fs : Fns} {V : AV} {P : Prop} {x : Str} {px pos : Pos} {e : Expr} (F : Fm w ok env mu p s.heap m ρ) (fe : FEnv w lv env fs) (hh : A.handled = none) (hd : A.depth + lv < recursionLimit)
    (hx : env.kindOf x = some .local) (hdb : (x == ("__debug__" : Str)) = false) (he : evP fs ρ n e = some (V, P)) (hP : P) (hsw : swapsWith e (some (.Name x px)) pos.line env = pure false)
    (k : ∀ h' tk m', (∀ b o, b ≠ env.locals → s.heap.get? b = some o → h'.get? b = some o) → Fm w ok env mu p h' m' ((x, V) :: ρ) → wpAny (model PR w) A (execs rest env) Q E { s with heap := h', toks := tk }) : wpAny (model PR w) A (execs (.Assign [.Name x px] e pos :: rest) env) Q E s := by
  refine wpAny_execs_cons (wpAny_Assign_Name (ev_sound hh hd n e V P s E _ he hP (F.envOk fe) fun v h' tk kk i => ?_) hsw)
  have F' := F.grow kk
  exact wpAny_storeName_local hx F'.ns (fun h'' hn hs => k h'' _ _ (fun b o hb e => (hs.2 b hb).trans (kk b o e)) (F'.setL hx hdb i hn hs)) (notClass F'.kind)

/-- an object of the call's own changes no more -/
theorem Fm.thaw {d : Addr} {h : Heap} (F : Fm w (fun a => ok a ∧ a ≠ d) env (d :: mu) p h m ρ) (_hd : ok d) (hL : env.locals ∈ mu) (nok : ∀ a ∈ mu, ¬ ok a) : Fm w ok env mu p h m ρ :=
  { F with
    pmu := fun a ha => F.pmu a (List.mem_cons_of_mem _ ha)
    nok := nok
    Lmu := hL
    mex := fun a ha => F.mex a (List.mem_cons_of_mem _ ha)
    fresh := fun a e => (F.fresh a e).1
    vars := fun x V e => let ⟨hdb, v, i, q⟩ := F.vars x V e; ⟨hdb, v, i.weak fun _ z => z.1, q⟩ }
/-- what a name reads, told anew -/
theorem Fm.retell {h : Heap} {x : Str} {V U : AV} (F : Fm w ok env mu p h m ρ) (hx : ρ.lookup x = some V) (k : ∀ v, Is w ok h V v → Is w ok h U v) : Fm w ok env mu p h m ((x, U) :: ρ) :=
  have h' : ∀ y V', ((x, U) :: ρ).lookup y = some V' → (y == ("__debug__" : Str)) = false ∧ ∃ v, Is w ok h V' v ∧ Hold env h m y v := fun y V' e => by
    rcases lookup_cons_of e with ⟨rfl, rfl⟩ | ⟨_, e⟩
    · obtain ⟨hdb, v, i, q⟩ := F.vars _ V hx
      exact ⟨hdb, v, k v i, q⟩
    · exact F.vars y V' e
  { F with vars := h' }
end

theorem parseS_len : ∀ l : List Nat, (parseS l).length ≤ l.length
  | [] => Nat.le_refl _
  | [c] => by
    unfold parseS
    split <;> simp
  | c :: d :: r => by
    have h1 := parseS_len r
    have h2 := parseS_len (d :: r)
    unfold parseS
    split
    · split
      · simp only [List.length_cons] at *; omega
      · simp
    · simp only [List.length_cons] at *; omega
theorem nameOf_len (t y : Str) : (nameOf t y).length ≤ t.length + 1 + y.length := by
  have := parseS_len (t.cps.toList ++ 34 :: y.cps.toList)
  rw [List.length_append, List.length_cons] at this
  have e1 : t.cps.toList.length = t.length := by simp [Str.length]
  have e2 : y.cps.toList.length = y.length := by simp [Str.length]
  have e3 : (nameOf t y).length = (parseS (t.cps.toList ++ 34 :: y.cps.toList)).length := by simp [nameOf, Str.length]
  omega
theorem strs_snoc : ∀ {ys : List Value} {l : List Str} (x : Str) (t : Tok), StrsAre ys l → StrsAre (ys ++ [.str x t]) (l ++ [x])
  | _, _, x, t, .nil => .cons x t .nil
  | _, _, x, t, .cons y u r => .cons y u (strs_snoc x t r)
theorem namesL_snoc (tail : Str) (ts : List Str) (t : Str) : namesL tail (ts ++ [t]) = namesL tail ts ++ if isName tail t then [nameOf t tail] else [] := by
  unfold namesL
  rw [List.filter_append, List.map_append]
  congr 1
  cases h : isName tail t <;> simp [List.filter_cons, h]
theorem namesL_len (tail : Str) (ts : List Str) : (namesL tail ts).length ≤ ts.length := by
  unfold namesL
  rw [List.length_map]; exact List.length_filter_le _ _

theorem sgn_beq {c : Nat} (hc : c ≠ 34) (b : Bool) : ((⟨#[sgn c b]⟩ : Str) == (⟨#[c]⟩ : Str)) = b := by
  rw [Bool.eq_iff_iff, beq_iff_eq]
  cases b
  · constructor
    · intro h; injection h with h; simp [sgn] at h; exact absurd h.symm hc
    · intro h; cases h
  · exact ⟨fun _ => rfl, fun _ => rfl⟩
theorem alongS_B {c : Nat} (hc : c ≠ 34) (st rt : List Int) (z : Tb × Int) (b : Bool) : alongS ⟨#[c]⟩ st rt z (sgn c b) = alB st rt z b := by
  unfold alongS alB; rw [sgn_beq hc]
theorem alongI_B {c : Nat} (hc : c ≠ 34) (st rt : List Int) (D : Tb) (w : List Bool) : alongI ⟨#[c]⟩ st rt D (w.map (sgn c)) = alW st rt w (D, 0) := by
  unfold alongI alW
  generalize (D, (0 : Int)) = z
  induction w generalizing z with
  | nil => rfl
  | cons b w ih =>
    rw [List.map_cons, List.foldl_cons, List.foldl_cons, alongS_B hc]; exact ih _
theorem alOk_B {c : Nat} (hc : c ≠ 34) {st rt : List Int} {z : Tb × Int} {b : Bool} (h : StepOk st rt z b) : AlOk ⟨#[c]⟩ st rt z (sgn c b) := by
  unfold AlOk
  rw [sgn_beq hc]; exact h
theorem along_pre {c : Nat} (hc : c ≠ 34) {st rt : List Int} (h1 : Small st) (h2 : Small rt) (l1 : st.length = 7) (l2 : rt.length = 6) {D : Tb} {w : List Bool} (h : chkW w (keys D, 0) = true) :
    ∀ i ch, (strW c w).cps.toList[i]? = some ch → AlOk ⟨#[c]⟩ st rt (alongI ⟨#[c]⟩ st rt D ((strW c w).cps.toList.take i)) ch := by
  intro i ch e
  rw [strW_list, List.getElem?_map] at e
  obtain ⟨b, hb, rfl⟩ := Option.map_eq_some_iff.mp e
  rw [strW_list, ← List.map_take, alongI_B hc]
  exact alOk_B hc (chkW_ok h1 h2 l1 l2 w (D, 0) h i b hb)
theorem strW_len (c : Nat) (w : List Bool) : (strW c w).length = w.length := by simp [strW, Str.length]
def av5 (F : F5) : AV := .t5 F.1 F.2.1 F.2.2.1 F.2.2.2.1 F.2.2.2.2

/-! the numbers that the law draws -/
def stayL (l : List Int) : List Int := pickNums (pricesL l) (some 0) none (some 2)
def retL (l : List Int) : List Int := pickNums (pricesL l) (some 1) none (some 2)
theorem prices_at (l : List Int) : pricesL l = [0, 1, 2, 3, 4, 5, 6, 7, 8, 9, 10, 11, 12].map (priceAt l) := rfl
theorem price_le (l : List Int) (k : Int) : (priceAt l k).natAbs ≤ 1000 := by
  unfold priceAt
  generalize ix givenL k + (pickNums l (some k) none (some 13)).sum = z
  have h1 := Int.fmod_nonneg_of_pos z (show (0 : Int) < 2001 by decide)
  have h2 := Int.fmod_lt_of_pos z (show (0 : Int) < 2001 by decide)
  omega
theorem pick_at (l : List Int) (lo hi st : Option Int) (is : List Nat) (h : sliceRange (sliceBounds lo hi st 13).1 (sliceBounds lo hi st 13).2.1 (sliceBounds lo hi st 13).2.2 = is) : pickNums (pricesL l) lo hi st = is.filterMap (([0, 1, 2, 3, 4, 5, 6, 7, 8, 9, 10, 11, 12].map (priceAt l))[·]?) := by
  unfold pickNums
  have e : (pricesL l).length = 13 := rfl
  rw [e, h, prices_at]
theorem stay_eq (l : List Int) : stayL l = [0, 2, 4, 6, 8, 10, 12].map (priceAt l) := by
  unfold stayL
  rw [pick_at l _ _ _ [0, 2, 4, 6, 8, 10, 12] (by decide)]; rfl
theorem ret_eq (l : List Int) : retL l = [1, 3, 5, 7, 9, 11].map (priceAt l) := by
  unfold retL
  rw [pick_at l _ _ _ [1, 3, 5, 7, 9, 11] (by decide)]; rfl
theorem small_map (l ks : List Int) (h : ks.length < 1000) : Small (ks.map (priceAt l)) := ⟨by rw [List.length_map]; exact h, fun x hx => by
  obtain ⟨k, _, rfl⟩ := List.mem_map.mp hx
  exact price_le l k⟩
theorem stay_len (l : List Int) : (stayL l).length = 7 := by rw [stay_eq]; rfl
theorem ret_len (l : List Int) : (retL l).length = 6 := by rw [ret_eq]; rfl
theorem stay_small (l : List Int) : Small (stayL l) := by rw [stay_eq]; exact small_map _ _ (by decide)
theorem ret_small (l : List Int) : Small (retL l) := by rw [ret_eq]; exact small_map _ _ (by decide)
def tailOf (z : Int) : Str := [("" : Str), (" a" : Str), (" \"" : Str)].getD (z.fmod 3).toNat Str.empty
theorem tail_ok (z : Int) : (tailOf z).cps.toList.head? ≠ some 34 ∧ 10 ∉ (tailOf z).cps.toList ∧ (tailOf z).length ≤ 2 := by
  have h1 := Int.fmod_nonneg_of_pos z (show (0 : Int) < 3 by decide)
  have h2 := Int.fmod_lt_of_pos z (show (0 : Int) < 3 by decide)
  unfold tailOf
  have : (z.fmod 3).toNat = 0 ∨ (z.fmod 3).toNat = 1 ∨ (z.fmod 3).toNat = 2 := by omega
  rcases this with h | h | h <;> rw [h] <;> decide
theorem letter_ok (z : Int) : 35 ≤ (35 + z.fmod 50000) ∧ (35 + z.fmod 50000) ≤ 50034 := by
  have h1 := Int.fmod_nonneg_of_pos z (show (0 : Int) < 50000 by decide)
  have h2 := Int.fmod_lt_of_pos z (show (0 : Int) < 50000 by decide)
  omega
theorem size_ok (z : Int) : ∃ n : Nat, 3 + z.fmod 3 = (n : Int) ∧ (n = 3 ∨ n = 4 ∨ n = 5) := by
  have h1 := Int.fmod_nonneg_of_pos z (show (0 : Int) < 3 by decide)
  have h2 := Int.fmod_lt_of_pos z (show (0 : Int) < 3 by decide)
  exact ⟨(3 + z.fmod 3).toNat, by omega, by omega⟩
theorem text_mem {c n : Nat} {t : Str} (h : t ∈ textsL ⟨#[c]⟩ n) (hc : c ≠ 10) : t.length = n ∧ 10 ∉ t.cps.toList := by
  refine ⟨textsL_len rfl n t h, ?_⟩
  rw [texts_B] at h
  obtain ⟨b, _, rfl⟩ := List.mem_map.mp h
  rw [strW_list]
  intro hm
  obtain ⟨x, _, e⟩ := List.mem_map.mp hm
  cases x <;> simp [sgn] at e
  exact hc e
/-! small facts, told apart from the walk -/
def N3 (n : Nat) : Prop := n = 3 ∨ n = 4 ∨ n = 5
section
variable {n : Nat} (h : N3 n)
include h
theorem N3.le : n ≤ 5 := by unfold N3 at h; omega
theorem N3.int : 0 ≤ (n : Int) ∧ (n : Int) ≤ 5 := by unfold N3 at h; omega
theorem N3.cnt : 0 ≤ (n : Int) ∧ (n : Int) ≤ 100 := by unfold N3 at h; omega
theorem N3.keep : (textsB n).filterMap keepB = words n := by
  rcases h with rfl | rfl | rfl
  · exact keep3
  · exact keep4
  · exact keep5
theorem N3.size : SizeOk n := by
  rcases h with rfl | rfl | rfl
  · exact size3
  · exact size4
  · exact size5
theorem N3.chk : chkN n = true := by
  rcases h with rfl | rfl | rfl
  · exact chk3
  · exact chk4
  · exact chk5
theorem N3.chkF : chkF n = true := by
  rcases h with rfl | rfl | rfl
  · exact chkF3
  · exact chkF4
  · exact chkF5
theorem N3.few {i : Nat} (hi : i < (words n).length) : i < n + 10 := by
  have : (words n).length ≤ 8 := by rcases h with rfl | rfl | rfl <;> decide
  omega
theorem N3.long1 {st rt : List Int} (h1 : Small st) (h2 : Small rt) (l1 : st.length = 7) (l2 : rt.length = 6) : LongOk [((n : Int), 1)] st rt :=
  longOk_of h1 h2 l1 l2 (by simp) (by rcases h with rfl | rfl | rfl <;> decide)
theorem N3.long2 {st rt : List Int} (h1 : Small st) (h2 : Small rt) (l1 : st.length = 7) (l2 : rt.length = 6) : LongOk (longT [((n : Int), 1)] st rt) st rt := by
  refine longOk_of h1 h2 l1 l2 ?_ ?_
  · rw [← keys_len, keys_long]; rcases h with rfl | rfl | rfl <;> decide
  · rw [keys_long]; rcases h with rfl | rfl | rfl <;> decide
theorem N3.two {st rt : List Int} (h1 : Small st) (h2 : Small rt) (l1 : st.length = 7) (l2 : rt.length = 6) : (0 ≤ (n : Int) ∧ (n : Int) ≤ 100) ∧ (n : Int) + 1 < st.length ∧ (n : Int) < rt.length ∧ Small st ∧ Small rt := by
  unfold N3 at h
  exact ⟨by omega, by omega, by omega, h1, h2⟩
theorem N3.dueKeys (st rt : List Int) : (keys (twoT n st rt)).length ≤ 1000 := by
  unfold N3 at h
  rw [keys_two]; simp [rngL]; omega
theorem N3.room {ys : List Value} {c i : Nat} {tail : Str} (hS : StrsAre ys (namesL tail ((textsL ⟨#[c]⟩ n).take i))) : ys.toArray.size ≤ sizeLine := by
  have h1 : ys.length = (namesL tail ((textsL ⟨#[c]⟩ n).take i)).length := StrsAre.length hS
  have h2 := namesL_len tail ((textsL ⟨#[c]⟩ n).take i)
  have h3 : ((textsL ⟨#[c]⟩ n).take i).length ≤ (textsL ⟨#[c]⟩ n).length := List.length_take_le' _ _
  rw [textsL_length] at h3
  have h4 : 2 ^ n ≤ 2 ^ 5 := Nat.pow_le_pow_right (by decide) h.le
  rw [sizeLine_eq, List.size_toArray]; omega
end
theorem two_pre0 {st rt : List Int} (h1 : Small st) (h2 : Small rt) (l1 : st.length = 7) (l2 : rt.length = 6) : (0 ≤ (0 : Int) ∧ (0 : Int) ≤ 100) ∧ (0 : Int) + 1 < st.length ∧ (0 : Int) < rt.length ∧ Small st ∧ Small rt :=
  ⟨⟨by decide, by decide⟩, by omega, by omega, h1, h2⟩
theorem long01 {st rt : List Int} (h1 : Small st) (h2 : Small rt) (l1 : st.length = 7) (l2 : rt.length = 6) : LongOk [((0 : Int), 1)] st rt := longOk_of h1 h2 l1 l2 (by decide) (by decide)
theorem long02 {st rt : List Int} (h1 : Small st) (h2 : Small rt) (l1 : st.length = 7) (l2 : rt.length = 6) : LongOk (longT [((0 : Int), 1)] st rt) st rt := by
  refine longOk_of h1 h2 l1 l2 ?_ ?_
  · rw [← keys_len, keys_long]; decide
  · rw [keys_long]; decide
section
variable {t tail : Str} (h1 : t.length ≤ 5) (h2 : tail.length ≤ 2)
include h1 h2
theorem name_pre : (((((True ∧ True ∧ ("257 \"" : Str).length + t.length ≤ 1000) ∧ True ∧ (("257 \"" : Str) ++ t).length + ("\"" : Str).length ≤ 1000) ∧ True ∧ (("257 \"" : Str) ++ t ++ ("\"" : Str)).length + tail.length ≤ 1000) ∧ True) ∧
    fParse.pre [.str (("257 \"" : Str) ++ t ++ ("\"" : Str) ++ tail)]) := by
  have h0 : ("257 \"" : Str).length = 5 := rfl
  have h3 : ("\"" : Str).length = 1 := rfl
  refine ⟨⟨⟨⟨⟨trivial, trivial, ?_⟩, trivial, ?_⟩, trivial, ?_⟩, trivial⟩, ?_, ?_⟩
  · rw [h0]; omega
  · rw [str_len_append, h0, h3]; omega
  · rw [str_len_append, str_len_append, h0, h3]; omega
  · have e5 : ("257 \"" : Str) = ⟨#[50, 53, 55, 32, 34]⟩ := by decide
    rw [e5]
    show (((#[50, 53, 55, 32, 34] ++ t.cps) ++ ("\"" : Str).cps) ++ tail.cps).toList.take 5 = _
    simp
  · rw [str_len_append, str_len_append, str_len_append, h0, h3]; omega
theorem text_room : t.length + tail.length ≤ 900 := by omega
theorem name_room : (nameOf t tail).length ≤ 1000 := by have := nameOf_len t tail; omega
end
theorem len_room {c : Nat} {u : List Bool} (h : u.length ≤ 5) : (strW c u).length < 1000000 := by rw [strW_len]; omega
theorem lenl_room {l : List Int} (h : l.length ≤ 63) : l.length < 1000000 ∧ l.length ≤ 1000000 := by omega
theorem prices_room (l : List Int) : (pricesL l).length ≤ 1000000 := by rw [prices_at]; simp
theorem size_ok3 (z : Int) : ∃ n : Nat, 3 + z.fmod 3 = (n : Int) ∧ N3 n := size_ok z
theorem letter_c (z : Int) : ∃ c : Nat, (35 + z.fmod 50000).toNat = c ∧ c ≠ 34 ∧ c ≠ 10 := by
  have := letter_ok z
  exact ⟨_, rfl, by omega, by omega⟩
theorem letter_p (z : Int) : 0 ≤ (35 + z.fmod 50000) ∧ (35 + z.fmod 50000) ≤ 1114111 := by
  have := letter_ok z
  omega
theorem tail_p (z : Int) : 0 ≤ z.fmod 3 ∧ z.fmod 3 < 3 := ⟨Int.fmod_nonneg_of_pos z (by decide), Int.fmod_lt_of_pos z (by decide)⟩
theorem rooms {A : Around} (hd : A.depth + 5 < recursionLimit) (hu : A.units + 10 < cLine) : A.depth < recursionLimit ∧ A.depth + 1 + 3 < recursionLimit ∧ A.depth + 1 + 1 < recursionLimit ∧ A.depth + 1 + 0 < recursionLimit ∧ A.units + 3 < cLine ∧ A.units + 3 + 1 < cLine := by omega
end Mine

/-! LawA27 -/
namespace Mine
open PySem PySem.W PyProof.Rows PySem.Calls PyProof.V

theorem law_call (w : World) (ok : Addr → Prop) (s : Shared) (A : Around) (E Q : Value → Shared → Prop) (l : List Int) (v : Value) (G : Gd w s.heap) (hh : A.handled = none) (hd : A.depth + 5 < recursionLimit) (hu : A.units + 10 < cLine)
    (fresh : ∀ a, s.heap.get? a = none → ok a) (iv : Is w ok s.heap (.ints l) v) (hl : l.length ≤ 63) (k : ∀ h' tk, Sub s.heap h' → Q (.bool true) { s with heap := h', toks := tk }) : wpAny (model PR w) A (PySem.call (.ref 118) [v]) Q E s := by
  have hX := seen w
  revert hX; k_fill; intro _
  have I : IsAll w ok s.heap [.ints l] [v] := .cons iv .nil
  obtain ⟨rd0, rd3, rd1, rd00, ru3, ru4⟩ := rooms hd hu
  refine' enter (names := ["script"]) G rd0 fresh I ?k6 ?k7 ?k9 ?kl ?kn ?knc ?kk ?kd ?c2 ?c3 ?c4 ?_
  case k6 => k_is
  case k7 => k_is
  case k9 => exact rfl
  case kl => rfl
  case kn => decide
  case knc => decide
  case kk => decide
  case kd => decide
  case c2 => rfl
  case c3 => rfl
  case c4 => rfl
  intro L h₁ tk m F
  have hd' : ∀ env, (A.deeper env).depth + 3 < recursionLimit := fun env => rd3
  -- size
  refine asgC (n := 4) (lv := 3) (fs := [("len", fLen)]) F (.cons (by rfl) (by decide) (.boot (by k_is) (by boot_by_name) (by decide)) (len_ok w) (by decide) .nil) (A_deep hh) (hd' _) (by rfl) (by decide) (by rfl) (by repeat (first | exact List.Mem.head _ | refine List.Mem.tail _ ?_)) (he := by rfl) (hP := ?p1) (by rfl) ?_
  case p1 => exact ⟨trivial, ⟨⟨⟨trivial, trivial⟩, (lenl_room hl).1⟩, trivial, (by decide : (3 : Int) ≠ 0)⟩, trivial⟩
  intro h2 tk2 F
  obtain ⟨n, hn, hn3⟩ := size_ok3 (l.length : Int)
  rw [hn] at F
  -- total
  refine asgL (n := 3) (lv := 3) (fs := [("sum", fSum)]) F (.cons (by rfl) (by decide) (.boot (by k_is) (by boot_by_name) (by decide)) (sum_ok w) (by decide) .nil) (A_deep hh) (hd' _) (by rfl) (by decide) (he := by rfl) (hP := by exact ⟨⟨trivial, trivial⟩, trivial⟩) (by rfl) ?_
  intro h3 tk3 m3 F
  -- letter
  refine asgL (n := 4) (lv := 3) (fs := [("chr", fChr)]) F (.cons (by rfl) (by decide) (.boot (by k_is) (by boot_by_name) (by decide)) (chr_ok w) (by decide) .nil) (A_deep hh) (hd' _) (by rfl) (by decide) (he := by rfl) (hP := ?p3) (by rfl) ?_
  case p3 => exact ⟨⟨⟨trivial, ⟨trivial, trivial, (by decide : (50000 : Int) ≠ 0)⟩, trivial⟩, trivial⟩, letter_p l.sum⟩
  intro h4 tk4 m4 F
  obtain ⟨c, hc, hc34, hc10⟩ := letter_c l.sum
  rw [hc] at F
  -- tail
  refine asgL (n := 4) (lv := 3) (fs := []) F .nil (A_deep hh) (hd' _) (by rfl) (by decide) (he := by rfl) (hP := ?p4) (by rfl) ?_
  case p4 =>
    exact ⟨⟨⟨trivial, trivial, trivial, trivial⟩, by decide⟩, ⟨trivial, trivial, (by decide : (3 : Int) ≠ 0)⟩, (tail_p l.sum).1, (tail_p l.sum).2, by decide⟩
  intro h5 tk5 m5 F
  obtain ⟨ht1, ht2, ht3⟩ := tail_ok l.sum
  -- prices, stays, returns
  refine asgL (n := 3) (lv := 3) (fs := [("_law_prices", fPrices)]) F (.cons (by rfl) (by decide) (.own (by k_is)) (prices_ok w) (by decide) .nil) (A_deep hh) (hd' _) (by rfl) (by decide) (he := by rfl) (hP := ?p5) (by rfl) ?_
  case p5 => exact ⟨⟨trivial, trivial⟩, (lenl_room hl).2⟩
  intro h6 tk6 m6 F
  refine asgL (n := 3) (lv := 3) (fs := []) F .nil (A_deep hh) (hd' _) (by rfl) (by decide) (he := by rfl) (hP := ?p6) (by rfl) ?_
  case p6 => exact ⟨trivial, trivial, trivial, trivial, by decide, prices_room l⟩
  intro h7 tk7 m7 F
  refine asgL (n := 3) (lv := 3) (fs := []) F .nil (A_deep hh) (hd' _) (by rfl) (by decide) (he := by rfl) (hP := ?p7) (by rfl) ?_
  case p7 => exact ⟨trivial, trivial, trivial, trivial, by decide, prices_room l⟩
  intro h8 tk8 m8 F
  replace F := F.less (ρ' := [("size", .int n), ("letter", .str ⟨#[c]⟩), ("tail", .str (tailOf l.sum)), ("stays", .ints (stayL l)), ("returns", .ints (retL l))]) (sub_cons (by rfl) (sub_cons (by rfl) (sub_cons (by rfl) (sub_cons (by rfl) (sub_cons (by rfl) sub_nil)))))
  have hs1 := stay_len l
  have hs2 := ret_len l
  have hs3 := stay_small l
  have hs4 := ret_small l
  generalize stayL l = st at F hs1 hs3
  generalize retL l = rt at F hs2 hs4
  generalize tailOf l.sum = tail at F ht1 ht2 ht3
  -- names
  refine wpAny_execs_cons (wpAny_Assign_Name (List_ (args_nil ?_)) (by rfl))
  refine wpAny_newObj_type ?_ (by show (([] : List Value).toArray).size ≤ sizeLine; rw [sizeLine_eq]; decide)
  have hDL : h8.objs.size ≠ L := fun q => by obtain ⟨o, e⟩ := F.mex L (List.mem_cons_self); rw [← q, none_size] at e; cases e
  have hCD : ∀ x c, (envOfC _ _ L 118 _ : Env).cells.lookup x = some c → c ≠ h8.objs.size := fun x c e q => by obtain ⟨v, o, ho, _⟩ := F.cells x c e; rw [q, none_size] at ho; cases ho
  have hfree : ∀ b, h8.get? b = none → s.heap.get? b = none := fun b e => sub_none F.keep e
  have hLmu := F.Lmu
  have hnok := F.nok
  have hokD := F.fresh _ (none_size h8)
  replace F := F.alloc { cls := .type "list", data := .seq ([] : List Value).toArray } rfl
  refine wpAny_storeName_local (by rfl) F.ns (fun h9 hn9 hs9 => ?_) (by rfl)
  replace F := F.setL (V := .raw h8.objs.size) (by rfl) (by decide) rfl hn9 hs9
  have hPL : h9.PlainList h8.objs.size ([] : List Value).toArray := ⟨_, (hs9.2 _ hDL).trans (Heap.get?_push_size _ rfl)⟩
  clear hn9 hs9
  generalize h8.objs.size = Dn at *
  dsimp only
  have hDin : ∀ {M : List Addr}, Dn ∈ Dn :: M := List.mem_cons_self
  refine forE (n := 2) (lv := 3) (fs := [("_law_texts", fTexts)]) (fun _ => [("names", .raw Dn), ("size", .int n), ("letter", .str ⟨#[c]⟩), ("tail", .str tail), ("stays", .ints st), ("returns", .ints rt)])
    (fun i h => ∃ ys : List Value, h.PlainList Dn ys.toArray ∧ StrsAre ys (namesL tail ((textsL ⟨#[c]⟩ n).take i))) F (.cons (by rfl) (by decide) (.own (by k_is)) (texts_ok w) (by decide) .nil) (A_deep hh) (hd' _) (by rfl) (by decide) (he := by rfl) (hP := ?f1) (hi := by rfl) (hP' := trivial) (hs := fun _ => by rfl)
    ?f2 ?f3 ?f4 ?f5 ?f6
  case f1 => exact ⟨⟨trivial, trivial, trivial⟩, rfl, hn3.int⟩
  case f2 => exact sub_cons (by rfl) (sub_cons (by rfl) (sub_cons (by rfl) (sub_cons (by rfl) (sub_cons (by rfl) (sub_cons (by rfl) sub_nil)))))
  case f3 => exact fun h' kk => ⟨[], hPL.at fun o e => kk _ o e, .nil⟩
  case f4 =>
    rintro i h h' ⟨ys, hP, hS⟩ q
    obtain ⟨nn, e⟩ := hPL
    exact ⟨ys, hP.at fun o e' => q Dn o hDL ⟨_, e⟩ e', hS⟩
  case f5 =>
    rintro i V hV ok' p' s' m' E' hok hpp ⟨h10, tk10, rfl⟩ ⟨ys, hP, hS⟩ F
    obtain ⟨t, ht, rfl⟩ : ∃ t, (textsL ⟨#[c]⟩ n)[i]? = some t ∧ V = .str t := by
      have hV' : ((textsL ⟨#[c]⟩ n).map AV.str)[i]? = some V := hV
      rw [List.getElem?_map] at hV'
      obtain ⟨q, hq, e⟩ := Option.map_eq_some_iff.mp hV'
      exact ⟨q, hq, e.symm⟩
    obtain ⟨htl, ht10⟩ := text_mem (List.mem_of_getElem? ht) hc10
    have hstep : (textsL ⟨#[c]⟩ n).take (i + 1) = (textsL ⟨#[c]⟩ n).take i ++ [t] := by rw [List.take_add_one, ht]; rfl
    have htl5 : t.length ≤ 5 := htl ▸ hn3.le
    rw [hstep, namesL_snoc]
    -- name
    refine asgLk (n := 5) (lv := 3) (fs := [("parse257", fParse)]) F (.cons (by rfl) (by decide) (.own (by k_is)) (parse_ok w) (by decide) .nil) (A_deep hh) (hd' _) (by rfl) (by decide) (he := by rfl) (hP := ?q1) (by rfl) ?_
    case q1 => exact name_pre htl5 ht3
    intro h11 tk11 m11 k11 F
    have hpe : parseX ((("257 \"" : Str) ++ t) ++ ("\"" : Str) ++ tail) = nameOf t tail := parse_eq
    rw [hpe] at F
    -- if name != told
    refine wpAny_execs_cons (wpAny_If (wpAny_isTrue_Compare1 (F.nm (by rfl) fun v1 iv1 => ?_) (by rfl)))
    obtain ⟨t1, rfl⟩ := iv1
    refine toldE (t := t) (y := tail) F rd1 (by rfl) (by rfl) (by rfl) (text_room htl5 ht3) fun t2 h12 tk12 htk12 k12 => ?_
    replace F := F.grow k12
    rw [told_eq ht10 ht2]
    refine wpAny_with_toks (n := 1) htk12 ?_
    refine cmp_sound (ok := ok') (a := .str (nameOf t tail)) (b := .str (nameOf t tail)) rfl ⟨t1, rfl⟩ ⟨t2, rfl⟩ fun z h13 tk13 k13 iz htk13 => ?_
    replace F := F.grow k13
    obtain rfl : z = .bool (nameOf t tail != nameOf t tail) := iz
    rw [bne_self_eq_false]
    refine wpAny_truthy_bool ?_
    simp only [Bool.false_eq_true, if_false]
    refine wpAny_execs_nil ?_
    -- if name.replace == text
    refine wpAny_execs_cons (wpAny_If (wpAny_isTrue_Compare1 (replE (by rfl) (by rfl) (by decide) (by decide) (by rfl) (Fm.nm (s := { s with heap := h13, toks := tk13 }) F (by rfl) fun v3 iv3 => ?_)) (by rfl)))
    obtain ⟨t3, rfl⟩ := iv3
    refine ⟨nameOf t tail, t3, rfl, name_room htl5 ht3, htk13, fun t4 tk14 htk14 => ?_⟩
    refine Fm.nm (s := { s with heap := h13, toks := tk14 }) F (by rfl) fun v5 iv5 => ?_
    obtain ⟨t5, rfl⟩ := iv5
    refine cmp_sound (ok := ok') (a := .str _) (b := .str t) rfl ⟨t4, rfl⟩ ⟨t5, rfl⟩ fun z h15 tk15 k15 iz => ?_
    replace F := F.grow k15
    obtain rfl : z = .bool (isName tail t) := iz
    refine wpAny_truthy_bool ?_
    have hP' : h15.PlainList Dn ys.toArray := hP.at fun o e => k15 _ o (k13 _ o (k12 _ o (k11 _ o hDL e)))
    cases hb : isName tail t with
    | false =>
      simp only [Bool.false_eq_true, if_false, List.append_nil]
      refine wpAny_execs_nil (wpAny_execs_nil ⟨rfl, h15, tk15, _, rfl, ⟨ys, hP', hS⟩, F.less (sub_cons (by rfl) (sub_cons (by rfl) (sub_cons (by rfl) (sub_cons (by rfl) (sub_cons (by rfl) (sub_cons (by rfl) sub_nil))))))⟩)
    | true =>
      simp only [if_true]
      refine wpAny_execs_cons (wpAny_Expr (wpAny_Call_method1_late (by rfl) (by rfl) (by rfl) (Fm.nm (s := { s with heap := h15, toks := tk15 }) F (by rfl) fun v6 iv6 => ?_)))
      obtain rfl : v6 = .ref Dn := iv6
      obtain ⟨nn, ho⟩ := id hP'
      refine ⟨"list", "list.append", PySem.F.plainAttrs_list, PySem.F.slot_list_append, PySem.F.type_list_append, hP'.isList.typeIs, fun a e => (by cases e; exact ⟨_, ho, rfl⟩), ?_⟩
      refine callWith_builtin rfl (evalArgs_plain (spliced_cons (Fm.nm (s := { s with heap := h15, toks := tk15 }) F (by rfl) fun v7 iv7 => (spliced_nil ?_))))
      obtain ⟨t7, rfl⟩ := iv7
      refine wpAny_list_append_plain (s := { s with heap := h15, toks := tk15 }) hP' (fun h16 hP16 hs16 => ?_) (hn3.room hS)
      refine wpAny_execs_nil (wpAny_execs_nil ⟨rfl, h16, tk15, _, rfl, ⟨ys ++ [.str (nameOf t tail) t7], by simpa using hP16, strs_snoc _ _ hS⟩, (F.less (sub_cons (by rfl) (sub_cons (by rfl) (sub_cons (by rfl) (sub_cons (by rfl) (sub_cons (by rfl) (sub_cons (by rfl) sub_nil))))))).chg (F.pmu _ hDin) (F.nok _ hDin) (Ne.symm hDL) hCD (fun b o hb e => (hs16.2 b hb).trans e) (let ⟨_, e⟩ := hP16; ⟨_, e⟩)⟩)
  case f6 =>
    intro h10 tk10 m10 hJ F
    obtain ⟨ys, hP, hS⟩ := hJ
    have hall : (textsL ⟨#[c]⟩ n).take ((textsL ⟨#[c]⟩ n).map AV.str).length = textsL ⟨#[c]⟩ n := by rw [List.length_map, List.take_length]
    have hkw := hn3.keep
    replace hS : StrsAre ys (namesL tail ((textsL ⟨#[c]⟩ n).take ((textsL ⟨#[c]⟩ n).map AV.str).length)) := hS
    rw [hall, texts_B, names_B hc34 ht1, hkw] at hS
    replace F := (F.thaw hokD hLmu hnok).retell (x := "names") (U := .strs ((words n).map (strW c))) (by rfl) fun v iv => (by obtain rfl : v = .ref Dn := iv; exact ⟨Dn, ys, rfl, hokD, hP.isList, hS⟩)
    replace F := F.less (ρ' := [("names", .strs ((words n).map (strW c))), ("size", .int n), ("letter", .str ⟨#[c]⟩), ("stays", .ints st), ("returns", .ints rt)]) (sub_cons (by rfl) (sub_cons (by rfl) (sub_cons (by rfl) (sub_cons (by rfl) (sub_cons (by rfl) sub_nil)))))
    have H := hn3.size
    clear hS hP hall hkw
    -- runs
    refine asgL (n := 5) (lv := 3) (fs := [("_law_longer", fLong)]) F (.cons (by rfl) (by decide) (.own (by k_is)) (long_ok w) (by decide) .nil) (A_deep hh) (hd' _) (by rfl) (by decide) (he := by rfl) (hP := ?r1) (by rfl) ?_
    case r1 => exact ⟨⟨⟨⟨⟨trivial, trivial⟩, trivial, trivial, trivial⟩, long01 hs3 hs4 hs1 hs2⟩, trivial, trivial, trivial⟩, long02 hs3 hs4 hs1 hs2⟩
    intro h11 tk11 m11 F
    -- deep
    refine asgL (n := 5) (lv := 3) (fs := [("_law_longer", fLong)]) F (.cons (by rfl) (by decide) (.own (by k_is)) (long_ok w) (by decide) .nil) (A_deep hh) (hd' _) (by rfl) (by decide) (he := by rfl) (hP := ?r2) (by rfl) ?_
    case r2 => exact ⟨⟨⟨⟨⟨trivial, trivial⟩, trivial, trivial, trivial⟩, hn3.long1 hs3 hs4 hs1 hs2⟩, trivial, trivial, trivial⟩, hn3.long2 hs3 hs4 hs1 hs2⟩
    intro h12 tk12 m12 F
    -- due
    refine asgC (n := 3) (lv := 3) (fs := [("_law_two_steps", fTwo)]) F (.cons (by rfl) (by decide) (.own (by k_is)) (two_ok w) (by decide) .nil) (A_deep hh) (hd' _) (by rfl) (by decide) (by rfl) (by repeat (first | exact List.Mem.head _ | refine List.Mem.tail _ ?_)) (he := by rfl) (hP := ?r3) (by rfl) ?_
    case r3 => exact ⟨⟨trivial, trivial, trivial, trivial⟩, hn3.two hs3 hs4 hs1 hs2⟩
    intro h13 tk13 F
    replace F := F.less (ρ' := [("due", .tab (twoT n st rt)), ("deep", .tab (runsT n st rt)), ("runs", .tab (runsT 0 st rt)), ("names", .strs ((words n).map (strW c))), ("size", .int n), ("letter", .str ⟨#[c]⟩), ("stays", .ints st), ("returns", .ints rt)]) (sub_cons (by rfl) (sub_cons (by rfl) (sub_cons (by rfl) (sub_cons (by rfl) (sub_cons (by rfl) (sub_cons (by rfl) (sub_cons (by rfl) (sub_cons (by rfl) sub_nil))))))))
    -- if runs != two_steps(0)
    refine wpAny_execs_cons (wpAny_If (wpAny_isTrue_Compare1 (Fm.nm (s := { s with heap := h13, toks := tk13 }) F (by rfl) fun v1 iv1 => ?_) (by rfl)))
    refine ev_sound (lv := 3) (fs := [("_law_two_steps", fTwo)]) (A_deep hh) (hd' _) 3 _ (.tab (twoT 0 st rt)) _ _ _ _ (by rfl) ?r4 (F.envOk (.cons (by rfl) (by decide) (.own (by k_is)) (two_ok w) (by decide) .nil)) fun v2 h14 tk14 k14 iv2 => ?_
    case r4 => exact ⟨⟨trivial, trivial, trivial, trivial⟩, two_pre0 hs3 hs4 hs1 hs2⟩
    refine ne_tabs (s := { s with heap := h14, toks := tk14 }) (iv1.sub k14) iv2 ru3 (runs_eq st rt) (wpAny_truthy_bool ?_)
    simp only [Bool.false_eq_true, if_false]
    refine wpAny_execs_nil ?_
    replace F := F.grow k14
    -- if deep != {..}
    refine wpAny_execs_cons (wpAny_If (wpAny_isTrue_Compare1 (Fm.nm (s := { s with heap := h14, toks := tk14 }) F (by rfl) fun v3 iv3 => ?_) (by rfl)))
    have hkl := hn3.dueKeys st rt
    have hnd : (keys (twoT n st rt)).Nodup := by rw [keys_two]; exact rng_nodup _ _
    refine dcompE (s := { s with heap := h14, toks := tk14 }) (n := 1) (lv := 3) (fs := []) (fc := []) (is := keys (twoT n st rt)) (pz := fun i => decide ((n : Int) - 3 < i)) (kf := fun i => i) (vf := fun i => tg (twoT n st rt) i) (ρc := [("due", .tab (twoT n st rt)), ("size", .int n)]) F FEnv.nil (A_deep hh) (hd' _)
      (he := by rfl) (hP := trivial) (hi := items_tab _) (hP' := trivial) (fun _ => by rfl) (by rfl) (by decide) (by rfl) (by decide) (by rfl) (by decide) (.cons (by rfl) (by rfl) (by rfl) (by rfl) (.cons (by rfl) (by rfl) (by rfl) (by rfl) .nil)) (fun _ => FEnv.nil)
      (.inr ⟨_, _, _, _, 2, rfl, fun i hi => ⟨_, rfl, trivial, trivial, trivial, trivial⟩⟩) ?d1 ?d2 ?d3 hkl ?d4
    case d1 => intro i hi _; exact ⟨1, _, rfl, trivial⟩
    case d2 => intro i hi _; exact ⟨3, _, rfl, trivial, trivial, tget_keys hi⟩
    case d3 => rw [List.map_id']; exact hnd.filter _
    intro v4 h15 tk15 k15 iv4
    refine ne_tabs (s := { s with heap := h15, toks := tk15 }) (iv3.sub k15) iv4 ru3 (H.deep_eq st rt) (wpAny_truthy_bool ?_)
    simp only [Bool.false_eq_true, if_false]
    refine wpAny_execs_nil ?_
    replace F := F.grow k15
    -- found
    refine asgL (s := { s with heap := h15, toks := tk15 }) (n := 2) (lv := 3) (fs := []) F .nil (A_deep hh) (hd' _) (by rfl) (by decide) (he := by rfl) (hP := by exact ⟨trivial, trivial, trivial, trivial, trivial, trivial⟩) (by rfl) ?_
    intro h16 tk16 m16 F
    refine forE (s := { s with heap := h16, toks := tk16 }) (n := 1) (lv := 3) (fs := []) (fun i => [("found", av5 (foundI st rt (runsT 0 st rt) n ((words n).take i))), ("due", .tab (twoT n st rt)), ("runs", .tab (runsT 0 st rt)), ("size", .int n), ("letter", .str ⟨#[c]⟩), ("stays", .ints st), ("returns", .ints rt)])
      (fun _ _ => True) F .nil (A_deep hh) (hd' _) (by rfl) (by decide) (he := by rfl) (hP := trivial) (hi := by rfl) (hP' := trivial) (hs := fun _ => by rfl) ?g1 (fun _ _ => trivial) (fun _ _ _ _ _ => trivial) ?g2 ?g3
    case g1 => exact sub_cons (by rfl) (sub_cons (by rfl) (sub_cons (by rfl) (sub_cons (by rfl) (sub_cons (by rfl) (sub_cons (by rfl) (sub_cons (by rfl) sub_nil))))))
    case g2 =>
      rintro i V hV ok' p' s' m' E' hok hpp ⟨h17, tk17, rfl⟩ - F
      obtain ⟨u, hu, rfl⟩ : ∃ u, (words n)[i]? = some u ∧ V = .str (strW c u) := by
        have hV' : (((words n).map (strW c)).map AV.str)[i]? = some V := hV
        rw [List.getElem?_map, List.getElem?_map] at hV'
        obtain ⟨q, hq, e⟩ := Option.map_eq_some_iff.mp hV'
        obtain ⟨q', hq', rfl⟩ := Option.map_eq_some_iff.mp hq
        exact ⟨q', hq', e.symm⟩
      have hum := List.mem_of_getElem? hu
      have hil : i < (words n).length := (List.getElem?_eq_some_iff.mp hu).1
      obtain ⟨c1, c2, c3⟩ := chk_of hn3.chk (st := st) (rt := rt) hum
      have c4 := found_len hn3.chkF (st := st) (rt := rt) (i := i) (hn3.few hil)
      have hstep : foundI st rt (runsT 0 st rt) n ((words n).take (i + 1)) = fStep st rt (runsT 0 st rt) n (foundI st rt (runsT 0 st rt) n ((words n).take i)) u := by
        have : (words n).take (i + 1) = (words n).take i ++ [u] := by rw [List.take_add_one, hu]; rfl
        rw [this]; simp [foundI, List.foldl_append]
      rw [hstep]
      generalize foundI st rt (runsT 0 st rt) n ((words n).take i) = FF at F c4
      obtain ⟨g1, g2, g3, g4, Df⟩ := FF
      -- table
      refine asgL (s := { s with heap := h17, toks := tk17 }) (n := 2) (lv := 3) (fs := [("_law_along", fAlong)]) F (.cons (by rfl) (by decide) (.own (by k_is)) (along_ok w) (by decide) .nil) (A_deep hh) (hd' _) (by rfl) (by decide) (he := by rfl) (hP := ?t1) (by rfl) ?_
      case t1 => exact ⟨⟨trivial, trivial, trivial, trivial, trivial, trivial⟩, hs3, hs4, along_pre hc34 hs3 hs4 hs1 hs2 c1⟩
      intro h18 tk18 m18 F
      have hal : (alongI ⟨#[c]⟩ st rt (runsT 0 st rt) (strW c u).cps.toList).1 = (alW st rt u (runsT 0 st rt, 0)).1 := by rw [strW_list, alongI_B hc34]
      rw [hal] at F
      -- found
      refine asgL (s := { s with heap := h18, toks := tk18 }) (n := 6) (lv := 3) (fs := [("add_func_stats", fStats), ("len", fLen), ("count_calls", fCount)]) F (.cons (by rfl) (by decide) (.own (by k_is)) (stats_ok w) (by decide) (.cons (by rfl) (by decide) (.boot (by k_is) (by boot_by_name) (by decide)) (len_ok w) (by decide) (.cons (by rfl) (by decide) (.own (by k_is)) (count_ok w) (by decide) .nil))) (A_deep hh) (hd' _) (by rfl) (by decide) (he := by rfl) (hP := ?t2) (by rfl) ?_
      case t2 =>
        have hlen := len_room (c := c) c3
        exact ⟨⟨trivial, ⟨trivial, ⟨⟨trivial, ⟨⟨trivial, trivial⟩, hlen⟩, .inl (by decide)⟩, trivial, trivial⟩, ⟨trivial, ⟨⟨trivial, trivial⟩, hlen⟩, trivial⟩, ⟨⟨trivial, trivial⟩, trivial⟩, trivial, trivial⟩, trivial⟩, c4, c2⟩
      intro h19 tk19 m19 F
      refine wpAny_execs_nil ⟨rfl, _, _, _, rfl, trivial, F.less (sub_cons ?t3 (sub_cons (by rfl) (sub_cons (by rfl) (sub_cons (by rfl) (sub_cons (by rfl) (sub_cons (by rfl) (sub_cons (by rfl) sub_nil)))))))⟩
      case t3 =>
        rw [strW_len c u]
        rfl
    case g3 =>
      intro h17 tk17 m17 _ F
      obtain ⟨Df, hf, hte⟩ := H.found_eq st rt
      have hall2 : (words n).take (((words n).map (strW c)).map AV.str).length = words n := by rw [List.length_map, List.length_map, List.take_length]
      replace F := F.less (ρ' := [("found", .t5 (cntI n).2.1 (cntI n).2.2.1 (cntI n).2.2.2 ((keys (twoT n st rt)).map (tg (twoT n st rt))).sum Df), ("due", .tab (twoT n st rt)), ("size", .int n)]) (sub_cons ?u1 (sub_cons (by rfl) (sub_cons (by rfl) sub_nil)))
      case u1 =>
        show some (av5 (foundI st rt (runsT 0 st rt) n ((words n).take (((words n).map (strW c)).map AV.str).length))) = _
        rw [hall2, hf]; rfl
      refine wpAny_execs_cons (wpAny_Return_some (wpAny_Compare1 (Fm.nm (s := { s with heap := h17, toks := tk17 }) F (by rfl) fun v5 iv5 => ?_) (by rfl)))
      refine wpAny_BinOp (ev_sound (s := { s with heap := h17, toks := tk17 }) (lv := 3) (fs := [("_law_counts", fCounts)]) (A_deep hh) (hd' _) 2 _ (av3 (cntI n).2) _ _ _ (by rfl) ?u2 (F.envOk (.cons (by rfl) (by decide) (.own (by k_is)) (counts_ok w) (by decide) .nil)) fun v6 h18 tk18 k18 iv6 => ?_)
      case u2 => exact ⟨⟨trivial, trivial⟩, hn3.cnt⟩
      replace iv5 := iv5.sub k18
      replace F := F.grow k18
      have GG := F.gd.keeps F.keep
      refine Tuple_ (args_cons (Call_ (rd_gl (env := envOfC _ _ _ _ _) GG (by rfl) (by rfl) (by rfl) (v := .builtin "sum") (by rfl) (by decide) (.boot (by k_is) (by boot_by_name) (by decide)) _ _ _ { s with heap := h18, toks := tk18 } _ Sub.rfl ?_) (by rfl)) (by rfl))
      refine callWith_builtin1 (args_cons ?_ (by rfl)) (by rfl) (by rfl)
      refine lcompE (s := { s with heap := h18, toks := tk18 }) (n := 1) (lv := 3) (fs := []) (fc := []) (is := keys (twoT n st rt)) (pz := fun _ => true) (vf := fun i => tg (twoT n st rt) i) (ρc := [("due", .tab (twoT n st rt))]) F FEnv.nil (A_deep hh) (hd' _)
        (he := by rfl) (hP := trivial) (hi := items_tab _) (hP' := trivial) (fun _ => by rfl) (by rfl) (by decide) (by rfl) (by decide) (by rfl) (by decide) (.cons (by rfl) (by rfl) (by rfl) (by rfl) .nil) (fun _ => FEnv.nil)
        (.inl ⟨rfl, fun _ _ => rfl⟩) ?e1 hkl ?e2
      case e1 => intro i hi _; exact ⟨3, _, rfl, trivial, trivial, tget_keys hi⟩
      intro v7 h19 tk19 k19 iv7
      rw [List.filter_eq_self.mpr (fun _ _ => rfl)] at iv7
      refine args_nil ?_
      replace F := F.grow k19
      refine (sum_ok w).call _ { s with heap := h19, toks := tk19 } _ _ _ [_] [v7] _ (F.gd.keeps F.keep) (A_deep hh) rd00 F.fresh (.cons iv7 .nil) rfl trivial ?_
      intro v8 h20 tk20 k20 iv8
      obtain ⟨t8, rfl⟩ := iv8
      replace F := F.grow k20
      refine args_cons (Fm.nm (s := { s with heap := h20, toks := tk20 }) F (by rfl) fun v9 iv9 => ?_) (by rfl)
      refine args_nil ?_
      refine wpAny_newObj_type ?_ (by show 2 ≤ sizeLine; rw [sizeLine_eq]; decide)
      have kk := k19.trans (k20.trans (Sub.push h20 { cls := .type "tuple", data := .seq ([Value.int ((keys (twoT n st rt)).map (tg (twoT n st rt))).sum t8, v9] : List Value).toArray }))
      refine add_t5 (s := { s with heap := h20.push { cls := .type "tuple", data := .seq ([Value.int ((keys (twoT n st rt)).map (tg (twoT n st rt))).sum t8, v9] : List Value).toArray }, toks := tk20 }) (iv6.sub kk) (iv9.sub (Sub.push _ _)) ⟨_, Heap.get?_push_size _ rfl, rfl, _, rfl⟩ (F.grow (Sub.push _ _)).fresh fun v10 h21 tk21 k21 iv10 => ?_
      refine eq_t5 (s := { s with heap := h21, toks := tk21 }) ((iv5.sub kk).sub k21) iv10 ru4 hte ?_
      exact k h21 tk21 ((F.grow (Sub.push _ _)).grow k21).keep
end Mine

/-! End27 -/
namespace Mine
open PySem PySem.W PyProof.Rows PySem.Calls PyProof.V
theorem law_end : PySem.Challenge.rw_ph0027_01.Holds := by
  refine Mine.hd ?_
  k_fill
  intro w s₀ s₁ mg mb G Y fa o pm cd doc dV kV ho hd hcd hD hmg hg args vals as hpre hlay hrd hwl hlo
  have KX := kIn_of Y
  refine Ground.open G ?_
  intro T B D TE TW
  wrow_args hpre hlay hrd hwl hlo
  rename_i ns _ _ _ _ _ _ _ l vs _ hL _ _ _ hI _ hlen _
  x_fa T KX hmg
  have hl : ns.length ≤ 63 := by omega
  refine law_call w (fun _ => True) s₁ callerA _ _ ns (.ref l) ⟨KX, _, _, _, T⟩ rfl (by decide) (by decide) (fun _ _ => trivial) ⟨l, vs, rfl, trivial, hL, hI⟩ hl ?_
  intro h' tk hs
  refine GoodW.toG ⟨.inl ⟨_, .bool true, [], rfl, fun cls => rfl, .bool true, ?_, fun _ => ⟨.nil, fun a ha => nomatch ha⟩⟩, hs, rfl, hg⟩
  first | rfl | wrow_post
end Mine

theorem PySem.Challenge.cw_ph0027_01_holds : PySem.Challenge.rw_ph0027_01.Holds := by
  exact Mine.law_end
